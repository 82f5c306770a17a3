import PyProof.Rows.All
import Wide.All
import OpenK.AllK
import Wide.FinOn
import PySem.Challenge.RW_pd0147_01
set_option Elab.async false
set_option maxRecDepth 100000
set_option maxHeartbeats 8000000
set_option compiler.extract_closed false
open PySem PySem.W PyProof.Rows PySem.Calls
namespace Mine
section
open PySem PySem.W PyProof.Rows
set_option Elab.async false
set_option maxRecDepth 100000
set_option maxHeartbeats 8000000
abbrev ent (P : Params) (x : Str) (t : Nat) (v : Value) : DictEntry := ⟨PyData.keyHash P x, .str x t, v⟩
abbrev fnObj {i : Nat} {nm : Str} {ps : Arguments} {body : List Stmt} {decos : List Expr} {ret : Option Expr} {tps : List TypeParam} {sc : Scope} {tsc : Option Scope} {bind : Str} {pos : Pos}
  (_h : Challenge.pw_pd0147_01.main.body[i]? = some (.FunctionDef nm ps body decos ret tps sc tsc bind pos)) (pm : Value) (cd : Addr) : Obj :=
  { cls := .type "function", data := .func (fnOf nm nm ps body sc .none .none .none pm none (.ref cd) .none) }
noncomputable def hd.heap_39 : Params → Frag := fun P => [
  (nat_lit 3, { cls := .type "dict", data := .dict #[ent P "__name__" 165 (Value.str (Str.ofString "law_pd0147_01") 390), ent P "__doc__" 166 (Value.none), ent P "__package__" 167 (Value.none), ent P "__loader__" 168 (Value.builtin "__main__.__loader__#opaque"), ent P "__spec__" 169 (Value.none), ent P "__annotations__" 170 (Value.ref 6), ent P "__builtins__" 171 (Value.ref 4), ent P "__file__" 173 (Value.str (Str.ofString "/claim/cut.py") 172), ent P "__cached__" 174 (Value.none), ent P "_wall" 193 (Value.ref 21), ent P "_plain_name" 204 (Value.ref 28), ent P "ABCMeta" 230 (Value.ref 45), ent P "_ABCLike" 273 (Value.ref 78), ent P "_abc_plain_meta" 280 (Value.ref 87), ent P "fspath" 292 (Value.ref 94), ent P "_check_arg_types" 305 (Value.ref 101), ent P "_get_sep" 314 (Value.ref 108), ent P "join" 325 (Value.ref 115), ent P "splitroot" 334 (Value.ref 122), ent P "normpath" 349 (Value.ref 129), ent P "commonpath" 355 (Value.ref 134), ent P "_iter_escaped_chars" 367 (Value.ref 141), ent P "_strip_quoted_realnames" 379 (Value.ref 148), ent P "_check_parenthesis" 389 (Value.ref 155), ent P "_law_taken" 397 (Value.ref 160), ent P "_law_still" 410 (Value.ref 167), ent P "law" 416 (Value.ref 172)] 27 }),
  (nat_lit 93, { cls := .type "code", data := .fields #[Value.str (Str.ofString "fspath") 283, Value.str (Str.ofString "fspath") 284, Value.str (Str.ofString "/claim/cut.py") 285, Value.int 35 0, Value.int 1 0, Value.int 0 0, Value.int 0 0, Value.int 3 0, Value.ref 88, Value.bool true, Value.int 181 0, Value.ref 89, Value.none, Value.ref 90, Value.ref 91, Value.ref 92, Value.int 290 0, Value.int 35 0, Value.str (Str.ofString "/claim/cut.py") 291] }),
  (nat_lit 94, fnObj (i := 9) rfl (.str (Str.ofString "os") 281) 93),
  (nat_lit 107, { cls := .type "code", data := .fields #[Value.str (Str.ofString "_get_sep") 308, Value.str (Str.ofString "_get_sep") 309, Value.str (Str.ofString "/claim/cut.py") 310, Value.int 64 0, Value.int 1 0, Value.int 0 0, Value.int 0 0, Value.int 3 0, Value.ref 102, Value.bool true, Value.int 181 0, Value.ref 103, Value.none, Value.ref 104, Value.ref 105, Value.ref 106, Value.int 312 0, Value.int 64 0, Value.str (Str.ofString "/claim/cut.py") 313] }),
  (nat_lit 108, fnObj (i := 13) rfl (.str (Str.ofString "cpy313.posixpath") 306) 107),
  (nat_lit 114, { cls := .type "code", data := .fields #[Value.str (Str.ofString "join") 315, Value.str (Str.ofString "join") 316, Value.str (Str.ofString "/claim/cut.py") 317, Value.int 69 0, Value.int 1 0, Value.int 0 0, Value.int 0 0, Value.int 7 0, Value.ref 109, Value.bool true, Value.int 181 0, Value.ref 110, Value.none, Value.ref 111, Value.ref 112, Value.ref 113, Value.int 323 0, Value.int 69 0, Value.str (Str.ofString "/claim/cut.py") 324] }),
  (nat_lit 115, fnObj (i := 14) rfl (.str (Str.ofString "cpy313.posixpath") 306) 114),
  (nat_lit 121, { cls := .type "code", data := .fields #[Value.str (Str.ofString "splitroot") 326, Value.str (Str.ofString "splitroot") 327, Value.str (Str.ofString "/claim/cut.py") 328, Value.int 86 0, Value.int 1 0, Value.int 0 0, Value.int 0 0, Value.int 3 0, Value.ref 116, Value.bool true, Value.int 181 0, Value.ref 117, Value.none, Value.ref 118, Value.ref 119, Value.ref 120, Value.int 332 0, Value.int 86 0, Value.str (Str.ofString "/claim/cut.py") 333] }),
  (nat_lit 122, fnObj (i := 15) rfl (.str (Str.ofString "cpy313.posixpath") 306) 121),
  (nat_lit 128, { cls := .type "code", data := .fields #[Value.str (Str.ofString "normpath") 335, Value.str (Str.ofString "normpath") 336, Value.str (Str.ofString "/claim/cut.py") 337, Value.int 100 0, Value.int 1 0, Value.int 0 0, Value.int 0 0, Value.int 3 0, Value.ref 123, Value.bool true, Value.int 181 0, Value.ref 124, Value.none, Value.ref 125, Value.ref 126, Value.ref 127, Value.int 347 0, Value.int 100 0, Value.str (Str.ofString "/claim/cut.py") 348] }),
  (nat_lit 129, fnObj (i := 16) rfl (.str (Str.ofString "cpy313.posixpath") 306) 128),
  (nat_lit 133, { cls := .type "code", data := .fields #[Value.str (Str.ofString "commonpath") 350, Value.str (Str.ofString "commonpath") 351, Value.str (Str.ofString "/claim/cut.py") 352, Value.int 125 0, Value.int 1 0, Value.int 0 0, Value.int 0 0, Value.int 3 0, Value.ref 130, Value.bool true, Value.int 181 0, Value.ref 131, Value.none, Value.none, Value.none, Value.ref 132, Value.int 353 0, Value.int 125 0, Value.str (Str.ofString "/claim/cut.py") 354] }),
  (nat_lit 134, fnObj (i := 17) rfl (.str (Str.ofString "cpy313.posixpath") 306) 133),
  (nat_lit 140, { cls := .type "code", data := .fields #[Value.str (Str.ofString "_iter_escaped_chars") 358, Value.str (Str.ofString "_iter_escaped_chars") 359, Value.str (Str.ofString "/claim/cut.py") 360, Value.int 155 0, Value.int 1 0, Value.int 0 0, Value.int 0 0, Value.int 35 0, Value.ref 135, Value.bool true, Value.int 181 0, Value.ref 136, Value.none, Value.ref 137, Value.ref 138, Value.ref 139, Value.int 365 0, Value.int 155 0, Value.str (Str.ofString "/claim/cut.py") 366] }),
  (nat_lit 141, fnObj (i := 19) rfl (.str (Str.ofString "cpy313.email.utils") 356) 140),
  (nat_lit 147, { cls := .type "code", data := .fields #[Value.str (Str.ofString "_strip_quoted_realnames") 368, Value.str (Str.ofString "_strip_quoted_realnames") 369, Value.str (Str.ofString "/claim/cut.py") 370, Value.int 168 0, Value.int 1 0, Value.int 0 0, Value.int 0 0, Value.int 3 0, Value.ref 142, Value.bool true, Value.int 181 0, Value.ref 143, Value.none, Value.ref 144, Value.ref 145, Value.ref 146, Value.int 377 0, Value.int 168 0, Value.str (Str.ofString "/claim/cut.py") 378] }),
  (nat_lit 148, fnObj (i := 20) rfl (.str (Str.ofString "cpy313.email.utils") 356) 147),
  (nat_lit 154, { cls := .type "code", data := .fields #[Value.str (Str.ofString "_check_parenthesis") 380, Value.str (Str.ofString "_check_parenthesis") 381, Value.str (Str.ofString "/claim/cut.py") 382, Value.int 186 0, Value.int 1 0, Value.int 0 0, Value.int 0 0, Value.int 3 0, Value.ref 149, Value.bool true, Value.int 181 0, Value.ref 150, Value.none, Value.ref 151, Value.ref 152, Value.ref 153, Value.int 387 0, Value.int 186 0, Value.str (Str.ofString "/claim/cut.py") 388] }),
  (nat_lit 155, fnObj (i := 21) rfl (.str (Str.ofString "cpy313.email.utils") 356) 154),
  (nat_lit 159, { cls := .type "code", data := .fields #[Value.str (Str.ofString "_law_taken") 392, Value.str (Str.ofString "_law_taken") 393, Value.str (Str.ofString "/claim/cut.py") 394, Value.int 198 0, Value.int 1 0, Value.int 0 0, Value.int 0 0, Value.int 3 0, Value.ref 156, Value.bool true, Value.int 181 0, Value.ref 157, Value.none, Value.none, Value.none, Value.ref 158, Value.int 395 0, Value.int 198 0, Value.str (Str.ofString "/claim/cut.py") 396] }),
  (nat_lit 160, fnObj (i := 23) rfl (.str (Str.ofString "law_pd0147_01") 390) 159),
  (nat_lit 166, { cls := .type "code", data := .fields #[Value.str (Str.ofString "_law_still") 398, Value.str (Str.ofString "_law_still") 399, Value.str (Str.ofString "/claim/cut.py") 400, Value.int 201 0, Value.int 5 0, Value.int 0 0, Value.int 0 0, Value.int 3 0, Value.ref 161, Value.bool true, Value.int 181 0, Value.ref 162, Value.none, Value.ref 163, Value.ref 164, Value.ref 165, Value.int 408 0, Value.int 201 0, Value.str (Str.ofString "/claim/cut.py") 409] }),
  (nat_lit 167, fnObj (i := 24) rfl (.str (Str.ofString "law_pd0147_01") 390) 166)]
theorem hd.ads : ∀ P, [3, 93, 94, 107, 108, 114, 115, 121, 122, 128, 129, 133, 134, 140, 141, 147, 148, 154, 155, 159, 160, 166, 167] = (hd.heap_39 P).map (·.1) := fun _ => by kernel_rfl
noncomputable def hd.view_39 : Program := { Challenge.pw_pd0147_01 with main := { Challenge.pw_pd0147_01.main with body := Challenge.pw_pd0147_01.main.body.drop 25 } }
abbrev hd.loose : List Str := ["__name__", "_wall", "_plain_name", "ABCMeta", "_ABCLike", "_abc_plain_meta", "fspath", "_check_arg_types", "_get_sep", "join", "splitroot", "normpath", "commonpath", "_iter_escaped_chars", "_strip_quoted_realnames", "_check_parenthesis", "_law_taken", "_law_still"]
theorem hd.said : (Challenge.rw_pd0147_01).wellSaid = true := by kernel_rfl
theorem hd.left : LeftO Challenge.rw_pd0147_01.row.toRowW.prog hd.view_39 hd.loose (fun s => xlAt hd.view_39 [] s && recOk (RowW.records Challenge.rw_pd0147_01.row.toRowW) s) (kHook hd.heap_39 _ hd.ads).obs (kHook hd.heap_39 _ hd.ads).val 2296 := by
  intro w
  kernel_rfl
theorem hd {d : DefRec} {kwd : List (Str × Expr)} (hdef : defOf hd.view_39 Challenge.rw_pd0147_01.row.name = some (d, kwd)) (hp : Challenge.rw_pd0147_01.row.prog.theDef Challenge.rw_pd0147_01.row.name = some (d.params, d.body, d.scope))
    (hk : kwWritten? d.params.kwonlyargs d.params.kw_defaults = some kwd)
    (walk : WalkO hd.view_39 hd.loose (XL hd.view_39 []) (kHook hd.heap_39 _ hd.ads).says Challenge.rw_pd0147_01.row.toRowW d kwd fun f vs => PySem.call f vs) : Challenge.rw_pd0147_01.Holds := by
  refine holds_law hd.said fun said => ?_
  refine holds_open (q := hd.view_39) (loose := hd.loose) (Xt := fun s => xlAt hd.view_39 [] s && recOk (RowW.records Challenge.rw_pd0147_01.row.toRowW) s) (XP := XL hd.view_39 []) (Yf := (kHook hd.heap_39 _ hd.ads).obs) (Ya := (kHook hd.heap_39 _ hd.ads).val) (YP := (kHook hd.heap_39 _ hd.ads).says) (N := 2296) hd.left (kHook hd.heap_39 _ hd.ads).of (kHook hd.heap_39 _ hd.ads).keeps (fun s e => xl_of s (Bool.and_eq_true_iff.mp e).1) XL.keeps hdef hp hk (fun s e => recFacts_of (Bool.and_eq_true_iff.mp e).2) (by rfl) (by first | assumption | decide +kernel) (by decide +kernel) ⟨rfl, rfl, rfl, rfl, rfl, by decide +kernel⟩ ?hw walk
  case hw => w_witness2
end
section
open PySem PySem.W PyProof.Rows PySem.Calls
set_option Elab.async false
theorem epsAll {X : Type} {P : X → Prop} {i : Nonempty X} (h : P (@Classical.epsilon X i fun x => ¬ P x)) (x : X) : P x :=
  Classical.byContradiction fun hx => (@Classical.epsilon_spec X (fun x => ¬ P x) ⟨x, hx⟩) h
end
section
open PySem PySem.W PyProof.Rows PySem.Calls
set_option Elab.async false
set_option maxRecDepth 100000
set_option maxHeartbeats 4000000
section
variable {prog : Program} {w : World} {A : Around} {E : Value → Shared → Prop} {s : Shared}
theorem sub_nested_self {k : Value} {dep : Int} {tk : Tok} {Q : Fin → Shared → Prop} (hk : k = .int dep tk) (hq : Q (.done (.ret (.bool true))) s) :
    wpAny (model prog w) A (Builtin.«issubclass.nested» ⟨[.type "str", .type "str", k], []⟩) Q E s := by
  subst hk
  have h1 : typeOf (.type "str") = pure (.type "type") := by with_unfolding_all rfl
  have h2 : isType (.type "str") = pure true := by with_unfolding_all rfl
  have h3 : isSubtype (.type "str") (.type "str") = pure true := by with_unfolding_all rfl
  repeat (any_goals (first | assumption | (rw [h1]) | (rw [h2]) | (rw [h3]) | wp_step))
theorem sub_nested_tup {T : Addr} {n : Nat} {d : Option Addr} {sl : Array (Option Value)} {Q : Fin → Shared → Prop} (hT : s.heap.get? T = some ⟨.type "tuple", d, .seq #[.type "str", .type "bytes"] n, sl⟩) (hq : Q (.done (.ret (.bool true))) s) :
    wpAny (model prog w) A (Builtin.«issubclass.nested» ⟨[.type "str", .ref T, rawInt 0], []⟩) Q E s := by
  have h1 : isSubtype (.type "tuple") (.type "tuple") = pure true := by with_unfolding_all rfl
  repeat (any_goals (first | assumption | wp_step))
  show codeAny (model prog w) A (.call (.builtin "issubclass.nested") ⟨[.type "str", .type "str", rawInt 1], []⟩) _ _
  refine codeAny_call_builtin (by decide +kernel) F.entry_issubclass_nested ?_
  refine wpAny_of_eq (a := ()) (by kernel_rfl) ?_
  refine sub_nested_self rfl ?_
  refine wpAny_bind (wpAny_truthy_bool ?_)
  exact wpAny_bind (wpAny_pure (wpAny_pure (wpAny_pure (wpAny_pure hq))))
theorem call_sub {T : Addr} {n : Nat} {d : Option Addr} {sl : Array (Option Value)} {Q : Value → Shared → Prop} (hT : s.heap.get? T = some ⟨.type "tuple", d, .seq #[.type "str", .type "bytes"] n, sl⟩) (hq : Q (.bool true) s) :
    wpAny (model prog w) A (call (.builtin "issubclass") [.type "str", .ref T]) Q E s :=
  call_function_meets F.kind_issubclass F.plain_issubclass F.entry_issubclass (F.args_issubclass_2 _ _) (S := fun _ R s => s.heap.get? T = some ⟨.type "tuple", d, .seq #[.type "str", .type "bytes"] n, sl⟩ ∧ R (.ok (.ret (.bool true))) s)
    (fun _ _ _ _ _ hs => issubclass_outer (sub_nested_tup hs.1 hs.2)) ⟨hT, hq⟩
end
end
section
open PySem PySem.W PyProof.Rows PySem.Calls
set_option Elab.async false
set_option maxRecDepth 100000
set_option maxHeartbeats 4000000
section
variable {prog : Program} {w : World} {A : Around} {E : Value → Shared → Prop} {s : Shared} {env : Env} {h₀ : Heap} {x : Str} {body : List Stmt} {Q : Flow → Shared → Prop}
/-- what a turn of a loop hands on -/
def LoopEnd (h₀ : Heap) (L : Addr) (J : (Str → Option Value) → List (Addr × Obj) → Prop) (It : Addr) (o : Obj) (adr : List Addr) (s₁ s₂ : Shared) : Prop :=
  ∃ h' tk m' nx, s₂ = { s₁ with heap := h', toks := tk } ∧ Fr h₀ L h' m' ∧ News h₀ L h' ((It, o) :: nx) ∧ nx.map (·.1) = adr ∧ J m' nx
def LoopPost (h₀ : Heap) (L : Addr) (J : (Str → Option Value) → List (Addr × Obj) → Prop) (It : Addr) (o : Obj) (adr : List Addr) (s₁ : Shared) (Q : Flow → Shared → Prop) (f : Flow) (s₂ : Shared) : Prop :=
  match f with
  | .ret v => Q (.ret v) s₂
  | .brk => Q .next s₂
  | _ => LoopEnd h₀ L J It o adr s₁ s₂
-- a loop over a list or a tuple of the ledger, by an invariant over the frame's map and the ledger 
end
namespace ZiterCore
def S (prog : Program) (w : World) (A : Around) (E : Value → Shared → Prop) (s : Shared) (env : Env) (h₀ : Heap) (x : Str) (body : List Stmt) (Q : Flow → Shared → Prop) (l : Addr) (ol : Obj) (oI : Obj) (vs : List Value) (m₀ : Str → Option Value) (news : List (Addr × Obj)) (St : Nat → Heap → Prop) : Prop := (J : Nat → (Str → Option Value) → List (Addr × Obj) → Prop) → (hl : (l, ol) ∈ news) → (F : Fr h₀ env.locals s.heap m₀) → (N : News h₀ env.locals s.heap news) → (hj : J 0 m₀ news) → (hf : oI.isFreed = false) → (W : Walks prog w A s.heap.objs.size [s.heap.objs.size, l] [s.heap.objs.size] vs.length (fun i v => vs[i]? = some v) St) → (hst : St 0 (s.heap.push oI)) → (hSt : ∀ i h, St i h → ∃ o, h.get? s.heap.objs.size = some o) → (hJl : ∀ i m nx, J i m nx → (l, ol) ∈ nx) → (turn : ∀ i v m₁ news₁ h tk It o, vs[i]? = some v → news₁.map (·.1) = news.map (·.1) → (∀ q ∈ news, q.1 < It) → J i m₁ news₁ → Fr h₀ env.locals h (fun y => if y = x then some v else m₁ y) → News h₀ env.locals h ((It, o) :: news₁) → wpAny (model prog w) A (execs body env) (LoopPost h₀ env.locals (J (i + 1)) It o (news.map (·.1)) { s with heap := h, toks := tk } Q) E { s with heap := h, toks := tk }) → (done : ∀ m₁ news₁ h tk, J vs.length m₁ news₁ → Fr h₀ env.locals h m₁ → News h₀ env.locals h news₁ → Q .next { s with heap := h, toks := tk }) → LoopAtV prog w A h₀ env x body Q E (.ref s.heap.objs.size) { s with heap := s.heap.push oI }
noncomputable def zz : (Program) × (World) × (Around) × (Value → Shared → Prop) × (Shared) × (Env) × (Heap) × (Str) × (List Stmt) × (Flow → Shared → Prop) × (Addr) × (Obj) × (Obj) × (List Value) × (Str → Option Value) × (List (Addr × Obj)) × (Nat → Heap → Prop) := @Classical.epsilon _ ⟨((Classical.ofNonempty : Program), (⟨fun _ _ => 0, { strHash := fun _ => 0, shareClass := fun _ => 0, mergeTok := id, idOf := fun _ => 0, idOfShared := fun _ _ => 0, followText := fun _ => false, idOfImm := fun _ => 0 }⟩ : World), (callerA : Around), (Classical.ofNonempty : Value → Shared → Prop), ({} : Shared), (Classical.ofNonempty : Env), (Classical.ofNonempty : Heap), (Classical.ofNonempty : Str), (Classical.ofNonempty : List Stmt), (Classical.ofNonempty : Flow → Shared → Prop), (Classical.ofNonempty : Addr), (Classical.ofNonempty : Obj), (Classical.ofNonempty : Obj), (Classical.ofNonempty : List Value), (Classical.ofNonempty : Str → Option Value), (Classical.ofNonempty : List (Addr × Obj)), (Classical.ofNonempty : Nat → Heap → Prop))⟩ fun zz => ¬ ZiterCore.S (zz.1) (zz.2.1) (zz.2.2.1) (zz.2.2.2.1) (zz.2.2.2.2.1) (zz.2.2.2.2.2.1) (zz.2.2.2.2.2.2.1) (zz.2.2.2.2.2.2.2.1) (zz.2.2.2.2.2.2.2.2.1) (zz.2.2.2.2.2.2.2.2.2.1) (zz.2.2.2.2.2.2.2.2.2.2.1) (zz.2.2.2.2.2.2.2.2.2.2.2.1) (zz.2.2.2.2.2.2.2.2.2.2.2.2.1) (zz.2.2.2.2.2.2.2.2.2.2.2.2.2.1) (zz.2.2.2.2.2.2.2.2.2.2.2.2.2.2.1) (zz.2.2.2.2.2.2.2.2.2.2.2.2.2.2.2.1) (zz.2.2.2.2.2.2.2.2.2.2.2.2.2.2.2.2)
noncomputable def prog : Program := zz.1
noncomputable def w : World := zz.2.1
noncomputable def A : Around := zz.2.2.1
noncomputable def E : Value → Shared → Prop := zz.2.2.2.1
noncomputable def s : Shared := zz.2.2.2.2.1
noncomputable def env : Env := zz.2.2.2.2.2.1
noncomputable def h₀ : Heap := zz.2.2.2.2.2.2.1
noncomputable def x : Str := zz.2.2.2.2.2.2.2.1
noncomputable def body : List Stmt := zz.2.2.2.2.2.2.2.2.1
noncomputable def Q : Flow → Shared → Prop := zz.2.2.2.2.2.2.2.2.2.1
noncomputable def l : Addr := zz.2.2.2.2.2.2.2.2.2.2.1
noncomputable def ol : Obj := zz.2.2.2.2.2.2.2.2.2.2.2.1
noncomputable def oI : Obj := zz.2.2.2.2.2.2.2.2.2.2.2.2.1
noncomputable def vs : List Value := zz.2.2.2.2.2.2.2.2.2.2.2.2.2.1
noncomputable def m₀ : Str → Option Value := zz.2.2.2.2.2.2.2.2.2.2.2.2.2.2.1
noncomputable def news : List (Addr × Obj) := zz.2.2.2.2.2.2.2.2.2.2.2.2.2.2.2.1
noncomputable def St : Nat → Heap → Prop := zz.2.2.2.2.2.2.2.2.2.2.2.2.2.2.2.2
theorem p (J : Nat → (Str → Option Value) → List (Addr × Obj) → Prop) (hl : (l, ol) ∈ news) (F : Fr h₀ env.locals s.heap m₀) (N : News h₀ env.locals s.heap news) (hj : J 0 m₀ news) (hf : oI.isFreed = false) (W : Walks prog w A s.heap.objs.size [s.heap.objs.size, l] [s.heap.objs.size] vs.length (fun i v => vs[i]? = some v) St) (hst : St 0 (s.heap.push oI)) (hSt : ∀ i h, St i h → ∃ o, h.get? s.heap.objs.size = some o) (hJl : ∀ i m nx, J i m nx → (l, ol) ∈ nx) (turn : ∀ i v m₁ news₁ h tk It o, vs[i]? = some v → news₁.map (·.1) = news.map (·.1) → (∀ q ∈ news, q.1 < It) → J i m₁ news₁ → Fr h₀ env.locals h (fun y => if y = x then some v else m₁ y) → News h₀ env.locals h ((It, o) :: news₁) → wpAny (model prog w) A (execs body env) (LoopPost h₀ env.locals (J (i + 1)) It o (news.map (·.1)) { s with heap := h, toks := tk } Q) E { s with heap := h, toks := tk }) (done : ∀ m₁ news₁ h tk, J vs.length m₁ news₁ → Fr h₀ env.locals h m₁ → News h₀ env.locals h news₁ → Q .next { s with heap := h, toks := tk }) : LoopAtV prog w A h₀ env x body Q E (.ref s.heap.objs.size) { s with heap := s.heap.push oI } := by
  have hol : s.heap.get? l = some ol := (N _ hl).1
  refine ⟨_, _, _, vs.length, _, _, m₀, news, (fun i m nx => nx.map (·.1) = news.map (·.1) ∧ J i m nx), rfl, W, ?_, ?_, ?_, hst, F.push _, (fun p hp => ⟨Heap.get?_push_of_some _ (N p hp).1, (N p hp).2⟩), ⟨rfl, hj⟩, ?_, ?_⟩
  · intro hm
    rcases List.mem_cons.mp hm with e | hm
    · exact absurd F.ns.lt (e ▸ Nat.lt_irrefl _)
    · exact (N _ hl).2.1 ((List.mem_singleton.mp hm).symm)
  · intro b hb
    rw [List.mem_singleton.mp hb]
    exact next_is_new F
  · intro p hp hI
    exact absurd (Heap.lt_size (N p hp).1) ((List.mem_singleton.mp hI) ▸ Nat.lt_irrefl _)
  · rintro i v m₁ news₁ s₁ own ⟨hh', tk', rfl⟩ hin hP ⟨hadr, hJ⟩ hoff hown hget hfp st F₁ N₁
    have hl₁ := hJl _ _ _ hJ
    have hlo : hh'.get? l = some ol := (N₁ _ (List.mem_append.mpr (.inr hl₁))).1
    have hfr : h₀.get? s.heap.objs.size = none := next_is_new F
    obtain ⟨oIt, hIo⟩ := hSt _ _ st
    have hmem := hfp s.heap.objs.size (.head _) hfr oIt hIo
    have hlt : ∀ q ∈ news, q.1 < s.heap.objs.size := fun q hq => Heap.lt_size (N q hq).1
    have N₂ : News h₀ env.locals hh' ((s.heap.objs.size, oIt) :: news₁) := fun p hp => by
      rcases List.mem_cons.mp hp with rfl | hp
      · exact N₁ _ (List.mem_append.mpr (.inl hmem))
      · exact N₁ _ (List.mem_append.mpr (.inr hp))
    refine wpAny_mono (turn i v m₁ news₁ hh' tk' _ oIt hP hadr hlt hJ F₁ N₂) (fun f s₂ p => ?_) fun _ _ e => e
    have fin : LoopEnd h₀ env.locals (J (i + 1)) s.heap.objs.size oIt (news.map (·.1)) { s with heap := hh', toks := tk' } s₂ →
        LoopStepU h₀ env.locals [s.heap.objs.size] own (fun m nx => nx.map (·.1) = news.map (·.1) ∧ J (i + 1) m nx) { s with heap := hh', toks := tk' } .next s₂ := by
      rintro ⟨h', tk, m', nx, e, F', N', ha, hm⟩
      refine ⟨rfl, h', tk, m', nx, e, F', fun p hp => ?_, fun p hp => ?_, ha, hm⟩
      · rcases List.mem_append.mp hp with h | h
        · have h2 : hh'.get? p.1 = some p.2 := hget p h
          rcases List.mem_cons.mp (hown p h) with h1 | h1
          · have h3 : p = (s.heap.objs.size, oIt) := Prod.ext h1 (by rw [h1, hIo] at h2; exact (Option.some.inj h2).symm)
            rw [h3]; exact N' _ (.head _)
          · have h1 := List.mem_singleton.mp h1
            have h3 : p = (l, ol) := Prod.ext h1 (by rw [h1, hlo] at h2; exact (Option.some.inj h2).symm)
            rw [h3]; exact N' _ (.tail _ (hJl _ _ _ hm))
        · exact N' p (.tail _ h)
      · have h1 : p.1 ∈ nx.map (·.1) := List.mem_map.mpr ⟨p, hp, rfl⟩
        rw [ha] at h1
        obtain ⟨q, hq, e⟩ := List.mem_map.mp h1
        intro hI
        exact absurd (hlt q hq) (by rw [e, List.mem_singleton.mp hI]; exact Nat.lt_irrefl _)
    cases f with
    | ret v => exact .ret p
    | brk => exact .brk p
    | next => exact .next (fin p)
    | cont => exact .cont (fin p)
  · rintro h' tk m' news' F' N' _ ⟨_, hJ⟩
    exact done m' news' h' tk hJ F' N'
theorem q : S prog w A E s env h₀ x body Q l ol oI vs m₀ news St := by unfold S; exact p
end ZiterCore
section
variable {prog : Program} {w : World} {A : Around} {E : Value → Shared → Prop} {s : Shared} {env : Env} {h₀ : Heap} {x : Str} {body : List Stmt} {Q : Flow → Shared → Prop}
theorem iterCore {l : Addr}
    {ol oI : Obj}
    {vs : List Value}
    {m₀ : Str → Option Value}
    {news : List (Addr × Obj)}
    {St : Nat → Heap → Prop}
    (J : Nat → (Str → Option Value) → List (Addr × Obj) → Prop)
    (hl : (l, ol) ∈ news)
    (F : Fr h₀ env.locals s.heap m₀)
    (N : News h₀ env.locals s.heap news)
    (hj : J 0 m₀ news)
    (hf : oI.isFreed = false)
    (W : Walks prog w A s.heap.objs.size [s.heap.objs.size, l] [s.heap.objs.size] vs.length (fun i v => vs[i]? = some v) St)
    (hst : St 0 (s.heap.push oI))
    (hSt : ∀ i h, St i h → ∃ o, h.get? s.heap.objs.size = some o)
    (hJl : ∀ i m nx, J i m nx → (l, ol) ∈ nx)
    (turn : ∀ i v m₁ news₁ h tk It o, vs[i]? = some v → news₁.map (·.1) = news.map (·.1) → (∀ q ∈ news, q.1 < It) → J i m₁ news₁ → Fr h₀ env.locals h (fun y => if y = x then some v else m₁ y) → News h₀ env.locals h ((It, o) :: news₁) →
      wpAny (model prog w) A (execs body env) (LoopPost h₀ env.locals (J (i + 1)) It o (news.map (·.1)) { s with heap := h, toks := tk } Q) E { s with heap := h, toks := tk })
    (done : ∀ m₁ news₁ h tk, J vs.length m₁ news₁ → Fr h₀ env.locals h m₁ → News h₀ env.locals h news₁ → Q .next { s with heap := h, toks := tk }) : LoopAtV prog w A h₀ env x body Q E (.ref s.heap.objs.size) { s with heap := s.heap.push oI } :=
  epsAll (P := fun zz => ZiterCore.S (zz.1) (zz.2.1) (zz.2.2.1) (zz.2.2.2.1) (zz.2.2.2.2.1) (zz.2.2.2.2.2.1) (zz.2.2.2.2.2.2.1) (zz.2.2.2.2.2.2.2.1) (zz.2.2.2.2.2.2.2.2.1) (zz.2.2.2.2.2.2.2.2.2.1) (zz.2.2.2.2.2.2.2.2.2.2.1) (zz.2.2.2.2.2.2.2.2.2.2.2.1) (zz.2.2.2.2.2.2.2.2.2.2.2.2.1) (zz.2.2.2.2.2.2.2.2.2.2.2.2.2.1) (zz.2.2.2.2.2.2.2.2.2.2.2.2.2.2.1) (zz.2.2.2.2.2.2.2.2.2.2.2.2.2.2.2.1) (zz.2.2.2.2.2.2.2.2.2.2.2.2.2.2.2.2)) ZiterCore.q (prog, w, A, E, s, env, h₀, x, body, Q, l, ol, oI, vs, m₀, news, St) J hl F N hj hf W hst hSt hJl turn done
theorem iterList {l : Addr} {vs : List Value} {nn : Nat} {m₀ : Str → Option Value} {news : List (Addr × Obj)} (J : Nat → (Str → Option Value) → List (Addr × Obj) → Prop)
    (hh : A.handled = none) (hl : (l, listOf vs.toArray nn) ∈ news) (F : Fr h₀ env.locals s.heap m₀) (N : News h₀ env.locals s.heap news) (hj : J 0 m₀ news) (hJl : ∀ i m nx, J i m nx → (l, listOf vs.toArray nn) ∈ nx)
    (turn : ∀ i v m₁ news₁ h tk It o, vs[i]? = some v → news₁.map (·.1) = news.map (·.1) → (∀ q ∈ news, q.1 < It) → J i m₁ news₁ → Fr h₀ env.locals h (fun y => if y = x then some v else m₁ y) → News h₀ env.locals h ((It, o) :: news₁) →
      wpAny (model prog w) A (execs body env) (LoopPost h₀ env.locals (J (i + 1)) It o (news.map (·.1)) { s with heap := h, toks := tk } Q) E { s with heap := h, toks := tk })
    (done : ∀ m₁ news₁ h tk, J vs.length m₁ news₁ → Fr h₀ env.locals h m₁ → News h₀ env.locals h news₁ → Q .next { s with heap := h, toks := tk }) :
    wpAny (model prog w) A (pyIter (.ref l)) (fun it s₂ => LoopAtV prog w A h₀ env x body Q E it s₂) E s := by
  have hol : s.heap.get? l = some (listOf vs.toArray nn) := (N _ hl).1
  have hls : s.heap.IsList l vs.toArray := ⟨_, hol, rfl, nn, rfl⟩
  refine wpAny_pyIter_list hls ?_
  have W := Walks.list (prog := prog) (w := w) hh s.heap.objs.size l (Nat.ne_of_lt (Heap.lt_size hol)) vs.toArray
  simp only [List.size_toArray, List.getElem?_toArray] at W
  exact iterCore J hl F N hj rfl W ⟨⟨_, Heap.get?_push_size _ rfl, rfl, rfl⟩, hls.at fun o e => Heap.get?_push_of_some _ e⟩ (fun i h st => ⟨_, st.1.choose_spec.1⟩) hJl turn done
theorem iterTuple {l : Addr} {vs : List Value} {nn : Nat} {m₀ : Str → Option Value} {news : List (Addr × Obj)} (J : Nat → (Str → Option Value) → List (Addr × Obj) → Prop)
    (hh : A.handled = none) (hl : (l, { cls := .type "tuple", data := .seq vs.toArray nn }) ∈ news) (F : Fr h₀ env.locals s.heap m₀) (N : News h₀ env.locals s.heap news) (hj : J 0 m₀ news) (hJl : ∀ i m nx, J i m nx → (l, ({ cls := .type "tuple", data := .seq vs.toArray nn } : Obj)) ∈ nx)
    (turn : ∀ i v m₁ news₁ h tk It o, vs[i]? = some v → news₁.map (·.1) = news.map (·.1) → (∀ q ∈ news, q.1 < It) → J i m₁ news₁ → Fr h₀ env.locals h (fun y => if y = x then some v else m₁ y) → News h₀ env.locals h ((It, o) :: news₁) →
      wpAny (model prog w) A (execs body env) (LoopPost h₀ env.locals (J (i + 1)) It o (news.map (·.1)) { s with heap := h, toks := tk } Q) E { s with heap := h, toks := tk })
    (done : ∀ m₁ news₁ h tk, J vs.length m₁ news₁ → Fr h₀ env.locals h m₁ → News h₀ env.locals h news₁ → Q .next { s with heap := h, toks := tk }) :
    wpAny (model prog w) A (pyIter (.ref l)) (fun it s₂ => LoopAtV prog w A h₀ env x body Q E it s₂) E s := by
  have hol := (N _ hl).1
  have hls : s.heap.IsTuple l vs.toArray := ⟨_, hol, rfl, nn, rfl⟩
  refine wpAny_pyIter_tuple hls ?_
  have W := Walks.tuple (prog := prog) (w := w) hh s.heap.objs.size l (Nat.ne_of_lt (Heap.lt_size hol)) vs.toArray
  simp only [List.size_toArray, List.getElem?_toArray] at W
  exact iterCore J hl F N hj rfl W ⟨⟨_, Heap.get?_push_size _ rfl, rfl, rfl⟩, hls.push _⟩ (fun i h st => ⟨_, st.1.choose_spec.1⟩) hJl turn done
/-- the frame's map: the named ones as told, the loop's own name and the stored ones forgotten, all else as ahead of the loop -/
structure MapIs (x : Str) (stored : List Str) (m₀ : Str → Option Value) (ps : List (Str × Value)) (m : Str → Option Value) : Prop where
  here : ∀ p ∈ ps, m p.1 = some p.2
  rest : ∀ z, z ≠ x → (∀ p ∈ ps, z ≠ p.1) → stored.contains z = false → m z = m₀ z
def SJ {σ : Type} (Led : σ → List (Addr × Obj)) (ps : σ → List (Str × Value)) (x : Str) (stored : List Str) (m₀ : Str → Option Value) (P : Nat → σ → Prop) (i : Nat) (m : Str → Option Value) (nx : List (Addr × Obj)) : Prop :=
  ∃ c : σ, nx = Led c ∧ MapIs x stored m₀ (ps c) m ∧ P i c
theorem SJ.mk {σ : Type} {Led : σ → List (Addr × Obj)} {ps : σ → List (Str × Value)} {stored : List Str} {m₀ : Str → Option Value} {P : Nat → σ → Prop} {i : Nat} (c : σ) {L : Addr} {m' : Str → Option Value} {h' : Heap} {tk : Nat} {It : Addr} {o : Obj} {adr : List Addr} {news' : List (Addr × Obj)} {s₁ : Shared}
    (F : Fr h₀ L h' m') (N : News h₀ L h' news') (hn : ∀ p ∈ Led c, p ∈ news') (hi : (It, o) ∈ news') (ha : (Led c).map (·.1) = adr)
    (hk : ∀ p ∈ ps c, m' p.1 = some p.2) (hr : ∀ z, z ≠ x → (∀ p ∈ ps c, z ≠ p.1) → stored.contains z = false → m' z = m₀ z) (hp : P i c) :
    LoopEnd h₀ L (SJ Led ps x stored m₀ P i) It o adr s₁ { s₁ with heap := h', toks := tk } :=
  ⟨h', tk, m', Led c, rfl, F, fun p hp => by
    rcases List.mem_cons.mp hp with rfl | hp
    · exact N _ hi
    · exact N _ (hn _ hp), ha, c, rfl, ⟨hk, hr⟩, hp⟩
theorem iterListS {σ : Type} {l : Addr} {vs : List Value} {nn : Nat} {m₀ : Str → Option Value} {R : List (Addr × Obj)} (hd : σ → List (Addr × Obj)) (ps : σ → List (Str × Value)) (stored : List Str) (P : Nat → σ → Prop) (c₀ : σ)
    (hh : A.handled = none) (F : Fr h₀ env.locals s.heap m₀) (N : News h₀ env.locals s.heap (hd c₀ ++ R)) (hl : ∀ c, (l, listOf vs.toArray nn) ∈ hd c ++ R) (hm : ∀ p ∈ ps c₀, m₀ p.1 = some p.2) (hp : P 0 c₀)
    (turn : ∀ i v (c : σ) (u : Str → Option Value) h tk It o, vs[i]? = some v → (∀ q ∈ hd c₀ ++ R, q.1 < It) → (hd c ++ R).map (·.1) = (hd c₀ ++ R).map (·.1) → P i c →
      Fr h₀ env.locals h (fun y => if y = x then some v else kstB (fun z => if stored.contains z then u z else m₀ z) (ps c) y) → News h₀ env.locals h ((It, o) :: (hd c ++ R)) →
      wpAny (model prog w) A (execs body env) (LoopPost h₀ env.locals (SJ (fun c => hd c ++ R) ps x stored m₀ P (i + 1)) It o ((hd c₀ ++ R).map (·.1)) { s with heap := h, toks := tk } Q) E { s with heap := h, toks := tk })
    (done : ∀ (c : σ) (u : Str → Option Value) h tk, P vs.length c → (hd c ++ R).map (·.1) = (hd c₀ ++ R).map (·.1) → Fr h₀ env.locals h (fun y => if y = x then u y else kstB (fun z => if stored.contains z then u z else m₀ z) (ps c) y) → News h₀ env.locals h (hd c ++ R) → Q .next { s with heap := h, toks := tk }) :
    wpAny (model prog w) A (pyIter (.ref l)) (fun it s₂ => LoopAtV prog w A h₀ env x body Q E it s₂) E s := by
  refine iterList (fun i m nx => nx.map (·.1) = (hd c₀ ++ R).map (·.1) ∧ SJ (fun c => hd c ++ R) ps x stored m₀ P i m nx) hh (hl c₀) F N ⟨rfl, c₀, rfl, ⟨hm, fun _ _ _ _ => rfl⟩, hp⟩ (fun i m nx hj => ?_) ?_ ?_
  · obtain ⟨_, c, rfl, _⟩ := hj; exact hl c
  · rintro i v m₁ nx h tk It o hv ha hlt ⟨_, c, rfl, hM, hP⟩ F₁ N₁
    refine wpAny_mono (turn i v c m₁ h tk It o hv hlt ha hP (kst_fr hM.1 hM.2 F₁) N₁) (fun f s₂ p => ?_) fun _ _ e => e
    cases f with
    | ret v => exact p
    | brk => exact p
    | next => obtain ⟨h', tk', m', nx, e, F', N', ha', hj⟩ := p; exact ⟨h', tk', m', nx, e, F', N', ha', ha', hj⟩
    | cont => obtain ⟨h', tk', m', nx, e, F', N', ha', hj⟩ := p; exact ⟨h', tk', m', nx, e, F', N', ha', ha', hj⟩
  · rintro m₁ nx h tk ⟨ha, c, rfl, hM, hP⟩ F₁ N₁
    exact done c m₁ h tk hP ha (kst_frOut hM.1 hM.2 F₁) N₁
theorem iterTupleS {σ : Type} {l : Addr} {vs : List Value} {nn : Nat} {m₀ : Str → Option Value} {R : List (Addr × Obj)} (hd : σ → List (Addr × Obj)) (ps : σ → List (Str × Value)) (stored : List Str) (P : Nat → σ → Prop) (c₀ : σ)
    (hh : A.handled = none) (F : Fr h₀ env.locals s.heap m₀) (N : News h₀ env.locals s.heap (hd c₀ ++ R)) (hl : ∀ c, (l, ({ cls := .type "tuple", data := .seq vs.toArray nn } : Obj)) ∈ hd c ++ R) (hm : ∀ p ∈ ps c₀, m₀ p.1 = some p.2) (hp : P 0 c₀)
    (turn : ∀ i v (c : σ) (u : Str → Option Value) h tk It o, vs[i]? = some v → (∀ q ∈ hd c₀ ++ R, q.1 < It) → (hd c ++ R).map (·.1) = (hd c₀ ++ R).map (·.1) → P i c →
      Fr h₀ env.locals h (fun y => if y = x then some v else kstB (fun z => if stored.contains z then u z else m₀ z) (ps c) y) → News h₀ env.locals h ((It, o) :: (hd c ++ R)) →
      wpAny (model prog w) A (execs body env) (LoopPost h₀ env.locals (SJ (fun c => hd c ++ R) ps x stored m₀ P (i + 1)) It o ((hd c₀ ++ R).map (·.1)) { s with heap := h, toks := tk } Q) E { s with heap := h, toks := tk })
    (done : ∀ (c : σ) (u : Str → Option Value) h tk, P vs.length c → (hd c ++ R).map (·.1) = (hd c₀ ++ R).map (·.1) → Fr h₀ env.locals h (fun y => if y = x then u y else kstB (fun z => if stored.contains z then u z else m₀ z) (ps c) y) → News h₀ env.locals h (hd c ++ R) → Q .next { s with heap := h, toks := tk }) :
    wpAny (model prog w) A (pyIter (.ref l)) (fun it s₂ => LoopAtV prog w A h₀ env x body Q E it s₂) E s := by
  refine iterTuple (fun i m nx => nx.map (·.1) = (hd c₀ ++ R).map (·.1) ∧ SJ (fun c => hd c ++ R) ps x stored m₀ P i m nx) hh (hl c₀) F N ⟨rfl, c₀, rfl, ⟨hm, fun _ _ _ _ => rfl⟩, hp⟩ (fun i m nx hj => ?_) ?_ ?_
  · obtain ⟨_, c, rfl, _⟩ := hj; exact hl c
  · rintro i v m₁ nx h tk It o hv ha hlt ⟨_, c, rfl, hM, hP⟩ F₁ N₁
    refine wpAny_mono (turn i v c m₁ h tk It o hv hlt ha hP (kst_fr hM.1 hM.2 F₁) N₁) (fun f s₂ p => ?_) fun _ _ e => e
    cases f with
    | ret v => exact p
    | brk => exact p
    | next => obtain ⟨h', tk', m', nx, e, F', N', ha', hj⟩ := p; exact ⟨h', tk', m', nx, e, F', N', ha', ha', hj⟩
    | cont => obtain ⟨h', tk', m', nx, e, F', N', ha', hj⟩ := p; exact ⟨h', tk', m', nx, e, F', N', ha', ha', hj⟩
  · rintro m₁ nx h tk ⟨ha, c, rfl, hM, hP⟩ F₁ N₁
    exact done c m₁ h tk hP ha (kst_frOut hM.1 hM.2 F₁) N₁
end
end
section
open PySem PySem.W PyProof.Rows PySem.Calls
set_option Elab.async false
set_option maxRecDepth 100000
set_option maxHeartbeats 4000000
section
variable {prog : Program} {w : World} {A : Around} {E : Value → Shared → Prop} {s : Shared} {h₀ : Heap} {L D : Addr} {m : Str → Option Value} {R news : List (Addr × Obj)} {vs : List Value} {n : Nat}
/-- a list's length, as the walk's own lines want it -/
structure Short (vs : List Value) : Prop where
  le : vs.length ≤ 5000
theorem Short.of {vs : List Value} (h : vs.length ≤ 5000) : Short vs := ⟨h⟩
/-- the addresses of a ledger's rest are others -/
structure Off (D : Addr) (R : List (Addr × Obj)) : Prop where
  ne : ∀ p ∈ R, p.1 ≠ D
theorem allLt_mem {d : Nat} : ∀ {l : List (Addr × Obj)}, AllLt d l → ∀ p ∈ l, p.1 < d
  | [], _, _, h => nomatch h
  | _ :: _, h, p, hp => by
    rcases List.mem_cons.mp hp with rfl | hp
    · exact h.1
    · exact allLt_mem h.2 p hp
theorem Off.of_lt {l : List (Addr × Obj)} (h : ∀ p ∈ l, p.1 < D) : Off D l := ⟨fun p hp => Nat.ne_of_lt (h p hp)⟩
theorem Off.of_allLt {l : List (Addr × Obj)} (h : AllLt D l) : Off D l := .of_lt (allLt_mem h)
theorem Off.cons {a : Addr} {o : Obj} {l : List (Addr × Obj)} (h : (a : Nat) ≠ D) (r : Off D l) : Off D ((a, o) :: l) := ⟨fun p hp => by
  rcases List.mem_cons.mp hp with rfl | hp
  · exact h
  · exact r.ne p hp⟩
theorem Off.sub {l l' : List (Addr × Obj)} (r : Off D l') (h : ∀ p ∈ l, p ∈ l') : Off D l := ⟨fun p hp => r.ne p (h p hp)⟩
theorem ite_dpos {p : Prop} [Decidable p] {a b : Prop} (h : p) (ha : a) : if decide p = true then a else b := by rw [decide_eq_true h]; exact ha
theorem ite_dneg {p : Prop} [Decidable p] {a b : Prop} (h : ¬ p) (hb : b) : if decide p = true then a else b := by rw [decide_eq_false h]; exact hb
theorem ite_ipos {x y : Int} {a b : Prop} (h : x ≠ y) (ha : a) : if (x != y) = true then a else b := by rw [if_pos (by simp [h])]; exact ha
theorem ite_ineg {x y : Int} {a b : Prop} (h : x = y) (hb : b) : if (x != y) = true then a else b := by rw [if_neg (by simp [h])]; exact hb
theorem offTail {h : Heap} {It : Addr} {o x : Obj} (_N : News h₀ L h ((It, o) :: (D, x) :: R)) (h : Off D R) : Off D R := h
theorem truthyL {Q : Bool → Shared → Prop} (N : News h₀ L s.heap news) (hm : (D, listOf vs.toArray n) ∈ news) (hz : Short vs)
    (h : ∀ tk, Q (!vs.isEmpty) { s with toks := tk }) : wpAny (model prog w) A (truthy (.ref D)) Q E s := by
  have hl : s.heap.IsList D vs.toArray := ⟨_, (N _ hm).1, rfl, n, rfl⟩
  refine wpAny_truthy_list hl (by rw [List.size_toArray]; have := hz.le; omega) ?_
  have e : (!vs.isEmpty) = (decide (vs.toArray.size ≠ 0)) := by cases vs <;> simp
  have := h (s.toks + 1 + 1)
  first
    | simpa [e] using this
    | (rw [e] at this; simpa using this)
theorem append1 {x : Value} {It : Addr} {o : Obj} {Q : Value → Shared → Prop} (F : Fr h₀ L s.heap m) (N : News h₀ L s.heap ((It, o) :: (D, listOf vs.toArray n) :: R)) (h1 : (It : Nat) ≠ D) (h2 : Off D R) (hz : Short vs)
    (h : ∀ h', Fr h₀ L h' m → News h₀ L h' ((It, o) :: (D, listOf (vs ++ [x]).toArray (n + 1)) :: R) → Q .none { s with heap := h' }) : wpAny (model prog w) A (call (.builtin "list.append") [.ref D, x]) Q E s := by
  have z := N (D, listOf vs.toArray n) (.tail _ (.head _))
  refine append_at (hsz := by rw [List.size_toArray]; have := hz.le; rw [sizeLine_eq]; omega) z.1 fun h' hs ho' => h h' (F.change hs z.2.1 z.2.2) ?_
  have := news_set (pre := [(It, o)]) (post := R) N (by intro p hp; rw [List.mem_singleton.mp hp]; exact h1) h2.ne hs ho'
  simpa using this
theorem itemLast {value slice : Expr} {vi : List Value} {v : Value} {u : Tok} {Q : Value → Shared → Prop} (N : News h₀ L s.heap news) (hm : (D, listOf (vi ++ [v]).toArray n) ∈ news) (h : Q v s)
    (hs : subscripted slice false (.ref D) (.int (-1) u) = operate [.ref D, .int (-1) u] (getItem (.ref D) (.int (-1) u)) := by with_unfolding_all rfl) :
    wpAny (model prog w) A (subscriptTail value slice (.ref D) (.int (-1) u)) Q E s := by
  have hl : s.heap.IsList D (vi ++ [v]).toArray := ⟨_, (N _ hm).1, rfl, n, rfl⟩
  refine subscriptTail_builtinR hl.typeIs slot_list_getitem.lookup (wpAny_getItem_list_neg (Q := fun r s' => r = v ∧ Q r s') (x := v) hl (by decide) (by simp only [List.size_toArray, List.length_append, List.length_singleton]; omega) (by decide) ?_ ⟨rfl, h⟩) hs
  have : ((-1 : Int) + ((vi ++ [v]).toArray.size : Nat)).toNat = vi.length := by simp only [List.size_toArray, List.length_append, List.length_singleton]; omega
  rw [this]
  simp
theorem pop1 {vi : List Value} {v : Value} {It : Addr} {o : Obj} {Q : Value → Shared → Prop} (F : Fr h₀ L s.heap m) (N : News h₀ L s.heap ((It, o) :: (D, listOf (vi ++ [v]).toArray n) :: R)) (h1 : (It : Nat) ≠ D) (h2 : Off D R) (hz : Short (vi ++ [v]))
    (h : ∀ h', Fr h₀ L h' m → News h₀ L h' ((It, o) :: (D, listOf vi.toArray (n + 1)) :: R) → Q v { s with heap := h' }) : wpAny (model prog w) A (call (.builtin "list.pop") [.ref D]) Q E s := by
  refine kl_pop F N (p := vi) (y := v) (by simpa using kpa_last v vi) (.tail h1 (.head h2.ne)) (by have := hz.le; simp only [List.size_toArray]; rw [sizeLine_eq]; omega) fun h' F' N' => h h' F' N'
/-- texts that may be joined -/
structure Fits (x : Str) (ys : List Str) : Prop where
  w : (ys.map (·.length)).sum + ys.length ≤ 1048576
  s : x.length ≤ 1
theorem strsAre_values : ∀ {vs : List Value} {ys : List Str}, StrsAre vs ys → ∃ l : List (Str × Tok), strValues l = vs ∧ l.map (·.1) = ys
  | _, _, .nil => ⟨[], rfl, rfl⟩
  | _, _, .cons y t r => by
    obtain ⟨l, h1, h2⟩ := strsAre_values r
    exact ⟨(y, t) :: l, by simp only [strValues, List.map_cons] at h1 ⊢; rw [h1], by simp [h2]⟩
theorem join_len_le (sep : Str) : ∀ ys : List Str, (Str.join sep ys).length ≤ (ys.map (·.length)).sum + ys.length * sep.length
  | [] => by simp [Str.join, Str.empty, Str.length]
  | [x] => by simp [Str.join]
  | x :: y :: r => by
    have ih := join_len_le sep (y :: r)
    show (x ++ sep ++ Str.join sep (y :: r)).length ≤ _
    rw [Str.length_append, Str.length_append]
    simp only [List.map_cons, List.sum_cons, List.length_cons, Nat.add_mul, Nat.one_mul] at ih ⊢
    omega
theorem joinL {x : Str} {t : Tok} {ys : List Str} {Q : Value → Shared → Prop} (N : News h₀ L s.heap news) (hm : (D, listOf vs.toArray n) ∈ news) (hi : StrsAre vs ys) (hw : Fits x ys)
    (h : ∀ t' k, (Str.join x ys).length ≤ 2000000 → Q (.str (Str.join x ys) t') { s with toks := k }) : wpAny (model prog w) A (call (.builtin "str.join") [.str x t, .ref D]) Q E s := by
  obtain ⟨l, rfl, rfl⟩ := strsAre_values hi
  have hl : s.heap.IsList D (strValues l).toArray := ⟨_, (N _ hm).1, rfl, n, rfl⟩
  have hlen : (Str.join x (l.map (·.1))).length ≤ 2000000 := by
    have h1 := join_len_le x (l.map (·.1))
    have h2 := hw.w
    have h3 := hw.s
    have h4 : (l.map (·.1)).length * x.length ≤ (l.map (·.1)).length * 1 := Nat.mul_le_mul_left _ h3
    omega
  refine SC.join hl rfl (joinOk_of_weight hw.w (by have := hw.s; omega)) fun t' k => ?_
  have e : Txt.join x (l.map (·.1)) = Str.join x (l.map (·.1)) := StrLaws.glued_eq_join _ _
  rw [e]
  exact h t' k hlen
theorem append0 {x : Value} {Q : Value → Shared → Prop} (F : Fr h₀ L s.heap m) (N : News h₀ L s.heap ((D, listOf vs.toArray n) :: R)) (h2 : Off D R) (hz : Short vs)
    (h : ∀ h', Fr h₀ L h' m → News h₀ L h' ((D, listOf (vs ++ [x]).toArray (n + 1)) :: R) → Q .none { s with heap := h' }) : wpAny (model prog w) A (call (.builtin "list.append") [.ref D, x]) Q E s := by
  have z := N (D, listOf vs.toArray n) (.head _)
  refine append_at (hsz := by rw [List.size_toArray]; have := hz.le; rw [sizeLine_eq]; omega) z.1 fun h' hs ho' => h h' (F.change hs z.2.1 z.2.2) ?_
  have := news_set (pre := []) (post := R) N (by intro p hp; cases hp) h2.ne hs ho'
  simpa using this
theorem offHead {h : Heap} {x : Obj} (_N : News h₀ L h ((D, x) :: R)) (h : Off D R) : Off D R := h
theorem Off.append {D : Addr} {l l' : List (Addr × Obj)} (h1 : Off D l) (h2 : Off D l') : Off D (l ++ l') := ⟨fun p hp => (List.mem_append.mp hp).elim (h1.ne p) (h2.ne p)⟩
theorem Off.of_own {D : Addr} {own : List (Addr × Obj)} {adr : List Addr} (h : OwnOff own adr) (hd : D ∈ adr) : Off D own := ⟨fun p hp => h p hp D hd⟩
end
end
section
open PySem PySem.W PyProof.Rows PySem.Calls
set_option Elab.async false
set_option maxRecDepth 100000
set_option maxHeartbeats 4000000
theorem join_len (sep : Str) (h : 1 ≤ sep.length) : ∀ l : List Str, l.length ≤ (Str.join sep l).length + 1
  | [] => by simp
  | [x] => by simp
  | x :: y :: r => by
    have ih := join_len sep h (y :: r)
    show _ ≤ (x ++ sep ++ Str.join sep (y :: r)).length + 1
    rw [Str.length_append, Str.length_append]
    simp only [List.length_cons] at ih ⊢
    omega
theorem slash_len : (Str.ofString "/").length = 1 := by decide +kernel
theorem split_len (x : Str) : (Txt.split x (Str.ofString "/")).length ≤ x.length + 1 := by
  have := join_len (Str.ofString "/") (by rw [slash_len]; exact Nat.le_refl _) (Txt.split x (Str.ofString "/"))
  rwa [StrLaws.join_split] at this
end
section
open PySem PySem.W PyProof.Rows PySem.Calls
set_option Elab.async false
set_option maxRecDepth 100000
set_option maxHeartbeats 8000000
theorem newsHead {h₀ h : Heap} {L a : Addr} {o : Obj} {news : List (Addr × Obj)} (N : News h₀ L h ((a, o) :: news)) : h.get? a = some o := (N _ (List.Mem.head _)).1
theorem newsDrop {h₀ h : Heap} {L : Addr} {news news' : List (Addr × Obj)} (N : News h₀ L h news') (hs : ∀ p ∈ news, p ∈ news') : News h₀ L h news := fun p hp => N p (hs p hp)
theorem memTail {α : Type} {a b : α} {l : List α} (h : a ∈ l) : a ∈ b :: l := List.Mem.tail _ h
/-- the room that a call still has -/
abbrev Room (dp un : Nat) : Prop := dp + 20 < recursionLimit ∧ un + 200 < cLine
local macro_rules | `(tactic| walk_at "call builtin:issubclass") => `(tactic| (k_here; (with_reducible show wpAny _ _ (PySem.call (Value.builtin "issubclass") [Value.type "str", Value.ref _]) _ _ _); (refine call_sub (newsHead (by k_asm)) ?_)))
section
variable {w : World} {loose : List Str} {mean : ExcName → Option Value} {mg mb : Str → Option Value} {news : List (Addr × Obj)}
  {dp un : Nat} {gd : Option (List Code)} {cn : Str} {cs : Scope} {a : Addr} {ccd : Value} {cl : List (Str × Addr)} {outer : List Env} {A₀ : Around} {base h₀ : Heap} {L : Addr} {m : Str → Option Value} {s : Shared} {Q E : Value → Shared → Prop}
theorem fspath_c {x : Str} {t : Tok}
  (B : Below A₀ base outer h₀) (F : Fr h₀ L s.heap m) (X : (hd.heap_39 w.params).In h₀) (N : News h₀ L s.heap news) (T : Top hd.view_39 loose mean mg mb h₀) (hk : cs.kind = .function) (hR : dp + 1 < recursionLimit ∧ un + 8 < cLine)
  (hret : ∀ (h' : Heap) (tk' : Nat), Fr h₀ L h' m → News h₀ L h' news → Q (.str x t) { s with heap := h', toks := tk' }) :
  wpAny (model Challenge.rw_pd0147_01.row.prog w) (ktrTop dp un gd cn cs L a ccd cl outer) (call (.ref 94) [.str x t]) Q E s := by
  obtain ⟨hR1, hR2⟩ := hR
  revert X; k_fill; intro X
  refine wpAny_call ?_
  k_dflt cell_enter
  k_steps
  all_goals exact hret _ _ (by assumption) (newsDrop (by assumption) (by intro p hp; repeat (first | exact hp | apply memTail)))
theorem getsep_c {x : Str} {t : Tok}
  (B : Below A₀ base outer h₀) (F : Fr h₀ L s.heap m) (X : (hd.heap_39 w.params).In h₀) (N : News h₀ L s.heap news) (T : Top hd.view_39 loose mean mg mb h₀) (hk : cs.kind = .function) (hR : dp + 1 < recursionLimit ∧ un + 8 < cLine)
  (hret : ∀ (h' : Heap) (tk' : Nat) (t' : Tok), Fr h₀ L h' m → News h₀ L h' news → Q (.str (Str.ofString "/") t') { s with heap := h', toks := tk' }) :
  wpAny (model Challenge.rw_pd0147_01.row.prog w) (ktrTop dp un gd cn cs L a ccd cl outer) (call (.ref 108) [.str x t]) Q E s := by
  obtain ⟨hR1, hR2⟩ := hR
  revert X; k_fill; intro X
  refine wpAny_call ?_
  k_dflt cell_enter
  k_steps
  all_goals exact hret _ _ _ (by assumption) (newsDrop (by assumption) (by intro p hp; repeat (first | exact hp | apply memTail)))
end
end
section
open PySem PySem.W PyProof.Rows PySem.Calls PySem.W.X
set_option Elab.async false
set_option maxRecDepth 100000
set_option maxHeartbeats 4000000
section
variable {prog : Program} {w : World} {A : Around} {c : Code} {fs : List Frame} {P : End → Shared → Prop} {s : Shared} {env : Env}
  {K : Flow → Sem Fin} {H : Value → Sem Fin} {gd : Bool → Bool} {lv : List Value → List Value}
theorem sx_wrap {α : Type} {m : Sem α} {K : α → Sem Fin} {H : Value → Sem Fin} {gd : Bool → Bool} {lv : List Value → List Value}
    (h : wpAny (model prog w) (A.over c fs) m (fun a s' => SegX (model prog w) A c (K a) fs s' P) (fun _ _ => False) s) :
    SegX (model prog w) A c (m.wrap K H gd lv) fs s P := by
  rintro Γ p rfl hΓ
  obtain ⟨e, s', hr, hq⟩ := runs_wrap_of_wp (Φ := fun e s' => e.quiet = true ∧ P e s') K H gd lv m (h (Γ.over fs) p (hΓ.over fs)) (fun a p' s' h' => h' Γ p' rfl hΓ) (fun x p' s' h' => h'.elim)
  exact ⟨e, s', hr, hq⟩
theorem sx_eq {t t' : Sem Fin} (e : t = t') (h : SegX (model prog w) A c t' fs s P) : SegX (model prog w) A c t fs s P := by rw [e]; exact h
theorem sx_bind {α : Type} {m : Sem α} {K : α → Sem Fin}
    (h : wpAny (model prog w) (A.over c fs) m (fun a s' => SegX (model prog w) A c (K a) fs s' P) (fun _ _ => False) s) :
    SegX (model prog w) A c (m >>= K) fs s P := by
  rw [Sem.bind_eq_wrap']; exact sx_wrap h
theorem sx_at {p' : Pos} {k : Unit → Sem Fin} (h : SegX (model prog w) A c (k ()) fs s P) : SegX (model prog w) A c (.at p' k) fs s P :=
  sx_wrap (m := standAt p') (K := k) (H := .raise) (gd := id) (lv := id) (wpAny_standAt h)
theorem sx_point {l : List Value} {k : Unit → Sem Fin} (h : SegX (model prog w) A c (k ()) fs s P) : SegX (model prog w) A c (.point l k) fs s P :=
  sx_wrap (m := point) (K := k) (H := .raise) (gd := id) (lv := fun _ => l) (wpAny_point h)
theorem sx_execs_nil (h : SegX (model prog w) A c (K .next) fs s P) : SegX (model prog w) A c ((execs [] env).wrap K H gd lv) fs s P := h
theorem sx_execs_cons {st : Stmt} {rest : List Stmt}
    (h : SegX (model prog w) A c ((exec st env).wrap (fun f => match f with | .next => (execs rest env).wrap K H gd lv | f => K f) H gd lv) fs s P) :
    SegX (model prog w) A c ((execs (st :: rest) env).wrap K H gd lv) fs s P := by rw [execs_cons_wrap]; exact h
theorem sx_If {test : Expr} {body orelse : List Stmt} {pos : Pos}
    (h : wpAny (model prog w) (A.over c fs) (isTrue test env (eval test env)) (fun b s' => if b = true then SegX (model prog w) A c ((execs body env).wrap K H gd lv) fs s' P else SegX (model prog w) A c ((execs orelse env).wrap K H gd lv) fs s' P) (fun _ _ => False) s) :
    SegX (model prog w) A c ((exec (.If test body orelse pos) env).wrap K H gd lv) fs s P := by
  show SegX (model prog w) A c (.at pos fun _ => ((isTrue test env (eval test env) >>= fun b => if b = true then execs body env else execs orelse env).wrap K H gd lv)) fs s P
  refine sx_at ?_
  rw [Sem.bind_eq_wrap', Sem.wrap_wrap]
  refine sx_wrap (wpAny_mono h (fun b s' hb => ?_) fun _ _ x => x)
  cases b with
  | true => exact hb
  | false => exact hb
theorem sx_yield {e : Expr} {ypos pos : Pos} (hfs : splitAtGen fs = none) (hgd : gd false = false) (hfg : fs.any Frame.guarded = false)
    (h : wpAny (model prog w) (A.over c fs) (eval e env) (fun v s' => ∀ (p : Pos) (l : List Value) (k : Resume → Sem Fin), k (.send .none) = K .next → P (.susp v false l k c p fs) s') (fun _ _ => False) s)
    (hco : env.scope.isCoroutine = false := by rfl) (hi : interactive env = false := by rfl) :
    SegX (model prog w) A c ((exec (.Expr (.Yield (some e) ypos) pos) env).wrap K H gd lv) fs s P := by
  rw [exec_Expr env _ pos hi rfl]
  show SegX (model prog w) A c (.at pos fun _ => ((eval e env >>= fun v => (standAt ypos >>= fun _ => yieldOut env v)) >>= fun x =>
    dropValue (.Yield (some e) ypos) pos x).wrap K H gd lv) fs s P
  have hy : ∀ v, yieldOut env v = yieldValue v := fun v => by simp only [yieldOut, hco, Bool.false_eq_true, if_false]
  simp only [hy]
  refine sx_at ?_
  rw [Sem.bind_eq_wrap', Sem.bind_eq_wrap', Sem.wrap_wrap, Sem.wrap_wrap]
  refine sx_wrap (wpAny_mono h (fun v s' h' => ?_) fun _ _ x => x)
  refine sx_at ?_
  rintro Γ p rfl hΓ
  refine ⟨_, s', Runs.yield' fs hfs, by simp [End.quiet, hgd, hfg], ?_⟩
  have z := h' p (lv []) (fun x => Sem.wrap (fun a => Sem.wrap K H gd lv (dropValue (Expr.Yield (some e) ypos) pos a)) (fun e => Sem.wrap K H gd lv (Sem.raise e)) (fun g => gd (id g)) (fun l => lv (id l))
    ((Sem.pure x).bind fun r => match r with | Resume.send x => pure x | Resume.throw e => raiseThrown e)) rfl
  rw [← hgd] at z
  exact z
/-- the for statement in a generator's body: its loop runs under a frame of its own -/
theorem sx_For {target iter : Expr} {body orelse : List Stmt} {pos : Pos}
    (h : wpAny (model prog w) (A.over c fs) (eval iter env) (fun x s₁ => wpAny (model prog w) (A.over c fs) (pyIter x) (fun it s₂ =>
      ∀ p (k : Result → Sem Fin), (∀ f, k (.ok f) = K f) → SegX (model prog w) A (.forLoop target it body orelse env) (denote table (.forLoop target it body orelse env)) (.ret k none (gd false) (lv []) c p [] :: fs) s₂ P) (fun _ _ => False) s₁) (fun _ _ => False) s)
    (hs : ∀ x, foldedSetIterable iter env x = pure x := by intro _; rfl) :
    SegX (model prog w) A c ((exec (.For target iter body orelse pos) env).wrap K H gd lv) fs s P := by
  rw [exec_For]
  rw [Sem.bind_eq_wrap', Sem.wrap_wrap]
  refine sx_wrap (wpAny_standAt ?_)
  rw [Sem.bind_eq_wrap', Sem.wrap_wrap]
  refine sx_wrap (wpAny_mono h (fun x s₁ h₁ => ?_) fun _ _ x => x)
  rw [Sem.bind_eq_wrap', Sem.wrap_wrap]
  refine sx_wrap (wpAny_of_eq (hs x) ?_)
  rw [Sem.bind_eq_wrap', Sem.wrap_wrap]
  refine sx_wrap (wpAny_standAt ?_)
  rw [Sem.bind_eq_wrap', Sem.wrap_wrap]
  refine sx_wrap (wpAny_holding (wpAny_mono h₁ (fun it s₂ h₂ => ?_) fun _ _ x => x))
  rintro Γ p rfl hΓ
  obtain ⟨e, s', hr, hq⟩ := h₂ p (fun r => Sem.wrap K H gd lv ((match r with | .ok f => (.pure f : Sem Flow) | .error e => .raise e).onRaise fun (x : Value) => do
        if (← field x 1) == Value.none then unsupported "frame.own-activation:exception-without-traceback"
        setFlight x env.frame)) (fun f => rfl) (Γ.goto _) p rfl (hΓ.goto _)
  exact ⟨e, s', runs_call_seg hr, hq⟩
theorem sx_forLoop {target : Expr} {it : Value} {body orelse : List Stmt} {fs : List Frame}
    (h : wpAny (model prog w) (A.over (.forLoop target it body orelse env) fs) (pyNext it) (fun r s₁ => match r with
      | none => SegX (model prog w) A (.block orelse env) (denote table (.block orelse env)) fs s₁ P
      | some v => wpAny (model prog w) (A.over (.forLoop target it body orelse env) fs) (letOwnedTupleGo target it v) (fun _ s₂ => wpAny (model prog w) (A.over (.forLoop target it body orelse env) fs) (assign target env v) (fun _ s₃ =>
          ∀ (K : Flow → Sem Fin) (H : Value → Sem Fin), (∀ f, K f = match f with
            | .next | .cont => .pure (.again (.forLoop target it body orelse env))
            | .brk => .pure (.done .next)
            | .ret v => .pure (.done (.ret v))) →
          SegX (model prog w) A (.forLoop target it body orelse env) ((execs body env).wrap K H id id) fs s₃ P) (fun _ _ => False) s₂) (fun _ _ => False) s₁) (fun _ _ => False) s) :
    SegX (model prog w) A (.forLoop target it body orelse env) (denote table (.forLoop target it body orelse env)) fs s P := by
  show SegX _ A _ ((forTurn target it body orelse env).onRaise (fun x => do noteFrame x env; theTreesLotGoes x)) fs s P
  unfold forTurn
  rw [Sem.onRaise_eq_wrap, Sem.bind_eq_wrap', Sem.wrap_wrap]
  refine sx_wrap (wpAny_standAt ?_)
  rw [Sem.bind_eq_wrap', Sem.wrap_wrap]
  refine sx_wrap (wpAny_onRaise (wpAny_mono h (fun r s₁ h₁ => ?_) fun _ _ x => x.elim))
  cases r with
  | none =>
    show SegX (model prog w) A _ (.pure (.again (.block orelse env))) fs s₁ P
    exact s_again prog w A _ fs P s₁ _ rfl h₁
  | some v =>
    dsimp only at h₁ ⊢
    rw [Sem.bind_eq_wrap', Sem.wrap_wrap]
    refine sx_wrap (wpAny_mono h₁ (fun _ s₂ h₂ => ?_) fun _ _ x => x)
    rw [Sem.bind_eq_wrap', Sem.wrap_wrap]
    refine sx_wrap (wpAny_mono h₂ (fun _ s₃ h₃ => ?_) fun _ _ x => x)
    rw [Sem.bind_eq_wrap', Sem.wrap_wrap]
    exact h₃ _ _ (fun f => by cases f <;> rfl)
theorem sx_func {body : List Stmt}
    (h : ∀ (K : Flow → Sem Fin) (H : Value → Sem Fin), (∀ f, K f = .pure (.done (.ret (match f with | .ret v => v | _ => .none)))) → SegX (model prog w) A (.func body env) ((execs body env).wrap K H id id) fs s P) :
    SegX (model prog w) A (.func body env) (denote table (.func body env)) fs s P := by
  show SegX _ A _ (.point [] fun _ => ((execs body env).onRaise (leaving env)) >>= _) fs s P
  refine sx_point ?_
  rw [Sem.onRaise_eq_wrap, Sem.bind_eq_wrap', Sem.wrap_wrap]
  exact h _ _ (fun f => by cases f <;> rfl)
theorem sx_block_nil (h : SegX (model prog w) A (.block [] env) (.pure (.done .next)) fs s P) : SegX (model prog w) A (.block [] env) (denote table (.block [] env)) fs s P := h
theorem sx_done {f : Flow} {k : Result → Sem Fin} {hd : Option Value} {g : Bool} {l : List Value} {c₁ : Code} {p₁ : Pos} {kp : List Value} (h : SegX (model prog w) A c₁ (k (.ok f)) fs s P) :
    SegX (model prog w) A c (.pure (.done f)) (.ret k hd g l c₁ p₁ kp :: fs) s P := s_pop prog w A c fs P s (.ok f) _ rfl k hd g l c₁ p₁ kp h
theorem sx_end {f : Flow} (h : P (.ret (.ok f)) s) : SegX (model prog w) A c (.pure (.done f)) [] s P := s_end prog w A c P s (.ok f) _ rfl h
theorem sx_again {c' : Code} (hq : c'.quiet = true) (h : SegX (model prog w) A c' (denote table c') fs s P) : SegX (model prog w) A c (.pure (.again c')) fs s P := s_again prog w A c fs P s c' hq h
end
end
section
open PySem PySem.W PyProof.Rows PySem.Calls PySem.W.X
set_option Elab.async false
set_option maxRecDepth 100000
set_option maxHeartbeats 4000000
abbrev Word := Int × Str
section
variable {prog : Program} {w : World}
def Resumes (prog : Program) (w : World) (A : Around) (gs : GenState) (s : Shared) (P : End → Shared → Prop) : Prop := match gs with
  | .fresh c => SegX (model prog w) A c (denote table c) [] s P
  | .suspended k _ c _ fs _ => SegX (model prog w) A c (k (.send .none)) fs s P
  | _ => False
/-- what a piece of a generator's run leaves alone -/
structure Kept (fp : List Addr) (s s' : Shared) : Prop where
  heap : ∀ b o, b ∉ fp → s.heap.get? b = some o → s'.heap.get? b = some o
  gens : s'.gens = s.gens
  drawn : s'.drawn = s.drawn
  os : s'.os = s.os
theorem Kept.refl {fp : List Addr} {s : Shared} : Kept fp s s := ⟨fun _ _ _ e => e, rfl, rfl, rfl⟩
theorem Kept.trans {fp : List Addr} {s s' s'' : Shared} (x : Kept fp s s') (y : Kept fp s' s'') : Kept fp s s'' :=
  ⟨fun b o hb e => y.heap b o hb (x.heap b o hb e), y.gens.trans x.gens, y.drawn.trans x.drawn, y.os.trans x.os⟩
def pairObj (i : Int) (t1 : Tok) (x : Str) (t2 : Tok) : Obj := { cls := .type "tuple", data := .seq #[.int i t1, .str x t2] }
/-- a generator that has these words still to give -/
def Ready (prog : Program) (w : World) (A : Around) (h₀ : Heap) : List Addr → List Word → GenState → Heap → Prop
  | fp, [], gs, h => ∀ s : Shared, (∀ b ∈ fp, ∀ o, h.get? b = some o → s.heap.get? b = some o) → (∀ b o, h₀.get? b = some o → s.heap.get? b = some o) →
      Resumes prog w A gs s fun e s' => e = .ret (.ok (.ret .none)) ∧ Kept fp s s'
  | fp, p :: r, gs, h => ∀ s : Shared, (∀ b ∈ fp, ∀ o, h.get? b = some o → s.heap.get? b = some o) → (∀ b o, h₀.get? b = some o → s.heap.get? b = some o) →
      Resumes prog w A gs s fun e s' => ∃ fp' T t1 t2, e.result = .yielded (.ref T) ∧ e.quiet = true ∧ s'.heap.get? T = some (pairObj p.1 t1 p.2 t2) ∧ (s.heap.get? T = none ∨ T ∈ fp) ∧ (∀ b ∈ fp', b ∈ fp ∨ s.heap.get? b = none) ∧ T ∉ fp' ∧ (∀ b ∈ fp', ∃ o, s'.heap.get? b = some o) ∧
        Kept fp s s' ∧ Ready prog w A h₀ fp' r e.genState s'.heap
/-- how a piece of the run from s₀ on ends, these words being still to be given -/
def Out (prog : Program) (w : World) (A : Around) (h₀ : Heap) (fp : List Addr) (ws : List Word) (s₀ : Shared) (e : End) (s' : Shared) : Prop := match ws with
  | [] => e = .ret (.ok (.ret .none)) ∧ Kept fp s₀ s'
  | p :: r => ∃ fp' T t1 t2, e.result = .yielded (.ref T) ∧ e.quiet = true ∧ s'.heap.get? T = some (pairObj p.1 t1 p.2 t2) ∧ (s₀.heap.get? T = none ∨ T ∈ fp) ∧ (∀ b ∈ fp', b ∈ fp ∨ s₀.heap.get? b = none) ∧ T ∉ fp' ∧ (∀ b ∈ fp', ∃ o, s'.heap.get? b = some o) ∧
        Kept fp s₀ s' ∧ Ready prog w A h₀ fp' r e.genState s'.heap
theorem ready_of {A : Around} {h₀ h : Heap} {fp : List Addr} {ws : List Word} {gs : GenState}
    (x : ∀ s : Shared, (∀ b ∈ fp, ∀ o, h.get? b = some o → s.heap.get? b = some o) → (∀ b o, h₀.get? b = some o → s.heap.get? b = some o) → Resumes prog w A gs s (Out prog w A h₀ fp ws s)) : Ready prog w A h₀ fp ws gs h := by
  cases ws with
  | nil => exact x
  | cons p r => exact x
theorem Ready.mono {A : Around} {h₀ h h' : Heap} {fp : List Addr} {ws : List Word} {gs : GenState} (R : Ready prog w A h₀ fp ws gs h) (hk : ∀ b ∈ fp, ∀ o, h.get? b = some o → h'.get? b = some o) : Ready prog w A h₀ fp ws gs h' := by
  cases ws with
  | nil => exact fun s h1 h2 => R s (fun b hb o e => h1 b hb o (hk b hb o e)) h2
  | cons p r => exact fun s h1 h2 => R s (fun b hb o e => h1 b hb o (hk b hb o e)) h2
/-- a loop of a generator's body by what is left to be read -/
theorem loopInd {A : Around} {C : Code} {fs : List Frame} (Inv : List Nat → Nat → Bool → Shared → Shared → Prop) (Po : List Nat → Nat → Bool → Shared → End → Shared → Prop)
    (turn : ∀ r i esc s s₀, (∀ r' i' esc' s' s₀', r'.length < r.length → Inv r' i' esc' s' s₀' → SegX (model prog w) A C (denote table C) fs s' (Po r' i' esc' s₀')) → Inv r i esc s s₀ → SegX (model prog w) A C (denote table C) fs s (Po r i esc s₀))
    (r : List Nat) : ∀ i esc s s₀, Inv r i esc s s₀ → SegX (model prog w) A C (denote table C) fs s (Po r i esc s₀) := by
  have key : ∀ (n : Nat) (r : List Nat), r.length ≤ n → ∀ i esc s s₀, Inv r i esc s s₀ → SegX (model prog w) A C (denote table C) fs s (Po r i esc s₀) := by
    intro n
    induction n with
    | zero => exact fun r hr i esc s s₀ h => turn r i esc s s₀ (fun r' _ _ _ _ hlt => by omega) h
    | succ n ih => exact fun r hr i esc s s₀ h => turn r i esc s s₀ (fun r' i' esc' s' s₀' hlt h' => ih r' (by omega) i' esc' s' s₀' h') h
  exact key r.length r (Nat.le_refl _)
/-- the words that _iter_escaped_chars gives of the signs from place i on -/
def wordsOf : Bool → Nat → List Nat → List Word
  | false, _, [] => []
  | true, i, [] => [((i : Int) - 1, Str.ofString "\\")]
  | true, i, c :: r => ((i : Int), Str.ofString "\\" ++ ⟨#[c]⟩) :: wordsOf false (i + 1) r
  | false, i, c :: r => if (⟨#[c]⟩ : Str) = Str.ofString "\\" then wordsOf true (i + 1) r else ((i : Int), ⟨#[c]⟩) :: wordsOf false (i + 1) r
theorem Ready.live {A : Around} {h₀ h : Heap} {fp : List Addr} {ws : List Word} {gs : GenState} (R : Ready prog w A h₀ fp ws gs h) (hk : ∀ b o, h₀.get? b = some o → h.get? b = some o) :
    (∃ c, gs = .fresh c) ∨ ∃ k l c p fs cl, gs = .suspended k l c p fs cl := by
  have key : ∀ P, Resumes prog w A gs { heap := h } P → (∃ c, gs = .fresh c) ∨ ∃ k l c p fs cl, gs = .suspended k l c p fs cl := by
    intro P x
    cases gs with
    | fresh c => exact .inl ⟨c, rfl⟩
    | suspended k l c p fs cl => exact .inr ⟨k, l, c, p, fs, cl, rfl⟩
    | running => exact x.elim
    | finished => exact x.elim
  cases ws with
  | nil => exact key _ (R { heap := h } (fun _ _ _ e => e) hk)
  | cons p r => exact key _ (R { heap := h } (fun _ _ _ e => e) hk)
theorem resume_any {A : Around} {E : Value → Shared → Prop} {s : Shared} {α : Type} {g : Nat} {gs : GenState} {l : List Value} {k : GenResult → Sem α} {Q : α → Shared → Prop} (hg : s.gens[g]? = some gs)
    (x : Resumes prog w A gs (s.setGen g .running) (fun e s₁ => wpAny (model prog w) A (k e.result) Q E (s₁.setGen g e.genState))) :
    wpAny (model prog w) A (.resume g (.send .none) l k) Q E s := by
  intro Γ p hΓ
  cases gs with
  | running => exact x.elim
  | finished => exact x.elim
  | fresh c =>
    exact wake_any α prog w hg (.inl ⟨rfl, rfl, rfl, rfl⟩) (fun Γ => Γ.In A) (fun _ h => h) (SegX.mono x fun e s₁ h Γ p hC => h Γ p hC) Γ p hΓ
  | suspended k₀ l₀ c₀ p₀ fs₀ cl =>
    exact wake_any α prog w hg (.inr ⟨k₀, l₀, p₀, cl, rfl, rfl⟩) (fun Γ => Γ.In A) (fun _ h => h) (SegX.mono x fun e s₁ h Γ p hC => h Γ p hC) Γ p hΓ
theorem next_gen {A : Around} {E : Value → Shared → Prop} {s : Shared} {h₀ h : Heap} {fp : List Addr} {ws : List Word} {a : Addr} {g : Nat} {gs : GenState} {Q : Option Value → Shared → Prop} (hh : A.handled = none)
    (hl : s.heap.NoLimit) (hroom : A.depth < recursionLimit) (hg : s.heap.IsGen a g) (hgs : s.gens[g]? = some gs)
    (R : Ready prog w A.in1 h₀ fp ws gs h) (hf : ∀ b ∈ fp, ∀ o, h.get? b = some o → s.heap.get? b = some o) (hk : ∀ b o, h₀.get? b = some o → s.heap.get? b = some o)
    (hk₀ : ∀ b o, h₀.get? b = some o → h.get? b = some o) (haf : AllBare s.gens)
    (item : ∀ p r, ws = p :: r → ∀ fp' T t1 t2 (s' : Shared) gs', s'.heap.get? T = some (pairObj p.1 t1 p.2 t2) → (s.heap.get? T = none ∨ T ∈ fp) → (∀ b ∈ fp', b ∈ fp ∨ s.heap.get? b = none) → T ∉ fp' → (∀ b ∈ fp', ∃ o, s'.heap.get? b = some o) → (∀ b o, b ∉ fp → s.heap.get? b = some o → s'.heap.get? b = some o) →
      s'.drawn = s.drawn → s'.os = s.os → s'.gens[g]? = some gs' → AllBare s'.gens → Ready prog w A.in1 h₀ fp' r gs' s'.heap → Q (some (.ref T)) s')
    (done : ws = [] → ∀ s' : Shared, (∀ b o, b ∉ fp → s.heap.get? b = some o → s'.heap.get? b = some o) → s'.drawn = s.drawn → s'.os = s.os → AllBare s'.gens → Q none s') :
    wpAny (model prog w) A (pyNext (.ref a)) Q E s := by
  unfold pyNext
  refine wpAny_bind (wpAny_attempt (wpAny_callSpecial?_slot (name := Str.ofString "__next__") hg.typeIs slot_gen_next
    (wpAny_call_entry slot_gen_next hg.typeIs entry_gen_next ?_ (args_gen_next _))))
  show wpAny _ _ (Builtin.Generator.genWake (.ref a) (.send .none)) _ _ s
  unfold Builtin.Generator.genWake
  refine wpAny_bind (wpAny_holding (wpAny_genNumber hg (wpAny_bind (wpAny_genState hgs ?_))))
  have gsz : g < s.gens.size := by
    rcases Nat.lt_or_ge g s.gens.size with q | q
    · exact q
    · rw [Array.getElem?_eq_none q] at hgs; cases hgs
  have bareSet : ∀ (x y : GenState), y.bare = true → AllBare ((s.gens.setIfInBounds g x).setIfInBounds g y) := by
    intro x y hy z hz
    have : z ∈ ((s.gens.setIfInBounds g x).setIfInBounds g y) := hz
    rw [Array.setIfInBounds_setIfInBounds] at this
    rcases Array.mem_or_eq_of_mem_setIfInBounds this with q | q
    · exact haf z q
    · rw [q]; exact hy
  rcases R.live hk₀ with ⟨c, rfl⟩ | ⟨k₀, l₀, c₀, p₀, fs₀, cl, rfl⟩
  all_goals
    refine wpAny_bind (wpAny_roomToWake hl hroom ?_)
    show wpAny _ _ (.resume g (.send .none) [] _) _ _ s
    refine resume_any hgs ?_
    cases ws with
    | nil =>
      have z := R (s.setGen g .running) hf hk
      refine SegX.mono z fun e s₁ h₁ => ?_
      obtain ⟨rfl, K⟩ := h₁
      have hgn : (s₁.setGen g .finished).gens = (s.gens.setIfInBounds g .running).setIfInBounds g .finished := by show s₁.gens.setIfInBounds g .finished = _; rw [K.gens]; rfl
      show wpAny _ _ (newExc (.type "StopIteration") [] >>= _) _ _ _
      refine wpAny_bind ?_
      simp only [newExc, newTuple]
      refine wpAny_bind (wpAny_newObj_type ?_ (by size_fits))
      refine wpAny_bind (m := firstArgMember _ _) (wpAny_of_eq (a := Value.none) (by first | rfl | (simp only [firstArgMember]; rfl)) ?_)
      refine wpAny_newObj_type ?_ (by size_fits)
      simp only [raiseNew]
      refine wpAny_bind (wpAny_bind (wpAny_handled ?_))
      rw [show A.in1.handled = none from hh]
      refine wpAny_throw ?_
      refine wpAny_bind (wpAny_isInstance (T := "StopIteration") (b := true) ⟨_, Heap.get?_push_size _ rfl, rfl⟩ isSubtype_stop ?_)
      refine wpAny_pure (done rfl _ (fun b o hb e => Heap.get?_push_of_some _ (Heap.get?_push_of_some _ (K.heap b o hb e))) K.drawn K.os ?_)
      show AllBare (s₁.setGen g .finished).gens
      rw [hgn]
      exact bareSet _ _ rfl
    | cons p r =>
      have z := R (s.setGen g .running) hf hk
      refine SegX.mono z fun e s₁ h₁ => ?_
      obtain ⟨fp', T, t1, t2, hr, hqt, hT, hn, hsz, hTf, hlv, K, R'⟩ := h₁
      rw [hr]
      have hgn : (s₁.setGen g e.genState).gens = (s.gens.setIfInBounds g .running).setIfInBounds g e.genState := by show s₁.gens.setIfInBounds g e.genState = _; rw [K.gens]; rfl
      have hbare : e.genState.bare = true := by
        cases e with
        | ret x => rfl
        | susp v g0 l k c p fs => simpa [End.quiet, End.genState, GenState.bare] using hqt
      refine wpAny_pure ⟨_, rfl, wpAny_pure (item p r rfl fp' T t1 t2 _ e.genState hT hn hsz hTf hlv (fun b o hb x => K.heap b o hb x) K.drawn K.os ?_ ?_ R')⟩
      · rw [hgn]
        simp [gsz]
      · rw [hgn]
        exact bareSet _ _ hbare
end
end
section
open PySem PySem.W PyProof.Rows PySem.Calls PySem.W.X
set_option Elab.async false
set_option maxRecDepth 100000
set_option maxHeartbeats 4000000
/-- the state of an enumerate over a text's signs -/
def EnumAt (h : Heap) (e it : Addr) (x : Str) (t : Tok) (i : Nat) : Prop := (∃ old, IsEnum h e it i old) ∧ h.IsStrIter it (strIterType x) x t i
theorem EnumAt.at' {h h' : Heap} {e it : Addr} {x : Str} {t : Tok} {i : Nat} (E : EnumAt h e it x t i) (hk : ∀ b, b = e ∨ b = it → ∀ o, h.get? b = some o → h'.get? b = some o) : EnumAt h' e it x t i :=
  ⟨let ⟨o, q⟩ := E.1; ⟨o, hk e (.inl rfl) _ q⟩, let ⟨o, ho, r⟩ := E.2; ⟨o, hk it (.inr rfl) o ho, r⟩⟩
theorem drawsStr {prog : Program} {w : World} {A : Around} (hh : A.handled = none) (it : Addr) (x : Str) (t : Tok) :
    Draws prog w A it [it] x.cps.size (fun i v => ∃ c u, x.cps[i]? = some c ∧ v = .str ⟨#[c]⟩ u) (fun i h => h.IsStrIter it (strIterType x) x t i) := by
  unfold strIterType
  split
  · exact Draws.strAscii hh it x t
  · exact Draws.strWide hh it x t
section
variable {prog : Program} {w : World} {A : Around} {fs : List Frame} {P : End → Shared → Prop} {s : Shared} {env : Env} {h₀ : Heap} {m : Str → Option Value} {xi xv : Str} {pi pv pt : Pos} {x1 : Nat} {body : List Stmt} {e it Lg : Addr} {x : Str} {t : Tok} {i c : Nat}
theorem sx_turn (hL : env.locals = Lg) (hxi : env.kindOf xi = some .local) (hxv : env.kindOf xv = some .local)
    (hp : (env.scope.kind == .class || (env.scope.kind == .module && env.locals != env.globals)) = false)
    (hh : (A.over (.forLoop (.Tuple [.Name xi pi, .Name xv pv] x1 pt) (.ref e) body [] env) fs).handled = none)
    (F : Fr h₀ Lg s.heap m) (hei : e ≠ it) (heL : Lg ≠ e) (hiL : Lg ≠ it) (h0e : h₀.get? e = none) (h0i : h₀.get? it = none) (hst : EnumAt s.heap e it x t i) (hc : x.cps[i]? = some c)
    (next : ∀ h' tk' t1 u, Fr h₀ Lg h' (fun y => if y = xv then some (.str ⟨#[c]⟩ u) else if y = xi then some (.int i t1) else m y) → EnumAt h' e it x t (i + 1) →
      (∀ b o, b ≠ Lg → b ≠ e → b ≠ it → s.heap.get? b = some o → h'.get? b = some o) →
      ∀ (K : Flow → Sem Fin) (H : Value → Sem Fin), (∀ f, K f = match f with
            | .next | .cont => .pure (.again (.forLoop (.Tuple [.Name xi pi, .Name xv pv] x1 pt) (.ref e) body [] env))
            | .brk => .pure (.done .next)
            | .ret v => .pure (.done (.ret v))) →
      SegX (model prog w) A (.forLoop (.Tuple [.Name xi pi, .Name xv pv] x1 pt) (.ref e) body [] env) ((execs body env).wrap K H id id) fs { s with heap := h', toks := tk' } P) :
    SegX (model prog w) A (.forLoop (.Tuple [.Name xi pi, .Name xv pv] x1 pt) (.ref e) body [] env) (denote table (.forLoop (.Tuple [.Name xi pi, .Name xv pv] x1 pt) (.ref e) body [] env)) fs s P := by
  subst hL
  have W := WalksT.enumerateD (prog := prog) (w := w) (A := A.over (.forLoop (.Tuple [.Name xi pi, .Name xv pv] x1 pt) (.ref e) body [] env) fs) (drawsStr (A := (A.over (.forLoop (.Tuple [.Name xi pi, .Name xv pv] x1 pt) (.ref e) body [] env) fs).in1) hh it x t) e hei (by simpa using hei) (by simp)
  have hlt : i < x.cps.size := by
    rcases Nat.lt_or_ge i x.cps.size with q | q
    · exact q
    · rw [Array.getElem?_eq_none q] at hc; cases hc
  refine sx_forLoop (W.item i s _ _ hlt hst fun T vals h₁ tk₁ hPt hsz hT hMid hk₁ => ?_)
  obtain ⟨t1, v, ⟨c', u, hc', rfl⟩, rfl⟩ := hPt
  have : c' = c := Option.some.inj (hc'.symm.trans hc)
  subst this
  refine W.go _ _ _ i T _ _ _ hMid fun h₂ hst₂ hk₂ => ?_
  have hTw : T ∉ [e, it] := W.apart i T _ hMid
  have hT₂ : h₂.IsTuple T #[.int i t1, .str ⟨#[c']⟩ u] := let ⟨o, ho, r⟩ := hT; ⟨o, hk₂ T o hTw ho, r⟩
  refine wpAny_assign_Tuple hh hT₂ rfl rfl fun h₃ hx₃ => ?_
  replace hx₃ : Heap.ExtBut h₂.objs.size h₂ h₃ := hx₃
  have old₃ : ∀ b o, h₂.get? b = some o → h₃.get? b = some o := fun b o q => hx₃ b o (Nat.ne_of_lt (Heap.lt_size q)) q
  have keep₃ : ∀ b o, b ≠ e → b ≠ it → s.heap.get? b = some o → h₃.get? b = some o := fun b o hbe hbi q => old₃ b o (hk₂ b o (by simp [hbe, hbi]) (hk₁ b o (by simp [hbe, hbi]) q))
  have F₃ : Fr h₀ env.locals h₃ m := ⟨F.ns.at' fun o q => keep₃ _ o heL hiL q, fun b o q => keep₃ b o (fun z => by rw [z, h0e] at q; cases q) (fun z => by rw [z, h0i] at q; cases q) (F.keep b o q), F.above⟩
  show wpAny _ _ (do holding [.str ⟨#[c']⟩ u] (assign (.Name xi pi) env (.int i t1)); do holding [] (assign (.Name xv pv) env (.str ⟨#[c']⟩ u)); pure ()) _ _ _
  refine wpAny_bind (wpAny_holding (wpAny_assign_Name (wpAny_storeName_local hxi F₃.ns (fun h₄ hn₄ hs₄ => ?_) hp)))
  replace hs₄ : Heap.SameBut env.locals h₃ h₄ := hs₄
  have F₄ := F₃.set hn₄ hs₄
  refine wpAny_bind (wpAny_holding (wpAny_assign_Name (wpAny_storeName_local hxv F₄.ns (fun h₅ hn₅ hs₅ => wpAny_pure ?_) hp)))
  replace hs₅ : Heap.SameBut env.locals h₄ h₅ := hs₅
  have F₅ := F₄.set hn₅ hs₅
  have k5 : ∀ b o, b ≠ env.locals → h₃.get? b = some o → h₅.get? b = some o := fun b o hb q => (hs₅.2 b hb).trans ((hs₄.2 b hb).trans q)
  intro K H hK
  have E2 : EnumAt h₂ e it x t (i + 1) := hst₂
  refine next h₅ _ t1 u F₅ (E2.at' fun b hb o q => k5 b o (by rcases hb with rfl | rfl; exact Ne.symm heL; exact Ne.symm hiL) (old₃ b o q)) (fun b o hb hbe hbi q => k5 b o hb (keep₃ b o hbe hbi q)) K H hK
theorem sx_over (hL : env.locals = Lg) 
    (hh : (A.over (.forLoop (.Tuple [.Name xi pi, .Name xv pv] x1 pt) (.ref e) body [] env) fs).handled = none)
    (F : Fr h₀ Lg s.heap m) (hei : e ≠ it) (heL : Lg ≠ e) (hiL : Lg ≠ it) (h0e : h₀.get? e = none) (h0i : h₀.get? it = none) (hst : EnumAt s.heap e it x t x.cps.size)
    (next : ∀ h' tk', Fr h₀ Lg h' m → (∀ b o, b ≠ e → b ≠ it → s.heap.get? b = some o → h'.get? b = some o) → SegX (model prog w) A (.block [] env) (.pure (.done .next)) fs { s with heap := h', toks := tk' } P) :
    SegX (model prog w) A (.forLoop (.Tuple [.Name xi pi, .Name xv pv] x1 pt) (.ref e) body [] env) (denote table (.forLoop (.Tuple [.Name xi pi, .Name xv pv] x1 pt) (.ref e) body [] env)) fs s P := by
  subst hL
  have W := WalksT.enumerateD (prog := prog) (w := w) (A := A.over (.forLoop (.Tuple [.Name xi pi, .Name xv pv] x1 pt) (.ref e) body [] env) fs) (drawsStr (A := (A.over (.forLoop (.Tuple [.Name xi pi, .Name xv pv] x1 pt) (.ref e) body [] env) fs).in1) hh it x t) e hei (by simpa using hei) (by simp)
  refine sx_forLoop (W.done s _ _ hst fun h₁ tk₁ hk₁ => sx_block_nil (next h₁ tk₁ ?_ fun b o hbe hbi q => hk₁ b o (by simp [hbe, hbi]) q))
  exact ⟨F.ns.at' fun o q => hk₁ _ o (by simp [heL, hiL]) q, fun b o q => hk₁ b o (by
    intro hb
    rcases List.mem_cons.mp hb with z | z
    · rw [z, h0e] at q; cases q
    · rw [List.mem_singleton.mp z, h0i] at q; cases q) (F.keep b o q), F.above⟩
end
def fpOf (Lg e it : Addr) (s₀ : Shared) : List Addr := if (s₀.heap.get? e).isSome then [Lg, e, it] else [Lg]
theorem fpOf_sub {Lg e it b : Addr} {s₀ : Shared} (h : b ∈ fpOf Lg e it s₀) : b ∈ [Lg, e, it] := by
  unfold fpOf at h
  split at h
  · exact h
  · rw [List.mem_singleton.mp h]; exact .head _
def ownAll (h₀ : Heap) (L : Addr) (h : Heap) : List (Addr × Obj) := ownOf h₀ ((List.range h.objs.size).filter fun b => decide (b ≠ L)) h
theorem ownAll_news {h₀ h : Heap} {L : Addr} : News h₀ L h (ownAll h₀ L h) := news_ownOf (by simp)
theorem mem_ownAll {h₀ h : Heap} {L b : Addr} {o : Obj} (hb : b ≠ L) (q : h₀.get? b = none) (e : h.get? b = some o) : (b, o) ∈ ownAll h₀ L h :=
  mem_ownOf (List.mem_filter.mpr ⟨List.mem_range.mpr (Heap.lt_size e), by simpa using hb⟩) q e
theorem ownAll_kept {h₀ h h' : Heap} {L : Addr} {m : Str → Option Value} {news : List (Addr × Obj)} (hk : ∀ b o, h₀.get? b = some o → h.get? b = some o) (F : Fr h₀ L h' m) (N : News h₀ L h' news) (hs : ∀ p ∈ ownAll h₀ L h, p ∈ news) :
    ∀ b o, b ≠ L → h.get? b = some o → h'.get? b = some o := by
  intro b o hb e
  cases q : h₀.get? b with
  | some o' =>
    have : o' = o := Option.some.inj ((hk b o' q).symm.trans e)
    exact this ▸ F.keep b o' q
  | none => exact (N _ (hs (b, o) (mem_ownAll hb q e))).1
theorem sec_new {h₀ ha hb : Heap} {Lg T : Addr} {o : Obj} {own : List (Addr × Obj)} (hown : ownAll h₀ Lg ha = own) (l : ∀ p ∈ own, p.1 < T) (N : News h₀ Lg hb ((T, o) :: own)) : ha.get? T = none := by
  cases q : ha.get? T with
  | none => rfl
  | some o' =>
    have z := N _ (.head _)
    exact absurd (l (T, o') (hown ▸ mem_ownAll z.2.1 z.2.2 q)) (Nat.lt_irrefl _)
theorem fr_form {h₀ h : Heap} {Lg : Addr} {m' : Str → Option Value} {b : Bool} {pv : Int} {tp : Tok} (F : Fr h₀ Lg h m') (h1 : m' (Str.ofString "escape") = some (.bool b)) (h2 : m' (Str.ofString "pos") = some (.int pv tp)) :
    Fr h₀ Lg h (fun y => if y = Str.ofString "escape" then some (.bool b) else if y = Str.ofString "pos" then some (.int pv tp) else m' y) := by
  have e : (fun y => if y = Str.ofString "escape" then some (Value.bool b) else if y = Str.ofString "pos" then some (.int pv tp) else m' y) = m' := by
    funext y
    by_cases q : y = Str.ofString "escape"
    · rw [if_pos q, q, h1]
    · rw [if_neg q]
      by_cases q2 : y = Str.ofString "pos"
      · rw [if_pos q2, q2, h2]
      · rw [if_neg q2]
  rw [e]; exact F
structure GInv (h₀ : Heap) (Lg e it : Addr) (x : Str) (t : Tok) (r : List Nat) (i : Nat) (esc : Bool) (s s₀ : Shared) : Prop where
  rest : x.cps.toList.drop i = r
  le : i ≤ x.cps.size
  fr : ∃ (m : Str → Option Value) (pv : Int) (tp : Tok), Fr h₀ Lg s.heap (fun y => if y = Str.ofString "escape" then some (.bool esc) else if y = Str.ofString "pos" then some (.int pv tp) else m y) ∧ (esc = true → pv = (i : Int) - 1)
  st : EnumAt s.heap e it x t i
  kept : Kept (fpOf Lg e it s₀) s₀ s
  fp : ∀ b ∈ [Lg, e, it], b ∈ fpOf Lg e it s₀ ∨ s₀.heap.get? b = none
/-- an old state's free address is one that a later state has free -/
theorem free_back {Lg e it T : Addr} {s₀ s : Shared} (K : Kept (fpOf Lg e it s₀) s₀ s) (hT : s.heap.get? T = none) : s₀.heap.get? T = none ∨ T ∈ fpOf Lg e it s₀ := by
  by_cases z : T ∈ fpOf Lg e it s₀
  · exact .inr z
  · cases q : s₀.heap.get? T with
    | none => exact .inl rfl
    | some o =>
      have := K.heap T o z q
      rw [hT] at this; cases this
theorem EnumAt.lives {h₀ h : Heap} {Lg e it : Addr} {x : Str} {t : Tok} {i : Nat} {m : Str → Option Value} (E : EnumAt h e it x t i) (F : Fr h₀ Lg h m) : ∀ b ∈ [Lg, e, it], ∃ o, h.get? b = some o := by
  intro b hb
  rcases List.mem_cons.mp hb with rfl | hb
  · let ⟨o, _, _, q, _⟩ := F.ns; exact ⟨o, q⟩
  · rcases List.mem_cons.mp hb with rfl | hb
    · let ⟨_, q⟩ := E.1; exact ⟨_, q⟩
    · rw [List.mem_singleton.mp hb]
      let ⟨o, q, _⟩ := E.2; exact ⟨o, q⟩
/-- a yield: what is given and what is left -/
theorem out_yield {prog : Program} {w : World} {A : Around} {h₀ : Heap} {Lg e it T : Addr} {sa s₀ sb : Shared} {i : Int} {t1 t2 : Tok} {ch : Str} {ws : List Word} {l : List Value} {k : Resume → Sem Fin} {c : Code} {p : Pos} {fs : List Frame} (fp' : List Addr)
    (hKa : Kept (fpOf Lg e it s₀) s₀ sa) (hKb : ∀ b o, b ≠ Lg → sa.heap.get? b = some o → sb.heap.get? b = some o) (hb : sb.gens = sa.gens ∧ sb.drawn = sa.drawn ∧ sb.os = sa.os)
    (hfp : ∀ b ∈ fp', b ∈ fpOf Lg e it s₀ ∨ s₀.heap.get? b = none) (hTf : T ∉ fp') (hT : sa.heap.get? T = none) (hTo : sb.heap.get? T = some (pairObj i t1 ch t2))
    (hfs : fs.any Frame.guarded = false) (hg : Lg ∈ fpOf Lg e it s₀) (hlv : ∀ b ∈ fp', ∃ o, sb.heap.get? b = some o)
    (R : Ready prog w A h₀ fp' ws (.suspended k l c p fs false) sb.heap) :
    Out prog w A h₀ (fpOf Lg e it s₀) ((i, ch) :: ws) s₀ (.susp (.ref T) false l k c p fs) sb := by
  refine ⟨fp', T, t1, t2, rfl, by simp [End.quiet, hfs], hTo, free_back hKa hT, hfp, hTf, hlv, ⟨fun b o hbf q => ?_, hb.1.trans hKa.gens, hb.2.1.trans hKa.drawn, hb.2.2.trans hKa.os⟩, ?_⟩
  · exact hKb b o (fun z => hbf (z ▸ hg)) (hKa.heap b o hbf q)
  · show Ready prog w A h₀ fp' ws (.suspended k l c p fs (false || fs.any Frame.guarded)) sb.heap
    rw [hfs]; exact R
theorem Lg_mem {Lg e it : Addr} {s₀ : Shared} : Lg ∈ fpOf Lg e it s₀ := by unfold fpOf; split <;> exact .head _
theorem kept_step {Lg e it : Addr} {s₀ sa sb : Shared} (hKa : Kept (fpOf Lg e it s₀) s₀ sa) (hfp : ∀ b ∈ [Lg, e, it], b ∈ fpOf Lg e it s₀ ∨ s₀.heap.get? b = none)
    (hk : ∀ b o, b ≠ Lg → b ≠ e → b ≠ it → sa.heap.get? b = some o → sb.heap.get? b = some o) (hb : sb.gens = sa.gens ∧ sb.drawn = sa.drawn ∧ sb.os = sa.os) : Kept (fpOf Lg e it s₀) s₀ sb := by
  refine ⟨fun b o hbf q => ?_, hb.1.trans hKa.gens, hb.2.1.trans hKa.drawn, hb.2.2.trans hKa.os⟩
  have out : ∀ c ∈ [Lg, e, it], b ≠ c := fun c hc z => by
    subst z
    rcases hfp b hc with h | h
    · exact hbf h
    · rw [h] at q; cases q
  exact hk b o (out Lg (.head _)) (out e (.tail _ (.head _))) (out it (.tail _ (.tail _ (.head _)))) (hKa.heap b o hbf q)
theorem fpOf_full {Lg e it : Addr} {s : Shared} (h : ∃ o, s.heap.get? e = some o) : fpOf Lg e it s = [Lg, e, it] := by
  obtain ⟨o, q⟩ := h
  simp [fpOf, q]
end
section
open PySem PySem.W PyProof.Rows PySem.Calls PySem.W.X
set_option Elab.async false
set_option maxRecDepth 100000
set_option maxHeartbeats 4000000
abbrev adrs (l : List (Addr × Obj)) : List Addr := l.map (·.1)
section
variable {prog : Program} {w : World} {A : Around} {s : Shared} {env : Env} {h₀ : Heap}
theorem forLoopT {R : Result → Shared → Prop} {target it body orelse env} (I : Nat → Shared → Prop)
    (turn : ∀ n s, I n s → wpAny (model prog w) A (pyNext it) (fun r s₁ => match r with
      | none => wpAny (model prog w) A (execs orelse env) (fun f s₃ => R (.ok f) s₃) (notedBy (model prog w) A env fun e s' => R (.error e) s') s₁
      | some v => wpAny (model prog w) A (letOwnedTupleGo target it v) (fun _ s₀ => wpAny (model prog w) A (assign target env v) (fun _ s₂ => wpAny (model prog w) A (execs body env) (fun f s₃ => match f with
          | .next | .cont => ∃ m, m < n ∧ I m s₃
          | .brk => R (.ok .next) s₃
          | .ret v => R (.ok (.ret v)) s₃) (notedBy (model prog w) A env fun e s' => R (.error e) s') s₂) (notedBy (model prog w) A env fun e s' => R (.error e) s') s₀) (notedBy (model prog w) A env fun e s' => R (.error e) s') s₁) (notedBy (model prog w) A env fun e s' => R (.error e) s') s)
    (n : Nat) (h : I n s) : codeAny (model prog w) A (.forLoop target it body orelse env) R s := by
  refine codeAny_loop' rfl I (fun n s hI => ?_) n h
  show wpAny _ _ ((forTurn target it body orelse env).onRaise (fun x => do noteFrame x env; theTreesLotGoes x)) _ _ s
  refine wpAny_noted ?_
  simp only [forTurn]
  refine wpAny_bind (wpAny_standAt (wpAny_bind (wpAny_onRaise (wpAny_mono (turn n s hI) (fun r s₁ h₁ => ?_) fun _ _ h' => wpAny_standAt h'))))
  cases r with
  | none => exact wpAny_pure (.inr ⟨rfl, codeAny_block h₁⟩)
  | some v =>
    refine wpAny_bind (wpAny_mono h₁ (fun _ s₀ h₀ => ?_) fun _ _ h' => h')
    refine wpAny_bind (wpAny_mono h₀ (fun _ s₂ h₂ => wpAny_bind (wpAny_mono h₂ (fun f s₃ h₃ => ?_) fun _ _ h' => h')) fun _ _ h' => h')
    cases f with
    | next => exact wpAny_pure (.inl ⟨rfl, h₃⟩)
    | cont => exact wpAny_pure (.inl ⟨rfl, h₃⟩)
    | brk => exact wpAny_pure h₃
    | ret v => exact wpAny_pure h₃
theorem letGoGen {elts : List Expr} {x1 : Nat} {pt : Pos} {G T : Addr} {g : Nat} {E : Value → Shared → Prop} {Q : Unit → Shared → Prop} (hg : s.heap.IsGen G g) (h : Q () s) :
    wpAny (model prog w) A (letOwnedTupleGo (.Tuple elts x1 pt) (.ref G) (.ref T)) Q E s := by
  obtain ⟨o, nm, qn, ho, hc, hd, _⟩ := hg
  show wpAny _ _ (load G >>= _) _ _ _
  refine wpAny_bind (wpAny_load ho ?_)
  rw [hc, hd]
  show wpAny _ _ (if (_ && _ : Bool) = true then _ else _) _ _ _
  rw [if_neg (by simp)]
  exact wpAny_pure h
/-- what is the generator's in the ledger -/
structure GenOwn (prog : Program) (w : World) (A : Around) (h₀ h : Heap) (G : Addr) (g : Nat) (gn : Array GenState) (ws : List Word) (own : List (Addr × Obj)) (adr : List Addr) : Prop where
  ready : ∃ fp gs, gn[g]? = some gs ∧ Ready prog w A h₀ fp ws gs h ∧ (∀ b ∈ fp, ∃ o, h.get? b = some o ∧ (b, o) ∈ own) ∧ G ∉ fp ∧ (∀ b ∈ fp, b ∉ adr)
  gen : ∃ og, (G, og) ∈ own ∧ h.IsGen G g
  off : ∀ p ∈ own, p.1 ∉ adr
def GPost (h₀ : Heap) (L : Addr) (J : (Str → Option Value) → List (Addr × Obj) → Prop) (own : List (Addr × Obj)) (adr : List Addr) (s₁ : Shared) (Q : Flow → Shared → Prop) (f : Flow) (s₂ : Shared) : Prop :=
  match f with
  | .ret v => Q (.ret v) s₂
  | .brk => Q .next s₂
  | _ => ∃ h' tk m' nx, s₂ = { s₁ with heap := h', toks := tk } ∧ Fr h₀ L h' m' ∧ News h₀ L h' (nx ++ own) ∧ adrs nx = adr ∧ J m' nx
theorem loopGen {R : Result → Shared → Prop} {xi xv : Str} {pi pv pt : Pos} {x1 : Nat} {body : List Stmt} {L G : Addr} {g : Nat} {m : Str → Option Value} {own news : List (Addr × Obj)} {ws : List Word}
    (J : Nat → (Str → Option Value) → List (Addr × Obj) → Prop)
    (hL : env.locals = L) (hxi : env.kindOf xi = some .local) (hxv : env.kindOf xv = some .local) (hp : (env.scope.kind == .class || (env.scope.kind == .module && env.locals != env.globals)) = false)
    (hh : A.handled = none) (hroom : A.depth < recursionLimit) (hlim : h₀.NoLimit)
    (F : Fr h₀ L s.heap m) (N : News h₀ L s.heap (news ++ own)) (hO : GenOwn prog w A.in1 h₀ s.heap G g s.gens ws own (adrs news)) (hb : AllBare s.gens) (hj : J 0 m news)
    (turn : ∀ i p m₁ nx h tk gn own t1 t2, ws[i]? = some p → adrs nx = adrs news → OwnOff own (adrs news) → J i m₁ nx → AllBare gn →
      Fr h₀ L h (fun y => if y = xv then some (.str p.2 t2) else if y = xi then some (.int p.1 t1) else m₁ y) → News h₀ L h (nx ++ own) →
      wpAny (model prog w) A (execs body env) (GPost h₀ L (J (i + 1)) own (adrs news) { s with heap := h, toks := tk, gens := gn } fun f s' => R (.ok f) s') (notedBy (model prog w) A env fun e s' => R (.error e) s') { s with heap := h, toks := tk, gens := gn })
    (done : ∀ m₁ nx h tk gn, J ws.length m₁ nx → adrs nx = adrs news → AllBare gn → Fr h₀ L h m₁ → News h₀ L h nx → R (.ok .next) { s with heap := h, toks := tk, gens := gn }) :
    codeAny (model prog w) A (.forLoop (.Tuple [.Name xi pi, .Name xv pv] x1 pt) (.ref G) body [] env) R s := by
  subst hL
  refine forLoopT (fun n s' => ∃ h tk gn m₁ nx own i, s' = { s with heap := h, toks := tk, gens := gn } ∧ Fr h₀ env.locals h m₁ ∧ News h₀ env.locals h (nx ++ own) ∧ GenOwn prog w A.in1 h₀ h G g gn (ws.drop i) own (adrs news) ∧ AllBare gn ∧
    adrs nx = adrs news ∧ J i m₁ nx ∧ i ≤ ws.length ∧ n = ws.length - i) ?_ ws.length ⟨s.heap, s.toks, s.gens, m, news, own, 0, rfl, F, N, (by rw [List.drop_zero]; exact hO), hb, rfl, hj, Nat.zero_le _, rfl⟩
  rintro n s' ⟨h, tk, gn, m₁, nx, own, i, rfl, F₁, N₁, hO₁, hb₁, ha, hJ, hi, rfl⟩
  obtain ⟨⟨fp, gs, hgs, hRd, hfo, hGf, hfa⟩, ⟨og, hog, hgen⟩, hoff⟩ := hO₁
  have hLf : env.locals ∉ fp := by
    intro z
    obtain ⟨o, _, q⟩ := hfo _ z
    exact (N₁ _ (List.mem_append.mpr (.inr q))).2.1 rfl
  have h0f : ∀ b ∈ fp, ∀ o, h₀.get? b = some o → False := fun b hbf o q => by
    obtain ⟨o', _, q'⟩ := hfo _ hbf
    have := (N₁ _ (List.mem_append.mpr (.inr q'))).2.2
    have this : h₀.get? b = none := this
    rw [q] at this; cases this
  refine next_gen (h := h) hh (hlim.keeps F₁.keep) hroom hgen hgs hRd (fun _ _ _ e => e) F₁.keep F₁.keep hb₁ ?_ ?_
  · intro p r hw fp' T t1 t2 s₁ gs' hT hTn hfp' hTf hlv' hk hd ho hgs₁ hb₁' hR₁
    have hpi : ws[i]? = some p := by
      have := congrArg (fun l => l[0]?) hw
      simpa using this
    have hdr : ws.drop (i + 1) = r := by
      have := congrArg List.tail hw
      simpa using this
    have hlt : i < ws.length := by
      rcases Nat.lt_or_ge i ws.length with q | q
      · exact q
      · rw [List.getElem?_eq_none q] at hpi; cases hpi
    have hgen₁ : s₁.heap.IsGen G g := let ⟨o, nm, qn, e, r⟩ := hgen; ⟨o, nm, qn, hk _ _ hGf e, r⟩
    have F₂ : Fr h₀ env.locals s₁.heap m₁ := ⟨F₁.ns.at' fun o e => hk _ o hLf e, fun b o e => hk b o (fun z => h0f b z o e) (F₁.keep b o e), F₁.above⟩
    refine letGoGen hgen₁ ?_
    have hTt : s₁.heap.IsTuple T #[.int p.1 t1, .str p.2 t2] := ⟨_, hT, rfl, _, rfl⟩
    refine wpAny_assign_Tuple hh hTt rfl rfl fun h₃ hx₃ => ?_
    have old₃ : ∀ b o, s₁.heap.get? b = some o → h₃.get? b = some o := fun b o q => hx₃ b o (Nat.ne_of_lt (Heap.lt_size q)) q
    have F₃ : Fr h₀ env.locals h₃ m₁ := ⟨F₂.ns.at' fun o q => old₃ _ o q, fun b o q => old₃ b o (F₂.keep b o q), F₂.above⟩
    show wpAny _ _ (do holding [.str p.2 t2] (assign (.Name xi pi) env (.int p.1 t1)); do holding [] (assign (.Name xv pv) env (.str p.2 t2)); pure ()) _ _ _
    refine wpAny_bind (wpAny_holding (wpAny_assign_Name (wpAny_storeName_local hxi F₃.ns (fun h₄ hn₄ hs₄ => ?_) hp)))
    replace hs₄ : Heap.SameBut env.locals h₃ h₄ := hs₄
    have F₄ := F₃.set hn₄ hs₄
    refine wpAny_bind (wpAny_holding (wpAny_assign_Name (wpAny_storeName_local hxv F₄.ns (fun h₅ hn₅ hs₅ => wpAny_pure ?_) hp)))
    replace hs₅ : Heap.SameBut env.locals h₄ h₅ := hs₅
    have F₅ := F₄.set hn₅ hs₅
    have k5 : ∀ b o, b ≠ env.locals → s₁.heap.get? b = some o → h₅.get? b = some o := fun b o hb q => (hs₅.2 b hb).trans ((hs₄.2 b hb).trans (old₃ b o q))
    have hLf' : env.locals ∉ fp' := fun z => by
      rcases hfp' _ z with q | q
      · exact hLf q
      · obtain ⟨o, _, _, e, _⟩ := F₁.ns
        have : h.get? env.locals = none := q
        rw [this] at e; cases e
    have h0f' : ∀ b ∈ fp', h₀.get? b = none := fun b hbf => by
      cases q : h₀.get? b with
      | none => rfl
      | some o =>
        rcases hfp' b hbf with z | z
        · exact (h0f b z o q).elim
        · have z : h.get? b = none := z
          rw [F₁.keep b o q] at z; cases z
    have hnxf : ∀ p ∈ nx, p.1 ∉ fp := fun q hq z => hfa q.1 z (by rw [← ha]; exact List.mem_map.mpr ⟨q, hq, rfl⟩)
    have hsep : OwnOff ((G, og) :: ownOf h₀ fp' h₅) (adrs news) := by
      intro q hq b hbm e
      rcases List.mem_cons.mp hq with rfl | hq
      · exact hoff _ hog (by rw [← e] at hbm; exact hbm)
      · have hq1 : q.1 ∈ fp' := ownOf_sub q hq
        rcases hfp' _ hq1 with z | z
        · exact hfa _ z (by rw [e]; exact hbm)
        · have z : h.get? q.1 = none := z
          rw [← ha] at hbm
          obtain ⟨u, hu, rfl⟩ := List.mem_map.mp hbm
          have := (N₁ u (List.mem_append.mpr (.inl hu))).1
          rw [e, this] at z; cases z
    have N₅ : News h₀ env.locals h₅ (nx ++ ((G, og) :: ownOf h₀ fp' h₅)) := by
      intro q hq
      rcases List.mem_append.mp hq with hq | hq
      · have y := N₁ q (List.mem_append.mpr (.inl hq))
        exact ⟨k5 _ _ y.2.1 (hk _ _ (hnxf q hq) y.1), y.2⟩
      · rcases List.mem_cons.mp hq with rfl | hq
        · have y := N₁ _ (List.mem_append.mpr (.inr hog))
          exact ⟨k5 _ _ y.2.1 (hk _ _ hGf y.1), y.2⟩
        · exact news_ownOf hLf' q hq
    have e₁ : ({ s₁ with heap := h₅, toks := s₁.toks + 1 + 1 } : Shared) = { s with heap := h₅, toks := s₁.toks + 1 + 1, gens := s₁.gens } := by
      have hd' : s₁.drawn = s.drawn := hd
      have ho' : s₁.os = s.os := ho
      rw [← hd', ← ho']
    have body := turn i p m₁ nx h₅ (s₁.toks + 1 + 1) s₁.gens ((G, og) :: ownOf h₀ fp' h₅) t1 t2 hpi ha hsep hJ hb₁' F₅ N₅
    rw [← e₁] at body
    refine wpAny_mono body (fun f s₃ hf => ?_) fun _ _ e => e
    have fin : (∃ h' tk m' nx', s₃ = { ({ s₁ with heap := h₅, toks := s₁.toks + 1 + 1 } : Shared) with heap := h', toks := tk } ∧ Fr h₀ env.locals h' m' ∧ News h₀ env.locals h' (nx' ++ ((G, og) :: ownOf h₀ fp' h₅)) ∧ adrs nx' = adrs news ∧ J (i + 1) m' nx') →
        ∃ mm, mm < ws.length - i ∧ ∃ h tk gn m₁ nx own i, s₃ = { s with heap := h, toks := tk, gens := gn } ∧ Fr h₀ env.locals h m₁ ∧ News h₀ env.locals h (nx ++ own) ∧ GenOwn prog w A.in1 h₀ h G g gn (ws.drop i) own (adrs news) ∧ AllBare gn ∧
          adrs nx = adrs news ∧ J i m₁ nx ∧ i ≤ ws.length ∧ mm = ws.length - i := by
      rintro ⟨h', tk', m', nx', rfl, F', N', ha', hJ'⟩
      have up : ∀ b ∈ fp', ∀ o, s₁.heap.get? b = some o → h'.get? b = some o := fun b hbf o q =>
        (N' (b, o) (List.mem_append.mpr (.inr (.tail _ (mem_ownOf hbf (h0f' b hbf) (k5 b o (fun z => hLf' (z ▸ hbf)) q)))))).1
      refine ⟨ws.length - (i + 1), by omega, h', tk', s₁.gens, m', nx', (G, og) :: ownOf h₀ fp' h₅, i + 1, ?_, F', N', ⟨⟨fp', gs', hgs₁, ?_, ?_, ?_, ?_⟩, ⟨og, .head _, ?_⟩, fun q hq z => hsep q hq q.1 z rfl⟩, hb₁', ha', hJ', hlt, rfl⟩
      · have hd' : s₁.drawn = s.drawn := hd
        have ho' : s₁.os = s.os := ho
        rw [← hd', ← ho']
      · rw [hdr]
        exact hR₁.mono up
      · exact fun b hbf => by
          obtain ⟨o, q⟩ := hlv' b hbf
          exact ⟨o, up b hbf o q, .tail _ (mem_ownOf hbf (h0f' b hbf) (k5 b o (fun z => hLf' (z ▸ hbf)) q))⟩
      · intro z
        rcases hfp' _ z with q | q
        · exact hGf q
        · have q : h.get? G = none := q
          rw [(N₁ _ (List.mem_append.mpr (.inr hog))).1] at q; cases q
      · intro b hbf z
        rcases hfp' b hbf with q | q
        · exact hfa b q z
        · have q : h.get? b = none := q
          rw [← ha] at z
          obtain ⟨u, hu, rfl⟩ := List.mem_map.mp z
          rw [(N₁ u (List.mem_append.mpr (.inl hu))).1] at q; cases q
      · obtain ⟨o, nm, qn, e, r⟩ := hgen
        have eo : o = og := Option.some.inj (e.symm.trans (N₁ _ (List.mem_append.mpr (.inr hog))).1)
        exact ⟨o, nm, qn, eo ▸ (N' _ (List.mem_append.mpr (.inr (.head _)))).1, r⟩
    cases f with
    | ret v => exact hf
    | brk => exact hf
    | next => exact fin hf
    | cont => exact fin hf
  · intro hw s₁ hk hd ho hb₁'
    have hiw : i = ws.length := by
      have := congrArg List.length hw
      simp at this
      omega
    subst hiw
    have F₂ : Fr h₀ env.locals s₁.heap m₁ := ⟨F₁.ns.at' fun o e => hk _ o hLf e, fun b o e => hk b o (fun z => h0f b z o e) (F₁.keep b o e), F₁.above⟩
    refine wpAny_execs_nil ?_
    have e₁ : s₁ = { s with heap := s₁.heap, toks := s₁.toks, gens := s₁.gens } := by
      have hd' : s₁.drawn = s.drawn := hd
      have ho' : s₁.os = s.os := ho
      rw [← hd', ← ho']
    rw [e₁]
    refine done m₁ nx s₁.heap s₁.toks s₁.gens hJ ha hb₁' F₂ fun q hq => ?_
    have y := N₁ q (List.mem_append.mpr (.inl hq))
    exact ⟨hk _ _ (fun z => hfa q.1 z (by rw [← ha]; exact List.mem_map.mpr ⟨q, hq, rfl⟩)) y.1, y.2⟩
/-- a loop over the generator's words, at its head -/
def LoopAtG (prog : Program) (w : World) (A : Around) (h₀ : Heap) (env : Env) (xi xv : Str) (body : List Stmt) (Q : Flow → Shared → Prop) (E : Value → Shared → Prop) (it : Value) (s : Shared) : Prop :=
  ∃ (G : Addr) (g : Nat) (m : Str → Option Value) (own news : List (Addr × Obj)) (ws : List Word) (J : Nat → (Str → Option Value) → List (Addr × Obj) → Prop),
    it = .ref G ∧ A.handled = none ∧ A.depth < recursionLimit ∧ h₀.NoLimit ∧ Fr h₀ env.locals s.heap m ∧ News h₀ env.locals s.heap (news ++ own) ∧ GenOwn prog w A.in1 h₀ s.heap G g s.gens ws own (adrs news) ∧ AllBare s.gens ∧ J 0 m news ∧
    (∀ i p m₁ nx h tk gn own t1 t2, ws[i]? = some p → adrs nx = adrs news → OwnOff own (adrs news) → J i m₁ nx → AllBare gn →
      Fr h₀ env.locals h (fun y => if y = xv then some (.str p.2 t2) else if y = xi then some (.int p.1 t1) else m₁ y) → News h₀ env.locals h (nx ++ own) →
      wpAny (model prog w) A (execs body env) (GPost h₀ env.locals (J (i + 1)) own (adrs news) { s with heap := h, toks := tk, gens := gn } Q) E { s with heap := h, toks := tk, gens := gn }) ∧
    (∀ m₁ nx h tk gn, J ws.length m₁ nx → adrs nx = adrs news → AllBare gn → Fr h₀ env.locals h m₁ → News h₀ env.locals h nx → Q .next { s with heap := h, toks := tk, gens := gn })
theorem For_gen {E : Value → Shared → Prop} {Q : Flow → Shared → Prop} {xi xv : Str} {pi pv pt pos : Pos} {x1 : Nat} {iter : Expr} {body : List Stmt} {L : Addr} {m : Str → Option Value} (_F : Fr h₀ L s.heap m) (hxi : env.kindOf xi = some .local) (hxv : env.kindOf xv = some .local)
    (hp : (env.scope.kind == .class || (env.scope.kind == .module && env.locals != env.globals)) = false)
    (h : wpAny (model prog w) A (eval iter env) (fun xval s₁ => wpAny (model prog w) A (pyIter xval) (fun it s₂ => LoopAtG prog w A h₀ env xi xv body Q E it s₂) E s₁) E s)
    (hs : ∀ x, foldedSetIterable iter env x = pure x := by intro _; rfl)
    (hE : PassesOwn (model prog w) A env E := by passes_own) :
    wpAny (model prog w) A (exec (.For (.Tuple [.Name xi pi, .Name xv pv] x1 pt) iter body [] pos) env) Q E s := by
  refine wpAny_For (wpAny_mono h (fun xval s₁ h₁ => wpAny_mono h₁ (fun it s₂ h₂ => ?_) fun _ _ e => e) fun _ _ e => e) hs
  obtain ⟨G, g, m, own, news, ws, J, rfl, hh, hroom, hlim, F, N, hO, hb, hj, turn, done⟩ := h₂
  exact loopGen (R := fun r s' => match r with | .ok f => Q f s' | .error e => cameBackBy (model prog w) A env E e s') J rfl hxi hxv hp hh hroom hlim F N hO hb hj
    (fun i p m₁ nx h tk gn own t1 t2 a1 a2 a3 a4 a5 a6 a7 => wpAny_passesOwn hE (turn i p m₁ nx h tk gn own t1 t2 a1 a2 a3 a4 a5 a6 a7)) done
/-- the loop by a state: what the named ones and the ledger's first ones are after i words -/
theorem loopAtG {σ : Type} {E : Value → Shared → Prop} {Q : Flow → Shared → Prop} {xi xv : Str} {body : List Stmt} {G Lg : Addr} {g : Nat} {oL og : Obj} {gs : GenState} {m₀ : Str → Option Value} {R : List (Addr × Obj)} {ws : List Word}
    (hd : σ → List (Addr × Obj)) (ps : σ → List (Str × Value)) (stored : List Str) (P : Nat → σ → Prop) (c₀ : σ)
    (hh : A.handled = none) (hroom : A.depth < recursionLimit) (hlim : h₀.NoLimit) (F : Fr h₀ env.locals s.heap m₀) (N : News h₀ env.locals s.heap ((G, og) :: (Lg, oL) :: (hd c₀ ++ R))) (hlt : ∀ q ∈ hd c₀ ++ R, q.1 < Lg) (hLG : Lg < G)
    (hgen : s.heap.IsGen G g) (hg : s.gens[g]? = some gs) (hR : Ready prog w A.in1 h₀ [Lg] ws gs s.heap) (hb : AllBare s.gens) (hm : ∀ p ∈ ps c₀, m₀ p.1 = some p.2) (hp : P 0 c₀) (hxx : xi ≠ xv)
    (turn : ∀ i p (c : σ) (u : Str → Option Value) h tk gn own t1 t2, ws[i]? = some p → OwnOff own (adrs (hd c₀ ++ R)) → adrs (hd c ++ R) = adrs (hd c₀ ++ R) → P i c → AllBare gn →
      Fr h₀ env.locals h (fun y => if y = xv then some (.str p.2 t2) else if y = xi then some (.int p.1 t1) else kstB (fun z => if (xi :: xv :: stored).contains z then u z else m₀ z) (ps c) y) → News h₀ env.locals h ((hd c ++ R) ++ own) →
      wpAny (model prog w) A (execs body env) (GPost h₀ env.locals (fun m' nx => SJ (fun c => hd c ++ R) ps xv (xi :: xv :: stored) m₀ P (i + 1) m' nx) own (adrs (hd c₀ ++ R)) { s with heap := h, toks := tk, gens := gn } Q) E { s with heap := h, toks := tk, gens := gn })
    (done : ∀ (c : σ) (u : Str → Option Value) h tk gn, P ws.length c → adrs (hd c ++ R) = adrs (hd c₀ ++ R) → AllBare gn → Fr h₀ env.locals h (fun y => kstB (fun z => if (xi :: xv :: stored).contains z then u z else m₀ z) (ps c) y) → News h₀ env.locals h (hd c ++ R) → Q .next { s with heap := h, toks := tk, gens := gn }) :
    LoopAtG prog w A h₀ env xi xv body Q E (.ref G) s := by
  have form : ∀ (c : σ) (m₁ : Str → Option Value), MapIs xv (xi :: xv :: stored) m₀ (ps c) m₁ → m₁ = fun y => kstB (fun z => if (xi :: xv :: stored).contains z then m₁ z else m₀ z) (ps c) y := by
    intro c m₁ hM
    funext y
    refine (kstB_eq hM.1 fun hn => ?_).symm
    show (if (xi :: xv :: stored).contains y = true then m₁ y else m₀ y) = m₁ y
    cases h3 : (xi :: xv :: stored).contains y with
    | true => simp
    | false =>
      simp only [Bool.false_eq_true, if_false]
      exact (hM.2 y (fun z => by subst z; simp at h3) hn h3).symm
  refine ⟨G, g, m₀, [(G, og), (Lg, oL)], hd c₀ ++ R, ws, SJ (fun c => hd c ++ R) ps xv (xi :: xv :: stored) m₀ P, rfl, hh, hroom, hlim, F, ?_, ⟨⟨[Lg], gs, hg, hR, ?_, ?_, ?_⟩, ⟨og, .head _, hgen⟩, ?_⟩, hb, ⟨c₀, rfl, ⟨hm, fun _ _ _ _ => rfl⟩, hp⟩, ?_, ?_⟩
  · intro p hp
    rcases List.mem_append.mp hp with h | h
    · exact N p (.tail _ (.tail _ h))
    · rcases List.mem_cons.mp h with rfl | h
      · exact N _ (.head _)
      · rw [List.mem_singleton.mp h]; exact N _ (.tail _ (.head _))
  · intro b hb
    rw [List.mem_singleton.mp hb]
    exact ⟨oL, (N _ (.tail _ (.head _))).1, .tail _ (.head _)⟩
  · intro z
    exact Nat.ne_of_gt hLG (List.mem_singleton.mp z)
  · intro b hb z
    rw [List.mem_singleton.mp hb] at z
    obtain ⟨q, hq, e⟩ := List.mem_map.mp z
    exact Nat.ne_of_lt (hlt q hq) e
  · intro p hp z
    obtain ⟨q, hq, e⟩ := List.mem_map.mp z
    have h1 := hlt q hq
    rcases List.mem_cons.mp hp with rfl | h
    · exact Nat.ne_of_lt (Nat.lt_trans h1 hLG) e
    · rw [List.mem_singleton.mp h] at e; exact Nat.ne_of_lt h1 e
  · rintro i p m₁ nx h tk gn own t1 t2 hw ha hoff ⟨c, rfl, hM, hP⟩ hbn F₁ N₁
    have em : (fun y => if y = xv then some (Value.str p.2 t2) else if y = xi then some (.int p.1 t1) else m₁ y) = (fun y => if y = xv then some (Value.str p.2 t2) else if y = xi then some (.int p.1 t1) else kstB (fun z => if (xi :: xv :: stored).contains z then m₁ z else m₀ z) (ps c) y) := by
      funext y
      have := congrFun (form c m₁ hM) y
      rw [← this]
    rw [em] at F₁
    exact turn i p c m₁ h tk gn own t1 t2 hw hoff ha hP hbn F₁ N₁
  · rintro m₁ nx h tk gn ⟨c, rfl, hM, hP⟩ ha hbn F₁ N₁
    rw [form c m₁ hM] at F₁
    exact done c m₁ h tk gn hP ha hbn F₁ N₁
theorem GP_mk {σ : Type} {Led : σ → List (Addr × Obj)} {ps : σ → List (Str × Value)} {x : Str} {stored : List Str} {m₀ : Str → Option Value} {P : Nat → σ → Prop} {i : Nat} {Q : Flow → Shared → Prop} (c : σ) {L : Addr} {m' : Str → Option Value} {h' : Heap} {tk : Nat} {own news' : List (Addr × Obj)} {adr : List Addr} {s₁ : Shared}
    (F : Fr h₀ L h' m') (N : News h₀ L h' news') (hn : ∀ p ∈ Led c ++ own, p ∈ news') (ha : adrs (Led c) = adr)
    (hk : ∀ p ∈ ps c, m' p.1 = some p.2) (hr : ∀ z, z ≠ x → (∀ p ∈ ps c, z ≠ p.1) → stored.contains z = false → m' z = m₀ z) (hp : P i c) :
    GPost h₀ L (fun m' nx => SJ Led ps x stored m₀ P i m' nx) own adr s₁ Q .next { s₁ with heap := h', toks := tk } :=
  ⟨h', tk, m', Led c, rfl, F, fun p hp => N p (hn p hp), ha, c, rfl, ⟨hk, hr⟩, hp⟩
end
end
section
open PySem PySem.W PyProof.Rows PySem.Calls PySem.W.X
set_option Elab.async false
set_option maxRecDepth 100000
set_option maxHeartbeats 8000000
theorem gen_enter {prog : Program} {w : World} {A : Around} {R : Result → Shared → Prop} {s : Shared} {h₀ : Heap} {L : Addr} {m mg mb : Str → Option Value} {K : Frag} {p : Program} {loose : List Str} {mean : ExcName → Option Value}
    {name qual : Str} {params : Arguments} {body : List Stmt} {scope : Scope} {dV kV doc pm cdv ct oc : Value} {an od : Option Addr} {osl : Array (Option Value)} {f : Addr} {args : Args} {binds : List (Str × Value)}
    (F : Fr h₀ L s.heap m) (X₀ : K.In h₀) (T : Top p loose mean mg mb h₀)
    (ho : K.lookup f = some ⟨oc, od, .func (fnOf name qual params body scope dV kV doc pm an cdv ct), osl⟩) (hcd : codeIn K cdv qual = true) (hroom : A.depth < recursionLimit)
    (hbind : bindArgs (fnOf name qual params body scope dV kV doc pm an cdv ct) args = pure binds) (hloc : ∀ y ∈ binds, scope.names.lookup y.1 = some .local)
    (h : ∀ (Lg : Addr) (h₂ : Heap) (og : Obj) (tk : Nat), Lg = s.heap.objs.size → h₂.get? (Lg + 1) = some og → h₂.IsGen (Lg + 1) s.gens.size → Fr h₀ Lg h₂ (fun y => binds.reverse.lookup y) → (∀ b o, s.heap.get? b = some o → h₂.get? b = some o) →
      R (.ok (.ret (.ref (Lg + 1)))) { s with heap := h₂, gens := s.gens.push (.fresh (.func body (envOf qual scope Lg f cdv))), toks := tk })
    (hcell : ∀ x ∈ scope.names, x.2 ≠ .cell) (hco : scope.isCoroutine = false) (hgen : scope.isGenerator = true) (hk : scope.kind = .function) :
    codeAny (model prog w) A (.call (.ref f) args) R s := by
  have X := X₀.keeps F.keep
  refine codeAny_call_generator (fd := fnOf name qual params body scope dV kV doc pm an cdv ct) (body := body) hroom (X _ _ ho) rfl hco hgen rfl (codeRec_of X hcd) ?_
  rw [hbind]
  refine wpAny_pure (wpAny_newFunctionEnv hcell hloc (fun h₁ hns hsb => ?_) hk)
  have hsz : h₁.objs.size = s.heap.objs.size + 1 := by rw [hsb.1, Heap.size_push]
  have keep : ∀ b o, s.heap.get? b = some o → h₁.get? b = some o := fun b o e => hsb.extBut b o (Nat.ne_of_lt (Heap.lt_size e)) (Heap.get?_push_of_some _ e)
  refine ⟨(T.nolimit.keeps F.keep).keeps keep, ?_⟩
  have Fg : Fr h₀ s.heap.objs.size h₁ (fun y => binds.reverse.lookup y) := ⟨hns, fun b o e => keep b o (F.keep b o e), Nat.le_of_lt (Nat.lt_of_le_of_lt F.above F.ns.lt)⟩
  have z := h s.heap.objs.size (h₁.push { cls := .type "generator", data := .fields #[.int s.gens.size 0, .str name (s.toks + binds.length), .str qual (s.toks + binds.length + 1)] }) _ (s.toks + binds.length + 1 + 1) rfl
    (by rw [← hsz]; exact Heap.get?_push_size _ rfl) ⟨_, _, _, by rw [← hsz]; exact Heap.get?_push_size _ rfl, rfl, rfl, rfl⟩ (Fg.push _) (fun b o e => Heap.get?_push_of_some _ (keep b o e))
  rw [← hsz] at z
  exact z
theorem enumS {prog : Program} {w : World} {A : Around} {E : Value → Shared → Prop} {s : Shared} {h₀ : Heap} {L : Addr} {m : Str → Option Value} {own : List (Addr × Obj)} {x : Str} {t : Tok} {Q : Value → Shared → Prop}
    (F : Fr h₀ L s.heap m) (N : News h₀ L s.heap own)
    (h : ∀ h' e it, e ≠ it → (∀ p ∈ own, p.1 ≠ e) → (∀ p ∈ own, p.1 ≠ it) → L ≠ e → L ≠ it → h₀.get? e = none → h₀.get? it = none → EnumAt h' e it x t 0 → Fr h₀ L h' m → News h₀ L h' own → Q (.ref e) { s with heap := h' }) :
    wpAny (model prog w) A (call (.type "enumerate") [.str x t]) Q E s := by
  refine call_enumerate_str fun h' h1 h2 h3 h4 => ?_
  have h0n : ∀ b, s.heap.objs.size ≤ b → h₀.get? b = none := fun b hb => by
    cases q : h₀.get? b with
    | none => rfl
    | some o => exact absurd (Heap.lt_size (F.keep _ _ q)) (Nat.not_lt.mpr hb)
  refine h h' (s.heap.objs.size + 1) s.heap.objs.size (Nat.succ_ne_self _) (fun p hp => Nat.ne_of_lt (Nat.lt_succ_of_lt (Heap.lt_size (N p hp).1))) (fun p hp => Nat.ne_of_lt (Heap.lt_size (N p hp).1))
    (Nat.ne_of_lt (Nat.lt_succ_of_lt F.ns.lt)) (Nat.ne_of_lt F.ns.lt) (h0n _ (Nat.le_succ _)) (h0n _ (Nat.le_refl _)) ⟨⟨_, h1⟩, h2⟩ ⟨F.ns.at' fun o e => h4 _ o e, fun b o e => h4 b o (F.keep b o e), F.above⟩ fun p hp => ⟨h4 _ _ (N p hp).1, (N p hp).2⟩
local macro_rules | `(tactic| walk_at "mine steps") => `(tactic| repeat' (first | (k_unfold; (try dsimp only)) | walk1 | (dsimp only; walk1) | (leave1; walk_say "STEP leave1"; try dsimp only) | fail "no step"))
local macro_rules | `(tactic| walk_at "call type:enumerate") => `(tactic| (k_dflt ((refine' enumS ?k1 ?k2 ?_; (case k1 => k_asm); (case k2 => k_asm)); (intro h9 e9 it9 hei9 hoe9 hoi9 hLe9 hLi9 h0e9 h0i9 hEA9 F9 N9))))
local macro_rules | `(tactic| walk_at "pyIter ref") => `(tactic| (k_dflt ((rename EnumAt _ _ _ _ _ _ => hEA8); (obtain ⟨old8, hIE8⟩ := hEA8.1); (refine wpAny_pyIter_enum hIE8 ?_); clear hIE8)))
section
variable {w : World} {loose : List Str} {mean : ExcName → Option Value} {mg mb : Str → Option Value} {news : List (Addr × Obj)}
  {dp un : Nat} {gd : Option (List Code)} {cn : Str} {cs : Scope} {a : Addr} {ccd : Value} {cl : List (Str × Addr)} {outer : List Env} {A₀ : Around} {base h₀ : Heap} {L : Addr} {m : Str → Option Value} {s : Shared} {Q E : Value → Shared → Prop}
end
namespace Zgen_c
def S (w : World) (loose : List Str) (mean : ExcName → Option Value) (mg : Str → Option Value) (mb : Str → Option Value) (news : List (Addr × Obj)) (dp : Nat) (un : Nat) (gd : Option (List Code)) (cn : Str) (cs : Scope) (a : Addr) (ccd : Value) (cl : List (Str × Addr)) (outer : List Env) (A₀ : Around) (base : Heap) (h₀ : Heap) (L : Addr) (m : Str → Option Value) (s : Shared) (Q : Value → Shared → Prop) (E : Value → Shared → Prop) (x : Str) (t : Tok) : Prop := (B : Below A₀ base outer h₀) → (F : Fr h₀ L s.heap m) → (X : (hd.heap_39 w.params).In h₀) → (N : News h₀ L s.heap news) → (T : Top hd.view_39 loose mean mg mb h₀) → (hk : cs.kind = .function) → (hR : Room dp un) → (hxl : x.length ≤ 1000) → (hret : ∀ (h' : Heap) (tk' : Nat) (Lg G : Addr) (oL og : Obj) (gs : GenState), Fr h₀ L h' m → News h₀ L h' ((G, og) :: (Lg, oL) :: news) → (∀ q ∈ news, q.1 < Lg) → Lg < G → h'.IsGen G s.gens.size → gs.bare = true → Ready Challenge.rw_pd0147_01.row.prog w (ktrTop dp un gd cn cs L a ccd cl outer).in1 h₀ [Lg] (wordsOf false 0 x.cps.toList) gs h' → Q (.ref G) { s with heap := h', toks := tk', gens := s.gens.push gs }) → wpAny (model Challenge.rw_pd0147_01.row.prog w) (ktrTop dp un gd cn cs L a ccd cl outer) (call (.ref 141) [.str x t]) Q E s
noncomputable def zz : (World) × (List Str) × (ExcName → Option Value) × (Str → Option Value) × (Str → Option Value) × (List (Addr × Obj)) × (Nat) × (Nat) × (Option (List Code)) × (Str) × (Scope) × (Addr) × (Value) × (List (Str × Addr)) × (List Env) × (Around) × (Heap) × (Heap) × (Addr) × (Str → Option Value) × (Shared) × (Value → Shared → Prop) × (Value → Shared → Prop) × (Str) × (Tok) := @Classical.epsilon _ ⟨((⟨fun _ _ => 0, { strHash := fun _ => 0, shareClass := fun _ => 0, mergeTok := id, idOf := fun _ => 0, idOfShared := fun _ _ => 0, followText := fun _ => false, idOfImm := fun _ => 0 }⟩ : World), (Classical.ofNonempty : List Str), (Classical.ofNonempty : ExcName → Option Value), (Classical.ofNonempty : Str → Option Value), (Classical.ofNonempty : Str → Option Value), (Classical.ofNonempty : List (Addr × Obj)), (Classical.ofNonempty : Nat), (Classical.ofNonempty : Nat), (Classical.ofNonempty : Option (List Code)), (Classical.ofNonempty : Str), (Classical.ofNonempty : Scope), (Classical.ofNonempty : Addr), (Classical.ofNonempty : Value), (Classical.ofNonempty : List (Str × Addr)), (Classical.ofNonempty : List Env), (callerA : Around), (Classical.ofNonempty : Heap), (Classical.ofNonempty : Heap), (Classical.ofNonempty : Addr), (Classical.ofNonempty : Str → Option Value), ({} : Shared), (Classical.ofNonempty : Value → Shared → Prop), (Classical.ofNonempty : Value → Shared → Prop), (Classical.ofNonempty : Str), (Classical.ofNonempty : Tok))⟩ fun zz => ¬ Zgen_c.S (zz.1) (zz.2.1) (zz.2.2.1) (zz.2.2.2.1) (zz.2.2.2.2.1) (zz.2.2.2.2.2.1) (zz.2.2.2.2.2.2.1) (zz.2.2.2.2.2.2.2.1) (zz.2.2.2.2.2.2.2.2.1) (zz.2.2.2.2.2.2.2.2.2.1) (zz.2.2.2.2.2.2.2.2.2.2.1) (zz.2.2.2.2.2.2.2.2.2.2.2.1) (zz.2.2.2.2.2.2.2.2.2.2.2.2.1) (zz.2.2.2.2.2.2.2.2.2.2.2.2.2.1) (zz.2.2.2.2.2.2.2.2.2.2.2.2.2.2.1) (zz.2.2.2.2.2.2.2.2.2.2.2.2.2.2.2.1) (zz.2.2.2.2.2.2.2.2.2.2.2.2.2.2.2.2.1) (zz.2.2.2.2.2.2.2.2.2.2.2.2.2.2.2.2.2.1) (zz.2.2.2.2.2.2.2.2.2.2.2.2.2.2.2.2.2.2.1) (zz.2.2.2.2.2.2.2.2.2.2.2.2.2.2.2.2.2.2.2.1) (zz.2.2.2.2.2.2.2.2.2.2.2.2.2.2.2.2.2.2.2.2.1) (zz.2.2.2.2.2.2.2.2.2.2.2.2.2.2.2.2.2.2.2.2.2.1) (zz.2.2.2.2.2.2.2.2.2.2.2.2.2.2.2.2.2.2.2.2.2.2.1) (zz.2.2.2.2.2.2.2.2.2.2.2.2.2.2.2.2.2.2.2.2.2.2.2.1) (zz.2.2.2.2.2.2.2.2.2.2.2.2.2.2.2.2.2.2.2.2.2.2.2.2)
noncomputable def w : World := zz.1
noncomputable def loose : List Str := zz.2.1
noncomputable def mean : ExcName → Option Value := zz.2.2.1
noncomputable def mg : Str → Option Value := zz.2.2.2.1
noncomputable def mb : Str → Option Value := zz.2.2.2.2.1
noncomputable def news : List (Addr × Obj) := zz.2.2.2.2.2.1
noncomputable def dp : Nat := zz.2.2.2.2.2.2.1
noncomputable def un : Nat := zz.2.2.2.2.2.2.2.1
noncomputable def gd : Option (List Code) := zz.2.2.2.2.2.2.2.2.1
noncomputable def cn : Str := zz.2.2.2.2.2.2.2.2.2.1
noncomputable def cs : Scope := zz.2.2.2.2.2.2.2.2.2.2.1
noncomputable def a : Addr := zz.2.2.2.2.2.2.2.2.2.2.2.1
noncomputable def ccd : Value := zz.2.2.2.2.2.2.2.2.2.2.2.2.1
noncomputable def cl : List (Str × Addr) := zz.2.2.2.2.2.2.2.2.2.2.2.2.2.1
noncomputable def outer : List Env := zz.2.2.2.2.2.2.2.2.2.2.2.2.2.2.1
noncomputable def A₀ : Around := zz.2.2.2.2.2.2.2.2.2.2.2.2.2.2.2.1
noncomputable def base : Heap := zz.2.2.2.2.2.2.2.2.2.2.2.2.2.2.2.2.1
noncomputable def h₀ : Heap := zz.2.2.2.2.2.2.2.2.2.2.2.2.2.2.2.2.2.1
noncomputable def L : Addr := zz.2.2.2.2.2.2.2.2.2.2.2.2.2.2.2.2.2.2.1
noncomputable def m : Str → Option Value := zz.2.2.2.2.2.2.2.2.2.2.2.2.2.2.2.2.2.2.2.1
noncomputable def s : Shared := zz.2.2.2.2.2.2.2.2.2.2.2.2.2.2.2.2.2.2.2.2.1
noncomputable def Q : Value → Shared → Prop := zz.2.2.2.2.2.2.2.2.2.2.2.2.2.2.2.2.2.2.2.2.2.1
noncomputable def E : Value → Shared → Prop := zz.2.2.2.2.2.2.2.2.2.2.2.2.2.2.2.2.2.2.2.2.2.2.1
noncomputable def x : Str := zz.2.2.2.2.2.2.2.2.2.2.2.2.2.2.2.2.2.2.2.2.2.2.2.1
noncomputable def t : Tok := zz.2.2.2.2.2.2.2.2.2.2.2.2.2.2.2.2.2.2.2.2.2.2.2.2
theorem p (B : Below A₀ base outer h₀) (F : Fr h₀ L s.heap m) (X : (hd.heap_39 w.params).In h₀) (N : News h₀ L s.heap news) (T : Top hd.view_39 loose mean mg mb h₀) (hk : cs.kind = .function) (hR : Room dp un) (hxl : x.length ≤ 1000) (hret : ∀ (h' : Heap) (tk' : Nat) (Lg G : Addr) (oL og : Obj) (gs : GenState), Fr h₀ L h' m → News h₀ L h' ((G, og) :: (Lg, oL) :: news) → (∀ q ∈ news, q.1 < Lg) → Lg < G → h'.IsGen G s.gens.size → gs.bare = true → Ready Challenge.rw_pd0147_01.row.prog w (ktrTop dp un gd cn cs L a ccd cl outer).in1 h₀ [Lg] (wordsOf false 0 x.cps.toList) gs h' → Q (.ref G) { s with heap := h', toks := tk', gens := s.gens.push gs }) : wpAny (model Challenge.rw_pd0147_01.row.prog w) (ktrTop dp un gd cn cs L a ccd cl outer) (call (.ref 141) [.str x t]) Q E s := by
  obtain ⟨hR1, hR2⟩ := hR
  revert X; k_fill; intro X
  refine wpAny_call ?_
  k_dflt (refine' gen_enter ?k2 ?k3 ?k5 ?k6 ?k7 ?k8 ?k9 ?kB ?_ ?c5 ?c2 ?c3 ?c4; (case k2 => k_asm); (case k3 => k_asm); (case k5 => k_asm); (case k6 => k_is); (case k7 => k_is); (case k8 => ktr_room); (case k9 => exact rfl); (case c5 => decide); (case kB => exact locs rfl); (case c2 => exact rfl); (case c3 => exact rfl); (case c4 => exact rfl); k_whole)
  intro Lg h₁ og tk1 eL hog hgen Fg keep
  have Fg' : Fr h₀ Lg h₁ (fun y => List.lookup y [(Str.ofString "addr", Value.str x t)]) := Fg
  clear Fg
  obtain ⟨oL, hoL⟩ : ∃ oL, h₁.get? Lg = some oL := let ⟨o, _, _, e, _⟩ := Fg'.ns; ⟨o, e⟩
  have hnew : ∀ b, s.heap.objs.size ≤ b → h₀.get? b = none := fun b hb => by
    cases q : h₀.get? b with
    | none => rfl
    | some o => exact absurd (Heap.lt_size (F.keep _ _ q)) (Nat.not_lt.mpr hb)
  refine hret _ _ Lg (Lg + 1) oL og _ ?F ?N ?lt (Nat.lt_succ_self _) hgen rfl ?ready
  case F => exact ⟨F.ns.at' fun o e => keep _ _ e, fun b o e => keep _ _ (F.keep b o e), F.above⟩
  case N =>
    intro p hp
    rcases List.mem_cons.mp hp with rfl | hp
    · exact ⟨hog, by rw [eL]; exact Nat.ne_of_gt (Nat.lt_succ_of_lt F.ns.lt), hnew _ (by rw [eL]; exact Nat.le_succ _)⟩
    · rcases List.mem_cons.mp hp with rfl | hp
      · exact ⟨hoL, by rw [eL]; exact Nat.ne_of_gt F.ns.lt, hnew _ (by rw [eL]; exact Nat.le_refl _)⟩
      · exact ⟨keep _ _ (N p hp).1, (N p hp).2⟩
  case lt => exact fun q hq => eL ▸ Heap.lt_size (N q hq).1
  case ready =>
    clear hret N F B
    refine ready_of ?_
    intro s₁ hfp hk₀
    have F1 : Fr h₀ Lg s₁.heap (fun y => List.lookup y [(Str.ofString "addr", Value.str x t)]) := ⟨Fg'.ns.at' fun o e => hfp Lg (.head _) o e, hk₀, Fg'.above⟩
    have N1 : News h₀ Lg s₁.heap (ownAll h₀ Lg s₁.heap) := ownAll_news
    generalize hown : ownAll h₀ Lg s₁.heap = own at N1
    refine sx_func ?_
    intro K H hK
    refine sx_execs_cons (sx_wrap ?_)
    walk_at "mine steps"
    refine sx_execs_cons (sx_wrap ?_)
    walk_at "mine steps"
    refine sx_execs_cons (sx_For ?_)
    walk_at "mine steps"
    rename_i h9 e it hei hoe hoi hLe hLi h0e h0i hEA F9 N9 old8 p9 k9 hk9
    clear old8
    have hs1 : ∀ b, (∀ p ∈ own, p.1 ≠ b) → Lg ≠ b → h₀.get? b = none → s₁.heap.get? b = none := by
      intro b hb hL h0
      cases q : s₁.heap.get? b with
      | none => rfl
      | some o => exact absurd rfl (hb (b, o) (hown ▸ mem_ownAll (Ne.symm hL) h0 q))
    have hs1e := hs1 e hoe hLe h0e
    have hs1i := hs1 it hoi hLi h0i
    have hfp1 : fpOf Lg e it s₁ = [Lg] := by simp [fpOf, hs1e]
    have hK1 : ∀ b o, b ≠ Lg → s₁.heap.get? b = some o → h9.get? b = some o := ownAll_kept hk₀ F9 N9 (by rw [hown]; exact fun _ h => h)
    rw [← hfp1]
    refine loopInd (fun r i esc sa s₀ => GInv h₀ Lg e it x t r i esc sa s₀) (fun r i esc s₀ => Out _ w _ h₀ (fpOf Lg e it s₀) (wordsOf esc i r) s₀) ?turn x.cps.toList 0 false _ s₁ ?start
    case start =>
      refine ⟨by simp, Nat.zero_le _, ⟨_, _, _, F9, fun h => by cases h⟩, hEA, ⟨fun b o hb q => hK1 b o (fun z => hb (by rw [hfp1, z]; exact .head _)) q, rfl, rfl, rfl⟩, ?_⟩
      intro b hb
      rw [hfp1]
      rcases List.mem_cons.mp hb with rfl | hb
      · exact .inl (.head _)
      · rcases List.mem_cons.mp hb with rfl | hb
        · exact .inr hs1e
        · rw [List.mem_singleton.mp hb]; exact .inr hs1i
    case turn =>
      clear hK1 hfp1 hs1e hs1i hs1 N9 F9 hEA hoe hoi
      intro r i esc sa s₀ IH hI
      obtain ⟨hr, hle, ⟨m', pv, tp, Fm, hpv⟩, hst, hKa, hfp⟩ := hI
      cases r with
      | nil =>
        have hi : i = x.cps.size := by
          have := congrArg List.length hr
          simp at this
          omega
        subst hi
        refine sx_over rfl rfl Fm hei hLe hLi h0e h0i hst ?_
        intro h2 tk2 F2 hk2
        have hF2k := F2.keep
        refine sx_done ?_
        rw [hk9]
        refine sx_execs_cons (sx_If ?_)
        have N2 : News h₀ Lg h2 (ownAll h₀ Lg h2) := ownAll_news
        generalize hown2 : ownAll h₀ Lg h2 = own2 at N2
        have hK2 : Kept (fpOf Lg e it s₀) s₀ { sa with heap := h2, toks := tk2 } := kept_step hKa hfp (fun b o _ hbe hbi q => hk2 b o hbe hbi q) ⟨rfl, rfl, rfl⟩
        cases esc
        · walk_at "mine steps"
          refine sx_execs_nil (sx_execs_nil ?_)
          rw [hK]
          exact sx_end ⟨rfl, hK2⟩
        · walk_at "mine steps"
          refine sx_execs_cons (sx_yield rfl rfl rfl ?_)
          walk_at "mine steps"
          rename_i D7 h7 F7 N7 l7 p7 ls7 k7 hk7
          have hpv' := hpv rfl
          have hk27 : ∀ b o, b ≠ Lg → h2.get? b = some o → h7.get? b = some o := ownAll_kept hF2k F7 N7 (by rw [hown2]; exact fun _ h => .tail _ h)
          have hnone := sec_new hown2 l7 N7
          have hw : wordsOf true x.cps.size [] = [(pv, Str.ofString "\\")] := by rw [hpv']; rfl
          rw [hw]
          refine out_yield (sa := { sa with heap := h2, toks := tk2 }) [Lg] hK2 hk27 ⟨rfl, rfl, rfl⟩ (fun b hb => hfp b (by rw [List.mem_singleton.mp hb]; exact .head _)) (fun z => (N7 _ (.head _)).2.1 (List.mem_singleton.mp z)) hnone (newsHead N7) rfl Lg_mem (fun b hb => by rw [List.mem_singleton.mp hb]; let ⟨o, _, _, q, _⟩ := F7.ns; exact ⟨o, q⟩) ?_
          refine ready_of fun s'' hs'' hh'' => ?_
          show SegX _ _ _ (k7 (.send .none)) [] s'' _
          rw [hk7]
          refine sx_execs_nil (sx_execs_nil ?_)
          rw [hK]
          exact sx_end ⟨rfl, Kept.refl⟩
      | cons c r' =>
        have hc : x.cps[i]? = some c := by
          have := congrArg (fun l => l[0]?) hr
          simpa using this
        have hr' : x.cps.toList.drop (i + 1) = r' := by
          have := congrArg List.tail hr
          simpa using this
        have hlt : i < x.cps.size := by
          rcases Nat.lt_or_ge i x.cps.size with q | q
          · exact q
          · rw [Array.getElem?_eq_none q] at hc; cases hc
        refine sx_turn rfl rfl rfl rfl rfl Fm hei hLe hLi h0e h0i hst hc ?_
        intro h2 tk2 t1 u F2 hst2 hk2 K2 H2 hK2
        have hF2k := F2.keep
        refine sx_execs_cons (sx_If ?_)
        have N2 : News h₀ Lg h2 (ownAll h₀ Lg h2) := ownAll_news
        generalize hown2 : ownAll h₀ Lg h2 = own2 at N2
        have hK3 : Kept (fpOf Lg e it s₀) s₀ { sa with heap := h2, toks := tk2 } := kept_step hKa hfp (fun b o hbL hbe hbi q => hk2 b o hbL hbe hbi q) ⟨rfl, rfl, rfl⟩
        have hlv : ∀ b ∈ [Lg, e, it], ∃ o, h2.get? b = some o := hst2.lives F2
        cases esc
        · walk_at "mine steps"
          refine sx_execs_cons (sx_If ?_)
          walk_at "mine steps"
          · rename_i hch
            have hw : wordsOf false i (c :: r') = wordsOf true (i + 1) r' := if_pos (by simpa using hch)
            rw [hw]
            refine sx_execs_cons (sx_wrap ?_)
            walk_at "mine steps"
            rename_i h7 F7 N7
            have hk27 : ∀ b o, b ≠ Lg → h2.get? b = some o → h7.get? b = some o := ownAll_kept hF2k F7 N7 (by rw [hown2]; exact fun _ h => h)
            refine sx_execs_nil (sx_execs_nil (sx_execs_nil ?_))
            rw [hK2]
            refine sx_again rfl ?_
            exact IH r' (i + 1) true _ s₀ (Nat.lt_succ_self _) ⟨hr', hlt, ⟨_, _, _, fr_form F7 rfl rfl, fun _ => by omega⟩, hst2.at' (fun b hb o q => hk27 b o (by rcases hb with rfl | rfl; exact Ne.symm hLe; exact Ne.symm hLi) q), kept_step hK3 hfp (fun b o hbL _ _ q => hk27 b o hbL q) ⟨rfl, rfl, rfl⟩, hfp⟩
          · rename_i hch
            have hw : wordsOf false i (c :: r') = ((i : Int), ⟨#[c]⟩) :: wordsOf false (i + 1) r' := if_neg (by simpa using hch)
            rw [hw]
            refine sx_execs_cons (sx_yield rfl rfl rfl ?_)
            walk_at "mine steps"
            rename_i D7 h7 F7 N7 l7 p7 ls7 k7 hk7
            have hk27 : ∀ b o, b ≠ Lg → h2.get? b = some o → h7.get? b = some o := ownAll_kept hF2k F7 N7 (by rw [hown2]; exact fun _ h => .tail _ h)
            have hnone := sec_new hown2 l7 N7
            refine out_yield (sa := { sa with heap := h2, toks := tk2 }) [Lg, e, it] hK3 hk27 ⟨rfl, rfl, rfl⟩ hfp (fun z => by obtain ⟨o, q⟩ := hlv D7 z; rw [hnone] at q; cases q) hnone (newsHead N7) rfl Lg_mem ((hst2.at' fun b hb o q => hk27 b o (by rcases hb with rfl | rfl; exact Ne.symm hLe; exact Ne.symm hLi) q : EnumAt h7 e it x t (i + 1)).lives F7) ?_
            refine ready_of fun s'' hs'' hh'' => ?_
            show SegX _ _ _ (k7 (.send .none)) _ s'' _
            rw [hk7]
            refine sx_execs_nil (sx_execs_nil (sx_execs_nil ?_))
            rw [hK2]
            refine sx_again rfl ?_
            have hst7 : EnumAt s''.heap e it x t (i + 1) := hst2.at' fun b hb o q => hs'' b (by rcases hb with rfl | rfl; exact .tail _ (.head _); exact .tail _ (.tail _ (.head _))) o (hk27 b o (by rcases hb with rfl | rfl; exact Ne.symm hLe; exact Ne.symm hLi) q)
            have F8 : Fr h₀ Lg s''.heap _ := ⟨F7.ns.at' fun o q => hs'' Lg (.head _) o q, hh'', F7.above⟩
            have hfull : fpOf Lg e it s'' = [Lg, e, it] := fpOf_full (hst7.lives F8 e (.tail _ (.head _)))
            have z := IH r' (i + 1) false s'' s'' (Nat.lt_succ_self _) ⟨hr', hlt, ⟨_, _, _, fr_form F8 rfl rfl, fun h => by cases h⟩, hst7, Kept.refl, fun b hb => .inl (by rw [hfull]; exact hb)⟩
            rw [hfull] at z
            exact z
        · walk_at "mine steps"
          refine sx_execs_cons (sx_yield rfl rfl rfl ?_)
          walk_at "mine steps"
          rename_i D7 h7 F7 N7 l7 p7 ls7 k7 hk7
          have hk27 : ∀ b o, b ≠ Lg → h2.get? b = some o → h7.get? b = some o := ownAll_kept hF2k F7 N7 (by rw [hown2]; exact fun _ h => .tail _ h)
          have hnone := sec_new hown2 l7 N7
          refine out_yield (sa := { sa with heap := h2, toks := tk2 }) [Lg, e, it] hK3 hk27 ⟨rfl, rfl, rfl⟩ hfp (fun z => by obtain ⟨o, q⟩ := hlv D7 z; rw [hnone] at q; cases q) hnone (newsHead N7) rfl Lg_mem ((hst2.at' fun b hb o q => hk27 b o (by rcases hb with rfl | rfl; exact Ne.symm hLe; exact Ne.symm hLi) q : EnumAt h7 e it x t (i + 1)).lives F7) ?_
          refine ready_of fun s'' hs'' hh'' => ?_
          show SegX _ _ _ (k7 (.send .none)) _ s'' _
          rw [hk7]
          have hst7 : EnumAt s''.heap e it x t (i + 1) := hst2.at' fun b hb o q => hs'' b (by rcases hb with rfl | rfl; exact .tail _ (.head _); exact .tail _ (.tail _ (.head _))) o (hk27 b o (by rcases hb with rfl | rfl; exact Ne.symm hLe; exact Ne.symm hLi) q)
          have F8 : Fr h₀ Lg s''.heap _ := ⟨F7.ns.at' fun o q => hs'' Lg (.head _) o q, hh'', F7.above⟩
          have hfull : fpOf Lg e it s'' = [Lg, e, it] := fpOf_full (hst7.lives F8 e (.tail _ (.head _)))
          have N8 : News h₀ Lg s''.heap (ownAll h₀ Lg s''.heap) := ownAll_news
          generalize hown8 : ownAll h₀ Lg s''.heap = own8 at N8
          have hF8k := F8.keep
          clear F7 N7 Fm
          refine sx_execs_cons (sx_wrap ?_)
          walk_at "mine steps"
          rename_i h9 F9 N9
          have hk89 : ∀ b o, b ≠ Lg → s''.heap.get? b = some o → h9.get? b = some o := ownAll_kept hF8k F9 N9 (by rw [hown8]; exact fun _ h => h)
          refine sx_execs_nil (sx_execs_nil ?_)
          rw [hK2]
          refine sx_again rfl ?_
          have hfp8 : ∀ b ∈ [Lg, e, it], b ∈ fpOf Lg e it s'' ∨ s''.heap.get? b = none := fun b hb => .inl (by rw [hfull]; exact hb)
          rw [← hfull]
          exact IH r' (i + 1) false _ s'' (Nat.lt_succ_self _) ⟨hr', hlt, ⟨_, _, _, fr_form F9 rfl rfl, fun h => by cases h⟩, hst7.at' (fun b hb o q => hk89 b o (by rcases hb with rfl | rfl; exact Ne.symm hLe; exact Ne.symm hLi) q), kept_step Kept.refl hfp8 (fun b o hbL _ _ q => hk89 b o hbL q) ⟨rfl, rfl, rfl⟩, hfp8⟩
theorem q : S w loose mean mg mb news dp un gd cn cs a ccd cl outer A₀ base h₀ L m s Q E x t := by unfold S; exact p
end Zgen_c
section
variable {w : World} {loose : List Str} {mean : ExcName → Option Value} {mg mb : Str → Option Value} {news : List (Addr × Obj)}
  {dp un : Nat} {gd : Option (List Code)} {cn : Str} {cs : Scope} {a : Addr} {ccd : Value} {cl : List (Str × Addr)} {outer : List Env} {A₀ : Around} {base h₀ : Heap} {L : Addr} {m : Str → Option Value} {s : Shared} {Q E : Value → Shared → Prop}
theorem gen_c {x : Str}
    {t : Tok}
    (B : Below A₀ base outer h₀)
    (F : Fr h₀ L s.heap m)
    (X : (hd.heap_39 w.params).In h₀)
    (N : News h₀ L s.heap news)
    (T : Top hd.view_39 loose mean mg mb h₀)
    (hk : cs.kind = .function)
    (hR : Room dp un)
    (hxl : x.length ≤ 1000)
    (hret : ∀ (h' : Heap) (tk' : Nat) (Lg G : Addr) (oL og : Obj) (gs : GenState), Fr h₀ L h' m → News h₀ L h' ((G, og) :: (Lg, oL) :: news) → (∀ q ∈ news, q.1 < Lg) → Lg < G → h'.IsGen G s.gens.size → gs.bare = true →
    Ready Challenge.rw_pd0147_01.row.prog w (ktrTop dp un gd cn cs L a ccd cl outer).in1 h₀ [Lg] (wordsOf false 0 x.cps.toList) gs h' → Q (.ref G) { s with heap := h', toks := tk', gens := s.gens.push gs }) : wpAny (model Challenge.rw_pd0147_01.row.prog w) (ktrTop dp un gd cn cs L a ccd cl outer) (call (.ref 141) [.str x t]) Q E s :=
  epsAll (P := fun zz => Zgen_c.S (zz.1) (zz.2.1) (zz.2.2.1) (zz.2.2.2.1) (zz.2.2.2.2.1) (zz.2.2.2.2.2.1) (zz.2.2.2.2.2.2.1) (zz.2.2.2.2.2.2.2.1) (zz.2.2.2.2.2.2.2.2.1) (zz.2.2.2.2.2.2.2.2.2.1) (zz.2.2.2.2.2.2.2.2.2.2.1) (zz.2.2.2.2.2.2.2.2.2.2.2.1) (zz.2.2.2.2.2.2.2.2.2.2.2.2.1) (zz.2.2.2.2.2.2.2.2.2.2.2.2.2.1) (zz.2.2.2.2.2.2.2.2.2.2.2.2.2.2.1) (zz.2.2.2.2.2.2.2.2.2.2.2.2.2.2.2.1) (zz.2.2.2.2.2.2.2.2.2.2.2.2.2.2.2.2.1) (zz.2.2.2.2.2.2.2.2.2.2.2.2.2.2.2.2.2.1) (zz.2.2.2.2.2.2.2.2.2.2.2.2.2.2.2.2.2.2.1) (zz.2.2.2.2.2.2.2.2.2.2.2.2.2.2.2.2.2.2.2.1) (zz.2.2.2.2.2.2.2.2.2.2.2.2.2.2.2.2.2.2.2.2.1) (zz.2.2.2.2.2.2.2.2.2.2.2.2.2.2.2.2.2.2.2.2.2.1) (zz.2.2.2.2.2.2.2.2.2.2.2.2.2.2.2.2.2.2.2.2.2.2.1) (zz.2.2.2.2.2.2.2.2.2.2.2.2.2.2.2.2.2.2.2.2.2.2.2.1) (zz.2.2.2.2.2.2.2.2.2.2.2.2.2.2.2.2.2.2.2.2.2.2.2.2)) Zgen_c.q (w, loose, mean, mg, mb, news, dp, un, gd, cn, cs, a, ccd, cl, outer, A₀, base, h₀, L, m, s, Q, E, x, t) B F X N T hk hR hxl hret
end
end
section
local macro_rules | `(tactic| walk_at "call ref") => `(tactic| (k_here; k_dflt ((with_reducible show wpAny _ _ (PySem.call (Value.ref 94) [Value.str _ _]) _ _ _); (refine fspath_c (by k_asm) (by k_asm) (by k_asm) (by k_asm) (by k_asm) (by first | exact rfl | assumption) (by constructor <;> first | ktr_room | ktr_units) ?_); (intro h9 tk9 F9 N9); (try dsimp only))))
local macro_rules | `(tactic| walk_at "call ref") => `(tactic| (k_here; k_dflt ((with_reducible show wpAny _ _ (PySem.call (Value.ref 108) [Value.str _ _]) _ _ _); (refine getsep_c (by k_asm) (by k_asm) (by k_asm) (by k_asm) (by k_asm) (by first | exact rfl | assumption) (by constructor <;> first | ktr_room | ktr_units) ?_); (intro h9 tk9 t9 F9 N9); (try dsimp only))))
local macro_rules | `(tactic| walk_at "exec For Name Name cons nil") => `(tactic| (k_here; k_dflt ((rename Fr _ _ _ _ => lF'); (with_unfolding_all refine' For_invVF lF' ?k1 ?k2 ?_; (case k1 => exact rfl); (case k2 => exact rfl); k_whole))))
local macro_rules | `(tactic| walk_at "mine steps") => `(tactic| repeat' (first | (k_unfold; (try dsimp only)) | walk1 | (dsimp only; walk1) | (leave1; walk_say "STEP leave1"; try dsimp only) | fail "no step"))
section
open PySem PySem.W PyProof.Rows PySem.Calls
set_option Elab.async false
set_option maxRecDepth 100000
set_option maxHeartbeats 8000000
section
variable {w : World} {loose : List Str} {mean : ExcName → Option Value} {mg mb : Str → Option Value} {news : List (Addr × Obj)}
  {dp un : Nat} {gd : Option (List Code)} {cn : Str} {cs : Scope} {a : Addr} {ccd : Value} {cl : List (Str × Addr)} {outer : List Env} {A₀ : Around} {base h₀ : Heap} {L : Addr} {m : Str → Option Value} {s : Shared} {Q E : Value → Shared → Prop}
def joinS (x y : Str) : Str := if Txt.endswith x (Str.ofString "/") then x ++ y else x ++ (Str.ofString "/" ++ y)
theorem join_c {x y : Str} {t u : Tok}
  (B : Below A₀ base outer h₀) (F : Fr h₀ L s.heap m) (X : (hd.heap_39 w.params).In h₀) (N : News h₀ L s.heap news) (T : Top hd.view_39 loose mean mg mb h₀) (hk : cs.kind = .function) (hR : Room dp un)
  (hx : x.length ≠ 0) (hy : Txt.startswith y (Str.ofString "/") = false) (hxl : x.length ≤ 1000) (hyl : y.length ≤ 1000)
  (hret : ∀ (h' : Heap) (tk' : Nat) (t' : Tok), Fr h₀ L h' m → News h₀ L h' news → Q (.str (joinS x y) t') { s with heap := h', toks := tk' }) :
  wpAny (model Challenge.rw_pd0147_01.row.prog w) (ktrTop dp un gd cn cs L a ccd cl outer) (call (.ref 115) [.str x t, .str y u]) Q E s := by
  obtain ⟨hR1, hR2⟩ := hR
  revert X; k_fill; intro X
  refine wpAny_call ?_
  k_dflt (refine' kp_rest ?k1 ?k2 ?k3 ?k4 ?k5 ?kA ?kF ?kK ?k6 ?k7 ?k8 ?kV ?kP ?kG ?kB ?_ ?c2 ?c3 ?c4 ?c5; (case kA => exact rfl); (case kF => exact rfl); (case kK => assumption); (case k1 => k_asm); (case k2 => k_asm); (case k3 => k_asm); (case k4 => k_asm); (case k5 => k_asm); (case k6 => k_is); (case k7 => k_is); (case k8 => ktr_room); (case kV => kl_lit); (case kP => exact rfl); (case kG => exact fun _ => rfl); (case kB => exact fun _ => locs rfl); (case c5 => decide); (case c2 => exact rfl); (case c3 => exact rfl); (case c4 => exact rfl); k_whole; intro D' g' L' h' l1 FG' F' N' B' X' T'; (try k_lt l1); (try dsimp only); (try k_lift B'); (try k_fold))
  k_steps
  refine iterTupleS (σ := Str × Tok) (vs := [.str y u]) (nn := 0) (fun _ => []) (fun c => [(Str.ofString "path", .str c.1 c.2)]) [] (fun i c => c.1 = if i = 0 then x else joinS x y) (x, t) rfl (by k_asm) (by k_asm) (fun _ => List.Mem.head _) ?_ rfl ?_ ?_
  · intro p hp
    rw [List.mem_singleton.mp hp]; rfl
  · rintro i v c u9 h9 tk9 It9 o9 hv hlt ha hP F9 N9
    have hi : i = 0 := by
      cases i with
      | zero => rfl
      | succ n => simp at hv
    subst hi
    obtain ⟨p9, tp9⟩ := c
    dsimp only at hP F9
    rw [if_pos rfl] at hP
    subst hP
    have hv : v = .str y u := by simpa using hv.symm
    subst hv
    dsimp only [kstB] at F9
    try dsimp only
    try k_fold
    k_steps
    · refine SJ.mk (p9 ++ y, ?tq) (by k_asm) (by k_asm) (fun p hp => memTail hp) (List.Mem.head _) rfl ?g1 ?g2 ?g3
      case g1 =>
        intro p hp
        rw [List.mem_singleton.mp hp]; rfl
      case g2 =>
        intro z z1 z2 z3
        have z4 := z2 _ (List.Mem.head _)
        dsimp only at z4
        simp only [if_neg z1, if_neg z4, kstB, List.contains_nil, Bool.false_eq_true, if_false]
      case g3 => simp [joinS, *]
    · refine SJ.mk (p9 ++ (Str.ofString "/" ++ y), ?tq2) (by k_asm) (by k_asm) (fun p hp => memTail hp) (List.Mem.head _) rfl ?g1 ?g2 ?g3
      case g1 =>
        intro p hp
        rw [List.mem_singleton.mp hp]; rfl
      case g2 =>
        intro z z1 z2 z3
        have z4 := z2 _ (List.Mem.head _)
        dsimp only at z4
        simp only [if_neg z1, if_neg z4, kstB, List.contains_nil, Bool.false_eq_true, if_false]
      case g3 => simp [joinS, *]
    · exfalso; omega
  · rintro ⟨p9, tp9⟩ u9 h9 tk9 hP ha F9 N9
    dsimp only [kstB] at hP F9
    try dsimp only
    try k_fold
    k_steps
    have hP : p9 = joinS x y := by simpa using hP
    subst hP
    exact hret _ _ _ (by assumption) (newsDrop (by assumption) (fun p hp => memTail hp))
end
end
local macro_rules | `(tactic| walk_at "ite") => `(tactic| (k_here; k_openite; first | (with_reducible refine ite_tt ?_) | (with_reducible refine ite_ff ?_) | (with_reducible refine ite_pos (by with_reducible assumption) ?_; walk_say "PRUNED") | (with_reducible refine ite_neg (by with_reducible assumption) ?_; walk_say "PRUNED") | (with_reducible refine ite_isFalse (by with_reducible assumption) ?_; walk_say "PRUNED") | (with_reducible refine ite_dpos (by with_reducible assumption) ?_; walk_say "PRUNED") | (with_reducible refine ite_dneg (by with_reducible assumption) ?_; walk_say "PRUNED") | (with_reducible refine ite_ipos (by with_reducible assumption) ?_; walk_say "PRUNED") | (with_reducible refine ite_ineg (by with_reducible assumption) ?_; walk_say "PRUNED") | (with_reducible refine split_ine ?_ ?_ <;> intro _) | (with_reducible refine split_ieq ?_ ?_ <;> intro _) | (with_reducible refine split_not ?_) | (with_reducible refine split_dec ?_ ?_ <;> intro _) | (with_reducible refine split_bool ?_ ?_ <;> intro _)))
local macro_rules | `(tactic| walk_at "truthy ref") => `(tactic| (k_here; k_dflt ((with_reducible show wpAny _ _ (truthy (Value.ref _)) _ _ _); (refine' truthyL ?k1 ?k2 ?k3 ?_; (case k1 => k_asm); (case k2 => k_mem); (case k3 => assumption); k_whole); (intro tk9); (try simp only [List.isEmpty_nil, List.isEmpty_append, List.isEmpty_cons, Bool.and_false, Bool.not_false, Bool.not_true]))))
local macro_rules | `(tactic| walk_at "call builtin:list.append") => `(tactic| (k_here; k_dflt ((refine' append1 ?k1 ?k2 ?k3 ?k4 ?k5 ?_; (case k1 => k_asm); (case k2 => k_asm); (case k3 => k_ne); (case k4 => assumption); (case k5 => assumption); k_whole); (intro h' F' N'))))
local macro_rules | `(tactic| walk_at "call builtin:list.pop") => `(tactic| (k_here; k_dflt ((refine' pop1 ?k1 ?k2 ?k3 ?k4 ?k5 ?_; (case k1 => k_asm); (case k2 => k_asm); (case k3 => k_ne); (case k4 => assumption); (case k5 => assumption); k_whole); (intro h' F' N'))))
local macro_rules | `(tactic| walk_at "subscriptTail") => `(tactic| (k_here; k_dflt ((with_reducible show wpAny _ _ (subscriptTail _ _ (Value.ref _) (Value.int (-1) _)) _ _ _); (with_unfolding_all refine' itemLast ?k1 ?k2 ?_; (case k1 => k_asm); (case k2 => k_mem); k_whole))))
section
open PySem PySem.W PyProof.Rows PySem.Calls
set_option Elab.async false
set_option maxRecDepth 100000
set_option maxHeartbeats 8000000
local macro_rules | `(tactic| walk_at "call builtin:str.join") => `(tactic| (k_here; k_dflt ((with_reducible show wpAny _ _ (PySem.call (Value.builtin "str.join") [Value.str _ _, Value.ref _]) _ _ _); (refine' joinL ?k1 ?k2 ?k3 ?k4 ?_; (case k1 => k_asm); (case k2 => k_mem); (case k3 => with_reducible assumption); (case k4 => with_reducible assumption); k_whole); (intro t9 k9 hjl9))))
section
variable {w : World} {loose : List Str} {mean : ExcName → Option Value} {mg mb : Str → Option Value} {news : List (Addr × Obj)}
  {dp un : Nat} {gd : Option (List Code)} {cn : Str} {cs : Scope} {a : Addr} {ccd : Value} {cl : List (Str × Addr)} {outer : List Env} {A₀ : Around} {base h₀ : Heap} {L : Addr} {m : Str → Option Value} {s : Shared} {Q E : Value → Shared → Prop}
theorem splitroot_c {x : Str} {t : Tok}
  (B : Below A₀ base outer h₀) (F : Fr h₀ L s.heap m) (X : (hd.heap_39 w.params).In h₀) (N : News h₀ L s.heap news) (T : Top hd.view_39 loose mean mg mb h₀) (hk : cs.kind = .function) (hR : Room dp un)
  (hx1 : (Txt.slice x none (some 1) != Str.ofString "/") = false) (hx2 : (Txt.slice x (some 1) (some 2) != Str.ofString "/") = true) (hxl : x.length ≤ 1000)
  (hret : ∀ (h' : Heap) (tk' : Nat) (D : Addr) (t1 t2 t3 : Tok), Fr h₀ L h' m → News h₀ L h' ((D, { cls := .type "tuple", data := .seq #[.str (Str.ofString "") t1, .str (Str.ofString "/") t2, .str (Txt.slice x (some 1) none) t3] }) :: news) → (∀ q ∈ news, q.1 < D) → Q (.ref D) { s with heap := h', toks := tk' }) :
  wpAny (model Challenge.rw_pd0147_01.row.prog w) (ktrTop dp un gd cn cs L a ccd cl outer) (call (.ref 122) [.str x t]) Q E s := by
  obtain ⟨hR1, hR2⟩ := hR
  revert X; k_fill; intro X
  refine wpAny_call ?_
  k_dflt cell_enter
  k_steps
  all_goals exact hret _ _ _ _ _ _ (by assumption) (by assumption) (by assumption)
end
local macro_rules | `(tactic| walk_at "call ref") => `(tactic| (k_here; k_dflt ((with_reducible show wpAny _ _ (PySem.call (Value.ref 122) [Value.str _ _]) _ _ _); (refine splitroot_c (by k_asm) (by k_asm) (by k_asm) (by k_asm) (by k_asm) (by first | exact rfl | assumption) (by constructor <;> first | ktr_room | ktr_units) (by assumption) (by assumption) (by assumption) ?_); (intro h9 tk9 D9 t91 t92 t93 F9 N9 l9); (try k_lt l9); (try dsimp only))))
section
variable {w : World} {loose : List Str} {mean : ExcName → Option Value} {mg mb : Str → Option Value} {news : List (Addr × Obj)}
  {dp un : Nat} {gd : Option (List Code)} {cn : Str} {cs : Scope} {a : Addr} {ccd : Value} {cl : List (Str × Addr)} {outer : List Env} {A₀ : Around} {base h₀ : Heap} {L : Addr} {m : Str → Option Value} {s : Shared} {Q E : Value → Shared → Prop}
def normStep (nc : List Str) (c : Str) : List Str :=
  if c.length = 0 ∨ c = Str.ofString "." then nc
  else if c ≠ Str.ofString ".." ∨ nc.getLast? = some (Str.ofString "..") then nc ++ [c]
  else nc.dropLast
def normC (cs : List Str) : List Str := cs.foldl normStep []
def normS (x : Str) : Str := Str.ofString "/" ++ Str.join (Str.ofString "/") (normC (Txt.split (Txt.slice x (some 1) none) (Str.ofString "/")))
theorem ns_nil {nc : List Str} {c : Str} (h : (c.length : Int) = 0) : normStep nc c = nc := by
  have : c.length = 0 := by omega
  simp [normStep, this]
theorem ns_dot {nc : List Str} {c : Str} (h : (c == Str.ofString ".") = true) : normStep nc c = nc := by
  have : c = Str.ofString "." := by simpa using h
  simp [normStep, this]
theorem ns_app {nc : List Str} {c : Str} (h1 : (c.length : Int) ≠ 0) (h2 : (c == Str.ofString ".") = false) (h3 : (c != Str.ofString "..") = true) : normStep nc c = nc ++ [c] := by
  have a1 : c.length ≠ 0 := by omega
  have a2 : c ≠ Str.ofString "." := by simpa using h2
  have a3 : c ≠ Str.ofString ".." := by simpa using h3
  simp [normStep, a1, a2, a3]
theorem ns_up0 {c : Str} (h1 : (c.length : Int) ≠ 0) (h2 : (c == Str.ofString ".") = false) (h3 : (c != Str.ofString "..") = false) : normStep [] c = [] := by
  have a1 : c.length ≠ 0 := by omega
  have a2 : c ≠ Str.ofString "." := by simpa using h2
  have a3 : c = Str.ofString ".." := by simpa using h3
  rw [normStep, if_neg (by rintro (h | h); exact a1 h; exact a2 h), if_neg (by rintro (h | h); exact h a3; cases h)]
  rfl
theorem ns_upS {yi : List Str} {z c : Str} (h1 : (c.length : Int) ≠ 0) (h2 : (c == Str.ofString ".") = false) (h4 : (z == Str.ofString "..") = true) : normStep (yi ++ [z]) c = yi ++ [z] ++ [c] := by
  have a1 : c.length ≠ 0 := by omega
  have a2 : c ≠ Str.ofString "." := by simpa using h2
  have a4 : z = Str.ofString ".." := by simpa using h4
  rw [normStep, if_neg (by rintro (h | h); exact a1 h; exact a2 h), if_pos (.inr (by simp [a4]))]
theorem ns_upP {yi : List Str} {z c : Str} (h1 : (c.length : Int) ≠ 0) (h2 : (c == Str.ofString ".") = false) (h3 : (c != Str.ofString "..") = false) (h4 : (z == Str.ofString "..") = false) : normStep (yi ++ [z]) c = yi := by
  have a1 : c.length ≠ 0 := by omega
  have a2 : c ≠ Str.ofString "." := by simpa using h2
  have a3 : c = Str.ofString ".." := by simpa using h3
  have a4 : z ≠ Str.ofString ".." := by simpa using h4
  rw [normStep, if_neg (by rintro (h | h); exact a1 h; exact a2 h), if_neg (by rintro (h | h); exact h a3; simp at h; exact a4 h)]
  simp
theorem normC_sub : ∀ (cs nc : List Str), (∀ c ∈ cs.foldl normStep nc, c ∈ nc ∨ c ∈ cs) ∧ (cs.foldl normStep nc).length ≤ nc.length + cs.length
  | [], nc => ⟨fun _ h => .inl h, Nat.le_refl _⟩
  | c :: cs, nc => by
    have ih := normC_sub cs (normStep nc c)
    have h1 : ∀ d ∈ normStep nc c, d ∈ nc ∨ d = c := by
      intro d hd
      unfold normStep at hd
      split at hd
      · exact .inl hd
      · split at hd
        · rcases List.mem_append.mp hd with h | h
          · exact .inl h
          · exact .inr (List.mem_singleton.mp h)
        · exact .inl (List.dropLast_subset _ hd)
    have h2 : (normStep nc c).length ≤ nc.length + 1 := by
      unfold normStep
      split
      · omega
      · split
        · simp
        · rw [List.length_dropLast]; omega
    refine ⟨fun d hd => ?_, ?_⟩
    · rcases ih.1 d hd with h | h
      · rcases h1 d h with h | h
        · exact .inl h
        · exact .inr (by rw [h]; exact .head _)
      · exact .inr (.tail _ h)
    · have := ih.2
      simp only [List.foldl_cons, List.length_cons]
      omega
theorem sum_le_of {k : Nat} : ∀ (ys : List Str), (∀ y ∈ ys, y.length ≤ k) → (ys.map (·.length)).sum ≤ k * ys.length
  | [], _ => by simp
  | y :: r, h => by
    have h1 := h y (.head _)
    have h2 := sum_le_of r fun z hz => h z (.tail _ hz)
    simp only [List.map_cons, List.sum_cons, List.length_cons, Nat.mul_add, Nat.mul_one]
    omega
theorem normpath_c {x : Str} {t : Tok}
  (B : Below A₀ base outer h₀) (F : Fr h₀ L s.heap m) (X : (hd.heap_39 w.params).In h₀) (N : News h₀ L s.heap news) (T : Top hd.view_39 loose mean mg mb h₀) (hk : cs.kind = .function) (hR : dp + 40 < recursionLimit ∧ un + 400 < cLine)
  (hx1 : (Txt.slice x none (some 1) != Str.ofString "/") = false) (hx2 : (Txt.slice x (some 1) (some 2) != Str.ofString "/") = true) (hx0 : x.length ≠ 0) (hxl : x.length ≤ 1000)
  (hret : ∀ (h' : Heap) (tk' : Nat) (t' : Tok), Fr h₀ L h' m → News h₀ L h' news → Q (.str (normS x) t') { s with heap := h', toks := tk' }) :
  wpAny (model Challenge.rw_pd0147_01.row.prog w) (ktrTop dp un gd cn cs L a ccd cl outer) (call (.ref 129) [.str x t]) Q E s := by
  obtain ⟨hR1, hR2⟩ := hR
  have hx0' : (x.length : Int) ≠ 0 := by omega
  revert X; k_fill; intro X
  refine wpAny_call ?_
  k_dflt cell_enter
  rename Fr _ _ _ _ => F7
  replace F7 : Fr _ _ _ (fun y => List.lookup y [(Str.ofString "path", Value.str x t)]) := F7
  walk_at "mine steps"
  · rename_i lv _ _ hs1 hs2 hs3 hs4 _ NC _ hlt _ F7 N7
    refine iterListS (σ := List Value × Nat) (vs := strValues lv) (nn := 0) (fun c => [(NC, listOf c.1.toArray c.2)]) (fun c => []) [] (fun i c => StrsAre c.1 (normC ((lv.map (·.1)).take i)) ∧ c.1.length ≤ i) ([], 0) rfl F7 N7 (fun _ => List.Mem.tail _ (List.Mem.head _)) (fun p hp => nomatch hp) ⟨StrsAre.nil, Nat.le_refl _⟩ ?_ ?_
    · rintro i v ⟨vs, nv⟩ u9 h9 tk9 It9 o9 hv hlt9 ha hP F9 N9
      dsimp only at hP F9 N9
      simp only [List.cons_append, List.nil_append] at N9 hlt9
      obtain ⟨cv, hc1, ct, hc2⟩ : ∃ cv, (lv.map (·.1))[i]? = some cv ∧ ∃ ct, v = .str cv ct := by
        simp only [strValues, List.getElem?_map] at hv ⊢
        cases hli : lv[i]? with
        | none => simp [hli] at hv
        | some p => simp [hli] at hv; exact ⟨p.1, by simp, p.2, hv.symm⟩
      subst hc2
      have hstep : normC ((lv.map (·.1)).take (i + 1)) = normStep (normC ((lv.map (·.1)).take i)) cv := by
        rw [List.take_add_one, hc1]; simp [normC]
      have hcl : cv.length ≤ 1000 := by
        have h1 := hs3 cv (List.mem_of_getElem? hc1)
        have h2 := PyProof.Txt.length_slice_le x (some 1) none
        omega
      dsimp only [kstB] at F9
      generalize hnc : normC ((lv.map (·.1)).take i) = nc at hP hstep
      obtain ⟨hP, hPl⟩ := hP
      have hil : i < (lv.map (·.1)).length := by
        rcases Nat.lt_or_ge i (lv.map (·.1)).length with h | h
        · exact h
        · rw [List.getElem?_eq_none h] at hc1; cases hc1
      have hlen : (lv.map (·.1)).length ≤ 1001 := by
        rw [hs1]
        have h1 := split_len (Txt.slice x (some 1) none)
        have h2 := PyProof.Txt.length_slice_le x (some 1) none
        omega
      have hIt := ltN (hlt9 _ (.head _))
      dsimp only at hIt
      have hOff := offTail N9 <| Off.cons (Nat.ne_of_lt hlt.1) (Off.cons (Nat.ne_of_lt hlt.2.1) (Off.of_allLt hlt.2.2))
      have hSh : Short vs := ⟨by omega⟩
      clear hlt9
      rcases PyProof.Rows.strs_nil_or_snoc hP with ⟨rfl, rfl⟩ | ⟨vi, yi, z, tz, rfl, rfl, hPi⟩
      all_goals (
        try dsimp only
        try k_fold
        walk_at "mine steps"
        all_goals try dsimp only)
      · refine SJ.mk ([], nv) (by k_asm) (by k_asm) (fun p hp => memTail hp) (List.Mem.head _) rfl (fun p hp => nomatch hp) ?_ ⟨?_, ?_⟩
        · intro z9 z1 z2 z3
          simp only [if_neg z1, kstB, List.contains_nil, Bool.false_eq_true, if_false]
        · rw [hstep, ns_dot (by assumption)]; exact StrsAre.nil
        · exact Nat.zero_le _
      · refine SJ.mk ([] ++ [.str cv ct], nv + 1) (by k_asm) (by k_asm) (fun p hp => memTail hp) (List.Mem.head _) rfl (fun p hp => nomatch hp) ?_ ⟨?_, ?_⟩
        · intro z9 z1 z2 z3
          simp only [if_neg z1, kstB, List.contains_nil, Bool.false_eq_true, if_false]
        · rw [hstep, ns_app (by assumption) (by assumption) (by assumption)]; exact StrsAre.cons _ _ StrsAre.nil
        · simp
      · refine SJ.mk ([], nv) (by k_asm) (by k_asm) (fun p hp => memTail hp) (List.Mem.head _) rfl (fun p hp => nomatch hp) ?_ ⟨?_, ?_⟩
        · intro z9 z1 z2 z3
          simp only [if_neg z1, kstB, List.contains_nil, Bool.false_eq_true, if_false]
        · rw [hstep, ns_up0 (by assumption) (by assumption) (by assumption)]; exact StrsAre.nil
        · exact Nat.zero_le _
      · refine SJ.mk ([], nv) (by k_asm) (by k_asm) (fun p hp => memTail hp) (List.Mem.head _) rfl (fun p hp => nomatch hp) ?_ ⟨?_, ?_⟩
        · intro z9 z1 z2 z3
          simp only [if_neg z1, kstB, List.contains_nil, Bool.false_eq_true, if_false]
        · rw [hstep, ns_nil (by assumption)]; exact StrsAre.nil
        · exact Nat.zero_le _
      · refine SJ.mk (vi ++ [.str z tz], nv) (by k_asm) (by k_asm) (fun p hp => memTail hp) (List.Mem.head _) rfl (fun p hp => nomatch hp) ?_ ⟨?_, ?_⟩
        · intro z9 z1 z2 z3
          simp only [if_neg z1, kstB, List.contains_nil, Bool.false_eq_true, if_false]
        · rw [hstep, ns_dot (by assumption)]; exact hP
        · simp only [List.length_append, List.length_singleton] at hPl ⊢; omega
      · refine SJ.mk (vi ++ [.str z tz] ++ [.str cv ct], nv + 1) (by k_asm) (by k_asm) (fun p hp => memTail hp) (List.Mem.head _) rfl (fun p hp => nomatch hp) ?_ ⟨?_, ?_⟩
        · intro z9 z1 z2 z3
          simp only [if_neg z1, kstB, List.contains_nil, Bool.false_eq_true, if_false]
        · rw [hstep, ns_app (by assumption) (by assumption) (by assumption)]; exact PyProof.Rows.strsAre_append hP (StrsAre.cons _ _ StrsAre.nil)
        · simp only [List.length_append, List.length_singleton] at hPl ⊢; omega
      · exfalso
        rename_i hem _
        simp at hem
      · refine SJ.mk (vi ++ [.str z tz] ++ [.str cv ct], nv + 1) (by k_asm) (by k_asm) (fun p hp => memTail hp) (List.Mem.head _) rfl (fun p hp => nomatch hp) ?_ ⟨?_, ?_⟩
        · intro z9 z1 z2 z3
          simp only [if_neg z1, kstB, List.contains_nil, Bool.false_eq_true, if_false]
        · rw [hstep, ns_upS (by assumption) (by assumption) (by assumption)]; exact PyProof.Rows.strsAre_append hP (StrsAre.cons _ _ StrsAre.nil)
        · simp only [List.length_append, List.length_singleton] at hPl ⊢; omega
      · refine SJ.mk (vi, nv + 1) (by k_asm) (by k_asm) (fun p hp => memTail hp) (List.Mem.head _) rfl (fun p hp => nomatch hp) ?_ ⟨?_, ?_⟩
        · intro z9 z1 z2 z3
          simp only [if_neg z1, kstB, List.contains_nil, Bool.false_eq_true, if_false]
        · rw [hstep, ns_upP (by assumption) (by assumption) (by assumption) (by assumption)]; exact hPi
        · simp only [List.length_append, List.length_singleton] at hPl ⊢; omega
      · refine SJ.mk (vi ++ [.str z tz], nv) (by k_asm) (by k_asm) (fun p hp => memTail hp) (List.Mem.head _) rfl (fun p hp => nomatch hp) ?_ ⟨?_, ?_⟩
        · intro z9 z1 z2 z3
          simp only [if_neg z1, kstB, List.contains_nil, Bool.false_eq_true, if_false]
        · rw [hstep, ns_nil (by assumption)]; exact hP
        · simp only [List.length_append, List.length_singleton] at hPl ⊢; omega
    · rintro ⟨vs, nv⟩ u9 h9 tk9 hP ha F9 N9
      dsimp only at hP F9 N9
      simp only [List.cons_append, List.nil_append] at N9
      have hlv : (strValues lv).length = (lv.map (·.1)).length := by simp [strValues]
      rw [hlv, List.take_length, hs1] at hP
      have hfit : Fits (Str.ofString "/") (normC (Txt.split (Txt.slice x (some 1) none) (Str.ofString "/"))) := by
        have h1 := split_len (Txt.slice x (some 1) none)
        have h2 := PyProof.Txt.length_slice_le x (some 1) none
        have h3 := normC_sub (Txt.split (Txt.slice x (some 1) none) (Str.ofString "/")) []
        have h4 := sum_le_of (k := 1000) (normC (Txt.split (Txt.slice x (some 1) none) (Str.ofString "/"))) fun y hy => by
          rcases h3.1 y hy with h | h
          · cases h
          · have := hs3 y (by rw [hs1]; exact h)
            omega
        have h5 : (normC (Txt.split (Txt.slice x (some 1) none) (Str.ofString "/"))).length ≤ 1001 := by
          have := h3.2
          simp only [List.length_nil] at this
          exact Nat.le_trans this (by omega)
        exact ⟨by omega, by rw [slash_len]; exact Nat.le_refl _⟩
      have hP1 := hP.1
      dsimp only [kstB] at F9
      try dsimp only
      try k_fold
      walk_at "mine steps"
      all_goals exact hret _ _ _ (by assumption) (newsDrop (by assumption) (by intro p hp; repeat (first | exact hp | apply memTail)))
end
end
section
open PySem PySem.W PyProof.Rows PySem.Calls
set_option Elab.async false
set_option maxRecDepth 100000
set_option maxHeartbeats 4000000
theorem words_len : ∀ (r : List Nat) (b : Bool) (i : Nat), (wordsOf b i r).length ≤ r.length + 1
  | [], false, _ => by simp [wordsOf]
  | [], true, _ => by simp [wordsOf]
  | c :: r, true, i => by
    have := words_len r false (i + 1)
    simp only [wordsOf, List.length_cons]; omega
  | c :: r, false, i => by
    have h1 := words_len r false (i + 1)
    have h2 := words_len r true (i + 1)
    simp only [wordsOf]
    split
    · simp only [List.length_cons]; omega
    · simp only [List.length_cons]; omega
abbrev StripSt := Int × Option Int × List Str
def quoteS : Str := Str.ofString "\""
def stripStep (x : Str) (st : StripSt) (p : Word) : StripSt :=
  if p.2 = Str.ofString "\"" then
    match st.2.1 with
    | none => (st.1, some p.1, st.2.2)
    | some o => (p.1 + 1, none, if st.1 ≠ o then st.2.2 ++ [Txt.slice x (some st.1) (some o)] else st.2.2)
  else st
def stripRun (x : Str) (ws : List Word) : StripSt := ws.foldl (stripStep x) (0, none, [])
def stripS (x : Str) : Str :=
  if (Builtin.Str.occurrences x (Str.ofString "\"") 0 x.length 1).isEmpty = true then x
  else Str.join (Str.ofString "") ((stripRun x (wordsOf false 0 x.cps.toList)).2.2 ++ if (stripRun x (wordsOf false 0 x.cps.toList)).1 < (x.length : Int) then [Txt.slice x (some (stripRun x (wordsOf false 0 x.cps.toList)).1) none] else [])
theorem strip_bound (x : Str) : ∀ (ws : List Word) (st : StripSt), (∀ y ∈ st.2.2, y.length ≤ x.length) → (∀ y ∈ (ws.foldl (stripStep x) st).2.2, y.length ≤ x.length) ∧ (ws.foldl (stripStep x) st).2.2.length ≤ st.2.2.length + ws.length
  | [], st, h => ⟨h, Nat.le_refl _⟩
  | p :: ws, st, h => by
    have key : (∀ y ∈ (stripStep x st p).2.2, y.length ≤ x.length) ∧ (stripStep x st p).2.2.length ≤ st.2.2.length + 1 := by
      unfold stripStep
      split
      · split
        · exact ⟨h, Nat.le_succ _⟩
        · dsimp only
          split
          · refine ⟨fun y hy => ?_, by simp⟩
            rcases List.mem_append.mp hy with q | q
            · exact h y q
            · rw [List.mem_singleton.mp q]; exact PyProof.Txt.length_slice_le x _ _
          · exact ⟨h, Nat.le_succ _⟩
      · exact ⟨h, Nat.le_succ _⟩
    have ih := strip_bound x ws (stripStep x st p) key.1
    refine ⟨ih.1, ?_⟩
    have := ih.2
    simp only [List.foldl_cons, List.length_cons]
    have := key.2
    omega
end
local macro_rules | `(tactic| walk_at "call builtin:str.join") => `(tactic| (k_here; k_dflt ((with_reducible show wpAny _ _ (PySem.call (Value.builtin "str.join") [Value.str _ _, Value.ref _]) _ _ _); (refine' joinL ?k1 ?k2 ?k3 ?k4 ?_; (case k1 => k_asm); (case k2 => k_mem); (case k3 => first | with_reducible assumption | exact PyProof.Rows.strsAre_append (by with_reducible assumption) (StrsAre.cons _ _ StrsAre.nil)); (case k4 => with_reducible assumption); k_whole); (intro t9 k9 hjl9))))
local macro_rules | `(tactic| walk_at "call ref") => `(tactic| (k_here; k_dflt ((with_reducible show wpAny _ _ (PySem.call (Value.ref 141) [Value.str _ _]) _ _ _); (refine gen_c (by k_asm) (by k_asm) (by k_asm) (by k_asm) (by k_asm) (by first | exact rfl | assumption) (by constructor <;> first | ktr_room | ktr_units) (by assumption) ?_); (intro h9 tk9 Lg9 G9 oL9 og9 gs9 F9 N9 lt9 LG9 gen9 bare9 ready9); (try dsimp only))))
local macro_rules | `(tactic| walk_at "pyIter ref") => `(tactic| (k_dflt (refine wpAny_pyIter_gen (by assumption) ?_)))
local macro_rules | `(tactic| walk_at "call builtin:list.append") => `(tactic| (k_here; k_dflt ((refine' append0 ?k1 ?k2 ?k4 ?k5 ?_; (case k1 => k_asm); (case k2 => k_asm); (case k4 => with_reducible assumption); (case k5 => with_reducible assumption); k_whole); (intro h' F' N'))))
section
open PySem PySem.W PyProof.Rows PySem.Calls
set_option Elab.async false
set_option maxRecDepth 100000
set_option maxHeartbeats 8000000
local macro_rules | `(tactic| walk_at "exec For Tuple Call cons nil") => `(tactic| (k_here; k_dflt ((rename Fr _ _ _ _ => lF'); (with_unfolding_all refine' For_gen lF' ?k1 ?k2 ?k3 ?_; (case k1 => exact rfl); (case k2 => exact rfl); (case k3 => exact rfl); k_whole))))
section
variable {w : World} {loose : List Str} {mean : ExcName → Option Value} {mg mb : Str → Option Value} {news : List (Addr × Obj)}
  {dp un : Nat} {gd : Option (List Code)} {cn : Str} {cs : Scope} {a : Addr} {ccd : Value} {cl : List (Str × Addr)} {outer : List Env} {A₀ : Around} {base h₀ : Heap} {L : Addr} {m : Str → Option Value} {s : Shared} {Q E : Value → Shared → Prop}
theorem strip_open {x : Str} {S1 : Int} {S3 : List Str} {vs : List Value} {pp : Int} {pc : Str} {t1 : Tok} (h : (pc == Str.ofString "\"") = true) (hP : StrsAre vs S3) :
    S1 = (stripStep x (S1, none, S3) (pp, pc)).1 ∧ (match (stripStep x (S1, none, S3) (pp, pc)).2.1 with | none => Value.int pp t1 = .none | some o => ∃ to, Value.int pp t1 = .int o to) ∧ StrsAre vs (stripStep x (S1, none, S3) (pp, pc)).2.2 := by
  have e : pc = Str.ofString "\"" := by simpa using h
  have : stripStep x (S1, none, S3) (pp, pc) = (S1, some pp, S3) := by simp [stripStep, e]
  rw [this]
  exact ⟨rfl, ⟨t1, rfl⟩, hP⟩
theorem strip_skip0 {x : Str} {S1 : Int} {S3 : List Str} {vs : List Value} {pp : Int} {pc : Str} (h : (pc == Str.ofString "\"") = false) (hP : StrsAre vs S3) :
    S1 = (stripStep x (S1, none, S3) (pp, pc)).1 ∧ (match (stripStep x (S1, none, S3) (pp, pc)).2.1 with | none => Value.none = .none | some o => ∃ to, Value.none = .int o to) ∧ StrsAre vs (stripStep x (S1, none, S3) (pp, pc)).2.2 := by
  have e : pc ≠ Str.ofString "\"" := by simpa using h
  have : stripStep x (S1, none, S3) (pp, pc) = (S1, none, S3) := by simp [stripStep, e]
  rw [this]
  exact ⟨rfl, rfl, hP⟩
theorem strip_skip1 {x : Str} {S1 o : Int} {to : Tok} {S3 : List Str} {vs : List Value} {pp : Int} {pc : Str} (h : (pc == Str.ofString "\"") = false) (hP : StrsAre vs S3) :
    S1 = (stripStep x (S1, some o, S3) (pp, pc)).1 ∧ (match (stripStep x (S1, some o, S3) (pp, pc)).2.1 with | none => Value.int o to = .none | some o' => ∃ to', Value.int o to = .int o' to') ∧ StrsAre vs (stripStep x (S1, some o, S3) (pp, pc)).2.2 := by
  have e : pc ≠ Str.ofString "\"" := by simpa using h
  have : stripStep x (S1, some o, S3) (pp, pc) = (S1, some o, S3) := by simp [stripStep, e]
  rw [this]
  exact ⟨rfl, ⟨to, rfl⟩, hP⟩
theorem strip_cut {x : Str} {S1 o : Int} {tb : Tok} {S3 : List Str} {vs : List Value} {pp : Int} {pc : Str} (h : (pc == Str.ofString "\"") = true) (h2 : S1 ≠ o) (hP : StrsAre vs S3) :
    pp + 1 = (stripStep x (S1, some o, S3) (pp, pc)).1 ∧ (match (stripStep x (S1, some o, S3) (pp, pc)).2.1 with | none => Value.none = .none | some o' => ∃ to', Value.none = .int o' to') ∧ StrsAre (vs ++ [.str (Txt.slice x (some S1) (some o)) tb]) (stripStep x (S1, some o, S3) (pp, pc)).2.2 := by
  have e : pc = Str.ofString "\"" := by simpa using h
  have : stripStep x (S1, some o, S3) (pp, pc) = (pp + 1, none, S3 ++ [Txt.slice x (some S1) (some o)]) := by simp [stripStep, e, h2]
  rw [this]
  exact ⟨rfl, rfl, PyProof.Rows.strsAre_append hP (StrsAre.cons _ _ StrsAre.nil)⟩
theorem strip_same {x : Str} {S1 o : Int} {S3 : List Str} {vs : List Value} {pp : Int} {pc : Str} (h : (pc == Str.ofString "\"") = true) (h2 : S1 = o) (hP : StrsAre vs S3) :
    pp + 1 = (stripStep x (S1, some o, S3) (pp, pc)).1 ∧ (match (stripStep x (S1, some o, S3) (pp, pc)).2.1 with | none => Value.none = .none | some o' => ∃ to', Value.none = .int o' to') ∧ StrsAre vs (stripStep x (S1, some o, S3) (pp, pc)).2.2 := by
  have e : pc = Str.ofString "\"" := by simpa using h
  have : stripStep x (S1, some o, S3) (pp, pc) = (pp + 1, none, S3) := by simp [stripStep, e, h2]
  rw [this]
  exact ⟨rfl, rfl, hP⟩
end
namespace Zstrip_c
def S (w : World) (loose : List Str) (mean : ExcName → Option Value) (mg : Str → Option Value) (mb : Str → Option Value) (news : List (Addr × Obj)) (dp : Nat) (un : Nat) (gd : Option (List Code)) (cn : Str) (cs : Scope) (a : Addr) (ccd : Value) (cl : List (Str × Addr)) (outer : List Env) (A₀ : Around) (base : Heap) (h₀ : Heap) (L : Addr) (m : Str → Option Value) (s : Shared) (Q : Value → Shared → Prop) (E : Value → Shared → Prop) (x : Str) (t : Tok) : Prop := (B : Below A₀ base outer h₀) → (F : Fr h₀ L s.heap m) → (X : (hd.heap_39 w.params).In h₀) → (N : News h₀ L s.heap news) → (T : Top hd.view_39 loose mean mg mb h₀) → (hk : cs.kind = .function) → (hR : dp + 40 < recursionLimit ∧ un + 400 < cLine) → (hb : AllBare s.gens) → (hxl : x.length ≤ 1000) → (hret : ∀ (h' : Heap) (tk' : Nat) (t' : Tok) (gn : Array GenState), AllBare gn → Fr h₀ L h' m → News h₀ L h' news → Q (.str (stripS x) t') { s with heap := h', toks := tk', gens := gn }) → wpAny (model Challenge.rw_pd0147_01.row.prog w) (ktrTop dp un gd cn cs L a ccd cl outer) (call (.ref 148) [.str x t]) Q E s
noncomputable def zz : (World) × (List Str) × (ExcName → Option Value) × (Str → Option Value) × (Str → Option Value) × (List (Addr × Obj)) × (Nat) × (Nat) × (Option (List Code)) × (Str) × (Scope) × (Addr) × (Value) × (List (Str × Addr)) × (List Env) × (Around) × (Heap) × (Heap) × (Addr) × (Str → Option Value) × (Shared) × (Value → Shared → Prop) × (Value → Shared → Prop) × (Str) × (Tok) := @Classical.epsilon _ ⟨((⟨fun _ _ => 0, { strHash := fun _ => 0, shareClass := fun _ => 0, mergeTok := id, idOf := fun _ => 0, idOfShared := fun _ _ => 0, followText := fun _ => false, idOfImm := fun _ => 0 }⟩ : World), (Classical.ofNonempty : List Str), (Classical.ofNonempty : ExcName → Option Value), (Classical.ofNonempty : Str → Option Value), (Classical.ofNonempty : Str → Option Value), (Classical.ofNonempty : List (Addr × Obj)), (Classical.ofNonempty : Nat), (Classical.ofNonempty : Nat), (Classical.ofNonempty : Option (List Code)), (Classical.ofNonempty : Str), (Classical.ofNonempty : Scope), (Classical.ofNonempty : Addr), (Classical.ofNonempty : Value), (Classical.ofNonempty : List (Str × Addr)), (Classical.ofNonempty : List Env), (callerA : Around), (Classical.ofNonempty : Heap), (Classical.ofNonempty : Heap), (Classical.ofNonempty : Addr), (Classical.ofNonempty : Str → Option Value), ({} : Shared), (Classical.ofNonempty : Value → Shared → Prop), (Classical.ofNonempty : Value → Shared → Prop), (Classical.ofNonempty : Str), (Classical.ofNonempty : Tok))⟩ fun zz => ¬ Zstrip_c.S (zz.1) (zz.2.1) (zz.2.2.1) (zz.2.2.2.1) (zz.2.2.2.2.1) (zz.2.2.2.2.2.1) (zz.2.2.2.2.2.2.1) (zz.2.2.2.2.2.2.2.1) (zz.2.2.2.2.2.2.2.2.1) (zz.2.2.2.2.2.2.2.2.2.1) (zz.2.2.2.2.2.2.2.2.2.2.1) (zz.2.2.2.2.2.2.2.2.2.2.2.1) (zz.2.2.2.2.2.2.2.2.2.2.2.2.1) (zz.2.2.2.2.2.2.2.2.2.2.2.2.2.1) (zz.2.2.2.2.2.2.2.2.2.2.2.2.2.2.1) (zz.2.2.2.2.2.2.2.2.2.2.2.2.2.2.2.1) (zz.2.2.2.2.2.2.2.2.2.2.2.2.2.2.2.2.1) (zz.2.2.2.2.2.2.2.2.2.2.2.2.2.2.2.2.2.1) (zz.2.2.2.2.2.2.2.2.2.2.2.2.2.2.2.2.2.2.1) (zz.2.2.2.2.2.2.2.2.2.2.2.2.2.2.2.2.2.2.2.1) (zz.2.2.2.2.2.2.2.2.2.2.2.2.2.2.2.2.2.2.2.2.1) (zz.2.2.2.2.2.2.2.2.2.2.2.2.2.2.2.2.2.2.2.2.2.1) (zz.2.2.2.2.2.2.2.2.2.2.2.2.2.2.2.2.2.2.2.2.2.2.1) (zz.2.2.2.2.2.2.2.2.2.2.2.2.2.2.2.2.2.2.2.2.2.2.2.1) (zz.2.2.2.2.2.2.2.2.2.2.2.2.2.2.2.2.2.2.2.2.2.2.2.2)
noncomputable def w : World := zz.1
noncomputable def loose : List Str := zz.2.1
noncomputable def mean : ExcName → Option Value := zz.2.2.1
noncomputable def mg : Str → Option Value := zz.2.2.2.1
noncomputable def mb : Str → Option Value := zz.2.2.2.2.1
noncomputable def news : List (Addr × Obj) := zz.2.2.2.2.2.1
noncomputable def dp : Nat := zz.2.2.2.2.2.2.1
noncomputable def un : Nat := zz.2.2.2.2.2.2.2.1
noncomputable def gd : Option (List Code) := zz.2.2.2.2.2.2.2.2.1
noncomputable def cn : Str := zz.2.2.2.2.2.2.2.2.2.1
noncomputable def cs : Scope := zz.2.2.2.2.2.2.2.2.2.2.1
noncomputable def a : Addr := zz.2.2.2.2.2.2.2.2.2.2.2.1
noncomputable def ccd : Value := zz.2.2.2.2.2.2.2.2.2.2.2.2.1
noncomputable def cl : List (Str × Addr) := zz.2.2.2.2.2.2.2.2.2.2.2.2.2.1
noncomputable def outer : List Env := zz.2.2.2.2.2.2.2.2.2.2.2.2.2.2.1
noncomputable def A₀ : Around := zz.2.2.2.2.2.2.2.2.2.2.2.2.2.2.2.1
noncomputable def base : Heap := zz.2.2.2.2.2.2.2.2.2.2.2.2.2.2.2.2.1
noncomputable def h₀ : Heap := zz.2.2.2.2.2.2.2.2.2.2.2.2.2.2.2.2.2.1
noncomputable def L : Addr := zz.2.2.2.2.2.2.2.2.2.2.2.2.2.2.2.2.2.2.1
noncomputable def m : Str → Option Value := zz.2.2.2.2.2.2.2.2.2.2.2.2.2.2.2.2.2.2.2.1
noncomputable def s : Shared := zz.2.2.2.2.2.2.2.2.2.2.2.2.2.2.2.2.2.2.2.2.1
noncomputable def Q : Value → Shared → Prop := zz.2.2.2.2.2.2.2.2.2.2.2.2.2.2.2.2.2.2.2.2.2.1
noncomputable def E : Value → Shared → Prop := zz.2.2.2.2.2.2.2.2.2.2.2.2.2.2.2.2.2.2.2.2.2.2.1
noncomputable def x : Str := zz.2.2.2.2.2.2.2.2.2.2.2.2.2.2.2.2.2.2.2.2.2.2.2.1
noncomputable def t : Tok := zz.2.2.2.2.2.2.2.2.2.2.2.2.2.2.2.2.2.2.2.2.2.2.2.2
theorem p (B : Below A₀ base outer h₀) (F : Fr h₀ L s.heap m) (X : (hd.heap_39 w.params).In h₀) (N : News h₀ L s.heap news) (T : Top hd.view_39 loose mean mg mb h₀) (hk : cs.kind = .function) (hR : dp + 40 < recursionLimit ∧ un + 400 < cLine) (hb : AllBare s.gens) (hxl : x.length ≤ 1000) (hret : ∀ (h' : Heap) (tk' : Nat) (t' : Tok) (gn : Array GenState), AllBare gn → Fr h₀ L h' m → News h₀ L h' news → Q (.str (stripS x) t') { s with heap := h', toks := tk', gens := gn }) : wpAny (model Challenge.rw_pd0147_01.row.prog w) (ktrTop dp un gd cn cs L a ccd cl outer) (call (.ref 148) [.str x t]) Q E s := by
  obtain ⟨hR1, hR2⟩ := hR
  revert X; k_fill; intro X
  refine wpAny_call ?_
  k_dflt cell_enter
  rename Fr _ _ _ _ => F7
  replace F7 : Fr _ _ _ (fun y => List.lookup y [(Str.ofString "addr", Value.str x t)]) := F7
  rename Top _ _ _ _ _ _ => T7
  have hlim7 := T7.nolimit
  walk_at "mine steps"
  · rename_i hq _ _ _ _
    have e : stripS x = x := if_pos hq
    rw [← e]
    exact e.symm ▸ hret _ _ _ _ hb (by assumption) (by assumption)
  · rename_i hq tq _ _ RS _ l1 _ _ _ h9 tk9 Lg9 G9 oL9 og9 gs9 F9 N9 lt9 LG9 gen9 bare9 ready9
    have hbn : AllBare (s.gens.push gs9) := hb.push bare9
    have hwl := words_len x.cps.toList false 0
    have hcl : x.cps.toList.length = x.length := by simp [Str.length]
    refine loopAtG (σ := Int × Tok × Value × List Value × Nat) (fun c => [(RS, listOf c.2.2.2.1.toArray c.2.2.2.2)]) (fun c => [(Str.ofString "start", .int c.1 c.2.1), (Str.ofString "open_pos", c.2.2.1)]) []
      (fun i c => c.1 = (stripRun x ((wordsOf false 0 x.cps.toList).take i)).1 ∧ (match (stripRun x ((wordsOf false 0 x.cps.toList).take i)).2.1 with | none => c.2.2.1 = .none | some o => ∃ to, c.2.2.1 = .int o to) ∧ StrsAre c.2.2.2.1 (stripRun x ((wordsOf false 0 x.cps.toList).take i)).2.2) (0, tq, .none, [], 0)
      rfl (by ktr_room) hlim7 F9 N9 lt9 LG9 gen9 (by simp) ready9 hbn ?_ ⟨rfl, rfl, StrsAre.nil⟩ (by decide) ?_ ?_
    · intro p hp
      rcases List.mem_cons.mp hp with rfl | hp
      · rfl
      · rw [List.mem_singleton.mp hp]; rfl
    · rintro i p ⟨st, ts, ov, vs, nv⟩ u h8 tk8 gn own t1 t2 hw hoff ha ⟨hP1, hP2, hP3⟩ hbn8 F8 N8
      dsimp only [kstB] at hP1 hP2 hP3 F8 N8
      simp only [List.cons_append, List.nil_append] at N8
      obtain ⟨pp, pc⟩ := p
      dsimp only at F8
      have hstep : stripRun x ((wordsOf false 0 x.cps.toList).take (i + 1)) = stripStep x (stripRun x ((wordsOf false 0 x.cps.toList).take i)) (pp, pc) := by
        rw [List.take_add_one, hw]; simp [stripRun]
      have hbd := (strip_bound x ((wordsOf false 0 x.cps.toList).take i) (0, none, []) (fun _ h => nomatch h)).2
      have hSh : Short vs := ⟨by
        rw [StrsAre.length hP3]
        have : ((wordsOf false 0 x.cps.toList).take i).length ≤ (wordsOf false 0 x.cps.toList).length := List.length_take_le' _ _
        simp only [List.length_nil, Nat.zero_add] at hbd
        exact Nat.le_trans hbd (by omega)⟩
      have hOff := offHead N8 (Off.append (Off.of_lt l1) (Off.of_own hoff (List.Mem.head _)))
      clear hbd
      generalize stripRun x ((wordsOf false 0 x.cps.toList).take i) = S at hP1 hP2 hP3 hstep
      obtain ⟨S1, S2, S3⟩ := S
      dsimp only at hP1 hP2 hP3
      subst hP1
      cases S2 with
      | none =>
        dsimp only at hP2
        subst hP2
        try dsimp only
        try k_fold
        walk_at "mine steps"
        all_goals try dsimp only
        · refine GP_mk (st, ts, .int pp t1, vs, nv) (by k_asm) (by k_asm) (fun q hq => hq) rfl ?gk1 ?gr1 ?gp1
          case gk1 =>
            intro q hq
            rcases List.mem_cons.mp hq with rfl | hq
            · rfl
            · rw [List.mem_singleton.mp hq]; rfl
          case gr1 =>
            intro z z1 z2 z3
            have a1 := z2 _ (List.Mem.head _)
            have a2 := z2 _ (List.Mem.tail _ (List.Mem.head _))
            have a3 : z ≠ Str.ofString "pos" := fun e => by rw [e] at z3; exact absurd z3 (by decide)
            dsimp only at a1 a2
            simp only [if_neg z1, if_neg a1, if_neg a2, if_neg a3, kstB, z3, Bool.false_eq_true, if_false]
          case gp1 =>
            dsimp only
            rw [hstep]
            exact strip_open (by assumption) hP3
        · refine GP_mk (st, ts, .none, vs, nv) (by k_asm) (by k_asm) (fun q hq => hq) rfl ?gk2 ?gr2 ?gp2
          case gk2 =>
            intro q hq
            rcases List.mem_cons.mp hq with rfl | hq
            · rfl
            · rw [List.mem_singleton.mp hq]; rfl
          case gr2 =>
            intro z z1 z2 z3
            have a1 := z2 _ (List.Mem.head _)
            have a2 := z2 _ (List.Mem.tail _ (List.Mem.head _))
            have a3 : z ≠ Str.ofString "pos" := fun e => by rw [e] at z3; exact absurd z3 (by decide)
            dsimp only at a1 a2
            simp only [if_neg z1, if_neg a1, if_neg a2, if_neg a3, kstB, z3, Bool.false_eq_true, if_false]
          case gp2 =>
            dsimp only
            rw [hstep]
            exact strip_skip0 (by assumption) hP3
      | some o =>
        obtain ⟨to, rfl⟩ := hP2
        try dsimp only
        try k_fold
        walk_at "mine steps"
        all_goals try dsimp only
        · refine GP_mk (pp + 1, ?tqa, .none, vs ++ [.str (Txt.slice x (some st) (some o)) ?tqb], nv + 1) (by k_asm) (by k_asm) (fun q hq => hq) rfl ?gk3 ?gr3 ?gp3
          case gk3 =>
            intro q hq
            rcases List.mem_cons.mp hq with rfl | hq
            · rfl
            · rw [List.mem_singleton.mp hq]; rfl
          case gr3 =>
            intro z z1 z2 z3
            have a1 := z2 _ (List.Mem.head _)
            have a2 := z2 _ (List.Mem.tail _ (List.Mem.head _))
            have a3 : z ≠ Str.ofString "pos" := fun e => by rw [e] at z3; exact absurd z3 (by decide)
            dsimp only at a1 a2
            simp only [if_neg z1, if_neg a1, if_neg a2, if_neg a3, kstB, z3, Bool.false_eq_true, if_false]
          case gp3 =>
            dsimp only
            rw [hstep]
            exact strip_cut (by assumption) (by assumption) hP3
        · refine GP_mk (pp + 1, ?tqc, .none, vs, nv) (by k_asm) (by k_asm) (fun q hq => hq) rfl ?gk4 ?gr4 ?gp4
          case gk4 =>
            intro q hq
            rcases List.mem_cons.mp hq with rfl | hq
            · rfl
            · rw [List.mem_singleton.mp hq]; rfl
          case gr4 =>
            intro z z1 z2 z3
            have a1 := z2 _ (List.Mem.head _)
            have a2 := z2 _ (List.Mem.tail _ (List.Mem.head _))
            have a3 : z ≠ Str.ofString "pos" := fun e => by rw [e] at z3; exact absurd z3 (by decide)
            dsimp only at a1 a2
            simp only [if_neg z1, if_neg a1, if_neg a2, if_neg a3, kstB, z3, Bool.false_eq_true, if_false]
          case gp4 =>
            dsimp only
            rw [hstep]
            exact strip_same (by assumption) (by assumption) hP3
        · refine GP_mk (st, ts, .int o to, vs, nv) (by k_asm) (by k_asm) (fun q hq => hq) rfl ?gk5 ?gr5 ?gp5
          case gk5 =>
            intro q hq
            rcases List.mem_cons.mp hq with rfl | hq
            · rfl
            · rw [List.mem_singleton.mp hq]; rfl
          case gr5 =>
            intro z z1 z2 z3
            have a1 := z2 _ (List.Mem.head _)
            have a2 := z2 _ (List.Mem.tail _ (List.Mem.head _))
            have a3 : z ≠ Str.ofString "pos" := fun e => by rw [e] at z3; exact absurd z3 (by decide)
            dsimp only at a1 a2
            simp only [if_neg z1, if_neg a1, if_neg a2, if_neg a3, kstB, z3, Bool.false_eq_true, if_false]
          case gp5 =>
            dsimp only
            rw [hstep]
            exact strip_skip1 (by assumption) hP3
    · rintro ⟨st, ts, ov, vs, nv⟩ u h8 tk8 gn ⟨hP1, hP2, hP3⟩ ha hbn8 F8 N8
      dsimp only [kstB] at hP1 hP2 hP3 F8 N8
      simp only [List.cons_append, List.nil_append] at N8
      rw [List.take_length] at hP1 hP2 hP3
      subst hP1
      have hbd := strip_bound x (wordsOf false 0 x.cps.toList) (0, none, []) (fun _ h => nomatch h)
      have hSh : Short vs := ⟨by
        rw [StrsAre.length hP3]
        have := hbd.2
        simp only [List.length_nil, Nat.zero_add] at this
        exact Nat.le_trans this (by omega)⟩
      have hOff := offHead N8 (Off.of_lt l1)
      have hlenE : (Str.ofString "").length ≤ 1 := by decide +kernel
      have hbd1 := hbd.1
      have hbd2 := hbd.2
      simp only [List.length_nil, Nat.zero_add] at hbd2
      change (stripRun x (wordsOf false 0 x.cps.toList)).2.2.length ≤ _ at hbd2
      change ∀ y ∈ (stripRun x (wordsOf false 0 x.cps.toList)).2.2, _ at hbd1
      have hf0 : Fits (Str.ofString "") (stripRun x (wordsOf false 0 x.cps.toList)).2.2 := ⟨by
        have h4 := sum_le_of (k := 1000) _ fun y hy => Nat.le_trans (hbd1 y hy) hxl
        omega, hlenE⟩
      have hf1 : Fits (Str.ofString "") ((stripRun x (wordsOf false 0 x.cps.toList)).2.2 ++ [Txt.slice x (some (stripRun x (wordsOf false 0 x.cps.toList)).1) none]) := ⟨by
        have h4 := sum_le_of (k := 1000) _ fun y hy => Nat.le_trans (hbd1 y hy) hxl
        have h5 := PyProof.Txt.length_slice_le x (some (stripRun x (wordsOf false 0 x.cps.toList)).1) none
        simp only [List.map_append, List.map_cons, List.map_nil, List.sum_append, List.sum_cons, List.sum_nil, List.length_append, List.length_singleton]
        omega, hlenE⟩
      clear hbd hbd1 hbd2
      try dsimp only
      try k_fold
      walk_at "mine steps"
      · have e : stripS x = Str.join (Str.ofString "") ((stripRun x (wordsOf false 0 x.cps.toList)).2.2 ++ [Txt.slice x (some (stripRun x (wordsOf false 0 x.cps.toList)).1) none]) := by
          unfold stripS
          rw [if_neg (by rw [hq]; exact Bool.false_ne_true), if_pos (by assumption)]
        rw [← e]
        exact hret _ _ _ _ hbn8 (by assumption) (newsDrop (by assumption) (fun p hp => memTail hp))
      · have e : stripS x = Str.join (Str.ofString "") (stripRun x (wordsOf false 0 x.cps.toList)).2.2 := by
          unfold stripS
          rw [if_neg (by rw [hq]; exact Bool.false_ne_true), if_neg (by assumption), List.append_nil]
        rw [← e]
        exact hret _ _ _ _ hbn8 (by assumption) (newsDrop (by assumption) (fun p hp => memTail hp))
theorem q : S w loose mean mg mb news dp un gd cn cs a ccd cl outer A₀ base h₀ L m s Q E x t := by unfold S; exact p
end Zstrip_c
section
variable {w : World} {loose : List Str} {mean : ExcName → Option Value} {mg mb : Str → Option Value} {news : List (Addr × Obj)}
  {dp un : Nat} {gd : Option (List Code)} {cn : Str} {cs : Scope} {a : Addr} {ccd : Value} {cl : List (Str × Addr)} {outer : List Env} {A₀ : Around} {base h₀ : Heap} {L : Addr} {m : Str → Option Value} {s : Shared} {Q E : Value → Shared → Prop}
theorem strip_c {x : Str}
    {t : Tok}
    (B : Below A₀ base outer h₀)
    (F : Fr h₀ L s.heap m)
    (X : (hd.heap_39 w.params).In h₀)
    (N : News h₀ L s.heap news)
    (T : Top hd.view_39 loose mean mg mb h₀)
    (hk : cs.kind = .function)
    (hR : dp + 40 < recursionLimit ∧ un + 400 < cLine)
    (hb : AllBare s.gens)
    (hxl : x.length ≤ 1000)
    (hret : ∀ (h' : Heap) (tk' : Nat) (t' : Tok) (gn : Array GenState), AllBare gn → Fr h₀ L h' m → News h₀ L h' news → Q (.str (stripS x) t') { s with heap := h', toks := tk', gens := gn }) : wpAny (model Challenge.rw_pd0147_01.row.prog w) (ktrTop dp un gd cn cs L a ccd cl outer) (call (.ref 148) [.str x t]) Q E s :=
  epsAll (P := fun zz => Zstrip_c.S (zz.1) (zz.2.1) (zz.2.2.1) (zz.2.2.2.1) (zz.2.2.2.2.1) (zz.2.2.2.2.2.1) (zz.2.2.2.2.2.2.1) (zz.2.2.2.2.2.2.2.1) (zz.2.2.2.2.2.2.2.2.1) (zz.2.2.2.2.2.2.2.2.2.1) (zz.2.2.2.2.2.2.2.2.2.2.1) (zz.2.2.2.2.2.2.2.2.2.2.2.1) (zz.2.2.2.2.2.2.2.2.2.2.2.2.1) (zz.2.2.2.2.2.2.2.2.2.2.2.2.2.1) (zz.2.2.2.2.2.2.2.2.2.2.2.2.2.2.1) (zz.2.2.2.2.2.2.2.2.2.2.2.2.2.2.2.1) (zz.2.2.2.2.2.2.2.2.2.2.2.2.2.2.2.2.1) (zz.2.2.2.2.2.2.2.2.2.2.2.2.2.2.2.2.2.1) (zz.2.2.2.2.2.2.2.2.2.2.2.2.2.2.2.2.2.2.1) (zz.2.2.2.2.2.2.2.2.2.2.2.2.2.2.2.2.2.2.2.1) (zz.2.2.2.2.2.2.2.2.2.2.2.2.2.2.2.2.2.2.2.2.1) (zz.2.2.2.2.2.2.2.2.2.2.2.2.2.2.2.2.2.2.2.2.2.1) (zz.2.2.2.2.2.2.2.2.2.2.2.2.2.2.2.2.2.2.2.2.2.2.1) (zz.2.2.2.2.2.2.2.2.2.2.2.2.2.2.2.2.2.2.2.2.2.2.2.1) (zz.2.2.2.2.2.2.2.2.2.2.2.2.2.2.2.2.2.2.2.2.2.2.2.2)) Zstrip_c.q (w, loose, mean, mg, mb, news, dp, un, gd, cn, cs, a, ccd, cl, outer, A₀, base, h₀, L, m, s, Q, E, x, t) B F X N T hk hR hb hxl hret
end
end
local macro_rules | `(tactic| walk_at "call ref") => `(tactic| (k_here; k_dflt ((with_reducible show wpAny _ _ (PySem.call (Value.ref 148) [Value.str _ _]) _ _ _); (refine strip_c (by k_asm) (by k_asm) (by k_asm) (by k_asm) (by k_asm) (by first | exact rfl | assumption) (by constructor <;> first | ktr_room | ktr_units) (by assumption) (by assumption) ?_); (intro h9 tk9 t9 gn9 hbn9 F9 N9); (try dsimp only))))
section
open PySem PySem.W PyProof.Rows PySem.Calls
set_option Elab.async false
set_option maxRecDepth 100000
set_option maxHeartbeats 8000000
local macro_rules | `(tactic| walk_at "exec For Tuple Call cons nil") => `(tactic| (k_here; k_dflt ((rename Fr _ _ _ _ => lF'); (with_unfolding_all refine' For_gen lF' ?k1 ?k2 ?k3 ?_; (case k1 => exact rfl); (case k2 => exact rfl); (case k3 => exact rfl); k_whole))))
section
variable {w : World} {loose : List Str} {mean : ExcName → Option Value} {mg mb : Str → Option Value} {news : List (Addr × Obj)}
  {dp un : Nat} {gd : Option (List Code)} {cn : Str} {cs : Scope} {a : Addr} {ccd : Value} {cl : List (Str × Addr)} {outer : List Env} {A₀ : Around} {base h₀ : Heap} {L : Addr} {m : Str → Option Value} {s : Shared} {Q E : Value → Shared → Prop}
def checkRun : Int → List Word → Option Int
  | n, [] => some n
  | n, p :: r => if p.2 = Str.ofString "(" then checkRun (n + 1) r else if p.2 = Str.ofString ")" then (if n - 1 < 0 then none else checkRun (n - 1) r) else checkRun n r
def checkS (x : Str) : Bool := checkRun 0 (wordsOf false 0 (stripS x).cps.toList) == some 0
theorem check_open {ws r : List Word} {st pp : Int} {pc : Str} (hP : checkRun 0 ws = checkRun st ((pp, pc) :: r)) (h : (pc == Str.ofString "(") = true) : checkRun 0 ws = checkRun (st + 1) r := by
  have e : pc = Str.ofString "(" := by simpa using h
  rw [hP, checkRun, if_pos e]
theorem check_fall {ws r : List Word} {st pp : Int} {pc : Str} (hP : checkRun 0 ws = checkRun st ((pp, pc) :: r)) (h1 : (pc == Str.ofString "(") = false) (h2 : (pc == Str.ofString ")") = true) (h3 : st - 1 < 0) : checkRun 0 ws = none := by
  have e1 : pc ≠ Str.ofString "(" := by simpa using h1
  have e2 : pc = Str.ofString ")" := by simpa using h2
  rw [hP, checkRun, if_neg e1, if_pos e2, if_pos h3]
theorem check_close {ws r : List Word} {st pp : Int} {pc : Str} (hP : checkRun 0 ws = checkRun st ((pp, pc) :: r)) (h1 : (pc == Str.ofString "(") = false) (h2 : (pc == Str.ofString ")") = true) (h3 : ¬ st - 1 < 0) : checkRun 0 ws = checkRun (st - 1) r := by
  have e1 : pc ≠ Str.ofString "(" := by simpa using h1
  have e2 : pc = Str.ofString ")" := by simpa using h2
  rw [hP, checkRun, if_neg e1, if_pos e2, if_neg h3]
theorem check_skip {ws r : List Word} {st pp : Int} {pc : Str} (hP : checkRun 0 ws = checkRun st ((pp, pc) :: r)) (h1 : (pc == Str.ofString "(") = false) (h2 : (pc == Str.ofString ")") = false) : checkRun 0 ws = checkRun st r := by
  have e1 : pc ≠ Str.ofString "(" := by simpa using h1
  have e2 : pc ≠ Str.ofString ")" := by simpa using h2
  rw [hP, checkRun, if_neg e1, if_neg e2]
end
namespace Zcheck_c
def S (w : World) (loose : List Str) (mean : ExcName → Option Value) (mg : Str → Option Value) (mb : Str → Option Value) (news : List (Addr × Obj)) (dp : Nat) (un : Nat) (gd : Option (List Code)) (cn : Str) (cs : Scope) (a : Addr) (ccd : Value) (cl : List (Str × Addr)) (outer : List Env) (A₀ : Around) (base : Heap) (h₀ : Heap) (L : Addr) (m : Str → Option Value) (s : Shared) (Q : Value → Shared → Prop) (E : Value → Shared → Prop) (x : Str) (t : Tok) : Prop := (B : Below A₀ base outer h₀) → (F : Fr h₀ L s.heap m) → (X : (hd.heap_39 w.params).In h₀) → (N : News h₀ L s.heap news) → (T : Top hd.view_39 loose mean mg mb h₀) → (hk : cs.kind = .function) → (hR : dp + 60 < recursionLimit ∧ un + 600 < cLine) → (hb : AllBare s.gens) → (hxl : x.length ≤ 1000) → (hsl : (stripS x).length ≤ 1000) → (hret : ∀ (h' : Heap) (tk' : Nat) (gn : Array GenState), AllBare gn → Fr h₀ L h' m → News h₀ L h' news → Q (.bool (checkS x)) { s with heap := h', toks := tk', gens := gn }) → wpAny (model Challenge.rw_pd0147_01.row.prog w) (ktrTop dp un gd cn cs L a ccd cl outer) (call (.ref 155) [.str x t]) Q E s
noncomputable def zz : (World) × (List Str) × (ExcName → Option Value) × (Str → Option Value) × (Str → Option Value) × (List (Addr × Obj)) × (Nat) × (Nat) × (Option (List Code)) × (Str) × (Scope) × (Addr) × (Value) × (List (Str × Addr)) × (List Env) × (Around) × (Heap) × (Heap) × (Addr) × (Str → Option Value) × (Shared) × (Value → Shared → Prop) × (Value → Shared → Prop) × (Str) × (Tok) := @Classical.epsilon _ ⟨((⟨fun _ _ => 0, { strHash := fun _ => 0, shareClass := fun _ => 0, mergeTok := id, idOf := fun _ => 0, idOfShared := fun _ _ => 0, followText := fun _ => false, idOfImm := fun _ => 0 }⟩ : World), (Classical.ofNonempty : List Str), (Classical.ofNonempty : ExcName → Option Value), (Classical.ofNonempty : Str → Option Value), (Classical.ofNonempty : Str → Option Value), (Classical.ofNonempty : List (Addr × Obj)), (Classical.ofNonempty : Nat), (Classical.ofNonempty : Nat), (Classical.ofNonempty : Option (List Code)), (Classical.ofNonempty : Str), (Classical.ofNonempty : Scope), (Classical.ofNonempty : Addr), (Classical.ofNonempty : Value), (Classical.ofNonempty : List (Str × Addr)), (Classical.ofNonempty : List Env), (callerA : Around), (Classical.ofNonempty : Heap), (Classical.ofNonempty : Heap), (Classical.ofNonempty : Addr), (Classical.ofNonempty : Str → Option Value), ({} : Shared), (Classical.ofNonempty : Value → Shared → Prop), (Classical.ofNonempty : Value → Shared → Prop), (Classical.ofNonempty : Str), (Classical.ofNonempty : Tok))⟩ fun zz => ¬ Zcheck_c.S (zz.1) (zz.2.1) (zz.2.2.1) (zz.2.2.2.1) (zz.2.2.2.2.1) (zz.2.2.2.2.2.1) (zz.2.2.2.2.2.2.1) (zz.2.2.2.2.2.2.2.1) (zz.2.2.2.2.2.2.2.2.1) (zz.2.2.2.2.2.2.2.2.2.1) (zz.2.2.2.2.2.2.2.2.2.2.1) (zz.2.2.2.2.2.2.2.2.2.2.2.1) (zz.2.2.2.2.2.2.2.2.2.2.2.2.1) (zz.2.2.2.2.2.2.2.2.2.2.2.2.2.1) (zz.2.2.2.2.2.2.2.2.2.2.2.2.2.2.1) (zz.2.2.2.2.2.2.2.2.2.2.2.2.2.2.2.1) (zz.2.2.2.2.2.2.2.2.2.2.2.2.2.2.2.2.1) (zz.2.2.2.2.2.2.2.2.2.2.2.2.2.2.2.2.2.1) (zz.2.2.2.2.2.2.2.2.2.2.2.2.2.2.2.2.2.2.1) (zz.2.2.2.2.2.2.2.2.2.2.2.2.2.2.2.2.2.2.2.1) (zz.2.2.2.2.2.2.2.2.2.2.2.2.2.2.2.2.2.2.2.2.1) (zz.2.2.2.2.2.2.2.2.2.2.2.2.2.2.2.2.2.2.2.2.2.1) (zz.2.2.2.2.2.2.2.2.2.2.2.2.2.2.2.2.2.2.2.2.2.2.1) (zz.2.2.2.2.2.2.2.2.2.2.2.2.2.2.2.2.2.2.2.2.2.2.2.1) (zz.2.2.2.2.2.2.2.2.2.2.2.2.2.2.2.2.2.2.2.2.2.2.2.2)
noncomputable def w : World := zz.1
noncomputable def loose : List Str := zz.2.1
noncomputable def mean : ExcName → Option Value := zz.2.2.1
noncomputable def mg : Str → Option Value := zz.2.2.2.1
noncomputable def mb : Str → Option Value := zz.2.2.2.2.1
noncomputable def news : List (Addr × Obj) := zz.2.2.2.2.2.1
noncomputable def dp : Nat := zz.2.2.2.2.2.2.1
noncomputable def un : Nat := zz.2.2.2.2.2.2.2.1
noncomputable def gd : Option (List Code) := zz.2.2.2.2.2.2.2.2.1
noncomputable def cn : Str := zz.2.2.2.2.2.2.2.2.2.1
noncomputable def cs : Scope := zz.2.2.2.2.2.2.2.2.2.2.1
noncomputable def a : Addr := zz.2.2.2.2.2.2.2.2.2.2.2.1
noncomputable def ccd : Value := zz.2.2.2.2.2.2.2.2.2.2.2.2.1
noncomputable def cl : List (Str × Addr) := zz.2.2.2.2.2.2.2.2.2.2.2.2.2.1
noncomputable def outer : List Env := zz.2.2.2.2.2.2.2.2.2.2.2.2.2.2.1
noncomputable def A₀ : Around := zz.2.2.2.2.2.2.2.2.2.2.2.2.2.2.2.1
noncomputable def base : Heap := zz.2.2.2.2.2.2.2.2.2.2.2.2.2.2.2.2.1
noncomputable def h₀ : Heap := zz.2.2.2.2.2.2.2.2.2.2.2.2.2.2.2.2.2.1
noncomputable def L : Addr := zz.2.2.2.2.2.2.2.2.2.2.2.2.2.2.2.2.2.2.1
noncomputable def m : Str → Option Value := zz.2.2.2.2.2.2.2.2.2.2.2.2.2.2.2.2.2.2.2.1
noncomputable def s : Shared := zz.2.2.2.2.2.2.2.2.2.2.2.2.2.2.2.2.2.2.2.2.1
noncomputable def Q : Value → Shared → Prop := zz.2.2.2.2.2.2.2.2.2.2.2.2.2.2.2.2.2.2.2.2.2.1
noncomputable def E : Value → Shared → Prop := zz.2.2.2.2.2.2.2.2.2.2.2.2.2.2.2.2.2.2.2.2.2.2.1
noncomputable def x : Str := zz.2.2.2.2.2.2.2.2.2.2.2.2.2.2.2.2.2.2.2.2.2.2.2.1
noncomputable def t : Tok := zz.2.2.2.2.2.2.2.2.2.2.2.2.2.2.2.2.2.2.2.2.2.2.2.2
theorem p (B : Below A₀ base outer h₀) (F : Fr h₀ L s.heap m) (X : (hd.heap_39 w.params).In h₀) (N : News h₀ L s.heap news) (T : Top hd.view_39 loose mean mg mb h₀) (hk : cs.kind = .function) (hR : dp + 60 < recursionLimit ∧ un + 600 < cLine) (hb : AllBare s.gens) (hxl : x.length ≤ 1000) (hsl : (stripS x).length ≤ 1000) (hret : ∀ (h' : Heap) (tk' : Nat) (gn : Array GenState), AllBare gn → Fr h₀ L h' m → News h₀ L h' news → Q (.bool (checkS x)) { s with heap := h', toks := tk', gens := gn }) : wpAny (model Challenge.rw_pd0147_01.row.prog w) (ktrTop dp un gd cn cs L a ccd cl outer) (call (.ref 155) [.str x t]) Q E s := by
  obtain ⟨hR1, hR2⟩ := hR
  revert X; k_fill; intro X
  refine wpAny_call ?_
  k_dflt cell_enter
  rename Fr _ _ _ _ => F7
  replace F7 : Fr _ _ _ (fun y => List.lookup y [(Str.ofString "addr", Value.str x t)]) := F7
  rename Top _ _ _ _ _ _ => T7
  have hlim7 := T7.nolimit
  walk_at "mine steps"
  rename_i _ _ t9 gn9 hbn9 _ _ _ _ h9 tk9 Lg9 G9 oL9 og9 gs9 F9 N9 lt9 LG9 gen9 bare9 ready9
  have hbn : AllBare (gn9.push gs9) := hbn9.push bare9
  generalize hws : wordsOf false 0 (stripS x).cps.toList = ws at ready9
  have hcs : checkS x = (checkRun 0 ws == some 0) := by unfold checkS; rw [hws]
  refine loopAtG (σ := Int × Tok) (fun c => []) (fun c => [(Str.ofString "opens", .int c.1 c.2)]) [] (fun i c => checkRun 0 ws = checkRun c.1 (ws.drop i)) (0, tk)
      rfl (by ktr_room) hlim7 F9 N9 lt9 LG9 gen9 (by simp) ready9 hbn ?_ (by rw [List.drop_zero]) (by decide) ?_ ?_
  · intro p hp
    rw [List.mem_singleton.mp hp]; rfl
  · rintro i p ⟨st, ts⟩ u h8 tk8 gn own t1 t2 hw hoff ha hP hbn8 F8 N8
    dsimp only [kstB] at hP F8 N8
    simp only [List.nil_append] at N8
    obtain ⟨pp, pc⟩ := p
    dsimp only at F8
    have hdr : ws.drop i = (pp, pc) :: ws.drop (i + 1) := by
      have hlt : i < ws.length := by
        rcases Nat.lt_or_ge i ws.length with q | q
        · exact q
        · rw [List.getElem?_eq_none q] at hw; cases hw
      rw [List.drop_eq_getElem_cons hlt]
      have : ws[i] = (pp, pc) := by rw [List.getElem?_eq_getElem hlt] at hw; exact Option.some.inj hw
      rw [this]
    rw [hdr] at hP
    try dsimp only
    try k_fold
    walk_at "mine steps"
    all_goals try dsimp only
    · refine GP_mk (st + 1, ?tqa) (by k_asm) (by k_asm) (fun q hq => hq) rfl ?gk1 ?gr1 ?gp1
      case gk1 =>
        intro q hq
        rw [List.mem_singleton.mp hq]; rfl
      case gr1 =>
        intro z z1 z2 z3
        have a1 := z2 _ (List.Mem.head _)
        have a3 : z ≠ Str.ofString "pos" := fun e => by rw [e] at z3; exact absurd z3 (by decide)
        dsimp only at a1
        simp only [if_neg z1, if_neg a1, if_neg a3, kstB, z3, Bool.false_eq_true, if_false]
      case gp1 =>
        dsimp only
        exact check_open hP (by assumption)
    · have e : checkS x = false := by rw [hcs, check_fall hP (by assumption) (by assumption) (by assumption)]; rfl
      rw [e] at hret
      dsimp only [GPost]
      walk_at "mine steps"
      all_goals exact hret _ _ _ hbn8 (by assumption) (newsDrop (by assumption) (fun p hp => List.mem_append.mpr (.inl hp)))
    · refine GP_mk (st - 1, ?tqb) (by k_asm) (by k_asm) (fun q hq => hq) rfl ?gk2 ?gr2 ?gp2
      case gk2 =>
        intro q hq
        rw [List.mem_singleton.mp hq]; rfl
      case gr2 =>
        intro z z1 z2 z3
        have a1 := z2 _ (List.Mem.head _)
        have a3 : z ≠ Str.ofString "pos" := fun e => by rw [e] at z3; exact absurd z3 (by decide)
        dsimp only at a1
        simp only [if_neg z1, if_neg a1, if_neg a3, kstB, z3, Bool.false_eq_true, if_false]
      case gp2 =>
        dsimp only
        exact check_close hP (by assumption) (by assumption) (by assumption)
    · refine GP_mk (st, ts) (by k_asm) (by k_asm) (fun q hq => hq) rfl ?gk3 ?gr3 ?gp3
      case gk3 =>
        intro q hq
        rw [List.mem_singleton.mp hq]; rfl
      case gr3 =>
        intro z z1 z2 z3
        have a1 := z2 _ (List.Mem.head _)
        have a3 : z ≠ Str.ofString "pos" := fun e => by rw [e] at z3; exact absurd z3 (by decide)
        dsimp only at a1
        simp only [if_neg z1, if_neg a1, if_neg a3, kstB, z3, Bool.false_eq_true, if_false]
      case gp3 =>
        dsimp only
        exact check_skip hP (by assumption) (by assumption)
  · rintro ⟨st, ts⟩ u h8 tk8 gn hP ha hbn8 F8 N8
    dsimp only [kstB] at hP F8 N8
    simp only [List.nil_append] at N8
    rw [List.drop_length] at hP
    have hce : checkS x = (st == 0) := by rw [hcs, hP]; show (some st == some 0) = _; simp
    try dsimp only
    try k_fold
    walk_at "mine steps"
    all_goals
      rw [← hce]
      exact hret _ _ _ hbn8 (by assumption) (by assumption)
theorem q : S w loose mean mg mb news dp un gd cn cs a ccd cl outer A₀ base h₀ L m s Q E x t := by unfold S; exact p
end Zcheck_c
section
variable {w : World} {loose : List Str} {mean : ExcName → Option Value} {mg mb : Str → Option Value} {news : List (Addr × Obj)}
  {dp un : Nat} {gd : Option (List Code)} {cn : Str} {cs : Scope} {a : Addr} {ccd : Value} {cl : List (Str × Addr)} {outer : List Env} {A₀ : Around} {base h₀ : Heap} {L : Addr} {m : Str → Option Value} {s : Shared} {Q E : Value → Shared → Prop}
theorem check_c {x : Str}
    {t : Tok}
    (B : Below A₀ base outer h₀)
    (F : Fr h₀ L s.heap m)
    (X : (hd.heap_39 w.params).In h₀)
    (N : News h₀ L s.heap news)
    (T : Top hd.view_39 loose mean mg mb h₀)
    (hk : cs.kind = .function)
    (hR : dp + 60 < recursionLimit ∧ un + 600 < cLine)
    (hb : AllBare s.gens)
    (hxl : x.length ≤ 1000)
    (hsl : (stripS x).length ≤ 1000)
    (hret : ∀ (h' : Heap) (tk' : Nat) (gn : Array GenState), AllBare gn → Fr h₀ L h' m → News h₀ L h' news → Q (.bool (checkS x)) { s with heap := h', toks := tk', gens := gn }) : wpAny (model Challenge.rw_pd0147_01.row.prog w) (ktrTop dp un gd cn cs L a ccd cl outer) (call (.ref 155) [.str x t]) Q E s :=
  epsAll (P := fun zz => Zcheck_c.S (zz.1) (zz.2.1) (zz.2.2.1) (zz.2.2.2.1) (zz.2.2.2.2.1) (zz.2.2.2.2.2.1) (zz.2.2.2.2.2.2.1) (zz.2.2.2.2.2.2.2.1) (zz.2.2.2.2.2.2.2.2.1) (zz.2.2.2.2.2.2.2.2.2.1) (zz.2.2.2.2.2.2.2.2.2.2.1) (zz.2.2.2.2.2.2.2.2.2.2.2.1) (zz.2.2.2.2.2.2.2.2.2.2.2.2.1) (zz.2.2.2.2.2.2.2.2.2.2.2.2.2.1) (zz.2.2.2.2.2.2.2.2.2.2.2.2.2.2.1) (zz.2.2.2.2.2.2.2.2.2.2.2.2.2.2.2.1) (zz.2.2.2.2.2.2.2.2.2.2.2.2.2.2.2.2.1) (zz.2.2.2.2.2.2.2.2.2.2.2.2.2.2.2.2.2.1) (zz.2.2.2.2.2.2.2.2.2.2.2.2.2.2.2.2.2.2.1) (zz.2.2.2.2.2.2.2.2.2.2.2.2.2.2.2.2.2.2.2.1) (zz.2.2.2.2.2.2.2.2.2.2.2.2.2.2.2.2.2.2.2.2.1) (zz.2.2.2.2.2.2.2.2.2.2.2.2.2.2.2.2.2.2.2.2.2.1) (zz.2.2.2.2.2.2.2.2.2.2.2.2.2.2.2.2.2.2.2.2.2.2.1) (zz.2.2.2.2.2.2.2.2.2.2.2.2.2.2.2.2.2.2.2.2.2.2.2.1) (zz.2.2.2.2.2.2.2.2.2.2.2.2.2.2.2.2.2.2.2.2.2.2.2.2)) Zcheck_c.q (w, loose, mean, mg, mb, news, dp, un, gd, cn, cs, a, ccd, cl, outer, A₀, base, h₀, L, m, s, Q, E, x, t) B F X N T hk hR hb hxl hsl hret
end
end
section
open PySem PySem.W PyProof.Rows PySem.Calls
set_option Elab.async false
set_option maxRecDepth 100000
set_option maxHeartbeats 4000000
theorem mp_init : Slot "map" "__init__" "object.__init__" :=
  .of (owner := "object") (n := "__init__") (by rw [typeLookup_type, builtinLookup_eq_fast]; kernel_rfl) (by decide +kernel) (by decide +kernel) (by decide +kernel)
    (by first | exact .inl (by decide +kernel) | exact .inr (by decide +kernel)) (by rw [isSubtype_type]; kernel_rfl)
theorem mp_iter : Slot "map" "__iter__" "map.__iter__" :=
  .of (owner := "map") (n := "__iter__") (by rw [typeLookup_type, builtinLookup_eq_fast]; kernel_rfl) (by decide +kernel) (by decide +kernel) (by decide +kernel)
    (by first | exact .inl (by decide +kernel) | exact .inr (by decide +kernel)) (by rw [isSubtype_type]; kernel_rfl)
theorem mp_next : Slot "map" "__next__" "map.__next__" :=
  .of (owner := "map") (n := "__next__") (by rw [typeLookup_type, builtinLookup_eq_fast]; kernel_rfl) (by decide +kernel) (by decide +kernel) (by decide +kernel)
    (by first | exact .inl (by decide +kernel) | exact .inr (by decide +kernel)) (by rw [isSubtype_type]; kernel_rfl)
theorem mp_entry_next : entryFor table "map.__next__" = some Builtin.«map.__next__» := entryFor_of_tree (by kernel_rfl)
theorem mp_entry_new : entryFor table "map.__new__" = some Builtin.«map.__new__» := entryFor_of_tree (by kernel_rfl)
theorem mp_entry_iter : entryFor table "map.__iter__" = some Builtin.«dict_keyiterator.__iter__» :=
  entryFor_alias (id' := "dict_keyiterator.__iter__") (by kernel_rfl) (by first | rfl | decide +kernel | (unfold String.splitOn; simp +decide [String.splitOnAux])) (by decide +kernel) (by kernel_rfl)
theorem mp_args_next (a : Value) : argsOk "map.__next__" ⟨[a], []⟩ := by unfold argsOk; kernel_rfl
theorem mp_args_iter (a : Value) : argsOk "map.__iter__" ⟨[a], []⟩ := by unfold argsOk; kernel_rfl
theorem mp_mro : mroOf (.type "map") = pure [.type "map", .type "object"] := by rw [mroOf_type]; kernel_rfl
theorem mp_lookup_new : typeLookup (.type "map") "__new__" = pure (some (.builtin "map.__new__")) := by rw [typeLookup_type, builtinLookup_eq_fast]; kernel_rfl
theorem mp_called : TypeCalled "map" "map.__new__" "object.__init__" :=
  ⟨by decide +kernel, by decide +kernel, ⟨_, _, mp_mro⟩, madeBy_type mp_mro mp_lookup_new (by decide +kernel), by decide +kernel, by rw [isSubtype_type]; kernel_rfl, mp_init⟩
theorem mp_typeCall (a b : Value) : checkTypeCall "map" ⟨[a, b], []⟩ = pure () := by kernel_rfl
theorem mp_newCall (a b : Value) : checkBuiltinCall "map.__new__" ⟨[.type "map", a, b], []⟩ = pure () := by kernel_rfl
theorem mp_no_len : typeLookup (.type "map") "__len__" = pure none := by rw [typeLookup_type, builtinLookup_eq_fast]; kernel_rfl
theorem mp_no_hint : typeLookup (.type "map") "__length_hint__" = pure none := by rw [typeLookup_type, builtinLookup_eq_fast]; kernel_rfl
theorem mp_sub : isSubtype (.type "map") (.type "map") = pure true := by rw [isSubtype_type]; kernel_rfl
end
section
open PySem PySem.W PyProof.Rows PySem.Calls
set_option Elab.async false
set_option maxRecDepth 100000
set_option maxHeartbeats 4000000
theorem map_new {f : Value} {D : Addr} {items : Array Value} {prog : Program} {w : World} {A : Around} {E : Value → Shared → Prop} {s : Shared} {Q : Fin → Shared → Prop} (hl : s.heap.IsList D items)
    (h : Q (.done (.ret (.ref (s.heap.objs.size + 2)))) { s with heap := ((s.heap.push { cls := .type "list_iterator", data := .fields #[.ref D, .int 0 0] }).push { cls := .type "tuple", data := .seq #[.ref s.heap.objs.size] }).push { cls := .type "map", data := .fields #[.ref (s.heap.objs.size + 1), f] } }) :
    wpAny (model prog w) A (Builtin.«map.__new__» ⟨[.type "map", f, .ref D], []⟩) Q E s := by
  have hsub := mp_sub
  have hty : isType (.type "map") = pure true := by with_unfolding_all rfl
  unfold Builtin.«map.__new__»
  wp_walk using wpAny_pyIter_list hl
  have z : ∀ (a b : Obj), ((s.heap.push a).push b).objs.size = s.heap.objs.size + 2 := fun a b => by rw [Heap.size_push, Heap.size_push]
  have z1 : ∀ (a : Obj), (s.heap.push a).objs.size = s.heap.objs.size + 1 := fun a => by rw [Heap.size_push]
  rw [z, z1]
  exact h
section
variable {prog : Program} {w : World} {A : Around} {E : Value → Shared → Prop} {s : Shared}
def mapObj (T : Addr) (f : Value) : Obj := { cls := .type "map", data := .fields #[.ref T, f] }
def oneTup (It : Addr) : Obj := { cls := .type "tuple", data := .seq #[.ref It] }
theorem call_map {f : Value} {D : Addr} {items : Array Value} {n : Nat} {Q : Value → Shared → Prop} (hl : s.heap.get? D = some (listOf items n))
    (h : ∀ h' M T It, h'.get? M = some (mapObj T f) → h'.get? T = some (oneTup It) → h'.IsListIter It D 0 → It = s.heap.objs.size → T = It + 1 → M = It + 2 → h'.objs.size = It + 3 →
      (∀ b o, s.heap.get? b = some o → h'.get? b = some o) → Q (.ref M) { s with heap := h' }) :
    wpAny (model prog w) A (call (.type "map") [f, .ref D]) Q E s := by
  refine callType_new (S := fun _ R s => s.heap.get? D = some (listOf items n) ∧ R (.ok (.ret (.ref (s.heap.objs.size + 2)))) { s with heap := ((s.heap.push { cls := .type "list_iterator", data := .fields #[.ref D, .int 0 0] }).push { cls := .type "tuple", data := .seq #[.ref s.heap.objs.size] }).push { cls := .type "map", data := .fields #[.ref (s.heap.objs.size + 1), f] } })
    mp_called (by decide) (mp_typeCall _ _) (mp_newCall _ _) (fun obj => F.args_object_init_3 obj _ _) mp_entry_new (fun prog w A R s h => map_new ⟨_, h.1, rfl, n, rfl⟩ h.2) ⟨hl, ?_⟩
  have z1 : (s.heap.push { cls := .type "list_iterator", data := .fields #[.ref D, .int 0 0] }).objs.size = s.heap.objs.size + 1 := Heap.size_push ..
  have z2 : ((s.heap.push { cls := .type "list_iterator", data := .fields #[.ref D, .int 0 0] }).push { cls := .type "tuple", data := .seq #[.ref s.heap.objs.size] }).objs.size = s.heap.objs.size + 2 := by rw [Heap.size_push, z1]
  have g3 : (((s.heap.push { cls := .type "list_iterator", data := .fields #[.ref D, .int 0 0] }).push { cls := .type "tuple", data := .seq #[.ref s.heap.objs.size] }).push { cls := .type "map", data := .fields #[.ref (s.heap.objs.size + 1), f] }).get? (s.heap.objs.size + 2) = some (mapObj (s.heap.objs.size + 1) f) := by
    have := Heap.get?_push_size ((s.heap.push { cls := .type "list_iterator", data := .fields #[.ref D, .int 0 0] }).push { cls := .type "tuple", data := .seq #[.ref s.heap.objs.size] }) (o := { cls := .type "map", data := .fields #[.ref (s.heap.objs.size + 1), f] }) rfl
    rw [z2] at this; exact this
  have g2 : ((s.heap.push { cls := .type "list_iterator", data := .fields #[.ref D, .int 0 0] }).push { cls := .type "tuple", data := .seq #[.ref s.heap.objs.size] }).get? (s.heap.objs.size + 1) = some (oneTup s.heap.objs.size) := by
    have := Heap.get?_push_size (s.heap.push { cls := .type "list_iterator", data := .fields #[.ref D, .int 0 0] }) (o := { cls := .type "tuple", data := .seq #[.ref s.heap.objs.size] }) rfl
    rw [z1] at this; exact this
  exact ⟨⟨_, g3, rfl⟩, h _ _ _ _ g3 (Heap.get?_push_of_some _ g2) ⟨_, Heap.get?_push_of_some _ (Heap.get?_push_of_some _ (Heap.get?_push_size _ rfl)), rfl, rfl⟩ rfl rfl rfl (by rw [Heap.size_push, z2])
    fun b o e => Heap.get?_push_of_some _ (Heap.get?_push_of_some _ (Heap.get?_push_of_some _ e))⟩
theorem map_item {f x : Value} {M T It D : Addr} {items : Array Value} {i : Nat} {Q : Option Value → Shared → Prop} (hM : s.heap.get? M = some (mapObj T f)) (hT : s.heap.get? T = some (oneTup It)) (hMI : M ≠ It)
    (hit : s.heap.IsListIter It D i) (hl : s.heap.IsList D items) (hx : items[i]? = some x)
    (h : ∀ h', h'.IsListIter It D (i + 1) → Heap.SameBut It s.heap h' → wpAny (model prog w) A.in1 (call f [x]) (fun v s' => Q (some v) s') (fun _ _ => False) { s with heap := h' }) :
    wpAny (model prog w) A (pyNext (.ref M)) Q E s := by
  have hTy : s.TypeIs (.ref M) "map" := ⟨_, hM, rfl⟩
  unfold pyNext
  refine wpAny_bind (wpAny_attempt (wpAny_callSpecial?_slot (name := Str.ofString "__next__") hTy mp_next (wpAny_call_entry mp_next hTy mp_entry_next ?_ (mp_args_next _))))
  show wpAny _ _ (field (.ref M) 0 >>= fun a => seqItems? a >>= _) _ _ s
  refine wpAny_bind (wpAny_field hM rfl (x := .ref T) rfl ?_)
  refine wpAny_bind (wpAny_seqItems hT rfl ?_)
  show wpAny _ _ ((forIn #[Value.ref It] (#[] : Array Value) fun it items => do
      let x ← holding items.toList (Builtin.SmallTypes.nextOf it)
      pure (ForInStep.yield (items.push x))) >>= _) _ _ s
  rw [← Array.forIn_toList]
  simp only [List.forIn_cons, List.forIn_nil]
  refine wpAny_bind (wpAny_bind (wpAny_bind (wpAny_holding (wpAny_nextOf_list_item hit hl hx fun h' hit' hs => ?_))))
  refine wpAny_pure ?_
  have hM' : h'.get? M = some (mapObj T f) := by
    first | exact (hs.get hMI).trans hM | exact (hs _ hMI).trans hM | exact (hs.2 _ hMI).trans hM
  refine wpAny_pure ?_
  refine wpAny_bind (wpAny_field (s := { s with heap := h' }) hM' rfl (x := f) rfl ?_)
  refine wpAny_bind (wpAny_holding (wpAny_mono (h h' hit' hs) (fun v s' hv => ?_) (fun _ _ hf => hf.elim)))
  refine wpAny_bind (wpAny_letGo ?_)
  refine wpAny_pure ⟨v, rfl, wpAny_pure hv⟩
end
end
section
open PySem PySem.W PyProof.Rows PySem.Calls
set_option Elab.async false
set_option maxRecDepth 100000
set_option maxHeartbeats 4000000
section
variable {prog : Program} {w : World} {A : Around} {E : Value → Shared → Prop} {s s0 : Shared} {h₀ : Heap} {L : Addr} {m : Str → Option Value} {news : List (Addr × Obj)} {vs : List Value} {f : Value} {M T It D S : Addr} {nn : Nat}
theorem map_done {items : Array Value} {i : Nat} {Q : Option Value → Shared → Prop} (hh : A.handled = none) (hM : s.heap.get? M = some (mapObj T f)) (hT : s.heap.get? T = some (oneTup It))
    (hit : s.heap.IsListIter It D i) (hl : s.heap.IsList D items) (hx : items[i]? = none)
    (h : ∀ h', Heap.ExtBut It s.heap h' → Q none { s with heap := h' }) :
    wpAny (model prog w) A (pyNext (.ref M)) Q E s := by
  have hTy : s.TypeIs (.ref M) "map" := ⟨_, hM, rfl⟩
  unfold pyNext
  refine wpAny_bind (wpAny_attempt (wpAny_callSpecial?_slot (name := Str.ofString "__next__") hTy mp_next (wpAny_call_entry mp_next hTy mp_entry_next ?_ (mp_args_next _))))
  show wpAny _ _ (field (.ref M) 0 >>= fun a => seqItems? a >>= _) _ _ s
  refine wpAny_bind (wpAny_field hM rfl (x := .ref T) rfl ?_)
  refine wpAny_bind (wpAny_seqItems hT rfl ?_)
  show wpAny _ _ ((forIn #[Value.ref It] (#[] : Array Value) fun it items => do
      let x ← holding items.toList (Builtin.SmallTypes.nextOf it)
      pure (ForInStep.yield (items.push x))) >>= _) _ _ s
  rw [← Array.forIn_toList]
  simp only [List.forIn_cons, List.forIn_nil]
  refine wpAny_bind (wpAny_bind (wpAny_bind (wpAny_holding (wpAny_nextOf_list_end hh hit hl hx fun h' e he' hx' => ?_))))
  obtain ⟨o, ho, hc⟩ := hx'
  refine wpAny_bind (wpAny_isInstance (T := "StopIteration") (b := true) ⟨o, ho, hc⟩ isSubtype_stop ?_)
  exact wpAny_pure (h _ he')
theorem iter_map {Q : Value → Shared → Prop} (hM : s.heap.get? M = some (mapObj T f)) (h : Q (.ref M) s) : wpAny (model prog w) A (pyIter (.ref M)) Q E s := by
  have hT : s.TypeIs (.ref M) "map" := ⟨_, hM, rfl⟩
  refine wpAny_pyIter_slot hT mp_iter (wpAny_call_entry mp_iter hT mp_entry_iter ?_ (mp_args_iter _))
  show wpAny _ _ (ret (.ref M)) _ _ s
  exact wpAny_pure ⟨_, rfl, "map", _, hT, mp_next.lookup, h⟩
/-- the called one gives back what it is handed -/
def Gives (prog : Program) (w : World) (A : Around) (f : Value) (vs : List Value) (h₀ : Heap) (L : Addr) (m : Str → Option Value) (s0 : Shared) : Prop :=
  ∀ v ∈ vs, ∀ (h : Heap) (tk : Nat) (nx : List (Addr × Obj)) (Q E : Value → Shared → Prop), Fr h₀ L h m → News h₀ L h nx →
    (∀ h' tk', Fr h₀ L h' m → News h₀ L h' nx → Q v { s0 with heap := h', toks := tk' }) → wpAny (model prog w) A (call f [v]) Q E { s0 with heap := h, toks := tk }
theorem ext_map (hh : A.handled = none) (hc : Gives prog w A.in1.in1 f vs h₀ L m s0) (hz : Short vs) (hD : (D, listOf vs.toArray nn) ∈ news) (h1 : (S : Nat) ≠ It) (h2 : (S : Nat) ≠ T) (h3 : (S : Nat) ≠ M) (h4 : Off S news) (h5 : (T : Nat) ≠ It) (h6 : (M : Nat) ≠ It) (h7 : Off It news) (res : Value) {R : Result → Shared → Prop}
    (hR : ∀ h tk c, Fr h₀ L h m → News h₀ L h ((S, listOf vs.toArray c) :: news) → R (.ok (.ret res)) { s0 with heap := h, toks := tk }) :
    ∀ (k i : Nat) (h : Heap) (tk c : Nat) (oI : Obj), vs.length - i = k → i ≤ vs.length → Fr h₀ L h m → News h₀ L h ((S, listOf (vs.take i).toArray c) :: (It, oI) :: (T, oneTup It) :: (M, mapObj T f) :: news) → h.IsListIter It D i →
    codeAny (model prog w) A (.builtin "list.extend.loop" ⟨[.ref S, .ref M, res], []⟩) R { s0 with heap := h, toks := tk } := by
  have hsz : vs.length ≤ sizeLine := by have := hz.le; rw [sizeLine_eq]; omega
  intro k
  induction k with
  | zero =>
    intro i h tk c oI hk hi Fx N hit
    have hin : i = vs.length := by omega
    subst hin
    have hM := (N (M, mapObj T f) (by simp)).1
    have hT := (N (T, oneTup It) (by simp)).1
    have hDl : h.IsList D vs.toArray := ⟨_, (N (D, listOf vs.toArray nn) (by simp [hD])).1, rfl, nn, rfl⟩
    refine codeAny_builtin F.entry_extend_loop ?_
    rw [Around.under_plainId F.plain_extend_loop _]
    show wpAny _ A.in1 (pyNext (.ref M) >>= _) _ _ _
    refine wpAny_bind (map_done (A := A.in1) hh hM hT hit hDl (by simp) fun h' he => ?_)
    have zI := N (It, oI) (by simp)
    refine wpAny_pure (hR h' tk c ?_ ?_)
    · refine ⟨Fx.ns.extBut he (Ne.symm zI.2.1), fun b o e => he b o (fun eb => ?_) (Fx.keep b o e), Fx.above⟩
      rw [eb, zI.2.2] at e; cases e
    · rw [List.take_length] at N
      intro p hp
      rcases List.mem_cons.mp hp with rfl | hp
      · have z := N _ (.head _)
        exact ⟨he _ _ h1 z.1, z.2⟩
      · have z := N p (by simp [hp])
        exact ⟨he _ _ (h7.ne p hp) z.1, z.2⟩
  | succ k ih =>
    intro i h tk c oI hk hi Fx N hit
    have hlt : i < vs.length := by omega
    have hM := (N (M, mapObj T f) (by simp)).1
    have hT := (N (T, oneTup It) (by simp)).1
    have hDl : h.IsList D vs.toArray := ⟨_, (N (D, listOf vs.toArray nn) (by simp [hD])).1, rfl, nn, rfl⟩
    have zI := N (It, oI) (by simp)
    refine codeAny_builtin F.entry_extend_loop ?_
    rw [Around.under_plainId F.plain_extend_loop _]
    show wpAny _ A.in1 (pyNext (.ref M) >>= _) _ _ _
    refine wpAny_bind (map_item (A := A.in1) (x := vs[i]) hM hT h6 hit hDl (by simp [hlt]) fun h' hit' hs => ?_)
    obtain ⟨oI', hoI', r⟩ := id hit'
    have Fx' : Fr h₀ L h' m := Fx.change hs zI.2.1 zI.2.2
    have N' : News h₀ L h' ((S, listOf (vs.take i).toArray c) :: (It, oI') :: (T, oneTup It) :: (M, mapObj T f) :: news) := by
      refine News.setSecond N h1 ?_ hs hoI'
      intro p hp
      rcases List.mem_cons.mp hp with rfl | hp
      · exact h5
      rcases List.mem_cons.mp hp with rfl | hp
      · exact h6
      · exact h7.ne p hp
    refine hc vs[i] (List.getElem_mem _) h' tk _ _ _ Fx' N' fun h'' tk'' F2 N2 => ?_
    have zS := N2 _ (.head _)
    show wpAny _ A.in1 (updateSeq S (·.push vs[i]) >>= _) _ _ _
    refine wpAny_bind ?_
    have hsame : Heap.SameBut S h'' (h''.update S (Obj.mapSeq (·.push vs[i]))) := Heap.SameBut.update ..
    have hself := Heap.get?_update_self (Obj.mapSeq (·.push vs[i])) zS.1 rfl
    refine wpAny_updateSeq zS.1 rfl (wpAny_pure ⟨plainId_quiet F.plain_extend_loop _, ih (i + 1) _ _ (c + 1) oI' (by omega) hlt (F2.change hsame zS.2.1 zS.2.2) ?_ ?_⟩) ?_ ?_
    · have e : listOf (vs.take (i + 1)).toArray (c + 1) = Obj.mapSeq (·.push vs[i]) (listOf (vs.take i).toArray c) := by
        have e1 : (vs.take (i + 1)).toArray = (vs.take i).toArray.push vs[i] := by
          rw [List.take_succ_eq_append_getElem hlt]; simp
        have e2 : (((vs.take i).toArray.push vs[i]).size == (vs.take i).toArray.size) = false := by
          rw [Array.size_push]; simp
        show _ = (⟨_, _, .seq _ (if (((vs.take i).toArray.push vs[i]).size == (vs.take i).toArray.size) = true then c else c + 1), _⟩ : Obj)
        rw [e2, e1]; rfl
      rw [e]
      refine News.setHead N2 ?_ hsame hself
      intro p hp
      rcases List.mem_cons.mp hp with rfl | hp
      · exact Ne.symm h1
      rcases List.mem_cons.mp hp with rfl | hp
      · exact Ne.symm h2
      rcases List.mem_cons.mp hp with rfl | hp
      · exact Ne.symm h3
      · exact h4.ne p hp
    · have zi := (N2 (It, oI') (by simp)).1
      exact ⟨oI', (hsame.2 _ (Ne.symm h1)).trans zi, r⟩
    · simp; omega
    · simp; omega
/-- what tuple(map(f, D)) gives, where f gives back what it is handed -/
theorem collect_map {Q : List Value → Shared → Prop} (hh : A.handled = none) (hc : Gives prog w A.in1.in1 f vs h₀ L m s) (hz : Short vs) (hD : (D, listOf vs.toArray nn) ∈ news) (oI : Obj)
    (Fx : Fr h₀ L s.heap m) (N : News h₀ L s.heap ((It, oI) :: (T, oneTup It) :: (M, mapObj T f) :: news)) (hit : s.heap.IsListIter It D 0) (h5 : (T : Nat) ≠ It) (h6 : (M : Nat) ≠ It) (h7 : Off It news)
    (hQ : ∀ h tk, Fr h₀ L h m → News h₀ L h news → Q vs { s with heap := h, toks := tk }) : wpAny (model prog w) A (collect (.ref M)) Q E s := by
  have hM := (N (M, mapObj T f) (by simp)).1
  have hlt : ∀ p ∈ ((It, oI) :: (T, oneTup It) :: (M, mapObj T f) :: news), (s.heap.objs.size : Nat) ≠ p.1 := fun p hp => Nat.ne_of_gt (Heap.lt_size (N p hp).1)
  have hSM : s.heap.objs.size ≠ M := hlt (M, mapObj T f) (by simp)
  unfold collect
  refine wpAny_bind (wpAny_runValue (codeAny_builtin F.entry_proto_collect ?_))
  rw [Around.under_plainId F.plain_proto_collect _]
  show wpAny _ A.in1 (newList [] >>= fun l => again (.builtin "list.__iadd__" ⟨[l, .ref M], []⟩)) _ _ s
  refine wpAny_bind (wpAny_newObj_type ?_)
  refine wpAny_pure ⟨plainId_quiet F.plain_list_iadd _, codeAny_builtin F.entry_list_iadd ?_⟩
  rw [Around.under_plainId F.plain_list_iadd _]
  show wpAny _ A.in1 (Builtin.List.listExtendWith (.ref s.heap.objs.size) (.ref M) (.ref s.heap.objs.size)) _ _ _
  have hM1 : (s.heap.push { cls := .type "list", data := .seq ([] : List Value).toArray }).get? M = some (mapObj T f) := Heap.get?_push_of_some _ hM
  have hTy : ({ s with heap := s.heap.push { cls := .type "list", data := .seq ([] : List Value).toArray } } : Shared).TypeIs (.ref M) "map" := ⟨_, hM1, rfl⟩
  unfold Builtin.List.listExtendWith
  refine wpAny_bind (wpAny_typeOf hTy ?_)
  have e1 : Builtin.List.listSameRef (.ref s.heap.objs.size) (.ref M) = false := by simp [Builtin.List.listSameRef, hSM]
  have e2 : (Value.type "map" == Value.type "list") = false := by decide
  have e3 : (Value.type "map" == Value.type "tuple") = false := by decide
  simp only [e1, e2, e3, Bool.or_false, Bool.false_eq_true, if_false]
  refine wpAny_bind (iter_map hM1 ?_)
  refine wpAny_bind (wpAny_holding ?_)
  unfold Builtin.List.listLengthHint
  refine wpAny_bind (wpAny_specialOf hTy mp_no_len ?_)
  show wpAny _ A.in1 (specialOf (Value.ref M) (Str.ofString "__length_hint__") >>= _) _ _ _
  refine wpAny_bind (wpAny_specialOf hTy mp_no_hint ?_)
  refine wpAny_pure ?_
  show wpAny _ A.in1 (rule "list.extend.makes-room" >>= fun _ => Builtin.List.listTouch (.ref s.heap.objs.size) >>= fun _ =>
    again (.builtin "list.extend.loop" ⟨[.ref s.heap.objs.size, .ref M, .ref s.heap.objs.size], []⟩)) _ _ _
  refine wpAny_bind (wpAny_rule ?_)
  have hS1 : (s.heap.push (listOf #[] 0)).get? s.heap.objs.size = some (listOf #[] 0) := Heap.get?_push_size _ rfl
  refine wpAny_bind ?_
  show wpAny _ A.in1 (updateSeq s.heap.objs.size (·.push .none) >>= fun _ => updateSeq s.heap.objs.size (·.pop)) _ _ _
  refine wpAny_bind (wpAny_updateSeq hS1 rfl ?_)
  have hS2 := Heap.get?_update_self (Obj.mapSeq (·.push Value.none)) hS1 rfl
  refine wpAny_updateSeq hS2 rfl ?_
  have hS3 := Heap.get?_update_self (Obj.mapSeq (·.pop)) hS2 rfl
  have s1 : Heap.SameBut s.heap.objs.size (s.heap.push (listOf #[] 0)) ((s.heap.push (listOf #[] 0)).update s.heap.objs.size (Obj.mapSeq (·.push Value.none))) := Heap.SameBut.update ..
  have s2 : Heap.SameBut s.heap.objs.size ((s.heap.push (listOf #[] 0)).update s.heap.objs.size (Obj.mapSeq (·.push Value.none))) (((s.heap.push (listOf #[] 0)).update s.heap.objs.size (Obj.mapSeq (·.push Value.none))).update s.heap.objs.size (Obj.mapSeq (·.pop))) := Heap.SameBut.update ..
  have N1 : News h₀ L (s.heap.push (listOf #[] 0)) ((s.heap.objs.size, listOf #[] 0) :: (It, oI) :: (T, oneTup It) :: (M, mapObj T f) :: news) := fun p hp => by
    rcases List.mem_cons.mp hp with rfl | hp
    · exact ⟨hS1, Nat.ne_of_gt Fx.ns.lt, next_is_new Fx⟩
    · exact ⟨Heap.get?_push_of_some _ (N p hp).1, (N p hp).2⟩
  have zS := N1 _ (.head _)
  have F3 := ((Fx.push (listOf #[] 0)).change s1 zS.2.1 zS.2.2).change s2 zS.2.1 zS.2.2
  have N3 := News.setHead (News.setHead N1 (fun p hp => Ne.symm (hlt p hp)) s1 hS2) (fun p hp => Ne.symm (hlt p hp)) s2 hS3
  have hIS : (It : Nat) ≠ s.heap.objs.size := Ne.symm (hlt (It, oI) (by simp))
  obtain ⟨oJ, hJ, r⟩ := hit
  refine wpAny_pure ⟨plainId_quiet F.plain_extend_loop _, ext_map (S := s.heap.objs.size) (s0 := s) hh hc hz hD (hlt (It, oI) (by simp)) (hlt (T, oneTup It) (by simp)) (hlt (M, mapObj T f) (by simp)) ⟨fun p hp => Ne.symm (hlt p (by simp [hp]))⟩ h5 h6 h7 _
    (fun h tk c F4 N4 => ?_) vs.length 0 _ s.toks _ oI rfl (Nat.zero_le _) F3 N3 ⟨oJ, (s2.2 _ hIS).trans ((s1.2 _ hIS).trans (Heap.get?_push_of_some _ hJ)), r⟩⟩
  show wpAny _ A (load s.heap.objs.size >>= _) _ _ _
  refine wpAny_bind (wpAny_load (N4 _ (.head _)).1 ?_)
  exact wpAny_pure (hQ h tk F4 fun p hp => N4 p (.tail _ hp))
theorem code_tuple_map {Q₁ : Value → Shared → Prop} (hh : A.handled = none) (hc : Gives prog w A.in1.in1.in1 f vs h₀ L m s) (hz : Short vs) (hD : (D, listOf vs.toArray nn) ∈ news) (oI : Obj)
    (Fx : Fr h₀ L s.heap m) (N : News h₀ L s.heap ((It, oI) :: (T, oneTup It) :: (M, mapObj T f) :: news)) (hit : s.heap.IsListIter It D 0) (h5 : (T : Nat) ≠ It) (h6 : (M : Nat) ≠ It) (h7 : Off It news)
    (hQ : ∀ h tk T', Fr h₀ L h m → News h₀ L h ((T', { cls := .type "tuple", data := .seq vs.toArray }) :: news) → Q₁ (.ref T') { s with heap := h, toks := tk }) :
    codeAny (model prog w) A (.call (.builtin "tuple.__new__") ⟨[.type "tuple", .ref M], []⟩) (wants Q₁ E) s := by
  have hM := (N (M, mapObj T f) (by simp)).1
  have hTI : s.TypeIs (.ref M) "map" := ⟨_, hM, rfl⟩
  refine codeAny_of_tree ?_
  show wpAny _ A.in1 (do checkBuiltinCall "tuple.__new__" ⟨[.type "tuple", .ref M], []⟩; again (.builtin "tuple.__new__" ⟨[.type "tuple", .ref M], []⟩)) _ _ s
  refine wpAny_bind (wpAny_of_eq (F.newCall_tuple_1 _) (wpAny_pure ⟨plainId_quiet F.plain_tuple_new _, codeAny_builtin F.entry_tuple_new ?_⟩))
  rw [Around.under_plainId F.plain_tuple_new _]
  have hsub := sub_tuple_self
  have hinit := init_tuple_lookup
  have hmh := madeHere_tuple
  wp_walk using wpAny_typeOf hTI, collect_map (A := A.in1) hh hc hz hD oI Fx N hit h5 h6 h7
  intro h tk F' N'
  show wpAny _ _ (Builtin.Tuple.tupleExact vs.toArray >>= fun v => ret v) _ _ _
  unfold Builtin.Tuple.tupleExact
  refine wpAny_bind (wpAny_newObj_type ?_ (by show vs.toArray.size ≤ sizeLine; rw [List.size_toArray, sizeLine_eq]; have := hz.le; omega))
  refine wpAny_pure ?_
  refine hQ (h.push { cls := .type "tuple", data := .seq vs.toArray }) tk h.objs.size (F'.push _) fun p hp => ?_
  rcases List.mem_cons.mp hp with rfl | hp
  · exact ⟨Heap.get?_push_size _ rfl, Nat.ne_of_gt F'.ns.lt, next_is_new F'⟩
  · exact ⟨Heap.get?_push_of_some _ (N' p hp).1, (N' p hp).2⟩
theorem call_tuple_map {Q : Value → Shared → Prop} (hh : A.handled = none) (hc : Gives prog w A.in1.in1.in1.in1 f vs h₀ L m s) (hz : Short vs) (hD : (D, listOf vs.toArray nn) ∈ news) (oI : Obj)
    (Fx : Fr h₀ L s.heap m) (N : News h₀ L s.heap ((It, oI) :: (T, oneTup It) :: (M, mapObj T f) :: news)) (hit : s.heap.IsListIter It D 0) (h5 : (T : Nat) ≠ It) (h6 : (M : Nat) ≠ It) (h7 : Off It news)
    (hQ : ∀ h tk T', Fr h₀ L h m → News h₀ L h ((T', { cls := .type "tuple", data := .seq vs.toArray }) :: news) → Q (.ref T') { s with heap := h, toks := tk }) :
    wpAny (model prog w) A (call (.type "tuple") [.ref M]) Q E s := by
  refine callType_codes (Q₁ := fun obj s₁ => s₁.TypeIs obj "tuple" ∧ Q obj s₁) F.called_tuple (F.typeCall_tuple_1 _) F.entry_object_init
    (code_tuple_map (A := A.in1) hh hc hz hD oI Fx N hit h5 h6 h7 fun h tk T' F' N' => ⟨⟨_, (N' _ (.head _)).1, rfl⟩, hQ h tk T' F' N'⟩) fun obj s₁ h₁ => ?_
  exact ⟨h₁.1, F.args_object_init_2 obj _, object_init_meets F.called_tuple.init.lookup F.called_tuple.made (by decide) prog w A.in1 _ s₁ ⟨h₁.1, rfl, h₁.2⟩⟩
end
end
section
open PySem PySem.W PyProof.Rows PySem.Calls
set_option Elab.async false
set_option maxRecDepth 100000
set_option maxHeartbeats 8000000
section
variable {w : World} {loose : List Str} {mean : ExcName → Option Value} {mg mb : Str → Option Value} {news : List (Addr × Obj)}
  {dp un : Nat} {gd : Option (List Code)} {cn : Str} {cs : Scope} {a : Addr} {ccd : Value} {cl : List (Str × Addr)} {outer : List Env} {A₀ : Around} {base h₀ : Heap} {L : Addr} {m : Str → Option Value} {s : Shared} {Q E : Value → Shared → Prop}
theorem mapL {prog : Program} {A : Around} {f : Value} {D : Addr} {items : Array Value} {n : Nat} (F : Fr h₀ L s.heap m) (N : News h₀ L s.heap news) (hD : (D, listOf items n) ∈ news)
    (h : ∀ h' M T It oI, Fr h₀ L h' m → News h₀ L h' ((It, oI) :: (T, oneTup It) :: (M, mapObj T f) :: news) → h'.IsListIter It D 0 → (T : Nat) ≠ It → (M : Nat) ≠ It → Off It news → Q (.ref M) { s with heap := h' }) :
    wpAny (model prog w) A (call (.type "map") [f, .ref D]) Q E s := by
  refine call_map (N _ hD).1 fun h' M T It hM hT hit e1 e2 e3 e4 hk => ?_
  obtain ⟨oI, hoI, r⟩ := id hit
  have hL : L < s.heap.objs.size := F.ns.lt
  have hn : ∀ b, s.heap.objs.size ≤ b → h₀.get? b = none := fun b hb => by
    cases e : h₀.get? b with
    | none => rfl
    | some o => exact absurd (Heap.lt_size (F.keep b o e)) (Nat.not_lt.mpr hb)
  subst e1 e2 e3
  have z0 : L < s.heap.objs.size + 1 := Nat.lt_succ_of_lt hL
  have z1 : L < s.heap.objs.size + 2 := Nat.lt_succ_of_lt z0
  refine h h' _ _ _ oI ⟨F.ns.keeps hk, fun b o e => hk b o (F.keep b o e), F.above⟩ (fun p hp => ?_) hit (Nat.ne_of_gt (Nat.lt_succ_self _)) (Nat.ne_of_gt (Nat.lt_succ_of_lt (Nat.lt_succ_self _))) ⟨fun p hp => Nat.ne_of_lt (Heap.lt_size (N p hp).1)⟩
  rcases List.mem_cons.mp hp with rfl | hp
  · exact ⟨hoI, Nat.ne_of_gt hL, hn _ (Nat.le_refl _)⟩
  rcases List.mem_cons.mp hp with rfl | hp
  · exact ⟨hT, Nat.ne_of_gt z0, hn _ (Nat.le_succ _)⟩
  rcases List.mem_cons.mp hp with rfl | hp
  · exact ⟨hM, Nat.ne_of_gt z1, hn _ (Nat.le_succ_of_le (Nat.le_succ _))⟩
  · exact ⟨hk _ _ (N p hp).1, (N p hp).2⟩
theorem itemT0 {prog : Program} {A : Around} {D : Addr} {value slice : Expr} {vr : List Value} {v : Value} {u : Tok} (N : News h₀ L s.heap news) (hm : (D, ({ cls := .type "tuple", data := .seq (v :: vr).toArray } : Obj)) ∈ news) (h : Q v s)
    (hs : subscripted slice false (.ref D) (.int 0 u) = operate [.ref D, .int 0 u] (getItem (.ref D) (.int 0 u)) := by with_unfolding_all rfl) :
    wpAny (model prog w) A (subscriptTail value slice (.ref D) (.int 0 u)) Q E s := by
  have ht : IsTup s.heap D (v :: vr).toArray := ⟨_, (N _ hm).1, rfl, _, rfl⟩
  refine subscriptTail_builtinR ht.typeIs slot_tuple_getitem.lookup (getItem_tuple (Q := fun r s' => r = v ∧ Q r s') (j := 0) (x := v) ht (by decide) (by decide) ?_ (by simp) ⟨rfl, h⟩) hs
  simp [seqIndex?]
theorem truthyT1 {prog : Program} {A : Around} {D : Addr} {vr : List Value} {v : Value} {Q : Bool → Shared → Prop} (N : News h₀ L s.heap news) (hm : (D, ({ cls := .type "tuple", data := .seq (v :: vr).toArray } : Obj)) ∈ news) (hz : (v :: vr).length ≤ 1000) (h : ∀ tk, Q true { s with toks := tk }) : wpAny (model prog w) A (truthy (.ref D)) Q E s :=
  ktl_truthyK N hm hz (h _)
theorem storeC {M : Model} {A : Around} {env : Env} {name : Str} {c : Addr} {v₀ : Option Value} {v : Value} {own rest : List (Addr × Obj)} {o : Obj} {Q : Unit → Shared → Prop} {E : Value → Shared → Prop} (F : Fr h₀ L s.heap m) (N : News h₀ L s.heap (own ++ (c, o) :: rest))
    (hk : env.scope.kind = .function) (hl : env.kindOf name = some .cell) (hc : env.cells.lookup name = some c) (hd : o.data = .cell v₀) (h1 : ∀ p ∈ own, p.1 ≠ c) (h2 : ∀ p ∈ rest, p.1 ≠ c)
    (h : ∀ h' o', Fr h₀ L h' m → News h₀ L h' (own ++ (c, o') :: rest) → o'.data = .cell (some v) → Q () { s with heap := h' }) : wpAny M A (storeName env name v) Q E s := by
  have z := N (c, o) (List.mem_append_right _ (.head _))
  refine wpAny_storeName_cell hk hl hc ⟨o, z.1, hd⟩ fun h' hv hs => ?_
  obtain ⟨o', ho', hd'⟩ := hv
  exact h h' o' (F.change hs z.2.1 z.2.2) (news_set N h1 h2 hs ho') hd'
/-- fspath as the called one of a map -/
theorem gives_fspath {vs : List Value} {ss : List Str} (hv : StrsAre vs ss) 
  (B : Below A₀ base outer h₀) (X : (hd.heap_39 w.params).In h₀) (T : Top hd.view_39 loose mean mg mb h₀) (hk : cs.kind = .function) (hR : dp + 1 < recursionLimit ∧ un + 20 < cLine) :
  Gives Challenge.rw_pd0147_01.row.prog w (ktrTop dp un gd cn cs L a ccd cl outer).in1.in1.in1.in1 (.ref 94) vs h₀ L m s := by
  intro v hvm h tk nx Q E F N hQ
  obtain ⟨x, t, rfl⟩ : ∃ x t, v = .str x t := by
    clear hQ N F
    induction hv with
    | nil => cases hvm
    | cons x t _ ih => rcases List.mem_cons.mp hvm with rfl | h; exact ⟨_, _, rfl⟩; exact ih h
  exact fspath_c (dp := dp) (un := un + 4) (s := { s with heap := h, toks := tk }) B F X N T hk ⟨hR.1, by omega⟩ fun h' tk' F' N' => hQ h' tk' F' N'
end
end
section
open PySem PySem.W PyProof.Rows PySem.Calls PyProof.Rows.LCg
set_option Elab.async false
set_option maxRecDepth 100000
set_option maxHeartbeats 4000000
/-- how a comprehension's turn ends: the three objects of its own as they were, and what the turn gives -/
def TurnEnd (h₀ : Heap) (L : Addr) (m : Str → Option Value) (G : Array GenState → Prop) (s₁ : Shared) (I : Addr) (oI : Obj) (C : Addr) (oC : Obj) (D : Addr) (oD : Obj) (rest : Value → List (Addr × Obj) → Prop) (y : Value) (s₂ : Shared) : Prop :=
  ∃ h' tk gn news', s₂ = { s₁ with heap := h', toks := tk, gens := gn } ∧ G gn ∧ Fr h₀ L h' m ∧ News h₀ L h' ((I, oI) :: (C, oC) :: (D, oD) :: news') ∧ Off3 I C D news' ∧ rest y news'
section
variable {prog : Program} {w : World} {A : Around} {E : Value → Shared → Prop} {s s₂ : Shared} {h₀ : Heap} {L : Addr} {m : Str → Option Value} {env : Env}
theorem TurnEnd.mk' {G : Array GenState → Prop} {s₁ : Shared} {I C D : Addr} {oI oC oD : Obj} {rest : Value → List (Addr × Obj) → Prop} {y : Value} {h' : Heap} {tk : Nat} {all : List (Addr × Obj)} (news' : List (Addr × Obj))
    (hG : G s₁.gens) (F : Fr h₀ L h' m) (N : News h₀ L h' all) (sub : ∀ p ∈ (I, oI) :: (C, oC) :: (D, oD) :: news', p ∈ all) (off : Off3 I C D news') (r : rest y news') :
    TurnEnd h₀ L m G s₁ I oI C oC D oD rest y { s₁ with heap := h', toks := tk } := ⟨h', tk, s₁.gens, news', rfl, hG, F, fun p hp => N p (sub p hp), off, r⟩
theorem TurnEnd.mkG {G : Array GenState → Prop} {s₁ : Shared} {I C D : Addr} {oI oC oD : Obj} {rest : Value → List (Addr × Obj) → Prop} {y : Value} {h' : Heap} {tk : Nat} {gn : Array GenState} {all : List (Addr × Obj)} (news' : List (Addr × Obj))
    (hG : G gn) (F : Fr h₀ L h' m) (N : News h₀ L h' all) (sub : ∀ p ∈ (I, oI) :: (C, oC) :: (D, oD) :: news', p ∈ all) (off : Off3 I C D news') (r : rest y news') :
    TurnEnd h₀ L m G s₁ I oI C oC D oD rest y { s₁ with heap := h', toks := tk, gens := gn } := ⟨h', tk, gn, news', rfl, hG, F, fun p hp => N p (sub p hp), off, r⟩
/-- what a comprehension's turn has to show -/
def Turns (prog : Program) (w : World) (A : Around) (h₀ : Heap) (L : Addr) (m : Str → Option Value) (env : Env) (elt : Expr) (x : Str) (ifs : List Expr) (scope : Scope) (cl : List (Str × Addr)) (s₂ : Shared) (G : Array GenState → Prop) (P : Nat → Value → Prop)
    (Inv : Nat → List Value → List (Addr × Obj) → Prop) : Prop :=
  ∀ i v ys news I oI C oC D m₂ h tk gn (E' : Value → Shared → Prop), P i v → Inv i ys news → NsObj oC m₂ → m₂ x = some v → Fr h₀ L h m → News h₀ L h ((I, oI) :: (C, oC) :: (D, lst ys) :: news) → Off3 I C D news → ((@Ne Nat I C) ∧ (@Ne Nat I D) ∧ (@Ne Nat C D)) → G gn →
    wpAny (model prog w) A (forIn ifs true fun c r => if r = true then do let ok ← isTrue c (compEnvC scope cl C env) (eval c (compEnvC scope cl C env)); pure (ForInStep.yield ok) else pure (ForInStep.yield r)) (fun ok s' => if ok = true then
        wpAny (model prog w) A (eval elt (compEnvC scope cl C env)) (TurnEnd h₀ L m G { s₂ with heap := h, toks := tk, gens := gn } I oI C oC D (lst ys) (fun y news' => Inv (i + 1) (ys ++ [y]) news')) E' s'
        else TurnEnd h₀ L m G { s₂ with heap := h, toks := tk, gens := gn } I oI C oC D (lst ys) (fun _ news' => Inv (i + 1) ys news') Value.none s') E' { s₂ with heap := h, toks := tk, gens := gn }
end
namespace ZcompBlock
def S (prog : Program) (w : World) (A : Around) (E : Value → Shared → Prop) (s₂ : Shared) (h₀ : Heap) (L : Addr) (m : Str → Option Value) (env : Env) (elt : Expr) (iter : Expr) (x : Str) (px : Pos) (ifs : List Expr) (scope : Scope) (cl : List (Str × Addr)) (pos : Pos) (I : Addr) (fp : List Addr) (n : Nat) (P : Nat → Value → Prop) (St : Nat → Heap → Prop) (news : List (Addr × Obj)) (G : Array GenState → Prop) (Inv : Nat → List Value → List (Addr × Obj) → Prop) (RR : Value → Addr → Result → Shared → Prop) : Prop := (W : Walks prog w A I fp [I] n P St) → (hsz : n ≤ sizeLine) → (hIo : ∀ i h, St i h → ∃ o, h.get? I = some o) → (hSt : ∀ i h h' o ys nw, St i h → h.get? I = some o → h'.get? I = some o → (∀ b o, h₀.get? b = some o → h'.get? b = some o) → News h₀ L h' nw → Inv i ys nw → St i h') → (hcell : ∀ y ∈ scope.names, y.2 ≠ .cell) → (hkind : scope.kind = .function) → (hx : scope.names.lookup x = some .local) → (hst : St 0 s₂.heap) → (hfp : ∀ b ∈ fp, b < s₂.heap.objs.size) → (F : Fr h₀ L s₂.heap m) → (N : News h₀ L s₂.heap news) → (hIL : L ≠ I) → (hI₀ : h₀.get? I = none) → (off : ∀ p ∈ news, p.1 ≠ I) → (hG : G s₂.gens) → (hInv : Inv 0 [] news) → (T : Turns prog w A h₀ L m env elt x ifs scope cl s₂ G P Inv) → (hRR : ∀ D C h tk gn m' ys news', Fr h₀ L h m → News h₀ L h ((D, lst ys) :: news') → Off1 D news' → h.Ns C m' → h₀.get? C = none → h₀.get? D = none → C ≠ L → D ≠ L → C ≠ D → (∀ p ∈ news', p.1 ≠ C) → G gn → ys.length ≤ n → Inv n ys news' → RR (.ref D) C (.ok .next) { s₂ with heap := h, toks := tk, gens := gn }) → wpAny (model prog w) A (newList []) (fun acc s₃ => wpAny (model prog w) A (newFunctionEnv scope env.globals cl [] env.qual none .none (some env)) (fun cenv s₄ =>
      codeAny (model prog w) A (.compStart (.ListComp elt [⟨.Name x px, iter, ifs, 0⟩] scope pos) 0 (.ref I) acc { cenv with scope := relabel scope env }) (RR acc cenv.locals) s₄) E s₃) E s₂
noncomputable def zz : (Program) × (World) × (Around) × (Value → Shared → Prop) × (Shared) × (Heap) × (Addr) × (Str → Option Value) × (Env) × (Expr) × (Expr) × (Str) × (Pos) × (List Expr) × (Scope) × (List (Str × Addr)) × (Pos) × (Addr) × (List Addr) × (Nat) × (Nat → Value → Prop) × (Nat → Heap → Prop) × (List (Addr × Obj)) × (Array GenState → Prop) × (Nat → List Value → List (Addr × Obj) → Prop) × (Value → Addr → Result → Shared → Prop) := @Classical.epsilon _ ⟨((Classical.ofNonempty : Program), (⟨fun _ _ => 0, { strHash := fun _ => 0, shareClass := fun _ => 0, mergeTok := id, idOf := fun _ => 0, idOfShared := fun _ _ => 0, followText := fun _ => false, idOfImm := fun _ => 0 }⟩ : World), (callerA : Around), (Classical.ofNonempty : Value → Shared → Prop), ({} : Shared), (Classical.ofNonempty : Heap), (Classical.ofNonempty : Addr), (Classical.ofNonempty : Str → Option Value), (Classical.ofNonempty : Env), (Classical.ofNonempty : Expr), (Classical.ofNonempty : Expr), (Classical.ofNonempty : Str), (Classical.ofNonempty : Pos), (Classical.ofNonempty : List Expr), (Classical.ofNonempty : Scope), (Classical.ofNonempty : List (Str × Addr)), (Classical.ofNonempty : Pos), (Classical.ofNonempty : Addr), (Classical.ofNonempty : List Addr), (Classical.ofNonempty : Nat), (Classical.ofNonempty : Nat → Value → Prop), (Classical.ofNonempty : Nat → Heap → Prop), (Classical.ofNonempty : List (Addr × Obj)), (Classical.ofNonempty : Array GenState → Prop), (Classical.ofNonempty : Nat → List Value → List (Addr × Obj) → Prop), (Classical.ofNonempty : Value → Addr → Result → Shared → Prop))⟩ fun zz => ¬ ZcompBlock.S (zz.1) (zz.2.1) (zz.2.2.1) (zz.2.2.2.1) (zz.2.2.2.2.1) (zz.2.2.2.2.2.1) (zz.2.2.2.2.2.2.1) (zz.2.2.2.2.2.2.2.1) (zz.2.2.2.2.2.2.2.2.1) (zz.2.2.2.2.2.2.2.2.2.1) (zz.2.2.2.2.2.2.2.2.2.2.1) (zz.2.2.2.2.2.2.2.2.2.2.2.1) (zz.2.2.2.2.2.2.2.2.2.2.2.2.1) (zz.2.2.2.2.2.2.2.2.2.2.2.2.2.1) (zz.2.2.2.2.2.2.2.2.2.2.2.2.2.2.1) (zz.2.2.2.2.2.2.2.2.2.2.2.2.2.2.2.1) (zz.2.2.2.2.2.2.2.2.2.2.2.2.2.2.2.2.1) (zz.2.2.2.2.2.2.2.2.2.2.2.2.2.2.2.2.2.1) (zz.2.2.2.2.2.2.2.2.2.2.2.2.2.2.2.2.2.2.1) (zz.2.2.2.2.2.2.2.2.2.2.2.2.2.2.2.2.2.2.2.1) (zz.2.2.2.2.2.2.2.2.2.2.2.2.2.2.2.2.2.2.2.2.1) (zz.2.2.2.2.2.2.2.2.2.2.2.2.2.2.2.2.2.2.2.2.2.1) (zz.2.2.2.2.2.2.2.2.2.2.2.2.2.2.2.2.2.2.2.2.2.2.1) (zz.2.2.2.2.2.2.2.2.2.2.2.2.2.2.2.2.2.2.2.2.2.2.2.1) (zz.2.2.2.2.2.2.2.2.2.2.2.2.2.2.2.2.2.2.2.2.2.2.2.2.1) (zz.2.2.2.2.2.2.2.2.2.2.2.2.2.2.2.2.2.2.2.2.2.2.2.2.2)
noncomputable def prog : Program := zz.1
noncomputable def w : World := zz.2.1
noncomputable def A : Around := zz.2.2.1
noncomputable def E : Value → Shared → Prop := zz.2.2.2.1
noncomputable def s₂ : Shared := zz.2.2.2.2.1
noncomputable def h₀ : Heap := zz.2.2.2.2.2.1
noncomputable def L : Addr := zz.2.2.2.2.2.2.1
noncomputable def m : Str → Option Value := zz.2.2.2.2.2.2.2.1
noncomputable def env : Env := zz.2.2.2.2.2.2.2.2.1
noncomputable def elt : Expr := zz.2.2.2.2.2.2.2.2.2.1
noncomputable def iter : Expr := zz.2.2.2.2.2.2.2.2.2.2.1
noncomputable def x : Str := zz.2.2.2.2.2.2.2.2.2.2.2.1
noncomputable def px : Pos := zz.2.2.2.2.2.2.2.2.2.2.2.2.1
noncomputable def ifs : List Expr := zz.2.2.2.2.2.2.2.2.2.2.2.2.2.1
noncomputable def scope : Scope := zz.2.2.2.2.2.2.2.2.2.2.2.2.2.2.1
noncomputable def cl : List (Str × Addr) := zz.2.2.2.2.2.2.2.2.2.2.2.2.2.2.2.1
noncomputable def pos : Pos := zz.2.2.2.2.2.2.2.2.2.2.2.2.2.2.2.2.1
noncomputable def I : Addr := zz.2.2.2.2.2.2.2.2.2.2.2.2.2.2.2.2.2.1
noncomputable def fp : List Addr := zz.2.2.2.2.2.2.2.2.2.2.2.2.2.2.2.2.2.2.1
noncomputable def n : Nat := zz.2.2.2.2.2.2.2.2.2.2.2.2.2.2.2.2.2.2.2.1
noncomputable def P : Nat → Value → Prop := zz.2.2.2.2.2.2.2.2.2.2.2.2.2.2.2.2.2.2.2.2.1
noncomputable def St : Nat → Heap → Prop := zz.2.2.2.2.2.2.2.2.2.2.2.2.2.2.2.2.2.2.2.2.2.1
noncomputable def news : List (Addr × Obj) := zz.2.2.2.2.2.2.2.2.2.2.2.2.2.2.2.2.2.2.2.2.2.2.1
noncomputable def G : Array GenState → Prop := zz.2.2.2.2.2.2.2.2.2.2.2.2.2.2.2.2.2.2.2.2.2.2.2.1
noncomputable def Inv : Nat → List Value → List (Addr × Obj) → Prop := zz.2.2.2.2.2.2.2.2.2.2.2.2.2.2.2.2.2.2.2.2.2.2.2.2.1
noncomputable def RR : Value → Addr → Result → Shared → Prop := zz.2.2.2.2.2.2.2.2.2.2.2.2.2.2.2.2.2.2.2.2.2.2.2.2.2
theorem p (W : Walks prog w A I fp [I] n P St) (hsz : n ≤ sizeLine) (hIo : ∀ i h, St i h → ∃ o, h.get? I = some o) (hSt : ∀ i h h' o ys nw, St i h → h.get? I = some o → h'.get? I = some o → (∀ b o, h₀.get? b = some o → h'.get? b = some o) → News h₀ L h' nw → Inv i ys nw → St i h') (hcell : ∀ y ∈ scope.names, y.2 ≠ .cell) (hkind : scope.kind = .function) (hx : scope.names.lookup x = some .local) (hst : St 0 s₂.heap) (hfp : ∀ b ∈ fp, b < s₂.heap.objs.size) (F : Fr h₀ L s₂.heap m) (N : News h₀ L s₂.heap news) (hIL : L ≠ I) (hI₀ : h₀.get? I = none) (off : ∀ p ∈ news, p.1 ≠ I) (hG : G s₂.gens) (hInv : Inv 0 [] news) (T : Turns prog w A h₀ L m env elt x ifs scope cl s₂ G P Inv) (hRR : ∀ D C h tk gn m' ys news', Fr h₀ L h m → News h₀ L h ((D, lst ys) :: news') → Off1 D news' → h.Ns C m' → h₀.get? C = none → h₀.get? D = none → C ≠ L → D ≠ L → C ≠ D → (∀ p ∈ news', p.1 ≠ C) → G gn → ys.length ≤ n → Inv n ys news' → RR (.ref D) C (.ok .next) { s₂ with heap := h, toks := tk, gens := gn }) : wpAny (model prog w) A (newList []) (fun acc s₃ => wpAny (model prog w) A (newFunctionEnv scope env.globals cl [] env.qual none .none (some env)) (fun cenv s₄ =>
      codeAny (model prog w) A (.compStart (.ListComp elt [⟨.Name x px, iter, ifs, 0⟩] scope pos) 0 (.ref I) acc { cenv with scope := relabel scope env }) (RR acc cenv.locals) s₄) E s₃) E s₂ := by
  refine wpAny_newObj_type (wpAny_newFunctionEnv hcell (by intro y hy; simp at hy) (fun h₁ hns₁ hsb₁ => ?_) hkind)
  dsimp only at hns₁ hsb₁ ⊢
  generalize hH2 : s₂.heap.push { cls := .type "list", dict := none, data := .seq ([] : List Value).toArray } = H2 at hns₁ hsb₁ ⊢
  have hC : H2.objs.size = s₂.heap.objs.size + 1 := by rw [← hH2, Heap.size_push]
  generalize hDe : s₂.heap.objs.size = D at *
  generalize hCe : H2.objs.size = C at *
  have lt_all : ∀ b o, s₂.heap.get? b = some o → b < D := fun b o e => hDe ▸ Heap.lt_size e
  have neD : ∀ b, b < D → b ≠ D := fun b hb => Nat.ne_of_lt hb
  have neC : ∀ b, b < D → b ≠ C := fun b hb => by rw [hC]; exact Nat.ne_of_lt (Nat.lt_succ_of_lt hb)
  have hDC : D ≠ C := by rw [hC]; exact Nat.ne_of_lt (Nat.lt_succ_self _)
  have hIlt : I < D := hfp I (W.sub I (List.mem_singleton.mpr rfl))
  have hDf : D ∉ fp := fun hm => Nat.lt_irrefl _ (hfp _ hm)
  have hCf : C ∉ fp := fun hm => neC _ (hfp _ hm) rfl
  have old : ∀ b o, s₂.heap.get? b = some o → h₁.get? b = some o := fun b o e => hsb₁.extBut b o (neC b (lt_all b o e)) (Heap.get?_push_of_some _ (hH2 ▸ Heap.get?_push_of_some _ e))
  have hacc : h₁.get? D = some (lst []) := hsb₁.extBut _ _ hDC (Heap.get?_push_of_some _ (hH2 ▸ hDe ▸ Heap.get?_push_size _ rfl))
  have hst₁ : St 0 h₁ := W.frame _ _ _ hst fun b _ o e => old b o e
  have fresh₀ : ∀ a, D ≤ a → h₀.get? a = none := fun a ha => by
    cases e : h₀.get? a with
    | none => rfl
    | some o' => exact absurd (lt_all a o' (F.keep a o' e)) (Nat.not_lt.mpr ha)
  have hD₀ : h₀.get? D = none := fresh₀ _ (Nat.le_refl _)
  have hC₀ : h₀.get? C = none := fresh₀ _ (by rw [hC]; exact Nat.le_succ _)
  have hLlt : L < D := hDe ▸ F.ns.lt
  have hDL : D ≠ L := Ne.symm (neD L hLlt)
  have hCL : C ≠ L := Ne.symm (neC L hLlt)
  have hCI : I ≠ C := neC I hIlt
  have hDI : I ≠ D := neD I hIlt
  have off₀ : Off3 I C D news := Off3.of fun p hp => ⟨off p hp, neC _ (lt_all _ _ (N p hp).1), neD _ (lt_all _ _ (N p hp).1)⟩
  have loop : ∀ s₃ : Shared, s₃ = { s₂ with heap := h₁, toks := s₂.toks + ([] : List (Str × Value)).length } →
      codeAny (model prog w) A (.compLoop (.ListComp elt [⟨.Name x px, iter, ifs, 0⟩] scope pos) 0 (.ref I) (.ref D) (compEnvC scope cl C env)) (RR (.ref D) C) s₃ := by
    rintro s₃ rfl
    refine codeAny_compLoop_tests
      (fun k s' => ∃ h' tk gn i ys m' news', s' = { s₂ with heap := h', toks := tk, gens := gn } ∧ i ≤ n ∧ k = n + 1 - i ∧ ys.length ≤ i ∧ St i h' ∧ Fr h₀ L h' m ∧ h'.Ns C m' ∧ News h₀ L h' ((D, lst ys) :: news') ∧
        Off3 I C D news' ∧ G gn ∧ Inv i ys news') ?_ (n + 1)
      ⟨h₁, _, s₂.gens, 0, [], _, news, rfl, Nat.zero_le _, rfl, Nat.le_refl _, hst₁, F.keeps old, hns₁, fun p hp => ?_, off₀, hG, hInv⟩
    · rintro k s' ⟨h', tk, gn, i, ys, m', news', rfl, hi, rfl, hyl, hst', F', hn', N', off', hG', hI'⟩
      by_cases hlt : i < n
      · refine W.item i _ _ _ hlt hst' fun v h₂ tk₂ hPv hst₂ hk₂ => ?_
        refine wpAny_assign_Name (wpAny_storeName_local (lookup_relabel_local hx) (hn'.at' fun o e => hk₂ _ o (by simpa using Ne.symm hCI) e) (fun h₃ hn₃ hs₃ => ?_) (by simp [compEnvC, relabel, hkind]))
        have hst₃ : St (i + 1) h₃ := W.frame _ _ _ hst₂ fun b hb o e => hs₃.extBut b o (fun q => hCf (by have q' : b = C := q; rw [← q']; exact hb)) e
        obtain ⟨oI, heI⟩ := hIo _ _ hst₃
        obtain ⟨oC, heC, hoC⟩ := ns_obj hn₃
        have F₃ : Fr h₀ L h₃ m := (fr_but F' hk₂ hIL hI₀).change hs₃ hCL hC₀
        have off3 := off'.mem
        have N₂ : News h₀ L h₂ ((D, lst ys) :: news') := news_but N' hk₂ fun p hp => by
          rcases List.mem_cons.mp hp with rfl | hp
          · exact Ne.symm hDI
          · exact (off3 p hp).1
        have N₃ : News h₀ L h₃ ((I, oI) :: (C, oC) :: (D, lst ys) :: news') := fun p hp => by
          rcases List.mem_cons.mp hp with rfl | hp
          · exact ⟨heI, Ne.symm hIL, hI₀⟩
          · rcases List.mem_cons.mp hp with rfl | hp
            · exact ⟨heC, hCL, hC₀⟩
            · have z := N₂ p hp
              refine ⟨hs₃.extBut _ _ ?_ z.1, z.2⟩
              rcases List.mem_cons.mp hp with rfl | hp
              · exact hDC
              · exact (off3 p hp).2.1
        have again : ∀ (y : Value) (ys' : List Value) (s₅ : Shared), ys'.length ≤ i + 1 → TurnEnd h₀ L m G { s₂ with heap := h₃, toks := tk₂, gens := gn } I oI C oC D (lst ys) (fun _ news' => Inv (i + 1) ys' news') y s₅ →
            ∃ h₅ tk₅ gn₅ news₅, s₅ = { s₂ with heap := h₅, toks := tk₅, gens := gn₅ } ∧ G gn₅ ∧ St (i + 1) h₅ ∧ Fr h₀ L h₅ m ∧ h₅.Ns C (fun z => if z = x then some v else m' z) ∧ News h₀ L h₅ ((D, lst ys) :: news₅) ∧ Off3 I C D news₅ ∧ Inv (i + 1) ys' news₅ := by
          rintro y ys' s₅ _ ⟨h₄, tk₄, gn₄, news₄, rfl, hG₄, F₄, N₄, off₄, hI₄⟩
          have zI := (N₄ (I, oI) List.mem_cons_self).1
          have zC := (N₄ (C, oC) (List.mem_cons_of_mem _ List.mem_cons_self)).1
          have N₄' : News h₀ L h₄ ((D, lst ys) :: news₄) := fun p hp => N₄ p (List.mem_cons_of_mem _ (List.mem_cons_of_mem _ hp))
          exact ⟨h₄, tk₄, gn₄, news₄, rfl, hG₄, hSt _ _ _ _ _ _ hst₃ heI zI F₄.keep (fun p hp => N₄' p (List.mem_cons_of_mem _ hp)) hI₄, F₄, hoC.ns zC, N₄', off₄, hI₄⟩
        refine wpAny_mono (T i v ys news' I oI C oC D _ h₃ _ gn _ hPv hI' hoC (by simp) F₃ N₃ off' ⟨hCI, hDI, Ne.symm hDC⟩ hG') (fun ok s₄ h₄ => ?_) fun _ _ e => e
        cases ok with
        | true =>
          simp only [if_true] at h₄ ⊢
          refine wpAny_mono h₄ (fun y s₅ h₅ => ?_) fun _ _ e => e
          obtain ⟨h₄, tk₄, gn₄, news₄, rfl, hG₄, hst₄, F₄, hn₄, N₄, off₄, hI₄⟩ := again y (ys ++ [y]) s₅ (by rw [List.length_append, List.length_singleton]; exact Nat.succ_le_succ hyl) h₅
          have zD := (N₄ (D, lst ys) List.mem_cons_self).1
          refine append_at (hsz := by show ys.toArray.size ≤ sizeLine; rw [List.size_toArray]; exact Nat.le_trans (Nat.le_trans hyl hi) hsz) zD fun h₅ hs₅ hD₅ => ?_
          have off4 := off₄.mem
          refine ⟨n + 1 - (i + 1), by omega, h₅, tk₄, gn₄, i + 1, ys ++ [y], _, news₄, rfl, hlt, rfl, by rw [List.length_append, List.length_singleton]; exact Nat.succ_le_succ hyl, W.frame _ _ _ hst₄ fun b hb o e => hs₅.extBut b o (fun q => hDf (q ▸ hb)) e, F₄.change hs₅ hDL hD₀,
            hn₄.sameBut hs₅ (Ne.symm hDC), fun p hp => ?_, off₄, hG₄, hI₄⟩
          rcases List.mem_cons.mp hp with rfl | hp
          · exact ⟨hD₅.trans (congrArg some (lst_snoc ys y)), hDL, hD₀⟩
          · exact ⟨hs₅.extBut _ _ (off4 p hp).2.2 (N₄ p (List.mem_cons_of_mem _ hp)).1, (N₄ p (List.mem_cons_of_mem _ hp)).2⟩
        | false =>
          simp only [Bool.false_eq_true, if_false] at h₄ ⊢
          obtain ⟨g₄, tk₄, gn₄, news₄, rfl, hG₄, hst₄, F₄, hn₄, N₄, off₄, hI₄⟩ := again .none ys s₄ (Nat.le_succ_of_le hyl) h₄
          exact ⟨n + 1 - (i + 1), by omega, g₄, tk₄, gn₄, i + 1, ys, _, news₄, rfl, hlt, rfl, Nat.le_succ_of_le hyl, hst₄, F₄, hn₄, N₄, off₄, hG₄, hI₄⟩
      · obtain rfl : i = n := Nat.le_antisymm hi (Nat.not_lt.mp hlt)
        refine W.done _ _ _ hst' fun h₂ tk₂ hk₂ => ?_
        have off3 := off'.mem
        exact hRR _ _ h₂ tk₂ gn _ ys news' (fr_but F' hk₂ hIL hI₀) (news_but N' hk₂ fun p hp => by
          rcases List.mem_cons.mp hp with rfl | hp
          · exact Ne.symm hDI
          · exact (off3 p hp).1) off'.one (hn'.at' fun o e => hk₂ _ o (by simpa using Ne.symm hCI) e) hC₀ hD₀ hCL hDL (Ne.symm hDC) (fun p hp => (off3 p hp).2.1) hG' hyl hI'
    · rcases List.mem_cons.mp hp with rfl | hp
      · exact ⟨hacc, hDL, hD₀⟩
      · exact ⟨old _ _ (N p hp).1, (N p hp).2⟩
  exact codeAny_compStart_list (loop _ rfl) (W.self 0 _ _ _ hst₁ (loop _ rfl))
theorem q : S prog w A E s₂ h₀ L m env elt iter x px ifs scope cl pos I fp n P St news G Inv RR := by unfold S; exact p
end ZcompBlock
section
variable {prog : Program} {w : World} {A : Around} {E : Value → Shared → Prop} {s s₂ : Shared} {h₀ : Heap} {L : Addr} {m : Str → Option Value} {env : Env}
theorem compBlock {elt iter : Expr}
    {x : Str}
    {px : Pos}
    {ifs : List Expr}
    {scope : Scope}
    {cl : List (Str × Addr)}
    {pos : Pos}
    {I : Addr}
    {fp : List Addr}
    {n : Nat}
    {P : Nat → Value → Prop}
    {St : Nat → Heap → Prop}
    {news : List (Addr × Obj)}
    {G : Array GenState → Prop}
    {Inv : Nat → List Value → List (Addr × Obj) → Prop}
    {RR : Value → Addr → Result → Shared → Prop}
    (W : Walks prog w A I fp [I] n P St)
    (hsz : n ≤ sizeLine)
    (hIo : ∀ i h, St i h → ∃ o, h.get? I = some o)
    (hSt : ∀ i h h' o ys nw, St i h → h.get? I = some o → h'.get? I = some o → (∀ b o, h₀.get? b = some o → h'.get? b = some o) → News h₀ L h' nw → Inv i ys nw → St i h')
    (hcell : ∀ y ∈ scope.names, y.2 ≠ .cell)
    (hkind : scope.kind = .function)
    (hx : scope.names.lookup x = some .local)
    (hst : St 0 s₂.heap)
    (hfp : ∀ b ∈ fp, b < s₂.heap.objs.size)
    (F : Fr h₀ L s₂.heap m)
    (N : News h₀ L s₂.heap news)
    (hIL : L ≠ I)
    (hI₀ : h₀.get? I = none)
    (off : ∀ p ∈ news, p.1 ≠ I)
    (hG : G s₂.gens)
    (hInv : Inv 0 [] news)
    (T : Turns prog w A h₀ L m env elt x ifs scope cl s₂ G P Inv)
    (hRR : ∀ D C h tk gn m' ys news', Fr h₀ L h m → News h₀ L h ((D, lst ys) :: news') → Off1 D news' → h.Ns C m' → h₀.get? C = none → h₀.get? D = none → C ≠ L → D ≠ L → C ≠ D → (∀ p ∈ news', p.1 ≠ C) → G gn → ys.length ≤ n → Inv n ys news' → RR (.ref D) C (.ok .next) { s₂ with heap := h, toks := tk, gens := gn }) : wpAny (model prog w) A (newList []) (fun acc s₃ => wpAny (model prog w) A (newFunctionEnv scope env.globals cl [] env.qual none .none (some env)) (fun cenv s₄ =>
      codeAny (model prog w) A (.compStart (.ListComp elt [⟨.Name x px, iter, ifs, 0⟩] scope pos) 0 (.ref I) acc { cenv with scope := relabel scope env }) (RR acc cenv.locals) s₄) E s₃) E s₂ :=
  epsAll (P := fun zz => ZcompBlock.S (zz.1) (zz.2.1) (zz.2.2.1) (zz.2.2.2.1) (zz.2.2.2.2.1) (zz.2.2.2.2.2.1) (zz.2.2.2.2.2.2.1) (zz.2.2.2.2.2.2.2.1) (zz.2.2.2.2.2.2.2.2.1) (zz.2.2.2.2.2.2.2.2.2.1) (zz.2.2.2.2.2.2.2.2.2.2.1) (zz.2.2.2.2.2.2.2.2.2.2.2.1) (zz.2.2.2.2.2.2.2.2.2.2.2.2.1) (zz.2.2.2.2.2.2.2.2.2.2.2.2.2.1) (zz.2.2.2.2.2.2.2.2.2.2.2.2.2.2.1) (zz.2.2.2.2.2.2.2.2.2.2.2.2.2.2.2.1) (zz.2.2.2.2.2.2.2.2.2.2.2.2.2.2.2.2.1) (zz.2.2.2.2.2.2.2.2.2.2.2.2.2.2.2.2.2.1) (zz.2.2.2.2.2.2.2.2.2.2.2.2.2.2.2.2.2.2.1) (zz.2.2.2.2.2.2.2.2.2.2.2.2.2.2.2.2.2.2.2.1) (zz.2.2.2.2.2.2.2.2.2.2.2.2.2.2.2.2.2.2.2.2.1) (zz.2.2.2.2.2.2.2.2.2.2.2.2.2.2.2.2.2.2.2.2.2.1) (zz.2.2.2.2.2.2.2.2.2.2.2.2.2.2.2.2.2.2.2.2.2.2.1) (zz.2.2.2.2.2.2.2.2.2.2.2.2.2.2.2.2.2.2.2.2.2.2.2.1) (zz.2.2.2.2.2.2.2.2.2.2.2.2.2.2.2.2.2.2.2.2.2.2.2.2.1) (zz.2.2.2.2.2.2.2.2.2.2.2.2.2.2.2.2.2.2.2.2.2.2.2.2.2)) ZcompBlock.q (prog, w, A, E, s₂, h₀, L, m, env, elt, iter, x, px, ifs, scope, cl, pos, I, fp, n, P, St, news, G, Inv, RR) W hsz hIo hSt hcell hkind hx hst hfp F N hIL hI₀ off hG hInv T hRR
def FinE' (h₀ : Heap) (L : Addr) (Q : Value → Shared → Prop) (m : Str → Option Value) (s₂ : Shared) (gn : Array GenState) (ys : List Value) (news : List (Addr × Obj)) : Prop :=
  ∀ D h tk, Fr h₀ L h m → News h₀ L h ((D, lst ys) :: news) → Off1 D news → Q (.ref D) { s₂ with heap := h, toks := tk, gens := gn }
def FinA' (h₀ : Heap) (L : Addr) (y : Str) (Q : Flow → Shared → Prop) (m : Str → Option Value) (s₂ : Shared) (gn : Array GenState) (ys : List Value) (news : List (Addr × Obj)) : Prop :=
  ∀ D h tk, Fr h₀ L h (fun z => if z = y then some (.ref D) else m z) → News h₀ L h ((D, lst ys) :: news) → Off1 D news → Q .next { s₂ with heap := h, toks := tk, gens := gn }
/-- a comprehension at its iterator: all that is asked for -/
def CompAt (prog : Program) (w : World) (A : Around) (h₀ : Heap) (L : Addr) (env : Env) (elt : Expr) (x : Str) (ifs : List Expr) (scope : Scope) (cl : List (Str × Addr))
    (Fin : (Str → Option Value) → Shared → Array GenState → List Value → List (Addr × Obj) → Prop) (it : Value) (s₂ : Shared) : Prop :=
  ∃ (m : Str → Option Value) (I : Addr) (fp : List Addr) (n : Nat) (P : Nat → Value → Prop) (St : Nat → Heap → Prop) (news : List (Addr × Obj)) (G : Array GenState → Prop) (Inv : Nat → List Value → List (Addr × Obj) → Prop),
    it = .ref I ∧ Walks prog w A I fp [I] n P St ∧ n ≤ sizeLine ∧ (∀ i h, St i h → ∃ o, h.get? I = some o) ∧
    (∀ i h h' o ys nw, St i h → h.get? I = some o → h'.get? I = some o → (∀ b o, h₀.get? b = some o → h'.get? b = some o) → News h₀ L h' nw → Inv i ys nw → St i h') ∧
    St 0 s₂.heap ∧ (∀ b ∈ fp, b < s₂.heap.objs.size) ∧ Fr h₀ L s₂.heap m ∧ News h₀ L s₂.heap news ∧ L ≠ I ∧ h₀.get? I = none ∧ (∀ p ∈ news, p.1 ≠ I) ∧ G s₂.gens ∧ Inv 0 [] news ∧
    Turns prog w A h₀ L m env elt x ifs scope cl s₂ G P Inv ∧
    (∀ gn ys news', G gn → ys.length ≤ n → Inv n ys news' → Fin m s₂ gn ys news')
end
namespace ZlistComp
def S (prog : Program) (w : World) (A : Around) (E : Value → Shared → Prop) (s : Shared) (h₀ : Heap) (L : Addr) (m : Str → Option Value) (env : Env) (elt : Expr) (iter : Expr) (x : Str) (px : Pos) (ifs : List Expr) (scope : Scope) (cl : List (Str × Addr)) (pos : Pos) (Q : Value → Shared → Prop) : Prop := (_F₀ : Fr h₀ L s.heap m) → (hclos : closureFor scope env = pure cl) → (hcell : ∀ y ∈ scope.names, y.2 ≠ .cell) → (hkind : scope.kind = .function) → (hnames : ∀ y ∈ scope.names, y.2 = .local → scope.names.lookup y.1 = some .local) → (hx : scope.names.lookup x = some .local) → (h : wpAny (model prog w) A (eval iter env) (fun xv s₁ => wpAny (model prog w) A (pyIter xv) (CompAt prog w A h₀ L env elt x ifs scope cl (FinE' h₀ L Q)) E s₁) E s) → (hs : ∀ x, foldedSetIterable iter env x = pure x) → wpAny (model prog w) A (eval (.ListComp elt [⟨.Name x px, iter, ifs, 0⟩] scope pos) env) Q E s
noncomputable def zz : (Program) × (World) × (Around) × (Value → Shared → Prop) × (Shared) × (Heap) × (Addr) × (Str → Option Value) × (Env) × (Expr) × (Expr) × (Str) × (Pos) × (List Expr) × (Scope) × (List (Str × Addr)) × (Pos) × (Value → Shared → Prop) := @Classical.epsilon _ ⟨((Classical.ofNonempty : Program), (⟨fun _ _ => 0, { strHash := fun _ => 0, shareClass := fun _ => 0, mergeTok := id, idOf := fun _ => 0, idOfShared := fun _ _ => 0, followText := fun _ => false, idOfImm := fun _ => 0 }⟩ : World), (callerA : Around), (Classical.ofNonempty : Value → Shared → Prop), ({} : Shared), (Classical.ofNonempty : Heap), (Classical.ofNonempty : Addr), (Classical.ofNonempty : Str → Option Value), (Classical.ofNonempty : Env), (Classical.ofNonempty : Expr), (Classical.ofNonempty : Expr), (Classical.ofNonempty : Str), (Classical.ofNonempty : Pos), (Classical.ofNonempty : List Expr), (Classical.ofNonempty : Scope), (Classical.ofNonempty : List (Str × Addr)), (Classical.ofNonempty : Pos), (Classical.ofNonempty : Value → Shared → Prop))⟩ fun zz => ¬ ZlistComp.S (zz.1) (zz.2.1) (zz.2.2.1) (zz.2.2.2.1) (zz.2.2.2.2.1) (zz.2.2.2.2.2.1) (zz.2.2.2.2.2.2.1) (zz.2.2.2.2.2.2.2.1) (zz.2.2.2.2.2.2.2.2.1) (zz.2.2.2.2.2.2.2.2.2.1) (zz.2.2.2.2.2.2.2.2.2.2.1) (zz.2.2.2.2.2.2.2.2.2.2.2.1) (zz.2.2.2.2.2.2.2.2.2.2.2.2.1) (zz.2.2.2.2.2.2.2.2.2.2.2.2.2.1) (zz.2.2.2.2.2.2.2.2.2.2.2.2.2.2.1) (zz.2.2.2.2.2.2.2.2.2.2.2.2.2.2.2.1) (zz.2.2.2.2.2.2.2.2.2.2.2.2.2.2.2.2.1) (zz.2.2.2.2.2.2.2.2.2.2.2.2.2.2.2.2.2)
noncomputable def prog : Program := zz.1
noncomputable def w : World := zz.2.1
noncomputable def A : Around := zz.2.2.1
noncomputable def E : Value → Shared → Prop := zz.2.2.2.1
noncomputable def s : Shared := zz.2.2.2.2.1
noncomputable def h₀ : Heap := zz.2.2.2.2.2.1
noncomputable def L : Addr := zz.2.2.2.2.2.2.1
noncomputable def m : Str → Option Value := zz.2.2.2.2.2.2.2.1
noncomputable def env : Env := zz.2.2.2.2.2.2.2.2.1
noncomputable def elt : Expr := zz.2.2.2.2.2.2.2.2.2.1
noncomputable def iter : Expr := zz.2.2.2.2.2.2.2.2.2.2.1
noncomputable def x : Str := zz.2.2.2.2.2.2.2.2.2.2.2.1
noncomputable def px : Pos := zz.2.2.2.2.2.2.2.2.2.2.2.2.1
noncomputable def ifs : List Expr := zz.2.2.2.2.2.2.2.2.2.2.2.2.2.1
noncomputable def scope : Scope := zz.2.2.2.2.2.2.2.2.2.2.2.2.2.2.1
noncomputable def cl : List (Str × Addr) := zz.2.2.2.2.2.2.2.2.2.2.2.2.2.2.2.1
noncomputable def pos : Pos := zz.2.2.2.2.2.2.2.2.2.2.2.2.2.2.2.2.1
noncomputable def Q : Value → Shared → Prop := zz.2.2.2.2.2.2.2.2.2.2.2.2.2.2.2.2.2
theorem p (_F₀ : Fr h₀ L s.heap m) (hclos : closureFor scope env = pure cl) (hcell : ∀ y ∈ scope.names, y.2 ≠ .cell) (hkind : scope.kind = .function) (hnames : ∀ y ∈ scope.names, y.2 = .local → scope.names.lookup y.1 = some .local) (hx : scope.names.lookup x = some .local) (h : wpAny (model prog w) A (eval iter env) (fun xv s₁ => wpAny (model prog w) A (pyIter xv) (CompAt prog w A h₀ L env elt x ifs scope cl (FinE' h₀ L Q)) E s₁) E s) (hs : ∀ x, foldedSetIterable iter env x = pure x) : wpAny (model prog w) A (eval (.ListComp elt [⟨.Name x px, iter, ifs, 0⟩] scope pos) env) Q E s := by
  rw [eval_ListComp]
  refine wpAny_comprehension_free (use := none) rfl hs hclos hkind hnames (wpAny_mono h (fun xv s₁ h₁ => wpAny_mono h₁ (fun it s₂ h₂ => ?_) fun _ _ e => e) fun _ _ e => e)
  obtain ⟨m', I, fp, n, P, St, news, G, Inv, rfl, W, hsz, hIo, hSt, hst, hfp, F, N, hIL, hI₀, off, hG, hInv, T, fin⟩ := h₂
  refine compBlock W hsz hIo hSt hcell hkind hx hst hfp F N hIL hI₀ off hG hInv T ?_
  intro D C h' tk gn m₂ ys news' F' N' o1 hn hC₀ hD₀ hCL hDL hCD offC hG' hl hI'
  refine ⟨m₂, hn, fun h'' hs'' => fin gn ys news' hG' hl hI' D h'' tk (F'.change hs'' hCL hC₀) (fun p hp => ?_) o1⟩
  refine ⟨hs''.extBut _ _ ?_ (N' p hp).1, (N' p hp).2⟩
  rcases List.mem_cons.mp hp with rfl | hp
  · exact Ne.symm hCD
  · exact offC p hp
theorem q : S prog w A E s h₀ L m env elt iter x px ifs scope cl pos Q := by unfold S; exact p
end ZlistComp
section
variable {prog : Program} {w : World} {A : Around} {E : Value → Shared → Prop} {s s₂ : Shared} {h₀ : Heap} {L : Addr} {m : Str → Option Value} {env : Env}
theorem listComp {elt iter : Expr}
    {x : Str}
    {px : Pos}
    {ifs : List Expr}
    {scope : Scope}
    {cl : List (Str × Addr)}
    {pos : Pos}
    {Q : Value → Shared → Prop}
    (_F₀ : Fr h₀ L s.heap m)
    (hclos : closureFor scope env = pure cl)
    (hcell : ∀ y ∈ scope.names, y.2 ≠ .cell)
    (hkind : scope.kind = .function)
    (hnames : ∀ y ∈ scope.names, y.2 = .local → scope.names.lookup y.1 = some .local)
    (hx : scope.names.lookup x = some .local)
    (h : wpAny (model prog w) A (eval iter env) (fun xv s₁ => wpAny (model prog w) A (pyIter xv) (CompAt prog w A h₀ L env elt x ifs scope cl (FinE' h₀ L Q)) E s₁) E s)
    (hs : ∀ x, foldedSetIterable iter env x = pure x := by intro _; rfl) : wpAny (model prog w) A (eval (.ListComp elt [⟨.Name x px, iter, ifs, 0⟩] scope pos) env) Q E s :=
  epsAll (P := fun zz => ZlistComp.S (zz.1) (zz.2.1) (zz.2.2.1) (zz.2.2.2.1) (zz.2.2.2.2.1) (zz.2.2.2.2.2.1) (zz.2.2.2.2.2.2.1) (zz.2.2.2.2.2.2.2.1) (zz.2.2.2.2.2.2.2.2.1) (zz.2.2.2.2.2.2.2.2.2.1) (zz.2.2.2.2.2.2.2.2.2.2.1) (zz.2.2.2.2.2.2.2.2.2.2.2.1) (zz.2.2.2.2.2.2.2.2.2.2.2.2.1) (zz.2.2.2.2.2.2.2.2.2.2.2.2.2.1) (zz.2.2.2.2.2.2.2.2.2.2.2.2.2.2.1) (zz.2.2.2.2.2.2.2.2.2.2.2.2.2.2.2.1) (zz.2.2.2.2.2.2.2.2.2.2.2.2.2.2.2.2.1) (zz.2.2.2.2.2.2.2.2.2.2.2.2.2.2.2.2.2)) ZlistComp.q (prog, w, A, E, s, h₀, L, m, env, elt, iter, x, px, ifs, scope, cl, pos, Q) _F₀ hclos hcell hkind hnames hx h hs
end
namespace ZassignListComp
def S (prog : Program) (w : World) (A : Around) (E : Value → Shared → Prop) (s : Shared) (h₀ : Heap) (m : Str → Option Value) (elt : Expr) (iter : Expr) (x : Str) (y : Str) (px : Pos) (py : Pos) (ifs : List Expr) (scope : Scope) (cl : List (Str × Addr)) (pos : Pos) (spos : Pos) (Q : Flow → Shared → Prop) : Prop := (L : Addr) → (env : Env) → (_F₀ : Fr h₀ L s.heap m) → (hLe : env.locals = L) → (hsw : swapsWith (.ListComp elt [⟨.Name x px, iter, ifs, 0⟩] scope pos) (some (.Name y py)) spos.line env = pure true) → (hclos : closureFor scope env = pure cl) → (hcell : ∀ z ∈ scope.names, z.2 ≠ .cell) → (hkind : scope.kind = .function) → (hnames : ∀ z ∈ scope.names, z.2 = .local → scope.names.lookup z.1 = some .local) → (hx : scope.names.lookup x = some .local) → (hy : env.kindOf y = some .local) → (hp : (env.scope.kind == .class || (env.scope.kind == .module && env.locals != env.globals)) = false) → (h : wpAny (model prog w) A (eval iter env) (fun xv s₁ => wpAny (model prog w) A (pyIter xv) (CompAt prog w A h₀ L env elt x ifs scope cl (FinA' h₀ L y Q)) E s₁) E s) → (hs : ∀ x, foldedSetIterable iter env x = pure x) → wpAny (model prog w) A (exec (.Assign [.Name y py] (.ListComp elt [⟨.Name x px, iter, ifs, 0⟩] scope pos) spos) env) Q E s
noncomputable def zz : (Program) × (World) × (Around) × (Value → Shared → Prop) × (Shared) × (Heap) × (Str → Option Value) × (Expr) × (Expr) × (Str) × (Str) × (Pos) × (Pos) × (List Expr) × (Scope) × (List (Str × Addr)) × (Pos) × (Pos) × (Flow → Shared → Prop) := @Classical.epsilon _ ⟨((Classical.ofNonempty : Program), (⟨fun _ _ => 0, { strHash := fun _ => 0, shareClass := fun _ => 0, mergeTok := id, idOf := fun _ => 0, idOfShared := fun _ _ => 0, followText := fun _ => false, idOfImm := fun _ => 0 }⟩ : World), (callerA : Around), (Classical.ofNonempty : Value → Shared → Prop), ({} : Shared), (Classical.ofNonempty : Heap), (Classical.ofNonempty : Str → Option Value), (Classical.ofNonempty : Expr), (Classical.ofNonempty : Expr), (Classical.ofNonempty : Str), (Classical.ofNonempty : Str), (Classical.ofNonempty : Pos), (Classical.ofNonempty : Pos), (Classical.ofNonempty : List Expr), (Classical.ofNonempty : Scope), (Classical.ofNonempty : List (Str × Addr)), (Classical.ofNonempty : Pos), (Classical.ofNonempty : Pos), (Classical.ofNonempty : Flow → Shared → Prop))⟩ fun zz => ¬ ZassignListComp.S (zz.1) (zz.2.1) (zz.2.2.1) (zz.2.2.2.1) (zz.2.2.2.2.1) (zz.2.2.2.2.2.1) (zz.2.2.2.2.2.2.1) (zz.2.2.2.2.2.2.2.1) (zz.2.2.2.2.2.2.2.2.1) (zz.2.2.2.2.2.2.2.2.2.1) (zz.2.2.2.2.2.2.2.2.2.2.1) (zz.2.2.2.2.2.2.2.2.2.2.2.1) (zz.2.2.2.2.2.2.2.2.2.2.2.2.1) (zz.2.2.2.2.2.2.2.2.2.2.2.2.2.1) (zz.2.2.2.2.2.2.2.2.2.2.2.2.2.2.1) (zz.2.2.2.2.2.2.2.2.2.2.2.2.2.2.2.1) (zz.2.2.2.2.2.2.2.2.2.2.2.2.2.2.2.2.1) (zz.2.2.2.2.2.2.2.2.2.2.2.2.2.2.2.2.2.1) (zz.2.2.2.2.2.2.2.2.2.2.2.2.2.2.2.2.2.2)
noncomputable def prog : Program := zz.1
noncomputable def w : World := zz.2.1
noncomputable def A : Around := zz.2.2.1
noncomputable def E : Value → Shared → Prop := zz.2.2.2.1
noncomputable def s : Shared := zz.2.2.2.2.1
noncomputable def h₀ : Heap := zz.2.2.2.2.2.1
noncomputable def m : Str → Option Value := zz.2.2.2.2.2.2.1
noncomputable def elt : Expr := zz.2.2.2.2.2.2.2.1
noncomputable def iter : Expr := zz.2.2.2.2.2.2.2.2.1
noncomputable def x : Str := zz.2.2.2.2.2.2.2.2.2.1
noncomputable def y : Str := zz.2.2.2.2.2.2.2.2.2.2.1
noncomputable def px : Pos := zz.2.2.2.2.2.2.2.2.2.2.2.1
noncomputable def py : Pos := zz.2.2.2.2.2.2.2.2.2.2.2.2.1
noncomputable def ifs : List Expr := zz.2.2.2.2.2.2.2.2.2.2.2.2.2.1
noncomputable def scope : Scope := zz.2.2.2.2.2.2.2.2.2.2.2.2.2.2.1
noncomputable def cl : List (Str × Addr) := zz.2.2.2.2.2.2.2.2.2.2.2.2.2.2.2.1
noncomputable def pos : Pos := zz.2.2.2.2.2.2.2.2.2.2.2.2.2.2.2.2.1
noncomputable def spos : Pos := zz.2.2.2.2.2.2.2.2.2.2.2.2.2.2.2.2.2.1
noncomputable def Q : Flow → Shared → Prop := zz.2.2.2.2.2.2.2.2.2.2.2.2.2.2.2.2.2.2
theorem p (L : Addr) (env : Env) (_F₀ : Fr h₀ L s.heap m) (hLe : env.locals = L) (hsw : swapsWith (.ListComp elt [⟨.Name x px, iter, ifs, 0⟩] scope pos) (some (.Name y py)) spos.line env = pure true) (hclos : closureFor scope env = pure cl) (hcell : ∀ z ∈ scope.names, z.2 ≠ .cell) (hkind : scope.kind = .function) (hnames : ∀ z ∈ scope.names, z.2 = .local → scope.names.lookup z.1 = some .local) (hx : scope.names.lookup x = some .local) (hy : env.kindOf y = some .local) (hp : (env.scope.kind == .class || (env.scope.kind == .module && env.locals != env.globals)) = false) (h : wpAny (model prog w) A (eval iter env) (fun xv s₁ => wpAny (model prog w) A (pyIter xv) (CompAt prog w A h₀ L env elt x ifs scope cl (FinA' h₀ L y Q)) E s₁) E s) (hs : ∀ x, foldedSetIterable iter env x = pure x) : wpAny (model prog w) A (exec (.Assign [.Name y py] (.ListComp elt [⟨.Name x px, iter, ifs, 0⟩] scope pos) spos) env) Q E s := by
  subst hLe
  rw [exec_Assign_Name_used _ _ _ _ hsw]
  refine wpAny_bind (wpAny_standAt (wpAny_bind ?_))
  show wpAny _ A (do let _ ← comprehension (.ListComp elt [⟨.Name x px, iter, ifs, 0⟩] scope pos) scope env _ (newList []) false (eval iter env) (some (assign (.Name y py) env))) _ _ s
  refine wpAny_bind (wpAny_mono (wpAny_comprehension_free (use := some (assign (.Name y py) env)) (Q := fun _ s' => Q .next s') rfl hs hclos hkind hnames
    (wpAny_mono h (fun xv s₁ h₁ => wpAny_mono h₁ (fun it s₂ h₂ => ?_) fun _ _ e => e) fun _ _ e => e)) (fun _ s' hq => wpAny_pure (wpAny_pure hq)) fun _ _ e => e)
  obtain ⟨m', I, fp, n, P, St, news, G, Inv, rfl, W, hsz, hIo, hSt, hst, hfp, F, N, hIL, hI₀, off, hG, hInv, T, fin⟩ := h₂
  refine compBlock W hsz hIo hSt hcell hkind hx hst hfp F N hIL hI₀ off hG hInv T ?_
  intro D C h' tk gn m₂ ys news' F' N' o1 hn hC₀ hD₀ hCL hDL hCD offC hG' hl hI'
  show wpAny _ A (assign (.Name y py) env (.ref D)) _ _ _
  refine wpAny_assign_Name (wpAny_storeName_local hy F'.ns (fun h₂ hn₂ hs₂ => ?_) hp)
  have hL₀ : h₀.get? env.locals = none := Heap.get?_none_of_le F'.above
  have F₂ : Fr h₀ env.locals h₂ (fun z => if z = y then some (.ref D) else m' z) := ⟨hn₂, fun b o e => hs₂.extBut b o (fun q => by rw [q, hL₀] at e; cases e) (F'.keep b o e), F'.above⟩
  refine ⟨m₂, hn.sameBut hs₂ hCL, fun h'' hs'' => fin gn ys news' hG' hl hI' D h'' _ (F₂.change hs'' hCL hC₀) (fun p hp => ?_) o1⟩
  have z : h₂.get? p.1 = some p.2 := hs₂.extBut _ _ (N' p hp).2.1 (N' p hp).1
  refine ⟨hs''.extBut _ _ ?_ z, (N' p hp).2⟩
  rcases List.mem_cons.mp hp with rfl | hp
  · exact Ne.symm hCD
  · exact offC p hp
theorem q : S prog w A E s h₀ m elt iter x y px py ifs scope cl pos spos Q := by unfold S; exact p
end ZassignListComp
section
variable {prog : Program} {w : World} {A : Around} {E : Value → Shared → Prop} {s s₂ : Shared} {h₀ : Heap} {L : Addr} {m : Str → Option Value} {env : Env}
theorem assignListComp {elt iter : Expr}
    {x y : Str}
    {px py : Pos}
    {ifs : List Expr}
    {scope : Scope}
    {cl : List (Str × Addr)}
    {pos spos : Pos}
    {Q : Flow → Shared → Prop}
    (_F₀ : Fr h₀ L s.heap m)
    (hLe : env.locals = L)
    (hsw : swapsWith (.ListComp elt [⟨.Name x px, iter, ifs, 0⟩] scope pos) (some (.Name y py)) spos.line env = pure true)
    (hclos : closureFor scope env = pure cl)
    (hcell : ∀ z ∈ scope.names, z.2 ≠ .cell)
    (hkind : scope.kind = .function)
    (hnames : ∀ z ∈ scope.names, z.2 = .local → scope.names.lookup z.1 = some .local)
    (hx : scope.names.lookup x = some .local)
    (hy : env.kindOf y = some .local)
    (hp : (env.scope.kind == .class || (env.scope.kind == .module && env.locals != env.globals)) = false)
    (h : wpAny (model prog w) A (eval iter env) (fun xv s₁ => wpAny (model prog w) A (pyIter xv) (CompAt prog w A h₀ L env elt x ifs scope cl (FinA' h₀ L y Q)) E s₁) E s)
    (hs : ∀ x, foldedSetIterable iter env x = pure x := by intro _; rfl) : wpAny (model prog w) A (exec (.Assign [.Name y py] (.ListComp elt [⟨.Name x px, iter, ifs, 0⟩] scope pos) spos) env) Q E s :=
  epsAll (P := fun zz => ZassignListComp.S (zz.1) (zz.2.1) (zz.2.2.1) (zz.2.2.2.1) (zz.2.2.2.2.1) (zz.2.2.2.2.2.1) (zz.2.2.2.2.2.2.1) (zz.2.2.2.2.2.2.2.1) (zz.2.2.2.2.2.2.2.2.1) (zz.2.2.2.2.2.2.2.2.2.1) (zz.2.2.2.2.2.2.2.2.2.2.1) (zz.2.2.2.2.2.2.2.2.2.2.2.1) (zz.2.2.2.2.2.2.2.2.2.2.2.2.1) (zz.2.2.2.2.2.2.2.2.2.2.2.2.2.1) (zz.2.2.2.2.2.2.2.2.2.2.2.2.2.2.1) (zz.2.2.2.2.2.2.2.2.2.2.2.2.2.2.2.1) (zz.2.2.2.2.2.2.2.2.2.2.2.2.2.2.2.2.1) (zz.2.2.2.2.2.2.2.2.2.2.2.2.2.2.2.2.2.1) (zz.2.2.2.2.2.2.2.2.2.2.2.2.2.2.2.2.2.2)) ZassignListComp.q (prog, w, A, E, s, h₀, m, elt, iter, x, y, px, py, ifs, scope, cl, pos, spos, Q) L env _F₀ hLe hsw hclos hcell hkind hnames hx hy hp h hs
/-- the sources: a list of the ledger, a tuple of the ledger, a range -/
theorem compAt_list {elt : Expr} {x : Str} {ifs : List Expr} {scope : Scope} {cl : List (Str × Addr)} {ax : Addr} {vs : List Value} {nn : Nat} {news : List (Addr × Obj)}
    {Fin : (Str → Option Value) → Shared → Array GenState → List Value → List (Addr × Obj) → Prop} (G : Array GenState → Prop) (Inv : Nat → List Value → List (Addr × Obj) → Prop)
    (hh : A.handled = none) (F : Fr h₀ L s.heap m) (N : News h₀ L s.heap news) (hm : (ax, listOf vs.toArray nn) ∈ news) (hsz : vs.length ≤ 100000) (hG : G s.gens) (h0 : Inv 0 [] news)
    (hI : ∀ i ys nw, Inv i ys nw → (ax, listOf vs.toArray nn) ∈ nw)
    (T : ∀ g, Turns prog w A h₀ L m env elt x ifs scope cl { s with heap := g } G (fun i v => vs[i]? = some v) Inv)
    (fin : ∀ g gn ys news', G gn → ys.length ≤ vs.length → Inv vs.length ys news' → Fin m { s with heap := g } gn ys news') :
    wpAny (model prog w) A (pyIter (.ref ax)) (CompAt prog w A h₀ L env elt x ifs scope cl Fin) E s := by
  have hl : s.heap.IsList ax vs.toArray := ⟨_, (N _ hm).1, rfl, nn, rfl⟩
  have hlt : ax < s.heap.objs.size := Heap.lt_size (N _ hm).1
  refine wpAny_pyIter_list hl ?_
  have up : ∀ b o, s.heap.get? b = some o → (s.heap.push { cls := .type "list_iterator", data := .fields #[.ref ax, .int 0 0] }).get? b = some o := fun b o e => Heap.get?_push_of_some _ e
  refine ⟨m, s.heap.objs.size, _, _, _, _, news, G, Inv, rfl, Walks.list hh s.heap.objs.size ax (Nat.ne_of_lt hlt) vs.toArray, by rw [List.size_toArray, sizeLine_eq]; omega, fun i h st => ⟨_, st.1.choose_spec.1⟩, ?_, ⟨⟨_, Heap.get?_push_size _ rfl, rfl, rfl⟩, hl.push _⟩, fun b hb => ?_,
    F.keeps up, N.grown up, Nat.ne_of_lt F.ns.lt, next_is_new F, fun p hp => Nat.ne_of_lt (Heap.lt_size (N p hp).1), hG, h0, ?_, ?_⟩
  · intro i h h' o ys nw st e e' k N' hi
    refine ⟨?_, ⟨_, (N' _ (hI i ys nw hi)).1, rfl, nn, rfl⟩⟩
    obtain ⟨o', q, r⟩ := st.1
    rw [e] at q; cases q; exact ⟨o, e', r⟩
  · show b < (s.heap.push _).objs.size
    rw [Heap.size_push]
    rcases List.mem_cons.mp hb with rfl | hb
    · exact Nat.lt_succ_self _
    · rw [List.mem_singleton.mp hb]; exact Nat.lt_succ_of_lt hlt
  · simpa using T _
  · simpa using fin _
theorem compAt_tuple {elt : Expr} {x : Str} {ifs : List Expr} {scope : Scope} {cl : List (Str × Addr)} {ax : Addr} {vs : List Value} {nn : Nat} {news : List (Addr × Obj)}
    {Fin : (Str → Option Value) → Shared → Array GenState → List Value → List (Addr × Obj) → Prop} (G : Array GenState → Prop) (Inv : Nat → List Value → List (Addr × Obj) → Prop)
    (hh : A.handled = none) (F : Fr h₀ L s.heap m) (N : News h₀ L s.heap news) (hm : (ax, ({ cls := .type "tuple", data := .seq vs.toArray nn } : Obj)) ∈ news) (hsz : vs.length ≤ 100000) (hG : G s.gens) (h0 : Inv 0 [] news)
    (hI : ∀ i ys nw, Inv i ys nw → (ax, ({ cls := .type "tuple", data := .seq vs.toArray nn } : Obj)) ∈ nw)
    (T : ∀ g, Turns prog w A h₀ L m env elt x ifs scope cl { s with heap := g } G (fun i v => vs[i]? = some v) Inv)
    (fin : ∀ g gn ys news', G gn → ys.length ≤ vs.length → Inv vs.length ys news' → Fin m { s with heap := g } gn ys news') :
    wpAny (model prog w) A (pyIter (.ref ax)) (CompAt prog w A h₀ L env elt x ifs scope cl Fin) E s := by
  have hl : s.heap.IsTuple ax vs.toArray := ⟨_, (N _ hm).1, rfl, nn, rfl⟩
  have hlt : ax < s.heap.objs.size := Heap.lt_size (N _ hm).1
  refine wpAny_pyIter_tuple hl ?_
  have up : ∀ (ob : Obj) b o, s.heap.get? b = some o → (s.heap.push ob).get? b = some o := fun ob b o e => Heap.get?_push_of_some _ e
  refine ⟨m, s.heap.objs.size, _, _, _, _, news, G, Inv, rfl, Walks.tuple hh s.heap.objs.size ax (Nat.ne_of_lt hlt) vs.toArray, by rw [List.size_toArray, sizeLine_eq]; omega, fun i h st => ⟨_, st.1.choose_spec.1⟩, ?_, ⟨⟨_, Heap.get?_push_size _ rfl, rfl, rfl⟩, hl.push _⟩, fun b hb => ?_,
    F.keeps (up _), N.grown (up _), Nat.ne_of_lt F.ns.lt, next_is_new F, fun p hp => Nat.ne_of_lt (Heap.lt_size (N p hp).1), hG, h0, ?_, ?_⟩
  · intro i h h' o ys nw st e e' k N' hi
    refine ⟨?_, ⟨_, (N' _ (hI i ys nw hi)).1, rfl, nn, rfl⟩⟩
    obtain ⟨o', q, r⟩ := st.1
    rw [e] at q; cases q; exact ⟨o, e', r⟩
  · show b < (s.heap.push _).objs.size
    rw [Heap.size_push]
    rcases List.mem_cons.mp hb with rfl | hb
    · exact Nat.lt_succ_self _
    · rw [List.mem_singleton.mp hb]; exact Nat.lt_succ_of_lt hlt
  · simpa using T _
  · simpa using fin _
theorem compAt_range {elt : Expr} {x : Str} {ifs : List Expr} {scope : Scope} {cl : List (Str × Addr)} {r : Addr} {a b : Int} {t u v : Tok} {n : Nat} {news : List (Addr × Obj)}
    {Fin : (Str → Option Value) → Shared → Array GenState → List Value → List (Addr × Obj) → Prop} (G : Array GenState → Prop) (Inv : Nat → List Value → List (Addr × Obj) → Prop)
    (hh : A.handled = none) (F : Fr h₀ L s.heap m) (N : News h₀ L s.heap news) (hr : IsRange s.heap r a b 1 t u v) (hsm : Builtin.Range.small a b 1 = true) (hn : Builtin.Range.rangeSize a b 1 = ((n : Nat) : Int)) (hsz : n ≤ 100000) (hG : G s.gens) (h0 : Inv 0 [] news)
    (T : ∀ g, Turns prog w A h₀ L m env elt x ifs scope cl { s with heap := g } G (fun i v => i < n ∧ ∃ t, v = .int (a + (i : Int)) t) Inv)
    (fin : ∀ g gn ys news', G gn → ys.length ≤ n → Inv n ys news' → Fin m { s with heap := g } gn ys news') :
    wpAny (model prog w) A (pyIter (.ref r)) (CompAt prog w A h₀ L env elt x ifs scope cl Fin) E s := by
  refine wpAny_pyIter_range hr hsm ?_
  have up : ∀ (ob : Obj) b o, s.heap.get? b = some o → (s.heap.push ob).get? b = some o := fun ob b o e => Heap.get?_push_of_some _ e
  refine ⟨m, s.heap.objs.size, _, _, _, _, news, G, Inv, rfl, (range_walks hh a n).bound, by rw [sizeLine_eq]; omega, fun i h st => ⟨_, st⟩, ?_, by show IsRangeIter _ _ _ _ _; rw [hn]; simpa using Heap.get?_push_size _ rfl, fun b hb => ?_,
    F.keeps (up _), N.grown (up _), Nat.ne_of_lt F.ns.lt, next_is_new F, fun p hp => Nat.ne_of_lt (Heap.lt_size (N p hp).1), hG, h0, T _, fin _⟩
  · intro i h h' o ys nw st e e' k N' hi
    have st' : h.get? s.heap.objs.size = some _ := st
    show h'.get? s.heap.objs.size = some _
    rw [e', ← e]; exact st'
  · rw [List.mem_singleton.mp hb]
    show s.heap.objs.size < (s.heap.push _).objs.size
    rw [Heap.size_push]; exact Nat.lt_succ_self _
end
end
section
open PySem PySem.W PyProof.Rows PySem.Calls
set_option Elab.async false
set_option maxRecDepth 100000
set_option maxHeartbeats 4000000
def ltS (x y : Str) : Bool := decide (x.cps.toList < y.cps.toList)
/-- Python's < on lists of texts -/
def ltL : List Str → List Str → Bool
  | [], [] => false
  | [], _ :: _ => true
  | _ :: _, [] => false
  | x :: xs, y :: ys => if x = y then ltL xs ys else ltS x y
theorem ltL_nil_left (ys : List Str) : ltL [] ys = decide (0 < ys.length) := by cases ys <;> simp [ltL]
theorem ltL_nil_right (xs : List Str) : ltL xs [] = false := by cases xs <;> rfl
theorem ltS_irrefl (x : Str) : ltS x x = false := by simp [ltS]
theorem ltS_trans {x y z : Str} (h1 : ltS x y = true) (h2 : ltS y z = true) : ltS x z = true := by
  simp only [ltS, decide_eq_true_eq] at *
  exact List.lt_trans h1 h2
theorem ltS_tri {x y : Str} (h1 : ltS x y = false) (h2 : ltS y x = false) : x = y := by
  simp only [ltS, decide_eq_false_iff_not] at *
  have : x.cps.toList = y.cps.toList := List.le_antisymm h2 h1
  cases x; cases y; simp only [Str.mk.injEq]; exact Array.ext' this
theorem ltL_irrefl : ∀ xs : List Str, ltL xs xs = false
  | [] => rfl
  | x :: xs => by simp [ltL, ltL_irrefl xs]
theorem ltL_trans : ∀ {xs ys zs : List Str}, ltL xs ys = true → ltL ys zs = true → ltL xs zs = true
  | [], [], _, h, _ => by simp [ltL] at h
  | [], _ :: _, [], _, h => by simp [ltL] at h
  | [], _ :: _, _ :: _, _, _ => rfl
  | _ :: _, [], _, h, _ => by simp [ltL] at h
  | _ :: _, _ :: _, [], _, h => by simp [ltL] at h
  | x :: xs, y :: ys, z :: zs, h1, h2 => by
    simp only [ltL] at *
    by_cases a : x = y
    · subst a
      rw [if_pos rfl] at h1
      by_cases b : x = z
      · subst b
        rw [if_pos rfl] at h2 ⊢
        exact ltL_trans h1 h2
      · rw [if_neg b] at h2 ⊢; exact h2
    · rw [if_neg a] at h1
      by_cases b : y = z
      · subst b
        rw [if_neg a]; exact h1
      · rw [if_neg b] at h2
        by_cases c : x = z
        · subst c
          have := ltS_trans h1 h2
          rw [ltS_irrefl] at this; cases this
        · rw [if_neg c]; exact ltS_trans h1 h2
theorem str_items {l : List (Str × Tok)} {i : Nat} {p : Str × Tok} (h : l[i]? = some p) : (strValues l).toArray[i]? = some (.str p.1 p.2) := by
  simp [strValues, h]
theorem str_items_none {l : List (Str × Tok)} {i : Nat} (h : l[i]? = none) : (strValues l).toArray[i]? = none := by
  simp only [strValues, List.getElem?_toArray, List.getElem?_map, h, Option.map_none]
open PySem.MeetsSeq PySem.MeetsSeq2 PySem.MeetsSeq3 in
theorem lt_loopAt (l b : Addr) (l₁ l₂ : List (Str × Tok)) (n n2 : Nat) (k : Nat) : ∀ i : Nat, l₁.length - i = k → i ≤ l₁.length → i ≤ l₂.length →
    Meets (Builtin.«list.__eq__.loop» ⟨[.ref l, .ref b, rawInt i, rawInt 0], []⟩)
      (fun _ R s => s.heap.get? l = some (listOf (strValues l₁).toArray n) ∧ s.heap.get? b = some (listOf (strValues l₂).toArray n2) ∧
        R (.ok (.ret (.bool (ltL ((l₁.map (·.1)).drop i) ((l₂.map (·.1)).drop i))))) s) := by
  induction k with
  | zero =>
    intro i hk hi1 hi2 prog w A R s h
    obtain ⟨hp, g, d, tk, os⟩ := s; obtain ⟨hl, hb, h⟩ := h
    have hi : i = l₁.length := by omega
    have e1 : (strValues l₁).toArray[((i : Nat) : Int).toNat]? = none := by rw [Int.toNat_natCast]; exact str_items_none (by rw [hi]; simp)
    have ed : (l₁.map (·.1)).drop i = [] := by rw [List.drop_eq_nil_iff]; simp [hi]
    rw [ed, ltL_nil_left] at h
    wp_walk using wpAny_loadPart' hl, wpAny_loadPart' hb
    rw [e1]
    wp_walk using wpAny_loadPart' hl, wpAny_loadPart' hb
    have e2 : decide ((strValues l₁).toArray.size < (strValues l₂).toArray.size) = decide (0 < ((l₂.map (·.1)).drop i).length) := by
      simp [strValues, hi]
      omega
    show R (.ok (.ret (.bool (decide ((strValues l₁).toArray.size < (strValues l₂).toArray.size))))) _
    rw [e2]; exact h
  | succ k ih =>
    intro i hk hi1 hi2 prog w A R s h
    obtain ⟨hp, g, d, tk, os⟩ := s; obtain ⟨hl, hb, h⟩ := h
    have hlt : i < l₁.length := by omega
    have e1 : (strValues l₁).toArray[((i : Nat) : Int).toNat]? = some (.str l₁[i].1 l₁[i].2) := by rw [Int.toNat_natCast]; exact str_items (by simp [hlt])
    have ed1 : (l₁.map (·.1)).drop i = l₁[i].1 :: (l₁.map (·.1)).drop (i + 1) := by
      rw [List.drop_eq_getElem_cons (by simpa using hlt)]; simp
    rcases Nat.lt_or_ge i l₂.length with hlt2 | hge2
    · have e2 : (strValues l₂).toArray[((i : Nat) : Int).toNat]? = some (.str l₂[i].1 l₂[i].2) := by rw [Int.toNat_natCast]; exact str_items (by simp [hlt2])
      have ed2 : (l₂.map (·.1)).drop i = l₂[i].1 :: (l₂.map (·.1)).drop (i + 1) := by
        rw [List.drop_eq_getElem_cons (by simpa using hlt2)]; simp
      rw [ed1, ed2, ltL] at h
      wp_walk using wpAny_loadPart' hl, wpAny_loadPart' hb
      rw [e1, e2]
      refine wpAny_bind (wpAny_eqBool_str ?_)
      have hc : ((i : Int) + 1) = ((i + 1 : Nat) : Int) := by push_cast; rfl
      by_cases hxy : l₁[i].1 = l₂[i].1
      · rw [if_pos hxy] at h
        rw [decide_eq_true hxy]
        wp_walk
        rw [hc]
        exact ⟨plainId_quiet plain_eq_loop _, codeAny_builtin entry_eq_loop (by
          rw [Around.under_plainId plain_eq_loop _]
          exact ih (i + 1) (by omega) hlt hlt2 prog w A R _ ⟨hl, hb, h⟩)⟩
      · rw [if_neg hxy] at h
        rw [decide_eq_false hxy]
        wp_walk using wpAny_loadPart' hl, wpAny_loadPart' hb
        rw [e1, e2]
        show wpAny _ _ (richCompare .Lt (.str l₁[i].1 l₁[i].2) (.str l₂[i].1 l₂[i].2) >>= _) _ _ _
        exact wpAny_bind (PyProof.Rows.lt_str (wpAny_pure h))
    · have hi : i = l₂.length := by omega
      have e2 : (strValues l₂).toArray[((i : Nat) : Int).toNat]? = none := by rw [Int.toNat_natCast]; exact str_items_none (by rw [hi]; simp)
      have ed2 : (l₂.map (·.1)).drop i = [] := by rw [List.drop_eq_nil_iff]; simp [hi]
      rw [ed2, ltL_nil_right] at h
      wp_walk using wpAny_loadPart' hl, wpAny_loadPart' hb
      rw [e1, e2]
      wp_walk using wpAny_loadPart' hl, wpAny_loadPart' hb
      have e3 : decide ((strValues l₁).toArray.size < (strValues l₂).toArray.size) = false := by
        simp [strValues]; omega
      show R (.ok (.ret (.bool (decide ((strValues l₁).toArray.size < (strValues l₂).toArray.size))))) _
      rw [e3]; exact h
open PySem.MeetsSeq PySem.MeetsSeq2 PySem.MeetsSeq3 in
theorem list_lt (l b : Addr) (l₁ l₂ : List (Str × Tok)) (n n2 : Nat) :
    Meets (Builtin.«list.__lt__» ⟨[.ref l, .ref b], []⟩)
      (fun _ R s => s.heap.get? l = some (listOf (strValues l₁).toArray n) ∧ s.heap.get? b = some (listOf (strValues l₂).toArray n2) ∧
        R (.ok (.ret (.bool (ltL (l₁.map (·.1)) (l₂.map (·.1)))))) s) := by
  intro prog w A R s h
  obtain ⟨hp, g, d, tk, os⟩ := s; obtain ⟨hl, hb, h⟩ := h
  have f3 := AutoSeq1.sub_list_list
  wp_walk using wpAny_loadPart' hl, wpAny_loadPart' hb
  exact ⟨plainId_quiet plain_eq_loop _, codeAny_builtin entry_eq_loop (by
    rw [Around.under_plainId plain_eq_loop _]
    exact lt_loopAt l b l₁ l₂ n n2 _ 0 rfl (Nat.zero_le _) (Nat.zero_le _) prog w A R _ ⟨hl, hb, h⟩)⟩
theorem rc_lt {prog : Program} {w : World} {A : Around} {E : Value → Shared → Prop} {s : Shared} {l b : Addr} {l₁ l₂ : List (Str × Tok)} {n n2 : Nat} {Q : Value → Shared → Prop}
    (hl : s.heap.get? l = some (listOf (strValues l₁).toArray n)) (hb : s.heap.get? b = some (listOf (strValues l₂).toArray n2)) (hu : A.units < cLine) (h : Q (.bool (ltL (l₁.map (·.1)) (l₂.map (·.1)))) s) :
    wpAny (model prog w) A (richCompare .Lt (.ref l) (.ref b)) Q E s :=
  richCompare_meets_room ⟨_, hl, rfl⟩ ⟨_, hb, rfl⟩ F.slot_list_lt F.entry_list_lt (F.args_list_lt_2 _ _) (list_lt l b l₁ l₂ n n2) ⟨hl, hb, ⟨(by intro e; cases e), h⟩⟩ hu
open PySem.MeetsSeq PySem.MeetsSeq2 PySem.MeetsSeq3 in
theorem gt_loopAt (l b : Addr) (l₁ l₂ : List (Str × Tok)) (n n2 : Nat) (k : Nat) : ∀ i : Nat, l₁.length - i = k → i ≤ l₁.length → i ≤ l₂.length →
    Meets (Builtin.«list.__eq__.loop» ⟨[.ref l, .ref b, rawInt i, rawInt 4], []⟩)
      (fun _ R s => s.heap.get? l = some (listOf (strValues l₁).toArray n) ∧ s.heap.get? b = some (listOf (strValues l₂).toArray n2) ∧
        R (.ok (.ret (.bool (ltL ((l₂.map (·.1)).drop i) ((l₁.map (·.1)).drop i))))) s) := by
  induction k with
  | zero =>
    intro i hk hi1 hi2 prog w A R s h
    obtain ⟨hp, g, d, tk, os⟩ := s; obtain ⟨hl, hb, h⟩ := h
    have hi : i = l₁.length := by omega
    have e1 : (strValues l₁).toArray[((i : Nat) : Int).toNat]? = none := by rw [Int.toNat_natCast]; exact str_items_none (by rw [hi]; simp)
    have ed : (l₁.map (·.1)).drop i = [] := by rw [List.drop_eq_nil_iff]; simp [hi]
    rw [ed, ltL_nil_right] at h
    wp_walk using wpAny_loadPart' hl, wpAny_loadPart' hb
    rw [e1]
    wp_walk using wpAny_loadPart' hl, wpAny_loadPart' hb
    have e2 : decide ((strValues l₁).toArray.size > (strValues l₂).toArray.size) = false := by
      simp [strValues, hi]
      omega
    show R (.ok (.ret (.bool (decide ((strValues l₁).toArray.size > (strValues l₂).toArray.size))))) _
    rw [e2]; exact h
  | succ k ih =>
    intro i hk hi1 hi2 prog w A R s h
    obtain ⟨hp, g, d, tk, os⟩ := s; obtain ⟨hl, hb, h⟩ := h
    have hlt : i < l₁.length := by omega
    have e1 : (strValues l₁).toArray[((i : Nat) : Int).toNat]? = some (.str l₁[i].1 l₁[i].2) := by rw [Int.toNat_natCast]; exact str_items (by simp [hlt])
    have ed1 : (l₁.map (·.1)).drop i = l₁[i].1 :: (l₁.map (·.1)).drop (i + 1) := by
      rw [List.drop_eq_getElem_cons (by simpa using hlt)]; simp
    rcases Nat.lt_or_ge i l₂.length with hlt2 | hge2
    · have e2 : (strValues l₂).toArray[((i : Nat) : Int).toNat]? = some (.str l₂[i].1 l₂[i].2) := by rw [Int.toNat_natCast]; exact str_items (by simp [hlt2])
      have ed2 : (l₂.map (·.1)).drop i = l₂[i].1 :: (l₂.map (·.1)).drop (i + 1) := by
        rw [List.drop_eq_getElem_cons (by simpa using hlt2)]; simp
      rw [ed1, ed2, ltL] at h
      wp_walk using wpAny_loadPart' hl, wpAny_loadPart' hb
      rw [e1, e2]
      refine wpAny_bind (wpAny_eqBool_str ?_)
      have hc : ((i : Int) + 1) = ((i + 1 : Nat) : Int) := by push_cast; rfl
      by_cases hxy : l₁[i].1 = l₂[i].1
      · rw [if_pos hxy.symm] at h
        rw [decide_eq_true hxy]
        wp_walk
        rw [hc]
        exact ⟨plainId_quiet plain_eq_loop _, codeAny_builtin entry_eq_loop (by
          rw [Around.under_plainId plain_eq_loop _]
          exact ih (i + 1) (by omega) hlt hlt2 prog w A R _ ⟨hl, hb, h⟩)⟩
      · rw [if_neg (Ne.symm hxy)] at h
        rw [decide_eq_false hxy]
        wp_walk using wpAny_loadPart' hl, wpAny_loadPart' hb
        rw [e1, e2]
        show wpAny _ _ (richCompare .Gt (.str l₁[i].1 l₁[i].2) (.str l₂[i].1 l₂[i].2) >>= _) _ _ _
        exact wpAny_bind (P.gt_str (wpAny_pure h))
    · have hi : i = l₂.length := by omega
      have e2 : (strValues l₂).toArray[((i : Nat) : Int).toNat]? = none := by rw [Int.toNat_natCast]; exact str_items_none (by rw [hi]; simp)
      have ed2 : (l₂.map (·.1)).drop i = [] := by rw [List.drop_eq_nil_iff]; simp [hi]
      rw [ed2, ltL_nil_left] at h
      wp_walk using wpAny_loadPart' hl, wpAny_loadPart' hb
      rw [e1, e2]
      wp_walk using wpAny_loadPart' hl, wpAny_loadPart' hb
      have e3 : decide ((strValues l₁).toArray.size > (strValues l₂).toArray.size) = decide (0 < ((l₁.map (·.1)).drop i).length) := by
        simp [strValues]; omega
      show R (.ok (.ret (.bool (decide ((strValues l₁).toArray.size > (strValues l₂).toArray.size))))) _
      rw [e3]; exact h
open PySem.MeetsSeq PySem.MeetsSeq2 PySem.MeetsSeq3 in
theorem list_gt (l b : Addr) (l₁ l₂ : List (Str × Tok)) (n n2 : Nat) :
    Meets (Builtin.«list.__gt__» ⟨[.ref l, .ref b], []⟩)
      (fun _ R s => s.heap.get? l = some (listOf (strValues l₁).toArray n) ∧ s.heap.get? b = some (listOf (strValues l₂).toArray n2) ∧
        R (.ok (.ret (.bool (ltL (l₂.map (·.1)) (l₁.map (·.1)))))) s) := by
  intro prog w A R s h
  obtain ⟨hp, g, d, tk, os⟩ := s; obtain ⟨hl, hb, h⟩ := h
  have f3 := AutoSeq1.sub_list_list
  wp_walk using wpAny_loadPart' hl, wpAny_loadPart' hb
  exact ⟨plainId_quiet plain_eq_loop _, codeAny_builtin entry_eq_loop (by
    rw [Around.under_plainId plain_eq_loop _]
    exact gt_loopAt l b l₁ l₂ n n2 _ 0 rfl (Nat.zero_le _) (Nat.zero_le _) prog w A R _ ⟨hl, hb, h⟩)⟩
theorem rc_gt {prog : Program} {w : World} {A : Around} {E : Value → Shared → Prop} {s : Shared} {l b : Addr} {l₁ l₂ : List (Str × Tok)} {n n2 : Nat} {Q : Value → Shared → Prop}
    (hl : s.heap.get? l = some (listOf (strValues l₁).toArray n)) (hb : s.heap.get? b = some (listOf (strValues l₂).toArray n2)) (hu : A.units < cLine) (h : Q (.bool (ltL (l₂.map (·.1)) (l₁.map (·.1)))) s) :
    wpAny (model prog w) A (richCompare .Gt (.ref l) (.ref b)) Q E s :=
  richCompare_meets_room ⟨_, hl, rfl⟩ ⟨_, hb, rfl⟩ F.slot_list_gt F.entry_list_gt (F.args_list_gt_2 _ _) (list_gt l b l₁ l₂ n n2) ⟨hl, hb, ⟨(by intro e; cases e), h⟩⟩ hu
/-- a list's items are lists of texts of the ledger -/
def LL (news : List (Addr × Obj)) (ys : List Value) (lls : List (List Str)) : Prop := Paired (fun y ss => ∃ a l n, y = .ref a ∧ (a, listOf (strValues l).toArray n) ∈ news ∧ l.map (·.1) = ss) ys lls
theorem paired_mono {α β : Type} {F F' : α → β → Prop} (hm : ∀ a b, F a b → F' a b) : ∀ {l₁ : List α} {l₂ : List β}, Paired F l₁ l₂ → Paired F' l₁ l₂ := fun h => Paired.mono hm h
theorem LL.mono {news news' : List (Addr × Obj)} {ys : List Value} {lls : List (List Str)} (x : LL news ys lls) (h : ∀ p ∈ news, p ∈ news') : LL news' ys lls :=
  Paired.mono (fun _ _ ⟨a, l, n, e, hm, hl⟩ => ⟨a, l, n, e, h _ hm, hl⟩) x
theorem LL.nil {news : List (Addr × Obj)} : LL news [] [] := Paired.nil
theorem LL.snoc {news : List (Addr × Obj)} {ys : List Value} {lls : List (List Str)} {a : Addr} {l : List (Str × Tok)} {n : Nat} (x : LL news ys lls) (h : (a, listOf (strValues l).toArray n) ∈ news) : LL news (ys ++ [.ref a]) (lls ++ [l.map (·.1)]) :=
  Paired.snoc x ⟨a, l, n, rfl, h, rfl⟩
theorem LL.length {news : List (Addr × Obj)} {ys : List Value} {lls : List (List Str)} (x : LL news ys lls) : ys.length = lls.length := Paired.length x
theorem paired_at {α β : Type} {F : α → β → Prop} : ∀ {l₁ : List α} {l₂ : List β}, Paired F l₁ l₂ → ∀ {i : Nat} {a : α}, l₁[i]? = some a → ∃ b, l₂[i]? = some b ∧ F a b
  | _, _, .nil, i, _, h => by simp at h
  | _, _, .cons h r, 0, a, e => by simp at e; subst e; exact ⟨_, rfl, h⟩
  | _, _, .cons _ r, i + 1, a, e => by simp at e; simpa using paired_at r e
theorem LL.at {news : List (Addr × Obj)} {ys : List Value} {lls : List (List Str)} (x : LL news ys lls) {i : Nat} {v : Value} (h : ys[i]? = some v) : ∃ a l n, v = .ref a ∧ (a, listOf (strValues l).toArray n) ∈ news ∧ lls[i]? = some (l.map (·.1)) := by
  obtain ⟨ss, h1, a, l, n, e, hm, hl⟩ := paired_at x h
  exact ⟨a, l, n, e, hm, by rw [h1, hl]⟩
theorem argBest_least {n : Nat} (bt : Nat → Nat → Bool) (hir : ∀ i, bt i i = false) (htr : ∀ i j k, bt i j = true → bt j k = true → bt i k = true) : ∀ k i, i ≤ k → bt i (argBest bt k) = false
  | 0, i, h => by rw [Nat.le_zero.mp h]; exact hir 0
  | k + 1, i, h => by
    simp only [argBest]
    cases hb : bt (k + 1) (argBest bt k) with
    | true =>
      simp only [if_true]
      rcases Nat.lt_or_ge i (k + 1) with q | q
      · cases hc : bt i (k + 1) with
        | false => rfl
        | true =>
          have := htr _ _ _ hc hb
          rw [argBest_least (n := n) bt hir htr k i (Nat.le_of_lt_succ q)] at this; cases this
      · rw [Nat.le_antisymm h q]; exact hir _
    | false =>
      simp only [Bool.false_eq_true, if_false]
      rcases Nat.lt_or_ge i (k + 1) with q | q
      · exact argBest_least (n := n) bt hir htr k i (Nat.le_of_lt_succ q)
      · rw [Nat.le_antisymm h q]; exact hb
section
variable {prog : Program} {w : World} {A : Around} {R : Result → Shared → Prop} {I : Addr} {fp wr : List Addr} {n : Nat} {P : Nat → Value → Prop} {St : Nat → Heap → Prop} {Hp : Heap → Prop}
theorem min_loopL (W : Walks prog w A.in1 I fp wr n P St) (bt : Nat → Nat → Bool) (S : Addr) (hSf : S ∉ fp)
    (hH : ∀ h h', Hp h → (∀ b o, b ∉ wr → b ≠ S → h.get? b = some o → h'.get? b = some o) → Hp h')
    (hcmp : ∀ i j vi vj (s : Shared) (Q : Value → Shared → Prop) (E : Value → Shared → Prop), Hp s.heap → P i vi → P j vj → Q (.bool (bt i j)) s → wpAny (model prog w) A.in1 (richCompare .Lt vi vj) Q E s) :
    ∀ (k j : Nat) (s : Shared) (vb : Value) (c : Nat), n - (j + 1) = k → j + 1 ≤ n → St (j + 1) s.heap → Hp s.heap → P (argBest bt j) vb →
    s.heap.get? S = some { cls := .type "list", dict := none, data := .seq #[vb, vb] c, slots := #[] } →
    (∀ v h' tk, P (argBest bt (n - 1)) v → (∀ b o, b ∉ wr → b ≠ S → s.heap.get? b = some o → h'.get? b = some o) → R (.ok (.ret v)) { s with heap := h', toks := tk }) →
    codeAny (model prog w) A (.builtin "min.loop" ⟨[.ref I, .none, .ref S], []⟩) R s := by
  have hSw : S ∉ wr := fun h => hSf (W.sub _ h)
  have hname : (toString "min" ++ toString ".loop" : String) = "min.loop" := by decide
  intro k
  induction k with
  | zero =>
    intro j s vb c hk hj hst _ hPb hS hR
    have hin : j + 1 = n := by omega
    refine codeAny_builtin F.entry_min_loop ?_
    rw [Around.under_plainId F.plain_min_loop _]
    show wpAny _ A.in1 (seqItems? (.ref S) >>= _) _ _ s
    refine wpAny_bind (wpAny_seqItems hS rfl ?_)
    show wpAny _ A.in1 (tryCatch (pyNext (.ref I)) _ >>= _) _ _ s
    refine wpAny_bind (wpAny_tryCatch (W.done s _ _ (hin ▸ hst) fun h' tk hk' => ?_))
    have hS' := hk' S _ hSw hS
    show wpAny _ A.in1 (updateSeq S (fun _ => #[]) >>= _) _ _ _
    refine wpAny_bind ?_
    refine wpAny_updateSeq hS' rfl (wpAny_bind (wpAny_letGo (wpAny_pure ?_)))
    refine hR vb _ tk (by rw [← hin]; exact hPb) fun b o hbw hbS e => (Heap.get?_update_other _ _ (Ne.symm hbS)).trans (hk' b o hbw e)
  | succ k ih =>
    intro j s vb c hk hj hst hHp hPb hS hR
    have hlt : j + 1 < n := by omega
    refine codeAny_builtin F.entry_min_loop ?_
    rw [Around.under_plainId F.plain_min_loop _]
    show wpAny _ A.in1 (seqItems? (.ref S) >>= _) _ _ s
    refine wpAny_bind (wpAny_seqItems hS rfl ?_)
    show wpAny _ A.in1 (tryCatch (pyNext (.ref I)) _ >>= _) _ _ s
    refine wpAny_bind (wpAny_tryCatch (W.item (j + 1) s _ _ hlt hst fun v h' tk hP hst' hk' => ?_))
    have hS' := hk' S _ hSw hS
    have hHp' : Hp h' := hH _ _ hHp fun b o hb _ e => hk' b o hb e
    show wpAny _ A.in1 (tryCatch (holding [v, v] (richCompare .Lt v vb >>= _)) _ >>= _) _ _ _
    refine wpAny_bind (wpAny_tryCatch (wpAny_holding (wpAny_bind (hcmp (j + 1) (argBest bt j) v vb _ _ _ hHp' hP hPb ?_))))
    refine wpAny_bind (wpAny_holding (wpAny_truthy_bool ?_))
    refine wpAny_bind (wpAny_letGo (wpAny_pure ?_))
    cases hb : bt (j + 1) (argBest bt j) with
    | true =>
      simp only [if_true]
      refine wpAny_bind ?_
      refine wpAny_updateSeq hS' rfl (wpAny_bind (wpAny_letGo ?_))
      rw [hname]
      refine wpAny_pure ⟨plainId_quiet F.plain_min_loop _, ih (j + 1) _ v _ (by omega) hlt (W.frame _ _ _ hst' fun b hbf o e => ?_) (hH _ _ hHp' fun b o _ hbS e => (Heap.get?_update_other _ _ (Ne.symm hbS)).trans e) (by simp only [argBest, hb, if_true]; exact hP) (Heap.get?_update_self _ hS' rfl)
        fun v' h'' tk'' hP' hk'' => ?_⟩
      · exact (Heap.get?_update_other _ _ (fun h : S = b => hSf (by rw [h]; exact hbf))).trans e
      · exact hR v' h'' tk'' hP' fun b o hbw hbS e => hk'' b o hbw hbS ((Heap.get?_update_other _ _ (Ne.symm hbS)).trans (hk' b o hbw e))
    | false =>
      simp only [Bool.false_eq_true, if_false]
      refine wpAny_bind (wpAny_letGo ?_)
      rw [hname]
      refine wpAny_pure ⟨plainId_quiet F.plain_min_loop _, ih (j + 1) _ vb c (by omega) hlt hst' hHp' (by simp only [argBest, hb, Bool.false_eq_true, if_false]; exact hPb) hS' fun v' h'' tk'' hP' hk'' => ?_⟩
      exact hR v' h'' tk'' hP' fun b o hbw hbS e => hk'' b o hbw hbS (hk' b o hbw e)
theorem min_loop_firstL (W : Walks prog w A.in1 I fp wr n P St) (bt : Nat → Nat → Bool) (S : Addr) (hSf : S ∉ fp) (hn : 0 < n) {s : Shared} {c : Nat} (hst : St 0 s.heap)
    (hH : ∀ h h', Hp h → (∀ b o, b ∉ wr → b ≠ S → h.get? b = some o → h'.get? b = some o) → Hp h')
    (hcmp : ∀ i j vi vj (s : Shared) (Q : Value → Shared → Prop) (E : Value → Shared → Prop), Hp s.heap → P i vi → P j vj → Q (.bool (bt i j)) s → wpAny (model prog w) A.in1 (richCompare .Lt vi vj) Q E s)
    (hHp : Hp s.heap) (hS : s.heap.get? S = some { cls := .type "list", dict := none, data := .seq #[] c, slots := #[] })
    (hR : ∀ v h' tk, P (argBest bt (n - 1)) v → (∀ b o, b ∉ wr → b ≠ S → s.heap.get? b = some o → h'.get? b = some o) → R (.ok (.ret v)) { s with heap := h', toks := tk }) :
    codeAny (model prog w) A (.builtin "min.loop" ⟨[.ref I, .none, .ref S], []⟩) R s := by
  have hSw : S ∉ wr := fun h => hSf (W.sub _ h)
  have hname : (toString "min" ++ toString ".loop" : String) = "min.loop" := by decide
  refine codeAny_builtin F.entry_min_loop ?_
  rw [Around.under_plainId F.plain_min_loop _]
  show wpAny _ A.in1 (seqItems? (.ref S) >>= _) _ _ s
  refine wpAny_bind (wpAny_seqItems hS rfl ?_)
  show wpAny _ A.in1 (tryCatch (pyNext (.ref I)) _ >>= _) _ _ s
  refine wpAny_bind (wpAny_tryCatch (W.item 0 s _ _ hn hst fun v h' tk hP hst' hk' => ?_))
  have hS' := hk' S _ hSw hS
  have hHp' : Hp h' := hH _ _ hHp fun b o hb _ e => hk' b o hb e
  show wpAny _ A.in1 (updateSeq S (fun _ => #[v, v]) >>= _) _ _ _
  refine wpAny_bind ?_
  refine wpAny_updateSeq hS' rfl ?_
  rw [hname]
  refine wpAny_pure ⟨plainId_quiet F.plain_min_loop _, min_loopL W bt S hSf hH hcmp _ 0 _ v _ rfl hn (W.frame _ _ _ hst' fun b hbf o e => ?_) (hH _ _ hHp' fun b o _ hbS e => (Heap.get?_update_other _ _ (Ne.symm hbS)).trans e) hP (Heap.get?_update_self _ hS' rfl) fun v' h'' tk'' hP' hk'' => ?_⟩
  · exact (Heap.get?_update_other _ _ (fun h : S = b => hSf (by rw [h]; exact hbf))).trans e
  · exact hR v' h'' tk'' hP' fun b o hbw hbS e => hk'' b o hbw hbS ((Heap.get?_update_other _ _ (Ne.symm hbS)).trans (hk' b o hbw e))
end
section
variable {prog : Program} {w : World} {A : Around} {E : Value → Shared → Prop} {s : Shared} {h₀ : Heap} {L : Addr} {m : Str → Option Value} {news : List (Addr × Obj)}
/-- min of a list of lists of texts of the ledger -/
theorem call_minL {D : Addr} {ys : List Value} {lls : List (List Str)} {nn : Nat} {Q : Value → Shared → Prop} (hh : A.handled = none) (hu : A.units + 100 < cLine) (Fx : Fr h₀ L s.heap m) (N : News h₀ L s.heap news) (hD : (D, listOf ys.toArray nn) ∈ news) (hys : LL news ys lls) (hne : ys ≠ []) (hsz : ys.length ≤ 100000)
    (h : ∀ h' tk a ss, (∃ l n, (a, listOf (strValues l).toArray n) ∈ news ∧ l.map (·.1) = ss) → ss ∈ lls → (∀ x ∈ lls, ltL x ss = false) → Fr h₀ L h' m → News h₀ L h' news → Q (.ref a) { s with heap := h', toks := tk }) :
    wpAny (model prog w) A (call (.builtin "min") [.ref D]) Q E s := by
  have hname : (toString "min" ++ toString ".loop" : String) = "min.loop" := by decide
  have hl : s.heap.IsList D ys.toArray := ⟨_, (N _ hD).1, rfl, nn, rfl⟩
  have hlt : D < s.heap.objs.size := Heap.lt_size (N _ hD).1
  have hn : 0 < ys.toArray.size := by rw [List.size_toArray]; exact List.length_pos_iff.mpr hne
  refine call_function_tree F.kind_min F.plain_min F.entry_min (F.args_min1 _) ?_
  show wpAny _ A.in1 (Builtin.Builtins.bindParams "min" ["key", "default"] 0 ⟨[], []⟩ >>= _) _ _ s
  refine wpAny_bind (wpAny_of_eq (show Builtin.Builtins.bindParams "min" ["key", "default"] 0 ⟨[], []⟩ = pure [none, none] from rfl) ?_)
  refine wpAny_bind (wpAny_pure ?_)
  refine wpAny_bind (wpAny_pyIter_list hl ?_)
  refine wpAny_bind (wpAny_newObj_type ?_)
  have up : ∀ (ob : Obj) (g : Heap) b o, g.get? b = some o → (g.push ob).get? b = some o := fun ob g b o e => Heap.get?_push_of_some _ e
  generalize hI : s.heap.objs.size = I at *
  generalize hS1 : s.heap.push { cls := .type "list_iterator", data := .fields #[.ref D, .int 0 0] } = H1
  have hH1 : H1.objs.size = I + 1 := by rw [← hS1, Heap.size_push, hI]
  dsimp only
  generalize hS : H1.objs.size = S at *
  have hSf : S ∉ ([I, D] : List Addr) := by
    intro hm
    rcases List.mem_cons.mp hm with e | hm
    · rw [hH1] at e; exact absurd e (Nat.succ_ne_self _)
    · have q : S = D := List.mem_singleton.mp hm; exact Nat.lt_irrefl I (Nat.lt_trans (Nat.lt_of_lt_of_eq (Nat.lt_succ_self I) (hH1.symm.trans q)) hlt)
  have hgI : H1.get? I = some { cls := .type "list_iterator", data := .fields #[.ref D, .int 0 0] } := by rw [← hS1, ← hI]; exact Heap.get?_push_size _ rfl
  have hlI : D ≠ I := Nat.ne_of_lt hlt
  have hadr : ∀ p ∈ news, p.1 ≠ I ∧ p.1 ≠ S := fun p hp => by
    have := Heap.lt_size (N p hp).1
    rw [hI] at this
    exact ⟨Nat.ne_of_lt this, by rw [hH1]; exact Nat.ne_of_lt (Nat.lt_succ_of_lt this)⟩
  have hadr₀ : h₀.get? I = none ∧ h₀.get? S = none ∧ L ≠ I ∧ L ≠ S := by
    have k : ∀ b, I ≤ b → h₀.get? b = none := fun b hb => by
      cases e : h₀.get? b with
      | none => rfl
      | some o => exact absurd (Heap.lt_size (Fx.keep b o e)) (by rw [hI]; exact Nat.not_lt.mpr hb)
    have hL : L < I := hI ▸ Fx.ns.lt
    exact ⟨k _ (Nat.le_refl _), k _ (by rw [hH1]; exact Nat.le_succ _), Nat.ne_of_lt hL, by rw [hH1]; exact Nat.ne_of_lt (Nat.lt_succ_of_lt hL)⟩
  have W : Walks prog w A.in1 I [I, D] [I] ys.toArray.size (fun i v => ys.toArray[i]? = some v) (fun i h => h.IsListIter I D i ∧ h.IsList D ys.toArray) := Walks.list (A := A.in1) hh I D hlI ys.toArray
  rw [hname]
  refine wpAny_pure ⟨plainId_quiet F.plain_min_loop _, min_loop_firstL (A := A) (Hp := fun h => News h₀ L h news) (P := fun i v => ys.toArray[i]? = some v) W (fun i j => (ltL (lls[i]?.getD []) (lls[j]?.getD []))) S hSf hn
    ⟨⟨_, up _ _ _ _ hgI, rfl, rfl⟩, ⟨_, up _ _ _ _ (hS1 ▸ up _ _ _ _ (N _ hD).1), rfl, nn, rfl⟩⟩ ?_ ?_ ?_ (by rw [← hS]; exact Heap.get?_push_size _ rfl) ?_⟩
  · intro h h' N' hk p hp
    exact ⟨hk _ _ (by simpa using (hadr p hp).1) (hadr p hp).2 (N' p hp).1, (N' p hp).2⟩
  · intro i j vi vj s₁ Q₁ E₁ N₁ hi hj hq
    obtain ⟨ai, li, ni, rfl, hmi, hli⟩ := hys.at (by simpa using hi)
    obtain ⟨aj, lj, nj, rfl, hmj, hlj⟩ := hys.at (by simpa using hj)
    rw [hli, hlj] at hq
    exact rc_lt (N₁ _ hmi).1 (N₁ _ hmj).1 (by show A.units + 1 < _; omega) (by simpa using hq)
  · intro p hp
    exact ⟨up _ _ _ _ (hS1 ▸ up _ _ _ _ (N p hp).1), (N p hp).2⟩
  · intro v h' tk hv hk
    have hk' : ∀ b o, b ≠ I → b ≠ S → s.heap.get? b = some o → h'.get? b = some o := fun b o h1 h2 e => hk b o (by simpa using h1) h2 (up _ _ _ _ (hS1 ▸ up _ _ _ _ e))
    obtain ⟨a, l, n, rfl, hm, hl'⟩ := hys.at (by simpa using hv)
    have hlen := hys.length
    refine h h' tk a (l.map (·.1)) ⟨l, n, hm, rfl⟩ (List.mem_of_getElem? hl') ?_ ⟨Fx.ns.at' fun o e => hk' _ o hadr₀.2.2.1 hadr₀.2.2.2 e, fun b o e => hk' b o (fun z => by rw [z, hadr₀.1] at e; cases e) (fun z => by rw [z, hadr₀.2.1] at e; cases e) (Fx.keep b o e), Fx.above⟩ ?_
    · have best := argBest_least (n := ys.toArray.size) (fun i j => (ltL (lls[i]?.getD []) (lls[j]?.getD []))) (fun i => by simp [ltL_irrefl]) (fun i j k h1 h2 => ltL_trans (zs := _) h1 h2) (ys.toArray.size - 1)
      intro x hx
      obtain ⟨i, hi, rfl⟩ := List.mem_iff_getElem.mp hx
      have b1 := best i (by rw [List.size_toArray, hlen]; omega)
      try dsimp only at b1
      rw [List.size_toArray, hl'] at b1
      simpa [hi] using b1
    · intro p hp
      exact ⟨hk' _ _ (hadr p hp).1 (hadr p hp).2 (N p hp).1, (N p hp).2⟩
end
section
variable {prog : Program} {w : World} {A : Around} {R : Result → Shared → Prop} {I : Addr} {fp wr : List Addr} {n : Nat} {P : Nat → Value → Prop} {St : Nat → Heap → Prop} {Hp : Heap → Prop}
theorem max_loopL (W : Walks prog w A.in1 I fp wr n P St) (bt : Nat → Nat → Bool) (S : Addr) (hSf : S ∉ fp)
    (hH : ∀ h h', Hp h → (∀ b o, b ∉ wr → b ≠ S → h.get? b = some o → h'.get? b = some o) → Hp h')
    (hcmp : ∀ i j vi vj (s : Shared) (Q : Value → Shared → Prop) (E : Value → Shared → Prop), Hp s.heap → P i vi → P j vj → Q (.bool (bt i j)) s → wpAny (model prog w) A.in1 (richCompare .Gt vi vj) Q E s) :
    ∀ (k j : Nat) (s : Shared) (vb : Value) (c : Nat), n - (j + 1) = k → j + 1 ≤ n → St (j + 1) s.heap → Hp s.heap → P (argBest bt j) vb →
    s.heap.get? S = some { cls := .type "list", dict := none, data := .seq #[vb, vb] c, slots := #[] } →
    (∀ v h' tk, P (argBest bt (n - 1)) v → (∀ b o, b ∉ wr → b ≠ S → s.heap.get? b = some o → h'.get? b = some o) → R (.ok (.ret v)) { s with heap := h', toks := tk }) →
    codeAny (model prog w) A (.builtin "max.loop" ⟨[.ref I, .none, .ref S], []⟩) R s := by
  have hSw : S ∉ wr := fun h => hSf (W.sub _ h)
  have hname : (toString "max" ++ toString ".loop" : String) = "max.loop" := by decide
  intro k
  induction k with
  | zero =>
    intro j s vb c hk hj hst _ hPb hS hR
    have hin : j + 1 = n := by omega
    refine codeAny_builtin F.entry_max_loop ?_
    rw [Around.under_plainId F.plain_max_loop _]
    show wpAny _ A.in1 (seqItems? (.ref S) >>= _) _ _ s
    refine wpAny_bind (wpAny_seqItems hS rfl ?_)
    show wpAny _ A.in1 (tryCatch (pyNext (.ref I)) _ >>= _) _ _ s
    refine wpAny_bind (wpAny_tryCatch (W.done s _ _ (hin ▸ hst) fun h' tk hk' => ?_))
    have hS' := hk' S _ hSw hS
    show wpAny _ A.in1 (updateSeq S (fun _ => #[]) >>= _) _ _ _
    refine wpAny_bind ?_
    refine wpAny_updateSeq hS' rfl (wpAny_bind (wpAny_letGo (wpAny_pure ?_)))
    refine hR vb _ tk (by rw [← hin]; exact hPb) fun b o hbw hbS e => (Heap.get?_update_other _ _ (Ne.symm hbS)).trans (hk' b o hbw e)
  | succ k ih =>
    intro j s vb c hk hj hst hHp hPb hS hR
    have hlt : j + 1 < n := by omega
    refine codeAny_builtin F.entry_max_loop ?_
    rw [Around.under_plainId F.plain_max_loop _]
    show wpAny _ A.in1 (seqItems? (.ref S) >>= _) _ _ s
    refine wpAny_bind (wpAny_seqItems hS rfl ?_)
    show wpAny _ A.in1 (tryCatch (pyNext (.ref I)) _ >>= _) _ _ s
    refine wpAny_bind (wpAny_tryCatch (W.item (j + 1) s _ _ hlt hst fun v h' tk hP hst' hk' => ?_))
    have hS' := hk' S _ hSw hS
    have hHp' : Hp h' := hH _ _ hHp fun b o hb _ e => hk' b o hb e
    show wpAny _ A.in1 (tryCatch (holding [v, v] (richCompare .Gt v vb >>= _)) _ >>= _) _ _ _
    refine wpAny_bind (wpAny_tryCatch (wpAny_holding (wpAny_bind (hcmp (j + 1) (argBest bt j) v vb _ _ _ hHp' hP hPb ?_))))
    refine wpAny_bind (wpAny_holding (wpAny_truthy_bool ?_))
    refine wpAny_bind (wpAny_letGo (wpAny_pure ?_))
    cases hb : bt (j + 1) (argBest bt j) with
    | true =>
      simp only [if_true]
      refine wpAny_bind ?_
      refine wpAny_updateSeq hS' rfl (wpAny_bind (wpAny_letGo ?_))
      rw [hname]
      refine wpAny_pure ⟨plainId_quiet F.plain_max_loop _, ih (j + 1) _ v _ (by omega) hlt (W.frame _ _ _ hst' fun b hbf o e => ?_) (hH _ _ hHp' fun b o _ hbS e => (Heap.get?_update_other _ _ (Ne.symm hbS)).trans e) (by simp only [argBest, hb, if_true]; exact hP) (Heap.get?_update_self _ hS' rfl)
        fun v' h'' tk'' hP' hk'' => ?_⟩
      · exact (Heap.get?_update_other _ _ (fun h : S = b => hSf (by rw [h]; exact hbf))).trans e
      · exact hR v' h'' tk'' hP' fun b o hbw hbS e => hk'' b o hbw hbS ((Heap.get?_update_other _ _ (Ne.symm hbS)).trans (hk' b o hbw e))
    | false =>
      simp only [Bool.false_eq_true, if_false]
      refine wpAny_bind (wpAny_letGo ?_)
      rw [hname]
      refine wpAny_pure ⟨plainId_quiet F.plain_max_loop _, ih (j + 1) _ vb c (by omega) hlt hst' hHp' (by simp only [argBest, hb, Bool.false_eq_true, if_false]; exact hPb) hS' fun v' h'' tk'' hP' hk'' => ?_⟩
      exact hR v' h'' tk'' hP' fun b o hbw hbS e => hk'' b o hbw hbS (hk' b o hbw e)
theorem max_loop_firstL (W : Walks prog w A.in1 I fp wr n P St) (bt : Nat → Nat → Bool) (S : Addr) (hSf : S ∉ fp) (hn : 0 < n) {s : Shared} {c : Nat} (hst : St 0 s.heap)
    (hH : ∀ h h', Hp h → (∀ b o, b ∉ wr → b ≠ S → h.get? b = some o → h'.get? b = some o) → Hp h')
    (hcmp : ∀ i j vi vj (s : Shared) (Q : Value → Shared → Prop) (E : Value → Shared → Prop), Hp s.heap → P i vi → P j vj → Q (.bool (bt i j)) s → wpAny (model prog w) A.in1 (richCompare .Gt vi vj) Q E s)
    (hHp : Hp s.heap) (hS : s.heap.get? S = some { cls := .type "list", dict := none, data := .seq #[] c, slots := #[] })
    (hR : ∀ v h' tk, P (argBest bt (n - 1)) v → (∀ b o, b ∉ wr → b ≠ S → s.heap.get? b = some o → h'.get? b = some o) → R (.ok (.ret v)) { s with heap := h', toks := tk }) :
    codeAny (model prog w) A (.builtin "max.loop" ⟨[.ref I, .none, .ref S], []⟩) R s := by
  have hSw : S ∉ wr := fun h => hSf (W.sub _ h)
  have hname : (toString "max" ++ toString ".loop" : String) = "max.loop" := by decide
  refine codeAny_builtin F.entry_max_loop ?_
  rw [Around.under_plainId F.plain_max_loop _]
  show wpAny _ A.in1 (seqItems? (.ref S) >>= _) _ _ s
  refine wpAny_bind (wpAny_seqItems hS rfl ?_)
  show wpAny _ A.in1 (tryCatch (pyNext (.ref I)) _ >>= _) _ _ s
  refine wpAny_bind (wpAny_tryCatch (W.item 0 s _ _ hn hst fun v h' tk hP hst' hk' => ?_))
  have hS' := hk' S _ hSw hS
  have hHp' : Hp h' := hH _ _ hHp fun b o hb _ e => hk' b o hb e
  show wpAny _ A.in1 (updateSeq S (fun _ => #[v, v]) >>= _) _ _ _
  refine wpAny_bind ?_
  refine wpAny_updateSeq hS' rfl ?_
  rw [hname]
  refine wpAny_pure ⟨plainId_quiet F.plain_max_loop _, max_loopL W bt S hSf hH hcmp _ 0 _ v _ rfl hn (W.frame _ _ _ hst' fun b hbf o e => ?_) (hH _ _ hHp' fun b o _ hbS e => (Heap.get?_update_other _ _ (Ne.symm hbS)).trans e) hP (Heap.get?_update_self _ hS' rfl) fun v' h'' tk'' hP' hk'' => ?_⟩
  · exact (Heap.get?_update_other _ _ (fun h : S = b => hSf (by rw [h]; exact hbf))).trans e
  · exact hR v' h'' tk'' hP' fun b o hbw hbS e => hk'' b o hbw hbS ((Heap.get?_update_other _ _ (Ne.symm hbS)).trans (hk' b o hbw e))
end
section
variable {prog : Program} {w : World} {A : Around} {E : Value → Shared → Prop} {s : Shared} {h₀ : Heap} {L : Addr} {m : Str → Option Value} {news : List (Addr × Obj)}
/-- max of a list of lists of texts of the ledger -/
theorem call_maxL {D : Addr} {ys : List Value} {lls : List (List Str)} {nn : Nat} {Q : Value → Shared → Prop} (hh : A.handled = none) (hu : A.units + 100 < cLine) (Fx : Fr h₀ L s.heap m) (N : News h₀ L s.heap news) (hD : (D, listOf ys.toArray nn) ∈ news) (hys : LL news ys lls) (hne : ys ≠ []) (hsz : ys.length ≤ 100000)
    (h : ∀ h' tk a ss, (∃ l n, (a, listOf (strValues l).toArray n) ∈ news ∧ l.map (·.1) = ss) → ss ∈ lls → (∀ x ∈ lls, ltL ss x = false) → Fr h₀ L h' m → News h₀ L h' news → Q (.ref a) { s with heap := h', toks := tk }) :
    wpAny (model prog w) A (call (.builtin "max") [.ref D]) Q E s := by
  have hname : (toString "max" ++ toString ".loop" : String) = "max.loop" := by decide
  have hl : s.heap.IsList D ys.toArray := ⟨_, (N _ hD).1, rfl, nn, rfl⟩
  have hlt : D < s.heap.objs.size := Heap.lt_size (N _ hD).1
  have hn : 0 < ys.toArray.size := by rw [List.size_toArray]; exact List.length_pos_iff.mpr hne
  refine call_function_tree F.kind_max F.plain_max F.entry_max (F.args_max1 _) ?_
  show wpAny _ A.in1 (Builtin.Builtins.bindParams "max" ["key", "default"] 0 ⟨[], []⟩ >>= _) _ _ s
  refine wpAny_bind (wpAny_of_eq (show Builtin.Builtins.bindParams "max" ["key", "default"] 0 ⟨[], []⟩ = pure [none, none] from rfl) ?_)
  refine wpAny_bind (wpAny_pure ?_)
  refine wpAny_bind (wpAny_pyIter_list hl ?_)
  refine wpAny_bind (wpAny_newObj_type ?_)
  have up : ∀ (ob : Obj) (g : Heap) b o, g.get? b = some o → (g.push ob).get? b = some o := fun ob g b o e => Heap.get?_push_of_some _ e
  generalize hI : s.heap.objs.size = I at *
  generalize hS1 : s.heap.push { cls := .type "list_iterator", data := .fields #[.ref D, .int 0 0] } = H1
  have hH1 : H1.objs.size = I + 1 := by rw [← hS1, Heap.size_push, hI]
  dsimp only
  generalize hS : H1.objs.size = S at *
  have hSf : S ∉ ([I, D] : List Addr) := by
    intro hm
    rcases List.mem_cons.mp hm with e | hm
    · rw [hH1] at e; exact absurd e (Nat.succ_ne_self _)
    · have q : S = D := List.mem_singleton.mp hm; exact Nat.lt_irrefl I (Nat.lt_trans (Nat.lt_of_lt_of_eq (Nat.lt_succ_self I) (hH1.symm.trans q)) hlt)
  have hgI : H1.get? I = some { cls := .type "list_iterator", data := .fields #[.ref D, .int 0 0] } := by rw [← hS1, ← hI]; exact Heap.get?_push_size _ rfl
  have hlI : D ≠ I := Nat.ne_of_lt hlt
  have hadr : ∀ p ∈ news, p.1 ≠ I ∧ p.1 ≠ S := fun p hp => by
    have := Heap.lt_size (N p hp).1
    rw [hI] at this
    exact ⟨Nat.ne_of_lt this, by rw [hH1]; exact Nat.ne_of_lt (Nat.lt_succ_of_lt this)⟩
  have hadr₀ : h₀.get? I = none ∧ h₀.get? S = none ∧ L ≠ I ∧ L ≠ S := by
    have k : ∀ b, I ≤ b → h₀.get? b = none := fun b hb => by
      cases e : h₀.get? b with
      | none => rfl
      | some o => exact absurd (Heap.lt_size (Fx.keep b o e)) (by rw [hI]; exact Nat.not_lt.mpr hb)
    have hL : L < I := hI ▸ Fx.ns.lt
    exact ⟨k _ (Nat.le_refl _), k _ (by rw [hH1]; exact Nat.le_succ _), Nat.ne_of_lt hL, by rw [hH1]; exact Nat.ne_of_lt (Nat.lt_succ_of_lt hL)⟩
  have W : Walks prog w A.in1 I [I, D] [I] ys.toArray.size (fun i v => ys.toArray[i]? = some v) (fun i h => h.IsListIter I D i ∧ h.IsList D ys.toArray) := Walks.list (A := A.in1) hh I D hlI ys.toArray
  rw [hname]
  refine wpAny_pure ⟨plainId_quiet F.plain_max_loop _, max_loop_firstL (A := A) (Hp := fun h => News h₀ L h news) (P := fun i v => ys.toArray[i]? = some v) W (fun i j => (ltL (lls[j]?.getD []) (lls[i]?.getD []))) S hSf hn
    ⟨⟨_, up _ _ _ _ hgI, rfl, rfl⟩, ⟨_, up _ _ _ _ (hS1 ▸ up _ _ _ _ (N _ hD).1), rfl, nn, rfl⟩⟩ ?_ ?_ ?_ (by rw [← hS]; exact Heap.get?_push_size _ rfl) ?_⟩
  · intro h h' N' hk p hp
    exact ⟨hk _ _ (by simpa using (hadr p hp).1) (hadr p hp).2 (N' p hp).1, (N' p hp).2⟩
  · intro i j vi vj s₁ Q₁ E₁ N₁ hi hj hq
    obtain ⟨ai, li, ni, rfl, hmi, hli⟩ := hys.at (by simpa using hi)
    obtain ⟨aj, lj, nj, rfl, hmj, hlj⟩ := hys.at (by simpa using hj)
    rw [hli, hlj] at hq
    exact rc_gt (N₁ _ hmi).1 (N₁ _ hmj).1 (by show A.units + 1 < _; omega) (by simpa using hq)
  · intro p hp
    exact ⟨up _ _ _ _ (hS1 ▸ up _ _ _ _ (N p hp).1), (N p hp).2⟩
  · intro v h' tk hv hk
    have hk' : ∀ b o, b ≠ I → b ≠ S → s.heap.get? b = some o → h'.get? b = some o := fun b o h1 h2 e => hk b o (by simpa using h1) h2 (up _ _ _ _ (hS1 ▸ up _ _ _ _ e))
    obtain ⟨a, l, n, rfl, hm, hl'⟩ := hys.at (by simpa using hv)
    have hlen := hys.length
    refine h h' tk a (l.map (·.1)) ⟨l, n, hm, rfl⟩ (List.mem_of_getElem? hl') ?_ ⟨Fx.ns.at' fun o e => hk' _ o hadr₀.2.2.1 hadr₀.2.2.2 e, fun b o e => hk' b o (fun z => by rw [z, hadr₀.1] at e; cases e) (fun z => by rw [z, hadr₀.2.1] at e; cases e) (Fx.keep b o e), Fx.above⟩ ?_
    · have best := argBest_least (n := ys.toArray.size) (fun i j => (ltL (lls[j]?.getD []) (lls[i]?.getD []))) (fun i => by simp [ltL_irrefl]) (fun i j k h1 h2 => ltL_trans (zs := _) h2 h1) (ys.toArray.size - 1)
      intro x hx
      obtain ⟨i, hi, rfl⟩ := List.mem_iff_getElem.mp hx
      have b1 := best i (by rw [List.size_toArray, hlen]; omega)
      try dsimp only at b1
      rw [List.size_toArray, hl'] at b1
      simpa [hi] using b1
    · intro p hp
      exact ⟨hk' _ _ (hadr p hp).1 (hadr p hp).2 (N p hp).1, (N p hp).2⟩
end
end
section
open PySem PySem.W PyProof.Rows PySem.Calls PyProof.Rows.LCg
set_option Elab.async false
set_option maxRecDepth 100000
set_option maxHeartbeats 4000000
section
variable {prog : Program} {w : World} {A : Around} {E : Value → Shared → Prop} {s s₂ : Shared} {h₀ : Heap} {L : Addr} {m : Str → Option Value} {env : Env}
/-- a try whose body raises nothing -/
theorem tryQuiet {body orelse : List Stmt} {hd : ExceptHandler} {hs : List ExceptHandler} {pos : Pos} {Q : Flow → Shared → Prop}
    (h : wpAny (model prog w) A (execs body env) (fun f s₁ => match f with | .next => wpAny (model prog w) A (execs orelse env) Q E s₁ | f => Q f s₁) (fun _ _ => False) s) :
    wpAny (model prog w) A (exec (.Try body (hd :: hs) orelse [] pos) env) Q E s :=
  wpAny_Try_except (wpAny_mono h (fun _ _ q => q) fun _ _ f => f.elim)
/-- the source of a comprehension, held back from the walk -/
def SrcC (prog : Program) (w : World) (A : Around) (h₀ : Heap) (L : Addr) (env : Env) (elt : Expr) (x : Str) (ifs : List Expr) (scope : Scope) (cl : List (Str × Addr))
    (Fin : (Str → Option Value) → Shared → Array GenState → List Value → List (Addr × Obj) → Prop) (E : Value → Shared → Prop) (xv : Value) (s₁ : Shared) : Prop :=
  wpAny (model prog w) A (pyIter xv) (CompAt prog w A h₀ L env elt x ifs scope cl Fin) E s₁
theorem listCompS {elt iter : Expr} {x : Str} {px : Pos} {ifs : List Expr} {scope : Scope} {cl : List (Str × Addr)} {pos : Pos} {Q : Value → Shared → Prop} (F₀ : Fr h₀ L s.heap m)
    (hclos : closureFor scope env = pure cl) (hcell : ∀ y ∈ scope.names, y.2 ≠ .cell) (hkind : scope.kind = .function)
    (hnames : ∀ y ∈ scope.names, y.2 = .local → scope.names.lookup y.1 = some .local) (hx : scope.names.lookup x = some .local)
    (h : wpAny (model prog w) A (eval iter env) (SrcC prog w A h₀ L env elt x ifs scope cl (FinE' h₀ L Q) E) E s)
    (hs : ∀ x, foldedSetIterable iter env x = pure x := by intro _; rfl) :
    wpAny (model prog w) A (eval (.ListComp elt [⟨.Name x px, iter, ifs, 0⟩] scope pos) env) Q E s := listComp F₀ hclos hcell hkind hnames hx h hs
theorem assignListCompS {elt iter : Expr} {x y : Str} {px py : Pos} {ifs : List Expr} {scope : Scope} {cl : List (Str × Addr)} {pos spos : Pos} {Q : Flow → Shared → Prop} (F₀ : Fr h₀ L s.heap m) (hLe : env.locals = L)
    (hsw : swapsWith (.ListComp elt [⟨.Name x px, iter, ifs, 0⟩] scope pos) (some (.Name y py)) spos.line env = pure true)
    (hclos : closureFor scope env = pure cl) (hcell : ∀ z ∈ scope.names, z.2 ≠ .cell) (hkind : scope.kind = .function)
    (hnames : ∀ z ∈ scope.names, z.2 = .local → scope.names.lookup z.1 = some .local) (hx : scope.names.lookup x = some .local)
    (hy : env.kindOf y = some .local) (hp : (env.scope.kind == .class || (env.scope.kind == .module && env.locals != env.globals)) = false)
    (h : wpAny (model prog w) A (eval iter env) (SrcC prog w A h₀ L env elt x ifs scope cl (FinA' h₀ L y Q) E) E s)
    (hs : ∀ x, foldedSetIterable iter env x = pure x := by intro _; rfl) :
    wpAny (model prog w) A (exec (.Assign [.Name y py] (.ListComp elt [⟨.Name x px, iter, ifs, 0⟩] scope pos) spos) env) Q E s := assignListComp F₀ hLe hsw hclos hcell hkind hnames hx hy hp h hs
/-- without a test -/
theorem turnsPlain {elt : Expr} {x : Str} {scope : Scope} {cl : List (Str × Addr)} {G : Array GenState → Prop} {P : Nat → Value → Prop} {Inv : Nat → List Value → List (Addr × Obj) → Prop}
    (h : ∀ i v ys news I oI C oC D m₂ h tk gn (E' : Value → Shared → Prop), P i v → Inv i ys news → NsObj oC m₂ → m₂ x = some v → Fr h₀ L h m → News h₀ L h ((I, oI) :: (C, oC) :: (D, lst ys) :: news) → Off3 I C D news → ((@Ne Nat I C) ∧ (@Ne Nat I D) ∧ (@Ne Nat C D)) → G gn →
      wpAny (model prog w) A (eval elt (compEnvC scope cl C env)) (TurnEnd h₀ L m G { s₂ with heap := h, toks := tk, gens := gn } I oI C oC D (lst ys) (fun y news' => Inv (i + 1) (ys ++ [y]) news')) E' { s₂ with heap := h, toks := tk, gens := gn }) :
    Turns prog w A h₀ L m env elt x [] scope cl s₂ G P Inv := by
  intro i v ys news I oI C oC D m₂ g tk gn E' hP hI hC hx F N off ne hG
  refine wpAny_tests_nil ?_
  simp only [if_true]
  exact h i v ys news I oI C oC D m₂ g tk gn E' hP hI hC hx F N off ne hG
/-- with one test -/
theorem turnsTest {ct elt : Expr} {x : Str} {scope : Scope} {cl : List (Str × Addr)} {G : Array GenState → Prop} {P : Nat → Value → Prop} {Inv : Nat → List Value → List (Addr × Obj) → Prop}
    (h : ∀ i v ys news I oI C oC D m₂ h tk gn (E' : Value → Shared → Prop), P i v → Inv i ys news → NsObj oC m₂ → m₂ x = some v → Fr h₀ L h m → News h₀ L h ((I, oI) :: (C, oC) :: (D, lst ys) :: news) → Off3 I C D news → ((@Ne Nat I C) ∧ (@Ne Nat I D) ∧ (@Ne Nat C D)) → G gn →
      wpAny (model prog w) A (isTrue ct (compEnvC scope cl C env) (eval ct (compEnvC scope cl C env))) (fun ok s' => if ok = true then
        wpAny (model prog w) A (eval elt (compEnvC scope cl C env)) (TurnEnd h₀ L m G { s₂ with heap := h, toks := tk, gens := gn } I oI C oC D (lst ys) (fun y news' => Inv (i + 1) (ys ++ [y]) news')) E' s'
        else TurnEnd h₀ L m G { s₂ with heap := h, toks := tk, gens := gn } I oI C oC D (lst ys) (fun _ news' => Inv (i + 1) ys news') Value.none s') E' { s₂ with heap := h, toks := tk, gens := gn }) :
    Turns prog w A h₀ L m env elt x [ct] scope cl s₂ G P Inv := by
  intro i v ys news I oI C oC D m₂ g tk gn E' hP hI hC hx F N off ne hG
  exact wpAny_tests_one (h i v ys news I oI C oC D m₂ g tk gn E' hP hI hC hx F N off ne hG)
theorem off3_cons {I C D a : Addr} {o : Obj} {l : List (Addr × Obj)} (h : (a : Nat) ≠ I ∧ (a : Nat) ≠ C ∧ (a : Nat) ≠ D) (r : Off3 I C D l) : Off3 I C D ((a, o) :: l) := ⟨h, r⟩
/-- what lies above a ledger's first three lies off them -/
theorem off3_above {I C D a : Addr} {oI oC oD o : Obj} {l l' : List (Addr × Obj)} (h : ∀ p ∈ (I, oI) :: (C, oC) :: (D, oD) :: l', p.1 < a) (r : Off3 I C D l) : Off3 I C D ((a, o) :: l) :=
  ⟨⟨Nat.ne_of_gt (h _ (.head _)), Nat.ne_of_gt (h _ (.tail _ (.head _))), Nat.ne_of_gt (h _ (.tail _ (.tail _ (.head _))))⟩, r⟩
end
end
section
open PySem PySem.W PyProof.Rows PySem.Calls PyProof.Rows.LCg
set_option Elab.async false
set_option maxRecDepth 100000
set_option maxHeartbeats 4000000
section
variable {prog : Program} {w : World} {A : Around} {E : Value → Shared → Prop} {s s₂ : Shared} {h₀ : Heap} {L : Addr} {m : Str → Option Value} {env : Env}
  {elt : Expr} {x : Str} {ifs : List Expr} {scope : Scope} {cl : List (Str × Addr)} {news : List (Addr × Obj)} {Fin : (Str → Option Value) → Shared → Array GenState → List Value → List (Addr × Obj) → Prop}
/-- the invariants with the old ledger kept -/
def KeepJ (news : List (Addr × Obj)) (J : Nat → List Value → List (Addr × Obj) → Prop) (i : Nat) (ys : List Value) (nw : List (Addr × Obj)) : Prop := (∀ p ∈ news, p ∈ nw) ∧ J i ys nw
theorem srcTuple {ax : Addr} {vs : List Value} {nn : Nat} (G : Array GenState → Prop) (J : Nat → List Value → List (Addr × Obj) → Prop)
    (hh : A.handled = none) (F : Fr h₀ L s.heap m) (N : News h₀ L s.heap news) (hm : (ax, ({ cls := .type "tuple", data := .seq vs.toArray nn } : Obj)) ∈ news) (hsz : vs.length ≤ 100000) (hG : G s.gens) (h0 : J 0 [] news)
    (T : ∀ g, Turns prog w A h₀ L m env elt x ifs scope cl { s with heap := g } G (fun i v => vs[i]? = some v) (KeepJ news J))
    (fin : ∀ g gn ys news', G gn → ys.length ≤ vs.length → (∀ p ∈ news, p ∈ news') → J vs.length ys news' → Fin m { s with heap := g } gn ys news') :
    SrcC prog w A h₀ L env elt x ifs scope cl Fin E (.ref ax) s :=
  compAt_tuple G (KeepJ news J) hh F N hm hsz hG ⟨fun _ h => h, h0⟩ (fun _ _ _ h => h.1 _ hm) T fun g gn ys n' a b c => fin g gn ys n' a b c.1 c.2
theorem srcList {ax : Addr} {vs : List Value} {nn : Nat} (G : Array GenState → Prop) (J : Nat → List Value → List (Addr × Obj) → Prop)
    (hh : A.handled = none) (F : Fr h₀ L s.heap m) (N : News h₀ L s.heap news) (hm : (ax, listOf vs.toArray nn) ∈ news) (hsz : vs.length ≤ 100000) (hG : G s.gens) (h0 : J 0 [] news)
    (T : ∀ g, Turns prog w A h₀ L m env elt x ifs scope cl { s with heap := g } G (fun i v => vs[i]? = some v) (KeepJ news J))
    (fin : ∀ g gn ys news', G gn → ys.length ≤ vs.length → (∀ p ∈ news, p ∈ news') → J vs.length ys news' → Fin m { s with heap := g } gn ys news') :
    SrcC prog w A h₀ L env elt x ifs scope cl Fin E (.ref ax) s :=
  compAt_list G (KeepJ news J) hh F N hm hsz hG ⟨fun _ h => h, h0⟩ (fun _ _ _ h => h.1 _ hm) T fun g gn ys n' a b c => fin g gn ys n' a b c.1 c.2
theorem srcRange {r : Addr} {a b : Int} {t u v : Tok} {n : Nat} (G : Array GenState → Prop) (J : Nat → List Value → List (Addr × Obj) → Prop)
    (hh : A.handled = none) (F : Fr h₀ L s.heap m) (N : News h₀ L s.heap news) (hr : IsRange s.heap r a b 1 t u v) (hsm : Builtin.Range.small a b 1 = true) (hn : Builtin.Range.rangeSize a b 1 = ((n : Nat) : Int)) (hsz : n ≤ 100000) (hG : G s.gens) (h0 : J 0 [] news)
    (T : ∀ g, Turns prog w A h₀ L m env elt x ifs scope cl { s with heap := g } G (fun i v => i < n ∧ ∃ t, v = .int (a + (i : Int)) t) (KeepJ news J))
    (fin : ∀ g gn ys news', G gn → ys.length ≤ n → (∀ p ∈ news, p ∈ news') → J n ys news' → Fin m { s with heap := g } gn ys news') :
    SrcC prog w A h₀ L env elt x ifs scope cl Fin E (.ref r) s :=
  compAt_range G (KeepJ news J) hh F N hr hsm hn hsz hG ⟨fun _ h => h, h0⟩ T fun g gn ys n' a b c => fin g gn ys n' a b c.1 c.2
theorem newsIns1 {h : Heap} {x b1 b2 b3 : Addr × Obj} {r nw : List (Addr × Obj)} (N : News h₀ L h (x :: nw)) (hs : ∀ p ∈ b1 :: b2 :: b3 :: r, p ∈ nw) : News h₀ L h (x :: b1 :: b2 :: b3 :: nw) := by
  intro p hp
  simp only [List.mem_cons] at hp
  rcases hp with rfl | rfl | rfl | rfl | hp
  · exact N _ (by simp)
  · exact N _ (by simp [hs])
  · exact N _ (by simp [hs])
  · exact N _ (by simp [hs])
  · exact N _ (by simp [hp])
theorem newsIns3 {h : Heap} {x y z b1 b2 b3 : Addr × Obj} {r nw : List (Addr × Obj)} (N : News h₀ L h (x :: y :: z :: nw)) (hs : ∀ p ∈ b1 :: b2 :: b3 :: r, p ∈ nw) : News h₀ L h (x :: y :: z :: b1 :: b2 :: b3 :: nw) := by
  intro p hp
  simp only [List.mem_cons] at hp
  rcases hp with rfl | rfl | rfl | rfl | rfl | rfl | hp
  · exact N _ (by simp)
  · exact N _ (by simp)
  · exact N _ (by simp)
  · exact N _ (by simp [hs])
  · exact N _ (by simp [hs])
  · exact N _ (by simp [hs])
  · exact N _ (by simp [hp])
theorem frNew {h h' : Heap} (F : Fr h₀ L h m) (x : Heap.ExtBut h.objs.size h h') : Fr h₀ L h' m := F.keeps fun b o e => x b o (Nat.ne_of_lt (Heap.lt_size e)) e
theorem newsNew {h h' : Heap} (N : News h₀ L h news) (x : Heap.ExtBut h.objs.size h h') : News h₀ L h' news := N.grown fun b o e => x b o (Nat.ne_of_lt (Heap.lt_size e)) e
theorem off1_mem {D : Addr} : ∀ {l : List (Addr × Obj)}, Off1 D l → ∀ p ∈ l, p.1 ≠ D
  | [], _, _, h => nomatch h
  | _ :: _, x, p, h => by
    rcases List.mem_cons.mp h with rfl | h
    · exact x.1
    · exact off1_mem x.2 p h
theorem newsAdd {h : Heap} {base nw : List (Addr × Obj)} (N : News h₀ L h nw) (hs : ∀ p ∈ base, p ∈ nw) : News h₀ L h (base ++ nw) := fun p hp => (List.mem_append.mp hp).elim (fun q => N p (hs p q)) (N p)
/-- the components that commonpath keeps -/
def keepC (c : Str) : Bool := decide (c.length ≠ 0) && decide (c ≠ Str.ofString ".")
theorem keep_no {cs : List Str} {j : Nat} {c : Str} (h : cs[j]? = some c) (hk : keepC c = false) : (cs.take (j + 1)).filter keepC = (cs.take j).filter keepC := by
  rw [List.take_add_one, h, List.filter_append]; simp [hk]
theorem keep_yes {cs : List Str} {j : Nat} {c : Str} (h : cs[j]? = some c) (hk : keepC c = true) : (cs.take (j + 1)).filter keepC = (cs.take j).filter keepC ++ [c] := by
  rw [List.take_add_one, h, List.filter_append]; simp [hk]
theorem keep_t {c : Str} (h1 : (c.length : Int) ≠ 0) (h2 : (c != Str.ofString ".") = true) : keepC c = true := by
  have a1 : c.length ≠ 0 := by omega
  have a2 : c ≠ Str.ofString "." := by simpa using h2
  simp [keepC, a1, a2]
theorem keep_f1 {c : Str} (h2 : (c != Str.ofString ".") = false) : keepC c = false := by
  have a2 : c = Str.ofString "." := by simpa using h2
  simp [keepC, a2]
theorem keep_f0 {c : Str} (h1 : (c.length : Int) = 0) : keepC c = false := by
  have a1 : c.length = 0 := by omega
  simp [keepC, a1]
theorem ltL_take : ∀ (xs : List Str) (i : Nat), i < xs.length → ltL (xs.take i) xs = true
  | [], i, h => by simp at h
  | x :: xs, 0, _ => by simp [ltL]
  | x :: xs, i + 1, h => by simp only [List.take_succ_cons, ltL, if_true]; exact ltL_take xs i (by simpa using h)
/-- the lists have a sign at the place where the lesser has one -/
theorem ltL_room {xs ys : List Str} {i : Nat} (he : xs.take i = ys.take i) (hi : i < xs.length) (h : ltL ys xs = false) : i < ys.length := by
  rcases Nat.lt_or_ge i ys.length with q | q
  · exact q
  · rw [List.take_of_length_le q] at he
    have := ltL_take xs i hi
    rw [he, h] at this; cases this
theorem frMap {h : Heap} (F : Fr h₀ L h m) : ∃ m0, m0 = m ∧ Fr h₀ L h m0 := ⟨m, rfl, F⟩
theorem itemAt {D : Addr} {value slice : Expr} {l : List (Str × Tok)} {n i : Nat} {u : Tok} {Q : Value → Shared → Prop} (N : News h₀ L s.heap news) (hm : (D, listOf (strValues l).toArray n) ∈ news) (hi : i < l.length) (hz : l.length ≤ 100000) (h : Q (.str l[i].1 l[i].2) s)
    (hs : subscripted slice false (.ref D) (.int i u) = operate [.ref D, .int i u] (getItem (.ref D) (.int i u)) := by with_unfolding_all rfl) :
    wpAny (model prog w) A (subscriptTail value slice (.ref D) (.int i u)) Q E s := by
  have hl : s.heap.IsList D (strValues l).toArray := ⟨_, (N _ hm).1, rfl, n, rfl⟩
  refine subscriptTail_builtinR hl.typeIs slot_list_getitem.lookup (wpAny_getItem_list (Q := fun r s' => r = .str l[i].1 l[i].2 ∧ Q r s') (k := (i : Int)) (x := .str l[i].1 l[i].2) hl (Int.natCast_nonneg i) (by omega) (by simp [strValues, hi]) ⟨rfl, h⟩) hs
theorem freshFrom {h : Heap} {b : Addr} (F : Fr h₀ L h m) (hb : h.objs.size ≤ b) : h₀.get? b = none ∧ b ≠ L := by
  refine ⟨?_, Ne.symm (Nat.ne_of_lt (Nat.lt_of_lt_of_le F.ns.lt hb))⟩
  cases e : h₀.get? b with
  | none => rfl
  | some o => exact absurd (Heap.lt_size (F.keep b o e)) (Nat.not_lt.mpr hb)
theorem newsBelow {h : Heap} {b : Addr} (N : News h₀ L h news) (hb : h.objs.size ≤ b) : ∀ p ∈ news, p.1 ≠ b := fun p hp => Nat.ne_of_lt (Nat.lt_of_lt_of_le (Heap.lt_size (N p hp).1) hb)
theorem sliceUpto {D : Addr} {value slice : Expr} {vs : List Value} {n i : Nat} {u : Tok} {Q : Value → Shared → Prop} (F : Fr h₀ L s.heap m) (N : News h₀ L s.heap news) (hm : (D, listOf vs.toArray n) ∈ news) (hz : vs.length ≤ 100000)
    (h : ∀ h', Fr h₀ L h' m → News h₀ L h' ((s.heap.objs.size + 1, listOf (vs.take i).toArray 0) :: news) → (∀ p ∈ news, p.1 < s.heap.objs.size + 1) → Q (.ref (s.heap.objs.size + 1)) { s with heap := h' })
    (hs : subscripted slice false (.ref D) (.ref s.heap.objs.size) = operate [.ref s.heap.objs.size, .ref D] (getItem (.ref D) (.ref s.heap.objs.size)) := by with_unfolding_all rfl)
    (ht : ∀ r, letTemporaryGo value (.ref D) r = pure () := by intro _; with_unfolding_all rfl) :
    wpAny (model prog w) A (subscriptTail value slice (.ref D) (.ref s.heap.objs.size)) Q E { s with heap := s.heap.push { cls := .type "slice", data := .fields #[.none, .int i u, .none] } } := by
  have hl : s.heap.IsList D vs.toArray := ⟨_, (N _ hm).1, rfl, n, rfl⟩
  refine slice_list (hsz := by rw [List.size_toArray, sizeLine_eq]; omega) F N hl .none (.int i u) (fun h' F' N' => ?_) hs ht
  rw [slicePick_upto' vs.toArray i] at N'
  exact h h' F' N' fun p hp => Nat.lt_succ_of_lt (Heap.lt_size (N p hp).1)
theorem sliceRun {D : Addr} {value slice : Expr} {vs : List Value} {n a b : Nat} {u u' : Tok} {Q : Value → Shared → Prop} (F : Fr h₀ L s.heap m) (N : News h₀ L s.heap news) (hm : (D, listOf vs.toArray n) ∈ news) (hz : vs.length ≤ 100000) (hab : a ≤ b) (hb : b ≤ vs.length)
    (h : ∀ h', Fr h₀ L h' m → News h₀ L h' ((s.heap.objs.size + 1, listOf ((vs.drop a).take (b - a)).toArray 0) :: news) → (∀ p ∈ news, p.1 < s.heap.objs.size + 1) → Q (.ref (s.heap.objs.size + 1)) { s with heap := h' })
    (hs : subscripted slice false (.ref D) (.ref s.heap.objs.size) = operate [.ref s.heap.objs.size, .ref D] (getItem (.ref D) (.ref s.heap.objs.size)) := by with_unfolding_all rfl)
    (ht : ∀ r, letTemporaryGo value (.ref D) r = pure () := by intro _; with_unfolding_all rfl) :
    wpAny (model prog w) A (subscriptTail value slice (.ref D) (.ref s.heap.objs.size)) Q E { s with heap := s.heap.push { cls := .type "slice", data := .fields #[.int a u, .int b u', .none] } } := by
  have hl : s.heap.IsList D vs.toArray := ⟨_, (N _ hm).1, rfl, n, rfl⟩
  refine slice_list (hsz := by rw [List.size_toArray, sizeLine_eq]; omega) F N hl (.int a u) (.int b u') (fun h' F' N' => ?_) hs ht
  rw [slicePick_run vs.toArray a b (by simpa using hb) hab] at N'
  exact h h' F' N' fun p hp => Nat.lt_succ_of_lt (Heap.lt_size (N p hp).1)
/-- the longest common beginning -/
def lcpL : List Str → List Str → List Str
  | x :: xs, y :: ys => if x = y then x :: lcpL xs ys else []
  | _, _ => []
theorem lcp_break : ∀ {xs ys : List Str} {i : Nat} {x y : Str}, xs.take i = ys.take i → xs[i]? = some x → ys[i]? = some y → x ≠ y → lcpL xs ys = xs.take i
  | x :: xs, y :: ys, 0, a, b, _, h1, h2, h3 => by
    simp at h1 h2; subst h1 h2
    simp [lcpL, h3]
  | x :: xs, y :: ys, i + 1, a, b, h, h1, h2, h3 => by
    simp only [List.take_succ_cons, List.cons.injEq] at h
    simp only [List.getElem?_cons_succ] at h1 h2
    rw [lcpL, if_pos h.1, lcp_break h.2 h1 h2 h3, List.take_succ_cons]
  | [], _, i, a, b, _, h1, _, _ => by simp at h1
  | _ :: _, [], i, a, b, _, _, h2, _ => by simp at h2
theorem lcp_whole : ∀ {xs ys : List Str}, xs = ys.take xs.length → lcpL xs ys = xs
  | [], _, _ => rfl
  | x :: xs, [], h => by simp at h
  | x :: xs, y :: ys, h => by
    simp only [List.length_cons, List.take_succ_cons, List.cons.injEq] at h
    rw [lcpL, if_pos h.1, lcp_whole h.2]
theorem step_eq {xs ys : List Str} {i : Nat} {x y : Str} (h : xs.take i = ys.take i) (h1 : xs[i]? = some x) (h2 : ys[i]? = some y) (e : x = y) : xs.take (i + 1) = ys.take (i + 1) := by
  rw [List.take_add_one, List.take_add_one, h, h1, h2, e]
theorem fits_of {xs : List Str} (h1 : xs.length ≤ 1001) (h2 : ∀ c ∈ xs, c.length ≤ 1000) : Fits (Str.ofString "/") xs := by
  refine ⟨?_, by decide +kernel⟩
  have : ∀ (ys : List Str), (∀ y ∈ ys, y.length ≤ 1000) → (ys.map (·.length)).sum ≤ 1000 * ys.length := by
    intro ys
    induction ys with
    | nil => simp
    | cons y r ih =>
      intro h
      have h1 := h y (.head _)
      have h2 := ih fun z hz => h z (.tail _ hz)
      simp only [List.map_cons, List.sum_cons, List.length_cons]
      omega
  have := this xs h2
  omega
theorem strsAre_at : ∀ {vs : List Value} {xs : List Str}, StrsAre vs xs → ∀ {i : Nat} {v : Value}, vs[i]? = some v → ∃ x t, v = .str x t ∧ xs[i]? = some x
  | _, _, .nil, i, v, h => by simp at h
  | _, _, .cons y t r, 0, v, h => by simp at h; exact ⟨y, t, h.symm, rfl⟩
  | _, _, .cons y t r, i + 1, v, h => by simp at h; simpa using strsAre_at r h
end
end
section
open PySem PySem.W PyProof.Rows PySem.Calls PyProof.Rows.LCg
set_option Elab.async false
set_option maxRecDepth 100000
set_option maxHeartbeats 4000000
def ledOf (w : World) : Bool := !(w.params.followText "set-order")
def tab0 (led : Bool) : SetTable := .fresh 0 0 led
def tab1 (led : Bool) : SetTable := { mask := 7, place := #[1], dummies := #[], finger := 0, led := led, moves := 0, plain := true }
/-- an empty set, and the set of True alone -/
def set0 (w : World) : Obj := { cls := .type "set", dict := none, data := .set #[] 0 (tab0 (ledOf w)) }
def set1 (w : World) : Obj := { cls := .type "set", dict := none, data := .set #[(1, .bool true)] 1 (tab1 (ledOf w)) }
section
variable {prog : Program} {w : World} {A : Around} {E : Value → Shared → Prop} {s : Shared} {a : Addr}
theorem newSetB {Q : Value → Shared → Prop} (h : Q (.ref s.heap.objs.size) { s with heap := s.heap.push (set0 w) }) : wpAny (model prog w) A (newSet (.type "set")) Q E s := by
  unfold newSet setsByText
  refine wpAny_bind (wpAny_bind (wpAny_askSetting (wpAny_pure ?_)))
  dsimp only
  simp only [newObj]
  exact wpAny_bind (wpAny_alloc (wpAny_pure h))
theorem hashTrue {Q : Int → Shared → Prop} (h : Q 1 { s with toks := s.toks + 1 }) : wpAny (model prog w) A (pyHash (.bool true)) Q E s := by
  refine pyHash_slot (T := "bool") rfl F.slot_bool_hash entry_int_hash (args_int_hash _) (beq_builtin_none _) (.inl rfl) ?_
  exact (show wpAny _ _ (do ret (← mkInt 1)) _ _ s from wpAny_bind (wpAny_mkInt (wpAny_pure ⟨_, _, rfl, h⟩)))
theorem lay_first (led : Bool) : layNew (tab0 led) #[] 1 (.bool true) = (#[(1, .bool true)], tab1 led, false, false) := by cases led <;> rfl
theorem addFirst {Q : Value → Shared → Prop} (ho : s.heap.get? a = some (set0 w)) (h : ∀ h', Heap.SameBut a s.heap h' → h'.get? a = some (set1 w) → Q .none { s with heap := h', toks := s.toks + 1 }) :
    wpAny (model prog w) A (call (.builtin "set.add") [.ref a, .bool true]) Q E s := by
  refine wpAny_call_entry F.slot_set_add ⟨_, ho, rfl⟩ F.entry_set_add ?_ (F.args_set_add_2 _ _)
  unfold Builtin.«set.add» Builtin.Frozenset.oneOther
  simp only [List.isEmpty_nil, bind_assoc]
  unfold Builtin.Frozenset.addrOf setAdd
  refine wpAny_bind (wpAny_pure ?_)
  try dsimp only
  refine wpAny_bind (wpAny_pure ?_)
  try dsimp only
  refine wpAny_bind ?_
  refine wpAny_holding ?_
  refine wpAny_bind (hashTrue ?_)
  unfold setAddHashed setAddHashedIn
  refine wpAny_holding (wpAny_bind (wpAny_setState_of ho rfl rfl ?_))
  dsimp only
  rw [show byScan (.bool true) #[] = true by simp [byScan, Value.scannable, scanBound]]
  simp only [↓reduceIte]
  unfold setAddByScan
  refine wpAny_bind (wpAny_bind (wpAny_rule (wpAny_bind ?_)))
  show wpAny _ _ (pure ScanMet.absent) _ _ _
  refine wpAny_pure ?_
  dsimp only
  rw [lay_first]
  dsimp only
  refine wpAny_bind (wpAny_pure ?_)
  show wpAny _ _ (hashByValue 8 (.bool true) >>= _) _ _ _
  rw [hashByValue_scannable 8 rfl]
  refine wpAny_bind (wpAny_pure ?_)
  refine wpAny_bind (wpAny_storeSet_of ho rfl ?_ (by rw [sizeLine_eq]; exact Nat.le_of_ble_eq_true rfl))
  show wpAny _ _ (pure (some true)) _ _ _
  refine wpAny_pure (wpAny_pure ?_)
  show wpAny _ _ (ret Value.none) _ _ _
  have hg : (s.heap.update a (Obj.putSet #[(1, .bool true)] (tab1 (ledOf w)))).get? a = some (set1 w) := by
    have := Heap.get?_update_self (Obj.putSet #[(1, .bool true)] (tab1 (ledOf w))) ho (by rfl)
    exact this
  exact wpAny_pure ⟨_, rfl, h _ (Heap.SameBut.update s.heap a _) hg⟩
theorem addAgain {Q : Value → Shared → Prop} (ho : s.heap.get? a = some (set1 w)) (h : Q .none { s with toks := s.toks + 1 }) :
    wpAny (model prog w) A (call (.builtin "set.add") [.ref a, .bool true]) Q E s := by
  refine wpAny_call_entry F.slot_set_add ⟨_, ho, rfl⟩ F.entry_set_add ?_ (F.args_set_add_2 _ _)
  unfold Builtin.«set.add» Builtin.Frozenset.oneOther
  simp only [List.isEmpty_nil, bind_assoc]
  unfold Builtin.Frozenset.addrOf setAdd
  refine wpAny_bind (wpAny_pure ?_)
  try dsimp only
  refine wpAny_bind (wpAny_pure ?_)
  try dsimp only
  refine wpAny_bind ?_
  refine wpAny_holding ?_
  refine wpAny_bind (hashTrue ?_)
  unfold setAddHashed setAddHashedIn
  refine wpAny_holding (wpAny_bind (wpAny_setState_of ho rfl rfl ?_))
  dsimp only
  rw [show byScan (.bool true) #[(1, .bool true)] = true by simp [byScan, Value.scannable, scanBound]]
  simp only [↓reduceIte]
  unfold setAddByScan
  refine wpAny_bind (wpAny_bind (wpAny_rule (wpAny_bind ?_)))
  show wpAny _ _ (setScanFrom a (.bool true) 1 true [(1, .bool true)] 0) _ _ _
  unfold setScanFrom
  simp only [beq_self_eq_true, if_true]
  refine wpAny_bind (wpAny_setEpoch_of ho rfl rfl ?_)
  unfold eqBool
  refine wpAny_bind (wpAny_holding ?_)
  rw [if_pos (by rfl)]
  refine wpAny_bind (wpAny_rule (wpAny_pure ?_))
  simp only [Bool.and_self, if_true]
  refine wpAny_pure ?_
  dsimp only
  refine wpAny_pure (wpAny_pure ?_)
  show wpAny _ _ (ret Value.none) _ _ _
  exact wpAny_pure ⟨_, rfl, h⟩
end
theorem slot_setit_next : Slot "set_iterator" "__next__" "set_iterator.__next__" :=
  .of (owner := "set_iterator") (n := "__next__") (by rw [typeLookup_type, builtinLookup_eq_fast]; kernel_rfl) (by decide +kernel) (by decide +kernel) (by decide +kernel)
    (by first | exact .inl (by decide +kernel) | exact .inr (by decide +kernel)) (by rw [isSubtype_type]; kernel_rfl)
theorem entry_setit_next : entryFor table "set_iterator.__next__" = some Builtin.«set_iterator.__next__» := entryFor_of_tree (by kernel_rfl)
theorem args_setit_next (a : Value) : argsOk "set_iterator.__next__" ⟨[a], []⟩ := by unfold argsOk; kernel_rfl
theorem entry_set_iter : entryFor table "set.__iter__" = some Builtin.«frozenset.__iter__» :=
  entryFor_alias (id' := "frozenset.__iter__") (by kernel_rfl) (by first | rfl | decide +kernel | (unfold String.splitOn; simp +decide [String.splitOnAux])) (by decide +kernel) (by kernel_rfl)
section
variable {prog : Program} {w : World} {A : Around} {E : Value → Shared → Prop} {s : Shared} {a I : Addr}
/-- an iterator over the set of True: ahead of it (n = 0), behind it (n = 1) -/
def setIt (a : Addr) (slot n : Int) : Obj := { cls := .type "set_iterator", data := .fields #[.int slot 0, .int n 0, .ref a, .int 1 0, .int 1 0] }
theorem iterSet {Q : Value → Shared → Prop} (ho : s.heap.get? a = some (set1 w)) (h : Q (.ref s.heap.objs.size) { s with heap := s.heap.push (setIt a 0 0) }) :
    wpAny (model prog w) A (pyIter (.ref a)) Q E s := by
  have hT : s.TypeIs (.ref a) "set" := ⟨_, ho, rfl⟩
  refine wpAny_pyIter_slot hT F.slot_set_iter (wpAny_call_entry F.slot_set_iter hT entry_set_iter ?_ (F.args_set_iter_1 _))
  unfold Builtin.«frozenset.__iter__» Builtin.Frozenset.slot0 slotArgs
  simp only [List.isEmpty_nil, Bool.not_true, Bool.false_eq_true, ↓reduceIte, bind_assoc, List.length_nil, bne_self_eq_false]
  unfold Builtin.Frozenset.addrOf Builtin.Frozenset.sizeOf
  refine wpAny_bind (wpAny_pure ?_)
  try dsimp only
  refine wpAny_bind (wpAny_pure ?_)
  refine wpAny_bind (wpAny_bind (wpAny_setEntries_of ho rfl rfl (wpAny_pure ?_)))
  unfold setDrawn
  refine wpAny_bind (wpAny_bind (wpAny_setState_of ho rfl rfl ?_))
  unfold setsByText
  refine wpAny_bind (wpAny_bind (wpAny_askSetting (wpAny_pure ?_)))
  refine wpAny_of_eq (a := false) (congrArg pure (by show (!(w.params.followText "set-order") && _) = false; generalize w.params.followText "set-order" = b; cases b <;> rfl)) ?_
  simp only [Bool.false_eq_true, if_false]
  refine wpAny_bind (wpAny_pure ?_)
  refine wpAny_bind (m := setEpoch a) (wpAny_setEpoch_of ho rfl rfl ?_)
  simp only [newFields]
  refine wpAny_bind (wpAny_newObj_type ?_)
  exact wpAny_pure ⟨_, rfl, "set_iterator", _, ⟨_, Heap.get?_push_size _ rfl, rfl⟩, slot_setit_next.lookup, h⟩
theorem pick_one (f : Nat → Nat) (x : Int × Value) : pickOrder f #[x] = #[x] := by
  simp [pickOrder, pickOrder.go, Nat.mod_one]
theorem walk_set {Q : Array (Int × Value) → Shared → Prop} (ho : s.heap.get? a = some (set1 w)) (hb : w.params.followText "set-order" = true) (h : Q #[(1, .bool true)] s) : wpAny (model prog w) A (setWalk a) Q E s := by
  unfold setWalk
  refine wpAny_bind (wpAny_setState_of ho rfl rfl ?_)
  unfold setsByText
  refine wpAny_bind (wpAny_bind (wpAny_askSetting (wpAny_pure ?_)))
  show wpAny _ _ (if (w.params.followText "set-order") = true then _ else _) _ _ _
  rw [hb, if_pos rfl]
  refine wpAny_bind (wpAny_askSetting ?_)
  dsimp only
  rw [pick_one]
  exact wpAny_pure h
theorem setNext_first {Q : Option (Value × Nat) → Shared → Prop} (ho : s.heap.get? a = some (set1 w)) (h : ∀ sl : Nat, (w.params.followText "set-order" = true ∨ sl = 2) → Q (some (.bool true, sl)) s) :
    wpAny (model prog w) A (setNext a (Int.toNat 0) (Int.toNat 0) (Int.toNat 1)) Q E s := by
  unfold setNext
  refine wpAny_bind (wpAny_setState_of ho rfl rfl ?_)
  unfold setsByText
  refine wpAny_bind (wpAny_bind (wpAny_askSetting (wpAny_pure ?_)))
  show wpAny _ _ (if (w.params.followText "set-order") = true then _ else _) _ _ _
  cases hb : w.params.followText "set-order" with
  | true =>
    rw [if_pos rfl, if_neg (by decide)]
    refine wpAny_bind (walk_set ho hb ?_)
    exact wpAny_pure (h 0 (.inl hb))
  | false =>
    rw [if_neg (by decide), if_neg (by show ¬ ((!(tab1 _).plain && _) = true); simp [tab1])]
    refine wpAny_bind (m := (if ((!(ledOf w)) && _) = true then _ else pure ())) ?_
    rw [if_neg (by simp [ledOf, hb])]
    exact wpAny_pure (wpAny_pure (h 2 (.inr rfl)))
theorem setNext_last {Q : Option (Value × Nat) → Shared → Prop} {sl : Nat} (ho : s.heap.get? a = some (set1 w)) (hs : w.params.followText "set-order" = true ∨ sl = 2) (h : Q none s) :
    wpAny (model prog w) A (setNext a (Int.toNat (sl : Int)) (Int.toNat 1) (Int.toNat 1)) Q E s := by
  unfold setNext
  refine wpAny_bind (wpAny_setState_of ho rfl rfl ?_)
  unfold setsByText
  refine wpAny_bind (wpAny_bind (wpAny_askSetting (wpAny_pure ?_)))
  show wpAny _ _ (if (w.params.followText "set-order") = true then _ else _) _ _ _
  cases hb : w.params.followText "set-order" with
  | true =>
    rw [if_pos rfl, if_neg (by decide)]
    refine wpAny_bind (walk_set ho hb ?_)
    exact wpAny_pure h
  | false =>
    have hs : sl = 2 := by rcases hs with q | q; rw [hb] at q; cases q; exact q
    subst hs
    rw [if_neg (by decide), if_neg (by show ¬ ((!(tab1 _).plain && _) = true); simp [tab1])]
    refine wpAny_bind (m := (if ((!(ledOf w)) && _) = true then _ else pure ())) ?_
    rw [if_neg (by simp [ledOf, hb])]
    exact wpAny_pure (wpAny_pure (by rw [show SetTable.below (tab1 (ledOf w)).place (Int.toNat ((2 : Nat) : Int)) = 1 from (by decide : SetTable.below #[1] 2 = 1)]; exact h))
theorem nextSet0 {Q : Option Value → Shared → Prop} (ho : s.heap.get? a = some (set1 w)) (hI : s.heap.get? I = some (setIt a 0 0)) (hne : a ≠ I)
    (h : ∀ (h' : Heap) (sl : Nat), (w.params.followText "set-order" = true ∨ sl = 2) → Heap.SameBut I s.heap h' → h'.get? I = some (setIt a sl 1) → Q (some (.bool true)) { s with heap := h' }) :
    wpAny (model prog w) A (pyNext (.ref I)) Q E s := by
  have hT : s.TypeIs (.ref I) "set_iterator" := ⟨_, hI, rfl⟩
  unfold pyNext
  refine wpAny_bind (wpAny_attempt (wpAny_callSpecial?_slot (name := Str.ofString "__next__") hT slot_setit_next (wpAny_call_entry slot_setit_next hT entry_setit_next ?_ (args_setit_next _))))
  unfold Builtin.«set_iterator.__next__» slotArgs
  wp_walk using setNext_first ho
  intro sl hsl
  dsimp only
  refine wpAny_bind (wpAny_setField hI rfl (by simp) ?_)
  have s1 := Heap.SameBut.update s.heap I (Obj.mapFields (·.setIfInBounds 0 (rawInt (sl : Int))))
  have g1 : (s.heap.update I (Obj.mapFields (·.setIfInBounds 0 (rawInt (sl : Int))))).get? I = some (setIt a sl 0) := Heap.get?_update_self _ hI rfl
  refine wpAny_bind (wpAny_setField g1 rfl (by simp) ?_)
  have s2 := Heap.SameBut.update (s.heap.update I (Obj.mapFields (·.setIfInBounds 0 (rawInt (sl : Int))))) I (Obj.mapFields (·.setIfInBounds 1 (rawInt (0 + 1))))
  have g2 := Heap.get?_update_self (Obj.mapFields (·.setIfInBounds 1 (rawInt (0 + 1)))) g1 rfl
  exact wpAny_pure ⟨_, rfl, wpAny_pure (h _ sl hsl (s1.trans s2) g2)⟩
theorem nextSet1 {sl : Nat} {Q : Option Value → Shared → Prop} (hh : A.handled = none) (ho : s.heap.get? a = some (set1 w)) (hI : s.heap.get? I = some (setIt a sl 1)) (hsl : w.params.followText "set-order" = true ∨ sl = 2)
    (h : ∀ h', Heap.ExtBut I s.heap h' → Q none { s with heap := h' }) :
    wpAny (model prog w) A (pyNext (.ref I)) Q E s := by
  have hT : s.TypeIs (.ref I) "set_iterator" := ⟨_, hI, rfl⟩
  unfold pyNext
  refine wpAny_bind (wpAny_attempt (wpAny_callSpecial?_slot (name := Str.ofString "__next__") hT slot_setit_next (wpAny_call_entry slot_setit_next hT entry_setit_next ?_ (args_setit_next _))))
  unfold Builtin.«set_iterator.__next__» slotArgs
  wp_walk using setNext_last ho hsl
  simp only [raiseNew]
  refine wpAny_bind (wpAny_handled ?_)
  rw [show A.in1.handled = none from hh]
  refine wpAny_bind (wpAny_pure (wpAny_throw ?_))
  refine wpAny_bind (wpAny_isInstance (T := "StopIteration") (b := true) ⟨_, Heap.get?_push_size _ rfl, rfl⟩ isSubtype_stop ?_)
  exact wpAny_pure (h _ (((Heap.SameBut.update ..).extBut.push _).push _))
/-- x, = the set of True -/
theorem unpackSet {env : Env} {t : Expr} {k : Nat} {pos : Pos} {Q : Unit → Shared → Prop} (hh : A.handled = none) (ho : s.heap.get? a = some (set1 w)) (hst : assignEach [t] env = [(false, assign t env)])
    (h : ∀ h', Heap.ExtBut s.heap.objs.size s.heap h' → wpAny (model prog w) A (assign t env (.bool true)) Q E { s with heap := h' }) :
    wpAny (model prog w) A (assign (.Tuple [t] k pos) env (.ref a)) Q E s := by
  rw [arm_assign_Tuple]
  refine wpAny_bind (wpAny_standAt ?_)
  rw [hst]
  unfold unpack
  refine wpAny_bind (wpAny_holding ?_)
  have hT : s.TypeIs (.ref a) "set" := ⟨_, ho, rfl⟩
  unfold unpackItems notIterableAtAll
  refine wpAny_bind (wpAny_bind (wpAny_specialOf hT F.slot_set_iter.lookup ?_))
  simp only [Option.isSome_some, if_true]
  refine wpAny_pure ?_
  simp only [Bool.false_eq_true, if_false]
  refine wpAny_bind (wpAny_holding (iterSet ho ?_))
  have hn : a ≠ s.heap.objs.size := Nat.ne_of_lt (Heap.lt_size ho)
  have o1 : (s.heap.push (setIt a 0 0)).get? a = some (set1 w) := Heap.get?_push_of_some _ ho
  have i1 : (s.heap.push (setIt a 0 0)).get? s.heap.objs.size = some (setIt a 0 0) := Heap.get?_push_size _ rfl
  show wpAny _ _ (holding [.ref s.heap.objs.size] (draw (.ref s.heap.objs.size) 1) >>= _) _ _ _
  refine wpAny_bind (wpAny_holding ?_)
  unfold draw
  refine wpAny_bind (nextSet0 o1 i1 hn fun h2 sl hsl s2 i2 => ?_)
  have o2 : h2.get? a = some (set1 w) := s2.extBut _ _ hn o1
  dsimp only
  refine wpAny_bind (wpAny_holding ?_)
  unfold draw
  refine wpAny_pure (wpAny_pure ?_)
  show wpAny _ _ (holding [.bool true] (pyNext (.ref s.heap.objs.size)) >>= _) _ _ _
  refine wpAny_bind (wpAny_holding (nextSet1 hh o2 i2 hsl fun h3 s3 => ?_))
  refine wpAny_pure ?_
  show wpAny _ _ (do holding [] (assign t env (.bool true)); pure ()) _ _ _
  refine wpAny_bind (wpAny_holding (wpAny_mono (h h3 ?_) (fun _ _ q => wpAny_pure q) fun _ _ e => e))
  intro b o hb e
  exact s3 b o hb (s2.extBut _ _ hb (Heap.get?_push_of_some _ e))
end
end
section
open PySem PySem.W PyProof.Rows PySem.Calls PyProof.Rows.LCg
set_option Elab.async false
set_option maxRecDepth 100000
set_option maxHeartbeats 4000000
section
variable {prog : Program} {w : World} {A : Around} {E : Value → Shared → Prop} {R : Result → Shared → Prop} {s s₂ : Shared} {h₀ : Heap} {L : Addr} {m : Str → Option Value} {env : Env}
theorem setStart {elt target iter ifs rest scope pos it acc env}
    (h0 : codeAny (model prog w) A (.compLoop (.SetComp elt (⟨target, iter, ifs, 0⟩ :: rest) scope pos) 0 it acc env) R s)
    (h : wpAny (model prog w) A (pyIter it) (fun it' s' => codeAny (model prog w) A (.compLoop (.SetComp elt (⟨target, iter, ifs, 0⟩ :: rest) scope pos) 0 it' acc env) R s')
      (notedBy (model prog w) A env fun x s' => R (.error x) s') s) :
    codeAny (model prog w) A (.compStart (.SetComp elt (⟨target, iter, ifs, 0⟩ :: rest) scope pos) 0 it acc env) R s := by
  refine codeAny_of_tree ?_
  show wpAny _ _ ((compStart (.SetComp elt (⟨target, iter, ifs, 0⟩ :: rest) scope pos) 0 it acc env).onRaise (fun x => do noteFrame x env; standAt theWindowsPlace)) _ _ s
  refine wpAny_notedAt ?_
  unfold compStart
  show wpAny _ _ (ask >>= _) _ _ s
  refine wpAny_bind (wpAny_askSetting (wpAny_ite ?_))
  split
  · first
      | exact wpAny_bind (wpAny_pure (wpAny_pure (And.intro rfl h0)))
      | exact wpAny_pure (And.intro rfl h0)
  · first
      | exact wpAny_bind (wpAny_rule (wpAny_bind (wpAny_standAt (wpAny_bind (wpAny_mono h (fun it' s' h' => wpAny_pure (And.intro rfl h')) fun _ _ x => x)))))
      | (refine wpAny_bind (wpAny_rule ?_); show wpAny _ _ (standAt iter.pos >>= _) _ _ s; exact wpAny_bind (wpAny_standAt (wpAny_bind (wpAny_mono h (fun it' s' h' => wpAny_pure (And.intro rfl h')) fun _ _ x => x))))
theorem setTurn (elt target iter : Expr) (scope : Scope) (pos : Pos) (it acc : Value) (env : Env) :
    compTurn (.SetComp elt [⟨target, iter, [], 0⟩] scope pos) 0 it acc env = (standAt iter.pos >>= fun _ => pyNext it >>= fun r => match r with
      | none => pure (.done .next)
      | some v => letOwnedTupleGo target it v >>= fun _ => assign target env v >>= fun _ =>
        (eval elt env >>= fun x => standAt elt.pos >>= fun _ => call (.builtin "set.add") [acc, x] >>= fun _ => pure ()) >>= fun _ =>
          again (.compLoop (.SetComp elt [⟨target, iter, [], 0⟩] scope pos) 0 it acc env)) := by rfl
theorem setLoop {elt target iter : Expr} {scope : Scope} {pos : Pos} {it acc : Value} {env : Env} (I : Nat → Shared → Prop)
    (turn : ∀ n s, I n s → wpAny (model prog w) A (pyNext it) (fun r s₁ => match r with
      | none => R (.ok .next) s₁
      | some v => wpAny (model prog w) A (assign target env v) (fun _ s₂ => wpAny (model prog w) A (eval elt env) (fun x s₃ =>
          wpAny (model prog w) A (call (.builtin "set.add") [acc, x]) (fun _ s₄ => ∃ m, m < n ∧ I m s₄) (notedBy (model prog w) A env fun e s' => R (.error e) s') s₃)
          (notedBy (model prog w) A env fun e s' => R (.error e) s') s₂) (notedBy (model prog w) A env fun e s' => R (.error e) s') s₁) (notedBy (model prog w) A env fun e s' => R (.error e) s') s)
    (n : Nat) (h : I n s) (ht : ∀ v, letOwnedTupleGo target it v = pure () := by intro _; rfl) :
    codeAny (model prog w) A (.compLoop (.SetComp elt [⟨target, iter, [], 0⟩] scope pos) 0 it acc env) R s := by
  refine codeAny_loop rfl I (fun n s hI => ?_) n h
  show wpAny _ _ ((compTurn (.SetComp elt [⟨target, iter, [], 0⟩] scope pos) 0 it acc env).onRaise (fun x => do noteFrame x env; theTreesLotGoes x)) _ _ s
  refine wpAny_noted ?_
  rw [setTurn]
  refine wpAny_bind (wpAny_standAt (wpAny_bind (wpAny_mono (turn n s hI) (fun r s₁ h₁ => ?_) fun _ _ h' => h')))
  cases r with
  | none => exact wpAny_pure h₁
  | some v =>
    refine wpAny_bind (wpAny_of_eq (ht v) ?_)
    exact wpAny_bind (wpAny_mono h₁ (fun _ s₂ h₂ => wpAny_bind (wpAny_bind (wpAny_mono h₂ (fun x s₃ h₃ => wpAny_bind (wpAny_standAt (wpAny_bind (wpAny_mono h₃
      (fun _ s₄ h₄ => wpAny_pure (wpAny_pure ⟨rfl, h₄⟩)) fun _ _ h' => h')))) fun _ _ h' => h'))) fun _ _ h' => h')
/-- a set's turn: the element is True, the ledger stands -/
def TrueEnd (h₀ : Heap) (L : Addr) (m : Str → Option Value) (s₁ : Shared) (led : List (Addr × Obj)) (y : Value) (s₂ : Shared) : Prop :=
  y = .bool true ∧ ∃ h' tk, s₂ = { s₁ with heap := h', toks := tk } ∧ Fr h₀ L h' m ∧ News h₀ L h' led
theorem TrueEnd.mk' {s₁ : Shared} {led all : List (Addr × Obj)} {h' : Heap} {tk : Nat} (F : Fr h₀ L h' m) (N : News h₀ L h' all) (sub : ∀ p ∈ led, p ∈ all) : TrueEnd h₀ L m s₁ led (.bool true) { s₁ with heap := h', toks := tk } :=
  ⟨rfl, h', tk, rfl, F, fun p hp => N p (sub p hp)⟩
def setAt (w : World) : Nat → Obj
  | 0 => set0 w
  | _ + 1 => set1 w
def SrcS (prog : Program) (w : World) (A : Around) (h₀ : Heap) (L : Addr) (m : Str → Option Value) (env : Env) (elt : Expr) (x : Str) (scope : Scope) (cl : List (Str × Addr)) (Q : Value → Shared → Prop) (xv : Value) (s₁ : Shared) : Prop :=
  ∃ (ax : Addr) (vs : List Value) (nn : Nat) (news : List (Addr × Obj)), xv = .ref ax ∧ A.handled = none ∧ Fr h₀ L s₁.heap m ∧ News h₀ L s₁.heap news ∧ (ax, ({ cls := .type "tuple", data := .seq vs.toArray nn } : Obj)) ∈ news ∧ vs ≠ [] ∧
      (∀ (i : Nat) (v : Value) (I : Addr) (oI : Obj) (C : Addr) (oC : Obj) (D : Addr) (oD : Obj) (m₂ : Str → Option Value) (g : Heap) (tk : Nat) (E' : Value → Shared → Prop), vs[i]? = some v → NsObj oC m₂ → m₂ x = some v → Fr h₀ L g m → News h₀ L g ((I, oI) :: (C, oC) :: (D, oD) :: news) → Off3 I C D news → ((@Ne Nat I C) ∧ (@Ne Nat I D) ∧ (@Ne Nat C D)) →
        wpAny (model prog w) A (eval elt (compEnvC scope cl C env)) (TrueEnd h₀ L m { s₁ with heap := g, toks := tk } ((I, oI) :: (C, oC) :: (D, oD) :: news)) E' { s₁ with heap := g, toks := tk }) ∧
      (∀ (D : Addr) (g : Heap) (tk : Nat), Fr h₀ L g m → News h₀ L g ((D, set1 w) :: news) → Off1 D news → Q (.ref D) { s₁ with heap := g, toks := tk })
-- the set of the Trues that a comprehension over a tuple of the ledger gives 
end
namespace ZsetComp
def S (prog : Program) (w : World) (A : Around) (E : Value → Shared → Prop) (s : Shared) (h₀ : Heap) (L : Addr) (m : Str → Option Value) (env : Env) (elt : Expr) (iter : Expr) (x : Str) (px : Pos) (scope : Scope) (cl : List (Str × Addr)) (pos : Pos) (Q : Value → Shared → Prop) : Prop := (_F₀ : Fr h₀ L s.heap m) → (hclos : closureFor scope env = pure cl) → (hcell : ∀ y ∈ scope.names, y.2 ≠ .cell) → (hkind : scope.kind = .function) → (hnames : ∀ y ∈ scope.names, y.2 = .local → scope.names.lookup y.1 = some .local) → (hx : scope.names.lookup x = some .local) → (h : wpAny (model prog w) A (eval iter env) (SrcS prog w A h₀ L m env elt x scope cl Q) E s) → (hs : ∀ x, foldedSetIterable iter env x = pure x) → wpAny (model prog w) A (eval (.SetComp elt [⟨.Name x px, iter, [], 0⟩] scope pos) env) Q E s
noncomputable def zz : (Program) × (World) × (Around) × (Value → Shared → Prop) × (Shared) × (Heap) × (Addr) × (Str → Option Value) × (Env) × (Expr) × (Expr) × (Str) × (Pos) × (Scope) × (List (Str × Addr)) × (Pos) × (Value → Shared → Prop) := @Classical.epsilon _ ⟨((Classical.ofNonempty : Program), (⟨fun _ _ => 0, { strHash := fun _ => 0, shareClass := fun _ => 0, mergeTok := id, idOf := fun _ => 0, idOfShared := fun _ _ => 0, followText := fun _ => false, idOfImm := fun _ => 0 }⟩ : World), (callerA : Around), (Classical.ofNonempty : Value → Shared → Prop), ({} : Shared), (Classical.ofNonempty : Heap), (Classical.ofNonempty : Addr), (Classical.ofNonempty : Str → Option Value), (Classical.ofNonempty : Env), (Classical.ofNonempty : Expr), (Classical.ofNonempty : Expr), (Classical.ofNonempty : Str), (Classical.ofNonempty : Pos), (Classical.ofNonempty : Scope), (Classical.ofNonempty : List (Str × Addr)), (Classical.ofNonempty : Pos), (Classical.ofNonempty : Value → Shared → Prop))⟩ fun zz => ¬ ZsetComp.S (zz.1) (zz.2.1) (zz.2.2.1) (zz.2.2.2.1) (zz.2.2.2.2.1) (zz.2.2.2.2.2.1) (zz.2.2.2.2.2.2.1) (zz.2.2.2.2.2.2.2.1) (zz.2.2.2.2.2.2.2.2.1) (zz.2.2.2.2.2.2.2.2.2.1) (zz.2.2.2.2.2.2.2.2.2.2.1) (zz.2.2.2.2.2.2.2.2.2.2.2.1) (zz.2.2.2.2.2.2.2.2.2.2.2.2.1) (zz.2.2.2.2.2.2.2.2.2.2.2.2.2.1) (zz.2.2.2.2.2.2.2.2.2.2.2.2.2.2.1) (zz.2.2.2.2.2.2.2.2.2.2.2.2.2.2.2.1) (zz.2.2.2.2.2.2.2.2.2.2.2.2.2.2.2.2)
noncomputable def prog : Program := zz.1
noncomputable def w : World := zz.2.1
noncomputable def A : Around := zz.2.2.1
noncomputable def E : Value → Shared → Prop := zz.2.2.2.1
noncomputable def s : Shared := zz.2.2.2.2.1
noncomputable def h₀ : Heap := zz.2.2.2.2.2.1
noncomputable def L : Addr := zz.2.2.2.2.2.2.1
noncomputable def m : Str → Option Value := zz.2.2.2.2.2.2.2.1
noncomputable def env : Env := zz.2.2.2.2.2.2.2.2.1
noncomputable def elt : Expr := zz.2.2.2.2.2.2.2.2.2.1
noncomputable def iter : Expr := zz.2.2.2.2.2.2.2.2.2.2.1
noncomputable def x : Str := zz.2.2.2.2.2.2.2.2.2.2.2.1
noncomputable def px : Pos := zz.2.2.2.2.2.2.2.2.2.2.2.2.1
noncomputable def scope : Scope := zz.2.2.2.2.2.2.2.2.2.2.2.2.2.1
noncomputable def cl : List (Str × Addr) := zz.2.2.2.2.2.2.2.2.2.2.2.2.2.2.1
noncomputable def pos : Pos := zz.2.2.2.2.2.2.2.2.2.2.2.2.2.2.2.1
noncomputable def Q : Value → Shared → Prop := zz.2.2.2.2.2.2.2.2.2.2.2.2.2.2.2.2
theorem p (_F₀ : Fr h₀ L s.heap m) (hclos : closureFor scope env = pure cl) (hcell : ∀ y ∈ scope.names, y.2 ≠ .cell) (hkind : scope.kind = .function) (hnames : ∀ y ∈ scope.names, y.2 = .local → scope.names.lookup y.1 = some .local) (hx : scope.names.lookup x = some .local) (h : wpAny (model prog w) A (eval iter env) (SrcS prog w A h₀ L m env elt x scope cl Q) E s) (hs : ∀ x, foldedSetIterable iter env x = pure x) : wpAny (model prog w) A (eval (.SetComp elt [⟨.Name x px, iter, [], 0⟩] scope pos) env) Q E s := by
  rw [arm_eval_SetComp]
  refine wpAny_comprehension_free (use := none) rfl hs hclos hkind hnames (wpAny_mono h (fun xv s₁ h₁ => ?_) fun _ _ e => e)
  obtain ⟨ax, vs, nn, news, rfl, hh, F, N, hm, hne, T, fin⟩ := h₁
  have hl : s₁.heap.IsTuple ax vs.toArray := ⟨_, (N _ hm).1, rfl, nn, rfl⟩
  have hlt : ax < s₁.heap.objs.size := Heap.lt_size (N _ hm).1
  refine wpAny_pyIter_tuple hl ?_
  have up : ∀ (ob : Obj) (g : Heap) b o, g.get? b = some o → (g.push ob).get? b = some o := fun ob g b o e => Heap.get?_push_of_some _ e
  refine newSetB (wpAny_newFunctionEnv hcell (by intro y hy; simp at hy) (fun h₁ hns₁ hsb₁ => ?_) hkind)
  dsimp only at hns₁ hsb₁ ⊢
  have W := Walks.tuple (prog := prog) (w := w) (A := A) hh s₁.heap.objs.size ax (Nat.ne_of_lt hlt) vs.toArray
  have hI₀ : h₀.get? s₁.heap.objs.size = none := next_is_new F
  have hIL : L ≠ s₁.heap.objs.size := Nat.ne_of_lt F.ns.lt
  have offI : ∀ p ∈ news, p.1 ≠ s₁.heap.objs.size := fun p hp => Nat.ne_of_lt (Heap.lt_size (N p hp).1)
  have F1 := F.push { cls := .type "tuple_iterator", data := .fields #[.ref ax, .int 0 0] }
  have N1 : News h₀ L (s₁.heap.push { cls := .type "tuple_iterator", data := .fields #[.ref ax, .int 0 0] }) news := N.grown (up _ _)
  have e1 : (s₁.heap.push { cls := .type "tuple_iterator", data := .fields #[.ref ax, .int 0 0] }).objs.size = s₁.heap.objs.size + 1 := Heap.size_push ..
  have it1 : (s₁.heap.push { cls := .type "tuple_iterator", data := .fields #[.ref ax, .int 0 0] }).IsTupleIter s₁.heap.objs.size ax 0 := ⟨_, Heap.get?_push_size _ rfl, rfl, rfl⟩
  have tu1 : (s₁.heap.push { cls := .type "tuple_iterator", data := .fields #[.ref ax, .int 0 0] }).IsTuple ax vs.toArray := hl.push _
  generalize s₁.heap.push { cls := .type "tuple_iterator", data := .fields #[.ref ax, .int 0 0] } = H1 at hns₁ hsb₁ F1 N1 e1 it1 tu1 ⊢
  generalize hI : s₁.heap.objs.size = I at hI₀ hIL offI e1 it1 W ⊢
  generalize hD : H1.objs.size = D at hns₁ hsb₁ e1 ⊢
  generalize hH2 : H1.push (set0 w) = H2 at hns₁ hsb₁ ⊢
  have e2 : H2.objs.size = D + 1 := by rw [← hH2, Heap.size_push, hD]
  generalize hC : H2.objs.size = C at hns₁ hsb₁ e2 ⊢
  have ltD : ∀ b o, H1.get? b = some o → b < D := fun b o e => hD ▸ Heap.lt_size e
  have neD : ∀ b, b < D → b ≠ D := fun b hb => Nat.ne_of_lt hb
  have neC : ∀ b, b < D → b ≠ C := fun b hb => by rw [e2]; exact Nat.ne_of_lt (Nat.lt_succ_of_lt hb)
  have hDC : D ≠ C := by rw [e2]; exact Nat.ne_of_lt (Nat.lt_succ_self _)
  have hIlt : I < D := by rw [e1]; exact Nat.lt_succ_self _
  have haxD : ax < D := Nat.lt_trans (hI ▸ hlt) hIlt
  have old : ∀ b o, H1.get? b = some o → h₁.get? b = some o := fun b o e => hsb₁.extBut b o (neC b (ltD b o e)) (up _ _ _ _ (hH2 ▸ up _ _ _ _ e))
  have hacc : h₁.get? D = some (set0 w) := hsb₁.extBut _ _ hDC (up _ _ _ _ (hH2 ▸ hD ▸ Heap.get?_push_size _ rfl))
  have fresh₀ : ∀ a, D ≤ a → h₀.get? a = none := fun a ha => by
    cases e : h₀.get? a with
    | none => rfl
    | some o' => exact absurd (ltD a o' (F1.keep a o' e)) (Nat.not_lt.mpr ha)
  have hD₀ : h₀.get? D = none := fresh₀ _ (Nat.le_refl _)
  have hC₀ : h₀.get? C = none := fresh₀ _ (by rw [e2]; exact Nat.le_succ _)
  have hLlt : L < D := hD ▸ F1.ns.lt
  have hDL : D ≠ L := Ne.symm (neD L hLlt)
  have hCL : C ≠ L := Ne.symm (neC L hLlt)
  have off₀ : Off3 I C D news := Off3.of fun p hp => ⟨offI p hp, neC _ (ltD _ _ (N1 p hp).1), neD _ (ltD _ _ (N1 p hp).1)⟩
  have off3 := off₀.mem
  have hfpC : C ∉ ([I, ax] : List Addr) := by
    intro q
    rcases List.mem_cons.mp q with q | q
    · exact neC I hIlt q.symm
    · exact neC ax haxD (List.mem_singleton.mp q).symm
  have hfpD : D ∉ ([I, ax] : List Addr) := by
    intro q
    rcases List.mem_cons.mp q with q | q
    · exact neD I hIlt q.symm
    · exact neD ax haxD (List.mem_singleton.mp q).symm
  have hst₁ : h₁.IsTupleIter I ax 0 ∧ h₁.IsTuple ax vs.toArray := by
    obtain ⟨o, q, r⟩ := it1
    obtain ⟨o', q', r'⟩ := tu1
    exact ⟨⟨o, old _ _ q, r⟩, ⟨o', old _ _ q', r'⟩⟩
  have loop : ∀ s₃ : Shared, s₃ = { s₁ with heap := h₁, toks := s₁.toks + ([] : List (Str × Value)).length } →
      codeAny (model prog w) A (.compLoop (.SetComp elt [⟨.Name x px, iter, [], 0⟩] scope pos) 0 (.ref I) (.ref D) (compEnvC scope cl C env)) (compPost (model prog w) A E none Q (.ref D) C) s₃ := by
    rintro s₃ rfl
    refine setLoop
      (fun k s' => ∃ h' tk i m', s' = { s₁ with heap := h', toks := tk } ∧ i ≤ vs.toArray.size ∧ k = vs.toArray.size + 1 - i ∧ (h'.IsTupleIter I ax i ∧ h'.IsTuple ax vs.toArray) ∧ Fr h₀ L h' m ∧ h'.Ns C m' ∧ News h₀ L h' ((D, setAt w i) :: news)) ?_ (vs.toArray.size + 1)
      ⟨h₁, _, 0, _, rfl, Nat.zero_le _, rfl, hst₁, F1.keeps old, hns₁, fun p hp => ?_⟩
    · rintro k s' ⟨h', tk, i, m', rfl, hi, rfl, hst', F', hn', N'⟩
      by_cases hlt' : i < vs.toArray.size
      · refine W.item i _ _ _ hlt' hst' fun v h₂ tk₂ hPv hst₂ hk₂ => ?_
        refine wpAny_assign_Name (wpAny_storeName_local (lookup_relabel_local hx) (hn'.at' fun o e => hk₂ _ o (by simpa using Ne.symm (neC I hIlt)) e) (fun h₃ hn₃ hs₃ => ?_) (by simp [compEnvC, relabel, hkind]))
        have hst₃ : h₃.IsTupleIter I ax (i + 1) ∧ h₃.IsTuple ax vs.toArray := W.frame _ _ _ hst₂ fun b hb o e => hs₃.extBut b o (fun q => hfpC (by have q' : b = C := q; rw [← q']; exact hb)) e
        obtain ⟨oI, heI, rI⟩ := id hst₃.1
        obtain ⟨oC, heC, hoC⟩ := ns_obj hn₃
        have F₃ : Fr h₀ L h₃ m := (fr_but F' hk₂ hIL hI₀).change hs₃ hCL hC₀
        have N₂ : News h₀ L h₂ ((D, setAt w i) :: news) := news_but N' hk₂ fun p hp => by
          rcases List.mem_cons.mp hp with rfl | hp
          · exact Ne.symm (neD I hIlt)
          · exact (off3 p hp).1
        have N₃ : News h₀ L h₃ ((I, oI) :: (C, oC) :: (D, setAt w i) :: news) := fun p hp => by
          rcases List.mem_cons.mp hp with rfl | hp
          · exact ⟨heI, Ne.symm hIL, hI₀⟩
          · rcases List.mem_cons.mp hp with rfl | hp
            · exact ⟨heC, hCL, hC₀⟩
            · have z := N₂ p hp
              refine ⟨hs₃.extBut _ _ ?_ z.1, z.2⟩
              rcases List.mem_cons.mp hp with rfl | hp
              · exact hDC
              · exact (off3 p hp).2.1
        refine wpAny_mono (T i v I oI C oC D (setAt w i) _ h₃ _ _ (by simpa using hPv) hoC (by simp) F₃ N₃ off₀ ⟨neC I hIlt, neD I hIlt, Ne.symm hDC⟩) (fun y s₄ h₄ => ?_) fun _ _ e => e
        obtain ⟨rfl, h₄, tk₄, rfl, F₄, N₄⟩ := h₄
        have zI := (N₄ (I, oI) (.head _)).1
        have zC := (N₄ (C, oC) (.tail _ (.head _))).1
        have zD := (N₄ (D, setAt w i) (.tail _ (.tail _ (.head _)))).1
        have ht₄ : h₄.IsTuple ax vs.toArray := ⟨_, (N₄ _ (.tail _ (.tail _ (.tail _ hm)))).1, rfl, nn, rfl⟩
        have step : ∀ h₅ tk₅, Heap.SameBut D h₄ h₅ → h₅.get? D = some (setAt w (i + 1)) → ∃ mm, mm < vs.toArray.size + 1 - i ∧ ∃ h' tk i m', ({ s₁ with heap := h₅, toks := tk₅ } : Shared) = { s₁ with heap := h', toks := tk } ∧ i ≤ vs.toArray.size ∧ mm = vs.toArray.size + 1 - i ∧ (h'.IsTupleIter I ax i ∧ h'.IsTuple ax vs.toArray) ∧ Fr h₀ L h' m ∧ h'.Ns C m' ∧ News h₀ L h' ((D, setAt w i) :: news) := by
          intro h₅ tk₅ hs₅ hg₅
          refine ⟨vs.toArray.size + 1 - (i + 1), by omega, h₅, tk₅, i + 1, _, rfl, hlt', rfl, W.frame _ _ _ ⟨⟨oI, zI, rI⟩, ht₄⟩ fun b hb o e => hs₅.extBut b o (fun q => hfpD (q ▸ hb)) e, F₄.change hs₅ hDL hD₀, (hoC.ns zC).sameBut hs₅ (Ne.symm hDC), fun p hp => ?_⟩
          rcases List.mem_cons.mp hp with rfl | hp
          · exact ⟨hg₅, hDL, hD₀⟩
          · have z := N₄ p (.tail _ (.tail _ (.tail _ hp)))
            exact ⟨hs₅.extBut _ _ (off3 p hp).2.2 z.1, z.2⟩
        cases i with
        | zero => exact addFirst zD fun h₅ hs₅ hg₅ => step h₅ _ hs₅ hg₅
        | succ i => exact addAgain zD (step h₄ _ (.refl ..) zD)
      · obtain rfl : i = vs.toArray.size := Nat.le_antisymm hi (Nat.not_lt.mp hlt')
        refine W.done _ _ _ hst' fun h₂ tk₂ hk₂ => ?_
        have N₂ : News h₀ L h₂ ((D, setAt w vs.toArray.size) :: news) := news_but N' hk₂ fun p hp => by
          rcases List.mem_cons.mp hp with rfl | hp
          · exact Ne.symm (neD I hIlt)
          · exact (off3 p hp).1
        have hpos : setAt w vs.toArray.size = set1 w := by
          cases vs with
          | nil => exact absurd rfl hne
          | cons v r => rfl
        rw [hpos] at N₂
        refine ⟨_, hn'.at' fun o e => hk₂ _ o (by simpa using Ne.symm (neC I hIlt)) e, fun h'' hs'' => fin D h'' tk₂ ((fr_but F' hk₂ hIL hI₀).change hs'' hCL hC₀) (fun p hp => ?_) off₀.one⟩
        refine ⟨hs''.extBut _ _ ?_ (N₂ p hp).1, (N₂ p hp).2⟩
        rcases List.mem_cons.mp hp with rfl | hp
        · exact hDC
        · exact (off3 p hp).2.1
    · rcases List.mem_cons.mp hp with rfl | hp
      · exact ⟨hacc, hDL, hD₀⟩
      · exact ⟨old _ _ (N1 p hp).1, (N1 p hp).2⟩
  exact setStart (loop _ rfl) (W.self 0 _ _ _ hst₁ (loop _ rfl))
theorem q : S prog w A E s h₀ L m env elt iter x px scope cl pos Q := by unfold S; exact p
end ZsetComp
section
variable {prog : Program} {w : World} {A : Around} {E : Value → Shared → Prop} {R : Result → Shared → Prop} {s s₂ : Shared} {h₀ : Heap} {L : Addr} {m : Str → Option Value} {env : Env}
theorem setComp {elt iter : Expr}
    {x : Str}
    {px : Pos}
    {scope : Scope}
    {cl : List (Str × Addr)}
    {pos : Pos}
    {Q : Value → Shared → Prop}
    (_F₀ : Fr h₀ L s.heap m)
    (hclos : closureFor scope env = pure cl)
    (hcell : ∀ y ∈ scope.names, y.2 ≠ .cell)
    (hkind : scope.kind = .function)
    (hnames : ∀ y ∈ scope.names, y.2 = .local → scope.names.lookup y.1 = some .local)
    (hx : scope.names.lookup x = some .local)
    (h : wpAny (model prog w) A (eval iter env) (SrcS prog w A h₀ L m env elt x scope cl Q) E s)
    (hs : ∀ x, foldedSetIterable iter env x = pure x := by intro _; rfl) : wpAny (model prog w) A (eval (.SetComp elt [⟨.Name x px, iter, [], 0⟩] scope pos) env) Q E s :=
  epsAll (P := fun zz => ZsetComp.S (zz.1) (zz.2.1) (zz.2.2.1) (zz.2.2.2.1) (zz.2.2.2.2.1) (zz.2.2.2.2.2.1) (zz.2.2.2.2.2.2.1) (zz.2.2.2.2.2.2.2.1) (zz.2.2.2.2.2.2.2.2.1) (zz.2.2.2.2.2.2.2.2.2.1) (zz.2.2.2.2.2.2.2.2.2.2.1) (zz.2.2.2.2.2.2.2.2.2.2.2.1) (zz.2.2.2.2.2.2.2.2.2.2.2.2.1) (zz.2.2.2.2.2.2.2.2.2.2.2.2.2.1) (zz.2.2.2.2.2.2.2.2.2.2.2.2.2.2.1) (zz.2.2.2.2.2.2.2.2.2.2.2.2.2.2.2.1) (zz.2.2.2.2.2.2.2.2.2.2.2.2.2.2.2.2)) ZsetComp.q (prog, w, A, E, s, h₀, L, m, env, elt, iter, x, px, scope, cl, pos, Q) _F₀ hclos hcell hkind hnames hx h hs
end
end
section
open PySem PySem.W PyProof.Rows PySem.Calls PySem.W.X
set_option Elab.async false
set_option maxRecDepth 100000
set_option maxHeartbeats 4000000
section
variable {prog : Program} {w : World} {A : Around} {s : Shared} {env : Env} {h₀ : Heap}
/-- how a turn of a loop over an enumerate ends -/
def EnPost (h₀ : Heap) (L : Addr) (J : (Str → Option Value) → Prop) (led : List (Addr × Obj)) (s₁ : Shared) (Q : Flow → Shared → Prop) (f : Flow) (s₂ : Shared) : Prop :=
  match f with
  | .ret v => Q (.ret v) s₂
  | .brk => Q .next s₂
  | _ => ∃ h' tk m', s₂ = { s₁ with heap := h', toks := tk } ∧ Fr h₀ L h' m' ∧ News h₀ L h' led ∧ J m'
theorem EnPost.mk' {L : Addr} {J : (Str → Option Value) → Prop} {led all : List (Addr × Obj)} {s₁ : Shared} {Q : Flow → Shared → Prop} {h' : Heap} {tk : Nat} {m' : Str → Option Value} (F : Fr h₀ L h' m') (N : News h₀ L h' all) (hs : ∀ p ∈ led, p ∈ all) (hj : J m') :
    EnPost h₀ L J led s₁ Q .next { s₁ with heap := h', toks := tk } := ⟨h', tk, m', rfl, F, fun p hp => N p (hs p hp), hj⟩
/-- an enumerate over a list of the ledger, held back from the walk -/
def EnAt (prog : Program) (w : World) (A : Around) (h₀ : Heap) (env : Env) (xi xv : Str) (body : List Stmt) (Q : Flow → Shared → Prop) (E : Value → Shared → Prop) (xval : Value) (s₁ : Shared) : Prop :=
  ∃ (e it l : Addr) (vs : List Value) (nn : Nat) (m : Str → Option Value) (news : List (Addr × Obj)) (J : Nat → (Str → Option Value) → Prop),
    xval = .ref e ∧ A.handled = none ∧ e ≠ it ∧ IsEnum s₁.heap e it 0 .none ∧ s₁.heap.IsListIter it l 0 ∧ Fr h₀ env.locals s₁.heap m ∧ News h₀ env.locals s₁.heap news ∧ (l, listOf vs.toArray nn) ∈ news ∧
    (∀ p ∈ news, p.1 ≠ e ∧ p.1 ≠ it) ∧ e ≠ env.locals ∧ it ≠ env.locals ∧ h₀.get? e = none ∧ h₀.get? it = none ∧ J 0 m ∧
    (∀ i v m₁ h tk t1 oe oi, vs[i]? = some v → J i m₁ → Fr h₀ env.locals h (fun y => if y = xv then some v else if y = xi then some (.int (i : Int) t1) else m₁ y) → News h₀ env.locals h ((e, oe) :: (it, oi) :: news) →
      wpAny (model prog w) A (execs body env) (EnPost h₀ env.locals (J (i + 1)) ((e, oe) :: (it, oi) :: news) { s₁ with heap := h, toks := tk } Q) E { s₁ with heap := h, toks := tk }) ∧
    (∀ m₁ h tk, J vs.length m₁ → Fr h₀ env.locals h m₁ → News h₀ env.locals h news → Q .next { s₁ with heap := h, toks := tk })
end
namespace ZforEnum
def S (prog : Program) (w : World) (A : Around) (s : Shared) (env : Env) (h₀ : Heap) (E : Value → Shared → Prop) (Q : Flow → Shared → Prop) (xi : Str) (xv : Str) (pi : Pos) (pv : Pos) (pt : Pos) (pos : Pos) (x1 : Nat) (iter : Expr) (body : List Stmt) (L : Addr) (m : Str → Option Value) : Prop := (_F : Fr h₀ L s.heap m) → (hxi : env.kindOf xi = some .local) → (hxv : env.kindOf xv = some .local) → (hp : (env.scope.kind == .class || (env.scope.kind == .module && env.locals != env.globals)) = false) → (h : wpAny (model prog w) A (eval iter env) (EnAt prog w A h₀ env xi xv body Q E) E s) → (hs : ∀ x, foldedSetIterable iter env x = pure x) → (hE : PassesOwn (model prog w) A env E) → wpAny (model prog w) A (exec (.For (.Tuple [.Name xi pi, .Name xv pv] x1 pt) iter body [] pos) env) Q E s
noncomputable def zz : (Program) × (World) × (Around) × (Shared) × (Env) × (Heap) × (Value → Shared → Prop) × (Flow → Shared → Prop) × (Str) × (Str) × (Pos) × (Pos) × (Pos) × (Pos) × (Nat) × (Expr) × (List Stmt) × (Addr) × (Str → Option Value) := @Classical.epsilon _ ⟨((Classical.ofNonempty : Program), (⟨fun _ _ => 0, { strHash := fun _ => 0, shareClass := fun _ => 0, mergeTok := id, idOf := fun _ => 0, idOfShared := fun _ _ => 0, followText := fun _ => false, idOfImm := fun _ => 0 }⟩ : World), (callerA : Around), ({} : Shared), (Classical.ofNonempty : Env), (Classical.ofNonempty : Heap), (Classical.ofNonempty : Value → Shared → Prop), (Classical.ofNonempty : Flow → Shared → Prop), (Classical.ofNonempty : Str), (Classical.ofNonempty : Str), (Classical.ofNonempty : Pos), (Classical.ofNonempty : Pos), (Classical.ofNonempty : Pos), (Classical.ofNonempty : Pos), (Classical.ofNonempty : Nat), (Classical.ofNonempty : Expr), (Classical.ofNonempty : List Stmt), (Classical.ofNonempty : Addr), (Classical.ofNonempty : Str → Option Value))⟩ fun zz => ¬ ZforEnum.S (zz.1) (zz.2.1) (zz.2.2.1) (zz.2.2.2.1) (zz.2.2.2.2.1) (zz.2.2.2.2.2.1) (zz.2.2.2.2.2.2.1) (zz.2.2.2.2.2.2.2.1) (zz.2.2.2.2.2.2.2.2.1) (zz.2.2.2.2.2.2.2.2.2.1) (zz.2.2.2.2.2.2.2.2.2.2.1) (zz.2.2.2.2.2.2.2.2.2.2.2.1) (zz.2.2.2.2.2.2.2.2.2.2.2.2.1) (zz.2.2.2.2.2.2.2.2.2.2.2.2.2.1) (zz.2.2.2.2.2.2.2.2.2.2.2.2.2.2.1) (zz.2.2.2.2.2.2.2.2.2.2.2.2.2.2.2.1) (zz.2.2.2.2.2.2.2.2.2.2.2.2.2.2.2.2.1) (zz.2.2.2.2.2.2.2.2.2.2.2.2.2.2.2.2.2.1) (zz.2.2.2.2.2.2.2.2.2.2.2.2.2.2.2.2.2.2)
noncomputable def prog : Program := zz.1
noncomputable def w : World := zz.2.1
noncomputable def A : Around := zz.2.2.1
noncomputable def s : Shared := zz.2.2.2.1
noncomputable def env : Env := zz.2.2.2.2.1
noncomputable def h₀ : Heap := zz.2.2.2.2.2.1
noncomputable def E : Value → Shared → Prop := zz.2.2.2.2.2.2.1
noncomputable def Q : Flow → Shared → Prop := zz.2.2.2.2.2.2.2.1
noncomputable def xi : Str := zz.2.2.2.2.2.2.2.2.1
noncomputable def xv : Str := zz.2.2.2.2.2.2.2.2.2.1
noncomputable def pi : Pos := zz.2.2.2.2.2.2.2.2.2.2.1
noncomputable def pv : Pos := zz.2.2.2.2.2.2.2.2.2.2.2.1
noncomputable def pt : Pos := zz.2.2.2.2.2.2.2.2.2.2.2.2.1
noncomputable def pos : Pos := zz.2.2.2.2.2.2.2.2.2.2.2.2.2.1
noncomputable def x1 : Nat := zz.2.2.2.2.2.2.2.2.2.2.2.2.2.2.1
noncomputable def iter : Expr := zz.2.2.2.2.2.2.2.2.2.2.2.2.2.2.2.1
noncomputable def body : List Stmt := zz.2.2.2.2.2.2.2.2.2.2.2.2.2.2.2.2.1
noncomputable def L : Addr := zz.2.2.2.2.2.2.2.2.2.2.2.2.2.2.2.2.2.1
noncomputable def m : Str → Option Value := zz.2.2.2.2.2.2.2.2.2.2.2.2.2.2.2.2.2.2
theorem p (_F : Fr h₀ L s.heap m) (hxi : env.kindOf xi = some .local) (hxv : env.kindOf xv = some .local) (hp : (env.scope.kind == .class || (env.scope.kind == .module && env.locals != env.globals)) = false) (h : wpAny (model prog w) A (eval iter env) (EnAt prog w A h₀ env xi xv body Q E) E s) (hs : ∀ x, foldedSetIterable iter env x = pure x) (hE : PassesOwn (model prog w) A env E) : wpAny (model prog w) A (exec (.For (.Tuple [.Name xi pi, .Name xv pv] x1 pt) iter body [] pos) env) Q E s := by
  refine wpAny_For (wpAny_mono h (fun xval s₁ h₁ => ?_) fun _ _ e => e) hs
  obtain ⟨e, it, l, vs, nn, m, news, J, rfl, hh, hei, hen, hit, F, N, hl, hoff, heL, hiL, h0e, h0i, hj, turn, done⟩ := h₁
  refine wpAny_pyIter_enum hen ?_
  have hli : l ≠ it := (hoff _ hl).2
  have hle : e ≠ l := Ne.symm (hoff _ hl).1
  have W := WalksT.enumerateD (prog := prog) (w := w) (A := A) (Draws.list (A := A.in1) hh it l hli vs.toArray) e hei (by simp [hei, hle]) (by simp)
  have hlst : s₁.heap.IsList l vs.toArray := ⟨_, (N _ hl).1, rfl, nn, rfl⟩
  refine forLoopT (R := fun r s' => match r with | .ok f => Q f s' | .error e => cameBackBy (model prog w) A env E e s')
    (fun k s' => ∃ h' tk m' i, s' = { s₁ with heap := h', toks := tk } ∧ i ≤ vs.length ∧ k = vs.length - i ∧ ((∃ old, IsEnum h' e it i old) ∧ (h'.IsListIter it l i ∧ h'.IsList l vs.toArray)) ∧ Fr h₀ env.locals h' m' ∧ News h₀ env.locals h' news ∧ J i m') ?_ vs.length
    ⟨s₁.heap, s₁.toks, m, 0, rfl, Nat.zero_le _, rfl, ⟨⟨_, hen⟩, hit, hlst⟩, F, N, hj⟩
  rintro k s' ⟨h', tk, m', i, rfl, hi, rfl, hst, F', N', hJ⟩
  have hkn : ∀ {g g' : Heap}, (∀ b o, b ∉ ([e, it] : List Addr) → g.get? b = some o → g'.get? b = some o) → ∀ b o, b ≠ e → b ≠ it → g.get? b = some o → g'.get? b = some o := fun hk b o h1 h2 q => hk b o (by simp [h1, h2]) q
  have frk : ∀ {g g' : Heap} {mm : Str → Option Value}, (∀ b o, b ≠ e → b ≠ it → g.get? b = some o → g'.get? b = some o) → Fr h₀ env.locals g mm → Fr h₀ env.locals g' mm := fun hk G =>
    ⟨G.ns.at' fun o q => hk _ o (Ne.symm heL) (Ne.symm hiL) q, fun b o q => hk b o (fun z => by rw [z, h0e] at q; cases q) (fun z => by rw [z, h0i] at q; cases q) (G.keep b o q), G.above⟩
  have nwk : ∀ {g g' : Heap}, (∀ b o, b ≠ e → b ≠ it → g.get? b = some o → g'.get? b = some o) → News h₀ env.locals g news → News h₀ env.locals g' news := fun hk M p hp => ⟨hk _ _ (hoff p hp).1 (hoff p hp).2 (M p hp).1, (M p hp).2⟩
  rcases Nat.lt_or_ge i vs.length with hlt | hge
  · refine W.item i _ _ _ (by simpa using hlt) hst fun T vals h₁ tk₁ hPt hsz hT hMid hk₁ => ?_
    obtain ⟨t1, v, hv, rfl⟩ := hPt
    refine W.go _ _ _ i T _ _ _ hMid fun h₂ hst₂ hk₂ => ?_
    have hTw : T ∉ [e, it] := W.apart i T _ hMid
    have hT₂ : h₂.IsTuple T #[.int i t1, v] := let ⟨o, ho, r⟩ := hT; ⟨o, hk₂ T o hTw ho, r⟩
    refine wpAny_assign_Tuple hh hT₂ rfl rfl fun h₃ hx₃ => ?_
    replace hx₃ : Heap.ExtBut h₂.objs.size h₂ h₃ := hx₃
    have old₃ : ∀ b o, h₂.get? b = some o → h₃.get? b = some o := fun b o q => hx₃ b o (Nat.ne_of_lt (Heap.lt_size q)) q
    have keep₂ : ∀ b o, b ≠ e → b ≠ it → h'.get? b = some o → h₂.get? b = some o := fun b o hbe hbi q => hkn hk₂ b o hbe hbi (hkn hk₁ b o hbe hbi q)
    have F₃ : Fr h₀ env.locals h₃ m' := (frk keep₂ F').keeps old₃
    have N₃ : News h₀ env.locals h₃ news := (nwk keep₂ N').grown old₃
    show wpAny _ _ (do holding [v] (assign (.Name xi pi) env (.int i t1)); do holding [] (assign (.Name xv pv) env v); pure ()) _ _ _
    refine wpAny_bind (wpAny_holding (wpAny_assign_Name (wpAny_storeName_local hxi F₃.ns (fun h₄ hn₄ hs₄ => ?_) hp)))
    replace hs₄ : Heap.SameBut env.locals h₃ h₄ := hs₄
    have F₄ := F₃.set hn₄ hs₄
    refine wpAny_bind (wpAny_holding (wpAny_assign_Name (wpAny_storeName_local hxv F₄.ns (fun h₅ hn₅ hs₅ => wpAny_pure ?_) hp)))
    replace hs₅ : Heap.SameBut env.locals h₄ h₅ := hs₅
    have F₅ := F₄.set hn₅ hs₅
    have k5 : ∀ b o, b ≠ env.locals → h₂.get? b = some o → h₅.get? b = some o := fun b o hb q => (hs₅.2 b hb).trans ((hs₄.2 b hb).trans (old₃ b o q))
    obtain ⟨oe, hen₂, hback⟩ : ∃ oe, h₂.get? e = some oe ∧ (∀ g : Heap, g.get? e = some oe → ∃ old, IsEnum g e it ((i + 1 : Nat) : Int) old) := let ⟨old, q⟩ := hst₂.1; ⟨_, q, fun g q' => ⟨old, q'⟩⟩
    obtain ⟨oi, hoi, ri⟩ := id hst₂.2.1
    have N₅ : News h₀ env.locals h₅ ((e, oe) :: (it, oi) :: news) := fun p hp => by
      rcases List.mem_cons.mp hp with rfl | hp
      · exact ⟨k5 _ _ heL hen₂, heL, h0e⟩
      rcases List.mem_cons.mp hp with rfl | hp
      · exact ⟨k5 _ _ hiL hoi, hiL, h0i⟩
      · have z := (nwk keep₂ N') p hp
        exact ⟨k5 _ _ z.2.1 z.1, z.2⟩
    have hv' : vs[i]? = some v := by simpa using hv
    refine wpAny_mono (wpAny_passesOwn hE (turn i v m' h₅ _ t1 oe oi hv' hJ F₅ N₅)) (fun f s₃ hf => ?_) fun _ _ x => x
    have fin : (∃ h'' tk'' m'', s₃ = { s₁ with heap := h'', toks := tk'' } ∧ Fr h₀ env.locals h'' m'' ∧ News h₀ env.locals h'' ((e, oe) :: (it, oi) :: news) ∧ J (i + 1) m'') →
        ∃ mm, mm < vs.length - i ∧ ∃ h' tk m' i, s₃ = { s₁ with heap := h', toks := tk } ∧ i ≤ vs.length ∧ mm = vs.length - i ∧ ((∃ old, IsEnum h' e it i old) ∧ (h'.IsListIter it l i ∧ h'.IsList l vs.toArray)) ∧ Fr h₀ env.locals h' m' ∧ News h₀ env.locals h' news ∧ J i m' := by
      rintro ⟨h'', tk'', m'', rfl, F'', N'', hJ''⟩
      refine ⟨vs.length - (i + 1), by omega, h'', tk'', m'', i + 1, rfl, hlt, rfl, ⟨hback _ (N'' _ (.head _)).1, ⟨oi, (N'' _ (.tail _ (.head _))).1, ri⟩, ⟨_, (N'' _ (.tail _ (.tail _ hl))).1, rfl, nn, rfl⟩⟩, F'', fun p hp => N'' p (.tail _ (.tail _ hp)), hJ''⟩
    cases f with
    | ret v => exact hf
    | brk => exact hf
    | next => exact fin hf
    | cont => exact fin hf
  · obtain rfl : i = vs.length := Nat.le_antisymm hi hge
    refine W.done _ _ _ (by simpa using hst) fun h₁ tk₁ hk₁ => ?_
    refine wpAny_execs_nil ?_
    exact done m' h₁ tk₁ hJ (frk (hkn hk₁) F') (nwk (hkn hk₁) N')
theorem q : S prog w A s env h₀ E Q xi xv pi pv pt pos x1 iter body L m := by unfold S; exact p
end ZforEnum
section
variable {prog : Program} {w : World} {A : Around} {s : Shared} {env : Env} {h₀ : Heap}
theorem forEnum {E : Value → Shared → Prop}
    {Q : Flow → Shared → Prop}
    {xi xv : Str}
    {pi pv pt pos : Pos}
    {x1 : Nat}
    {iter : Expr}
    {body : List Stmt}
    {L : Addr}
    {m : Str → Option Value}
    (_F : Fr h₀ L s.heap m)
    (hxi : env.kindOf xi = some .local)
    (hxv : env.kindOf xv = some .local)
    (hp : (env.scope.kind == .class || (env.scope.kind == .module && env.locals != env.globals)) = false)
    (h : wpAny (model prog w) A (eval iter env) (EnAt prog w A h₀ env xi xv body Q E) E s)
    (hs : ∀ x, foldedSetIterable iter env x = pure x := by intro _; rfl)
    (hE : PassesOwn (model prog w) A env E := by passes_own) : wpAny (model prog w) A (exec (.For (.Tuple [.Name xi pi, .Name xv pv] x1 pt) iter body [] pos) env) Q E s :=
  epsAll (P := fun zz => ZforEnum.S (zz.1) (zz.2.1) (zz.2.2.1) (zz.2.2.2.1) (zz.2.2.2.2.1) (zz.2.2.2.2.2.1) (zz.2.2.2.2.2.2.1) (zz.2.2.2.2.2.2.2.1) (zz.2.2.2.2.2.2.2.2.1) (zz.2.2.2.2.2.2.2.2.2.1) (zz.2.2.2.2.2.2.2.2.2.2.1) (zz.2.2.2.2.2.2.2.2.2.2.2.1) (zz.2.2.2.2.2.2.2.2.2.2.2.2.1) (zz.2.2.2.2.2.2.2.2.2.2.2.2.2.1) (zz.2.2.2.2.2.2.2.2.2.2.2.2.2.2.1) (zz.2.2.2.2.2.2.2.2.2.2.2.2.2.2.2.1) (zz.2.2.2.2.2.2.2.2.2.2.2.2.2.2.2.2.1) (zz.2.2.2.2.2.2.2.2.2.2.2.2.2.2.2.2.2.1) (zz.2.2.2.2.2.2.2.2.2.2.2.2.2.2.2.2.2.2)) ZforEnum.q (prog, w, A, s, env, h₀, E, Q, xi, xv, pi, pv, pt, pos, x1, iter, body, L, m) _F hxi hxv hp h hs hE
end
end
local macro_rules | `(tactic| walk_at "exec For Tuple Call cons nil") => `(tactic| (k_here; k_dflt ((rename Fr _ _ _ _ => lF'); (with_unfolding_all refine' forEnum lF' ?k1 ?k2 ?k3 ?_; (case k1 => exact rfl); (case k2 => exact rfl); (case k3 => exact rfl); k_whole))))
local macro_rules | `(tactic| walk_at "call type:map") => `(tactic| (k_here; k_dflt ((with_reducible show wpAny _ _ (PySem.call (Value.type "map") [Value.ref _, Value.ref _]) _ _ _); (refine' mapL ?k1 ?k2 ?k3 ?_; (case k1 => k_asm); (case k2 => k_asm); (case k3 => first | k_mem | (repeat (first | assumption | apply memTail))); k_whole); (intro h9 M9 T9 It9 oI9 F9 N9 hit9 d19 d29 off9))))
local macro_rules | `(tactic| walk_at "call type:tuple") => `(tactic| (k_here; k_dflt ((with_reducible show wpAny _ _ (PySem.call (Value.type "tuple") [Value.ref _]) _ _ _); (refine' call_tuple_map rfl (gives_fspath (by assumption) (by k_asm) (by k_asm) (by k_asm) (by first | exact rfl | assumption) (by constructor <;> first | ktr_room | ktr_units)) (by assumption) ?k3 _ (by k_asm) (by k_asm) (by assumption) (by assumption) (by assumption) (by assumption) ?_; (case k3 => first | k_mem | (repeat (first | assumption | apply memTail))); k_whole); (intro h9 tk9 T9 F9 N9))))
local macro_rules | `(tactic| walk_at "truthy ref") => `(tactic| (k_here; k_dflt ((with_reducible show wpAny _ _ (truthy (Value.ref _)) _ _ _); (refine' truthyT1 ?k1 ?k2 ?k3 ?_; (case k1 => k_asm); (case k2 => k_mem); (case k3 => assumption); k_whole); (intro tk9))))
local macro_rules | `(tactic| walk_at "subscriptTail") => `(tactic| (k_here; k_dflt ((with_reducible show wpAny _ _ (subscriptTail _ _ (Value.ref _) (Value.int 0 _)) _ _ _); (with_unfolding_all refine' itemT0 ?k1 ?k2 ?_; (case k1 => k_asm); (case k2 => k_mem); k_whole))))
local macro_rules | `(tactic| walk_at "exec Try") => `(tactic| (k_here; k_dflt (refine tryQuiet ?_)))
local macro_rules | `(tactic| walk_at "exec Assign cons ListComp") => `(tactic| (k_here; k_dflt (refine assignListCompS (F₀ := by k_asm) (by rfl) (by with_unfolding_all rfl) (by with_unfolding_all rfl) (by decide) (by rfl) (by decide) (by rfl) (by rfl) (by rfl) ?_)))
local macro_rules | `(tactic| walk_at "eval ListComp") => `(tactic| (k_here; k_dflt (refine listCompS (F₀ := by k_asm) (by with_unfolding_all rfl) (by decide) (by rfl) (by decide) (by rfl) ?_)))
local macro_rules | `(tactic| walk_at "call builtin:str.split") => `(tactic| (k_here; k_dflt ((with_reducible show wpAny _ _ (PySem.call (Value.builtin "str.split") [Value.str _ _, Value.str _ _]) _ _ _); (refine KSpl.split1 (by k_asm) (by k_asm) (by decide +kernel) ?_ (by rw [sizeLine_eq]; omega)); (intro NC l8 h8 k8 el8 al8 F8 N8 lt8))))
local macro_rules | `(tactic| walk_at "eval SetComp") => `(tactic| (k_here; k_dflt (refine setComp (by k_asm) (by with_unfolding_all rfl) (by decide) (by rfl) (by decide) (by rfl) ?_)))
local macro_rules | `(tactic| walk_at "subscriptTail") => `(tactic| (k_here; k_dflt ((with_reducible show wpAny _ _ (subscriptTail _ _ (Value.ref _) (Value.int _ _)) _ _ _); (with_unfolding_all refine' itemAt ?k1 ?k2 ?k3 ?k4 ?_; (case k1 => k_asm); (case k2 => k_mem); (case k3 => assumption); (case k4 => omega); k_whole))))
local macro_rules | `(tactic| walk_at "subscriptTail") => `(tactic| (k_here; k_dflt ((with_reducible show wpAny _ _ (subscriptTail _ _ (Value.ref _) (Value.ref _)) _ _ _); (with_unfolding_all refine' sliceUpto ?k1 ?k2 ?k3 ?k4 ?_; (case k1 => k_asm); (case k2 => k_asm); (case k3 => k_mem); (case k4 => first | omega | (simp only [strValues, List.length_map]; omega)); k_whole); (intro h9 F9 N9 lt9))))
local macro_rules | `(tactic| walk_at "subscriptTail Name Name ref int") => `(tactic| (k_here; k_dflt ((with_reducible show wpAny _ _ (subscriptTail _ _ (Value.ref _) (Value.int _ _)) _ _ _); (with_unfolding_all refine' itemAt ?k1 ?k2 ?k3 ?k4 ?_; (case k1 => k_asm); (case k2 => k_mem); (case k3 => assumption); (case k4 => omega); k_whole))))
section
open PySem PySem.W PyProof.Rows PySem.Calls
set_option Elab.async false
set_option maxRecDepth 100000
set_option maxHeartbeats 8000000
section
variable {w : World} {loose : List Str} {mean : ExcName → Option Value} {mg mb : Str → Option Value} {news : List (Addr × Obj)}
  {dp un : Nat} {gd : Option (List Code)} {cn : Str} {cs : Scope} {a : Addr} {ccd : Value} {cl : List (Str × Addr)} {outer : List Env} {A₀ : Around} {base h₀ : Heap} {L : Addr} {m : Str → Option Value} {s : Shared} {Q E : Value → Shared → Prop}
def compsOf (xs : List Str) : List (List Str) := (xs.map fun x => Txt.split x (Str.ofString "/")).map fun l => l.filter keepC
end
namespace Zcommonpath_c
def S (w : World) (loose : List Str) (mean : ExcName → Option Value) (mg : Str → Option Value) (mb : Str → Option Value) (news : List (Addr × Obj)) (dp : Nat) (un : Nat) (gd : Option (List Code)) (cn : Str) (cs : Scope) (a : Addr) (ccd : Value) (cl : List (Str × Addr)) (outer : List Env) (A₀ : Around) (base : Heap) (h₀ : Heap) (L : Addr) (m : Str → Option Value) (s : Shared) (Q : Value → Shared → Prop) (E : Value → Shared → Prop) (D : Addr) (vr : List Value) (ss : List Str) (nn : Nat) (x0 : Str) (t0 : Tok) : Prop := (hv : StrsAre (.str x0 t0 :: vr) (x0 :: ss)) → (hz : Short (.str x0 t0 :: vr)) → (hz1 : (Value.str x0 t0 :: vr).length ≤ 1000) → (hD : (D, listOf (Value.str x0 t0 :: vr).toArray nn) ∈ news) → (hst : ∀ y ∈ x0 :: ss, Txt.startswith y (Str.ofString "/") = true ∧ y.length ≤ 1000) → (B : Below A₀ base outer h₀) → (F : Fr h₀ L s.heap m) → (X : (hd.heap_39 w.params).In h₀) → (N : News h₀ L s.heap news) → (T : Top hd.view_39 loose mean mg mb h₀) → (hk : cs.kind = .function) → (hR : dp + 60 < recursionLimit ∧ un + 600 < cLine) → (hret : ∀ (h' : Heap) (tk' : Nat) (t' : Tok) (s1 s2 : List Str), s1 ∈ compsOf (x0 :: ss) → s2 ∈ compsOf (x0 :: ss) → (∀ x ∈ compsOf (x0 :: ss), ltL x s1 = false) → (∀ x ∈ compsOf (x0 :: ss), ltL s2 x = false) → Fr h₀ L h' m → News h₀ L h' news → Q (.str (Str.ofString "/" ++ Str.join (Str.ofString "/") (lcpL s1 s2)) t') { s with heap := h', toks := tk' }) → wpAny (model Challenge.rw_pd0147_01.row.prog w) (ktrTop dp un gd cn cs L a ccd cl outer) (call (.ref 134) [.ref D]) Q E s
noncomputable def zz : (World) × (List Str) × (ExcName → Option Value) × (Str → Option Value) × (Str → Option Value) × (List (Addr × Obj)) × (Nat) × (Nat) × (Option (List Code)) × (Str) × (Scope) × (Addr) × (Value) × (List (Str × Addr)) × (List Env) × (Around) × (Heap) × (Heap) × (Addr) × (Str → Option Value) × (Shared) × (Value → Shared → Prop) × (Value → Shared → Prop) × (Addr) × (List Value) × (List Str) × (Nat) × (Str) × (Tok) := @Classical.epsilon _ ⟨((⟨fun _ _ => 0, { strHash := fun _ => 0, shareClass := fun _ => 0, mergeTok := id, idOf := fun _ => 0, idOfShared := fun _ _ => 0, followText := fun _ => false, idOfImm := fun _ => 0 }⟩ : World), (Classical.ofNonempty : List Str), (Classical.ofNonempty : ExcName → Option Value), (Classical.ofNonempty : Str → Option Value), (Classical.ofNonempty : Str → Option Value), (Classical.ofNonempty : List (Addr × Obj)), (Classical.ofNonempty : Nat), (Classical.ofNonempty : Nat), (Classical.ofNonempty : Option (List Code)), (Classical.ofNonempty : Str), (Classical.ofNonempty : Scope), (Classical.ofNonempty : Addr), (Classical.ofNonempty : Value), (Classical.ofNonempty : List (Str × Addr)), (Classical.ofNonempty : List Env), (callerA : Around), (Classical.ofNonempty : Heap), (Classical.ofNonempty : Heap), (Classical.ofNonempty : Addr), (Classical.ofNonempty : Str → Option Value), ({} : Shared), (Classical.ofNonempty : Value → Shared → Prop), (Classical.ofNonempty : Value → Shared → Prop), (Classical.ofNonempty : Addr), (Classical.ofNonempty : List Value), (Classical.ofNonempty : List Str), (Classical.ofNonempty : Nat), (Classical.ofNonempty : Str), (Classical.ofNonempty : Tok))⟩ fun zz => ¬ Zcommonpath_c.S (zz.1) (zz.2.1) (zz.2.2.1) (zz.2.2.2.1) (zz.2.2.2.2.1) (zz.2.2.2.2.2.1) (zz.2.2.2.2.2.2.1) (zz.2.2.2.2.2.2.2.1) (zz.2.2.2.2.2.2.2.2.1) (zz.2.2.2.2.2.2.2.2.2.1) (zz.2.2.2.2.2.2.2.2.2.2.1) (zz.2.2.2.2.2.2.2.2.2.2.2.1) (zz.2.2.2.2.2.2.2.2.2.2.2.2.1) (zz.2.2.2.2.2.2.2.2.2.2.2.2.2.1) (zz.2.2.2.2.2.2.2.2.2.2.2.2.2.2.1) (zz.2.2.2.2.2.2.2.2.2.2.2.2.2.2.2.1) (zz.2.2.2.2.2.2.2.2.2.2.2.2.2.2.2.2.1) (zz.2.2.2.2.2.2.2.2.2.2.2.2.2.2.2.2.2.1) (zz.2.2.2.2.2.2.2.2.2.2.2.2.2.2.2.2.2.2.1) (zz.2.2.2.2.2.2.2.2.2.2.2.2.2.2.2.2.2.2.2.1) (zz.2.2.2.2.2.2.2.2.2.2.2.2.2.2.2.2.2.2.2.2.1) (zz.2.2.2.2.2.2.2.2.2.2.2.2.2.2.2.2.2.2.2.2.2.1) (zz.2.2.2.2.2.2.2.2.2.2.2.2.2.2.2.2.2.2.2.2.2.2.1) (zz.2.2.2.2.2.2.2.2.2.2.2.2.2.2.2.2.2.2.2.2.2.2.2.1) (zz.2.2.2.2.2.2.2.2.2.2.2.2.2.2.2.2.2.2.2.2.2.2.2.2.1) (zz.2.2.2.2.2.2.2.2.2.2.2.2.2.2.2.2.2.2.2.2.2.2.2.2.2.1) (zz.2.2.2.2.2.2.2.2.2.2.2.2.2.2.2.2.2.2.2.2.2.2.2.2.2.2.1) (zz.2.2.2.2.2.2.2.2.2.2.2.2.2.2.2.2.2.2.2.2.2.2.2.2.2.2.2.1) (zz.2.2.2.2.2.2.2.2.2.2.2.2.2.2.2.2.2.2.2.2.2.2.2.2.2.2.2.2)
noncomputable def w : World := zz.1
noncomputable def loose : List Str := zz.2.1
noncomputable def mean : ExcName → Option Value := zz.2.2.1
noncomputable def mg : Str → Option Value := zz.2.2.2.1
noncomputable def mb : Str → Option Value := zz.2.2.2.2.1
noncomputable def news : List (Addr × Obj) := zz.2.2.2.2.2.1
noncomputable def dp : Nat := zz.2.2.2.2.2.2.1
noncomputable def un : Nat := zz.2.2.2.2.2.2.2.1
noncomputable def gd : Option (List Code) := zz.2.2.2.2.2.2.2.2.1
noncomputable def cn : Str := zz.2.2.2.2.2.2.2.2.2.1
noncomputable def cs : Scope := zz.2.2.2.2.2.2.2.2.2.2.1
noncomputable def a : Addr := zz.2.2.2.2.2.2.2.2.2.2.2.1
noncomputable def ccd : Value := zz.2.2.2.2.2.2.2.2.2.2.2.2.1
noncomputable def cl : List (Str × Addr) := zz.2.2.2.2.2.2.2.2.2.2.2.2.2.1
noncomputable def outer : List Env := zz.2.2.2.2.2.2.2.2.2.2.2.2.2.2.1
noncomputable def A₀ : Around := zz.2.2.2.2.2.2.2.2.2.2.2.2.2.2.2.1
noncomputable def base : Heap := zz.2.2.2.2.2.2.2.2.2.2.2.2.2.2.2.2.1
noncomputable def h₀ : Heap := zz.2.2.2.2.2.2.2.2.2.2.2.2.2.2.2.2.2.1
noncomputable def L : Addr := zz.2.2.2.2.2.2.2.2.2.2.2.2.2.2.2.2.2.2.1
noncomputable def m : Str → Option Value := zz.2.2.2.2.2.2.2.2.2.2.2.2.2.2.2.2.2.2.2.1
noncomputable def s : Shared := zz.2.2.2.2.2.2.2.2.2.2.2.2.2.2.2.2.2.2.2.2.1
noncomputable def Q : Value → Shared → Prop := zz.2.2.2.2.2.2.2.2.2.2.2.2.2.2.2.2.2.2.2.2.2.1
noncomputable def E : Value → Shared → Prop := zz.2.2.2.2.2.2.2.2.2.2.2.2.2.2.2.2.2.2.2.2.2.2.1
noncomputable def D : Addr := zz.2.2.2.2.2.2.2.2.2.2.2.2.2.2.2.2.2.2.2.2.2.2.2.1
noncomputable def vr : List Value := zz.2.2.2.2.2.2.2.2.2.2.2.2.2.2.2.2.2.2.2.2.2.2.2.2.1
noncomputable def ss : List Str := zz.2.2.2.2.2.2.2.2.2.2.2.2.2.2.2.2.2.2.2.2.2.2.2.2.2.1
noncomputable def nn : Nat := zz.2.2.2.2.2.2.2.2.2.2.2.2.2.2.2.2.2.2.2.2.2.2.2.2.2.2.1
noncomputable def x0 : Str := zz.2.2.2.2.2.2.2.2.2.2.2.2.2.2.2.2.2.2.2.2.2.2.2.2.2.2.2.1
noncomputable def t0 : Tok := zz.2.2.2.2.2.2.2.2.2.2.2.2.2.2.2.2.2.2.2.2.2.2.2.2.2.2.2.2
theorem p (hv : StrsAre (.str x0 t0 :: vr) (x0 :: ss)) (hz : Short (.str x0 t0 :: vr)) (hz1 : (Value.str x0 t0 :: vr).length ≤ 1000) (hD : (D, listOf (Value.str x0 t0 :: vr).toArray nn) ∈ news) (hst : ∀ y ∈ x0 :: ss, Txt.startswith y (Str.ofString "/") = true ∧ y.length ≤ 1000) (B : Below A₀ base outer h₀) (F : Fr h₀ L s.heap m) (X : (hd.heap_39 w.params).In h₀) (N : News h₀ L s.heap news) (T : Top hd.view_39 loose mean mg mb h₀) (hk : cs.kind = .function) (hR : dp + 60 < recursionLimit ∧ un + 600 < cLine) (hret : ∀ (h' : Heap) (tk' : Nat) (t' : Tok) (s1 s2 : List Str), s1 ∈ compsOf (x0 :: ss) → s2 ∈ compsOf (x0 :: ss) → (∀ x ∈ compsOf (x0 :: ss), ltL x s1 = false) → (∀ x ∈ compsOf (x0 :: ss), ltL s2 x = false) → Fr h₀ L h' m → News h₀ L h' news → Q (.str (Str.ofString "/" ++ Str.join (Str.ofString "/") (lcpL s1 s2)) t') { s with heap := h', toks := tk' }) : wpAny (model Challenge.rw_pd0147_01.row.prog w) (ktrTop dp un gd cn cs L a ccd cl outer) (call (.ref 134) [.ref D]) Q E s := by
  obtain ⟨hR1, hR2⟩ := hR
  revert X; k_fill; intro X
  refine wpAny_call ?_
  k_dflt (refine' code_defC ?k1 ?k2 ?k3 ?k4 ?k5 ?kA ?kF ?kK ?k6 ?k7 ?k8 ?k9 ?kB ?kD ?_ ?c2 ?c3 ?c4; (case kA => exact rfl); (case kF => exact rfl); (case kK => assumption); (case k1 => k_asm); (case k2 => k_asm); (case k3 => k_asm); (case k4 => k_asm); (case k5 => k_asm); (case k6 => k_is); (case k7 => k_is); (case k8 => ktr_room); (case k9 => exact BindsTo.of_eq rfl); (case kB => exact rfl); (case kD => decide +kernel); (case c2 => exact rfl); (case c3 => exact rfl); (case c4 => exact rfl); k_whole)
  intro g7 L7 h7 tk7 cells7 FG7 F7 N7 Y7 B7 X7 T7 l7
  try k_lt l7
  obtain ⟨o7, o8, hE7, d7, d8⟩ := CellsAre.two Y7
  subst hE7
  clear Y7
  replace d7 : o7.data = .cell none := d7.trans (by with_unfolding_all rfl)
  replace d8 : o8.data = .cell none := d8.trans (by with_unfolding_all rfl)
  replace F7 : Fr _ _ _ (fun y => if y = Str.ofString "paths" then some (.ref D) else none) := F7
  simp only [List.cons_append, List.nil_append] at N7
  try dsimp only
  try k_lift B7
  try k_fold
  have hlim7 := T7.nolimit
  walk_at "mine steps"
  rename_i T9 h10 F10 N10 tkA tkB
  have c1 : (L7 + 1 + 1 : Addr) ≠ L7 + 1 := Nat.ne_of_gt (Nat.lt_succ_self _)
  have nT : ∀ c o v, (c, o) ∈ ((L7 + 1 + 1, o7) :: (L7 + 1, o8) :: news) → o.data = .cell v → T9 ≠ c := fun c o v hm hd => by
    refine N10.twoPlaces (p := (T9, _)) (q := (c, o)) (.head _) (.tail _ hm) fun e => ?_
    have e : ({ cls := Value.type "tuple", data := Data.seq (Value.str x0 t0 :: vr).toArray } : Obj) = o := e
    rw [← e] at hd; cases hd
  have nT1 : T9 ≠ L7 + 1 := nT _ o8 _ (by simp) d8
  have nT2 : T9 ≠ L7 + 1 + 1 := nT _ o7 _ (by simp) d7
  refine storeC (own := [(T9, _), (L7 + 1 + 1, o7)]) (c := L7 + 1) (o := o8) (rest := news) F10 N10 rfl rfl rfl d8 ?_ ?_ ?_
  · intro p hp
    rcases List.mem_cons.mp hp with rfl | hp
    · exact nT1
    · rw [List.mem_singleton.mp hp]; exact c1
  · intro p hp
    exact Nat.ne_of_lt (Nat.lt_succ_of_lt (l7 p hp))
  clear F10 N10 d8
  intro h11 o11 F11 N11 d11
  simp only [List.cons_append, List.nil_append] at N11
  try dsimp only
  walk_at "mine steps"
  refine storeC (own := [(T9, _)]) (c := L7 + 1 + 1) (o := o7) (rest := (L7 + 1, o11) :: news) F11 N11 rfl rfl rfl d7 ?_ ?_ ?_
  · intro p hp
    rw [List.mem_singleton.mp hp]; exact nT2
  · intro p hp
    rcases List.mem_cons.mp hp with rfl | hp
    · exact Ne.symm c1
    · exact Nat.ne_of_lt (Nat.lt_succ_of_lt (Nat.lt_succ_of_lt (l7 p hp)))
  clear F11 N11 d7
  intro h12 o12 F12 N12 d12
  simp only [List.cons_append, List.nil_append] at N12
  try dsimp only
  walk_at "mine steps"
  rename Fr _ _ _ _ => Fa
  rename News _ _ _ _ => Na
  refine srcTuple (fun g => g = s.gens) (fun i ys nw => LL nw ys (((x0 :: ss).take i).map fun x => Txt.split x (Str.ofString "/"))) rfl Fa Na (List.Mem.head _) (by omega) rfl LL.nil ?_ ?_
  · intro g
    refine turnsPlain ?_
    rintro i v ys nw I oI C oC D9 m₂ h9 tk9 gn E' hP ⟨hsub, hJ⟩ hC hx F9 N9 off9 ne9 rfl
    obtain ⟨x, t, rfl, hxi⟩ := strsAre_at hv hP
    have hxl := (hst x (List.mem_of_getElem? hxi)).2
    have N8 := newsIns3 N9 hsub
    clear N9 Na Fa
    try dsimp only
    walk_at "mine steps"
    rename_i NC l h8 k8 el al F8 N7 lt8
    refine TurnEnd.mk' ((NC, listOf (strValues l).toArray 0) :: nw) rfl F8 N7 ?_ (off3_above lt8 off9) ⟨fun p hp => .tail _ (hsub p hp), ?_⟩
    · intro p hp
      simp only [List.mem_cons] at hp ⊢
      rcases hp with h | h | h | h | h <;> simp [h]
    · show LL _ _ (((x0 :: ss).take (i + 1)).map fun x => Txt.split x (Str.ofString "/"))
      rw [List.take_add_one, hxi, List.map_append]
      have z := (hJ.mono (news' := (NC, listOf (strValues l).toArray 0) :: nw) fun p hp => .tail _ hp).snoc (.head _)
      rw [el] at z
      exact z
  · intro g gn ys nw hG hl hsub hJ
    subst hG
    intro D9 h9 tk9 F9 N9 o9
    have N8 := newsIns1 N9 hsub
    clear N9 Na Fa
    try dsimp only
    walk_at "mine steps"
    rename Fr _ _ _ _ => F9
    rename News _ _ _ _ => N8
    refine ⟨T9, _, _, _, rfl, rfl, F9, N8, .tail _ (.head _), by simp, ?_, ?_⟩
    · intro i v I oI C oC D8 oD m₂ h8 tk8 E' hP hC hx F7 N7 off7 ne7
      obtain ⟨x, t, rfl, hxi⟩ := strsAre_at hv hP
      have hxs := (hst x (List.mem_of_getElem? hxi)).1
      clear F9 N8
      try dsimp only
      walk_at "mine steps"
      rename Fr _ _ _ _ => Fe
      rename News _ _ _ _ => Ne
      rw [hxs]
      exact TrueEnd.mk' Fe Ne fun p hp => hp
    · intro D8 h8 tk8 F8 N7 o8
      clear F9 N8
      try dsimp only
      walk_at "mine steps"
      refine unpackSet rfl (N7 _ (.head _)).1 rfl fun h10 e10 => ?_
      have F9 := frNew F8 e10
      have N9 := newsNew N7 e10
      clear F8 N7 e10 o8 o9
      generalize hlls : (x0 :: ss).map (fun x => Txt.split x (Str.ofString "/")) = lls at *
      have hJ' : LL nw ys lls := by
        have : (x0 :: ss).length = (Value.str x0 t0 :: vr).length := hv.length.symm
        rw [← this, List.take_length, hlls] at hJ
        exact hJ
      try dsimp only
      walk_at "mine steps"
      rename Fr _ _ _ _ => Fa
      rename News _ _ _ _ => Na
      refine srcList (vs := ys) (fun g => g = s.gens) (fun i zs nw => LL nw zs ((lls.take i).map fun l => l.filter keepC)) rfl Fa Na (.tail _ (.head _)) (by omega) rfl LL.nil ?_ ?_
      · intro g
        refine turnsPlain ?_
        rintro i v zs nw2 I oI C oC D7 m₂ h7 tk7 gn E' hP ⟨hsub2, hJ2⟩ hC hx F7 N7 off7 ne7 rfl
        obtain ⟨ai, li, ni, rfl, hmi, hli⟩ := hJ'.at hP
        have hmi2 : (ai, listOf (strValues li).toArray ni) ∈ nw2 := hsub2 _ (by simp [hmi])
        have N6 := newsIns3 (b1 := (ai, listOf (strValues li).toArray ni)) (b2 := (L7 + 1 + 1, o12)) (b3 := (L7 + 1, o11)) (r := []) N7 (by
          intro p hp
          simp only [List.mem_cons, List.not_mem_nil, or_false] at hp
          rcases hp with rfl | rfl | rfl
          · exact hmi2
          · exact hsub2 _ (by simp)
          · exact hsub2 _ (by simp))
        clear N7 Na Fa
        try dsimp only
        walk_at "mine steps"
        rename Fr _ _ _ _ => Fb
        rename News _ _ _ _ => Nb
        have hmem := List.mem_of_getElem? hli
        rw [← hlls] at hmem
        obtain ⟨x, hxm, e⟩ := List.mem_map.mp hmem
        have hlen : li.length ≤ 1001 := by
          have h1 := split_len x
          have h2 := (hst x hxm).2
          have h3 : (li.map (·.1)).length = li.length := List.length_map _
          rw [← e] at h3
          omega
        have hcl9 : ∀ c ∈ li.map (·.1), c.length ≤ 1000 := fun c hc => Nat.le_trans (PyProof.Rows.part_short (by rw [e]; exact hc)) (hst x hxm).2
        refine srcList (vs := strValues li) (nn := ni) (fun g => g = s.gens) (fun j zs2 _ => ∃ l', zs2 = strValues l' ∧ l'.map (·.1) = ((li.map (·.1)).take j).filter keepC) rfl Fb Nb (.tail _ (.tail _ (.tail _ (.head _)))) (by simp only [strValues, List.length_map]; omega) rfl ⟨[], rfl, rfl⟩ ?_ ?_
        · intro g2
          refine turnsTest ?_
          rintro j v zs2 nw3 I2 oI2 C2 oC2 D2 m3 h6 tk6 gn E2 hP2 ⟨hsub3, l', rfl, hl'⟩ hC2 hx2 F6 N6 off6 ne6 rfl
          obtain ⟨c, tc, rfl, hlc⟩ := strsAre_at (strsAre_of_values li) hP2
          have hcl := hcl9 c (List.mem_of_getElem? hlc)
          have N5 := newsIns3 (b1 := (L7 + 1 + 1, o12)) (b2 := (L7 + 1 + 1, o12)) (b3 := (L7 + 1 + 1, o12)) (r := []) N6 (by
            intro p hp
            simp only [List.mem_cons, List.not_mem_nil, or_false, or_self] at hp
            subst hp
            exact hsub3 _ (by simp))
          clear N6 Nb Fb
          try dsimp only
          walk_at "mine steps"
          all_goals
            rename Fr _ _ _ _ => F5
            rename News _ _ _ _ => N5
          · refine TurnEnd.mk' nw3 rfl F5 N5 ?_ off6 ⟨hsub3, l' ++ [(c, tc)], by simp [strValues], ?_⟩
            · intro p hp
              simp only [List.mem_cons] at hp ⊢
              rcases hp with h | h | h | h <;> simp [h]
            · rw [List.map_append, hl', keep_yes hlc (keep_t (by assumption) (by assumption))]; rfl
          · refine TurnEnd.mk' nw3 rfl F5 N5 ?_ off6 ⟨hsub3, l', rfl, ?_⟩
            · intro p hp
              simp only [List.mem_cons] at hp ⊢
              rcases hp with h | h | h | h <;> simp [h]
            · rw [hl', keep_no hlc (keep_f1 (by assumption))]
          · refine TurnEnd.mk' nw3 rfl F5 N5 ?_ off6 ⟨hsub3, l', rfl, ?_⟩
            · intro p hp
              simp only [List.mem_cons] at hp ⊢
              rcases hp with h | h | h | h <;> simp [h]
            · rw [hl', keep_no hlc (keep_f0 (by assumption))]
        · intro g2 gn zs2 nw3 hG2 hl3 hsub3 hJ3
          subst hG2
          obtain ⟨l', rfl, hl'⟩ := hJ3
          intro D2 h6 tk6 F6 N6 o6
          have m6 := off1_mem o6
          have hl'' : l'.map (·.1) = (li.map (·.1)).filter keepC := by
            have : (strValues li).length = (li.map (·.1)).length := by simp [strValues]
            rw [hl', this, List.take_length]
          refine TurnEnd.mk' ((D2, listOf (strValues l').toArray (strValues l').length) :: nw2) rfl F6 N6 ?_ (off3_cons ⟨?_, ?_, ?_⟩ off7) ⟨fun p hp => .tail _ (hsub2 p hp), ?_⟩
          · intro p hp
            simp only [List.mem_cons] at hp
            rcases hp with rfl | rfl | rfl | rfl | hp
            · exact .tail _ (hsub3 _ (by simp))
            · exact .tail _ (hsub3 _ (by simp))
            · exact .tail _ (hsub3 _ (by simp))
            · exact .head _
            · exact .tail _ (hsub3 _ (by simp [hp]))
          · exact Ne.symm (m6 (I, oI) (hsub3 _ (by simp)))
          · exact Ne.symm (m6 (C, oC) (hsub3 _ (by simp)))
          · exact Ne.symm (m6 (D7, LCg.lst zs) (hsub3 _ (by simp)))
          · show LL _ _ ((lls.take (i + 1)).map fun l => l.filter keepC)
            rw [List.take_add_one, hli, List.map_append]
            have z := (hJ2.mono (news' := (D2, listOf (strValues l').toArray (strValues l').length) :: nw2) fun p hp => .tail _ hp).snoc (.head _)
            rw [hl''] at z
            exact z
      · intro g gn zs nw2 hG hl2 hsub2 hJ2
        subst hG
        intro D7 h7 tk7 F7 N7 o7
        try dsimp only
        walk_at "mine steps"
        rename Fr _ _ _ _ => Fc
        rename News _ _ _ _ => Nc
        have hJ3 : LL nw2 zs (lls.map fun l => l.filter keepC) := by
          rw [hJ'.length, List.take_length] at hJ2
          exact hJ2
        have hne : zs ≠ [] := by
          intro e
          have h1 := hJ3.length
          rw [e, ← hlls] at h1
          simp at h1
        have hzl : zs.length ≤ 100000 := by omega
        refine call_minL rfl (by ktr_units) Fc Nc (.head _) (hJ3.mono fun p hp => .tail _ hp) hne hzl ?_
        intro h8 tk8 a1 ss1 hm1 hs1 hmin F8 N8
        clear Fc Nc
        try dsimp only
        walk_at "mine steps"
        rename Fr _ _ _ _ => Fd
        rename News _ _ _ _ => Nd
        refine call_maxL rfl (by ktr_units) Fd Nd (.head _) (hJ3.mono fun p hp => .tail _ hp) hne hzl ?_
        intro h9 tk9 a2 ss2 hm2 hs2 hmax F9 N9
        clear Fd Nd
        try dsimp only
        walk_at "mine steps"
        rename Fr _ _ _ _ => Fd
        rename News _ _ _ _ => Nd
        obtain ⟨l1, n1, hm1, hl1⟩ := hm1
        obtain ⟨l2, n2, hm2, hl2'⟩ := hm2
        have hss : ∀ ss ∈ lls.map (fun l => l.filter keepC), ss.length ≤ 1001 ∧ ∀ c ∈ ss, c.length ≤ 1000 := by
          intro sq hsq
          obtain ⟨cs, hcs, rfl⟩ := List.mem_map.mp hsq
          rw [← hlls] at hcs
          obtain ⟨x, hxm, rfl⟩ := List.mem_map.mp hcs
          have h1 := split_len x
          have h2 := (hst x hxm).2
          have h3 := List.length_filter_le keepC (Txt.split x (Str.ofString "/"))
          exact ⟨by omega, fun c hc => Nat.le_trans (PyProof.Rows.part_short ((List.mem_filter.mp hc).1)) h2⟩
        have hcomp : compsOf (x0 :: ss) = lls.map (fun l => l.filter keepC) := by unfold compsOf; rw [hlls]
        rw [hcomp] at hret
        have hdrop : ∀ p ∈ news, p ∈ nw2 := fun p hp => hsub2 p (by have := hsub p (by simp [hp]); simp [this])
        have hz1 := (hss _ hs1).1
        have hz2 := (hss _ hs2).1
        have hc1 := (hss _ hs1).2
        have hc2 := (hss _ hs2).2
        have hw1 : l1.length = ss1.length := by rw [← hl1, List.length_map]
        have hw2 : l2.length = ss2.length := by rw [← hl2', List.length_map]
        have Ne := newsAdd (base := [(a1, listOf (strValues l1).toArray n1), (a2, listOf (strValues l2).toArray n2), (L7 + 1, o11)]) Nd (by
          intro p hp
          simp only [List.mem_cons, List.not_mem_nil, or_false] at hp
          rcases hp with rfl | rfl | rfl
          · exact hm1
          · exact hm2
          · exact .tail _ (hsub2 _ (by simp)))
        simp only [List.cons_append, List.nil_append] at Ne
        clear Nd
        refine call_enumerate_list (l := a1) (items := (strValues l1).toArray) ⟨_, (Ne _ (.head _)).1, rfl, n1, rfl⟩ fun h10 he hit hsz2 hk => ?_
        obtain ⟨m0, hm0, F0⟩ := frMap Fd
        have fr1 := freshFrom F0 (Nat.le_succ _)
        have fr0 := freshFrom F0 (Nat.le_refl _)
        have nb1 := newsBelow Ne (Nat.le_succ _)
        have nb0 := newsBelow Ne (Nat.le_refl _)
        refine ⟨_, _, a1, strValues l1, n1, m0, _, fun i m => ss1.take i = ss2.take i ∧ ∀ z, z ≠ Str.ofString "i" → z ≠ Str.ofString "c" → m z = m0 z, rfl, rfl, Nat.succ_ne_self _, he, hit, F0.keeps hk, Ne.grown hk, .head _, fun p hp => ⟨nb1 p hp, nb0 p hp⟩, fr1.2, fr0.2, fr1.1, fr0.1, ⟨rfl, fun _ _ _ => rfl⟩, ?_, ?_⟩
        · intro i v m₁ h11 tk11 t1 oe oi hv ⟨hpre, hJm⟩ F11 N11
          have hi1 : i < l1.length := by
            rcases Nat.lt_or_ge i l1.length with q | q
            · exact q
            · rw [List.getElem?_eq_none (by simpa [strValues] using q)] at hv; cases hv
          have hi2 : i < l2.length := by
            rw [hw2]; exact ltL_room hpre (by rw [← hw1]; exact hi1) (hmax _ hs1)
          have hve : v = .str l1[i].1 l1[i].2 := by simpa [strValues, hi1] using hv.symm
          subst hve
          have e11 : (fun y => if y = Str.ofString "c" then some (Value.str l1[i].1 l1[i].2) else if y = Str.ofString "i" then some (Value.int (i : Int) t1) else m₁ y) = (fun y => if y = Str.ofString "c" then some (Value.str l1[i].1 l1[i].2) else if y = Str.ofString "i" then some (Value.int (i : Int) t1) else m0 y) := by
            funext y
            by_cases q1 : y = Str.ofString "c"
            · simp [q1]
            · by_cases q2 : y = Str.ofString "i"
              · simp [q2]
              · simp only [if_neg q1, if_neg q2]; exact hJm y q2 q1
          rw [e11] at F11
          clear e11 hJm Ne Fd F0 he hit
          subst hm0
          replace F11 : Fr g7 L7 h11 _ := F11
          replace N11 : News g7 L7 h11 _ := N11
          try dsimp only at F11 N11
          have hs1i : ss1[i]? = some l1[i].1 := by rw [← hl1]; simp [hi1]
          have hs2i : ss2[i]? = some l2[i].1 := by rw [← hl2']; simp [hi2]
          try dsimp only
          walk_at "mine steps"
          · rename Fr _ _ _ _ => F12
            rename News _ _ _ _ => N12
            rename_i hne9 _ _ _
            have hlcp : lcpL ss1 ss2 = ss1.take i := lcp_break hpre hs1i hs2i (by simpa using hne9)
            have hSA : StrsAre (List.take i (strValues l1)) (lcpL ss1 ss2) := by
              have z := strsAre_of_values (l1.take i)
              rw [List.map_take, hl1, ← hlcp] at z
              simpa [strValues, List.map_take] using z
            have hFit : Fits (Str.ofString "/") (lcpL ss1 ss2) := by
              rw [hlcp]
              exact fits_of (by rw [List.length_take]; omega) fun c hc => hc1 c (List.mem_of_mem_take hc)
            dsimp only [EnPost]
            walk_at "mine steps"
            exact hret _ _ _ ss1 ss2 hs1 hs2 hmin hmax (by assumption) (newsDrop (by assumption) (by intro p hp; have := hdrop p hp; simp [this]))
          · rename Fr _ _ _ _ => F12
            rename News _ _ _ _ => N12
            rename_i heq9
            refine EnPost.mk' F12 N12 (fun p hp => hp) ⟨step_eq hpre hs1i hs2i (by simpa using heq9), fun z z1 z2 => ?_⟩
            simp only [if_neg z1, if_neg z2]
        · intro m₁ h11 tk11 ⟨hpre, hJm⟩ F11 N11
          have hlcp : lcpL ss1 ss2 = ss1 := lcp_whole (by
            have : (strValues l1).length = ss1.length := by simp [strValues, hw1]
            rw [this, List.take_length] at hpre
            exact hpre)
          have hSA : StrsAre (strValues l1) (lcpL ss1 ss2) := by
            rw [hlcp, ← hl1]; exact strsAre_of_values l1
          have hFit : Fits (Str.ofString "/") (lcpL ss1 ss2) := by
            rw [hlcp]; exact fits_of hz1 hc1
          have e11 : m₁ = (fun y => if y = Str.ofString "c" then m₁ (Str.ofString "c") else if y = Str.ofString "i" then m₁ (Str.ofString "i") else m0 y) := by
            funext y
            by_cases q1 : y = Str.ofString "c"
            · simp [q1]
            · by_cases q2 : y = Str.ofString "i"
              · subst q2; rw [if_neg q1, if_pos rfl]
              · simp only [if_neg q1, if_neg q2]; exact hJm y q2 q1
          rw [e11] at F11
          clear e11 hJm Ne Fd F0 he hit
          subst hm0
          replace F11 : Fr g7 L7 h11 _ := F11
          replace N11 : News g7 L7 h11 _ := N11
          try dsimp only at F11 N11
          try dsimp only
          walk_at "mine steps"
          exact hret _ _ _ ss1 ss2 hs1 hs2 hmin hmax (by assumption) (newsDrop (by assumption) (by intro p hp; have := hdrop p hp; simp [this]))
theorem q : S w loose mean mg mb news dp un gd cn cs a ccd cl outer A₀ base h₀ L m s Q E D vr ss nn x0 t0 := by unfold S; exact p
end Zcommonpath_c
section
variable {w : World} {loose : List Str} {mean : ExcName → Option Value} {mg mb : Str → Option Value} {news : List (Addr × Obj)}
  {dp un : Nat} {gd : Option (List Code)} {cn : Str} {cs : Scope} {a : Addr} {ccd : Value} {cl : List (Str × Addr)} {outer : List Env} {A₀ : Around} {base h₀ : Heap} {L : Addr} {m : Str → Option Value} {s : Shared} {Q E : Value → Shared → Prop}
theorem commonpath_c {D : Addr}
    {vr : List Value}
    {ss : List Str}
    {nn : Nat}
    {x0 : Str}
    {t0 : Tok}
    (hv : StrsAre (.str x0 t0 :: vr) (x0 :: ss))
    (hz : Short (.str x0 t0 :: vr))
    (hz1 : (Value.str x0 t0 :: vr).length ≤ 1000)
    (hD : (D, listOf (Value.str x0 t0 :: vr).toArray nn) ∈ news)
    (hst : ∀ y ∈ x0 :: ss, Txt.startswith y (Str.ofString "/") = true ∧ y.length ≤ 1000)
    (B : Below A₀ base outer h₀)
    (F : Fr h₀ L s.heap m)
    (X : (hd.heap_39 w.params).In h₀)
    (N : News h₀ L s.heap news)
    (T : Top hd.view_39 loose mean mg mb h₀)
    (hk : cs.kind = .function)
    (hR : dp + 60 < recursionLimit ∧ un + 600 < cLine)
    (hret : ∀ (h' : Heap) (tk' : Nat) (t' : Tok) (s1 s2 : List Str), s1 ∈ compsOf (x0 :: ss) → s2 ∈ compsOf (x0 :: ss) → (∀ x ∈ compsOf (x0 :: ss), ltL x s1 = false) → (∀ x ∈ compsOf (x0 :: ss), ltL s2 x = false) → Fr h₀ L h' m → News h₀ L h' news →
    Q (.str (Str.ofString "/" ++ Str.join (Str.ofString "/") (lcpL s1 s2)) t') { s with heap := h', toks := tk' }) : wpAny (model Challenge.rw_pd0147_01.row.prog w) (ktrTop dp un gd cn cs L a ccd cl outer) (call (.ref 134) [.ref D]) Q E s :=
  epsAll (P := fun zz => Zcommonpath_c.S (zz.1) (zz.2.1) (zz.2.2.1) (zz.2.2.2.1) (zz.2.2.2.2.1) (zz.2.2.2.2.2.1) (zz.2.2.2.2.2.2.1) (zz.2.2.2.2.2.2.2.1) (zz.2.2.2.2.2.2.2.2.1) (zz.2.2.2.2.2.2.2.2.2.1) (zz.2.2.2.2.2.2.2.2.2.2.1) (zz.2.2.2.2.2.2.2.2.2.2.2.1) (zz.2.2.2.2.2.2.2.2.2.2.2.2.1) (zz.2.2.2.2.2.2.2.2.2.2.2.2.2.1) (zz.2.2.2.2.2.2.2.2.2.2.2.2.2.2.1) (zz.2.2.2.2.2.2.2.2.2.2.2.2.2.2.2.1) (zz.2.2.2.2.2.2.2.2.2.2.2.2.2.2.2.2.1) (zz.2.2.2.2.2.2.2.2.2.2.2.2.2.2.2.2.2.1) (zz.2.2.2.2.2.2.2.2.2.2.2.2.2.2.2.2.2.2.1) (zz.2.2.2.2.2.2.2.2.2.2.2.2.2.2.2.2.2.2.2.1) (zz.2.2.2.2.2.2.2.2.2.2.2.2.2.2.2.2.2.2.2.2.1) (zz.2.2.2.2.2.2.2.2.2.2.2.2.2.2.2.2.2.2.2.2.2.1) (zz.2.2.2.2.2.2.2.2.2.2.2.2.2.2.2.2.2.2.2.2.2.2.1) (zz.2.2.2.2.2.2.2.2.2.2.2.2.2.2.2.2.2.2.2.2.2.2.2.1) (zz.2.2.2.2.2.2.2.2.2.2.2.2.2.2.2.2.2.2.2.2.2.2.2.2.1) (zz.2.2.2.2.2.2.2.2.2.2.2.2.2.2.2.2.2.2.2.2.2.2.2.2.2.1) (zz.2.2.2.2.2.2.2.2.2.2.2.2.2.2.2.2.2.2.2.2.2.2.2.2.2.2.1) (zz.2.2.2.2.2.2.2.2.2.2.2.2.2.2.2.2.2.2.2.2.2.2.2.2.2.2.2.1) (zz.2.2.2.2.2.2.2.2.2.2.2.2.2.2.2.2.2.2.2.2.2.2.2.2.2.2.2.2)) Zcommonpath_c.q (w, loose, mean, mg, mb, news, dp, un, gd, cn, cs, a, ccd, cl, outer, A₀, base, h₀, L, m, s, Q, E, D, vr, ss, nn, x0, t0) hv hz hz1 hD hst B F X N T hk hR hret
end
end
section
open PySem PySem.W PyProof.Rows PySem.Calls PyProof.Rows.LCg
set_option Elab.async false
set_option maxRecDepth 100000
set_option maxHeartbeats 4000000
/-- off the four objects of a comprehension whose name is a cell -/
def Off4 (I K C D : Addr) (l : List (Addr × Obj)) : Prop := ∀ p ∈ l, (@Ne Nat p.1 I) ∧ (@Ne Nat p.1 K) ∧ (@Ne Nat p.1 C) ∧ (@Ne Nat p.1 D)
theorem Off4.one {I K C D : Addr} : ∀ {l : List (Addr × Obj)}, Off4 I K C D l → Off1 D l
  | [], _ => trivial
  | _ :: _, h => ⟨(h _ (.head _)).2.2.2, Off4.one fun p hp => h p (.tail _ hp)⟩
def TurnEndC (h₀ : Heap) (L : Addr) (m : Str → Option Value) (G : Array GenState → Prop) (s₁ : Shared) (I : Addr) (oI : Obj) (K : Addr) (oK : Obj) (C : Addr) (oC : Obj) (D : Addr) (oD : Obj) (rest : Value → List (Addr × Obj) → Prop) (y : Value) (s₂ : Shared) : Prop :=
  ∃ h' tk gn news', s₂ = { s₁ with heap := h', toks := tk, gens := gn } ∧ G gn ∧ Fr h₀ L h' m ∧ News h₀ L h' ((I, oI) :: (K, oK) :: (C, oC) :: (D, oD) :: news') ∧ Off4 I K C D news' ∧ rest y news'
section
variable {prog : Program} {w : World} {A : Around} {E : Value → Shared → Prop} {s s₂ : Shared} {h₀ : Heap} {L : Addr} {m : Str → Option Value} {env : Env}
theorem TurnEndC.mkG {G : Array GenState → Prop} {s₁ : Shared} {I K C D : Addr} {oI oK oC oD : Obj} {rest : Value → List (Addr × Obj) → Prop} {y : Value} {h' : Heap} {tk : Nat} {gn : Array GenState} {all : List (Addr × Obj)} (news' : List (Addr × Obj))
    (hG : G gn) (F : Fr h₀ L h' m) (N : News h₀ L h' all) (sub : ∀ p ∈ (I, oI) :: (K, oK) :: (C, oC) :: (D, oD) :: news', p ∈ all) (off : Off4 I K C D news') (r : rest y news') :
    TurnEndC h₀ L m G s₁ I oI K oK C oC D oD rest y { s₁ with heap := h', toks := tk, gens := gn } := ⟨h', tk, gn, news', rfl, hG, F, fun p hp => N p (sub p hp), off, r⟩
/-- the frame of a comprehension whose own name is a cell -/
theorem newEnvCell {scope : Scope} {globals : Addr} {cl : List (Str × Addr)} {qual : Str} {x n0 : Str} {rest : List (Str × NameKind)} {Q : Env → Shared → Prop} (hn : scope.names = (n0, .local) :: (x, .cell) :: rest) (hr : ∀ y ∈ rest, y.2 ≠ .cell)
    (hQ : Q (newEnv scope s.heap.objs.size globals ((x, s.heap.objs.size + 1) :: cl) qual none .none (some env) env.builtins)
      { s with heap := (s.heap.push { cls := .type "dict", data := .dict #[] }).push { cls := .type "cell", data := .cell none } }) :
    wpAny (model prog w) A (newFunctionEnv scope globals cl [] qual none .none (some env)) Q E s := by
  simp only [newFunctionEnv, Option.isSome_some, if_true]
  refine wpAny_bind (wpAny_alloc ?_)
  rw [hn, List.forIn_cons]
  refine wpAny_bind (wpAny_bind ?_)
  rw [if_neg (show ¬ ((NameKind.local == NameKind.cell) = true) by decide)]
  refine wpAny_pure ?_
  try dsimp only
  rw [List.forIn_cons]
  refine wpAny_bind ?_
  rw [if_pos (show (NameKind.cell == NameKind.cell) = true by decide)]
  refine wpAny_bind (wpAny_alloc (wpAny_pure ?_))
  try dsimp only
  rw [forIn_yield_id _ (fun y hy c => by
    obtain ⟨name, kind⟩ := y
    have : (kind == NameKind.cell) = false := by simpa using hr _ hy
    simp only [this, Bool.false_eq_true, if_false])]
  refine wpAny_pure (wpAny_bind (wpAny_pure (wpAny_pure ?_)))
  have e : (s.heap.push { cls := .type "dict", data := .dict #[] }).objs.size = s.heap.objs.size + 1 := Heap.size_push ..
  try dsimp only
  try rw [e]
  exact hQ
def TurnsC (prog : Program) (w : World) (A : Around) (h₀ : Heap) (L : Addr) (m : Str → Option Value) (env : Env) (elt : Expr) (x : Str) (scope : Scope) (cl : List (Str × Addr)) (s₂ : Shared) (G : Array GenState → Prop) (P : Nat → Value → Prop)
    (Inv : Nat → List Value → List (Addr × Obj) → Prop) : Prop :=
  ∀ i v ys news I oI K oK C oC D h tk gn (E' : Value → Shared → Prop), P i v → Inv i ys news → oK.data = .cell (some v) → Fr h₀ L h m → News h₀ L h ((I, oI) :: (K, oK) :: (C, oC) :: (D, lst ys) :: news) → Off4 I K C D news → ((@Ne Nat I K) ∧ (@Ne Nat I C) ∧ (@Ne Nat I D) ∧ (@Ne Nat K C) ∧ (@Ne Nat K D) ∧ (@Ne Nat C D)) → G gn →
    wpAny (model prog w) A (eval elt (compEnvC scope ((x, K) :: cl) C env)) (TurnEndC h₀ L m G { s₂ with heap := h, toks := tk, gens := gn } I oI K oK C oC D (lst ys) (fun y news' => Inv (i + 1) (ys ++ [y]) news')) E' { s₂ with heap := h, toks := tk, gens := gn }
end
namespace ZcompBlockC
def S (prog : Program) (w : World) (A : Around) (E : Value → Shared → Prop) (s₂ : Shared) (h₀ : Heap) (L : Addr) (m : Str → Option Value) (env : Env) (elt : Expr) (iter : Expr) (x : Str) (n0 : Str) (px : Pos) (scope : Scope) (cl : List (Str × Addr)) (rest : List (Str × NameKind)) (pos : Pos) (I : Addr) (fp : List Addr) (n : Nat) (P : Nat → Value → Prop) (St : Nat → Heap → Prop) (news : List (Addr × Obj)) (G : Array GenState → Prop) (Inv : Nat → List Value → List (Addr × Obj) → Prop) (RR : Value → Addr → Result → Shared → Prop) : Prop := (W : Walks prog w A I fp [I] n P St) → (hsz : n ≤ sizeLine) → (hIo : ∀ i h, St i h → ∃ o, h.get? I = some o) → (hSt : ∀ i h h' o ys nw, St i h → h.get? I = some o → h'.get? I = some o → (∀ b o, h₀.get? b = some o → h'.get? b = some o) → News h₀ L h' nw → Inv i ys nw → St i h') → (hn : scope.names = (n0, .local) :: (x, .cell) :: rest) → (hr : ∀ y ∈ rest, y.2 ≠ .cell) → (hkind : scope.kind = .function) → (hkx : ∀ K C, Env.kindOf (compEnvC scope ((x, K) :: cl) C env) x = some .cell) → (hst : St 0 s₂.heap) → (hfp : ∀ b ∈ fp, b < s₂.heap.objs.size) → (F : Fr h₀ L s₂.heap m) → (N : News h₀ L s₂.heap news) → (hIL : L ≠ I) → (hI₀ : h₀.get? I = none) → (off : ∀ p ∈ news, p.1 ≠ I) → (hG : G s₂.gens) → (hInv : Inv 0 [] news) → (T : TurnsC prog w A h₀ L m env elt x scope cl s₂ G P Inv) → (hRR : ∀ D C h tk gn m' ys news', Fr h₀ L h m → News h₀ L h ((D, lst ys) :: news') → Off1 D news' → h.Ns C m' → h₀.get? C = none → h₀.get? D = none → C ≠ L → D ≠ L → C ≠ D → (∀ p ∈ news', p.1 ≠ C) → G gn → ys.length ≤ n → Inv n ys news' → RR (.ref D) C (.ok .next) { s₂ with heap := h, toks := tk, gens := gn }) → wpAny (model prog w) A (newList []) (fun acc s₃ => wpAny (model prog w) A (newFunctionEnv scope env.globals cl [] env.qual none .none (some env)) (fun cenv s₄ =>
      codeAny (model prog w) A (.compStart (.ListComp elt [⟨.Name x px, iter, [], 0⟩] scope pos) 0 (.ref I) acc { cenv with scope := relabel scope env }) (RR acc cenv.locals) s₄) E s₃) E s₂
noncomputable def zz : (Program) × (World) × (Around) × (Value → Shared → Prop) × (Shared) × (Heap) × (Addr) × (Str → Option Value) × (Env) × (Expr) × (Expr) × (Str) × (Str) × (Pos) × (Scope) × (List (Str × Addr)) × (List (Str × NameKind)) × (Pos) × (Addr) × (List Addr) × (Nat) × (Nat → Value → Prop) × (Nat → Heap → Prop) × (List (Addr × Obj)) × (Array GenState → Prop) × (Nat → List Value → List (Addr × Obj) → Prop) × (Value → Addr → Result → Shared → Prop) := @Classical.epsilon _ ⟨((Classical.ofNonempty : Program), (⟨fun _ _ => 0, { strHash := fun _ => 0, shareClass := fun _ => 0, mergeTok := id, idOf := fun _ => 0, idOfShared := fun _ _ => 0, followText := fun _ => false, idOfImm := fun _ => 0 }⟩ : World), (callerA : Around), (Classical.ofNonempty : Value → Shared → Prop), ({} : Shared), (Classical.ofNonempty : Heap), (Classical.ofNonempty : Addr), (Classical.ofNonempty : Str → Option Value), (Classical.ofNonempty : Env), (Classical.ofNonempty : Expr), (Classical.ofNonempty : Expr), (Classical.ofNonempty : Str), (Classical.ofNonempty : Str), (Classical.ofNonempty : Pos), (Classical.ofNonempty : Scope), (Classical.ofNonempty : List (Str × Addr)), (Classical.ofNonempty : List (Str × NameKind)), (Classical.ofNonempty : Pos), (Classical.ofNonempty : Addr), (Classical.ofNonempty : List Addr), (Classical.ofNonempty : Nat), (Classical.ofNonempty : Nat → Value → Prop), (Classical.ofNonempty : Nat → Heap → Prop), (Classical.ofNonempty : List (Addr × Obj)), (Classical.ofNonempty : Array GenState → Prop), (Classical.ofNonempty : Nat → List Value → List (Addr × Obj) → Prop), (Classical.ofNonempty : Value → Addr → Result → Shared → Prop))⟩ fun zz => ¬ ZcompBlockC.S (zz.1) (zz.2.1) (zz.2.2.1) (zz.2.2.2.1) (zz.2.2.2.2.1) (zz.2.2.2.2.2.1) (zz.2.2.2.2.2.2.1) (zz.2.2.2.2.2.2.2.1) (zz.2.2.2.2.2.2.2.2.1) (zz.2.2.2.2.2.2.2.2.2.1) (zz.2.2.2.2.2.2.2.2.2.2.1) (zz.2.2.2.2.2.2.2.2.2.2.2.1) (zz.2.2.2.2.2.2.2.2.2.2.2.2.1) (zz.2.2.2.2.2.2.2.2.2.2.2.2.2.1) (zz.2.2.2.2.2.2.2.2.2.2.2.2.2.2.1) (zz.2.2.2.2.2.2.2.2.2.2.2.2.2.2.2.1) (zz.2.2.2.2.2.2.2.2.2.2.2.2.2.2.2.2.1) (zz.2.2.2.2.2.2.2.2.2.2.2.2.2.2.2.2.2.1) (zz.2.2.2.2.2.2.2.2.2.2.2.2.2.2.2.2.2.2.1) (zz.2.2.2.2.2.2.2.2.2.2.2.2.2.2.2.2.2.2.2.1) (zz.2.2.2.2.2.2.2.2.2.2.2.2.2.2.2.2.2.2.2.2.1) (zz.2.2.2.2.2.2.2.2.2.2.2.2.2.2.2.2.2.2.2.2.2.1) (zz.2.2.2.2.2.2.2.2.2.2.2.2.2.2.2.2.2.2.2.2.2.2.1) (zz.2.2.2.2.2.2.2.2.2.2.2.2.2.2.2.2.2.2.2.2.2.2.2.1) (zz.2.2.2.2.2.2.2.2.2.2.2.2.2.2.2.2.2.2.2.2.2.2.2.2.1) (zz.2.2.2.2.2.2.2.2.2.2.2.2.2.2.2.2.2.2.2.2.2.2.2.2.2.1) (zz.2.2.2.2.2.2.2.2.2.2.2.2.2.2.2.2.2.2.2.2.2.2.2.2.2.2)
noncomputable def prog : Program := zz.1
noncomputable def w : World := zz.2.1
noncomputable def A : Around := zz.2.2.1
noncomputable def E : Value → Shared → Prop := zz.2.2.2.1
noncomputable def s₂ : Shared := zz.2.2.2.2.1
noncomputable def h₀ : Heap := zz.2.2.2.2.2.1
noncomputable def L : Addr := zz.2.2.2.2.2.2.1
noncomputable def m : Str → Option Value := zz.2.2.2.2.2.2.2.1
noncomputable def env : Env := zz.2.2.2.2.2.2.2.2.1
noncomputable def elt : Expr := zz.2.2.2.2.2.2.2.2.2.1
noncomputable def iter : Expr := zz.2.2.2.2.2.2.2.2.2.2.1
noncomputable def x : Str := zz.2.2.2.2.2.2.2.2.2.2.2.1
noncomputable def n0 : Str := zz.2.2.2.2.2.2.2.2.2.2.2.2.1
noncomputable def px : Pos := zz.2.2.2.2.2.2.2.2.2.2.2.2.2.1
noncomputable def scope : Scope := zz.2.2.2.2.2.2.2.2.2.2.2.2.2.2.1
noncomputable def cl : List (Str × Addr) := zz.2.2.2.2.2.2.2.2.2.2.2.2.2.2.2.1
noncomputable def rest : List (Str × NameKind) := zz.2.2.2.2.2.2.2.2.2.2.2.2.2.2.2.2.1
noncomputable def pos : Pos := zz.2.2.2.2.2.2.2.2.2.2.2.2.2.2.2.2.2.1
noncomputable def I : Addr := zz.2.2.2.2.2.2.2.2.2.2.2.2.2.2.2.2.2.2.1
noncomputable def fp : List Addr := zz.2.2.2.2.2.2.2.2.2.2.2.2.2.2.2.2.2.2.2.1
noncomputable def n : Nat := zz.2.2.2.2.2.2.2.2.2.2.2.2.2.2.2.2.2.2.2.2.1
noncomputable def P : Nat → Value → Prop := zz.2.2.2.2.2.2.2.2.2.2.2.2.2.2.2.2.2.2.2.2.2.1
noncomputable def St : Nat → Heap → Prop := zz.2.2.2.2.2.2.2.2.2.2.2.2.2.2.2.2.2.2.2.2.2.2.1
noncomputable def news : List (Addr × Obj) := zz.2.2.2.2.2.2.2.2.2.2.2.2.2.2.2.2.2.2.2.2.2.2.2.1
noncomputable def G : Array GenState → Prop := zz.2.2.2.2.2.2.2.2.2.2.2.2.2.2.2.2.2.2.2.2.2.2.2.2.1
noncomputable def Inv : Nat → List Value → List (Addr × Obj) → Prop := zz.2.2.2.2.2.2.2.2.2.2.2.2.2.2.2.2.2.2.2.2.2.2.2.2.2.1
noncomputable def RR : Value → Addr → Result → Shared → Prop := zz.2.2.2.2.2.2.2.2.2.2.2.2.2.2.2.2.2.2.2.2.2.2.2.2.2.2
theorem p (W : Walks prog w A I fp [I] n P St) (hsz : n ≤ sizeLine) (hIo : ∀ i h, St i h → ∃ o, h.get? I = some o) (hSt : ∀ i h h' o ys nw, St i h → h.get? I = some o → h'.get? I = some o → (∀ b o, h₀.get? b = some o → h'.get? b = some o) → News h₀ L h' nw → Inv i ys nw → St i h') (hn : scope.names = (n0, .local) :: (x, .cell) :: rest) (hr : ∀ y ∈ rest, y.2 ≠ .cell) (hkind : scope.kind = .function) (hkx : ∀ K C, Env.kindOf (compEnvC scope ((x, K) :: cl) C env) x = some .cell) (hst : St 0 s₂.heap) (hfp : ∀ b ∈ fp, b < s₂.heap.objs.size) (F : Fr h₀ L s₂.heap m) (N : News h₀ L s₂.heap news) (hIL : L ≠ I) (hI₀ : h₀.get? I = none) (off : ∀ p ∈ news, p.1 ≠ I) (hG : G s₂.gens) (hInv : Inv 0 [] news) (T : TurnsC prog w A h₀ L m env elt x scope cl s₂ G P Inv) (hRR : ∀ D C h tk gn m' ys news', Fr h₀ L h m → News h₀ L h ((D, lst ys) :: news') → Off1 D news' → h.Ns C m' → h₀.get? C = none → h₀.get? D = none → C ≠ L → D ≠ L → C ≠ D → (∀ p ∈ news', p.1 ≠ C) → G gn → ys.length ≤ n → Inv n ys news' → RR (.ref D) C (.ok .next) { s₂ with heap := h, toks := tk, gens := gn }) : wpAny (model prog w) A (newList []) (fun acc s₃ => wpAny (model prog w) A (newFunctionEnv scope env.globals cl [] env.qual none .none (some env)) (fun cenv s₄ =>
      codeAny (model prog w) A (.compStart (.ListComp elt [⟨.Name x px, iter, [], 0⟩] scope pos) 0 (.ref I) acc { cenv with scope := relabel scope env }) (RR acc cenv.locals) s₄) E s₃) E s₂ := by
  refine wpAny_newObj_type (newEnvCell hn hr ?_)
  dsimp only
  have up : ∀ (ob : Obj) (g : Heap) b o, g.get? b = some o → (g.push ob).get? b = some o := fun ob g b o e => Heap.get?_push_of_some _ e
  have hD1 : (s₂.heap.push { cls := .type "list", dict := none, data := .seq ([] : List Value).toArray }).get? s₂.heap.objs.size = some (lst []) := Heap.get?_push_size _ rfl
  have hC1 : (s₂.heap.push { cls := .type "list", dict := none, data := .seq ([] : List Value).toArray }).objs.size = s₂.heap.objs.size + 1 := Heap.size_push ..
  have old1 := up { cls := .type "list", dict := none, data := .seq ([] : List Value).toArray } s₂.heap
  generalize s₂.heap.push { cls := .type "list", dict := none, data := .seq ([] : List Value).toArray } = H2 at hD1 hC1 old1 ⊢
  obtain ⟨oC, heC1, hoC⟩ := ns_obj (Heap.Ns.new H2 (.type "dict"))
  have hK1 : (H2.push { cls := .type "dict", data := .dict #[] }).objs.size = H2.objs.size + 1 := Heap.size_push ..
  have hKg : ((H2.push { cls := .type "dict", data := .dict #[] }).push { cls := .type "cell", data := .cell none }).get? (H2.objs.size + 1) = some { cls := .type "cell", data := .cell none } := hK1 ▸ Heap.get?_push_size _ rfl
  have hCg : ((H2.push { cls := .type "dict", data := .dict #[] }).push { cls := .type "cell", data := .cell none }).get? H2.objs.size = some oC := up _ _ _ _ heC1
  have hDg : ((H2.push { cls := .type "dict", data := .dict #[] }).push { cls := .type "cell", data := .cell none }).get? s₂.heap.objs.size = some (lst []) := up _ _ _ _ (up _ _ _ _ hD1)
  have old : ∀ b o, s₂.heap.get? b = some o → ((H2.push { cls := .type "dict", data := .dict #[] }).push { cls := .type "cell", data := .cell none }).get? b = some o := fun b o e => up _ _ _ _ (up _ _ _ _ (old1 b o e))
  generalize (H2.push { cls := .type "dict", data := .dict #[] }).push { cls := .type "cell", data := .cell none } = h₁ at hKg hCg hDg old ⊢
  generalize hCe : H2.objs.size = C at hC1 hKg hCg ⊢
  generalize hDe : s₂.heap.objs.size = D at hC1 hDg hfp ⊢
  generalize hKe : C + 1 = K at hKg ⊢
  have hCD : C = D + 1 := hC1
  have hKD : K = D + 2 := by rw [← hKe, hCD]
  have lt_all : ∀ b o, s₂.heap.get? b = some o → b < D := fun b o e => hDe ▸ Heap.lt_size e
  have neD : ∀ b, b < D → b ≠ D := fun b hb => Nat.ne_of_lt hb
  have neC : ∀ b, b < D → b ≠ C := fun b hb => by rw [hCD]; exact Nat.ne_of_lt (Nat.lt_succ_of_lt hb)
  have neK : ∀ b, b < D → b ≠ K := fun b hb => by rw [hKD]; exact Nat.ne_of_lt (Nat.lt_succ_of_lt (Nat.lt_succ_of_lt hb))
  have hDC : D ≠ C := by rw [hCD]; exact Nat.ne_of_lt (Nat.lt_succ_self _)
  have hDK : D ≠ K := by rw [hKD]; exact Nat.ne_of_lt (Nat.lt_succ_of_lt (Nat.lt_succ_self _))
  have hCK : C ≠ K := by rw [← hKe]; exact Nat.ne_of_lt (Nat.lt_succ_self _)
  have hIlt : I < D := hfp I (W.sub I (List.mem_singleton.mpr rfl))
  have hDf : D ∉ fp := fun hm => Nat.lt_irrefl _ (hfp _ hm)
  have hKf : K ∉ fp := fun hm => neK _ (hfp _ hm) rfl
  have hst₁ : St 0 h₁ := W.frame _ _ _ hst fun b _ o e => old b o e
  have fresh₀ : ∀ a, D ≤ a → h₀.get? a = none := fun a ha => by
    cases e : h₀.get? a with
    | none => rfl
    | some o' => exact absurd (lt_all a o' (F.keep a o' e)) (Nat.not_lt.mpr ha)
  have hD₀ : h₀.get? D = none := fresh₀ _ (Nat.le_refl _)
  have hC₀ : h₀.get? C = none := fresh₀ _ (by rw [hCD]; exact Nat.le_succ _)
  have hK₀ : h₀.get? K = none := fresh₀ _ (by rw [hKD]; exact Nat.le_trans (Nat.le_succ _) (Nat.le_succ _))
  have hLlt : L < D := hDe ▸ F.ns.lt
  have hDL : D ≠ L := Ne.symm (neD L hLlt)
  have hCL : C ≠ L := Ne.symm (neC L hLlt)
  have hKL : K ≠ L := Ne.symm (neK L hLlt)
  have hKI : I ≠ K := neK I hIlt
  have hCI : I ≠ C := neC I hIlt
  have hDI : I ≠ D := neD I hIlt
  have off₀ : Off4 I K C D news := fun p hp => ⟨off p hp, neK _ (lt_all _ _ (N p hp).1), neC _ (lt_all _ _ (N p hp).1), neD _ (lt_all _ _ (N p hp).1)⟩
  have loop : ∀ s₃ : Shared, s₃ = { s₂ with heap := h₁ } →
      codeAny (model prog w) A (.compLoop (.ListComp elt [⟨.Name x px, iter, [], 0⟩] scope pos) 0 (.ref I) (.ref D) (compEnvC scope ((x, K) :: cl) C env)) (RR (.ref D) C) s₃ := by
    rintro s₃ rfl
    refine codeAny_compLoop_tests
      (fun k s' => ∃ h' tk gn i ys oK v₀ news', s' = { s₂ with heap := h', toks := tk, gens := gn } ∧ i ≤ n ∧ k = n + 1 - i ∧ ys.length ≤ i ∧ St i h' ∧ Fr h₀ L h' m ∧ oK.data = .cell v₀ ∧ News h₀ L h' ((K, oK) :: (C, oC) :: (D, lst ys) :: news') ∧
        Off4 I K C D news' ∧ G gn ∧ Inv i ys news') ?_ (n + 1)
      ⟨h₁, _, s₂.gens, 0, [], { cls := .type "cell", data := .cell none }, none, news, rfl, Nat.zero_le _, rfl, Nat.le_refl _, hst₁, F.keeps old, rfl, fun p hp => ?_, off₀, hG, hInv⟩
    · rintro k s' ⟨h', tk, gn, i, ys, oK, v₀, news', rfl, hi, rfl, hyl, hst', F', hdK, N', off', hG', hI'⟩
      have offI : ∀ p ∈ (K, oK) :: (C, oC) :: (D, lst ys) :: news', p.1 ≠ I := fun p hp => by
        rcases List.mem_cons.mp hp with rfl | hp
        · exact Ne.symm hKI
        rcases List.mem_cons.mp hp with rfl | hp
        · exact Ne.symm hCI
        rcases List.mem_cons.mp hp with rfl | hp
        · exact Ne.symm hDI
        · exact (off' p hp).1
      by_cases hlt : i < n
      · refine W.item i _ _ _ hlt hst' fun v h₂ tk₂ hPv hst₂ hk₂ => ?_
        have N₂ := news_but N' hk₂ offI
        have F₂ := fr_but F' hk₂ hIL hI₀
        refine wpAny_assign_Name (wpAny_storeName_cell (by simp [compEnvC, relabel, hkind]) (hkx K C) (c := K) (by simp [compEnvC]) ⟨oK, (N₂ _ (.head _)).1, hdK⟩ fun h₃ hv₃ hs₃ => ?_)
        obtain ⟨oK', heK', hdK'⟩ := hv₃
        refine wpAny_tests_nil ?_
        simp only [if_true]
        have hst₃ : St (i + 1) h₃ := W.frame _ _ _ hst₂ fun b hb o e => hs₃.extBut b o (fun q => hKf (by have q' : b = K := q; rw [← q']; exact hb)) e
        obtain ⟨oI, heI⟩ := hIo _ _ hst₃
        have F₃ : Fr h₀ L h₃ m := F₂.change hs₃ hKL hK₀
        have N₃ : News h₀ L h₃ ((I, oI) :: (K, oK') :: (C, oC) :: (D, lst ys) :: news') := fun p hp => by
          rcases List.mem_cons.mp hp with rfl | hp
          · exact ⟨heI, Ne.symm hIL, hI₀⟩
          rcases List.mem_cons.mp hp with rfl | hp
          · exact ⟨heK', hKL, hK₀⟩
          · have z := N₂ p (.tail _ hp)
            refine ⟨hs₃.extBut _ _ ?_ z.1, z.2⟩
            rcases List.mem_cons.mp hp with rfl | hp
            · exact hCK
            rcases List.mem_cons.mp hp with rfl | hp
            · exact hDK
            · exact (off' p hp).2.1
        refine wpAny_mono (T i v ys news' I oI K oK' C oC D h₃ _ gn _ hPv hI' hdK' F₃ N₃ off' ⟨hKI, hCI, hDI, Ne.symm hCK, Ne.symm hDK, Ne.symm hDC⟩ hG') (fun y s₅ h₅ => ?_) fun _ _ e => e
        obtain ⟨h₄, tk₄, gn₄, news₄, rfl, hG₄, F₄, N₄, off₄, hI₄⟩ := h₅
        have N₄' : News h₀ L h₄ news₄ := fun p hp => N₄ p (.tail _ (.tail _ (.tail _ (.tail _ hp))))
        have hst₄ : St (i + 1) h₄ := hSt _ _ _ _ _ _ hst₃ heI (N₄ _ (.head _)).1 F₄.keep N₄' hI₄
        have zD := (N₄ (D, lst ys) (.tail _ (.tail _ (.tail _ (.head _))))).1
        refine append_at (hsz := by show ys.toArray.size ≤ sizeLine; rw [List.size_toArray]; exact Nat.le_trans (Nat.le_trans hyl hi) hsz) zD fun h₅ hs₅ hD₅ => ?_
        refine ⟨n + 1 - (i + 1), by omega, h₅, tk₄, gn₄, i + 1, ys ++ [y], oK', some v, news₄, rfl, hlt, rfl, by rw [List.length_append, List.length_singleton]; exact Nat.succ_le_succ hyl, W.frame _ _ _ hst₄ fun b hb o e => hs₅.extBut b o (fun q => hDf (q ▸ hb)) e, F₄.change hs₅ hDL hD₀,
          hdK', fun p hp => ?_, off₄, hG₄, hI₄⟩
        rcases List.mem_cons.mp hp with rfl | hp
        · have z := N₄ _ (.tail _ (.head _))
          exact ⟨hs₅.extBut _ _ (Ne.symm hDK) z.1, z.2⟩
        rcases List.mem_cons.mp hp with rfl | hp
        · have z := N₄ _ (.tail _ (.tail _ (.head _)))
          exact ⟨hs₅.extBut _ _ (Ne.symm hDC) z.1, z.2⟩
        rcases List.mem_cons.mp hp with rfl | hp
        · exact ⟨hD₅.trans (congrArg some (lst_snoc ys y)), hDL, hD₀⟩
        · exact ⟨hs₅.extBut _ _ (off₄ p hp).2.2.2 (N₄' p hp).1, (N₄' p hp).2⟩
      · obtain rfl : i = n := Nat.le_antisymm hi (Nat.not_lt.mp hlt)
        refine W.done _ _ _ hst' fun h₂ tk₂ hk₂ => ?_
        have N₂ := news_but N' hk₂ offI
        exact hRR _ _ h₂ tk₂ gn _ ys news' (fr_but F' hk₂ hIL hI₀) (fun p hp => N₂ p (.tail _ (.tail _ hp))) off'.one (hoC.ns (N₂ _ (.tail _ (.head _))).1) hC₀ hD₀ hCL hDL (Ne.symm hDC) (fun p hp => (off' p hp).2.2.1) hG' hyl hI'
    · rcases List.mem_cons.mp hp with rfl | hp
      · exact ⟨hKg, hKL, hK₀⟩
      rcases List.mem_cons.mp hp with rfl | hp
      · exact ⟨hCg, hCL, hC₀⟩
      rcases List.mem_cons.mp hp with rfl | hp
      · exact ⟨hDg, hDL, hD₀⟩
      · exact ⟨old _ _ (N p hp).1, (N p hp).2⟩
  exact codeAny_compStart_list (loop _ rfl) (W.self 0 _ _ _ hst₁ (loop _ rfl))
theorem q : S prog w A E s₂ h₀ L m env elt iter x n0 px scope cl rest pos I fp n P St news G Inv RR := by unfold S; exact p
end ZcompBlockC
section
variable {prog : Program} {w : World} {A : Around} {E : Value → Shared → Prop} {s s₂ : Shared} {h₀ : Heap} {L : Addr} {m : Str → Option Value} {env : Env}
theorem compBlockC {elt iter : Expr}
    {x n0 : Str}
    {px : Pos}
    {scope : Scope}
    {cl : List (Str × Addr)}
    {rest : List (Str × NameKind)}
    {pos : Pos}
    {I : Addr}
    {fp : List Addr}
    {n : Nat}
    {P : Nat → Value → Prop}
    {St : Nat → Heap → Prop}
    {news : List (Addr × Obj)}
    {G : Array GenState → Prop}
    {Inv : Nat → List Value → List (Addr × Obj) → Prop}
    {RR : Value → Addr → Result → Shared → Prop}
    (W : Walks prog w A I fp [I] n P St)
    (hsz : n ≤ sizeLine)
    (hIo : ∀ i h, St i h → ∃ o, h.get? I = some o)
    (hSt : ∀ i h h' o ys nw, St i h → h.get? I = some o → h'.get? I = some o → (∀ b o, h₀.get? b = some o → h'.get? b = some o) → News h₀ L h' nw → Inv i ys nw → St i h')
    (hn : scope.names = (n0, .local) :: (x, .cell) :: rest)
    (hr : ∀ y ∈ rest, y.2 ≠ .cell)
    (hkind : scope.kind = .function)
    (hkx : ∀ K C, Env.kindOf (compEnvC scope ((x, K) :: cl) C env) x = some .cell)
    (hst : St 0 s₂.heap)
    (hfp : ∀ b ∈ fp, b < s₂.heap.objs.size)
    (F : Fr h₀ L s₂.heap m)
    (N : News h₀ L s₂.heap news)
    (hIL : L ≠ I)
    (hI₀ : h₀.get? I = none)
    (off : ∀ p ∈ news, p.1 ≠ I)
    (hG : G s₂.gens)
    (hInv : Inv 0 [] news)
    (T : TurnsC prog w A h₀ L m env elt x scope cl s₂ G P Inv)
    (hRR : ∀ D C h tk gn m' ys news', Fr h₀ L h m → News h₀ L h ((D, lst ys) :: news') → Off1 D news' → h.Ns C m' → h₀.get? C = none → h₀.get? D = none → C ≠ L → D ≠ L → C ≠ D → (∀ p ∈ news', p.1 ≠ C) → G gn → ys.length ≤ n → Inv n ys news' → RR (.ref D) C (.ok .next) { s₂ with heap := h, toks := tk, gens := gn }) : wpAny (model prog w) A (newList []) (fun acc s₃ => wpAny (model prog w) A (newFunctionEnv scope env.globals cl [] env.qual none .none (some env)) (fun cenv s₄ =>
      codeAny (model prog w) A (.compStart (.ListComp elt [⟨.Name x px, iter, [], 0⟩] scope pos) 0 (.ref I) acc { cenv with scope := relabel scope env }) (RR acc cenv.locals) s₄) E s₃) E s₂ :=
  epsAll (P := fun zz => ZcompBlockC.S (zz.1) (zz.2.1) (zz.2.2.1) (zz.2.2.2.1) (zz.2.2.2.2.1) (zz.2.2.2.2.2.1) (zz.2.2.2.2.2.2.1) (zz.2.2.2.2.2.2.2.1) (zz.2.2.2.2.2.2.2.2.1) (zz.2.2.2.2.2.2.2.2.2.1) (zz.2.2.2.2.2.2.2.2.2.2.1) (zz.2.2.2.2.2.2.2.2.2.2.2.1) (zz.2.2.2.2.2.2.2.2.2.2.2.2.1) (zz.2.2.2.2.2.2.2.2.2.2.2.2.2.1) (zz.2.2.2.2.2.2.2.2.2.2.2.2.2.2.1) (zz.2.2.2.2.2.2.2.2.2.2.2.2.2.2.2.1) (zz.2.2.2.2.2.2.2.2.2.2.2.2.2.2.2.2.1) (zz.2.2.2.2.2.2.2.2.2.2.2.2.2.2.2.2.2.1) (zz.2.2.2.2.2.2.2.2.2.2.2.2.2.2.2.2.2.2.1) (zz.2.2.2.2.2.2.2.2.2.2.2.2.2.2.2.2.2.2.2.1) (zz.2.2.2.2.2.2.2.2.2.2.2.2.2.2.2.2.2.2.2.2.1) (zz.2.2.2.2.2.2.2.2.2.2.2.2.2.2.2.2.2.2.2.2.2.1) (zz.2.2.2.2.2.2.2.2.2.2.2.2.2.2.2.2.2.2.2.2.2.2.1) (zz.2.2.2.2.2.2.2.2.2.2.2.2.2.2.2.2.2.2.2.2.2.2.2.1) (zz.2.2.2.2.2.2.2.2.2.2.2.2.2.2.2.2.2.2.2.2.2.2.2.2.1) (zz.2.2.2.2.2.2.2.2.2.2.2.2.2.2.2.2.2.2.2.2.2.2.2.2.2.1) (zz.2.2.2.2.2.2.2.2.2.2.2.2.2.2.2.2.2.2.2.2.2.2.2.2.2.2)) ZcompBlockC.q (prog, w, A, E, s₂, h₀, L, m, env, elt, iter, x, n0, px, scope, cl, rest, pos, I, fp, n, P, St, news, G, Inv, RR) W hsz hIo hSt hn hr hkind hkx hst hfp F N hIL hI₀ off hG hInv T hRR
/-- a comprehension over a range whose own name is a cell, at its source -/
def SrcK (prog : Program) (w : World) (A : Around) (h₀ : Heap) (L : Addr) (env : Env) (elt : Expr) (x : Str) (scope : Scope) (cl : List (Str × Addr)) (Q : Value → Shared → Prop) (xv : Value) (s₁ : Shared) : Prop :=
  ∃ (r : Addr) (a b : Int) (t u v : Tok) (n : Nat) (m : Str → Option Value) (news : List (Addr × Obj)) (G : Array GenState → Prop) (J : Nat → List Value → List (Addr × Obj) → Prop),
    xv = .ref r ∧ A.handled = none ∧ Fr h₀ L s₁.heap m ∧ News h₀ L s₁.heap news ∧ IsRange s₁.heap r a b 1 t u v ∧ Builtin.Range.small a b 1 = true ∧ Builtin.Range.rangeSize a b 1 = ((n : Nat) : Int) ∧ n ≤ 100000 ∧ G s₁.gens ∧ J 0 [] news ∧
    (∀ g, TurnsC prog w A h₀ L m env elt x scope cl { s₁ with heap := g } G (fun i v => i < n ∧ ∃ t, v = .int (a + (i : Int)) t) (KeepJ news J)) ∧
    (∀ D g tk gn ys news', Fr h₀ L g m → News h₀ L g ((D, lst ys) :: news') → Off1 D news' → G gn → ys.length ≤ n → (∀ p ∈ news, p ∈ news') → J n ys news' → Q (.ref D) { s₁ with heap := g, toks := tk, gens := gn })
end
namespace ZlistCompK
def S (prog : Program) (w : World) (A : Around) (E : Value → Shared → Prop) (s : Shared) (h₀ : Heap) (L : Addr) (m : Str → Option Value) (env : Env) (elt : Expr) (iter : Expr) (x : Str) (n0 : Str) (px : Pos) (scope : Scope) (cl : List (Str × Addr)) (rest : List (Str × NameKind)) (pos : Pos) (Q : Value → Shared → Prop) : Prop := (_F₀ : Fr h₀ L s.heap m) → (hclos : closureFor scope env = pure cl) → (hn : scope.names = (n0, .local) :: (x, .cell) :: rest) → (hr : ∀ y ∈ rest, y.2 ≠ .cell) → (hkind : scope.kind = .function) → (hkx : ∀ K C, Env.kindOf (compEnvC scope ((x, K) :: cl) C env) x = some .cell) → (hnames : ∀ y ∈ scope.names, y.2 = .local → scope.names.lookup y.1 = some .local) → (h : wpAny (model prog w) A (eval iter env) (SrcK prog w A h₀ L env elt x scope cl Q) E s) → (hs : ∀ x, foldedSetIterable iter env x = pure x) → wpAny (model prog w) A (eval (.ListComp elt [⟨.Name x px, iter, [], 0⟩] scope pos) env) Q E s
noncomputable def zz : (Program) × (World) × (Around) × (Value → Shared → Prop) × (Shared) × (Heap) × (Addr) × (Str → Option Value) × (Env) × (Expr) × (Expr) × (Str) × (Str) × (Pos) × (Scope) × (List (Str × Addr)) × (List (Str × NameKind)) × (Pos) × (Value → Shared → Prop) := @Classical.epsilon _ ⟨((Classical.ofNonempty : Program), (⟨fun _ _ => 0, { strHash := fun _ => 0, shareClass := fun _ => 0, mergeTok := id, idOf := fun _ => 0, idOfShared := fun _ _ => 0, followText := fun _ => false, idOfImm := fun _ => 0 }⟩ : World), (callerA : Around), (Classical.ofNonempty : Value → Shared → Prop), ({} : Shared), (Classical.ofNonempty : Heap), (Classical.ofNonempty : Addr), (Classical.ofNonempty : Str → Option Value), (Classical.ofNonempty : Env), (Classical.ofNonempty : Expr), (Classical.ofNonempty : Expr), (Classical.ofNonempty : Str), (Classical.ofNonempty : Str), (Classical.ofNonempty : Pos), (Classical.ofNonempty : Scope), (Classical.ofNonempty : List (Str × Addr)), (Classical.ofNonempty : List (Str × NameKind)), (Classical.ofNonempty : Pos), (Classical.ofNonempty : Value → Shared → Prop))⟩ fun zz => ¬ ZlistCompK.S (zz.1) (zz.2.1) (zz.2.2.1) (zz.2.2.2.1) (zz.2.2.2.2.1) (zz.2.2.2.2.2.1) (zz.2.2.2.2.2.2.1) (zz.2.2.2.2.2.2.2.1) (zz.2.2.2.2.2.2.2.2.1) (zz.2.2.2.2.2.2.2.2.2.1) (zz.2.2.2.2.2.2.2.2.2.2.1) (zz.2.2.2.2.2.2.2.2.2.2.2.1) (zz.2.2.2.2.2.2.2.2.2.2.2.2.1) (zz.2.2.2.2.2.2.2.2.2.2.2.2.2.1) (zz.2.2.2.2.2.2.2.2.2.2.2.2.2.2.1) (zz.2.2.2.2.2.2.2.2.2.2.2.2.2.2.2.1) (zz.2.2.2.2.2.2.2.2.2.2.2.2.2.2.2.2.1) (zz.2.2.2.2.2.2.2.2.2.2.2.2.2.2.2.2.2.1) (zz.2.2.2.2.2.2.2.2.2.2.2.2.2.2.2.2.2.2)
noncomputable def prog : Program := zz.1
noncomputable def w : World := zz.2.1
noncomputable def A : Around := zz.2.2.1
noncomputable def E : Value → Shared → Prop := zz.2.2.2.1
noncomputable def s : Shared := zz.2.2.2.2.1
noncomputable def h₀ : Heap := zz.2.2.2.2.2.1
noncomputable def L : Addr := zz.2.2.2.2.2.2.1
noncomputable def m : Str → Option Value := zz.2.2.2.2.2.2.2.1
noncomputable def env : Env := zz.2.2.2.2.2.2.2.2.1
noncomputable def elt : Expr := zz.2.2.2.2.2.2.2.2.2.1
noncomputable def iter : Expr := zz.2.2.2.2.2.2.2.2.2.2.1
noncomputable def x : Str := zz.2.2.2.2.2.2.2.2.2.2.2.1
noncomputable def n0 : Str := zz.2.2.2.2.2.2.2.2.2.2.2.2.1
noncomputable def px : Pos := zz.2.2.2.2.2.2.2.2.2.2.2.2.2.1
noncomputable def scope : Scope := zz.2.2.2.2.2.2.2.2.2.2.2.2.2.2.1
noncomputable def cl : List (Str × Addr) := zz.2.2.2.2.2.2.2.2.2.2.2.2.2.2.2.1
noncomputable def rest : List (Str × NameKind) := zz.2.2.2.2.2.2.2.2.2.2.2.2.2.2.2.2.1
noncomputable def pos : Pos := zz.2.2.2.2.2.2.2.2.2.2.2.2.2.2.2.2.2.1
noncomputable def Q : Value → Shared → Prop := zz.2.2.2.2.2.2.2.2.2.2.2.2.2.2.2.2.2.2
theorem p (_F₀ : Fr h₀ L s.heap m) (hclos : closureFor scope env = pure cl) (hn : scope.names = (n0, .local) :: (x, .cell) :: rest) (hr : ∀ y ∈ rest, y.2 ≠ .cell) (hkind : scope.kind = .function) (hkx : ∀ K C, Env.kindOf (compEnvC scope ((x, K) :: cl) C env) x = some .cell) (hnames : ∀ y ∈ scope.names, y.2 = .local → scope.names.lookup y.1 = some .local) (h : wpAny (model prog w) A (eval iter env) (SrcK prog w A h₀ L env elt x scope cl Q) E s) (hs : ∀ x, foldedSetIterable iter env x = pure x) : wpAny (model prog w) A (eval (.ListComp elt [⟨.Name x px, iter, [], 0⟩] scope pos) env) Q E s := by
  rw [eval_ListComp]
  refine wpAny_comprehension_free (use := none) rfl hs hclos hkind hnames (wpAny_mono h (fun xv s₁ h₁ => ?_) fun _ _ e => e)
  obtain ⟨r, a, b, t, u, v, n, m', news, G, J, rfl, hh, F, N, hr', hsm, hnn, hsz, hG, h0, T, fin⟩ := h₁
  refine wpAny_pyIter_range hr' hsm ?_
  have up : ∀ (ob : Obj) b o, s₁.heap.get? b = some o → (s₁.heap.push ob).get? b = some o := fun ob b o e => Heap.get?_push_of_some _ e
  refine compBlockC (I := s₁.heap.objs.size) (range_walks hh a n).bound (by rw [sizeLine_eq]; omega) (fun i h st => ⟨_, st⟩) ?_ hn hr hkind hkx (by show IsRangeIter _ _ _ _ _; rw [hnn]; simpa using Heap.get?_push_size _ rfl) (fun b hb => ?_)
    (F.keeps (up _)) (N.grown (up _)) (Nat.ne_of_lt F.ns.lt) (next_is_new F) (fun p hp => Nat.ne_of_lt (Heap.lt_size (N p hp).1)) hG (Inv := KeepJ news J) ⟨fun _ h => h, h0⟩ (T _) ?_
  · intro i h h' o ys nw st e e' k N' hi
    have st' : h.get? s₁.heap.objs.size = some _ := st
    show h'.get? s₁.heap.objs.size = some _
    rw [e', ← e]; exact st'
  · rw [List.mem_singleton.mp hb]
    show s₁.heap.objs.size < (s₁.heap.push _).objs.size
    rw [Heap.size_push]; exact Nat.lt_succ_self _
  · intro D C h' tk gn m₂ ys news' F' N' o1 hn hC₀ hD₀ hCL hDL hCD offC hG' hl hI'
    refine ⟨m₂, hn, fun h'' hs'' => fin D h'' tk gn ys news' (F'.change hs'' hCL hC₀) (fun p hp => ?_) o1 hG' hl hI'.1 hI'.2⟩
    refine ⟨hs''.extBut _ _ ?_ (N' p hp).1, (N' p hp).2⟩
    rcases List.mem_cons.mp hp with rfl | hp
    · exact Ne.symm hCD
    · exact offC p hp
theorem q : S prog w A E s h₀ L m env elt iter x n0 px scope cl rest pos Q := by unfold S; exact p
end ZlistCompK
section
variable {prog : Program} {w : World} {A : Around} {E : Value → Shared → Prop} {s s₂ : Shared} {h₀ : Heap} {L : Addr} {m : Str → Option Value} {env : Env}
theorem listCompK {elt iter : Expr}
    {x n0 : Str}
    {px : Pos}
    {scope : Scope}
    {cl : List (Str × Addr)}
    {rest : List (Str × NameKind)}
    {pos : Pos}
    {Q : Value → Shared → Prop}
    (_F₀ : Fr h₀ L s.heap m)
    (hclos : closureFor scope env = pure cl)
    (hn : scope.names = (n0, .local) :: (x, .cell) :: rest)
    (hr : ∀ y ∈ rest, y.2 ≠ .cell)
    (hkind : scope.kind = .function)
    (hkx : ∀ K C, Env.kindOf (compEnvC scope ((x, K) :: cl) C env) x = some .cell)
    (hnames : ∀ y ∈ scope.names, y.2 = .local → scope.names.lookup y.1 = some .local)
    (h : wpAny (model prog w) A (eval iter env) (SrcK prog w A h₀ L env elt x scope cl Q) E s)
    (hs : ∀ x, foldedSetIterable iter env x = pure x := by intro _; rfl) : wpAny (model prog w) A (eval (.ListComp elt [⟨.Name x px, iter, [], 0⟩] scope pos) env) Q E s :=
  epsAll (P := fun zz => ZlistCompK.S (zz.1) (zz.2.1) (zz.2.2.1) (zz.2.2.2.1) (zz.2.2.2.2.1) (zz.2.2.2.2.2.1) (zz.2.2.2.2.2.2.1) (zz.2.2.2.2.2.2.2.1) (zz.2.2.2.2.2.2.2.2.1) (zz.2.2.2.2.2.2.2.2.2.1) (zz.2.2.2.2.2.2.2.2.2.2.1) (zz.2.2.2.2.2.2.2.2.2.2.2.1) (zz.2.2.2.2.2.2.2.2.2.2.2.2.1) (zz.2.2.2.2.2.2.2.2.2.2.2.2.2.1) (zz.2.2.2.2.2.2.2.2.2.2.2.2.2.2.1) (zz.2.2.2.2.2.2.2.2.2.2.2.2.2.2.2.1) (zz.2.2.2.2.2.2.2.2.2.2.2.2.2.2.2.2.1) (zz.2.2.2.2.2.2.2.2.2.2.2.2.2.2.2.2.2.1) (zz.2.2.2.2.2.2.2.2.2.2.2.2.2.2.2.2.2.2)) ZlistCompK.q (prog, w, A, E, s, h₀, L, m, env, elt, iter, x, n0, px, scope, cl, rest, pos, Q) _F₀ hclos hn hr hkind hkx hnames h hs
end
end
section
open PySem PySem.W PyProof.Rows PySem.Calls PyProof.Rows.LCg
set_option Elab.async false
set_option maxRecDepth 100000
set_option maxHeartbeats 4000000
theorem strip_len {x : Str} (h : x.length ≤ 18) : (stripS x).length ≤ 1000 := by
  unfold stripS
  split
  · omega
  · have hb := strip_bound x (wordsOf false 0 x.cps.toList) (0, none, []) (by intro y hy; cases hy)
    have hw := words_len x.cps.toList false 0
    have hx : x.cps.toList.length = x.length := by simp [Str.length]
    change (∀ y ∈ (stripRun x (wordsOf false 0 x.cps.toList)).2.2, _) ∧ (stripRun x (wordsOf false 0 x.cps.toList)).2.2.length ≤ _ at hb
    generalize stripRun x (wordsOf false 0 x.cps.toList) = st at hb ⊢
    have h1 : st.2.2.length ≤ 19 := by have := hb.2; simp only [List.length_nil] at this; omega
    have h2 : ∀ y ∈ (st.2.2 ++ if st.1 < (x.length : Int) then [Txt.slice x (some st.1) none] else []), y.length ≤ 18 := by
      intro y hy
      rcases List.mem_append.mp hy with q | q
      · exact Nat.le_trans (hb.1 y q) h
      · split at q
        · rw [List.mem_singleton.mp q]; exact Nat.le_trans (PyProof.Txt.length_slice_le x _ _) h
        · cases q
    have h3 : (st.2.2 ++ if st.1 < (x.length : Int) then [Txt.slice x (some st.1) none] else []).length ≤ 20 := by
      rw [List.length_append]
      split
      · simp only [List.length_singleton]; omega
      · simp only [List.length_nil]; omega
    generalize (st.2.2 ++ if st.1 < (x.length : Int) then [Txt.slice x (some st.1) none] else []) = ys at h2 h3 ⊢
    have h4 := join_len_le (Str.ofString "") ys
    have h5 := sum_le_of (k := 18) ys h2
    have h6 : (Str.ofString "").length = 0 := by decide +kernel
    rw [h6, Nat.mul_zero] at h4
    omega
theorem join_short {ys : List Str} (h1 : ys.length ≤ 6) (h2 : ∀ y ∈ ys, y.length ≤ 3) : (Str.join (Str.ofString "") ys).length ≤ 18 ∧ Fits (Str.ofString "") ys := by
  have h4 := join_len_le (Str.ofString "") ys
  have h5 := sum_le_of (k := 3) ys h2
  have h6 : (Str.ofString "").length = 0 := by decide +kernel
  rw [h6, Nat.mul_zero] at h4
  exact ⟨by omega, ⟨by omega, by omega⟩⟩
def takenRow (ts : List Str) (i : Nat) : List Bool := (List.range (ts.length + 1 - i)).map fun d => checkS (Str.join (Str.ofString "") ((ts.drop i).take d))
def takenS (ts : List Str) : List (List Bool) := (List.range (ts.length + 1)).map (takenRow ts)
/-- a list's items are lists of bools of the ledger -/
def BB (news : List (Addr × Obj)) (ys : List Value) (bss : List (List Bool)) : Prop := Paired (fun y bs => ∃ a n, y = .ref a ∧ (a, listOf (bs.map Value.bool).toArray n) ∈ news) ys bss
theorem BB.mono {news news' : List (Addr × Obj)} {ys : List Value} {bss : List (List Bool)} (x : BB news ys bss) (h : ∀ p ∈ news, p ∈ news') : BB news' ys bss :=
  Paired.mono (fun _ _ ⟨a, n, e, hm⟩ => ⟨a, n, e, h _ hm⟩) x
theorem BB.nil {news : List (Addr × Obj)} : BB news [] [] := Paired.nil
theorem BB.snoc {news : List (Addr × Obj)} {ys : List Value} {bss : List (List Bool)} {a : Addr} {bs : List Bool} {n : Nat} (x : BB news ys bss) (h : (a, listOf (bs.map Value.bool).toArray n) ∈ news) : BB news (ys ++ [.ref a]) (bss ++ [bs]) :=
  Paired.snoc x ⟨a, n, rfl, h⟩
theorem BB.length {news : List (Addr × Obj)} {ys : List Value} {bss : List (List Bool)} (x : BB news ys bss) : ys.length = bss.length := Paired.length x
theorem BB.at {news : List (Addr × Obj)} {ys : List Value} {bss : List (List Bool)} (x : BB news ys bss) {i : Nat} {v : Value} (h : ys[i]? = some v) : ∃ a bs n, v = .ref a ∧ (a, listOf (bs.map Value.bool).toArray n) ∈ news ∧ bss[i]? = some bs := by
  obtain ⟨bs, h1, a, n, e, hm⟩ := paired_at x h
  exact ⟨a, bs, n, e, hm, h1⟩
theorem strsAre_run : ∀ {vs : List Value} {ts : List Str}, StrsAre vs ts → ∀ (a b : Nat), StrsAre ((vs.drop a).take b) ((ts.drop a).take b) := by
  intro vs ts h a b
  obtain ⟨l, rfl, rfl⟩ := strsAre_values h
  have z := strsAre_of_values ((l.drop a).take b)
  simpa [strValues, List.map_take, List.map_drop] using z
theorem smallR {a b : Int} (h1 : 0 ≤ a) (h2 : a ≤ 1000) (h3 : 0 ≤ b) (h4 : b ≤ 1000) : Builtin.Range.small a b 1 = true := by
  have h5 := PyProof.Rows.rangeSize_nat a b
  unfold Builtin.Range.small
  simp only [Builtin.Range.rangeFitsLong, Bool.and_eq_true, decide_eq_true_eq]
  rw [h5]
  refine ⟨by omega, ?_⟩
  rw [if_pos (by decide), Bool.or_eq_true, Bool.and_eq_true, decide_eq_true_eq, decide_eq_true_eq]
  right
  omega
end
section
open PySem PySem.W PyProof.Rows PySem.Calls
set_option Elab.async false
set_option maxRecDepth 100000
set_option maxHeartbeats 8000000
local macro_rules | `(tactic| walk_at "call ref") => `(tactic| (k_here; k_dflt ((with_reducible show wpAny _ _ (PySem.call (Value.ref 155) [Value.str _ _]) _ _ _); (refine check_c (by k_asm) (by k_asm) (by k_asm) (by k_asm) (by k_asm) (by first | exact rfl | assumption) (by constructor <;> first | ktr_room | ktr_units) (by assumption) (by assumption) (by assumption) ?_); (intro h9 tk9 gn9 hbn9 F9 N9); (try dsimp only))))
local macro_rules | `(tactic| walk_at "eval ListComp") => `(tactic| (k_here; k_dflt (refine listCompK (by k_asm) (by with_unfolding_all rfl) (by exact rfl) (by decide) (by rfl) (fun _ _ => by rfl) (by decide) ?_)))
local macro_rules | `(tactic| walk_at "subscriptTail") => `(tactic| (k_here; k_dflt ((with_reducible show wpAny _ _ (subscriptTail _ _ (Value.ref _) (Value.ref _)) _ _ _); (with_unfolding_all refine' sliceRun ?k1 ?k2 ?k3 ?k4 ?k5 ?k6 ?_; (case k1 => k_asm); (case k2 => k_asm); (case k3 => k_mem); (case k4 => assumption); (case k5 => omega); (case k6 => assumption); k_whole); (intro h9 F9 N9 lt9))))
section
variable {w : World} {loose : List Str} {mean : ExcName → Option Value} {mg mb : Str → Option Value} {news : List (Addr × Obj)}
  {dp un : Nat} {gd : Option (List Code)} {cn : Str} {cs : Scope} {a : Addr} {ccd : Value} {cl : List (Str × Addr)} {outer : List Env} {A₀ : Around} {base h₀ : Heap} {L : Addr} {m : Str → Option Value} {s : Shared} {Q E : Value → Shared → Prop}
end
namespace Ztaken_c
def S (w : World) (loose : List Str) (mean : ExcName → Option Value) (mg : Str → Option Value) (mb : Str → Option Value) (news : List (Addr × Obj)) (dp : Nat) (un : Nat) (gd : Option (List Code)) (cn : Str) (cs : Scope) (a : Addr) (ccd : Value) (cl : List (Str × Addr)) (outer : List Env) (A₀ : Around) (base : Heap) (h₀ : Heap) (L : Addr) (m : Str → Option Value) (s : Shared) (Q : Value → Shared → Prop) (E : Value → Shared → Prop) (D : Addr) (vs : List Value) (ts : List Str) (nn : Nat) : Prop := (hv : StrsAre vs ts) → (hz : ts.length ≤ 6) → (hz3 : ∀ y ∈ ts, y.length ≤ 3) → (hD : (D, listOf vs.toArray nn) ∈ news) → (hb : AllBare s.gens) → (B : Below A₀ base outer h₀) → (F : Fr h₀ L s.heap m) → (X : (hd.heap_39 w.params).In h₀) → (N : News h₀ L s.heap news) → (T : Top hd.view_39 loose mean mg mb h₀) → (hk : cs.kind = .function) → (hR : dp + 100 < recursionLimit ∧ un + 1000 < cLine) → (hret : ∀ (h' : Heap) (tk' : Nat) (gn : Array GenState) (D' : Addr) (ys : List Value) (nw : List (Addr × Obj)), AllBare gn → Fr h₀ L h' m → News h₀ L h' ((D', LCg.lst ys) :: nw) → (∀ p ∈ news, p ∈ nw) → BB nw ys (takenS ts) → Q (.ref D') { s with heap := h', toks := tk', gens := gn }) → wpAny (model Challenge.rw_pd0147_01.row.prog w) (ktrTop dp un gd cn cs L a ccd cl outer) (call (.ref 160) [.ref D]) Q E s
noncomputable def zz : (World) × (List Str) × (ExcName → Option Value) × (Str → Option Value) × (Str → Option Value) × (List (Addr × Obj)) × (Nat) × (Nat) × (Option (List Code)) × (Str) × (Scope) × (Addr) × (Value) × (List (Str × Addr)) × (List Env) × (Around) × (Heap) × (Heap) × (Addr) × (Str → Option Value) × (Shared) × (Value → Shared → Prop) × (Value → Shared → Prop) × (Addr) × (List Value) × (List Str) × (Nat) := @Classical.epsilon _ ⟨((⟨fun _ _ => 0, { strHash := fun _ => 0, shareClass := fun _ => 0, mergeTok := id, idOf := fun _ => 0, idOfShared := fun _ _ => 0, followText := fun _ => false, idOfImm := fun _ => 0 }⟩ : World), (Classical.ofNonempty : List Str), (Classical.ofNonempty : ExcName → Option Value), (Classical.ofNonempty : Str → Option Value), (Classical.ofNonempty : Str → Option Value), (Classical.ofNonempty : List (Addr × Obj)), (Classical.ofNonempty : Nat), (Classical.ofNonempty : Nat), (Classical.ofNonempty : Option (List Code)), (Classical.ofNonempty : Str), (Classical.ofNonempty : Scope), (Classical.ofNonempty : Addr), (Classical.ofNonempty : Value), (Classical.ofNonempty : List (Str × Addr)), (Classical.ofNonempty : List Env), (callerA : Around), (Classical.ofNonempty : Heap), (Classical.ofNonempty : Heap), (Classical.ofNonempty : Addr), (Classical.ofNonempty : Str → Option Value), ({} : Shared), (Classical.ofNonempty : Value → Shared → Prop), (Classical.ofNonempty : Value → Shared → Prop), (Classical.ofNonempty : Addr), (Classical.ofNonempty : List Value), (Classical.ofNonempty : List Str), (Classical.ofNonempty : Nat))⟩ fun zz => ¬ Ztaken_c.S (zz.1) (zz.2.1) (zz.2.2.1) (zz.2.2.2.1) (zz.2.2.2.2.1) (zz.2.2.2.2.2.1) (zz.2.2.2.2.2.2.1) (zz.2.2.2.2.2.2.2.1) (zz.2.2.2.2.2.2.2.2.1) (zz.2.2.2.2.2.2.2.2.2.1) (zz.2.2.2.2.2.2.2.2.2.2.1) (zz.2.2.2.2.2.2.2.2.2.2.2.1) (zz.2.2.2.2.2.2.2.2.2.2.2.2.1) (zz.2.2.2.2.2.2.2.2.2.2.2.2.2.1) (zz.2.2.2.2.2.2.2.2.2.2.2.2.2.2.1) (zz.2.2.2.2.2.2.2.2.2.2.2.2.2.2.2.1) (zz.2.2.2.2.2.2.2.2.2.2.2.2.2.2.2.2.1) (zz.2.2.2.2.2.2.2.2.2.2.2.2.2.2.2.2.2.1) (zz.2.2.2.2.2.2.2.2.2.2.2.2.2.2.2.2.2.2.1) (zz.2.2.2.2.2.2.2.2.2.2.2.2.2.2.2.2.2.2.2.1) (zz.2.2.2.2.2.2.2.2.2.2.2.2.2.2.2.2.2.2.2.2.1) (zz.2.2.2.2.2.2.2.2.2.2.2.2.2.2.2.2.2.2.2.2.2.1) (zz.2.2.2.2.2.2.2.2.2.2.2.2.2.2.2.2.2.2.2.2.2.2.1) (zz.2.2.2.2.2.2.2.2.2.2.2.2.2.2.2.2.2.2.2.2.2.2.2.1) (zz.2.2.2.2.2.2.2.2.2.2.2.2.2.2.2.2.2.2.2.2.2.2.2.2.1) (zz.2.2.2.2.2.2.2.2.2.2.2.2.2.2.2.2.2.2.2.2.2.2.2.2.2.1) (zz.2.2.2.2.2.2.2.2.2.2.2.2.2.2.2.2.2.2.2.2.2.2.2.2.2.2)
noncomputable def w : World := zz.1
noncomputable def loose : List Str := zz.2.1
noncomputable def mean : ExcName → Option Value := zz.2.2.1
noncomputable def mg : Str → Option Value := zz.2.2.2.1
noncomputable def mb : Str → Option Value := zz.2.2.2.2.1
noncomputable def news : List (Addr × Obj) := zz.2.2.2.2.2.1
noncomputable def dp : Nat := zz.2.2.2.2.2.2.1
noncomputable def un : Nat := zz.2.2.2.2.2.2.2.1
noncomputable def gd : Option (List Code) := zz.2.2.2.2.2.2.2.2.1
noncomputable def cn : Str := zz.2.2.2.2.2.2.2.2.2.1
noncomputable def cs : Scope := zz.2.2.2.2.2.2.2.2.2.2.1
noncomputable def a : Addr := zz.2.2.2.2.2.2.2.2.2.2.2.1
noncomputable def ccd : Value := zz.2.2.2.2.2.2.2.2.2.2.2.2.1
noncomputable def cl : List (Str × Addr) := zz.2.2.2.2.2.2.2.2.2.2.2.2.2.1
noncomputable def outer : List Env := zz.2.2.2.2.2.2.2.2.2.2.2.2.2.2.1
noncomputable def A₀ : Around := zz.2.2.2.2.2.2.2.2.2.2.2.2.2.2.2.1
noncomputable def base : Heap := zz.2.2.2.2.2.2.2.2.2.2.2.2.2.2.2.2.1
noncomputable def h₀ : Heap := zz.2.2.2.2.2.2.2.2.2.2.2.2.2.2.2.2.2.1
noncomputable def L : Addr := zz.2.2.2.2.2.2.2.2.2.2.2.2.2.2.2.2.2.2.1
noncomputable def m : Str → Option Value := zz.2.2.2.2.2.2.2.2.2.2.2.2.2.2.2.2.2.2.2.1
noncomputable def s : Shared := zz.2.2.2.2.2.2.2.2.2.2.2.2.2.2.2.2.2.2.2.2.1
noncomputable def Q : Value → Shared → Prop := zz.2.2.2.2.2.2.2.2.2.2.2.2.2.2.2.2.2.2.2.2.2.1
noncomputable def E : Value → Shared → Prop := zz.2.2.2.2.2.2.2.2.2.2.2.2.2.2.2.2.2.2.2.2.2.2.1
noncomputable def D : Addr := zz.2.2.2.2.2.2.2.2.2.2.2.2.2.2.2.2.2.2.2.2.2.2.2.1
noncomputable def vs : List Value := zz.2.2.2.2.2.2.2.2.2.2.2.2.2.2.2.2.2.2.2.2.2.2.2.2.1
noncomputable def ts : List Str := zz.2.2.2.2.2.2.2.2.2.2.2.2.2.2.2.2.2.2.2.2.2.2.2.2.2.1
noncomputable def nn : Nat := zz.2.2.2.2.2.2.2.2.2.2.2.2.2.2.2.2.2.2.2.2.2.2.2.2.2.2
theorem p (hv : StrsAre vs ts) (hz : ts.length ≤ 6) (hz3 : ∀ y ∈ ts, y.length ≤ 3) (hD : (D, listOf vs.toArray nn) ∈ news) (hb : AllBare s.gens) (B : Below A₀ base outer h₀) (F : Fr h₀ L s.heap m) (X : (hd.heap_39 w.params).In h₀) (N : News h₀ L s.heap news) (T : Top hd.view_39 loose mean mg mb h₀) (hk : cs.kind = .function) (hR : dp + 100 < recursionLimit ∧ un + 1000 < cLine) (hret : ∀ (h' : Heap) (tk' : Nat) (gn : Array GenState) (D' : Addr) (ys : List Value) (nw : List (Addr × Obj)), AllBare gn → Fr h₀ L h' m → News h₀ L h' ((D', LCg.lst ys) :: nw) → (∀ p ∈ news, p ∈ nw) → BB nw ys (takenS ts) → Q (.ref D') { s with heap := h', toks := tk', gens := gn }) : wpAny (model Challenge.rw_pd0147_01.row.prog w) (ktrTop dp un gd cn cs L a ccd cl outer) (call (.ref 160) [.ref D]) Q E s := by
  obtain ⟨hR1, hR2⟩ := hR
  have hvl : vs.length = ts.length := hv.length
  have hSAll : ∀ a b, StrsAre ((vs.drop a).take b) ((ts.drop a).take b) := strsAre_run hv
  revert X; k_fill; intro X
  refine wpAny_call ?_
  k_dflt (refine' code_defC ?k1 ?k2 ?k3 ?k4 ?k5 ?kA ?kF ?kK ?k6 ?k7 ?k8 ?k9 ?kB ?kD ?_ ?c2 ?c3 ?c4; (case kA => exact rfl); (case kF => exact rfl); (case kK => assumption); (case k1 => k_asm); (case k2 => k_asm); (case k3 => k_asm); (case k4 => k_asm); (case k5 => k_asm); (case k6 => k_is); (case k7 => k_is); (case k8 => ktr_room); (case k9 => exact BindsTo.of_eq rfl); (case kB => exact rfl); (case kD => decide +kernel); (case c2 => exact rfl); (case c3 => exact rfl); (case c4 => exact rfl); k_whole)
  intro g7 L7 h7 tk7 cells7 FG7 F7 N7 Y7 B7 X7 T7 l7
  try k_lt l7
  obtain ⟨o7, o8, hE7, d7, d8⟩ := CellsAre.two Y7
  subst hE7
  clear Y7
  have hbase : ∀ b, g7.get? b ≠ none → True := fun _ _ => trivial
  clear hbase
  first
    | (replace d7 : o7.data = .cell none := d7.trans (by with_unfolding_all rfl); replace d8 : o8.data = .cell (some (.ref D)) := d8.trans (by with_unfolding_all rfl))
    | (replace d7 : o7.data = .cell (some (.ref D)) := d7.trans (by with_unfolding_all rfl); replace d8 : o8.data = .cell none := d8.trans (by with_unfolding_all rfl))
  replace F7 : Fr _ _ _ (fun y => none) := F7
  simp only [List.cons_append, List.nil_append] at N7
  try dsimp only
  try k_lift B7
  try k_fold
  have hlim7 := T7.nolimit
  have N8 := newsAdd (base := [(D, listOf vs.toArray nn)]) N7 (by intro p hp; rw [List.mem_singleton.mp hp]; simp [hD])
  simp only [List.cons_append, List.nil_append] at N8
  clear N7
  walk_at "mine steps"
  have hDlt : D < L7 := l7 _ hD
  have c1 : (L7 + 1 : Addr) ≠ L7 + 1 + 1 := Nat.ne_of_lt (Nat.lt_succ_self _)
  refine storeC (own := [(D, listOf vs.toArray nn)]) (c := L7 + 1 + 1) (o := o7) (rest := (L7 + 1, o8) :: news) F7 N8 rfl rfl rfl d7 ?_ ?_ ?_
  · intro p hp
    rw [List.mem_singleton.mp hp]
    exact Nat.ne_of_lt (Nat.lt_succ_of_lt (Nat.lt_succ_of_lt hDlt))
  · intro p hp
    rcases List.mem_cons.mp hp with rfl | hp
    · exact c1
    · exact Nat.ne_of_lt (Nat.lt_succ_of_lt (Nat.lt_succ_of_lt (l7 p hp)))
  clear F7 N8 d7
  intro h8 o9 F8 N8 d9
  simp only [List.cons_append, List.nil_append] at N8
  try dsimp only
  walk_at "mine steps"
  rename Fr _ _ _ _ => Fa
  rename News _ _ _ _ => Na
  rename IsRange _ _ _ _ _ _ _ _ => Ra
  refine ⟨_, 0, (ts.length : Int) + 1, _, _, _, ts.length + 1, _, _, AllBare, fun i ys nw => BB nw ys ((List.range i).map (takenRow ts)), rfl, rfl, Fa, Na, Ra, smallR (by omega) (by omega) (by omega) (by omega), (by rw [PyProof.Rows.rangeSize_nat]; omega), by omega, hb, BB.nil, ?_, ?_⟩
  · rintro g i v ys nw I oI K oK C oC D9 h9 tk9 gn E' hP ⟨hsub, hJ⟩ dK F9 N9 off9 ne9 hG
    obtain ⟨hi, ti, rfl⟩ := hP
    rw [Int.zero_add] at dK
    have N8 := newsAdd (base := [(D, listOf vs.toArray nn), (L7 + 1 + 1, o9), (L7 + 1, o8)]) N9 (by
      intro p hp
      simp only [List.mem_cons, List.not_mem_nil, or_false] at hp
      rcases hp with rfl | rfl | rfl
      · have := hsub (D, listOf vs.toArray nn) (by simp); simp [this]
      · have := hsub (L7 + 1 + 1, o9) (by simp); simp [this]
      · have := hsub (L7 + 1, o8) (by simp); simp [this])
    simp only [List.cons_append, List.nil_append] at N8
    clear N9 Fa Na Ra
    try dsimp only
    walk_at "mine steps"
    rename Fr _ _ _ _ => Fb
    rename News _ _ _ _ => Nb
    rename IsRange _ _ _ _ _ _ _ _ => Rb
    refine srcRange (n := ts.length + 1 - i) AllBare (fun d zs _ => zs = ((List.range d).map fun d => checkS (Str.join (Str.ofString "") ((ts.drop i).take d))).map Value.bool) rfl Fb Nb Rb (smallR (by omega) (by omega) (by omega) (by omega)) (by rw [PyProof.Rows.rangeSize_nat]; omega) (by omega) hG rfl ?_ ?_
    · intro g2
      refine turnsPlain ?_
      rintro d v zs nw3 I2 oI2 C2 oC2 D2 m3 h6 tk6 gn6 E2 hP2 ⟨hsub3, hJ3⟩ hC2 hx2 F6 N6 off6 ne6 hG6
      obtain ⟨hd, tj, rfl⟩ := hP2
      have ej : ((i : Int) + (d : Int)) = ((i + d : Nat) : Int) := by push_cast; rfl
      rw [ej] at hx2
      have N5 := newsIns3 (b1 := (K, oK)) (b2 := (D, listOf vs.toArray nn)) (b3 := (L7 + 1, o8)) (r := []) N6 (by
        intro p hp
        simp only [List.mem_cons, List.not_mem_nil, or_false] at hp
        rcases hp with rfl | rfl | rfl
        · exact hsub3 _ (by simp)
        · exact hsub3 _ (by simp)
        · exact hsub3 _ (by simp))
      have hij : i + d ≤ vs.length := by omega
      have hvz : vs.length ≤ 100000 := by omega
      have hSA := hSAll i (i + d - i)
      have hshort : ((ts.drop i).take (i + d - i)).length ≤ 6 := by simp only [List.length_take, List.length_drop]; omega
      have hsm3 : ∀ y ∈ (ts.drop i).take (i + d - i), y.length ≤ 3 := fun y hy => hz3 y (List.mem_of_mem_drop (List.mem_of_mem_take hy))
      have hFit := (join_short hshort hsm3).2
      have hx18 := (join_short hshort hsm3).1
      have hx1000 : (Str.join (Str.ofString "") ((ts.drop i).take (i + d - i))).length ≤ 1000 := by omega
      have hxs := strip_len hx18
      clear N6 Nb Fb Rb
      try dsimp only
      walk_at "mine steps"
      refine TurnEnd.mkG nw3 (by assumption) (by assumption) (by assumption) ?_ off6 ⟨hsub3, ?_⟩
      · intro p hp
        simp only [List.mem_cons] at hp ⊢
        rcases hp with h | h | h | h <;> simp [h]
      · rw [hJ3, Nat.add_sub_cancel_left]
        show _ = ((List.range (d + 1)).map _).map Value.bool
        rw [List.range_succ, List.map_append, List.map_append]; rfl
    · intro g2 gn2 zs nw3 hG2 hl3 hsub3 hJ3
      have hzs : zs = (takenRow ts i).map Value.bool := hJ3
      subst hzs
      intro D2 h6 tk6 F6 N6 o6
      have m6 := off1_mem o6
      refine TurnEndC.mkG ((D2, listOf ((takenRow ts i).map Value.bool).toArray ((takenRow ts i).map Value.bool).length) :: nw) hG2 F6 N6 ?_ ?_ ⟨fun p hp => .tail _ (hsub p hp), ?_⟩
      · intro p hp
        simp only [List.mem_cons] at hp
        rcases hp with rfl | rfl | rfl | rfl | rfl | hp
        · exact .tail _ (hsub3 _ (by simp))
        · exact .tail _ (hsub3 _ (by simp))
        · exact .tail _ (hsub3 _ (by simp))
        · exact .tail _ (hsub3 _ (by simp))
        · exact .head _
        · exact .tail _ (hsub3 _ (by simp [hp]))
      · intro p hp
        rcases List.mem_cons.mp hp with rfl | hp
        · exact ⟨Ne.symm (m6 (I, oI) (hsub3 _ (by simp))), Ne.symm (m6 (K, oK) (hsub3 _ (by simp))), Ne.symm (m6 (C, oC) (hsub3 _ (by simp))), Ne.symm (m6 (D9, LCg.lst ys) (hsub3 _ (by simp)))⟩
        · exact off9 p hp
      · show BB _ _ ((List.range (i + 1)).map (takenRow ts))
        rw [List.range_succ, List.map_append]
        exact (hJ.mono (news' := (D2, listOf ((takenRow ts i).map Value.bool).toArray ((takenRow ts i).map Value.bool).length) :: nw) fun p hp => .tail _ hp).snoc (.head _)
  · intro D9 g tk gn ys nw F9 N9 o9 hG hl hsub hJ
    have hdrop : ∀ p ∈ news, p ∈ nw := fun p hp => hsub p (by simp [hp])
    clear Fa Na Ra
    try dsimp only
    walk_at "mine steps"
    exact hret _ _ _ _ _ _ hG (by assumption) (by assumption) hdrop hJ
theorem q : S w loose mean mg mb news dp un gd cn cs a ccd cl outer A₀ base h₀ L m s Q E D vs ts nn := by unfold S; exact p
end Ztaken_c
section
variable {w : World} {loose : List Str} {mean : ExcName → Option Value} {mg mb : Str → Option Value} {news : List (Addr × Obj)}
  {dp un : Nat} {gd : Option (List Code)} {cn : Str} {cs : Scope} {a : Addr} {ccd : Value} {cl : List (Str × Addr)} {outer : List Env} {A₀ : Around} {base h₀ : Heap} {L : Addr} {m : Str → Option Value} {s : Shared} {Q E : Value → Shared → Prop}
theorem taken_c {D : Addr}
    {vs : List Value}
    {ts : List Str}
    {nn : Nat}
    (hv : StrsAre vs ts)
    (hz : ts.length ≤ 6)
    (hz3 : ∀ y ∈ ts, y.length ≤ 3)
    (hD : (D, listOf vs.toArray nn) ∈ news)
    (hb : AllBare s.gens)
    (B : Below A₀ base outer h₀)
    (F : Fr h₀ L s.heap m)
    (X : (hd.heap_39 w.params).In h₀)
    (N : News h₀ L s.heap news)
    (T : Top hd.view_39 loose mean mg mb h₀)
    (hk : cs.kind = .function)
    (hR : dp + 100 < recursionLimit ∧ un + 1000 < cLine)
    (hret : ∀ (h' : Heap) (tk' : Nat) (gn : Array GenState) (D' : Addr) (ys : List Value) (nw : List (Addr × Obj)), AllBare gn → Fr h₀ L h' m → News h₀ L h' ((D', LCg.lst ys) :: nw) → (∀ p ∈ news, p ∈ nw) → BB nw ys (takenS ts) → Q (.ref D') { s with heap := h', toks := tk', gens := gn }) : wpAny (model Challenge.rw_pd0147_01.row.prog w) (ktrTop dp un gd cn cs L a ccd cl outer) (call (.ref 160) [.ref D]) Q E s :=
  epsAll (P := fun zz => Ztaken_c.S (zz.1) (zz.2.1) (zz.2.2.1) (zz.2.2.2.1) (zz.2.2.2.2.1) (zz.2.2.2.2.2.1) (zz.2.2.2.2.2.2.1) (zz.2.2.2.2.2.2.2.1) (zz.2.2.2.2.2.2.2.2.1) (zz.2.2.2.2.2.2.2.2.2.1) (zz.2.2.2.2.2.2.2.2.2.2.1) (zz.2.2.2.2.2.2.2.2.2.2.2.1) (zz.2.2.2.2.2.2.2.2.2.2.2.2.1) (zz.2.2.2.2.2.2.2.2.2.2.2.2.2.1) (zz.2.2.2.2.2.2.2.2.2.2.2.2.2.2.1) (zz.2.2.2.2.2.2.2.2.2.2.2.2.2.2.2.1) (zz.2.2.2.2.2.2.2.2.2.2.2.2.2.2.2.2.1) (zz.2.2.2.2.2.2.2.2.2.2.2.2.2.2.2.2.2.1) (zz.2.2.2.2.2.2.2.2.2.2.2.2.2.2.2.2.2.2.1) (zz.2.2.2.2.2.2.2.2.2.2.2.2.2.2.2.2.2.2.2.1) (zz.2.2.2.2.2.2.2.2.2.2.2.2.2.2.2.2.2.2.2.2.1) (zz.2.2.2.2.2.2.2.2.2.2.2.2.2.2.2.2.2.2.2.2.2.1) (zz.2.2.2.2.2.2.2.2.2.2.2.2.2.2.2.2.2.2.2.2.2.2.1) (zz.2.2.2.2.2.2.2.2.2.2.2.2.2.2.2.2.2.2.2.2.2.2.2.1) (zz.2.2.2.2.2.2.2.2.2.2.2.2.2.2.2.2.2.2.2.2.2.2.2.2.1) (zz.2.2.2.2.2.2.2.2.2.2.2.2.2.2.2.2.2.2.2.2.2.2.2.2.2.1) (zz.2.2.2.2.2.2.2.2.2.2.2.2.2.2.2.2.2.2.2.2.2.2.2.2.2.2)) Ztaken_c.q (w, loose, mean, mg, mb, news, dp, un, gd, cn, cs, a, ccd, cl, outer, A₀, base, h₀, L, m, s, Q, E, D, vs, ts, nn) hv hz hz3 hD hb B F X N T hk hR hret
end
end
section
open PySem PySem.W PyProof.Rows PySem.Calls PyProof.Rows.LCg
set_option Elab.async false
set_option maxRecDepth 100000
set_option maxHeartbeats 4000000
section
variable {prog : Program} {w : World} {A : Around} {s : Shared} {env : Env} {h₀ : Heap}
/-- how a turn of a loop over a range ends -/
def RgPost (h₀ : Heap) (L : Addr) (J : (Str → Option Value) → List (Addr × Obj) → Prop) (It : Addr) (oI : Obj) (s₁ : Shared) (Q : Flow → Shared → Prop) (f : Flow) (s₂ : Shared) : Prop :=
  match f with
  | .ret v => Q (.ret v) s₂
  | .brk => Q .next s₂
  | _ => ∃ h' tk m' nx, s₂ = { s₁ with heap := h', toks := tk } ∧ Fr h₀ L h' m' ∧ News h₀ L h' ((It, oI) :: nx) ∧ (∀ p ∈ nx, p.1 ≠ It) ∧ J m' nx
theorem RgPost.mk' {L : Addr} {J : (Str → Option Value) → List (Addr × Obj) → Prop} {It : Addr} {oI : Obj} {all : List (Addr × Obj)} {s₁ : Shared} {Q : Flow → Shared → Prop} {h' : Heap} {tk : Nat} {m' : Str → Option Value} (nx : List (Addr × Obj)) (F : Fr h₀ L h' m') (N : News h₀ L h' all) (hs : ∀ p ∈ (It, oI) :: nx, p ∈ all)
    (ho : ∀ p ∈ nx, p.1 ≠ It) (hj : J m' nx) : RgPost h₀ L J It oI s₁ Q .next { s₁ with heap := h', toks := tk } := ⟨h', tk, m', nx, rfl, F, fun p hp => N p (hs p hp), ho, hj⟩
/-- a loop over a range, held back from the walk -/
def RgAt (prog : Program) (w : World) (A : Around) (h₀ : Heap) (env : Env) (x : Str) (body : List Stmt) (Q : Flow → Shared → Prop) (E : Value → Shared → Prop) (xval : Value) (s₁ : Shared) : Prop :=
  ∃ (r : Addr) (a b : Int) (t u v : Tok) (n : Nat) (m : Str → Option Value) (news : List (Addr × Obj)) (J : Nat → (Str → Option Value) → List (Addr × Obj) → Prop),
    xval = .ref r ∧ A.handled = none ∧ Fr h₀ env.locals s₁.heap m ∧ News h₀ env.locals s₁.heap news ∧ IsRange s₁.heap r a b 1 t u v ∧ Builtin.Range.small a b 1 = true ∧ Builtin.Range.rangeSize a b 1 = ((n : Nat) : Int) ∧ J 0 m news ∧
    (∀ i m₁ nx h tk It oI t1, i < n → J i m₁ nx → (∀ p ∈ nx, p.1 ≠ It) → Fr h₀ env.locals h (fun y => if y = x then some (.int (a + (i : Int)) t1) else m₁ y) → News h₀ env.locals h ((It, oI) :: nx) →
      wpAny (model prog w) A (execs body env) (RgPost h₀ env.locals (J (i + 1)) It oI { s₁ with heap := h, toks := tk } Q) E { s₁ with heap := h, toks := tk }) ∧
    (∀ m₁ nx h tk, J n m₁ nx → Fr h₀ env.locals h m₁ → News h₀ env.locals h nx → Q .next { s₁ with heap := h, toks := tk })
end
namespace ZforRange
def S (prog : Program) (w : World) (A : Around) (s : Shared) (env : Env) (h₀ : Heap) (E : Value → Shared → Prop) (Q : Flow → Shared → Prop) (x : Str) (px : Pos) (pos : Pos) (iter : Expr) (body : List Stmt) (L : Addr) (m : Str → Option Value) : Prop := (_F : Fr h₀ L s.heap m) → (hx : env.kindOf x = some .local) → (hp : (env.scope.kind == .class || (env.scope.kind == .module && env.locals != env.globals)) = false) → (h : wpAny (model prog w) A (eval iter env) (RgAt prog w A h₀ env x body Q E) E s) → (hs : ∀ x, foldedSetIterable iter env x = pure x) → (hE : PassesOwn (model prog w) A env E) → wpAny (model prog w) A (exec (.For (.Name x px) iter body [] pos) env) Q E s
noncomputable def zz : (Program) × (World) × (Around) × (Shared) × (Env) × (Heap) × (Value → Shared → Prop) × (Flow → Shared → Prop) × (Str) × (Pos) × (Pos) × (Expr) × (List Stmt) × (Addr) × (Str → Option Value) := @Classical.epsilon _ ⟨((Classical.ofNonempty : Program), (⟨fun _ _ => 0, { strHash := fun _ => 0, shareClass := fun _ => 0, mergeTok := id, idOf := fun _ => 0, idOfShared := fun _ _ => 0, followText := fun _ => false, idOfImm := fun _ => 0 }⟩ : World), (callerA : Around), ({} : Shared), (Classical.ofNonempty : Env), (Classical.ofNonempty : Heap), (Classical.ofNonempty : Value → Shared → Prop), (Classical.ofNonempty : Flow → Shared → Prop), (Classical.ofNonempty : Str), (Classical.ofNonempty : Pos), (Classical.ofNonempty : Pos), (Classical.ofNonempty : Expr), (Classical.ofNonempty : List Stmt), (Classical.ofNonempty : Addr), (Classical.ofNonempty : Str → Option Value))⟩ fun zz => ¬ ZforRange.S (zz.1) (zz.2.1) (zz.2.2.1) (zz.2.2.2.1) (zz.2.2.2.2.1) (zz.2.2.2.2.2.1) (zz.2.2.2.2.2.2.1) (zz.2.2.2.2.2.2.2.1) (zz.2.2.2.2.2.2.2.2.1) (zz.2.2.2.2.2.2.2.2.2.1) (zz.2.2.2.2.2.2.2.2.2.2.1) (zz.2.2.2.2.2.2.2.2.2.2.2.1) (zz.2.2.2.2.2.2.2.2.2.2.2.2.1) (zz.2.2.2.2.2.2.2.2.2.2.2.2.2.1) (zz.2.2.2.2.2.2.2.2.2.2.2.2.2.2)
noncomputable def prog : Program := zz.1
noncomputable def w : World := zz.2.1
noncomputable def A : Around := zz.2.2.1
noncomputable def s : Shared := zz.2.2.2.1
noncomputable def env : Env := zz.2.2.2.2.1
noncomputable def h₀ : Heap := zz.2.2.2.2.2.1
noncomputable def E : Value → Shared → Prop := zz.2.2.2.2.2.2.1
noncomputable def Q : Flow → Shared → Prop := zz.2.2.2.2.2.2.2.1
noncomputable def x : Str := zz.2.2.2.2.2.2.2.2.1
noncomputable def px : Pos := zz.2.2.2.2.2.2.2.2.2.1
noncomputable def pos : Pos := zz.2.2.2.2.2.2.2.2.2.2.1
noncomputable def iter : Expr := zz.2.2.2.2.2.2.2.2.2.2.2.1
noncomputable def body : List Stmt := zz.2.2.2.2.2.2.2.2.2.2.2.2.1
noncomputable def L : Addr := zz.2.2.2.2.2.2.2.2.2.2.2.2.2.1
noncomputable def m : Str → Option Value := zz.2.2.2.2.2.2.2.2.2.2.2.2.2.2
theorem p (_F : Fr h₀ L s.heap m) (hx : env.kindOf x = some .local) (hp : (env.scope.kind == .class || (env.scope.kind == .module && env.locals != env.globals)) = false) (h : wpAny (model prog w) A (eval iter env) (RgAt prog w A h₀ env x body Q E) E s) (hs : ∀ x, foldedSetIterable iter env x = pure x) (hE : PassesOwn (model prog w) A env E) : wpAny (model prog w) A (exec (.For (.Name x px) iter body [] pos) env) Q E s := by
  refine wpAny_For (wpAny_mono h (fun xval s₁ h₁ => ?_) fun _ _ e => e) hs
  obtain ⟨r, a, b, t, u, v, n, m, news, J, rfl, hh, F, N, hr, hsm, hn, hj, turn, done⟩ := h₁
  refine wpAny_pyIter_range hr hsm ?_
  have up : ∀ (ob : Obj) b o, s₁.heap.get? b = some o → (s₁.heap.push ob).get? b = some o := fun ob b o e => Heap.get?_push_of_some _ e
  have hst0 : IsRangeIter (s₁.heap.push { cls := .type "range_iterator", dict := none, data := .fields #[rawInt a, rawInt (Builtin.Range.rangeSize a b 1), rawInt 1] }) s₁.heap.objs.size (a + ((0 : Nat) : Int) * 1) ((n : Int) - ((0 : Nat) : Int)) 1 := by
    show IsRangeIter _ _ _ _ _; rw [hn]; simpa using Heap.get?_push_size _ rfl
  have hI₀ : h₀.get? s₁.heap.objs.size = none := next_is_new F
  have hIL : env.locals ≠ s₁.heap.objs.size := Nat.ne_of_lt F.ns.lt
  have offI : ∀ p ∈ news, p.1 ≠ s₁.heap.objs.size := fun p hp => Nat.ne_of_lt (Heap.lt_size (N p hp).1)
  have W := range_walks (prog := prog) (w := w) (A := A) (I := s₁.heap.objs.size) hh a n
  refine forLoopT (R := fun r s' => match r with | .ok f => Q f s' | .error e => cameBackBy (model prog w) A env E e s')
    (fun k s' => ∃ h' tk m' nx i, s' = { s₁ with heap := h', toks := tk } ∧ i ≤ n ∧ k = n - i ∧ IsRangeIter h' s₁.heap.objs.size (a + (i : Nat) * 1) ((n : Int) - (i : Nat)) 1 ∧ Fr h₀ env.locals h' m' ∧ News h₀ env.locals h' nx ∧ (∀ p ∈ nx, p.1 ≠ s₁.heap.objs.size) ∧ J i m' nx) ?_ n
    ⟨_, _, m, news, 0, rfl, Nat.zero_le _, rfl, hst0, F.push _, N.grown (up _), offI, hj⟩
  rintro k s' ⟨h', tk, m', nx, i, rfl, hi, rfl, hst, F', N', off', hJ⟩
  rcases Nat.lt_or_ge i n with hlt | hge
  · refine W.item i _ _ _ hlt hst fun v h₁ tk₁ hPt hst₁ hk₁ => ?_
    obtain ⟨t1, rfl⟩ := hPt
    have F₁ := fr_but F' hk₁ hIL hI₀
    have N₁ := news_but N' hk₁ off'
    refine wpAny_of_eq (a := ()) (by rfl) ?_
    refine wpAny_assign_Name (wpAny_storeName_local hx F₁.ns (fun h₂ hn₂ hs₂ => ?_) hp)
    replace hs₂ : Heap.SameBut env.locals h₁ h₂ := hs₂
    have F₂ := F₁.set hn₂ hs₂
    obtain ⟨oI, hoI⟩ : ∃ oI, h₁.get? s₁.heap.objs.size = some oI := ⟨_, hst₁⟩
    have N₂ : News h₀ env.locals h₂ ((s₁.heap.objs.size, oI) :: nx) := fun p hp => by
      rcases List.mem_cons.mp hp with rfl | hp
      · exact ⟨hs₂.extBut _ _ (Ne.symm hIL) hoI, Ne.symm hIL, hI₀⟩
      · have z := N₁ p hp
        exact ⟨hs₂.extBut _ _ z.2.1 z.1, z.2⟩
    refine wpAny_mono (wpAny_passesOwn hE (turn i m' nx h₂ _ _ oI t1 hlt hJ off' F₂ N₂)) (fun f s₃ hf => ?_) fun _ _ x => x
    have fin : (∃ h'' tk'' m'' nx'', s₃ = { s₁ with heap := h'', toks := tk'' } ∧ Fr h₀ env.locals h'' m'' ∧ News h₀ env.locals h'' ((s₁.heap.objs.size, oI) :: nx'') ∧ (∀ p ∈ nx'', p.1 ≠ s₁.heap.objs.size) ∧ J (i + 1) m'' nx'') →
        ∃ mm, mm < n - i ∧ ∃ h' tk m' nx i, s₃ = { s₁ with heap := h', toks := tk } ∧ i ≤ n ∧ mm = n - i ∧ IsRangeIter h' s₁.heap.objs.size (a + (i : Nat) * 1) ((n : Int) - (i : Nat)) 1 ∧ Fr h₀ env.locals h' m' ∧ News h₀ env.locals h' nx ∧ (∀ p ∈ nx, p.1 ≠ s₁.heap.objs.size) ∧ J i m' nx := by
      rintro ⟨h'', tk'', m'', nx'', rfl, F'', N'', off'', hJ''⟩
      refine ⟨n - (i + 1), by omega, h'', tk'', m'', nx'', i + 1, rfl, hlt, rfl, ?_, F'', fun p hp => N'' p (.tail _ hp), off'', hJ''⟩
      have e1 := (N'' _ (.head _)).1
      show h''.get? s₁.heap.objs.size = some _
      have e2 : h₁.get? s₁.heap.objs.size = some _ := hst₁
      rw [hoI] at e2
      exact e1.trans e2
    cases f with
    | ret v => exact hf
    | brk => exact hf
    | next => exact fin hf
    | cont => exact fin hf
  · obtain rfl : i = n := Nat.le_antisymm hi hge
    refine W.done _ _ _ hst fun h₁ tk₁ hk₁ => ?_
    refine wpAny_execs_nil ?_
    exact done m' nx h₁ tk₁ hJ (fr_but F' hk₁ hIL hI₀) (news_but N' hk₁ off')
theorem q : S prog w A s env h₀ E Q x px pos iter body L m := by unfold S; exact p
end ZforRange
section
variable {prog : Program} {w : World} {A : Around} {s : Shared} {env : Env} {h₀ : Heap}
theorem forRange {E : Value → Shared → Prop}
    {Q : Flow → Shared → Prop}
    {x : Str}
    {px pos : Pos}
    {iter : Expr}
    {body : List Stmt}
    {L : Addr}
    {m : Str → Option Value}
    (_F : Fr h₀ L s.heap m)
    (hx : env.kindOf x = some .local)
    (hp : (env.scope.kind == .class || (env.scope.kind == .module && env.locals != env.globals)) = false)
    (h : wpAny (model prog w) A (eval iter env) (RgAt prog w A h₀ env x body Q E) E s)
    (hs : ∀ x, foldedSetIterable iter env x = pure x := by intro _; rfl)
    (hE : PassesOwn (model prog w) A env E := by passes_own) : wpAny (model prog w) A (exec (.For (.Name x px) iter body [] pos) env) Q E s :=
  epsAll (P := fun zz => ZforRange.S (zz.1) (zz.2.1) (zz.2.2.1) (zz.2.2.2.1) (zz.2.2.2.2.1) (zz.2.2.2.2.2.1) (zz.2.2.2.2.2.2.1) (zz.2.2.2.2.2.2.2.1) (zz.2.2.2.2.2.2.2.2.1) (zz.2.2.2.2.2.2.2.2.2.1) (zz.2.2.2.2.2.2.2.2.2.2.1) (zz.2.2.2.2.2.2.2.2.2.2.2.1) (zz.2.2.2.2.2.2.2.2.2.2.2.2.1) (zz.2.2.2.2.2.2.2.2.2.2.2.2.2.1) (zz.2.2.2.2.2.2.2.2.2.2.2.2.2.2)) ZforRange.q (prog, w, A, s, env, h₀, E, Q, x, px, pos, iter, body, L, m) _F hx hp h hs hE
/-- the same where the loop's own name is a cell -/
def RgPostC (h₀ : Heap) (L : Addr) (J : (Str → Option Value) → List (Addr × Obj) → Prop) (It : Addr) (oI : Obj) (K : Addr) (oK : Obj) (s₁ : Shared) (Q : Flow → Shared → Prop) (f : Flow) (s₂ : Shared) : Prop :=
  match f with
  | .ret v => Q (.ret v) s₂
  | .brk => Q .next s₂
  | _ => ∃ h' tk m' nx, s₂ = { s₁ with heap := h', toks := tk } ∧ Fr h₀ L h' m' ∧ News h₀ L h' ((It, oI) :: (K, oK) :: nx) ∧ (∀ p ∈ nx, p.1 ≠ It ∧ p.1 ≠ K) ∧ J m' nx
theorem RgPostC.mk' {L : Addr} {J : (Str → Option Value) → List (Addr × Obj) → Prop} {It K : Addr} {oI oK : Obj} {all : List (Addr × Obj)} {s₁ : Shared} {Q : Flow → Shared → Prop} {h' : Heap} {tk : Nat} {m' : Str → Option Value} (nx : List (Addr × Obj)) (F : Fr h₀ L h' m') (N : News h₀ L h' all) (hs : ∀ p ∈ (It, oI) :: (K, oK) :: nx, p ∈ all)
    (ho : ∀ p ∈ nx, p.1 ≠ It ∧ p.1 ≠ K) (hj : J m' nx) : RgPostC h₀ L J It oI K oK s₁ Q .next { s₁ with heap := h', toks := tk } := ⟨h', tk, m', nx, rfl, F, fun p hp => N p (hs p hp), ho, hj⟩
def RgAtC (prog : Program) (w : World) (A : Around) (h₀ : Heap) (env : Env) (K : Addr) (body : List Stmt) (Q : Flow → Shared → Prop) (E : Value → Shared → Prop) (xval : Value) (s₁ : Shared) : Prop :=
  ∃ (r : Addr) (a b : Int) (t u v : Tok) (n : Nat) (m : Str → Option Value) (oK₀ : Obj) (v₀ : Option Value) (news : List (Addr × Obj)) (J : Nat → (Str → Option Value) → List (Addr × Obj) → Prop),
    xval = .ref r ∧ A.handled = none ∧ Fr h₀ env.locals s₁.heap m ∧ oK₀.data = .cell v₀ ∧ News h₀ env.locals s₁.heap ((K, oK₀) :: news) ∧ (∀ p ∈ news, p.1 ≠ K) ∧ IsRange s₁.heap r a b 1 t u v ∧ Builtin.Range.small a b 1 = true ∧ Builtin.Range.rangeSize a b 1 = ((n : Nat) : Int) ∧ J 0 m news ∧
    (∀ i m₁ nx h tk It oI oK t1, i < n → J i m₁ nx → (∀ p ∈ nx, p.1 ≠ It ∧ p.1 ≠ K) → (@Ne Nat K It) → oK.data = .cell (some (.int (a + (i : Int)) t1)) → Fr h₀ env.locals h m₁ → News h₀ env.locals h ((It, oI) :: (K, oK) :: nx) →
      wpAny (model prog w) A (execs body env) (RgPostC h₀ env.locals (J (i + 1)) It oI K oK { s₁ with heap := h, toks := tk } Q) E { s₁ with heap := h, toks := tk }) ∧
    (∀ m₁ nx h tk oK v', J n m₁ nx → Fr h₀ env.locals h m₁ → oK.data = .cell v' → (∀ p ∈ nx, p.1 ≠ K) → News h₀ env.locals h ((K, oK) :: nx) → Q .next { s₁ with heap := h, toks := tk })
end
namespace ZforRangeC
def S (prog : Program) (w : World) (A : Around) (s : Shared) (env : Env) (h₀ : Heap) (E : Value → Shared → Prop) (Q : Flow → Shared → Prop) (x : Str) (px : Pos) (pos : Pos) (iter : Expr) (body : List Stmt) (L : Addr) (K : Addr) (m : Str → Option Value) : Prop := (_F : Fr h₀ L s.heap m) → (hsk : env.scope.kind = .function) → (hx : env.kindOf x = some .cell) → (hK : env.cells.lookup x = some K) → (h : wpAny (model prog w) A (eval iter env) (RgAtC prog w A h₀ env K body Q E) E s) → (hs : ∀ x, foldedSetIterable iter env x = pure x) → (hE : PassesOwn (model prog w) A env E) → wpAny (model prog w) A (exec (.For (.Name x px) iter body [] pos) env) Q E s
noncomputable def zz : (Program) × (World) × (Around) × (Shared) × (Env) × (Heap) × (Value → Shared → Prop) × (Flow → Shared → Prop) × (Str) × (Pos) × (Pos) × (Expr) × (List Stmt) × (Addr) × (Addr) × (Str → Option Value) := @Classical.epsilon _ ⟨((Classical.ofNonempty : Program), (⟨fun _ _ => 0, { strHash := fun _ => 0, shareClass := fun _ => 0, mergeTok := id, idOf := fun _ => 0, idOfShared := fun _ _ => 0, followText := fun _ => false, idOfImm := fun _ => 0 }⟩ : World), (callerA : Around), ({} : Shared), (Classical.ofNonempty : Env), (Classical.ofNonempty : Heap), (Classical.ofNonempty : Value → Shared → Prop), (Classical.ofNonempty : Flow → Shared → Prop), (Classical.ofNonempty : Str), (Classical.ofNonempty : Pos), (Classical.ofNonempty : Pos), (Classical.ofNonempty : Expr), (Classical.ofNonempty : List Stmt), (Classical.ofNonempty : Addr), (Classical.ofNonempty : Addr), (Classical.ofNonempty : Str → Option Value))⟩ fun zz => ¬ ZforRangeC.S (zz.1) (zz.2.1) (zz.2.2.1) (zz.2.2.2.1) (zz.2.2.2.2.1) (zz.2.2.2.2.2.1) (zz.2.2.2.2.2.2.1) (zz.2.2.2.2.2.2.2.1) (zz.2.2.2.2.2.2.2.2.1) (zz.2.2.2.2.2.2.2.2.2.1) (zz.2.2.2.2.2.2.2.2.2.2.1) (zz.2.2.2.2.2.2.2.2.2.2.2.1) (zz.2.2.2.2.2.2.2.2.2.2.2.2.1) (zz.2.2.2.2.2.2.2.2.2.2.2.2.2.1) (zz.2.2.2.2.2.2.2.2.2.2.2.2.2.2.1) (zz.2.2.2.2.2.2.2.2.2.2.2.2.2.2.2)
noncomputable def prog : Program := zz.1
noncomputable def w : World := zz.2.1
noncomputable def A : Around := zz.2.2.1
noncomputable def s : Shared := zz.2.2.2.1
noncomputable def env : Env := zz.2.2.2.2.1
noncomputable def h₀ : Heap := zz.2.2.2.2.2.1
noncomputable def E : Value → Shared → Prop := zz.2.2.2.2.2.2.1
noncomputable def Q : Flow → Shared → Prop := zz.2.2.2.2.2.2.2.1
noncomputable def x : Str := zz.2.2.2.2.2.2.2.2.1
noncomputable def px : Pos := zz.2.2.2.2.2.2.2.2.2.1
noncomputable def pos : Pos := zz.2.2.2.2.2.2.2.2.2.2.1
noncomputable def iter : Expr := zz.2.2.2.2.2.2.2.2.2.2.2.1
noncomputable def body : List Stmt := zz.2.2.2.2.2.2.2.2.2.2.2.2.1
noncomputable def L : Addr := zz.2.2.2.2.2.2.2.2.2.2.2.2.2.1
noncomputable def K : Addr := zz.2.2.2.2.2.2.2.2.2.2.2.2.2.2.1
noncomputable def m : Str → Option Value := zz.2.2.2.2.2.2.2.2.2.2.2.2.2.2.2
theorem p (_F : Fr h₀ L s.heap m) (hsk : env.scope.kind = .function) (hx : env.kindOf x = some .cell) (hK : env.cells.lookup x = some K) (h : wpAny (model prog w) A (eval iter env) (RgAtC prog w A h₀ env K body Q E) E s) (hs : ∀ x, foldedSetIterable iter env x = pure x) (hE : PassesOwn (model prog w) A env E) : wpAny (model prog w) A (exec (.For (.Name x px) iter body [] pos) env) Q E s := by
  refine wpAny_For (wpAny_mono h (fun xval s₁ h₁ => ?_) fun _ _ e => e) hs
  obtain ⟨r, a, b, t, u, v, n, m, oK₀, v₀, news, J, rfl, hh, F, hd₀, N, offK, hr, hsm, hn, hj, turn, done⟩ := h₁
  refine wpAny_pyIter_range hr hsm ?_
  have up : ∀ (ob : Obj) b o, s₁.heap.get? b = some o → (s₁.heap.push ob).get? b = some o := fun ob b o e => Heap.get?_push_of_some _ e
  have hst0 : IsRangeIter (s₁.heap.push { cls := .type "range_iterator", dict := none, data := .fields #[rawInt a, rawInt (Builtin.Range.rangeSize a b 1), rawInt 1] }) s₁.heap.objs.size (a + ((0 : Nat) : Int) * 1) ((n : Int) - ((0 : Nat) : Int)) 1 := by
    show IsRangeIter _ _ _ _ _; rw [hn]; simpa using Heap.get?_push_size _ rfl
  have hI₀ : h₀.get? s₁.heap.objs.size = none := next_is_new F
  have hIL : env.locals ≠ s₁.heap.objs.size := Nat.ne_of_lt F.ns.lt
  have offI : ∀ p ∈ (K, oK₀) :: news, p.1 ≠ s₁.heap.objs.size := fun p hp => Nat.ne_of_lt (Heap.lt_size (N p hp).1)
  have hKI : K ≠ s₁.heap.objs.size := offI _ (.head _)
  have W := range_walks (prog := prog) (w := w) (A := A) (I := s₁.heap.objs.size) hh a n
  refine forLoopT (R := fun r s' => match r with | .ok f => Q f s' | .error e => cameBackBy (model prog w) A env E e s')
    (fun k s' => ∃ h' tk m' nx i oK v', s' = { s₁ with heap := h', toks := tk } ∧ i ≤ n ∧ k = n - i ∧ IsRangeIter h' s₁.heap.objs.size (a + (i : Nat) * 1) ((n : Int) - (i : Nat)) 1 ∧ Fr h₀ env.locals h' m' ∧ oK.data = .cell v' ∧ News h₀ env.locals h' ((K, oK) :: nx) ∧ (∀ p ∈ nx, p.1 ≠ s₁.heap.objs.size ∧ p.1 ≠ K) ∧ J i m' nx) ?_ n
    ⟨_, _, m, news, 0, oK₀, v₀, rfl, Nat.zero_le _, rfl, hst0, F.push _, hd₀, N.grown (up _), fun p hp => ⟨offI p (.tail _ hp), offK p hp⟩, hj⟩
  rintro k s' ⟨h', tk, m', nx, i, oK, v', rfl, hi, rfl, hst, F', hdK, N', off', hJ⟩
  have offA : ∀ p ∈ (K, oK) :: nx, p.1 ≠ s₁.heap.objs.size := fun p hp => by
    rcases List.mem_cons.mp hp with rfl | hp
    · exact hKI
    · exact (off' p hp).1
  rcases Nat.lt_or_ge i n with hlt | hge
  · refine W.item i _ _ _ hlt hst fun v h₁ tk₁ hPt hst₁ hk₁ => ?_
    obtain ⟨t1, rfl⟩ := hPt
    have F₁ := fr_but F' hk₁ hIL hI₀
    have N₁ := news_but N' hk₁ offA
    have zK := N₁ _ (.head _)
    refine wpAny_of_eq (a := ()) (by rfl) ?_
    refine wpAny_assign_Name (wpAny_storeName_cell hsk hx hK ⟨oK, zK.1, hdK⟩ fun h₂ hv₂ hs₂ => ?_)
    obtain ⟨oK', heK', hdK'⟩ := hv₂
    have F₂ := F₁.change hs₂ zK.2.1 zK.2.2
    obtain ⟨oI, hoI⟩ : ∃ oI, h₁.get? s₁.heap.objs.size = some oI := ⟨_, hst₁⟩
    have N₂ : News h₀ env.locals h₂ ((s₁.heap.objs.size, oI) :: (K, oK') :: nx) := fun p hp => by
      rcases List.mem_cons.mp hp with rfl | hp
      · exact ⟨hs₂.extBut _ _ (Ne.symm hKI) hoI, Ne.symm hIL, hI₀⟩
      rcases List.mem_cons.mp hp with rfl | hp
      · exact ⟨heK', zK.2⟩
      · have z := N₁ p (.tail _ hp)
        exact ⟨hs₂.extBut _ _ (off' p hp).2 z.1, z.2⟩
    refine wpAny_mono (wpAny_passesOwn hE (turn i m' nx h₂ _ _ oI oK' t1 hlt hJ off' hKI hdK' F₂ N₂)) (fun f s₃ hf => ?_) fun _ _ x => x
    have fin : (∃ h'' tk'' m'' nx'', s₃ = { s₁ with heap := h'', toks := tk'' } ∧ Fr h₀ env.locals h'' m'' ∧ News h₀ env.locals h'' ((s₁.heap.objs.size, oI) :: (K, oK') :: nx'') ∧ (∀ p ∈ nx'', p.1 ≠ s₁.heap.objs.size ∧ p.1 ≠ K) ∧ J (i + 1) m'' nx'') →
        ∃ mm, mm < n - i ∧ ∃ h' tk m' nx i oK v', s₃ = { s₁ with heap := h', toks := tk } ∧ i ≤ n ∧ mm = n - i ∧ IsRangeIter h' s₁.heap.objs.size (a + (i : Nat) * 1) ((n : Int) - (i : Nat)) 1 ∧ Fr h₀ env.locals h' m' ∧ oK.data = .cell v' ∧ News h₀ env.locals h' ((K, oK) :: nx) ∧ (∀ p ∈ nx, p.1 ≠ s₁.heap.objs.size ∧ p.1 ≠ K) ∧ J i m' nx := by
      rintro ⟨h'', tk'', m'', nx'', rfl, F'', N'', off'', hJ''⟩
      refine ⟨n - (i + 1), by omega, h'', tk'', m'', nx'', i + 1, oK', _, rfl, hlt, rfl, ?_, F'', hdK', fun p hp => N'' p (.tail _ hp), off'', hJ''⟩
      have e1 := (N'' _ (.head _)).1
      show h''.get? s₁.heap.objs.size = some _
      have e2 : h₁.get? s₁.heap.objs.size = some _ := hst₁
      rw [hoI] at e2
      exact e1.trans e2
    cases f with
    | ret v => exact hf
    | brk => exact hf
    | next => exact fin hf
    | cont => exact fin hf
  · obtain rfl : i = n := Nat.le_antisymm hi hge
    refine W.done _ _ _ hst fun h₁ tk₁ hk₁ => ?_
    refine wpAny_execs_nil ?_
    exact done m' nx h₁ tk₁ oK v' hJ (fr_but F' hk₁ hIL hI₀) hdK (fun p hp => (off' p hp).2) (news_but N' hk₁ offA)
theorem q : S prog w A s env h₀ E Q x px pos iter body L K m := by unfold S; exact p
end ZforRangeC
section
variable {prog : Program} {w : World} {A : Around} {s : Shared} {env : Env} {h₀ : Heap}
theorem forRangeC {E : Value → Shared → Prop}
    {Q : Flow → Shared → Prop}
    {x : Str}
    {px pos : Pos}
    {iter : Expr}
    {body : List Stmt}
    {L K : Addr}
    {m : Str → Option Value}
    (_F : Fr h₀ L s.heap m)
    (hsk : env.scope.kind = .function)
    (hx : env.kindOf x = some .cell)
    (hK : env.cells.lookup x = some K)
    (h : wpAny (model prog w) A (eval iter env) (RgAtC prog w A h₀ env K body Q E) E s)
    (hs : ∀ x, foldedSetIterable iter env x = pure x := by intro _; rfl)
    (hE : PassesOwn (model prog w) A env E := by passes_own) : wpAny (model prog w) A (exec (.For (.Name x px) iter body [] pos) env) Q E s :=
  epsAll (P := fun zz => ZforRangeC.S (zz.1) (zz.2.1) (zz.2.2.1) (zz.2.2.2.1) (zz.2.2.2.2.1) (zz.2.2.2.2.2.1) (zz.2.2.2.2.2.2.1) (zz.2.2.2.2.2.2.2.1) (zz.2.2.2.2.2.2.2.2.1) (zz.2.2.2.2.2.2.2.2.2.1) (zz.2.2.2.2.2.2.2.2.2.2.1) (zz.2.2.2.2.2.2.2.2.2.2.2.1) (zz.2.2.2.2.2.2.2.2.2.2.2.2.1) (zz.2.2.2.2.2.2.2.2.2.2.2.2.2.1) (zz.2.2.2.2.2.2.2.2.2.2.2.2.2.2.1) (zz.2.2.2.2.2.2.2.2.2.2.2.2.2.2.2)) ZforRangeC.q (prog, w, A, s, env, h₀, E, Q, x, px, pos, iter, body, L, K, m) _F hsk hx hK h hs hE
end
end
section
open PySem PySem.W PyProof.Rows PySem.Calls PyProof.Rows.LCg
set_option Elab.async false
set_option maxRecDepth 100000
set_option maxHeartbeats 4000000
theorem any_true : ∀ bs : List Bool, (bs.any fun b => b) = bs.contains true
  | [] => rfl
  | b :: r => by
    have ih := any_true r
    cases b <;> simp_all
theorem eqTrue (b : Bool) : MeetsSeq.EqGives (.bool b) (.bool true) b := by
  intro prog w A E s Q h
  unfold eqBool
  cases b with
  | true =>
    refine wpAny_holding ?_
    rw [if_pos (by rfl)]
    exact wpAny_bind (wpAny_rule (wpAny_pure h))
  | false =>
    refine wpAny_holding ?_
    rw [if_neg (by decide)]
    exact wpAny_bind (PyProof.Rows.eq_bool (wpAny_truthy_bool h))
section
variable {prog : Program} {w : World} {A : Around} {E : Value → Shared → Prop} {s : Shared} {h₀ : Heap} {L : Addr} {m : Str → Option Value} {news : List (Addr × Obj)}
/-- True not in a list of bools of the ledger -/
theorem notInBools {D : Addr} {bs : List Bool} {vs : List Value} {n : Nat} {Q : Value → Shared → Prop} (N : News h₀ L s.heap news) (hm : (D, listOf vs.toArray n) ∈ news) (e : vs = bs.map Value.bool) (h : Q (.bool (!bs.contains true)) s) :
    wpAny (model prog w) A (compareOp .NotIn (.bool true) (.ref D)) Q E s := by
  subst e
  have hl : s.heap.IsList D (bs.map Value.bool).toArray := ⟨_, (N _ hm).1, rfl, n, rfl⟩
  refine SeqAt.notIn_listAt (fun y => match y with | .bool b => b | _ => false) hl (fun y hy => ?_) ?_
  · obtain ⟨b, _, rfl⟩ : ∃ b, b ∈ bs ∧ Value.bool b = y := by simpa using hy
    exact (eqTrue b).at _ _
  · have e : (bs.map Value.bool).toArray.any (fun y => match y with | .bool b => b | _ => false) = bs.contains true := by
      rw [List.any_toArray, List.any_map]
      exact any_true bs
    rw [e]; exact h
/-- an item of a list of lists of the ledger -/
theorem itemRef {D : Addr} {value slice : Expr} {vs : List Value} {v : Value} {n i : Nat} {u : Tok} {Q : Value → Shared → Prop} (N : News h₀ L s.heap news) (hm : (D, listOf vs.toArray n) ∈ news) (hi : vs[i]? = some v) (hz : vs.length ≤ 100000) (h : Q v s)
    (hs : subscripted slice false (.ref D) (.int i u) = operate [.ref D, .int i u] (getItem (.ref D) (.int i u)) := by with_unfolding_all rfl) :
    wpAny (model prog w) A (subscriptTail value slice (.ref D) (.int i u)) Q E s := by
  have hl : s.heap.IsList D vs.toArray := ⟨_, (N _ hm).1, rfl, n, rfl⟩
  have hlt : i < vs.length := by
    rcases Nat.lt_or_ge i vs.length with q | q
    · exact q
    · rw [List.getElem?_eq_none q] at hi; cases hi
  refine subscriptTail_builtinR hl.typeIs slot_list_getitem.lookup (wpAny_getItem_list (Q := fun r s' => r = v ∧ Q r s') (k := (i : Int)) (x := v) hl (Int.natCast_nonneg i) (by omega) (by simpa using hi) ⟨rfl, h⟩) hs
theorem own2N {h : Heap} {x y z : Addr × Obj} {R : List (Addr × Obj)} (_N : News h₀ L h (x :: y :: z :: R)) (hx : z.1 < x.1) (hy : z.1 ≠ y.1) : ∀ p ∈ [x, y], p.1 ≠ z.1 := by
  intro p hp
  simp only [List.mem_cons, List.not_mem_nil, or_false] at hp
  rcases hp with rfl | rfl
  · exact Ne.symm (Nat.ne_of_lt hx)
  · exact Ne.symm hy
theorem appendAt {D : Addr} {vs : List Value} {x : Value} {n : Nat} {R : List (Addr × Obj)} (own : List (Addr × Obj)) {Q : Value → Shared → Prop} (F : Fr h₀ L s.heap m) (N : News h₀ L s.heap (own ++ (D, listOf vs.toArray n) :: R)) (h1 : ∀ p ∈ own, p.1 ≠ D) (h2 : ∀ p ∈ R, p.1 ≠ D) (hz : vs.length ≤ 100000)
    (h : ∀ h', Fr h₀ L h' m → News h₀ L h' (own ++ (D, listOf (vs ++ [x]).toArray (n + 1)) :: R) → Q .none { s with heap := h' }) : wpAny (model prog w) A (call (.builtin "list.append") [.ref D, x]) Q E s := by
  have z := N (D, listOf vs.toArray n) (List.mem_append_right _ (.head _))
  refine append_at (hsz := by rw [List.size_toArray, sizeLine_eq]; omega) z.1 fun h' hs ho' => h h' (F.change hs z.2.1 z.2.2) ?_
  have := news_set N h1 h2 hs ho'
  simpa using this
theorem sliceRunI {D : Addr} {value slice : Expr} {vs : List Value} {n a b : Nat} {x y : Int} {u u' : Tok} {Q : Value → Shared → Prop} (F : Fr h₀ L s.heap m) (N : News h₀ L s.heap news) (hm : (D, listOf vs.toArray n) ∈ news) (hz : vs.length ≤ 100000) (hab : a ≤ b) (hb : b ≤ vs.length) (ex : x = (a : Int)) (ey : y = (b : Int))
    (h : ∀ h', Fr h₀ L h' m → News h₀ L h' ((s.heap.objs.size + 1, listOf ((vs.drop a).take (b - a)).toArray 0) :: news) → (∀ p ∈ news, p.1 < s.heap.objs.size + 1) → Q (.ref (s.heap.objs.size + 1)) { s with heap := h' })
    (hs : subscripted slice false (.ref D) (.ref s.heap.objs.size) = operate [.ref s.heap.objs.size, .ref D] (getItem (.ref D) (.ref s.heap.objs.size)) := by with_unfolding_all rfl)
    (ht : ∀ r, letTemporaryGo value (.ref D) r = pure () := by intro _; with_unfolding_all rfl) :
    wpAny (model prog w) A (subscriptTail value slice (.ref D) (.ref s.heap.objs.size)) Q E { s with heap := s.heap.push { cls := .type "slice", data := .fields #[.int x u, .int y u', .none] } } := by
  subst ex ey
  exact sliceRun F N hm hz hab hb h hs ht
end
/-- the names that stand open -/
def openAt (texts : List Str) (bss : List (List Bool)) (j k : Nat) : Bool :=
  (Txt.slice ((texts[k]?).getD (Str.ofString "")) none (some 1) == Str.ofString "(") && !(((bss[k]?).getD []).drop 1 |>.take (j - k)).contains true
def stillL (names texts : List Str) (bss : List (List Bool)) (j i : Nat) : List Str := ((List.range i).filter (openAt texts bss j)).map fun k => (names[k]?).getD (Str.ofString "")
def stillS (names texts : List Str) (bss : List (List Bool)) (i j : Nat) : Str := Str.ofString "/" ++ Str.join (Str.ofString "/") (stillL names texts bss j i)
theorem still_yes {names texts : List Str} {bss : List (List Bool)} {j k : Nat} {x : Str} (h : openAt texts bss j k = true) (hx : names[k]? = some x) : stillL names texts bss j (k + 1) = stillL names texts bss j k ++ [x] := by
  simp [stillL, List.range_succ, List.filter_append, h, hx]
theorem still_no {names texts : List Str} {bss : List (List Bool)} {j k : Nat} (h : openAt texts bss j k = false) : stillL names texts bss j (k + 1) = stillL names texts bss j k := by
  simp [stillL, List.range_succ, List.filter_append, h]
theorem still_len {names texts : List Str} {bss : List (List Bool)} {j i : Nat} (h : ∀ y ∈ names, y.length ≤ 10) : ∀ c ∈ stillL names texts bss j i, c.length ≤ 1000 := by
  intro c hc
  obtain ⟨k, _, rfl⟩ := List.mem_map.mp hc
  cases e : names[k]? with
  | none => simp only [Option.getD_none]; decide +kernel
  | some x => simp only [Option.getD_some]; exact Nat.le_trans (h x (List.mem_of_getElem? e)) (by omega)
theorem openAt_eq {texts : List Str} {bss : List (List Bool)} {j k : Nat} {x : Str} {bs : List Bool} (hx : texts[k]? = some x) (hb : bss[k]? = some bs) : openAt texts bss j k = ((Txt.slice x none (some 1) == Str.ofString "(") && !((bs.drop 1).take (j - k)).contains true) := by
  simp [openAt, hx, hb]
theorem takenS_at {ts : List Str} {k : Nat} (h : k < ts.length + 1) : (takenS ts)[k]? = some (takenRow ts k) := by simp [takenS, h]
theorem takenRow_len (ts : List Str) (k : Nat) : (takenRow ts k).length = ts.length + 1 - k := by simp [takenRow]
end
local macro_rules | `(tactic| walk_at "exec For Name Call cons nil") => `(tactic| (k_here; k_dflt ((rename Fr _ _ _ _ => lF'); (with_unfolding_all refine' forRange lF' ?k1 ?k2 ?_; (case k1 => exact rfl); (case k2 => exact rfl); k_whole))))
local macro_rules | `(tactic| walk_at "subscriptTail Name Name ref int") => `(tactic| (k_here; k_dflt ((with_reducible show wpAny _ _ (subscriptTail _ _ (Value.ref _) (Value.int _ _)) _ _ _); (with_unfolding_all refine' itemRef ?k1 ?k2 ?k3 ?k4 ?_; (case k1 => k_asm); (case k2 => k_mem); (case k3 => assumption); (case k4 => assumption); k_whole))))
local macro_rules | `(tactic| walk_at "compareOp NotIn bool ref") => `(tactic| (k_here; k_dflt (refine' notInBools ?k1 ?k2 ?k3 ?_; (case k1 => k_asm); (case k2 => k_mem); (case k3 => assumption); k_whole)))
section
open PySem PySem.W PyProof.Rows PySem.Calls
set_option Elab.async false
set_option maxRecDepth 100000
set_option maxHeartbeats 8000000
local macro_rules | `(tactic| walk_at "call builtin:list.append") => `(tactic| (k_here; k_dflt ((refine' appendAt [_, _] ?k1 ?k2 ?k3 ?k4 ?k5 ?_; (case k1 => k_asm); (case k2 => k_asm); (case k3 => assumption); (case k4 => assumption); (case k5 => assumption); k_whole); (intro h' F' N'))))
section
variable {w : World} {loose : List Str} {mean : ExcName → Option Value} {mg mb : Str → Option Value} {news : List (Addr × Obj)}
  {dp un : Nat} {gd : Option (List Code)} {cn : Str} {cs : Scope} {a : Addr} {ccd : Value} {cl : List (Str × Addr)} {outer : List Env} {A₀ : Around} {base h₀ : Heap} {L : Addr} {m : Str → Option Value} {s : Shared} {Q E : Value → Shared → Prop}
end
namespace Zstill_c
def S (w : World) (loose : List Str) (mean : ExcName → Option Value) (mg : Str → Option Value) (mb : Str → Option Value) (news : List (Addr × Obj)) (dp : Nat) (un : Nat) (gd : Option (List Code)) (cn : Str) (cs : Scope) (a : Addr) (ccd : Value) (cl : List (Str × Addr)) (outer : List Env) (A₀ : Around) (base : Heap) (h₀ : Heap) (L : Addr) (m : Str → Option Value) (s : Shared) (Q : Value → Shared → Prop) (E : Value → Shared → Prop) (Dn : Addr) (Dt : Addr) (Dk : Addr) (ys : List Value) (n1 : Nat) (n2 : Nat) (n3 : Nat) (i : Nat) (j : Nat) (ti : Tok) (tj : Tok) : Prop := (nvs : List Value) → (tvs : List Value) → (names : List Str) → (texts : List Str) → (hnv : StrsAre nvs names) → (htv : StrsAre tvs texts) → (hn6 : names.length = 6) → (ht6 : texts.length = 6) → (hn3 : ∀ y ∈ names, y.length ≤ 10) → (ht3 : ∀ y ∈ texts, y.length ≤ 3) → (hDn : (Dn, listOf nvs.toArray n1) ∈ news) → (hDt : (Dt, listOf tvs.toArray n2) ∈ news) → (hDk : (Dk, listOf ys.toArray n3) ∈ news) → (hBB : BB news ys (takenS texts)) → (hij : i ≤ j) → (hj6 : j ≤ 6) → (B : Below A₀ base outer h₀) → (F : Fr h₀ L s.heap m) → (X : (hd.heap_39 w.params).In h₀) → (N : News h₀ L s.heap news) → (T : Top hd.view_39 loose mean mg mb h₀) → (hk : cs.kind = .function) → (hR : dp + 100 < recursionLimit ∧ un + 1000 < cLine) → (hret : ∀ (h' : Heap) (tk' : Nat) (t' : Tok), Fr h₀ L h' m → News h₀ L h' news → Q (.str (stillS names texts (takenS texts) i j) t') { s with heap := h', toks := tk' }) → wpAny (model Challenge.rw_pd0147_01.row.prog w) (ktrTop dp un gd cn cs L a ccd cl outer) (call (.ref 167) [.ref Dn, .ref Dt, .ref Dk, .int i ti, .int j tj]) Q E s
noncomputable def zz : (World) × (List Str) × (ExcName → Option Value) × (Str → Option Value) × (Str → Option Value) × (List (Addr × Obj)) × (Nat) × (Nat) × (Option (List Code)) × (Str) × (Scope) × (Addr) × (Value) × (List (Str × Addr)) × (List Env) × (Around) × (Heap) × (Heap) × (Addr) × (Str → Option Value) × (Shared) × (Value → Shared → Prop) × (Value → Shared → Prop) × (Addr) × (Addr) × (Addr) × (List Value) × (Nat) × (Nat) × (Nat) × (Nat) × (Nat) × (Tok) × (Tok) := @Classical.epsilon _ ⟨((⟨fun _ _ => 0, { strHash := fun _ => 0, shareClass := fun _ => 0, mergeTok := id, idOf := fun _ => 0, idOfShared := fun _ _ => 0, followText := fun _ => false, idOfImm := fun _ => 0 }⟩ : World), (Classical.ofNonempty : List Str), (Classical.ofNonempty : ExcName → Option Value), (Classical.ofNonempty : Str → Option Value), (Classical.ofNonempty : Str → Option Value), (Classical.ofNonempty : List (Addr × Obj)), (Classical.ofNonempty : Nat), (Classical.ofNonempty : Nat), (Classical.ofNonempty : Option (List Code)), (Classical.ofNonempty : Str), (Classical.ofNonempty : Scope), (Classical.ofNonempty : Addr), (Classical.ofNonempty : Value), (Classical.ofNonempty : List (Str × Addr)), (Classical.ofNonempty : List Env), (callerA : Around), (Classical.ofNonempty : Heap), (Classical.ofNonempty : Heap), (Classical.ofNonempty : Addr), (Classical.ofNonempty : Str → Option Value), ({} : Shared), (Classical.ofNonempty : Value → Shared → Prop), (Classical.ofNonempty : Value → Shared → Prop), (Classical.ofNonempty : Addr), (Classical.ofNonempty : Addr), (Classical.ofNonempty : Addr), (Classical.ofNonempty : List Value), (Classical.ofNonempty : Nat), (Classical.ofNonempty : Nat), (Classical.ofNonempty : Nat), (Classical.ofNonempty : Nat), (Classical.ofNonempty : Nat), (Classical.ofNonempty : Tok), (Classical.ofNonempty : Tok))⟩ fun zz => ¬ Zstill_c.S (zz.1) (zz.2.1) (zz.2.2.1) (zz.2.2.2.1) (zz.2.2.2.2.1) (zz.2.2.2.2.2.1) (zz.2.2.2.2.2.2.1) (zz.2.2.2.2.2.2.2.1) (zz.2.2.2.2.2.2.2.2.1) (zz.2.2.2.2.2.2.2.2.2.1) (zz.2.2.2.2.2.2.2.2.2.2.1) (zz.2.2.2.2.2.2.2.2.2.2.2.1) (zz.2.2.2.2.2.2.2.2.2.2.2.2.1) (zz.2.2.2.2.2.2.2.2.2.2.2.2.2.1) (zz.2.2.2.2.2.2.2.2.2.2.2.2.2.2.1) (zz.2.2.2.2.2.2.2.2.2.2.2.2.2.2.2.1) (zz.2.2.2.2.2.2.2.2.2.2.2.2.2.2.2.2.1) (zz.2.2.2.2.2.2.2.2.2.2.2.2.2.2.2.2.2.1) (zz.2.2.2.2.2.2.2.2.2.2.2.2.2.2.2.2.2.2.1) (zz.2.2.2.2.2.2.2.2.2.2.2.2.2.2.2.2.2.2.2.1) (zz.2.2.2.2.2.2.2.2.2.2.2.2.2.2.2.2.2.2.2.2.1) (zz.2.2.2.2.2.2.2.2.2.2.2.2.2.2.2.2.2.2.2.2.2.1) (zz.2.2.2.2.2.2.2.2.2.2.2.2.2.2.2.2.2.2.2.2.2.2.1) (zz.2.2.2.2.2.2.2.2.2.2.2.2.2.2.2.2.2.2.2.2.2.2.2.1) (zz.2.2.2.2.2.2.2.2.2.2.2.2.2.2.2.2.2.2.2.2.2.2.2.2.1) (zz.2.2.2.2.2.2.2.2.2.2.2.2.2.2.2.2.2.2.2.2.2.2.2.2.2.1) (zz.2.2.2.2.2.2.2.2.2.2.2.2.2.2.2.2.2.2.2.2.2.2.2.2.2.2.1) (zz.2.2.2.2.2.2.2.2.2.2.2.2.2.2.2.2.2.2.2.2.2.2.2.2.2.2.2.1) (zz.2.2.2.2.2.2.2.2.2.2.2.2.2.2.2.2.2.2.2.2.2.2.2.2.2.2.2.2.1) (zz.2.2.2.2.2.2.2.2.2.2.2.2.2.2.2.2.2.2.2.2.2.2.2.2.2.2.2.2.2.1) (zz.2.2.2.2.2.2.2.2.2.2.2.2.2.2.2.2.2.2.2.2.2.2.2.2.2.2.2.2.2.2.1) (zz.2.2.2.2.2.2.2.2.2.2.2.2.2.2.2.2.2.2.2.2.2.2.2.2.2.2.2.2.2.2.2.1) (zz.2.2.2.2.2.2.2.2.2.2.2.2.2.2.2.2.2.2.2.2.2.2.2.2.2.2.2.2.2.2.2.2.1) (zz.2.2.2.2.2.2.2.2.2.2.2.2.2.2.2.2.2.2.2.2.2.2.2.2.2.2.2.2.2.2.2.2.2)
noncomputable def w : World := zz.1
noncomputable def loose : List Str := zz.2.1
noncomputable def mean : ExcName → Option Value := zz.2.2.1
noncomputable def mg : Str → Option Value := zz.2.2.2.1
noncomputable def mb : Str → Option Value := zz.2.2.2.2.1
noncomputable def news : List (Addr × Obj) := zz.2.2.2.2.2.1
noncomputable def dp : Nat := zz.2.2.2.2.2.2.1
noncomputable def un : Nat := zz.2.2.2.2.2.2.2.1
noncomputable def gd : Option (List Code) := zz.2.2.2.2.2.2.2.2.1
noncomputable def cn : Str := zz.2.2.2.2.2.2.2.2.2.1
noncomputable def cs : Scope := zz.2.2.2.2.2.2.2.2.2.2.1
noncomputable def a : Addr := zz.2.2.2.2.2.2.2.2.2.2.2.1
noncomputable def ccd : Value := zz.2.2.2.2.2.2.2.2.2.2.2.2.1
noncomputable def cl : List (Str × Addr) := zz.2.2.2.2.2.2.2.2.2.2.2.2.2.1
noncomputable def outer : List Env := zz.2.2.2.2.2.2.2.2.2.2.2.2.2.2.1
noncomputable def A₀ : Around := zz.2.2.2.2.2.2.2.2.2.2.2.2.2.2.2.1
noncomputable def base : Heap := zz.2.2.2.2.2.2.2.2.2.2.2.2.2.2.2.2.1
noncomputable def h₀ : Heap := zz.2.2.2.2.2.2.2.2.2.2.2.2.2.2.2.2.2.1
noncomputable def L : Addr := zz.2.2.2.2.2.2.2.2.2.2.2.2.2.2.2.2.2.2.1
noncomputable def m : Str → Option Value := zz.2.2.2.2.2.2.2.2.2.2.2.2.2.2.2.2.2.2.2.1
noncomputable def s : Shared := zz.2.2.2.2.2.2.2.2.2.2.2.2.2.2.2.2.2.2.2.2.1
noncomputable def Q : Value → Shared → Prop := zz.2.2.2.2.2.2.2.2.2.2.2.2.2.2.2.2.2.2.2.2.2.1
noncomputable def E : Value → Shared → Prop := zz.2.2.2.2.2.2.2.2.2.2.2.2.2.2.2.2.2.2.2.2.2.2.1
noncomputable def Dn : Addr := zz.2.2.2.2.2.2.2.2.2.2.2.2.2.2.2.2.2.2.2.2.2.2.2.1
noncomputable def Dt : Addr := zz.2.2.2.2.2.2.2.2.2.2.2.2.2.2.2.2.2.2.2.2.2.2.2.2.1
noncomputable def Dk : Addr := zz.2.2.2.2.2.2.2.2.2.2.2.2.2.2.2.2.2.2.2.2.2.2.2.2.2.1
noncomputable def ys : List Value := zz.2.2.2.2.2.2.2.2.2.2.2.2.2.2.2.2.2.2.2.2.2.2.2.2.2.2.1
noncomputable def n1 : Nat := zz.2.2.2.2.2.2.2.2.2.2.2.2.2.2.2.2.2.2.2.2.2.2.2.2.2.2.2.1
noncomputable def n2 : Nat := zz.2.2.2.2.2.2.2.2.2.2.2.2.2.2.2.2.2.2.2.2.2.2.2.2.2.2.2.2.1
noncomputable def n3 : Nat := zz.2.2.2.2.2.2.2.2.2.2.2.2.2.2.2.2.2.2.2.2.2.2.2.2.2.2.2.2.2.1
noncomputable def i : Nat := zz.2.2.2.2.2.2.2.2.2.2.2.2.2.2.2.2.2.2.2.2.2.2.2.2.2.2.2.2.2.2.1
noncomputable def j : Nat := zz.2.2.2.2.2.2.2.2.2.2.2.2.2.2.2.2.2.2.2.2.2.2.2.2.2.2.2.2.2.2.2.1
noncomputable def ti : Tok := zz.2.2.2.2.2.2.2.2.2.2.2.2.2.2.2.2.2.2.2.2.2.2.2.2.2.2.2.2.2.2.2.2.1
noncomputable def tj : Tok := zz.2.2.2.2.2.2.2.2.2.2.2.2.2.2.2.2.2.2.2.2.2.2.2.2.2.2.2.2.2.2.2.2.2
theorem p (nvs : List Value) (tvs : List Value) (names : List Str) (texts : List Str) (hnv : StrsAre nvs names) (htv : StrsAre tvs texts) (hn6 : names.length = 6) (ht6 : texts.length = 6) (hn3 : ∀ y ∈ names, y.length ≤ 10) (ht3 : ∀ y ∈ texts, y.length ≤ 3) (hDn : (Dn, listOf nvs.toArray n1) ∈ news) (hDt : (Dt, listOf tvs.toArray n2) ∈ news) (hDk : (Dk, listOf ys.toArray n3) ∈ news) (hBB : BB news ys (takenS texts)) (hij : i ≤ j) (hj6 : j ≤ 6) (B : Below A₀ base outer h₀) (F : Fr h₀ L s.heap m) (X : (hd.heap_39 w.params).In h₀) (N : News h₀ L s.heap news) (T : Top hd.view_39 loose mean mg mb h₀) (hk : cs.kind = .function) (hR : dp + 100 < recursionLimit ∧ un + 1000 < cLine) (hret : ∀ (h' : Heap) (tk' : Nat) (t' : Tok), Fr h₀ L h' m → News h₀ L h' news → Q (.str (stillS names texts (takenS texts) i j) t') { s with heap := h', toks := tk' }) : wpAny (model Challenge.rw_pd0147_01.row.prog w) (ktrTop dp un gd cn cs L a ccd cl outer) (call (.ref 167) [.ref Dn, .ref Dt, .ref Dk, .int i ti, .int j tj]) Q E s := by
  obtain ⟨hR1, hR2⟩ := hR
  revert X; k_fill; intro X
  refine wpAny_call ?_
  k_dflt cell_enter
  rename Fr _ _ _ _ => F7
  rename News _ _ _ _ => N7
  replace F7 : Fr _ _ _ (fun y => List.lookup y [(Str.ofString "j", Value.int (j : Int) tj), (Str.ofString "i", Value.int (i : Int) ti), (Str.ofString "taken", Value.ref Dk), (Str.ofString "texts", Value.ref Dt), (Str.ofString "names", Value.ref Dn)]) := F7
  obtain ⟨ln, rfl, rfl⟩ := strsAre_values hnv
  obtain ⟨lt, rfl, rfl⟩ := strsAre_values htv
  have hln : ln.length = 6 := by simpa using hn6
  have hlt : lt.length = 6 := by simpa using ht6
  have hysl : ys.length = 7 := by rw [hBB.length]; simp [takenS, hlt]
  have N8 := newsAdd (base := [(Dn, listOf (strValues ln).toArray n1), (Dt, listOf (strValues lt).toArray n2), (Dk, listOf ys.toArray n3)]) N7 (by
    intro p hp
    simp only [List.mem_cons, List.not_mem_nil, or_false] at hp
    rcases hp with rfl | rfl | rfl
    · exact hDn
    · exact hDt
    · exact hDk)
  simp only [List.cons_append, List.nil_append] at N8
  clear N7
  walk_at "mine steps"
  rename_i S hq1 lS hq2 Fq Nq hq3 tkq tq uq vq Ra Fa Na oldq
  clear Fq Nq
  have offS : ∀ p ∈ (Dn, listOf (strValues ln).toArray n1) :: (Dt, listOf (strValues lt).toArray n2) :: (Dk, listOf ys.toArray n3) :: news, p.1 ≠ S := by
    intro p hp
    simp only [List.mem_cons] at hp
    rcases hp with rfl | rfl | rfl | hp
    · exact Nat.ne_of_lt lS.1
    · exact Nat.ne_of_lt lS.2.1
    · exact Nat.ne_of_lt lS.2.2.1
    · exact Nat.ne_of_lt (allLt_mem lS.2.2.2 p hp)
  obtain ⟨m0, hm0, F0⟩ := frMap Fa
  refine ⟨_, 0, (i : Int), _, _, _, i, m0, _, fun k m nx => ∃ vs n, nx = (S, listOf vs.toArray n) :: (Dn, listOf (strValues ln).toArray n1) :: (Dt, listOf (strValues lt).toArray n2) :: (Dk, listOf ys.toArray n3) :: news ∧ StrsAre vs (stillL (ln.map (·.1)) (lt.map (·.1)) (takenS (lt.map (·.1))) j k) ∧ vs.length ≤ k ∧ ∀ z, z ≠ Str.ofString "k" → m z = m0 z, rfl, rfl, F0, Na, Ra, smallR (by omega) (by omega) (by omega) (by omega), (by rw [PyProof.Rows.rangeSize_nat]; omega), ⟨[], 0, rfl, StrsAre.nil, Nat.le_refl _, fun _ _ => rfl⟩, ?_, ?_⟩
  · rintro k m₁ nx h9 tk9 It oI t1 hki ⟨vs, nv, rfl, hvs, hvl, hm1⟩ hoff F9 N9
    have e9 : (fun y => if y = Str.ofString "k" then some (Value.int (0 + (k : Int)) t1) else m₁ y) = (fun y => if y = Str.ofString "k" then some (Value.int (k : Int) t1) else m0 y) := by
      funext y
      by_cases q1 : y = Str.ofString "k"
      · simp [q1]
      · simp only [if_neg q1]; exact hm1 y q1
    rw [e9] at F9
    clear e9 hm1 Fa Na F0 Ra
    subst hm0
    replace F9 : Fr _ _ h9 _ := F9
    replace N9 : News _ _ h9 _ := N9
    have hkl : k < lt.length := by omega
    have hkn : k < ln.length := by omega
    have htk : (strValues lt)[k]? = some (.str lt[k].1 lt[k].2) := by simp [strValues, hkl]
    have hnk : (strValues ln)[k]? = some (.str ln[k].1 ln[k].2) := by simp [strValues, hkn]
    have hky : k < ys.length := by omega
    obtain ⟨vk, hvk⟩ : ∃ v, ys[k]? = some v := ⟨ys[k], by simp [hky]⟩
    obtain ⟨ak, bs, nk, rfl, hmk, hbk⟩ := hBB.at hvk
    have hbs : bs = takenRow (lt.map (·.1)) k := Option.some.inj (hbk.symm.trans (takenS_at (by rw [List.length_map]; omega)))
    have hbsl : bs.length = 7 - k := by rw [hbs, takenRow_len, List.length_map]; omega
    have hz1 : (strValues lt).length ≤ 100000 := by simp only [strValues, List.length_map]; omega
    have hz2 : (strValues ln).length ≤ 100000 := by simp only [strValues, List.length_map]; omega
    have hz3 : ys.length ≤ 100000 := by omega
    have hxl3 : lt[k].1.length ≤ 3 := ht3 lt[k].1 (List.mem_map.mpr ⟨lt[k], List.getElem_mem _, rfl⟩)
    have htx : (lt.map (·.1))[k]? = some lt[k].1 := by simp [hkl]
    have hop := openAt_eq (j := j) htx hbk
    have hnn : (ln.map (·.1))[k]? = some ln[k].1 := by simp [hkn]
    try dsimp only at F9 N9
    try dsimp only
    walk_at "mine steps"
    · rename Fr _ _ _ _ => F8
      rename News _ _ _ _ => N8
      rename_i hsl9 heq9
      clear hsl9
      refine sliceRunI (vs := bs.map Value.bool) (n := nk) (a := 1) (b := j - k + 1) F8 N8 (by simp [hmk]) (by rw [List.length_map]; omega) (by omega) (by rw [List.length_map]; omega) rfl (by omega) ?_
      intro h10 F10 N10 lt10
      have hE : List.take (j - k + 1 - 1) (List.drop 1 (bs.map Value.bool)) = ((bs.drop 1).take (j - k)).map Value.bool := by
        rw [Nat.add_sub_cancel, List.map_take, List.map_drop]
      have hown := own2N (z := (S, listOf vs.toArray nv)) (newsDrop (news := _ :: _ :: _ :: _) N10 (by intro p hp; exact hp)) (lt10 (S, listOf vs.toArray nv) (by simp)) (hoff (S, listOf vs.toArray nv) (by simp))
      have hvz : vs.length ≤ 100000 := by omega
      try dsimp only
      walk_at "mine steps"
      · rename Fr _ _ _ _ => F11
        rename News _ _ _ _ => N11
        rename_i hc9
        refine RgPost.mk' ((S, listOf vs.toArray nv) :: (Dn, listOf (strValues ln).toArray n1) :: (Dt, listOf (strValues lt).toArray n2) :: (Dk, listOf ys.toArray n3) :: news) F11 N11 (fun p hp => .tail _ hp) hoff ⟨vs, nv, rfl, ?_, Nat.le_succ_of_le hvl, fun z z1 => ?_⟩
        · rw [still_no (by rw [hop, heq9, hc9]; rfl)]; exact hvs
        · simp only [if_neg z1]
      · rename Fr _ _ _ _ => F11
        rename News _ _ _ _ => N11
        rename_i hc9 _ _
        refine RgPost.mk' ((S, listOf (vs ++ [Value.str ln[k].1 ln[k].2]).toArray (nv + 1)) :: (Dn, listOf (strValues ln).toArray n1) :: (Dt, listOf (strValues lt).toArray n2) :: (Dk, listOf ys.toArray n3) :: news) F11 N11 (fun p hp => .tail _ hp) ?_ ⟨vs ++ [Value.str ln[k].1 ln[k].2], nv + 1, rfl, ?_, ?_, fun z z1 => ?_⟩
        · intro p hp
          rcases List.mem_cons.mp hp with rfl | hp
          · exact hoff (S, listOf vs.toArray nv) (.head _)
          · exact hoff p (.tail _ hp)
        · rw [still_yes (by rw [hop, heq9, hc9]; rfl) hnn]; exact PyProof.Rows.strsAre_append hvs (StrsAre.cons _ _ StrsAre.nil)
        · rw [List.length_append, List.length_singleton]; omega
        · simp only [if_neg z1]
    · rename Fr _ _ _ _ => F8
      rename News _ _ _ _ => N8
      rename_i _ heq9
      refine RgPost.mk' ((S, listOf vs.toArray nv) :: (Dn, listOf (strValues ln).toArray n1) :: (Dt, listOf (strValues lt).toArray n2) :: (Dk, listOf ys.toArray n3) :: news) F8 N8 (fun p hp => hp) hoff ⟨vs, nv, rfl, ?_, Nat.le_succ_of_le hvl, fun z z1 => ?_⟩
      · rw [still_no (by rw [hop, heq9]; rfl)]; exact hvs
      · simp only [if_neg z1]
  · rintro m₁ nx h9 tk9 ⟨vs, nv, rfl, hvs, hvl, hm1⟩ F9 N9
    have hFit : Fits (Str.ofString "/") (stillL (ln.map (·.1)) (lt.map (·.1)) (takenS (lt.map (·.1))) j i) := fits_of (by rw [← hvs.length]; omega) (still_len hn3)
    have e9 : m₁ = (fun y => if y = Str.ofString "k" then m₁ (Str.ofString "k") else m0 y) := by
      funext y
      by_cases q1 : y = Str.ofString "k"
      · simp [q1]
      · simp only [if_neg q1]; exact hm1 y q1
    rw [e9] at F9
    clear e9 hm1 Fa Na F0 Ra
    subst hm0
    replace F9 : Fr _ _ h9 _ := F9
    replace N9 : News _ _ h9 _ := N9
    try dsimp only at F9 N9
    try dsimp only
    walk_at "mine steps"
    exact hret _ _ _ (by assumption) (newsDrop (by assumption) (by intro p hp; exact .tail _ (.tail _ (.tail _ (.tail _ hp)))))
theorem q : S w loose mean mg mb news dp un gd cn cs a ccd cl outer A₀ base h₀ L m s Q E Dn Dt Dk ys n1 n2 n3 i j ti tj := by unfold S; exact p
end Zstill_c
section
variable {w : World} {loose : List Str} {mean : ExcName → Option Value} {mg mb : Str → Option Value} {news : List (Addr × Obj)}
  {dp un : Nat} {gd : Option (List Code)} {cn : Str} {cs : Scope} {a : Addr} {ccd : Value} {cl : List (Str × Addr)} {outer : List Env} {A₀ : Around} {base h₀ : Heap} {L : Addr} {m : Str → Option Value} {s : Shared} {Q E : Value → Shared → Prop}
theorem still_c {Dn Dt Dk : Addr}
    {nvs tvs ys : List Value}
    {names texts : List Str}
    {n1 n2 n3 : Nat}
    {i j : Nat}
    {ti tj : Tok}
    (hnv : StrsAre nvs names)
    (htv : StrsAre tvs texts)
    (hn6 : names.length = 6)
    (ht6 : texts.length = 6)
    (hn3 : ∀ y ∈ names, y.length ≤ 10)
    (ht3 : ∀ y ∈ texts, y.length ≤ 3)
    (hDn : (Dn, listOf nvs.toArray n1) ∈ news)
    (hDt : (Dt, listOf tvs.toArray n2) ∈ news)
    (hDk : (Dk, listOf ys.toArray n3) ∈ news)
    (hBB : BB news ys (takenS texts))
    (hij : i ≤ j)
    (hj6 : j ≤ 6)
    (B : Below A₀ base outer h₀)
    (F : Fr h₀ L s.heap m)
    (X : (hd.heap_39 w.params).In h₀)
    (N : News h₀ L s.heap news)
    (T : Top hd.view_39 loose mean mg mb h₀)
    (hk : cs.kind = .function)
    (hR : dp + 100 < recursionLimit ∧ un + 1000 < cLine)
    (hret : ∀ (h' : Heap) (tk' : Nat) (t' : Tok), Fr h₀ L h' m → News h₀ L h' news → Q (.str (stillS names texts (takenS texts) i j) t') { s with heap := h', toks := tk' }) : wpAny (model Challenge.rw_pd0147_01.row.prog w) (ktrTop dp un gd cn cs L a ccd cl outer) (call (.ref 167) [.ref Dn, .ref Dt, .ref Dk, .int i ti, .int j tj]) Q E s :=
  epsAll (P := fun zz => Zstill_c.S (zz.1) (zz.2.1) (zz.2.2.1) (zz.2.2.2.1) (zz.2.2.2.2.1) (zz.2.2.2.2.2.1) (zz.2.2.2.2.2.2.1) (zz.2.2.2.2.2.2.2.1) (zz.2.2.2.2.2.2.2.2.1) (zz.2.2.2.2.2.2.2.2.2.1) (zz.2.2.2.2.2.2.2.2.2.2.1) (zz.2.2.2.2.2.2.2.2.2.2.2.1) (zz.2.2.2.2.2.2.2.2.2.2.2.2.1) (zz.2.2.2.2.2.2.2.2.2.2.2.2.2.1) (zz.2.2.2.2.2.2.2.2.2.2.2.2.2.2.1) (zz.2.2.2.2.2.2.2.2.2.2.2.2.2.2.2.1) (zz.2.2.2.2.2.2.2.2.2.2.2.2.2.2.2.2.1) (zz.2.2.2.2.2.2.2.2.2.2.2.2.2.2.2.2.2.1) (zz.2.2.2.2.2.2.2.2.2.2.2.2.2.2.2.2.2.2.1) (zz.2.2.2.2.2.2.2.2.2.2.2.2.2.2.2.2.2.2.2.1) (zz.2.2.2.2.2.2.2.2.2.2.2.2.2.2.2.2.2.2.2.2.1) (zz.2.2.2.2.2.2.2.2.2.2.2.2.2.2.2.2.2.2.2.2.2.1) (zz.2.2.2.2.2.2.2.2.2.2.2.2.2.2.2.2.2.2.2.2.2.2.1) (zz.2.2.2.2.2.2.2.2.2.2.2.2.2.2.2.2.2.2.2.2.2.2.2.1) (zz.2.2.2.2.2.2.2.2.2.2.2.2.2.2.2.2.2.2.2.2.2.2.2.2.1) (zz.2.2.2.2.2.2.2.2.2.2.2.2.2.2.2.2.2.2.2.2.2.2.2.2.2.1) (zz.2.2.2.2.2.2.2.2.2.2.2.2.2.2.2.2.2.2.2.2.2.2.2.2.2.2.1) (zz.2.2.2.2.2.2.2.2.2.2.2.2.2.2.2.2.2.2.2.2.2.2.2.2.2.2.2.1) (zz.2.2.2.2.2.2.2.2.2.2.2.2.2.2.2.2.2.2.2.2.2.2.2.2.2.2.2.2.1) (zz.2.2.2.2.2.2.2.2.2.2.2.2.2.2.2.2.2.2.2.2.2.2.2.2.2.2.2.2.2.1) (zz.2.2.2.2.2.2.2.2.2.2.2.2.2.2.2.2.2.2.2.2.2.2.2.2.2.2.2.2.2.2.1) (zz.2.2.2.2.2.2.2.2.2.2.2.2.2.2.2.2.2.2.2.2.2.2.2.2.2.2.2.2.2.2.2.1) (zz.2.2.2.2.2.2.2.2.2.2.2.2.2.2.2.2.2.2.2.2.2.2.2.2.2.2.2.2.2.2.2.2.1) (zz.2.2.2.2.2.2.2.2.2.2.2.2.2.2.2.2.2.2.2.2.2.2.2.2.2.2.2.2.2.2.2.2.2)) Zstill_c.q (w, loose, mean, mg, mb, news, dp, un, gd, cn, cs, a, ccd, cl, outer, A₀, base, h₀, L, m, s, Q, E, Dn, Dt, Dk, ys, n1, n2, n3, i, j, ti, tj) nvs tvs names texts hnv htv hn6 ht6 hn3 ht3 hDn hDt hDk hBB hij hj6 B F X N T hk hR hret
end
end
section
open PySem PySem.W PyProof.Rows PySem.Calls PyProof.Rows.LCg
set_option Elab.async false
set_option maxRecDepth 100000
set_option maxHeartbeats 4000000
def pieceL : List Str := [Str.ofString "..", Str.ofString "..", Str.ofString "..", Str.ofString ".", Str.ofString "", Str.ofString "a", Str.ofString "b", Str.ofString "(", Str.ofString ")", Str.ofString "\""]
def shownL : List Str := [Str.ofString ")", Str.ofString ")", Str.ofString ")", Str.ofString "\\(", Str.ofString "\")\"", Str.ofString "(\\a", Str.ofString "(\\b", Str.ofString "(\\(", Str.ofString "(\\)", Str.ofString "(\\\""]
def nameOf (x k : Nat) : Str := if 4 < x then (pieceL[x]?).getD (Str.ofString "") ++ Txt.mul (Str.ofString "a") k else (pieceL[x]?).getD (Str.ofString "")
def textOf (x : Nat) : Str := (shownL[x]?).getD (Str.ofString "")
structure RunSt where
  names : List Str
  texts : List Str
  path : Str
  places : List Str
def xAt (st : RunSt) (d : Nat) : Nat := if d < 3 ∧ (st.places[st.names.length]?).getD (Str.ofString "") = Str.ofString "/" then 3 else d
def stepR (st : RunSt) (d : Nat) : RunSt :=
  ⟨st.names ++ [nameOf (xAt st d) st.names.length], st.texts ++ [textOf (xAt st d)], joinS st.path (nameOf (xAt st d) st.names.length), st.places ++ [normS (joinS st.path (nameOf (xAt st d) st.names.length))]⟩
def runR (ds : List Nat) : RunSt := ds.foldl stepR ⟨[], [], Str.ofString "/", [Str.ofString "/"]⟩
theorem runR_snoc (ds : List Nat) (d : Nat) : runR (ds ++ [d]) = stepR (runR ds) d := by simp [runR]
theorem xAt_lt {st : RunSt} {d : Nat} (h : d < 10) : xAt st d < 10 := by unfold xAt; split <;> omega
/-- a path as the law makes them -/
def PathOk (p : Str) : Prop := p.cps.toList = [47] ∨ ∃ c r, p.cps.toList = 47 :: c :: r ∧ c ≠ 47
def NoSlash (x : Str) : Prop := ∀ c ∈ x.cps.toList, c ≠ 47
theorem cps_append (x y : Str) : (x ++ y).cps.toList = x.cps.toList ++ y.cps.toList := by
  show (x.cps ++ y.cps).toList = _
  simp
theorem piece_ok : ∀ x, x < 10 → NoSlash ((pieceL[x]?).getD (Str.ofString "")) ∧ ((pieceL[x]?).getD (Str.ofString "")).length ≤ 2 := by
  have : ∀ x : Fin 10, (∀ c ∈ ((pieceL[x.1]?).getD (Str.ofString "")).cps.toList, c ≠ 47) ∧ ((pieceL[x.1]?).getD (Str.ofString "")).length ≤ 2 := by decide +kernel
  exact fun x hx => this ⟨x, hx⟩
theorem mul_ok : ∀ k, k < 6 → NoSlash (Txt.mul (Str.ofString "a") (k : Nat)) ∧ (Txt.mul (Str.ofString "a") (k : Nat)).length ≤ 5 := by
  have : ∀ k : Fin 6, (∀ c ∈ (Txt.mul (Str.ofString "a") (k.1 : Nat)).cps.toList, c ≠ 47) ∧ (Txt.mul (Str.ofString "a") (k.1 : Nat)).length ≤ 5 := by decide +kernel
  exact fun k hk => this ⟨k, hk⟩
theorem name_ok {x k : Nat} (hx : x < 10) (hk : k < 6) : NoSlash (nameOf x k) ∧ (nameOf x k).length ≤ 7 := by
  have h1 := piece_ok x hx
  have h2 := mul_ok k hk
  unfold nameOf
  split
  · refine ⟨fun c hc => ?_, ?_⟩
    · rw [cps_append] at hc
      rcases List.mem_append.mp hc with q | q
      · exact h1.1 c q
      · exact h2.1 c q
    · rw [Str.length_append]; omega
  · exact ⟨h1.1, by omega⟩
theorem text_ok : ∀ x, x < 10 → (textOf x).length ≤ 3 := by
  have : ∀ x : Fin 10, (textOf x.1).length ≤ 3 := by decide +kernel
  exact fun x hx => this ⟨x, hx⟩
end
section
open PySem PySem.W PyProof.Rows PySem.Calls PyProof.Rows.LCg
set_option Elab.async false
set_option maxRecDepth 100000
set_option maxHeartbeats 4000000
theorem runR_sizes (ds : List Nat) : (runR ds).names.length = ds.length ∧ (runR ds).texts.length = ds.length ∧ (runR ds).places.length = ds.length + 1 := by
  suffices h : ∀ (ds : List Nat) (st : RunSt) (n : Nat), st.names.length = n ∧ st.texts.length = n ∧ st.places.length = n + 1 → (ds.foldl stepR st).names.length = n + ds.length ∧ (ds.foldl stepR st).texts.length = n + ds.length ∧ (ds.foldl stepR st).places.length = n + ds.length + 1 by
    have := h ds ⟨[], [], Str.ofString "/", [Str.ofString "/"]⟩ 0 ⟨rfl, rfl, rfl⟩
    simpa [runR] using this
  intro ds
  induction ds with
  | nil => intro st n h; simpa using h
  | cons d ds ih =>
    intro st n h
    have := ih (stepR st d) (n + 1) (by simp [stepR, h.1, h.2.1, h.2.2])
    simp only [List.foldl_cons, List.length_cons]
    omega
theorem name_facts {X k : Nat} (hx : X < 10) (hk : k < 6) : Txt.startswith (nameOf X k) (Str.ofString "/") = false ∧ (nameOf X k).length ≤ 1000 := by
  have : ∀ X : Fin 10, ∀ k : Fin 6, Txt.startswith (nameOf X.1 k.1) (Str.ofString "/") = false ∧ (nameOf X.1 k.1).length ≤ 1000 := by decide +kernel
  exact this ⟨X, hx⟩ ⟨k, hk⟩
theorem slash_eq : Str.ofString "/" = ⟨#[47]⟩ := by decide +kernel
theorem str_of_cps {p : Str} {l : List Nat} (h : p.cps.toList = l) : p = ⟨l.toArray⟩ := by
  subst h; cases p; simp
theorem pathOk_join {p nm : Str} (hp : PathOk p) (hn : NoSlash nm) : PathOk (joinS p nm) := by
  rcases hp with hp | ⟨c, r, hp, hc⟩
  · have e : p = Str.ofString "/" := (str_of_cps hp).trans slash_eq.symm
    subst e
    have e2 : joinS (Str.ofString "/") nm = Str.ofString "/" ++ nm := by
      unfold joinS
      rw [if_pos (by decide +kernel)]
    rw [e2]
    have e3 : (Str.ofString "/" ++ nm).cps.toList = 47 :: nm.cps.toList := by rw [cps_append, hp]; rfl
    cases h : nm.cps.toList with
    | nil => exact .inl (by rw [e3, h])
    | cons c r => exact .inr ⟨c, r, by rw [e3, h], hn c (by rw [h]; exact .head _)⟩
  · unfold joinS
    split
    · exact .inr ⟨c, r ++ nm.cps.toList, by rw [cps_append, hp]; rfl, hc⟩
    · exact .inr ⟨c, r ++ (Str.ofString "/" ++ nm).cps.toList, by rw [cps_append, hp]; rfl, hc⟩
theorem join_length {p nm : Str} : (joinS p nm).length ≤ p.length + nm.length + 1 := by
  have : (Str.ofString "/").length = 1 := by decide +kernel
  unfold joinS
  split
  · rw [Str.length_append]; omega
  · rw [Str.length_append, Str.length_append]; omega
theorem snoc_ind {P : List Nat → Prop} (h0 : P []) (h1 : ∀ l a, P l → P (l ++ [a])) (l : List Nat) : P l := by
  rw [← List.reverse_reverse l]
  generalize l.reverse = r
  induction r with
  | nil => exact h0
  | cons a r ih => rw [List.reverse_cons]; exact h1 _ _ ih
theorem runR_ok : ∀ (ds : List Nat), (∀ d ∈ ds, d < 10) → ds.length ≤ 6 → PathOk (runR ds).path ∧ (runR ds).path.length ≤ 1 + 8 * ds.length := by
  intro ds
  refine snoc_ind (P := fun ds => (∀ d ∈ ds, d < 10) → ds.length ≤ 6 → PathOk (runR ds).path ∧ (runR ds).path.length ≤ 1 + 8 * ds.length) ?_ ?_ ds
  · exact fun _ _ => ⟨.inl (by decide +kernel), by decide +kernel⟩
  · intro ds d ih h hl
    rw [List.length_append, List.length_singleton] at hl
    have ih := ih (fun e he => h e (List.mem_append_left _ he)) (by omega)
    have hd : d < 10 := h d (List.mem_append_right _ (.head _))
    have hk := (runR_sizes ds).1
    have hn := name_ok (x := xAt (runR ds) d) (k := (runR ds).names.length) (xAt_lt hd) (by omega)
    rw [runR_snoc]
    refine ⟨pathOk_join ih.1 hn.1, ?_⟩
    have := join_length (p := (runR ds).path) (nm := nameOf (xAt (runR ds) d) (runR ds).names.length)
    rw [List.length_append, List.length_singleton]
    show (joinS _ _).length ≤ _
    omega
theorem path_facts {ds : List Nat} (h : ∀ d ∈ ds, d < 10) (hl : ds.length ≤ 6) : (Txt.slice (runR ds).path none (some 1) != Str.ofString "/") = false ∧ (Txt.slice (runR ds).path (some 1) (some 2) != Str.ofString "/") = true ∧ (runR ds).path.length ≠ 0 ∧ (runR ds).path.length ≤ 1000 := by
  obtain ⟨hp, hlen⟩ := runR_ok ds h hl
  generalize (runR ds).path = p at hp hlen
  rcases hp with hp | ⟨c, r, hp, hc⟩
  · have e : p = Str.ofString "/" := (str_of_cps hp).trans slash_eq.symm
    subst e
    exact ⟨by decide +kernel, by decide +kernel, by decide +kernel, by omega⟩
  · have hle : p.cps.toList.length = r.length + 2 := by rw [hp]; simp
    have hlp : p.length = r.length + 2 := by rw [← hle]; simp [Str.length]
    have h1 := beq_iff_eq.mp (PyProof.Rows.slice_closes_to (x := p) (j := 1) (by omega))
    have h2 := beq_iff_eq.mp (PyProof.Rows.slice_closes (x := p) (i := 1) (j := 2) (by omega))
    rw [hp] at h1 h2
    refine ⟨?_, ?_, by omega, by omega⟩
    · rw [h1]; exact (show ((⟨[47].toArray⟩ : Str) != Str.ofString "/") = false by decide +kernel)
    · rw [h2, slash_eq]
      show ((⟨[c].toArray⟩ : Str) != ⟨#[47]⟩) = true
      rw [bne_iff_ne]
      intro q
      injection q with q
      have := congrArg Array.toList q
      simp at this
      exact hc this
theorem lt_ten {ds : List Nat} {d : Nat} (h : ∀ d ∈ ds, d < 10) (hd : d < 10) : ∀ e ∈ ds ++ [d], e < 10 := by
  intro e he
  rcases List.mem_append.mp he with q | q
  · exact h e q
  · rw [List.mem_singleton.mp q]; exact hd
theorem getLast_at {vs : List Value} {v : Value} {k : Nat} (h : vs.length = k) : (vs ++ [v])[k]? = some v := by subst h; simp
theorem fmod10 (x : Int) : ∃ d : Nat, x.fmod 10 = (d : Int) ∧ d < 10 := by
  have h1 := Int.fmod_nonneg_of_pos x (b := 10) (by decide)
  have h2 := Int.fmod_lt_of_pos x (b := 10) (by decide)
  exact ⟨(x.fmod 10).toNat, by omega, by omega⟩
theorem frX {h₀ h : Heap} {L : Addr} {m : Str → Option Value} {z : Int} {t : Tok} (F : Fr h₀ L h (fun y => if y = Str.ofString "x" then some (.int (z.fmod 10) t) else m y)) : ∃ (d : Nat) (tX : Tok), d < 10 ∧ Fr h₀ L h (fun y => if y = Str.ofString "x" then some (.int (d : Int) tX) else m y) := by
  obtain ⟨d, e, hd⟩ := fmod10 z
  rw [e] at F
  exact ⟨d, t, hd, F⟩
theorem frMk {h₀ h : Heap} {L : Addr} {m : Str → Option Value} {v : Value} (F : Fr h₀ L h (fun y => if y = Str.ofString "x" then some v else m y)) : ∃ mk, mk = m ∧ Fr h₀ L h (fun y => if y = Str.ofString "x" then some v else mk y) := ⟨m, rfl, F⟩
theorem frDup {h₀ h : Heap} {L : Addr} {m : Str → Option Value} {v : Value} {v' : Value} (F : Fr h₀ L h (fun y => if y = Str.ofString "x" then some v else if y = Str.ofString "x" then some v' else m y)) : Fr h₀ L h (fun y => if y = Str.ofString "x" then some v else m y) := by
  have e : (fun y => if y = Str.ofString "x" then some v else if y = Str.ofString "x" then some v' else m y) = (fun y => if y = Str.ofString "x" then some v else m y) := by
    funext y
    by_cases q : y = Str.ofString "x"
    · rw [if_pos q, if_pos q]
    · rw [if_neg q, if_neg q, if_neg q]
  rw [e] at F
  exact F
theorem xAt_yes {st : RunSt} {d k : Nat} (hn : st.names.length = k) (c : (d : Int) < 3) (e : ((st.places[k]?).getD (Str.ofString "") == Str.ofString "/") = true) : xAt st d = 3 := by
  subst hn
  have e' : (st.places[st.names.length]?).getD (Str.ofString "") = Str.ofString "/" := by simpa using e
  unfold xAt
  rw [if_pos ⟨by omega, e'⟩]
theorem xAt_no {st : RunSt} {d k : Nat} (hn : st.names.length = k) (e : ((st.places[k]?).getD (Str.ofString "") == Str.ofString "/") = false) : xAt st d = d := by
  subst hn
  have e' : (st.places[st.names.length]?).getD (Str.ofString "") ≠ Str.ofString "/" := by simpa using e
  unfold xAt
  rw [if_neg (fun q => e' q.2)]
theorem xAt_big {st : RunSt} {d : Nat} (c : ¬ (d : Int) < 3) : xAt st d = d := by
  unfold xAt
  rw [if_neg (fun q => by omega)]
theorem frDup3 {h₀ h : Heap} {L : Addr} {m : Str → Option Value} {X : Nat} {t : Tok} {v' : Value} (hx : X = 3) (F : Fr h₀ L h (fun y => if y = Str.ofString "x" then some (.int 3 t) else if y = Str.ofString "x" then some v' else m y)) : ∃ t', Fr h₀ L h (fun y => if y = Str.ofString "x" then some (.int (X : Int) t') else if y = Str.ofString "x" then some v' else m y) := by
  subst hx
  exact ⟨t, F⟩
theorem ledgerOffs {It Nm Tx Pl Sh Pc c1 c2 c3 c4 : Nat} (l3 : Sh < Nm ∧ Pc < Nm ∧ c4 < Nm ∧ c3 < Nm ∧ c2 < Nm ∧ c1 < Nm) (l4 : Nm < Tx) (l5 : Tx < Pl) (i1 : Nm ≠ It) (i2 : Tx ≠ It) (i3 : Pl ≠ It) :
    Nm ∉ [It] ∧ Nm ∉ [Tx, Pl, Sh, Pc, c4, c3, c2, c1] ∧ Tx ∉ [It, Nm] ∧ Tx ∉ [Pl, Sh, Pc, c4, c3, c2, c1] ∧ Pl ∉ [It, Nm, Tx] ∧ Pl ∉ [Sh, Pc, c4, c3, c2, c1] := by
  simp only [List.mem_cons, List.not_mem_nil, or_false]
  omega
theorem name_big {X k : Nat} (h : (4 : Int) < (X : Int)) : nameOf X k = (pieceL[X]?).getD (Str.ofString "") ++ Txt.mul (Str.ofString "a") (k : Nat) := by
  unfold nameOf; rw [if_pos (by omega)]
theorem name_small {X k : Nat} (h : ¬ (4 : Int) < (X : Int)) : nameOf X k = (pieceL[X]?).getD (Str.ofString "") := by
  unfold nameOf; rw [if_neg (by omega)]
theorem snoc_path {ds : List Nat} {d X k : Nat} (hX : xAt (runR ds) d = X) (hk : (runR ds).names.length = k) : (runR (ds ++ [d])).path = joinS (runR ds).path (nameOf X k) := by
  rw [runR_snoc]; subst hX hk; rfl
theorem snoc_all {ds : List Nat} {d X k : Nat} (hX : xAt (runR ds) d = X) (hk : (runR ds).names.length = k) : (runR (ds ++ [d])).names = (runR ds).names ++ [nameOf X k] ∧ (runR (ds ++ [d])).texts = (runR ds).texts ++ [textOf X] ∧ (runR (ds ++ [d])).places = (runR ds).places ++ [normS (joinS (runR ds).path (nameOf X k))] := by
  rw [runR_snoc]; subst hX hk; exact ⟨rfl, rfl, rfl⟩
theorem texts_short {ds : List Nat} (h : ∀ d ∈ ds, d < 10) : ∀ y ∈ (runR ds).texts, y.length ≤ 3 := by
  revert h
  refine snoc_ind (P := fun ds => (∀ d ∈ ds, d < 10) → ∀ y ∈ (runR ds).texts, y.length ≤ 3) ?_ ?_ ds
  · exact fun _ y hy => (nomatch hy)
  · intro ds d ih h y hy
    rw [runR_snoc] at hy
    rcases List.mem_append.mp (show y ∈ (runR ds).texts ++ [_] from hy) with hy | hy
    · exact ih (fun e he => h e (List.mem_append_left _ he)) y hy
    · rw [List.mem_singleton.mp hy]
      exact text_ok _ (xAt_lt (h d (List.mem_append_right _ (.head _))))
theorem names_short {ds : List Nat} (h : ∀ d ∈ ds, d < 10) (hl : ds.length ≤ 6) : ∀ y ∈ (runR ds).names, y.length ≤ 10 := by
  revert h hl
  refine snoc_ind (P := fun ds => (∀ d ∈ ds, d < 10) → ds.length ≤ 6 → ∀ y ∈ (runR ds).names, y.length ≤ 10) ?_ ?_ ds
  · exact fun _ _ y hy => (nomatch hy)
  · intro ds d ih h hl y hy
    rw [List.length_append, List.length_singleton] at hl
    rw [runR_snoc] at hy
    rcases List.mem_append.mp (show y ∈ (runR ds).names ++ [_] from hy) with hy | hy
    · exact ih (fun e he => h e (List.mem_append_left _ he)) (by omega) y hy
    · rw [List.mem_singleton.mp hy]
      have hk := (runR_sizes ds).1
      have := (name_ok (x := xAt (runR ds) d) (k := (runR ds).names.length) (xAt_lt (h d (List.mem_append_right _ (.head _)))) (by omega)).2
      omega
theorem places_form {ds : List Nat} (h : ∀ d ∈ ds, d < 10) (hl : ds.length ≤ 6) : ∀ y ∈ (runR ds).places, y = Str.ofString "/" ∨ ∃ p : Str, p.length ≤ 60 ∧ y = normS p := by
  revert h hl
  refine snoc_ind (P := fun ds => (∀ d ∈ ds, d < 10) → ds.length ≤ 6 → ∀ y ∈ (runR ds).places, y = Str.ofString "/" ∨ ∃ p : Str, p.length ≤ 60 ∧ y = normS p) ?_ ?_ ds
  · intro _ _ y hy
    rcases List.mem_cons.mp (show y ∈ [Str.ofString "/"] from hy) with hy | hy
    · exact .inl hy
    · cases hy
  · intro ds d ih h hl y hy
    have hp := (runR_ok (ds ++ [d]) h hl).2
    rw [List.length_append, List.length_singleton] at hl hp
    rw [runR_snoc] at hy hp
    rcases List.mem_append.mp (show y ∈ (runR ds).places ++ [_] from hy) with hy | hy
    · exact ih (fun e he => h e (List.mem_append_left _ he)) (by omega) y hy
    · exact .inr ⟨_, (show (joinS _ _).length ≤ 60 from Nat.le_trans hp (by omega)), List.mem_singleton.mp hy⟩
def weightL (ys : List Str) : Nat := (ys.map (·.length)).sum + ys.length
theorem weight_append (a b : List Str) : weightL (a ++ b) = weightL a + weightL b := by
  simp only [weightL, List.map_append, List.sum_append, List.length_append]; omega
theorem weight_step (nc : List Str) (c : Str) : weightL (normStep nc c) ≤ weightL nc + weightL [c] := by
  unfold normStep
  split
  · omega
  · split
    · rw [weight_append]; omega
    · rcases List.eq_nil_or_concat nc with e | ⟨l, z, e⟩
      · subst e; simp [weightL]
      · subst e
        rw [List.concat_eq_append, List.dropLast_concat, weight_append]; omega
theorem weight_fold : ∀ (cs nc : List Str), weightL (cs.foldl normStep nc) ≤ weightL nc + weightL cs
  | [], nc => by simp [weightL]
  | c :: cs, nc => by
    have h1 := weight_fold cs (normStep nc c)
    have h2 := weight_step nc c
    have h3 : weightL (c :: cs) = weightL [c] + weightL cs := weight_append [c] cs
    rw [List.foldl_cons]; omega
theorem starts_slash (z : Str) : Txt.startswith (Str.ofString "/" ++ z) (Str.ofString "/") = true := by
  unfold Txt.startswith
  have h5 : (Str.ofString "/").length = 1 := by decide +kernel
  have h1 : (Str.ofString "/").cps.toList = [47] := by decide +kernel
  rw [StrLaws.subAt_eq, cps_append, h1, Str.length_append, h5]
  simp
theorem places_ok {ds : List Nat} (h : ∀ d ∈ ds, d < 10) (hl : ds.length ≤ 6) : ∀ y ∈ (runR ds).places, Txt.startswith y (Str.ofString "/") = true ∧ y.length ≤ 1000 := by
  intro y hy
  rcases places_form h hl y hy with e | ⟨p, hp, e⟩
  · subst e; exact ⟨by decide +kernel, by decide +kernel⟩
  · subst e
    refine ⟨starts_slash _, ?_⟩
    have h1 := PyProof.Txt.length_slice_le p (some 1) none
    have h2 := split_weight (Txt.slice p (some 1) none) (Str.ofString "/") (by decide +kernel)
    have h3 : weightL (normC (Txt.split (Txt.slice p (some 1) none) (Str.ofString "/"))) ≤ weightL [] + weightL (Txt.split (Txt.slice p (some 1) none) (Str.ofString "/")) := weight_fold _ _
    have h4 := join_len_le (Str.ofString "/") (normC (Txt.split (Txt.slice p (some 1) none) (Str.ofString "/")))
    have h5 : (Str.ofString "/").length = 1 := by decide +kernel
    unfold normS
    rw [Str.length_append, h5]
    rw [h5, Nat.mul_one] at h4
    have h6 : weightL [] = 0 := rfl
    unfold weightL at h3 h6
    omega
end
section
open PySem PySem.W PyProof.Rows PySem.Calls PyProof.Rows.LCg
set_option Elab.async false
set_option maxRecDepth 100000
set_option maxHeartbeats 4000000
section
variable {prog : Program} {w : World} {A : Around} {E : Value → Shared → Prop} {s : Shared} {h₀ : Heap} {L : Addr} {m : Str → Option Value} {news : List (Addr × Obj)}
theorem reorder5 {h : Heap} {a b c d e : Addr × Obj} {rest : List (Addr × Obj)} (N : News h₀ L h (c :: b :: a :: d :: e :: rest)) : News h₀ L h (a :: b :: c :: d :: e :: rest) := by
  intro p hp
  simp only [List.mem_cons] at hp
  rcases hp with rfl | rfl | rfl | rfl | rfl | hp
  · exact N _ (by simp)
  · exact N _ (by simp)
  · exact N _ (by simp)
  · exact N _ (by simp)
  · exact N _ (by simp)
  · exact N _ (by simp [hp])
/-- the invariant of the law's first loop -/
def RunJ (m0 : Str → Option Value) (Nm Tx Pl : Addr) (rest : List (Addr × Obj)) (k : Nat) (m : Str → Option Value) (nx : List (Addr × Obj)) : Prop :=
  ∃ (ds : List Nat) (nvs tvs pvs : List Value) (n1 n2 n3 : Nat) (tp : Tok), ds.length = k ∧ (∀ d ∈ ds, d < 10) ∧
    nx = (Nm, listOf nvs.toArray n1) :: (Tx, listOf tvs.toArray n2) :: (Pl, listOf pvs.toArray n3) :: rest ∧
    StrsAre nvs (runR ds).names ∧ StrsAre tvs (runR ds).texts ∧ StrsAre pvs (runR ds).places ∧ m (Str.ofString "path") = some (.str (runR ds).path tp) ∧
    ∀ z, z ≠ Str.ofString "k" → z ≠ Str.ofString "x" → z ≠ Str.ofString "path" → m z = m0 z
theorem RunJ.start {m0 : Str → Option Value} {Nm Tx Pl : Addr} {rest : List (Addr × Obj)} {pv : List Value} {t : Tok} (hp : StrsAre pv [Str.ofString "/"]) (hm : m0 (Str.ofString "path") = some (.str (Str.ofString "/") t)) :
    RunJ m0 Nm Tx Pl rest 0 m0 ((Nm, listOf ([] : List Value).toArray 0) :: (Tx, listOf ([] : List Value).toArray 0) :: (Pl, listOf pv.toArray 0) :: rest) :=
  ⟨[], [], [], pv, 0, 0, 0, t, rfl, fun _ h => (nomatch h), rfl, .nil, .nil, hp, hm, fun _ _ _ _ => rfl⟩
theorem RunJ.step {m0 m' : Str → Option Value} {Nm Tx Pl : Addr} {rest : List (Addr × Obj)} {k d : Nat} {ds : List Nat} {nvs tvs pvs : List Value} {n1 n2 n3 : Nat} {a b c : Str} {ta tb tc tp : Tok} (hdl : ds.length = k) (hd : ∀ d ∈ ds, d < 10) (hd9 : d < 10)
    (hn : StrsAre nvs (runR ds).names) (ht : StrsAre tvs (runR ds).texts) (hp : StrsAre pvs (runR ds).places) (e1 : (runR (ds ++ [d])).names = (runR ds).names ++ [a]) (e2 : (runR (ds ++ [d])).texts = (runR ds).texts ++ [b]) (e3 : (runR (ds ++ [d])).places = (runR ds).places ++ [c])
    (hm : m' (Str.ofString "path") = some (.str (runR (ds ++ [d])).path tp)) (hm0 : ∀ z, z ≠ Str.ofString "k" → z ≠ Str.ofString "x" → z ≠ Str.ofString "path" → m' z = m0 z) :
    RunJ m0 Nm Tx Pl rest (k + 1) m' ((Nm, listOf (nvs ++ [Value.str a ta]).toArray (n1 + 1)) :: (Tx, listOf (tvs ++ [Value.str b tb]).toArray (n2 + 1)) :: (Pl, listOf (pvs ++ [Value.str c tc]).toArray (n3 + 1)) :: rest) := by
  refine ⟨ds ++ [d], _, _, _, _, _, _, tp, by simp [hdl], fun e he => ?_, rfl, ?_, ?_, ?_, hm, hm0⟩
  · rcases List.mem_append.mp he with q | q
    · exact hd e q
    · rw [List.mem_singleton.mp q]; exact hd9
  · rw [e1]; exact PyProof.Rows.strsAre_append hn (StrsAre.cons _ _ StrsAre.nil)
  · rw [e2]; exact PyProof.Rows.strsAre_append ht (StrsAre.cons _ _ StrsAre.nil)
  · rw [e3]; exact PyProof.Rows.strsAre_append hp (StrsAre.cons _ _ StrsAre.nil)
theorem offMap {It : Addr} {nx nx' : List (Addr × Obj)} (h : ∀ p ∈ nx, p.1 ≠ It) (e : nx'.map (·.1) = nx.map (·.1)) : ∀ p ∈ nx', p.1 ≠ It := by
  intro p hp
  have : p.1 ∈ nx.map (·.1) := e ▸ List.mem_map.mpr ⟨p, hp, rfl⟩
  obtain ⟨q, hq, eq⟩ := List.mem_map.mp this
  exact eq ▸ h q hq
/-- an item of the list of six numbers -/
theorem itemSix {D : Addr} {value slice : Expr} {a b c d e f : Int} {ta tb tc td te tf : Tok} {n i : Nat} {u : Tok} {Q : Value → Shared → Prop} (N : News h₀ L s.heap news) (hm : (D, listOf #[.int a ta, .int b tb, .int c tc, .int d td, .int e te, .int f tf] n) ∈ news) (hi : i < 6) (h : ∀ x t, Q (.int x t) s)
    (hs : subscripted slice false (.ref D) (.int i u) = operate [.ref D, .int i u] (getItem (.ref D) (.int i u)) := by with_unfolding_all rfl) :
    wpAny (model prog w) A (subscriptTail value slice (.ref D) (.int i u)) Q E s := by
  obtain ⟨x, t, e⟩ : ∃ x t, [Value.int a ta, .int b tb, .int c tc, .int d td, .int e te, .int f tf][i]? = some (.int x t) := by
    match i, hi with
    | 0, _ => exact ⟨_, _, rfl⟩
    | 1, _ => exact ⟨_, _, rfl⟩
    | 2, _ => exact ⟨_, _, rfl⟩
    | 3, _ => exact ⟨_, _, rfl⟩
    | 4, _ => exact ⟨_, _, rfl⟩
    | 5, _ => exact ⟨_, _, rfl⟩
  exact itemRef N hm e (by simp) (h x t) hs
/-- an item of a list of strs -/
theorem itemStrs {D : Addr} {value slice : Expr} {vs : List Value} {xs : List Str} {n i : Nat} {u : Tok} {Q : Value → Shared → Prop} (N : News h₀ L s.heap news) (hm : (D, listOf vs.toArray n) ∈ news) (hv : StrsAre vs xs) (hi : i < xs.length) (hz : xs.length ≤ 1000) (h : ∀ t, Q (.str ((xs[i]?).getD (Str.ofString "")) t) s)
    (hs : subscripted slice false (.ref D) (.int i u) = operate [.ref D, .int i u] (getItem (.ref D) (.int i u)) := by with_unfolding_all rfl) :
    wpAny (model prog w) A (subscriptTail value slice (.ref D) (.int i u)) Q E s := by
  have hl := hv.length
  have e1 : vs[i]? = some (vs[i]'(by omega)) := List.getElem?_eq_getElem (by omega)
  obtain ⟨x, t, e2, e3⟩ := strsAre_at hv e1
  rw [e2] at e1
  refine itemRef N hm e1 (by omega) ?_ hs
  have := h t
  rw [e3] at this
  exact this
/-- both ways of an if meet -/
def JoinPost (P : Shared → Prop) (f : Flow) (s : Shared) : Prop := f = .next ∧ P s
theorem ifJoin {test : Expr} {body orelse : List Stmt} {pos : Pos} {env : Env} {Q : Flow → Shared → Prop} (P : Shared → Prop) (h : wpAny (model prog w) A (exec (.If test body orelse pos) env) (JoinPost P) E s) (k : ∀ s, P s → Q .next s) : wpAny (model prog w) A (exec (.If test body orelse pos) env) Q E s :=
  wpAny_mono h (fun _ s' x => x.1 ▸ k s' x.2) fun _ _ e => e
def IfHeld (prog : Program) (w : World) (A : Around) (test : Expr) (body orelse : List Stmt) (pos : Pos) (env : Env) (Q : Flow → Shared → Prop) (E : Value → Shared → Prop) (s : Shared) : Prop := wpAny (model prog w) A (exec (.If test body orelse pos) env) Q E s
theorem ifHold {test : Expr} {body orelse : List Stmt} {pos : Pos} {env : Env} {Q : Flow → Shared → Prop} (h : IfHeld prog w A test body orelse pos env Q E s) : wpAny (model prog w) A (exec (.If test body orelse pos) env) Q E s := h
theorem sumL {D : Addr} {vs : List Value} {ns : List Int} {Q : Value → Shared → Prop} (hh : A.handled = none) (F : Fr h₀ L s.heap m) (N : News h₀ L s.heap news) (hl : s.heap.IsList D vs.toArray) (hi : IntsAre vs ns)
    (h : ∀ h' tk t', Fr h₀ L h' m → News h₀ L h' news → Q (.int ns.sum t') { s with heap := h', toks := tk }) : wpAny (model prog w) A (call (.builtin "sum") [.ref D]) Q E s := by
  have hlt : D < s.heap.objs.size := by obtain ⟨o, e, _⟩ := id hl; exact Heap.lt_size e
  have hn := hi.length
  refine call_sum_walkG ?_
  refine wpAny_pyIter_list hl ?_
  have up : ∀ b o, s.heap.get? b = some o → (s.heap.push { cls := .type "list_iterator", data := .fields #[.ref D, .int 0 0] }).get? b = some o := fun b o e => Heap.get?_push_of_some _ e
  refine ⟨s.heap.objs.size, [s.heap.objs.size, D], _, _, _, _, fun i => ns.getD i 0, rfl, Walks.list (A := A.in1) hh s.heap.objs.size D (Nat.ne_of_lt hlt) vs.toArray, ⟨⟨_, Heap.get?_push_size _ rfl, rfl, rfl⟩, hl.push _⟩, fun b hb => ?_, fun i v hv => hi.int_at i v (by simpa using hv), fun h' tk t' hk => ?_⟩
  · show b < (s.heap.push _).objs.size
    rw [Heap.size_push]
    rcases List.mem_cons.mp hb with rfl | hb
    · exact Nat.lt_succ_self _
    · rw [List.mem_singleton.mp hb]; exact Nat.lt_succ_of_lt hlt
  · rw [preSum_getD]
    have e : ns.take vs.toArray.size = ns := by rw [List.size_toArray, hn]; exact List.take_of_length_le (Nat.le_refl _)
    rw [e]
    have old : ∀ b o, s.heap.get? b = some o → h'.get? b = some o := fun b o e => hk b o (by
      simp only [List.mem_singleton]
      exact Nat.ne_of_lt (Heap.lt_size e)) (up b o e)
    exact h h' tk t' (F.keeps old) (N.grown old)
theorem sumSlice {D : Addr} {items : List Value} {lo hi st : Option Int} {ns : List Int} {Q : Value → Shared → Prop} (hh : A.handled = none) (F : Fr h₀ L s.heap m) (N : News h₀ L s.heap news) (hm : (D, ({ cls := .type "list", data := .seq (slicePick items.toArray lo hi st) } : Obj)) ∈ news) (hi' : IntsAre items ns)
    (h : ∀ h' tk t' c, Fr h₀ L h' m → News h₀ L h' news → Q (.int c t') { s with heap := h', toks := tk }) : wpAny (model prog w) A (call (.builtin "sum") [.ref D]) Q E s :=
  sumL hh F N (vs := (slicePick items.toArray lo hi st).toList) ⟨_, (N _ hm).1, rfl, _, rfl⟩ (hi'.pick lo hi st) fun h' tk t' => h h' tk t' _
theorem sumBase {D : Addr} {items : List Value} {ns : List Int} {Q : Value → Shared → Prop} (hh : A.handled = none) (F : Fr h₀ L s.heap m) (N : News h₀ L s.heap news) (hl : h₀.IsList D items.toArray) (hi : IntsAre items ns)
    (h : ∀ h' tk t', Fr h₀ L h' m → News h₀ L h' news → Q (.int ns.sum t') { s with heap := h', toks := tk }) : wpAny (model prog w) A (call (.builtin "sum") [.ref D]) Q E s := by
  obtain ⟨o, e, r⟩ := hl
  exact sumL hh F N (vs := items) ⟨o, F.keep _ _ e, r⟩ hi h
theorem appendOff {D : Addr} {vs : List Value} {x : Value} {n : Nat} {R : List (Addr × Obj)} (own : List (Addr × Obj)) {Q : Value → Shared → Prop} (F : Fr h₀ L s.heap m) (N : News h₀ L s.heap (own ++ (D, listOf vs.toArray n) :: R)) (h1 : D ∉ own.map (·.1)) (h2 : D ∉ R.map (·.1)) (hz : vs.length ≤ 100000)
    (h : ∀ h', Fr h₀ L h' m → News h₀ L h' (own ++ (D, listOf (vs ++ [x]).toArray (n + 1)) :: R) → Q .none { s with heap := h' }) : wpAny (model prog w) A (call (.builtin "list.append") [.ref D, x]) Q E s :=
  appendAt own F N (fun p hp e => h1 (List.mem_map.mpr ⟨p, hp, e⟩)) (fun p hp e => h2 (List.mem_map.mpr ⟨p, hp, e⟩)) hz h
end
end
section
open PySem PySem.W PyProof.Rows PySem.Calls PyProof.Rows.LCg
set_option Elab.async false
set_option maxRecDepth 100000
set_option maxHeartbeats 4000000
section
variable {prog : Program} {w : World} {A : Around} {E : Value → Shared → Prop} {s : Shared} {h₀ : Heap} {L : Addr} {m : Str → Option Value} {news : List (Addr × Obj)}
/-- the rows alone -/
theorem BB.rows {nw : List (Addr × Obj)} {ys : List Value} {bss : List (List Bool)} (x : BB nw ys bss) : ∃ rows : List (Addr × Obj), (∀ p ∈ rows, p ∈ nw ∧ ∃ (vs : List Value) (n : Nat), p.2 = listOf vs.toArray n) ∧ BB rows ys bss := by
  induction x with
  | nil => exact ⟨[], fun _ h => (nomatch h), .nil⟩
  | cons h r ih =>
    obtain ⟨rows, h1, h2⟩ := ih
    obtain ⟨a, n, e, hm⟩ := h
    refine ⟨(a, _) :: rows, ?_, .cons ⟨a, n, e, .head _⟩ (BB.mono h2 fun p hp => .tail _ hp)⟩
    intro p hp
    rcases List.mem_cons.mp hp with rfl | hp
    · exact ⟨hm, _, _, rfl⟩
    · exact h1 p hp
/-- a list is no cell -/
theorem offCell {h : Heap} {nw nw' : List (Addr × Obj)} (N : News h₀ L h nw) (N' : News h₀ L h nw') {p : Addr × Obj} {K : Addr} {oK : Obj} {vs : List Value} {n : Nat} {v : Option Value} (hp : p ∈ nw) (e : p.2 = listOf vs.toArray n) (hK : (K, oK) ∈ nw') (hd : oK.data = .cell v) : p.1 ≠ K := by
  intro q
  have h1 := (N p hp).1
  have h2 := (N' _ hK).1
  rw [q] at h1
  have : p.2 = oK := Option.some.inj (h1.symm.trans h2)
  rw [← this, e] at hd
  cases hd
/-- a call, held back from the walk -/
def CallHeld (prog : Program) (w : World) (A : Around) (f : Value) (args : List Value) (Q : Value → Shared → Prop) (E : Value → Shared → Prop) (s : Shared) : Prop := wpAny (model prog w) A (call f args) Q E s
theorem callHold {f : Value} {args : List Value} {Q : Value → Shared → Prop} (h : CallHeld prog w A f args Q E s) : wpAny (model prog w) A (call f args) Q E s := h
theorem callFree {f : Value} {args : List Value} {Q : Value → Shared → Prop} (h : wpAny (model prog w) A (call f args) Q E s) : CallHeld prog w A f args Q E s := h
theorem addLed {a b : Addr} {vs ws : List Value} {n1 n2 : Nat} {Q : Value → Shared → Prop} (F : Fr h₀ L s.heap m) (N : News h₀ L s.heap news) (ha : (a, listOf vs.toArray n1) ∈ news) (hb : (b, listOf ws.toArray n2) ∈ news) (hz : vs.length + ws.length ≤ 100000)
    (h : ∀ h', Fr h₀ L h' m → News h₀ L h' ((s.heap.objs.size, listOf (vs ++ ws).toArray 0) :: news) → (∀ p ∈ news, p.1 < s.heap.objs.size) → Q (.ref s.heap.objs.size) { s with heap := h' }) :
    wpAny (model prog w) A (binaryOp .Add (.ref a) (.ref b)) Q E s := by
  refine add_lists (hsz := by rw [sizeLine_eq]; omega) F N ⟨_, (N _ ha).1, rfl, _, rfl⟩ ⟨_, (N _ hb).1, rfl, _, rfl⟩ fun h' F' N' => h h' F' N' fun p hp => Heap.lt_size (N p hp).1
theorem offsAll {h : Heap} {K : Addr} {oK : Obj} {v : Option Value} {l : List (Addr × Obj)} (N : News h₀ L h ((K, oK) :: l)) (hd : oK.data = .cell v) (hl : ∀ p ∈ l, p.1 = K → ∃ (vs : List Value) (n : Nat), p.2 = listOf vs.toArray n) : ∀ p ∈ l, p.1 ≠ K := by
  intro p hp q
  obtain ⟨vs, n, e⟩ := hl p hp q
  exact offCell N N (.tail _ hp) e (.head _) hd q
theorem wOffs {h : Heap} {K c1 c2 c3 a1 a2 a3 a4 a5 : Addr} {oK o1 o2 o3 : Obj} {v : Option Value} {v1 v2 v3 v4 v5 : List Value} {n1 n2 n3 n4 n5 : Nat} {rows : List (Addr × Obj)}
    (N : News h₀ L h ((K, oK) :: (c1, o1) :: (a1, listOf v1.toArray n1) :: (a2, listOf v2.toArray n2) :: (a3, listOf v3.toArray n3) :: (a4, listOf v4.toArray n4) :: (a5, listOf v5.toArray n5) :: (c2, o2) :: (c3, o3) :: rows))
    (hd : oK.data = .cell v) (h2 : (@Ne Nat c2 K)) (h3 : (@Ne Nat c3 K)) (hr : ∀ p ∈ rows, ∃ (vs : List Value) (n : Nat), p.2 = listOf vs.toArray n) :
    ∀ p ∈ (a1, listOf v1.toArray n1) :: (a2, listOf v2.toArray n2) :: (a3, listOf v3.toArray n3) :: (a4, listOf v4.toArray n4) :: (a5, listOf v5.toArray n5) :: (c2, o2) :: (c3, o3) :: rows, p.1 ≠ K := by
  refine offsAll (newsDrop N (fun p hp => ?_)) hd fun p hp q => ?_
  · simp only [List.mem_cons] at hp ⊢
    rcases hp with h | h | h | h | h | h | h | h | h <;> simp [h]
  · simp only [List.mem_cons] at hp
    rcases hp with rfl | rfl | rfl | rfl | rfl | rfl | rfl | hp
    · exact ⟨_, _, rfl⟩
    · exact ⟨_, _, rfl⟩
    · exact ⟨_, _, rfl⟩
    · exact ⟨_, _, rfl⟩
    · exact ⟨_, _, rfl⟩
    · exact absurd q h2
    · exact absurd q h3
    · exact hr p hp
theorem itemRefI {D : Addr} {value slice : Expr} {vs : List Value} {v : Value} {n i : Nat} {x : Int} {u : Tok} {Q : Value → Shared → Prop} (N : News h₀ L s.heap news) (hm : (D, listOf vs.toArray n) ∈ news) (hi : vs[i]? = some v) (ex : x = (i : Int)) (hz : vs.length ≤ 100000) (h : Q v s)
    (hs : subscripted slice false (.ref D) (.int x u) = operate [.ref D, .int x u] (getItem (.ref D) (.int x u)) := by with_unfolding_all rfl) :
    wpAny (model prog w) A (subscriptTail value slice (.ref D) (.int x u)) Q E s := by
  subst ex
  exact itemRef N hm hi hz h hs
theorem getD_at {xs : List Str} {j : Nat} (h : j < xs.length) : xs[j]? = some ((xs[j]?).getD (Str.ofString "")) := by
  rw [List.getElem?_eq_getElem h]; rfl
theorem newsSwap {h : Heap} {a b : Addr × Obj} {l : List (Addr × Obj)} (N : News h₀ L h (a :: b :: l)) : News h₀ L h (b :: a :: l) := by
  intro p hp
  simp only [List.mem_cons] at hp
  rcases hp with rfl | rfl | hp
  · exact N _ (by simp)
  · exact N _ (by simp)
  · exact N _ (by simp [hp])
theorem bne_bad {b : Bool} (h : (b != b) = true) : False := by cases b <;> cases h
end
end
section
open PySem PySem.W PyProof.Rows PySem.Calls PyProof.Rows.LCg
set_option Elab.async false
set_option maxRecDepth 100000
set_option maxHeartbeats 4000000
/-- one step of the stack of steps: 0 takes off, 1 leaves, 2 puts the step on -/
def stepI (I : List Nat) (k c : Nat) : List Nat := if c = 2 then I ++ [k] else if c = 0 then I.dropLast else I
def idxFrom : List Nat → Nat → List Nat → List Nat
  | [], _, I => I
  | c :: r, k, I => idxFrom r (k + 1) (stepI I k c)
def idxAt (ks : List Nat) (k : Nat) : List Nat := idxFrom (ks.take k) 0 []
def balK : Nat → List Nat → Option Nat
  | n, [] => some n
  | n, c :: r => if c = 2 then balK (n + 1) r else if c = 0 then (if n = 0 then none else balK (n - 1) r) else balK n r
def lcpN : List Nat → List Nat → List Nat
  | x :: xs, y :: ys => if x = y then x :: lcpN xs ys else []
  | _, _ => []
def openK (ks : List Nat) (j k : Nat) : Bool := ks.getD k 0 == 2 && (List.range (j - k)).all fun e => balK 0 ((ks.drop k).take (e + 1)) != some 0
def validK (ks : List Nat) : Bool := (List.range 6).all fun k => ks.getD k 0 != 0 || !(idxAt ks k).isEmpty
def checkIJ (ks : List Nat) (i j : Nat) : Bool :=
  let P := (List.range i).filter (openK ks j)
  ((balK 0 ((ks.drop i).take (j - i)) == some 0) == (idxAt ks i == idxAt ks j)) && lcpN (idxAt ks i) (idxAt ks j) == P &&
    (List.range (j + 1)).all fun m => decide (m < i) || (idxAt ks m).take P.length == P
def checkK (ks : List Nat) : Bool := (List.range 7).all fun j => (idxAt ks j).all (fun e => decide (e < 6) && ks.getD e 0 == 2) && (List.range (j + 1)).all fun i => checkIJ ks i j
def seqsK : Nat → List (List Nat)
  | 0 => [[]]
  | n + 1 => (seqsK n).flatMap fun r => [0 :: r, 1 :: r, 2 :: r]
theorem seqsK_mem : ∀ (ks : List Nat), (∀ c ∈ ks, c < 3) → ks ∈ seqsK ks.length
  | [], _ => by simp [seqsK]
  | c :: r, h => by
    have ih := seqsK_mem r fun x hx => h x (.tail _ hx)
    have hc := h c (.head _)
    simp only [List.length_cons, seqsK, List.mem_flatMap]
    refine ⟨r, ih, ?_⟩
    match c, hc with
    | 0, _ => simp
    | 1, _ => simp
    | 2, _ => simp
set_option maxRecDepth 1000000 in
theorem allK : (seqsK 6).all (fun ks => !validK ks || checkK ks) = true := by decide +kernel
end
section
open PySem PySem.W PyProof.Rows PySem.Calls PyProof.Rows.LCg
set_option Elab.async false
set_option maxRecDepth 100000
set_option maxHeartbeats 4000000
abbrev jn (L : List Str) : Str := Str.join (Str.ofString "/") L
theorem str_ext {a b : Str} (h : a.cps.toList = b.cps.toList) : a = b := by rw [str_of_cps h]
theorem slash_cps : (Str.ofString "/").cps.toList = [47] := by decide +kernel
theorem jn_two (x y : Str) (r : List Str) : (jn (x :: y :: r)).cps.toList = x.cps.toList ++ 47 :: (jn (y :: r)).cps.toList := by
  show (x ++ Str.ofString "/" ++ jn (y :: r)).cps.toList = _
  rw [cps_append, cps_append, slash_cps]; simp
theorem cut47 : ∀ {a b s t : List Nat}, (∀ c ∈ a, c ≠ 47) → (∀ c ∈ b, c ≠ 47) → a ++ 47 :: s = b ++ 47 :: t → a = b ∧ s = t
  | [], [], s, t, _, _, h => by simpa using h
  | [], y :: b, s, t, _, hb, h => by
    simp only [List.nil_append, List.cons_append, List.cons.injEq] at h
    exact absurd h.1.symm (hb y (.head _))
  | x :: a, [], s, t, ha, _, h => by
    simp only [List.nil_append, List.cons_append, List.cons.injEq] at h
    exact absurd h.1 (ha x (.head _))
  | x :: a, y :: b, s, t, ha, hb, h => by
    simp only [List.cons_append, List.cons.injEq] at h
    obtain ⟨h1, h2⟩ := cut47 (fun c hc => ha c (.tail _ hc)) (fun c hc => hb c (.tail _ hc)) h.2
    exact ⟨by rw [h.1, h1], h2⟩
theorem no47 {a b t : List Nat} (ha : ∀ c ∈ a, c ≠ 47) (h : a = b ++ 47 :: t) : False :=
  ha 47 (by rw [h]; simp) rfl
theorem jn_inj : ∀ {xs ys : List Str}, xs ≠ [] → ys ≠ [] → (∀ x ∈ xs, NoSlash x) → (∀ y ∈ ys, NoSlash y) → (jn xs).cps.toList = (jn ys).cps.toList → xs = ys
  | [], _, h, _, _, _, _ => absurd rfl h
  | _ :: _, [], _, h, _, _, _ => absurd rfl h
  | [x], [y], _, _, _, _, h => by rw [str_ext (show x.cps.toList = y.cps.toList from h)]
  | [x], y :: z :: r, _, _, hx, _, h => by
    rw [jn_two] at h
    exact (no47 (hx x (.head _)) (show x.cps.toList = _ from h)).elim
  | x :: z :: r, [y], _, _, _, hy, h => by
    rw [jn_two] at h
    exact (no47 (hy y (.head _)) (show y.cps.toList = _ from h.symm)).elim
  | x :: x2 :: r, y :: y2 :: r2, _, _, hx, hy, h => by
    rw [jn_two, jn_two] at h
    obtain ⟨h1, h2⟩ := cut47 (hx x (.head _)) (hy y (.head _)) h
    rw [str_ext h1, jn_inj (by simp) (by simp) (fun z hz => hx z (.tail _ hz)) (fun z hz => hy z (.tail _ hz)) h2]
theorem split_jn {xs : List Str} (h0 : xs ≠ []) (h : ∀ x ∈ xs, NoSlash x) : Txt.split (jn xs) (Str.ofString "/") = xs := by
  refine jn_inj ?_ h0 (fun y hy c hc e => ?_) h (congrArg (fun z : Str => z.cps.toList) (StrLaws.join_split (jn xs) (Str.ofString "/")))
  · have := PyProof.Rows.split_pos (jn xs) (Str.ofString "/")
    intro q; rw [q] at this; simp at this
  · rw [slash_eq] at hy
    exact StrLaws.split_free (jn xs) 47 y hy (e ▸ hc)
theorem sassoc (a b c : Str) : a ++ b ++ c = a ++ (b ++ c) := str_ext (by simp only [cps_append, List.append_assoc])
theorem jn_snoc : ∀ {L : List Str} {x : Str}, L ≠ [] → jn (L ++ [x]) = jn L ++ Str.ofString "/" ++ x
  | [], _, h => absurd rfl h
  | [y], x, _ => rfl
  | y :: z :: r, x, _ => by
    have ih := jn_snoc (L := z :: r) (x := x) (by simp)
    show y ++ Str.ofString "/" ++ jn (z :: r ++ [x]) = y ++ Str.ofString "/" ++ jn (z :: r) ++ Str.ofString "/" ++ x
    rw [ih]; simp only [sassoc]
theorem ends_iff (p : Str) : Txt.endswith p (Str.ofString "/") = (p.cps.toList.getLast? == some 47) := by
  have h5 : (Str.ofString "/").length = 1 := by decide +kernel
  unfold Txt.endswith
  rw [StrLaws.subAt_eq, h5, slash_cps]
  rcases List.eq_nil_or_concat p.cps.toList with e | ⟨l, z, e⟩
  · have hl : p.length = 0 := by
      have := congrArg List.length e
      simpa [Str.length] using this
    rw [e, hl]; rfl
  · rw [List.concat_eq_append] at e
    have hl : p.length = l.length + 1 := by
      have := congrArg List.length e
      simpa [Str.length] using this
    rw [e, hl]
    simp
def PathRep (p : Str) (L : List Str) : Prop := L ≠ [] ∧ (∀ x ∈ L, NoSlash x) ∧ p = Str.ofString "/" ++ jn L
/-- a path's last part -/
theorem rep_last (L0 : List Str) (z : Str) : ∃ q : List Nat, (Str.ofString "/" ++ jn (L0 ++ [z])).cps.toList = q ++ 47 :: z.cps.toList := by
  cases L0 with
  | nil => exact ⟨[], by rw [cps_append, slash_cps]; rfl⟩
  | cons y r => exact ⟨47 :: (jn (y :: r)).cps.toList, by rw [jn_snoc (by simp), cps_append, cps_append, cps_append, slash_cps]; simp⟩
theorem rep_ends {L0 : List Str} {z : Str} (hz : NoSlash z) : Txt.endswith (Str.ofString "/" ++ jn (L0 ++ [z])) (Str.ofString "/") = (z.cps.toList == []) := by
  obtain ⟨q, e⟩ := rep_last L0 z
  rw [ends_iff, e]
  rcases List.eq_nil_or_concat z.cps.toList with h | ⟨l, c, h⟩
  · rw [h]; simp
  · rw [List.concat_eq_append] at h
    have hc : c ≠ 47 := hz c (by rw [h]; simp)
    have e3 : q ++ 47 :: (l ++ [c]) = (q ++ 47 :: l) ++ [c] := by simp
    rw [h, e3, List.getLast?_concat]
    have h47 : (c == 47) = false := beq_false_of_ne hc
    simp [h47]
theorem rep_join {p nm : Str} {L : List Str} (h : PathRep p L) (hn : NoSlash nm) : ∃ L', PathRep (joinS p nm) L' ∧ L'.foldl normStep [] = normStep (L.foldl normStep []) nm := by
  obtain ⟨h0, h1, rfl⟩ := h
  rcases List.eq_nil_or_concat L with e | ⟨L0, z, e⟩
  · exact absurd e h0
  rw [List.concat_eq_append] at e
  subst e
  have hz : NoSlash z := h1 z (by simp)
  unfold joinS
  rw [rep_ends hz]
  by_cases hze : z.cps.toList = []
  · rw [if_pos (by simp [hze])]
    refine ⟨L0 ++ [nm], ⟨by simp, fun x hx => ?_, ?_⟩, ?_⟩
    · rcases List.mem_append.mp hx with q | q
      · exact h1 x (List.mem_append_left _ q)
      · rw [List.mem_singleton.mp q]; exact hn
    · cases L0 with
      | nil => exact str_ext (by simp only [cps_append, List.nil_append]; rw [show (jn [z]).cps.toList = z.cps.toList from rfl, show (jn [nm]).cps.toList = nm.cps.toList from rfl, hze]; simp)
      | cons y r =>
        rw [jn_snoc (by simp), jn_snoc (by simp)]
        exact str_ext (by simp only [cps_append, hze]; simp)
    · rw [List.foldl_append, List.foldl_append]
      have e : ∀ nc, normStep nc z = nc := fun nc => ns_nil (by have : z.length = z.cps.toList.length := by simp [Str.length]
                                                                rw [this, hze]; rfl)
      simp only [List.foldl_cons, List.foldl_nil, e]
  · rw [if_neg (by simpa using hze)]
    refine ⟨L0 ++ [z] ++ [nm], ⟨by simp, fun x hx => ?_, ?_⟩, by rw [List.foldl_append]; rfl⟩
    · rcases List.mem_append.mp hx with q | q
      · exact h1 x q
      · rw [List.mem_singleton.mp q]; exact hn
    · rw [jn_snoc (L := L0 ++ [z]) (by simp)]; simp only [sassoc]
theorem rep_norm {p : Str} {L : List Str} (h : PathRep p L) : normS p = Str.ofString "/" ++ jn (L.foldl normStep []) := by
  obtain ⟨h0, h1, rfl⟩ := h
  have h5 : (Str.ofString "/").length = 1 := by decide +kernel
  have e : Txt.slice (Str.ofString "/" ++ jn L) (some 1) none = jn L := by
    have hl : ((Str.ofString "/" ++ jn L).length : Int) = 1 + (jn L).length := by rw [Str.length_append, h5]; push_cast; rfl
    rw [PyProof.Rows.slice_from_eq (i := 1) (by decide) (by omega) rfl]
    refine str_ext ?_
    rw [cps_append, slash_cps, hl]
    have e2 : (jn L).length = (jn L).cps.toList.length := by simp [Str.length]
    have e4 : (1 + ((jn L).length : Int) - 1).toNat = (jn L).cps.toList.length := by omega
    show List.take _ (List.drop 1 ([47] ++ (jn L).cps.toList)) = _
    rw [e4]
    exact List.take_of_length_le (Nat.le_refl _)
  unfold normS normC
  rw [e, split_jn h0 h1]
def kindOf (x : Nat) : Nat := if x < 3 then 0 else if x < 5 then 1 else 2
def nmAt (xs : List Nat) (e : Nat) : Str := nameOf (xs.getD e 0) e
theorem idxFrom_append : ∀ (a b : List Nat) (k : Nat) (I : List Nat), idxFrom (a ++ b) k I = idxFrom b (k + a.length) (idxFrom a k I)
  | [], b, k, I => rfl
  | c :: a, b, k, I => by
    show idxFrom (a ++ b) (k + 1) _ = _
    rw [idxFrom_append a b (k + 1), List.length_cons, Nat.add_right_comm, ← Nat.add_assoc]
    rfl
theorem idxAt_succ {ks : List Nat} {k : Nat} (h : k < ks.length) : idxAt ks (k + 1) = stepI (idxAt ks k) k (ks.getD k 0) := by
  unfold idxAt
  have e : ks.take (k + 1) = ks.take k ++ [ks.getD k 0] := by
    rw [List.take_add_one, List.getElem?_eq_getElem h, List.getD_eq_getElem?_getD, List.getElem?_eq_getElem h]; rfl
  rw [e, idxFrom_append, List.length_take, Nat.min_eq_left (Nat.le_of_lt h), Nat.zero_add]
  rfl
theorem idxAt_pre {a b : List Nat} {k : Nat} (h : k ≤ a.length) : idxAt (a ++ b) k = idxAt a k := by
  unfold idxAt; rw [List.take_append_of_le_length h]
theorem push_name {X k : Nat} (h4 : 4 < X) (hx : X < 10) (hk : k < 6) : (nameOf X k).length = k + 1 ∧ nameOf X k ≠ Str.ofString "." ∧ nameOf X k ≠ Str.ofString ".." := by
  have : ∀ X : Fin 10, ∀ k : Fin 6, 4 < X.1 → (nameOf X.1 k.1).length = k.1 + 1 ∧ nameOf X.1 k.1 ≠ Str.ofString "." ∧ nameOf X.1 k.1 ≠ Str.ofString ".." := by decide +kernel
  exact this ⟨X, hx⟩ ⟨k, hk⟩ h4
theorem low_name {X k : Nat} (hx : X < 3) : nameOf X k = Str.ofString ".." := by
  match X, hx with
  | 0, _ => rfl
  | 1, _ => rfl
  | 2, _ => rfl
theorem step_name {X k : Nat} {nc : List Str} (hx : X < 10) (hk : k < 6) (hl : nc.getLast? ≠ some (Str.ofString "..")) :
    normStep nc (nameOf X k) = if kindOf X = 2 then nc ++ [nameOf X k] else if kindOf X = 0 then nc.dropLast else nc := by
  unfold kindOf
  by_cases h3 : X < 3
  · rw [if_pos h3, if_neg (by decide), if_pos rfl, low_name h3]
    unfold normStep
    rw [if_neg (by decide +kernel), if_neg (by rintro (q | q); exact q rfl; exact hl q)]
  · by_cases h5 : X < 5
    · rw [if_neg h3, if_pos h5, if_neg (by decide), if_neg (by decide)]
      have : X = 3 ∨ X = 4 := by omega
      rcases this with rfl | rfl
      · show normStep nc (Str.ofString ".") = nc
        unfold normStep; rw [if_pos (.inr rfl)]
      · show normStep nc (Str.ofString "") = nc
        unfold normStep; rw [if_pos (.inl (by decide +kernel))]
    · rw [if_neg h3, if_neg h5, if_pos rfl]
      obtain ⟨h1, h2, h6⟩ := push_name (by omega) hx hk
      unfold normStep
      rw [if_neg (by rintro (q | q); omega; exact h2 q), if_pos (.inl h6)]
theorem map_step {I : List Nat} {k c : Nat} {f : Nat → Str} : (stepI I k c).map f = if c = 2 then I.map f ++ [f k] else if c = 0 then (I.map f).dropLast else I.map f := by
  unfold stepI
  split
  · rw [List.map_append]; rfl
  · split
    · rw [List.map_dropLast]
    · rfl
theorem mem_step {I : List Nat} {k c e : Nat} (h : e ∈ stepI I k c) : e ∈ I ∨ (e = k ∧ c = 2) := by
  unfold stepI at h
  split at h
  · rcases List.mem_append.mp h with q | q
    · exact .inl q
    · exact .inr ⟨List.mem_singleton.mp q, by assumption⟩
  · split at h
    · exact .inl ((List.dropLast_sublist I).subset h)
    · exact .inl h
/-- what the run knows of its pieces -/
structure RunXs (st : RunSt) (xs : List Nat) : Prop where
  lt : ∀ x ∈ xs, x < 10
  texts : st.texts = xs.map textOf
  path : ∃ L, PathRep st.path L ∧ L.foldl normStep [] = (idxAt (xs.map kindOf) xs.length).map (nmAt xs)
  mem : ∀ k, k ≤ xs.length → ∀ e ∈ idxAt (xs.map kindOf) k, e < k ∧ 4 < xs.getD e 0
  places : ∀ k, k ≤ xs.length → st.places[k]? = some (Str.ofString "/" ++ jn ((idxAt (xs.map kindOf) k).map (nmAt xs)))
  names : ∀ k, k < xs.length → st.names[k]? = some (nmAt xs k)
  valid : ∀ k, k < xs.length → xs.getD k 0 < 3 → idxAt (xs.map kindOf) k ≠ []
theorem getD_pre {xs : List Nat} {x e : Nat} (h : e < xs.length) : (xs ++ [x]).getD e 0 = xs.getD e 0 := by
  rw [List.getD_eq_getElem?_getD, List.getD_eq_getElem?_getD, List.getElem?_append_left h]
theorem getD_last {xs : List Nat} {x : Nat} : (xs ++ [x]).getD xs.length 0 = x := by
  rw [List.getD_eq_getElem?_getD]; simp
theorem nm_map {xs I : List Nat} {x : Nat} (h : ∀ e ∈ I, e < xs.length) : I.map (nmAt (xs ++ [x])) = I.map (nmAt xs) := by
  refine List.map_congr_left fun e he => ?_
  unfold nmAt; rw [getD_pre (h e he)]
theorem jn_nil : Str.ofString "/" ++ jn [] = Str.ofString "/" := by decide +kernel
theorem run_step {st : RunSt} {xs : List Nat} {d : Nat} (R : RunXs st xs) (hn : st.names.length = xs.length) (hp : st.places.length = xs.length + 1) (hl : xs.length < 6) (hd : d < 10) : RunXs (stepR st d) (xs ++ [xAt st d]) := by
  obtain ⟨X, hX⟩ : ∃ X, X = xAt st d := ⟨_, rfl⟩
  have hX10 : X < 10 := hX ▸ xAt_lt hd
  have hst : stepR st d = ⟨st.names ++ [nameOf X xs.length], st.texts ++ [textOf X], joinS st.path (nameOf X xs.length), st.places ++ [normS (joinS st.path (nameOf X xs.length))]⟩ := by
    rw [hX, ← hn]; rfl
  rw [hst, ← hX]
  obtain ⟨L, hL, hLf⟩ := R.path
  have hks : (xs ++ [X]).map kindOf = xs.map kindOf ++ [kindOf X] := by simp
  have hkl : (xs.map kindOf).length = xs.length := List.length_map _
  have hpre : ∀ k, k ≤ xs.length → idxAt ((xs ++ [X]).map kindOf) k = idxAt (xs.map kindOf) k := fun k hk => by
    rw [hks, idxAt_pre (by omega)]
  have hsucc : idxAt ((xs ++ [X]).map kindOf) (xs.length + 1) = stepI (idxAt (xs.map kindOf) xs.length) xs.length (kindOf X) := by
    rw [idxAt_succ (by simp), hpre _ (Nat.le_refl _)]
    congr 1
    rw [hks, ← hkl, getD_last]
  have hmem := R.mem xs.length (Nat.le_refl _)
  have hlast : ((idxAt (xs.map kindOf) xs.length).map (nmAt xs)).getLast? ≠ some (Str.ofString "..") := by
    intro q
    have := List.mem_of_getLast? q
    obtain ⟨e, he, hq⟩ := List.mem_map.mp this
    obtain ⟨h1, h2⟩ := hmem e he
    have h10 : xs.getD e 0 < 10 := by
      rw [List.getD_eq_getElem?_getD, List.getElem?_eq_getElem h1]
      exact R.lt _ (List.getElem_mem h1)
    exact (push_name h2 h10 (by omega)).2.2 hq
  have hnm := name_ok hX10 hl
  obtain ⟨L', hL', hLf'⟩ := rep_join hL hnm.1
  have hstk : L'.foldl normStep [] = (idxAt ((xs ++ [X]).map kindOf) (xs.length + 1)).map (nmAt (xs ++ [X])) := by
    rw [hLf', hLf, step_name hX10 hl hlast, hsucc, map_step, nm_map (fun e he => (hmem e he).1)]
    have : nmAt (xs ++ [X]) xs.length = nameOf X xs.length := by unfold nmAt; rw [getD_last]
    rw [this]
  have hll : (xs ++ [X]).length = xs.length + 1 := by simp
  refine ⟨?_, ?_, ?_, ?_, ?_, ?_, ?_⟩
  · intro x hx
    rcases List.mem_append.mp hx with q | q
    · exact R.lt x q
    · rw [List.mem_singleton.mp q]; exact hX10
  · show st.texts ++ [textOf X] = _
    rw [R.texts]; simp
  · exact ⟨L', hL', by rw [hll]; exact hstk⟩
  · intro k hk e he
    rw [hll] at hk
    rcases Nat.lt_or_ge k (xs.length + 1) with q | q
    · rw [hpre k (by omega)] at he
      obtain ⟨h1, h2⟩ := R.mem k (by omega) e he
      exact ⟨h1, by rw [getD_pre (by omega)]; exact h2⟩
    · have : k = xs.length + 1 := by omega
      subst this
      rw [hsucc] at he
      rcases mem_step he with he | ⟨rfl, hc⟩
      · obtain ⟨h1, h2⟩ := hmem e he
        exact ⟨by omega, by rw [getD_pre h1]; exact h2⟩
      · refine ⟨by omega, ?_⟩
        rw [getD_last]
        unfold kindOf at hc
        split at hc
        · cases hc
        · split at hc
          · cases hc
          · omega
  · intro k hk
    rw [hll] at hk
    show (st.places ++ [_])[k]? = _
    rcases Nat.lt_or_ge k (xs.length + 1) with q | q
    · rw [List.getElem?_append_left (by omega), R.places k (by omega), hpre k (by omega), nm_map fun e he => Nat.lt_of_lt_of_le (R.mem k (by omega) e he).1 (by omega)]
    · have : k = xs.length + 1 := by omega
      subst this
      rw [← hp, List.getElem?_concat_length, rep_norm hL', hstk, hp]
  · intro k hk
    rw [hll] at hk
    show (st.names ++ [_])[k]? = _
    rcases Nat.lt_or_ge k xs.length with q | q
    · rw [List.getElem?_append_left (by omega), R.names k q]
      unfold nmAt; rw [getD_pre q]
    · have : k = xs.length := by omega
      subst this
      rw [← hn, List.getElem?_concat_length]
      unfold nmAt; rw [hn, getD_last]
  · intro k hk h3
    rw [hll] at hk
    rcases Nat.lt_or_ge k xs.length with q | q
    · rw [getD_pre q] at h3
      rw [hpre k (by omega)]
      exact R.valid k q h3
    · have : k = xs.length := by omega
      subst this
      rw [getD_last] at h3
      rw [hpre _ (Nat.le_refl _)]
      intro hnil
      have hpl := R.places xs.length (Nat.le_refl _)
      rw [hnil, List.map_nil, jn_nil] at hpl
      have : X = 3 := by
        rw [hX]
        have hd3 : d < 3 := by
          rw [hX] at h3
          unfold xAt at h3
          split at h3
          · omega
          · exact h3
        unfold xAt
        rw [if_pos ⟨hd3, by rw [hn, hpl]; rfl⟩]
      omega
theorem runR_xs : ∀ (ds : List Nat), (∀ d ∈ ds, d < 10) → ds.length ≤ 6 → ∃ xs : List Nat, xs.length = ds.length ∧ RunXs (runR ds) xs := by
  intro ds
  refine snoc_ind (P := fun ds => (∀ d ∈ ds, d < 10) → ds.length ≤ 6 → ∃ xs : List Nat, xs.length = ds.length ∧ RunXs (runR ds) xs) ?_ ?_ ds
  · refine fun _ _ => ⟨[], rfl, ⟨fun _ h => (nomatch h), rfl, ⟨[Str.ofString ""], ⟨by simp, fun x hx => ?_, by decide +kernel⟩, by decide +kernel⟩, fun k hk e he => ?_, fun k hk => ?_, fun k hk => (nomatch hk), fun k hk => (nomatch hk)⟩⟩
    · rw [List.mem_singleton.mp hx]; exact (piece_ok 4 (by decide)).1
    · have : k = 0 := by simpa using hk
      subst this
      exact nomatch he
    · have : k = 0 := by simpa using hk
      subst this
      show [Str.ofString "/"][0]? = some (Str.ofString "/" ++ jn [])
      rw [jn_nil]; rfl
  · intro ds d ih h hl
    rw [List.length_append, List.length_singleton] at hl
    obtain ⟨xs, hxl, R⟩ := ih (fun e he => h e (List.mem_append_left _ he)) (by omega)
    have hz := runR_sizes ds
    rw [runR_snoc]
    exact ⟨xs ++ [xAt (runR ds) d], by simp [hxl], run_step R (by omega) (by omega) (by omega) (h d (List.mem_append_right _ (.head _)))⟩
end
section
open PySem PySem.W PyProof.Rows PySem.Calls PyProof.Rows.LCg
set_option Elab.async false
set_option maxRecDepth 100000
set_option maxHeartbeats 4000000
def cpsT (X : Nat) : List Nat := (textOf X).cps.toList
def ct (ts : List Nat) : List Nat := (ts.map cpsT).flatten
def escW (i : Nat) (c : Nat) : Word := ((i : Int), Str.ofString "\\" ++ ⟨#[c]⟩)
def wordsT (X i : Nat) : List Word := match X with
  | 0 => [((i : Int), ⟨#[41]⟩)]
  | 1 => [((i : Int), ⟨#[41]⟩)]
  | 2 => [((i : Int), ⟨#[41]⟩)]
  | 3 => [escW (i + 1) 40]
  | 4 => [((i : Int), ⟨#[34]⟩), (((i + 1 : Nat) : Int), ⟨#[41]⟩), (((i + 2 : Nat) : Int), ⟨#[34]⟩)]
  | 5 => [((i : Int), ⟨#[40]⟩), escW (i + 2) 97]
  | 6 => [((i : Int), ⟨#[40]⟩), escW (i + 2) 98]
  | 7 => [((i : Int), ⟨#[40]⟩), escW (i + 2) 40]
  | 8 => [((i : Int), ⟨#[40]⟩), escW (i + 2) 41]
  | _ => [((i : Int), ⟨#[40]⟩), escW (i + 2) 34]
theorem ws_plain {c i : Nat} {r : List Nat} (h : (⟨#[c]⟩ : Str) ≠ Str.ofString "\\") : wordsOf false i (c :: r) = ((i : Int), ⟨#[c]⟩) :: wordsOf false (i + 1) r := by
  rw [wordsOf, if_neg h]
theorem ws_esc {c i : Nat} {r : List Nat} : wordsOf false i (92 :: c :: r) = escW (i + 1) c :: wordsOf false (i + 2) r := by
  rw [wordsOf, if_pos (by decide +kernel), wordsOf]; rfl
theorem ws_text {X : Nat} (hX : X < 10) (i : Nat) (r : List Nat) : wordsOf false i (cpsT X ++ r) = wordsT X i ++ wordsOf false (i + (cpsT X).length) r := by
  have h41 : (⟨#[41]⟩ : Str) ≠ Str.ofString "\\" := by decide +kernel
  have h34 : (⟨#[34]⟩ : Str) ≠ Str.ofString "\\" := by decide +kernel
  have h40 : (⟨#[40]⟩ : Str) ≠ Str.ofString "\\" := by decide +kernel
  match X, hX with
  | 0, _ => rw [show cpsT 0 = [41] from by decide +kernel]; exact ws_plain h41
  | 1, _ => rw [show cpsT 1 = [41] from by decide +kernel]; exact ws_plain h41
  | 2, _ => rw [show cpsT 2 = [41] from by decide +kernel]; exact ws_plain h41
  | 3, _ => rw [show cpsT 3 = [92, 40] from by decide +kernel]; exact ws_esc
  | 4, _ => rw [show cpsT 4 = [34, 41, 34] from by decide +kernel]; simp only [List.cons_append, List.nil_append]; rw [ws_plain h34, ws_plain h41, ws_plain h34]; rfl
  | 5, _ => rw [show cpsT 5 = [40, 92, 97] from by decide +kernel]; simp only [List.cons_append, List.nil_append]; rw [ws_plain h40, ws_esc]; rfl
  | 6, _ => rw [show cpsT 6 = [40, 92, 98] from by decide +kernel]; simp only [List.cons_append, List.nil_append]; rw [ws_plain h40, ws_esc]; rfl
  | 7, _ => rw [show cpsT 7 = [40, 92, 40] from by decide +kernel]; simp only [List.cons_append, List.nil_append]; rw [ws_plain h40, ws_esc]; rfl
  | 8, _ => rw [show cpsT 8 = [40, 92, 41] from by decide +kernel]; simp only [List.cons_append, List.nil_append]; rw [ws_plain h40, ws_esc]; rfl
  | 9, _ => rw [show cpsT 9 = [40, 92, 34] from by decide +kernel]; simp only [List.cons_append, List.nil_append]; rw [ws_plain h40, ws_esc]; rfl
theorem e40 : (⟨#[40]⟩ : Str) = Str.ofString "(" := by decide +kernel
theorem e41 : (⟨#[41]⟩ : Str) = Str.ofString ")" := by decide +kernel
theorem n41 : (⟨#[41]⟩ : Str) ≠ Str.ofString "(" := by decide +kernel
theorem esc_str : ∀ c ∈ [40, 97, 98, 41, 34], (Str.ofString "\\" ++ (⟨#[c]⟩ : Str)) ≠ Str.ofString "(" ∧ (Str.ofString "\\" ++ (⟨#[c]⟩ : Str)) ≠ Str.ofString ")" ∧ (Str.ofString "\\" ++ (⟨#[c]⟩ : Str)) ≠ Str.ofString "\"" := by decide +kernel
theorem run_esc {i c : Nat} {n : Int} {r : List Word} (h : c ∈ [40, 97, 98, 41, 34]) : checkRun n (escW i c :: r) = checkRun n r := by
  obtain ⟨h1, h2, _⟩ := esc_str c h
  unfold escW
  rw [checkRun, if_neg h1, if_neg h2]
theorem run_open {i : Int} {n : Int} {r : List Word} : checkRun n ((i, ⟨#[40]⟩) :: r) = checkRun (n + 1) r := by
  rw [checkRun, if_pos e40]
theorem run_close {i : Int} {n : Nat} {r : List Word} : checkRun (n : Int) ((i, ⟨#[41]⟩) :: r) = if n = 0 then none else checkRun ((n - 1 : Nat) : Int) r := by
  rw [checkRun, if_neg n41, if_pos e41]
  by_cases h : n = 0
  · rw [if_pos (by omega), if_pos h]
  · rw [if_neg (by omega), if_neg h]
    congr 1; omega
def upI (o : Option Nat) : Option Int := o.map Int.ofNat
/-- the check counts the brackets -/
theorem run_bal : ∀ (ts : List Nat) (n i : Nat), (∀ X ∈ ts, X < 10 ∧ X ≠ 4) → checkRun (n : Int) (wordsOf false i (ct ts)) = upI (balK n (ts.map kindOf))
  | [], n, i, _ => by
    show checkRun (n : Int) (wordsOf false i []) = _
    rw [wordsOf]; rfl
  | X :: ts, n, i, h => by
    have hX := h X (.head _)
    have hr : ∀ Y ∈ ts, Y < 10 ∧ Y ≠ 4 := fun Y hY => h Y (.tail _ hY)
    show checkRun (n : Int) (wordsOf false i (cpsT X ++ ct ts)) = _
    rw [ws_text hX.1, List.map_cons]
    have hpush : ∀ (c : Nat), c ∈ [40, 97, 98, 41, 34] → kindOf X = 2 → wordsT X i = [((i : Int), ⟨#[40]⟩), escW (i + 2) c] → checkRun (n : Int) (wordsT X i ++ wordsOf false (i + (cpsT X).length) (ct ts)) = upI (balK n (kindOf X :: ts.map kindOf)) := by
      intro c hc hk e
      rw [e, hk]
      simp only [List.cons_append, List.nil_append]
      rw [run_open, run_esc hc]
      have := run_bal ts (n + 1) (i + (cpsT X).length) hr
      rw [balK, if_pos rfl, ← this]
      push_cast; rfl
    have hpop : kindOf X = 0 → wordsT X i = [((i : Int), ⟨#[41]⟩)] → checkRun (n : Int) (wordsT X i ++ wordsOf false (i + (cpsT X).length) (ct ts)) = upI (balK n (kindOf X :: ts.map kindOf)) := by
      intro hk e
      rw [e, hk]
      simp only [List.cons_append, List.nil_append]
      rw [run_close, balK, if_neg (show ¬ ((0 : Nat) = 2) by decide), if_pos (show (0 : Nat) = 0 from rfl)]
      by_cases h0 : n = 0
      · rw [if_pos h0, if_pos h0]; rfl
      · rw [if_neg h0, if_neg h0, run_bal ts (n - 1) _ hr]
    match X, hX with
    | 0, _ => exact hpop rfl rfl
    | 1, _ => exact hpop rfl rfl
    | 2, _ => exact hpop rfl rfl
    | 3, _ =>
      show checkRun (n : Int) ([escW (i + 1) 40] ++ _) = _
      simp only [List.cons_append, List.nil_append]
      rw [run_esc (by decide), run_bal ts n _ hr]
      rfl
    | 5, _ => exact hpush 97 (by decide) rfl rfl
    | 6, _ => exact hpush 98 (by decide) rfl rfl
    | 7, _ => exact hpush 40 (by decide) rfl rfl
    | 8, _ => exact hpush 41 (by decide) rfl rfl
    | 9, _ => exact hpush 34 (by decide) rfl rfl
def flatS (ys : List Str) : List Nat := (ys.map fun y => y.cps.toList).flatten
theorem join_flat : ∀ ys : List Str, (Str.join (Str.ofString "") ys).cps.toList = flatS ys
  | [] => rfl
  | [x] => by simp [flatS, Str.join]
  | x :: y :: r => by
    have ih := join_flat (y :: r)
    show (x ++ Str.ofString "" ++ Str.join (Str.ofString "") (y :: r)).cps.toList = _
    rw [cps_append, cps_append, ih, show (Str.ofString "").cps.toList = [] from by decide +kernel, List.append_nil]
    simp [flatS]
theorem flat_snoc (ys : List Str) (y : Str) : flatS (ys ++ [y]) = flatS ys ++ y.cps.toList := by simp [flatS]
theorem quote_str : Str.ofString "\"" = ⟨#[34]⟩ := by decide +kernel
theorem n41q : (⟨#[41]⟩ : Str) ≠ Str.ofString "\"" := by decide +kernel
theorem n40q : (⟨#[40]⟩ : Str) ≠ Str.ofString "\"" := by decide +kernel
theorem strip_skip {x : Str} {st : StripSt} {p : Word} {r : List Word} (h : p.2 ≠ Str.ofString "\"") : (p :: r).foldl (stripStep x) st = r.foldl (stripStep x) st := by
  rw [List.foldl_cons]
  congr 1
  unfold stripStep
  rw [if_neg h]
theorem strip_plain {x : Str} {st : StripSt} {X i : Nat} {r : List Word} (hX : X < 10 ∧ X ≠ 4) : (wordsT X i ++ r).foldl (stripStep x) st = r.foldl (stripStep x) st := by
  have two : ∀ (j c : Nat), c ∈ [40, 97, 98, 41, 34] → ([((i : Int), (⟨#[40]⟩ : Str)), escW j c] ++ r).foldl (stripStep x) st = r.foldl (stripStep x) st := by
    intro j c hc
    simp only [List.cons_append, List.nil_append]
    rw [strip_skip n40q, strip_skip (by unfold escW; exact (esc_str c hc).2.2)]
  have one : ([((i : Int), (⟨#[41]⟩ : Str))] ++ r).foldl (stripStep x) st = r.foldl (stripStep x) st := by
    simp only [List.cons_append, List.nil_append]
    rw [strip_skip n41q]
  match X, hX with
  | 0, _ => exact one
  | 1, _ => exact one
  | 2, _ => exact one
  | 3, _ =>
    show ([escW (i + 1) 40] ++ r).foldl (stripStep x) st = _
    simp only [List.cons_append, List.nil_append]
    rw [strip_skip (by unfold escW; exact (esc_str 40 (by decide)).2.2)]
  | 5, _ => exact two _ 97 (by decide)
  | 6, _ => exact two _ 98 (by decide)
  | 7, _ => exact two _ 40 (by decide)
  | 8, _ => exact two _ 41 (by decide)
  | 9, _ => exact two _ 34 (by decide)
theorem strip_quote {x : Str} {p i : Nat} {ps : List Str} {r : List Word} : (wordsT 4 i ++ r).foldl (stripStep x) ((p : Int), none, ps) = r.foldl (stripStep x) (((i + 3 : Nat) : Int), none, if (p : Int) ≠ (i : Int) then ps ++ [Txt.slice x (some (p : Int)) (some (i : Int))] else ps) := by
  show ([((i : Int), (⟨#[34]⟩ : Str)), (((i + 1 : Nat) : Int), ⟨#[41]⟩), (((i + 2 : Nat) : Int), ⟨#[34]⟩)] ++ r).foldl (stripStep x) _ = _
  simp only [List.cons_append, List.nil_append]
  rw [List.foldl_cons]
  have e1 : stripStep x ((p : Int), none, ps) ((i : Int), (⟨#[34]⟩ : Str)) = ((p : Int), some (i : Int), ps) := by
    unfold stripStep; rw [if_pos quote_str.symm]
  rw [e1, strip_skip n41q, List.foldl_cons]
  congr 1
theorem strip_run : ∀ (ts : List Nat) (x : Str) (pre acc : List Nat) (p : Nat) (ps : List Str), (∀ X ∈ ts, X < 10) → x.cps.toList = pre ++ ct ts → p ≤ pre.length → flatS ps ++ pre.drop p = acc →
    ∃ (p' : Nat) (ps' : List Str), (wordsOf false pre.length (ct ts)).foldl (stripStep x) ((p : Int), none, ps) = ((p' : Int), none, ps') ∧ p' ≤ x.cps.toList.length ∧ flatS ps' ++ x.cps.toList.drop p' = acc ++ ct (ts.filter (· ≠ 4))
  | [], x, pre, acc, p, ps, _, hx, hp, ha => by
    refine ⟨p, ps, ?_, ?_, ?_⟩
    · show (wordsOf false pre.length []).foldl _ _ = _
      rw [wordsOf]; rfl
    · rw [hx, List.length_append]; omega
    · have e : x.cps.toList = pre := by rw [hx]; simp [ct]
      rw [e, ha]; simp [ct]
  | X :: ts, x, pre, acc, p, ps, h, hx, hp, ha => by
    have hX := h X (.head _)
    have hr : ∀ Y ∈ ts, Y < 10 := fun Y hY => h Y (.tail _ hY)
    have hct : ct (X :: ts) = cpsT X ++ ct ts := by simp [ct]
    have hx' : x.cps.toList = (pre ++ cpsT X) ++ ct ts := by rw [hx, hct, List.append_assoc]
    have hl : (pre ++ cpsT X).length = pre.length + (cpsT X).length := List.length_append
    rw [hct, ws_text hX, ← hl]
    by_cases h4 : X = 4
    · subst h4
      have h43 : (cpsT 4).length = 3 := by decide +kernel
      rw [strip_quote]
      have hxl : pre.length ≤ x.cps.toList.length := by rw [hx, List.length_append]; omega
      have := strip_run ts x (pre ++ cpsT 4) acc (pre.length + 3) (if (p : Int) ≠ (pre.length : Int) then ps ++ [Txt.slice x (some (p : Int)) (some (pre.length : Int))] else ps) hr hx' (by rw [hl, h43]; exact Nat.le_refl _) (by
        have hd : (pre ++ cpsT 4).drop (pre.length + 3) = [] := List.drop_eq_nil_of_le (by rw [hl, h43]; exact Nat.le_refl _)
        rw [hd, List.append_nil, ← ha]
        by_cases hpe : p = pre.length
        · rw [if_neg (by rw [hpe]; simp), hpe, List.drop_length, List.append_nil]
        · rw [if_pos (by omega), flat_snoc]
          congr 1
          have hs := beq_iff_eq.mp (PyProof.Rows.slice_closes (x := x) (i := (p : Int)) (j := (pre.length : Int)) ⟨by omega, by omega, by omega⟩)
          rw [hs, hx]
          have e1 : ((p : Int)).toNat = p := by omega
          have e2 : ((pre.length : Int) - (p : Int)).toNat = pre.length - p := by omega
          show ((pre ++ ct (4 :: ts)).drop ((p : Int)).toNat).take _ = _
          rw [e1, e2, List.drop_append_of_le_length hp, List.take_append_of_le_length (by rw [List.length_drop]; exact Nat.le_refl _)]
          exact List.take_of_length_le (by rw [List.length_drop]; exact Nat.le_refl _))
      have hf : (4 :: ts).filter (· ≠ 4) = ts.filter (· ≠ 4) := by simp
      rw [hf]
      exact this
    · rw [strip_plain ⟨hX, h4⟩]
      have := strip_run ts x (pre ++ cpsT X) (acc ++ cpsT X) p ps hr hx' (by rw [hl]; omega) (by
        rw [List.drop_append_of_le_length hp, ← List.append_assoc, ha])
      have hf : (X :: ts).filter (· ≠ 4) = X :: ts.filter (· ≠ 4) := by simp [h4]
      rw [hf]
      have hct2 : ct (X :: ts.filter (· ≠ 4)) = cpsT X ++ ct (ts.filter (· ≠ 4)) := by simp [ct]
      rw [hct2, ← List.append_assoc]
      exact this
theorem flat_texts (ts : List Nat) : flatS (ts.map textOf) = ct ts := by
  unfold flatS ct
  rw [List.map_map]; rfl
theorem strip_text {ts : List Nat} (h : ∀ X ∈ ts, X < 10) : (stripS (Str.join (Str.ofString "") (ts.map textOf))).cps.toList = ct (ts.filter (· ≠ 4)) := by
  have hx : (Str.join (Str.ofString "") (ts.map textOf)).cps.toList = ct ts := by rw [join_flat, flat_texts]
  generalize Str.join (Str.ofString "") (ts.map textOf) = x at hx
  have hlen : x.length = x.cps.toList.length := by simp [Str.length]
  unfold stripS
  rw [quote_str, PyProof.Rows.empty_one]
  by_cases h34 : 34 ∈ x.cps.toList
  · rw [if_neg (by simp [h34])]
    obtain ⟨p, ps, h1, h2, h3⟩ := strip_run ts x [] [] 0 [] h (by rw [hx]; rfl) (Nat.le_refl _) rfl
    have h1' : stripRun x (wordsOf false 0 x.cps.toList) = ((p : Int), none, ps) := by rw [hx]; exact h1
    rw [h1', join_flat]
    show flatS (ps ++ if (p : Int) < (x.length : Int) then [Txt.slice x (some (p : Int)) none] else []) = _
    rw [← List.nil_append (ct (ts.filter (· ≠ 4))), ← h3]
    by_cases hp : (p : Int) < (x.length : Int)
    · rw [if_pos hp, flat_snoc]
      congr 1
      rw [PyProof.Rows.slice_from_eq (i := (p : Int)) (by omega) (by omega) rfl]
      have e1 : ((p : Int)).toNat = p := by omega
      have e2 : ((x.length : Int) - (p : Int)).toNat = x.cps.toList.length - p := by omega
      show (x.cps.toList.drop ((p : Int)).toNat).take _ = _
      rw [e1, e2]
      exact List.take_of_length_le (by rw [List.length_drop]; exact Nat.le_refl _)
    · rw [if_neg hp, List.append_nil, List.drop_eq_nil_of_le (by omega), List.append_nil]
  · rw [if_pos (by simp [h34]), hx]
    congr 1
    refine (List.filter_eq_self.mpr fun X hX => ?_).symm
    simp only [decide_eq_true_eq, ne_eq]
    intro e
    subst e
    refine h34 ?_
    rw [hx]
    exact List.mem_flatten.mpr ⟨cpsT 4, List.mem_map.mpr ⟨4, hX, rfl⟩, by decide +kernel⟩
theorem bal_filter : ∀ (ts : List Nat) (n : Nat), balK n ((ts.filter (· ≠ 4)).map kindOf) = balK n (ts.map kindOf)
  | [], n => rfl
  | X :: ts, n => by
    by_cases h : X = 4
    · subst h
      have hf : (4 :: ts).filter (· ≠ 4) = ts.filter (· ≠ 4) := by simp
      rw [hf, bal_filter ts n]
      rfl
    · have hf : (X :: ts).filter (· ≠ 4) = X :: ts.filter (· ≠ 4) := by simp [h]
      rw [hf, List.map_cons, List.map_cons, balK, balK, bal_filter ts, bal_filter ts, bal_filter ts]
theorem check_text {ts : List Nat} (h : ∀ X ∈ ts, X < 10) : checkS (Str.join (Str.ofString "") (ts.map textOf)) = (balK 0 (ts.map kindOf) == some 0) := by
  unfold checkS
  rw [strip_text h]
  have := run_bal (ts.filter (· ≠ 4)) 0 0 (fun X hX => ⟨h X ((List.mem_filter.mp hX).1), by simpa using (List.mem_filter.mp hX).2⟩)
  rw [show ((0 : Nat) : Int) = 0 from rfl] at this
  rw [this, bal_filter]
  cases e : balK 0 (ts.map kindOf) with
  | none => rfl
  | some m =>
    cases m with
    | zero => rfl
    | succ m => simp [upI]; omega
end
section
open PySem PySem.W PyProof.Rows PySem.Calls PyProof.Rows.LCg
set_option Elab.async false
set_option maxRecDepth 100000
set_option maxHeartbeats 4000000
theorem keepC_yes {x : Str} (h1 : x.length ≠ 0) (h2 : x ≠ Str.ofString ".") : keepC x = true := by simp [keepC, h1, h2]
theorem place_comps {S : List Str} (h : ∀ x ∈ S, NoSlash x ∧ x.length ≠ 0 ∧ x ≠ Str.ofString ".") : (Txt.split (Str.ofString "/" ++ jn S) (Str.ofString "/")).filter keepC = S := by
  have he : NoSlash (Str.ofString "") := (piece_ok 4 (by decide)).1
  cases S with
  | nil =>
    have e : Str.ofString "/" ++ jn [] = jn [Str.ofString "", Str.ofString ""] := by decide +kernel
    rw [e, split_jn (by simp) (by intro x hx; simp only [List.mem_cons, List.not_mem_nil, or_false, or_self] at hx; rw [hx]; exact he)]
    decide +kernel
  | cons y r =>
    have e : Str.ofString "/" ++ jn (y :: r) = jn (Str.ofString "" :: y :: r) := str_ext (by rw [jn_two, cps_append, slash_cps, show (Str.ofString "").cps.toList = [] from by decide +kernel]; rfl)
    rw [e, split_jn (by simp) (by
      intro x hx
      rcases List.mem_cons.mp hx with rfl | hx
      · exact he
      · exact (h x hx).1)]
    rw [List.filter_cons, if_neg (by decide +kernel)]
    exact List.filter_eq_self.mpr fun x hx => keepC_yes (h x hx).2.1 (h x hx).2.2
theorem lcp_map {f : Nat → Str} : ∀ {I J : List Nat}, (∀ a ∈ I, ∀ b ∈ J, f a = f b → a = b) → lcpL (I.map f) (J.map f) = (lcpN I J).map f
  | [], _, _ => by simp [lcpL, lcpN]
  | _ :: _, [], _ => by simp [lcpL, lcpN]
  | a :: I, b :: J, h => by
    simp only [List.map_cons, lcpL, lcpN]
    by_cases e : a = b
    · rw [if_pos e, if_pos (by rw [e]), lcp_map fun x hx y hy => h x (.tail _ hx) y (.tail _ hy)]; rfl
    · rw [if_neg e, if_neg fun q => e (h a (.head _) b (.head _) q)]; rfl
theorem lcp_pre : ∀ (P u v : List Str), lcpL (P ++ u) (P ++ v) = P ++ lcpL u v
  | [], _, _ => rfl
  | x :: P, u, v => by
    simp only [List.cons_append, lcpL, if_true]
    rw [lcp_pre P u v]
theorem ltL_pre : ∀ (P u v : List Str), ltL (P ++ u) (P ++ v) = ltL u v
  | [], _, _ => rfl
  | x :: P, u, v => by
    simp only [List.cons_append, ltL, if_true]
    exact ltL_pre P u v
/-- what lies between two lists of one head has that head -/
theorem between {x : Str} {u v w : List Str} (h1 : ltL w (x :: u) = false) (h2 : ltL (x :: v) w = false) : ∃ w', w = x :: w' := by
  cases w with
  | nil => simp [ltL] at h1
  | cons y w =>
    by_cases e : y = x
    · exact ⟨w, by rw [e]⟩
    · simp only [ltL, if_neg e, if_neg (Ne.symm e)] at h1 h2
      exact absurd (ltS_tri h1 h2) e
/-- the common beginning of the least and the greatest -/
theorem lcp_all {P s1 s2 a b : List Str} {u v w z : List Str} (e1 : s1 = P ++ u) (e2 : s2 = P ++ v) (ea : a = P ++ w) (eb : b = P ++ z) (hab : lcpL a b = P)
    (h1 : ltL a s1 = false) (h2 : ltL s2 a = false) (h3 : ltL b s1 = false) (h4 : ltL s2 b = false) : lcpL s1 s2 = P := by
  subst e1 e2 ea eb
  rw [lcp_pre] at hab ⊢
  rw [ltL_pre] at h1 h2 h3 h4
  have hwz : lcpL w z = [] := by
    have := congrArg List.length hab
    rw [List.length_append] at this
    exact List.eq_nil_of_length_eq_zero (by omega)
  have : lcpL u v = [] := by
    cases u with
    | nil => rfl
    | cons x u =>
      cases v with
      | nil => rfl
      | cons y v =>
        simp only [lcpL]
        by_cases e : x = y
        · subst e
          obtain ⟨w', rfl⟩ := between h1 h2
          obtain ⟨z', rfl⟩ := between h3 h4
          simp [lcpL] at hwz
        · rw [if_neg e]
  rw [this, List.append_nil]
end
section
open PySem PySem.W PyProof.Rows PySem.Calls PyProof.Rows.LCg
set_option Elab.async false
set_option maxRecDepth 100000
set_option maxHeartbeats 4000000
abbrev ksOf (xs : List Nat) : List Nat := xs.map kindOf
abbrev stkAt (xs : List Nat) (k : Nat) : List Str := (idxAt (ksOf xs) k).map (nmAt xs)
theorem kind_lt (x : Nat) : kindOf x < 3 := by unfold kindOf; split; omega; split <;> omega
theorem ks_getD {xs : List Nat} {k : Nat} (h : k < xs.length) : (ksOf xs).getD k 0 = kindOf (xs.getD k 0) := by
  rw [List.getD_eq_getElem?_getD, List.getD_eq_getElem?_getD, List.getElem?_map, List.getElem?_eq_getElem h]; rfl
theorem xs_lt {st : RunSt} {xs : List Nat} (R : RunXs st xs) {k : Nat} (h : k < xs.length) : xs.getD k 0 < 10 := by
  rw [List.getD_eq_getElem?_getD, List.getElem?_eq_getElem h]
  exact R.lt _ (List.getElem_mem h)
theorem checked {st : RunSt} {xs : List Nat} (R : RunXs st xs) (hl : xs.length = 6) : checkK (ksOf xs) = true := by
  have hm : ksOf xs ∈ seqsK 6 := by
    have := seqsK_mem (ksOf xs) (fun c hc => by obtain ⟨x, _, rfl⟩ := List.mem_map.mp hc; exact kind_lt x)
    rwa [List.length_map, hl] at this
  have hv : validK (ksOf xs) = true := by
    unfold validK
    rw [List.all_eq_true]
    intro k hk
    have hk6 : k < xs.length := by rw [hl]; simpa using hk
    rw [ks_getD hk6]
    by_cases h3 : xs.getD k 0 < 3
    · have hne := R.valid k hk6 h3
      cases e : idxAt (ksOf xs) k with
      | nil => exact absurd e hne
      | cons a r => simp
    · have : kindOf (xs.getD k 0) ≠ 0 := by unfold kindOf; rw [if_neg h3]; split <;> omega
      rw [Bool.or_eq_true]
      exact .inl (by rw [bne_iff_ne]; exact this)
  have := List.all_eq_true.mp allK _ hm
  rw [hv] at this
  simpa using this
theorem checked_ij {st : RunSt} {xs : List Nat} (R : RunXs st xs) (hl : xs.length = 6) {i j : Nat} (hij : i ≤ j) (hj : j ≤ 6) : checkIJ (ksOf xs) i j = true := by
  have h1 := List.all_eq_true.mp (checked R hl) j (by simp; omega)
  rw [Bool.and_eq_true] at h1
  exact List.all_eq_true.mp h1.2 i (by simp; omega)
theorem stk_good {st : RunSt} {xs : List Nat} (R : RunXs st xs) (hl : xs.length = 6) {k : Nat} (hk : k ≤ 6) : ∀ x ∈ stkAt xs k, NoSlash x ∧ x.length ≠ 0 ∧ x ≠ Str.ofString "." := by
  intro x hx
  obtain ⟨e, he, rfl⟩ := List.mem_map.mp hx
  obtain ⟨h1, h2⟩ := R.mem k (by omega) e he
  have h10 := xs_lt R (k := e) (by omega)
  have hp := push_name h2 h10 (by omega : e < 6)
  exact ⟨(name_ok h10 (by omega)).1, by show (nameOf _ _).length ≠ 0; omega, hp.2.1⟩
theorem nm_inj {st : RunSt} {xs : List Nat} (R : RunXs st xs) (hl : xs.length = 6) {i j : Nat} (hi : i ≤ 6) (hj : j ≤ 6) : ∀ a ∈ idxAt (ksOf xs) i, ∀ b ∈ idxAt (ksOf xs) j, nmAt xs a = nmAt xs b → a = b := by
  intro a ha b hb e
  obtain ⟨a1, a2⟩ := R.mem i (by omega) a ha
  obtain ⟨b1, b2⟩ := R.mem j (by omega) b hb
  have h1 := (push_name a2 (xs_lt R (k := a) (by omega)) (by omega : a < 6)).1
  have h2 := (push_name b2 (xs_lt R (k := b) (by omega)) (by omega : b < 6)).1
  have := congrArg Str.length e
  unfold nmAt at this
  omega
theorem map_inj' {f : Nat → Str} : ∀ {I J : List Nat}, (∀ a ∈ I, ∀ b ∈ J, f a = f b → a = b) → I.map f = J.map f → I = J
  | [], [], _, _ => rfl
  | [], _ :: _, _, h => by simp at h
  | _ :: _, [], _, h => by simp at h
  | a :: I, b :: J, hf, h => by
    simp only [List.map_cons, List.cons.injEq] at h
    rw [hf a (.head _) b (.head _) h.1, map_inj' (fun x hx y hy => hf x (.tail _ hx) y (.tail _ hy)) h.2]
theorem comps_place {st : RunSt} {xs : List Nat} (R : RunXs st xs) (hl : xs.length = 6) {k : Nat} (hk : k ≤ 6) {y : Str} (hy : st.places[k]? = some y) : (Txt.split y (Str.ofString "/")).filter keepC = stkAt xs k := by
  rw [R.places k (by omega)] at hy
  rw [← Option.some.inj hy]
  exact place_comps (stk_good R hl hk)
theorem row_at {st : RunSt} {xs : List Nat} (R : RunXs st xs) (hl : xs.length = 6) {i d : Nat} (h : i + d ≤ 6) : (takenRow st.texts i)[d]? = some (balK 0 (((ksOf xs).drop i).take d) == some 0) := by
  have ht : st.texts.length = 6 := by rw [R.texts, List.length_map, hl]
  unfold takenRow
  rw [List.getElem?_map, List.getElem?_range (by omega)]
  show some (checkS (Str.join (Str.ofString "") ((st.texts.drop i).take d))) = _
  rw [R.texts, ← List.map_drop, ← List.map_take, check_text (fun X hX => R.lt X (List.mem_of_mem_drop (List.mem_of_mem_take hX)))]
  rw [List.map_take, List.map_drop]
theorem law_taken {ds : List Nat} (h : ∀ d ∈ ds, d < 10) (hl : ds.length = 6) {i d : Nat} (hj : i + d ≤ 6) :
    (takenRow (runR ds).texts i)[d]? = some (((runR ds).places[i]?).getD (Str.ofString "") == ((runR ds).places[i + d]?).getD (Str.ofString "")) := by
  obtain ⟨xs, hxl, R⟩ := runR_xs ds h (by omega)
  rw [hl] at hxl
  rw [row_at R hxl hj, R.places i (by omega), R.places (i + d) (by omega)]
  have hc := checked_ij R hxl (i := i) (j := i + d) (by omega) hj
  unfold checkIJ at hc
  simp only [Bool.and_eq_true, Nat.add_sub_cancel_left] at hc
  have h1 := hc.1.1
  rw [beq_iff_eq] at h1
  rw [h1]
  congr 1
  show _ = ((Str.ofString "/" ++ jn (stkAt xs i)) == (Str.ofString "/" ++ jn (stkAt xs (i + d))))
  by_cases e : idxAt (ksOf xs) i = idxAt (ksOf xs) (i + d)
  · unfold stkAt
    rw [e]; simp
  · have hne : (Str.ofString "/" ++ jn (stkAt xs i)) ≠ (Str.ofString "/" ++ jn (stkAt xs (i + d))) := by
      intro q
      have hq := congrArg (fun y => (Txt.split y (Str.ofString "/")).filter keepC) q
      try simp only at hq
      rw [place_comps (stk_good R hxl (by omega)), place_comps (stk_good R hxl hj)] at hq
      exact e (map_inj' (nm_inj R hxl (by omega) hj) hq)
    rw [beq_eq_false_iff_ne.mpr e, beq_eq_false_iff_ne.mpr hne]
theorem open_at {st : RunSt} {xs : List Nat} (R : RunXs st xs) (hl : xs.length = 6) {j k : Nat} (hk : k < j) (hj : j ≤ 6) : openAt st.texts (takenS st.texts) j k = openK (ksOf xs) j k := by
  have ht : st.texts.length = 6 := by rw [R.texts, List.length_map, hl]
  have hk6 : k < xs.length := by omega
  have h1 : ∀ X : Fin 10, (Txt.slice (textOf X.1) none (some 1) == Str.ofString "(") = (kindOf X.1 == 2) := by decide +kernel
  have hX := xs_lt R hk6
  have htx : st.texts[k]? = some (textOf (xs.getD k 0)) := by
    rw [R.texts, List.getElem?_map, List.getD_eq_getElem?_getD, List.getElem?_eq_getElem hk6]; rfl
  rw [openAt_eq htx (takenS_at (ts := st.texts) (k := k) (by omega))]
  unfold openK
  rw [ks_getD hk6, h1 ⟨_, hX⟩]
  congr 1
  have e : ((takenRow st.texts k).drop 1).take (j - k) = (List.range (j - k)).map fun e => (balK 0 (((ksOf xs).drop k).take (e + 1)) == some 0) := by
    refine List.ext_getElem? fun n => ?_
    rw [List.getElem?_take, List.getElem?_map]
    by_cases hn : n < j - k
    · rw [if_pos hn, List.getElem?_drop, List.getElem?_range hn, Nat.add_comm 1 n, row_at R hl (by omega)]
      rfl
    · rw [if_neg hn, List.getElem?_eq_none (by rw [List.length_range]; omega)]; rfl
  rw [e, Bool.eq_iff_iff]
  simp
theorem law_common {ds : List Nat} (h : ∀ d ∈ ds, d < 10) (hl : ds.length = 6) {i j : Nat} (hij : i ≤ j) (hj : j ≤ 6) {l : List Str} (hm : ∀ y ∈ l, ∃ m, i < m ∧ m < j ∧ (runR ds).places[m]? = some y) {s1 s2 : List Str}
    (h1 : s1 ∈ compsOf (((runR ds).places[j]?).getD (Str.ofString "") :: ((runR ds).places[i]?).getD (Str.ofString "") :: l)) (h2 : s2 ∈ compsOf (((runR ds).places[j]?).getD (Str.ofString "") :: ((runR ds).places[i]?).getD (Str.ofString "") :: l))
    (h3 : ∀ x ∈ compsOf (((runR ds).places[j]?).getD (Str.ofString "") :: ((runR ds).places[i]?).getD (Str.ofString "") :: l), ltL x s1 = false) (h4 : ∀ x ∈ compsOf (((runR ds).places[j]?).getD (Str.ofString "") :: ((runR ds).places[i]?).getD (Str.ofString "") :: l), ltL s2 x = false) :
    Str.ofString "/" ++ Str.join (Str.ofString "/") (lcpL s1 s2) = stillS (runR ds).names (runR ds).texts (takenS (runR ds).texts) i j := by
  obtain ⟨xs, hxl, R⟩ := runR_xs ds h (by omega)
  rw [hl] at hxl
  have hpi := R.places i (by omega)
  have hpj := R.places j (by omega)
  rw [hpi, hpj] at h1 h2 h3 h4
  simp only [Option.getD_some] at h1 h2 h3 h4
  have hc := checked_ij R hxl hij hj
  unfold checkIJ at hc
  simp only [Bool.and_eq_true] at hc
  obtain ⟨⟨-, c2⟩, c3⟩ := hc
  rw [beq_iff_eq] at c2
  obtain ⟨P, hP⟩ : ∃ P, P = (List.range i).filter (openK (ksOf xs) j) := ⟨_, rfl⟩
  rw [← hP] at c2 c3
  have pre : ∀ m, i ≤ m → m ≤ j → ∃ u, stkAt xs m = P.map (nmAt xs) ++ u := by
    intro m him hmj
    have := List.all_eq_true.mp c3 m (by simp; omega)
    rw [Bool.or_eq_true] at this
    rcases this with q | q
    · have := of_decide_eq_true q; omega
    · rw [beq_iff_eq] at q
      refine ⟨((idxAt (ksOf xs) m).drop P.length).map (nmAt xs), ?_⟩
      unfold stkAt
      rw [← List.map_append]
      congr 1
      rw [← q]
      exact (by rw [q]; conv => lhs; rw [← List.take_append_drop P.length (idxAt (ksOf xs) m), q])
  have all : ∀ x ∈ compsOf ((Str.ofString "/" ++ jn (stkAt xs j)) :: (Str.ofString "/" ++ jn (stkAt xs i)) :: l), ∃ m, i ≤ m ∧ m ≤ j ∧ x = stkAt xs m := by
    intro x hx
    unfold compsOf at hx
    rw [List.map_map] at hx
    obtain ⟨y, hy, rfl⟩ := List.mem_map.mp hx
    simp only [List.mem_cons] at hy
    rcases hy with rfl | rfl | hy
    · exact ⟨j, hij, Nat.le_refl _, place_comps (stk_good R hxl hj)⟩
    · exact ⟨i, Nat.le_refl _, hij, place_comps (stk_good R hxl (by omega))⟩
    · obtain ⟨m, m1, m2, m3⟩ := hm y hy
      exact ⟨m, by omega, by omega, comps_place R hxl (by omega) m3⟩
  have hi : stkAt xs i ∈ compsOf ((Str.ofString "/" ++ jn (stkAt xs j)) :: (Str.ofString "/" ++ jn (stkAt xs i)) :: l) := by
    unfold compsOf
    rw [List.map_map]
    exact List.mem_map.mpr ⟨_, .tail _ (.head _), place_comps (stk_good R hxl (by omega))⟩
  have hjm : stkAt xs j ∈ compsOf ((Str.ofString "/" ++ jn (stkAt xs j)) :: (Str.ofString "/" ++ jn (stkAt xs i)) :: l) := by
    unfold compsOf
    rw [List.map_map]
    exact List.mem_map.mpr ⟨_, .head _, place_comps (stk_good R hxl hj)⟩
  obtain ⟨a, a1, a2, ea⟩ := all s1 h1
  obtain ⟨b, b1, b2, eb⟩ := all s2 h2
  obtain ⟨u, hu⟩ := pre a a1 a2
  obtain ⟨v, hv⟩ := pre b b1 b2
  obtain ⟨w, hw⟩ := pre i (Nat.le_refl _) hij
  obtain ⟨z, hz⟩ := pre j hij (Nat.le_refl _)
  have hab : lcpL (stkAt xs i) (stkAt xs j) = P.map (nmAt xs) := by
    unfold stkAt
    rw [lcp_map (nm_inj R hxl (by omega) hj), c2]
  have hlcp := lcp_all (ea.trans hu) (eb.trans hv) hw hz hab (h3 _ hi) (h4 _ hi) (h3 _ hjm) (h4 _ hjm)
  rw [hlcp]
  unfold stillS
  congr 2
  unfold stillL
  have hf : (List.range i).filter (openAt (runR ds).texts (takenS (runR ds).texts) j) = P := by
    rw [hP]
    refine List.filter_congr fun k hk => ?_
    have hk' : k < i := by simpa using hk
    exact open_at R hxl (by omega) hj
  rw [hf]
  refine List.map_congr_left fun k hk => ?_
  have hk' : k < i := by
    rw [hP] at hk
    simpa using (List.mem_filter.mp hk).1
  rw [R.names k (by omega)]; rfl
end
section
open PySem PySem.W PyProof.Rows PySem.Calls
set_option Elab.async false
set_option maxRecDepth 100000
set_option maxHeartbeats 8000000
local macro_rules | `(tactic| walk_at "call builtin:list.append") => `(tactic| (k_here; k_dflt ((refine' appendOff [_] ?k1 ?k2 ?k3 ?k4 ?k5 ?_; (case k1 => k_asm); (case k2 => k_asm); (case k3 => assumption); (case k4 => assumption); (case k5 => assumption); k_whole); (intro h' F' N'))))
local macro_rules | `(tactic| walk_at "call builtin:list.append") => `(tactic| (k_here; k_dflt ((refine' appendOff [_, _] ?k1 ?k2 ?k3 ?k4 ?k5 ?_; (case k1 => k_asm); (case k2 => k_asm); (case k3 => assumption); (case k4 => assumption); (case k5 => assumption); k_whole); (intro h' F' N'))))
local macro_rules | `(tactic| walk_at "call builtin:list.append") => `(tactic| (k_here; k_dflt ((refine' appendOff [_, _, _] ?k1 ?k2 ?k3 ?k4 ?k5 ?_; (case k1 => k_asm); (case k2 => k_asm); (case k3 => assumption); (case k4 => assumption); (case k5 => assumption); k_whole); (intro h' F' N'))))
local macro_rules | `(tactic| walk_at "call ref") => `(tactic| (k_here; k_dflt ((with_reducible show wpAny _ _ (PySem.call (Value.ref 115) [Value.str _ _, Value.str _ _]) _ _ _); (refine join_c (by k_asm) (by k_asm) (by k_asm) (by k_asm) (by k_asm) (by first | exact rfl | assumption) (by constructor <;> first | ktr_room | ktr_units) (by assumption) (by assumption) (by assumption) (by assumption) ?_); (intro h9 tk9 t9 F9 N9); (try dsimp only))))
local macro_rules | `(tactic| walk_at "call ref") => `(tactic| (k_here; k_dflt ((with_reducible show wpAny _ _ (PySem.call (Value.ref 129) [Value.str _ _]) _ _ _); (refine normpath_c (by k_asm) (by k_asm) (by k_asm) (by k_asm) (by k_asm) (by first | exact rfl | assumption) (by constructor <;> first | ktr_room | ktr_units) (by assumption) (by assumption) (by assumption) (by assumption) ?_); (intro h9 tk9 t9 F9 N9); (try dsimp only))))
local macro_rules | `(tactic| walk_at "call builtin:sum") => `(tactic| (k_here; k_dflt ((with_reducible show wpAny _ _ (PySem.call (Value.builtin "sum") [Value.ref _]) _ _ _); (refine' sumSlice ?k0 ?k1 ?k2 ?k3 ?k4 ?_; (case k0 => exact rfl); (case k1 => k_asm); (case k2 => k_asm); (case k3 => k_mem); (case k4 => assumption); k_whole); (intro h9 tk9 t9 c9 F9 N9))))
local macro_rules | `(tactic| walk_at "subscriptTail Name Name ref int") => `(tactic| (k_here; k_dflt ((with_reducible show wpAny _ _ (subscriptTail _ _ (Value.ref _) (Value.int _ _)) _ _ _); (with_unfolding_all refine' itemStrs ?k1 ?k2 ?k3 ?k4 ?k5 ?_; (case k1 => k_asm); (case k2 => k_mem); (case k3 => assumption); (case k4 => assumption); (case k5 => assumption); k_whole); (intro t9))))
local macro_rules | `(tactic| walk_at "exec If") => `(tactic| (k_here; k_dflt ((with_reducible show wpAny _ _ (PySem.exec (Stmt.If (Expr.BoolOp _ _ _) _ _ _) _) _ _ _); refine ifHold ?_)))
local macro_rules | `(tactic| walk_at "subscriptTail Name Name ref int") => `(tactic| (k_here; k_dflt ((with_reducible show wpAny _ _ (subscriptTail _ _ (Value.ref _) (Value.int _ _)) _ _ _); (with_unfolding_all refine' itemRef ?k1 ?k2 ?k3 ?k4 ?_; (case k1 => k_asm); (case k2 => k_mem); (case k3 => exact getLast_at (by assumption)); (case k4 => (rw [List.length_append, List.length_singleton]; omega)); k_whole))))
local macro_rules | `(tactic| walk_at "call ref") => `(tactic| (k_here; k_dflt ((with_reducible show wpAny _ _ (PySem.call (Value.ref 160) _) _ _ _); refine callHold ?_)))
local macro_rules | `(tactic| walk_at "call ref") => `(tactic| (k_here; k_dflt ((with_reducible show wpAny _ _ (PySem.call (Value.ref 134) _) _ _ _); refine callHold ?_)))
local macro_rules | `(tactic| walk_at "call ref") => `(tactic| (k_here; k_dflt ((with_reducible show wpAny _ _ (PySem.call (Value.ref 167) _) _ _ _); refine callHold ?_)))
local macro_rules | `(tactic| walk_at "call builtin:sum") => `(tactic| (k_here; k_dflt ((with_reducible show wpAny _ _ (PySem.call (Value.builtin "sum") [Value.ref _]) _ _ _); (refine' sumBase ?k0 ?k1 ?k2 ?k3 ?k4 ?_; (case k0 => exact rfl); (case k1 => k_asm); (case k2 => k_asm); (case k3 => assumption); (case k4 => assumption); k_whole); (intro h9 tk9 t9 F9 N9))))
local macro_rules | `(tactic| walk_at "exec For Name Call cons nil") => `(tactic| (k_here; k_dflt ((rename Fr _ _ _ _ => lF'); (with_unfolding_all refine' forRangeC lF' ?k0 ?k1 ?k2 ?_; (case k0 => exact rfl); (case k1 => exact rfl); (case k2 => exact rfl); k_whole))))
local macro_rules | `(tactic| walk_at "binaryOp Add ref ref") => `(tactic| (k_here; k_dflt ((with_reducible show wpAny _ _ (binaryOp _ (Value.ref _) (Value.ref _)) _ _ _); (refine' addLed ?k1 ?k2 ?k3 ?k4 ?k5 ?_; (case k1 => k_asm); (case k2 => k_asm); (case k3 => k_mem); (case k4 => k_mem); (case k5 => (simp only [List.length_cons, List.length_nil]; omega)); k_whole); (intro h9 F9 N9 lt9))))
local macro_rules | `(tactic| walk_at "subscriptTail") => `(tactic| (k_here; k_dflt ((with_reducible show wpAny _ _ (subscriptTail _ _ (Value.ref _) (Value.int _ _)) _ _ _); (with_unfolding_all refine' itemRefI ?k1 ?k2 ?k3 ?k4 ?k5 ?_; (case k1 => k_asm); (case k2 => k_mem); (case k3 => assumption); (case k4 => omega); (case k5 => assumption); k_whole))))
theorem top : Challenge.rw_pd0147_01.Holds := hd (by rfl) (by rfl) (by rfl) (by
  k_fill
  intro w s₀ s₁ mg mb G Y fa o pm cd doc dV kV ho hd hcd hD hmg hg args vals as hpre hlay hrd hwl hlo
  have KX := kIn_of Y
  have X := (Ground.X G).1
  have V := (Ground.X G).2
  refine Ground.open G ?_
  intro T B D TE TW
  try (refine guard_noD D (by decide +kernel) ?_; clear D)
  obtain ⟨_, _, M⟩ := bmod_of_top T
  have TA := at_of_top T
  try (obtain ⟨_, _, he, B0⟩ := based_of_top T rfl hmg ho hd; have he' : cd = _ := he; subst he'; clear he)
  clear hmg
  wrow_args hpre hlay hrd hwl hlo
  all_goals (
    first | refine callC_kw (enter_call ?_) | refine enter_call ?_ | refine callC_kw (enter_callW ?_) | refine enter_callW ?_ | w_how
    w_top on
    have K0 := below_caller (Top.heap T)
    w_call any ho hd hcd hD T F
    clear hd TA
    k_drop
    skip)
  rename_i wA wO wc wX ns hsI hlay0 hLay hrA hl2 as1 as2 Ds items as3 hLs hra hwell hreads hInts hreadsA hc1 hc2 h1 tk1 oj oi opl osc dj di dpl dsc N0 X0
  clear hcd hD G Y X V B TE TW M ho hsI hlay0 hLay hrA hl2 hreadsA hwell hreads hra hc2 X0
  generalize hLz : s₁.heap.objs.size = L at *
  replace F : Fr s₁.heap L h1 (fun _ => none) := F
  replace dj : oj.data = .cell none := dj
  replace di : oi.data = .cell none := di
  replace dpl : opl.data = .cell none := dpl
  replace dsc : osc.data = .cell (some (.ref Ds)) := dsc
  walk_at "mine steps"
  rename_i Pc hx1 ll1 hx2 Sh hx3 ll2 hx4 Nm hx5 ll3 hx6 Tx hx7 ll4 hx8 hx9 Pl hx10 ll5 hx11 oP Fq Nq dP hIL h2 tk2 tq uq vq Rq F2 N2 oldq
  clear Fq Nq oldq
  obtain ⟨m0, hm0, F0⟩ := frMap F2
  obtain ⟨vS, vP, pv, hvS, hvP, hpv, N3⟩ : ∃ vS vP pv, StrsAre vS shownL ∧ StrsAre vP pieceL ∧ StrsAre pv [Str.ofString "/"] ∧ News s₁.heap L h2 ((Nm, listOf ([] : List Value).toArray 0) :: (Tx, listOf ([] : List Value).toArray 0) :: (Pl, listOf pv.toArray 0) :: (Sh, listOf vS.toArray 0) :: (Pc, listOf vP.toArray 0) :: (L + 1 + 1 + 1 + 1, oj) :: (L + 1 + 1 + 1, oi) :: (L + 1 + 1, oP) :: (L + 1, osc) :: []) := by
    refine ⟨_, _, _, ?_, ?_, ?_, reorder5 N2⟩
    · unfold shownL; repeat (first | exact StrsAre.nil | refine StrsAre.cons _ _ ?_)
    · unfold pieceL; repeat (first | exact StrsAre.nil | refine StrsAre.cons _ _ ?_)
    · repeat (first | exact StrsAre.nil | refine StrsAre.cons _ _ ?_)
  clear N2
  refine ⟨_, 0, 6, _, _, _, 6, m0, _, RunJ m0 Nm Tx Pl [(Sh, listOf vS.toArray 0), (Pc, listOf vP.toArray 0), (L + 1 + 1 + 1 + 1, oj), (L + 1 + 1 + 1, oi), (L + 1 + 1, oP), (L + 1, osc)], rfl, rfl, F0, N3, Rq, by decide +kernel, by decide +kernel, RunJ.start hpv (by rw [hm0]; rfl), ?_, ?_⟩
  · rintro k m₁ nx h9 tk9 It oI t1 hki ⟨ds, nvs, tvs, pvs, n1, n2, n3, tp, hdl, hd10, rfl, hnv, htv, hpvs, hpath, hm1⟩ hoff F9 N9
    have e9 : (fun y => if y = Str.ofString "k" then some (Value.int (0 + (k : Int)) t1) else m₁ y) = (fun y => if y = Str.ofString "k" then some (Value.int (k : Int) t1) else if y = Str.ofString "path" then some (.str (runR ds).path tp) else if y = Str.ofString "x" then m₁ (Str.ofString "x") else m0 y) := by
      funext y
      by_cases q1 : y = Str.ofString "k"
      · simp [q1]
      · by_cases q2 : y = Str.ofString "path"
        · subst q2; rw [if_neg q1, if_neg q1, if_pos rfl]; exact hpath
        · by_cases q3 : y = Str.ofString "x"
          · subst q3; rw [if_neg q1, if_neg q1, if_neg q2, if_pos rfl]
          · rw [if_neg q1, if_neg q1, if_neg q2, if_neg q3]; exact hm1 y q1 q3 q2
    rw [e9] at F9
    generalize m₁ (Str.ofString "x") = vx at F9
    clear e9 hm1 F2 N3 F0 Rq hpath
    subst hm0
    replace F9 : Fr s₁.heap L h9 _ := F9
    replace N9 : News s₁.heap L h9 _ := N9
    try dsimp only at F9 N9
    try dsimp only
    walk_at "mine steps"
    rename Fr _ _ _ _ => F10
    rename News _ _ _ _ => N10
    obtain ⟨d, tX, hd9, F11⟩ := frX F10
    clear F10
    rename_i h10
    have N11 : News s₁.heap L h10 ((It, oI) :: (Nm, listOf nvs.toArray n1) :: (Tx, listOf tvs.toArray n2) :: (Pl, listOf pvs.toArray n3) :: (Sh, listOf vS.toArray 0) :: (Pc, listOf vP.toArray 0) :: (L + 1 + 1 + 1 + 1, oj) :: (L + 1 + 1 + 1, oi) :: (L + 1 + 1, oP) :: (L + 1, osc) :: []) := newsDrop N10 (fun p hp => .tail _ (.tail _ hp))
    clear N10
    obtain ⟨mk, hmk, F12⟩ := frMk F11
    clear F11
    obtain ⟨hz1, hz2, hz3⟩ := runR_sizes ds
    have hkp : k < (runR ds).places.length := by omega
    have hkz : (runR ds).places.length ≤ 1000 := by omega
    have hnl : nvs.length = k := by have := hnv.length; omega
    refine ifJoin (fun s' => ∃ h' tk' t', s' = { s₁ with heap := h', toks := tk' } ∧ Fr s₁.heap L h' (fun y => if y = Str.ofString "x" then some (.int ((xAt (runR ds) d : Nat) : Int) t') else mk y) ∧ News s₁.heap L h' ((It, oI) :: (Nm, listOf nvs.toArray n1) :: (Tx, listOf tvs.toArray n2) :: (Pl, listOf pvs.toArray n3) :: (Sh, listOf vS.toArray 0) :: (Pc, listOf vP.toArray 0) :: (L + 1 + 1 + 1 + 1, oj) :: (L + 1 + 1 + 1, oi) :: (L + 1 + 1, oP) :: (L + 1, osc) :: [])) ?_ ?_
    · subst hmk
      try dsimp only at F12
      refine wpAny_If ?_
      walk_at "mine steps"
      · rename Fr _ _ _ _ => F13
        rename News _ _ _ _ => N13
        rename (d : Int) < 3 => c3
        rename (_ == Str.ofString "/") = true => cp
        obtain ⟨t14, F14⟩ := frDup3 (xAt_yes (hz1.trans hdl) c3 cp) F13
        exact ⟨rfl, _, _, t14, rfl, frDup F14, N13⟩
      · rename (_ == Str.ofString "/") = false => cp
        refine ⟨rfl, _, _, tX, rfl, ?_, N11⟩
        rw [xAt_no (hz1.trans hdl) cp]
        exact F12
      · rename ¬ (d : Int) < 3 => c3
        refine ⟨rfl, _, _, tX, rfl, ?_, N11⟩
        rw [xAt_big c3]
        exact F12
    · rintro s' ⟨h11, tk11, tX', rfl, F13, N13⟩
      subst hmk
      clear F12 N11
      have hX10 : xAt (runR ds) d < 10 := xAt_lt hd9
      generalize hX : xAt (runR ds) d = X at F13 hX10
      have hP1 : X < pieceL.length := hX10
      have hP2 : X < shownL.length := hX10
      have hP3 : pieceL.length ≤ 1000 := by decide
      have hP4 : shownL.length ≤ 1000 := by decide
      obtain ⟨hA1, hA2, hA3, hA4, hA5, hA6⟩ := ledgerOffs ll3 ll4.1 ll5.1 (hoff (Nm, listOf nvs.toArray n1) (by simp)) (hoff (Tx, listOf tvs.toArray n2) (by simp)) (hoff (Pl, listOf pvs.toArray n3) (by simp))
      have hpl := (piece_ok X hX10).2
      have hv1 : nvs.length ≤ 100000 := by omega
      have hv2 : tvs.length ≤ 100000 := by have := htv.length; omega
      have hv3 : pvs.length ≤ 100000 := by have := hpvs.length; omega
      obtain ⟨hn1, hn2⟩ := name_facts hX10 hki
      obtain ⟨-, -, hp3, hp4⟩ := path_facts hd10 (by omega)
      obtain ⟨hq1, hq2, hq3, hq4⟩ := path_facts (lt_ten hd10 hd9) (by simp; omega)
      rw [snoc_path hX (hz1.trans hdl)] at hq1 hq2 hq3 hq4
      have hpth := snoc_path hX (hz1.trans hdl)
      have hall := snoc_all hX (hz1.trans hdl)
      try dsimp only at F13
      try dsimp only
      by_cases h4 : (4 : Int) < (X : Int)
      · rw [name_big h4] at hn1 hn2 hq1 hq2 hq3 hq4 hall hpth
        walk_at "mine steps"
        rename Fr _ _ _ _ => F14
        rename News _ _ _ _ => N14
        exact RgPost.mk' _ F14 N14 (fun p hp => hp) (offMap hoff rfl) (RunJ.step hdl hd10 hd9 hnv htv hpvs hall.1 hall.2.1 hall.2.2 (by rw [hpth]; rfl) (fun z z1 z2 z3 => by simp only [if_neg z1, if_neg z2, if_neg z3]))
      · rw [name_small h4] at hn1 hn2 hq1 hq2 hq3 hq4 hall hpth
        walk_at "mine steps"
        rename Fr _ _ _ _ => F14
        rename News _ _ _ _ => N14
        exact RgPost.mk' _ F14 N14 (fun p hp => hp) (offMap hoff rfl) (RunJ.step hdl hd10 hd9 hnv htv hpvs hall.1 hall.2.1 hall.2.2 (by rw [hpth]; rfl) (fun z z1 z2 z3 => by simp only [if_neg z1, if_neg z2, if_neg z3]))
  · rintro m₁ nx h9 tk9 ⟨ds, nvs, tvs, pvs, n1, n2, n3, tp, hdl, hd10, rfl, hnv, htv, hpvs, hpath, hm1⟩ F9 N9
    have e9 : m₁ = (fun y => if y = Str.ofString "k" then m₁ (Str.ofString "k") else if y = Str.ofString "x" then m₁ (Str.ofString "x") else if y = Str.ofString "path" then m₁ (Str.ofString "path") else m0 y) := by
      funext y
      by_cases q1 : y = Str.ofString "k"
      · subst q1; rw [if_pos rfl]
      · by_cases q2 : y = Str.ofString "path"
        · by_cases q3 : y = Str.ofString "x"
          · rw [q2] at q3; exact absurd q3 (by decide +kernel)
          · rw [if_neg q1, if_neg q3, if_pos q2, q2]
        · by_cases q3 : y = Str.ofString "x"
          · subst q3; rw [if_neg q1, if_pos rfl]
          · rw [if_neg q1, if_neg q3, if_neg q2]; exact hm1 y q1 q3 q2
    rw [e9] at F9
    generalize m₁ (Str.ofString "x") = vx at F9
    generalize m₁ (Str.ofString "k") = vk at F9
    generalize m₁ (Str.ofString "path") = vp at F9
    clear e9 hm1 F2 N3 F0 Rq hpath
    subst hm0
    replace F9 : Fr s₁.heap L h9 _ := F9
    replace N9 : News s₁.heap L h9 _ := N9
    obtain ⟨hz1, hz2, hz3⟩ := runR_sizes ds
    rw [hdl] at hz1 hz2 hz3
    have hAB : AllBare s₁.gens := AllBare.of_eq hg
    try dsimp only at F9 N9
    try dsimp only
    have htx3 := texts_short hd10
    have hnm10 := names_short hd10 (by omega)
    have hplc := places_ok hd10 (by omega)
    walk_at "mine steps"
    refine callFree (taken_c htv (by omega) htx3 (nn := n2) (by simp) hAB (by k_asm) F9 (by k_asm) N9 (by k_asm) rfl (by constructor <;> first | ktr_room | ktr_units) ?_)
    intro h10 tk10 gn D9 ys9 nw9 hgn F10 N10 hsub9 hBB9
    obtain ⟨rows, hrows, hBR⟩ := BB.rows hBB9
    have N11 : News s₁.heap L h10 ((D9, LCg.lst ys9) :: (Nm, listOf nvs.toArray n1) :: (Tx, listOf tvs.toArray n2) :: (Pl, listOf pvs.toArray n3) :: (L + 1 + 1 + 1 + 1, oj) :: (L + 1 + 1 + 1, oi) :: (L + 1 + 1, oP) :: (L + 1, osc) :: rows) := by
      intro p hp
      simp only [List.mem_cons] at hp
      rcases hp with rfl | rfl | rfl | rfl | rfl | rfl | rfl | rfl | hp
      · exact N10 _ (.head _)
      · exact N10 _ (.tail _ (hsub9 _ (by simp)))
      · exact N10 _ (.tail _ (hsub9 _ (by simp)))
      · exact N10 _ (.tail _ (hsub9 _ (by simp)))
      · exact N10 _ (.tail _ (hsub9 _ (by simp)))
      · exact N10 _ (.tail _ (hsub9 _ (by simp)))
      · exact N10 _ (.tail _ (hsub9 _ (by simp)))
      · exact N10 _ (.tail _ (hsub9 _ (by simp)))
      · exact N10 _ (.tail _ (hrows p hp).1)
    have hrows2 : ∀ p ∈ rows, ∃ (vs : List Value) (n : Nat), p.2 = listOf vs.toArray n := fun p hp => (hrows p hp).2
    clear N10 hsub9 hBB9 hrows N9 F9
    try dsimp only
    walk_at "mine steps"
    rename Fr _ _ _ _ => Fa
    rename News _ _ _ _ => Na
    rename IsRange _ _ _ _ _ _ _ _ => Ra
    refine srcRange (n := 5) (· = gn) (fun i ys _ => (∀ y ∈ ys, ∃ (mm : Nat) (t : Tok), y = .int (mm : Int) t ∧ 1 ≤ mm ∧ mm ≤ 5) ∧ ys.length ≤ i) rfl Fa Na Ra (by decide +kernel) (by decide +kernel) (by omega) rfl ⟨fun _ h => (nomatch h), Nat.le_refl _⟩ ?_ ?_
    · intro g2
      refine turnsTest ?_
      rintro i v zs nw3 I2 oI2 C2 oC2 D2 m3 h6 tk6 gn6 E2 hP2 ⟨hsub3, hJ3, hJl⟩ hC2 hx2 F6 N6 off6 ne6 rfl
      obtain ⟨hi, ti, rfl⟩ := hP2
      have N5 := newsIns3 (b1 := (L + 1, osc)) (b2 := (L + 1, osc)) (b3 := (L + 1, osc)) (r := []) N6 (by
        intro p hp
        simp only [List.mem_cons, List.not_mem_nil, or_false, or_self] at hp
        subst hp
        exact hsub3 _ (by simp))
      clear N6 Fa Na Ra
      have hi5 : i = 0 ∨ i = 1 ∨ i = 2 ∨ i = 3 ∨ i = 4 := by omega
      try dsimp only
      walk_at "mine steps"
      · rename Fr _ _ _ _ => F5
        rename News _ _ _ _ => N5
        refine TurnEnd.mk' nw3 rfl F5 N5 ?_ off6 ⟨hsub3, ?_, ?_⟩
        · intro p hp
          simp only [List.mem_cons] at hp ⊢
          rcases hp with h | h | h | h <;> simp [h]
        · intro y hy
          rcases List.mem_append.mp hy with hy | hy
          · exact hJ3 y hy
          · rw [List.mem_singleton.mp hy]
            exact ⟨1 + i, ti, by push_cast; rfl, by omega, by omega⟩
        · rw [List.length_append, List.length_singleton]; omega
      · rename Fr _ _ _ _ => F5
        rename News _ _ _ _ => N5
        refine TurnEnd.mk' nw3 rfl F5 N5 ?_ off6 ⟨hsub3, hJ3, by omega⟩
        · intro p hp
          simp only [List.mem_cons] at hp ⊢
          rcases hp with h | h | h | h <;> simp [h]
    · rintro g2 gn2 zs nw3 rfl hl3 hsub3 ⟨hzs, hzl⟩
      intro D10 h11 tk11 F11 N11 o11
      replace F11 : Fr s₁.heap L h11 _ := F11
      have N12 : News s₁.heap L h11 ((L + 1 + 1 + 1, oi) :: (L + 1 + 1 + 1 + 1, oj) :: (D10, listOf zs.toArray zs.length) :: (D9, listOf ys9.toArray ys9.length) :: (Nm, listOf nvs.toArray n1) :: (Tx, listOf tvs.toArray n2) :: (Pl, listOf pvs.toArray n3) :: (L + 1 + 1, oP) :: (L + 1, osc) :: rows) := by
        intro p hp
        simp only [List.mem_cons] at hp
        rcases hp with rfl | rfl | rfl | rfl | rfl | rfl | rfl | rfl | rfl | hp
        · exact N11 _ (.tail _ (hsub3 _ (by simp)))
        · exact N11 _ (.tail _ (hsub3 _ (by simp)))
        · exact N11 _ (.head _)
        · exact N11 _ (.tail _ (hsub3 _ (.head _)))
        · exact N11 _ (.tail _ (hsub3 _ (by simp)))
        · exact N11 _ (.tail _ (hsub3 _ (by simp)))
        · exact N11 _ (.tail _ (hsub3 _ (by simp)))
        · exact N11 _ (.tail _ (hsub3 _ (by simp)))
        · exact N11 _ (.tail _ (hsub3 _ (by simp)))
        · exact N11 _ (.tail _ (hsub3 _ (by simp [hp])))
      clear N11 Fa Na Ra o11 hsub3
      try dsimp only at F11
      try dsimp only
      walk_at "mine steps"
      rename Fr _ _ _ _ => Fa
      rename News _ _ _ _ => Na
      rename IsRange _ _ _ _ _ _ _ _ => Ra
      obtain ⟨m0, hm0, F0⟩ := frMap Fa
      have offI := wOffs Na di (by omega) (by omega) hrows2
      have offJ := wOffs (newsSwap Na) dj (by omega) (by omega) hrows2
      obtain ⟨W3, hW3⟩ : ∃ W3, W3 = (D10, listOf zs.toArray zs.length) :: (D9, listOf ys9.toArray ys9.length) :: (Nm, listOf nvs.toArray n1) :: (Tx, listOf tvs.toArray n2) :: (Pl, listOf pvs.toArray n3) :: (L + 1 + 1, oP) :: (L + 1, osc) :: rows := ⟨_, rfl⟩
      rw [← hW3] at Na offI offJ
      refine ⟨_, 0, 7, _, _, _, 7, m0, oi, none, _, fun i m nx => ∃ oj' v, oj'.data = .cell v ∧ nx = (L + 1 + 1 + 1 + 1, oj') :: W3 ∧ ∀ z, z ≠ Str.ofString "some" → m z = m0 z, rfl, rfl, F0, di, Na, ?_, Ra, by decide +kernel, by decide +kernel, ⟨oj, none, dj, rfl, fun _ _ => rfl⟩, ?_, ?_⟩
      · intro p hp
        rcases List.mem_cons.mp hp with rfl | hp
        · exact (show (@Ne Nat (L + 1 + 1 + 1 + 1) (L + 1 + 1 + 1)) by omega)
        · exact offI p hp
      · clear Na Fa F0 Ra
        rintro i m₁ nx h12 tk12 It oI oK t1 hi7 ⟨oj', vj, dj', rfl, hm1⟩ hoff hKI dK F12 N12
        replace F12 : Fr s₁.heap L h12 _ := F12
        replace N12 : News s₁.heap L h12 _ := N12
        rw [Int.zero_add] at dK
        have e9 : m₁ = (fun y => if y = Str.ofString "some" then m₁ (Str.ofString "some") else m0 y) := by
          funext y
          by_cases q1 : y = Str.ofString "some"
          · rw [if_pos q1, q1]
          · rw [if_neg q1]; exact hm1 y q1
        rw [e9] at F12
        generalize m₁ (Str.ofString "some") = vsm at F12
        clear e9 hm1
        have hm0' := hm0
        subst hm0
        try dsimp only at F12
        try dsimp only
        walk_at "mine steps"
        rename Fr _ _ _ _ => Fb
        rename News _ _ _ _ => Nb
        rename IsRange _ _ _ _ _ _ _ _ => Rb
        obtain ⟨m4, hm4, F4⟩ := frMap Fb
        refine ⟨_, (i : Int), 7, _, _, _, 7 - i, m4, oj', vj, (It, oI) :: (L + 1 + 1 + 1, oK) :: W3, fun d m nx => nx = (It, oI) :: (L + 1 + 1 + 1, oK) :: W3 ∧ ∀ z, z ≠ Str.ofString "some" → m z = m4 z, rfl, rfl, F4, dj', newsDrop Nb ?_, ?_, Rb, smallR (by omega) (by omega) (by omega) (by omega), ?_, ⟨rfl, fun _ _ => rfl⟩, ?_, ?_⟩
        · intro p hp
          simp only [List.mem_cons] at hp ⊢
          rcases hp with h | h | h | h <;> simp [h]
        · intro p hp
          rcases List.mem_cons.mp hp with rfl | hp
          · exact Ne.symm (hoff _ (.head _)).1
          rcases List.mem_cons.mp hp with rfl | hp
          · exact (show (@Ne Nat (L + 1 + 1 + 1) (L + 1 + 1 + 1 + 1)) by omega)
          · exact offJ p hp
        · rw [PyProof.Rows.rangeSize_nat]; omega
        · rintro d m₂ nx h13 tk13 It2 oI2 oJ t2 hd ⟨rfl, hm2⟩ hoff2 hKI2 dJ F13 N13
          clear Fb F4 Rb Nb
          replace F13 : Fr s₁.heap L h13 _ := F13
          replace N13 : News s₁.heap L h13 _ := N13
          have ej : ((i : Int) + (d : Int)) = ((i + d : Nat) : Int) := by push_cast; rfl
          rw [ej] at dJ
          have e9 : m₂ = (fun y => if y = Str.ofString "some" then m₂ (Str.ofString "some") else m4 y) := by
            funext y
            by_cases q1 : y = Str.ofString "some"
            · rw [if_pos q1, q1]
            · rw [if_neg q1]; exact hm2 y q1
          rw [e9] at F13
          generalize m₂ (Str.ofString "some") = vs2 at F13
          clear e9 hm2
          subst hm4
          rw [hW3] at N13
          try dsimp only at F13
          try dsimp only
          walk_at "mine steps"
          rename Fr _ _ _ _ => Fc
          rename News _ _ _ _ => Nc
          have hzz : zs.length ≤ 100000 := by omega
          refine srcList (ax := D10) (vs := zs) (nn := zs.length) (· = gn2) (fun q ys _ => ∃ l, StrsAre ys l ∧ (∀ y ∈ l, ∃ mm, i < mm ∧ mm < i + d ∧ (runR ds).places[mm]? = some y) ∧ ys.length ≤ q) rfl Fc Nc (by simp) hzz rfl ⟨[], .nil, fun _ h => (nomatch h), Nat.le_refl _⟩ ?_ ?_
          · intro g3
            refine turnsTest ?_
            rintro q v ys nw4 I3 oI3 C3 oC3 D3 m5 h14 tk14 gn14 E3 hP3 ⟨hsub4, l, hl1, hl2, hl4⟩ hC3 hx3 F14 N14 off4 ne4 rfl
            obtain ⟨mm, tm, rfl, hm1, hm5⟩ := hzs v (List.mem_of_getElem? hP3)
            have hml : mm < (runR ds).places.length := by omega
            have hzl3 : (runR ds).places.length ≤ 1000 := by omega
            have N15 := newsAdd (base := [(L + 1 + 1 + 1 + 1, oJ), (L + 1 + 1 + 1, oK), (L + 1 + 1, oP), (Pl, listOf pvs.toArray n3)]) N14 (by
              intro p hp
              simp only [List.mem_cons, List.not_mem_nil, or_false] at hp
              rcases hp with rfl | rfl | rfl | rfl
              · exact .tail _ (.tail _ (.tail _ (hsub4 _ (by simp))))
              · exact .tail _ (.tail _ (.tail _ (hsub4 _ (by simp))))
              · exact .tail _ (.tail _ (.tail _ (hsub4 _ (by simp))))
              · exact .tail _ (.tail _ (.tail _ (hsub4 _ (by simp)))))
            simp only [List.cons_append, List.nil_append] at N15
            clear N14 Fc Nc
            try dsimp only
            walk_at "mine steps"
            · rename Fr _ _ _ _ => F15
              rename News _ _ _ _ => N15
              refine TurnEnd.mk' nw4 rfl F15 N15 ?_ off4 ⟨hsub4, l ++ [((runR ds).places[mm]?).getD (Str.ofString "")], PyProof.Rows.strsAre_append hl1 (StrsAre.cons _ _ StrsAre.nil), ?_, ?_⟩
              · intro p hp
                simp only [List.mem_cons] at hp ⊢
                rcases hp with h | h | h | h <;> simp [h]
              · intro y hy
                rcases List.mem_append.mp hy with hy | hy
                · exact hl2 y hy
                · rw [List.mem_singleton.mp hy]
                  exact ⟨mm, by omega, by omega, getD_at hml⟩
              · rw [List.length_append, List.length_singleton]; omega
            · rename Fr _ _ _ _ => F15
              rename News _ _ _ _ => N15
              refine TurnEnd.mk' nw4 rfl F15 N15 ?_ off4 ⟨hsub4, l, hl1, hl2, by omega⟩
              intro p hp
              simp only [List.mem_cons] at hp ⊢
              rcases hp with h | h | h | h <;> simp [h]
            · rename Fr _ _ _ _ => F15
              rename News _ _ _ _ => N15
              refine TurnEnd.mk' nw4 rfl F15 N15 ?_ off4 ⟨hsub4, l, hl1, hl2, by omega⟩
              intro p hp
              simp only [List.mem_cons] at hp ⊢
              rcases hp with h | h | h | h <;> simp [h]
          · rintro g3 gn3 ys nw4 rfl hl4 hsub4 ⟨l, hl1, hl2, hl5⟩
            intro D12 h14 tk14 F14 N14 o14
            replace F14 : Fr s₁.heap L h14 _ := F14
            have N15 : News s₁.heap L h14 ((D12, listOf ys.toArray ys.length) :: (It2, oI2) :: (L + 1 + 1 + 1 + 1, oJ) :: (It, oI) :: (L + 1 + 1 + 1, oK) :: (D10, listOf zs.toArray zs.length) :: (D9, listOf ys9.toArray ys9.length) :: (Nm, listOf nvs.toArray n1) :: (Tx, listOf tvs.toArray n2) :: (Pl, listOf pvs.toArray n3) :: (L + 1 + 1, oP) :: (L + 1, osc) :: rows) := by
              intro p hp
              rcases List.mem_cons.mp hp with rfl | hp
              · exact N14 _ (.head _)
              · exact N14 _ (.tail _ (hsub4 p hp))
            clear N14 Fc Nc hsub4 o14
            have hil : i < (runR ds).places.length := by omega
            have hjl : i + d < (runR ds).places.length := by omega
            have hzl3 : (runR ds).places.length ≤ 1000 := by omega
            have hys5 : ys.length ≤ 1000 := by omega
            try dsimp only at F14
            try dsimp only
            walk_at "mine steps"
            rename Fr _ _ _ _ => F16
            rename News _ _ _ _ => N16
            rename_i tA tB lA hA FA NA llA hB ltB
            clear FA NA
            have hlast := fun (s1 s2 : List Str) => @law_common ds hd10 hdl i (i + d) (by omega) (by omega) l hl2 s1 s2
            have hst : ∀ y ∈ ((runR ds).places[i + d]?).getD (Str.ofString "") :: ((runR ds).places[i]?).getD (Str.ofString "") :: l, Txt.startswith y (Str.ofString "/") = true ∧ y.length ≤ 1000 := by
              intro y hy
              rcases List.mem_cons.mp hy with rfl | hy
              · exact hplc _ (List.mem_of_getElem? (getD_at hjl))
              rcases List.mem_cons.mp hy with rfl | hy
              · exact hplc _ (List.mem_of_getElem? (getD_at hil))
              · obtain ⟨mm, _, _, hmm⟩ := hl2 y hy
                exact hplc y (List.mem_of_getElem? hmm)
            refine callFree (commonpath_c (vr := Value.str (((runR ds).places[i]?).getD (Str.ofString "")) tB :: ys) (nn := 0) (StrsAre.cons _ _ (StrsAre.cons _ _ hl1)) ⟨by simp only [List.length_cons]; omega⟩ (by simp only [List.length_cons]; omega) (.head _) hst (by k_asm) F16 (by k_asm) N16 (by k_asm) rfl (by constructor <;> first | ktr_room | ktr_units) ?_)
            intro h17 tk17 t17 s1 s2 hs1 hs2 hs3 hs4 F17 N17
            rw [hlast s1 s2 hs1 hs2 hs3 hs4]
            clear hlast hst hs1 hs2 hs3 hs4 F16 N16 ltB llA
            have hne : (stillS (runR ds).names (runR ds).texts (takenS (runR ds).texts) i (i + d) != stillS (runR ds).names (runR ds).texts (takenS (runR ds).texts) i (i + d)) = false := by simp
            have hysl : ys9.length = 7 := by rw [hBR.length]; simp [takenS, hz2]
            obtain ⟨vk9, hvk9⟩ : ∃ v, ys9[i]? = some v := ⟨ys9[i]'(by omega), List.getElem?_eq_getElem (by omega)⟩
            obtain ⟨ak, bs, nk, rfl, hmk, hbk⟩ := hBR.at hvk9
            have hbs : bs = takenRow (runR ds).texts i := Option.some.inj (hbk.symm.trans (takenS_at (by omega)))
            have hbd : (bs.map Value.bool)[d]? = some (.bool (((runR ds).places[i]?).getD (Str.ofString "") == ((runR ds).places[i + d]?).getD (Str.ofString ""))) := by
              rw [hbs, List.getElem?_map, law_taken hd10 hdl (by omega)]; rfl
            have hbl : (bs.map Value.bool).length ≤ 100000 := by rw [hbs, List.length_map, takenRow_len]; omega
            have hyl : ys9.length ≤ 100000 := by omega
            have N18 : News s₁.heap L h17 ((ak, listOf (bs.map Value.bool).toArray nk) :: (It2, oI2) :: (L + 1 + 1 + 1 + 1, oJ) :: (It, oI) :: (L + 1 + 1 + 1, oK) :: (D10, listOf zs.toArray zs.length) :: (D9, listOf ys9.toArray ys9.length) :: (Nm, listOf nvs.toArray n1) :: (Tx, listOf tvs.toArray n2) :: (Pl, listOf pvs.toArray n3) :: (L + 1 + 1, oP) :: (L + 1, osc) :: rows) := by
              intro p hp
              rcases List.mem_cons.mp hp with rfl | hp
              · exact N17 _ (by simp [hmk])
              · exact N17 _ (.tail _ (.tail _ (.tail _ hp)))
            clear N17
            try dsimp only
            walk_at "mine steps"
            refine callFree (still_c hnv htv hz1 hz2 hnm10 htx3 (n1 := n1) (n2 := n2) (n3 := ys9.length) (by simp) (by simp) (by simp) (hBR.mono (fun p hp => by simp [hp])) (Nat.le_add_right i d) (by omega) (by k_asm) F17 (by k_asm) N18 (by k_asm) rfl (by constructor <;> first | ktr_room | ktr_units) ?_)
            intro h18 tk18 t18 F18 N19
            clear F17 N18
            try dsimp only
            walk_at "mine steps"
            · exact (bne_bad (by assumption)).elim
            · rename Fr _ _ _ _ => F20
              rename News _ _ _ _ => N20
              exact RgPostC.mk' ((It, oI) :: (L + 1 + 1 + 1, oK) :: W3) F20 N20 (fun p hp => by rw [hW3] at hp; exact .tail _ hp) hoff2 ⟨rfl, fun z z1 => by simp only [if_neg z1]⟩
        · rintro m₁ nx h13 tk13 oJ vJ ⟨rfl, hm2⟩ F13 dJ off13 N13
          clear Fb F4 Rb Nb
          try dsimp only
          walk_at "mine steps"
          refine RgPostC.mk' ((L + 1 + 1 + 1 + 1, oJ) :: W3) F13 N13 ?_ ?_ ⟨oJ, vJ, dJ, rfl, fun z z1 => (hm2 z z1).trans ?_⟩
          · intro p hp
            simp only [List.mem_cons] at hp ⊢
            rcases hp with h | h | h | h <;> simp [h]
          · intro p hp
            rcases List.mem_cons.mp hp with rfl | hp
            · exact hoff (_, oj') (.head _)
            · exact hoff p (.tail _ hp)
          · rw [hm4]; simp only [if_neg z1]
      · clear Na Fa Ra
        rintro m₁ nx h12 tk12 oK vK ⟨oj', vj, dj', rfl, hm1⟩ F12 dK off12 N12
        try dsimp only
        walk_at "mine steps"
        show GoodWG _ _ _ _ _ (.ok (.ret (.bool true))) _
        refine ⟨.inl ⟨_, _, [], rfl, ?_, ReadsW.bool true, ?_, fun _ => ⟨List.nodup_nil, fun _ hm => (nomatch hm)⟩⟩, OldK.of_keep F12.keep, rfl, hgn⟩
        · first | exact fun _ => rfl | exact raisesW_false (by wrow_none_raised)
        · first | rfl | wrow_post)
end
end
end Mine
theorem PySem.Challenge.cw_pd0147_01_holds : PySem.Challenge.rw_pd0147_01.Holds := by
  exact Mine.top
