import PyProof.Rows.All
import Wide.All
import OpenK.AllK
import Wide.FinOn
import PySem.Challenge.RW_wb0031_01

open PySem PySem.W PyProof.Rows PySem.Calls
set_option Elab.async false
set_option maxRecDepth 100000
set_option maxHeartbeats 8000000
namespace Mine
noncomputable abbrev PR0 : Program := PySem.Challenge.rw_wb0031_01.row.prog
/-- some of a text's statements -/
noncomputable def pick (is : List Nat) (l : List Stmt) : List Stmt := is.filterMap fun i => l[i]?
/-- the text's defs -/
noncomputable def hd.view_39 : Program := { PR0 with main := { PR0.main with body := pick [1, 2, 3, 4, 6, 8, 9, 10, 12, 13, 14, 15, 16, 17, 18, 19] PR0.main.body } }
/-- the object that a def's statement makes -/
noncomputable def fnO (c : Addr) (pm : Value) : Option Stmt → Obj
  | some (.FunctionDef n ps b _ _ _ sc _ _ _) => ⟨.type "function", none, .func { name := n, qualname := n, params := ps, body := .stmts b, scope := sc, globals := 3, closure := [], defaults := .none, kwdefaults := .none, pyModule := pm, code := .ref c }, #[]⟩
  | _ => ⟨.none, none, .plain, #[]⟩
/-- the object of a def's code -/
noncomputable def coO (n : String) (t : Nat) (l a f : Int) (r : Addr) (x y : Value) (z : Addr) (u : Nat) : Obj :=
  ⟨.type "code", none, .fields #[.str (Str.ofString n) t, .str (Str.ofString n) (t + 1), .str (Str.ofString "/claim/cut.py") (t + 2), .int l 0, .int a 0, .int 0 0, .int 0 0, .int f 0, .ref r, .bool true, .int 181 0, .ref (r + 1), .none, x, y, .ref z,
    .int (Int.ofNat u) 0, .int l 0, .str (Str.ofString "/claim/cut.py") (u + 1)], #[]⟩
noncomputable def en (P : Params) (n : String) (t : Tok) (v : Value) : DictEntry := ⟨PyData.keyHash P (Str.ofString n), .str (Str.ofString n) t, v⟩
noncomputable def hd.heap_39 : Params → Frag := fun P =>
  (nat_lit 3, ⟨.type "dict", none, .dict #[
    en P "__name__" 165 (.str (Str.ofString "law_wb0031_01") 262), en P "__doc__" 166 (.none), en P "__package__" 167 (.none), en P "__loader__" 168 (.builtin "__main__.__loader__#opaque"), en P "__spec__" 169 (.none), en P "__annotations__" 170 (.ref 6), en P "__builtins__" 171 (.ref 4), en P "__file__" 173 (.str (Str.ofString "/claim/cut.py") 172), en P "__cached__" 174 (.none), en P "_raise_serialization_error" 195 (.ref 21), en P "_escape_cdata" 202 (.ref 28), en P "_escape_attrib" 209 (.ref 35), en P "_escape_cdata_c14n" 216 (.ref 42), en P "_parse_varint" 227 (.ref 49), en P "_iter_escaped_chars" 239 (.ref 56), en P "_strip_quoted_realnames" 251 (.ref 63), en P "_check_parenthesis" 261 (.ref 70), en P "_law_papers" 269 (.ref 75), en P "_law_read" 278 (.ref 82), en P "_law_told" 284 (.ref 87), en P "_law_nest" 290 (.ref 92), en P "_law_pile" 305 (.ref 99), en P "_law_closes" 317 (.ref 106), en P "_law_least" 323 (.ref 111), en P "law" 329 (.ref 116)] 25, #[]⟩) ::
   (nat_lit 20, coO "_raise_serialization_error" 189 2 1 3 15 (.ref 17) (.ref 18) 19 193) ::
   (nat_lit 21, fnO 20 (.str (Str.ofString "cpy313.xml.etree.ElementTree") 187) (PR0.main.body[1]?)) ::
   (nat_lit 27, coO "_escape_cdata" 196 4 1 3 22 (.ref 24) (.ref 25) 26 200) ::
   (nat_lit 28, fnO 27 (.str (Str.ofString "cpy313.xml.etree.ElementTree") 187) (PR0.main.body[2]?)) ::
   (nat_lit 34, coO "_escape_attrib" 203 15 1 3 29 (.ref 31) (.ref 32) 33 207) ::
   (nat_lit 35, fnO 34 (.str (Str.ofString "cpy313.xml.etree.ElementTree") 187) (PR0.main.body[3]?)) ::
   (nat_lit 41, coO "_escape_cdata_c14n" 210 34 1 3 36 (.ref 38) (.ref 39) 40 214) ::
   (nat_lit 42, fnO 41 (.str (Str.ofString "cpy313.xml.etree.ElementTree") 187) (PR0.main.body[4]?)) ::
   (nat_lit 48, coO "_parse_varint" 219 48 1 3 43 (.ref 45) (.ref 46) 47 225) ::
   (nat_lit 49, fnO 48 (.str (Str.ofString "cpy313.dis") 217) (PR0.main.body[6]?)) ::
   (nat_lit 55, coO "_iter_escaped_chars" 230 57 1 35 50 (.ref 52) (.ref 53) 54 237) ::
   (nat_lit 56, fnO 55 (.str (Str.ofString "cpy313.email.utils") 228) (PR0.main.body[8]?)) ::
   (nat_lit 62, coO "_strip_quoted_realnames" 240 70 1 3 57 (.ref 59) (.ref 60) 61 249) ::
   (nat_lit 63, fnO 62 (.str (Str.ofString "cpy313.email.utils") 228) (PR0.main.body[9]?)) ::
   (nat_lit 69, coO "_check_parenthesis" 252 88 1 3 64 (.ref 66) (.ref 67) 68 259) ::
   (nat_lit 70, fnO 69 (.str (Str.ofString "cpy313.email.utils") 228) (PR0.main.body[10]?)) ::
   (nat_lit 74, coO "_law_papers" 264 100 1 3 71 (.none) (.none) 73 267) ::
   (nat_lit 75, fnO 74 (.str (Str.ofString "law_wb0031_01") 262) (PR0.main.body[12]?)) ::
   (nat_lit 81, coO "_law_read" 270 107 1 3 76 (.ref 78) (.ref 79) 80 276) ::
   (nat_lit 82, fnO 81 (.str (Str.ofString "law_wb0031_01") 262) (PR0.main.body[13]?)) ::
   (nat_lit 86, coO "_law_told" 279 115 2 3 83 (.none) (.none) 85 282) ::
   (nat_lit 87, fnO 86 (.str (Str.ofString "law_wb0031_01") 262) (PR0.main.body[14]?)) ::
   (nat_lit 91, coO "_law_nest" 285 140 1 3 88 (.none) (.none) 90 288) ::
   (nat_lit 92, fnO 91 (.str (Str.ofString "law_wb0031_01") 262) (PR0.main.body[15]?)) ::
   (nat_lit 98, coO "_law_pile" 291 153 2 3 93 (.ref 95) (.ref 96) 97 303) ::
   (nat_lit 99, fnO 98 (.str (Str.ofString "law_wb0031_01") 262) (PR0.main.body[16]?)) ::
   (nat_lit 105, coO "_law_closes" 306 164 2 3 100 (.ref 102) (.ref 103) 104 315) ::
   (nat_lit 106, fnO 105 (.str (Str.ofString "law_wb0031_01") 262) (PR0.main.body[17]?)) ::
   (nat_lit 110, coO "_law_least" 318 171 1 3 107 (.none) (.none) 109 321) ::
   (nat_lit 111, fnO 110 (.str (Str.ofString "law_wb0031_01") 262) (PR0.main.body[18]?)) ::
   (nat_lit 115, coO "law" 324 175 1 3 112 (.none) (.none) 114 327) ::
   (nat_lit 116, fnO 115 (.str (Str.ofString "law_wb0031_01") 262) (PR0.main.body[19]?)) :: []

noncomputable def adrs : List Addr := [3, 20, 21, 27, 28, 34, 35, 41, 42, 48, 49, 55, 56, 62, 63, 69, 70, 74, 75, 81, 82, 86, 87, 91, 92, 98, 99, 105, 106, 110, 111, 115, 116]
noncomputable abbrev HK : Hook := kHook hd.heap_39 adrs (fun _ => rfl)
noncomputable abbrev xt (s : Shared) : Bool := xlAt hd.view_39 [] s && recOk (RowW.records PySem.Challenge.rw_wb0031_01.row.toRowW) s
theorem top_left : LeftO PR0 hd.view_39 [] xt HK.obs HK.val 1152 := by
  intro w
  kernel_rfl
theorem well_said : OpenLaw.wellSaid PySem.Challenge.rw_wb0031_01 = true := by
  kernel_rfl
/-- the def of the law -/
noncomputable def lawD : Option Stmt → DefRec
  | some (.FunctionDef n ps b _ _ _ sc _ _ p) => ⟨n, ps, b, sc, p⟩
  | _ => ⟨Str.ofString "", ⟨[], [], none, [], [], none, []⟩, [], ⟨.function, [], false, false, []⟩, ⟨0, 0, 0, 0⟩⟩
theorem hd {n : Str} {ps : Arguments} {b : List Stmt} {sc : Scope} {p : Pos} (e : lawD PR0.main.body[19]? = ⟨n, ps, b, sc, p⟩) (h : WalkO hd.view_39 [] (XL hd.view_39 []) HK.says PySem.Challenge.rw_wb0031_01.row.toRowW ⟨n, ps, b, sc, p⟩ [] fun f vs => PySem.call f vs) : PySem.Challenge.rw_wb0031_01.Holds := by
  rw [← e] at h
  refine holds_law well_said fun said => ?_
  refine holds_open (q := hd.view_39) (loose := []) (Xt := xt) (XP := XL hd.view_39 []) (Yf := HK.obs) (Ya := HK.val) (YP := HK.says) (N := 1152) top_left HK.of HK.keeps (fun s e => xl_of s (Bool.and_eq_true_iff.mp e).1) XL.keeps (by rfl) (by rfl) (by rfl) (fun s e => recFacts_of (Bool.and_eq_true_iff.mp e).2) (by rfl) said (by decide +kernel) ⟨rfl, rfl, rfl, rfl, rfl, by decide +kernel⟩ ?hw h
  w_witness2
open PySem PySem.W PyProof.Rows PySem.Calls PySem.Spec

set_option autoImplicit false
section
variable {M : Model} {A : Around} {α β : Type} {st : Stmt} {rest : List Stmt} {env : Env} {s : Shared}
/-- what a statement may end in, said by letters: the rest of the text stands in one place only -/
structure Nx (M : Model) (A : Around) (rest : List Stmt) (env : Env) (Q Q' : Flow → Shared → Prop) (E E' : Value → Shared → Prop) : Prop where
  go : ∀ {s' : Shared}, wpAny M A (execs rest env) Q E s' → Q' .next s'
  ret : ∀ {v : Value} {s' : Shared}, Q (.ret v) s' → Q' (.ret v) s'
  brk : ∀ {s' : Shared}, Q .brk s' → Q' .brk s'
  cont : ∀ {s' : Shared}, Q .cont s' → Q' .cont s'
  exc : ∀ {v : Value} {s' : Shared}, E v s' → E' v s'
theorem execs_gen {Q : Flow → Shared → Prop} {E : Value → Shared → Prop} (h : ∀ Q' E', Nx M A rest env Q Q' E E' → wpAny M A (exec st env) Q' E' s) : wpAny M A (execs (st :: rest) env) Q E s :=
  wpAny_execs_cons (h _ _ ⟨fun h => h, fun h => h, fun h => h, fun h => h, fun h => h⟩)
theorem execs_genT {Q : Flow → Shared → Prop} {E : Value → Shared → Prop} {h : Heap} {g : Array GenState} {d : Drawn} {tk : Nat} {os : OsState}
    (hw : ∀ Q' E' (n : Nat), tk ≤ n → Nx M A rest env Q Q' E E' → wpAny M A (exec st env) Q' E' ⟨h, g, d, n, os⟩) : wpAny M A (execs (st :: rest) env) Q E ⟨h, g, d, tk, os⟩ :=
  wpAny_execs_cons (hw _ _ _ (Nat.le_refl _) ⟨fun h => h, fun h => h, fun h => h, fun h => h, fun h => h⟩)
theorem gen_post {t : Sem α} {Q : α → Shared → Prop} {E : Value → Shared → Prop} (h : ∀ Q' E', (∀ {a : α} {s' : Shared}, Q a s' → Q' a s') → wpAny M A t Q' E' s) : wpAny M A t Q E s := h Q E fun h => h
theorem gen_post2 {t : Sem α} {u : α → Sem β} {Q : β → Shared → Prop} {E1 E2 : Value → Shared → Prop}
    (h : ∀ Q' E1' E2', (∀ {a : β} {s' : Shared}, Q a s' → Q' a s') → wpAny M A t (fun x s₂ => wpAny M A (u x) Q' E1' s₂) E2' s) : wpAny M A t (fun x s₂ => wpAny M A (u x) Q E1 s₂) E2 s := h Q E1 E2 fun h => h
variable {prog : Program} {w : World}
/-- a while loop; what a turn ends in is said by letters -/
theorem while_gen {test : Expr} {body orelse : List Stmt} {pos : Pos} {Q : Flow → Shared → Prop} {E : Value → Shared → Prop} (I : Nat → Shared → Prop) (n : Nat) (h : I n s)
    (turn : ∀ (n : Nat) (s' : Shared), I n s' → ∀ (Qb Qe : Flow → Shared → Prop) (E1 E2 E3 : Value → Shared → Prop), (∀ {m : Nat} {s₃ : Shared}, m < n → I m s₃ → Qb .next s₃) → (∀ {s₃ : Shared}, Q .next s₃ → Qb .brk s₃) →
      (∀ {v : Value} {s₃ : Shared}, Q (.ret v) s₃ → Qb (.ret v) s₃) → (∀ {f : Flow} {s₃ : Shared}, Q f s₃ → Qe f s₃) →
      wpAny (model prog w) A (isTrue test env (eval test env)) (fun b s₂ => if b then wpAny (model prog w) A (execs body env) Qb E1 s₂ else wpAny (model prog w) A (execs orelse env) Qe E2 s₂) E3 s') :
    wpAny (model prog w) A (exec (.While test body orelse pos) env) Q E s := by
  refine wpAny_While (codeAny_whileLoop I (fun n s' hI => ?_) n h)
  exact turn n s' hI _ _ _ _ _ (fun hm hI' => ⟨_, hm, hI'⟩) (fun h => h) (fun h => h) (fun h => h)
end
local macro_rules | `(tactic| walk_at "my tok") => `(tactic| first | assumption | (dsimp only; omega) | omega)
local macro_rules | `(tactic| walk_at "my entered") => `(tactic| ((case k6 => k_is); (case k7 => k_is); (case k9 => exact BindsTo.of_eq rfl); (case kB => exact locs rfl); (case c2 => rfl); (case c3 => rfl); (case c4 => rfl); (case c5 => decide)))
local macro_rules | `(tactic| walk_at "my stop") => `(tactic| first
  | (with_reducible show wpAny _ _ (exec (Stmt.While _ _ _ _) _) _ _ _)
  | (with_reducible show wpAny _ _ (exec (Stmt.For _ _ _ _ _) _) _ _ _)
  | (with_reducible show wpAny _ _ (exec (Stmt.Try _ _ _ _ _) _) _ _ _)
  | (with_reducible show wpAny _ _ (eval (Expr.ListComp _ _ _ _) _) _ _ _)
  | (with_reducible show wpAny _ _ (call (Value.ref _) _ _) _ _ _))
set_option hygiene false in
local macro_rules | `(tactic| walk_at "my cons") => `(tactic| ((with_reducible refine execs_gen ?_); intro Qn En Xn))
set_option hygiene false in
local macro_rules | `(tactic| walk_at "my next") => `(tactic| ((first | (with_reducible refine Nx.go Xn ?_) | (with_reducible refine Nx.ret Xn ?_) | (with_reducible refine Nx.brk Xn ?_) | (with_reducible refine Nx.cont Xn ?_)); (try clear Xn); (try clear Qn En)))
local macro_rules | `(tactic| walk_at "my hop") => `(tactic| repeat' (first | walk_at "my next" | walk_at "my cons" | (with_reducible refine wpAny_execs_nil ?_) | (dsimp only; first | walk_at "my next" | walk_at "my cons" | (with_reducible refine wpAny_execs_nil ?_))))
local macro_rules | `(tactic| walk_at "my steps") => `(tactic| repeat' (first | walk_at "my next" | walk_at "my cons" | ((with_reducible show wpAny _ _ _ _ _ _); (fail_if_success (walk_at "my stop")); (try dsimp only); walk1) | fail))

section
local macro_rules | `(tactic| omega) => `(tactic| lia)

section
open PySem PySem.W PyProof.Rows PySem.Calls PySem.Spec
set_option Elab.async false
set_option maxRecDepth 100000
set_option maxHeartbeats 8000000
noncomputable abbrev PR : Program := PySem.Challenge.rw_wb0031_01.row.prog
noncomputable abbrev TP (mean : ExcName → Option Value) (mg mb : Str → Option Value) (h : Heap) : Prop := Top hd.view_39 (looseW hd.view_39 []) mean mg mb h

/-- the ground below a frame -/
structure Gr (w : World) (mean : ExcName → Option Value) (mg mb : Str → Option Value) (A : Around) (base : Heap) (outer : List Env) (h₀ : Heap) : Prop where
  B : Below A base outer h₀
  X : (hd.heap_39 w.params).In h₀
  T : TP mean mg mb h₀
  XB : (hd.heap_39 w.params).In base
  TB : TP mean mg mb base
  D : KtsDicts (outer.filterMap (·.frame)) h₀

/-- a place from which a def of the text may be called -/
structure At (w : World) (A : Around) (n u : Nat) (s : Shared) : Prop where
  ex : ∃ (mean : ExcName → Option Value) (mg mb : Str → Option Value) (A₀ : Around) (env : Env) (outer : List Env) (base h₀ : Heap) (L : Addr) (m : Str → Option Value),
    A.frames = some (env :: outer) ∧ env.frame = some L ∧ env.scope.kind = .function ∧ Gr w mean mg mb A₀ base outer h₀ ∧ Fr h₀ L s.heap m
  hnd : A.handled = none
  dp : A.depth + n < recursionLimit
  un : A.units + u < cLine
  tk : 1 ≤ s.toks

theorem fr_keep {h₀ h h' : Heap} {L : Addr} {m : Str → Option Value} (F : Fr h₀ L h m) (k : ∀ b o, h.get? b = some o → h'.get? b = some o) : Fr h₀ L h' m := by
  obtain ⟨oL, es, ep, hL, r⟩ := F.ns
  exact ⟨⟨oL, es, ep, k _ _ hL, r⟩, fun b o e => k _ _ (F.keep b o e), F.above⟩
theorem news_keep {h₀ h h' : Heap} {L : Addr} {news : List (Addr × Obj)} (N : News h₀ L h news) (k : ∀ b o, h.get? b = some o → h'.get? b = some o) : News h₀ L h' news :=
  fun p hp => ⟨k _ _ (N p hp).1, (N p hp).2⟩

section
variable {w : World} {A₀ A : Around} {s : Shared} {base h₀ : Heap} {outer : List Env} {L : Addr} {m : Str → Option Value} {env : Env} {mean : ExcName → Option Value} {mg mb : Str → Option Value} {news : List (Addr × Obj)}
  {R : Result → Shared → Prop} {name qual : Str} {params : Arguments} {body : List Stmt} {scope : Scope} {dV kV doc pm cdv ct oc : Value} {an od : Option Addr} {osl : Array (Option Value)} {f : Addr} {args : Args} {binds : List (Str × Value)}

theorem Gr.at (G : Gr w mean mg mb A base outer h₀) {n u : Nat} (F : Fr h₀ L s.heap m) (hk : scope.kind = .function) (hh : A.handled = none) (hd : A.depth + 1 + n < recursionLimit) (hu : A.units + 3 + u < cLine) (ht : 1 ≤ s.toks) :
    At w (A.deeper (envOf name scope L f cdv)) n u s :=
  ⟨⟨mean, mg, mb, A, _, outer, base, h₀, L, m, Around.frames_deeper G.B.stack, rfl, hk, G, F⟩, hh, hd, hu, ht⟩

theorem ground_in (G : Gr w mean mg mb A₀ base outer h₀) (F : Fr h₀ L s.heap m) (N : News h₀ L s.heap news) (hA : A.frames = some (env :: outer)) (hf : env.frame = some L) (hke : env.scope.kind = .function) :
    Fr h₀ L (hideAll s.heap (news.map (·.1))) m ∧ Gr w mean mg mb A base (env :: outer) (hideAll s.heap (news.map (·.1))) := by
  obtain ⟨FG, BG, st, lv⟩ := groundX (R := fun _ _ => True) G.B F N hA hf hke
  refine ⟨FG, BG, G.X.keeps FG.keep, G.T.keeps FG.keep, G.XB, G.TB, fun b hb => ?_⟩
  obtain ⟨env', he, hf'⟩ := List.mem_filterMap.mp hb
  rcases List.mem_cons.mp he with rfl | he
  · obtain rfl : L = b := Option.some.inj (hf.symm.trans hf')
    obtain ⟨oL, es, ep, hL, hLd, _⟩ := FG.ns
    exact ⟨oL, es, ep, hL, hLd⟩
  · obtain ⟨o, es, n, ho, hd⟩ := G.D b (List.mem_filterMap.mpr ⟨env', he, hf'⟩)
    exact ⟨o, es, n, FG.keep _ _ ho, hd⟩

/-- a def is entered; what the ledger bears is hidden from its ground -/
theorem enterN (G : Gr w mean mg mb A₀ base outer h₀) (F : Fr h₀ L s.heap m) (N : News h₀ L s.heap news) (hA : A.frames = some (env :: outer)) (hf : env.frame = some L) (hke : env.scope.kind = .function) (hroom : A.depth < recursionLimit)
    (ho : (hd.heap_39 w.params).lookup f = some ⟨oc, od, .func (fnOf name qual params body scope dV kV doc pm an cdv ct), osl⟩) (hcd : codeIn (hd.heap_39 w.params) cdv qual = true)
    (hbind : BindsTo s (fnOf name qual params body scope dV kV doc pm an cdv ct) args binds) (hloc : ∀ y ∈ binds, scope.names.lookup y.1 = some .local)
    (h : ∀ (L' : Addr) (h₁ : Heap), Fr (hideAll s.heap (news.map (·.1))) L' h₁ (fun y => binds.reverse.lookup y) → News (hideAll s.heap (news.map (·.1))) L' h₁ news → Gr w mean mg mb A base (env :: outer) (hideAll s.heap (news.map (·.1))) →
      wpAny (model PR w) (A.deeper (envOf qual scope L' f cdv)) (execs body (envOf qual scope L' f cdv))
        (fun fl s' => R (.ok (.ret (match fl with | .ret v => v | _ => .none))) s')
        (fun e s' => wpAny (model PR w) (A.deeper (envOf qual scope L' f cdv)) (leaving (envOf qual scope L' f cdv) e) (fun _ s'' => R (.error e) s'') (fun e' s'' => R (.error e') s'') s')
        { s with heap := h₁, toks := s.toks + binds.length })
    (hco : scope.isCoroutine = false) (hgen : scope.isGenerator = false) (hk : scope.kind = .function) (hcell : ∀ x ∈ scope.names, x.2 ≠ .cell) :
    codeAny (model PR w) A (.call (.ref f) args) R s := by
  obtain ⟨FG, GG⟩ := ground_in G F N hA hf hke
  have X' : (hd.heap_39 w.params).In s.heap := G.X.keeps F.keep
  refine codeAny_call_def (fd := fnOf name qual params body scope dV kV doc pm an cdv ct) (body := body) (binds := binds) hroom (X' _ _ ho) rfl (G.T.nolimit.keeps F.keep) (codeRec_of X' hcd) rfl hbind hcell hloc (fun h₁ hns hk₁ => ?_) hco hgen hk
  exact h s.heap.objs.size h₁ ⟨hns, fun b o e => hk₁ b o (of_hideAll _ e), Nat.le_of_eq (hideAll_size _ _)⟩ (fun p hp => ⟨hk₁ _ _ (N p hp).1, Nat.ne_of_lt (Heap.lt_size (N p hp).1), hideAll_none _ (List.mem_map_of_mem hp)⟩) GG

theorem enter {n u : Nat} (P : At w A n u s)
    (ho : (hd.heap_39 w.params).lookup f = some ⟨oc, od, .func (fnOf name qual params body scope dV kV doc pm an cdv ct), osl⟩) (hcd : codeIn (hd.heap_39 w.params) cdv qual = true)
    (hbind : BindsTo s (fnOf name qual params body scope dV kV doc pm an cdv ct) args binds) (hloc : ∀ y ∈ binds, scope.names.lookup y.1 = some .local)
    (h : ∀ (mean : ExcName → Option Value) (mg mb : Str → Option Value) (base : Heap) (outer : List Env) (L' : Addr) (h₁ : Heap), Fr s.heap L' h₁ (fun y => binds.reverse.lookup y) → Gr w mean mg mb A base outer s.heap →
      wpAny (model PR w) (A.deeper (envOf qual scope L' f cdv)) (execs body (envOf qual scope L' f cdv))
        (fun fl s' => R (.ok (.ret (match fl with | .ret v => v | _ => .none))) s')
        (fun e s' => wpAny (model PR w) (A.deeper (envOf qual scope L' f cdv)) (leaving (envOf qual scope L' f cdv) e) (fun _ s'' => R (.error e) s'') (fun e' s'' => R (.error e') s'') s')
        { s with heap := h₁, toks := s.toks + binds.length })
    (hco : scope.isCoroutine = false) (hgen : scope.isGenerator = false) (hk : scope.kind = .function) (hcell : ∀ x ∈ scope.names, x.2 ≠ .cell) :
    codeAny (model PR w) A (.call (.ref f) args) R s := by
  obtain ⟨mean, mg, mb, A₀, env, outer, base, h₀, L, m, hA, hf, hke, G, F⟩ := P.ex
  exact enterN G F News.nil hA hf hke (Nat.lt_of_le_of_lt (Nat.le_add_right _ _) P.dp) ho hcd hbind hloc (fun L' h₁ F' _ G' => h mean mg mb base (env :: outer) L' h₁ F' G') hco hgen hk hcell
end
end

section
open PySem PySem.W PyProof.Rows PySem.Calls PySem.Spec
set_option autoImplicit false
set_option Elab.async false
set_option maxRecDepth 100000
set_option maxHeartbeats 8000000
noncomputable def siObj (x : Str) (t : Tok) (i : Nat) : Obj := { cls := .type "str_ascii_iterator", data := .fields #[.str x t, .int i 0] }
noncomputable def tupObj (vs : List Value) : Obj := { cls := .type "tuple", data := .seq vs.toArray }
theorem si_next {x : Str} {t : Tok} {i : Nat} : Obj.mapFields (·.setIfInBounds 1 (rawInt ((i : Int) + 1))) (siObj x t i) = siObj x t (i + 1) := by
  simp [Obj.mapFields, siObj, rawInt]
section
variable {prog : Program} {w : World} {A : Around} {E : Value → Shared → Prop} {s : Shared} {e it : Addr} {x : Str} {t : Tok} {i : Nat}

theorem sign_next {c : Nat} {Q : Value → Shared → Prop} (hit : s.heap.get? it = some (siObj x t i)) (hx : x.cps[i]? = some c)
    (h : ∀ h', h'.get? it = some (siObj x t (i + 1)) → Heap.SameBut it s.heap h' → Q (.str ⟨#[c]⟩ s.toks) { s with heap := h', toks := s.toks + 1 }) :
    wpAny (model prog w) A (Builtin.SmallTypes.nextOf (.ref it)) Q E s := by
  have hT : s.heap.IsStrIter it "str_ascii_iterator" x t i := ⟨_, hit, rfl, rfl⟩
  unfold Builtin.SmallTypes.nextOf
  refine wpAny_bind (wpAny_callSpecial?_slot (name := Str.ofString "__next__") hT.typeIs PySem.F.slot_str_ascii_iterator_next
    (wpAny_call_entry PySem.F.slot_str_ascii_iterator_next hT.typeIs PySem.F.entry_str_ascii_iterator_next ?_ (PySem.F.args_str_ascii_iterator_next_1 _)))
  show wpAny _ _ (field (.ref it) 0 >>= _) _ _ s
  refine wpAny_bind (wpAny_field hit rfl (x := .str x t) rfl ?_)
  show wpAny _ _ (field (.ref it) 1 >>= _) _ _ s
  refine wpAny_bind (wpAny_field hit rfl (x := .int i 0) rfl ?_)
  simp only [Int.toNat_natCast, hx]
  refine wpAny_bind (wpAny_setField hit rfl (by simp [siObj]) (wpAny_bind (wpAny_mkStr (wpAny_pure ⟨_, rfl, wpAny_pure (h _ ?_ (Heap.SameBut.update ..))⟩) (by show 1 ≤ sizeLine; decide))))
  rw [← si_next]
  exact Heap.get?_update_self _ hit rfl
theorem sign_end {Q : Value → Shared → Prop} (hh : A.handled = none) (hit : s.heap.get? it = some (siObj x t i)) (hx : x.cps[i]? = none)
    (hE : ∀ h' e, Heap.ExtBut it s.heap h' → (∃ o, h'.get? e = some o ∧ o.cls = .type "StopIteration") → E (.ref e) { s with heap := h' }) :
    wpAny (model prog w) A (Builtin.SmallTypes.nextOf (.ref it)) Q E s := by
  have hT : s.heap.IsStrIter it "str_ascii_iterator" x t i := ⟨_, hit, rfl, rfl⟩
  unfold Builtin.SmallTypes.nextOf
  refine wpAny_bind (wpAny_callSpecial?_slot (name := Str.ofString "__next__") hT.typeIs PySem.F.slot_str_ascii_iterator_next
    (wpAny_call_entry PySem.F.slot_str_ascii_iterator_next hT.typeIs PySem.F.entry_str_ascii_iterator_next ?_ (PySem.F.args_str_ascii_iterator_next_1 _)))
  show wpAny _ _ (field (.ref it) 0 >>= _) _ _ s
  refine wpAny_bind (wpAny_field hit rfl (x := .str x t) rfl ?_)
  show wpAny _ _ (field (.ref it) 1 >>= _) _ _ s
  refine wpAny_bind (wpAny_field hit rfl (x := .int i 0) rfl ?_)
  simp only [Int.toNat_natCast, hx]
  refine wpAny_bind (wpAny_rule (wpAny_bind (wpAny_setField hit rfl (by simp [siObj]) ?_)))
  show wpAny _ _ (newExc (.type "StopIteration") [] >>= _) _ _ _
  refine wpAny_bind ?_
  simp only [newExc, newTuple]
  refine wpAny_bind (wpAny_newObj_type ?_ (by size_fits))
  refine wpAny_bind (m := firstArgMember _ _) (wpAny_of_eq (a := Value.none) (by first | rfl | (simp only [firstArgMember]; rfl)) ?_)
  refine wpAny_newObj_type ?_ (by size_fits)
  simp only [raiseNew]
  refine wpAny_bind (wpAny_handled ?_)
  first | rw [show A.in1.handled = none from hh] | rw [hh]
  refine wpAny_bind (wpAny_pure (wpAny_throw ?_))
  exact hE _ _ (((Heap.SameBut.update ..).extBut.push _).push _) ⟨_, Heap.get?_push_size _ rfl, rfl⟩

theorem enum_next {c : Nat} {old : Value} {Q : Option Value → Shared → Prop} (he : IsEnum s.heap e it i old) (hit : s.heap.get? it = some (siObj x t i)) (hx : x.cps[i]? = some c) (hne : e ≠ it)
    (hQ : ∀ h' T, s.heap.get? T = none → IsEnumOut h' e it ((i : Int) + 1) (.str ⟨#[c]⟩ s.toks) T → h'.get? it = some (siObj x t (i + 1)) → h'.get? T = some (tupObj [.int i (s.toks + 1), .str ⟨#[c]⟩ s.toks]) →
      (∀ b o, b ≠ e → b ≠ it → s.heap.get? b = some o → h'.get? b = some o) → Q (some (.ref T)) { s with heap := h', toks := s.toks + 1 + 1 }) :
    wpAny (model prog w) A (pyNext (.ref e)) Q E s := by
  have hT : s.TypeIs (.ref e) "enumerate" := ⟨_, he, rfl⟩
  unfold pyNext
  refine wpAny_bind (wpAny_attempt (wpAny_callSpecial?_slot (name := Str.ofString "__next__") hT PySem.F.slot_enumerate_next
    (wpAny_call_entry PySem.F.slot_enumerate_next hT PySem.F.entry_enumerate_next ?_ (PySem.F.args_enumerate_next_1 _))))
  obtain ⟨hp, g, d, tk, os⟩ := s
  show wpAny _ _ (field (.ref e) 2 >>= _) _ _ _
  refine wpAny_bind (wpAny_field he rfl (x := .ref it) rfl ?_)
  refine wpAny_bind (sign_next hit hx fun h₁ hit₁ hs₁ => ?_)
  dsimp only at hs₁ hQ he hit ⊢
  have he₁ : IsEnum h₁ e it i old := (hs₁.2 e hne).trans he
  refine wpAny_bind (wpAny_field he₁ rfl (x := rawInt i) rfl ?_)
  show wpAny _ _ (field (.ref e) 4 >>= _) _ _ _
  refine wpAny_bind (wpAny_field he₁ rfl (x := .none) rfl ?_)
  show wpAny _ _ (mkInt i >>= _) _ _ _
  refine wpAny_bind (wpAny_mkInt ?_)
  show wpAny _ _ (setField (.ref e) 3 (rawInt ((i : Int) + 1)) >>= _) _ _ _
  refine wpAny_bind (wpAny_setField_rec he₁ (by simp) fun h₂ he₂ hs₂ => ?_)
  dsimp only at hs₂
  have he₂' : IsEnum h₂ e it ((i : Int) + 1) old := he₂
  show wpAny _ _ (setField (.ref e) 4 .none >>= _) _ _ _
  refine wpAny_bind (wpAny_setField_rec he₂' (by simp) fun h₃ he₃ hs₃ => ?_)
  dsimp only at hs₃
  have he₃' : IsEnum h₃ e it ((i : Int) + 1) old := he₃
  refine wpAny_bind (wpAny_newTuple ?_)
  dsimp only
  have hz : h₃.objs.size = hp.objs.size := by rw [hs₃.1, hs₂.1, hs₁.1]
  have he₄ : IsEnum (h₃.push (tupObj [.int i (tk + 1), .str ⟨#[c]⟩ tk])) e it ((i : Int) + 1) old := Heap.get?_push_of_some _ he₃'
  have hT₄ : (h₃.push (tupObj [.int i (tk + 1), .str ⟨#[c]⟩ tk])).get? h₃.objs.size = some (tupObj [.int i (tk + 1), .str ⟨#[c]⟩ tk]) := Heap.get?_push_size _ rfl
  have hel : e < hp.objs.size := Heap.lt_size he
  have hk₄ : ∀ b o, b ≠ e → b ≠ it → hp.get? b = some o → (h₃.push (tupObj [.int i (tk + 1), .str ⟨#[c]⟩ tk])).get? b = some o := fun b o hbe hbi hb =>
    Heap.get?_push_of_some _ (hs₃.extBut b o hbe (hs₂.extBut b o hbe (hs₁.extBut b o hbi hb)))
  have hit₄ : (h₃.push (tupObj [.int i (tk + 1), .str ⟨#[c]⟩ tk])).get? it = some (siObj x t (i + 1)) :=
    Heap.get?_push_of_some _ (hs₃.extBut _ _ (Ne.symm hne) (hs₂.extBut _ _ (Ne.symm hne) hit₁))
  have hz₄ : hp.get? h₃.objs.size = none := by rw [hz]; exact Heap.get?_none_of_le (Nat.le_refl _)
  have hTe : h₃.objs.size ≠ e := by rw [hz]; exact Nat.ne_of_gt hel
  show wpAny _ _ _ _ _ ⟨h₃.push (tupObj [.int i (tk + 1), .str ⟨#[c]⟩ tk]), g, d, tk + 1 + 1, os⟩
  generalize h₃.push (tupObj [.int i (tk + 1), .str ⟨#[c]⟩ tk]) = h₄ at he₄ hT₄ hk₄ hit₄ ⊢
  generalize h₃.objs.size = T at hT₄ hz₄ hTe ⊢
  clear he₃ hs₃ he₂ hs₂ he₁ hs₁ hit₁ he₂' he₃' hz
  refine wpAny_bind ?_
  unfold Builtin.SmallTypes.ownedTupleIsFree
  refine wpAny_bind (wpAny_field he₄ rfl (x := .none) rfl (wpAny_pure ?_))
  simp only [if_true]
  refine wpAny_bind (wpAny_rule ?_)
  refine wpAny_bind (wpAny_field he₄ rfl (x := old) rfl ?_)
  refine wpAny_bind (wpAny_setField_rec he₄ (by simp) fun h₅ he₅ hs₅ => ?_)
  dsimp only at hs₅
  have he₅' : IsEnum h₅ e it ((i : Int) + 1) (.str ⟨#[c]⟩ tk) := he₅
  show wpAny _ _ (Builtin.SmallTypes.ownedTupleHandOut (.ref e) (.ref T) >>= _) _ _ ⟨h₅, g, d, tk + 1 + 1, os⟩
  refine wpAny_bind ?_
  unfold Builtin.SmallTypes.ownedTupleHandOut
  refine wpAny_bind (wpAny_setField_rec he₅' (by simp) fun h₆ he₆ hs₆ => ?_)
  dsimp only at hs₆
  have he₆' : IsEnumOut h₆ e it ((i : Int) + 1) (.str ⟨#[c]⟩ tk) T := he₆
  refine wpAny_setField_rec he₆' (by simp) fun h₇ he₇ hs₇ => ?_
  dsimp only at hs₇
  have he₇' : IsEnumOut h₇ e it ((i : Int) + 1) (.str ⟨#[c]⟩ tk) T := he₇
  have up : ∀ b o, b ≠ e → h₄.get? b = some o → h₇.get? b = some o := fun b o hb q => hs₇.extBut _ _ hb (hs₆.extBut _ _ hb (hs₅.extBut _ _ hb q))
  exact wpAny_bind (wpAny_letGo (wpAny_pure ⟨_, rfl, wpAny_pure (hQ h₇ T hz₄ he₇' (up _ _ (Ne.symm hne) hit₄) (up _ _ hTe hT₄) fun b o hbe hbi hb => up _ _ hbe (hk₄ b o hbe hbi hb))⟩))

theorem enum_end {old : Value} {Q : Option Value → Shared → Prop} (hh : A.handled = none) (he : IsEnum s.heap e it i old) (hit : s.heap.get? it = some (siObj x t i)) (hx : x.cps[i]? = none)
    (hQ : ∀ h', Heap.ExtBut it s.heap h' → Q none { s with heap := h' }) : wpAny (model prog w) A (pyNext (.ref e)) Q E s := by
  have hT : s.TypeIs (.ref e) "enumerate" := ⟨_, he, rfl⟩
  unfold pyNext
  refine wpAny_bind (wpAny_attempt (wpAny_callSpecial?_slot (name := Str.ofString "__next__") hT PySem.F.slot_enumerate_next
    (wpAny_call_entry PySem.F.slot_enumerate_next hT PySem.F.entry_enumerate_next ?_ (PySem.F.args_enumerate_next_1 _))))
  show wpAny _ _ (field (.ref e) 2 >>= _) _ _ _
  refine wpAny_bind (wpAny_field he rfl (x := .ref it) rfl ?_)
  refine wpAny_bind (sign_end hh hit hx fun h' e' hk hx' => ?_)
  obtain ⟨o, ho, hc⟩ := hx'
  refine wpAny_bind (wpAny_isInstance (T := "StopIteration") (b := true) ⟨o, ho, hc⟩ isSubtype_stop ?_)
  exact wpAny_pure (hQ _ hk)
end
end

section
open PySem PySem.W PyProof.Rows PySem.Calls PySem.Spec
set_option autoImplicit false
set_option Elab.async false
set_option maxRecDepth 100000
set_option maxHeartbeats 8000000
section
variable {M : Model} {A : Around} {R : GenEnd} {Y : Protocol} {n : Nat} {s₀ : Shared} {c : Code} {fs : List Frame} {s : Shared} {env : Env}
  {K : Flow → Sem Fin} {H : Value → Sem Fin} {gd : Bool → Bool} {lv : List Value → List Value}

theorem seg_stmt {st : Stmt} (h : wpAny M (A.over c fs) (exec st env) (fun f s' => Seg M A R Y n s₀ c (K f) fs s') (fun _ _ => False) s) :
    Seg M A R Y n s₀ c ((exec st env).wrap K H gd lv) fs s := seg_wrap (wpAny_mono h (fun _ _ x => x) fun _ _ x => x.elim)

theorem seg_If {test : Expr} {body orelse : List Stmt} {pos : Pos}
    (h : wpAny M (A.over c fs) (isTrue test env (eval test env)) (fun b s' => if b = true then Seg M A R Y n s₀ c ((execs body env).wrap K H gd lv) fs s' else Seg M A R Y n s₀ c ((execs orelse env).wrap K H gd lv) fs s') (fun _ _ => False) s) :
    Seg M A R Y n s₀ c ((exec (.If test body orelse pos) env).wrap K H gd lv) fs s := by
  rw [exec_If]
  show Seg M A R Y n s₀ c (.at pos fun _ => (isTrue test env (eval test env) >>= fun b => if b = true then execs body env else execs orelse env).wrap K H gd lv) fs s
  refine seg_at ?_
  rw [Sem.bind_eq_wrap', Sem.wrap_wrap]
  refine seg_wrap (wpAny_mono h (fun b s' hb => ?_) fun _ _ x => x.elim)
  cases b with
  | true => exact hb
  | false => exact hb

theorem seg_For {target iter : Expr} {body orelse : List Stmt} {pos : Pos}
    (h : wpAny M (A.over c fs) (eval iter env) (fun x s₁ => wpAny M (A.over c fs) (pyIter x) (fun it s₂ => ∀ p, Seg M A R Y n s₀ (.forLoop target it body orelse env) (M.den (.forLoop target it body orelse env))
      (.ret (fun r => ((match r with | .ok f => (.pure f : Sem Flow) | .error e => .raise e).onRaise fun (x : Value) => do
        if (← field x 1) == Value.none then unsupported "frame.own-activation:exception-without-traceback"
        setFlight x env.frame).wrap K H gd lv) none (gd false) (lv []) c p [] :: fs) s₂) (fun _ _ => False) s₁) (fun _ _ => False) s)
    (hs : ∀ x, foldedSetIterable iter env x = pure x := by intro _; rfl) :
    Seg M A R Y n s₀ c ((exec (.For target iter body orelse pos) env).wrap K H gd lv) fs s := by
  rw [exec_For]
  show Seg M A R Y n s₀ c (.at pos fun _ => (eval iter env >>= fun x => foldedSetIterable iter env x >>= fun x => standAt iter.pos >>= fun _ => holding [x] (pyIter x) >>= fun it => runOwn (.forLoop target it body orelse env) env).wrap K H gd lv) fs s
  refine seg_at ?_
  rw [Sem.bind_eq_wrap', Sem.wrap_wrap]
  refine seg_wrap (wpAny_mono h (fun x s₁ h₁ => ?_) fun _ _ x => x.elim)
  rw [hs x]
  show Seg M A R Y n s₀ c (.at iter.pos fun _ => (holding [x] (pyIter x) >>= fun it => runOwn (.forLoop target it body orelse env) env).wrap K H _ _) fs s₁
  refine seg_at ?_
  rw [Sem.bind_eq_wrap', Sem.wrap_wrap]
  refine seg_wrap (wpAny_holding (wpAny_mono h₁ (fun it s₂ h₂ => ?_) fun _ _ x => x.elim))
  exact seg_call h₂
end
section
variable {prog : Program} {w : World} {A : Around} {R : GenEnd} {Y : Protocol} {n : Nat} {s₀ : Shared} {fs : List Frame} {s : Shared} {env : Env}
theorem seg_forLoop {target : Expr} {it : Value} {body orelse : List Stmt}
    (h : wpAny (model prog w) (A.over (.forLoop target it body orelse env) fs) (pyNext it) (fun r s₁ => match r with
      | none => Seg (model prog w) A R Y n s₀ (.forLoop target it body orelse env) (.pure (.again (.block orelse env))) fs s₁
      | some v => wpAny (model prog w) (A.over (.forLoop target it body orelse env) fs) (letOwnedTupleGo target it v) (fun _ s₂ => wpAny (model prog w) (A.over (.forLoop target it body orelse env) fs) (assign target env v) (fun _ s₃ =>
          Seg (model prog w) A R Y n s₀ (.forLoop target it body orelse env) ((execs body env).wrap (fun f => match f with
            | .next | .cont => .pure (.again (.forLoop target it body orelse env))
            | .brk => .pure (.done .next)
            | .ret v => .pure (.done (.ret v))) (fun e => (do noteFrame e env; theTreesLotGoes e : Sem Unit).wrap (fun _ => .raise e) .raise id id) id id) fs s₃) (fun _ _ => False) s₂) (fun _ _ => False) s₁) (fun _ _ => False) s) :
    Seg (model prog w) A R Y n s₀ (.forLoop target it body orelse env) ((model prog w).den (.forLoop target it body orelse env)) fs s := by
  show Seg _ A R Y n s₀ _ ((forTurn target it body orelse env).onRaise (fun x => do noteFrame x env; theTreesLotGoes x)) fs s
  unfold forTurn
  rw [Sem.onRaise_eq_wrap]
  show Seg _ A R Y n s₀ _ (.at target.pos fun _ => _) fs s
  refine seg_at ?_
  show Seg _ A R Y n s₀ _ (((pyNext it).onRaise (fun _ => standAt { target.pos with line := 0 }) >>= fun r => (match r with
    | none => again (.block orelse env)
    | some v => letOwnedTupleGo target it v >>= fun _ => assign target env v >>= fun _ => execs body env >>= fun f => (match f with
      | .next | .cont => again (.forLoop target it body orelse env)
      | .brk => pure (.done .next)
      | .ret v => pure (.done (.ret v)))) : Sem Fin).wrap Sem.pure (fun e => (do noteFrame e env; theTreesLotGoes e : Sem Unit).bind fun _ => .raise e) id id) fs s
  rw [Sem.bind_eq_wrap', Sem.wrap_wrap]
  refine seg_wrap (wpAny_onRaise (wpAny_mono h (fun r s₁ h₁ => ?_) fun _ _ x => x.elim))
  cases r with
  | none => exact h₁
  | some v =>
    dsimp only
    rw [Sem.bind_eq_wrap', Sem.wrap_wrap]
    refine seg_wrap (wpAny_mono h₁ (fun _ s₂ h₂ => ?_) fun _ _ x => x.elim)
    rw [Sem.bind_eq_wrap', Sem.wrap_wrap]
    refine seg_wrap (wpAny_mono h₂ (fun _ s₃ h₃ => ?_) fun _ _ x => x.elim)
    rw [Sem.bind_eq_wrap', Sem.wrap_wrap]
    rw [Sem.wrap_congr (execs body env) _ _ (K' := fun f => match f with
            | .next | .cont => .pure (.again (.forLoop target it body orelse env))
            | .brk => .pure (.done .next)
            | .ret v => .pure (.done (.ret v))) (H' := (fun e => (do noteFrame e env; theTreesLotGoes e : Sem Unit).wrap (fun _ => .raise e) .raise id id))
        (fun f => by cases f <;> rfl)
        (fun e => by first | exact Sem.bind_eq_wrap _ _ | (show (do noteFrame e env; theTreesLotGoes e : Sem Unit).bind (fun _ => .raise e) = _; rw [Sem.bind_eq_wrap]))]
    exact h₃
end
end

section
open PySem PySem.W PyProof.Rows PySem.Calls PySem.Spec
set_option autoImplicit false
set_option Elab.async false
set_option maxRecDepth 100000
set_option maxHeartbeats 8000000
noncomputable def iterCls (o : Obj) : Bool := match o.data with
  | .fields _ => o.cls == .type "enumerate" || o.cls == .type "str_ascii_iterator"
  | _ => false
theorem iterCls_dict {o : Obj} {es : Array DictEntry} {n : Nat} (h : o.data = .dict es n) : iterCls o = false := by unfold iterCls; rw [h]
/-- all but a generator's own objects stands -/
noncomputable def KeepI (LG : Addr) (h h' : Heap) : Prop := ∀ b o, b ≠ LG → iterCls o = false → h.get? b = some o → h'.get? b = some o
noncomputable def OKp (h₀ : Heap) (fp : List (Addr × Obj)) (h : Heap) : Prop := (∀ b o, h₀.get? b = some o → h.get? b = some o) ∧ ∀ p ∈ fp, h.get? p.1 = some p.2
noncomputable def Priv (h₀ : Heap) (LG : Addr) (fp : List (Addr × Obj)) (h : Heap) : Prop := ∀ p ∈ fp, h.get? p.1 = some p.2 ∧ h₀.get? p.1 = none ∧ (p.1 = LG ∨ iterCls p.2 = true)
/-- between s₀ and s only a generator's own objects turned -/
noncomputable def Since (h₀ : Heap) (LG : Addr) (s₀ s : Shared) : Prop := (∀ b o, h₀.get? b = some o → s.heap.get? b = some o) ∧ KeepI LG s₀.heap s.heap ∧ s.gens = s₀.gens ∧ s.drawn = s₀.drawn ∧ s.os = s₀.os ∧ 1 ≤ s.toks
noncomputable def Yp (h₀ : Heap) (LG : Addr) (items : List (Nat × List Nat)) : Protocol := fun k s₀ v s' kap =>
  ∃ tup pos piece t1 t2 fp', items[items.length - 1 - k]? = some (pos, piece) ∧ v = .ref tup ∧ s'.heap.get? tup = some (tupObj [.int (pos : Nat) t1, .str ⟨piece.toArray⟩ t2]) ∧
    Since h₀ LG s₀ s' ∧ Priv h₀ LG fp' s'.heap ∧ ∀ s'', 1 ≤ s''.toks → OKp h₀ fp' s''.heap → kap (.send .none) s''
noncomputable def Rp (h₀ : Heap) (LG : Addr) : GenEnd := fun n s₀ r s₁ => r = .ok (.ret .none) ∧ n = 0 ∧ Since h₀ LG s₀ s₁
noncomputable def GenOk (w : World) (A : Around) (h₀ : Heap) (LG : Addr) (items : List (Nat × List Nat)) (n : Nat) (gs : GenState) (fp : List (Addr × Obj)) : Prop :=
  ∀ s'', 1 ≤ s''.toks → OKp h₀ fp s''.heap → gs.Goes (model PR w) A (Rp h₀ LG) (Yp h₀ LG items) n (.send .none) s''

/-- what stood at h and is neither the generator's nor of its ground -/
noncomputable def olds (h₀ : Heap) (LG : Addr) (h : Heap) : List (Addr × Obj) :=
  (List.range h.objs.size).filterMap fun b => if b = LG then none else match h.get? b with
    | some o => if iterCls o || (h₀.get? b).isSome then none else some (b, o)
    | none => none
theorem olds_mem {h₀ : Heap} {LG : Addr} {h : Heap} {p : Addr × Obj} : p ∈ olds h₀ LG h ↔ p.1 ≠ LG ∧ h.get? p.1 = some p.2 ∧ iterCls p.2 = false ∧ h₀.get? p.1 = none := by
  obtain ⟨b, o⟩ := p
  simp only [olds, List.mem_filterMap, List.mem_range]
  constructor
  · rintro ⟨a, _, ha⟩
    split at ha
    · cases ha
    · next hne =>
      split at ha
      · next o' ho =>
        split at ha
        · cases ha
        · next hc =>
          cases ha
          simp only [Bool.or_eq_true, not_or, Bool.not_eq_true, Option.isSome_eq_false_iff, Option.isNone_iff_eq_none] at hc
          exact ⟨hne, ho, hc.1, hc.2⟩
      · cases ha
  · rintro ⟨hne, ho, hc, hz⟩
    refine ⟨b, Heap.lt_size ho, ?_⟩
    rw [if_neg hne, ho]
    simp [hc, hz]
theorem olds_news {h₀ : Heap} {LG : Addr} {h : Heap} : News h₀ LG h (olds h₀ LG h) := fun _ hp => ⟨(olds_mem.mp hp).2.1, (olds_mem.mp hp).1, (olds_mem.mp hp).2.2.2⟩
theorem olds_keep {h₀ h h' : Heap} {LG : Addr} {news : List (Addr × Obj)} (k : ∀ b o, h₀.get? b = some o → h.get? b = some o) (k' : ∀ b o, h₀.get? b = some o → h'.get? b = some o) (N : News h₀ LG h' news) (hs : ∀ p ∈ olds h₀ LG h, p ∈ news) : KeepI LG h h' := by
  intro b o hb hc ho
  cases q : h₀.get? b with
  | some o' =>
    rw [k b o' q] at ho
    cases ho
    exact k' _ _ q
  | none => exact (N (b, o) (hs _ (olds_mem.mpr ⟨hb, ho, hc, q⟩))).1

noncomputable def escs : Nat → Bool → List Nat → List (Nat × List Nat)
  | _, _, [] => []
  | i, true, c :: r => (i, [92, c]) :: escs (i + 1) false r
  | i, false, c :: r => if c = 92 then escs (i + 1) true r else (i, [c]) :: escs (i + 1) false r
noncomputable def escEnd : Bool → List Nat → Bool
  | b, [] => b
  | true, _ :: r => escEnd false r
  | false, c :: r => escEnd (decide (c = 92)) r

section
variable {M : Model} {A : Around} {R : GenEnd} {Y : Protocol} {c : Code} {t : Sem Fin} {fs : List Frame}
theorem seg_rec (I : Nat → Nat → Shared → Shared → Prop) (turn : ∀ l n s₀ s, I l n s₀ s → (∀ l' n' s₀' s', l' < l → I l' n' s₀' s' → Seg M A R Y n' s₀' c t fs s') → Seg M A R Y n s₀ c t fs s) {l n : Nat} {s₀ s : Shared} (h : I l n s₀ s) :
    Seg M A R Y n s₀ c t fs s := by
  have all : ∀ l n s₀ s, I l n s₀ s → Seg M A R Y n s₀ c t fs s := by
    intro l
    induction l using Nat.strongRecOn with
    | _ l ih => exact fun n s₀ s h => turn l n s₀ s h fun l' n' s₀' s' hl h' => ih l' hl n' s₀' s' h'
  exact all l n s₀ s h
end
section
variable {w : World} {A₀ A : Around} {s : Shared} {base h₀ : Heap} {outer : List Env} {L : Addr} {m : Str → Option Value} {env : Env} {mean : ExcName → Option Value} {mg mb : Str → Option Value} {news : List (Addr × Obj)}
  {R : Result → Shared → Prop} {name qual : Str} {params : Arguments} {body : List Stmt} {scope : Scope} {dV kV doc pm cdv ct oc : Value} {an od : Option Addr} {osl : Array (Option Value)} {f : Addr} {args : Args} {binds : List (Str × Value)}
/-- a generator def is called -/
theorem gen_call (G : Gr w mean mg mb A₀ base outer h₀) (F : Fr h₀ L s.heap m) (hroom : A.depth < recursionLimit)
    (ho : (hd.heap_39 w.params).lookup f = some ⟨oc, od, .func (fnOf name qual params body scope dV kV doc pm an cdv ct), osl⟩) (hcd : codeIn (hd.heap_39 w.params) cdv qual = true)
    (hbind : bindArgs (fnOf name qual params body scope dV kV doc pm an cdv ct) args = pure binds) (hloc : ∀ y ∈ binds, scope.names.lookup y.1 = some .local)
    (h : ∀ (LG a : Addr) (h₁ : Heap) (tk : Nat), Fr h₀ LG h₁ (fun y => binds.reverse.lookup y) → (∀ b o, s.heap.get? b = some o → h₁.get? b = some o) → s.heap.get? LG = none → s.heap.get? a = none → a ≠ LG → h₁.IsGen a s.gens.size → s.toks ≤ tk →
      R (.ok (.ret (.ref a))) ⟨h₁, s.gens.push (.fresh (.func body (envOf qual scope LG f cdv))), s.drawn, tk, s.os⟩)
    (hco : scope.isCoroutine = false) (hgen : scope.isGenerator = true) (hk : scope.kind = .function) (hcell : ∀ x ∈ scope.names, x.2 ≠ .cell) :
    codeAny (model PR w) A (.call (.ref f) args) R s := by
  have X' : (hd.heap_39 w.params).In s.heap := G.X.keeps F.keep
  refine codeAny_call_generator (fd := fnOf name qual params body scope dV kV doc pm an cdv ct) (body := body) hroom (X' _ _ ho) rfl hco hgen rfl (codeRec_of X' hcd) ?_
  rw [hbind]
  refine wpAny_pure (wpAny_newFunctionEnv hcell hloc (fun h₁ hns hsb => ⟨(G.T.nolimit.keeps F.keep).fresh _ hsb, ?_⟩) hk)
  have hk₁ : ∀ b o, s.heap.get? b = some o → h₁.get? b = some o := fun b o e => hsb.extBut b o (Nat.ne_of_lt (Heap.lt_size e)) (Heap.get?_push_of_some _ e)
  have hL : s.heap.objs.size < h₁.objs.size := hns.lt
  refine h s.heap.objs.size h₁.objs.size _ _ ⟨hns.push _, fun b o e => Heap.get?_push_of_some _ (hk₁ b o (F.keep b o e)), ?_⟩ (fun b o e => Heap.get?_push_of_some _ (hk₁ b o e)) (Heap.get?_none_of_le (Nat.le_refl _)) (Heap.get?_none_of_le (Nat.le_of_lt hL)) (Nat.ne_of_gt hL) ⟨_, _, _, Heap.get?_push_size _ rfl, rfl, rfl, rfl⟩ ?_
  · exact Nat.le_of_lt (Nat.lt_of_le_of_lt F.above F.ns.lt)
  · dsimp only; omega
end
end

section
open PySem PySem.W PyProof.Rows PySem.Calls PySem.Spec
set_option autoImplicit false
set_option Elab.async false
set_option maxRecDepth 100000
set_option maxHeartbeats 8000000
theorem fillI : PySem.Challenge.rw_wb0031_01 = PySem.Challenge.rw_wb0031_01 ∧ hd.heap_39 = hd.heap_39 := by
  k_fill
  exact ⟨rfl, rfl⟩
theorem fr_ok {h₀ h h' : Heap} {LG : Addr} {m : Str → Option Value} {oL : Obj} {fp : List (Addr × Obj)} (F : Fr h₀ LG h m) (ho : h.get? LG = some oL) (hm : (LG, oL) ∈ fp) (ok : OKp h₀ fp h') : Fr h₀ LG h' m := by
  obtain ⟨o, es, ep, hL, r⟩ := F.ns
  have : o = oL := Option.some.inj (hL.symm.trans ho)
  subst this
  exact ⟨⟨o, es, ep, ok.2 _ hm, r⟩, ok.1, F.above⟩
theorem iter_upd {h₀ h h' h'' : Heap} {LG eo so : Addr} {o1 o2 o1' o2' : Obj} {m : Str → Option Value} (F : Fr h₀ LG h m) (N : News h₀ LG h ((eo, o1) :: (so, o2) :: olds h₀ LG h'')) (c1 : iterCls o1 = true) (c2 : iterCls o2 = true)
    (e1 : h'.get? eo = some o1') (e2 : h'.get? so = some o2') (k : ∀ b o, b ≠ eo → b ≠ so → h.get? b = some o → h'.get? b = some o) : Fr h₀ LG h' m ∧ News h₀ LG h' ((eo, o1') :: (so, o2') :: olds h₀ LG h'') := by
  obtain ⟨g1, n1, z1⟩ := N _ (.head _)
  obtain ⟨g2, n2, z2⟩ := N _ (.tail _ (.head _))
  dsimp only at g1 n1 z1 g2 n2 z2
  refine ⟨⟨?_, fun b o e => ?_, F.above⟩, fun p hp => ?_⟩
  · obtain ⟨o, es, ep, hL, r⟩ := F.ns
    exact ⟨o, es, ep, k _ _ (Ne.symm n1) (Ne.symm n2) hL, r⟩
  · refine k _ _ (fun q => ?_) (fun q => ?_) (F.keep _ _ e)
    · rw [q, z1] at e; cases e
    · rw [q, z2] at e; cases e
  · rcases List.mem_cons.mp hp with rfl | hp
    · exact ⟨e1, n1, z1⟩
    rcases List.mem_cons.mp hp with rfl | hp
    · exact ⟨e2, n2, z2⟩
    obtain ⟨g, n, z⟩ := N p (.tail _ (.tail _ hp))
    have hc := (olds_mem.mp hp).2.2.1
    refine ⟨k _ _ (fun q => ?_) (fun q => ?_) g, n, z⟩
    · rw [q, g1] at g; cases g; rw [c1] at hc; cases hc
    · rw [q, g2] at g; cases g; rw [c2] at hc; cases hc
theorem yp_of {h₀ h6 : Heap} {LG eo so tup : Addr} {o1 o2 : Obj} {m6 : Str → Option Value} {items : List (Nat × List Nat)} {n pos : Nat} {piece : List Nat} {t1 t2 : Tok} {s₀ : Shared} {tk : Nat} {kap : Resume → Shared → Prop}
    (h0L : h₀.get? LG = none) (F : Fr h₀ LG h6 m6) (N : News h₀ LG h6 ((eo, o1) :: (so, o2) :: olds h₀ LG s₀.heap)) (c1 : iterCls o1 = true) (c2 : iterCls o2 = true) (hk0 : ∀ b o, h₀.get? b = some o → s₀.heap.get? b = some o)
    (hitem : items[items.length - 1 - n]? = some (pos, piece)) (htup : h6.get? tup = some (tupObj [.int (pos : Nat) t1, .str ⟨piece.toArray⟩ t2])) (hk6 : 1 ≤ tk)
    (resume : ∀ s'', 1 ≤ s''.toks → (∀ b o, h₀.get? b = some o → s''.heap.get? b = some o) → Fr h₀ LG s''.heap m6 → News h₀ LG s''.heap ((eo, o1) :: (so, o2) :: olds h₀ LG s''.heap) → kap (.send .none) s'') :
    Yp h₀ LG items n s₀ (.ref tup) ⟨h6, s₀.gens, s₀.drawn, tk, s₀.os⟩ kap := by
  obtain ⟨oL, es, ep, hL6, hLd, hLr⟩ := id F.ns
  obtain ⟨g1, n1, z1⟩ := N _ (.head _)
  obtain ⟨g2, n2, z2⟩ := N _ (.tail _ (.head _))
  dsimp only at g1 n1 z1 g2 n2 z2
  refine ⟨tup, pos, piece, t1, t2, [(LG, oL), (eo, o1), (so, o2)], hitem, rfl, htup, ⟨F.keep, olds_keep hk0 F.keep N (fun _ h => .tail _ (.tail _ h)), rfl, rfl, rfl, hk6⟩, fun p hp => ?_, fun s'' hs'' ok => ?_⟩
  · rcases List.mem_cons.mp hp with rfl | hp
    · exact ⟨hL6, h0L, .inl rfl⟩
    rcases List.mem_cons.mp hp with rfl | hp
    · exact ⟨g1, z1, .inr c1⟩
    rcases List.mem_cons.mp hp with rfl | hp
    · exact ⟨g2, z2, .inr c2⟩
    cases hp
  · refine resume s'' hs'' ok.1 ⟨⟨oL, es, ep, ok.2 _ (.head _), hLd, hLr⟩, ok.1, F.above⟩ fun p hp => ?_
    rcases List.mem_cons.mp hp with rfl | hp
    · exact ⟨ok.2 _ (.tail _ (.head _)), n1, z1⟩
    rcases List.mem_cons.mp hp with rfl | hp
    · exact ⟨ok.2 _ (.tail _ (.tail _ (.head _))), n2, z2⟩
    exact olds_news _ hp
theorem seg_blockEnd {prog : Program} {w : World} {A : Around} {R : GenEnd} {Y : Protocol} {n : Nat} {s₀ s : Shared} {fs : List Frame} {env : Env} {k h g l c₁ p₁ kp}
    (hk : Seg (model prog w) A R Y n s₀ c₁ (k (.ok .next)) fs s) : Seg (model prog w) A R Y n s₀ (.block [] env) ((model prog w).den (.block [] env)) (.ret k h g l c₁ p₁ kp :: fs) s :=
  seg_leaf (.ok .next) hk
section
variable {prog : Program} {w : World} {A : Around} {E : Value → Shared → Prop} {s : Shared}
noncomputable def enObj (so : Addr) (i : Int) (old : Value) : Obj := { cls := .type "enumerate", dict := none, data := .fields #[.none, .bool false, .ref so, rawInt i, .none, old], slots := #[] }
theorem enum_make {x : Str} {t : Tok} {Q : Value → Shared → Prop} (hty : strIterType x = "str_ascii_iterator")
    (h : Q (.ref (s.heap.push (siObj x t 0)).objs.size) { s with heap := (s.heap.push (siObj x t 0)).push (enObj s.heap.objs.size 0 .none) }) :
    wpAny (model prog w) A (call (.type "enumerate") [.str x t]) Q E s := by
  refine callType_new F.called_enumerate (by decide) (F.typeCall_enumerate_1 _) (F.newCall_enumerate_1 _) (fun obj => F.args_object_init_2 obj _) F.entry_enumerate_new (meets_enumerate_newS x t) ?_
  rw [hty]
  exact ⟨⟨_, Heap.get?_push_size _ rfl, rfl⟩, h⟩
theorem ascii_iter {x : Str} (h : ∀ c ∈ x.cps.toList, c < 128) : strIterType x = "str_ascii_iterator" := by
  unfold strIterType
  rw [if_pos]
  exact Array.all_eq_true.mpr (fun i hi => by simpa using h _ (Array.getElem_mem_toList hi))
end
section
variable {w : World} {A₀ A : Around} {s : Shared} {base h₀ : Heap} {outer : List Env} {L : Addr} {m : Str → Option Value} {mean : ExcName → Option Value} {mg mb : Str → Option Value}
theorem iter_call {x : Str} {t : Tok} {Q E : Value → Shared → Prop} (G : Gr w mean mg mb A₀ base outer h₀) (F : Fr h₀ L s.heap m) (hroom : A.depth < recursionLimit) (htk : 1 ≤ s.toks)
    (hasc : ∀ c ∈ x.cps.toList, c < 128) (hend : escEnd false x.cps.toList = false)
    (hret : ∀ LG a h₁ tk gs fp, (∀ b o, s.heap.get? b = some o → h₁.get? b = some o) → s.heap.get? LG = none → s.heap.get? a = none → a ≠ LG → h₁.IsGen a s.gens.size → Priv h₀ LG fp h₁ → gs.bare = true →
      (∀ A' : Around, A'.handled = none → GenOk w A' h₀ LG (escs 0 false x.cps.toList) (escs 0 false x.cps.toList).length gs fp) → 1 ≤ tk → Q (.ref a) ⟨h₁, s.gens.push gs, s.drawn, tk, s.os⟩) :
    wpAny (model PySem.Challenge.rw_wb0031_01.row.prog w) A (call (.ref 56) [.str x t]) Q E s := by
  refine wpAny_call ?_
  refine' gen_call (binds := [(Str.ofString "addr", .str x t)]) G F hroom ?k6 ?k7 ?k9 ?kB ?_ ?c2 ?c3 ?c4 ?c5
  case k6 => k_is
  case k7 => k_is
  case k9 => rfl
  case kB => exact locs rfl
  case c2 => rfl
  case c3 => rfl
  case c4 => rfl
  case c5 => decide
  intro LG a h₁ tk F1 hk1 hLG ha haL hG htk1
  obtain ⟨oL, es, ep, hL, hLd, _⟩ := id F1.ns
  have h0L : h₀.get? LG = none := by
    cases q : h₀.get? LG with
    | none => rfl
    | some o => rw [F.keep _ _ q] at hLG; cases hLG
  refine hret LG a h₁ tk _ [(LG, oL)] hk1 hLG ha haL hG (fun p hp => ?_) rfl (fun A' hA' => ?_) (Nat.le_trans htk htk1)
  · have := List.mem_singleton.mp hp
    subst this
    exact ⟨hL, h0L, .inl rfl⟩
  have X := G.X
  have T : Top hd.view_39 (looseW hd.view_39 []) mean mg mb h₀ := G.T
  intro s1 hs1 ok
  have F2 := fr_ok F1 hL (.head _) ok
  clear F1
  refine ⟨rfl, seg_func ?_⟩
  refine seg_execs_cons (seg_stmt ?_)
  obtain ⟨hp, g, d, tk1, os⟩ := s1
  have N2 : News h₀ LG hp (olds h₀ LG hp) := olds_news
  have hk0 : ∀ b o, h₀.get? b = some o → hp.get? b = some o := ok.1
  clear ok
  dsimp only at F2 hs1
  walk_at "my steps"
  refine seg_execs_cons (seg_stmt ?_)
  walk_at "my steps"
  refine seg_execs_cons (seg_For ?_)
  walk_at "my steps"
  rename Fr _ _ _ _ => F3
  rename News _ _ _ _ => N3
  refine enum_make (ascii_iter hasc) ?_
  dsimp only
  have N4 := News.push F3 N3 (siObj x t 0)
  have F4 := F3.push (siObj x t 0)
  clear F3 N3
  rename_i h3
  refine wpAny_pyIter_enum (i := 0) (old := .none) (Heap.get?_push_size _ rfl) ?_
  intro p
  have N5 := News.push F4 N4 (enObj h3.objs.size 0 .none)
  have F5 := F4.push (enObj h3.objs.size 0 .none)
  clear F4 N4
  have hne : (h3.push (siObj x t 0)).objs.size ≠ h3.objs.size := by rw [Heap.size_push]; omega
  generalize (h3.push (siObj x t 0)).push (enObj h3.objs.size 0 .none) = h4 at F5 N5 ⊢
  generalize (h3.push (siObj x t 0)).objs.size = eo at hne N5 ⊢
  generalize h3.objs.size = so at hne N5 ⊢
  refine seg_rec (fun l n s₀ s => ∃ i b h tk old m, s = ⟨h, s₀.gens, s₀.drawn, tk, s₀.os⟩ ∧ 1 ≤ tk ∧ i ≤ x.cps.size ∧ l = x.cps.size - i ∧ n = (escs i b (x.cps.toList.drop i)).length ∧
    (∃ pre, escs 0 false x.cps.toList = pre ++ escs i b (x.cps.toList.drop i)) ∧ escEnd b (x.cps.toList.drop i) = false ∧ (∀ b o, h₀.get? b = some o → s₀.heap.get? b = some o) ∧
    Fr h₀ LG h m ∧ m (Str.ofString "escape") = some (.bool b) ∧ News h₀ LG h ((eo, enObj so i old) :: (so, siObj x t i) :: olds h₀ LG s₀.heap)) ?_ (l := x.cps.size)
    ⟨0, false, _, _, .none, _, rfl, by (try dsimp only); omega, Nat.zero_le _, rfl, rfl, ⟨[], rfl⟩, hend, hk0, F5, rfl, N5⟩
  rintro l n s₀ s' ⟨i, b, h, tk', old, m', rfl, htk', hi, rfl, rfl, ⟨pre, hpre⟩, hend', hk0', F6, hm6, N6⟩ ih
  clear F5 N5 hk0 hs1
  refine seg_forLoop ?_
  cases hx : x.cps[i]? with
  | none =>
    refine enum_end (by first | exact hA' | (show A'.handled = none; exact hA')) (N6 _ (.head _)).1 (N6 _ (.tail _ (.head _))).1 hx fun h' hk' => ?_
    have hi' : i = x.cps.size := Nat.le_antisymm hi (by simpa using hx)
    obtain ⟨g2, n2, z2⟩ := N6 _ (.tail _ (.head _))
    dsimp only at g2 n2 z2
    have F7 : Fr h₀ LG h' m' := by
      refine ⟨?_, fun b o e => ?_, F6.above⟩
      · obtain ⟨o, es, ep, hL, r⟩ := F6.ns
        exact ⟨o, es, ep, hk' _ _ (Ne.symm n2) hL, r⟩
      · refine hk' _ _ (fun q => ?_) (F6.keep _ _ e)
        rw [q, z2] at e; cases e
    have N7 : News h₀ LG h' (olds h₀ LG s₀.heap) := fun p hp => by
      obtain ⟨g, n, z⟩ := N6 p (.tail _ (.tail _ hp))
      refine ⟨hk' _ _ (fun q => ?_) g, n, z⟩
      have hc := (olds_mem.mp hp).2.2.1
      rw [q, g2] at g; rw [← Option.some.inj g] at hc; cases hc
    clear F6 N6
    have hb : b = false := by
      rw [List.drop_of_length_le (by simp [hi'])] at hend'
      exact hend'
    have hn : (escs i b (List.drop i x.cps.toList)).length = 0 := by
      rw [List.drop_of_length_le (by simp [hi'])]; cases b <;> rfl
    subst hb
    dsimp only
    refine seg_again rfl (seg_blockEnd ?_)
    dsimp only
    refine seg_execs_cons (seg_If ?_)
    refine wpAny_isTrue_value (ld F7 hm6 (wpAny_truthy_bool ?_))
    rw [if_neg Bool.false_ne_true]
    refine seg_execs_nil (seg_execs_nil ?_)
    refine seg_end (.ok (.ret .none)) ⟨rfl, hn, F7.keep, ?_, rfl, rfl, rfl, htk'⟩
    exact olds_keep hk0' F7.keep N7 fun _ h => h
  | some c =>
    refine enum_next (N6 _ (.head _)).1 (N6 _ (.tail _ (.head _))).1 hx hne fun h' T hTn heo hit' htup hk' => ?_
    obtain ⟨F7, N7⟩ := iter_upd F6 N6 rfl rfl heo hit' (fun b o h1 h2 h3 => hk' b o h1 h2 h3)
    clear F6 N6
    dsimp only
    refine wpAny_letOwnedTupleGo_enum heo fun h2 he2 hs2 => ?_
    have hTe : T ≠ eo := fun q => by
      rw [q, heo] at htup
      exact absurd (congrArg Obj.cls (Option.some.inj htup)) (by simp [tupObj])
    replace hs2 : Heap.SameBut eo h' h2 := hs2
    obtain ⟨F8, N8⟩ := iter_upd F7 N7 rfl rfl he2 (hs2.extBut _ _ (Ne.symm hne) hit') (fun b o h1 h2 h3 => hs2.extBut _ _ h1 h3)
    have htup2 := hs2.extBut _ _ hTe htup
    clear F7 N7
    refine wpAny_assign_Tuple (t := T) (items := #[.int i (tk' + 1), .str ⟨#[c]⟩ tk']) (by first | exact hA' | (show A'.handled = none; exact hA')) ⟨_, htup2, rfl, _, rfl⟩ rfl rfl fun h3 hx3 => ?_
    replace hx3 : ∀ b o, h2.get? b = some o → h3.get? b = some o := fun b o e => hx3 b o (Nat.ne_of_lt (Heap.lt_size e)) e
    have F9 := fr_keep F8 hx3
    have N9 := news_keep N8 hx3
    clear F8 N8
    dsimp only
    show wpAny _ _ (do holding [_] (assign (.Name _ _) _ _); do holding [] (assign (.Name _ _) _ _); pure ()) _ _ _
    refine wpAny_bind (wpAny_holding (wpAny_assign_Name (stN F9 N9 fun h4 F10 N10 => ?_)))
    refine wpAny_bind (wpAny_holding (wpAny_assign_Name (stN F10 N10 fun h5 F11 N11 => wpAny_pure ?_)))
    clear F9 N9 F10 N10
    refine seg_execs_cons (seg_If ?_)
    refine wpAny_isTrue_value (ld F11 hm6 (wpAny_truthy_bool ?_))
    have hlt : i < x.cps.size := (Array.getElem?_eq_some_iff.mp hx).1
    have hdrop : x.cps.toList.drop i = c :: x.cps.toList.drop (i + 1) := by
      rw [List.drop_eq_getElem_cons (by simpa using hlt)]
      simp [(Array.getElem?_eq_some_iff.mp hx).2]
    rw [hdrop] at hpre hend' ⊢
    cases b with
    | true =>
      rw [if_pos rfl]
      show Seg _ _ _ _ ((escs (i + 1) false (x.cps.toList.drop (i + 1))).length + 1) _ _ _ _ _
      refine seg_execs_cons (seg_Expr_Yield rfl rfl rfl (wpAny_with_toks (n := 1) (by show 1 ≤ _; dsimp only; omega) ?_))
      walk_at "my steps"
      rename Fr _ _ _ _ => F12
      rename News _ _ _ _ => N12
      rename_i D h6 _
      intro hk6 kap hkap
      refine yp_of (pos := i) (piece := [92, c]) h0L F12 (fun p hp => N12 p (.tail _ hp)) rfl rfl hk0' (by rw [hpre]; simp [escs]) (N12 _ (.head _)).1 hk6 fun s'' hs'' hk'' F13 N13 => ?_
      clear F12 N12 he2 htup htup2 heo hit' hs2 hk' hx3
      refine hkap .none s'' ?_
      dsimp only
      obtain ⟨hp'', g'', d'', tk'', os''⟩ := s''
      refine seg_execs_cons (seg_stmt ?_)
      walk_at "my steps"
      rename Fr _ _ _ _ => F14
      rename News _ _ _ _ => N14
      dsimp only
      refine seg_execs_nil (seg_execs_nil (seg_again rfl (ih (x.cps.size - (i + 1)) _ _ _ (by omega) ?_)))
      exact ⟨i + 1, false, _, _, _, _, rfl, Nat.le_succ_of_le hs'', hlt, rfl, rfl, ⟨pre ++ [(i, [92, c])], by rw [hpre]; simp [escs]⟩, hend', hk'', F14, rfl, N14⟩
    | false =>
      rw [if_neg Bool.false_ne_true]
      refine seg_execs_cons (seg_If ?_)
      walk_at "my steps"
      have hb : (({ cps := #[c] } : Str) == Str.ofString "\\") = decide (c = 92) := by
        by_cases h : c = 92
        · subst h; rfl
        · rw [decide_eq_false h]
          refine beq_eq_false_iff_ne.mpr fun e => h ?_
          have := congrArg (fun z : Str => z.cps.toList) e
          exact (List.cons.inj this).1
      rw [hb]
      by_cases hc : c = 92
      · subst hc
        rw [show decide (92 = 92) = true from rfl, if_pos rfl]
        refine seg_execs_cons (seg_stmt ?_)
        walk_at "my steps"
        rename Fr _ _ _ _ => F14
        rename News _ _ _ _ => N14
        dsimp only
        refine seg_execs_nil (seg_execs_nil (seg_execs_nil (seg_again rfl (ih (x.cps.size - (i + 1)) _ _ _ (by omega) ?_))))
        exact ⟨i + 1, true, _, _, _, _, rfl, by (try dsimp only); omega, hlt, rfl, rfl, ⟨pre, by rw [hpre]; simp [escs]⟩, hend', hk0', F14, rfl, N14⟩
      · rw [decide_eq_false hc, if_neg Bool.false_ne_true]
        have hesc : escs i false (c :: x.cps.toList.drop (i + 1)) = (i, [c]) :: escs (i + 1) false (x.cps.toList.drop (i + 1)) := by simp [escs, hc]
        rw [hesc] at hpre ⊢
        show Seg _ _ _ _ ((escs (i + 1) false (x.cps.toList.drop (i + 1))).length + 1) _ _ _ _ _
        refine seg_execs_cons (seg_Expr_Yield rfl rfl rfl (wpAny_with_toks (n := 1) (by show 1 ≤ _; dsimp only; omega) ?_))
        walk_at "my steps"
        rename Fr _ _ _ _ => F12
        rename News _ _ _ _ => N12
        rename_i D h6 _
        intro hk6 kap hkap
        refine yp_of (pos := i) (piece := [c]) h0L F12 (fun p hp => N12 p (.tail _ hp)) rfl rfl hk0' (by rw [hpre]; simp) (N12 _ (.head _)).1 hk6 fun s'' hs'' hk'' F13 N13 => ?_
        clear F12 N12 he2 htup htup2 heo hit' hs2 hk' hx3
        refine hkap .none s'' ?_
        dsimp only
        refine seg_execs_nil (seg_execs_nil (seg_execs_nil (seg_again rfl (ih (x.cps.size - (i + 1)) _ _ _ (by omega) ?_))))
        have hend2 : escEnd false (x.cps.toList.drop (i + 1)) = false := by
          have := hend'
          rw [escEnd, decide_eq_false hc] at this
          exact this
        exact ⟨i + 1, false, _, _, _, _, rfl, hs'', hlt, rfl, rfl, ⟨pre ++ [(i, [c])], by rw [hpre]; simp⟩, hend2, hk'', F13, hm6, N13⟩
end
end

section
open PySem PySem.W PyProof.Rows PySem.Calls PySem.Spec
set_option autoImplicit false
set_option Elab.async false
set_option maxRecDepth 100000
set_option maxHeartbeats 8000000
theorem bare_set {gens : Array GenState} {g : Nat} {y : GenState} (x : AllBare gens) (hy : y.bare = true) : AllBare (gens.setIfInBounds g y) := by
  intro z hz
  obtain ⟨i, hi, rfl⟩ := Array.mem_iff_getElem.mp hz
  rw [Array.getElem_setIfInBounds]
  · split
    · exact hy
    · exact x _ (Array.getElem_mem _)
  · simpa using hi
section
variable {w : World} {A : Around} {E : Value → Shared → Prop} {s : Shared} {h₀ : Heap} {LG a : Addr} {fp : List (Addr × Obj)} {items : List (Nat × List Nat)} {g n : Nat} {gs : GenState} {Q : Option Value → Shared → Prop}
theorem gen_next (hh : A.handled = none) (hl : s.heap.NoLimit) (hroom : A.depth < recursionLimit) (hg : s.heap.IsGen a g) (hgs : s.gens[g]? = some gs) (htk : 1 ≤ s.toks) (hO : OKp h₀ fp s.heap) (hok : GenOk w A.in1 h₀ LG items n gs fp)
    (hY : ∀ m pos piece tup t1 t2 fp' gs' h' gens' tk', n = m + 1 → items[items.length - 1 - m]? = some (pos, piece) → h'.get? tup = some (tupObj [.int (pos : Nat) t1, .str ⟨piece.toArray⟩ t2]) →
      (∀ b o, h₀.get? b = some o → h'.get? b = some o) → KeepI LG s.heap h' → Priv h₀ LG fp' h' → GenOk w A.in1 h₀ LG items m gs' fp' → gens'[g]? = some gs' → (AllBare s.gens → AllBare gens') → 1 ≤ tk' →
      Q (some (.ref tup)) ⟨h', gens', s.drawn, tk', s.os⟩)
    (hE : n = 0 → ∀ h' gens' tk', (∀ b o, h₀.get? b = some o → h'.get? b = some o) → KeepI LG s.heap h' → (AllBare s.gens → AllBare gens') → 1 ≤ tk' → Q none ⟨h', gens', s.drawn, tk', s.os⟩) :
    wpAny (model PR w) A (pyNext (.ref a)) Q E s := by
  have hgo := hok (s.setGen g .running) htk hO
  have hlt : g < s.gens.size := (Array.getElem?_eq_some_iff.mp hgs).1
  have getset : ∀ y : GenState, ((s.gens.setIfInBounds g GenState.running).setIfInBounds g y)[g]? = some y := fun y => by
    rw [Array.getElem?_setIfInBounds]; simp [hlt]
  have barset : ∀ y : GenState, y.bare = true → AllBare s.gens → AllBare ((s.gens.setIfInBounds g GenState.running).setIfInBounds g y) := fun y hy hb => by
    rw [Array.setIfInBounds_setIfInBounds]; exact bare_set hb hy
  unfold pyNext
  refine wpAny_bind (wpAny_attempt (wpAny_callSpecial?_slot (name := Str.ofString "__next__") hg.typeIs slot_gen_next
    (wpAny_call_entry slot_gen_next hg.typeIs entry_gen_next ?_ (args_gen_next _))))
  show wpAny _ A.in1 (Builtin.Generator.genWake (.ref a) (.send .none)) _ _ s
  unfold Builtin.Generator.genWake
  refine wpAny_bind (wpAny_holding (wpAny_genNumber hg (wpAny_bind (wpAny_genState hgs ?_))))
  cases gs with
  | running => exact hgo.elim
  | finished => exact hgo.elim
  | _ =>
    refine wpAny_bind (wpAny_roomToWake hl hroom ?_)
    show wpAny _ A.in1 (.resume g (.send .none) [] _) _ _ s
    refine wpAny_resumeQ hgs hgo (fun x s₁ hx => ?_) (fun v s₁ gs' hb hv => ?_)
    · obtain ⟨rfl, hn, h0k, hki, hgn, hdr, hos, htk1⟩ := hx
      show wpAny _ A.in1 (newExc (.type "StopIteration") [] >>= _) _ _ _
      refine wpAny_bind ?_
      simp only [newExc, newTuple]
      refine wpAny_bind (wpAny_newObj_type ?_ (by size_fits))
      refine wpAny_bind (m := firstArgMember _ _) (wpAny_of_eq (a := Value.none) (by first | rfl | (simp only [firstArgMember]; rfl)) ?_)
      refine wpAny_newObj_type ?_ (by size_fits)
      simp only [raiseNew]
      refine wpAny_bind (wpAny_bind (wpAny_handled ?_))
      first | rw [show A.in1.handled = none from hh] | rw [hh]
      refine wpAny_throw ?_
      refine wpAny_bind (wpAny_isInstance (T := "StopIteration") (b := true) ⟨_, Heap.get?_push_size _ rfl, rfl⟩ isSubtype_stop ?_)
      refine wpAny_pure ?_
      obtain ⟨hp1, gn1, dr1, tk1, os1⟩ := s₁
      dsimp only [Shared.setGen] at h0k hki hgn hdr hos htk1 ⊢
      subst hgn hdr hos
      exact hE hn _ _ _ (fun b o e => Heap.get?_push_of_some _ (Heap.get?_push_of_some _ (h0k b o e))) (fun b o h1 h2 e => Heap.get?_push_of_some _ (Heap.get?_push_of_some _ (hki b o h1 h2 e))) (barset _ rfl) htk1
    · refine wpAny_pure ⟨v, rfl, wpAny_pure ?_⟩
      obtain ⟨tup, pos, piece, t1, t2, fp', hit, rfl, htup, ⟨h0k, hki, hgn, hdr, hos, htk1⟩, hpr, hk⟩ := hv
      obtain ⟨hp1, gn1, dr1, tk1, os1⟩ := s₁
      dsimp only [Shared.setGen] at h0k hki hgn hdr hos htk1 htup hpr ⊢
      subst hgn hdr hos
      cases n with
      | zero => exact (hk ⟨hp1, #[], s.drawn, tk1, s.os⟩ htk1 ⟨h0k, fun p hp => (hpr p hp).1⟩).elim
      | succ m => exact hY m pos piece tup t1 t2 fp' gs' hp1 _ tk1 rfl hit htup h0k hki hpr hk (getset _) (barset _ hb) htk1
end
end

section
open PySem PySem.W PyProof.Rows PySem.Calls PySem.Spec
set_option autoImplicit false
set_option Elab.async false
set_option maxRecDepth 100000
set_option maxHeartbeats 8000000
section
variable {prog : Program} {w : World} {A : Around} {E : Value → Shared → Prop} {s : Shared}
theorem go_gen {elts : List Expr} {x1} {pos : Pos} {a T : Addr} {g : Nat} {Q : Unit → Shared → Prop} (hg : s.heap.IsGen a g) (hQ : Q () s) :
    wpAny (model prog w) A (letOwnedTupleGo (.Tuple elts x1 pos) (.ref a) (.ref T)) Q E s := by
  obtain ⟨o, nm, qn, ho, hc, hd, _⟩ := hg
  unfold letOwnedTupleGo
  refine wpAny_bind (wpAny_load ho ?_)
  rw [hc, hd]
  show wpAny _ A (if (["enumerate", "zip", "dict_itemiterator", "dict_reverseitemiterator", "odict_iterator", "itertools.zip_longest", "itertools.pairwise"].contains "generator" &&
      (#[.int g 0, nm, qn] : Array Value)[0]? == some (rawInt T)) = true then _ else _) Q E s
  rw [if_neg (by
    intro h
    rw [show (["enumerate", "zip", "dict_itemiterator", "dict_reverseitemiterator", "odict_iterator", "itertools.zip_longest", "itertools.pairwise"].contains "generator") = false from by decide, Bool.false_and] at h
    cases h)]
  exact wpAny_pure hQ
end
theorem fr_gen {h₀ h h' : Heap} {L LG : Addr} {m : Str → Option Value} (F : Fr h₀ L h m) (hLL : L ≠ LG) (hk0 : ∀ b o, h₀.get? b = some o → h'.get? b = some o) (hki : KeepI LG h h') : Fr h₀ L h' m := by
  obtain ⟨o, es, ep, hL, hLd, r⟩ := F.ns
  exact ⟨⟨o, es, ep, hki L o hLL (iterCls_dict hLd) hL, hLd, r⟩, hk0, F.above⟩
noncomputable def OkN (LG a : Addr) (news : List (Addr × Obj)) : Prop := ∀ q ∈ news, iterCls q.2 = false ∧ q.1 ≠ LG ∧ q.1 ≠ a
theorem news_gen {h₀ h h' : Heap} {L LG a : Addr} {news : List (Addr × Obj)} (N : News h₀ L h news) (hO : OkN LG a news) (hki : KeepI LG h h') : News h₀ L h' news :=
  fun p hp => ⟨hki _ _ (hO p hp).2.1 (hO p hp).1 (N p hp).1, (N p hp).2⟩
theorem gen_gen {h h' : Heap} {LG a : Addr} {g : Nat} (hG : h.IsGen a g) (haLG : a ≠ LG) (hki : KeepI LG h h') : h'.IsGen a g := by
  obtain ⟨o, nm, qn, ho, hc, hd, hs⟩ := hG
  refine ⟨o, nm, qn, hki _ _ haLG ?_ ho, hc, hd, hs⟩
  unfold iterCls
  rw [hd, hc]
  rfl
inductive JEl (w : World) (A : Around) (h₀ : Heap) (L LG a : Addr) (items : List (Nat × List Nat)) (g : Nat) (s : Shared) (J : Nat → (Str → Option Value) → List (Addr × Obj) → Prop) (n : Nat) (s' : Shared) : Prop
  | mk (h : Heap) (tk : Nat) (gens : Array GenState) (gs : GenState) (fp : List (Addr × Obj)) (k : Nat) (m₁ : Str → Option Value) (news₁ : List (Addr × Obj)) (_ : s' = ⟨h, gens, s.drawn, tk, s.os⟩) (_ : 1 ≤ tk) (_ : k ≤ items.length) (_ : n = items.length - k) (_ : GenOk w A.in1 h₀ LG items (items.length - k) gs fp) (_ : gens[g]? = some gs) (_ : h.IsGen a g) (_ : Priv h₀ LG fp h) (_ : Fr h₀ L h m₁) (_ : News h₀ L h news₁) (_ : OkN LG a news₁) (_ : J k m₁ news₁) (_ : (AllBare s.gens → AllBare gens)) : JEl w A h₀ L LG a items g s J n s'
section
variable {w : World} {A : Around} {E : Value → Shared → Prop} {s : Shared} {h₀ : Heap} {L LG a f : Addr} {fp : List (Addr × Obj)} {items : List (Nat × List Nat)} {g : Nat} {gs : GenState}
  {name : Str} {scope : Scope} {cd : Value} {m : Str → Option Value} {news : List (Addr × Obj)} {R : Result → Shared → Prop} {xi xv : Str} {pi pv pt : Pos} {x1} {body : List Stmt}
theorem escs_loop (hh : A.handled = none) (hl : h₀.NoLimit) (hroom : A.depth < recursionLimit) (hk : scope.kind = .function) (hxi : (envOf name scope L f cd).kindOf xi = some .local) (hxv : (envOf name scope L f cd).kindOf xv = some .local)
    (hG : s.heap.IsGen a g) (hgs : s.gens[g]? = some gs) (htk : 1 ≤ s.toks) (hP : Priv h₀ LG fp s.heap) (hok : GenOk w A.in1 h₀ LG items items.length gs fp) (h0a : h₀.get? a = none) (haL : a ≠ L) (hLL : L ≠ LG) (haLG : a ≠ LG)
    (F : Fr h₀ L s.heap m) (N : News h₀ L s.heap news) (hO : OkN LG a news)
    (J : Nat → (Str → Option Value) → List (Addr × Obj) → Prop) (h0 : J 0 m news)
    (step : ∀ k pos piece t1 t2 m₁ news₁ h tk gens own, items[k]? = some (pos, piece) → J k m₁ news₁ → OkN LG a news₁ → (∀ p ∈ own, ∀ q ∈ news₁, p.1 ≠ q.1) → 1 ≤ tk → (AllBare s.gens → AllBare gens) →
      Fr h₀ L h (fun y => if y = xv then some (.str ⟨piece.toArray⟩ t2) else if y = xi then some (.int (pos : Nat) t1) else m₁ y) → News h₀ L h (news₁ ++ own) →
      wpAny (model PR w) A (execs body (envOf name scope L f cd)) (fun fl s₃ => match fl with
        | .next => ∃ h' tk' m₂ news₂, s₃ = ⟨h', gens, s.drawn, tk', s.os⟩ ∧ 1 ≤ tk' ∧ Fr h₀ L h' m₂ ∧ News h₀ L h' (news₂ ++ own) ∧ OkN LG a news₂ ∧ J (k + 1) m₂ news₂
        | .ret v => R (.ok (.ret v)) s₃
        | _ => False) (notedBy (model PR w) A (envOf name scope L f cd) fun e s' => R (.error e) s') ⟨h, gens, s.drawn, tk, s.os⟩)
    (hend : ∀ m₁ news₁ h tk gens, J items.length m₁ news₁ → OkN LG a news₁ → 1 ≤ tk → (AllBare s.gens → AllBare gens) → Fr h₀ L h m₁ → News h₀ L h news₁ → R (.ok .next) ⟨h, gens, s.drawn, tk, s.os⟩) :
    codeAny (model PR w) A (.forLoop (.Tuple [.Name xi pi, .Name xv pv] x1 pt) (.ref a) body [] (envOf name scope L f cd)) R s := by
  refine codeAny_forLoop_any (JEl w A h₀ L LG a items g s J) ?_ items.length
    ⟨s.heap, s.toks, s.gens, gs, fp, 0, m, news, rfl, htk, Nat.zero_le _, rfl, hok, hgs, hG, hP, F, N, hO, h0, fun h => h⟩
  clear hG hgs htk hP hok F N hO h0
  rintro n s' ⟨h, tk, gens, gs, fp, k, m₁, news₁, rfl, htk, hkl, rfl, hok, hgs, hG, hP, F, N, hO, hJ, hb⟩
  refine gen_next hh (hl.keeps F.keep) hroom hG hgs htk ⟨F.keep, fun p hp => (hP p hp).1⟩ hok ?_ ?_
  · intro mm pos piece tup t1 t2 fp' gs' h' gens' tk' hm hit htup hk0 hki hP' hok' hgs' hb' htk'
    have hk1 : items.length - 1 - mm = k := by omega
    rw [hk1] at hit
    have hkl' : k < items.length := by omega
    dsimp only at hki
    have F1 := fr_gen F hLL hk0 hki
    have N1 := news_gen N hO hki
    have hG1 := gen_gen hG haLG hki
    refine go_gen hG1 ?_
    refine wpAny_assign_Tuple (t := tup) (items := #[.int (pos : Nat) t1, .str ⟨piece.toArray⟩ t2]) hh ⟨_, htup, rfl, _, rfl⟩ rfl rfl fun h3 hx3 => ?_
    replace hx3 : ∀ b o, h'.get? b = some o → h3.get? b = some o := fun b o e => hx3 b o (Nat.ne_of_lt (Heap.lt_size e)) e
    obtain ⟨og, nm, qn, hgo, hgr⟩ := id hG1
    have NO : News h₀ L h' (news₁ ++ (a, og) :: fp') := fun p hp => by
      rcases List.mem_append.mp hp with hp | hp
      · exact N1 p hp
      rcases List.mem_cons.mp hp with rfl | hp
      · exact ⟨hgo, haL, h0a⟩
      · refine ⟨(hP' p hp).1, fun q => ?_, (hP' p hp).2.1⟩
        obtain ⟨oL, es, ep, hL, hLd, _⟩ := F1.ns
        rcases (hP' p hp).2.2 with r | r
        · exact hLL (q.symm.trans r)
        · have := (hP' p hp).1
          rw [q, hL] at this
          rw [← Option.some.inj this, iterCls_dict hLd] at r
          cases r
    have hdis : ∀ p ∈ (a, og) :: fp', ∀ q ∈ news₁, p.1 ≠ q.1 := fun p hp q hq e => by
      obtain ⟨c1, c2, c3⟩ := hO q hq
      rcases List.mem_cons.mp hp with rfl | hp
      · exact c3 e.symm
      · rcases (hP' p hp).2.2 with r | r
        · exact c2 (e.symm.trans r)
        · have h1 := (hP' p hp).1
          have h2 := (N1 q hq).1
          rw [e, h2] at h1
          rw [Option.some.inj h1, r] at c1
          cases c1
    have F2 := fr_keep F1 hx3
    have N2 := news_keep NO hx3
    clear F1 N1 NO F N
    show wpAny _ _ (do holding [_] (assign (.Name _ _) _ _); do holding [] (assign (.Name _ _) _ _); pure ()) _ _ _
    refine wpAny_bind (wpAny_holding (wpAny_assign_Name (stN F2 N2 (fun h4 F3 N3 => ?_) hk hxi)))
    refine wpAny_bind (wpAny_holding (wpAny_assign_Name (stN F3 N3 (fun h5 F4 N4 => wpAny_pure ?_) hk hxv)))
    clear F2 N2 F3 N3
    refine wpAny_mono (step k pos piece t1 t2 m₁ news₁ h5 _ gens' _ hit hJ hO hdis (by show 1 ≤ _; dsimp only; omega) (fun x => hb' (hb x)) F4 N4) (fun fl s₃ hfl => ?_) fun _ _ x => x
    cases fl with
    | next =>
      obtain ⟨h6, tk6, m₂, news₂, rfl, htk6, F6, N6, hO6, hJ6⟩ := hfl
      refine ⟨items.length - (k + 1), by omega, h6, tk6, gens', gs', fp', k + 1, m₂, news₂, rfl, htk6, hkl', rfl, ?_, hgs', ?_, fun p hp => ?_, F6, fun p hp => N6 p (List.mem_append.mpr (.inl hp)), hO6, hJ6, fun x => hb' (hb x)⟩
      · rw [show items.length - (k + 1) = mm by omega]; exact hok'
      · exact ⟨og, nm, qn, (N6 _ (List.mem_append.mpr (.inr (.head _)))).1, hgr⟩
      · exact ⟨(N6 p (List.mem_append.mpr (.inr (.tail _ hp)))).1, (hP' p hp).2⟩
    | brk => exact hfl.elim
    | cont => exact hfl.elim
    | ret v => exact hfl
  · intro hn h' gens' tk' hk0 hki hb' htk'
    dsimp only at hki
    refine wpAny_execs_nil ?_
    have e : k = items.length := by omega
    exact hend m₁ news₁ h' tk' gens' (e ▸ hJ) hO htk' (fun x => hb' (hb x)) (fr_gen F hLL hk0 hki) (news_gen N hO hki)
theorem escs_loopG (hh : A.handled = none) (hl : h₀.NoLimit) (hroom : A.depth < recursionLimit) (hk : scope.kind = .function) (hxi : (envOf name scope L f cd).kindOf xi = some .local) (hxv : (envOf name scope L f cd).kindOf xv = some .local)
    (hG : s.heap.IsGen a g) (hgs : s.gens[g]? = some gs) (htk : 1 ≤ s.toks) (hP : Priv h₀ LG fp s.heap) (hok : GenOk w A.in1 h₀ LG items items.length gs fp) (h0a : h₀.get? a = none) (haL : a ≠ L) (hLL : L ≠ LG) (haLG : a ≠ LG)
    (F : Fr h₀ L s.heap m) (N : News h₀ L s.heap news) (hO : OkN LG a news)
    (J : Nat → (Str → Option Value) → List (Addr × Obj) → Prop) (h0 : J 0 m news)
    (step : ∀ k pos piece t1 t2 m₁ news₁ h tk gens own, items[k]? = some (pos, piece) → J k m₁ news₁ → OkN LG a news₁ → (∀ p ∈ own, ∀ q ∈ news₁, p.1 ≠ q.1) → 1 ≤ tk → (AllBare s.gens → AllBare gens) →
      Fr h₀ L h (fun y => if y = xv then some (.str ⟨piece.toArray⟩ t2) else if y = xi then some (.int (pos : Nat) t1) else m₁ y) → News h₀ L h (news₁ ++ own) →
      ∀ (Q' : Flow → Shared → Prop) (E' : Value → Shared → Prop), (∀ {h' : Heap} {tk' : Nat} {m₂ : Str → Option Value} {news₂ : List (Addr × Obj)}, 1 ≤ tk' → Fr h₀ L h' m₂ → News h₀ L h' (news₂ ++ own) → OkN LG a news₂ → J (k + 1) m₂ news₂ → Q' .next ⟨h', gens, s.drawn, tk', s.os⟩) →
      (∀ {v : Value} {s₃ : Shared}, R (.ok (.ret v)) s₃ → Q' (.ret v) s₃) →
      wpAny (model PR w) A (execs body (envOf name scope L f cd)) Q' E' ⟨h, gens, s.drawn, tk, s.os⟩)
    (hend : ∀ m₁ news₁ h tk gens, J items.length m₁ news₁ → OkN LG a news₁ → 1 ≤ tk → (AllBare s.gens → AllBare gens) → Fr h₀ L h m₁ → News h₀ L h news₁ → R (.ok .next) ⟨h, gens, s.drawn, tk, s.os⟩) :
    codeAny (model PR w) A (.forLoop (.Tuple [.Name xi pi, .Name xv pv] x1 pt) (.ref a) body [] (envOf name scope L f cd)) R s :=
  escs_loop hh hl hroom hk hxi hxv hG hgs htk hP hok h0a haL hLL haLG F N hO J h0 (fun k pos piece t1 t2 m₁ news₁ h tk gens own hi hJ hO hd ht hb F N =>
    step k pos piece t1 t2 m₁ news₁ h tk gens own hi hJ hO hd ht hb F N _ _ (fun ht2 F2 N2 hO2 hJ2 => ⟨_, _, _, _, rfl, ht2, F2, N2, hO2, hJ2⟩) fun h => h) hend
end
end

section
open PySem PySem.W PyProof.Rows PySem.Calls PySem.Spec
set_option Elab.async false
set_option maxRecDepth 100000
set_option maxHeartbeats 8000000
noncomputable def bitObj (b : Array UInt8) (t : Tok) (i : Nat) : Obj := { cls := .type "bytes_iterator", data := .fields #[.bytes b t, .int i 0] }
noncomputable def bitEnd : Array UInt8 → Nat → Obj := fun _ i => { cls := .type "bytes_iterator", data := .fields #[.none, .int i 0] }
theorem bit_iter {h : Heap} {a : Addr} {b : Array UInt8} {t : Tok} {i : Nat} (e : h.get? a = some (bitObj b t i)) : KBw.IsBytesIter h a b t i := ⟨_, e, rfl, rfl⟩
theorem ownMembers_stop : ownMembersOf (.type "StopIteration") [] = #[] := by
  unfold ownMembersOf
  split <;> first | rfl | (rename_i h; revert h; decide) | simp_all
section
variable {prog : Program} {w : World} {A : Around} {E : Value → Shared → Prop} {s : Shared} {it : Addr} {b : Array UInt8} {t : Tok} {i : Nat} {Q : Value → Shared → Prop}

theorem next_item {c : UInt8} (hit : s.heap.get? it = some (bitObj b t i)) (hx : b[i]? = some c)
    (h : Q (.int (c.toNat : Int) s.toks) { s with heap := s.heap.update it (Obj.mapFields (·.setIfInBounds 1 (rawInt ((i : Int) + 1)))), toks := s.toks + 1 }) :
    wpAny (model prog w) A (call (.builtin "next") [.ref it]) Q E s := by
  have hi := bit_iter hit
  refine call_function_entry (by decide +kernel) (by decide +kernel) kdk_entry_next (kdk_args_next _) ?_
  unfold Builtin.«next»
  refine wpAny_bind (m := someArgs "next" 1 2 _) (wpAny_of_eq (a := [Value.ref it]) (by first | rfl | kernel_rfl!) ?_)
  dsimp only
  refine wpAny_bind (wpAny_specialOf (name := Str.ofString "__next__") (KBw.iter_typeIs hi) KBw.slot_next.lookup ?_)
  refine wpAny_ite_split (fun hab => absurd hab (by decide)) (fun _ => ?_)
  refine wpAny_bind (wpAny_callSpecial?_slot (name := Str.ofString "__next__") (KBw.iter_typeIs hi) KBw.slot_next
    (wpAny_call_entry KBw.slot_next (KBw.iter_typeIs hi) KBw.entry_next ?_ (KBw.args_next _)))
  show wpAny _ _ (field (.ref it) 0 >>= _) _ _ s
  refine wpAny_bind (wpAny_field hit rfl (x := .bytes b t) rfl ?_)
  show wpAny _ _ (if (Value.bytes b t == Value.none) = true then _ else _) _ _ s
  rw [if_neg (show ¬ ((Value.bytes b t == Value.none) = true) from Bool.false_ne_true)]
  show wpAny _ _ (field (.ref it) 1 >>= _) _ _ s
  refine wpAny_bind (wpAny_field hit rfl (x := .int i 0) rfl ?_)
  refine wpAny_bind (wpAny_of_eq (a := b) rfl ?_)
  simp only [Int.toNat_natCast, hx]
  refine wpAny_bind (wpAny_setField hit rfl (by simp [bitObj]) (wpAny_bind (wpAny_mkInt (wpAny_pure ⟨_, rfl, wpAny_pure ⟨_, rfl, h⟩⟩))))

theorem next_end (hh : A.handled = none) (hit : s.heap.get? it = some (bitObj b t i)) (hx : b[i]? = none)
    (h : ∀ h' e, Heap.MadeExcOf (s.heap.update it (Obj.mapFields (·.setIfInBounds 0 .none))) h' e (.type "StopIteration") [] → E (.ref e) { s with heap := h' }) :
    wpAny (model prog w) A (call (.builtin "next") [.ref it]) Q E s := by
  have hi := bit_iter hit
  refine call_function_entry (by decide +kernel) (by decide +kernel) kdk_entry_next (kdk_args_next _) ?_
  unfold Builtin.«next»
  refine wpAny_bind (m := someArgs "next" 1 2 _) (wpAny_of_eq (a := [Value.ref it]) (by first | rfl | kernel_rfl!) ?_)
  dsimp only
  refine wpAny_bind (wpAny_specialOf (name := Str.ofString "__next__") (KBw.iter_typeIs hi) KBw.slot_next.lookup ?_)
  refine wpAny_ite_split (fun hab => absurd hab (by decide)) (fun _ => ?_)
  refine wpAny_bind (wpAny_callSpecial?_slot (name := Str.ofString "__next__") (KBw.iter_typeIs hi) KBw.slot_next
    (wpAny_call_entry KBw.slot_next (KBw.iter_typeIs hi) KBw.entry_next ?_ (KBw.args_next _)))
  show wpAny _ _ (field (.ref it) 0 >>= _) _ _ s
  refine wpAny_bind (wpAny_field hit rfl (x := .bytes b t) rfl ?_)
  show wpAny _ _ (if (Value.bytes b t == Value.none) = true then _ else _) _ _ s
  rw [if_neg (show ¬ ((Value.bytes b t == Value.none) = true) from Bool.false_ne_true)]
  show wpAny _ _ (field (.ref it) 1 >>= _) _ _ s
  refine wpAny_bind (wpAny_field hit rfl (x := .int i 0) rfl ?_)
  refine wpAny_bind (wpAny_of_eq (a := b) rfl ?_)
  simp only [Int.toNat_natCast, hx]
  refine wpAny_bind (wpAny_rule (wpAny_bind (wpAny_setField hit rfl (by simp [bitObj]) ?_)))
  show wpAny _ _ (newExc (.type "StopIteration") [] >>= _) _ _ _
  refine wpAny_bind ?_
  simp only [newExc, newTuple]
  refine wpAny_bind (wpAny_newObj_type ?_ (by size_fits))
  refine wpAny_bind (m := firstArgMember _ _) (wpAny_of_eq (a := Value.none) (by first | rfl | (simp only [firstArgMember]; rfl)) ?_)
  refine wpAny_newObj_type ?_ (by size_fits)
  simp only [raiseNew]
  refine wpAny_bind (wpAny_handled ?_)
  first | rw [show A.in1.handled = none from hh] | rw [show A.in1.in1.handled = none from hh]
  refine wpAny_throw ?_
  have hg : (s.heap.update it (Obj.mapFields (·.setIfInBounds 0 .none))).objs.size = s.heap.objs.size := Heap.size_after_update ..
  refine h _ _ ⟨fun b o hb => Heap.get?_push_of_some _ (Heap.get?_push_of_some _ hb), Heap.get?_none_of_le (by simp), (s.heap.update it (Obj.mapFields (·.setIfInBounds 0 .none))).objs.size, ?_, Heap.get?_none_of_le (Nat.le_refl _), ?_⟩
  · rw [Heap.get?_push_size _ (by rfl), ownMembers_stop]; rfl
  · exact Heap.get?_push_of_some _ (Heap.get?_push_size _ rfl)
end
theorem bit_next {b : Array UInt8} {t : Tok} {i : Nat} : Obj.mapFields (·.setIfInBounds 1 (rawInt ((i : Int) + 1))) (bitObj b t i) = bitObj b t (i + 1) := by
  simp [Obj.mapFields, bitObj, rawInt]
theorem bit_ended {b : Array UInt8} {t : Tok} {i : Nat} : Obj.mapFields (·.setIfInBounds 0 .none) (bitObj b t i) = bitEnd b i := by
  simp [Obj.mapFields, bitObj, bitEnd]
end

section
open PySem PyProof.Rows
set_option maxRecDepth 100000
/-- what _parse_varint tells of a row of signs -/
noncomputable def tval (l : List Nat) : Nat := l.foldl (fun v u => v * 64 + u % 64) 0
/-- one number's row: all signs but the last bear the 64, the last does not -/
noncomputable def IsTok : List Nat → Prop
  | [] => False
  | [z] => z < 64
  | u :: r => 64 ≤ u ∧ u < 128 ∧ IsTok r
theorem isTok_cons {u v : Nat} {r : List Nat} : IsTok (u :: v :: r) ↔ 64 ≤ u ∧ u < 128 ∧ IsTok (v :: r) := Iff.rfl
theorem isTok_ne {l : List Nat} (h : IsTok l) : l ≠ [] := by intro e; subst e; exact h
theorem isTok_lt : ∀ {l : List Nat}, IsTok l → ∀ u ∈ l, u < 128
  | [z], h, u, hu => by
    have : z < 64 := h
    have := List.mem_singleton.mp hu; omega
  | a :: b :: r, h, u, hu => by
    rcases List.mem_cons.mp hu with rfl | hu
    · exact h.2.1
    · exact isTok_lt h.2.2 u hu

theorem and64 : ∀ c, c < 128 → (c &&& 64) = if 64 ≤ c then 64 else 0 := by decide +kernel
theorem bit64 {c : Nat} (h : c < 128) : (Builtin.bitAnd (c : Int) 64 != 0) = decide (64 ≤ c) := by
  rw [bitAnd_pp (by omega) (by omega)]
  have := and64 c h
  simp only [Int.toNat_natCast]
  rw [show (64 : Int).toNat = 64 from rfl, this]
  by_cases q : 64 ≤ c <;> simp [q]
theorem bit63 (c : Nat) : Builtin.bitAnd (c : Int) 63 = ((c % 64 : Nat) : Int) := by
  rw [bitAnd_m6]; omega
theorem or_low (v c : Nat) : Builtin.bitOr ((v : Int) * 64) ((c % 64 : Nat) : Int) = ((v * 64 + c % 64 : Nat) : Int) := by
  rw [bitOr_and, bitAnd_pp (by omega) (by omega)]
  have h1 : ((v : Int) * 64).toNat = v <<< 6 := by rw [Nat.shiftLeft_eq]; omega
  have h2 : ((c % 64 : Nat) : Int).toNat = c % 64 := by omega
  have h3 := Nat.shiftLeft_add_eq_or_of_lt (i := 6) (b := c % 64) (Nat.mod_lt _ (by decide)) v
  have h4 := nat_or_add_and (v <<< 6) (c % 64)
  rw [h1, h2]
  have h5 : v <<< 6 = v * 64 := by rw [Nat.shiftLeft_eq]
  have h6 : (v <<< 6 &&& c % 64) = 0 := by omega
  rw [h6]; omega
theorem tval_snoc (l : List Nat) (u : Nat) : tval (l ++ [u]) = tval l * 64 + u % 64 := by simp [tval]
theorem tval_lt' : ∀ (l : List Nat) (v k : Nat), v < 64 ^ k → l.foldl (fun v u => v * 64 + u % 64) v < 64 ^ (k + l.length)
  | [], v, k, h => by simpa using h
  | u :: r, v, k, h => by
    have h1 : u % 64 < 64 := Nat.mod_lt _ (by decide)
    have h2 := tval_lt' r (v * 64 + u % 64) (k + 1) (by rw [Nat.pow_succ]; omega)
    rw [show k + (u :: r).length = k + 1 + r.length by simp; omega]
    exact h2
theorem tval_lt (l : List Nat) : tval l < 64 ^ l.length := by
  have := tval_lt' l 0 0 (by decide)
  simpa [tval] using this
end

section
open PySem PySem.W PyProof.Rows PySem.Calls PySem.Spec
set_option Elab.async false
set_option maxRecDepth 100000
set_option maxHeartbeats 8000000
theorem fillV : PySem.Challenge.rw_wb0031_01 = PySem.Challenge.rw_wb0031_01 ∧ hd.heap_39 = hd.heap_39 := by
  k_fill
  exact ⟨rfl, rfl⟩
inductive JVi (g0 : Heap) (L' : Addr) (g : Array GenState) (d : Drawn) (os : OsState) (it : Addr) (bs : Array UInt8) (t : Tok) (i : Nat) (ts : List Nat) (n : Nat) (s' : Shared) : Prop
  | mk (h : Heap) (tk' : Nat) (tv tb : Tok) (c : Nat) (p q : List Nat) (_ : s' = ⟨h, g, d, tk', os⟩) (_ : Fr g0 L' h (fun y => if y = Str.ofString "val" then some (.int (tval (p ++ [c]) : Nat) tv) else if y = Str.ofString "b" then some (.int c tb) else List.lookup y (List.reverse [(Str.ofString "iterator", Value.ref it)]))) (_ : News g0 L' h [(it, bitObj bs t (i + (p.length + 1)))]) (_ : ts = p ++ c :: q) (_ : n = q.length) : JVi g0 L' g d os it bs t i ts n s'
section
variable {w : World} {A₀ A : Around} {s : Shared} {base h₀ : Heap} {outer : List Env} {L : Addr} {m : Str → Option Value} {env : Env} {mean : ExcName → Option Value} {mg mb : Str → Option Value} {rest : List (Addr × Obj)}
  {it : Addr} {bs : Array UInt8} {t : Tok} {i : Nat} {Q E : Value → Shared → Prop}
theorem fr_two {h₀ h : Heap} {L : Addr} {x1 x2 : Str} {v1 v2 v3 v4 v5 : Value} {m0 : Str → Option Value}
    (F : Fr h₀ L h (fun y => if y = x1 then some v1 else if y = x2 then some v2 else if y = x1 then some v3 else if y = x1 then some v4 else if y = x2 then some v5 else m0 y)) :
    Fr h₀ L h (fun y => if y = x1 then some v1 else if y = x2 then some v2 else m0 y) := by
  have e : (fun y => if y = x1 then some v1 else if y = x2 then some v2 else if y = x1 then some v3 else if y = x1 then some v4 else if y = x2 then some v5 else m0 y) = (fun y => if y = x1 then some v1 else if y = x2 then some v2 else m0 y) := by
    funext y
    by_cases h1 : y = x1
    · simp [h1]
    · by_cases h2 : y = x2
      · simp [h1, h2]
      · simp [h1, h2]
  exact e ▸ F
theorem varint_ok (ts : List Nat) (G : Gr w mean mg mb A₀ base outer h₀) (F : Fr h₀ L s.heap m) (N : News h₀ L s.heap [(it, bitObj bs t i)]) (hA : A.frames = some (env :: outer)) (hf : env.frame = some L) (hke : env.scope.kind = .function)
    (hroom : A.depth < recursionLimit) (htk : 1 ≤ s.toks) (htok : IsTok ts) (h8 : ts.length ≤ 8) (hat : ∀ j u, ts[j]? = some u → ∃ c : UInt8, bs[i + j]? = some c ∧ c.toNat = u)
    (hret : ∀ h' t' tk', (∀ b o, b ≠ it → s.heap.get? b = some o → h'.get? b = some o) → h'.get? it = some (bitObj bs t (i + ts.length)) → 1 ≤ tk' → Q (.int (tval ts) t') ⟨h', s.gens, s.drawn, tk', s.os⟩) :
    wpAny (model PySem.Challenge.rw_wb0031_01.row.prog w) A (call (.ref 49) [.ref it]) Q E s := by
  refine wpAny_with_toks htk ?_
  obtain ⟨hp, g, d, tk0, os⟩ := s
  refine wpAny_call ?_
  refine' enterN (binds := [(Str.ofString "iterator", .ref it)]) G F N hA hf hke hroom ?k6 ?k7 ?k9 ?kB ?_ ?c2 ?c3 ?c4 ?c5
  walk_at "my entered"
  intro L' h₁ F1 N1 G1
  dsimp only at F1 N1 G1 hret htk
  have B := G1.B
  have X := G1.X
  have T : Top hd.view_39 (looseW hd.view_39 []) mean mg mb _ := G1.T
  clear F N G
  generalize hg0 : hideAll hp (List.map (fun x => x.fst) [(it, bitObj bs t i)]) = g0 at F1 N1 G1 B X T
  have hkeep : ∀ b o, b ≠ it → hp.get? b = some o → g0.get? b = some o := fun b o hb e => by
    rw [← hg0]; exact hideAll_get _ e (by simpa using hb)
  obtain ⟨u, r, hr⟩ : ∃ u r, ts = u :: r := by
    cases ts with
    | nil => exact (isTok_ne htok rfl).elim
    | cons u r => exact ⟨u, r, rfl⟩
  obtain ⟨c, hc, hcu⟩ := hat 0 u (by rw [hr]; rfl)
  walk_at "my steps"
  refine next_item (N1 _ (.head _)).1 hc ?_
  obtain ⟨F2, N2⟩ := news_upd (pre := []) (post := []) F1 N1 (fun _ h => nomatch h) (fun _ h => nomatch h) bit_next rfl
  dsimp only
  generalize h₁.update it _ = h2 at F2 N2 ⊢
  walk_at "my steps"
  rename Fr _ _ _ _ => F3
  rename News _ _ _ _ => N3
  simp only [List.nil_append] at N3
  simp only [bit63] at F3
  have hlt := isTok_lt htok
  have hsuf : ∀ {p : List Nat} {a : Nat} {q : List Nat}, ts = p ++ a :: q → IsTok (a :: q) := by
    intro p
    have : ∀ (p l : List Nat), IsTok (p ++ l) → l ≠ [] → IsTok l := by
      intro p
      induction p with
      | nil => intro l h _; exact h
      | cons x p ih =>
        intro l h hn
        refine ih l ?_ hn
        cases hpl : p ++ l with
        | nil => exact (hn (List.append_eq_nil_iff.mp hpl).2).elim
        | cons y z => rw [List.cons_append, hpl] at h; exact h.2.2
    exact fun {a q} e => this p (a :: q) (e ▸ htok) (by simp)
  refine wpAny_While (codeAny_whileLoop (JVi g0 L' g d os it bs t i ts) (fun n s' hI => ?_) r.length ?_)
  rotate_left
  · have e1 : u % 64 = tval ([] ++ [u]) := by simp [tval]
    rw [hcu, e1] at F3
    exact ⟨_, _, _, _, u, [], r, rfl, F3, N3, hr, rfl⟩
  obtain ⟨h, tk', tv, tb, c', p, q, rfl, F4, N4, e, rfl⟩ := hI
  have hc' : c' < 128 := hlt c' (by rw [e]; simp)
  clear F3 N3
  refine wpAny_isTrue_value (wpAny_BinOp (ld F4 rfl (wpAny_Constant_int (and_int (truthy_int ?_)))))
  rw [bit64 hc']
  cases q with
  | nil =>
    have hz : c' < 64 := hsuf e
    rw [decide_eq_false (by omega)]
    rw [if_neg Bool.false_ne_true]
    refine wpAny_execs_nil ?_
    dsimp only
    walk_at "my steps"
    intro hk1
    rw [← e]
    refine hret h tv _ (fun b o hb eo => F4.keep _ _ (hkeep b o hb eo)) ?_ hk1
    have := (N4 _ (.head _)).1
    rw [this, e]
    simp
  | cons v q =>
    have hz : 64 ≤ c' := (hsuf e).1
    rw [decide_eq_true hz]
    rw [if_pos rfl]
    have hl : (p ++ [c']).length ≤ 8 := by
      have : ts.length = p.length + (q.length + 2) := by rw [e]; simp
      simp; omega
    have hsm : (tval (p ++ [c']) : Int).natAbs < 2 ^ 64 := by
      have h1 := tval_lt (p ++ [c'])
      have h2 : 64 ^ (p ++ [c']).length ≤ 64 ^ 8 := Nat.pow_le_pow_right (by decide) hl
      have h3 : (64 : Nat) ^ 8 < 2 ^ 64 := by decide
      rw [Int.natAbs_natCast]; omega
    obtain ⟨c2, hc2, hcu2⟩ := hat (p.length + 1) v (by rw [e]; simp)
    walk_at "my hop"
    refine wpAny_AugAssign_Name (ldn F4 rfl (wpAny_Constant_int (ilshift_int_small (n := 6) (by decide) (by decide) hsm (stN F4 N4 fun h5 F5 N5 => ?_))))
    clear F4 N4
    dsimp only
    walk_at "my steps"
    refine next_item (N5 _ (.head _)).1 hc2 ?_
    obtain ⟨F6, N6⟩ := news_upd (pre := []) (post := []) F5 N5 (fun _ h => nomatch h) (fun _ h => nomatch h) bit_next rfl
    dsimp only
    generalize h5.update it _ = h6 at F6 N6 ⊢
    clear F5 N5
    walk_at "my steps"
    rename Fr _ _ _ _ => F7
    rename News _ _ _ _ => N7
    simp only [List.nil_append] at N7
    have e2 : Builtin.bitOr ((tval (p ++ [c']) : Int) * 2 ^ Int.toNat 6) (Builtin.bitAnd (c2.toNat : Int) 63) = ((tval ((p ++ [c']) ++ [v]) : Nat) : Int) := by
      rw [bit63, show (2 : Int) ^ Int.toNat 6 = 64 from rfl, or_low, tval_snoc (p ++ [c']) v, hcu2]
    rw [e2, hcu2] at F7
    dsimp only at F7
    exact ⟨q.length, by simp, _, _, _, _, v, p ++ [c'], q, rfl, fr_two F7, by simpa [Nat.add_assoc] using N7, by rw [e]; simp, rfl⟩
end
end

section
open PySem PySem.W PyProof.Rows PySem.Calls PySem.Spec
set_option Elab.async false
set_option maxRecDepth 100000
set_option maxHeartbeats 8000000
theorem fillVE : PySem.Challenge.rw_wb0031_01 = PySem.Challenge.rw_wb0031_01 ∧ hd.heap_39 = hd.heap_39 := by
  k_fill
  exact ⟨rfl, rfl⟩
section
variable {w : World} {A₀ A : Around} {s : Shared} {base h₀ : Heap} {outer : List Env} {L : Addr} {m : Str → Option Value} {env : Env} {mean : ExcName → Option Value} {mg mb : Str → Option Value} {rest : List (Addr × Obj)}
  {it : Addr} {bs : Array UInt8} {t : Tok} {i : Nat} {Q E : Value → Shared → Prop}
theorem varint_end {rest : List (Addr × Obj)} (G : Gr w mean mg mb A₀ base outer h₀) (F : Fr h₀ L s.heap m) (N : News h₀ L s.heap ((it, bitObj bs t i) :: rest)) (hA : A.frames = some (env :: outer)) (hf : env.frame = some L) (hke : env.scope.kind = .function)
    (hroom : A.depth < recursionLimit) (hh : A.handled = none) (hit : ∀ p ∈ rest, p.1 ≠ it) (hbs : bs[i]? = none)
    (hret : ∀ h' e t' tk', RaisedS base (hideAll s.heap (((it, bitObj bs t i) :: rest).map (·.1))) (env :: outer) e (.type "StopIteration") t' [] ((it, bitEnd bs i) :: rest) h' → (hideAll s.heap (((it, bitObj bs t i) :: rest).map (·.1))).UpToSlots h' → E (.ref e) ⟨h', s.gens, s.drawn, tk', s.os⟩) :
    wpAny (model PySem.Challenge.rw_wb0031_01.row.prog w) A (call (.ref 49) [.ref it]) Q E s := by
  obtain ⟨hp, g, d, tk0, os⟩ := s
  refine wpAny_call ?_
  refine' enterN (binds := [(Str.ofString "iterator", .ref it)]) G F N hA hf hke hroom ?k6 ?k7 ?k9 ?kB ?_ ?c2 ?c3 ?c4 ?c5
  walk_at "my entered"
  intro L' h₁ F1 N1 G1
  dsimp only at F1 N1 G1 hret
  have B := G1.B
  have X := G1.X
  have T : Top hd.view_39 (looseW hd.view_39 []) mean mg mb _ := G1.T
  clear F N G
  generalize hg0 : hideAll hp (List.map (fun x => x.fst) ((it, bitObj bs t i) :: rest)) = g0 at F1 N1 G1 B X T hret
  walk_at "my steps"
  refine next_end hh (N1 _ (.head _)).1 hbs (fun h' e hx => ?_)
  obtain ⟨F2, N2⟩ := news_upd (pre := []) (post := rest) F1 N1 (fun _ h => nomatch h) hit bit_ended rfl
  refine Nx.exc Xn ?_
  exact leave_raiseS B hx F2 N2 (fun h'' t' R _ U => hret _ _ _ _ R U)
end
end

section
open PySem PySem.W PyProof.Rows PySem.Calls PySem.Spec
set_option Elab.async false
set_option maxRecDepth 100000
set_option maxHeartbeats 8000000
open Builtin Builtin._codecs
noncomputable def bytesOf (x : Str) : Array UInt8 := (x.cps.toList.map Nat.toUInt8).toArray
theorem forIn_two {σ : Type} (f : Nat → σ → Sem (ForInStep σ)) (n : Nat) (s0 s1 : σ) (hn : 1 ≤ n) (h0 : f 0 s0 = pure (.yield s1)) (h1 : ∀ k, f k s1 = pure (.done s1)) : forIn (List.range' 0 n) s0 f = pure s1 := by
  obtain ⟨n, rfl⟩ : ∃ k, n = k + 1 := ⟨n - 1, by omega⟩
  rw [List.range'_succ, List.forIn_cons, h0]
  show (forIn (List.range' (0 + 1) n) s1 f) = pure s1
  cases n with
  | zero => rfl
  | succ n => rw [List.range'_succ, List.forIn_cons, h1]; rfl
theorem no_bad {l : List Nat} (h : ∀ c ∈ l, c < 128) : (l.toArray.findIdx? asciiCodec.bad) = none := by
  rw [Array.findIdx?_eq_none_iff]
  intro c hc
  have := h c (by simpa using hc)
  show decide (c ≥ 128) = false
  simp; omega
theorem fold_bytes (l : List Nat) : ∀ acc : Array UInt8, l.foldl (fun acc y => acc ++ (asciiCodec.bytesOf y).toArray) acc = acc ++ (l.map Nat.toUInt8).toArray := by
  induction l with
  | nil => intro acc; simp
  | cons u r ih => intro acc; rw [List.foldl_cons, ih]; simp [asciiCodec]
theorem narrow_ascii (id : String) (self : Value) (x : Str) (h : ∀ c ∈ x.cps.toList, c < 128) (hl : x.length ≤ 1000000) (h1 : 1 ≤ x.length) : encodeNarrow id asciiCodec none self x = pure (bytesOf x) := by
  unfold encodeNarrow
  simp only [Std.Legacy.Range.forIn_eq_forIn_range', Std.Legacy.Range.size]
  obtain ⟨⟨l⟩⟩ := x
  have hl' : l.length ≤ 1000000 := by simpa [Str.length] using hl
  have h1' : 1 ≤ l.length := by simpa [Str.length] using h1
  have h' : ∀ c ∈ l, c < 128 := h
  rw [forIn_two (σ := Nat × Array UInt8 × Faults) _ _ (0, #[], {}) (l.length, bytesOf ⟨⟨l⟩⟩, {}) (by simpa [Str.length] using h1)]
  · rfl
  · dsimp only
    rw [if_neg (by simp)]
    obtain ⟨u, r, rfl⟩ : ∃ u r, l = u :: r := by cases l with | nil => simp at h1' | cons u r => exact ⟨u, r, rfl⟩
    have e0 : (⟨u :: r⟩ : Array Nat)[0]? = some u := rfl
    rw [e0]
    dsimp only
    have hb : asciiCodec.bad u = false := by
      have := h' u (by simp)
      show decide (u ≥ 128) = false
      simp; omega
    rw [hb]
    simp only [Bool.not_false, if_true]
    have ex : (⟨u :: r⟩ : Array Nat).extract 0 = ⟨u :: r⟩ := by simp
    rw [ex, no_bad h']
    simp only [Option.getD_none]
    have ex2 : (⟨u :: r⟩ : Array Nat).extract 0 (⟨u :: r⟩ : Array Nat).size = ⟨u :: r⟩ := by simp
    rw [ex2]
    rw [← Array.foldl_toList]
    rw [fold_bytes]
    simp [bytesOf]
  · intro k
    dsimp only
    rw [if_neg (by simp [bytesOf, sizeLine]; omega)]
    have e0 : (⟨l⟩ : Array Nat)[l.length]? = none := by simp
    rw [e0]
theorem encodeRoad_ascii (id : String) (self : Value) (x : Str) (errors : Option Str) : encodeRoad id self x (Str.ofString "ascii") errors = (do mkBytes (← encodeNarrow id asciiCodec errors self x)) := by
  first | rfl | (unfold encodeRoad; rfl) | (unfold encodeRoad; simp only []; rfl) | decide
theorem encode_ascii_tree (x : Str) (t u : Tok) : Builtin.«str.encode» ⟨[.str x t, .str (Str.ofString "ascii") u], []⟩ = (do ret (← encodeRoad "str.encode" (.str x t) x (Str.ofString "ascii") none)) := by
  first | rfl | kernel_rfl
section
variable {prog : Program} {w : World} {A : Around} {E : Value → Shared → Prop} {s : Shared} {x : Str} {t u : Tok} {Q : Value → Shared → Prop}
theorem bytesOf_size (x : Str) : (bytesOf x).size = x.length := by simp [bytesOf, Str.length]
theorem encode_ascii (h : ∀ c ∈ x.cps.toList, c < 128) (hl : x.length ≤ 1000000) (h1 : 1 ≤ x.length) (hQ : Q (.bytes (bytesOf x) s.toks) { s with toks := s.toks + 1 }) :
    wpAny (model prog w) A (call (.builtin "str.encode") [.str x t, .str (Str.ofString "ascii") u]) Q E s := by
  refine wpAny_call_entry PySem.F.slot_str_encode (typeIs_str _ _ _) PySem.F.entry_str_encode ?_ (PySem.F.args_str_encode_2 _ _)
  show wpAny _ _ (Builtin.«str.encode» ⟨[.str x t, .str (Str.ofString "ascii") u], []⟩) _ _ _
  rw [encode_ascii_tree, encodeRoad_ascii, narrow_ascii _ _ _ h hl h1]
  refine wpAny_bind (wpAny_bind (wpAny_pure ?_))
  unfold mkBytes
  rw [if_neg (by rw [bytesOf_size]; simp [sizeLine]; omega)]
  exact wpAny_bind (wpAny_fresh (wpAny_pure (wpAny_pure ⟨_, rfl, hQ⟩)))
theorem iter_bytes {b : Array UInt8} (hQ : ∀ h2, h2 = s.heap.push (bitObj b t 0) → Q (.ref s.heap.objs.size) { s with heap := h2 }) :
    wpAny (model prog w) A (call (.builtin "iter") [.bytes b t]) Q E s := by
  refine call_function_entry (by decide +kernel) (by decide +kernel) kdk_entry_iter (kdk_args_iter _) ?_
  unfold Builtin.«iter»
  refine wpAny_bind (m := someArgs "iter" 1 2 _) (wpAny_of_eq (a := [Value.bytes b t]) (by first | rfl | kernel_rfl!) ?_)
  show wpAny _ _ (pyIter (.bytes b t) >>= _) _ _ _
  exact wpAny_bind (KBw.pyIter_bytes (wpAny_pure ⟨_, rfl, hQ _ rfl⟩))
theorem gm_encode {pl : Sem Bool} {Q : Value × List Value → Shared → Prop} (h : Q (.builtin "str.encode", [.str x t]) s) : wpAny (model prog w) A (getMethod (.str x t) "encode" pl) Q E s := by
  with_reducible exact GM.of (.str x t) (typeIs_str _ _ _) PySem.F.slot_str_encode PySem.F.type_str_encode GM.noRef h
end
end

section
open PySem PySem.W PyProof.Rows PySem.Calls PySem.Spec
set_option autoImplicit false
set_option Elab.async false
set_option maxRecDepth 100000
set_option maxHeartbeats 8000000
theorem fillR : PySem.Challenge.rw_wb0031_01 = PySem.Challenge.rw_wb0031_01 ∧ hd.heap_39 = hd.heap_39 := by
  k_fill
  exact ⟨rfl, rfl⟩

/-- the frames' own objects may turn in their slots alone -/
noncomputable def framesOf (A : Around) : List Addr := (A.frames.getD []).filterMap (·.frame)
noncomputable def KeepS (fs : List Addr) (h h' : Heap) : Prop := ∀ b o, h.get? b = some o → (∃ sl, h'.get? b = some { o with slots := sl }) ∧ (b ∉ fs → h'.get? b = some o)
theorem fr_but {h₀ h h' : Heap} {L I : Addr} {m : Str → Option Value} (F : Fr h₀ L h m) (k : ∀ b o, b ≠ I → h.get? b = some o → h'.get? b = some o) (hI : I ≠ L) (h0 : h₀.get? I = none) : Fr h₀ L h' m := by
  obtain ⟨oL, es, ep, hL, r⟩ := F.ns
  exact ⟨⟨oL, es, ep, k _ _ (Ne.symm hI) hL, r⟩, fun b o e => k _ _ (fun q => by rw [q, h0] at e; cases e) (F.keep b o e), F.above⟩
theorem len_flatten : ∀ (l : List (List Nat)), (∀ ts ∈ l, ts ≠ []) → l.length ≤ l.flatten.length
  | [], _ => Nat.le_refl _
  | a :: r, h => by
    have h1 := len_flatten r fun ts hh => h ts (.tail _ hh)
    have h2 : 1 ≤ a.length := List.length_pos_iff.mpr (h a (.head _))
    rw [List.flatten_cons, List.length_append, List.length_cons]; omega
theorem news_eq {h₀ h : Heap} {L : Addr} {l l' : List (Addr × Obj)} (N : News h₀ L h l) (e : l = l') : News h₀ L h l' := e ▸ N
theorem caught_any {M : Model} {A : Around} {e : Value} {env : Env} {hs : List ExceptHandler} {Q : Flow → Shared → Prop} {E : Value → Shared → Prop} {s : Shared}
    (h : wpAny M A (noteFrame e env) (fun _ s₂ => wpAny M A (setFlight e none) (fun _ s₃ => wpAny M A (handleBy e env hs) Q (fun _ _ => False) s₃) (fun _ _ => False) s₂) (fun _ _ => False) s) :
    wpAny M A (noteFrame e env) (fun _ s₂ => wpAny M A (setFlight e none) (fun _ s₃ => wpAny M A (handleBy e env hs) Q E s₃) E s₂) E s :=
  wpAny_mono h (fun _ _ h2 => wpAny_mono h2 (fun _ _ h3 => wpAny_mono h3 (fun _ _ x => x) fun _ _ x => False.elim x) fun _ _ x => False.elim x) fun _ _ x => False.elim x
theorem fr_hide {h₀ h : Heap} {L : Addr} {m : Str → Option Value} {news : List (Addr × Obj)} (F : Fr h₀ L h m) (N : News h₀ L h news) : Fr h₀ L (hideAll h (news.map (·.1))) m := by
  have nm : ∀ b o, h₀.get? b = some o → b ∉ news.map (·.1) := fun b o e q => by
    obtain ⟨p, hp, rfl⟩ := List.mem_map.mp q
    rw [(N p hp).2.2] at e; cases e
  obtain ⟨oL, es, ep, hL, r⟩ := F.ns
  have nL : L ∉ news.map (·.1) := fun q => by
    obtain ⟨p, hp, e⟩ := List.mem_map.mp q
    exact (N p hp).2.1 e
  exact ⟨⟨oL, es, ep, hideAll_get _ hL nL, r⟩, fun b o e => hideAll_get _ (F.keep b o e) (nm b o e), F.above⟩
inductive JRd (hp : Heap) (L' : Addr) (g : Array GenState) (d : Drawn) (os : OsState) (x : Str) (t : Tok) (tss : List (List Nat)) (nl I : Addr) (n : Nat) (s' : Shared) : Prop
  | mk (h : Heap) (tk' nn : Nat) (vs : List Value) (tb : Tok) (done rest : List (List Nat)) (_ : s' = ⟨h, g, d, tk', os⟩) (_ : Fr hp L' h (fun y => if y = Str.ofString "numbers" then some (.ref nl) else if y = Str.ofString "walk" then some (.ref I) else List.lookup y (List.reverse [(Str.ofString "page", Value.str x t)]))) (_ : News hp L' h [(nl, W.listOf vs.toArray nn), (I, bitObj (bytesOf x) tb done.flatten.length)]) (_ : IntsAre vs (done.map fun ts => (tval ts : Int))) (_ : tss = done ++ rest) (_ : n = rest.length) (_ : 1 ≤ tk') : JRd hp L' g d os x t tss nl I n s'
theorem con_read (w : World) {A : Around} {s : Shared} {x : Str} {t : Tok} {Q E : Value → Shared → Prop} (P : At w A 3 40 s) (tss : List (List Nat)) (hx : x.cps.toList = tss.flatten) (htok : ∀ ts ∈ tss, IsTok ts ∧ ts.length ≤ 8) (hne : tss ≠ []) (hl : x.length ≤ 1000000)
  (hret : ∀ h' a vs tk', KeepS (framesOf A) s.heap h' → h'.IsList a vs.toArray → IntsAre vs (tss.map fun ts => (tval ts : Int)) → s.heap.get? a = none → 1 ≤ tk' → Q (.ref a) ⟨h', s.gens, s.drawn, tk', s.os⟩) :
  wpAny (model PySem.Challenge.rw_wb0031_01.row.prog w) A (call (.ref 82) [.str x t]) Q E s := by
  have hh := P.hnd
  refine wpAny_with_toks P.tk ?_
  obtain ⟨hp, g, d, tk0, os⟩ := s
  refine wpAny_call ?_
  refine' enter (binds := [(Str.ofString "page", .str x t)]) P ?k6 ?k7 ?k9 ?kB ?_ ?c2 ?c3 ?c4 ?c5
  walk_at "my entered"
  intro mean mg mb base outer L' h₁ F1 G1
  dsimp only at F1 G1 hret
  have B := G1.B
  have X := G1.X
  have T : Top hd.view_39 (looseW hd.view_39 []) mean mg mb _ := G1.T
  have N1 : News hp L' h₁ [] := News.nil
  (try dsimp only at B X T)
  have hasc : ∀ c ∈ x.cps.toList, c < 128 := by
    rw [hx]
    intro c hc
    obtain ⟨ts, h1, h2⟩ := List.mem_flatten.mp hc
    exact isTok_lt (htok ts h1).1 c h2
  have hpos : 1 ≤ x.length := by
    obtain ⟨ts, r, rfl⟩ : ∃ ts r, tss = ts :: r := by cases tss with | nil => exact (hne rfl).elim | cons a r => exact ⟨a, r, rfl⟩
    have h1 : x.length = x.cps.toList.length := by simp [Str.length]
    have h2 := isTok_ne (htok ts (.head _)).1
    rw [h1, hx]
    cases ts with
    | nil => exact (h2 rfl).elim
    | cons a b => simp
  have T0 := P.tk
  dsimp only at T0
  walk_at "my hop"
  refine wpAny_with_toks (n := 1) (by dsimp only; omega) ?_
  walk_at "my steps"
  with_reducible refine gm_encode ?_
  dsimp only
  walk_at "my steps"
  refine encode_ascii hasc hl hpos ?_
  dsimp only
  walk_at "my steps"
  refine iter_bytes (fun h2 e2 => ?_)
  simp only [List.length_cons, List.length_nil, Nat.zero_add] at e2
  dsimp only
  have hI0 : hp.get? h₁.objs.size = none := Heap.get?_none_of_le (Nat.le_of_lt (Nat.lt_of_le_of_lt F1.above F1.ns.lt))
  have F2 := F1.push (bitObj (bytesOf x) (tk0 + 1 + 1) 0)
  have N2 := News.push F1 N1 (bitObj (bytesOf x) (tk0 + 1 + 1) 0) rfl
  rw [← e2] at F2 N2
  clear F1 N1
  generalize hI : h₁.objs.size = I at N2 hI0 ⊢
  walk_at "my steps"
  intro hk1
  walk_at "my hop"
  refine wpAny_with_toks hk1 ?_
  walk_at "my steps"
  intro hk2
  walk_at "my hop"
  rename Fr _ _ _ _ => F3
  rename News _ _ _ _ => N3
  rename I < _ => hlt
  obtain ⟨nl, tb0, hlt, F3, N3⟩ : ∃ nl tb0, I < nl ∧ Fr hp L' _ (fun y => if y = Str.ofString "numbers" then some (.ref nl) else if y = Str.ofString "walk" then some (.ref I) else List.lookup y (List.reverse [(Str.ofString "page", Value.str x t)])) ∧
    News hp L' _ [(nl, W.listOf #[] 0), (I, bitObj (bytesOf x) tb0 0)] := ⟨_, _, hlt, F3, N3⟩
  refine wpAny_While (codeAny_whileLoop (JRd hp L' g d os x t tss nl I) (fun n s' hI => ?_) tss.length ?_)
  rotate_left
  · exact ⟨_, _, _, [], _, [], tss, rfl, F3, N3, .nil, rfl, rfl, hk2⟩
  clear F3 N3
  obtain ⟨h, tk', nn, vs, tb, done, rest, rfl, F4, N4, hv, e, rfl, hk⟩ := hI
  refine wpAny_isTrue_value (wpAny_Constant_bool (wpAny_truthy_bool ?_))
  rw [if_pos rfl]
  refine wpAny_with_toks hk (wpAny_execs_cons (wpAny_Try_except (wpAny_execs_cons ?_)))
  walk_at "my steps"
  refine ⟨X.keeps F4.keep, ?_⟩
  cases rest with
  | nil =>
    rw [List.append_nil] at e
    subst e
    have NI : News hp L' h [(I, bitObj (bytesOf x) tb tss.flatten.length), (nl, W.listOf vs.toArray nn)] := by
      intro p hp'
      rcases List.mem_cons.mp hp' with rfl | hp'
      · exact N4 _ (.tail _ (.head _))
      · exact N4 _ (List.mem_singleton.mp hp' ▸ .head _)
    have FG := fr_hide F4 NI
    refine varint_end G1 F4 NI (Around.frames_deeper G1.B.stack) rfl rfl ?_ hh ?_ ?_ (fun h5 e5 t5 tk5 R U => ?_)
    · have := P.dp
      show A.depth + 1 < recursionLimit
      omega
    · intro p hp'
      have := List.mem_singleton.mp hp'
      subst this
      show nl ≠ I
      omega
    · have : (bytesOf x).size = tss.flatten.length := by rw [bytesOf_size, ← hx]; simp [Str.length]
      rw [Array.getElem?_eq_none]; omega
    · refine caught_any ?_
      refine caught_S0 (T' := "StopIteration") R FG G1.B U G1.XB G1.TB G1.D (KtsTurn.refl) ?ex ?hv ?hn ?hexc ?hnt ?hsub (fun h6 g6 news6 T6 F6 N6 _ N7 _ _ _ _ => ?_)
      case ex => k_is
      case hv => rfl
      case hn => decide
      case hexc => rw [isSubtype_type]; kernel_rfl
      case hnt => rw [isSubtype_type]; kernel_rfl
      case hsub => rw [isSubtype_type]; kernel_rfl
      walk_at "my hop"
      refine wpAny_Return_some (ld F6 rfl ?_)
      walk_at "my next"
      intro hk1
      dsimp only
      walk_at "my next"
      intro hk2
      have hfs : framesOf A = outer.filterMap (·.frame) := by
        unfold framesOf
        rw [G1.B.stack]; rfl
      refine hret _ nl vs _ (fun b o hb => ⟨?_, fun hn => ?_⟩) ⟨_, (N7 _ (.tail _ (.head _))).1, rfl, nn, rfl⟩ hv (N4 _ (.head _)).2.2 hk2
      · obtain ⟨sl, hs⟩ := T6.up hb
        exact ⟨sl, F6.keep _ _ hs⟩
      · rw [hfs] at hn
        exact F6.keep _ _ (T6.other _ _ hb hn)
  | cons ts rest =>
    obtain ⟨ht1, ht2⟩ := htok ts (by rw [e]; simp)
    have NI : News hp L' h [(I, bitObj (bytesOf x) tb done.flatten.length)] := fun p hp' => N4 p (.tail _ hp')
    refine varint_ok ts G1 F4 NI (Around.frames_deeper G1.B.stack) rfl rfl ?_ hk ht1 ht2 ?_ ?_
    · have := P.dp
      show A.depth + 1 < recursionLimit
      omega
    · intro j u hj
      refine ⟨u.toUInt8, ?_, ?_⟩
      · unfold bytesOf
        rw [List.getElem?_toArray, List.getElem?_map, hx, e, List.flatten_append, List.flatten_cons, List.getElem?_append_right (Nat.le_add_right _ _), Nat.add_sub_cancel_left,
          List.getElem?_append_left (by
            rcases Nat.lt_or_ge j ts.length with q | q
            · exact q
            · rw [List.getElem?_eq_none q] at hj; cases hj), hj]
        rfl
      · have := isTok_lt ht1 u (List.mem_of_getElem? hj)
        show u % 256 = u
        omega
    · intro h5 t5 tk5 k5 hI5 hk5
      have hIL : I ≠ L' := (N4 _ (.tail _ (.head _))).2.1
      have F5 := fr_but F4 k5 hIL hI0
      have N5 : News hp L' h5 [(nl, W.listOf vs.toArray nn), (I, bitObj (bytesOf x) tb (done.flatten.length + ts.length))] := by
        intro p hp'
        rcases List.mem_cons.mp hp' with rfl | hp'
        · exact ⟨k5 _ _ (by show nl ≠ I; omega) (N4 _ (.head _)).1, (N4 _ (.head _)).2⟩
        · have := List.mem_singleton.mp hp'
          subst this
          exact ⟨hI5, (N4 _ (.tail _ (.head _))).2⟩
      clear F4 N4 NI
      dsimp only
      have hvl : vs.length ≤ 1000000 := by
        have h1 := hv.length
        rw [List.length_map] at h1
        have h2 := len_flatten tss fun ts h => isTok_ne (htok ts h).1
        have h3 : x.length = tss.flatten.length := by rw [← hx]; simp [Str.length]
        have h4 : done.length ≤ tss.length := by rw [e]; simp
        omega
      walk_at "my steps"
      rename Fr _ _ _ _ => F6
      rename News _ _ _ _ => N6
      intro hk6
      have N7 := news_eq (l' := [(nl, W.listOf (vs ++ [Value.int (tval ts) t5]).toArray (nn + 1)), (I, bitObj (bytesOf x) tb (done ++ [ts]).flatten.length)]) N6 (by simp)
      have hv7 : IntsAre (vs ++ [Value.int (tval ts) t5]) ((done ++ [ts]).map fun ts => (tval ts : Int)) := by simpa using IntsAre.append hv (.cons (tval ts : Int) t5 .nil)
      exact ⟨rest.length, by simp, _, _, _, _, _, _, rest, rfl, F6, N7, hv7, by rw [e]; simp, rfl, hk6⟩
end

section
open PySem
set_option maxRecDepth 100000
/-- each c in l replaced by z -/
noncomputable def subs (c : Nat) (z : List Nat) (l : List Nat) : List Nat := l.flatMap fun u => if u = c then z else [u]
theorem subs_append (c : Nat) (z a b : List Nat) : subs c z (a ++ b) = subs c z a ++ subs c z b := by simp [subs]
theorem subs_free (c : Nat) (z : List Nat) : ∀ l : List Nat, c ∉ l → subs c z l = l
  | [], _ => rfl
  | k :: r, h => by
    have h1 : ¬ k = c := fun e => h (e ▸ List.mem_cons_self ..)
    have h2 : c ∉ r := fun m => h (List.mem_cons_of_mem _ m)
    have := subs_free c z r h2
    simp only [subs, List.flatMap_cons, if_neg h1] at this ⊢
    rw [this]; rfl
theorem subs_join (c : Nat) (z : Str) : ∀ parts : List Str, (∀ p ∈ parts, c ∉ p.cps.toList) → subs c z.cps.toList (Str.join ⟨#[c]⟩ parts).cps.toList = (Str.join z parts).cps.toList
  | [], _ => rfl
  | [p], h => subs_free c _ _ (h p (List.mem_singleton.mpr rfl))
  | p :: q :: r, h => by
    have ih := subs_join c z (q :: r) fun a ha => h a (List.mem_cons_of_mem _ ha)
    show subs c z.cps.toList (p ++ ⟨#[c]⟩ ++ Str.join ⟨#[c]⟩ (q :: r)).cps.toList = (p ++ z ++ Str.join z (q :: r)).cps.toList
    simp only [Str.cps_append, Array.toList_append]
    rw [subs_append, subs_append, ih, subs_free c _ _ (h p (List.mem_cons_self ..))]
    simp [subs]
theorem replace_subs (x z : Str) (c : Nat) : (Txt.replace x ⟨#[c]⟩ z).cps.toList = subs c z.cps.toList x.cps.toList := by
  rw [StrLaws.replace_one, ← subs_join c z _ (StrLaws.split_free x c), StrLaws.join_split]

noncomputable abbrev Tbl := List (Nat × List Nat)
noncomputable def escBy (T : Tbl) (u : Nat) : List Nat := (T.lookup u).getD [u]
noncomputable def escL (T : Tbl) (l : List Nat) : List Nat := l.flatMap (escBy T)
noncomputable def esc (T : Tbl) (x : Str) : Str := ⟨(escL T x.cps.toList).toArray⟩

theorem lookup_snoc (T : Tbl) (c u : Nat) (z : List Nat) : (T ++ [(c, z)]).lookup u = (T.lookup u).or (if u = c then some z else none) := by
  induction T with
  | nil =>
    simp only [List.nil_append, List.lookup, Option.none_or]
    by_cases h : u = c
    · subst h; simp
    · have : (u == c) = false := by simp [h]
      simp [this, h]
  | cons p r ih =>
    obtain ⟨a, b⟩ := p
    simp only [List.cons_append, List.lookup]
    by_cases h : u = a
    · subst h; simp
    · have : (u == a) = false := by simp [h]
      simp only [this]; exact ih
theorem lookup_mem {T : Tbl} {u : Nat} {z : List Nat} (h : T.lookup u = some z) : (u, z) ∈ T := by
  induction T with
  | nil => cases h
  | cons p r ih =>
    obtain ⟨a, b⟩ := p
    simp only [List.lookup] at h
    by_cases q : u = a
    · subst q; simp at h; subst h; exact List.mem_cons_self ..
    · have : (u == a) = false := by simp [q]
      simp only [this] at h
      exact List.mem_cons_of_mem _ (ih h)

theorem subs_escBy (T : Tbl) (c : Nat) (z : List Nat) (h : T.all (fun p => !p.2.contains c) = true) (hn : T.lookup c = none) (u : Nat) : subs c z (escBy T u) = escBy (T ++ [(c, z)]) u := by
  unfold escBy
  rw [lookup_snoc]
  cases q : T.lookup u with
  | some r =>
    simp only [Option.getD_some, Option.some_or]
    refine subs_free c z r fun hc => ?_
    have := List.all_eq_true.mp h _ (lookup_mem q)
    simp at this
    exact this hc
  | none =>
    simp only [Option.getD_none, Option.none_or]
    by_cases e : u = c
    · subst e; simp [subs]
    · simp [subs, e]
theorem subs_escL (T : Tbl) (c : Nat) (z : List Nat) (h : T.all (fun p => !p.2.contains c) = true) (hn : T.lookup c = none) (l : List Nat) : subs c z (escL T l) = escL (T ++ [(c, z)]) l := by
  unfold escL
  rw [show subs c z (l.flatMap (escBy T)) = l.flatMap (fun u => subs c z (escBy T u)) by simp [subs, List.flatMap_assoc]]
  congr 1
  funext u
  exact subs_escBy T c z h hn u
theorem escL_nil (l : List Nat) : escL [] l = l := by
  unfold escL escBy
  simp [List.lookup]
theorem escL_len (T : Tbl) (h : T.all (fun p => decide (p.2.length ≤ 6)) = true) (l : List Nat) : (escL T l).length ≤ 6 * l.length := by
  induction l with
  | nil => simp [escL]
  | cons u r ih =>
    have e : escL T (u :: r) = escBy T u ++ escL T r := by simp [escL]
    have h1 : (escBy T u).length ≤ 6 := by
      unfold escBy
      cases q : T.lookup u with
      | none => simp
      | some z => simpa using List.all_eq_true.mp h _ (lookup_mem q)
    rw [e, List.length_append, List.length_cons]; omega
theorem str_ext {a b : Str} (h : a.cps.toList = b.cps.toList) : a = b := Str.ext' (Array.ext' h)
theorem esc_nil (x : Str) : esc [] x = x := str_ext (by simp [esc, escL_nil])
theorem esc_len (T : Tbl) (h : T.all (fun p => decide (p.2.length ≤ 6)) = true) (x : Str) : (esc T x).length ≤ 6 * x.length := by
  have := escL_len T h x.cps.toList
  simpa [Str.length, esc] using this
theorem replace_esc (T : Tbl) (c : Nat) (z : List Nat) (h : T.all (fun p => !p.2.contains c) = true) (hn : T.lookup c = none) (x C Z : Str) (hC : C = ⟨#[c]⟩) (hZ : Z = ⟨z.toArray⟩) :
    Txt.replace (esc T x) C Z = esc (T ++ [(c, z)]) x := by
  subst hC hZ
  refine str_ext ?_
  rw [replace_subs]
  simp only [esc]
  exact subs_escL T c z h hn _
end

section
open PySem PySem.Builtin PySem.Builtin.Str
set_option autoImplicit false
set_option maxRecDepth 100000
theorem idx_clip (a b n : Nat) : strSliceIndices (some (a : Int)) (some (b : Int)) 1 n = strSliceIndices (some ((min a n : Nat) : Int)) (some ((min b n : Nat) : Int)) 1 n := by
  have h1 : ¬ ((a : Int) < 0) := by omega
  have h2 : ¬ ((b : Int) < 0) := by omega
  have h3 : ¬ (((min a n : Nat) : Int) < 0) := by omega
  have h4 : ¬ (((min b n : Nat) : Int) < 0) := by omega
  have e1 : max (0 : Int) (min (a : Int) (n : Int)) = max (0 : Int) (min ((min a n : Nat) : Int) (n : Int)) := by omega
  have e2 : max (0 : Int) (min (b : Int) (n : Int)) = max (0 : Int) (min ((min b n : Nat) : Int) (n : Int)) := by omega
  simp only [strSliceIndices, h1, h2, h3, h4, if_false, e1, e2, show ((1 : Int) > 0) = True from by simp, if_true]
theorem idx_back {a b n : Nat} (h : b ≤ a) (hb : b ≤ n) (ha : a ≤ n) : strSliceIndices (some (a : Int)) (some (b : Int)) 1 n = [] := by
  have h1 : ¬ ((a : Int) < 0) := by omega
  have h2 : ¬ ((b : Int) < 0) := by omega
  have e1 : max (0 : Int) (min (a : Int) (n : Int)) = a := by omega
  have e2 : max (0 : Int) (min (b : Int) (n : Int)) = b := by omega
  have h3 : ¬ ((a : Int) < b) := by omega
  simp [strSliceIndices, sliceRange, h1, h2, e1, e2, h3]
theorem slice_nat (x : Str) (a b : Nat) : Txt.slice x (some (a : Int)) (some (b : Int)) = ⟨((x.cps.toList.drop a).take (b - a)).toArray⟩ := by
  have hl : x.cps.toList.length = x.length := by simp [Str.length]
  have e : Txt.slice x (some (a : Int)) (some (b : Int)) = Txt.slice x (some ((min a x.length : Nat) : Int)) (some ((min b x.length : Nat) : Int)) := by
    unfold Txt.slice
    rw [idx_clip]
  rw [e]
  by_cases h : min a x.length ≤ min b x.length
  · refine (StrLaws.sliceText_nat x h (Nat.min_le_right _ _)).trans ?_
    refine str_ext ?_
    show (x.cps.toList.drop (min a x.length)).take (min b x.length - min a x.length) = (x.cps.toList.drop a).take (b - a)
    by_cases ha : a ≤ x.length
    · rw [Nat.min_eq_left ha]
      by_cases hb : b ≤ x.length
      · rw [Nat.min_eq_left hb]
      · rw [Nat.min_eq_right (by omega), List.take_of_length_le (by rw [List.length_drop, hl]; exact Nat.le_refl _), List.take_of_length_le (by rw [List.length_drop, hl]; omega)]
    · rw [List.drop_of_length_le (i := a) (by omega), Nat.min_eq_right (a := a) (by omega), List.drop_of_length_le (by omega)]
      simp
  · have hba : b - a = 0 := by omega
    rw [hba, List.take_zero]
    unfold Txt.slice
    rw [idx_back (by omega) (Nat.min_le_right _ _) (Nat.min_le_right _ _)]
    split
    · next q =>
      have : x.length = 0 := (by simpa using q : 0 = x.length).symm
      refine str_ext ?_
      have : x.cps.toList.length = 0 := by omega
      simpa using this
    · rfl
theorem slice_from (x : Str) (a : Nat) : Txt.slice x (some (a : Int)) none = ⟨(x.cps.toList.drop a).toArray⟩ := by
  have hl : x.cps.toList.length = x.length := by simp [Str.length]
  have e : Txt.slice x (some (a : Int)) none = Txt.slice x (some (a : Int)) (some (x.length : Int)) := by
    unfold Txt.slice
    rw [StrLaws.sliceIdx_none_hi]
  rw [e, slice_nat, List.take_of_length_le (by rw [List.length_drop, hl]; exact Nat.le_refl _)]
theorem join_nil : ∀ l : List (List Nat), (Str.join (⟨#[]⟩ : Str) (l.map fun a => (⟨a.toArray⟩ : Str))) = ⟨l.flatten.toArray⟩
  | [] => rfl
  | [p] => str_ext (by simp [Str.join])
  | p :: q :: r => by
    have ih := join_nil (q :: r)
    refine str_ext ?_
    show (((⟨p.toArray⟩ : Str) ++ (⟨#[]⟩ : Str) ++ Str.join (⟨#[]⟩ : Str) ((q :: r).map fun a => (⟨a.toArray⟩ : Str)))).cps.toList = _
    rw [ih]
    simp [Str.cps_append]
theorem tjoin_nil (l : List (List Nat)) : Txt.join (Str.ofString "") (l.map fun a => (⟨a.toArray⟩ : Str)) = ⟨l.flatten.toArray⟩ := by
  show glued _ _ = _
  rw [StrLaws.glued_eq_join]
  exact join_nil l
theorem sum_le {B : Nat} : ∀ l : List (List Nat), (∀ z ∈ l, z.length ≤ B) → ((l.map fun a => (⟨a.toArray⟩ : Str)).map (·.length)).sum ≤ l.length * B
  | [], _ => by simp
  | z :: r, h => by
    have := sum_le r fun y hy => h y (.tail _ hy)
    have hz := h z (.head _)
    simp only [List.map_cons, List.sum_cons, List.length_cons, Nat.succ_mul]
    have : (⟨z.toArray⟩ : Str).length = z.length := by simp [Str.length]
    omega
end

section
open PySem PySem.W PyProof.Rows PySem.Calls PySem.Spec
set_option autoImplicit false
set_option Elab.async false
set_option maxRecDepth 100000
set_option maxHeartbeats 8000000
theorem fillS : PySem.Challenge.rw_wb0031_01 = PySem.Challenge.rw_wb0031_01 ∧ hd.heap_39 = hd.heap_39 := by
  k_fill
  exact ⟨rfl, rfl⟩
noncomputable def stripGo (x : List Nat) : List (Nat × List Nat) → Nat → Option Nat → List (List Nat) → List (List Nat)
  | [], st, _, acc => if st < x.length then acc ++ [x.drop st] else acc
  | (p, ch) :: r, st, none, acc => if ch = [34] then stripGo x r st (some p) acc else stripGo x r st none acc
  | (p, ch) :: r, st, some o, acc => if ch = [34] then stripGo x r (p + 1) none (if st = o then acc else acc ++ [(x.drop st).take (o - st)]) else stripGo x r st (some o) acc
noncomputable def strip (x : List Nat) : List Nat := if 34 ∈ x then (stripGo x (escs 0 false x) 0 none []).flatten else x
theorem fr_norm4 {h₀ h : Heap} {L : Addr} {m : Str → Option Value} {x1 x2 x3 x4 : Str} {v1 v2 v3 v4 : Value} (F : Fr h₀ L h m) (e1 : m x1 = some v1) (e2 : m x2 = some v2) (e3 : m x3 = some v3) (e4 : m x4 = some v4) :
    Fr h₀ L h (fun y => if y = x1 then some v1 else if y = x2 then some v2 else if y = x3 then some v3 else if y = x4 then some v4 else m y) := by
  have e : m = (fun y => if y = x1 then some v1 else if y = x2 then some v2 else if y = x3 then some v3 else if y = x4 then some v4 else m y) := by
    funext y
    by_cases h1 : y = x1
    · rw [if_pos h1, h1, e1]
    by_cases h2 : y = x2
    · rw [if_neg h1, if_pos h2, h2, e2]
    by_cases h3 : y = x3
    · rw [if_neg h1, if_neg h2, if_pos h3, h3, e3]
    by_cases h4 : y = x4
    · rw [if_neg h1, if_neg h2, if_neg h3, if_pos h4, h4, e4]
    · rw [if_neg h1, if_neg h2, if_neg h3, if_neg h4]
  exact e ▸ F
theorem quote_eq (piece : List Nat) : (({ cps := piece.toArray } : Str) == Str.ofString "\"") = decide (piece = [34]) := by
  by_cases h : piece = [34]
  · subst h; rfl
  · rw [decide_eq_false h]
    refine beq_eq_false_iff_ne.mpr fun e => h ?_
    exact congrArg (fun z : Str => z.cps.toList) e
theorem strs_snoc {vs : List Value} {ys : List Str} {y z : Str} {t : Tok} (h : StrsAre vs ys) (e : y = z) : StrsAre (vs ++ [.str y t]) (ys ++ [z]) := by
  subst e
  induction h with
  | nil => exact .cons _ _ .nil
  | cons a b _ ih => exact .cons a b ih
theorem strs_snocA {vs : List Value} {ys : List Str} {y z : Str} {t : Tok} (h : StrsAre vs ys) (e : y = z) : StrsAre (vs.toArray.push (.str y t)).toList (ys ++ [z]) := by
  rw [Array.toList_push]; exact strs_snoc h e
theorem escs_len : ∀ (l : List Nat) (i : Nat) (b : Bool), (escs i b l).length ≤ l.length
  | [], _, _ => Nat.le_refl _
  | c :: r, i, true => Nat.succ_le_succ (escs_len r (i + 1) false)
  | c :: r, i, false => by
    unfold escs
    split
    · exact Nat.le_succ_of_le (escs_len r (i + 1) true)
    · exact Nat.succ_le_succ (escs_len r (i + 1) false)
noncomputable def opV (op : Option (Nat × Tok)) : Value := match op with | none => .none | some p => .int (p.1 : Nat) p.2
inductive JS1 (x : Str) (t : Tok) (k : Nat) (m : Str → Option Value) (news : List (Addr × Obj)) : Prop
  | mk (nl : Addr) (vs : List Value) (nn : Nat) (st : Nat) (stt : Tok) (op : Option (Nat × Tok)) (acc : List (List Nat)) (_ : news = [(nl, W.listOf vs.toArray nn)]) (_ : StrsAre vs (acc.map fun a => (⟨a.toArray⟩ : Str))) (_ : m (Str.ofString "start") = some (.int (st : Nat) stt)) (_ : m (Str.ofString "open_pos") = some (opV op)) (_ : m (Str.ofString "result") = some (.ref nl)) (_ : m (Str.ofString "addr") = some (.str x t)) (_ : acc.length ≤ k) (_ : (∀ z ∈ acc, z.length ≤ x.length)) (_ : stripGo x.cps.toList ((escs 0 false x.cps.toList).drop k) st (op.map (·.1)) acc = stripGo x.cps.toList (escs 0 false x.cps.toList) 0 none []) : JS1 x t k m news
section
variable {w : World} {A : Around} {s : Shared} {Q E : Value → Shared → Prop}
theorem con_strip {x : Str} {t : Tok} (P : At w A 1 8 s) (hl : x.length ≤ 1000) (hasc : ∀ c ∈ x.cps.toList, c < 128) (hend : 34 ∈ x.cps.toList → escEnd false x.cps.toList = false)
    (hret : ∀ h' t' g' tk', (∀ b o, s.heap.get? b = some o → h'.get? b = some o) → (AllBare s.gens → AllBare g') → 1 ≤ tk' → Q (.str ⟨(strip x.cps.toList).toArray⟩ t') ⟨h', g', s.drawn, tk', s.os⟩) :
    wpAny (model PySem.Challenge.rw_wb0031_01.row.prog w) A (call (.ref 63) [.str x t]) Q E s := by
  have P0 := P
  refine wpAny_with_toks P.tk ?_
  obtain ⟨hp, g, d, tk0, os⟩ := s
  have hh : A.handled = none := P.hnd
  refine wpAny_call ?_
  refine' enter (binds := [(Str.ofString "addr", .str x t)]) P ?k6 ?k7 ?k9 ?kB ?_ ?c2 ?c3 ?c4 ?c5
  walk_at "my entered"
  intro mean mg mb base outer L' h₁ F1 G1
  dsimp only at F1 G1 hret
  have B := G1.B
  have X := G1.X
  have T : Top hd.view_39 (looseW hd.view_39 []) mean mg mb _ := G1.T
  have N1 : News hp L' h₁ [] := News.nil
  (try dsimp only at B X T)
  have T0 := P.tk
  dsimp only at T0
  walk_at "my hop"
  refine wpAny_If ?_
  walk_at "my steps"
  rw [show (Builtin.Str.occurrences x (Str.ofString "\"") 0 x.length 1).isEmpty = !decide (34 ∈ x.cps.toList) from empty_one x 34, Bool.not_not]
  by_cases hq : 34 ∈ x.cps.toList
  rotate_left
  · rw [decide_eq_false hq, if_pos (show (!false) = true from rfl)]
    walk_at "my steps"
    intro hk
    have : (⟨(strip x.cps.toList).toArray⟩ : Str) = x := by unfold strip; rw [if_neg hq]
    have := hret h₁ t g _ F1.keep (fun h => h) hk
    rwa [‹(⟨(strip x.cps.toList).toArray⟩ : Str) = x›] at this
  rw [decide_eq_true hq, if_neg (show ¬ (!true) = true by decide)]
  refine wpAny_execs_nil ?_
  (try dsimp only)
  walk_at "my hop"
  refine wpAny_with_toks (n := 1) (by first | omega | (dsimp only; omega)) ?_
  walk_at "my steps"
  intro hk1
  walk_at "my hop"
  refine wpAny_with_toks (n := 1) hk1 ?_
  walk_at "my steps"
  intro hk2
  walk_at "my hop"
  refine wpAny_with_toks (n := 1) hk2 ?_
  walk_at "my steps"
  intro hk3
  rename Fr _ _ _ _ => F3
  rename News _ _ _ _ => N3
  walk_at "my hop"
  refine wpAny_For ?_
  walk_at "my steps"
  refine ⟨X.keeps F3.keep, ?_⟩
  refine iter_call G1 F3 ?_ hk3 hasc (hend hq) fun LG a h4 tk4 gs fp k4 z4 za haLG hG hP hb hok htk4 => ?_
  · have := P.dp
    show A.depth + 1 < recursionLimit
    omega
  refine wpAny_pyIter_gen hG ?_
  have h0a : hp.get? a = none := by
    cases q : hp.get? a with
    | none => rfl
    | some o => rw [F3.keep _ _ q] at za; cases za
  have hnn : ∀ p ∈ [(_, W.listOf #[] 0)], _ := N3
  obtain ⟨oL, es, ep, hLo, hLd, _⟩ := id F3.ns
  have haL : a ≠ L' := fun q => by rw [q, hLo] at za; cases za
  have hLL : L' ≠ LG := fun q => by rw [← q, hLo] at z4; cases z4
  have hO : OkN LG a _ := fun q hq => by
    have hq' := N3 q hq
    refine ⟨?_, fun e => ?_, fun e => ?_⟩
    · rw [List.mem_singleton.mp hq]; rfl
    · rw [← e, hq'.1] at z4; cases z4
    · rw [← e, hq'.1] at za; cases za
  have F4 := fr_keep F3 k4
  have N4 := news_keep N3 k4
  clear F3 N3 hnn hLo
  have hlen : (escs 0 false x.cps.toList).length ≤ x.length := escs_len _ _ _
  refine escs_loopG (items := escs 0 false x.cps.toList) hh T.nolimit ?_ rfl rfl rfl hG (Array.getElem?_push_size ..) htk4 hP (hok _ hh) h0a haL hLL haLG F4 N4 hO
    (fun k m news => JS1 x t k m news) ?_ ?_ ?_
  · have := P.dp
    show A.depth + 1 < recursionLimit
    omega
  · exact ⟨_, [], _, 0, _, none, [], rfl, .nil, rfl, rfl, rfl, rfl, Nat.le_refl _, (fun _ h => nomatch h), rfl⟩
  · rintro k pos piece t1 t2 m₁ news₁ h tk gens own hit ⟨nl, vs, nn, st, stt, op, acc, rfl, hvs, e1, e2, e3, e4, hac, hzl, hgo⟩ hO5 hdis htk5 hgb F5 N5 Qp Ep hQp hQr
    clear F4 N4 hO
    have hO5' : ∀ vs nn, OkN LG a [(nl, W.listOf vs nn)] := fun vs nn q hq => by
      rw [List.mem_singleton.mp hq]
      exact ⟨rfl, (hO5 _ (.head _)).2⟩
    have hnl : ∀ p ∈ own, p.1 ≠ nl := fun p hp => hdis p hp _ (.head _)
    have F6 := fr_norm4 (x1 := Str.ofString "start") (x2 := Str.ofString "open_pos") (x3 := Str.ofString "result") (x4 := Str.ofString "addr") F5 e1 e2 e3 e4
    clear F5
    walk_at "my hop"
    refine wpAny_with_toks (n := 1) htk5 (wpAny_If ?_)
    walk_at "my steps"
    have hkl : k < (escs 0 false x.cps.toList).length := (List.getElem?_eq_some_iff.mp hit).1
    have hdr : (escs 0 false x.cps.toList).drop k = (pos, piece) :: (escs 0 false x.cps.toList).drop (k + 1) := by
      rw [List.drop_eq_getElem_cons hkl, (List.getElem?_eq_some_iff.mp hit).2]
    rw [hdr] at hgo
    rw [show (({ cps := piece.toArray } : Str) == Str.ofString "\"") = decide (piece = [34]) from quote_eq piece]
    by_cases hc : piece = [34]
    rotate_left
    · rw [decide_eq_false hc, if_neg Bool.false_ne_true]
      walk_at "my steps"
      intro hk6
      walk_at "my next"
      refine wpAny_execs_nil ?_
      refine hQp (news₂ := [(nl, W.listOf vs.toArray nn)]) hk6 F6 N5 hO5 ⟨nl, vs, nn, st, stt, op, acc, rfl, hvs, rfl, rfl, rfl, rfl, Nat.le_succ_of_le hac, hzl, ?_⟩
      rw [← hgo]
      cases op with
      | none => simp [stripGo, hc]
      | some o => simp [stripGo, hc]
    · rw [decide_eq_true hc, if_pos rfl]
      cases op with
      | none =>
        dsimp only [opV] at F6
        walk_at "my steps"
        rw [if_pos rfl]
        walk_at "my steps"
        rename Fr _ _ _ _ => F7
        rename News _ _ _ _ => N7
        intro hk6
        walk_at "my next"
        refine wpAny_execs_nil ?_
        refine hQp (news₂ := [(nl, W.listOf vs.toArray nn)]) hk6 F7 N7 hO5 ⟨nl, vs, nn, st, stt, some (pos, t1), acc, rfl, hvs, rfl, rfl, rfl, rfl, Nat.le_succ_of_le hac, hzl, ?_⟩
        rw [← hgo]
        simp [stripGo, hc]
      | some o =>
        dsimp only [opV] at F6
        walk_at "my steps"
        rw [if_neg Bool.false_ne_true]
        walk_at "my hop"
        refine wpAny_If ?_
        walk_at "my steps"
        have hvl : vs.length ≤ 1000 := by
          have h1 := hvs.length
          rw [List.length_map] at h1
          omega
        by_cases hso : st = o.1
        · rw [show ((st : Int) != (o.1 : Int)) = false by simp [hso], if_neg Bool.false_ne_true]
          refine wpAny_execs_nil ?_
          (try dsimp only)
          walk_at "my steps"
          rename Fr _ _ _ _ => F7
          rename News _ _ _ _ => N7
          intro hk6
          walk_at "my next"
          refine wpAny_execs_nil ?_
          refine hQp (news₂ := [(nl, W.listOf vs.toArray nn)]) hk6 F7 N7 hO5 ⟨nl, vs, nn, pos + 1, _, none, acc, rfl, hvs, rfl, rfl, rfl, rfl, Nat.le_succ_of_le hac, hzl, ?_⟩
          rw [← hgo]
          simp [stripGo, hc, hso]
        · rw [show ((st : Int) != (o.1 : Int)) = true by simp; omega, if_pos rfl]
          walk_at "my steps"
          rename Fr _ _ _ _ => F7
          rename News _ _ _ _ => N7
          rename_i t8 k8 hsl
          refine append_K (news := (nl, W.listOf vs.toArray nn) :: own) F7 N7 (.head hnl) ?_ (by size_fits)
          intro h8 F8 N8
          clear F7 N7
          (try dsimp only)
          walk_at "my steps"
          rename Fr _ _ _ _ => F9
          rename News _ _ _ _ => N9
          intro hk6
          walk_at "my next"
          refine wpAny_execs_nil ?_
          refine hQp (news₂ := [(nl, W.listOf (vs ++ [Value.str (Txt.slice x (some (st : Int)) (some (o.1 : Int))) t8]).toArray (nn + 1))]) hk6 F9 ?_ (hO5' _ _) ⟨nl, _, _, pos + 1, _, none, acc ++ [(x.cps.toList.drop st).take (o.1 - st)], rfl, ?_, rfl, rfl, rfl, rfl, ?_, ?_, ?_⟩
          · simpa using N9
          · rw [List.map_append]
            refine strs_snoc hvs ?_
            exact slice_nat x st o.1
          · simpa using hac
          · intro z hz
            rcases List.mem_append.mp hz with hz | hz
            · exact hzl z hz
            · rw [List.mem_singleton.mp hz]
              have : x.cps.toList.length = x.length := by simp [Str.length]
              rw [List.length_take, List.length_drop]
              omega
          · rw [← hgo]
            simp [stripGo, hc, hso]
  · rintro m₁ news₁ h tk gens ⟨nl, vs, nn, st, stt, op, acc, rfl, hvs, e1, e2, e3, e4, hac, hzl, hgo⟩ hO5 htk5 hgb F5 N5
    clear F4 N4 hO
    have F6 := fr_norm4 F5 e1 e2 e3 e4
    clear F5
    (try dsimp only)
    walk_at "my hop"
    refine wpAny_with_toks (n := 1) htk5 (wpAny_If ?_)
    walk_at "my steps"
    by_cases hst : st < x.length
    · rw [decide_eq_true (by omega), if_pos rfl]
      walk_at "my steps"
      rename Fr _ _ _ _ => F7
      rename News _ _ _ _ => N7
      intro hk6
      (try dsimp only)
      walk_at "my hop"
      refine wpAny_with_toks (n := 1) hk6 ?_
      walk_at "my steps"
      refine join_list (ys := (acc ++ [x.cps.toList.drop st]).map fun a => (⟨a.toArray⟩ : Str)) ⟨_, (N7 _ (.head _)).1, rfl, _, rfl⟩ ?_ ?_ ?_
      · rw [List.map_append]
        exact strs_snocA hvs (slice_from x st)
      · have hb1 := sum_le (B := x.length) (acc ++ [x.cps.toList.drop st]) (fun z hz => by
          rcases List.mem_append.mp hz with hz | hz
          · exact hzl z hz
          · rw [List.mem_singleton.mp hz]
            have : x.cps.toList.length = x.length := by simp [Str.length]
            rw [List.length_drop]
            omega)
        have hb2 : (acc ++ [x.cps.toList.drop st]).length * x.length ≤ 1001 * 1000 := Nat.mul_le_mul (by simp; omega) hl
        show _ + _ * 0 ≤ _
        omega
      · intro t' k7 hk7
        rw [tjoin_nil]
        have := hret _ t' gens _ F7.keep (fun z => hgb (AllBare.push z hb)) hk7
        have e : strip x.cps.toList = (acc ++ [x.cps.toList.drop st]).flatten := by
          unfold strip
          rw [if_pos hq, ← hgo, List.drop_length, stripGo, if_pos (by simpa [Str.length] using hst)]
        rw [e] at this
        (repeat' (first | walk_at "my next" | intro _))
        exact this
    · rw [decide_eq_false (by omega), if_neg Bool.false_ne_true]
      refine wpAny_execs_nil ?_
      intro hk6
      (try dsimp only)
      walk_at "my hop"
      refine wpAny_with_toks (n := 1) hk6 ?_
      walk_at "my steps"
      refine join_list (ys := acc.map fun a => (⟨a.toArray⟩ : Str)) ⟨_, (N5 _ (.head _)).1, rfl, _, rfl⟩ hvs ?_ ?_
      · have hb1 := sum_le (B := x.length) acc hzl
        have hb2 : acc.length * x.length ≤ 1001 * 1000 := Nat.mul_le_mul (by omega) hl
        show _ + _ * 0 ≤ _
        omega
      · intro t' k7 hk7
        rw [tjoin_nil]
        have := hret _ t' gens _ F6.keep (fun z => hgb (AllBare.push z hb)) hk7
        have e : strip x.cps.toList = acc.flatten := by
          unfold strip
          rw [if_pos hq, ← hgo, List.drop_length, stripGo, if_neg (by simpa [Str.length] using hst)]
        rw [e] at this
        (repeat' (first | walk_at "my next" | intro _))
        exact this
end
end

section
open PySem PySem.W PyProof.Rows PySem.Calls PySem.Spec
set_option autoImplicit false
set_option Elab.async false
set_option maxRecDepth 100000
set_option maxHeartbeats 8000000
theorem fillC : PySem.Challenge.rw_wb0031_01 = PySem.Challenge.rw_wb0031_01 ∧ hd.heap_39 = hd.heap_39 := by
  k_fill
  exact ⟨rfl, rfl⟩
noncomputable def checkGo : List (Nat × List Nat) → Int → Bool
  | [], o => o == 0
  | (_, ch) :: r, o => if ch = [40] then checkGo r (o + 1) else if ch = [41] then (if o - 1 < 0 then false else checkGo r (o - 1)) else checkGo r o
noncomputable def check (x : List Nat) : Bool := checkGo (escs 0 false (strip x)) 0
theorem fr_norm1 {h₀ h : Heap} {L : Addr} {m : Str → Option Value} {x1 : Str} {v1 : Value} (F : Fr h₀ L h m) (e1 : m x1 = some v1) :
    Fr h₀ L h (fun y => if y = x1 then some v1 else m y) := by
  have e : m = (fun y => if y = x1 then some v1 else m y) := by
    funext y
    by_cases h1 : y = x1
    · rw [if_pos h1, h1, e1]
    · rw [if_neg h1]
  exact e ▸ F
theorem piece_eq (piece : List Nat) (c : Nat) : (({ cps := piece.toArray } : Str) == ⟨#[c]⟩) = decide (piece = [c]) := by
  by_cases h : piece = [c]
  · subst h; simp
  · rw [decide_eq_false h]
    refine beq_eq_false_iff_ne.mpr fun e => h ?_
    exact congrArg (fun z : Str => z.cps.toList) e
inductive JK1 (x : Str) (k : Nat) (m : Str → Option Value) (news : List (Addr × Obj)) : Prop
  | mk (o : Int) (ot : Tok) (_ : news = []) (_ : m (Str.ofString "opens") = some (.int o ot)) (_ : (o.natAbs ≤ k)) (_ : checkGo ((escs 0 false (strip x.cps.toList)).drop k) o = check x.cps.toList) : JK1 x k m news
section
variable {w : World} {A : Around} {s : Shared} {Q E : Value → Shared → Prop}
theorem con_check {x : Str} {t : Tok} (P : At w A 2 16 s) (hl : x.length ≤ 1000) (hasc : ∀ c ∈ x.cps.toList, c < 128) (hend : 34 ∈ x.cps.toList → escEnd false x.cps.toList = false)
    (hasc2 : ∀ c ∈ strip x.cps.toList, c < 128) (hend2 : escEnd false (strip x.cps.toList) = false)
    (hret : ∀ h' g' tk', (∀ b o, s.heap.get? b = some o → h'.get? b = some o) → (AllBare s.gens → AllBare g') → 1 ≤ tk' → Q (.bool (check x.cps.toList)) ⟨h', g', s.drawn, tk', s.os⟩) :
    wpAny (model PySem.Challenge.rw_wb0031_01.row.prog w) A (call (.ref 70) [.str x t]) Q E s := by
  have P0 := P
  refine wpAny_with_toks P.tk ?_
  obtain ⟨hp, g, d, tk0, os⟩ := s
  have hh : A.handled = none := P.hnd
  refine wpAny_call ?_
  refine' enter (binds := [(Str.ofString "addr", .str x t)]) P ?k6 ?k7 ?k9 ?kB ?_ ?c2 ?c3 ?c4 ?c5
  walk_at "my entered"
  intro mean mg mb base outer L' h₁ F1 G1
  dsimp only at F1 G1 hret
  have B := G1.B
  have X := G1.X
  have T : Top hd.view_39 (looseW hd.view_39 []) mean mg mb _ := G1.T
  have N1 : News hp L' h₁ [] := News.nil
  (try dsimp only at B X T)
  have T0 := P.tk
  dsimp only at T0
  have hdp := P.dp
  have hun := P.un
  walk_at "my hop"
  walk_at "my steps"
  refine ⟨X.keeps F1.keep, ?_⟩
  refine con_strip (G1.at F1 rfl hh (by omega) (by omega) (by (try dsimp only); omega)) hl hasc hend fun h2 t2 g2 tk2 k2 b2 htk2 => ?_
  dsimp only at k2 b2 ⊢
  have F2 := fr_keep F1 k2
  have N2 := news_keep N1 k2
  clear F1 N1
  refine wpAny_with_toks (n := 1) htk2 ?_
  walk_at "my steps"
  intro hk2
  walk_at "my hop"
  refine wpAny_with_toks (n := 1) hk2 ?_
  walk_at "my steps"
  intro hk3
  rename Fr _ _ _ _ => F3
  rename News _ _ _ _ => N3
  walk_at "my hop"
  refine wpAny_For ?_
  walk_at "my steps"
  refine ⟨X.keeps F3.keep, ?_⟩
  refine iter_call G1 F3 ?_ hk3 hasc2 hend2 fun LG a h4 tk4 gs fp k4 z4 za haLG hG hP hb hok htk4 => ?_
  · show A.depth + 1 < recursionLimit
    omega
  refine wpAny_pyIter_gen hG ?_
  have h0a : hp.get? a = none := by
    cases q : hp.get? a with
    | none => rfl
    | some o => rw [F3.keep _ _ q] at za; cases za
  obtain ⟨oL, es, ep, hLo, hLd, _⟩ := id F3.ns
  have haL : a ≠ L' := fun q => by rw [q, hLo] at za; cases za
  have hLL : L' ≠ LG := fun q => by rw [← q, hLo] at z4; cases z4
  have F4 := fr_keep F3 k4
  clear F3 N3 hLo
  refine escs_loopG (items := escs 0 false (strip x.cps.toList)) hh T.nolimit ?_ rfl rfl rfl hG (Array.getElem?_push_size ..) htk4 hP (hok _ hh) h0a haL hLL haLG F4 News.nil (fun _ h => nomatch h)
    (fun k m news => JK1 x k m news) ?_ ?_ ?_
  · show A.depth + 1 < recursionLimit
    omega
  · exact ⟨0, _, rfl, rfl, Nat.le_refl _, rfl⟩
  · rintro k pos piece t1 t2 m₁ news₁ h tk gens own hit ⟨o, ot, rfl, e1, hob, hgo⟩ hO5 hdis htk5 hgb F5 N5 Qp Ep hQp hQr
    clear F4
    have F6 := fr_norm1 (x1 := Str.ofString "opens") F5 e1
    clear F5
    walk_at "my hop"
    refine wpAny_with_toks (n := 1) htk5 (wpAny_If ?_)
    walk_at "my steps"
    have hkl : k < (escs 0 false (strip x.cps.toList)).length := (List.getElem?_eq_some_iff.mp hit).1
    have hdr : (escs 0 false (strip x.cps.toList)).drop k = (pos, piece) :: (escs 0 false (strip x.cps.toList)).drop (k + 1) := by
      rw [List.drop_eq_getElem_cons hkl, (List.getElem?_eq_some_iff.mp hit).2]
    rw [hdr] at hgo
    rw [show (({ cps := piece.toArray } : Str) == Str.ofString "(") = decide (piece = [40]) from piece_eq piece 40]
    by_cases hc : piece = [40]
    · rw [decide_eq_true hc, if_pos rfl]
      walk_at "my steps"
      rename Fr _ _ _ _ => F7
      rename News _ _ _ _ => N7
      intro hk6
      walk_at "my next"
      walk_at "my hop"
      refine hQp (news₂ := []) hk6 F7 N7 hO5 ⟨o + 1, _, rfl, rfl, by omega, ?_⟩
      rw [← hgo]
      simp [checkGo, hc]
    rw [decide_eq_false hc, if_neg Bool.false_ne_true]
    walk_at "my hop"
    refine wpAny_If ?_
    walk_at "my steps"
    rw [show (({ cps := piece.toArray } : Str) == Str.ofString ")") = decide (piece = [41]) from piece_eq piece 41]
    by_cases hc2 : piece = [41]
    rotate_left
    · rw [decide_eq_false hc2, if_neg Bool.false_ne_true]
      walk_at "my hop"
      (try dsimp only)
      walk_at "my hop"
      intro hk6
      walk_at "my next"
      walk_at "my hop"
      refine hQp (news₂ := []) hk6 F6 N5 hO5 ⟨o, _, rfl, rfl, by omega, ?_⟩
      rw [← hgo]
      simp [checkGo, hc, hc2]
    rw [decide_eq_true hc2, if_pos rfl]
    walk_at "my steps"
    rename Fr _ _ _ _ => F7
    rename News _ _ _ _ => N7
    by_cases hneg : o - 1 < 0
    · rw [decide_eq_true hneg, if_pos rfl]
      walk_at "my steps"
      intro hk6
      walk_at "my hop"
      refine hQr ?_
      (try dsimp only)
      walk_at "my hop"
      (try dsimp only)
      intro hk7
      have := hret _ gens _ F7.keep (fun z => hgb (AllBare.push (b2 z) hb)) hk6
      have e : check x.cps.toList = false := by
        rw [← hgo]
        simp [checkGo, hc2, hneg]
      rw [e] at this
      exact this
    · rw [decide_eq_false hneg, if_neg Bool.false_ne_true]
      walk_at "my hop"
      (try dsimp only)
      walk_at "my hop"
      (try dsimp only)
      walk_at "my hop"
      intro hk6
      walk_at "my next"
      walk_at "my hop"
      refine hQp (news₂ := []) hk6 F7 N7 hO5 ⟨o - 1, _, rfl, rfl, by omega, ?_⟩
      rw [← hgo]
      simp [checkGo, hc2, hneg]
  · rintro m₁ news₁ h tk gens ⟨o, ot, rfl, e1, hob, hgo⟩ hO5 htk5 hgb F5 N5
    clear F4
    have F6 := fr_norm1 F5 e1
    clear F5
    (try dsimp only)
    walk_at "my hop"
    refine wpAny_with_toks (n := 1) htk5 ?_
    walk_at "my steps"
    intro hk6
    walk_at "my hop"
    (try dsimp only)
    intro hk7
    have := hret h gens _ F6.keep (fun z => hgb (AllBare.push (b2 z) hb)) hk7
    rw [← hgo, List.drop_length] at this
    exact this
end
end

section
open PySem PySem.W PyProof.Rows PySem.Calls PySem.Spec
set_option autoImplicit false
set_option Elab.async false
set_option maxRecDepth 100000
set_option maxHeartbeats 8000000
/-- a place, whatever the ids count -/
structure Pl (w : World) (A : Around) (n u : Nat) (h : Heap) : Prop where
  ex : ∃ (mean : ExcName → Option Value) (mg mb : Str → Option Value) (A₀ : Around) (env : Env) (outer : List Env) (base h₀ : Heap) (L : Addr) (m : Str → Option Value),
    A.frames = some (env :: outer) ∧ env.frame = some L ∧ env.scope.kind = .function ∧ Gr w mean mg mb A₀ base outer h₀ ∧ Fr h₀ L h m
  hnd : A.handled = none
  dp : A.depth + n < recursionLimit
  un : A.units + u < cLine
theorem At.pl {w : World} {A : Around} {n u : Nat} {s : Shared} (P : At w A n u s) : Pl w A n u s.heap := ⟨P.ex, P.hnd, P.dp, P.un⟩
theorem Pl.keep {w : World} {A : Around} {n u : Nat} {h h' : Heap} (P : Pl w A n u h) (k : ∀ b o, h.get? b = some o → h'.get? b = some o) : Pl w A n u h' := by
  obtain ⟨mean, mg, mb, A₀, env, outer, base, h₀, L, m, hA, hf, hke, G, F⟩ := P.ex
  exact ⟨⟨mean, mg, mb, A₀, env, outer, base, h₀, L, m, hA, hf, hke, G, fr_keep F k⟩, P.hnd, P.dp, P.un⟩
section
variable {w : World} {A₀ A : Around} {s : Shared} {base h₀ : Heap} {outer : List Env} {L : Addr} {m : Str → Option Value} {env : Env} {mean : ExcName → Option Value} {mg mb : Str → Option Value} {news : List (Addr × Obj)}
  {R : Result → Shared → Prop} {name qual : Str} {params : Arguments} {body : List Stmt} {scope : Scope} {dV kV doc pm cdv ct oc : Value} {an od : Option Addr} {osl : Array (Option Value)} {f : Addr} {args : Args} {binds : List (Str × Value)}
/-- a def with cells is entered -/
theorem enterC {n u : Nat} (P : Pl w A n u s.heap)
    (ho : (hd.heap_39 w.params).lookup f = some ⟨oc, od, .func (fnOf name qual params body scope dV kV doc pm an cdv ct), osl⟩) (hcd : codeIn (hd.heap_39 w.params) cdv qual = true)
    (hbind : BindsTo s (fnOf name qual params body scope dV kV doc pm an cdv ct) args binds)
    (hkind : ∀ n, KindsOk scope n binds)
    (hnd : ((cellsFrom 0 scope.names []).map (·.1)).Nodup)
    (h : ∀ (mean : ExcName → Option Value) (mg mb : Str → Option Value) (base : Heap) (outer : List Env) (L' : Addr) (h₁ : Heap) (tk : Nat) (cells : List (Addr × Obj)),
      Fr s.heap L' h₁ (bindL (envOfC qual scope L' f cdv).kindOf binds fun _ => none) → News s.heap L' h₁ cells → CellsAre (bindC (envOfC qual scope L' f cdv).kindOf binds fun _ => none) (cellsFrom (L' + 1) scope.names []) cells → Gr w mean mg mb A base outer s.heap →
      wpAny (model PR w) (A.deeper (envOfC qual scope L' f cdv)) (execs body (envOfC qual scope L' f cdv))
        (fun fl s' => R (.ok (.ret (match fl with | .ret v => v | _ => .none))) s')
        (fun e s' => wpAny (model PR w) (A.deeper (envOfC qual scope L' f cdv)) (leaving (envOfC qual scope L' f cdv) e) (fun _ s'' => R (.error e) s'') (fun e' s'' => R (.error e') s'') s')
        { s with heap := h₁, toks := tk })
    (hco : scope.isCoroutine = false) (hgen : scope.isGenerator = false) (hk : scope.kind = .function) :
    codeAny (model PR w) A (.call (.ref f) args) R s := by
  obtain ⟨mean, mg, mb, A₀, env, outer, base, h₀, L, m, hA, hf, hke, G, F⟩ := P.ex
  have hroom : A.depth < recursionLimit := Nat.lt_of_le_of_lt (Nat.le_add_right _ _) P.dp
  obtain ⟨FG, GG⟩ := ground_in G F (N := News.nil) (news := []) hA hf hke
  have X' : (hd.heap_39 w.params).In s.heap := G.X.keeps F.keep
  have T' := G.T.keeps F.keep
  refine codeAny_call_function hroom (X' _ _ ho) rfl hco hgen rfl (codeRec_of X' hcd) (hbind _ _ _ _ ?_)
  refine wpAny_newFunctionEnv_cells hk (kinds_of (hkind _)) fun env' he s' x => ?_
  subst he
  refine ⟨T'.nolimit.keeps x.toInCall.keep, codeAny_func ?_⟩
  obtain ⟨h₁, tk, rfl, _⟩ := x.done
  have hk₁ := x.toInCall.keep
  obtain ⟨cells, NC, Y⟩ := Cl.news (h₀ := s.heap) (Nat.le_refl _) fun n c hm => ⟨x.cell n c (lookup_of_mem_nodup (cellsFrom_names scope.names 0 (s.heap.objs.size + 1) [] [] rfl ▸ hnd) hm), x.above n c hm⟩
  exact h mean mg mb base (env :: outer) s.heap.objs.size h₁ tk cells ⟨x.toInCall.ns, hk₁, Nat.le_refl _⟩ NC Y GG
theorem enterP {n u : Nat} (P : Pl w A n u s.heap)
    (ho : (hd.heap_39 w.params).lookup f = some ⟨oc, od, .func (fnOf name qual params body scope dV kV doc pm an cdv ct), osl⟩) (hcd : codeIn (hd.heap_39 w.params) cdv qual = true)
    (hbind : BindsTo s (fnOf name qual params body scope dV kV doc pm an cdv ct) args binds) (hloc : ∀ y ∈ binds, scope.names.lookup y.1 = some .local)
    (h : ∀ (mean : ExcName → Option Value) (mg mb : Str → Option Value) (base : Heap) (outer : List Env) (L' : Addr) (h₁ : Heap), Fr s.heap L' h₁ (fun y => binds.reverse.lookup y) → Gr w mean mg mb A base outer s.heap →
      wpAny (model PR w) (A.deeper (envOf qual scope L' f cdv)) (execs body (envOf qual scope L' f cdv))
        (fun fl s' => R (.ok (.ret (match fl with | .ret v => v | _ => .none))) s')
        (fun e s' => wpAny (model PR w) (A.deeper (envOf qual scope L' f cdv)) (leaving (envOf qual scope L' f cdv) e) (fun _ s'' => R (.error e) s'') (fun e' s'' => R (.error e') s'') s')
        { s with heap := h₁, toks := s.toks + binds.length })
    (hco : scope.isCoroutine = false) (hgen : scope.isGenerator = false) (hk : scope.kind = .function) (hcell : ∀ x ∈ scope.names, x.2 ≠ .cell) :
    codeAny (model PR w) A (.call (.ref f) args) R s := by
  obtain ⟨mean, mg, mb, A₀, env, outer, base, h₀, L, m, hA, hf, hke, G, F⟩ := P.ex
  exact enterN G F News.nil hA hf hke (Nat.lt_of_le_of_lt (Nat.le_add_right _ _) P.dp) ho hcd hbind hloc (fun L' h₁ F' _ G' => h mean mg mb base (env :: outer) L' h₁ F' G') hco hgen hk hcell
theorem Gr.atC (G : Gr w mean mg mb A base outer h₀) {n u : Nat} (F : Fr h₀ L s.heap m) (hk : scope.kind = .function) (hh : A.handled = none) (hd : A.depth + 1 + n < recursionLimit) (hu : A.units + 3 + u < cLine) (ht : 1 ≤ s.toks) :
    At w (A.deeper (envOfC name scope L f cdv)) n u s :=
  ⟨⟨mean, mg, mb, A, _, outer, base, h₀, L, m, Around.frames_deeper G.B.stack, rfl, hk, G, F⟩, hh, hd, hu, ht⟩
theorem Gr.plC {h : Heap} (G : Gr w mean mg mb A base outer h₀) {n u : Nat} (F : Fr h₀ L h m) (hk : scope.kind = .function) (hh : A.handled = none) (hd : A.depth + 1 + n < recursionLimit) (hu : A.units + 3 + u < cLine) :
    Pl w (A.deeper (envOfC name scope L f cdv)) n u h :=
  ⟨⟨mean, mg, mb, A, _, outer, base, h₀, L, m, Around.frames_deeper G.B.stack, rfl, hk, G, F⟩, hh, hd, hu⟩
end
end

section
open PySem PySem.W PyProof.Rows PySem.Calls PySem.Spec
set_option autoImplicit false
set_option Elab.async false
set_option maxRecDepth 100000
set_option maxHeartbeats 8000000
theorem fillL : PySem.Challenge.rw_wb0031_01 = PySem.Challenge.rw_wb0031_01 ∧ hd.heap_39 = hd.heap_39 := by
  k_fill
  exact ⟨rfl, rfl⟩
local macro_rules | `(tactic| walk_at "my stop") => `(tactic| first
  | (with_reducible show wpAny _ _ (subscriptTail _ _ _ _) _ _ _))
set_option hygiene false in
local macro_rules | `(tactic| walk_at "my cons") => `(tactic| ((with_reducible refine execs_genT ?_); intro Qn En tkn htkn Xn))
noncomputable def minL : List Nat → Nat
  | [] => 0
  | [a] => a
  | a :: b :: r => min a (minL (b :: r))
noncomputable def least : Nat → List Nat → Nat
  | 0, _ => 0
  | n + 1, cs => if cs.length = 1 then 0 else cs.sum + minL ((List.range (cs.length - 1)).map fun k => least n (cs.take (k + 1)) + least n (cs.drop (k + 1)))
theorem minL_spec : ∀ {l : List Nat}, l ≠ [] → minL l ∈ l ∧ ∀ a ∈ l, minL l ≤ a
  | [], h => (h rfl).elim
  | [a], _ => ⟨.head _, fun b hb => by rw [List.mem_singleton.mp hb]; exact Nat.le_refl _⟩
  | a :: b :: r, _ => by
    obtain ⟨h1, h2⟩ := minL_spec (l := b :: r) (by simp)
    rw [minL]
    refine ⟨?_, fun c hc => ?_⟩
    · rcases Nat.le_total a (minL (b :: r)) with q | q
      · rw [Nat.min_eq_left q]; exact .head _
      · rw [Nat.min_eq_right q]; exact .tail _ h1
    · rcases List.mem_cons.mp hc with rfl | hc
      · exact Nat.min_le_left _ _
      · exact Nat.le_trans (Nat.min_le_right _ _) (h2 c hc)
theorem sum_ofNat : ∀ l : List Nat, (l.map Int.ofNat).sum = ((l.sum : Nat) : Int)
  | [] => rfl
  | a :: r => by simp [sum_ofNat r]
theorem ints_carried : ∀ {vs : List Value} {l : List Int}, CarriedAll vs (l.map PyData.int) → IntsAre vs l
  | _, [], h => by cases h; exact .nil
  | _, a :: r, h => by
    cases h with
    | cons h1 h2 => cases h1 with | int i t => exact .cons _ _ (ints_carried h2)
section
variable {w : World}
theorem con_least : ∀ (n : Nat) {A : Around} {s : Shared} {Q E : Value → Shared → Prop} {cs : List Nat} {a : Addr} {vs : List Value} {k : Nat}, Pl w A n (16 * n) s.heap → s.heap.get? a = some (W.listOf vs.toArray k) → IntsAre vs (cs.map Int.ofNat) →
    cs ≠ [] → cs.length ≤ n → cs.length ≤ 20 → (∀ c ∈ cs, c ≤ 1000) →
    (∀ h' t' tk', (∀ b o, s.heap.get? b = some o → h'.get? b = some o) → Q (.int (least n cs : Nat) t') ⟨h', s.gens, s.drawn, tk', s.os⟩) →
    wpAny (model PySem.Challenge.rw_wb0031_01.row.prog w) A (call (.ref 111) [.ref a]) Q E s := by
  intro n
  induction n with
  | zero =>
    intro A s Q E cs a vs k _ _ _ hne h0
    cases cs with
    | nil => exact (hne rfl).elim
    | cons c r => cases h0
  | succ n ih =>
  intro A s Q E cs a vs kk P hl hi hne hn h20 hc hret
  obtain ⟨hp, g, d, tk0, os⟩ := s
  have hh : A.handled = none := P.hnd
  refine wpAny_call ?_
  refine' enterC (binds := [(Str.ofString "counts", .ref a)]) P ?k6 ?k7 ?k9 ?kB ?kC ?_ ?c2 ?c3 ?c4
  case k6 => k_is
  case k7 => k_is
  case k9 => exact BindsTo.of_eq rfl
  case kB => exact fun n => ⟨.inr ⟨rfl, rfl⟩, trivial⟩
  case kC => decide
  case c2 => rfl
  case c3 => rfl
  case c4 => rfl
  intro mean mg mb base outer L' h₁ tk1 cells F1 N1 C1 G1
  dsimp only at F1 N1 G1 hret hl
  have B := G1.B
  have X := G1.X
  have T : Top hd.view_39 (looseW hd.view_39 []) mean mg mb _ := G1.T
  (try dsimp only at B X T)
  obtain ⟨co, rfl, hco⟩ := C1.one
  clear C1
  have hco' : co.data = .cell (some (.ref a)) := hco
  have F2 : Fr hp L' h₁ (fun _ => none) := F1
  clear F1 hco
  have hL : hp.IsList a vs.toArray := ⟨_, hl, rfl, kk, rfl⟩
  have hlen : vs.length = cs.length := by have := hi.length; rwa [List.length_map] at this
  have hvl : vs.length ≤ 20 := by omega
  have hsz : vs.toArray.size = cs.length := by simpa using hlen
  walk_at "my hop"
  walk_at "my steps"
  by_cases h1 : cs.length = 1
  · rw [show (((List.map Int.ofNat cs).length : Int) == 1) = true by simp [h1], if_pos rfl]
    walk_at "my steps"
    rw [show least (n + 1) cs = 0 by simp [least, h1]] at hret
    exact hret _ _ _ F2.keep
  · rw [show (((List.map Int.ofNat cs).length : Int) == 1) = false by simp; omega, if_neg Bool.false_ne_true]
    walk_at "my hop"
    (try dsimp only)
    walk_at "my steps"
    refine' sumK ?a0 F2 N1 ?a1 hi ?_
    case a0 => exact hh
    case a1 => exact Fr.lst F2 hL
    intro h2 tk2 t2 F3 N3
    clear F2 N1
    (try dsimp only)
    walk_at "my steps"
    refine ListComp_DCr (h₀ := hp) (L := L') (m := fun _ => none) (cl := cellsFrom (L' + 1) [(Str.ofString "counts", NameKind.cell)] []) (pz := fun _ => true) (d := fun i => .int ((least n (cs.take i.toNat) + least n (cs.drop i.toNat) : Nat) : Int)) ?b0 ?b1 ?b2 ?b3 ?b4 ?b5 ?_ ?b6
    case b0 => exact hh
    case b1 => rfl
    case b2 => decide
    case b3 => rfl
    case b4 => decide
    case b5 => rfl
    case b6 => exact fun _ => rfl
    walk_at "my steps"
    rename Fr _ _ _ _ => F4
    rename News _ _ _ _ => N4
    rename IsRange _ _ _ _ _ _ _ _ => hr
    refine ⟨_, _, _, _, _, _, _, _, cs.length - 1, rfl, hr, ?_, ?_, ?_, F4, N4, ?_, ?_, ?_⟩
    · refine small_one ?_ ?_ ?_ ?_ <;> simp <;> omega
    · rw [rangeSize_one, List.length_map]
      split <;> omega
    · exact Nat.le_trans (Nat.sub_le _ _) (Nat.le_trans h20 (by decide))
    · intro C a1 v s₂ m₂ E' hC ha1 hv hns hm hkeep
      exact wpAny_tests_nil ⟨rfl, _, _, rfl, fun _ _ e => e⟩
    · intro C a1 v s₂ m₂ E' hC ha1 hv _ hns hm hkeep
      obtain ⟨tv, rfl⟩ := hv
      have F5 := Fr.keeps F4 hkeep
      have N5 := News.grown N4 hkeep
      clear F4 N4
      walk_at "my steps"
      have hL5 : s₂.heap.IsList a vs.toArray := Fr.lst F5 hL
      have hdp := P.dp
      have hun := P.un
      have ha2 := mem_rangeInts ha1
      have hin : n + 1 ≤ n + 1 := Nat.le_refl _
      refine slice_listK hL5 .none (.int ..) ?_
      generalize hS3 : (s₂.heap.push _).push _ = h3
      have k3 : ∀ b o, s₂.heap.get? b = some o → h3.get? b = some o := fun b o e => by
        rw [← hS3]; exact Heap.get?_push_of_some _ (Heap.get?_push_of_some _ e)
      have l3 : h3.get? (s₂.heap.objs.size + 1) = some (W.listOf (slicePick vs.toArray none (some a1) none).toList.toArray 0) := by
        rw [← hS3, show s₂.heap.objs.size + 1 = (s₂.heap.push _).objs.size from (Heap.size_push ..).symm, Array.toArray_toList]
        exact Heap.get?_push_size _ rfl
      have i3 := slice_ints_uptoW hi (y := a1) (by omega)
      rw [← List.map_take] at i3
      clear hS3
      walk_at "my steps"
      refine ⟨X.keeps fun b o e => k3 b o (F5.keep b o e), ?_⟩
      refine ih (G1.plC (fr_keep F5 k3) rfl hh (by omega) (by omega)) l3 i3 ?_ ?_ ?_ ?_ fun h4 t4 tk4 k4 => ?_
      · exact fun q => by have := congrArg List.length q; simp at this; rcases this with this | this <;> first | omega | exact hne this
      · rw [List.length_take]; omega
      · rw [List.length_take]; omega
      · exact fun c hcm => hc c (List.mem_of_mem_take hcm)
      dsimp only at k4 ⊢
      have F6 := fr_keep F5 fun b o e => k4 b o (k3 b o e)
      have N6 := news_keep N5 fun b o e => k4 b o (k3 b o e)
      have hns6 := Heap.Ns.keeps hns fun b o e => k4 b o (k3 b o e)
      have hL6 : h4.IsList a vs.toArray := Fr.lst F6 hL
      have k5 : ∀ b o, s₂.heap.get? b = some o → h4.get? b = some o := fun b o e => k4 b o (k3 b o e)
      clear F5 N5 hL5 k3 k4
      walk_at "my steps"
      refine slice_listK hL6 (.int ..) .none ?_
      (try dsimp only)
      generalize hS3 : (h4.push _).push _ = h5
      have k6 : ∀ b o, h4.get? b = some o → h5.get? b = some o := fun b o e => by
        rw [← hS3]; exact Heap.get?_push_of_some _ (Heap.get?_push_of_some _ e)
      have l6 : h5.get? (h4.objs.size + 1) = some (W.listOf (slicePick vs.toArray (some a1) none none).toList.toArray 0) := by
        rw [← hS3, show h4.objs.size + 1 = (h4.push _).objs.size from (Heap.size_push ..).symm, Array.toArray_toList]
        exact Heap.get?_push_size _ rfl
      have i6 := slice_ints_fromW hi (x := a1) (by omega)
      rw [← List.map_drop] at i6
      clear hS3
      walk_at "my steps"
      refine ⟨X.keeps fun b o e => k6 b o (F6.keep b o e), ?_⟩
      refine ih (G1.plC (fr_keep F6 k6) rfl hh (by omega) (by omega)) l6 i6 ?_ ?_ ?_ ?_ fun h7 t7 tk7 k7 => ?_
      · exact fun q => by have := congrArg List.length q; rw [List.length_drop, List.length_nil] at this; omega
      · rw [List.length_drop]; omega
      · rw [List.length_drop]; omega
      · exact fun c hcm => hc c (List.mem_of_mem_drop hcm)
      dsimp only at k7 ⊢
      walk_at "my steps"
      refine ⟨?_, _, _, rfl, fun b o e => k7 b o (k6 b o (k5 b o e))⟩
      rw [← Int.natCast_add]
      exact .int _ _
    · intro D ys h' tk F5 N5 hD hl hpl hca
      walk_at "my steps"
      refine' min_list_N (ns := (List.range (cs.length - 1)).map fun k => ((least n (cs.take (k + 1)) + least n (cs.drop (k + 1)) : Nat) : Int)) ?m0 ?m3 ?m4 ?m5 ?m1 ?m2 ?_
      case m0 => exact hh
      case m3 => exact F5
      case m4 => exact N5
      case m5 => exact hl
      case m1 =>
        refine ints_carried ?_
        have e : List.map (fun i : Int => PyData.int ((least n (cs.take i.toNat) + least n (cs.drop i.toNat) : Nat) : Int)) (List.filter (fun _ => true) (rangeInts 1 1 (cs.length - 1))) =
            ((List.range (cs.length - 1)).map fun k => ((least n (cs.take (k + 1)) + least n (cs.drop (k + 1)) : Nat) : Int)).map PyData.int := by
          rw [show (List.filter (fun _ => true) (rangeInts 1 1 (cs.length - 1))) = rangeInts 1 1 (cs.length - 1) from List.filter_eq_self.mpr fun _ _ => rfl]
          unfold rangeInts
          rw [List.map_map, List.map_map]
          refine List.map_congr_left fun i _ => ?_
          have : (1 + (i : Int) * 1).toNat = i + 1 := by omega
          simp only [Function.comp, this]
        exact e ▸ hca
      case m2 =>
        rw [List.length_map, List.length_range]
        have : 0 < cs.length := List.length_pos_iff.mpr hne
        omega
      intro h7 M t7 tk7 F7 N7 hM hMle
      walk_at "my steps"
      have hne2 : ((List.range (cs.length - 1)).map fun k => least n (cs.take (k + 1)) + least n (cs.drop (k + 1))) ≠ [] := by
        have : 0 < cs.length := List.length_pos_iff.mpr hne
        intro q
        have := congrArg List.length q
        simp at this
        omega
      have e : (List.map Int.ofNat cs).sum + M = ((least (n + 1) cs : Nat) : Int) := by
        rw [least, if_neg h1]
        obtain ⟨q1, q2⟩ := minL_spec hne2
        have hM1 : M = ((minL ((List.range (cs.length - 1)).map fun k => least n (cs.take (k + 1)) + least n (cs.drop (k + 1))) : Nat) : Int) := by
          refine Int.le_antisymm (hMle _ ?_) ?_
          · obtain ⟨k, hk, hk2⟩ := List.mem_map.mp q1
            exact List.mem_map.mpr ⟨k, hk, by rw [hk2]⟩
          · obtain ⟨k, hk, rfl⟩ := List.mem_map.mp hM
            exact Int.ofNat_le.mpr (q2 _ (List.mem_map.mpr ⟨k, hk, rfl⟩))
        rw [hM1, sum_ofNat, Int.natCast_add]
      have := hret h7 tk7 (tk7 + 1) F7.keep
      rw [← e] at this
      exact this
end
end

section
open PySem PySem.W PyProof.Rows PySem.Calls PySem.Spec
set_option autoImplicit false
set_option Elab.async false
set_option maxRecDepth 100000
set_option maxHeartbeats 8000000
section
variable {w : World} {A : Around} {s : Shared} {env : Env} {h₀ : Heap} {L I : Addr} {R : Result → Shared → Prop} {target : Expr} {body : List Stmt} {fp wr : List Addr} {n : Nat} {P : Nat → Value → Prop} {St : Nat → Heap → Prop} {m : Str → Option Value} {news : List (Addr × Obj)}
inductive JFw (h₀ : Heap) (L : Addr) (s : Shared) (n : Nat) (wr : List Addr) (St : Nat → Heap → Prop) (J : Nat → (Str → Option Value) → List (Addr × Obj) → Nat → Prop) (k : Nat) (s' : Shared) : Prop
  | mk (h' : Heap) (tk : Nat) (m' : Str → Option Value) (news' : List (Addr × Obj)) (i : Nat) (_ : s' = ⟨h', s.gens, s.drawn, tk, s.os⟩) (_ : s.toks ≤ tk) (_ : St i h') (_ : Fr h₀ L h' m') (_ : News h₀ L h' news') (_ : (∀ p ∈ news', p.1 ∉ wr)) (_ : J i m' news' tk) (_ : i ≤ n) (_ : k = n + 1 - i) : JFw h₀ L s n wr St J k s'
/-- a loop over what walks; the ids' count is told -/
theorem for_walk (W : Walks PR w A I fp wr n P St) (hL : env.locals = L) (hLf : L ∉ fp) (hwr : ∀ b ∈ wr, h₀.get? b = none) (hnw : ∀ p ∈ news, p.1 ∉ wr) (hst : St 0 s.heap) (F : Fr h₀ L s.heap m) (N : News h₀ L s.heap news)
    (hgo : ∀ i (s' : Shared) v (Q' : Unit → Shared → Prop), St i s'.heap → Q' () s' → wpAny (model PR w) A (letOwnedTupleGo target (.ref I) v) Q' (notedBy (model PR w) A env fun e s' => R (.error e) s') s')
    (J : Nat → (Str → Option Value) → List (Addr × Obj) → Nat → Prop) (h0 : J 0 m news s.toks) (Jm : ∀ i m news tk tk', tk ≤ tk' → J i m news tk → J i m news tk')
    (step : ∀ i v m₁ news₁ h tk own, i < n → P i v → J i m₁ news₁ tk → s.toks ≤ tk → (∀ p ∈ news₁, p.1 ∉ wr) → (∀ p ∈ own, p.1 ∈ fp) → (∀ b ∈ fp, h₀.get? b = none → ∀ o, h.get? b = some o → (b, o) ∈ own) → St (i + 1) h → Fr h₀ L h m₁ → News h₀ L h (own ++ news₁) →
      wpAny (model PR w) A (assign target env v) (fun _ s₂ => wpAny (model PR w) A (execs body env) (fun fl s₃ => tk ≤ s₃.toks → fl = .next ∧ ∃ h' tk' m₂ news₂, s₃ = ⟨h', s.gens, s.drawn, tk', s.os⟩ ∧ Fr h₀ L h' m₂ ∧ News h₀ L h' (own ++ news₂) ∧ (∀ p ∈ news₂, p.1 ∉ wr) ∧ J (i + 1) m₂ news₂ tk')
        (notedBy (model PR w) A env fun e s' => R (.error e) s') s₂) (notedBy (model PR w) A env fun e s' => R (.error e) s') ⟨h, s.gens, s.drawn, tk, s.os⟩)
    (hR : ∀ h' tk m' news', s.toks ≤ tk → Fr h₀ L h' m' → News h₀ L h' news' → (∀ p ∈ news', p.1 ∉ wr) → J n m' news' tk → R (.ok .next) ⟨h', s.gens, s.drawn, tk, s.os⟩) :
    codeAny (model PR w) A (.forLoop target (.ref I) body [] env) R s := by
  subst hL
  have hLw : env.locals ∉ wr := fun h => hLf (W.sub _ h)
  have old : ∀ b o, h₀.get? b = some o → b ∉ wr := fun b o e hb => by rw [hwr b hb] at e; cases e
  refine codeAny_forLoop_any (JFw h₀ env.locals s n wr St J) ?_ (n + 1)
    ⟨s.heap, s.toks, m, news, 0, rfl, Nat.le_refl _, hst, F, N, hnw, h0, Nat.zero_le _, rfl⟩
  rintro k s' ⟨h', tk, m', news', i, rfl, htk, hst', F', N', hnw', hJ, hi, rfl⟩
  have next : ∀ h₁ : Heap, (∀ b o, b ∉ wr → h'.get? b = some o → h₁.get? b = some o) → Fr h₀ env.locals h₁ m' ∧ News h₀ env.locals h₁ news' := fun h₁ hk₁ =>
    ⟨⟨F'.ns.at' fun o e => hk₁ _ o hLw e, fun b o e => hk₁ b o (old b o e) (F'.keep b o e), F'.above⟩, fun p hp => ⟨hk₁ _ _ (hnw' p hp) (N' p hp).1, (N' p hp).2⟩⟩
  by_cases hlt : i < n
  · refine wpAny_with_toks (n := tk) (Nat.le_refl _) (W.item i _ _ _ hlt hst' fun v h₁ tk₁ hPv hst₁ hk₁ => ?_)
    intro ht1
    dsimp only at ht1
    obtain ⟨F₁, N₁⟩ := next h₁ hk₁
    have Nown : News h₀ env.locals h₁ (ownOf h₀ fp h₁) := news_ownOf hLf
    refine hgo (i + 1) _ v _ hst₁ ?_
    refine wpAny_with_toks (n := tk₁) (Nat.le_refl _) (wpAny_mono (step i v m' news' h₁ tk₁ (ownOf h₀ fp h₁) hlt hPv (Jm _ _ _ _ _ ht1 hJ) (Nat.le_trans htk ht1) hnw' ownOf_sub (fun b hb hn o e => mem_ownOf hb hn e) hst₁ F₁ (Nown.append N₁))
      (fun _ s₂ h₂ ht2 => wpAny_with_toks ht2 (wpAny_mono h₂ (fun f s₃ h₃ ht3 => ?_) fun _ _ e _ => e)) fun _ _ e _ => e)
    obtain ⟨rfl, h₃', tk₃, m₂, news₂, rfl, F₃, N₃, ha₃, hJ₃⟩ := h₃ ht3
    refine ⟨n + 1 - (i + 1), by omega, h₃', tk₃, m₂, news₂, i + 1, rfl, Nat.le_trans htk (Nat.le_trans ht1 ht3), ?_, F₃, N₃.right, ha₃, hJ₃, hlt, rfl⟩
    refine W.frame _ _ _ hst₁ fun b hb o e => ?_
    cases hn : h₀.get? b with
    | some o₀ =>
      have : o₀ = o := by have := F₁.keep b o₀ hn; rw [e] at this; exact (Option.some.inj this).symm
      exact this ▸ F₃.keep b o₀ hn
    | none => exact (N₃ _ (List.mem_append_left _ (mem_ownOf hb hn e))).1
  · have hin : i = n := by omega
    subst hin
    refine wpAny_with_toks (n := tk) (Nat.le_refl _) (W.done _ _ _ hst' fun h₁ tk₁ hk₁ => ?_)
    intro ht1
    obtain ⟨F₁, N₁⟩ := next h₁ hk₁
    exact wpAny_execs_nil (hR h₁ tk₁ m' news' (Nat.le_trans htk ht1) F₁ N₁ hnw' (Jm _ _ _ _ _ ht1 hJ))
/-- the same loop; what a turn ends in is said by a letter -/
theorem for_walkG (W : Walks PR w A I fp wr n P St) (hL : env.locals = L) (hLf : L ∉ fp) (hwr : ∀ b ∈ wr, h₀.get? b = none) (hnw : ∀ p ∈ news, p.1 ∉ wr) (hst : St 0 s.heap) (F : Fr h₀ L s.heap m) (N : News h₀ L s.heap news)
    (hgo : ∀ i (s' : Shared) v (Q' : Unit → Shared → Prop), St i s'.heap → Q' () s' → wpAny (model PR w) A (letOwnedTupleGo target (.ref I) v) Q' (notedBy (model PR w) A env fun e s' => R (.error e) s') s')
    (J : Nat → (Str → Option Value) → List (Addr × Obj) → Nat → Prop) (h0 : J 0 m news s.toks) (Jm : ∀ i m news tk tk', tk ≤ tk' → J i m news tk → J i m news tk')
    (step : ∀ i v m₁ news₁ h tk own, i < n → P i v → J i m₁ news₁ tk → s.toks ≤ tk → (∀ p ∈ news₁, p.1 ∉ wr) → (∀ p ∈ own, p.1 ∈ fp) → (∀ b ∈ fp, h₀.get? b = none → ∀ o, h.get? b = some o → (b, o) ∈ own) → St (i + 1) h → Fr h₀ L h m₁ → News h₀ L h (own ++ news₁) →
      ∀ (Q' : Flow → Shared → Prop) (E1 E2 : Value → Shared → Prop), (∀ {h' : Heap} {tk' : Nat} {m₂ : Str → Option Value} {news₂ : List (Addr × Obj)}, Fr h₀ L h' m₂ → News h₀ L h' (own ++ news₂) → (∀ p ∈ news₂, p.1 ∉ wr) → (tk ≤ tk' → J (i + 1) m₂ news₂ tk') → Q' .next ⟨h', s.gens, s.drawn, tk', s.os⟩) →
      wpAny (model PR w) A (assign target env v) (fun _ s₂ => wpAny (model PR w) A (execs body env) Q' E1 s₂) E2 ⟨h, s.gens, s.drawn, tk, s.os⟩)
    (hR : ∀ h' tk m' news', s.toks ≤ tk → Fr h₀ L h' m' → News h₀ L h' news' → (∀ p ∈ news', p.1 ∉ wr) → J n m' news' tk → R (.ok .next) ⟨h', s.gens, s.drawn, tk, s.os⟩) :
    codeAny (model PR w) A (.forLoop target (.ref I) body [] env) R s :=
  for_walk W hL hLf hwr hnw hst F N hgo J h0 Jm (fun i v m₁ news₁ h tk own hi hv hJ htk hnw hown hown3 hst F N =>
    step i v m₁ news₁ h tk own hi hv hJ htk hnw hown hown3 hst F N _ _ _ fun F2 N2 hn2 hJ2 ht2 => ⟨rfl, _, _, _, _, rfl, F2, N2, hn2, hJ2 ht2⟩) hR
theorem for_walkH (W : Walks PR w A I fp wr n P St) (hL : env.locals = L) (hLf : L ∉ fp) (hwr : ∀ b ∈ wr, h₀.get? b = none) (hnw : ∀ p ∈ news, p.1 ∉ wr) (hst : St 0 s.heap) (F : Fr h₀ L s.heap m) (N : News h₀ L s.heap news)
    (hgo : ∀ i (s' : Shared) v (Q' : Unit → Shared → Prop), St i s'.heap → Q' () s' → wpAny (model PR w) A (letOwnedTupleGo target (.ref I) v) Q' (notedBy (model PR w) A env fun e s' => R (.error e) s') s')
    (J : Nat → (Str → Option Value) → List (Addr × Obj) → Nat → Prop) (h0 : J 0 m news s.toks) (Jm : ∀ i m news tk tk', tk ≤ tk' → J i m news tk → J i m news tk')
    (step : ∀ i v m₁ news₁ h tk own, i < n → P i v → J i m₁ news₁ tk → s.toks ≤ tk → (∀ p ∈ news₁, p.1 ∉ wr) → (∀ p ∈ own, p.1 ∈ fp) → (∀ b ∈ fp, h₀.get? b = none → ∀ o, h.get? b = some o → (b, o) ∈ own) → St (i + 1) h → Fr h₀ L h m₁ → News h₀ L h (own ++ news₁) →
      ∀ (Q' : Flow → Shared → Prop) (E1 E2 : Value → Shared → Prop), (∀ {s₃ : Shared}, (tk ≤ s₃.toks → ∃ h' tk' m₂ news₂, s₃ = ⟨h', s.gens, s.drawn, tk', s.os⟩ ∧ Fr h₀ L h' m₂ ∧ News h₀ L h' (own ++ news₂) ∧ (∀ p ∈ news₂, p.1 ∉ wr) ∧ J (i + 1) m₂ news₂ tk') → Q' .next s₃) →
      wpAny (model PR w) A (assign target env v) (fun _ s₂ => wpAny (model PR w) A (execs body env) Q' E1 s₂) E2 ⟨h, s.gens, s.drawn, tk, s.os⟩)
    (hR : ∀ h' tk m' news', s.toks ≤ tk → Fr h₀ L h' m' → News h₀ L h' news' → (∀ p ∈ news', p.1 ∉ wr) → J n m' news' tk → R (.ok .next) ⟨h', s.gens, s.drawn, tk, s.os⟩) :
    codeAny (model PR w) A (.forLoop target (.ref I) body [] env) R s :=
  for_walk W hL hLf hwr hnw hst F N hgo J h0 Jm (fun i v m₁ news₁ h tk own hi hv hJ htk hnw hown hown3 hst F N =>
    step i v m₁ news₁ h tk own hi hv hJ htk hnw hown hown3 hst F N _ _ _ fun hx ht2 => ⟨rfl, hx ht2⟩) hR
end
end

section
open PySem PySem.W PyProof.Rows PySem.Calls PySem.Spec
set_option autoImplicit false
set_option Elab.async false
set_option maxRecDepth 100000
set_option maxHeartbeats 8000000
structure Paper where
  nm : Nat
  signs : List Nat
  cover : List Nat
noncomputable def baseOf (k : Nat) : Int := match k with | 0 => 87 | 1 => 346 | 2 => 649 | 3 => 1001 | _ => 0
noncomputable def coverOf (j : Nat) : List Nat := match j with | 0 => [40, 40] | 1 => [41, 41] | 2 => [92, 34, 40, 41] | _ => [92, 34, 41, 40]
noncomputable def signOf (j : Nat) : Nat := match j with | 0 => 38 | 1 => 60 | _ => 62
noncomputable def drawnOf (ns : List Int) (k : Nat) : Nat := ((baseOf k + ns.getD k 0) % 1296).toNat
noncomputable def signsOf (d : Nat) : List Nat := (List.range (1 + d % 4)).map fun i => signOf (d / 4 / 3 ^ i % 3)
noncomputable def paperOf (ns : List Int) (k : Nat) : Paper := ⟨97 + k, signsOf (drawnOf ns k), coverOf (drawnOf ns k / 324)⟩
noncomputable def papersOf (ns : List Int) : List Paper := (List.range (if 2 < ns.length then 5 else 4)).map (paperOf ns)
/-- what the papers' list holds; ids below B -/
inductive PapV (B : Nat) (P : Addr → Obj → Prop) : List Value → List Paper → Prop
  | nil : PapV B P [] []
  | cons {T : Addr} {p : Paper} {t1 t2 t3 : Tok} {vs : List Value} {ps : List Paper} : P T (tupObj [.str ⟨#[p.nm]⟩ t1, .str ⟨p.signs.toArray⟩ t2, .str ⟨p.cover.toArray⟩ t3]) → (t1 ≠ 0 ∧ t3 ≠ 0 ∧ t1 ≠ t3 ∧ t1 < B) → PapV B P vs ps → PapV B P (.ref T :: vs) (p :: ps)
theorem PapV.mono {B B' : Nat} {P Q : Addr → Obj → Prop} (hB : B ≤ B') (h : ∀ a o, P a o → Q a o) {vs : List Value} {ps : List Paper} (x : PapV B P vs ps) : PapV B' Q vs ps := by
  induction x with
  | nil => exact .nil
  | cons a b _ ih => exact .cons (h _ _ a) ⟨b.1, b.2.1, b.2.2.1, Nat.lt_of_lt_of_le b.2.2.2 hB⟩ ih
theorem PapV.snoc {B : Nat} {P : Addr → Obj → Prop} {vs : List Value} {ps : List Paper} {T : Addr} {p : Paper} {t1 t2 t3 : Tok} (x : PapV B P vs ps) (h : P T (tupObj [.str ⟨#[p.nm]⟩ t1, .str ⟨p.signs.toArray⟩ t2, .str ⟨p.cover.toArray⟩ t3])) (ht : t1 ≠ 0 ∧ t3 ≠ 0 ∧ t1 ≠ t3 ∧ t1 < B) : PapV B P (vs ++ [.ref T]) (ps ++ [p]) := by
  induction x with
  | nil => exact .cons h ht .nil
  | cons a b _ ih => exact .cons a b ih
theorem PapV.length {B : Nat} {P : Addr → Obj → Prop} {vs : List Value} {ps : List Paper} (x : PapV B P vs ps) : vs.length = ps.length := by
  induction x with
  | nil => rfl
  | cons _ _ _ ih => simp [ih]
noncomputable def PapersAt (h : Heap) (a : Addr) (B : Nat) (ps : List Paper) : Prop := ∃ vs n, h.get? a = some (W.listOf (List.toArray vs) n) ∧ PapV B (fun a o => h.get? a = some o) vs ps
theorem fr_norm2 {h₀ h : Heap} {L : Addr} {m : Str → Option Value} {x1 x2 : Str} {v1 v2 : Value} (F : Fr h₀ L h m) (e1 : m x1 = some v1) (e2 : m x2 = some v2) :
    Fr h₀ L h (fun y => if y = x1 then some v1 else if y = x2 then some v2 else m y) := by
  have e : m = (fun y => if y = x1 then some v1 else if y = x2 then some v2 else m y) := by
    funext y
    by_cases h1 : y = x1
    · rw [if_pos h1, h1, e1]
    by_cases h2 : y = x2
    · rw [if_neg h1, if_pos h2, h2, e2]
    · rw [if_neg h1, if_neg h2]
  exact e ▸ F
theorem tok_fact (tk tc : Nat) (h : tc = tk + 1 + 1 ∨ tc = tk + 1 + 1 + 1 ∨ tc = tk + 1 + 1 + 1 + 1 ∨ tc = tk + 1 + 1 + 1 + 1 + 1) : tk + 1 ≠ 0 ∧ tc ≠ 0 ∧ tk + 1 ≠ tc ∧ tk + 1 < tk + 1 + 1 + 1 + 1 + 1 + 1 + 1 + 1 := by omega
theorem if_int {M : Model} {A : Around} {s : Shared} {Q E : Value → Shared → Prop} {env : Env} {c : Prop} [Decidable c] {e1 e2 : Expr} {X : Int}
    (h1 : c → wpAny M A (eval e1 env) (fun v s' => ∃ t tk, v = .int X t ∧ s' = { s with toks := tk }) E s) (h2 : ¬ c → wpAny M A (eval e2 env) (fun v s' => ∃ t tk, v = .int X t ∧ s' = { s with toks := tk }) E s)
    (hQ : ∀ t tk, Q (.int X t) { s with toks := tk }) : if c then wpAny M A (eval e1 env) Q E s else wpAny M A (eval e2 env) Q E s := by
  split
  · next hc => exact wpAny_mono (h1 hc) (fun v s' ⟨t, tk, e, e'⟩ => by rw [e, e']; exact hQ t tk) fun _ _ x => x
  · next hc => exact wpAny_mono (h2 hc) (fun v s' ⟨t, tk, e, e'⟩ => by rw [e, e']; exact hQ t tk) fun _ _ x => x
theorem drawn_eq (ns : List Int) (i : Nat) : (([87, 346, 649, 1001, 0] : List Int).getD (i : Int).toNat 0 + ns.getD i 0).fmod 1296 = ((drawnOf ns i : Nat) : Int) := by
  have e : ([87, 346, 649, 1001, 0] : List Int).getD (i : Int).toNat 0 = baseOf i := by
    rw [Int.toNat_natCast]
    match i with
    | 0 => rfl
    | 1 => rfl
    | 2 => rfl
    | 3 => rfl
    | 4 => rfl
    | n + 5 => rfl
  rw [e, Int.fmod_eq_emod_of_nonneg _ (by decide)]
  unfold drawnOf
  have := Int.emod_nonneg (baseOf i + ns.getD i 0) (show (1296 : Int) ≠ 0 by decide)
  omega
theorem drawn_lt (ns : List Int) (i : Nat) : drawnOf ns i < 1296 := by
  unfold drawnOf
  have := Int.emod_lt_of_pos (baseOf i + ns.getD i 0) (show (0 : Int) < 1296 by decide)
  omega
theorem sgn_eq (D c : Nat) (C : Int) (hC : C = c) (hc : 0 < c) : (((D : Int).fdiv 4).fdiv C).fmod 3 = ((D / 4 / c % 3 : Nat) : Int) := by
  subst hC
  rw [Int.fdiv_eq_ediv_of_nonneg _ (by omega), Int.fdiv_eq_ediv_of_nonneg _ (by omega), Int.fmod_eq_emod_of_nonneg _ (by decide)]
  push_cast
  rfl
theorem item_sign (j : Nat) (h : j < 3) : Txt.item (Str.ofString "&<>") (j : Int) = ⟨#[signOf j]⟩ := by
  have : j = 0 ∨ j = 1 ∨ j = 2 := by omega
  rcases this with rfl | rfl | rfl <;> rfl
theorem item_abc (j : Nat) (h : j < 5) : Txt.item (Str.ofString "abcde") (j : Int) = ⟨#[97 + j]⟩ := by
  have : j = 0 ∨ j = 1 ∨ j = 2 ∨ j = 3 ∨ j = 4 := by omega
  rcases this with rfl | rfl | rfl | rfl | rfl <;> rfl
theorem cover_item (t0 t1 t2 t3 : Tok) (j : Nat) (h : j < 4) :
    ∃ t, (t = t0 ∨ t = t1 ∨ t = t2 ∨ t = t3) ∧ (#[Value.str (Str.ofString "((") t0, .str (Str.ofString "))") t1, .str (Str.ofString "\\\"()") t2, .str (Str.ofString "\\\")(") t3] : Array Value)[j]? = some (.str ⟨(coverOf j).toArray⟩ t) := by
  have : j = 0 ∨ j = 1 ∨ j = 2 ∨ j = 3 := by omega
  rcases this with rfl | rfl | rfl | rfl
  · exact ⟨t0, .inl rfl, rfl⟩
  · exact ⟨t1, .inr (.inl rfl), rfl⟩
  · exact ⟨t2, .inr (.inr (.inl rfl)), rfl⟩
  · exact ⟨t3, .inr (.inr (.inr rfl)), rfl⟩
theorem flat_single : ∀ l : List Nat, (l.map fun c => [c]).flatten = l
  | [] => rfl
  | c :: r => by simp [flat_single r]
theorem strs_carried : ∀ {vs : List Value} {l : List Str}, CarriedAll vs (l.map PyData.str) → StrsAre vs l
  | _, [], h => by cases h; exact .nil
  | _, a :: r, h => by
    cases h with
    | cons h1 h2 => cases h1 with | str i t => exact .cons _ _ (strs_carried h2)
theorem pap_step {B B' : Nat} {hp h : Heap} {L c nl T l' I : Addr} {ol co tup : Obj} {vs : List Value} {nn : Nat} {rest own ts : List (Addr × Obj)} {ps : List Paper} {p : Paper} {t1 t2 t3 : Tok}
    (N : News hp L h ((T, tup) :: (l', ol) :: (nl, W.listOf (vs.toArray.push (.ref T)) (nn + 1)) :: (c, co) :: rest)) (hrest : rest = own ++ ts) (hoL : ∀ p ∈ own, p.1 = I) (hn1 : nl ≠ I) (hn2 : c ≠ I) (ht1 : ∀ p ∈ ts, p.1 ≠ nl) (ht2 : ∀ p ∈ ts, p.1 ≠ c)
    (hT1 : T ≠ nl) (hT2 : T ≠ c) (hvs : PapV B (fun a o => (a, o) ∈ ts) vs ps) (hBB : B ≤ B') (htk : t1 ≠ 0 ∧ t3 ≠ 0 ∧ t1 ≠ t3 ∧ t1 < B') (htup : tup = tupObj [.str ⟨#[p.nm]⟩ t1, .str ⟨p.signs.toArray⟩ t2, .str ⟨p.cover.toArray⟩ t3]) (hts : ∀ p ∈ ts, p.1 ≠ I) (hTI : T ≠ I) :
    ∃ (vs2 : List Value) (nn2 : Nat) (ts2 : List (Addr × Obj)), News hp L h (own ++ (nl, W.listOf vs2.toArray nn2) :: (c, co) :: ts2) ∧ (∀ p ∈ (nl, W.listOf vs2.toArray nn2) :: (c, co) :: ts2, p.1 ≠ I) ∧ (∀ p ∈ ts2, p.1 ≠ nl) ∧ (∀ p ∈ ts2, p.1 ≠ c) ∧
      PapV B' (fun a o => (a, o) ∈ ts2) vs2 (ps ++ [p]) := by
  subst htup hrest
  refine ⟨vs ++ [.ref T], nn + 1, (T, tupObj [.str ⟨#[p.nm]⟩ t1, .str ⟨p.signs.toArray⟩ t2, .str ⟨p.cover.toArray⟩ t3]) :: ts, fun q hq => ?_, fun q hq => ?_, fun q hq => ?_, fun q hq => ?_, ?_⟩
  · have e : W.listOf (vs ++ [Value.ref T]).toArray (nn + 1) = W.listOf (vs.toArray.push (.ref T)) (nn + 1) := by rw [List.push_toArray]
    rw [e] at hq
    refine N q ?_
    rcases List.mem_append.mp hq with hq | hq
    · exact .tail _ (.tail _ (.tail _ (.tail _ (List.mem_append.mpr (.inl hq)))))
    rcases List.mem_cons.mp hq with rfl | hq
    · exact .tail _ (.tail _ (.head _))
    rcases List.mem_cons.mp hq with rfl | hq
    · exact .tail _ (.tail _ (.tail _ (.head _)))
    rcases List.mem_cons.mp hq with rfl | hq
    · exact .head _
    · exact .tail _ (.tail _ (.tail _ (.tail _ (List.mem_append.mpr (.inr hq)))))
  · rcases List.mem_cons.mp hq with rfl | hq
    · exact hn1
    rcases List.mem_cons.mp hq with rfl | hq
    · exact hn2
    rcases List.mem_cons.mp hq with rfl | hq
    · exact hTI
    · exact hts q hq
  · rcases List.mem_cons.mp hq with rfl | hq
    · exact hT1
    · exact ht1 q hq
  · rcases List.mem_cons.mp hq with rfl | hq
    · exact hT2
    · exact ht2 q hq
  · refine PapV.snoc (t1 := t1) (t2 := t2) (t3 := t3) (PapV.mono hBB (fun a o h => ?_) hvs) ?_ htk
    · exact List.Mem.tail _ h
    · exact List.Mem.head _
theorem if_const {M : Model} {A : Around} {s : Shared} {Q E : Value → Shared → Prop} {env : Env} {c : Prop} [Decidable c] {a b : Int} {k1 k2 : Nat} {p1 p2 : Pos}
    (h : ∀ N, N = (if c then a else b) → Q (.int N s.toks) { s with toks := s.toks + 1 }) :
    if c then wpAny M A (eval (.Constant (.int a) k1 p1) env) Q E s else wpAny M A (eval (.Constant (.int b) k2 p2) env) Q E s := by
  split
  · next hc => exact wpAny_Constant_int (h _ (if_pos hc).symm)
  · next hc => exact wpAny_Constant_int (h _ (if_neg hc).symm)
end

section
open PySem PySem.W PyProof.Rows PySem.Calls PySem.Spec
set_option autoImplicit false
set_option Elab.async false
set_option maxRecDepth 100000
set_option maxHeartbeats 8000000
theorem PapV.get {B : Nat} {P : Addr → Obj → Prop} {vs : List Value} {ps : List Paper} (x : PapV B P vs ps) : ∀ {i : Nat} {v : Value}, vs[i]? = some v →
    ∃ T p t1 t2 t3, v = .ref T ∧ ps[i]? = some p ∧ P T (tupObj [.str ⟨#[p.nm]⟩ t1, .str ⟨p.signs.toArray⟩ t2, .str ⟨p.cover.toArray⟩ t3]) ∧ (t1 ≠ 0 ∧ t3 ≠ 0 ∧ t1 ≠ t3 ∧ t1 < B) := by
  induction x with
  | nil => intro i v h; simp at h
  | @cons T p t1 t2 t3 vs ps hT ht _ ih =>
    intro i v h
    cases i with
    | zero => exact ⟨T, p, t1, t2, t3, by simpa using h.symm, rfl, hT, ht⟩
    | succ i => exact ih (by simpa using h)
theorem PapersAt.keep {h h' : Heap} {a : Addr} {B B' : Nat} {ps : List Paper} (x : PapersAt h a B ps) (hB : B ≤ B') (k : ∀ b o, h.get? b = some o → h'.get? b = some o) : PapersAt h' a B' ps := by
  obtain ⟨vs, n, hl, hv⟩ := x
  exact ⟨vs, n, k _ _ hl, hv.mono hB fun a o => k a o⟩
section
variable {w : World} {A : Around} {s : Shared} {h₀ : Heap} {L I a f : Addr} {name : Str} {scope : Scope} {cd : Value} {m : Str → Option Value} {news : List (Addr × Obj)} {R : Result → Shared → Prop} {x1 x2 x3 : Str} {p1 p2 p3 pt : Pos} {xk} {body : List Stmt} {ps : List Paper}
theorem papers_for (hh : A.handled = none) (hk : scope.kind = .function) (k1 : (envOf name scope L f cd).kindOf x1 = some .local) (k2 : (envOf name scope L f cd).kindOf x2 = some .local) (k3 : (envOf name scope L f cd).kindOf x3 = some .local)
    {B : Nat} (hB : B ≤ s.toks) (hP : PapersAt h₀ a B ps) (hit : s.heap.IsListIter I a 0) (hI : h₀.get? I = none) (hIL : L ≠ I) (hIn : ∀ p ∈ news, p.1 ≠ I) (F : Fr h₀ L s.heap m) (N : News h₀ L s.heap news)
    (J : Nat → (Str → Option Value) → List (Addr × Obj) → Prop) (h0 : J 0 m news)
    (step : ∀ i p t1 t2 t3 m₁ news₁ h tk own, ps[i]? = some p → J i m₁ news₁ → 1 ≤ tk → (t1 ≠ 0 ∧ t3 ≠ 0 ∧ t1 ≠ t3 ∧ t1 < tk) → (∀ q ∈ own, q.1 = I) → (∃ o, (I, o) ∈ own) → (∀ q ∈ news₁, q.1 ≠ I) →
      Fr h₀ L h (fun y => if y = x3 then some (.str ⟨p.cover.toArray⟩ t3) else if y = x2 then some (.str ⟨p.signs.toArray⟩ t2) else if y = x1 then some (.str ⟨#[p.nm]⟩ t1) else m₁ y) → News h₀ L h (own ++ news₁) →
      wpAny (model PR w) A (execs body (envOf name scope L f cd)) (fun fl s₃ => fl = .next ∧ ∃ h' tk' m₂ news₂, s₃ = ⟨h', s.gens, s.drawn, tk', s.os⟩ ∧ Fr h₀ L h' m₂ ∧ News h₀ L h' (own ++ news₂) ∧ (∀ q ∈ news₂, q.1 ≠ I) ∧ J (i + 1) m₂ news₂)
        (notedBy (model PR w) A (envOf name scope L f cd) fun e s' => R (.error e) s') ⟨h, s.gens, s.drawn, tk, s.os⟩)
    (hR : ∀ h' tk m' news', s.toks ≤ tk → Fr h₀ L h' m' → News h₀ L h' news' → J ps.length m' news' → R (.ok .next) ⟨h', s.gens, s.drawn, tk, s.os⟩) :
    codeAny (model PR w) A (.forLoop (.Tuple [.Name x1 p1, .Name x2 p2, .Name x3 p3] xk pt) (.ref I) body [] (envOf name scope L f cd)) R s := by
  obtain ⟨vs, n, hl, hv⟩ := hP
  have hlst : h₀.IsList a vs.toArray := ⟨_, hl, rfl, n, rfl⟩
  have hne : a ≠ I := fun q => by rw [q, hI] at hl; cases hl
  have hLa : L ≠ a := fun q => absurd (Nat.lt_of_lt_of_le (Heap.lt_size hl) F.above) (by rw [q]; exact Nat.lt_irrefl _)
  have hlen := hv.length
  refine for_walk (env := envOf name scope L f cd) (Walks.list hh I a hne vs.toArray) rfl ?_ ?_ ?_ ⟨hit, Fr.lst F hlst⟩ F N ?_ (fun i m news _ => J i m news) h0 (fun _ _ _ _ _ _ h => h) ?_ ?_
  · intro hm
    rcases List.mem_cons.mp hm with q | hm
    · exact hIL q
    · exact hLa (List.mem_singleton.mp hm)
  · exact fun b hb => List.mem_singleton.mp hb ▸ hI
  · exact fun p hp hb => hIn p hp (List.mem_singleton.mp hb)
  · intro i s' v Q' hst hq
    cases v with
    | ref T => exact wpAny_letOwnedTupleGo_listiter hst.1 hq
    | _ => exact wpAny_pure hq
  · intro i v m₁ news₁ h tk own hi hvi hJ htk hnw hown hown3 hst F1 N1
    have hvi' : vs[i]? = some v := by simpa using hvi
    obtain ⟨T, p, t1, t2, t3, rfl, hp, hT, ht⟩ := hv.get hvi'
    have hT1 := F1.keep _ _ hT
    have hoI : ∀ q ∈ own, q.1 = I := fun q hq => by
      rcases List.mem_cons.mp (hown q hq) with h | h
      · exact h
      · have h2 := List.mem_singleton.mp h
        have h3 := (N1 q (List.mem_append.mpr (.inl hq))).2.2
        rw [h2, hl] at h3; cases h3
    have hIo : ∃ o, (I, o) ∈ own := by
      obtain ⟨o, ho, _⟩ := hst.1
      exact ⟨o, hown3 I (.head _) hI o ho⟩
    refine wpAny_assign_Tuple (t := T) (items := #[.str ⟨#[p.nm]⟩ t1, .str ⟨p.signs.toArray⟩ t2, .str ⟨p.cover.toArray⟩ t3]) hh ⟨_, hT1, rfl, _, rfl⟩ rfl rfl fun h3 hx3 => ?_
    replace hx3 : ∀ b o, h.get? b = some o → h3.get? b = some o := fun b o e => hx3 b o (Nat.ne_of_lt (Heap.lt_size e)) e
    have F2 := fr_keep F1 hx3
    have N2 := news_keep N1 hx3
    clear F1 N1
    show wpAny _ _ (do holding [_, _] (assign (.Name _ _) _ _); do holding [_] (assign (.Name _ _) _ _); do holding [] (assign (.Name _ _) _ _); pure ()) _ _ _
    refine wpAny_bind (wpAny_holding (wpAny_assign_Name (stN F2 N2 (fun h4 F3 N3 => ?_) hk k1)))
    refine wpAny_bind (wpAny_holding (wpAny_assign_Name (stN F3 N3 (fun h5 F4 N4 => ?_) hk k2)))
    refine wpAny_bind (wpAny_holding (wpAny_assign_Name (stN F4 N4 (fun h6 F5 N5 => wpAny_pure ?_) hk k3)))
    dsimp only
    have hI1 : ∀ q ∈ news₁, q.1 ≠ I := fun q hq e => hnw q hq (List.mem_singleton.mpr e)
    refine wpAny_mono (step i p t1 t2 t3 m₁ news₁ h6 (tk + 1 + 1 + 1) own hp hJ (Nat.le_add_left 1 _) ⟨ht.1, ht.2.1, ht.2.2.1, Nat.lt_of_lt_of_le ht.2.2.2 (Nat.le_trans (Nat.le_trans hB htk) (Nat.le_add_right tk 3))⟩ hoI hIo hI1 F5 N5) (fun fl s₃ hfl _ => ?_) fun _ _ x => x
    obtain ⟨rfl, h', tk', m₂, news₂, rfl, F6, N6, hn6, hJ6⟩ := hfl
    exact ⟨rfl, h', tk', m₂, news₂, rfl, F6, N6, fun q hq e => hn6 q hq (List.mem_singleton.mp e), hJ6⟩
  · intro h' tk m' news' htk F1 N1 _ hJ
    have e : vs.toArray.size = ps.length := by simpa using hlen
    rw [e] at hJ
    exact hR h' tk m' news' htk F1 N1 hJ
theorem papers_forG (hh : A.handled = none) (hk : scope.kind = .function) (k1 : (envOf name scope L f cd).kindOf x1 = some .local) (k2 : (envOf name scope L f cd).kindOf x2 = some .local) (k3 : (envOf name scope L f cd).kindOf x3 = some .local)
    {B : Nat} (hB : B ≤ s.toks) (hP : PapersAt h₀ a B ps) (hit : s.heap.IsListIter I a 0) (hI : h₀.get? I = none) (hIL : L ≠ I) (hIn : ∀ p ∈ news, p.1 ≠ I) (F : Fr h₀ L s.heap m) (N : News h₀ L s.heap news)
    (J : Nat → (Str → Option Value) → List (Addr × Obj) → Prop) (h0 : J 0 m news)
    (step : ∀ i p t1 t2 t3 m₁ news₁ h tk own, ps[i]? = some p → J i m₁ news₁ → 1 ≤ tk → (t1 ≠ 0 ∧ t3 ≠ 0 ∧ t1 ≠ t3 ∧ t1 < tk) → (∀ q ∈ own, q.1 = I) → (∃ o, (I, o) ∈ own) → (∀ q ∈ news₁, q.1 ≠ I) →
      Fr h₀ L h (fun y => if y = x3 then some (.str ⟨p.cover.toArray⟩ t3) else if y = x2 then some (.str ⟨p.signs.toArray⟩ t2) else if y = x1 then some (.str ⟨#[p.nm]⟩ t1) else m₁ y) → News h₀ L h (own ++ news₁) →
      ∀ (Q' : Flow → Shared → Prop) (E' : Value → Shared → Prop), (∀ {h' : Heap} {tk' : Nat} {m₂ : Str → Option Value} {news₂ : List (Addr × Obj)}, Fr h₀ L h' m₂ → News h₀ L h' (own ++ news₂) → (∀ q ∈ news₂, q.1 ≠ I) → J (i + 1) m₂ news₂ → Q' .next ⟨h', s.gens, s.drawn, tk', s.os⟩) →
      wpAny (model PR w) A (execs body (envOf name scope L f cd)) Q' E' ⟨h, s.gens, s.drawn, tk, s.os⟩)
    (hR : ∀ h' tk m' news', s.toks ≤ tk → Fr h₀ L h' m' → News h₀ L h' news' → J ps.length m' news' → R (.ok .next) ⟨h', s.gens, s.drawn, tk, s.os⟩) :
    codeAny (model PR w) A (.forLoop (.Tuple [.Name x1 p1, .Name x2 p2, .Name x3 p3] xk pt) (.ref I) body [] (envOf name scope L f cd)) R s :=
  papers_for hh hk k1 k2 k3 hB hP hit hI hIL hIn F N J h0 (fun i p t1 t2 t3 m₁ news₁ h tk own hp hJ htk ht hown hI2 hnw F N =>
    step i p t1 t2 t3 m₁ news₁ h tk own hp hJ htk ht hown hI2 hnw F N _ _ fun F2 N2 hn2 hJ2 => ⟨rfl, _, _, _, _, rfl, F2, N2, hn2, hJ2⟩) hR
end
end

section
open PySem PySem.W PyProof.Rows PySem.Calls PySem.Spec
set_option autoImplicit false
set_option Elab.async false
set_option maxRecDepth 100000
set_option maxHeartbeats 8000000
theorem allLt_mem {d : Addr} : ∀ {l : List (Addr × Obj)}, AllLt d l → ∀ p ∈ l, @LT.lt Nat _ p.1 d
  | [], _, p, hp => nomatch hp
  | q :: r, h, p, hp => by
    rcases List.mem_cons.mp hp with rfl | hp
    · exact h.1
    · exact allLt_mem h.2 p hp
inductive PilV (P : Addr → Obj → Prop) : List Value → List (Int × List Nat) → Prop
  | nil : PilV P [] []
  | cons {T : Addr} {d : Int} {x : List Nat} {t1 t2 : Tok} {vs : List Value} {ps : List (Int × List Nat)} : P T (tupObj [.int d t1, .str ⟨x.toArray⟩ t2]) → PilV P vs ps → PilV P (.ref T :: vs) ((d, x) :: ps)
theorem PilV.length {P : Addr → Obj → Prop} {vs : List Value} {ps : List (Int × List Nat)} (x : PilV P vs ps) : vs.length = ps.length := by
  induction x with
  | nil => rfl
  | cons _ _ ih => simp [ih]
theorem PilV.mono {P Q : Addr → Obj → Prop} (h : ∀ a o, P a o → Q a o) {vs : List Value} {ps : List (Int × List Nat)} (x : PilV P vs ps) : PilV Q vs ps := by
  induction x with
  | nil => exact .nil
  | cons a _ ih => exact .cons (h _ _ a) ih
theorem pile_fin {hp h : Heap} {L pl D l' I : Addr} {ob oI tup : Obj} {vs : List Value} {nn : Nat} {rest2 own ts2 : List (Addr × Obj)} {st2 : List (Int × List Nat)} {dv : Int} {x : List Nat} {t1 t2 : Tok}
    (N : News hp L h ((D, tup) :: (l', ob) :: (pl, W.listOf (vs.toArray.push (.ref D)) (nn + 1)) :: rest2)) (hrest2 : rest2 = own ++ ts2) (hl : AllLt D rest2) (hIp : (I, oI) ∈ rest2) (hpD : @LT.lt Nat _ pl D) (hpI : pl ≠ I)
    (hts2 : ∀ p ∈ ts2, p.1 ≠ pl) (htI2 : ∀ p ∈ ts2, p.1 ≠ I) (hpv : PilV (fun a o => (a, o) ∈ ts2) vs.reverse st2) (htup : tup = tupObj [.int dv t1, .str ⟨x.toArray⟩ t2]) :
    ∃ (vs' : List Value) (nn' : Nat) (ts' : List (Addr × Obj)), News hp L h (own ++ (pl, W.listOf vs'.toArray nn') :: ts') ∧ (∀ q ∈ (pl, W.listOf vs'.toArray nn') :: ts', q.1 ≠ I) ∧ (∀ p ∈ ts', p.1 ≠ pl) ∧ PilV (fun a o => (a, o) ∈ ts') vs'.reverse ((dv, x) :: st2) := by
  subst htup hrest2
  have hDI : D ≠ I := Nat.ne_of_gt (allLt_mem hl _ hIp)
  refine ⟨vs ++ [.ref D], nn + 1, (D, tupObj [.int dv t1, .str ⟨x.toArray⟩ t2]) :: ts2, fun q hq => ?_, fun q hq => ?_, fun q hq => ?_, ?_⟩
  · have e : W.listOf (vs ++ [Value.ref D]).toArray (nn + 1) = W.listOf (vs.toArray.push (.ref D)) (nn + 1) := by rw [List.push_toArray]
    rw [e] at hq
    refine N q ?_
    rcases List.mem_append.mp hq with hq | hq
    · exact .tail _ (.tail _ (.tail _ (List.mem_append.mpr (.inl hq))))
    rcases List.mem_cons.mp hq with rfl | hq
    · exact .tail _ (.tail _ (.head _))
    rcases List.mem_cons.mp hq with rfl | hq
    · exact .head _
    · exact .tail _ (.tail _ (.tail _ (List.mem_append.mpr (.inr hq))))
  · rcases List.mem_cons.mp hq with rfl | hq
    · exact hpI
    rcases List.mem_cons.mp hq with rfl | hq
    · exact hDI
    · exact htI2 q hq
  · rcases List.mem_cons.mp hq with rfl | hq
    · exact Nat.ne_of_gt hpD
    · exact hts2 q hq
  · rw [List.reverse_append]
    exact .cons (t1 := t1) (t2 := t2) (List.Mem.head _) (hpv.mono fun a o h => List.Mem.tail _ h)
section
variable {prog : Program} {w : World} {A : Around} {E : Value → Shared → Prop} {s : Shared} {l b D : Addr} {vs : List Value} {v : Value} {n n' : Nat} {Q : Value → Shared → Prop} {h₀ : Heap} {L : Addr} {m : Str → Option Value} {rest : List (Addr × Obj)} {value slice : Expr} {u : Tok}
theorem ne_empty (hl : s.heap.get? l = some (W.listOf (List.toArray vs) n)) (hb : s.heap.get? b = some (W.listOf #[] n')) (hu : A.units < cLine) (h : Q (.bool (decide (vs ≠ []))) s) : wpAny (model prog w) A (compareOp .NotEq (.ref l) (.ref b)) Q E s := by
  have h1 : s.heap.IsList l (List.toArray vs) := ⟨_, hl, rfl, _, rfl⟩
  have h2 : s.heap.IsList b #[] := ⟨_, hb, rfl, _, rfl⟩
  cases vs with
  | nil => exact (PySem.SeqAt.RcNeAt.lists (e := fun _ => true) h1 h2 rfl hu (fun j h1 _ => absurd h1 (Nat.not_lt_zero j))) prog w E Q h
  | cons a r => exact (PySem.SeqAt.RcNeAt.lists_lengths h1 h2 (by simp) hu) prog w E Q (by simpa using h)
theorem item_last (hl : s.heap.get? l = some (W.listOf (List.toArray (vs ++ [v])) n)) (hsz : vs.length ≤ 1000) (h : Q v s)
    (hs : subscripted slice false (.ref l) (.int (-1) u) = operate [.ref l, .int (-1) u] (getItem (.ref l) (.int (-1) u)) := by with_unfolding_all rfl) (hg : ∀ r, letTemporaryGo value (.ref l) r = pure () := by intro _; with_unfolding_all rfl) :
    wpAny (model prog w) A (subscriptTail value slice (.ref l) (.int (-1) u)) Q E s := by
  have h1 : s.heap.IsList l (List.toArray (vs ++ [v])) := ⟨_, hl, rfl, _, rfl⟩
  refine subscriptTail_builtin h1.typeIs slot_list_getitem.lookup (wpAny_getItem_list_neg h1 (by decide) ?_ (by decide) (x := v) ?_ h) hs hg
  · simp; omega
  · have : ((-1 : Int) + ((List.toArray (vs ++ [v])).size : Int)).toNat = vs.length := by simp; omega
    rw [this]
    simp
theorem item_pair0 {d : Int} {x : Str} {t1 t2 : Tok} (hl : s.heap.get? l = some (tupObj [.int d t1, .str x t2])) (h : Q (.int d t1) s)
    (hs : subscripted slice false (.ref l) (.int 0 u) = operate [.ref l, .int 0 u] (getItem (.ref l) (.int 0 u)) := by with_unfolding_all rfl) :
    wpAny (model prog w) A (subscriptTail value slice (.ref l) (.int 0 u)) Q E s := by
  have ht : IsTup s.heap l #[.int d t1, .str x t2] := ⟨_, hl, rfl, _, rfl⟩
  exact subscriptTail_builtin_flat ht.typeIs slot_tuple_getitem.lookup (getItem_tuple ht (by decide) (by decide) (j := 0) rfl rfl ⟨(fun a e => nomatch e), h⟩) hs
theorem item_pair1 {d : Int} {x : Str} {t1 t2 : Tok} (hl : s.heap.get? l = some (tupObj [.int d t1, .str x t2])) (h : Q (.str x t2) s)
    (hs : subscripted slice false (.ref l) (.int 1 u) = operate [.ref l, .int 1 u] (getItem (.ref l) (.int 1 u)) := by with_unfolding_all rfl) :
    wpAny (model prog w) A (subscriptTail value slice (.ref l) (.int 1 u)) Q E s := by
  have ht : IsTup s.heap l #[.int d t1, .str x t2] := ⟨_, hl, rfl, _, rfl⟩
  exact subscriptTail_builtin_flat ht.typeIs slot_tuple_getitem.lookup (getItem_tuple ht (by decide) (by decide) (j := 1) rfl rfl ⟨(fun a e => nomatch e), h⟩) hs
theorem pop_end (F : Fr h₀ L s.heap m) (N : News h₀ L s.heap ((D, W.listOf (List.toArray (vs ++ [v])) n) :: rest)) (hr : ∀ p ∈ rest, p.1 ≠ D) (hz : vs.length ≤ 1000)
    (h : ∀ h', Fr h₀ L h' m → News h₀ L h' ((D, W.listOf (List.toArray vs) (n + 1)) :: rest) → Q v { s with heap := h' }) : wpAny (model prog w) A (call (.builtin "list.pop") [.ref D]) Q E s := by
  have z := N _ (.head _)
  have hy : (vs ++ [v]).toArray[(vs ++ [v]).toArray.size - 1]? = some v := by simp
  refine call_meets PySem.F.slot_list_pop ⟨_, z.1, rfl⟩ PySem.F.entry_list_pop (PySem.F.args_list_pop_1 _) (PySem.MeetsSeq.list_pop_last D _ n v hy ?_) ⟨z.1, ?_⟩
  · simp; exact Nat.le_trans (Nat.succ_le_succ hz) (by decide)
  · have e : (Obj.mapSeq fun xs => xs.eraseIdxIfInBounds ((vs ++ [v]).toArray.size - 1)) (W.listOf (List.toArray (vs ++ [v])) n) = W.listOf (List.toArray vs) (n + 1) := by
      have e0 : (vs ++ [v]).eraseIdx vs.length = vs := by
        rw [List.eraseIdx_append_of_length_le (Nat.le_refl _)]
        simp
      simp [Obj.mapSeq, W.listOf, e0]
    obtain ⟨F2, N2⟩ := news_upd (pre := []) (post := rest) F N (fun _ h => nomatch h) hr e rfl
    exact h _ F2 N2
end
end

section
open PySem PySem.W PyProof.Rows PySem.Calls PySem.Spec
set_option autoImplicit false
set_option Elab.async false
set_option maxRecDepth 100000
set_option maxHeartbeats 2000000
inductive JCP (cnt : Paper → Int) (txt : Paper → List Nat) (h₀ : Heap) (L : Addr) (gg : Array GenState) (dd : Drawn) (os : OsState) (ps : List Paper) (pvs : List Value) (a I : Addr) (m : Str → Option Value) (k : Nat) (s' : Shared) : Prop
  | mk (h' : Heap) (tk i n : Nat) (vs : List Value) (ts : List (Addr × Obj)) (m' : Str → Option Value) (_ : s' = ⟨h', gg, dd, tk, os⟩) (_ : i ≤ ps.length) (_ : k = ps.length + 1 - i) (_ : (h'.IsListIter I a i ∧ h'.IsList a pvs.toArray)) (_ : Fr h₀ L h' m) (_ : h'.Ns (I + 2) m') (_ : News h₀ L h' ((I + 1, W.listOf (List.toArray vs) n) :: ts)) (_ : (∀ p ∈ ts, p.1 ≠ I ∧ p.1 ≠ I + 1 ∧ p.1 ≠ I + 2)) (_ : vs.length ≤ i) (_ : PilV (fun a o => (a, o) ∈ ts) vs ((ps.take i).map fun p => (cnt p, txt p))) : JCP cnt txt h₀ L gg dd os ps pvs a I m k s'
section
variable {w : World} {A : Around} {E : Value → Shared → Prop} {s : Shared} {h₀ : Heap} {L a : Addr} {m : Str → Option Value} {env : Env} {ps : List Paper} {B : Nat}
theorem pilv_snoc {P : Addr → Obj → Prop} {T : Addr} {d : Int} {x : List Nat} {t1 t2 : Tok} {vs : List Value} {ps : List (Int × List Nat)} (h : PilV P vs ps) (hT : P T (tupObj [.int d t1, .str ⟨x.toArray⟩ t2])) : PilV P (vs ++ [.ref T]) (ps ++ [(d, x)]) := by
  induction h with
  | nil => exact .cons hT .nil
  | cons a _ ih => exact .cons a ih
theorem assign_comp_papers {elt iter : Expr} {x1 x2 x3 y : Str} {p1 p2 p3 py tp : Pos} {xk} {scope : Scope} {pos spos : Pos} {Q : Flow → Shared → Prop} (cnt : Paper → Int) (txt : Paper → List Nat) (hLe : env.locals = L)
    (hsw : swapsWith (.ListComp elt [⟨.Tuple [.Name x1 p1, .Name x2 p2, .Name x3 p3] xk tp, iter, [], 0⟩] scope pos) (some (.Name y py)) spos.line env = pure true)
    (hclos : closureFor scope env = pure []) (hcell : ∀ z ∈ scope.names, z.2 ≠ .cell) (hkind : scope.kind = .function)
    (hnames : ∀ z ∈ scope.names, z.2 = .local → scope.names.lookup z.1 = some .local) (hx1 : scope.names.lookup x1 = some .local) (hx2 : scope.names.lookup x2 = some .local) (hx3 : scope.names.lookup x3 = some .local)
    (hy : env.kindOf y = some .local) (hp : (env.scope.kind == .class || (env.scope.kind == .module && env.locals != env.globals)) = false) (hh : A.handled = none)
    (F : Fr h₀ L s.heap m) (hP : PapersAt h₀ a B ps) (hps : ps.length ≤ 5)
    (hev : ∀ Q' : Value → Shared → Prop, Q' (.ref a) s → ∀ E', wpAny (model PR w) A (eval iter env) Q' E' s)
    (helt : ∀ p t1 t2 t3 C s₂ (m' : Str → Option Value) E', p ∈ ps → Fr h₀ L s₂.heap m → s₂.heap.Ns (compEnvC scope [] C env).locals (fun z => if z = x3 then some (.str ⟨p.cover.toArray⟩ t3) else if z = x2 then some (.str ⟨p.signs.toArray⟩ t2) else if z = x1 then some (.str ⟨#[p.nm]⟩ t1) else m' z) →
      wpAny (model PR w) A (eval elt (compEnvC scope [] C env)) (fun r s₃ => ∃ T h₃ tk₃ c1 c2, r = .ref T ∧ s₃ = ⟨h₃, s₂.gens, s₂.drawn, tk₃, s₂.os⟩ ∧ (∀ b o, s₂.heap.get? b = some o → h₃.get? b = some o) ∧ s₂.heap.get? T = none ∧ h₃.get? T = some (tupObj [.int (cnt p) c1, .str ⟨(txt p).toArray⟩ c2])) E' s₂)
    (hQ : ∀ D h' tk n ts vs, Fr h₀ L h' (fun z => if z = y then some (.ref D) else m z) → News h₀ L h' ((D, W.listOf (List.toArray vs) n) :: ts) → (∀ p ∈ ts, p.1 ≠ D) → PilV (fun a o => (a, o) ∈ ts) vs (ps.map fun p => (cnt p, txt p)) → Q .next ⟨h', s.gens, s.drawn, tk, s.os⟩)
    (hs : ∀ x, foldedSetIterable iter env x = pure x := by intro _; rfl) :
    wpAny (model PR w) A (exec (.Assign [.Name y py] (.ListComp elt [⟨.Tuple [.Name x1 p1, .Name x2 p2, .Name x3 p3] xk tp, iter, [], 0⟩] scope pos) spos) env) Q E s := by
  subst hLe
  rw [exec_Assign_Name_used _ _ _ _ hsw]
  refine wpAny_bind (wpAny_standAt (wpAny_bind ?_))
  show wpAny _ A (do let _ ← comprehension (.ListComp elt [⟨.Tuple [.Name x1 p1, .Name x2 p2, .Name x3 p3] xk tp, iter, [], 0⟩] scope pos) scope env _ (newList []) false (eval iter env) (some (assign (.Name y py) env))) _ _ s
  refine wpAny_bind (wpAny_mono (wpAny_comprehension_free (use := some (assign (.Name y py) env)) (Q := fun _ s' => Q .next s') rfl hs hclos hkind hnames
    (hev _ ?_ _)) (fun _ s' hq => wpAny_pure (wpAny_pure hq)) fun _ _ e => e)
  obtain ⟨pvs, pn, hpl, hpv⟩ := hP
  have hl : s.heap.IsList a pvs.toArray := ⟨_, F.keep _ _ hpl, rfl, pn, rfl⟩
  have hplen := hpv.length
  have hlt : a < s.heap.objs.size := by obtain ⟨_, e, _⟩ := hl; exact Heap.lt_size e
  refine wpAny_pyIter_list hl ?_
  obtain ⟨hp0, gg, dd, tk0, os⟩ := s
  dsimp only at *
  generalize hI : hp0.objs.size = I at *
  generalize hH1 : hp0.push { cls := .type "list_iterator", data := .fields #[.ref a, .int 0 0] } = H1
  have up1 : ∀ b o, hp0.get? b = some o → H1.get? b = some o := fun b o e => hH1 ▸ Heap.get?_push_of_some _ e
  have hsz1 : H1.objs.size = I + 1 := by rw [← hH1, Heap.size_push, hI]
  have Wk := Walks.list (prog := PR) (w := w) hh I a (Nat.ne_of_lt hlt) pvs.toArray
  have hst : H1.IsListIter I a 0 ∧ H1.IsList a pvs.toArray := ⟨by rw [← hH1, ← hI]; exact ⟨_, Heap.get?_push_size _ rfl, rfl, rfl⟩, by rw [← hH1]; exact hl.push _⟩
  refine wpAny_newObj_type (wpAny_newFunctionEnv hcell (by intro y hy; simp at hy) (fun h₁ hns₁ hsb₁ => ?_) hkind)
  dsimp only at hns₁ hsb₁ ⊢
  generalize hH2 : H1.push { cls := .type "list", dict := none, data := .seq ([] : List Value).toArray } = H2 at hns₁ hsb₁ ⊢
  have hD : H1.objs.size = I + 1 := hsz1
  have hC : H2.objs.size = I + 2 := by rw [← hH2, Heap.size_push, hD]
  rw [hC] at hns₁ hsb₁ ⊢
  rw [hD]
  have fresh0 : ∀ b, I ≤ b → h₀.get? b = none := fun b hb => by
    cases e : h₀.get? b with
    | none => rfl
    | some o => have := Heap.lt_size (F.keep _ _ e); rw [hI] at this; exact absurd hb (Nat.not_le.mpr this)
  have hLI : @LT.lt Nat _ env.locals I := hI ▸ F.ns.lt
  have up2 : ∀ b o, H1.get? b = some o → H2.get? b = some o := fun b o e => hH2 ▸ Heap.get?_push_of_some _ e
  have up3 : ∀ b o, H2.get? b = some o → h₁.get? b = some o := fun b o e => hsb₁.extBut b o (by have := Heap.lt_size e; rw [hC] at this; exact Nat.ne_of_lt this) (Heap.get?_push_of_some _ e)
  have F₁ : Fr h₀ env.locals h₁ m := F.keeps fun b o e => up3 b o (up2 b o (up1 b o e))
  have hst₁ : h₁.IsListIter I a 0 ∧ h₁.IsList a pvs.toArray := Wk.frame 0 _ _ hst fun b _ o e => up3 b o (up2 b o e)
  have hacc : h₁.get? (I + 1) = some (W.listOf #[] 0) := by
    refine up3 _ _ ?_
    rw [← hH2, ← hD]
    exact Heap.get?_push_size _ rfl
  have loop : ∀ s₃ : Shared, s₃ = ⟨h₁, gg, dd, tk0 + ([] : List (Str × Value)).length, os⟩ →
      codeAny (model PR w) A (.compLoop (.ListComp elt [⟨.Tuple [.Name x1 p1, .Name x2 p2, .Name x3 p3] xk tp, iter, [], 0⟩] scope pos) 0 (.ref I) (.ref (I + 1)) (compEnvC scope [] (I + 2) env))
        (compPost (model PR w) A E (some (assign (.Name y py) env)) (fun _ s' => Q .next s') (.ref (I + 1)) (I + 2)) s₃ := by
    rintro s₃ rfl
    refine LCp.codeAny_compLoop_pair (JCP cnt txt h₀ env.locals gg dd os ps pvs a I m) ?_ (ps.length + 1)
      ⟨h₁, _, 0, 0, [], [], _, rfl, Nat.zero_le _, rfl, hst₁, F₁, hns₁, fun p hp => ?_, (fun _ h => nomatch h), Nat.le_refl _, .nil⟩
    rotate_left
    · rw [List.mem_singleton.mp hp]
      exact ⟨hacc, Nat.ne_of_gt (Nat.lt_succ_of_lt hLI), fresh0 _ (Nat.le_succ _)⟩
    rintro k s' ⟨h', tk, i, n, vs, ts, m', rfl, hi, rfl, hst', F', hn', N', hts, hvl, hpv'⟩
    by_cases hlti : i < ps.length
    · refine Wk.item i _ _ _ (by simp; omega) hst' fun v h₂ tk₂ hPv hst₂ hk₂ => ?_
      obtain ⟨T, p, t1, t2, t3, rfl, hpi, hT, _⟩ := hpv.get (by simpa using hPv)
      have hne : ∀ b, @LT.lt Nat _ I b ∨ @LT.lt Nat _ b I → b ∉ [I] := fun b hb hm => by rw [List.mem_singleton.mp hm] at hb; exact hb.elim (Nat.lt_irrefl _) (Nat.lt_irrefl _)
      have F₂ : Fr h₀ env.locals h₂ m := ⟨F'.ns.at' fun o e => hk₂ _ o (hne _ (.inr hLI)) e, fun b o e => hk₂ b o (fun hm => by rw [List.mem_singleton.mp hm] at e; rw [fresh0 _ (Nat.le_refl _)] at e; cases e) (F'.keep b o e), F'.above⟩
      have N₂ : News h₀ env.locals h₂ ((I + 1, W.listOf (List.toArray vs) n) :: ts) := fun q hq => ⟨hk₂ _ _ (fun hm => by
        have hm := List.mem_singleton.mp hm
        rcases List.mem_cons.mp hq with rfl | hq
        · exact absurd hm (Nat.ne_of_gt (Nat.lt_succ_self _))
        · exact (hts q hq).1 hm) (N' q hq).1, (N' q hq).2⟩
      have hn₂ := hn'.at' fun o e => hk₂ _ o (hne _ (.inl (Nat.lt_of_lt_of_le (Nat.lt_succ_self I) (Nat.le_succ _)))) e
      refine wpAny_letOwnedTupleGo_listiter hst₂.1 ?_
      refine assign_Tuple_tuple (items := #[.str ⟨#[p.nm]⟩ t1, .str ⟨p.signs.toArray⟩ t2, .str ⟨p.cover.toArray⟩ t3]) hh ⟨_, F₂.keep _ _ hT, rfl, _, rfl⟩ rfl rfl fun h₅ he => ?_
      have he' : ∀ b o, h₂.get? b = some o → h₅.get? b = some o := fun b o e => he b o (Nat.ne_of_lt (Heap.lt_size e)) e
      have hn₅ := hn₂.at' fun o e => he' _ o e
      refine assignInOrder_cons (wpAny_assign_Name (wpAny_storeName_local (lookup_relabel_local hx1) hn₅ (fun h₆ hn₆ hs₆ => ?_) (by simp [compEnvC, relabel, hkind])))
      refine assignInOrder_cons (wpAny_assign_Name (wpAny_storeName_local (lookup_relabel_local hx2) hn₆ (fun h₇ hn₇ hs₇ => ?_) (by simp [compEnvC, relabel, hkind])))
      refine assignInOrder_cons (wpAny_assign_Name (wpAny_storeName_local (lookup_relabel_local hx3) hn₇ (fun h₈ hn₈ hs₈ => ?_) (by simp [compEnvC, relabel, hkind])))
      refine assignInOrder_nil ?_
      dsimp only
      have up8 : ∀ b o, b ≠ I + 2 → h₂.get? b = some o → h₈.get? b = some o := fun b o hb e => hs₈.extBut b o hb (hs₇.extBut b o hb (hs₆.extBut b o hb (he' b o e)))
      have hLC : env.locals ≠ I + 2 := Nat.ne_of_lt (Nat.lt_of_lt_of_le hLI (Nat.le_add_right _ 2))
      have F₈ : Fr h₀ env.locals h₈ m := ⟨F₂.ns.at' fun o e => up8 _ o hLC e, fun b o e => up8 b o (fun hb => by rw [hb, fresh0 _ (Nat.le_add_right _ 2)] at e; cases e) (F₂.keep b o e), F₂.above⟩
      have hst₈ := Wk.frame _ _ _ hst₂ fun b hb o e => up8 b o (fun q => by
        rw [q] at hb
        rcases List.mem_cons.mp hb with hb | hb
        · exact absurd hb (Nat.ne_of_gt (Nat.lt_add_of_pos_right (by decide)))
        · have := List.mem_singleton.mp hb
          rw [← this] at hlt
          exact absurd hlt (Nat.not_lt.mpr (Nat.le_add_right _ _))) e
      have N₈ : News h₀ env.locals h₈ ((I + 1, W.listOf (List.toArray vs) n) :: ts) := fun q hq => ⟨up8 _ _ (by
        rcases List.mem_cons.mp hq with rfl | hq
        · exact Nat.ne_of_lt (Nat.lt_succ_self _)
        · exact (hts q hq).2.2) (N₂ q hq).1, (N₂ q hq).2⟩
      refine wpAny_mono (helt p t1 t2 t3 (I + 2) ⟨h₈, gg, dd, _, os⟩ m' _ (List.mem_of_getElem? hpi) F₈ hn₈) (fun r s₉ hr => ?_) fun _ _ e => e
      obtain ⟨T2, h₉, tk₉, c1, c2, rfl, rfl, k9, hT2, hT9⟩ := hr
      dsimp only at k9 hT2 hT9 ⊢
      have hCo : ∃ o, h₈.get? (I + 2) = some o := by obtain ⟨o, es, ep, ho, _⟩ := hn₈; exact ⟨o, ho⟩
      obtain ⟨oC, hoC⟩ := hCo
      have hneT : ∀ b o, h₈.get? b = some o → T2 ≠ b := fun b o e q => by rw [← q, hT2] at e; cases e
      have hTI : T2 ≠ I ∧ T2 ≠ I + 1 ∧ T2 ≠ I + 2 := by
        obtain ⟨⟨oI, hoI, _⟩, _⟩ := hst₈
        exact ⟨hneT _ _ hoI, hneT _ _ (N₈ _ (.head _)).1, hneT _ _ hoC⟩
      have hTL : T2 ≠ env.locals := by
        obtain ⟨oL, es, ep, ho, _⟩ := F₈.ns
        exact hneT _ _ ho
      have hT0 : h₀.get? T2 = none := by
        cases e : h₀.get? T2 with
        | none => rfl
        | some o => exact absurd rfl (hneT _ _ (F₈.keep _ _ e))
      have N₉ := news_keep N₈ k9
      refine append_at (its := List.toArray vs) (N₉ _ (.head _)).1 (fun hA sA dA => ?_) (by simp; exact Nat.le_trans hvl (Nat.le_trans hi (Nat.le_trans hps (by decide))))
      rw [List.push_toArray] at dA
      have hD0 : h₀.get? (I + 1) = none := fresh0 _ (Nat.le_succ _)
      have hLD : env.locals ≠ I + 1 := Nat.ne_of_lt (Nat.lt_succ_of_lt hLI)
      have keepA : ∀ b o, b ≠ I + 1 → h₈.get? b = some o → hA.get? b = some o := fun b o hb e => sA.extBut b o hb (k9 b o e)
      have htake : (ps.take (i + 1)).map (fun p => (cnt p, txt p)) = (ps.take i).map (fun p => (cnt p, txt p)) ++ [(cnt p, txt p)] := by
        rw [List.take_add_one, hpi]; simp
      refine ⟨ps.length + 1 - (i + 1), by omega, hA, _, i + 1, n + 1, vs ++ [.ref T2], (T2, tupObj [.int (cnt p) c1, .str ⟨(txt p).toArray⟩ c2]) :: ts, _, rfl, hlti, rfl,
        Wk.frame _ _ _ hst₈ (fun b hb o e => keepA b o (fun q => by
          rw [q] at hb
          rcases List.mem_cons.mp hb with hb | hb
          · exact absurd hb (Nat.ne_of_gt (Nat.lt_succ_self _))
          · have := List.mem_singleton.mp hb
            rw [← this] at hlt
            exact absurd hlt (Nat.not_lt.mpr (Nat.le_succ _))) e),
        ⟨F₈.ns.at' fun o e => keepA _ o hLD e, fun b o e => keepA b o (fun hb => by rw [hb, hD0] at e; cases e) (F₈.keep b o e), F₈.above⟩,
        hn₈.at' fun o e => keepA _ o (Nat.ne_of_gt (Nat.lt_succ_self _)) e, fun q hq => ?_, fun q hq => ?_, ?_, ?_⟩
      · rcases List.mem_cons.mp hq with rfl | hq
        · exact ⟨dA, hLD.symm, hD0⟩
        rcases List.mem_cons.mp hq with rfl | hq
        · exact ⟨sA.extBut _ _ hTI.2.1 hT9, hTL, hT0⟩
        · exact ⟨sA.extBut _ _ (hts q hq).2.1 (N₉ q (.tail _ hq)).1, (N₉ q (.tail _ hq)).2⟩
      · rcases List.mem_cons.mp hq with rfl | hq
        · exact hTI
        · exact hts q hq
      · rw [List.length_append, List.length_singleton]; exact Nat.succ_le_succ hvl
      · rw [htake]
        exact pilv_snoc (hpv'.mono fun a o h => List.Mem.tail _ h) (List.Mem.head _)
    · obtain rfl : i = ps.length := Nat.le_antisymm hi (Nat.not_lt.mp hlti)
      have hsz : pvs.toArray.size = ps.length := by simpa using hplen
      refine Wk.done _ _ _ (hsz ▸ hst') fun h₂ tk₂ hk₂ => ?_
      dsimp only at hk₂ ⊢
      have F₂ : Fr h₀ env.locals h₂ m := ⟨F'.ns.at' fun o e => hk₂ _ o (fun hm => absurd (List.mem_singleton.mp hm) (Nat.ne_of_lt hLI)) e, fun b o e => hk₂ b o (fun hm => by rw [List.mem_singleton.mp hm] at e; rw [fresh0 _ (Nat.le_refl _)] at e; cases e) (F'.keep b o e), F'.above⟩
      have N₂ : News h₀ env.locals h₂ ((I + 1, W.listOf (List.toArray vs) n) :: ts) := fun q hq => ⟨hk₂ _ _ (fun hm => by
        have hm := List.mem_singleton.mp hm
        rcases List.mem_cons.mp hq with rfl | hq
        · exact absurd hm (Nat.ne_of_gt (Nat.lt_succ_self _))
        · exact (hts q hq).1 hm) (N' q hq).1, (N' q hq).2⟩
      have hn₂ := hn'.at' fun o e => hk₂ _ o (fun hm => absurd (List.mem_singleton.mp hm) (Nat.ne_of_gt (Nat.lt_of_lt_of_le (Nat.lt_succ_self I) (Nat.le_succ _)))) e
      have hLC : env.locals ≠ I + 2 := Nat.ne_of_lt (Nat.lt_of_lt_of_le hLI (Nat.le_add_right _ 2))
      have hC0 : h₀.get? (I + 2) = none := fresh0 _ (Nat.le_add_right _ 2)
      show wpAny _ A (assign (.Name y py) env (.ref (I + 1))) _ _ _
      refine wpAny_assign_Name (wpAny_storeName_local hy F₂.ns (fun h₃ hn₃ hs₃ => ?_) hp)
      have hL₀ : h₀.get? env.locals = none := Heap.get?_none_of_le F₂.above
      refine ⟨m', hn₂.sameBut hs₃ hLC.symm, fun h₄ hs₄ => ?_⟩
      rw [List.take_length] at hpv'
      refine hQ (I + 1) h₄ _ n ts vs ⟨hn₃.sameBut hs₄ hLC, fun b o e => hs₄.extBut b o (fun q => by rw [q, hC0] at e; cases e) (hs₃.extBut b o (fun q => by rw [q, hL₀] at e; cases e) (F₂.keep b o e)), F₂.above⟩ (fun q hq => ⟨hs₄.extBut _ _ ?_ (hs₃.extBut _ _ (N₂ q hq).2.1 (N₂ q hq).1), (N₂ q hq).2⟩) (fun q hq => (hts q hq).2.1) hpv'
      rcases List.mem_cons.mp hq with rfl | hq
      · exact Nat.ne_of_lt (Nat.lt_succ_self _)
      · exact (hts q hq).2.2
  exact codeAny_compStart_list (loop _ rfl) (Wk.self 0 _ _ _ hst₁ (loop _ rfl))
end
end

section
open PySem PySem.Builtin PySem.Builtin.Str
set_option autoImplicit false
set_option maxRecDepth 100000
noncomputable def bal : List Nat → Int → Bool
  | [], o => o == 0
  | c :: r, o => if c = 40 then bal r (o + 1) else if c = 41 then (if o - 1 < 0 then false else bal r (o - 1)) else bal r o
noncomputable def last2 (l : List Nat) : List Nat := l.drop (l.length - 2)
theorem bal_pair : ∀ (a b : List Nat) (o : Int), 0 ≤ o → bal (a ++ 40 :: 41 :: b) o = bal (a ++ b) o
  | [], b, o, h => by
    have h1 : ¬ (o + 1 - 1 < 0) := by omega
    have h2 : o + 1 - 1 = o := by omega
    simp [bal, h1, h2]
    intro h3; omega
  | c :: a, b, o, h => by
    simp only [List.cons_append, bal]
    split
    · exact bal_pair a b _ (by omega)
    split
    · split
      · rfl
      · exact bal_pair a b _ (by omega)
    · exact bal_pair a b o h
theorem bal_join : ∀ (parts : List Str) (a : List Nat) (o : Int), 0 ≤ o → bal (a ++ (Str.join ⟨#[40, 41]⟩ parts).cps.toList) o = bal (a ++ (Str.join ⟨#[]⟩ parts).cps.toList) o
  | [], _, _, _ => rfl
  | [p], _, _, _ => rfl
  | p :: q :: r, a, o, h => by
    have e1 : (Str.join ⟨#[40, 41]⟩ (p :: q :: r)).cps.toList = p.cps.toList ++ 40 :: 41 :: (Str.join ⟨#[40, 41]⟩ (q :: r)).cps.toList := by
      show (p ++ ⟨#[40, 41]⟩ ++ Str.join ⟨#[40, 41]⟩ (q :: r)).cps.toList = _
      simp [Str.cps_append]
    have e2 : (Str.join ⟨#[]⟩ (p :: q :: r)).cps.toList = p.cps.toList ++ (Str.join ⟨#[]⟩ (q :: r)).cps.toList := by
      show (p ++ ⟨#[]⟩ ++ Str.join ⟨#[]⟩ (q :: r)).cps.toList = _
      simp [Str.cps_append]
    rw [e1, e2, ← List.append_assoc, bal_pair _ _ _ h, ← List.append_assoc]
    exact bal_join (q :: r) (a ++ p.cps.toList) o h
theorem join_len : ∀ (parts : List Str), parts ≠ [] → (Str.join ⟨#[40, 41]⟩ parts).cps.toList.length = (Str.join ⟨#[]⟩ parts).cps.toList.length + 2 * (parts.length - 1)
  | [], h => (h rfl).elim
  | [p], _ => by simp [Str.join]
  | p :: q :: r, _ => by
    have ih := join_len (q :: r) (by simp)
    have e1 : (Str.join ⟨#[40, 41]⟩ (p :: q :: r)).cps.toList = p.cps.toList ++ 40 :: 41 :: (Str.join ⟨#[40, 41]⟩ (q :: r)).cps.toList := by
      show (p ++ ⟨#[40, 41]⟩ ++ Str.join ⟨#[40, 41]⟩ (q :: r)).cps.toList = _
      simp [Str.cps_append]
    have e2 : (Str.join ⟨#[]⟩ (p :: q :: r)).cps.toList = p.cps.toList ++ (Str.join ⟨#[]⟩ (q :: r)).cps.toList := by
      show (p ++ ⟨#[]⟩ ++ Str.join ⟨#[]⟩ (q :: r)).cps.toList = _
      simp [Str.cps_append]
    rw [e1, e2, List.length_append, List.length_append, List.length_cons, List.length_cons, ih]
    simp only [List.length_cons]
    omega
theorem join_mem (c : Nat) : ∀ (parts : List Str), c ∈ (Str.join ⟨#[]⟩ parts).cps.toList → c ∈ (Str.join ⟨#[40, 41]⟩ parts).cps.toList
  | [], h => h
  | [p], h => h
  | p :: q :: r, h => by
    have e1 : (Str.join ⟨#[40, 41]⟩ (p :: q :: r)).cps.toList = p.cps.toList ++ 40 :: 41 :: (Str.join ⟨#[40, 41]⟩ (q :: r)).cps.toList := by
      show (p ++ ⟨#[40, 41]⟩ ++ Str.join ⟨#[40, 41]⟩ (q :: r)).cps.toList = _
      simp [Str.cps_append]
    have e2 : (Str.join ⟨#[]⟩ (p :: q :: r)).cps.toList = p.cps.toList ++ (Str.join ⟨#[]⟩ (q :: r)).cps.toList := by
      show (p ++ ⟨#[]⟩ ++ Str.join ⟨#[]⟩ (q :: r)).cps.toList = _
      simp [Str.cps_append]
    rw [e2] at h
    rw [e1]
    rcases List.mem_append.mp h with h | h
    · exact List.mem_append.mpr (.inl h)
    · exact List.mem_append.mpr (.inr (.tail _ (.tail _ (join_mem c (q :: r) h))))
/-- the pairs struck out once -/
theorem strike (x : Str) (h : (occurrences x ⟨#[40, 41]⟩ 0 x.length (x.length + 1)).isEmpty = false) :
    bal (Txt.replace x ⟨#[40, 41]⟩ ⟨#[]⟩).cps.toList 0 = bal x.cps.toList 0 ∧ (Txt.replace x ⟨#[40, 41]⟩ ⟨#[]⟩).cps.toList.length < x.cps.toList.length ∧ ∀ c ∈ (Txt.replace x ⟨#[40, 41]⟩ ⟨#[]⟩).cps.toList, c ∈ x.cps.toList := by
  obtain ⟨f, hf⟩ := StrLaws.occ_chain x ⟨#[40, 41]⟩ (x.length + 1)
  have hj := StrLaws.join_partsFrom x ⟨#[40, 41]⟩ _ 0 f hf
  rw [StrLaws.sub_whole] at hj
  have e : Txt.replace x ⟨#[40, 41]⟩ ⟨#[]⟩ = Str.join ⟨#[]⟩ (StrLaws.partsFrom x (⟨#[40, 41]⟩ : Str).length 0 (occurrences x ⟨#[40, 41]⟩ 0 x.length (x.length + 1))) := by
    unfold Txt.replace
    rw [h, show ((⟨#[40, 41]⟩ : Str).length == 0) = false from rfl, Bool.false_and, Bool.or_false, if_neg Bool.false_ne_true, StrLaws.glued_eq_join, StrLaws.partsBetween_eq]
  rw [e]
  generalize hp : StrLaws.partsFrom x (⟨#[40, 41]⟩ : Str).length 0 (occurrences x ⟨#[40, 41]⟩ 0 x.length (x.length + 1)) = parts at hj ⊢
  have h2 : 2 ≤ parts.length := by
    rw [← hp]
    cases hc : occurrences x ⟨#[40, 41]⟩ 0 x.length (x.length + 1) with
    | nil => rw [hc] at h; cases h
    | cons c r =>
      obtain ⟨p, q, hpq⟩ := StrLaws.partsFrom_ne x (⟨#[40, 41]⟩ : Str).length (c + (⟨#[40, 41]⟩ : Str).length) r
      show 2 ≤ (strSub x 0 c :: StrLaws.partsFrom x _ (c + _) r).length
      rw [hpq]
      simp
  have hl := join_len parts (fun q => by rw [q] at h2; simp at h2)
  rw [hj] at hl
  refine ⟨?_, by omega, fun c hc => ?_⟩
  · have := bal_join parts [] 0 (Int.le_refl _)
    rw [List.nil_append, List.nil_append, hj] at this
    exact this.symm
  · have := join_mem c parts hc
    rw [hj] at this
    exact this
theorem bal_opens : ∀ (l : List Nat) (o : Int), (∀ c ∈ l, c = 40) → bal l o = (o + l.length == 0)
  | [], o, _ => by simp [bal]
  | c :: r, o, h => by
    have hc := h c (.head _)
    rw [bal, if_pos hc, bal_opens r _ fun d hd => h d (.tail _ hd)]
    simp only [List.length_cons]
    congr 1
    push_cast
    omega
theorem no_pair (l : List Nat) (h : ∀ c ∈ l, c = 40 ∨ c = 41) (hn : ∀ i, ¬ (l[i]? = some 40 ∧ l[i + 1]? = some 41)) : bal l 0 = decide (l = []) := by
  have allopen : ∀ (r : List Nat), (∀ c ∈ r, c = 40 ∨ c = 41) → (∀ i, ¬ ((40 :: r)[i]? = some 40 ∧ (40 :: r)[i + 1]? = some 41)) → ∀ c ∈ r, c = 40 := by
    intro r
    induction r with
    | nil => intro _ _ c hc; cases hc
    | cons d r ih =>
      intro hr hnr c hc
      have hd : d = 40 := by
        rcases hr d (.head _) with h | h
        · exact h
        · exact (hnr 0 ⟨rfl, by simp [h]⟩).elim
      rcases List.mem_cons.mp hc with rfl | hc
      · exact hd
      · refine ih (fun e he => hr e (.tail _ he)) (fun i hi => hnr (i + 1) ?_) c hc
        rw [hd]
        exact hi
  cases l with
  | nil => rfl
  | cons c r =>
    rw [decide_eq_false (by simp)]
    rcases h c (.head _) with hc | hc
    · subst hc
      have ho := allopen r (fun e he => h e (.tail _ he)) hn
      rw [bal_opens _ _ (fun e he => by
        rcases List.mem_cons.mp he with rfl | he
        · rfl
        · exact ho e he)]
      simp only [List.length_cons]
      refine beq_eq_false_iff_ne.mpr ?_
      push_cast
      omega
    · subst hc
      simp [bal]
theorem none_left (x : Str) (h : (occurrences x ⟨#[40, 41]⟩ 0 x.length 1).isEmpty = true) (hc : ∀ c ∈ x.cps.toList, c = 40 ∨ c = 41) : bal x.cps.toList 0 = decide (x.cps.toList = []) := by
  refine no_pair _ hc fun i ⟨h1, h2⟩ => ?_
  have hf := (StrLaws.found_iff x ⟨#[40, 41]⟩).mpr ⟨i, ?_, ?_⟩
  · rw [h] at hf; cases hf
  · have := (List.getElem?_eq_some_iff.mp h2).1
    have h3 : i + 1 < x.cps.size := by simpa using this
    exact h3
  · rw [StrLaws.subAt_eq]
    have : (x.cps.toList.drop i).take (⟨#[40, 41]⟩ : Str).length = [40, 41] := by
      show (x.cps.toList.drop i).take 2 = [40, 41]
      obtain ⟨b1, e1⟩ := List.getElem?_eq_some_iff.mp h1
      obtain ⟨b2, e2⟩ := List.getElem?_eq_some_iff.mp h2
      rw [List.drop_eq_getElem_cons b1, List.drop_eq_getElem_cons b2, e1, e2]
      rfl
    rw [this]
    rfl
theorem occ_one_many (x : Str) (y : Str) (h : (occurrences x y 0 x.length 1).isEmpty = false) : (occurrences x y 0 x.length (x.length + 1)).isEmpty = false := by
  have h1 := StrLaws.occ_head x y 1 (Nat.le_refl _)
  have h2 := StrLaws.occ_head x y (x.length + 1) (Nat.succ_le_succ (Nat.zero_le _))
  rcases h2 with ⟨h3, h4⟩ | ⟨j, r, h3, _⟩
  · rcases h1 with ⟨h5, _⟩ | ⟨i, r, h5, h6⟩
    · rw [h5] at h; cases h
    · exact (h4 _ h6.1).elim
  · rw [h3]; rfl
theorem slice_last2 (x : Str) : Txt.slice x (some (-2)) none = ⟨(last2 x.cps.toList).toArray⟩ := by
  rw [PyProof.Rows.slice_from_neg (by decide)]
  have e : max (0 : Int) ((x.length : Int) + (-2)) = ((x.cps.toList.length - 2 : Nat) : Int) := by
    have : x.cps.toList.length = x.length := by simp [Str.length]
    omega
  rw [e, slice_from]
  rfl
end

section
open PySem PySem.W PyProof.Rows PySem.Calls PySem.Spec
set_option autoImplicit false
set_option Elab.async false
set_option maxRecDepth 100000
set_option maxHeartbeats 8000000
theorem fillZ : PySem.Challenge.rw_wb0031_01 = PySem.Challenge.rw_wb0031_01 ∧ hd.heap_39 = hd.heap_39 := by
  k_fill
  exact ⟨rfl, rfl⟩
local macro_rules | `(tactic| walk_at "my stop") => `(tactic| first
  | (with_reducible show wpAny _ _ (subscriptTail _ _ _ _) _ _ _)
  | (with_reducible show wpAny _ _ (call (Value.builtin "str.replace") _ _) _ _ _))
section
variable {prog : Program} {w : World} {A : Around} {E : Value → Shared → Prop} {s : Shared} {value slice : Expr} {x : Str} {t : Tok} {h₀ : Heap} {L : Addr} {m : Str → Option Value} {news : List (Addr × Obj)} {Q : Value → Shared → Prop}
/-- a piece of a text, with its id: the text's own, or one not below the count -/
theorem slice_tok {i : Int} {ui : Tok} (h : ∀ h' t' k, (∀ b o, s.heap.get? b = some o → h'.get? b = some o) → (t' = t ∨ s.toks ≤ t') → s.toks ≤ k → Q (.str (Txt.slice x (some i) none) t') { s with heap := h', toks := k })
    (hs : subscripted slice false (.str x t) (.ref s.heap.objs.size) = operate [.ref s.heap.objs.size, .str x t] (getItem (.str x t) (.ref s.heap.objs.size)) := by with_unfolding_all rfl)
    (ht : ∀ r, letTemporaryGo value (.str x t) r = pure () := by intro _; with_unfolding_all rfl) (hsz : x.length ≤ sizeLine := by size_fits) :
    wpAny (model prog w) A (subscriptTail value slice (.str x t) (.ref s.heap.objs.size)) Q E { s with heap := s.heap.push { cls := .type "slice", data := .fields #[.int i ui, .none, .none] } } := by
  refine subscriptTail_ops (typeIs_str _ _ _) F.slot_str_getitem.lookup (wpAny_getItem_str_slice (l := some (i, ui)) (u := none) (st := none) ⟨_, Heap.get?_push_size _ rfl, rfl, rfl⟩ rfl ?_) hs ht
  have hle := Txt.slice_le x (some i) none
  unfold sliceMade
  unfold Txt.slice at h hle
  show (if ((1 : Int) == 1 && (Builtin.Str.strSliceIndices (some i) none 1 x.length).length == x.length) = true then Made.val (.str x t) else .str ⟨((Builtin.Str.strSliceIndices (some i) none 1 x.length).filterMap (x.cps[·]?)).toArray⟩).post Q _
  split
  · next hc =>
    have := h _ t s.toks (fun b o e => Heap.get?_push_of_some { cls := .type "slice", data := .fields #[.int i ui, .none, .none] } e) (.inl rfl) (Nat.le_refl _)
    rw [if_pos hc] at this
    exact this
  · next hc =>
    have := h _ s.toks (s.toks + 1) (fun b o e => Heap.get?_push_of_some { cls := .type "slice", data := .fields #[.int i ui, .none, .none] } e) (.inr (Nat.le_refl _)) (Nat.le_succ _)
    rw [if_neg hc] at this hle
    exact ⟨Nat.le_trans hle hsz, this⟩
end
noncomputable def rowOf (word : List Nat) (ps : List Paper) : List Nat := ps.foldl (fun r p => subs p.nm (last2 p.cover) r) word
theorem subs_len (c : Nat) (z : List Nat) (hz : z.length = 2) : ∀ l : List Nat, (subs c z l).length ≤ 2 * l.length
  | [] => Nat.le_refl _
  | d :: r => by
    have := subs_len c z hz r
    unfold subs at this ⊢
    rw [List.flatMap_cons, List.length_append, List.length_cons]
    by_cases h : d = c
    · rw [if_pos h]; omega
    · rw [if_neg h]; simp only [List.length_singleton]; omega
inductive JZ1 (word : Str) (ps : List Paper) (i : Nat) (m : Str → Option Value) (news : List (Addr × Obj)) : Prop
  | mk (r : Str) (t' : Tok) (_ : news = []) (_ : m (Str.ofString "row") = some (.str r t')) (_ : r.cps.toList = rowOf word.cps.toList (ps.take i)) (_ : r.length ≤ 100 * 2 ^ i) : JZ1 word ps i m news
inductive JZ2 (hp : Heap) (L' : Addr) (g : Array GenState) (d : Drawn) (os : OsState) (r : Str) (n : Nat) (s' : Shared) : Prop
  | mk (h : Heap) (tk : Nat) (r2 : Str) (t2 : Tok) (m2 : Str → Option Value) (_ : s' = ⟨h, g, d, tk, os⟩) (_ : 1 ≤ tk) (_ : Fr hp L' h m2) (_ : m2 (Str.ofString "row") = some (.str r2 t2)) (_ : (∀ c ∈ r2.cps.toList, c = 40 ∨ c = 41)) (_ : bal r2.cps.toList 0 = bal r.cps.toList 0) (_ : n = r2.cps.toList.length) (_ : r2.length ≤ 3200) : JZ2 hp L' g d os r n s'
section
variable {w : World} {A : Around} {s : Shared} {Q E : Value → Shared → Prop}
theorem con_closes {word : Str} {t : Tok} {a : Addr} {B : Nat} {ps : List Paper} (P : Pl w A 1 8 s.heap) (hB : B ≤ s.toks) (hP : PapersAt s.heap a B ps) (hps : ps.length ≤ 5) (hw : word.length ≤ 100) (hcov : ∀ p ∈ ps, 2 ≤ p.cover.length ∧ p.cover.length ≤ 10)
    (hrow : ∀ c ∈ rowOf word.cps.toList ps, c = 40 ∨ c = 41)
    (hret : ∀ h' tk', (∀ b o, s.heap.get? b = some o → h'.get? b = some o) → Q (.bool (bal (rowOf word.cps.toList ps) 0)) ⟨h', s.gens, s.drawn, tk', s.os⟩) :
    wpAny (model PySem.Challenge.rw_wb0031_01.row.prog w) A (call (.ref 106) [.str word t, .ref a]) Q E s := by
  obtain ⟨hp, g, d, tk0, os⟩ := s
  have hh : A.handled = none := P.hnd
  refine wpAny_call ?_
  refine' enterP (binds := [(Str.ofString "word", .str word t), (Str.ofString "papers", .ref a)]) P ?k6 ?k7 ?k9 ?kB ?_ ?c2 ?c3 ?c4 ?c5
  walk_at "my entered"
  intro mean mg mb base outer L' h₁ F1 G1
  dsimp only at F1 G1 hret hP hB
  have B1 := G1.B
  have X := G1.X
  have T : Top hd.view_39 (looseW hd.view_39 []) mean mg mb _ := G1.T
  have N1 : News hp L' h₁ [] := News.nil
  (try dsimp only at B1 X T)
  obtain ⟨pvs, pn, hpl, hpv⟩ := id hP
  have hPL : hp.IsList a pvs.toArray := ⟨_, hpl, rfl, pn, rfl⟩
  walk_at "my hop"
  refine wpAny_with_toks (n := B) (by dsimp only; exact Nat.le_trans hB (Nat.le_add_right _ _)) ?_
  walk_at "my steps"
  intro hk1
  walk_at "my hop"
  refine wpAny_For (wpAny_with_toks (n := B) hk1 ?_)
  walk_at "my steps"
  intro hk2
  rename Fr _ _ _ _ => F2
  rename News _ _ _ _ => N2
  refine' wpAny_pyIter_list ?i1 ?_
  case i1 => exact Fr.lst F2 hPL
  (try dsimp only)
  rename_i h2
  have hI0 : hp.get? h2.objs.size = none := by
    cases q : hp.get? h2.objs.size with
    | none => rfl
    | some o => exact absurd (Heap.lt_size (F2.keep _ _ q)) (Nat.lt_irrefl _)
  refine papers_forG (L := L') (news := []) hh rfl rfl rfl rfl hk2 hP ⟨_, Heap.get?_push_size _ rfl, rfl, rfl⟩ hI0 (Nat.ne_of_lt F2.ns.lt) (fun _ h => nomatch h) (Fr.push F2 _) News.nil
    (fun i m news => JZ1 word ps i m news) ?_ ?step ?hR
  · exact ⟨word, t, rfl, rfl, rfl, hw⟩
  case step =>
    rintro i p t1 t2 t3 m₁ news₁ h tk own hpi ⟨r, tr, rfl, e1, hr, hrl⟩ htk ⟨ht1, ht2, ht3, ht4⟩ hown _ hnw F3 N3 Qp Ep hQp
    have F4 := fr_norm1 (x1 := Str.ofString "row") F3 e1
    clear F3
    have hi5 : i < 5 := Nat.lt_of_lt_of_le (List.getElem?_eq_some_iff.mp hpi).1 hps
    have hrl2 : r.length ≤ 3200 := Nat.le_trans hrl (Nat.le_trans (Nat.mul_le_mul_left 100 (Nat.pow_le_pow_right (by decide) (Nat.le_of_lt hi5))) (by decide))
    have hcv := hcov p (List.mem_of_getElem? hpi)
    walk_at "my steps"
    refine slice_tok (fun h6 t5 k5 k6 h5 hk5 => ?_) (hsz := ?hz)
    case hz => show p.cover.toArray.size ≤ _; simp; exact Nat.le_trans hcv.2 (by decide)
    rw [slice_last2]
    dsimp only at k6 h5 hk5 ⊢
    have F5 := fr_keep F4 k6
    have N5 := news_keep N3 k6
    clear F4 N3
    have hl2 : (last2 p.cover).length = 2 := by unfold last2; rw [List.length_drop]; omega
    walk_at "my steps"
    refine SC.replace ht1 ?_ ?_ ?_ ?_ (fun t7 k7 => ?_)
    · rcases h5 with rfl | h5
      · exact ht2
      · exact Nat.ne_of_gt (Nat.lt_of_lt_of_le (Nat.lt_of_lt_of_le htk (Nat.le_add_right tk 2)) h5)
    · rcases h5 with rfl | h5
      · exact ht3
      · exact Nat.ne_of_lt (Nat.lt_of_lt_of_le ht4 (Nat.le_trans (Nat.le_add_right tk 2) h5))
    · refine beq_eq_false_iff_ne.mpr fun e => ?_
      have := congrArg (fun z : Str => z.cps.toList.length) e
      simp [hl2] at this
    · have : (⟨(last2 p.cover).toArray⟩ : Str).length = 2 := by simpa [Str.length] using hl2
      rw [show (⟨(last2 (List.toArray p.cover).toList).toArray⟩ : Str).length = 2 from this]
      omega
    walk_at "my steps"
    rename Fr _ _ _ _ => F8
    rename News _ _ _ _ => N8
    refine hQp (news₂ := []) F8 N8 (fun _ h => nomatch h) ⟨_, _, rfl, rfl, ?_, ?_⟩
    · rw [replace_subs, hr]
      have : ps.take (i + 1) = ps.take i ++ [p] := by rw [List.take_add_one, hpi]; rfl
      rw [this]
      unfold rowOf
      rw [List.foldl_append]
      rfl
    · have e : (Txt.replace r ⟨#[p.nm]⟩ ⟨(last2 p.cover).toArray⟩).length = (subs p.nm (last2 p.cover) r.cps.toList).length := by
        rw [← replace_subs (z := ⟨(last2 p.cover).toArray⟩)]
        simp [Str.length]
      refine Nat.le_trans (Nat.le_of_eq e) (Nat.le_trans (subs_len _ _ hl2 _) ?_)
      have : r.cps.toList.length = r.length := by simp [Str.length]
      rw [this, Nat.pow_succ]
      omega
  case hR =>
    rintro h tk m' news' htk F3 N3 ⟨r, tr, rfl, e1, hr, hrl⟩
    (try dsimp only)
    have F4 := fr_norm1 (x1 := Str.ofString "row") F3 e1
    clear F3
    rw [List.take_length] at hr
    have hrl2 : r.length ≤ 3200 := Nat.le_trans hrl (Nat.le_trans (Nat.mul_le_mul_left 100 (Nat.pow_le_pow_right (by decide) hps)) (by decide))
    rw [← hr] at hrow hret
    walk_at "my hop"
    refine while_gen (JZ2 hp L' g d os r) r.cps.toList.length ?_ (fun n s' hI Qb Qe Eb1 Eb2 Eb3 hQb hQk hQr hQe => ?_)
    · exact ⟨h, tk, r, tr, _, rfl, Nat.le_trans (Nat.le_add_left 1 _) htk, F4, rfl, hrow, rfl, rfl, hrl2⟩
    obtain ⟨h, tk, r2, t2, m2, rfl, htk2, F5, e2, hc2, hb2, rfl, hl2⟩ := hI
    have F6 := fr_norm1 (x1 := Str.ofString "row") F5 e2
    have N6 : News hp L' h [] := News.nil
    clear F5 F4 N3
    refine wpAny_with_toks (n := 1) htk2 ?_
    walk_at "my steps"
    intro hk3
    cases ho : (Builtin.Str.occurrences r2 (Str.ofString "()") 0 r2.length 1).isEmpty with
    | true =>
      rw [show (!true) = false from rfl, if_neg Bool.false_ne_true]
      walk_at "my hop"
      refine hQe ?_
      walk_at "my steps"
      have e := none_left r2 ho hc2
      have e2 : (r2 == Str.ofString "") = decide (r2.cps.toList = []) := by
        by_cases q : r2.cps.toList = []
        · rw [decide_eq_true q]
          have : r2 = Str.ofString "" := str_ext q
          rw [this]; rfl
        · rw [decide_eq_false q]
          refine beq_eq_false_iff_ne.mpr fun q2 => q ?_
          rw [q2]; rfl
      rw [e2, ← e, hb2]
      exact hret h _ F6.keep
    | false =>
      rw [show (!false) = true from rfl, if_pos rfl]
      obtain ⟨q1, q2, q3⟩ := strike r2 (occ_one_many r2 _ ho)
      walk_at "my hop"
      refine wpAny_Assign_Name (Call_method2 rfl rfl rfl (ld F6 rfl ?_))
      refine ⟨"str", "str.replace", PySem.F.plainAttrs_str, PySem.F.slot_str_replace, PySem.F.type_str_replace, typeIs_str _ _ _, (fun _ e => nomatch e), ?_⟩
      refine callWith_builtin rfl (evalArgs_plain (spliced_cons (wpAny_Constant_str (spliced_cons (wpAny_Constant_str (spliced_nil ?_))))))
      refine wpAny_with_toks (n := 1) (Nat.le_add_left 1 _) (SC.replace (Nat.ne_of_gt hk3) (Nat.succ_ne_zero _) (Nat.ne_of_lt (Nat.lt_succ_self _)) rfl ?_ (fun t7 k7 hk7 => ?_))
      · show r2.length + (r2.length + 1) * 0 ≤ _
        omega
      refine stN F6 N6 fun h8 F8 N8 => ?_
      walk_at "my hop"
      refine hQb q2 ⟨h8, _, _, _, _, rfl, Nat.le_add_left 1 _, F8, rfl, fun c hc => hc2 c (q3 c hc), q1.trans hb2, rfl, ?_⟩
      have e1 : r2.cps.toList.length = r2.length := by simp [Str.length]
      have e3 : (Txt.replace r2 (Str.ofString "()") (Str.ofString "")).length = (Txt.replace r2 ⟨#[40, 41]⟩ ⟨#[]⟩).cps.toList.length := by simp [Str.length]; rfl
      omega
end
end

section
open PySem PySem.W PyProof.Rows PySem.Calls PySem.Spec
set_option autoImplicit false
set_option Elab.async false
set_option maxRecDepth 100000
set_option maxHeartbeats 2000000
theorem ints_of_pairs {f : Nat → Int} : ∀ {vs ys : List Value} {cs : List Nat}, vs.length = cs.length → (∀ (j : Nat) (v : Value), vs[j]? = some v → ∃ c u, cs[j]? = some c ∧ v = .str ⟨#[c]⟩ u) →
    Paired (fun v r => ∃ c u t, v = .str ⟨#[c]⟩ u ∧ r = .int (f c) t) vs ys → IntsAre ys (cs.map f)
  | [], ys, [], _, _, h => by cases h; exact .nil
  | [], _, _ :: _, h, _, _ => by cases h
  | _ :: _, _, [], h, _, _ => by cases h
  | v :: vs, ys, c :: cs, hl, hg, h => by
    cases h with
    | cons hab hr =>
      obtain ⟨c1, u1, hc1, rfl⟩ := hg 0 v rfl
      obtain ⟨c2, u2, t2, e2, rfl⟩ := hab
      obtain rfl : c = c1 := by simpa using hc1
      have hcc : c = c2 := by
        have := congrArg (fun x : Value => match x with | .str s _ => s.cps.toList | _ => []) e2
        simpa using this
      rw [List.map_cons, hcc]
      exact .cons _ _ (ints_of_pairs (by simpa using hl) (fun j v hv => by simpa using hg (j + 1) v (by simpa using hv)) hr)
section
variable {prog : Program} {w : World} {A : Around} {E : Value → Shared → Prop} {s : Shared} {h₀ : Heap} {L : Addr} {m : Str → Option Value} {news : List (Addr × Obj)} {env : Env}
theorem comp_nums {elt iter : Expr} {x : Str} {px : Pos} {scope : Scope} {pos : Pos} {Q : Value → Shared → Prop} (f : Nat → Int)
    (hh : A.handled = none) (hclos : closureFor scope env = pure []) (hcell : ∀ y ∈ scope.names, y.2 ≠ .cell) (hkind : scope.kind = .function)
    (hnames : ∀ y ∈ scope.names, y.2 = .local → scope.names.lookup y.1 = some .local) (hx : scope.names.lookup x = some .local)
    (h : wpAny (model prog w) A (eval iter env) (fun xv s₁ => ∃ y t, xv = .str y t ∧ y.length ≤ sizeLine ∧ Fr h₀ L s₁.heap m ∧ News h₀ L s₁.heap news ∧
      (∀ C c u s₂ m₂ E', Fr h₀ L s₂.heap m → News h₀ L s₂.heap news → s₂.heap.Ns (compEnvC scope [] C env).locals m₂ → m₂ x = some (.str ⟨#[c]⟩ u) → wpAny (model prog w) A (eval elt (compEnvC scope [] C env)) (fun r s₃ => (∃ t, r = .int (f c) t) ∧ Keeps s₂ s₃) E' s₂) ∧
      (∀ D (ys : List Value) h' tk n, Fr h₀ L h' m → (∀ p ∈ news, p.1 ≠ D) → News h₀ L h' ((D, W.listOf ys.toArray n) :: news) → IntsAre ys (y.cps.toList.map f) → Q (.ref D) { s₁ with heap := h', toks := tk })) E s)
    (hs : ∀ x, foldedSetIterable iter env x = pure x) :
    wpAny (model prog w) A (eval (.ListComp elt [⟨.Name x px, iter, [], 0⟩] scope pos) env) Q E s := by
  refine wpAny_ListComp_free (fun _ => true) (fun v r => ∃ c u t, v = .str ⟨#[c]⟩ u ∧ r = .int (f c) t) hclos hcell hkind hnames hx (wpAny_mono h (fun xv s₁ h₁ => ?_) fun _ _ e => e) hs
  obtain ⟨y, t, rfl, hsz, F, N, helt, hQ⟩ := h₁
  refine wpAny_pyIter_str fun o St W hst => ?_
  have up : ∀ (h' : Heap), (∀ b o', b ∉ [s₁.heap.objs.size] → (s₁.heap.push o).get? b = some o' → h'.get? b = some o') → ∀ b o', s₁.heap.get? b = some o' → h'.get? b = some o' :=
    fun h' hk b o' e => hk b o' (fun hb => Nat.lt_irrefl _ ((List.mem_singleton.mp hb) ▸ Heap.lt_size e)) (Heap.get?_push_of_some _ e)
  refine ⟨s₁.heap.objs.size, [s₁.heap.objs.size], [s₁.heap.objs.size], y.cps.size, SignAt y, St, rfl, W A hh, hsz, hst, ?_, ⟨?_, ?_⟩, ?_⟩
  · intro b hb
    show b < (s₁.heap.push o).objs.size
    rw [Heap.size_push, List.mem_singleton.mp hb]
    exact Nat.lt_succ_self _
  · intro C i v s₃ m₃ E' _ hP hn hm _ _
    exact wpAny_tests_nil ⟨rfl, _, _, rfl, fun _ _ e => e⟩
  · intro C i v s₃ m₃ E' _ hP _ hn hm hk _
    obtain ⟨c, u, _, rfl⟩ := hP
    exact wpAny_mono (helt C c u s₃ m₃ E' (F.keeps (up s₃.heap hk)) (News.grown N (up s₃.heap hk)) hn hm) (fun r s₄ h₄ => by obtain ⟨⟨t, rfl⟩, hk⟩ := h₄; exact ⟨⟨c, u, t, rfl, rfl⟩, hk⟩) fun _ _ e => e
  · intro D h' tk ys vs hnew hlD hplD hlen hP hF hk
    obtain ⟨n, hD⟩ := hplD
    have hDn : ∀ b o', s₁.heap.get? b = some o' → b ≠ D := fun b o' e q => by rw [← q, Heap.get?_push_of_some _ e] at hnew; cases hnew
    have F' := F.keeps (up h' hk)
    have N' := News.grown N (up h' hk)
    obtain ⟨oL, es, ep, hLo, _⟩ := id F.ns
    refine hQ D ys.toList h' tk n F' (fun p hp => hDn _ _ (N p hp).1) (fun p hp => ?_) ?_
    · rcases List.mem_cons.mp hp with rfl | hp
      · refine ⟨by rw [Array.toArray_toList]; exact hD, (hDn _ _ hLo).symm, ?_⟩
        cases e : h₀.get? D with
        | none => rfl
        | some o' => exact absurd rfl (hDn _ _ (F.keep _ _ e))
      · exact N' p hp
    · rw [List.filter_eq_self.mpr fun _ _ => rfl] at hF
      exact ints_of_pairs (by rw [hlen]; simp) (fun j v hv => by obtain ⟨c, u, hc, rfl⟩ := hP j v hv; exact ⟨c, u, by simpa using hc, rfl⟩) hF
end
end

section
open PySem PySem.W PyProof.Rows PySem.Calls PySem.Spec
set_option autoImplicit false
set_option Elab.async false
set_option maxRecDepth 100000
set_option maxHeartbeats 8000000
theorem fillT : PySem.Challenge.rw_wb0031_01 = PySem.Challenge.rw_wb0031_01 ∧ hd.heap_39 = hd.heap_39 := by
  k_fill
  exact ⟨rfl, rfl⟩
local macro_rules | `(tactic| walk_at "my stop") => `(tactic| first
  | (with_reducible show wpAny _ _ (binaryOp Operator.Mult (Value.ref _) _) _ _ _)
  | (with_reducible show wpAny _ _ (binaryOp Operator.Add (Value.ref _) _) _ _ _)
  | (with_reducible show wpAny _ _ (call (Value.builtin "list.extend") _) _ _ _)
  | (with_reducible show wpAny _ _ (subscriptTail _ _ _ (Value.ref (Array.size _))) _ _ _))
set_option hygiene false in
local macro_rules | `(tactic| walk_at "my cons") => `(tactic| ((with_reducible refine execs_genT ?_); intro Qn En tkn htkn Xn))
local macro_rules | `(tactic| k_all) => `(tactic| assumption)
noncomputable def ampN : Int := 33 * 64 ^ 3 + 45 * 64 ^ 2 + 48 * 64 + 59
noncomputable def markNums (d : Int) (u : Nat) : List Int :=
  if u = 38 then 38 :: List.replicate d.toNat ampN else 38 :: List.replicate (d - 1).toNat ampN ++ [if u = 60 then 44 * 64 ^ 2 + 52 * 64 + 59 else 39 * 64 ^ 2 + 52 * 64 + 59]
noncomputable def leafNums (p : Paper) (c : Nat) (d : Int) : List Int :=
  (((c : Int) - 64) * 64 + 34) :: (p.signs.flatMap (markNums d) ++ ((if 2 < p.cover.length then [1826] else []) ++ ((last2 p.cover).map Int.ofNat ++ [34])))
noncomputable def toldGo (ps : List Paper) : List Nat → Int → List Int
  | [], _ => []
  | c :: r, d => if c = 40 then 40 :: toldGo ps r (d + 1) else if c = 41 then 41 :: toldGo ps r (d - 1) else
    match ps[c - 97]? with
    | some p => leafNums p c d ++ toldGo ps r d
    | none => toldGo ps r d
theorem one_eq (c k : Nat) : ((⟨#[c]⟩ : Str) == (⟨#[k]⟩ : Str)) = decide (c = k) := by
  by_cases hq : c = k
  · subst hq; simp
  · rw [decide_eq_false hq]; exact beq_eq_false_iff_ne.mpr fun e => hq (by have := congrArg (fun z : Str => z.cps.toList) e; simpa using this)
theorem abc_at (k : Nat) (h : k < 5) : ∃ rest, Builtin.Str.occurrences (Str.ofString "abcde") ⟨#[97 + k]⟩ 0 (Str.ofString "abcde").length 1 = k :: rest := by
  match k, h with
  | 0, _ => exact ⟨[], by decide +kernel⟩
  | 1, _ => exact ⟨[], by decide +kernel⟩
  | 2, _ => exact ⟨[], by decide +kernel⟩
  | 3, _ => exact ⟨[], by decide +kernel⟩
  | 4, _ => exact ⟨[], by decide +kernel⟩
theorem news_to_end {h₀ h : Heap} {L : Addr} {x : Addr × Obj} {own : List (Addr × Obj)} (N : News h₀ L h (x :: own)) : News h₀ L h (own ++ [x]) := fun p hp => N p (by
  rcases List.mem_append.mp hp with hp | hp
  · exact .tail _ hp
  · rw [List.mem_singleton.mp hp]; exact .head _)
theorem news_to_head {h₀ h : Heap} {L : Addr} {x : Addr × Obj} {own : List (Addr × Obj)} (N : News h₀ L h (own ++ [x])) : News h₀ L h (x :: own) := fun p hp => N p (by
  rcases List.mem_cons.mp hp with rfl | hp
  · exact List.mem_append.mpr (.inr (.head _))
  · exact List.mem_append.mpr (.inl hp))
theorem news_mid {h₀ h : Heap} {L : Addr} {x : Addr × Obj} {a b : List (Addr × Obj)} (N : News h₀ L h (a ++ x :: b)) : News h₀ L h (x :: (a ++ b)) := fun p hp => N p (by
  rcases List.mem_cons.mp hp with rfl | hp
  · exact List.mem_append.mpr (.inr (.head _))
  rcases List.mem_append.mp hp with hp | hp
  · exact List.mem_append.mpr (.inl hp)
  · exact List.mem_append.mpr (.inr (.tail _ hp)))
theorem news_mid' {h₀ h : Heap} {L : Addr} {x : Addr × Obj} {a b : List (Addr × Obj)} (N : News h₀ L h (x :: (a ++ b))) : News h₀ L h (a ++ x :: b) := fun p hp => N p (by
  rcases List.mem_append.mp hp with hp | hp
  · exact .tail _ (List.mem_append.mpr (.inl hp))
  rcases List.mem_cons.mp hp with rfl | hp
  · exact .head _
  · exact .tail _ (List.mem_append.mpr (.inr hp)))
theorem ints_push {vs : List Value} {ns : List Int} (h : IntsAre vs ns) (k : Int) (t : Tok) : IntsAre (vs ++ [.int k t]) (ns ++ [k]) := h.append (.cons k t .nil)
theorem ints_rep (k : Int) (t : Tok) : ∀ n : Nat, IntsAre (List.replicate n (.int k t)) (List.replicate n k)
  | 0 => .nil
  | n + 1 => by rw [List.replicate_succ, List.replicate_succ]; exact .cons k t (ints_rep k t n)
section
variable {prog : Program} {w : World} {A : Around} {E : Value → Shared → Prop} {s : Shared} {h₀ : Heap} {L l b tl : Addr} {m : Str → Option Value} {news temps rest : List (Addr × Obj)} {Q : Value → Shared → Prop} {k x : Int} {tk u : Tok} {n n2 : Nat} {vs ws : List Value}
theorem mul_amp (F : Fr h₀ L s.heap m) (N : News h₀ L s.heap news)
    (hl : (l, W.listOf #[Value.int k tk] n) ∈ news) (hx : -1000 ≤ x ∧ x ≤ 1000) (h : ∀ h' b, (∀ p ∈ news, p.1 ≠ b) → Fr h₀ L h' m → News h₀ L h' ((b, W.listOf (List.toArray (List.replicate x.toNat (.int k tk))) 0) :: news) → Q (.ref b) { s with heap := h' }) :
    wpAny (model prog w) A (binaryOp .Mult (.ref l) (.int x u)) Q E s := by
  refine mul_list (items := #[Value.int k tk]) F N (N _ hl).1 (by omega) (by omega) (by simp; omega) fun h' F' N' => ?_
  refine h h' _ (fun p hp => Nat.ne_of_lt (Heap.lt_size (N p hp).1)) F' ?_
  rw [if_neg (by simp), listMul_foldl] at N'
  simp only [lm_rep_flat_one] at N'
  exact N'
theorem add_two (F : Fr h₀ L s.heap m) (N : News h₀ L s.heap news) (hl : (l, W.listOf (List.toArray vs) n) ∈ news) (hb : (b, W.listOf (List.toArray ws) n2) ∈ news) (hz : vs.length + ws.length ≤ 10000)
    (h : ∀ h' c, (∀ p ∈ news, p.1 ≠ c) → Fr h₀ L h' m → News h₀ L h' ((c, W.listOf (List.toArray (vs ++ ws)) 0) :: news) → Q (.ref c) { s with heap := h' }) :
    wpAny (model prog w) A (binaryOp .Add (.ref l) (.ref b)) Q E s :=
  add_lists F N ⟨_, (N _ hl).1, rfl, _, rfl⟩ ⟨_, (N _ hb).1, rfl, _, rfl⟩ (fun h' F' N' => h h' _ (fun p hp => Nat.ne_of_lt (Heap.lt_size (N p hp).1)) F' N') (Nat.le_trans hz (by decide))
theorem extend_tail (F : Fr h₀ L s.heap m) (N : News h₀ L s.heap (((b, W.listOf (List.toArray ws) n2) :: temps) ++ (tl, W.listOf (List.toArray vs) n) :: rest)) (ht : ∀ p ∈ (b, W.listOf (List.toArray ws) n2) :: temps, p.1 ≠ tl) (hr : ∀ p ∈ rest, p.1 ≠ tl) (hz : vs.length + ws.length ≤ 1000000)
    (h : ∀ h' n', Fr h₀ L h' m → News h₀ L h' ((tl, W.listOf (List.toArray (vs ++ ws)) n') :: rest) → Q .none { s with heap := h' }) :
    wpAny (model prog w) A (call (.builtin "list.extend") [.ref tl, .ref b]) Q E s :=
  extend_in (D := tl) (b := b) (its2 := ws.toArray) (ys := vs) F N ht hr (N _ (.head _)).1 (fun h' n' F' N' => h h' n' F' fun p hp => N' p (List.mem_append.mpr (.inr hp))) (Nat.le_trans (m := 1000000) (by simpa using hz) (by decide))
end
theorem fr_norm5 {h₀ h : Heap} {L : Addr} {m : Str → Option Value} {x1 x2 x3 x4 x5 : Str} {v1 v2 v3 v4 v5 : Value} (F : Fr h₀ L h m) (e1 : m x1 = some v1) (e2 : m x2 = some v2) (e3 : m x3 = some v3) (e4 : m x4 = some v4) (e5 : m x5 = some v5) :
    Fr h₀ L h (fun y => if y = x1 then some v1 else if y = x2 then some v2 else if y = x3 then some v3 else if y = x4 then some v4 else if y = x5 then some v5 else m y) := by
  have e : (fun y => if y = x5 then some v5 else m y) = m := by
    funext y
    by_cases h : y = x5
    · rw [if_pos h, h, e5]
    · rw [if_neg h]
  have := fr_norm4 F e1 e2 e3 e4
  have e' : (fun y => if y = x1 then some v1 else if y = x2 then some v2 else if y = x3 then some v3 else if y = x4 then some v4 else if y = x5 then some v5 else m y) = (fun y => if y = x1 then some v1 else if y = x2 then some v2 else if y = x3 then some v3 else if y = x4 then some v4 else m y) := by
    funext y
    rw [show (if y = x5 then some v5 else m y) = m y from congrFun e y]
  rw [e']
  exact this
inductive JT (ps : List Paper) (word : Str) (a : Addr) (i : Nat) (m : Str → Option Value) (news : List (Addr × Obj)) : Prop
  | mk (tl : Addr) (nn : Nat) (vs : List Value) (ns : List Int) (dv : Int) (dt ta : Tok) (_ : news = [(tl, W.listOf vs.toArray nn)]) (_ : m (Str.ofString "told") = some (.ref tl)) (_ : m (Str.ofString "depth") = some (.int dv dt)) (_ : m (Str.ofString "papers") = some (.ref a))
    (_ : m (Str.ofString "amp") = some (.int ampN ta)) (_ : IntsAre vs ns) (_ : ns ++ toldGo ps (word.cps.toList.drop i) dv = toldGo ps word.cps.toList 0) (_ : -(i : Int) ≤ dv ∧ dv ≤ i) (_ : ns.length ≤ 1100 * i) : JT ps word a i m news
inductive JI (ns : List Int) (p' : Paper) (k i : Nat) (tl a : Addr) (own : List (Addr × Obj)) (dv : Int) (t3 : Tok) (j : Nat) (m : Str → Option Value) (news : List (Addr × Obj)) : Prop
  | mk (nn : Nat) (vs : List Value) (ns2 : List Int) (ta dt : Tok) (_ : news = (tl, W.listOf vs.toArray nn) :: own) (_ : m (Str.ofString "told") = some (.ref tl)) (_ : m (Str.ofString "depth") = some (.int dv dt)) (_ : m (Str.ofString "papers") = some (.ref a)) (_ : m (Str.ofString "amp") = some (.int ampN ta))
    (_ : m (Str.ofString "cover") = some (.str ⟨p'.cover.toArray⟩ t3)) (_ : IntsAre vs ns2) (_ : ns2 = ns ++ [(((97 + k : Nat) : Int) - 64) * 64 + 34] ++ (p'.signs.take j).flatMap (markNums dv)) (_ : ns2.length ≤ 1100 * i + 1 + 102 * j) : JI ns p' k i tl a own dv t3 j m news
inductive JC (hp : Heap) (L' : Addr) (g : Array GenState) (d : Drawn) (os : OsState) (tl : Addr) (own : List (Addr × Obj)) (ns2 : List Int) (p' : Paper) (dv : Int) (a : Addr) (t3 : Tok) (f : Flow) (s' : Shared) : Prop
  | mk (_ : f = .next) (h : Heap) (tk nn : Nat) (vs : List Value) (m2 : Str → Option Value) (dt ta : Tok) (_ : s' = ⟨h, g, d, tk, os⟩) (_ : Fr hp L' h m2) (_ : News hp L' h ((tl, W.listOf vs.toArray nn) :: own)) (_ : IntsAre vs (ns2 ++ if 2 < p'.cover.length then [1826] else []))
    (_ : m2 (Str.ofString "told") = some (.ref tl)) (_ : m2 (Str.ofString "depth") = some (.int dv dt)) (_ : m2 (Str.ofString "papers") = some (.ref a)) (_ : m2 (Str.ofString "amp") = some (.int ampN ta)) (_ : m2 (Str.ofString "cover") = some (.str ⟨p'.cover.toArray⟩ t3)) : JC hp L' g d os tl own ns2 p' dv a t3 f s'
section
variable {w : World} {A : Around} {s : Shared} {Q E : Value → Shared → Prop}
theorem con_told {word : Str} {t : Tok} {a : Addr} {B : Nat} {ps : List Paper} (P : Pl w A 1 8 s.heap) (hB : B ≤ s.toks) (hP : PapersAt s.heap a B ps) (hps : ps.length ≤ 5) (hw : word.length ≤ 100) (hsz : ∀ p ∈ ps, p.signs.length ≤ 10 ∧ p.cover.length ≤ 10)
    (hcs : ∀ c ∈ word.cps.toList, c = 40 ∨ c = 41 ∨ (97 ≤ c ∧ c < 97 + ps.length))
    (hret : ∀ h' b vs n tk', (∀ b o, s.heap.get? b = some o → h'.get? b = some o) → h'.get? b = some (W.listOf (List.toArray vs) n) → IntsAre vs (toldGo ps word.cps.toList 0) → Q (.ref b) ⟨h', s.gens, s.drawn, tk', s.os⟩) :
    wpAny (model PySem.Challenge.rw_wb0031_01.row.prog w) A (call (.ref 87) [.str word t, .ref a]) Q E s := by
  obtain ⟨hp, g, d, tk0, os⟩ := s
  have hh : A.handled = none := P.hnd
  refine wpAny_call ?_
  refine' enterP (binds := [(Str.ofString "word", .str word t), (Str.ofString "papers", .ref a)]) P ?k6 ?k7 ?k9 ?kB ?_ ?c2 ?c3 ?c4 ?c5
  walk_at "my entered"
  intro mean mg mb base outer L' h₁ F1 G1
  dsimp only at F1 G1 hret hP hB
  have B1 := G1.B
  have X := G1.X
  have T : Top hd.view_39 (looseW hd.view_39 []) mean mg mb _ := G1.T
  have N1 : News hp L' h₁ [] := News.nil
  (try dsimp only at B1 X T)
  obtain ⟨pvs, pn, hpl, hpv⟩ := id hP
  have hPL : hp.IsList a pvs.toArray := ⟨_, hpl, rfl, pn, rfl⟩
  walk_at "my hop"
  walk_at "my steps"
  refine wpAny_For ?_
  walk_at "my steps"
  rename Fr _ _ _ _ => F2
  rename News _ _ _ _ => N2
  obtain ⟨tl, ta, F3, N3⟩ : ∃ tl ta, Fr hp L' _ (fun y => if y = Str.ofString "depth" then some (Value.int 0 _) else if y = Str.ofString "told" then some (.ref tl) else if y = Str.ofString "amp" then some (.int ampN ta) else List.lookup y [(Str.ofString "word", Value.str word t), (Str.ofString "papers", Value.ref a)].reverse) ∧ News hp L' _ [(tl, W.listOf #[] 0)] := ⟨_, _, F2, N2⟩
  clear F2 N2
  rename_i hw2
  refine wpAny_pyIter_str fun o St HW hS0 => ?_
  have hI0 : hp.get? hw2.objs.size = none := by
    cases q : hp.get? hw2.objs.size with
    | none => rfl
    | some o => exact absurd (Heap.lt_size (F3.keep _ _ q)) (Nat.lt_irrefl _)
  have htlI : tl ≠ hw2.objs.size := Nat.ne_of_lt (Heap.lt_size (N3 _ (.head _)).1)
  have hILo : L' ≠ hw2.objs.size := Nat.ne_of_lt F3.ns.lt
  have F4 := Fr.push F3 o
  have N4 := news_keep N3 fun b o' e => Heap.get?_push_of_some o e
  refine for_walkG (HW (A.deeper _) hh) rfl (fun h => hILo (List.mem_singleton.mp h)) (fun b hb => List.mem_singleton.mp hb ▸ hI0) (fun p hp hb => by rw [List.mem_singleton.mp hp] at hb; exact htlI (List.mem_singleton.mp hb)) hS0 F4 N4 (fun i s' v Q' hst hq => wpAny_pure hq)
    (fun i m news _ => JT ps word a i m news) ?h0 (fun _ _ _ _ _ _ h => h) ?step ?hR
  case h0 => exact ⟨tl, 0, [], [], 0, _, ta, rfl, rfl, rfl, rfl, rfl, .nil, rfl, ⟨Int.le_refl _, Int.le_refl _⟩, Nat.le_refl _⟩
  case hR =>
    rintro h' tk m' news' htk F5 N5 hnw ⟨tl, nn, vs, ns, dv, dt, ta, rfl, e1, e2, e3, e4, hi, hgo, hdv, hln⟩
    (try dsimp only)
    have F6 := fr_norm1 (x1 := Str.ofString "told") F5 e1
    walk_at "my steps"
    have hz : word.cps.toList.drop word.cps.size = [] := List.drop_of_length_le (Nat.le_of_eq (Array.length_toList))
    rw [hz, toldGo, List.append_nil] at hgo
    exact hret h' tl vs nn _ F5.keep (N5 _ (.head _)).1 (hgo ▸ hi)
  case step =>
    rintro i v m₁ news₁ h tk own hi ⟨c, ct, hc, rfl⟩ ⟨tl, nn, vs, ns, dv, dt, ta, rfl, e1, e2, e3, e4, hint, hgo, hdv, hln⟩ htk hnw hown hown3 hst F5 N5 Pk Ek1 Ek2 hPk
    have F6 := fr_norm4 (x1 := Str.ofString "told") (x2 := Str.ofString "depth") (x3 := Str.ofString "papers") (x4 := Str.ofString "amp") F5 e1 e2 e3 e4
    clear F5 F4 N4 F3 N3
    have hot : ∀ p ∈ own, p.1 ≠ tl := fun p hp q => hnw _ (.head _) (q ▸ hown p hp)
    have htlI2 : tl ≠ hw2.objs.size := fun q => hnw _ (.head _) (List.mem_singleton.mpr q)
    have hi100 : i < 100 := Nat.lt_of_lt_of_le hi hw
    have hdr : word.cps.toList.drop i = c :: word.cps.toList.drop (i + 1) := by
      have h1 : word.cps.toList[i]? = some c := by simpa using hc
      rw [List.drop_eq_getElem_cons (List.getElem?_eq_some_iff.mp h1).1, (List.getElem?_eq_some_iff.mp h1).2]
    rw [hdr] at hgo
    have hcm : c ∈ word.cps.toList := List.mem_of_getElem? (by simpa using hc)
    have hlen : vs.length = ns.length := hint.length
    have N6 := news_to_head N5
    clear N5
    (try dsimp only)
    walk_at "my steps"
    rw [show (({ cps := #[c] } : Str) == Str.ofString "(") = decide (c = 40) from one_eq c 40]
    by_cases hc40 : c = 40
    · rw [decide_eq_true hc40, if_pos rfl]
      walk_at "my steps"
      rename Fr _ _ _ _ => F7
      rename News _ _ _ _ => N7
      rw [List.push_toArray] at N7
      refine hPk (news₂ := [(tl, _)]) F7 (news_to_end N7) (fun p hp hm => htlI2 (by rw [List.mem_singleton.mp hp] at hm; exact List.mem_singleton.mp hm)) fun _ => ⟨tl, _, _, ns ++ [40], dv + 1, _, ta, rfl, rfl, rfl, rfl, rfl, ints_push hint 40 _, ?_, by omega, ?_⟩
      · rw [← hgo, toldGo, if_pos hc40, List.append_assoc]; rfl
      · rw [List.length_append, List.length_singleton]; omega
    rw [decide_eq_false hc40, if_neg Bool.false_ne_true]
    walk_at "my hop"
    refine wpAny_If ?_
    walk_at "my steps"
    rw [show (({ cps := #[c] } : Str) == Str.ofString ")") = decide (c = 41) from one_eq c 41]
    by_cases hc41 : c = 41
    · rw [decide_eq_true hc41, if_pos rfl]
      walk_at "my steps"
      rename Fr _ _ _ _ => F7
      rename News _ _ _ _ => N7
      rw [List.push_toArray] at N7
      refine hPk (news₂ := [(tl, _)]) F7 (news_to_end N7) (fun p hp hm => htlI2 (by rw [List.mem_singleton.mp hp] at hm; exact List.mem_singleton.mp hm)) fun _ => ⟨tl, _, _, ns ++ [41], dv - 1, _, ta, rfl, rfl, rfl, rfl, rfl, ints_push hint 41 _, ?_, by omega, ?_⟩
      · rw [← hgo, toldGo, if_neg hc40, if_pos hc41, List.append_assoc]; rfl
      · rw [List.length_append, List.length_singleton]; omega
    rw [decide_eq_false hc41, if_neg Bool.false_ne_true]
    obtain ⟨k, hk, rfl⟩ : ∃ k, k < ps.length ∧ c = 97 + k := by
      rcases hcs c hcm with h | h | ⟨h1, h2⟩
      · exact absurd h hc40
      · exact absurd h hc41
      · exact ⟨c - 97, by omega, by omega⟩
    have hk5 : k < 5 := Nat.lt_of_lt_of_le hk hps
    obtain ⟨p, hpk⟩ : ∃ p, ps[k]? = some p := ⟨_, List.getElem?_eq_getElem hk⟩
    have hpv2 : pvs[k]? = some (pvs[k]'(by rw [hpv.length]; exact hk)) := List.getElem?_eq_getElem _
    obtain ⟨T, p', t1, t2, t3, hTe, hp', hT, _⟩ := hpv.get hpv2
    obtain rfl : p' = p := by rw [hpk] at hp'; exact (Option.some.inj hp').symm
    obtain ⟨hs1, hs2⟩ := hsz p' (List.mem_of_getElem? hpk)
    rw [toldGo, if_neg hc40, if_neg hc41, Nat.add_sub_cancel_left, hpk] at hgo
    dsimp only at hgo
    walk_at "my steps"
    rename Fr _ _ _ _ => F7
    rename News _ _ _ _ => N7
    obtain ⟨irest, hirest⟩ := abc_at k hk5
    refine SC.index hirest ?_
    (try dsimp only)
    refine item_list (Fr.lst F7 hPL) (by omega) (by omega) (x := .ref T) ?_ ?_
    · rw [Int.toNat_natCast, ← hTe]; simpa using hpv2
    have hT1 := F7.keep _ _ hT
    refine wpAny_assign_Tuple (t := T) (items := #[.str ⟨#[p'.nm]⟩ t1, .str ⟨p'.signs.toArray⟩ t2, .str ⟨p'.cover.toArray⟩ t3]) hh ⟨_, hT1, rfl, _, rfl⟩ rfl rfl fun h8 hx8 => ?_
    replace hx8 : ∀ b o, _ → h8.get? b = some o := fun b o e => hx8 b o (Nat.ne_of_lt (Heap.lt_size e)) e
    dsimp only at hx8
    have F8 := fr_keep F7 hx8
    have N8 := news_keep N7 hx8
    clear F7 N7
    show wpAny _ _ (do holding [_, _] (assign (.Name _ _) _ _); do holding [_] (assign (.Name _ _) _ _); do holding [] (assign (.Name _ _) _ _); pure ()) _ _ _
    refine wpAny_bind (wpAny_holding (wpAny_assign_Name (stN F8 N8 (fun h9 F9 N9 => ?_) rfl rfl)))
    clear F8 N8
    refine wpAny_bind (wpAny_holding (wpAny_assign_Name (stN F9 N9 (fun h10 F10 N10 => ?_) rfl rfl)))
    clear F9 N9
    refine wpAny_bind (wpAny_holding (wpAny_assign_Name (stN F10 N10 (fun h11 F11 N11 => wpAny_pure ?_) rfl rfl)))
    clear F10 N10
    (try dsimp only)
    walk_at "my hop"
    refine wpAny_For ?_
    walk_at "my steps"
    obtain ⟨va, hva, N12⟩ : ∃ va, IntsAre va (ns ++ [(((97 + k : Nat) : Int) - 64) * 64 + 34]) ∧ News hp L' h11 ((tl, W.listOf va.toArray (nn + 1)) :: own) := by
      rw [List.push_toArray] at N11
      exact ⟨_, ints_push hint _ _, N11⟩
    clear N11
    refine wpAny_pyIter_str fun o2 St2 HW2 hS2 => ?_
    dsimp only at HW2 hS2 ⊢
    have hI2 : hp.get? h11.objs.size = none := by
      cases q : hp.get? h11.objs.size with
      | none => rfl
      | some o => exact absurd (Heap.lt_size (F11.keep _ _ q)) (Nat.lt_irrefl _)
    have hnI2 : ∀ p ∈ (tl, W.listOf va.toArray (nn + 1)) :: own, p.1 ≠ h11.objs.size := fun p hp => Nat.ne_of_lt (Heap.lt_size (N12 _ hp).1)
    have htlJ : tl ≠ h11.objs.size := hnI2 _ (.head _)
    have F13 := Fr.push F11 o2
    have N13 := news_keep N12 fun b o' e => Heap.get?_push_of_some o2 e
    refine for_walkG (HW2 (A.deeper _) hh) rfl (fun h => Nat.ne_of_lt F11.ns.lt (List.mem_singleton.mp h)) (fun b hb => List.mem_singleton.mp hb ▸ hI2) (fun p hp hb => hnI2 p hp (List.mem_singleton.mp hb)) hS2 F13 N13 (fun i s' v Q' hst hq => wpAny_pure hq)
      (fun j m news _ => JI ns p' k i tl a own dv t3 j m news) ?i0 (fun _ _ _ _ _ _ h => h) ?istep ?iR
    case i0 => exact ⟨_, _, _, ta, dt, rfl, rfl, rfl, rfl, rfl, rfl, hva, by simp, by rw [List.length_append, List.length_singleton]; omega⟩
    case iR =>
      clear F11 N12 F13 N13
      rintro h' tk m' news' htk F5 N5 hnw ⟨nn, vs, ns2, ta, dt, rfl, e1, e2, e3, e4, e5, hi2, hgo2, hln2⟩
      (try dsimp only)
      have F6 := fr_norm5 (x1 := Str.ofString "told") (x2 := Str.ofString "depth") (x3 := Str.ofString "papers") (x4 := Str.ofString "amp") (x5 := Str.ofString "cover") F5 e1 e2 e3 e4 e5
      clear F5
      rw [show p'.signs.take p'.signs.toArray.size = p'.signs by simp] at hgo2
      have hln3 : ns2.length ≤ 1100 * i + 1021 := Nat.le_trans hln2 (by simp; omega)
      have hlen2 : vs.length = ns2.length := hi2.length
      have hlc : (⟨p'.cover.toArray⟩ : Str).length = p'.cover.length := by simp [Str.length]
      walk_at "my hop"
      refine wpAny_mono (Q := JC hp L' g d os tl own ns2 p' dv a t3) ?_ (fun f s' hm => ?_) fun _ _ x => x
      · walk_at "my steps"
        by_cases hc2 : 2 < p'.cover.length
        · rw [if_pos (by simpa [Str.length] using by omega)]
          walk_at "my steps"
          rename Fr _ _ _ _ => F7
          rename News _ _ _ _ => N7
          rw [List.push_toArray] at N7
          refine ⟨rfl, _, _, _, _, _, _, _, rfl, F7, N7, ?_, rfl, rfl, rfl, rfl, rfl⟩
          rw [if_pos hc2]
          exact ints_push hi2 _ _
        · rw [if_neg (by simpa [Str.length] using by omega)]
          walk_at "my steps"
          refine ⟨rfl, _, _, _, _, _, _, _, rfl, F6, N5, ?_, rfl, rfl, rfl, rfl, rfl⟩
          rw [if_neg hc2, List.append_nil]
          exact hi2
      · obtain ⟨rfl, h, tk, nn, vs, m2, dt, ta, rfl, F7, N7, hi3, e1, e2, e3, e4, e5⟩ := hm
        clear F6 N5
        (try dsimp only)
        have F8 := fr_norm5 (x1 := Str.ofString "told") (x2 := Str.ofString "depth") (x3 := Str.ofString "papers") (x4 := Str.ofString "amp") (x5 := Str.ofString "cover") F7 e1 e2 e3 e4 e5
        walk_at "my steps"
        refine comp_nums (h₀ := hp) (L := L') (m := fun y => if y = Str.ofString "told" then some (Value.ref tl) else if y = Str.ofString "depth" then some (.int dv dt) else if y = Str.ofString "papers" then some (.ref a) else if y = Str.ofString "amp" then some (.int ampN ta) else if y = Str.ofString "cover" then some (.str ⟨p'.cover.toArray⟩ t3) else m2 y) (news := (tl, W.listOf vs.toArray nn) :: own) Int.ofNat ?b0 ?b1 ?b2 ?b3 ?b4 ?b5 ?_ ?b6
        case b0 => exact hh
        case b1 => rfl
        case b2 => decide
        case b3 => rfl
        case b4 => decide
        case b5 => rfl
        case b6 => exact fun _ => rfl
        walk_at "my steps"
        refine slice_tok (fun h9 t9 k9 kk9 _ hk9 => ?_) (hsz := ?hz)
        case hz => show p'.cover.toArray.size ≤ _; simp; exact Nat.le_trans hs2 (by decide)
        rw [slice_last2]
        dsimp only at kk9 ⊢
        have F9 := fr_keep F8 kk9
        have N9 := news_keep N7 kk9
        clear F8 N7
        have hl2 : (last2 p'.cover).length ≤ 2 := by unfold last2; rw [List.length_drop]; omega
        refine ⟨_, _, rfl, ?_, F9, N9, ?_, ?_⟩
        · simp [Str.length]; exact Nat.le_trans hl2 (by decide)
        · intro C c u s₂ m₂ E' F10 N10 hns hm
          clear F9 N9
          walk_at "my steps"
          exact ⟨⟨_, rfl⟩, _, _, rfl, fun _ _ e => e⟩
        · intro D ys h10 tk n F10 hD N10 hca
          walk_at "my steps"
          rename Fr _ _ _ _ => F11
          rename News _ _ _ _ => N11
          rename D < _ ∧ _ => hl11
          have hl12 : vs.length ≤ 1100 * i + 1022 := by
            rw [hi3.length, List.length_append]
            split
            · simp; omega
            · simp; omega
          have hl13 : ys.length ≤ 2 := by rw [hca.length]; simpa using hl2
          refine add_two F11 N11 (.tail _ (.head _)) (.head _) (by simp; omega) fun h12 b12 hb12 F12 N12 => ?_
          clear F11 N11
          walk_at "my steps"
          refine extend_tail (temps := [_, _]) F12 N12 ?et hot ?ez fun h13 n13 F13 N13 => ?_
          case et =>
            intro p hp
            rcases List.mem_cons.mp hp with rfl | hp
            · exact (hb12 _ (.tail _ (.tail _ (.head _)))).symm
            rcases List.mem_cons.mp hp with rfl | hp
            · exact Nat.ne_of_gt hl11.2.1
            · rw [List.mem_singleton.mp hp]; exact (hD _ (.head _)).symm
          case ez => simp; omega
          clear F12 N12
          walk_at "my steps"
          refine hPk (news₂ := [(tl, _)]) F13 (news_to_end N13) (fun p hp hm => htlI2 (by rw [List.mem_singleton.mp hp] at hm; exact List.mem_singleton.mp hm)) fun _ => ⟨tl, _, _, _, dv, _, ta, rfl, rfl, rfl, rfl, rfl, hi3.append (hca.append (IntsAre.cons _ _ .nil)), ?_, by omega, ?_⟩
          · rw [← hgo, hgo2]
            simp [leafNums]
          · have h1 := hi3.length
            have h2 := hca.length
            rw [List.length_append, ← h1, List.length_append, ← h2]
            simp; omega
    case istep =>
      clear F11 N12 F13 N13
      rintro j v m₁ news₁ h tk own2 hj ⟨u, ut, hu, rfl⟩ ⟨nn, vs, ns2, ta, dt, rfl, e1, e2, e3, e4, e5, hi2, hgo2, hln2⟩ htk hnw2 hown2 hown32 hst2 F5 N5 Pk2 Ek3 Ek4 hPk2
      have F6 := fr_norm5 (x1 := Str.ofString "told") (x2 := Str.ofString "depth") (x3 := Str.ofString "papers") (x4 := Str.ofString "amp") (x5 := Str.ofString "cover") F5 e1 e2 e3 e4 e5
      have N6 := news_mid N5
      clear F5 N5
      obtain ⟨rest, hrest⟩ : ∃ rest, rest = own2 ++ own := ⟨_, rfl⟩
      rw [← hrest] at N6
      have hot2 : ∀ p ∈ rest, p.1 ≠ tl := fun p hp => by
        rw [hrest] at hp
        rcases List.mem_append.mp hp with hp | hp
        · rw [List.mem_singleton.mp (hown2 p hp)]; exact htlJ.symm
        · exact hot p hp
      have hu2 : p'.signs[j]? = some u := by simpa using hu
      have hj10 : j < 10 := Nat.lt_of_lt_of_le (List.getElem?_eq_some_iff.mp hu2).1 hs1
      have htake : (p'.signs.take (j + 1)).flatMap (markNums dv) = (p'.signs.take j).flatMap (markNums dv) ++ markNums dv u := by
        rw [List.take_add_one, hu2]; simp
      have hlen2 : vs.length = ns2.length := hi2.length
      have hnT : ∀ ob : Obj, ∀ p ∈ (tl, ob) :: own, ¬ p.1 ∈ [h11.objs.size] := fun ob p hp hm => by
        rcases List.mem_cons.mp hp with rfl | hp
        · exact htlJ (List.mem_singleton.mp hm)
        · exact hnw2 p (.tail _ hp) hm
      (try dsimp only)
      walk_at "my steps"
      rw [show (({ cps := #[u] } : Str) == Str.ofString "&") = decide (u = 38) from one_eq u 38]
      by_cases hu38 : u = 38
      · rw [decide_eq_true hu38, if_pos rfl]
        walk_at "my steps"
        rename Fr _ _ _ _ => F7
        rename News _ _ _ _ => N7
        rename tl < _ ∧ AllLt _ _ => hl7
        rename_i l38 _ lA _ hl8
        refine mul_amp F7 N7 (.head _) (by omega) fun h8 b8 hb8 F8 N8 => ?_
        clear F7 N7
        walk_at "my steps"
        refine add_two F8 N8 (.tail _ (.tail _ (.head _))) (.head _) (by simp; omega) fun h9 b9 hb9 F9 N9 => ?_
        clear F8 N8
        walk_at "my steps"
        refine extend_tail (temps := [_, _, _]) F9 N9 ?et hot2 ?ez fun h10 n10 F10 N10 => ?_
        case et =>
          intro p hp
          rcases List.mem_cons.mp hp with rfl | hp
          · exact (hb9 _ (.tail _ (.tail _ (.tail _ (.head _))))).symm
          rcases List.mem_cons.mp hp with rfl | hp
          · exact (hb8 _ (.tail _ (.tail _ (.head _)))).symm
          rcases List.mem_cons.mp hp with rfl | hp
          · exact Nat.ne_of_gt hl8.2.1
          · rw [List.mem_singleton.mp hp]; exact Nat.ne_of_gt hl7.1
        case ez => simp; omega
        clear F9 N9
        walk_at "my steps"
        rw [hrest] at N10
        refine hPk2 (news₂ := (tl, _) :: own) F10 (news_mid' N10) (hnT _) fun _ => ⟨_, _, _, ta, dt, rfl, rfl, rfl, rfl, rfl, rfl, hi2.append ((IntsAre.cons 38 _ .nil).append (ints_rep _ _ _)), ?_, ?_⟩
        · rw [htake, hgo2]; simp [markNums, hu38]
        · simp; omega
      rw [decide_eq_false hu38, if_neg Bool.false_ne_true]
      walk_at "my hop"
      refine wpAny_If ?_
      walk_at "my steps"
      rw [show (({ cps := #[u] } : Str) == Str.ofString "<") = decide (u = 60) from one_eq u 60]
      by_cases hu60 : u = 60
      · rw [decide_eq_true hu60, if_pos rfl]
        walk_at "my steps"
        rename Fr _ _ _ _ => F7
        rename News _ _ _ _ => N7
        rename tl < _ ∧ AllLt _ _ => hl7
        rename_i l38 _ lA _ hl8
        refine mul_amp F7 N7 (.head _) (by omega) fun h8 b8 hb8 F8 N8 => ?_
        clear F7 N7
        walk_at "my steps"
        refine add_two F8 N8 (.tail _ (.tail _ (.head _))) (.head _) (by simp; omega) fun h9 b9 hb9 F9 N9 => ?_
        clear F8 N8
        walk_at "my steps"
        rename Fr _ _ _ _ => F10
        rename News _ _ _ _ => N10
        rename b9 < _ ∧ _ => hl10
        refine add_two F10 N10 (.tail _ (.head _)) (.head _) (by simp; omega) fun h11' b11 hb11 F11 N11 => ?_
        clear F10 N10
        walk_at "my steps"
        refine extend_tail (temps := [_, _, _, _, _]) F11 N11 ?et hot2 ?ez fun h12 n12 F12 N12 => ?_
        case et =>
          intro p hp
          rcases List.mem_cons.mp hp with rfl | hp
          · exact (hb11 _ (.tail _ (.tail _ (.tail _ (.tail _ (.tail _ (.head _))))))).symm
          rcases List.mem_cons.mp hp with rfl | hp
          · exact Nat.ne_of_gt hl10.2.2.2.2.1
          rcases List.mem_cons.mp hp with rfl | hp
          · exact (hb9 _ (.tail _ (.tail _ (.tail _ (.head _))))).symm
          rcases List.mem_cons.mp hp with rfl | hp
          · exact (hb8 _ (.tail _ (.tail _ (.head _)))).symm
          rcases List.mem_cons.mp hp with rfl | hp
          · exact Nat.ne_of_gt hl8.2.1
          · rw [List.mem_singleton.mp hp]; exact Nat.ne_of_gt hl7.1
        case ez => simp; omega
        clear F11 N11
        walk_at "my steps"
        rw [hrest] at N12
        refine hPk2 (news₂ := (tl, _) :: own) F12 (news_mid' N12) (hnT _) fun _ => ⟨_, _, _, ta, dt, rfl, rfl, rfl, rfl, rfl, rfl, hi2.append (((IntsAre.cons 38 _ .nil).append (ints_rep _ _ _)).append (IntsAre.cons _ _ .nil)), ?_, ?_⟩
        · rw [htake, hgo2]; simp [markNums, hu38, hu60]
        · simp; omega
      · rw [decide_eq_false hu60, if_neg Bool.false_ne_true]
        walk_at "my steps"
        rename Fr _ _ _ _ => F7
        rename News _ _ _ _ => N7
        rename tl < _ ∧ AllLt _ _ => hl7
        rename_i l38 _ lA _ hl8
        refine mul_amp F7 N7 (.head _) (by omega) fun h8 b8 hb8 F8 N8 => ?_
        clear F7 N7
        walk_at "my steps"
        refine add_two F8 N8 (.tail _ (.tail _ (.head _))) (.head _) (by simp; omega) fun h9 b9 hb9 F9 N9 => ?_
        clear F8 N8
        walk_at "my steps"
        rename Fr _ _ _ _ => F10
        rename News _ _ _ _ => N10
        rename b9 < _ ∧ _ => hl10
        refine add_two F10 N10 (.tail _ (.head _)) (.head _) (by simp; omega) fun h11' b11 hb11 F11 N11 => ?_
        clear F10 N10
        walk_at "my steps"
        refine extend_tail (temps := [_, _, _, _, _]) F11 N11 ?et hot2 ?ez fun h12 n12 F12 N12 => ?_
        case et =>
          intro p hp
          rcases List.mem_cons.mp hp with rfl | hp
          · exact (hb11 _ (.tail _ (.tail _ (.tail _ (.tail _ (.tail _ (.head _))))))).symm
          rcases List.mem_cons.mp hp with rfl | hp
          · exact Nat.ne_of_gt hl10.2.2.2.2.1
          rcases List.mem_cons.mp hp with rfl | hp
          · exact (hb9 _ (.tail _ (.tail _ (.tail _ (.head _))))).symm
          rcases List.mem_cons.mp hp with rfl | hp
          · exact (hb8 _ (.tail _ (.tail _ (.head _)))).symm
          rcases List.mem_cons.mp hp with rfl | hp
          · exact Nat.ne_of_gt hl8.2.1
          · rw [List.mem_singleton.mp hp]; exact Nat.ne_of_gt hl7.1
        case ez => simp; omega
        clear F11 N11
        walk_at "my steps"
        rw [hrest] at N12
        refine hPk2 (news₂ := (tl, _) :: own) F12 (news_mid' N12) (hnT _) fun _ => ⟨_, _, _, ta, dt, rfl, rfl, rfl, rfl, rfl, rfl, hi2.append (((IntsAre.cons 38 _ .nil).append (ints_rep _ _ _)).append (IntsAre.cons _ _ .nil)), ?_, ?_⟩
        · rw [htake, hgo2]; simp [markNums, hu38, hu60]
        · simp; omega
end
end

section
open PySem PySem.Builtin PySem.Builtin.Str
set_option autoImplicit false
set_option maxRecDepth 100000
theorem takeWhile_free (c : Nat) : ∀ (a b : List Nat), c ∉ a → (a ++ c :: b).takeWhile (· ≠ c) = a
  | [], b, _ => by simp
  | d :: a, b, h => by
    have hd : d ≠ c := fun e => h (e ▸ .head _)
    have := takeWhile_free c a b (fun m => h (.tail _ m))
    simp only [List.cons_append, List.takeWhile_cons, ne_eq, hd, not_false_eq_true, decide_true, if_true]
    rw [this]
theorem takeWhile_all (c : Nat) : ∀ (a : List Nat), c ∉ a → a.takeWhile (· ≠ c) = a
  | [], _ => rfl
  | d :: a, h => by
    have hd : d ≠ c := fun e => h (e ▸ .head _)
    have := takeWhile_all c a (fun m => h (.tail _ m))
    simp only [List.takeWhile_cons, ne_eq, hd, not_false_eq_true, decide_true, if_true]
    rw [this]
theorem split_head (x y : Str) (c : Nat) (h : (Txt.split x ⟨#[c]⟩)[0]? = some y) : y.cps.toList = x.cps.toList.takeWhile (· ≠ c) := by
  have hj := StrLaws.join_split x ⟨#[c]⟩
  have hf := StrLaws.split_free x c
  generalize Txt.split x ⟨#[c]⟩ = parts at h hj hf
  cases parts with
  | nil => cases h
  | cons p r =>
    have : p = y := by simpa using h
    subst this
    have hp := hf p (.head _)
    cases r with
    | nil =>
      have : x = p := hj.symm
      rw [this, takeWhile_all c _ hp]
    | cons q r =>
      have : x.cps.toList = p.cps.toList ++ c :: (Str.join ⟨#[c]⟩ (q :: r)).cps.toList := by
        rw [← hj]
        show (p ++ ⟨#[c]⟩ ++ Str.join ⟨#[c]⟩ (q :: r)).cps.toList = _
        simp [Str.cps_append]
      rw [this, takeWhile_free c _ _ hp]
end

section
open PySem PySem.W PyProof.Rows PySem.Calls PySem.Spec
set_option Elab.async false
set_option maxRecDepth 100000
set_option maxHeartbeats 8000000
section
variable {prog : Program} {w : World} {A : Around} {E : Value → Shared → Prop} {h₀ hp : Heap} {g : Array GenState} {d : Drawn} {tk : Nat} {os : OsState} {L f : Addr} {m : Str → Option Value} {name : Str} {scope : Scope} {cd : Value} {news : List (Addr × Obj)}

theorem replace_none {a c z : Str} (h : Txt.contains a c = false) : Txt.replace a c z = a := by
  unfold Txt.contains at h
  unfold Txt.replace
  have h1 : (Builtin.Str.occurrences a c 0 a.length 1).isEmpty = true := by simpa using h
  have h2 : (Builtin.Str.occurrences a c 0 a.length (a.length + 1)).isEmpty = true := by
    cases q : (Builtin.Str.occurrences a c 0 a.length (a.length + 1)).isEmpty with
    | true => rfl
    | false =>
      exfalso
      have hh := StrLaws.occ_head a c 1 (Nat.le_refl _)
      have hh2 := StrLaws.occ_head a c (a.length + 1) (Nat.succ_le_succ (Nat.zero_le _))
      rcases hh with ⟨h3, h4⟩ | ⟨i, r, h3, h4⟩
      · rcases hh2 with ⟨h5, h6⟩ | ⟨j, r', h5, h6⟩
        · rw [h5] at q; cases q
        · exact h4 _ h6.1
      · rw [h3] at h1; cases h1
  rw [h2]; rfl

theorem if_replace {x c z a : Str} {t : Tok} {k1 k2 k3 : Nat} {p1 p2 p3 p4 p5 p6 p7 p8 p9 p10 p11 : Pos} {Q : Flow → Shared → Prop}
    (F : Fr h₀ L hp m) (N : News h₀ L hp news) (htk : 1 ≤ tk) (hv : m x = some (.str a t)) (hk : scope.kind = .function) (hl : (envOf name scope L f cd).kindOf x = some .local)
    (hd : (x == ("__debug__" : Str)) = false) (hb : attributeBase (.Name x p5) "replace" (envOf name scope L f cd) (eval (.Name x p5) (envOf name scope L f cd)) = eval (.Name x p5) (envOf name scope L f cd))
    (hline : (p6.endLine == p9.line) = true) (hcz : (c == z) = false) (hsz : a.length + (a.length + 1) * z.length ≤ 16777216)
    (hs : swapsWith (.Call (.Attribute (.Name x p5) "replace" p6) [.Constant (.str c) k2 p7, .Constant (.str z) k3 p8] [] p9) (some (.Name x p4)) p10.line (envOf name scope L f cd) = pure false)
    (h : ∀ h' t' tk', Fr h₀ L h' (fun y => if y = x then some (.str (Txt.replace a c z) t') else m y) → News h₀ L h' news → 1 ≤ tk' → Q .next ⟨h', g, d, tk', os⟩) :
    wpAny (model prog w) A (exec (.If (.Compare (.Constant (.str c) k1 p1) [.In] [.Name x p2] p3) [.Assign [.Name x p4] (.Call (.Attribute (.Name x p5) "replace" p6) [.Constant (.str c) k2 p7, .Constant (.str z) k3 p8] [] p9) p10] [] p11) (envOf name scope L f cd)) Q E ⟨hp, g, d, tk, os⟩ := by
  refine wpAny_If (wpAny_isTrue_Compare1 (hm := rfl) (wpAny_Constant_str (ld (s := ⟨hp, g, d, tk + 1, os⟩) F hv (SB.contains (wpAny_truthy_bool ?_)) hk hl hd)))
  cases hc : Txt.contains a c with
  | false =>
    rw [if_neg Bool.false_ne_true]
    refine wpAny_execs_nil (h hp t (tk + 1) ?_ N (Nat.le_succ_of_le htk))
    rw [replace_none hc]
    have e : (fun y => if y = x then some (Value.str a t) else m y) = m := by
      funext y; by_cases q : y = x
      · subst q; simp [hv]
      · simp [q]
    rw [e]; exact F
  | true =>
    rw [if_pos rfl]
    refine wpAny_execs_cons (wpAny_Assign_Name (hs := hs) (Call_method2 hb rfl hline (ld (s := ⟨hp, g, d, tk + 1, os⟩) F hv ?_ hk hl hd)))
    refine ⟨"str", "str.replace", PySem.F.plainAttrs_str, PySem.F.slot_str_replace, PySem.F.type_str_replace, typeIs_str _ _ _, (fun _ e => nomatch e), ?_⟩
    refine callWith_builtin rfl (evalArgs_plain (spliced_cons (wpAny_Constant_str (spliced_cons (wpAny_Constant_str (spliced_nil ?_))))))
    refine wpAny_with_toks (n := 1) (show 1 ≤ tk + 1 + 1 + 1 by omega) (SC.replace (show tk + 1 ≠ 0 by omega) (show tk + 1 + 1 ≠ 0 by omega) (show tk + 1 ≠ tk + 1 + 1 by omega) hcz hsz (fun t' k hk1 => ?_))
    refine stN (s := ⟨hp, g, d, k, os⟩) F N (fun h' F' N' => ?_) hk hl
    exact wpAny_execs_nil (h h' t' (k + 1) F' N' (Nat.le_succ_of_le hk1))
end
end

section
open PySem PySem.W PyProof.Rows PySem.Calls PySem.Spec
set_option Elab.async false
set_option maxRecDepth 100000
set_option maxHeartbeats 8000000
theorem fillEsc : PySem.Challenge.rw_wb0031_01 = PySem.Challenge.rw_wb0031_01 ∧ hd.heap_39 = hd.heap_39 := by
  k_fill
  exact ⟨rfl, rfl⟩
section
variable {prog : Program} {w : World} {A : Around} {E : Value → Shared → Prop} {h₀ hp : Heap} {g : Array GenState} {d : Drawn} {tk : Nat} {os : OsState} {L f : Addr} {m : Str → Option Value} {name : Str} {scope : Scope} {cd : Value} {news : List (Addr × Obj)}
theorem if_esc (T : Tbl) (c0 : Nat) (z0 : List Nat) {x c z a : Str} {t : Tok} {k1 k2 k3 : Nat} {p1 p2 p3 p4 p5 p6 p7 p8 p9 p10 p11 : Pos} {Q : Flow → Shared → Prop}
    (F : Fr h₀ L hp m) (N : News h₀ L hp news) (htk : 1 ≤ tk) (hv : m x = some (.str (esc T a) t)) (hC : c = ⟨#[c0]⟩) (hZ : z = ⟨z0.toArray⟩)
    (hT : (T.all (fun p => !p.2.contains c0) && T.lookup c0 == none && T.all (fun p => decide (p.2.length ≤ 6)) && decide (z0.length ≤ 6)) = true) (ha : a.length ≤ 100000)
    (hk : scope.kind = .function) (hl : (envOf name scope L f cd).kindOf x = some .local)
    (hd : (x == ("__debug__" : Str)) = false) (hb : attributeBase (.Name x p5) "replace" (envOf name scope L f cd) (eval (.Name x p5) (envOf name scope L f cd)) = eval (.Name x p5) (envOf name scope L f cd))
    (hline : (p6.endLine == p9.line) = true) (hcz : (c == z) = false)
    (hs : swapsWith (.Call (.Attribute (.Name x p5) "replace" p6) [.Constant (.str c) k2 p7, .Constant (.str z) k3 p8] [] p9) (some (.Name x p4)) p10.line (envOf name scope L f cd) = pure false)
    (h : ∀ h' t' tk', Fr h₀ L h' (fun y => if y = x then some (.str (esc (T ++ [(c0, z0)]) a) t') else m y) → News h₀ L h' news → 1 ≤ tk' → Q .next ⟨h', g, d, tk', os⟩) :
    wpAny (model prog w) A (exec (.If (.Compare (.Constant (.str c) k1 p1) [.In] [.Name x p2] p3) [.Assign [.Name x p4] (.Call (.Attribute (.Name x p5) "replace" p6) [.Constant (.str c) k2 p7, .Constant (.str z) k3 p8] [] p9) p10] [] p11) (envOf name scope L f cd)) Q E ⟨hp, g, d, tk, os⟩ := by
  simp only [Bool.and_eq_true, decide_eq_true_eq, beq_iff_eq] at hT
  refine if_replace F N htk hv hk hl hd hb hline hcz ?_ hs fun h' t' tk' => ?_
  · have h1 := esc_len T hT.1.2 a
    have h2 : z.length ≤ 6 := by subst hZ; simpa [Str.length] using hT.2
    have h3 : ((esc T a).length + 1) * z.length ≤ ((esc T a).length + 1) * 6 := Nat.mul_le_mul_left _ h2
    omega
  · rw [replace_esc T c0 z0 hT.1.1.1 hT.1.1.2 a c z hC hZ]
    exact h h' t' tk'
end
local macro_rules | `(tactic| walk_at "my tok") => `(tactic| first | assumption | (dsimp only; omega) | omega)
local macro_rules | `(tactic| walk_at "my ifs") => `(tactic| ((case k1 => k_asm); (case k2 => k_asm); (case k3 => walk_at "my tok"); (case k4 => rfl); (case hC => decide +kernel); (case hZ => decide +kernel); (case hT => decide +kernel); (case k5 => rfl); (case k6 => rfl); (case k7 => decide); (case k8 => rfl); (case k9 => rfl); (case k10 => decide +kernel); (case k12 => rfl)))
local macro_rules | `(tactic| walk_at "my enter") => `(tactic| (refine' enter (by assumption) ?k6 ?k7 ?k9 ?kB ?_ ?c2 ?c3 ?c4 ?c5; (case k6 => k_is); (case k7 => k_is); (case k9 => exact BindsTo.of_eq rfl); (case kB => exact locs rfl); (case c2 => rfl); (case c3 => rfl); (case c4 => rfl); (case c5 => decide)))

noncomputable def tblC : Tbl := [(38, [38, 97, 109, 112, 59]), (60, [38, 108, 116, 59]), (62, [38, 103, 116, 59])]
theorem con_cdata (w : World) {A : Around} {s : Shared} {x : Str} {t : Tok} {Q E : Value → Shared → Prop} (P : At w A 1 8 s) (hx : x.length ≤ 100000)
  (hret : ∀ h' t' tk', (∀ b o, s.heap.get? b = some o → h'.get? b = some o) → 1 ≤ tk' → Q (.str (esc tblC x) t') ⟨h', s.gens, s.drawn, tk', s.os⟩) :
  wpAny (model PySem.Challenge.rw_wb0031_01.row.prog w) A (call (.ref 28) [.str x t]) Q E s := by
  obtain ⟨hp, g, d, tk, os⟩ := s
  have T0 := P.tk
  dsimp only at T0
  refine wpAny_call ?_
  walk_at "my enter"
  intro mean mg mb base outer L' h₁ F G
  dsimp only at F hret
  have N : News hp L' h₁ [] := News.nil
  rw [← esc_nil x] at F
  refine wpAny_execs_cons (wpAny_Try_except ?_)
  refine wpAny_execs_cons ?_
  refine' if_esc [] 38 [38, 97, 109, 112, 59] ?k1 ?k2 ?k3 ?k4 ?hC ?hZ ?hT hx ?k5 ?k6 ?k7 ?k8 ?k9 ?k10 ?k12 ?_
  walk_at "my ifs"
  intro h2 t2 tk2 F2 N2 T2
  refine wpAny_execs_cons ?_
  refine' if_esc [(38, [38, 97, 109, 112, 59])] 60 [38, 108, 116, 59] ?k1 ?k2 ?k3 ?k4 ?hC ?hZ ?hT hx ?k5 ?k6 ?k7 ?k8 ?k9 ?k10 ?k12 ?_
  walk_at "my ifs"
  intro h3 t3 tk3 F3 N3 T3
  refine wpAny_execs_cons ?_
  refine' if_esc [(38, [38, 97, 109, 112, 59]), (60, [38, 108, 116, 59])] 62 [38, 103, 116, 59] ?k1 ?k2 ?k3 ?k4 ?hC ?hZ ?hT hx ?k5 ?k6 ?k7 ?k8 ?k9 ?k10 ?k12 ?_
  walk_at "my ifs"
  intro h4 t4 tk4 F4 N4 T4
  refine wpAny_execs_cons (wpAny_Return_some (ld (s := ⟨h4, g, d, tk4, os⟩) F4 rfl ?_))
  exact hret _ _ _ F4.keep T4
noncomputable def tblN : Tbl := [(38, [38, 97, 109, 112, 59]), (60, [38, 108, 116, 59]), (62, [38, 103, 116, 59]), (13, [38, 35, 120, 68, 59])]
theorem con_c14n (w : World) {A : Around} {s : Shared} {x : Str} {t : Tok} {Q E : Value → Shared → Prop} (P : At w A 1 8 s) (hx : x.length ≤ 100000)
  (hret : ∀ h' t' tk', (∀ b o, s.heap.get? b = some o → h'.get? b = some o) → 1 ≤ tk' → Q (.str (esc tblN x) t') ⟨h', s.gens, s.drawn, tk', s.os⟩) :
  wpAny (model PySem.Challenge.rw_wb0031_01.row.prog w) A (call (.ref 42) [.str x t]) Q E s := by
  obtain ⟨hp, g, d, tk, os⟩ := s
  have T0 := P.tk
  dsimp only at T0
  refine wpAny_call ?_
  walk_at "my enter"
  intro mean mg mb base outer L' h₁ F G
  dsimp only at F hret
  have N : News hp L' h₁ [] := News.nil
  rw [← esc_nil x] at F
  refine wpAny_execs_cons (wpAny_Try_except ?_)
  refine wpAny_execs_cons ?_
  refine' if_esc [] 38 [38, 97, 109, 112, 59] ?k1 ?k2 ?k3 ?k4 ?hC ?hZ ?hT hx ?k5 ?k6 ?k7 ?k8 ?k9 ?k10 ?k12 ?_
  walk_at "my ifs"
  intro h2 t2 tk2 F2 N2 T2
  refine wpAny_execs_cons ?_
  refine' if_esc [(38, [38, 97, 109, 112, 59])] 60 [38, 108, 116, 59] ?k1 ?k2 ?k3 ?k4 ?hC ?hZ ?hT hx ?k5 ?k6 ?k7 ?k8 ?k9 ?k10 ?k12 ?_
  walk_at "my ifs"
  intro h3 t3 tk3 F3 N3 T3
  refine wpAny_execs_cons ?_
  refine' if_esc [(38, [38, 97, 109, 112, 59]), (60, [38, 108, 116, 59])] 62 [38, 103, 116, 59] ?k1 ?k2 ?k3 ?k4 ?hC ?hZ ?hT hx ?k5 ?k6 ?k7 ?k8 ?k9 ?k10 ?k12 ?_
  walk_at "my ifs"
  intro h4 t4 tk4 F4 N4 T4
  refine wpAny_execs_cons ?_
  refine' if_esc [(38, [38, 97, 109, 112, 59]), (60, [38, 108, 116, 59]), (62, [38, 103, 116, 59])] 13 [38, 35, 120, 68, 59] ?k1 ?k2 ?k3 ?k4 ?hC ?hZ ?hT hx ?k5 ?k6 ?k7 ?k8 ?k9 ?k10 ?k12 ?_
  walk_at "my ifs"
  intro h5 t5 tk5 F5 N5 T5
  refine wpAny_execs_cons (wpAny_Return_some (ld (s := ⟨h5, g, d, tk5, os⟩) F5 rfl ?_))
  exact hret _ _ _ F5.keep T5
noncomputable def tblA : Tbl := [(38, [38, 97, 109, 112, 59]), (60, [38, 108, 116, 59]), (62, [38, 103, 116, 59]), (34, [38, 113, 117, 111, 116, 59]), (13, [38, 35, 49, 51, 59]), (10, [38, 35, 49, 48, 59]), (9, [38, 35, 48, 57, 59])]
theorem con_attrib (w : World) {A : Around} {s : Shared} {x : Str} {t : Tok} {Q E : Value → Shared → Prop} (P : At w A 1 8 s) (hx : x.length ≤ 100000)
  (hret : ∀ h' t' tk', (∀ b o, s.heap.get? b = some o → h'.get? b = some o) → 1 ≤ tk' → Q (.str (esc tblA x) t') ⟨h', s.gens, s.drawn, tk', s.os⟩) :
  wpAny (model PySem.Challenge.rw_wb0031_01.row.prog w) A (call (.ref 35) [.str x t]) Q E s := by
  obtain ⟨hp, g, d, tk, os⟩ := s
  have T0 := P.tk
  dsimp only at T0
  refine wpAny_call ?_
  walk_at "my enter"
  intro mean mg mb base outer L' h₁ F G
  dsimp only at F hret
  have N : News hp L' h₁ [] := News.nil
  rw [← esc_nil x] at F
  refine wpAny_execs_cons (wpAny_Try_except ?_)
  refine wpAny_execs_cons ?_
  refine' if_esc [] 38 [38, 97, 109, 112, 59] ?k1 ?k2 ?k3 ?k4 ?hC ?hZ ?hT hx ?k5 ?k6 ?k7 ?k8 ?k9 ?k10 ?k12 ?_
  walk_at "my ifs"
  intro h2 t2 tk2 F2 N2 T2
  refine wpAny_execs_cons ?_
  refine' if_esc [(38, [38, 97, 109, 112, 59])] 60 [38, 108, 116, 59] ?k1 ?k2 ?k3 ?k4 ?hC ?hZ ?hT hx ?k5 ?k6 ?k7 ?k8 ?k9 ?k10 ?k12 ?_
  walk_at "my ifs"
  intro h3 t3 tk3 F3 N3 T3
  refine wpAny_execs_cons ?_
  refine' if_esc [(38, [38, 97, 109, 112, 59]), (60, [38, 108, 116, 59])] 62 [38, 103, 116, 59] ?k1 ?k2 ?k3 ?k4 ?hC ?hZ ?hT hx ?k5 ?k6 ?k7 ?k8 ?k9 ?k10 ?k12 ?_
  walk_at "my ifs"
  intro h4 t4 tk4 F4 N4 T4
  refine wpAny_execs_cons ?_
  refine' if_esc [(38, [38, 97, 109, 112, 59]), (60, [38, 108, 116, 59]), (62, [38, 103, 116, 59])] 34 [38, 113, 117, 111, 116, 59] ?k1 ?k2 ?k3 ?k4 ?hC ?hZ ?hT hx ?k5 ?k6 ?k7 ?k8 ?k9 ?k10 ?k12 ?_
  walk_at "my ifs"
  intro h5 t5 tk5 F5 N5 T5
  refine wpAny_execs_cons ?_
  refine' if_esc [(38, [38, 97, 109, 112, 59]), (60, [38, 108, 116, 59]), (62, [38, 103, 116, 59]), (34, [38, 113, 117, 111, 116, 59])] 13 [38, 35, 49, 51, 59] ?k1 ?k2 ?k3 ?k4 ?hC ?hZ ?hT hx ?k5 ?k6 ?k7 ?k8 ?k9 ?k10 ?k12 ?_
  walk_at "my ifs"
  intro h6 t6 tk6 F6 N6 T6
  refine wpAny_execs_cons ?_
  refine' if_esc [(38, [38, 97, 109, 112, 59]), (60, [38, 108, 116, 59]), (62, [38, 103, 116, 59]), (34, [38, 113, 117, 111, 116, 59]), (13, [38, 35, 49, 51, 59])] 10 [38, 35, 49, 48, 59] ?k1 ?k2 ?k3 ?k4 ?hC ?hZ ?hT hx ?k5 ?k6 ?k7 ?k8 ?k9 ?k10 ?k12 ?_
  walk_at "my ifs"
  intro h7 t7 tk7 F7 N7 T7
  refine wpAny_execs_cons ?_
  refine' if_esc [(38, [38, 97, 109, 112, 59]), (60, [38, 108, 116, 59]), (62, [38, 103, 116, 59]), (34, [38, 113, 117, 111, 116, 59]), (13, [38, 35, 49, 51, 59]), (10, [38, 35, 49, 48, 59])] 9 [38, 35, 48, 57, 59] ?k1 ?k2 ?k3 ?k4 ?hC ?hZ ?hT hx ?k5 ?k6 ?k7 ?k8 ?k9 ?k10 ?k12 ?_
  walk_at "my ifs"
  intro h8 t8 tk8 F8 N8 T8
  refine wpAny_execs_cons (wpAny_Return_some (ld (s := ⟨h8, g, d, tk8, os⟩) F8 rfl ?_))
  exact hret _ _ _ F8.keep T8
end

section
open PySem PySem.W PyProof.Rows PySem.Calls PySem.Spec
set_option autoImplicit false
set_option Elab.async false
set_option maxRecDepth 100000
set_option maxHeartbeats 20000000
theorem fillPi : PySem.Challenge.rw_wb0031_01 = PySem.Challenge.rw_wb0031_01 ∧ hd.heap_39 = hd.heap_39 := by
  k_fill
  exact ⟨rfl, rfl⟩
local macro_rules | `(tactic| walk_at "my stopB") => `(tactic| first
  | (walk_at "my stop")
  | (with_reducible show wpAny _ _ (subscriptTail _ _ _ _) _ _ _)
  | (with_reducible show wpAny _ _ (compareOp CmpOp.NotEq (Value.ref _) (Value.ref _)) _ _ _)
  | (with_reducible show wpAny _ _ (call (Value.builtin "list.pop") _ _) _ _ _))
local macro_rules | `(tactic| walk_at "my stepsB") => `(tactic| repeat' (first | walk_at "my next" | walk_at "my cons" | ((with_reducible show wpAny _ _ _ _ _ _); (fail_if_success (walk_at "my stopB")); (try dsimp only); walk1) | fail))
local macro_rules | `(tactic| k_all) => `(tactic| assumption)
noncomputable def leafText (p : Paper) : List Nat := p.nm :: 34 :: p.signs ++ p.cover ++ [34]
noncomputable def depthAt (word : List Nat) (nm : Nat) : Int := ((word.takeWhile (· ≠ nm)).count 40 : Int) - ((word.takeWhile (· ≠ nm)).count 41 : Int)
/-- a nest is laid on the pile, its top first -/
noncomputable def pushS : List (Int × List Nat) → Int → List Nat → List (Int × List Nat)
  | [], d, t => [(d, t)]
  | (d', t') :: r, d, t => if d' = d then pushS r (d - 1) (40 :: escL tblN (t' ++ t) ++ [41]) else (d, t) :: (d', t') :: r
noncomputable def pushOk : List (Int × List Nat) → Int → List Nat → Prop
  | [], _, _ => True
  | (d', t') :: r, d, t => if d' = d then (t' ++ t).length ≤ 10000 ∧ pushOk r (d - 1) (40 :: escL tblN (t' ++ t) ++ [41]) else True
noncomputable def pileOf (word : List Nat) : List Paper → List (Int × List Nat) → List (Int × List Nat)
  | [], st => st
  | p :: r, st => pileOf word r (pushS st (depthAt word p.nm) (leafText p))
noncomputable def pileOk (word : List Nat) : List Paper → List (Int × List Nat) → Prop
  | [], _ => True
  | p :: r, st => pushOk st (depthAt word p.nm) (leafText p) ∧ pileOk word r (pushS st (depthAt word p.nm) (leafText p))
theorem cnt_eq (c : Nat) : ∀ l : List Nat, cnt c l = (l.count c : Int)
  | [] => rfl
  | n :: r => by
    rw [cnt_cons, cnt_eq c r, List.count_cons]
    by_cases h : n = c
    · simp [h]; omega
    · simp [h]
inductive JP1 (word : Str) (t : Tok) (ps : List Paper) (i : Nat) (m : Str → Option Value) (news : List (Addr × Obj)) : Prop
  | mk (pl : Addr) (nn : Nat) (vs : List Value) (ts : List (Addr × Obj)) (st : List (Int × List Nat)) (_ : news = (pl, W.listOf vs.toArray nn) :: ts) (_ : PilV (fun a o => (a, o) ∈ ts) vs.reverse st) (_ : (∀ p ∈ ts, p.1 ≠ pl)) (_ : m (Str.ofString "pile") = some (.ref pl)) (_ : m (Str.ofString "word") = some (.str word t)) (_ : pileOf word.cps.toList (ps.drop i) st = pileOf word.cps.toList ps []) (_ : pileOk word.cps.toList (ps.drop i) st) (_ : st.length ≤ i) : JP1 word t ps i m news
inductive JP2 (hp : Heap) (L' : Addr) (g : Array GenState) (d : Drawn) (os : OsState) (pl : Addr) (word : Str) (t : Tok) (p : Paper) (own : List (Addr × Obj)) (st : List (Int × List Nat)) (i : Nat) (h2 : Heap) (n : Nat) (s' : Shared) : Prop
  | mk (h : Heap) (tk : Nat) (vs : List Value) (nn : Nat) (ts2 : List (Addr × Obj)) (st2 : List (Int × List Nat)) (dv : Int) (dt : Tok) (x : List Nat) (xt : Tok) (m2 : Str → Option Value) (_ : s' = ⟨h, g, d, tk, os⟩) (_ : 1 ≤ tk) (_ : Fr hp L' h m2) (_ : m2 (Str.ofString "pile") = some (.ref pl)) (_ : m2 (Str.ofString "word") = some (.str word t)) (_ : m2 (Str.ofString "depth") = some (.int dv dt)) (_ : m2 (Str.ofString "nest") = some (.str ⟨x.toArray⟩ xt)) (_ : News hp L' h ((pl, W.listOf vs.toArray nn) :: (own ++ ts2))) (_ : (∀ p ∈ ts2, p.1 ≠ pl)) (_ : (∀ p ∈ ts2, p.1 ≠ h2.objs.size)) (_ : PilV (fun a o => (a, o) ∈ ts2) vs.reverse st2) (_ : pushS st2 dv x = pushS st (depthAt word.cps.toList p.nm) (leafText p)) (_ : pushOk st2 dv x) (_ : n = st2.length) (_ : st2.length ≤ i) (_ : x.length ≤ 100000) : JP2 hp L' g d os pl word t p own st i h2 n s'
section
variable {w : World} {A : Around} {s : Shared} {Q E : Value → Shared → Prop}
theorem con_pile {word : Str} {t : Tok} {a : Addr} {B : Nat} {ps : List Paper} (P : Pl w A 2 16 s.heap) (hB : B ≤ s.toks) (hP : PapersAt s.heap a B ps) (hps : ps.length ≤ 5) (hw : word.length ≤ 100) (hsz : ∀ p ∈ ps, p.signs.length ≤ 10 ∧ p.cover.length ≤ 10)
    (hok : pileOk word.cps.toList ps [])
    (hret : ∀ h' b vs n ts tk', (∀ b o, s.heap.get? b = some o → h'.get? b = some o) → (∀ p ∈ (b, W.listOf (List.toArray vs) n) :: ts, h'.get? p.1 = some p.2 ∧ s.heap.get? p.1 = none) → PilV (fun a o => (a, o) ∈ ts) vs.reverse (pileOf word.cps.toList ps []) → Q (.ref b) ⟨h', s.gens, s.drawn, tk', s.os⟩) :
    wpAny (model PySem.Challenge.rw_wb0031_01.row.prog w) A (call (.ref 99) [.ref a, .str word t]) Q E s := by
  obtain ⟨hp, g, d, tk0, os⟩ := s
  have hh : A.handled = none := P.hnd
  refine wpAny_call ?_
  refine' enterP (binds := [(Str.ofString "papers", .ref a), (Str.ofString "word", .str word t)]) P ?k6 ?k7 ?k9 ?kB ?_ ?c2 ?c3 ?c4 ?c5
  walk_at "my entered"
  intro mean mg mb base outer L' h₁ F1 G1
  dsimp only at F1 G1 hret hP hB
  have B1 := G1.B
  have X := G1.X
  have T : Top hd.view_39 (looseW hd.view_39 []) mean mg mb _ := G1.T
  have N1 : News hp L' h₁ [] := News.nil
  (try dsimp only at B1 X T)
  obtain ⟨pvs, pn, hpl, hpv⟩ := id hP
  have hPL : hp.IsList a pvs.toArray := ⟨_, hpl, rfl, pn, rfl⟩
  walk_at "my hop"
  refine wpAny_with_toks (n := B) (by dsimp only; exact Nat.le_trans hB (Nat.le_add_right _ _)) ?_
  walk_at "my steps"
  intro hk1
  walk_at "my hop"
  refine wpAny_For (wpAny_with_toks (n := B) hk1 ?_)
  walk_at "my steps"
  intro hk2
  rename Fr _ _ _ _ => F2
  rename News _ _ _ _ => N2
  refine' wpAny_pyIter_list ?i1 ?_
  case i1 => exact Fr.lst F2 hPL
  (try dsimp only)
  rename_i _ _ _ h2
  obtain ⟨pl, F2, N2⟩ : ∃ pl, Fr hp L' h2 (fun y => if y = Str.ofString "pile" then some (.ref pl) else List.lookup y [(Str.ofString "papers", Value.ref a), (Str.ofString "word", Value.str word t)].reverse) ∧ News hp L' h2 [(pl, W.listOf #[] 0)] := ⟨_, F2, N2⟩
  have hI0 : hp.get? h2.objs.size = none := by
    cases q : hp.get? h2.objs.size with
    | none => rfl
    | some o => exact absurd (Heap.lt_size (F2.keep _ _ q)) (Nat.lt_irrefl _)
  have hpI : pl ≠ h2.objs.size := Nat.ne_of_lt (Heap.lt_size (N2 _ (.head _)).1)
  refine papers_forG (L := L') (news := [(pl, W.listOf #[] 0)]) hh rfl rfl rfl rfl hk2 hP ⟨_, Heap.get?_push_size _ rfl, rfl, rfl⟩ hI0 (Nat.ne_of_lt F2.ns.lt) (fun p hp => by rw [List.mem_singleton.mp hp]; exact hpI) (Fr.push F2 _) (news_keep N2 fun b o e => Heap.get?_push_of_some _ e)
    (fun i m news => JP1 word t ps i m news) ?_ ?step ?hR
  · exact ⟨pl, 0, [], [], [], rfl, .nil, (fun _ h => nomatch h), rfl, rfl, rfl, hok, Nat.le_refl _⟩
  case step =>
    rintro i p t1 t2 t3 m₁ news₁ h tk own hpi ⟨pl, nn, vs, ts, st, rfl, hst, hts, e1, e2, hgo, hok, hsl⟩ htk ⟨ht1, ht2, ht3, ht4⟩ hown ⟨oI, hoI⟩ hnw F3 N3 Qp Ep hQp
    have F4 := fr_norm2 (x1 := Str.ofString "pile") (x2 := Str.ofString "word") F3 e1 e2
    clear F3
    have hi5 : i < 5 := Nat.lt_of_lt_of_le (List.getElem?_eq_some_iff.mp hpi).1 hps
    obtain ⟨hs1, hs2⟩ := hsz p (List.mem_of_getElem? hpi)
    have hdr : ps.drop i = p :: ps.drop (i + 1) := by
      rw [List.drop_eq_getElem_cons (List.getElem?_eq_some_iff.mp hpi).1, (List.getElem?_eq_some_iff.mp hpi).2]
    rw [hdr] at hgo hok
    obtain ⟨rest, hrest⟩ : ∃ rest, rest = own ++ ts := ⟨_, rfl⟩
    have hr1 : ∀ p ∈ rest, p.1 ≠ pl := fun p hp => by
      rw [hrest] at hp
      rcases List.mem_append.mp hp with hp | hp
      · rw [hown p hp]; exact (hnw _ (.head _)).symm
      · exact hts p hp
    have N4 : News hp L' h ((pl, W.listOf vs.toArray nn) :: rest) := fun p hp => by
      refine N3 p ?_
      rcases List.mem_cons.mp hp with rfl | hp
      · exact List.mem_append.mpr (.inr (.head _))
      rw [hrest] at hp
      rcases List.mem_append.mp hp with hp | hp
      · exact List.mem_append.mpr (.inl hp)
      · exact List.mem_append.mpr (.inr (.tail _ hp))
    clear N3
    walk_at "my hop"
    refine wpAny_with_toks (n := 1) htk ?_
    walk_at "my steps"
    rename Str => y5
    rename List.map _ _ = Txt.split _ _ => hspl
    rename (List.map _ _)[Int.toNat 0]? = some _ => hy5
    intro hk5
    walk_at "my hop"
    refine wpAny_with_toks (n := 1) hk5 ?_
    walk_at "my steps"
    intro hk6
    walk_at "my hop"
    refine wpAny_with_toks (n := 1) hk6 ?_
    walk_at "my steps"
    intro hk7
    rename Fr _ _ _ _ => F5
    rename News _ _ _ _ => N5
    have N6 : News hp L' _ ((pl, W.listOf vs.toArray nn) :: rest) := fun q hq => N5 q (.tail _ hq)
    rw [hspl] at hy5
    have hy6 := split_head word y5 p.nm hy5
    have hdep : Txt.count y5 (Str.ofString "(") - Txt.count y5 (Str.ofString ")") = depthAt word.cps.toList p.nm := by
      unfold depthAt
      rw [← hy6]
      show Txt.count y5 ⟨#[40]⟩ - Txt.count y5 ⟨#[41]⟩ = _
      rw [count_cnt, count_cnt, cnt_eq, cnt_eq]
    have hnest : (⟨#[p.nm]⟩ : Str) ++ Str.ofString "\"" ++ ⟨p.signs.toArray⟩ ++ ⟨p.cover.toArray⟩ ++ Str.ofString "\"" = ⟨(leafText p).toArray⟩ := str_ext (by simp [Str.cps_append, leafText]; rfl)
    rw [hdep, hnest] at F5
    walk_at "my hop"
    refine while_gen (JP2 hp L' g d os pl word t p own st i h2) st.length ?_ (fun n s' hI Qb Qe Eb1 Eb2 Eb3 hQb hQk hQr hQe => ?_)
    · refine ⟨_, _, vs, nn, ts, st, _, _, leafText p, _, _, rfl, hk7, F5, rfl, rfl, rfl, rfl, hrest ▸ N6, hts, (fun q hq => hnw q (.tail _ hq)), hst, rfl, hok.1, rfl, hsl, ?_⟩
      · have : (leafText p).length = p.signs.length + p.cover.length + 3 := by simp [leafText]; omega
        omega
    obtain ⟨h, tk2, vs2, nn2, ts2, st2, dv, dt2, x2, xt2, m2, rfl, htk2, F7, e3, e4, e5, e6, N7, hts2, htI2, hpv2, hgo2, hok2, rfl, hsl2, hx2⟩ := hI
    have F8 := fr_norm4 (x1 := Str.ofString "pile") (x2 := Str.ofString "word") (x3 := Str.ofString "depth") (x4 := Str.ofString "nest") F7 e3 e4 e5 e6
    clear F7 F5 N6
    obtain ⟨rest2, hrest2⟩ : ∃ rest2, rest2 = own ++ ts2 := ⟨_, rfl⟩
    rw [← hrest2] at N7
    have hr2 : ∀ p ∈ rest2, p.1 ≠ pl := fun p hp => by
      rw [hrest2] at hp
      rcases List.mem_append.mp hp with hp | hp
      · rw [hown p hp]; exact (hnw _ (.head _)).symm
      · exact hts2 p hp
    have hIp : (h2.objs.size, oI) ∈ rest2 := hrest2 ▸ List.mem_append.mpr (.inl hoI)
    have hvl2 : vs2.length ≤ 1000 := by
      have h1 := hpv2.length
      rw [List.length_reverse] at h1
      omega
    refine wpAny_with_toks (n := 1) htk2 ?_
    walk_at "my stepsB"
    rename Fr _ _ _ _ => F9
    rename News _ _ _ _ => N9
    have hun := P.un
    have hdp := P.dp
    have hB9 := (N9 _ (.head _)).1
    have hP9 := (N9 _ (.tail _ (.head _))).1
    refine' ne_empty ?x1 ?x2 ?x3 ?_
    case x1 => exact hP9
    case x2 => exact hB9
    case x3 => show A.units + 3 < cLine; omega
    cases st2 with
    | nil =>
      have hvs : vs2 = [] := by
        cases hq : vs2.reverse with
        | nil => simpa using hq
        | cons _ _ => rw [hq] at hpv2; cases hpv2
      subst hvs
      rw [show decide (([] : List Value) ≠ []) = false from rfl]
      walk_at "my stepsB"
      rw [if_neg Bool.false_ne_true]
      intro hk8
      rw [if_neg Bool.false_ne_true]
      walk_at "my hop"
      refine hQe ?_
      walk_at "my stepsB"
      rename Fr _ _ _ _ => F10
      rename News _ _ _ _ => N10
      rename _ ∧ _ ∧ AllLt _ _ => hl10
      obtain ⟨vs', nn', ts', z1, z2, z3, z4⟩ := pile_fin N10 hrest2 hl10.2.2 hIp hl10.2.1 (hnw _ (.head _)) hts2 htI2 hpv2 rfl
      refine hQp (news₂ := (pl, W.listOf vs'.toArray nn') :: ts') F10 z1 z2 ⟨pl, nn', vs', ts', _, rfl, z4, z3, rfl, rfl, ?_, ?_, ?_⟩
      · rw [← hgo, pileOf, ← hgo2, pushS]
      · have := hok.2
        rw [← hgo2, pushS] at this
        exact this
      · simp
    | cons e st2 =>
      obtain ⟨d', x'⟩ := e
      obtain ⟨T, vs0, td, tx, rfl, hT, hpv3⟩ : ∃ (T : Addr) (vs0 : List Value) (td tx : Tok), vs2 = vs0 ++ [.ref T] ∧ (T, tupObj [.int d' td, .str ⟨x'.toArray⟩ tx]) ∈ ts2 ∧ PilV (fun a o => (a, o) ∈ ts2) vs0.reverse st2 := by
        cases hq : vs2.reverse with
        | nil => rw [hq] at hpv2; cases hpv2
        | cons v r =>
          rw [hq] at hpv2
          cases hpv2 with
          | cons hT hr => exact ⟨_, r.reverse, _, _, by have := congrArg List.reverse hq; simpa using this, hT, by simpa using hr⟩
      rw [show decide (vs0 ++ [Value.ref T] ≠ []) = true by simp]
      walk_at "my stepsB"
      rw [if_pos rfl]
      have hTh := (N9 _ (.tail _ (.tail _ (hrest2 ▸ List.mem_append.mpr (.inr hT))))).1
      walk_at "my stepsB"
      refine' item_last ?y1 ?y2 ?_
      case y1 => exact hP9
      case y2 => simp at hvl2; omega
      walk_at "my stepsB"
      refine' item_pair0 ?z1 ?_
      case z1 => exact hTh
      walk_at "my stepsB"
      by_cases hd : d' = dv
      rotate_left
      · rw [show (d' == dv) = false by simpa using hd, if_neg Bool.false_ne_true]
        intro hk8
        rw [if_neg Bool.false_ne_true]
        walk_at "my hop"
        refine hQe ?_
        walk_at "my stepsB"
        rename Fr _ _ _ _ => F10
        rename News _ _ _ _ => N10
        rename _ ∧ _ ∧ AllLt _ _ => hl10
        obtain ⟨vs', nn', ts', z1, z2, z3, z4⟩ := pile_fin N10 hrest2 hl10.2.2 hIp hl10.2.1 (hnw _ (.head _)) hts2 htI2 hpv2 rfl
        refine hQp (news₂ := (pl, W.listOf vs'.toArray nn') :: ts') F10 z1 z2 ⟨pl, nn', vs', ts', _, rfl, z4, z3, rfl, rfl, ?_, ?_, ?_⟩
        · rw [← hgo, pileOf, ← hgo2, pushS, if_neg hd]
        · have := hok.2
          rw [← hgo2, pushS, if_neg hd] at this
          exact this
        · simp only [List.length_cons] at hsl2 ⊢
          omega
      · rw [show (d' == dv) = true by simpa using hd, if_pos rfl]
        walk_at "my stepsB"
        intro hk8
        rw [if_pos rfl]
        rw [pushOk, if_pos hd] at hok2
        rw [pushS, if_pos hd] at hgo2
        have hlx1 : (⟨x'.toArray⟩ : Str).length ≤ 10000 := by
          have := hok2.1
          rw [List.length_append] at this
          simp [Str.length]; omega
        have hlx2 : (⟨x2.toArray⟩ : Str).length ≤ 10000 := by
          have := hok2.1
          rw [List.length_append] at this
          simp [Str.length]; omega
        have hlen := hok2.1
        walk_at "my hop"
        refine wpAny_with_toks (n := 1) hk8 ?_
        walk_at "my stepsB"
        (try dsimp only)
        refine' pop_end ?p1 ?p2 ?p3 ?p4 ?_
        case p1 => exact F9
        case p2 => exact fun q hq => N9 q (.tail _ hq)
        case p3 => exact hr2
        case p4 => simp at hvl2; omega
        intro h11 F11 N11
        (try dsimp only)
        walk_at "my stepsB"
        have hT11 := (N11 _ (.tail _ (hrest2 ▸ List.mem_append.mpr (.inr hT)))).1
        refine' item_pair1 ?w1 ?_
        case w1 => exact hT11
        (try dsimp only)
        walk1
        (try dsimp only)
        refine wpAny_with_toks (n := 1) (by first | exact Nat.le_add_left 1 _ | (dsimp only; omega)) ?_
        walk1
        intro hk9
        walk_at "my stepsB"
        refine ⟨X.keeps F11.keep, ?_⟩
        have hcat : (⟨x'.toArray⟩ : Str) ++ ⟨x2.toArray⟩ = ⟨(x' ++ x2).toArray⟩ := str_ext (by simp [Str.cps_append])
        rw [hcat]
        refine con_c14n w (G1.at F11 rfl hh (by omega) (by omega) hk9) ?_ fun h12 t12 tk12 k12 htk12 => ?_
        · have : (⟨(x' ++ x2).toArray⟩ : Str).length = (x' ++ x2).length := by simp [Str.length]
          omega
        (try dsimp only at k12 ⊢)
        have F12 := fr_keep F11 k12
        have N12 := news_keep N11 k12
        clear F11 N11
        refine wpAny_with_toks (n := 1) htk12 ?_
        have hlenE : (esc tblN ⟨(x' ++ x2).toArray⟩).length ≤ 60000 := by
          have h1 := esc_len tblN (by decide) ⟨(x' ++ x2).toArray⟩
          have h2 : (⟨(x' ++ x2).toArray⟩ : Str).length = (x' ++ x2).length := by simp [Str.length]
          omega
        walk_at "my steps"
        intro hk13
        walk_at "my steps"
        intro hk14
        walk_at "my hop"
        refine wpAny_with_toks (n := 1) hk14 ?_
        walk_at "my steps"
        intro hk15
        walk_at "my next"
        walk_at "my hop"
        rename Fr _ _ _ _ => F15
        rename News _ _ _ _ => N15
        have hnest : Str.ofString "(" ++ esc tblN ⟨(x' ++ x2).toArray⟩ ++ Str.ofString ")" = ⟨(40 :: escL tblN (x' ++ x2) ++ [41]).toArray⟩ := str_ext (by simp [Str.cps_append, esc]; rfl)
        rw [hnest] at F15
        rw [hrest2] at N15
        refine hQb (Nat.lt_succ_self _) ⟨_, _, vs0, _, ts2, st2, _, _, _, _, _, rfl, hk15, F15, rfl, rfl, rfl, rfl, N15, hts2, htI2, hpv3, hgo2, hok2.2, rfl, ?_, ?_⟩
        · simp only [List.length_cons] at hsl2; omega
        · have h1 := escL_len tblN (by decide) (x' ++ x2)
          have h2 := hok2.1
          have h3 : (40 :: escL tblN (x' ++ x2) ++ [41]).length = (escL tblN (x' ++ x2)).length + 2 := by simp
          omega
  case hR =>
    rintro h tk m' news' htk F3 N3 ⟨pl, nn, vs, ts, st, rfl, hst, hts, e1, e2, hgo, hok, hsl⟩
    (try dsimp only)
    have F4 := fr_norm1 (x1 := Str.ofString "pile") F3 e1
    walk_at "my steps"
    rw [List.drop_length] at hgo
    refine hret h pl vs nn ts _ F3.keep (fun p hp => ⟨(N3 p hp).1, (N3 p hp).2.2⟩) ?_
    rw [← hgo]
    exact hst
end
end

section
open PySem PySem.W PyProof.Rows PySem.Calls PySem.Spec
set_option autoImplicit false
set_option Elab.async false
set_option maxRecDepth 100000
set_option maxHeartbeats 4000000
theorem fillN : PySem.Challenge.rw_wb0031_01 = PySem.Challenge.rw_wb0031_01 ∧ hd.heap_39 = hd.heap_39 := by
  k_fill
  exact ⟨rfl, rfl⟩
local macro_rules | `(tactic| walk_at "my stop") => `(tactic| first
  | (with_reducible show wpAny _ _ (subscriptTail _ _ _ _) _ _ _)
  | (with_reducible show wpAny _ _ (binaryOp Operator.Add (Value.ref _) _) _ _ _)
  | (with_reducible show wpAny _ _ (call (Value.builtin "len") [Value.ref _]) _ _ _))
set_option hygiene false in
local macro_rules | `(tactic| walk_at "my cons") => `(tactic| ((with_reducible refine execs_genT ?_); intro Qn En tkn htkn Xn))
local macro_rules | `(tactic| k_all) => `(tactic| assumption)
theorem IsListOf {h₀ h : Heap} {L R : Addr} {vs : List Value} {n : Nat} {ts : List (Addr × Obj)} (N : News h₀ L h ((R, W.listOf (List.toArray vs) n) :: ts)) : h.IsList R vs.toArray := ⟨_, (N _ (.head _)).1, rfl, n, rfl⟩
noncomputable def comb (x y : List Nat) : List Nat := 40 :: escL tblC (x ++ y) ++ [41]
noncomputable def kOf : List Int → Nat
  | a :: b :: c :: r => if c < a then kOf (b :: c :: r) + 1 else 0
  | _ => 0
noncomputable def jOf (ws : List Int) (c : Int) : Nat → Nat
  | 0 => 0
  | j + 1 => if ws.getD j 0 < c then jOf ws c j else j + 1
noncomputable def cOf (ws : List Int) : Int := ws.getD (kOf ws) 0 + ws.getD (kOf ws + 1) 0
noncomputable def nestStep {α : Type} (cmb : α → α → α) (z : α) (row : List (Int × α)) : List (Int × α) :=
  row.take (jOf (row.map (·.1)) (cOf (row.map (·.1))) (kOf (row.map (·.1)))) ++ [(cOf (row.map (·.1)), cmb (row.getD (kOf (row.map (·.1))) (0, z)).2 (row.getD (kOf (row.map (·.1)) + 1) (0, z)).2)] ++
    (row.drop (jOf (row.map (·.1)) (cOf (row.map (·.1))) (kOf (row.map (·.1))))).take (kOf (row.map (·.1)) - jOf (row.map (·.1)) (cOf (row.map (·.1))) (kOf (row.map (·.1)))) ++ row.drop (kOf (row.map (·.1)) + 2)
noncomputable def nestN {α : Type} (cmb : α → α → α) (z : α) : Nat → List (Int × α) → List (Int × α)
  | 0, r => r
  | n + 1, r => if 1 < r.length then nestN cmb z n (nestStep cmb z r) else r
noncomputable def nestOk : Nat → List (Int × List Nat) → Prop
  | 0, _ => True
  | n + 1, r => if 1 < r.length then ((r.getD (kOf (r.map (·.1))) (0, [])).2 ++ (r.getD (kOf (r.map (·.1)) + 1) (0, [])).2).length ≤ 10000 ∧ nestOk n (nestStep comb [] r) else True
noncomputable def leafRow (p : Paper) : Int × List Nat := ((p.signs.length : Int), leafText p)
theorem kOf_lt : ∀ ws : List Int, 2 ≤ ws.length → kOf ws + 1 < ws.length
  | [], h => by simp at h
  | [_], h => by simp at h
  | [_, _], _ => by simp [kOf]
  | a :: b :: c :: r, _ => by
    have := kOf_lt (b :: c :: r) (by simp)
    unfold kOf
    split
    · simp at this ⊢; omega
    · simp
theorem jOf_le (ws : List Int) (c : Int) : ∀ k, jOf ws c k ≤ k
  | 0 => Nat.le_refl _
  | k + 1 => by
    unfold jOf
    split
    · exact Nat.le_trans (jOf_le ws c k) (Nat.le_succ _)
    · exact Nat.le_refl _
theorem nestStep_len {α : Type} (cmb : α → α → α) (z : α) (row : List (Int × α)) (h : 2 ≤ row.length) : (nestStep cmb z row).length = row.length - 1 := by
  have h1 := kOf_lt (row.map (·.1)) (by rw [List.length_map]; exact h)
  have h2 := jOf_le (row.map (·.1)) (cOf (row.map (·.1))) (kOf (row.map (·.1)))
  rw [List.length_map] at h1
  unfold nestStep
  simp only [List.length_append, List.length_take, List.length_drop, List.length_singleton]
  omega
theorem kOf_drop (ws : List Int) (k : Nat) (h : k + 2 < ws.length) : kOf (ws.drop k) = if ws.getD (k + 2) 0 < ws.getD k 0 then kOf (ws.drop (k + 1)) + 1 else 0 := by
  have e : ws.drop k = ws.getD k 0 :: ws.getD (k + 1) 0 :: ws.getD (k + 2) 0 :: ws.drop (k + 3) := by
    rw [List.drop_eq_getElem_cons (by omega), List.drop_eq_getElem_cons (by omega), List.drop_eq_getElem_cons (by omega)]
    simp [List.getD_eq_getElem?_getD, List.getElem?_eq_getElem (show k < ws.length by omega), List.getElem?_eq_getElem (show k + 1 < ws.length by omega), List.getElem?_eq_getElem (show k + 2 < ws.length by omega)]
  have e2 : ws.drop (k + 1) = ws.getD (k + 1) 0 :: ws.getD (k + 2) 0 :: ws.drop (k + 3) := by
    rw [List.drop_eq_getElem_cons (by omega), List.drop_eq_getElem_cons (by omega)]
    simp [List.getD_eq_getElem?_getD, List.getElem?_eq_getElem (show k + 1 < ws.length by omega), List.getElem?_eq_getElem (show k + 2 < ws.length by omega)]
  rw [e, e2]
  rfl
theorem kOf_end (ws : List Int) (k : Nat) (h : ¬ k + 2 < ws.length) : kOf (ws.drop k) = 0 := by
  have hl : (ws.drop k).length ≤ 2 := by rw [List.length_drop]; omega
  match ws.drop k, hl with
  | [], _ => rfl
  | [_], _ => rfl
  | [_, _], _ => rfl
theorem pilv_get {P : Addr → Obj → Prop} {vs : List Value} {row : List (Int × List Nat)} (x : PilV P vs row) : ∀ {i : Nat}, i < row.length → ∃ T t1 t2, vs[i]? = some (.ref T) ∧ P T (tupObj [.int ((row.map (·.1)).getD i 0) t1, .str ⟨(row.getD i (0, [])).2.toArray⟩ t2]) ∧ True := by
  induction x with
  | nil => intro i h; simp at h
  | @cons T d x t1 t2 vs ps hT _ ih =>
    intro i h
    cases i with
    | zero => exact ⟨T, t1, t2, rfl, by simpa using hT, trivial⟩
    | succ i =>
      obtain ⟨T', a, b, c, d, _⟩ := ih (i := i) (by simpa using h)
      exact ⟨T', a, b, by simpa using c, by simpa using d, trivial⟩
theorem pilv_append {P : Addr → Obj → Prop} {vs ws : List Value} {r q : List (Int × List Nat)} (x : PilV P vs r) (y : PilV P ws q) : PilV P (vs ++ ws) (r ++ q) := by
  induction x with
  | nil => exact y
  | cons a _ ih => exact .cons a ih
theorem pilv_take {P : Addr → Obj → Prop} {vs : List Value} {r : List (Int × List Nat)} (x : PilV P vs r) : ∀ n, PilV P (vs.take n) (r.take n) := by
  induction x with
  | nil => intro n; simp; exact .nil
  | cons a _ ih =>
    intro n
    cases n with
    | zero => exact .nil
    | succ n => exact .cons a (ih n)
theorem pilv_drop {P : Addr → Obj → Prop} {vs : List Value} {r : List (Int × List Nat)} (x : PilV P vs r) : ∀ n, PilV P (vs.drop n) (r.drop n) := by
  induction x with
  | nil => intro n; simp; exact .nil
  | cons a b ih =>
    intro n
    cases n with
    | zero => exact .cons a b
    | succ n => exact ih n
section
variable {prog : Program} {w : World} {A : Around} {E : Value → Shared → Prop} {s : Shared} {h₀ : Heap} {L R : Addr} {m : Str → Option Value} {news : List (Addr × Obj)} {Q : Value → Shared → Prop} {vs : List Value} {n : Nat} {value slice : Expr} {vl vu : Value} {lo hi : Option Int}
theorem slice_led (F : Fr h₀ L s.heap m) (N : News h₀ L s.heap news) (hR : (R, W.listOf (List.toArray vs) n) ∈ news) (hz : vs.length ≤ 1000) (pl : IsPart vl lo) (pu : IsPart vu hi)
    (h : ∀ h' c, (∀ p ∈ news, p.1 ≠ c) → Fr h₀ L h' m → News h₀ L h' ((c, W.listOf (List.toArray (slicePick vs.toArray lo hi none).toList) 0) :: news) → Q (.ref c) { s with heap := h' })
    (hs : subscripted slice false (.ref R) (.ref s.heap.objs.size) = operate [.ref s.heap.objs.size, .ref R] (getItem (.ref R) (.ref s.heap.objs.size)) := by with_unfolding_all rfl)
    (ht : ∀ r, letTemporaryGo value (.ref R) r = pure () := by intro _; with_unfolding_all rfl) :
    wpAny (model prog w) A (subscriptTail value slice (.ref R) (.ref s.heap.objs.size)) Q E { s with heap := s.heap.push { cls := .type "slice", data := .fields #[vl, vu, .none] } } := by
  refine slice_listK ⟨_, (N _ hR).1, rfl, _, rfl⟩ pl pu ?_ hs ht (by simp; exact Nat.le_trans hz (by decide))
  have F1 := Fr.push F { cls := .type "slice", data := .fields #[vl, vu, .none] }
  have N1 := news_keep N fun b o e => Heap.get?_push_of_some { cls := .type "slice", data := .fields #[vl, vu, .none] } e
  have F2 := Fr.push F1 { cls := .type "list", data := .seq (slicePick vs.toArray lo hi none) }
  have N2 := News.push F1 N1 { cls := .type "list", data := .seq (slicePick vs.toArray lo hi none) }
  rw [Heap.size_push] at N2
  refine h _ _ (fun p hp => Nat.ne_of_lt (Nat.lt_succ_of_lt (Heap.lt_size (N p hp).1))) F2 ?_
  rw [Array.toArray_toList]
  exact N2
end
inductive JR (hp : Heap) (L' : Addr) (g : Array GenState) (d : Drawn) (os : OsState) (ps : List Paper) (n : Nat) (s' : Shared) : Prop
  | mk (h : Heap) (tk : Nat) (R : Addr) (vs : List Value) (nn : Nat) (ts : List (Addr × Obj)) (row : List (Int × List Nat)) (m2 : Str → Option Value) (_ : s' = ⟨h, g, d, tk, os⟩) (_ : Fr hp L' h m2) (_ : m2 (Str.ofString "row") = some (.ref R)) (_ : News hp L' h ((R, W.listOf (List.toArray vs) nn) :: ts)) (_ : (∀ p ∈ ts, p.1 ≠ R)) (_ : PilV (fun a o => (a, o) ∈ ts) vs row) (_ : n = row.length) (_ : 1 ≤ row.length) (_ : row.length ≤ 5) (_ : nestN comb [] row.length row = nestN comb [] ps.length (ps.map leafRow)) (_ : nestOk row.length row) : JR hp L' g d os ps n s'
inductive JK0 (hp : Heap) (L' : Addr) (g : Array GenState) (d : Drawn) (os : OsState) (R : Addr) (vs : List Value) (nn : Nat) (ts : List (Addr × Obj)) (ws : List Int) (f : Flow) (s' : Shared) : Prop
  | mk (_ : f = Flow.next) (h : Heap) (tk : Nat) (kt : Tok) (m3 : Str → Option Value) (_ : s' = ⟨h, g, d, tk, os⟩) (_ : Fr hp L' h m3) (_ : m3 (Str.ofString "row") = some (.ref R)) (_ : m3 (Str.ofString "k") = some (.int (kOf ws : Int) kt)) (_ : News hp L' h ((R, W.listOf (List.toArray vs) nn) :: ts)) : JK0 hp L' g d os R vs nn ts ws f s'
inductive JK (hp : Heap) (L' : Addr) (g : Array GenState) (d : Drawn) (os : OsState) (R : Addr) (vs : List Value) (nn : Nat) (ts : List (Addr × Obj)) (ws : List Int) (row : List (Int × List Nat)) (n : Nat) (s' : Shared) : Prop
  | mk (h : Heap) (tk kk : Nat) (kt : Tok) (m3 : Str → Option Value) (_ : s' = ⟨h, g, d, tk, os⟩) (_ : Fr hp L' h m3) (_ : m3 (Str.ofString "row") = some (.ref R)) (_ : m3 (Str.ofString "k") = some (.int (kk : Int) kt)) (_ : News hp L' h ((R, W.listOf (List.toArray vs) nn) :: ts)) (_ : kk + kOf (ws.drop kk) = kOf ws) (_ : n = row.length - kk) : JK hp L' g d os R vs nn ts ws row n s'
inductive JN0 (hp : Heap) (L' : Addr) (g : Array GenState) (d : Drawn) (os : OsState) (R : Addr) (vs : List Value) (nn : Nat) (ts : List (Addr × Obj)) (ws : List Int) (y1 y2 : List Nat) (f : Flow) (s' : Shared) : Prop
  | mk (_ : f = Flow.next) (h : Heap) (tk : Nat) (jt kt ct nt : Tok) (m3 : Str → Option Value) (_ : s' = ⟨h, g, d, tk, os⟩) (_ : Fr hp L' h m3) (_ : m3 (Str.ofString "row") = some (.ref R)) (_ : m3 (Str.ofString "k") = some (.int (kOf ws : Int) kt)) (_ : m3 (Str.ofString "j") = some (.int (jOf ws (cOf ws) (kOf ws) : Int) jt)) (_ : m3 (Str.ofString "count") = some (.int (cOf ws) ct)) (_ : m3 (Str.ofString "nest") = some (.str ⟨(comb y1 y2).toArray⟩ nt)) (_ : News hp L' h ((R, W.listOf (List.toArray vs) nn) :: ts)) : JN0 hp L' g d os R vs nn ts ws y1 y2 f s'
inductive JJ (hp : Heap) (L' : Addr) (g : Array GenState) (d : Drawn) (os : OsState) (R : Addr) (vs : List Value) (nn : Nat) (ts : List (Addr × Obj)) (ws : List Int) (y1 y2 : List Nat) (n : Nat) (s' : Shared) : Prop
  | mk (h : Heap) (tk jj : Nat) (jt kt ct nt : Tok) (m3 : Str → Option Value) (_ : s' = ⟨h, g, d, tk, os⟩) (_ : Fr hp L' h m3) (_ : m3 (Str.ofString "row") = some (.ref R)) (_ : m3 (Str.ofString "k") = some (.int (kOf ws : Int) kt)) (_ : m3 (Str.ofString "j") = some (.int (jj : Int) jt)) (_ : m3 (Str.ofString "count") = some (.int (cOf ws) ct)) (_ : m3 (Str.ofString "nest") = some (.str ⟨(comb y1 y2).toArray⟩ nt)) (_ : News hp L' h ((R, W.listOf (List.toArray vs) nn) :: ts)) (_ : jOf ws (cOf ws) jj = jOf ws (cOf ws) (kOf ws)) (_ : jj ≤ kOf ws) (_ : n = jj) : JJ hp L' g d os R vs nn ts ws y1 y2 n s'
section
variable {w : World} {A : Around} {s : Shared} {Q E : Value → Shared → Prop}
theorem con_nest {a : Addr} {B : Nat} {ps : List Paper} (P : Pl w A 2 16 s.heap) (hP : PapersAt s.heap a B ps) (hps : ps.length ≤ 5) (hne : ps ≠ []) (hsz : ∀ p ∈ ps, p.signs.length ≤ 10 ∧ p.cover.length ≤ 10)
    (hok : nestOk ps.length (ps.map leafRow))
    (hret : ∀ h' t' tk', (∀ b o, s.heap.get? b = some o → h'.get? b = some o) → Q (.str ⟨((nestN comb [] ps.length (ps.map leafRow)).getD 0 (0, [])).2.toArray⟩ t') ⟨h', s.gens, s.drawn, tk', s.os⟩) :
    wpAny (model PySem.Challenge.rw_wb0031_01.row.prog w) A (call (.ref 92) [.ref a]) Q E s := by
  obtain ⟨hp, g, d, tk0, os⟩ := s
  have hh : A.handled = none := P.hnd
  refine wpAny_call ?_
  refine' enterP (binds := [(Str.ofString "papers", .ref a)]) P ?k6 ?k7 ?k9 ?kB ?_ ?c2 ?c3 ?c4 ?c5
  walk_at "my entered"
  intro mean mg mb base outer L' h₁ F1 G1
  dsimp only at F1 G1 hret hP
  have B1 := G1.B
  have X := G1.X
  have T : Top hd.view_39 (looseW hd.view_39 []) mean mg mb _ := G1.T
  have hun := P.un
  have hdp := P.dp
  (try dsimp only at B1 X T)
  walk_at "my hop"
  refine assign_comp_papers (h₀ := hp) (L := L') (fun p => (p.signs.length : Int)) leafText rfl rfl rfl (by decide) rfl (by decide) rfl rfl rfl rfl rfl hh F1 hP hps ?_ ?_ ?_
  · intro Q' hQ' E'
    have N1 : News hp L' h₁ [] := News.nil
    walk_at "my steps"
    exact hQ'
  · intro p t1 t2 t3 C s₂ m' E' hpm F2 hns
    obtain ⟨hs1, hs2⟩ := hsz p hpm
    have N2 : News hp L' s₂.heap [] := News.nil
    obtain ⟨m2, hns, q1, q2, q3⟩ : ∃ m2, s₂.heap.Ns _ m2 ∧ m2 (Str.ofString "name") = some (.str ⟨#[p.nm]⟩ t1) ∧ m2 (Str.ofString "signs") = some (.str ⟨p.signs.toArray⟩ t2) ∧ m2 (Str.ofString "cover") = some (.str ⟨p.cover.toArray⟩ t3) := ⟨_, hns, rfl, rfl, rfl⟩
    have hl1 : (⟨p.signs.toArray⟩ : Str).length ≤ 10 := by simpa [Str.length] using hs1
    have hl2 : (⟨p.cover.toArray⟩ : Str).length ≤ 10 := by simpa [Str.length] using hs2
    have hl3 : (⟨#[p.nm]⟩ : Str).length = 1 := rfl
    refine wpAny_Tuple_spliced ?_
    walk_at "my steps"
    rename_i tq _ _
    refine ⟨Nat.le_trans (show _ ≤ 2 from Nat.le_refl _) (by decide), _, _, _, s₂.toks + 1, tq, rfl, rfl, fun b o e => Heap.get?_push_of_some _ e, ?_, ?_⟩
    · cases q : s₂.heap.get? s₂.heap.objs.size with
      | none => rfl
      | some o => exact absurd (Heap.lt_size q) (Nat.lt_irrefl _)
    · have e : (⟨#[p.nm]⟩ : Str) ++ Str.ofString "\"" ++ ⟨p.signs.toArray⟩ ++ ⟨p.cover.toArray⟩ ++ Str.ofString "\"" = ⟨(leafText p).toArray⟩ := str_ext (by simp [Str.cps_append, leafText]; rfl)
      have e2 : (((⟨p.signs.toArray⟩ : Str).length : Nat) : Int) = (p.signs.length : Int) := by simp [Str.length]
      rw [← e, ← e2]
      exact Heap.get?_push_size _ rfl
  · intro D h' tk n ts vs F2 N2 hts hpv
    clear F1
    (try dsimp only)
    have F3 : Fr hp L' h' (fun z => if z = Str.ofString "row" then some (.ref D) else if z = Str.ofString "papers" then some (.ref a) else none) := by
      have e : (fun z => if z = Str.ofString "row" then some (Value.ref D) else List.lookup z [(Str.ofString "papers", Value.ref a)].reverse) = (fun z => if z = Str.ofString "row" then some (.ref D) else if z = Str.ofString "papers" then some (.ref a) else none) := by
        funext z
        by_cases h1 : z = Str.ofString "papers"
        · subst h1; rfl
        · simp [List.lookup, h1, beq_eq_false_iff_ne.mpr h1]
      exact e ▸ F2
    clear F2
    walk_at "my hop"
    refine while_gen (JR hp L' g d os ps) ps.length ?_ (fun n s' hI Qb Qe Eb1 Eb2 Eb3 hQb hQk hQr hQe => ?_)
    · refine ⟨_, _, D, vs, _, ts, ps.map leafRow, _, rfl, F3, rfl, N2, hts, hpv, by simp, ?_, by simpa using hps, by simp, by simpa using hok⟩
      rw [List.length_map]; exact List.length_pos_iff.mpr hne
    clear F3 N2 hpv hts
    obtain ⟨h, tk, R, vs, nn, ts, row, m2, rfl, F4, e1, N4, hts, hpv, rfl, hr1, hr5, hgo, hok2⟩ := hI
    have F5 := fr_norm1 (x1 := Str.ofString "row") F4 e1
    clear F4
    have hvl : vs.length = row.length := hpv.length
    have hR := N4 _ (.head _)
    have hRL : h.IsList R vs.toArray := ⟨_, hR.1, rfl, nn, rfl⟩
    have hsz5 : ((List.toArray vs).size : Int) < 2 ^ 63 := by simp; omega
    walk_at "my steps"
    refine len_list hRL hsz5 ?_
    walk_at "my steps"
    by_cases hr2 : 1 < row.length
    rotate_left
    · rw [if_neg (by simp; omega)]
      walk_at "my hop"
      refine hQe ?_
      walk_at "my steps"
      obtain ⟨T, c1, c2, hvT, hTm, _⟩ := pilv_get hpv (i := 0) (by omega)
      refine item_list hRL (by decide) (by decide) (x := .ref T) (by simpa using hvT) ?_
      walk_at "my steps"
      refine item_pair1 (N4 _ (.tail _ hTm)).1 ?_
      have h1 : row.length = 1 := by omega
      rw [h1, nestN, if_neg hr2] at hgo
      rw [← hgo] at hret
      walk_at "my hop"
      exact hret _ _ _ F5.keep
    · rw [if_pos (by simp; omega)]
      walk_at "my steps"
      rename Fr _ _ _ _ => F6
      rename News _ _ _ _ => N6
      (try clear F5); (try clear N4); (try clear hRL); (try clear hR)
      obtain ⟨ws, hws⟩ : ∃ ws, ws = row.map (·.1) := ⟨_, rfl⟩
      have hwl : ws.length = row.length := by rw [hws, List.length_map]
      have hkb := kOf_lt ws (by omega)
      refine wpAny_mono (Q := JK0 hp L' g d os R vs nn ts ws) ?_ (fun f s' hm => ?_) fun _ _ x => x
      · refine while_gen (JK hp L' g d os R vs nn ts ws row) row.length ?_ (fun n s' hI Qb Qe Eb1 Eb2 Eb3 hQb hQk hQr hQe => ?_)
        · exact ⟨_, _, 0, _, _, rfl, F6, rfl, rfl, N6, by simp, rfl⟩
        clear F6 N6
        obtain ⟨h, tk, kk, kt, m3, rfl, F7, e1, e2, N7, hkk, rfl⟩ := hI
        have F8 := fr_norm2 (x1 := Str.ofString "row") (x2 := Str.ofString "k") F7 e1 e2
        clear F7
        have hRL : h.IsList R vs.toArray := ⟨_, (N7 _ (.head _)).1, rfl, nn, rfl⟩
        have hkk5 : kk + 1 < row.length := by omega
        walk_at "my steps"
        refine len_list hRL hsz5 ?_
        walk_at "my steps"
        by_cases hk2 : kk + 2 < row.length
        rotate_left
        · rw [if_neg (by simp; omega)]
          rw [if_neg (by simp)]
          walk_at "my hop"
          (try dsimp only)
          rw [kOf_end ws kk (by omega)] at hkk
          refine hQe ?_
          exact ⟨rfl, _, _, _, _, rfl, F8, rfl, by rw [← hkk]; rfl, N7⟩
        · rw [if_pos (by simp; omega)]
          obtain ⟨T1, c1, c2, hvT1, hTm1, _⟩ := pilv_get hpv (i := kk) (by omega)
          obtain ⟨T2, c3, c4, hvT2, hTm2, _⟩ := pilv_get hpv (i := kk + 2) hk2
          rw [← hws] at hTm1 hTm2
          walk_at "my steps"
          refine item_list hRL (by omega) (by omega) (x := .ref T1) (by simpa using hvT1) ?_
          walk_at "my steps"
          refine item_pair0 (N7 _ (.tail _ hTm1)).1 ?_
          walk_at "my steps"
          refine item_list hRL (by omega) (by omega) (x := .ref T2) (by rw [show ((kk : Int) + 2).toNat = kk + 2 by omega]; simpa using hvT2) ?_
          walk_at "my steps"
          refine item_pair0 (N7 _ (.tail _ hTm2)).1 ?_
          walk_at "my steps"
          rw [kOf_drop ws kk (by omega)] at hkk
          by_cases hlt : ws.getD (kk + 2) 0 < ws.getD kk 0
          · rw [if_pos hlt] at hkk
            rw [if_pos (by simpa using hlt)]
            walk_at "my steps"
            rw [if_pos rfl]
            walk_at "my steps"
            rename Fr _ _ _ _ => F9
            rename News _ _ _ _ => N9
            exact hQb (by omega) ⟨_, _, kk + 1, _, _, rfl, F9, rfl, rfl, N9, by omega, rfl⟩
          · rw [if_neg hlt] at hkk
            rw [if_neg (by simpa using hlt)]
            walk_at "my hop"
            (try refine wpAny_execs_nil ?_)
            refine hQe ?_
            exact ⟨rfl, _, _, _, _, rfl, F8, rfl, by rw [← hkk]; rfl, N7⟩
      · obtain ⟨rfl, h, tk, kt, m3, rfl, F7, e1, e2, N7⟩ := hm
        have F8 := fr_norm2 (x1 := Str.ofString "row") (x2 := Str.ofString "k") F7 e1 e2
        clear F7
        (try dsimp only)
        have hRL : h.IsList R vs.toArray := ⟨_, (N7 _ (.head _)).1, rfl, nn, rfl⟩
        obtain ⟨T1, c1, c2, hvT1, hTm1, _⟩ := pilv_get hpv (i := kOf ws) (by omega)
        obtain ⟨T2, c3, c4, hvT2, hTm2, _⟩ := pilv_get hpv (i := kOf ws + 1) (by omega)
        rw [← hws] at hTm1 hTm2
        walk_at "my steps"
        refine item_list hRL (by omega) (by omega) (x := .ref T1) (by simpa using hvT1) ?_
        walk_at "my steps"
        refine item_pair0 (N7 _ (.tail _ hTm1)).1 ?_
        walk_at "my steps"
        refine item_list hRL (by omega) (by omega) (x := .ref T2) (by rw [show ((kOf ws : Int) + 1).toNat = kOf ws + 1 by omega]; simpa using hvT2) ?_
        walk_at "my steps"
        refine item_pair0 (N7 _ (.tail _ hTm2)).1 ?_
        walk_at "my steps"
        rename Fr _ _ _ _ => F9
        rename News _ _ _ _ => N9
        (try clear F8); (try clear N7); (try clear hRL)
        have hRL := IsListOf N9
        refine item_list hRL (by omega) (by omega) (x := .ref T1) (by simpa using hvT1) ?_
        walk_at "my steps"
        refine item_pair1 (N9 _ (.tail _ hTm1)).1 ?_
        walk_at "my steps"
        refine item_list hRL (by omega) (by omega) (x := .ref T2) (by rw [show ((kOf ws : Int) + 1).toNat = kOf ws + 1 by omega]; simpa using hvT2) ?_
        walk_at "my steps"
        refine item_pair1 (N9 _ (.tail _ hTm2)).1 ?_
        generalize hx1 : (row.getD (kOf ws) (0, [])).2 = y1 at *
        generalize hx2 : (row.getD (kOf ws + 1) (0, [])).2 = y2 at *
        have hlen : (y1 ++ y2).length ≤ 10000 := by
          obtain ⟨n', hn'⟩ : ∃ n', row.length = n' + 1 := ⟨row.length - 1, by omega⟩
          rw [hn', nestOk, if_pos hr2, ← hws, hx1, hx2] at hok2
          exact hok2.1
        have hlx1 : (⟨y1.toArray⟩ : Str).length ≤ 10000 := by
          rw [List.length_append] at hlen
          simp [Str.length]; omega
        have hlx2 : (⟨y2.toArray⟩ : Str).length ≤ 10000 := by
          rw [List.length_append] at hlen
          simp [Str.length]; omega
        (try dsimp only)
        refine wpAny_with_toks (n := 1) (by first | exact Nat.le_add_left 1 _ | (dsimp only; omega)) ?_
        walk1
        intro hk9
        walk_at "my steps"
        refine ⟨X.keeps F9.keep, ?_⟩
        have hcat : (⟨y1.toArray⟩ : Str) ++ ⟨y2.toArray⟩ = ⟨(y1 ++ y2).toArray⟩ := str_ext (by simp [Str.cps_append])
        rw [hcat]
        refine con_cdata w (G1.at F9 rfl hh (by omega) (by omega) hk9) ?_ fun h12 t12 tk12 k12 htk12 => ?_
        · have : (⟨(y1 ++ y2).toArray⟩ : Str).length = (y1 ++ y2).length := by simp [Str.length]
          omega
        (try dsimp only at k12 ⊢)
        have F12 := fr_keep F9 k12
        have N12 := news_keep N9 k12
        clear F9 N9 hRL
        have hlen2 : (esc tblC ⟨(y1 ++ y2).toArray⟩).length ≤ 60000 := by
          have h1 := esc_len tblC (by decide) ⟨(y1 ++ y2).toArray⟩
          have h2 : (⟨(y1 ++ y2).toArray⟩ : Str).length = (y1 ++ y2).length := by simp [Str.length]
          omega
        walk_at "my steps"
        rename Fr _ _ _ _ => F13
        rename News _ _ _ _ => N13
        have hnest : Str.ofString "(" ++ esc tblC ⟨(y1 ++ y2).toArray⟩ ++ Str.ofString ")" = ⟨(comb y1 y2).toArray⟩ := str_ext (by simp [Str.cps_append, esc, comb]; rfl)
        rw [hnest] at F13
        refine wpAny_mono (Q := JN0 hp L' g d os R vs nn ts ws y1 y2) ?_ (fun f s' hm => ?_) fun _ _ x => x
        · refine while_gen (JJ hp L' g d os R vs nn ts ws y1 y2) (kOf ws) ?_ (fun n s' hI Qb Qe Eb1 Eb2 Eb3 hQb hQk hQr hQe => ?_)
          · exact ⟨_, _, kOf ws, _, _, _, _, _, rfl, F13, rfl, rfl, rfl, rfl, rfl, N13, rfl, Nat.le_refl _, rfl⟩
          clear F13 N13
          obtain ⟨h, tk, jj, jt, kt, ct, nt, m3, rfl, F14, e1, e2, e3, e4, e5, N14, hjj, hjk, rfl⟩ := hI
          have F15 := fr_norm5 (x1 := Str.ofString "row") (x2 := Str.ofString "k") (x3 := Str.ofString "j") (x4 := Str.ofString "count") (x5 := Str.ofString "nest") F14 e1 e2 e3 e4 e5
          clear F14
          have hRL := IsListOf N14
          walk_at "my steps"
          cases n with
          | zero =>
            rw [if_neg (by simp)]
            rw [if_neg (by simp)]
            walk_at "my hop"
            (try dsimp only)
            refine hQe ?_
            exact ⟨rfl, _, _, _, _, _, _, _, rfl, F15, rfl, rfl, by rw [← hjj]; rfl, rfl, rfl, N14⟩
          | succ jj =>
            rw [if_pos (by first | (simp; done) | (simp; omega))]
            obtain ⟨T3, c5, c6, hvT3, hTm3, _⟩ := pilv_get hpv (i := jj) (by omega)
            rw [← hws] at hTm3
            walk_at "my steps"
            refine item_list hRL (by omega) (by omega) (x := .ref T3) (by rw [show (((jj + 1 : Nat) : Int) - 1).toNat = jj by omega]; simpa using hvT3) ?_
            walk_at "my steps"
            refine item_pair0 (N14 _ (.tail _ hTm3)).1 ?_
            walk_at "my steps"
            rw [jOf] at hjj
            by_cases hlt : ws.getD jj 0 < cOf ws
            · rw [if_pos hlt] at hjj
              rw [if_pos (by simpa using hlt)]
              walk_at "my steps"
              rw [if_pos rfl]
              walk_at "my steps"
              rename Fr _ _ _ _ => F16
              rename News _ _ _ _ => N16
              rw [show (((jj + 1 : Nat) : Int) - 1) = (jj : Int) by omega] at F16
              exact hQb (Nat.lt_succ_self _) ⟨_, _, jj, _, _, _, _, _, rfl, F16, rfl, rfl, rfl, rfl, rfl, N16, hjj, by omega, rfl⟩
            · rw [if_neg hlt] at hjj
              rw [if_neg (by simpa using hlt)]
              rw [if_neg (by simp)]
              walk_at "my hop"
              (try dsimp only)
              refine hQe ?_
              exact ⟨rfl, _, _, _, _, _, _, _, rfl, F15, rfl, rfl, by rw [← hjj]; rfl, rfl, rfl, N14⟩
        · obtain ⟨rfl, h, tk, jt, kt, ct, nt, m3, rfl, F14, e1, e2, e3, e4, e5, N14⟩ := hm
          have F15 := fr_norm5 (x1 := Str.ofString "row") (x2 := Str.ofString "k") (x3 := Str.ofString "j") (x4 := Str.ofString "count") (x5 := Str.ofString "nest") F14 e1 e2 e3 e4 e5
          clear F14 F13 N13
          (try dsimp only)
          have hRL := IsListOf N14
          walk_at "my steps"
          refine slice_led F15 N14 (.head _) (by omega) .none (.int ..) fun h16 c16 hc16 F16 N16 => ?_
          clear F15 N14 hRL
          walk_at "my steps"
          rename Fr _ _ _ _ => F17
          rename News _ _ _ _ => N17
          rename_i DT _ hl17 lB _ hl18
          have hjk := jOf_le ws (cOf ws) (kOf ws)
          have hkl : kOf ws + 1 < vs.length := by omega
          refine add_two F17 N17 (.tail _ (.tail _ (.head _))) (.head _) (by simp [slicePick_upto']; omega) fun h18 c18 hc18 F18 N18 => ?_
          clear F17 N17
          have hRL := (show h18.IsList R vs.toArray from ⟨_, (N18 _ (.tail _ (.tail _ (.tail _ (.tail _ (.head _)))))).1, rfl, nn, rfl⟩)
          walk_at "my steps"
          refine slice_led F18 N18 (.tail _ (.tail _ (.tail _ (.tail _ (.head _))))) (by omega) (.int ..) (.int ..) fun h19 c19 hc19 F19 N19 => ?_
          clear F18 N18 hRL
          walk_at "my steps"
          refine add_two F19 N19 (.tail _ (.head _)) (.head _) (by rw [slicePick_run _ _ _ (by simp; omega) hjk]; simp [slicePick_upto']; omega) fun h20 c20 hc20 F20 N20 => ?_
          clear F19 N19
          have hRL := (show h20.IsList R vs.toArray from ⟨_, (N20 _ (.tail _ (.tail _ (.tail _ (.tail _ (.tail _ (.tail _ (.head _)))))))).1, rfl, nn, rfl⟩)
          walk_at "my steps"
          refine slice_led F20 N20 (.tail _ (.tail _ (.tail _ (.tail _ (.tail _ (.tail _ (.head _))))))) (by omega) (.int ..) .none fun h21 c21 hc21 F21 N21 => ?_
          clear F20 N20 hRL
          walk_at "my steps"
          refine add_two F21 N21 (.tail _ (.head _)) (.head _) (by rw [slicePick_run _ _ _ (by simp; omega) hjk]; simp [slicePick_upto', show slicePick vs.toArray (some ((kOf ws : Int) + 2)) none none = (vs.drop (kOf ws + 2)).toArray from slicePick_from' vs.toArray (kOf ws + 2)]; omega) fun h22 c22 hc22 F22 N22 => ?_
          clear F21 N21
          walk_at "my steps"
          rename Fr _ _ _ _ => F23
          rename News _ _ _ _ => N23
          obtain ⟨vl, evl, N24⟩ : ∃ vl : List Value, vl = _ ∧ News hp L' _ ((c22, W.listOf (List.toArray vl) 0) :: _) := ⟨_, rfl, N23⟩
          have ets : ∀ q ∈ ts, q ∈ (DT, ({ cls := .type "tuple", data := .seq #[.int (cOf ws) ct, .str ⟨(comb y1 y2).toArray⟩ nt] } : Obj)) :: (c16, W.listOf (List.toArray (slicePick vs.toArray none (some (jOf ws (cOf ws) (kOf ws) : Int)) none).toList) 0) :: (R, W.listOf (List.toArray vs) nn) :: ts := fun q hq => .tail _ (.tail _ (.tail _ hq))
          have eK : slicePick vs.toArray (some ((kOf ws : Int) + 2)) none none = (vs.drop (kOf ws + 2)).toArray := slicePick_from' vs.toArray (kOf ws + 2)
          have eJ := slicePick_upto' vs.toArray (jOf ws (cOf ws) (kOf ws))
          have eM := slicePick_run vs.toArray (jOf ws (cOf ws) (kOf ws)) (kOf ws) (by simp; omega) hjk
          obtain ⟨n', hn'⟩ : ∃ n', row.length = n' + 1 := ⟨row.length - 1, by omega⟩
          have hsl := nestStep_len comb [] row (by omega)
          rw [hn', nestN, if_pos (by omega)] at hgo
          rw [hn', nestOk, if_pos (by omega)] at hok2
          have hsl' : (nestStep comb [] row).length = n' := by omega
          refine hQb (m := n') (by omega) ⟨_, _, c22, vl, 0, (DT, tupObj [.int (cOf ws) ct, .str ⟨(comb y1 y2).toArray⟩ nt]) :: ts, nestStep comb [] row, _, rfl, F23, rfl, fun q hq => ?_, fun q hq => ?_, ?_, hsl'.symm, by omega, by omega, by rw [hsl']; exact hgo, by rw [hsl']; exact hok2.2⟩
          · rcases List.mem_cons.mp hq with rfl | hq
            · exact N24 _ (.head _)
            rcases List.mem_cons.mp hq with rfl | hq
            · exact N23 _ (.tail _ (.tail _ (.tail _ (.tail _ (.tail _ (.tail _ (.head _)))))))
            · exact N23 _ (.tail _ (.tail _ (.tail _ (.tail _ (.tail _ (.tail _ (ets q hq)))))))
          · rcases List.mem_cons.mp hq with rfl | hq
            · exact hc22 _ (.tail _ (.tail _ (.tail _ (.tail _ (.tail _ (.head _))))))
            · exact hc22 _ (.tail _ (.tail _ (.tail _ (.tail _ (.tail _ (ets q hq))))))
          · rw [evl, eK, eJ, eM]
            have hpv2 : PilV (fun a o => (a, o) ∈ (DT, tupObj [.int (cOf ws) ct, .str ⟨(comb y1 y2).toArray⟩ nt]) :: ts) vs row := hpv.mono fun a o h => List.Mem.tail _ h
            unfold nestStep
            rw [← hws, hx1, hx2]
            refine pilv_append (pilv_append (pilv_append ?_ (.cons (t1 := ct) (t2 := nt) (.head _) .nil)) ?_) ?_
            · simpa using pilv_take hpv2 _
            · simpa using pilv_take (pilv_drop hpv2 _) _
            · simpa using pilv_drop hpv2 _
end
end

section
open PySem
set_option autoImplicit false
set_option maxRecDepth 100000
set_option maxHeartbeats 2000000
inductive Tree where
  | nil
  | leaf (k : Nat)
  | node (a b : Tree)
namespace Tree
noncomputable def word : Tree → List Nat
  | nil => []
  | leaf k => [97 + k]
  | node a b => 40 :: (word a ++ word b) ++ [41]
noncomputable def leaves : Tree → Nat → List (Nat × Nat)
  | nil, _ => []
  | leaf k, d => [(k, d)]
  | node a b, d => leaves a (d + 1) ++ leaves b (d + 1)
noncomputable def nodes : Tree → Nat
  | node a b => nodes a + nodes b + 1
  | _ => 0
noncomputable def full : Tree → Bool
  | nil => false
  | leaf _ => true
  | node a b => full a && full b
noncomputable def lenB : Tree → Nat → Nat
  | nil, _ => 0
  | leaf _, d => 11 + 16 * d
  | node a b, d => lenB a (d + 1) + lenB b (d + 1) + 2
noncomputable def lenA : Tree → Nat → Nat
  | nil, _ => 0
  | leaf _, d => 42 + 16 * d
  | node a b, d => lenA a (d + 1) + lenA b (d + 1) + 2
end Tree
open Tree
noncomputable def nestOkT : Nat → List (Int × Tree) → Bool
  | 0, _ => true
  | n + 1, r => if 1 < r.length then decide (lenB (r.getD (kOf (r.map (·.1))) (0, nil)).2 0 + lenB (r.getD (kOf (r.map (·.1)) + 1) (0, nil)).2 0 ≤ 10000) && nestOkT n (nestStep node nil r) else true
noncomputable def pushT : List (Int × Tree) → Int → Tree → List (Int × Tree)
  | [], d, t => [(d, t)]
  | (d', t') :: r, d, t => if d' = d then pushT r (d - 1) (node t' t) else (d, t) :: (d', t') :: r
noncomputable def pushOkT : List (Int × Tree) → Int → Tree → Bool
  | [], _, _ => true
  | (d', t') :: r, d, t => if d' = d then decide (lenB t' 0 + lenB t 0 ≤ 10000) && pushOkT r (d - 1) (node t' t) else true
noncomputable def pileT (w : List Nat) : List Nat → List (Int × Tree) → List (Int × Tree)
  | [], st => st
  | k :: r, st => pileT w r (pushT st (depthAt w (97 + k)) (leaf k))
noncomputable def pileOkT (w : List Nat) : List Nat → List (Int × Tree) → Bool
  | [], _ => true
  | k :: r, st => pushOkT st (depthAt w (97 + k)) (leaf k) && pileOkT w r (pushT st (depthAt w (97 + k)) (leaf k))
noncomputable def row0 (ws : List Nat) : List (Int × Tree) := (List.range ws.length).map fun k => ((ws.getD k 0 : Nat), leaf k)
noncomputable def tree1 (ws : List Nat) : Tree := ((nestN node nil ws.length (row0 ws)).getD 0 (0, nil)).2
noncomputable def costOf (ws : List Nat) (l : List (Nat × Nat)) : Nat := (l.map fun e => ws.getD e.1 0 * e.2).sum
noncomputable def okTree (n : Nat) (t : Tree) : Bool := full t && decide (lenB t 0 ≤ 1000) && decide (lenA t 0 ≤ 1000) && decide (t.word.length ≤ 100) && (t.leaves 0).all (fun e => decide (1 ≤ e.2) && decide (e.1 < n))
noncomputable def numLen (ws : List Nat) (t : Tree) : Nat := 2 * t.nodes + ((t.leaves 0).map fun e => 5 + ws.getD e.1 0 * (1 + e.2)).sum
/-- a tree laid bare before it is used -/
noncomputable def forceT : Tree → (Tree → Bool) → Bool
  | .nil, k => k .nil
  | .leaf i, k => k (.leaf i)
  | .node a b, k => forceT a fun a => forceT b fun b => k (.node a b)
theorem forceT_eq : ∀ (t : Tree) (k : Tree → Bool), forceT t k = k t
  | .nil, _ => rfl
  | .leaf _, _ => rfl
  | .node a b, k => by rw [forceT, forceT_eq a, forceT_eq b]
noncomputable def chk (ws : List Nat) : Bool :=
  nestOkT ws.length (row0 ws) && forceT (tree1 ws) fun t1 =>
  okTree ws.length t1 && pileOkT t1.word (List.range ws.length) [] && (costOf ws (t1.leaves 0) == least ws.length ws) && decide (numLen ws t1 ≤ 127) &&
  (match pileT t1.word (List.range ws.length) [] with
    | [(d, t2)] => decide (d = 0) && forceT t2 fun t2 => okTree ws.length t2 && ((t2.leaves 0).map (·.1) == List.range ws.length) && (t1.leaves 0).isPerm (t2.leaves 0) && decide (t1.nodes = t2.nodes)
    | _ => false)
noncomputable def allW : Nat → List (List Nat)
  | 0 => [[]]
  | n + 1 => (allW n).flatMap fun l => [1 :: l, 2 :: l, 3 :: l, 4 :: l]
set_option maxHeartbeats 20000000 in
theorem chk4 : (allW 4).all chk = true := by decide +kernel
set_option maxHeartbeats 20000000 in
theorem chk5_11 : (allW 3).all (fun l => chk (1 :: 1 :: l)) = true := by decide +kernel
set_option maxHeartbeats 20000000 in
theorem chk5_12 : (allW 3).all (fun l => chk (1 :: 2 :: l)) = true := by decide +kernel
set_option maxHeartbeats 20000000 in
theorem chk5_13 : (allW 3).all (fun l => chk (1 :: 3 :: l)) = true := by decide +kernel
set_option maxHeartbeats 20000000 in
theorem chk5_14 : (allW 3).all (fun l => chk (1 :: 4 :: l)) = true := by decide +kernel
set_option maxHeartbeats 20000000 in
theorem chk5_21 : (allW 3).all (fun l => chk (2 :: 1 :: l)) = true := by decide +kernel
set_option maxHeartbeats 20000000 in
theorem chk5_22 : (allW 3).all (fun l => chk (2 :: 2 :: l)) = true := by decide +kernel
set_option maxHeartbeats 20000000 in
theorem chk5_23 : (allW 3).all (fun l => chk (2 :: 3 :: l)) = true := by decide +kernel
set_option maxHeartbeats 20000000 in
theorem chk5_24 : (allW 3).all (fun l => chk (2 :: 4 :: l)) = true := by decide +kernel
set_option maxHeartbeats 20000000 in
theorem chk5_31 : (allW 3).all (fun l => chk (3 :: 1 :: l)) = true := by decide +kernel
set_option maxHeartbeats 20000000 in
theorem chk5_32 : (allW 3).all (fun l => chk (3 :: 2 :: l)) = true := by decide +kernel
set_option maxHeartbeats 20000000 in
theorem chk5_33 : (allW 3).all (fun l => chk (3 :: 3 :: l)) = true := by decide +kernel
set_option maxHeartbeats 20000000 in
theorem chk5_34 : (allW 3).all (fun l => chk (3 :: 4 :: l)) = true := by decide +kernel
set_option maxHeartbeats 20000000 in
theorem chk5_41 : (allW 3).all (fun l => chk (4 :: 1 :: l)) = true := by decide +kernel
set_option maxHeartbeats 20000000 in
theorem chk5_42 : (allW 3).all (fun l => chk (4 :: 2 :: l)) = true := by decide +kernel
set_option maxHeartbeats 20000000 in
theorem chk5_43 : (allW 3).all (fun l => chk (4 :: 3 :: l)) = true := by decide +kernel
set_option maxHeartbeats 20000000 in
theorem chk5_44 : (allW 3).all (fun l => chk (4 :: 4 :: l)) = true := by decide +kernel
theorem chk5 : (allW 5).all chk = true := by
  rw [List.all_eq_true]
  intro ws h
  obtain ⟨l1, h1, h⟩ := List.mem_flatMap.mp h
  obtain ⟨l, hl, h1⟩ := List.mem_flatMap.mp h1
  simp only [List.mem_cons, List.not_mem_nil, or_false] at h h1
  rcases h with rfl | rfl | rfl | rfl <;> rcases h1 with rfl | rfl | rfl | rfl
  · exact List.all_eq_true.mp chk5_11 l hl
  · exact List.all_eq_true.mp chk5_12 l hl
  · exact List.all_eq_true.mp chk5_13 l hl
  · exact List.all_eq_true.mp chk5_14 l hl
  · exact List.all_eq_true.mp chk5_21 l hl
  · exact List.all_eq_true.mp chk5_22 l hl
  · exact List.all_eq_true.mp chk5_23 l hl
  · exact List.all_eq_true.mp chk5_24 l hl
  · exact List.all_eq_true.mp chk5_31 l hl
  · exact List.all_eq_true.mp chk5_32 l hl
  · exact List.all_eq_true.mp chk5_33 l hl
  · exact List.all_eq_true.mp chk5_34 l hl
  · exact List.all_eq_true.mp chk5_41 l hl
  · exact List.all_eq_true.mp chk5_42 l hl
  · exact List.all_eq_true.mp chk5_43 l hl
  · exact List.all_eq_true.mp chk5_44 l hl
theorem allW_mem : ∀ {n : Nat} {ws : List Nat}, ws.length = n → (∀ c ∈ ws, 1 ≤ c ∧ c ≤ 4) → ws ∈ allW n
  | 0, [], _, _ => .head _
  | n + 1, c :: r, h, hc => by
    refine List.mem_flatMap.mpr ⟨r, allW_mem (by simpa using h) fun c hm => hc c (.tail _ hm), ?_⟩
    have h1 := hc c (.head _)
    have : c = 1 ∨ c = 2 ∨ c = 3 ∨ c = 4 := by omega
    rcases this with rfl | rfl | rfl | rfl <;> simp
end

section
open PySem
set_option autoImplicit false
set_option maxRecDepth 100000
set_option maxHeartbeats 2000000
structure GoodP (p : Paper) : Prop where
  nm : 97 ≤ p.nm ∧ p.nm ≤ 101
  sg : ∀ u ∈ p.signs, u = 38 ∨ u = 60 ∨ u = 62
  len : p.signs.length ≤ 4
  cov : p.cover = [40, 40] ∨ p.cover = [41, 41] ∨ p.cover = [92, 34, 40, 41] ∨ p.cover = [92, 34, 41, 40]
noncomputable def Good (P : Nat → Paper) : Tree → Prop
  | .nil => True
  | .leaf k => GoodP (P k) ∧ (P k).nm = 97 + k
  | .node a b => Good P a ∧ Good P b
noncomputable def rep (n : Nat) : List Nat := (List.replicate n [97, 109, 112, 59]).flatten
noncomputable def sgD (d u : Nat) : List Nat := if d = 0 then [u] else if u = 38 then 38 :: rep d else 38 :: rep (d - 1) ++ (if u = 60 then [108, 116, 59] else [103, 116, 59])
noncomputable def leafD (p : Paper) (d : Nat) : List Nat := p.nm :: 34 :: p.signs.flatMap (sgD d) ++ p.cover ++ [34]
noncomputable def rendD (P : Nat → Paper) : Tree → Nat → List Nat
  | .nil, _ => []
  | .leaf k, d => leafD (P k) d
  | .node a b, d => 40 :: (rendD P a (d + 1) ++ rendD P b (d + 1)) ++ [41]
noncomputable def plain : List Nat := [40, 41, 34, 92, 59, 97, 98, 99, 100, 101, 109, 112, 108, 116, 103]
structure TOk (T : Tbl) : Prop where
  t38 : T.lookup 38 = some [38, 97, 109, 112, 59]
  t60 : T.lookup 60 = some [38, 108, 116, 59]
  t62 : T.lookup 62 = some [38, 103, 116, 59]
  pl : ∀ c ∈ plain, T.lookup c = none
theorem tokC : TOk tblC := ⟨rfl, rfl, rfl, by decide⟩
theorem tokN : TOk tblN := ⟨rfl, rfl, rfl, by decide⟩
theorem escL_append (T : Tbl) (a b : List Nat) : escL T (a ++ b) = escL T a ++ escL T b := by simp [escL]
theorem escL_cons (T : Tbl) (c : Nat) (b : List Nat) : escL T (c :: b) = escBy T c ++ escL T b := by simp [escL]
theorem escL_free {T : Tbl} : ∀ {l : List Nat}, (∀ c ∈ l, T.lookup c = none) → escL T l = l
  | [], _ => rfl
  | c :: r, h => by
    rw [escL_cons, escL_free fun c hc => h c (.tail _ hc), escBy, h c (.head _)]
    rfl
theorem rep_mem {n c : Nat} (h : c ∈ rep n) : c ∈ plain := by
  obtain ⟨l, hl, hc⟩ := List.mem_flatten.mp h
  rw [List.eq_of_mem_replicate hl] at hc
  simp at hc
  rcases hc with rfl | rfl | rfl | rfl <;> decide
theorem rep_succ (n : Nat) : rep (n + 1) = 97 :: 109 :: 112 :: 59 :: rep n := by simp [rep, List.replicate_succ]
theorem escL_sg {T : Tbl} (h : TOk T) {u : Nat} (hu : u = 38 ∨ u = 60 ∨ u = 62) (d : Nat) : escL T (sgD d u) = sgD (d + 1) u := by
  have hr : ∀ n, escL T (rep n) = rep n := fun n => escL_free fun c hc => h.pl c (rep_mem hc)
  have hl : escL T [108, 116, 59] = [108, 116, 59] := escL_free fun c hc => h.pl c (by revert c; decide)
  have hg : escL T [103, 116, 59] = [103, 116, 59] := escL_free fun c hc => h.pl c (by revert c; decide)
  cases d with
  | zero =>
    rcases hu with rfl | rfl | rfl
    · simp [sgD, escL, escBy, h.t38, rep]
    · simp [sgD, escL, escBy, h.t60, rep]
    · simp [sgD, escL, escBy, h.t62, rep]
  | succ d =>
    rcases hu with rfl | rfl | rfl
    · rw [sgD, if_neg (Nat.succ_ne_zero d), if_pos rfl, escL_cons, hr, escBy, h.t38, sgD, if_neg (Nat.succ_ne_zero _), if_pos rfl, rep_succ (d + 1)]
      rfl
    · rw [sgD, if_neg (Nat.succ_ne_zero d), if_neg (by decide), if_pos rfl, List.cons_append, escL_cons, escL_append, hr, hl, escBy, h.t38, sgD, if_neg (Nat.succ_ne_zero _), if_neg (by decide), if_pos rfl, Nat.add_sub_cancel, Nat.add_sub_cancel, rep_succ d]
      rfl
    · rw [sgD, if_neg (Nat.succ_ne_zero d), if_neg (by decide), if_neg (by decide), List.cons_append, escL_cons, escL_append, hr, hg, escBy, h.t38, sgD, if_neg (Nat.succ_ne_zero _), if_neg (by decide), if_neg (by decide), Nat.add_sub_cancel, Nat.add_sub_cancel, rep_succ d]
      rfl
theorem escL_sgs {T : Tbl} (h : TOk T) (d : Nat) : ∀ {l : List Nat}, (∀ u ∈ l, u = 38 ∨ u = 60 ∨ u = 62) → escL T (l.flatMap (sgD d)) = l.flatMap (sgD (d + 1))
  | [], _ => rfl
  | u :: r, hu => by rw [List.flatMap_cons, List.flatMap_cons, escL_append, escL_sg h (hu u (.head _)), escL_sgs h d fun u hm => hu u (.tail _ hm)]
theorem nm_plain {p : Paper} (g : GoodP p) : p.nm ∈ plain := by
  have := g.nm
  have : p.nm = 97 ∨ p.nm = 98 ∨ p.nm = 99 ∨ p.nm = 100 ∨ p.nm = 101 := by omega
  rcases this with h | h | h | h | h <;> rw [h] <;> decide
theorem cov_plain {p : Paper} (g : GoodP p) : ∀ c ∈ p.cover, c ∈ plain := by
  rcases g.cov with h | h | h | h <;> rw [h] <;> decide
theorem escL_leaf {T : Tbl} (h : TOk T) {p : Paper} (g : GoodP p) (d : Nat) : escL T (leafD p d) = leafD p (d + 1) := by
  unfold leafD
  rw [escL_append, escL_append, List.cons_append, List.cons_append, escL_cons, escL_cons, escL_sgs h d g.sg, escL_free (l := p.cover) fun c hc => h.pl c (cov_plain g c hc), escL_free (l := [34]) fun c hc => h.pl c (by revert c; decide)]
  rw [escBy, h.pl _ (nm_plain g), escBy, h.pl 34 (by decide)]
  rfl
theorem escL_rend {T : Tbl} (h : TOk T) (P : Nat → Paper) : ∀ (t : Tree) (d : Nat), Good P t → escL T (rendD P t d) = rendD P t (d + 1)
  | .nil, _, _ => rfl
  | .leaf k, d, g => escL_leaf h g.1 d
  | .node a b, d, g => by
    rw [rendD, escL_append, escL_cons, escL_append, escL_rend h P a _ g.1, escL_rend h P b _ g.2, escL_free (l := [41]) fun c hc => h.pl c (by revert c; decide), escBy, h.pl 40 (by decide)]
    rfl
theorem leafText_eq (p : Paper) : leafText p = leafD p 0 := by
  have : p.signs.flatMap (sgD 0) = p.signs := by
    have e : sgD 0 = fun u => [u] := by funext u; simp [sgD]
    rw [e]; simp
  rw [leafD, this]; rfl
/- pieces of a text -/
noncomputable def Inv (x : List Nat) (p st : Nat) (acc : List (List Nat)) (W : List Nat) : Prop := st ≤ p ∧ acc.flatten ++ (x.drop st).take (p - st) = W
noncomputable def SSeg (l w : List Nat) : Prop := ∀ x p post st acc W, x.drop p = l ++ post → Inv x p st acc W →
  ∃ st' acc', stripGo x (escs p false (l ++ post)) st none acc = stripGo x (escs (p + l.length) false post) st' none acc' ∧ Inv x (p + l.length) st' acc' (W ++ w)
noncomputable def Quo (q : List Nat) : Prop := ∀ x p post st o acc, stripGo x (escs p false (q ++ post)) st (some o) acc = stripGo x (escs (p + q.length) false post) st (some o) acc
noncomputable def EEnd (l : List Nat) : Prop := ∀ post, escEnd false (l ++ post) = escEnd false post
theorem SSeg.append {a b v w : List Nat} (h1 : SSeg a v) (h2 : SSeg b w) : SSeg (a ++ b) (v ++ w) := fun x p post st acc W hx hI => by
  obtain ⟨st1, acc1, e1, I1⟩ := h1 x p (b ++ post) st acc W (by rw [hx, List.append_assoc]) hI
  have hx2 : x.drop (p + a.length) = b ++ post := by
    have := congrArg (List.drop a.length) hx
    rw [List.drop_drop, List.append_assoc, List.drop_left] at this
    exact this
  obtain ⟨st2, acc2, e2, I2⟩ := h2 x (p + a.length) post st1 acc1 (W ++ v) hx2 I1
  refine ⟨st2, acc2, ?_, ?_⟩
  · rw [List.append_assoc, e1, e2, List.length_append, Nat.add_assoc]
  · rw [List.length_append, ← Nat.add_assoc, ← List.append_assoc]; exact I2
theorem SSeg.char {c : Nat} (h1 : c ≠ 34) (h2 : c ≠ 92) : SSeg [c] [c] := fun x p post st acc W hx hI => by
  refine ⟨st, acc, ?_, Nat.le_succ_of_le hI.1, ?_⟩
  · rw [List.singleton_append, escs, if_neg h2, stripGo, if_neg (by simpa using h1)]; rfl
  · have hc : (x.drop st)[p - st]? = some c := by
      rw [List.getElem?_drop, Nat.add_sub_cancel' hI.1]
      have := congrArg (fun l => l[0]?) hx
      simpa using this
    rw [List.length_singleton, show p + 1 - st = (p - st) + 1 by have := hI.1; omega, List.take_add_one, hc, ← hI.2]
    simp
theorem SSeg.nil : SSeg [] [] := fun x p post st acc W _ hI => ⟨st, acc, rfl, by simpa using hI⟩
theorem SSeg.quote {q : List Nat} (h : Quo q) : SSeg (34 :: (q ++ [34])) [] := fun x p post st acc W hx hI => by
  refine ⟨p + (34 :: (q ++ [34])).length, if st = p then acc else acc ++ [(x.drop st).take (p - st)], ?_, Nat.le_refl _, ?_⟩
  · rw [List.cons_append, escs, if_neg (by decide), stripGo, if_pos rfl, List.append_assoc, h, List.singleton_append, escs, if_neg (by decide), stripGo, if_pos rfl]
    have : p + 1 + q.length + 1 = p + (34 :: (q ++ [34])).length := by simp; omega
    rw [this]
  · rw [Nat.sub_self, List.take_zero, List.append_nil, List.append_nil, ← hI.2]
    by_cases e : st = p
    · rw [if_pos e, e, Nat.sub_self, List.take_zero, List.append_nil]
    · rw [if_neg e]; simp
theorem Quo.nil : Quo [] := fun _ _ _ _ _ _ => rfl
theorem Quo.append {a b : List Nat} (h1 : Quo a) (h2 : Quo b) : Quo (a ++ b) := fun x p post st o acc => by
  rw [List.append_assoc, h1, h2, List.length_append, Nat.add_assoc]
theorem Quo.char {c : Nat} (h1 : c ≠ 34) (h2 : c ≠ 92) : Quo [c] := fun x p post st o acc => by
  rw [List.singleton_append, escs, if_neg h2, stripGo, if_neg (by simpa using h1)]; rfl
theorem Quo.esc (c : Nat) : Quo [92, c] := fun x p post st o acc => by
  show stripGo x (escs p false (92 :: c :: post)) st (some o) acc = _
  rw [escs, if_pos rfl, escs, stripGo, if_neg (by simp)]; rfl
theorem Quo.chars : ∀ {l : List Nat}, (∀ c ∈ l, c ≠ 34 ∧ c ≠ 92) → Quo l
  | [], _ => Quo.nil
  | c :: r, h => (Quo.char (h c (.head _)).1 (h c (.head _)).2).append (a := [c]) (b := r) (Quo.chars fun c hc => h c (.tail _ hc))
theorem EEnd.append {a b : List Nat} (h1 : EEnd a) (h2 : EEnd b) : EEnd (a ++ b) := fun post => by rw [List.append_assoc, h1, h2]
theorem EEnd.chars : ∀ {l : List Nat}, (∀ c ∈ l, c ≠ 92) → EEnd l
  | [], _ => fun _ => rfl
  | c :: r, h => fun post => by
    rw [List.cons_append, escEnd, decide_eq_false (h c (.head _))]
    exact EEnd.chars (fun c hc => h c (.tail _ hc)) post
theorem EEnd.esc (c : Nat) : EEnd [92, c] := fun post => by
  show escEnd false (92 :: c :: post) = _
  rw [escEnd, decide_eq_true rfl, escEnd]
theorem strip_of {x w : List Nat} (h : SSeg x w) (hq : 34 ∈ x) : strip x = w := by
  rw [strip, if_pos hq]
  obtain ⟨st, acc, e, hI⟩ := h x 0 [] 0 [] [] (by simp) ⟨Nat.le_refl _, rfl⟩
  rw [List.append_nil, escs.eq_def (0 + x.length)] at e
  rw [e]
  simp only [stripGo, List.nil_append]
  have hI2 := hI.2
  rw [Nat.zero_add, List.nil_append] at hI2
  have : (x.drop st).take (x.length - st) = x.drop st := List.take_of_length_le (by rw [List.length_drop]; exact Nat.le_refl _)
  rw [this] at hI2
  rw [← hI2]
  split
  · simp
  · next hs => rw [List.drop_of_length_le (Nat.not_lt.mp hs)]; simp
theorem sg_chars {d u : Nat} (hu : u = 38 ∨ u = 60 ∨ u = 62) : ∀ c ∈ sgD d u, c ∈ [38, 60, 62, 97, 109, 112, 59, 108, 116, 103] := by
  have hr : ∀ n, ∀ c ∈ rep n, c ∈ [38, 60, 62, 97, 109, 112, 59, 108, 116, 103] := fun n c hc => by
    obtain ⟨l, hl, hc⟩ := List.mem_flatten.mp hc
    rw [List.eq_of_mem_replicate hl] at hc
    simp at hc
    rcases hc with rfl | rfl | rfl | rfl <;> decide
  intro c hc
  unfold sgD at hc
  split at hc
  · rw [List.mem_singleton.mp hc]; rcases hu with rfl | rfl | rfl <;> decide
  split at hc
  · rcases List.mem_cons.mp hc with rfl | hc
    · decide
    · exact hr _ _ hc
  · rw [List.cons_append] at hc
    rcases List.mem_cons.mp hc with rfl | hc
    · decide
    rcases List.mem_append.mp hc with hc | hc
    · exact hr _ _ hc
    · split at hc
      · exact (by decide : ∀ c ∈ [108, 116, 59], c ∈ [38, 60, 62, 97, 109, 112, 59, 108, 116, 103]) c hc
      · exact (by decide : ∀ c ∈ [103, 116, 59], c ∈ [38, 60, 62, 97, 109, 112, 59, 108, 116, 103]) c hc
theorem sgs_chars {d : Nat} {l : List Nat} (hl : ∀ u ∈ l, u = 38 ∨ u = 60 ∨ u = 62) : ∀ c ∈ l.flatMap (sgD d), c ∈ [38, 60, 62, 97, 109, 112, 59, 108, 116, 103] := fun c hc => by
  obtain ⟨u, hu, hc⟩ := List.mem_flatMap.mp hc
  exact sg_chars (hl u hu) c hc
theorem of_list {l : List Nat} {Q : Nat → Prop} (h : ∀ c ∈ l, Q c) {c : Nat} (hc : c ∈ l) : Q c := h c hc
theorem sseg_leaf {p : Paper} (g : GoodP p) (d : Nat) : SSeg (leafD p d) [p.nm] := by
  have e : leafD p d = [p.nm] ++ 34 :: ((p.signs.flatMap (sgD d) ++ p.cover) ++ [34]) := by simp [leafD]
  rw [e]
  have hn := g.nm
  have q1 : Quo (p.signs.flatMap (sgD d)) := Quo.chars fun c hc => of_list (Q := fun c => c ≠ 34 ∧ c ≠ 92) (by decide) (sgs_chars g.sg c hc)
  have q2 : Quo p.cover := by
    rcases g.cov with h | h | h | h <;> rw [h]
    · exact Quo.chars (by decide)
    · exact Quo.chars (by decide)
    · exact (Quo.esc 34).append (b := [40, 41]) (Quo.chars (by decide))
    · exact (Quo.esc 34).append (b := [41, 40]) (Quo.chars (by decide))
  have := (SSeg.char (c := p.nm) (by omega) (by omega)).append (SSeg.quote (q1.append q2))
  simpa using this
theorem sseg_rend (P : Nat → Paper) : ∀ (t : Tree) (d : Nat), Good P t → SSeg (rendD P t d) t.word
  | .nil, _, _ => SSeg.nil
  | .leaf k, d, g => by
    have := sseg_leaf g.1 d
    rw [g.2] at this
    exact this
  | .node a b, d, g => by
    have := ((SSeg.char (c := 40) (by decide) (by decide)).append ((sseg_rend P a (d + 1) g.1).append (sseg_rend P b (d + 1) g.2))).append (SSeg.char (c := 41) (by decide) (by decide))
    exact this
theorem eend_rend (P : Nat → Paper) : ∀ (t : Tree) (d : Nat), Good P t → EEnd (rendD P t d)
  | .nil, _, _ => fun _ => rfl
  | .leaf k, d, g => by
    have e : rendD P (.leaf k) d = [(P k).nm, 34] ++ (((P k).signs.flatMap (sgD d) ++ (P k).cover) ++ [34]) := by simp [rendD, leafD]
    rw [e]
    have hn := g.1.nm
    refine EEnd.append (EEnd.chars fun c hc => ?_) (EEnd.append (EEnd.append (EEnd.chars fun c hc => of_list (Q := fun c => c ≠ 92) (by decide) (sgs_chars g.1.sg c hc)) ?_) (EEnd.chars (by decide)))
    · rcases List.mem_cons.mp hc with rfl | hc
      · omega
      · rw [List.mem_singleton.mp hc]; decide
    · rcases g.1.cov with h | h | h | h <;> rw [h]
      · exact EEnd.chars (by decide)
      · exact EEnd.chars (by decide)
      · exact (EEnd.esc 34).append (b := [40, 41]) (EEnd.chars (by decide))
      · exact (EEnd.esc 34).append (b := [41, 40]) (EEnd.chars (by decide))
  | .node a b, d, g => EEnd.append (a := 40 :: (rendD P a (d + 1) ++ rendD P b (d + 1))) (EEnd.append (a := [40]) (EEnd.chars (by decide)) (EEnd.append (eend_rend P a (d + 1) g.1) (eend_rend P b (d + 1) g.2))) (EEnd.chars (by decide))
theorem has34 (P : Nat → Paper) : ∀ (t : Tree) (d : Nat), t.full = true → 34 ∈ rendD P t d
  | .nil, _, h => by cases h
  | .leaf k, d, _ => by simp [rendD, leafD]
  | .node a b, d, h => by
    have h1 : a.full = true := by simp [Tree.full] at h; exact h.1
    have := has34 P a (d + 1) h1
    simp [rendD, this]
theorem chars_rend (P : Nat → Paper) : ∀ (t : Tree) (d : Nat), Good P t → ∀ c ∈ rendD P t d, c < 128
  | .nil, _, _, c, hc => nomatch hc
  | .leaf k, d, g, c, hc => by
    have hn := g.1.nm
    have e : rendD P (.leaf k) d = (P k).nm :: 34 :: (((P k).signs.flatMap (sgD d) ++ (P k).cover) ++ [34]) := by simp [rendD, leafD]
    rw [e] at hc
    rcases List.mem_cons.mp hc with rfl | hc
    · omega
    rcases List.mem_cons.mp hc with rfl | hc
    · decide
    rcases List.mem_append.mp hc with hc | hc
    · rcases List.mem_append.mp hc with hc | hc
      · exact of_list (Q := fun c => c < 128) (by decide) (sgs_chars g.1.sg c hc)
      · exact of_list (Q := fun c => c < 128) (l := plain) (by decide) (cov_plain g.1 c hc)
    · rw [List.mem_singleton.mp hc]; decide
  | .node a b, d, g, c, hc => by
    rw [rendD] at hc
    rcases List.mem_append.mp hc with hc | hc
    · rcases List.mem_cons.mp hc with rfl | hc
      · decide
      rcases List.mem_append.mp hc with hc | hc
      · exact chars_rend P a _ g.1 c hc
      · exact chars_rend P b _ g.2 c hc
    · rw [List.mem_singleton.mp hc]; decide
theorem rep_len (n : Nat) : (rep n).length = 4 * n := by
  induction n with
  | zero => rfl
  | succ n ih => rw [rep_succ]; simp [ih]; omega
theorem sg_len (d u : Nat) : (sgD d u).length ≤ 1 + 4 * d := by
  unfold sgD
  split
  · simp
  split
  · simp [rep_len]; omega
  · split <;> (simp [rep_len]; omega)
theorem sgs_len (d : Nat) : ∀ l : List Nat, (l.flatMap (sgD d)).length ≤ l.length * (1 + 4 * d)
  | [] => by simp
  | u :: r => by
    have h1 := sg_len d u
    have h2 := sgs_len d r
    rw [List.flatMap_cons, List.length_append, List.length_cons, Nat.succ_mul]; omega
theorem len_rend (P : Nat → Paper) : ∀ (t : Tree) (d : Nat), Good P t → (rendD P t d).length ≤ Tree.lenB t d
  | .nil, _, _ => Nat.le_refl _
  | .leaf k, d, g => by
    have h1 := sgs_len d (P k).signs
    have h2 := g.1.len
    have h3 : (P k).cover.length ≤ 4 := by rcases g.1.cov with h | h | h | h <;> rw [h] <;> decide
    have h4 : (P k).signs.length * (1 + 4 * d) ≤ 4 * (1 + 4 * d) := Nat.mul_le_mul_right _ h2
    simp only [rendD, leafD, Tree.lenB, List.length_append, List.length_cons, List.length_nil]
    omega
  | .node a b, d, g => by
    have h1 := len_rend P a (d + 1) g.1
    have h2 := len_rend P b (d + 1) g.2
    simp only [rendD, Tree.lenB, List.length_append, List.length_cons, List.length_nil]
    omega
end

section
open PySem
set_option autoImplicit false
set_option maxRecDepth 100000
set_option maxHeartbeats 2000000
noncomputable def pars (l : List (Nat × List Nat)) : List Nat := l.filterMap fun e => if e.2 = [40] then some 40 else if e.2 = [41] then some 41 else none
theorem checkGo_pars : ∀ (l : List (Nat × List Nat)) (o : Int), checkGo l o = bal (pars l) o
  | [], _ => rfl
  | (p, ch) :: r, o => by
    rw [checkGo, pars, List.filterMap_cons]
    by_cases h : ch = [40]
    · rw [if_pos h]; simp only [h, if_true, bal]; exact checkGo_pars r _
    rw [if_neg h]
    by_cases h2 : ch = [41]
    · rw [if_pos h2]
      have h3 : ¬ (41 = 40) := by decide
      simp only [h2, if_true, bal, show ([41] : List Nat) ≠ [40] by decide, if_false, h3]
      split
      · rfl
      · exact checkGo_pars r _
    · rw [if_neg h2]
      simp only [h, h2, if_false]
      exact checkGo_pars r _
noncomputable def PSeg (l s : List Nat) : Prop := ∀ p post, pars (escs p false (l ++ post)) = s ++ pars (escs (p + l.length) false post)
theorem PSeg.nil : PSeg [] [] := fun _ _ => rfl
theorem PSeg.append {a b s t : List Nat} (h1 : PSeg a s) (h2 : PSeg b t) : PSeg (a ++ b) (s ++ t) := fun p post => by
  rw [List.append_assoc, h1, h2, List.length_append, Nat.add_assoc, List.append_assoc]
theorem PSeg.char {c : Nat} (h : c ≠ 92) : PSeg [c] (if c = 40 then [40] else if c = 41 then [41] else []) := fun p post => by
  rw [List.singleton_append, escs, if_neg h, pars, List.filterMap_cons]
  by_cases h1 : c = 40
  · subst h1; rfl
  by_cases h2 : c = 41
  · subst h2; rfl
  · simp [h1, h2, pars]
theorem PSeg.esc (c : Nat) : PSeg [92, c] [] := fun p post => by
  show pars (escs p false (92 :: c :: post)) = _
  rw [escs, if_pos rfl, escs, pars, List.filterMap_cons]
  simp [pars]
theorem PSeg.free : ∀ {l : List Nat}, (∀ c ∈ l, c ≠ 40 ∧ c ≠ 41 ∧ c ≠ 92) → PSeg l []
  | [], _ => PSeg.nil
  | c :: r, h => by
    have := (PSeg.char (h c (.head _)).2.2).append (PSeg.free (l := r) fun c hc => h c (.tail _ hc))
    rw [if_neg (h c (.head _)).1, if_neg (h c (.head _)).2.1] at this
    exact this
theorem PSeg.pair : ∀ {l : List Nat}, (∀ c ∈ l, c = 40 ∨ c = 41) → PSeg l l
  | [], _ => PSeg.nil
  | c :: r, h => by
    have := (PSeg.char (c := c) (by rcases h c (.head _) with h | h <;> rw [h] <;> decide)).append (PSeg.pair (l := r) fun c hc => h c (.tail _ hc))
    rcases h c (.head _) with h | h
    · subst h; exact this
    · subst h; exact this
theorem check_of {x s : List Nat} (h34 : 34 ∉ x) (h : PSeg x s) : check x = bal s 0 := by
  have e := h 0 []
  rw [List.append_nil, escs.eq_def (0 + x.length)] at e
  rw [check, strip, if_neg h34, checkGo_pars, e]
  simp [pars]
/- the tree's own brackets -/
noncomputable def rowT (P : Nat → Paper) : Tree → List Nat
  | .nil => []
  | .leaf k => last2 (P k).cover
  | .node a b => 40 :: (rowT P a ++ rowT P b) ++ [41]
theorem escBy_chars {Q : Nat → Prop} (T : Tbl) (hT : ∀ e ∈ T, ∀ x ∈ e.2, Q x) {c : Nat} (hc : T.lookup c = none → Q c) : ∀ x ∈ escBy T c, Q x := by
  intro x hx
  unfold escBy at hx
  cases q : T.lookup c with
  | none => rw [q] at hx; simp at hx; subst hx; exact hc q
  | some z =>
    rw [q] at hx
    have : (c, z) ∈ T := by
      have := lookup_mem q
      exact this
    exact hT _ this x hx
theorem escL_chars {Q : Nat → Prop} (T : Tbl) (hT : ∀ e ∈ T, ∀ x ∈ e.2, Q x) {l : List Nat} (hl : ∀ c ∈ l, T.lookup c = none → Q c) : ∀ x ∈ escL T l, Q x := by
  intro x hx
  obtain ⟨c, hc, hx⟩ := List.mem_flatMap.mp hx
  exact escBy_chars T hT (hl c hc) x hx
theorem att_free {l : List Nat} (h : ∀ c ∈ l, c ≠ 40 ∧ c ≠ 41 ∧ c ≠ 92) : PSeg (escL tblA l) [] :=
  PSeg.free (escL_chars (Q := fun c => c ≠ 40 ∧ c ≠ 41 ∧ c ≠ 92) tblA (by decide) fun c hc _ => h c hc)
theorem att_no34 (l : List Nat) : 34 ∉ escL tblA l := fun h => by
  refine escL_chars (Q := fun c => c ≠ 34) tblA (by decide) (l := l) (fun c _ hn e => ?_) 34 h rfl
  subst e
  exact absurd hn (by decide)
theorem att_ascii {l : List Nat} (h : ∀ c ∈ l, c < 128) : ∀ c ∈ escL tblA l, c < 128 := escL_chars (Q := fun c => c < 128) tblA (by decide) fun c hc _ => h c hc
theorem last2_cov {p : Paper} (g : GoodP p) : ∀ c ∈ last2 p.cover, c = 40 ∨ c = 41 := by
  rcases g.cov with h | h | h | h <;> rw [h] <;> decide
theorem att_cov {p : Paper} (g : GoodP p) : PSeg (escL tblA p.cover) (last2 p.cover) ∧ EEnd (escL tblA p.cover) ∧ (escL tblA p.cover).length ≤ 9 := by
  rcases g.cov with h | h | h | h <;> rw [h]
  · exact ⟨PSeg.pair (l := [40, 40]) (by decide), EEnd.chars (l := [40, 40]) (by decide), by decide⟩
  · exact ⟨PSeg.pair (l := [41, 41]) (by decide), EEnd.chars (l := [41, 41]) (by decide), by decide⟩
  · exact ⟨((PSeg.esc 38).append (b := [113, 117, 111, 116, 59]) (PSeg.free (by decide))).append (b := [40, 41]) (PSeg.pair (l := [40, 41]) (by decide)), ((EEnd.esc 38).append (b := [113, 117, 111, 116, 59, 40, 41]) (EEnd.chars (by decide))), by decide⟩
  · exact ⟨((PSeg.esc 38).append (b := [113, 117, 111, 116, 59]) (PSeg.free (by decide))).append (b := [41, 40]) (PSeg.pair (l := [41, 40]) (by decide)), ((EEnd.esc 38).append (b := [113, 117, 111, 116, 59, 41, 40]) (EEnd.chars (by decide))), by decide⟩
theorem att_eend {l : List Nat} (h : ∀ c ∈ l, c ≠ 92) : EEnd (escL tblA l) := EEnd.chars (escL_chars (Q := fun c => c ≠ 92) tblA (by decide) fun c hc _ => h c hc)
theorem att_sg_len {d u : Nat} (hu : u = 38 ∨ u = 60 ∨ u = 62) : (escL tblA (sgD d u)).length ≤ 5 + 4 * d := by
  have hr : ∀ n, escL tblA (rep n) = rep n := fun n => escL_free fun c hc => by
    obtain ⟨l, hl, hc⟩ := List.mem_flatten.mp hc
    rw [List.eq_of_mem_replicate hl] at hc
    simp at hc
    rcases hc with rfl | rfl | rfl | rfl <;> decide
  have hl : escL tblA [108, 116, 59] = [108, 116, 59] := by decide
  have hg : escL tblA [103, 116, 59] = [103, 116, 59] := by decide
  have h38 : (escBy tblA 38).length = 5 := by decide
  unfold sgD
  split
  · next h => subst h; rcases hu with rfl | rfl | rfl <;> decide
  split
  · rw [escL_cons, hr, List.length_append, h38, rep_len]
    exact Nat.le_refl _
  · rw [List.cons_append, escL_cons, escL_append, hr, List.length_append, List.length_append, h38, rep_len]
    split
    · rw [hl]; simp; omega
    · rw [hg]; simp; omega
theorem att_sgs_len {d : Nat} : ∀ {l : List Nat}, (∀ u ∈ l, u = 38 ∨ u = 60 ∨ u = 62) → (escL tblA (l.flatMap (sgD d))).length ≤ l.length * (5 + 4 * d)
  | [], _ => by simp [escL]
  | u :: r, h => by
    have h1 := att_sg_len (d := d) (h u (.head _))
    have h2 := att_sgs_len (d := d) (l := r) fun u hu => h u (.tail _ hu)
    rw [List.flatMap_cons, escL_append, List.length_append, List.length_cons, Nat.succ_mul]; omega
theorem att_rend (P : Nat → Paper) : ∀ (t : Tree) (d : Nat), Good P t → PSeg (escL tblA (rendD P t d)) (rowT P t) ∧ EEnd (escL tblA (rendD P t d)) ∧ (escL tblA (rendD P t d)).length ≤ Tree.lenA t d
  | .nil, _, _ => ⟨PSeg.nil, fun _ => rfl, Nat.le_refl _⟩
  | .leaf k, d, g => by
    have hn := g.1.nm
    have e : rendD P (.leaf k) d = ([(P k).nm, 34] ++ (P k).signs.flatMap (sgD d)) ++ (P k).cover ++ [34] := by simp [rendD, leafD]
    rw [e, escL_append, escL_append]
    obtain ⟨c1, c2, c3⟩ := att_cov g.1
    have hA : ∀ c ∈ [(P k).nm, 34] ++ (P k).signs.flatMap (sgD d), c ≠ 40 ∧ c ≠ 41 ∧ c ≠ 92 := fun c hc => by
      rcases List.mem_append.mp hc with hc | hc
      · rcases List.mem_cons.mp hc with rfl | hc
        · omega
        · rw [List.mem_singleton.mp hc]; decide
      · exact of_list (Q := fun c => c ≠ 40 ∧ c ≠ 41 ∧ c ≠ 92) (by decide) (sgs_chars g.1.sg c hc)
    refine ⟨?_, ?_, ?_⟩
    · have := ((att_free hA).append c1).append (att_free (l := [34]) (by decide))
      simpa [rowT] using this
    · exact (EEnd.append (EEnd.append (att_eend fun c hc => (hA c hc).2.2) c2) (att_eend (by decide)))
    · have h1 := att_sgs_len (d := d) g.1.sg
      have h2 := g.1.len
      have h4 : (P k).signs.length * (5 + 4 * d) ≤ 4 * (5 + 4 * d) := Nat.mul_le_mul_right _ h2
      have h5 : (escL tblA [(P k).nm, 34]).length ≤ 7 := by
        have : (P k).nm = 97 ∨ (P k).nm = 98 ∨ (P k).nm = 99 ∨ (P k).nm = 100 ∨ (P k).nm = 101 := by omega
        rcases this with h | h | h | h | h <;> rw [h] <;> decide
      have h6 : (escL tblA [34]).length = 6 := by decide
      rw [List.length_append, List.length_append, escL_append, List.length_append, h6]
      simp only [Tree.lenA]
      omega
  | .node a b, d, g => by
    obtain ⟨a1, a2, a3⟩ := att_rend P a (d + 1) g.1
    obtain ⟨b1, b2, b3⟩ := att_rend P b (d + 1) g.2
    have e : escL tblA (rendD P (.node a b) d) = [40] ++ (escL tblA (rendD P a (d + 1)) ++ escL tblA (rendD P b (d + 1))) ++ [41] := by
      rw [rendD, escL_append, escL_cons, escL_append]; rfl
    rw [e]
    refine ⟨?_, ?_, ?_⟩
    · exact ((PSeg.pair (l := [40]) (by decide)).append (a1.append b1)).append (PSeg.pair (l := [41]) (by decide))
    · exact ((EEnd.chars (l := [40]) (by decide)).append (a2.append b2)).append (EEnd.chars (by decide))
    · simp only [List.length_append, List.length_cons, List.length_nil, Tree.lenA]; omega
theorem bal_word : ∀ (t : Tree) (r : List Nat) (o : Int), 0 ≤ o → bal (t.word ++ r) o = bal r o
  | .nil, _, _, _ => rfl
  | .leaf k, r, o, _ => by
    rw [Tree.word, List.singleton_append, bal, if_neg (by omega), if_neg (by omega)]
  | .node a b, r, o, h => by
    have e : (Tree.node a b).word ++ r = 40 :: (a.word ++ (b.word ++ (41 :: r))) := by simp [Tree.word]
    have h41 : ¬ (41 = 40) := by decide
    rw [e, bal, if_pos rfl, bal_word a _ _ (by omega), bal_word b _ _ (by omega), bal, if_neg h41, if_pos rfl, if_neg (by omega), show o + 1 - 1 = o by omega]
theorem word_chars (P : Nat → Paper) : ∀ (t : Tree), Good P t → ∀ c ∈ t.word, c = 40 ∨ c = 41 ∨ (97 ≤ c ∧ c ≤ 101)
  | .nil, _, c, hc => nomatch hc
  | .leaf k, g, c, hc => by
    have := g.1.nm
    have := g.2
    rw [List.mem_singleton.mp hc]; omega
  | .node a b, g, c, hc => by
    rw [Tree.word] at hc
    rcases List.mem_append.mp hc with hc | hc
    · rcases List.mem_cons.mp hc with rfl | hc
      · exact .inl rfl
      rcases List.mem_append.mp hc with hc | hc
      · exact word_chars P a g.1 c hc
      · exact word_chars P b g.2 c hc
    · rw [List.mem_singleton.mp hc]; exact .inr (.inl rfl)
theorem check_word (P : Nat → Paper) (t : Tree) (g : Good P t) (hf : t.full = true) : check (rendD P t 0) = true := by
  have hw := word_chars P t g
  rw [check, strip_of (sseg_rend P t 0 g) (has34 P t 0 hf), checkGo_pars]
  have hp : ∀ (l : List Nat) (p : Nat), (∀ c ∈ l, c ≠ 92) → bal (pars (escs p false l)) 0 = bal l 0 ∧ ∀ o, bal (pars (escs p false l)) o = bal l o := by
    intro l
    induction l with
    | nil => intro p _; exact ⟨rfl, fun _ => rfl⟩
    | cons c r ih =>
      intro p h
      have key : ∀ o, bal (pars (escs p false (c :: r))) o = bal (c :: r) o := fun o => by
        have ih' := fun o => (ih (p + 1) fun c hc => h c (.tail _ hc)).2 o
        rw [escs, if_neg (h c (.head _)), pars, List.filterMap_cons]
        by_cases h1 : c = 40
        · subst h1; simp only [if_true, bal]; exact ih' _
        by_cases h2 : c = 41
        · subst h2
          have h3 : ¬ ((41 : Nat) = 40) := by decide
          simp only [show ([41] : List Nat) ≠ [40] by decide, if_true, if_false, bal, h3]
          split
          · rfl
          · exact ih' _
        · simp only [List.cons.injEq, and_true, h1, h2, if_false, bal]
          exact ih' _
      exact ⟨key 0, key⟩
  rw [(hp _ 0 fun c hc => by rcases hw c hc with h | h | h <;> omega).1]
  have := bal_word t [] 0 (Int.le_refl _)
  rw [List.append_nil] at this
  rw [this]; rfl
theorem rowOf_append (ps : List Paper) : ∀ a b : List Nat, rowOf (a ++ b) ps = rowOf a ps ++ rowOf b ps := by
  unfold rowOf
  induction ps with
  | nil => intro a b; rfl
  | cons p r ih => intro a b; rw [List.foldl_cons, List.foldl_cons, List.foldl_cons, subs_append, ih]
theorem rowOf_free (ps : List Paper) (l : List Nat) (h : ∀ p ∈ ps, p.nm ∉ l) : rowOf l ps = l := by
  unfold rowOf
  induction ps with
  | nil => rfl
  | cons p r ih => rw [List.foldl_cons, subs_free _ _ _ (h p (.head _))]; exact ih fun p hp => h p (.tail _ hp)
theorem rowOf_tree (P : Nat → Paper) (n : Nat) (hn : ∀ k, k < n → GoodP (P k) ∧ (P k).nm = 97 + k) : ∀ t : Tree, (∀ e ∈ t.leaves 0, e.1 < n) → rowOf t.word ((List.range n).map P) = rowT P t := by
  have hfree : ∀ l : List Nat, (∀ c ∈ l, c = 40 ∨ c = 41) → rowOf l ((List.range n).map P) = l := fun l hl => rowOf_free _ _ fun p hp hm => by
    obtain ⟨k, hk, rfl⟩ := List.mem_map.mp hp
    have h1 := (hn k (List.mem_range.mp hk)).1.nm
    rcases hl _ hm with h | h <;> omega
  have hleaf : ∀ k, k < n → rowOf [97 + k] ((List.range n).map P) = last2 (P k).cover := fun k hk => by
    have hs : (List.range n).map P = (List.range k).map P ++ P k :: (List.range (n - k - 1)).map fun j => P (k + 1 + j) := by
      have e : n = k + (1 + (n - k - 1)) := by omega
      conv => lhs; rw [e, List.range_add, List.map_append, List.range_add, List.map_append, List.map_append]
      simp [Function.comp, Nat.add_assoc]
    rw [hs]
    have h1 : rowOf [97 + k] ((List.range k).map P) = [97 + k] := rowOf_free _ _ fun p hp hm => by
      obtain ⟨j, hj, rfl⟩ := List.mem_map.mp hp
      have hj := List.mem_range.mp hj
      have h1 := (hn j (by omega)).2
      rw [List.mem_singleton, h1] at hm
      omega
    unfold rowOf at h1 ⊢
    rw [List.foldl_append, h1, List.foldl_cons]
    have h2 : subs (P k).nm (last2 (P k).cover) [97 + k] = last2 (P k).cover := by rw [(hn k hk).2]; simp [subs]
    rw [h2]
    refine rowOf_free _ _ fun p hp hm => ?_
    obtain ⟨j, hj, rfl⟩ := List.mem_map.mp hp
    have hj := List.mem_range.mp hj
    have h3 := (hn (k + 1 + j) (by omega)).1.nm
    rcases last2_cov (hn k hk).1 _ hm with h | h <;> omega
  have gen : ∀ (t : Tree) (d : Nat), (∀ e ∈ t.leaves d, e.1 < n) → rowOf t.word ((List.range n).map P) = rowT P t := by
    intro t
    induction t with
    | nil => intro _ _; exact hfree [] (fun _ h => nomatch h)
    | leaf k => intro d h; exact hleaf k (h (k, d) (.head _))
    | node a b iha ihb =>
      intro d h
      have e : (Tree.node a b).word = [40] ++ (a.word ++ b.word) ++ [41] := rfl
      rw [e, rowOf_append, rowOf_append, rowOf_append, hfree [40] (by decide), hfree [41] (by decide), iha (d + 1) fun e he => h e (List.mem_append.mpr (.inl he)), ihb (d + 1) fun e he => h e (List.mem_append.mpr (.inr he))]
      rfl
  exact fun t h => gen t 0 h
theorem rowT_chars (P : Nat → Paper) : ∀ t : Tree, Good P t → ∀ c ∈ rowT P t, c = 40 ∨ c = 41
  | .nil, _, c, hc => nomatch hc
  | .leaf k, g, c, hc => last2_cov g.1 c hc
  | .node a b, g, c, hc => by
    rw [rowT] at hc
    rcases List.mem_append.mp hc with hc | hc
    · rcases List.mem_cons.mp hc with rfl | hc
      · exact .inl rfl
      rcases List.mem_append.mp hc with hc | hc
      · exact rowT_chars P a g.1 c hc
      · exact rowT_chars P b g.2 c hc
    · rw [List.mem_singleton.mp hc]; exact .inr rfl
end

section
open PySem
set_option autoImplicit false
set_option maxRecDepth 100000
set_option maxHeartbeats 2000000
/- the numbers -/
noncomputable def ampT : List Nat := [97, 109, 112, 59]
noncomputable def sgT (d u : Nat) : List (List Nat) := if u = 38 then [38] :: List.replicate d ampT else [38] :: List.replicate (d - 1) ampT ++ [if u = 60 then [108, 116, 59] else [103, 116, 59]]
noncomputable def covT (l : List Nat) : List (List Nat) := if 2 < l.length then [92, 34] :: (last2 l).map fun c => [c] else (last2 l).map fun c => [c]
noncomputable def leafT (p : Paper) (d : Nat) : List (List Nat) := [p.nm, 34] :: (p.signs.flatMap (sgT d) ++ (covT p.cover ++ [[34]]))
noncomputable def toksT (P : Nat → Paper) : Tree → Nat → List (List Nat)
  | .nil, _ => []
  | .leaf k, d => leafT (P k) d
  | .node a b, d => [40] :: (toksT P a (d + 1) ++ toksT P b (d + 1)) ++ [[41]]
noncomputable def numsT (P : Nat → Paper) : Tree → Nat → List Int
  | .nil, _ => []
  | .leaf k, d => leafNums (P k) (97 + k) d
  | .node a b, d => 40 :: (numsT P a (d + 1) ++ numsT P b (d + 1)) ++ [41]
noncomputable def Fine (ts : List Nat) : Prop := IsTok ts ∧ ts.length ≤ 8
theorem fine_one {c : Nat} (h : c < 64) : Fine [c] := ⟨h, show 1 ≤ 8 by decide⟩
theorem fine_amp : Fine ampT := ⟨⟨by decide, by decide, ⟨by decide, by decide, ⟨by decide, by decide, (by decide : (59 : Nat) < 64)⟩⟩⟩, by decide⟩
theorem fine_tail (u : Nat) : Fine (if u = 60 then [108, 116, 59] else [103, 116, 59]) := by
  split
  · exact ⟨⟨by decide, by decide, ⟨by decide, by decide, (by decide : (59 : Nat) < 64)⟩⟩, by decide⟩
  · exact ⟨⟨by decide, by decide, ⟨by decide, by decide, (by decide : (59 : Nat) < 64)⟩⟩, by decide⟩
theorem sgT_spec {d u : Nat} (hu : u = 38 ∨ u = 60 ∨ u = 62) (hd : 1 ≤ d) : (sgT d u).flatten = sgD d u ∧ (∀ ts ∈ sgT d u, Fine ts) ∧ (sgT d u).map (fun ts => (tval ts : Int)) = markNums d u := by
  have h0 : d ≠ 0 := by omega
  have hr : ∀ n, ∀ ts ∈ List.replicate n ampT, Fine ts := fun n ts h => by rw [List.eq_of_mem_replicate h]; exact fine_amp
  have e1 : ((d : Int)).toNat = d := Int.toNat_natCast d
  have e2 : ((d : Int) - 1).toNat = d - 1 := by omega
  refine ⟨?_, ?_, ?_⟩
  · unfold sgT sgD rep
    rw [if_neg h0]
    split
    · rfl
    · split <;> simp [ampT]
  · unfold sgT
    intro ts hts
    split at hts
    · rcases List.mem_cons.mp hts with rfl | hts
      · exact fine_one (by decide)
      · exact hr _ _ hts
    · rw [List.cons_append] at hts
      rcases List.mem_cons.mp hts with rfl | hts
      · exact fine_one (by decide)
      rcases List.mem_append.mp hts with hts | hts
      · exact hr _ _ hts
      · rw [List.mem_singleton.mp hts]; exact fine_tail u
  · unfold sgT markNums
    rw [e1, e2]
    have ea : (tval ampT : Int) = ampN := by decide
    have e38 : (tval [38] : Int) = 38 := by decide
    split
    · rw [List.map_cons, List.map_replicate, ea, e38]
    · rw [List.cons_append, List.map_cons, List.map_append, List.map_replicate, ea, e38, List.cons_append]
      congr 2
      split <;> decide
theorem sgsT_spec {d : Nat} (hd : 1 ≤ d) : ∀ {l : List Nat}, (∀ u ∈ l, u = 38 ∨ u = 60 ∨ u = 62) → (l.flatMap (sgT d)).flatten = l.flatMap (sgD d) ∧ (∀ ts ∈ l.flatMap (sgT d), Fine ts) ∧ (l.flatMap (sgT d)).map (fun ts => (tval ts : Int)) = l.flatMap (markNums d)
  | [], _ => ⟨rfl, (fun _ h => nomatch h), rfl⟩
  | u :: r, h => by
    obtain ⟨a1, a2, a3⟩ := sgT_spec (d := d) (h u (.head _)) hd
    obtain ⟨b1, b2, b3⟩ := sgsT_spec hd (l := r) fun u hu => h u (.tail _ hu)
    refine ⟨?_, ?_, ?_⟩
    · rw [List.flatMap_cons, List.flatten_append, a1, b1, List.flatMap_cons]
    · intro ts hts
      rw [List.flatMap_cons] at hts
      rcases List.mem_append.mp hts with hts | hts
      · exact a2 _ hts
      · exact b2 _ hts
    · rw [List.flatMap_cons, List.map_append, a3, b3, List.flatMap_cons]
theorem covT_spec {p : Paper} (g : GoodP p) : (covT p.cover).flatten = p.cover ∧ (∀ ts ∈ covT p.cover, Fine ts) ∧ (covT p.cover).map (fun ts => (tval ts : Int)) = (if 2 < p.cover.length then [1826] else []) ++ (last2 p.cover).map Int.ofNat := by
  have h1 : Fine [40] := fine_one (by decide)
  have h2 : Fine [41] := fine_one (by decide)
  have h3 : Fine [92, 34] := ⟨⟨by decide, by decide, (by decide : (34 : Nat) < 64)⟩, by decide⟩
  rcases g.cov with h | h | h | h <;> rw [h]
  · refine ⟨by decide, fun ts hts => ?_, by decide⟩
    rcases (by simpa [covT, last2] using hts : ts = [40]) with rfl
    exact h1
  · refine ⟨by decide, fun ts hts => ?_, by decide⟩
    rcases (by simpa [covT, last2] using hts : ts = [41]) with rfl
    exact h2
  · refine ⟨by decide, fun ts hts => ?_, by decide⟩
    rcases (by simpa [covT, last2] using hts : ts = [92, 34] ∨ ts = [40] ∨ ts = [41]) with rfl | rfl | rfl
    · exact h3
    · exact h1
    · exact h2
  · refine ⟨by decide, fun ts hts => ?_, by decide⟩
    rcases (by simpa [covT, last2] using hts : ts = [92, 34] ∨ ts = [41] ∨ ts = [40]) with rfl | rfl | rfl
    · exact h3
    · exact h2
    · exact h1
theorem toks_spec (P : Nat → Paper) : ∀ (t : Tree) (d : Nat), Good P t → (∀ e ∈ t.leaves d, 1 ≤ e.2) → (toksT P t d).flatten = rendD P t d ∧ (∀ ts ∈ toksT P t d, Fine ts) ∧ (toksT P t d).map (fun ts => (tval ts : Int)) = numsT P t d
  | .nil, _, _, _ => ⟨rfl, (fun _ h => nomatch h), rfl⟩
  | .leaf k, d, g, hd => by
    have hd1 : 1 ≤ d := hd (k, d) (.head _)
    obtain ⟨a1, a2, a3⟩ := sgsT_spec hd1 g.1.sg
    obtain ⟨b1, b2, b3⟩ := covT_spec g.1
    have hn := g.1.nm
    refine ⟨?_, ?_, ?_⟩
    · simp only [toksT, leafT, List.flatten_cons, List.flatten_append, a1, b1, rendD, leafD]
      simp
    · intro ts hts
      simp only [toksT, leafT] at hts
      rcases List.mem_cons.mp hts with rfl | hts
      · exact ⟨⟨by omega, by omega, (by decide : (34 : Nat) < 64)⟩, show 2 ≤ 8 by decide⟩
      rcases List.mem_append.mp hts with hts | hts
      · exact a2 _ hts
      rcases List.mem_append.mp hts with hts | hts
      · exact b2 _ hts
      · rw [List.mem_singleton.mp hts]; exact fine_one (by decide)
    · simp only [toksT, leafT, numsT, leafNums, List.map_cons, List.map_append, a3, b3]
      have e : (tval [(P k).nm, 34] : Int) = (((97 + k : Nat) : Int) - 64) * 64 + 34 := by
        have : (P k).nm % 64 = (P k).nm - 64 := by omega
        simp only [tval, List.foldl]
        rw [this, g.2]
        omega
      have e34 : (tval [34] : Int) = 34 := by decide
      rw [e, e34]
      simp
  | .node a b, d, g, hd => by
    obtain ⟨a1, a2, a3⟩ := toks_spec P a (d + 1) g.1 fun e he => hd e (List.mem_append.mpr (.inl he))
    obtain ⟨b1, b2, b3⟩ := toks_spec P b (d + 1) g.2 fun e he => hd e (List.mem_append.mpr (.inr he))
    refine ⟨?_, ?_, ?_⟩
    · simp only [toksT, rendD, List.flatten_append, List.flatten_cons, a1, b1]
      simp
    · intro ts hts
      simp only [toksT] at hts
      rcases List.mem_append.mp hts with hts | hts
      · rcases List.mem_cons.mp hts with rfl | hts
        · exact fine_one (by decide)
        rcases List.mem_append.mp hts with hts | hts
        · exact a2 _ hts
        · exact b2 _ hts
      · rw [List.mem_singleton.mp hts]; exact fine_one (by decide)
    · simp only [toksT, numsT, List.map_append, List.map_cons, a3, b3, List.map_nil]
      rfl
theorem told_tree (P : Nat → Paper) (n : Nat) : ∀ (t : Tree) (d : Nat) (r : List Nat), (∀ e ∈ t.leaves d, e.1 < n) → toldGo ((List.range n).map P) (t.word ++ r) d = numsT P t d ++ toldGo ((List.range n).map P) r d
  | .nil, _, _, _ => rfl
  | .leaf k, d, r, h => by
    have hk : k < n := h (k, d) (.head _)
    rw [Tree.word, List.singleton_append, toldGo, if_neg (by omega), if_neg (by omega), Nat.add_sub_cancel_left]
    rw [show ((List.range n).map P)[k]? = some (P k) by simp [hk]]
    rfl
  | .node a b, d, r, h => by
    have e : (Tree.node a b).word ++ r = 40 :: (a.word ++ (b.word ++ (41 :: r))) := by simp [Tree.word]
    have h41 : ¬ ((41 : Nat) = 40) := by decide
    have e1 : ((d : Int) + 1) = ((d + 1 : Nat) : Int) := by omega
    rw [e, toldGo, if_pos rfl, e1, told_tree P n a (d + 1) _ fun e he => h e (List.mem_append.mpr (.inl he)), told_tree P n b (d + 1) _ fun e he => h e (List.mem_append.mpr (.inr he)), toldGo, if_neg h41, if_pos rfl]
    have e2 : (((d + 1 : Nat) : Int) - 1) = (d : Int) := by omega
    rw [e2]
    simp [numsT]
noncomputable def leafOf (P : Nat → Paper) (e : Nat × Nat) : List Int := leafNums (P e.1) (97 + e.1) e.2
theorem nums_perm (P : Nat → Paper) : ∀ (t : Tree) (d : Nat), t.full = true → (numsT P t d).Perm (List.replicate t.nodes 40 ++ (List.replicate t.nodes 41 ++ (t.leaves d).flatMap (leafOf P)))
  | .nil, _, h => by cases h
  | .leaf k, d, _ => by simp [numsT, Tree.nodes, Tree.leaves, leafOf]
  | .node a b, d, h => by
    have hf : a.full = true ∧ b.full = true := by simpa [Tree.full] using h
    have ha := nums_perm P a (d + 1) hf.1
    have hb := nums_perm P b (d + 1) hf.2
    rw [List.perm_iff_count]
    intro c
    have ha' := List.perm_iff_count.mp ha c
    have hb' := List.perm_iff_count.mp hb c
    simp only [List.count_append] at ha' hb'
    simp only [numsT, Tree.nodes, Tree.leaves, List.count_append, List.count_cons, List.flatMap_append, List.replicate_succ, ← List.replicate_append_replicate, List.count_nil, ha', hb']
    omega
theorem mark_big {d u : Nat} (hu : u = 38 ∨ u = 60 ∨ u = 62) (hd : 1 ≤ d) : ((markNums d u).filter fun x => decide (4095 < x)).length = d := by
  have e1 : ((d : Int)).toNat = d := Int.toNat_natCast d
  have e2 : ((d : Int) - 1).toNat = d - 1 := by omega
  have h38 : ¬ ((4095 : Int) < 38) := by decide
  have ha : (4095 : Int) < ampN := by decide
  have hf : ∀ n, (List.replicate n ampN).filter (fun x => decide (4095 < x)) = List.replicate n ampN := fun n => List.filter_eq_self.mpr fun x hx => by rw [List.eq_of_mem_replicate hx]; simpa using ha
  have ht : (4095 : Int) < (if u = 60 then 44 * 64 ^ 2 + 52 * 64 + 59 else 39 * 64 ^ 2 + 52 * 64 + 59) := by split <;> decide
  unfold markNums
  rw [e1, e2]
  split
  · rw [List.filter_cons_of_neg (by simp), hf, List.length_replicate]
  · rw [List.cons_append, List.filter_cons_of_neg (by simp), List.filter_append, hf, List.filter_cons_of_pos (by simpa using ht), List.filter_nil, List.length_append, List.length_replicate, List.length_singleton]
    omega
theorem marks_big {d : Nat} (hd : 1 ≤ d) : ∀ {l : List Nat}, (∀ u ∈ l, u = 38 ∨ u = 60 ∨ u = 62) → ((l.flatMap (markNums d)).filter fun x => decide ((4095 : Int) < x)).length = l.length * d
  | [], _ => by simp
  | u :: r, h => by
    rw [List.flatMap_cons, List.filter_append, List.length_append, mark_big (h u (.head _)) hd, marks_big hd fun u hu => h u (.tail _ hu), List.length_cons, Nat.succ_mul, Nat.add_comm]
theorem leaf_big {p : Paper} (g : GoodP p) {k d : Nat} (hk : p.nm = 97 + k) (hd : 1 ≤ d) : ((leafNums p (97 + k) d).filter fun x => decide ((4095 : Int) < x)).length = p.signs.length * d := by
  have hn := g.nm
  have h1 : ¬ ((4095 : Int) < (((97 + k : Nat) : Int) - 64) * 64 + 34) := by omega
  have h2 : ((if 2 < p.cover.length then [(1826 : Int)] else []) ++ ((last2 p.cover).map Int.ofNat ++ [34])).filter (fun x => decide ((4095 : Int) < x)) = [] := by
    rcases g.cov with h | h | h | h <;> rw [h] <;> decide
  unfold leafNums
  rw [List.filter_cons_of_neg (by simpa using h1), List.filter_append, h2, List.append_nil, marks_big hd g.sg]
theorem nums_big (P : Nat → Paper) : ∀ (t : Tree) (d : Nat), Good P t → (∀ e ∈ t.leaves d, 1 ≤ e.2) → ((numsT P t d).filter fun x => decide ((4095 : Int) < x)).length = ((t.leaves d).map fun e => (P e.1).signs.length * e.2).sum
  | .nil, _, _, _ => rfl
  | .leaf k, d, g, hd => by
    rw [numsT, leaf_big g.1 g.2 (hd (k, d) (.head _))]
    simp [Tree.leaves]
  | .node a b, d, g, hd => by
    have ha := nums_big P a (d + 1) g.1 fun e he => hd e (List.mem_append.mpr (.inl he))
    have hb := nums_big P b (d + 1) g.2 fun e he => hd e (List.mem_append.mpr (.inr he))
    have h40 : ¬ ((4095 : Int) < 40) := by decide
    have h41 : ¬ ((4095 : Int) < 41) := by decide
    rw [numsT, List.cons_append, List.filter_cons_of_neg (by simp), List.filter_append, List.filter_append, List.length_append, List.length_append, ha, hb]
    simp [Tree.leaves]
theorem ne_toks (P : Nat → Paper) : ∀ (t : Tree) (d : Nat), t.full = true → toksT P t d ≠ []
  | .nil, _, h => by cases h
  | .leaf k, d, _ => by simp [toksT, leafT]
  | .node a b, d, _ => by simp [toksT]
end

section
open PySem
set_option autoImplicit false
set_option maxRecDepth 100000
set_option maxHeartbeats 2000000
noncomputable def mapR {α β : Type} (h : α → β) (row : List (Int × α)) : List (Int × β) := row.map fun e => (e.1, h e.2)
theorem mapR_fst {α β : Type} (h : α → β) (row : List (Int × α)) : (mapR h row).map (·.1) = row.map (·.1) := by simp [mapR, Function.comp]
theorem mapR_getD {α β : Type} (h : α → β) (z : α) (row : List (Int × α)) (k : Nat) : (mapR h row).getD k (0, h z) = ((row.getD k (0, z)).1, h (row.getD k (0, z)).2) := by
  simp only [mapR, List.getD_eq_getElem?_getD, List.getElem?_map]
  cases row[k]? <;> rfl
section
variable {α β : Type} {h : α → β} {cmb : α → α → α} {cmb' : β → β → β} {z : α} {G : α → Prop}
theorem getD_good (hz : G z) {row : List (Int × α)} (hr : ∀ e ∈ row, G e.2) (k : Nat) : G (row.getD k (0, z)).2 := by
  rw [List.getD_eq_getElem?_getD]
  cases q : row[k]? with
  | none => exact hz
  | some e => exact hr e (List.mem_of_getElem? q)
theorem nestStep_map (hz : G z) (hc : ∀ a b, G a → G b → h (cmb a b) = cmb' (h a) (h b)) {row : List (Int × α)} (hr : ∀ e ∈ row, G e.2) : nestStep cmb' (h z) (mapR h row) = mapR h (nestStep cmb z row) := by
  unfold nestStep
  rw [mapR_fst, mapR_getD, mapR_getD]
  dsimp only
  rw [← hc _ _ (getD_good hz hr _) (getD_good hz hr _)]
  simp [mapR, List.map_take, List.map_drop]
theorem nestStep_good (hz : G z) (hcG : ∀ a b, G a → G b → G (cmb a b)) {row : List (Int × α)} (hr : ∀ e ∈ row, G e.2) : ∀ e ∈ nestStep cmb z row, G e.2 := by
  intro e he
  unfold nestStep at he
  rcases List.mem_append.mp he with he | he
  · rcases List.mem_append.mp he with he | he
    · rcases List.mem_append.mp he with he | he
      · exact hr e (List.mem_of_mem_take he)
      · rw [List.mem_singleton.mp he]; exact hcG _ _ (getD_good hz hr _) (getD_good hz hr _)
    · exact hr e (List.mem_of_mem_drop (List.mem_of_mem_take he))
  · exact hr e (List.mem_of_mem_drop he)
theorem nestN_map (hz : G z) (hc : ∀ a b, G a → G b → h (cmb a b) = cmb' (h a) (h b)) (hcG : ∀ a b, G a → G b → G (cmb a b)) : ∀ (n : Nat) {row : List (Int × α)}, (∀ e ∈ row, G e.2) → nestN cmb' (h z) n (mapR h row) = mapR h (nestN cmb z n row) ∧ ∀ e ∈ nestN cmb z n row, G e.2
  | 0, row, hr => ⟨rfl, hr⟩
  | n + 1, row, hr => by
    have hl : (mapR h row).length = row.length := by simp [mapR]
    rw [nestN, nestN, hl]
    split
    · rw [nestStep_map hz hc hr]
      exact nestN_map hz hc hcG n (nestStep_good hz hcG hr)
    · exact ⟨rfl, hr⟩
end
section
variable (P : Nat → Paper)
noncomputable def rd (t : Tree) : List Nat := rendD P t 0
theorem rd_comb {a b : Tree} (ga : Good P a) (gb : Good P b) : rd P (.node a b) = comb (rd P a) (rd P b) := by
  unfold rd comb
  rw [escL_append, escL_rend tokC P a 0 ga, escL_rend tokC P b 0 gb]
  rfl
theorem rd_combN {a b : Tree} (ga : Good P a) (gb : Good P b) : rd P (.node a b) = 40 :: escL tblN (rd P a ++ rd P b) ++ [41] := by
  unfold rd
  rw [escL_append, escL_rend tokN P a 0 ga, escL_rend tokN P b 0 gb]
  rfl
theorem nestOk_of : ∀ (n : Nat) {row : List (Int × Tree)}, (∀ e ∈ row, Good P e.2) → nestOkT n row = true → nestOk n (mapR (rd P) row)
  | 0, _, _, _ => trivial
  | n + 1, row, hr, h => by
    have hl : (mapR (rd P) row).length = row.length := by simp [mapR]
    have hz : Good P .nil := trivial
    rw [nestOk, hl]
    rw [nestOkT] at h
    split
    · next h1 =>
      rw [if_pos h1, Bool.and_eq_true, decide_eq_true_eq] at h
      refine ⟨?_, ?_⟩
      · have e := fun k => mapR_getD (rd P) Tree.nil row k
        rw [show rd P .nil = ([] : List Nat) from rfl] at e
        rw [mapR_fst, e, e, List.length_append]
        have l1 := len_rend P _ 0 (getD_good (G := Good P) hz hr (kOf (row.map (·.1))))
        have l2 := len_rend P _ 0 (getD_good (G := Good P) hz hr (kOf (row.map (·.1)) + 1))
        unfold rd
        dsimp only
        omega
      · have e := nestStep_map (h := rd P) (cmb := Tree.node) (cmb' := comb) (z := Tree.nil) (G := Good P) hz (fun a b ga gb => rd_comb P ga gb) hr
        rw [show rd P .nil = ([] : List Nat) from rfl] at e
        rw [e]
        exact nestOk_of n (nestStep_good (cmb := Tree.node) (G := Good P) hz (fun a b ga gb => ⟨ga, gb⟩) hr) h.2
    · trivial
theorem push_map : ∀ {st : List (Int × Tree)} {d : Int} {t : Tree}, (∀ e ∈ st, Good P e.2) → Good P t → pushS (mapR (rd P) st) d (rd P t) = mapR (rd P) (pushT st d t) ∧ (∀ e ∈ pushT st d t, Good P e.2) ∧ (pushOkT st d t = true → pushOk (mapR (rd P) st) d (rd P t))
  | [], d, t, _, g => ⟨rfl, fun e he => by rw [List.mem_singleton.mp he]; exact g, fun _ => trivial⟩
  | (d', t') :: r, d, t, hs, g => by
    have gt : Good P t' := hs _ (.head _)
    rw [show mapR (rd P) ((d', t') :: r) = (d', rd P t') :: mapR (rd P) r from rfl, pushS, pushT, pushOk, pushOkT]
    by_cases e : d' = d
    · rw [if_pos e, if_pos e, if_pos e, if_pos e, ← rd_combN P gt g]
      obtain ⟨a1, a2, a3⟩ := push_map (st := r) (d := d - 1) (t := .node t' t) (fun e he => hs e (.tail _ he)) ⟨gt, g⟩
      refine ⟨a1, a2, fun h => ?_⟩
      rw [Bool.and_eq_true, decide_eq_true_eq] at h
      refine ⟨?_, a3 h.2⟩
      have l1 := len_rend P t' 0 gt
      have l2 := len_rend P t 0 g
      rw [List.length_append]
      unfold rd
      omega
    · rw [if_neg e, if_neg e, if_neg e, if_neg e]
      refine ⟨rfl, fun e he => ?_, fun _ => trivial⟩
      rcases List.mem_cons.mp he with rfl | he
      · exact g
      · exact hs e he
theorem pile_map (w : List Nat) : ∀ (ks : List Nat) {st : List (Int × Tree)}, (∀ k ∈ ks, GoodP (P k) ∧ (P k).nm = 97 + k) → (∀ e ∈ st, Good P e.2) → pileOf w (ks.map P) (mapR (rd P) st) = mapR (rd P) (pileT w ks st) ∧ (∀ e ∈ pileT w ks st, Good P e.2) ∧ (pileOkT w ks st = true → pileOk w (ks.map P) (mapR (rd P) st))
  | [], _, _, hs => ⟨rfl, hs, fun _ => trivial⟩
  | k :: r, st, hk, hs => by
    have g : Good P (.leaf k) := hk k (.head _)
    obtain ⟨a1, a2, a3⟩ := push_map P (d := depthAt w (97 + k)) hs g
    obtain ⟨b1, b2, b3⟩ := pile_map w r (fun k hm => hk k (.tail _ hm)) a2
    rw [List.map_cons, pileOf, pileT, pileOk, pileOkT, leafText_eq, (hk k (.head _)).2]
    rw [show leafD (P k) 0 = rd P (.leaf k) from rfl, a1]
    refine ⟨b1, b2, fun h => ?_⟩
    rw [Bool.and_eq_true] at h
    exact ⟨a3 h.1, b3 h.2⟩
end
theorem subs_word : ∀ (t : Tree) (d : Nat), subs 41 [] (subs 40 [] t.word) = (t.leaves d).map fun e => 97 + e.1
  | .nil, _ => rfl
  | .leaf k, d => by
    have h1 : ¬ (97 + k = 40) := by omega
    have h2 : ¬ (97 + k = 41) := by omega
    simp [Tree.word, Tree.leaves, subs, h1, h2]
  | .node a b, d => by
    have e : (Tree.node a b).word = [40] ++ (a.word ++ b.word) ++ [41] := rfl
    rw [e, subs_append, subs_append, subs_append, subs_append, subs_append, subs_append, subs_word a (d + 1), subs_word b (d + 1)]
    simp [subs, Tree.leaves]
theorem mark_len {d u : Nat} (hd : 1 ≤ d) : (markNums d u).length = 1 + d := by
  have e1 : ((d : Int)).toNat = d := Int.toNat_natCast d
  have e2 : ((d : Int) - 1).toNat = d - 1 := by omega
  unfold markNums
  rw [e1, e2]
  split
  · simp; omega
  · simp; omega
theorem marks_len {d : Nat} (hd : 1 ≤ d) : ∀ l : List Nat, (l.flatMap (markNums d)).length = l.length * (1 + d)
  | [] => by simp
  | u :: r => by rw [List.flatMap_cons, List.length_append, mark_len hd, marks_len hd r, List.length_cons, Nat.succ_mul, Nat.add_comm]
theorem nums_len (P : Nat → Paper) : ∀ (t : Tree) (d : Nat), Good P t → (∀ e ∈ t.leaves d, 1 ≤ e.2) → (numsT P t d).length ≤ 2 * t.nodes + ((t.leaves d).map fun e => 5 + (P e.1).signs.length * (1 + e.2)).sum
  | .nil, _, _, _ => Nat.zero_le _
  | .leaf k, d, g, hd => by
    have h1 : 1 ≤ d := hd (k, d) (.head _)
    have h2 : (last2 (P k).cover).length = 2 := by rcases g.1.cov with h | h | h | h <;> rw [h] <;> rfl
    have h3 : (if 2 < (P k).cover.length then [(1826 : Int)] else []).length ≤ 1 := by split <;> simp
    simp only [numsT, leafNums, List.length_cons, List.length_append, marks_len h1, List.length_map, h2, Tree.leaves, Tree.nodes, List.map_cons, List.map_nil, List.sum_cons, List.sum_nil, List.length_nil]
    omega
  | .node a b, d, g, hd => by
    have ha := nums_len P a (d + 1) g.1 fun e he => hd e (List.mem_append.mpr (.inl he))
    have hb := nums_len P b (d + 1) g.2 fun e he => hd e (List.mem_append.mpr (.inr he))
    simp only [numsT, Tree.leaves, Tree.nodes, List.length_cons, List.length_append, List.length_nil, List.map_append, List.sum_append]
    omega
structure LawFacts (ns : List Int) (n : Nat) (t1 t2 : Tree) : Prop where
  hn : n = 4 ∨ n = 5
  ps : papersOf ns = (List.range n).map (paperOf ns)
  good : ∀ k, k < n → GoodP (paperOf ns k) ∧ (paperOf ns k).nm = 97 + k
  g1 : Good (paperOf ns) t1
  g2 : Good (paperOf ns) t2
  nok : nestOk n ((papersOf ns).map leafRow)
  nest : ((nestN comb [] n ((papersOf ns).map leafRow)).getD 0 (0, [])).2 = rendD (paperOf ns) t1 0
  big : ((numsT (paperOf ns) t1 0).filter fun x => decide ((4095 : Int) < x)).length = least n ((papersOf ns).map fun p => p.signs.length)
  pok : pileOk t1.word (papersOf ns) []
  pile : pileOf t1.word (papersOf ns) [] = [(0, rendD (paperOf ns) t2 0)]
  perm : (numsT (paperOf ns) t2 0).Perm (numsT (paperOf ns) t1 0)
  order : subs 41 [] (subs 40 [] t2.word) = (List.range n).map fun k => 97 + k
  full1 : t1.full = true
  full2 : t2.full = true
  dep1 : ∀ e ∈ t1.leaves 0, 1 ≤ e.2
  dep2 : ∀ e ∈ t2.leaves 0, 1 ≤ e.2
  lt2 : ∀ e ∈ t2.leaves 0, e.1 < n
  len1 : (rendD (paperOf ns) t1 0).length ≤ 1000
  len2 : (rendD (paperOf ns) t2 0).length ≤ 1000
  lenA2 : (escL tblA (rendD (paperOf ns) t2 0)).length ≤ 1000
  w1 : t1.word.length ≤ 100
  w2 : t2.word.length ≤ 100
  nlen : (numsT (paperOf ns) t1 0).length ≤ 127
theorem signOf_mem (j : Nat) : signOf j = 38 ∨ signOf j = 60 ∨ signOf j = 62 := by
  unfold signOf
  split
  · exact .inl rfl
  · exact .inr (.inl rfl)
  · exact .inr (.inr rfl)
theorem paper_good (ns : List Int) (k : Nat) (hk : k < 5) : GoodP (paperOf ns k) ∧ (paperOf ns k).nm = 97 + k := by
  refine ⟨⟨?_, ?_, ?_, ?_⟩, rfl⟩
  · show 97 ≤ 97 + k ∧ 97 + k ≤ 101; omega
  · intro u hu
    obtain ⟨i, _, rfl⟩ := List.mem_map.mp hu
    exact signOf_mem _
  · show (signsOf _).length ≤ 4
    rw [signsOf, List.length_map, List.length_range]; omega
  · show coverOf _ = _ ∨ coverOf _ = _ ∨ coverOf _ = _ ∨ coverOf _ = _
    unfold coverOf
    split
    · exact .inl rfl
    · exact .inr (.inl rfl)
    · exact .inr (.inr (.inl rfl))
    · exact .inr (.inr (.inr rfl))
theorem good_of (P : Nat → Paper) (n : Nat) (h : ∀ k, k < n → GoodP (P k) ∧ (P k).nm = 97 + k) : ∀ (t : Tree) (d : Nat), (∀ e ∈ t.leaves d, e.1 < n) → Good P t
  | .nil, _, _ => trivial
  | .leaf k, d, hl => h k (hl (k, d) (.head _))
  | .node a b, d, hl => ⟨good_of P n h a (d + 1) fun e he => hl e (List.mem_append.mpr (.inl he)), good_of P n h b (d + 1) fun e he => hl e (List.mem_append.mpr (.inr he))⟩
theorem facts_of (ns : List Int) (n : Nat) (hn : n = 4 ∨ n = 5) (hps : papersOf ns = (List.range n).map (paperOf ns)) (hc : chk ((List.range n).map fun k => (paperOf ns k).signs.length) = true) : ∃ t1 t2, LawFacts ns n t1 t2 := by
  obtain ⟨P, hP⟩ : ∃ P, P = paperOf ns := ⟨_, rfl⟩
  obtain ⟨ws, hws⟩ : ∃ ws, ws = (List.range n).map fun k => (P k).signs.length := ⟨_, rfl⟩
  have hgood : ∀ k, k < n → GoodP (P k) ∧ (P k).nm = 97 + k := fun k hk => hP ▸ paper_good ns k (by omega)
  have hwl : ws.length = n := by rw [hws]; simp
  rw [← hP, ← hws] at hc
  rw [← hP] at hps
  have hw : ∀ k, k < n → ws.getD k 0 = (P k).signs.length := fun k hk => by
    rw [hws, List.getD_eq_getElem?_getD, List.getElem?_map, List.getElem?_range hk]; rfl
  have hrow : (papersOf ns).map leafRow = mapR (rd P) (row0 ws) := by
    rw [hps, row0, hwl, mapR, List.map_map, List.map_map]
    refine List.map_congr_left fun k hk => ?_
    have hk := List.mem_range.mp hk
    simp only [Function.comp, leafRow, leafText_eq, hw k hk]
    rfl
  have hr0 : ∀ e ∈ row0 ws, Good P e.2 := fun e he => by
    obtain ⟨k, hk, rfl⟩ := List.mem_map.mp he
    exact hgood k (by rw [← hwl]; exact List.mem_range.mp hk)
  simp only [chk, forceT_eq, Bool.and_eq_true] at hc
  obtain ⟨c1, ⟨⟨⟨⟨c2, c3⟩, c4⟩, c6⟩, c5⟩⟩ := hc
  rw [hwl] at c1 c2 c3 c4 c5
  obtain ⟨t1, ht1⟩ : ∃ t1, t1 = tree1 ws := ⟨_, rfl⟩
  rw [← ht1] at c2 c3 c4 c5 c6
  simp only [okTree, Bool.and_eq_true, List.all_eq_true, decide_eq_true_eq] at c2
  obtain ⟨⟨⟨⟨f1, l1⟩, la1⟩, wl1⟩, dl1⟩ := c2
  have g1 : Good P t1 := good_of P n hgood t1 0 fun e he => (dl1 e he).2
  have hpm := pile_map P t1.word (List.range n) (st := []) (fun k hk => hgood k (List.mem_range.mp hk)) (fun _ h => nomatch h)
  rw [← hps] at hpm
  cases hpt : pileT t1.word (List.range n) [] with
  | nil => rw [hpt] at c5; cases c5
  | cons e r =>
    obtain ⟨d, t2⟩ := e
    cases r with
    | cons _ _ => rw [hpt] at c5; cases c5
    | nil =>
      rw [hpt] at c5
      simp only [okTree, forceT_eq, Bool.and_eq_true, List.all_eq_true, decide_eq_true_eq, beq_iff_eq] at c5
      obtain ⟨hd, ⟨⟨⟨⟨⟨⟨⟨f2, l2⟩, la2⟩, wl2⟩, dl2⟩, ho⟩, hp⟩, hnd⟩⟩ := c5
      have hp' := List.isPerm_iff.mp hp
      have g2 : Good P t2 := good_of P n hgood t2 0 fun e he => (dl2 e he).2
      have hnm := nestN_map (h := rd P) (cmb := Tree.node) (cmb' := comb) (z := Tree.nil) (G := Good P) trivial (fun a b ga gb => rd_comb P ga gb) (fun a b ga gb => ⟨ga, gb⟩) n hr0
      refine ⟨t1, t2, hn, by rw [hps, hP], by rw [← hP]; exact hgood, hP ▸ g1, hP ▸ g2, ?_, ?_, ?_, ?_, ?_, ?_, ?_, f1, f2, fun e he => (dl1 e he).1, fun e he => (dl2 e he).1, fun e he => (dl2 e he).2, ?_, ?_, ?_, wl1, wl2, ?_⟩
      · rw [hrow]; exact nestOk_of P n hr0 c1
      · rw [hrow, show ([] : List Nat) = rd P .nil from rfl, hnm.1, mapR_getD, ht1, ← hP]
        rw [tree1, hwl]; rfl
      · rw [← hP, nums_big P t1 0 g1 fun e he => (dl1 e he).1, hps, List.map_map]
        rw [show ((fun p : Paper => p.signs.length) ∘ P) = fun k => (P k).signs.length from rfl, ← hws, ← (beq_iff_eq.mp c4 : costOf ws (t1.leaves 0) = least n ws), costOf]
        congr 1
        refine List.map_congr_left fun e he => ?_
        rw [hw e.1 (dl1 e he).2]
      · exact hpm.2.2 c3
      · have := hpm.1
        rw [hpt] at this
        rw [show ([] : List (Int × List Nat)) = mapR (rd P) [] from rfl, this, hd, ← hP]; rfl
      · rw [← hP]
        refine (nums_perm P t2 0 f2).trans (List.Perm.trans ?_ (nums_perm P t1 0 f1).symm)
        rw [hnd]
        exact List.Perm.append_left _ (List.Perm.append_left _ (hp'.symm.flatMap_right _))
      · rw [subs_word t2 0, ← ho, List.map_map]; rfl
      · rw [← hP]; exact Nat.le_trans (len_rend P t1 0 g1) l1
      · rw [← hP]; exact Nat.le_trans (len_rend P t2 0 g2) l2
      · rw [← hP]; exact Nat.le_trans (att_rend P t2 0 g2).2.2 la2
      · rw [← hP]
        refine Nat.le_trans (nums_len P t1 0 g1 fun e he => (dl1 e he).1) ?_
        have e : ((t1.leaves 0).map fun e => 5 + (P e.1).signs.length * (1 + e.2)) = (t1.leaves 0).map fun e => 5 + ws.getD e.1 0 * (1 + e.2) := List.map_congr_left fun e he => by rw [hw e.1 (dl1 e he).2]
        rw [e]
        exact of_decide_eq_true c6
theorem law_facts (ns : List Int) : ∃ n t1 t2, LawFacts ns n t1 t2 := by
  have hl : ∀ n, (∀ c ∈ (List.range n).map fun k => (paperOf ns k).signs.length, 1 ≤ c ∧ c ≤ 4) := fun n c hc => by
    obtain ⟨k, _, rfl⟩ := List.mem_map.mp hc
    show 1 ≤ (signsOf _).length ∧ (signsOf _).length ≤ 4
    rw [signsOf, List.length_map, List.length_range]; omega
  by_cases h : 2 < ns.length
  · obtain ⟨t1, t2, hf⟩ := facts_of ns 5 (.inr rfl) (by rw [papersOf, if_pos h]) (List.all_eq_true.mp chk5 _ (allW_mem (by simp) (hl 5)))
    exact ⟨5, t1, t2, hf⟩
  · obtain ⟨t1, t2, hf⟩ := facts_of ns 4 (.inl rfl) (by rw [papersOf, if_neg h]) (List.all_eq_true.mp chk4 _ (allW_mem (by simp) (hl 4)))
    exact ⟨4, t1, t2, hf⟩
end

end

section
open PySem PySem.W PyProof.Rows PySem.Calls PySem.Spec
set_option autoImplicit false
set_option Elab.async false
set_option maxRecDepth 100000
set_option maxHeartbeats 8000000
theorem fillP : PySem.Challenge.rw_wb0031_01 = PySem.Challenge.rw_wb0031_01 ∧ hd.heap_39 = hd.heap_39 := by
  k_fill
  exact ⟨rfl, rfl⟩
local macro_rules | `(tactic| walk_at "my stop") => `(tactic| first
  | (with_reducible show wpAny _ _ (binaryOp Operator.FloorDiv _ (Value.int (3 ^ _) _)) _ _ _)
  | (with_reducible show wpAny _ _ (call (Value.builtin "str.join") _ _) _ _ _))
local macro_rules | `(tactic| k_all) => `(tactic| assumption)
inductive JQ (L' a : Addr) (ns : List Int) (i : Nat) (m : Str → Option Value) (news : List (Addr × Obj)) (tk : Nat) : Prop
  | mk (nl : Addr) (nn : Nat) (co : Obj) (vs : List Value) (ts : List (Addr × Obj)) (_ : news = (nl, W.listOf vs.toArray nn) :: (L' + 1, co) :: ts) (_ : L' + 1 < nl) (_ : (∃ v, co.data = .cell v)) (_ : (∀ p ∈ ts, p.1 ≠ nl)) (_ : (∀ p ∈ ts, p.1 ≠ L' + 1)) (_ : PapV tk (fun a o => (a, o) ∈ ts) vs ((List.range i).map (paperOf ns))) (_ : m (Str.ofString "script") = some (.ref a)) (_ : m (Str.ofString "papers") = some (.ref nl)) : JQ L' a ns i m news tk
section
variable {w : World} {A : Around} {s : Shared} {Q E : Value → Shared → Prop}
theorem con_papers {a : Addr} {vs : List Value} {ns : List Int} (P : Pl w A 1 8 s.heap) (hL : s.heap.IsList a vs.toArray) (hi : IntsAre vs ns) (h63 : ns.length ≤ 63)
    (hret : ∀ h' b vs2 n2 ts tk', (∀ b o, s.heap.get? b = some o → h'.get? b = some o) → (∀ p ∈ (b, W.listOf (List.toArray vs2) n2) :: ts, h'.get? p.1 = some p.2 ∧ s.heap.get? p.1 = none) → PapV tk' (fun a o => (a, o) ∈ ts) vs2 (papersOf ns) → Q (.ref b) ⟨h', s.gens, s.drawn, tk', s.os⟩) :
    wpAny (model PySem.Challenge.rw_wb0031_01.row.prog w) A (call (.ref 75) [.ref a]) Q E s := by
  obtain ⟨hp, g, d, tk0, os⟩ := s
  have hh : A.handled = none := P.hnd
  refine wpAny_call ?_
  refine' enterC (binds := [(Str.ofString "script", .ref a)]) P ?k6 ?k7 ?k9 ?kB ?kC ?_ ?c2 ?c3 ?c4
  case k6 => k_is
  case k7 => k_is
  case k9 => exact BindsTo.of_eq rfl
  case kB => exact fun n => ⟨.inl rfl, trivial⟩
  case kC => decide
  case c2 => rfl
  case c3 => rfl
  case c4 => rfl
  intro mean mg mb base outer L' h₁ tk1 cells F1 N1 C1 G1
  dsimp only at F1 N1 G1 hret hL
  have B := G1.B
  have X := G1.X
  have T : Top hd.view_39 (looseW hd.view_39 []) mean mg mb _ := G1.T
  (try dsimp only at B X T)
  obtain ⟨co, rfl, hco⟩ := C1.one
  clear C1
  have hco' : co.data = .cell none := hco
  have F2 : Fr hp L' h₁ (fun y => if y = Str.ofString "script" then some (.ref a) else none) := F1
  clear F1 hco
  have hlen : vs.length = ns.length := hi.length
  walk_at "my hop"
  walk_at "my steps"
  refine wpAny_For ?_
  walk_at "my steps"
  rename L' + 1 < _ => hnl
  refine if_const fun N hN => ?_
  have hN' : N = ((if 2 < ns.length then 5 else 4 : Nat) : Int) := by
    rw [hN]
    by_cases h : 2 < ns.length
    · rw [if_pos h, if_pos (by simpa using by omega)]; rfl
    · rw [if_neg h, if_neg (by simpa using by omega)]; rfl
  have hN5 : 0 ≤ N ∧ N ≤ 5 := by rw [hN']; split <;> decide
  clear hN
  walk_at "my steps"
  rename Fr _ _ _ _ => F3
  rename News _ _ _ _ => N3
  rename IsRange _ _ _ _ _ _ _ _ => hr
  obtain ⟨nl, hnl, F3, N3⟩ : ∃ nl : Addr, L' + 1 < nl ∧ Fr hp L' _ (fun y => if y = Str.ofString "papers" then some (.ref nl) else if y = Str.ofString "script" then some (.ref a) else none) ∧ News hp L' _ [(nl, W.listOf #[] 0), (L' + 1, co)] := ⟨_, hnl, F3, N3⟩
  refine wpAny_pyIter_range hr (small_one (by omega) (by omega) (by omega) (by omega)) ?_
  (try dsimp only)
  rename_i h3 _ _ _ _ _ _ _
  have F4 := Fr.push F3 { cls := .type "range_iterator", data := .fields #[rawInt 0, rawInt (Builtin.Range.rangeSize 0 N 1), rawInt 1] }
  have N4 := news_keep N3 fun b o e => Heap.get?_push_of_some { cls := .type "range_iterator", data := .fields #[rawInt 0, rawInt (Builtin.Range.rangeSize 0 N 1), rawInt 1] } e
  have hI0 : hp.get? h3.objs.size = none := by
    cases q : hp.get? h3.objs.size with
    | none => rfl
    | some o => exact absurd (Heap.lt_size (F3.keep _ _ q)) (Nat.lt_irrefl _)
  have hIL : L' ≠ h3.objs.size := Nat.ne_of_lt F3.ns.lt
  have hIn : ∀ p ∈ [(nl, W.listOf #[] 0), (L' + 1, co)], p.1 ≠ h3.objs.size := fun p hp => Nat.ne_of_lt (Heap.lt_size (N3 p hp).1)
  have hsz : Builtin.Range.rangeSize 0 N 1 = N := by rw [rangeSize_one]; split <;> omega
  refine for_walkH (L := L') (Walks.range (A := A.deeper _) hh h3.objs.size 0 1 N.toNat) rfl ?w1 ?w2 ?w3 ?w4 F4 N4 ?w5
    (fun i m news tk => JQ L' a ns i m news tk) ?w6 ?w7 ?step ?hR
  case w1 => exact fun h => hIL (List.mem_singleton.mp h)
  case w2 => exact fun b hb => List.mem_singleton.mp hb ▸ hI0
  case w3 => exact fun p hp hb => hIn p hp (List.mem_singleton.mp hb)
  case w4 =>
    show IsRangeIter _ _ _ _ _
    rw [hsz]
    have e1 : (0 : Int) + (0 : Nat) * 1 = 0 := rfl
    have e2 : ((N.toNat : Nat) : Int) - (0 : Nat) = N := by omega
    rw [e1, e2]
    exact Heap.get?_push_size _ rfl
  case w5 => exact fun i s' v Q' hst hq => wpAny_pure hq
  case w6 => exact ⟨nl, 0, co, [], [], rfl, hnl, ⟨_, hco'⟩, (fun _ h => nomatch h), (fun _ h => nomatch h), .nil, rfl, rfl⟩
  case w7 => exact fun i m news tk tk' hle ⟨nl, nn, co, vs, ts, a1, a2, a3, a4, a5, a6, a7, a8⟩ => ⟨nl, nn, co, vs, ts, a1, a2, a3, a4, a5, a6.mono hle fun _ _ h => h, a7, a8⟩
  case hR =>
    rintro h' tk m' news' htk F5 N5 hnw ⟨nl, nn, co, vs, ts, rfl, hnl, _, _, _, hv, e1, e2⟩
    (try dsimp only)
    have F6 := fr_norm2 (x1 := Str.ofString "script") (x2 := Str.ofString "papers") F5 e1 e2
    walk_at "my steps"
    refine hret h' nl vs nn ts _ F5.keep (fun p hp => ?_) ?_
    · rcases List.mem_cons.mp hp with rfl | hp
      · exact ⟨(N5 _ (.head _)).1, (N5 _ (.head _)).2.2⟩
      · exact ⟨(N5 _ (.tail _ (.tail _ hp))).1, (N5 _ (.tail _ (.tail _ hp))).2.2⟩
    have : papersOf ns = (List.range N.toNat).map (paperOf ns) := by unfold papersOf; rw [hN', Int.toNat_natCast]
    rw [this]
    exact hv
  case step =>
    rintro i v m₁ news₁ hp1 tk2 own hi ⟨kt, rfl⟩ ⟨nl, nn, co, vs, ts, rfl, hnl, ⟨v0, hco⟩, ht1, ht2, hvs, e1, e2⟩ htk2 hnw hown hown3 hst F5 N5 Pk Ek1 Ek2 hPk
    have F6 := fr_norm2 (x1 := Str.ofString "script") (x2 := Str.ofString "papers") F5 e1 e2
    have hoL : ∀ p ∈ own, p.1 = h3.objs.size := fun p hp => List.mem_singleton.mp (hown p hp)
    have hn1 : nl ≠ h3.objs.size := fun q => hnw _ (.head _) (List.mem_singleton.mpr q)
    have hn2 : L' + 1 ≠ h3.objs.size := fun q => hnw _ (.tail _ (.head _)) (List.mem_singleton.mpr q)
    obtain ⟨rest, hrest⟩ : ∃ rest, rest = own ++ ts := ⟨_, rfl⟩
    have hr1 : ∀ p ∈ rest, p.1 ≠ nl := fun p hp => by
      rw [hrest] at hp
      rcases List.mem_append.mp hp with hp | hp
      · rw [hoL p hp]; exact hn1.symm
      · exact ht1 p hp
    have hr2 : ∀ p ∈ rest, p.1 ≠ L' + 1 := fun p hp => by
      rw [hrest] at hp
      rcases List.mem_append.mp hp with hp | hp
      · rw [hoL p hp]; exact hn2.symm
      · exact ht2 p hp
    have N6 : News hp L' hp1 ((nl, W.listOf vs.toArray nn) :: (L' + 1, co) :: rest) := fun p hp => by
      refine N5 p ?_
      rw [hrest] at hp
      rcases List.mem_cons.mp hp with rfl | hp
      · exact List.mem_append.mpr (.inr (.head _))
      rcases List.mem_cons.mp hp with rfl | hp
      · exact List.mem_append.mpr (.inr (.tail _ (.head _)))
      rcases List.mem_append.mp hp with hp | hp
      · exact List.mem_append.mpr (.inl hp)
      · exact List.mem_append.mpr (.inr (.tail _ (.tail _ hp)))
    clear F5 N5 F4 N4 F3 N3
    dsimp only at F6 N6 ⊢
    have hk0 : (0 + (i : Int) * 1).toNat = i := by omega
    have hk1 : (0 + (i : Int) * 1) = (i : Int) := by omega
    rw [hk1]
    walk_at "my steps"
    refine if_int (X := ns.getD i 0) (fun hc => ?_) (fun hc => ?_) (fun tX tkX => ?_)
    · walk_at "my steps"
      exact ⟨_, _, congrArg (fun j => Value.int (ns.getD j 0) _) (Int.toNat_natCast i), rfl⟩
    · walk_at "my steps"
      have hc2 : ¬ i < ns.length := fun q => hc (by simpa using q)
      have e0 : (0 : Int) = ns.getD i 0 := by
        rw [List.getD_eq_getElem?_getD, List.getElem?_eq_none (by omega)]
        rfl
      exact ⟨_, _, congrArg (fun j => Value.int j _) e0, rfl⟩
    walk_at "my steps"
    rw [show (([87, 346, 649, 1001, 0] : List Int).getD (i : Int).toNat 0 + ns.getD i 0).fmod 1296 = ((drawnOf ns i : Nat) : Int) from drawn_eq ns i]
    rename Fr _ _ _ _ => F7
    rename News _ _ _ _ => N7
    rename _ ∧ _ ∧ AllLt _ _ => hlt
    obtain ⟨hlt1, hlt2, hlt3⟩ := hlt
    refine' storeX_C F7 N7 ?s1 ?s2 hco ?_ ?s3 ?s4
    case s1 => rfl
    case s3 => rfl
    case s4 => rfl
    case s2 => exact UpdF.tail (Nat.ne_of_gt hlt2) (UpdF.tail (Nat.ne_of_gt hnl) (UpdF.head hr2))
    intro h8 co8 F8 N8 hco8
    (try dsimp only at N8)
    clear F7 N7
    have hne8 : nl ≠ L' + 1 := Nat.ne_of_gt hnl
    replace N8 := fun p hp => N8 p (List.Mem.tail _ hp)
    replace N8 : News hp L' h8 ((nl, W.listOf vs.toArray nn) :: (L' + 1, co8) :: rest) := N8
    have hdl := drawn_lt ns i
    walk_at "my steps"
    generalize hD : drawnOf ns i = D at hco8 hdl
    refine ListComp_DCr (h₀ := hp) (L := L') (m := fun y => if y = Str.ofString "k" then some (.int (i : Int) kt) else if y = Str.ofString "script" then some (.ref a) else if y = Str.ofString "papers" then some (.ref nl) else m₁ y) (cl := cellsFrom (L' + 1) [(Str.ofString "drawn", NameKind.cell)] []) (pz := fun _ => true) (d := fun j => .str ⟨#[signOf (D / 4 / 3 ^ j.toNat % 3)]⟩) ?b0 ?b1 ?b2 ?b3 ?b4 ?b5 ?_ ?b6
    case b0 => exact hh
    case b1 => rfl
    case b2 => decide
    case b3 => rfl
    case b4 => decide
    case b5 => rfl
    case b6 => exact fun _ => rfl
    walk_at "my steps"
    rename Fr _ _ _ _ => F9
    rename News _ _ _ _ => N9
    rename IsRange _ _ _ _ _ _ _ _ => hr9
    have hfm : (D : Int).fmod 4 = ((D % 4 : Nat) : Int) := by rw [Int.fmod_eq_emod_of_nonneg _ (by decide)]; omega
    refine ⟨_, _, _, _, _, _, _, _, 1 + D % 4, rfl, hr9, ?_, ?_, ?_, F9, N9, ?_, ?_, ?_⟩
    · rw [hfm]
      refine small_one ?_ ?_ ?_ ?_ <;> first | decide | omega
    · rw [rangeSize_one, hfm]
      split <;> omega
    · exact Nat.le_trans (show 1 + D % 4 ≤ 10 by omega) (by decide)
    · intro C a1 v s₂ m₂ E' hC ha1 hv hns hm hkeep
      exact wpAny_tests_nil ⟨rfl, _, _, rfl, fun _ _ e => e⟩
    · intro C a1 v s₂ m₂ E' hC ha1 hv _ hns hm hkeep
      obtain ⟨tv, rfl⟩ := hv
      have F10 := Fr.keeps F9 hkeep
      have N10 := News.grown N9 hkeep
      clear F9 N9
      have ha2 := mem_rangeInts ha1
      have ha3 : a1 = 0 ∨ a1 = 1 ∨ a1 = 2 ∨ a1 = 3 := by omega
      clear ha1 ha2
      rcases ha3 with rfl | rfl | rfl | rfl
      all_goals walk_at "my steps"
      · rw [show (3 : Int) ^ Int.toNat 0 = 1 from rfl]
        walk_at "my steps"
        refine ⟨?_, _, _, rfl, fun _ _ e => e⟩
        rw [sgn_eq D 1 1 rfl (by decide), item_sign _ (Nat.mod_lt _ (by decide))]
        exact .str _ _
      · rw [show (3 : Int) ^ Int.toNat 1 = 3 from rfl]
        walk_at "my steps"
        refine ⟨?_, _, _, rfl, fun _ _ e => e⟩
        rw [sgn_eq D 3 3 rfl (by decide), item_sign _ (Nat.mod_lt _ (by decide))]
        exact .str _ _
      · rw [show (3 : Int) ^ Int.toNat 2 = 9 from rfl]
        walk_at "my steps"
        refine ⟨?_, _, _, rfl, fun _ _ e => e⟩
        rw [sgn_eq D 9 9 rfl (by decide), item_sign _ (Nat.mod_lt _ (by decide))]
        exact .str _ _
      · rw [show (3 : Int) ^ Int.toNat 3 = 27 from rfl]
        walk_at "my steps"
        refine ⟨?_, _, _, rfl, fun _ _ e => e⟩
        rw [sgn_eq D 27 27 rfl (by decide), item_sign _ (Nat.mod_lt _ (by decide))]
        exact .str _ _
    · intro DL ys h' tk F5 N5 hDL hl hpl hca
      walk_at "my steps"
      refine' join_list (ys := ((signsOf D).map fun c => [c]).map fun a => (⟨a.toArray⟩ : Str)) ?j1 ?j2 ?j3 ?_
      case j1 => exact hl
      case j2 =>
        refine strs_carried ?_
        have e : List.map (fun j : Int => PyData.str ⟨#[signOf (D / 4 / 3 ^ j.toNat % 3)]⟩) (List.filter (fun _ => true) (rangeInts 0 1 (1 + D % 4))) =
            (((signsOf D).map fun c => [c]).map fun a => (⟨a.toArray⟩ : Str)).map PyData.str := by
          rw [show (List.filter (fun _ => true) (rangeInts 0 1 (1 + D % 4))) = rangeInts 0 1 (1 + D % 4) from List.filter_eq_self.mpr fun _ _ => rfl]
          unfold rangeInts signsOf
          rw [List.map_map, List.map_map, List.map_map, List.map_map]
          refine List.map_congr_left fun i _ => ?_
          have : (0 + (i : Int) * 1).toNat = i := by omega
          simp only [Function.comp, this]
        exact e ▸ hca
      case j3 =>
        have hb1 := sum_le (B := 1) ((signsOf D).map fun c => [c]) (fun z hz => by
          obtain ⟨c, _, rfl⟩ := List.mem_map.mp hz
          exact Nat.le_refl _)
        have hb2 : ((signsOf D).map fun c => [c]).length ≤ 4 := by simp [signsOf]; omega
        show _ + _ * 0 ≤ _
        omega
      intro t9 k9
      rw [tjoin_nil, flat_single]
      walk_at "my steps"
      rename Fr _ _ _ _ => F11
      rename News _ _ _ _ => N11
      rename _ ∧ _ ∧ AllLt _ _ => hlt9
      obtain ⟨hlt91, hlt92, hlt93⟩ := hlt9
      rw [show (D : Int).fdiv 324 = ((D / 324 : Nat) : Int) by rw [Int.fdiv_eq_ediv_of_nonneg _ (by decide)]; omega]
      obtain ⟨tc, htc0, htc⟩ := cover_item (k9 + 1 + 1 + 1) (k9 + 1 + 1 + 1 + 1) (k9 + 1 + 1 + 1 + 1 + 1) (k9 + 1 + 1 + 1 + 1 + 1 + 1) (D / 324) (by omega)
      refine' item_list (items := _) ?i1 ?i2 ?i3 ?i4 ?_
      case i4 => rw [Int.toNat_natCast]; exact htc
      case i1 => exact ⟨_, (N11 _ (.head _)).1, rfl, _, rfl⟩
      case i2 => omega
      case i3 => omega
      have hnlT := Heap.lt_size (N11 _ (.tail _ (.head _))).1
      have hcT := Heap.lt_size (N11 _ (.tail _ (.tail _ (.head _)))).1
      have hIT : h3.objs.size < _ := Heap.lt_size (N11 (h3.objs.size, _) (.tail _ (.tail _ (.tail _ (hrest ▸ List.mem_append.mpr (.inl (hown3 _ (.head _) hI0 _ hst))))))).1
      dsimp only at hnlT hcT
      walk_at "my steps"
      rename Fr _ _ _ _ => F12
      rename News _ _ _ _ => N12
      dsimp only at N12
      rw [item_abc i (by omega)] at N12
      have hlv : vs.length = i := by
        have : vs.length = ((List.range i).map (paperOf ns)).length := hvs.length
        simpa using this
      refine' append_K F12 N12 ?u1 ?_ ?u2
      case u1 => exact .tail (Nat.ne_of_gt hnlT) (.tail (Nat.ne_of_gt hlt91) (.head fun p hp => by
        rcases List.mem_cons.mp hp with rfl | hp
        · exact hne8.symm
        · exact hr1 p hp))
      case u2 => simp; exact Nat.le_trans (show vs.length ≤ 5 by omega) (by decide)
      intro h13 F13 N13
      (try dsimp only)
      walk_at "my hop"
      refine hPk fun hkF => ?_
      obtain ⟨vs2, nn2, ts2, z1, z2, z3, z4, z5⟩ := pap_step N13 hrest hoL hn1 hn2 ht1 ht2 (Nat.ne_of_gt hnlT) (Nat.ne_of_gt hcT) hvs hkF (tok_fact (k9 + 1) tc htc0) (p := paperOf ns i) (by rw [show paperOf ns i = ⟨97 + i, signsOf D, coverOf (D / 324)⟩ by rw [← hD]; rfl]; rfl) (fun p hp q => hnw p (.tail _ (.tail _ hp)) (List.mem_singleton.mpr q)) (fun q => absurd (q ▸ hIT) (Nat.lt_irrefl _))
      refine ⟨h13, _, _, (nl, W.listOf vs2.toArray nn2) :: (L' + 1, co8) :: ts2, rfl, F13, z1, fun p hp q => z2 p hp (List.mem_singleton.mp q), nl, nn2, co8, vs2, ts2, rfl, hnl, ⟨_, hco8⟩, z3, z4, ?_, rfl, rfl⟩
      rw [List.range_succ, List.map_append]
      exact z5
end
end

section
local macro_rules | `(tactic| omega) => `(tactic| lia)

section
open PySem PyProof.Rows
set_option autoImplicit false
set_option maxRecDepth 100000
set_option maxHeartbeats 2000000
theorem wpS_ifp {α : Type} {M : Model} {A : Around} {E : Value → Shared → Prop} {s : Shared} {c : Prop} [Decidable c] {x y : StateT SortSt Sem α} {Q : α → SortSt → Prop} {st : SortSt} (h : c) (hx : wpS M A E s x Q st) : wpS M A E s (if c then x else y) Q st := by rw [if_pos h]; exact hx
theorem wpS_ifn {α : Type} {M : Model} {A : Around} {E : Value → Shared → Prop} {s : Shared} {c : Prop} [Decidable c] {x y : StateT SortSt Sem α} {Q : α → SortSt → Prop} {st : SortSt} (h : ¬ c) (hx : wpS M A E s y Q st) : wpS M A E s (if c then x else y) Q st := by rw [if_neg h]; exact hx
noncomputable def gallop' : Bool → Keyed → Array Keyed → Nat → Nat → Nat → StateT SortSt Sem (Option Nat) := sortPriv% PySem.Builtin.gallop
noncomputable def gallopBy (beyond : Nat → StateT SortSt Sem (Option Bool)) (n hint : Nat) : StateT SortSt Sem (Option Nat) := do
  let mut lastofs := 0
  let mut ofs := 1
  let mut lo := 0
  let mut hi := 0
  let some right ← beyond hint | return none
  if right then
    let maxofs := n - hint
    for _ in [0:n] do
      if ofs ≥ maxofs then break
      let some more ← beyond (hint + ofs) | return none
      if !more then break
      lastofs := ofs
      ofs := 2 * ofs + 1
    lo := hint + lastofs + 1
    hi := hint + min ofs maxofs
  else
    let maxofs := hint + 1
    for _ in [0:n] do
      if ofs ≥ maxofs then break
      let some found ← beyond (hint - ofs) | return none
      if found then break
      lastofs := ofs
      ofs := 2 * ofs + 1
    lo := hint + 1 - min ofs maxofs
    hi := hint - lastofs
  for _ in [0:n] do
    if lo ≥ hi then break
    let m := lo + (hi - lo) / 2
    let some more ← beyond m | return none
    if more then lo := m + 1 else hi := m
  return some hi
theorem gallop'_eq (left : Bool) (key : Keyed) (arr : Array Keyed) (base n hint : Nat) : gallop' left key arr base n hint = gallopBy (fun i => do
    let x ← elem' arr (base + i)
    if left then lt' x key else return (← lt' key x).map (!·)) n hint := rfl
noncomputable def binLoop (beyond : Nat → StateT SortSt Sem (Option Bool)) (n lo0 hi0 : Nat) : StateT SortSt Sem (Option Nat) := do
  let mut lo := lo0
  let mut hi := hi0
  for _ in [0:n] do
    if lo ≥ hi then break
    let m := lo + (hi - lo) / 2
    let some more ← beyond m | return none
    if more then lo := m + 1 else hi := m
  return some hi
section
variable {M : Model} {A : Around} {E : Value → Shared → Prop} {s : Shared} {beyond : Nat → StateT SortSt Sem (Option Bool)} {n hint : Nat} {st : SortSt} {B : Nat → Bool} {Q : Option Nat → SortSt → Prop}
theorem wpS_bin (hb : ∀ i (Q : Option Bool → SortSt → Prop), i < n → Q (some (B i)) st → wpS M A E s (beyond i) Q st) (hm : ∀ i j, i ≤ j → j < n → B j = true → B i = true)
    (h : ∀ t, t ≤ n → (∀ i, i < t → B i = true) → (∀ i, t ≤ i → i < n → B i = false) → Q (some t) st) {lo hi : Nat} (h1 : lo ≤ hi) (h2 : hi ≤ n) (hl : ∀ i, i < lo → B i = true) (hr : ∀ i, hi ≤ i → i < n → B i = false) :
    wpS M A E s (binLoop beyond n lo hi) Q st := by
  have hmf : ∀ i j, i ≤ j → j < n → B i = false → B j = false := fun i j hij hj hi => by
    cases q : B j with
    | false => rfl
    | true => rw [hm i j hij hj q] at hi; cases hi
  unfold binLoop
  refine wpS_bind (wpS_mono (wpS_forRange (I := fun x c st' => st' = st ∧ ∃ l r, c = (none, l, r) ∧ l ≤ r ∧ r ≤ n ∧ r - l ≤ n - x ∧ (∀ i, i < l → B i = true) ∧ (∀ i, r ≤ i → i < n → B i = false))
    (Q := fun c st' => st' = st ∧ ∃ l, c = (none, l, l) ∧ l ≤ n ∧ (∀ i, i < l → B i = true) ∧ (∀ i, l ≤ i → i < n → B i = false)) ?step ?fin ⟨rfl, lo, hi, rfl, h1, h2, by omega, hl, hr⟩) ?post)
  case post =>
    rintro c st' ⟨rfl, l, rfl, a1, a2, a3⟩
    exact wpS_pure (h l a1 a2 a3)
  case fin =>
    rintro c st' ⟨rfl, l, r, rfl, a1, a2, a3, a4, a5⟩
    have : l = r := by omega
    subst this
    exact ⟨rfl, l, rfl, a2, a4, a5⟩
  case step =>
    rintro x c st' _ hx ⟨rfl, l, r, rfl, a1, a2, a3, a4, a5⟩
    dsimp only
    by_cases hge : l ≥ r
    · rw [if_pos hge]
      have : l = r := by omega
      subst this
      exact wpS_pure ⟨rfl, l, rfl, a2, a4, a5⟩
    · rw [if_neg hge]
      refine wpS_bind (hb _ _ (by omega) ?_)
      dsimp only
      cases q : B (l + (r - l) / 2) with
      | true =>
        rw [if_pos rfl]
        exact wpS_pure ⟨rfl, _, r, rfl, by omega, a2, by omega, fun i hi => hm i _ (by omega) (by omega) q, a5⟩
      | false =>
        rw [if_neg Bool.false_ne_true]
        exact wpS_pure ⟨rfl, l, _, rfl, by omega, by omega, by omega, a4, fun i h1 h2 => hmf _ i h1 h2 q⟩
theorem wpS_gallopBy (hb : ∀ i (Q : Option Bool → SortSt → Prop), i < n → Q (some (B i)) st → wpS M A E s (beyond i) Q st) (hm : ∀ i j, i ≤ j → j < n → B j = true → B i = true) (hh : hint < n)
    (h : ∀ t, t ≤ n → (∀ i, i < t → B i = true) → (∀ i, t ≤ i → i < n → B i = false) → Q (some t) st) : wpS M A E s (gallopBy beyond n hint) Q st := by
  have hmf : ∀ i j, i ≤ j → j < n → B i = false → B j = false := fun i j hij hj hi => by
    cases q : B j with
    | false => rfl
    | true => rw [hm i j hij hj q] at hi; cases hi
  unfold gallopBy
  refine wpS_bind (hb hint _ hh ?_)
  dsimp only
  cases q0 : B hint with
  | true =>
    rw [if_pos rfl]
    refine wpS_bind (wpS_mono (wpS_forRange (I := fun x c st' => st' = st ∧ ∃ l o, c = (none, l, o) ∧ l < o ∧ x < o ∧ hint + l < n ∧ B (hint + l) = true)
      (Q := fun c st' => st' = st ∧ ∃ l o, c = (none, l, o) ∧ l < o ∧ hint + l < n ∧ B (hint + l) = true ∧ (n - hint ≤ o ∨ B (hint + o) = false)) ?step ?fin ⟨rfl, 0, 1, rfl, by omega, by omega, by omega, q0⟩) ?post)
    case fin =>
      rintro c st' ⟨rfl, l, o, rfl, a1, a2, a3, a4⟩
      exact ⟨rfl, l, o, rfl, a1, a3, a4, .inl (by omega)⟩
    case step =>
      rintro x c st' _ hx ⟨rfl, l, o, rfl, a1, a2, a3, a4⟩
      dsimp only
      by_cases hge : o ≥ n - hint
      · rw [if_pos hge]
        exact wpS_pure ⟨rfl, l, o, rfl, a1, a3, a4, .inl hge⟩
      · rw [if_neg hge]
        refine wpS_bind (hb _ _ (by omega) ?_)
        dsimp only
        cases q : B (hint + o) with
        | true => exact wpS_pure ⟨rfl, o, _, rfl, by omega, by omega, by omega, q⟩
        | false => exact wpS_pure ⟨rfl, l, o, rfl, a1, a3, a4, .inr q⟩
    case post =>
      rintro c st' ⟨rfl, l, o, rfl, a1, a3, a4, a5⟩
      show wpS M A E s (binLoop beyond n (hint + l + 1) (hint + min o (n - hint))) Q _
      refine wpS_bin hb hm h (by omega) (by omega) (fun i hi => hm i _ (by omega) a3 a4) fun i h1 h2 => ?_
      rcases a5 with a5 | a5
      · omega
      · exact hmf _ i (by omega) h2 a5
  | false =>
    rw [if_neg Bool.false_ne_true]
    refine wpS_bind (wpS_mono (wpS_forRange (I := fun x c st' => st' = st ∧ ∃ l o, c = (none, l, o) ∧ l < o ∧ x < o ∧ l ≤ hint ∧ B (hint - l) = false)
      (Q := fun c st' => st' = st ∧ ∃ l o, c = (none, l, o) ∧ l < o ∧ l ≤ hint ∧ B (hint - l) = false ∧ (hint + 1 ≤ o ∨ B (hint - o) = true)) ?step ?fin ⟨rfl, 0, 1, rfl, by omega, by omega, by omega, q0⟩) ?post)
    case fin =>
      rintro c st' ⟨rfl, l, o, rfl, a1, a2, a3, a4⟩
      exact ⟨rfl, l, o, rfl, a1, a3, a4, .inl (by omega)⟩
    case step =>
      rintro x c st' _ hx ⟨rfl, l, o, rfl, a1, a2, a3, a4⟩
      dsimp only
      by_cases hge : o ≥ hint + 1
      · rw [if_pos hge]
        exact wpS_pure ⟨rfl, l, o, rfl, a1, a3, a4, .inl hge⟩
      · rw [if_neg hge]
        refine wpS_bind (hb _ _ (by omega) ?_)
        dsimp only
        cases q : B (hint - o) with
        | true => exact wpS_pure ⟨rfl, l, o, rfl, a1, a3, a4, .inr q⟩
        | false => exact wpS_pure ⟨rfl, o, _, rfl, by omega, by omega, by omega, q⟩
    case post =>
      rintro c st' ⟨rfl, l, o, rfl, a1, a3, a4, a5⟩
      show wpS M A E s (binLoop beyond n (hint + 1 - min o (hint + 1)) (hint - l)) Q _
      refine wpS_bin hb hm h (by omega) (by omega) (fun i hi => ?_) fun i h1 h2 => hmf _ i h1 h2 a4
      rcases a5 with a5 | a5
      · omega
      · by_cases ho : o ≤ hint
        · exact hm i _ (by omega) (by omega) a5
        · omega
end
end

section
open PySem PyProof.Rows
set_option autoImplicit false
set_option maxRecDepth 100000
set_option maxHeartbeats 2000000
theorem intKeys_at {xs : Array Keyed} (h : IntKeys xs) {i : Nat} (hi : i < xs.size) : ∃ t q, xs[i]? = some (.int (K xs i) t, q) := by
  obtain ⟨n, t, hn⟩ := h xs[i] (by simp)
  refine ⟨t, xs[i].2, ?_⟩
  have e : xs[i]? = some xs[i] := getElem?_pos _ i hi
  have e2 : xs[i] = (.int n t, xs[i].2) := Prod.ext hn rfl
  unfold K
  rw [e, e2]
  rfl
section
variable {prog : Program} {w : World} {A : Around} {E : Value → Shared → Prop} {s : Shared} {st : SortSt}
theorem wpS_lt {a b : Int} {t u : Tok} {p q : Value} {Q : Option Bool → SortSt → Prop} (hk : kindOf st = oneType') (h : Q (some (decide (a < b))) st) : wpS (model prog w) A E s (lt' (.int a t, p) (.int b u, q)) Q st := by
  rw [lt'_eq]
  refine wpS_bind (wpS_get ?_)
  rw [hk, keyLt'_oneType]
  refine wpS_bind (wpS_lift (wpAny_attempt (oneLt_int ⟨rfl, ?_⟩)))
  exact wpS_pure h
theorem wpS_elem {M : Model} {arr : Array Keyed} {i : Nat} {x : Keyed} {Q : Keyed → SortSt → Prop} (hi : arr[i]? = some x) (h : Q x st) : wpS M A E s (elem' arr i) Q st := by
  rw [elem'_eq, hi]
  exact wpS_pure h
noncomputable def bey (left : Bool) (kk : Int) (arr : Array Keyed) (base i : Nat) : Bool := if left then decide (K arr (base + i) < kk) else decide (K arr (base + i) ≤ kk)
theorem wpS_gallop {left : Bool} {kk : Int} {t : Tok} {q : Value} {arr : Array Keyed} {base n hint : Nat} {Q : Option Nat → SortSt → Prop} (hk : kindOf st = oneType') (h0 : IntKeys arr) (hsz : base + n ≤ arr.size) (hh : hint < n)
    (hs : ∀ i j, i ≤ j → j < n → K arr (base + i) ≤ K arr (base + j))
    (h : ∀ t, t ≤ n → (∀ i, i < t → bey left kk arr base i = true) → (∀ i, t ≤ i → i < n → bey left kk arr base i = false) → Q (some t) st) :
    wpS (model prog w) A E s (gallop' left (.int kk t, q) arr base n hint) Q st := by
  rw [gallop'_eq]
  refine wpS_gallopBy (B := bey left kk arr base) (fun i Q' hi hq => ?_) (fun i j hij hj hb => ?_) hh h
  · obtain ⟨u, r, e⟩ := intKeys_at h0 (i := base + i) (by omega)
    refine wpS_bind (wpS_elem e ?_)
    cases left with
    | true => exact wpS_lt hk hq
    | false =>
      refine wpS_bind (wpS_lt hk (wpS_pure ?_))
      have : bey false kk arr base i = !decide (kk < K arr (base + i)) := by
        unfold bey
        rw [if_neg Bool.false_ne_true]
        by_cases h : kk < K arr (base + i)
        · simp [h]
        · simp [h]; omega
      rw [this] at hq
      exact hq
  · have := hs i j hij hj
    unfold bey at hb ⊢
    cases left with
    | true => simp only [if_true, decide_eq_true_eq] at hb ⊢; omega
    | false => simp only [Bool.false_eq_true, if_false, decide_eq_true_eq] at hb ⊢; omega
end
noncomputable def mergeLo' : Array Keyed → Array Keyed → StateT SortSt Sem (Array Keyed) := sortPriv% PySem.Builtin.mergeLo
noncomputable def setMinGallop' : Nat → StateT SortSt Sem Unit := sortPriv% PySem.Builtin.setMinGallop
theorem setMinGallop'_eq (g : Nat) : setMinGallop' g = modify fun s => SortSt.mk' (kindOf s) (arrOf s) (pendingOf s) g (failedOf s) := rfl
theorem mergeLo'_eq (a b : Array Keyed) : mergeLo' a b = (do
  rule "list.sort.merge-lo"
  let total := a.size + b.size
  let done (out : Array Keyed) (ia ib : Nat) := out ++ a.extract ia a.size ++ b.extract ib b.size
  let lastOfA (out : Array Keyed) (ia ib : Nat) := out ++ b.extract ib b.size ++ a.extract ia a.size
  let mut out : Array Keyed := #[← elem' b 0]
  let mut ia := 0
  let mut ib := 1
  if ib == b.size then return done out ia ib
  if ia + 1 == a.size then return lastOfA out ia ib
  let mut minGallop := gallopOf (← get)
  for _ in [0:total] do
    let mut acount := 0
    let mut bcount := 0
    for _ in [0:total] do
      let some bWins ← lt' (← elem' b ib) (← elem' a ia) | return done out ia ib
      if bWins then
        out := out.push (← elem' b ib); ib := ib + 1; bcount := bcount + 1; acount := 0
        if ib == b.size then return done out ia ib
        if bcount ≥ minGallop then break
      else
        out := out.push (← elem' a ia); ia := ia + 1; acount := acount + 1; bcount := 0
        if ia + 1 == a.size then return lastOfA out ia ib
        if acount ≥ minGallop then break
    rule "list.sort.gallop"
    minGallop := minGallop + 1
    for _ in [0:total] do
      if minGallop > 1 then minGallop := minGallop - 1
      setMinGallop' minGallop
      let some k ← gallop' false (← elem' b ib) a ia (a.size - ia) 0 | return done out ia ib
      acount := k
      if k > 0 then
        out := out ++ a.extract ia (ia + k); ia := ia + k
        if ia + 1 == a.size then return lastOfA out ia ib
        if ia == a.size then return done out ia ib
      out := out.push (← elem' b ib); ib := ib + 1
      if ib == b.size then return done out ia ib
      let some k ← gallop' true (← elem' a ia) b ib (b.size - ib) 0 | return done out ia ib
      bcount := k
      if k > 0 then
        out := out ++ b.extract ib (ib + k); ib := ib + k
        if ib == b.size then return done out ia ib
      out := out.push (← elem' a ia); ia := ia + 1
      if ia + 1 == a.size then return lastOfA out ia ib
      if acount < 7 && bcount < 7 then break
    minGallop := minGallop + 1
    setMinGallop' minGallop
  unsupported "internal:list.sort.merge-bound") := rfl
end

section
open PySem PyProof.Rows
set_option autoImplicit false
set_option maxRecDepth 100000
set_option maxHeartbeats 2000000
noncomputable def kv (p : Keyed) : Int := numOf p.1
noncomputable def Srt (l : List Keyed) : Prop := l.Pairwise fun x y => kv x ≤ kv y
structure MInv (T out X Y : List Keyed) : Prop where
  so : Srt out
  sx : Srt X
  sy : Srt Y
  le : ∀ x ∈ out, ∀ y ∈ X ++ Y, kv x ≤ kv y
  pm : (out ++ (X ++ Y)).Perm T
theorem MInv.preX {T out X1 X2 Y : List Keyed} (h : MInv T out (X1 ++ X2) Y) (h1 : ∀ x ∈ X1, ∀ y ∈ Y, kv x ≤ kv y) : MInv T (out ++ X1) X2 Y := by
  obtain ⟨a1, a2, a3, a4, a5⟩ := h
  have b2 := List.pairwise_append.mp a2
  refine ⟨List.pairwise_append.mpr ⟨a1, b2.1, fun x hx y hy => a4 x hx y (by simp [hy])⟩, b2.2.1, a3, fun x hx y hy => ?_, ?_⟩
  · rcases List.mem_append.mp hx with hx | hx
    · exact a4 x hx y (by rcases List.mem_append.mp hy with hy | hy <;> simp [hy])
    · rcases List.mem_append.mp hy with hy | hy
      · exact b2.2.2 x hx y hy
      · exact h1 x hx y hy
  · simpa using a5
theorem MInv.preY {T out X Y1 Y2 : List Keyed} (h : MInv T out X (Y1 ++ Y2)) (h1 : ∀ y ∈ Y1, ∀ x ∈ X, kv y ≤ kv x) : MInv T (out ++ Y1) X Y2 := by
  obtain ⟨a1, a2, a3, a4, a5⟩ := h
  have b3 := List.pairwise_append.mp a3
  refine ⟨List.pairwise_append.mpr ⟨a1, b3.1, fun x hx y hy => a4 x hx y (by simp [hy])⟩, a2, b3.2.1, fun x hx y hy => ?_, ?_⟩
  · rcases List.mem_append.mp hx with hx | hx
    · exact a4 x hx y (by rcases List.mem_append.mp hy with hy | hy <;> simp [hy])
    · rcases List.mem_append.mp hy with hy | hy
      · exact h1 x hx y hy
      · exact b3.2.2 x hx y hy
  · refine List.Perm.trans ?_ a5
    rw [List.append_assoc]
    refine List.Perm.append_left _ ?_
    rw [← List.append_assoc, ← List.append_assoc]
    exact List.Perm.append_right _ List.perm_append_comm
theorem MInv.end1 {T out X Y : List Keyed} (h : MInv T out X Y) (h1 : ∀ x ∈ X, ∀ y ∈ Y, kv x ≤ kv y) : Srt (out ++ X ++ Y) ∧ (out ++ X ++ Y).Perm T := by
  have := MInv.preX (X2 := []) (by simpa using h) h1
  refine ⟨List.pairwise_append.mpr ⟨this.so, h.sy, fun x hx y hy => this.le x hx y (by simp [hy])⟩, by simpa using h.pm⟩
theorem MInv.end2 {T out X Y : List Keyed} (h : MInv T out X Y) (h1 : ∀ y ∈ Y, ∀ x ∈ X, kv y ≤ kv x) : Srt (out ++ Y ++ X) ∧ (out ++ Y ++ X).Perm T := by
  have := MInv.preY (Y2 := []) (by simpa using h) h1
  refine ⟨List.pairwise_append.mpr ⟨this.so, h.sx, fun x hx y hy => this.le x hx y (by simp [hy])⟩, by simpa using this.pm⟩
theorem kv_at {xs : Array Keyed} {i : Nat} (hi : i < xs.size) : K xs i = kv xs[i] := K_eq hi
theorem kv_some {xs : Array Keyed} {i : Nat} {x : Keyed} (h : xs[i]? = some x) : K xs i = kv x := by unfold K kv; rw [h]
theorem drop_cons {xs : Array Keyed} {i : Nat} {x : Keyed} (h : xs[i]? = some x) : xs.toList.drop i = x :: xs.toList.drop (i + 1) := by
  have h2 : xs.toList[i]? = some x := by simpa using h
  rw [List.drop_eq_getElem_cons (List.getElem?_eq_some_iff.mp h2).1, (List.getElem?_eq_some_iff.mp h2).2]
theorem srt_head {x : Keyed} {l : List Keyed} (h : Srt (x :: l)) : ∀ y ∈ x :: l, kv x ≤ kv y := fun y hy => by
  rcases List.mem_cons.mp hy with rfl | hy
  · exact Int.le_refl _
  · exact (List.pairwise_cons.mp h).1 y hy
theorem srt_get {xs : Array Keyed} {base : Nat} (h : Srt (xs.toList.drop base)) {n : Nat} (hn : base + n ≤ xs.size) : ∀ i j, i ≤ j → j < n → K xs (base + i) ≤ K xs (base + j) := fun i j hij hj => by
  by_cases e : i = j
  · subst e; exact Int.le_refl _
  have h1 : (xs.toList.drop base)[i]? = xs[base + i]? := by simp
  have h2 : (xs.toList.drop base)[j]? = xs[base + j]? := by simp
  have l1 : base + i < xs.size := by omega
  have l2 : base + j < xs.size := by omega
  have := List.pairwise_iff_getElem.mp h i j (by simp; omega) (by simp; omega) (by omega)
  rw [kv_at l1, kv_at l2]
  simpa using this
theorem bey_take {left : Bool} {kk : Int} {xs : Array Keyed} {base t : Nat} (ht : base + t ≤ xs.size) (h : ∀ i, i < t → bey left kk xs base i = true) : ∀ x ∈ (xs.toList.drop base).take t, if left then kv x < kk else kv x ≤ kk := fun x hx => by
  obtain ⟨i, hi, rfl⟩ := List.mem_iff_getElem.mp hx
  have hi' : i < t := by simp at hi; omega
  have l1 : base + i < xs.size := by omega
  have := h i hi'
  unfold bey at this
  rw [kv_at l1] at this
  cases left with
  | true => simpa using this
  | false => simpa using this
theorem bey_drop {left : Bool} {kk : Int} {xs : Array Keyed} {base n t : Nat} (hn : base + n = xs.size) (h : ∀ i, t ≤ i → i < n → bey left kk xs base i = false) : ∀ x ∈ (xs.toList.drop base).drop t, if left then kk ≤ kv x else kk < kv x := fun x hx => by
  obtain ⟨i, hi, rfl⟩ := List.mem_iff_getElem.mp hx
  have hi' : base + (t + i) < xs.size := by simp at hi; omega
  have := h (t + i) (by omega) (by omega)
  unfold bey at this
  rw [kv_at hi'] at this
  cases left with
  | true => simpa [Nat.add_assoc] using this
  | false => simpa [Nat.add_assoc] using this
noncomputable def SameBut (st st' : SortSt) : Prop := ∃ g, st' = SortSt.mk' (kindOf st) (arrOf st) (pendingOf st) g (failedOf st)
theorem SameBut.refl (st : SortSt) : SameBut st st := ⟨gallopOf st, rfl⟩
noncomputable abbrev LoC : Type := Option (Array Keyed) × Array Keyed × Nat × Nat × Nat × Nat × Nat
noncomputable def loPart3 (a b out : Array Keyed) (ia ib mg k k1 : Nat) : StateT SortSt Sem (ForInStep LoC) := do
  let x ← elem' a ia
  if (ia + 1 + 1 == a.size) = true then pure (ForInStep.done (some (out.push x ++ b.extract ib b.size ++ a.extract (ia + 1) a.size), out.push x, ia + 1, ib, mg, k, k1))
  else if (decide (k < 7) && decide (k1 < 7)) = true then pure (ForInStep.done (none, out.push x, ia + 1, ib, mg, k, k1))
  else pure (ForInStep.yield (none, out.push x, ia + 1, ib, mg, k, k1))
noncomputable def loPart2 (a b out : Array Keyed) (ia ib mg k bc : Nat) : StateT SortSt Sem (ForInStep LoC) := do
  let y ← elem' b ib
  if (ib + 1 == b.size) = true then pure (ForInStep.done (some (out.push y ++ a.extract ia a.size ++ b.extract (ib + 1) b.size), out.push y, ia, ib + 1, mg, k, bc))
  else do
    let x ← elem' a ia
    let r ← gallop' true x b (ib + 1) (b.size - (ib + 1)) 0
    match r with
    | some k1 =>
      if k1 > 0 then
        if (ib + 1 + k1 == b.size) = true then pure (ForInStep.done (some (out.push y ++ b.extract (ib + 1) (ib + 1 + k1) ++ a.extract ia a.size ++ b.extract (ib + 1 + k1) b.size), out.push y ++ b.extract (ib + 1) (ib + 1 + k1), ia, ib + 1 + k1, mg, k, k1))
        else loPart3 a b (out.push y ++ b.extract (ib + 1) (ib + 1 + k1)) ia (ib + 1 + k1) mg k k1
      else loPart3 a b (out.push y) ia (ib + 1) mg k k1
    | _ => pure (ForInStep.done (some (out.push y ++ a.extract ia a.size ++ b.extract (ib + 1) b.size), out.push y, ia, ib + 1, mg, k, bc))
noncomputable def loPart1 (a b out : Array Keyed) (ia ib mg ac bc : Nat) : StateT SortSt Sem (ForInStep LoC) := do
  setMinGallop' mg
  let y ← elem' b ib
  let r ← gallop' false y a ia (a.size - ia) 0
  match r with
  | some k =>
    if k > 0 then
      if (ia + k + 1 == a.size) = true then pure (ForInStep.done (some (out ++ a.extract ia (ia + k) ++ b.extract ib b.size ++ a.extract (ia + k) a.size), out ++ a.extract ia (ia + k), ia + k, ib, mg, k, bc))
      else if (ia + k == a.size) = true then pure (ForInStep.done (some (out ++ a.extract ia (ia + k) ++ a.extract (ia + k) a.size ++ b.extract ib b.size), out ++ a.extract ia (ia + k), ia + k, ib, mg, k, bc))
      else loPart2 a b (out ++ a.extract ia (ia + k)) (ia + k) ib mg k bc
    else loPart2 a b out ia ib mg k bc
  | _ => pure (ForInStep.done (some (out ++ a.extract ia a.size ++ b.extract ib b.size), out, ia, ib, mg, ac, bc))
theorem extract_run (xs : Array Keyed) (i k : Nat) : (xs.extract i (i + k)).toList = (xs.toList.drop i).take k := by simp
section
variable {prog : Program} {w : World} {A : Around} {E : Value → Shared → Prop} {s : Shared} {st : SortSt}
/-- where the low merge stands -/
noncomputable def LoAt (a b : Array Keyed) (out : Array Keyed) (ia ib : Nat) : Prop := MInv (a.toList ++ b.toList) out.toList (a.toList.drop ia) (b.toList.drop ib) ∧ ia + 1 < a.size ∧ ib < b.size
theorem wpS_loPart3 {a b out : Array Keyed} {ia ib mg k k1 : Nat} {Post : ForInStep LoC → SortSt → Prop} (ha : IntKeys a) (hL : LoAt a b out ia ib) (hle : ∀ y ∈ b.toList.drop ib, K a ia ≤ kv y)
    (hlast : ∀ out ia ib, MInv (a.toList ++ b.toList) out.toList (a.toList.drop ia) (b.toList.drop ib) → ia + 1 = a.size → ∀ rest, Post (.done (some (out ++ b.extract ib b.size ++ a.extract ia a.size), rest)) st)
    (hgo : ∀ out' ia' ib', LoAt a b out' ia' ib' → out.size < out'.size → Post (.done (none, out', ia', ib', mg, k, k1)) st ∧ Post (.yield (none, out', ia', ib', mg, k, k1)) st) :
    wpS (model prog w) A E s (loPart3 a b out ia ib mg k k1) Post st := by
  obtain ⟨tx, qx, ex⟩ := intKeys_at ha (i := ia) (by have := hL.2.1; omega)
  have hm := hL.1
  rw [drop_cons ex] at hm
  have hm2 : MInv (a.toList ++ b.toList) (out.push (.int (K a ia) tx, qx)).toList (a.toList.drop (ia + 1)) (b.toList.drop ib) := by
    have := hm.preX (X1 := [_]) fun x hx y hy => by rw [List.mem_singleton.mp hx]; exact hle y hy
    simpa using this
  unfold loPart3
  refine wpS_bind (wpS_elem ex ?_)
  by_cases e : ia + 1 + 1 = a.size
  · refine wpS_ifp (by simpa using e) ?_
    exact wpS_pure (hlast _ _ _ hm2 e _)
  refine wpS_ifn (by simpa using e) ?_
  have := hgo _ _ _ ⟨hm2, by have := hL.2.1; omega, hL.2.2⟩ (by rw [Array.size_push]; exact Nat.lt_succ_self _)
  split
  · exact wpS_pure this.1
  · exact wpS_pure this.2
theorem wpS_loPart2 {a b out : Array Keyed} {ia ib mg k bc : Nat} {Post : ForInStep LoC → SortSt → Prop} (hk : kindOf st = oneType') (ha : IntKeys a) (hb : IntKeys b) (hL : LoAt a b out ia ib) (hle : ∀ x ∈ a.toList.drop ia, K b ib ≤ kv x)
    (hlast : ∀ out ia ib, MInv (a.toList ++ b.toList) out.toList (a.toList.drop ia) (b.toList.drop ib) → ia + 1 = a.size → ∀ rest, Post (.done (some (out ++ b.extract ib b.size ++ a.extract ia a.size), rest)) st)
    (hdone : ∀ out ia ib, MInv (a.toList ++ b.toList) out.toList (a.toList.drop ia) (b.toList.drop ib) → (a.size ≤ ia ∨ b.size ≤ ib) → ∀ rest, Post (.done (some (out ++ a.extract ia a.size ++ b.extract ib b.size), rest)) st)
    (hgo : ∀ out' ia' ib' k k1, LoAt a b out' ia' ib' → out.size < out'.size → Post (.done (none, out', ia', ib', mg, k, k1)) st ∧ Post (.yield (none, out', ia', ib', mg, k, k1)) st) :
    wpS (model prog w) A E s (loPart2 a b out ia ib mg k bc) Post st := by
  obtain ⟨ty, qy, ey⟩ := intKeys_at hb hL.2.2
  obtain ⟨tx, qx, ex⟩ := intKeys_at ha (i := ia) (by have := hL.2.1; omega)
  have hm := hL.1
  rw [drop_cons ey] at hm
  have hm2 : MInv (a.toList ++ b.toList) (out.push (.int (K b ib) ty, qy)).toList (a.toList.drop ia) (b.toList.drop (ib + 1)) := by
    have := hm.preY (Y1 := [_]) fun y hy x hx => by rw [List.mem_singleton.mp hy]; exact hle x hx
    simpa using this
  unfold loPart2
  refine wpS_bind (wpS_elem ey ?_)
  by_cases e : ib + 1 = b.size
  · refine wpS_ifp (by simpa using e) ?_
    exact wpS_pure (hdone _ _ _ hm2 (.inr (by omega)) _)
  refine wpS_ifn (by simpa using e) ?_
  have hib := hL.2.2
  refine wpS_bind (wpS_elem ex (wpS_bind ?_))
  refine wpS_gallop hk hb (by omega) (by omega) (srt_get hm2.sy (by omega)) fun k1 hk1 h1 h2 => ?_
  dsimp only
  have t1 := bey_take (left := true) (by omega) h1
  have t2 := bey_drop (left := true) (n := b.size - (ib + 1)) (by omega) h2
  simp only [if_true] at t1 t2
  have hxX : ∀ x ∈ a.toList.drop ia, K a ia ≤ kv x := fun x hx => by
    have := hm2.sx
    rw [drop_cons ex] at this hx
    exact srt_head this x hx
  have hm3 : MInv (a.toList ++ b.toList) ((out.push (.int (K b ib) ty, qy)) ++ b.extract (ib + 1) (ib + 1 + k1)).toList (a.toList.drop ia) (b.toList.drop (ib + 1 + k1)) := by
    have h3 : b.toList.drop (ib + 1) = (b.toList.drop (ib + 1)).take k1 ++ b.toList.drop (ib + 1 + k1) := by
      have := (List.take_append_drop k1 (b.toList.drop (ib + 1))).symm
      rwa [List.drop_drop] at this
    have h4 := hm2
    rw [h3] at h4
    have := h4.preY fun y hy x hx => Int.le_trans (Int.le_of_lt (t1 y hy)) (hxX x hx)
    rw [Array.toList_append, extract_run]
    exact this
  have t2' : ∀ y ∈ b.toList.drop (ib + 1 + k1), K a ia ≤ kv y := fun y hy => t2 y (by rw [List.drop_drop]; exact hy)
  by_cases hk0 : k1 > 0
  · refine wpS_ifp hk0 ?_
    by_cases e2 : ib + 1 + k1 = b.size
    · refine wpS_ifp (by simpa using e2) ?_
      exact wpS_pure (hdone _ _ _ hm3 (.inr (by omega)) _)
    · refine wpS_ifn (by simpa using e2) ?_
      exact wpS_loPart3 ha ⟨hm3, hL.2.1, by omega⟩ t2' hlast fun o i j h hs => hgo o i j _ _ h (by simp at hs; omega)
  · refine wpS_ifn hk0 ?_
    have : k1 = 0 := by omega
    subst this
    exact wpS_loPart3 ha ⟨hm2, hL.2.1, by omega⟩ t2' hlast fun o i j h hs => hgo o i j _ _ h (by simp at hs; omega)
theorem wpS_loPart1 {a b out : Array Keyed} {ia ib mg ac bc : Nat} {Post : ForInStep LoC → SortSt → Prop} (hk : kindOf st = oneType') (ha : IntKeys a) (hb : IntKeys b) (hL : LoAt a b out ia ib)
    (hlast : ∀ out ia ib, MInv (a.toList ++ b.toList) out.toList (a.toList.drop ia) (b.toList.drop ib) → ia + 1 = a.size → ∀ rest st', SameBut st st' → Post (.done (some (out ++ b.extract ib b.size ++ a.extract ia a.size), rest)) st')
    (hdone : ∀ out ia ib, MInv (a.toList ++ b.toList) out.toList (a.toList.drop ia) (b.toList.drop ib) → (a.size ≤ ia ∨ b.size ≤ ib) → ∀ rest st', SameBut st st' → Post (.done (some (out ++ a.extract ia a.size ++ b.extract ib b.size), rest)) st')
    (hgo : ∀ out' ia' ib' k k1 st', SameBut st st' → LoAt a b out' ia' ib' → out.size < out'.size → Post (.done (none, out', ia', ib', mg, k, k1)) st' ∧ Post (.yield (none, out', ia', ib', mg, k, k1)) st') :
    wpS (model prog w) A E s (loPart1 a b out ia ib mg ac bc) Post st := by
  obtain ⟨ty, qy, ey⟩ := intKeys_at hb hL.2.2
  have hia := hL.2.1
  unfold loPart1
  rw [setMinGallop'_eq]
  refine wpS_bind (wpS_modify ?_)
  obtain ⟨st2, hst2⟩ : ∃ st2 : SortSt, st2 = SortSt.mk' (kindOf st) (arrOf st) (pendingOf st) mg (failedOf st) := ⟨_, rfl⟩
  rw [← hst2]
  have hs2 : SameBut st st2 := ⟨mg, hst2⟩
  have hk2 : kindOf st2 = oneType' := by rw [hst2]; exact hk
  refine wpS_bind (wpS_elem ey (wpS_bind ?_))
  refine wpS_gallop hk2 ha (by omega) (by omega) (srt_get hL.1.sx (by omega)) fun k hk1 h1 h2 => ?_
  dsimp only
  have t1 := bey_take (left := false) (by omega) h1
  have t2 := bey_drop (left := false) (n := a.size - ia) (by omega) h2
  simp only [Bool.false_eq_true, if_false] at t1 t2
  have hyY : ∀ y ∈ b.toList.drop ib, K b ib ≤ kv y := fun y hy => by
    have := hL.1.sy
    rw [drop_cons ey] at this hy
    exact srt_head this y hy
  have hm3 : MInv (a.toList ++ b.toList) (out ++ a.extract ia (ia + k)).toList (a.toList.drop (ia + k)) (b.toList.drop ib) := by
    have h3 : a.toList.drop ia = (a.toList.drop ia).take k ++ a.toList.drop (ia + k) := by
      have := (List.take_append_drop k (a.toList.drop ia)).symm
      rwa [List.drop_drop] at this
    have h4 := hL.1
    rw [h3] at h4
    have := h4.preX fun x hx y hy => Int.le_trans (t1 x hx) (hyY y hy)
    rw [Array.toList_append, extract_run]
    exact this
  have t2' : ∀ x ∈ a.toList.drop (ia + k), K b ib ≤ kv x := fun x hx => Int.le_of_lt (t2 x (by rw [List.drop_drop]; exact hx))
  by_cases hk0 : k > 0
  · refine wpS_ifp hk0 ?_
    by_cases e1 : ia + k + 1 = a.size
    · refine wpS_ifp (by simpa using e1) ?_
      exact wpS_pure (hlast _ _ _ hm3 e1 _ _ hs2)
    refine wpS_ifn (by simpa using e1) ?_
    by_cases e2 : ia + k = a.size
    · refine wpS_ifp (by simpa using e2) ?_
      exact wpS_pure (hdone _ _ _ hm3 (.inl (by omega)) _ _ hs2)
    refine wpS_ifn (by simpa using e2) ?_
    exact wpS_loPart2 hk2 ha hb ⟨hm3, by omega, hL.2.2⟩ t2' (fun o i j h e r => hlast o i j h e r _ hs2) (fun o i j h e r => hdone o i j h e r _ hs2) fun o i j k k1 h hs => hgo o i j k k1 _ hs2 h (by simp at hs; omega)
  · refine wpS_ifn hk0 ?_
    have : k = 0 := by omega
    subst this
    exact wpS_loPart2 hk2 ha hb hL t2' (fun o i j h e r => hlast o i j h e r _ hs2) (fun o i j h e r => hdone o i j h e r _ hs2) fun o i j k k1 h hs => hgo o i j k k1 _ hs2 h hs
inductive LM1 (a b : Array Keyed) (st : SortSt) (z : Nat) (c : Option (Array Keyed) × Array Keyed × Nat × Nat × Nat) (st' : SortSt) : Prop
  | mk (_ : SameBut st st') (out : Array Keyed) (ia ib : Nat) (mg : Nat) (_ : c = (none, out, ia, ib, mg)) (_ : LoAt a b out ia ib) (_ : z < out.size) : LM1 a b st z c st'
inductive LM2 (a b : Array Keyed) (st : SortSt) (z : Nat) (c : Option (Array Keyed) × Array Keyed × Nat × Nat × Nat × Nat) (st' : SortSt) : Prop
  | mk (_ : st' = st) (out : Array Keyed) (ia ib : Nat) (ac bc : Nat) (_ : c = (none, out, ia, ib, ac, bc)) (_ : LoAt a b out ia ib) (_ : z < out.size) : LM2 a b st z c st'
inductive LMQ2 (a b : Array Keyed) (R : Array Keyed → SortSt → Prop) (st : SortSt) (z : Nat) (c : Option (Array Keyed) × Array Keyed × Nat × Nat × Nat × Nat) (st' : SortSt) : Prop
  | fin (r : Array Keyed) (rest : Array Keyed × Nat × Nat × Nat × Nat) (_ : c = (some r, rest)) (_ : R r st') : LMQ2 a b R st z c st'
  | go (_ : st' = st) (out : Array Keyed) (ia ib : Nat) (ac bc : Nat) (_ : c = (none, out, ia, ib, ac, bc)) (_ : LoAt a b out ia ib) (_ : z < out.size) : LMQ2 a b R st z c st'
inductive LM3 (a b : Array Keyed) (st : SortSt) (z : Nat) (c : Option (Array Keyed) × Array Keyed × Nat × Nat × Nat × Nat × Nat) (st' : SortSt) : Prop
  | mk (_ : SameBut st st') (out : Array Keyed) (ia ib : Nat) (mg k k1 : Nat) (_ : c = (none, out, ia, ib, mg, k, k1)) (_ : LoAt a b out ia ib) (_ : z < out.size) : LM3 a b st z c st'
inductive LMQ3 (a b : Array Keyed) (R : Array Keyed → SortSt → Prop) (st : SortSt) (z : Nat) (c : Option (Array Keyed) × Array Keyed × Nat × Nat × Nat × Nat × Nat) (st' : SortSt) : Prop
  | fin (r : Array Keyed) (rest : Array Keyed × Nat × Nat × Nat × Nat × Nat) (_ : c = (some r, rest)) (_ : R r st') : LMQ3 a b R st z c st'
  | go (_ : SameBut st st') (out : Array Keyed) (ia ib : Nat) (mg k k1 : Nat) (_ : c = (none, out, ia, ib, mg, k, k1)) (_ : LoAt a b out ia ib) (_ : z < out.size) : LMQ3 a b R st z c st'
theorem wpS_mergeLo {a b : Array Keyed} {Q : Array Keyed → SortSt → Prop} (hk : kindOf st = oneType') (ha : IntKeys a) (hb : IntKeys b) (sa : Srt a.toList) (sb : Srt b.toList) (na : 0 < a.size) (nb : 0 < b.size)
    (h0 : ∀ x ∈ a.toList, ∀ y ∈ b.toList.take 1, kv y ≤ kv x) (h1 : ∀ x ∈ a.toList.drop (a.size - 1), ∀ y ∈ b.toList, kv y ≤ kv x)
    (hQ : ∀ (out : Array Keyed) st', SameBut st st' → Srt out.toList → out.toList.Perm (a.toList ++ b.toList) → Q out st') : wpS (model prog w) A E s (mergeLo' a b) Q st := by
  have tl : ∀ (xs : Array Keyed) (i : Nat), (xs.extract i xs.size).toList = xs.toList.drop i := fun xs i => by
    have : List.take (xs.size - i) (xs.toList.drop i) = xs.toList.drop i := List.take_of_length_le (by simp)
    simpa using this
  have done : ∀ (out : Array Keyed) (ia ib : Nat) st', SameBut st st' → MInv (a.toList ++ b.toList) out.toList (a.toList.drop ia) (b.toList.drop ib) → (a.size ≤ ia ∨ b.size ≤ ib) → Q (out ++ a.extract ia a.size ++ b.extract ib b.size) st' := fun out ia ib st' hs hm he => by
    have e : (out ++ a.extract ia a.size ++ b.extract ib b.size).toList = out.toList ++ a.toList.drop ia ++ b.toList.drop ib := by rw [Array.toList_append, Array.toList_append, tl, tl]
    obtain ⟨q1, q2⟩ := hm.end1 (by
      rcases he with he | he
      · rw [List.drop_of_length_le (l := a.toList) (by simpa using he)]; exact (fun _ h => nomatch h)
      · rw [List.drop_of_length_le (l := b.toList) (by simpa using he)]; exact (fun _ _ _ h => nomatch h))
    exact hQ _ st' hs (e ▸ q1) (e ▸ q2)
  have lastA : ∀ (out : Array Keyed) (ia ib : Nat) st', SameBut st st' → MInv (a.toList ++ b.toList) out.toList (a.toList.drop ia) (b.toList.drop ib) → ia + 1 = a.size → Q (out ++ b.extract ib b.size ++ a.extract ia a.size) st' := fun out ia ib st' hs hm he => by
    have e : (out ++ b.extract ib b.size ++ a.extract ia a.size).toList = out.toList ++ b.toList.drop ib ++ a.toList.drop ia := by rw [Array.toList_append, Array.toList_append, tl, tl]
    obtain ⟨q1, q2⟩ := hm.end2 (fun y hy x hx => h1 x (by rw [show a.size - 1 = ia by omega]; exact hx) y (List.mem_of_mem_drop hy))
    exact hQ _ st' hs (e ▸ q1) (e ▸ q2)
  rw [mergeLo'_eq]
  refine wpS_bind (wpS_lift (wpAny_rule ⟨rfl, ?_⟩))
  dsimp only
  obtain ⟨tb0, qb0, eb0⟩ := intKeys_at hb nb
  refine wpS_bind (wpS_elem eb0 ?_)
  have hinit : MInv (a.toList ++ b.toList) (#[((.int (K b 0) tb0, qb0) : Keyed)] : Array Keyed).toList (a.toList.drop 0) (b.toList.drop 1) := by
    have e := drop_cons eb0
    rw [List.drop_zero] at e
    have h0' : MInv (a.toList ++ b.toList) [] a.toList ([(.int (K b 0) tb0, qb0)] ++ b.toList.drop 1) := ⟨List.Pairwise.nil, sa, by rw [List.singleton_append, ← e]; exact sb, (fun _ h => nomatch h), by rw [List.singleton_append, ← e]; exact List.Perm.refl _⟩
    exact h0'.preY fun y hy x hx => h0 x hx y (by rw [e]; simpa using hy)
  by_cases e1 : 1 = b.size
  · refine wpS_ifp (by simpa using e1) ?_
    refine wpS_pure ?_
    have := done _ 0 1 st (SameBut.refl st) hinit (.inr (by omega))
    simpa using this
  refine wpS_ifn (by simpa using e1) ?_
  by_cases e2 : 0 + 1 = a.size
  · refine wpS_ifp (by simpa using e2) ?_
    refine wpS_pure ?_
    have := lastA _ 0 1 st (SameBut.refl st) hinit e2
    simpa using this
  refine wpS_ifn (by simpa using e2) ?_
  refine wpS_bind (wpS_get ?_)
  (try dsimp only)
  refine wpS_bind (wpS_mono (wpS_forRange (I := fun x c st' => LM1 a b st x c st') (Q := fun c st' => ∃ r rest, c = (some r, rest) ∧ Q r st') ?step ?fin ?init) ?post)
  case init => exact ⟨SameBut.refl st, _, 0, 1, _, rfl, ⟨hinit, by omega, by omega⟩, by simp⟩
  case post =>
    rintro c st' ⟨r, rest, rfl, hq⟩
    exact wpS_pure hq
  case fin =>
    rintro c st' ⟨_, out, ia, ib, mg, rfl, hL, hx⟩
    exfalso
    have h2 := hL.1.pm.length_eq
    have h3 := hL.2
    simp only [List.length_append, List.length_drop, Array.length_toList] at h2
    omega
  case step =>
    rintro x c st' _ hx ⟨hs', out, ia, ib, mg, rfl, hL, hxo⟩
    have hk' : kindOf st' = oneType' := by obtain ⟨g, rfl⟩ := hs'; exact hk
    have pushB : ∀ {out : Array Keyed} {ia ib : Nat} {yb : Keyed}, LoAt a b out ia ib → b[ib]? = some yb → kv yb ≤ K a ia → MInv (a.toList ++ b.toList) (out.push yb).toList (a.toList.drop ia) (b.toList.drop (ib + 1)) := fun {out ia ib yb} hL hy hle => by
      obtain ⟨tx, qx, ex⟩ := intKeys_at ha (i := ia) (by have := hL.2.1; omega)
      have hm := hL.1
      rw [drop_cons hy] at hm
      have hsx := hm.sx
      rw [drop_cons ex] at hsx
      have := hm.preY (Y1 := [yb]) fun y hy x hx => by
        rw [List.mem_singleton.mp hy]
        rw [drop_cons ex] at hx
        have h2 := srt_head hsx x hx
        rw [kv_some ex] at hle
        exact Int.le_trans hle h2
      simpa using this
    have pushA : ∀ {out : Array Keyed} {ia ib : Nat} {xa : Keyed}, LoAt a b out ia ib → a[ia]? = some xa → kv xa ≤ K b ib → MInv (a.toList ++ b.toList) (out.push xa).toList (a.toList.drop (ia + 1)) (b.toList.drop ib) := fun {out ia ib xa} hL hx hle => by
      obtain ⟨ty, qy, ey⟩ := intKeys_at hb hL.2.2
      have hm := hL.1
      rw [drop_cons hx] at hm
      have hsy := hm.sy
      rw [drop_cons ey] at hsy
      have := hm.preX (X1 := [xa]) fun x hx y hy => by
        rw [List.mem_singleton.mp hx]
        rw [drop_cons ey] at hy
        have h2 := srt_head hsy y hy
        rw [kv_some ey] at hle
        exact Int.le_trans hle h2
      simpa using this
    refine wpS_bind (wpS_mono (wpS_forRange (I := fun y c st'' => LM2 a b st' (x + y) c st'')
      (Q := fun c st'' => LMQ2 a b Q st' (x + 1) c st'') ?jstep ?jfin ⟨rfl, out, ia, ib, 0, 0, rfl, hL, hxo⟩) ?jpost)
    case jfin =>
      rintro c st'' ⟨rfl, out, ia, ib, ac, bc, rfl, hL, hx⟩
      exact .go rfl out ia ib ac bc rfl hL (by omega)
    case jstep =>
      rintro y c st'' _ hy ⟨rfl, out, ia, ib, ac, bc, rfl, hL, hxo⟩
      obtain ⟨tb, qb, eb⟩ := intKeys_at hb hL.2.2
      obtain ⟨ta, qa, ea⟩ := intKeys_at ha (i := ia) (by have := hL.2.1; omega)
      refine wpS_bind (wpS_elem eb (wpS_bind (wpS_elem ea (wpS_bind (wpS_lt hk' ?_)))))
      dsimp only
      by_cases hlt : K b ib < K a ia
      · refine wpS_ifp (by simpa using hlt) ?_
        refine wpS_bind (wpS_elem eb ?_)
        have hm := pushB hL eb (Int.le_of_lt (by exact hlt))
        by_cases e3 : ib + 1 = b.size
        · refine wpS_ifp (by simpa using e3) ?_
          exact wpS_pure (.fin _ _ rfl (done _ _ _ _ hs' hm (.inr (by omega))))
        refine wpS_ifn (by simpa using e3) ?_
        have hL2 : LoAt a b _ ia (ib + 1) := ⟨hm, hL.2.1, by have := hL.2.2; omega⟩
        split
        · exact wpS_pure (.go rfl _ _ _ _ _ rfl hL2 (by rw [Array.size_push]; omega))
        · exact wpS_pure ⟨rfl, _, _, _, _, _, rfl, hL2, by rw [Array.size_push]; omega⟩
      · refine wpS_ifn (by simpa using hlt) ?_
        refine wpS_bind (wpS_elem ea ?_)
        have hm := pushA hL ea (Int.not_lt.mp hlt)
        by_cases e3 : ia + 1 + 1 = a.size
        · refine wpS_ifp (by simpa using e3) ?_
          exact wpS_pure (.fin _ _ rfl (lastA _ _ _ _ hs' hm e3))
        refine wpS_ifn (by simpa using e3) ?_
        have hL2 : LoAt a b _ (ia + 1) ib := ⟨hm, by have := hL.2.1; omega, hL.2.2⟩
        split
        · exact wpS_pure (.go rfl _ _ _ _ _ rfl hL2 (by rw [Array.size_push]; omega))
        · exact wpS_pure ⟨rfl, _, _, _, _, _, rfl, hL2, by rw [Array.size_push]; omega⟩
    case jpost =>
      rintro c st'' (⟨r, rest, rfl, hq⟩ | ⟨rfl, out, ia, ib, ac, bc, rfl, hL, hxo⟩)
      · exact wpS_pure ⟨r, _, rfl, hq⟩
      dsimp only
      refine wpS_bind (wpS_lift (wpAny_rule ⟨rfl, ?_⟩))
      refine wpS_bind (wpS_mono (wpS_forRange (I := fun y c st2 => LM3 a b st (x + 1) c st2)
        (Q := fun c st2 => LMQ3 a b Q st (x + 1) c st2) ?kstep ?kfin ⟨hs', out, ia, ib, mg + 1, ac, bc, rfl, hL, hxo⟩) ?kpost)
      case kfin =>
        rintro c st2 ⟨hs2, out, ia, ib, mg, k, k1, rfl, hL, hx⟩
        exact .go hs2 out ia ib mg k k1 rfl hL hx
      case kstep =>
        rintro y c st2 _ hy ⟨hs2, out, ia, ib, mg, ac, bc, rfl, hL, hxo⟩
        have hk2 : kindOf st2 = oneType' := by obtain ⟨g, rfl⟩ := hs2; exact hk
        have tr : ∀ {st3}, SameBut st2 st3 → SameBut st st3 := fun {st3} h => by
          obtain ⟨g, rfl⟩ := hs2
          obtain ⟨g', rfl⟩ := h
          exact ⟨g', rfl⟩
        have key : ∀ mg', wpS (model prog w) A E s (loPart1 a b out ia ib mg' ac bc) (fun r st' => match r with
            | .done c' => LMQ3 a b Q st (x + 1) c' st'
            | .yield c' => LM3 a b st (x + 1) c' st') st2 := fun mg' =>
          wpS_loPart1 hk2 ha hb hL (fun o i j h e r st3 h3 => .fin _ r rfl (lastA o i j st3 (tr h3) h e)) (fun o i j h e r st3 h3 => .fin _ r rfl (done o i j st3 (tr h3) h e))
            fun o i j k k1 st3 h3 h hs => ⟨.go (tr h3) o i j mg' k k1 rfl h (by omega), ⟨tr h3, o, i, j, mg', k, k1, rfl, h, by omega⟩⟩
        dsimp only
        by_cases hmg : mg > 1
        · refine wpS_ifp hmg ?_
          refine wpS_mono (key (mg - 1)) fun r st3 h => ?_
          cases r <;> exact h
        · refine wpS_ifn hmg ?_
          refine wpS_mono (key mg) fun r st3 h => ?_
          cases r <;> exact h
      case kpost =>
        rintro c st2 (⟨r, rest, rfl, hq⟩ | ⟨hs2, out, ia, ib, mg, k, k1, rfl, hL, hxo⟩)
        · exact wpS_pure ⟨r, _, rfl, hq⟩
        dsimp only
        rw [setMinGallop'_eq]
        refine wpS_bind (wpS_modify (wpS_pure ?_))
        refine ⟨?_, out, ia, ib, mg + 1, rfl, hL, hxo⟩
        obtain ⟨g, rfl⟩ := hs2
        exact ⟨_, rfl⟩
end
end

section
open PySem PyProof.Rows
set_option autoImplicit false
set_option maxRecDepth 100000
set_option maxHeartbeats 2000000
noncomputable def mergeHi' : Array Keyed → Array Keyed → StateT SortSt Sem (Array Keyed) := sortPriv% PySem.Builtin.mergeHi
theorem mergeHi'_eq (a b : Array Keyed) : mergeHi' a b = (do
  rule "list.sort.merge-hi"
  let total := a.size + b.size
  let done (out : Array Keyed) (na nb : Nat) := a.extract 0 na ++ b.extract 0 nb ++ out.reverse
  let firstOfB (out : Array Keyed) (na nb : Nat) := b.extract 0 nb ++ a.extract 0 na ++ out.reverse
  let mut na := a.size - 1
  let mut nb := b.size
  let mut out : Array Keyed := #[← elem' a na]
  if na == 0 then return done out na nb
  if nb == 1 then return firstOfB out na nb
  let mut minGallop := gallopOf (← get)
  for _ in [0:total] do
    let mut acount := 0
    let mut bcount := 0
    for _ in [0:total] do
      let some aWins ← lt' (← elem' b (nb - 1)) (← elem' a (na - 1)) | return done out na nb
      if aWins then
        na := na - 1; out := out.push (← elem' a na); acount := acount + 1; bcount := 0
        if na == 0 then return done out na nb
        if acount ≥ minGallop then break
      else
        nb := nb - 1; out := out.push (← elem' b nb); bcount := bcount + 1; acount := 0
        if nb == 1 then return firstOfB out na nb
        if bcount ≥ minGallop then break
    rule "list.sort.gallop"
    minGallop := minGallop + 1
    for _ in [0:total] do
      if minGallop > 1 then minGallop := minGallop - 1
      setMinGallop' minGallop
      let some at_ ← gallop' false (← elem' b (nb - 1)) a 0 na (na - 1) | return done out na nb
      let k := na - at_
      acount := k
      if k > 0 then
        out := out ++ (a.extract at_ na).reverse; na := at_
        if na == 0 then return done out na nb
      nb := nb - 1; out := out.push (← elem' b nb)
      if nb == 1 then return firstOfB out na nb
      let some at_ ← gallop' true (← elem' a (na - 1)) b 0 nb (nb - 1) | return done out na nb
      let k := nb - at_
      bcount := k
      if k > 0 then
        out := out ++ (b.extract at_ nb).reverse; nb := at_
        if nb == 1 then return firstOfB out na nb
        if nb == 0 then return done out na nb
      na := na - 1; out := out.push (← elem' a na)
      if na == 0 then return done out na nb
      if acount < 7 && bcount < 7 then break
    minGallop := minGallop + 1
    setMinGallop' minGallop
  unsupported "internal:list.sort.merge-bound") := rfl
structure HInv (T X Y outr : List Keyed) : Prop where
  so : Srt outr
  sx : Srt X
  sy : Srt Y
  le : ∀ y ∈ X ++ Y, ∀ x ∈ outr, kv y ≤ kv x
  pm : (X ++ (Y ++ outr)).Perm T
theorem HInv.sufX {T X1 X2 Y outr : List Keyed} (h : HInv T (X1 ++ X2) Y outr) (h1 : ∀ x ∈ X2, ∀ y ∈ Y, kv y ≤ kv x) : HInv T X1 Y (X2 ++ outr) := by
  obtain ⟨a1, a2, a3, a4, a5⟩ := h
  have b2 := List.pairwise_append.mp a2
  refine ⟨List.pairwise_append.mpr ⟨b2.2.1, a1, fun x hx y hy => a4 x (by simp [hx]) y hy⟩, b2.1, a3, fun y hy x hx => ?_, ?_⟩
  · rcases List.mem_append.mp hx with hx | hx
    · rcases List.mem_append.mp hy with hy | hy
      · exact b2.2.2 y hy x hx
      · exact h1 x hx y hy
    · exact a4 y (by rcases List.mem_append.mp hy with hy | hy <;> simp [hy]) x hx
  · refine List.Perm.trans ?_ a5
    rw [List.append_assoc]
    refine List.Perm.append_left _ ?_
    rw [← List.append_assoc, ← List.append_assoc]
    exact List.Perm.append_right _ List.perm_append_comm
theorem HInv.sufY {T X Y1 Y2 outr : List Keyed} (h : HInv T X (Y1 ++ Y2) outr) (h1 : ∀ y ∈ Y2, ∀ x ∈ X, kv x ≤ kv y) : HInv T X Y1 (Y2 ++ outr) := by
  obtain ⟨a1, a2, a3, a4, a5⟩ := h
  have b3 := List.pairwise_append.mp a3
  refine ⟨List.pairwise_append.mpr ⟨b3.2.1, a1, fun x hx y hy => a4 x (by simp [hx]) y hy⟩, a2, b3.1, fun y hy x hx => ?_, ?_⟩
  · rcases List.mem_append.mp hx with hx | hx
    · rcases List.mem_append.mp hy with hy | hy
      · exact h1 x hx y hy
      · exact b3.2.2 y hy x hx
    · exact a4 y (by rcases List.mem_append.mp hy with hy | hy <;> simp [hy]) x hx
  · refine List.Perm.trans (List.Perm.append_left _ ?_) a5
    rw [List.append_assoc]
theorem HInv.end1 {T X Y outr : List Keyed} (h : HInv T X Y outr) (h1 : ∀ x ∈ X, ∀ y ∈ Y, kv x ≤ kv y) : Srt (X ++ Y ++ outr) ∧ (X ++ Y ++ outr).Perm T := by
  have := HInv.sufY (Y1 := []) (by simpa using h) fun y hy x hx => h1 x hx y hy
  refine ⟨?_, by simpa using h.pm⟩
  rw [List.append_assoc]
  exact List.pairwise_append.mpr ⟨h.sx, this.so, fun x hx y hy => this.le x (by simp [hx]) y hy⟩
theorem HInv.end2 {T X Y outr : List Keyed} (h : HInv T X Y outr) (h1 : ∀ y ∈ Y, ∀ x ∈ X, kv y ≤ kv x) : Srt (Y ++ X ++ outr) ∧ (Y ++ X ++ outr).Perm T := by
  have := HInv.sufX (X1 := []) (by simpa using h) fun x hx y hy => h1 y hy x hx
  refine ⟨?_, by simpa using this.pm⟩
  rw [List.append_assoc]
  exact List.pairwise_append.mpr ⟨h.sy, this.so, fun x hx y hy => this.le x (by simp [hx]) y hy⟩
theorem take_snoc {xs : Array Keyed} {i : Nat} {x : Keyed} (h : xs[i]? = some x) : xs.toList.take (i + 1) = xs.toList.take i ++ [x] := by
  have h2 : xs.toList[i]? = some x := by simpa using h
  rw [List.take_add_one, h2]; rfl
theorem srt_last {x : Keyed} {l : List Keyed} (h : Srt (l ++ [x])) : ∀ y ∈ l ++ [x], kv y ≤ kv x := fun y hy => by
  rcases List.mem_append.mp hy with hy | hy
  · exact (List.pairwise_append.mp h).2.2 y hy x (by simp)
  · rw [List.mem_singleton.mp hy]; exact Int.le_refl _
theorem srt_getT {xs : Array Keyed} {n : Nat} (h : Srt (xs.toList.take n)) (hn : n ≤ xs.size) : ∀ i j, i ≤ j → j < n → K xs (0 + i) ≤ K xs (0 + j) := fun i j hij hj => by
  rw [Nat.zero_add, Nat.zero_add]
  by_cases e : i = j
  · subst e; exact Int.le_refl _
  have l1 : i < xs.size := by omega
  have l2 : j < xs.size := by omega
  have := List.pairwise_iff_getElem.mp h i j (by simp; omega) (by simp; omega) (by omega)
  rw [kv_at l1, kv_at l2]
  simpa using this
theorem bey_takeT {left : Bool} {kk : Int} {xs : Array Keyed} {t : Nat} (ht : t ≤ xs.size) (h : ∀ i, i < t → bey left kk xs 0 i = true) : ∀ x ∈ xs.toList.take t, if left then kv x < kk else kv x ≤ kk := fun x hx => by
  have := bey_take (base := 0) (by omega) h x (by simpa using hx)
  exact this
theorem bey_midT {left : Bool} {kk : Int} {xs : Array Keyed} {n t : Nat} (hn : n ≤ xs.size) (h : ∀ i, t ≤ i → i < n → bey left kk xs 0 i = false) : ∀ x ∈ (xs.toList.take n).drop t, if left then kk ≤ kv x else kk < kv x := fun x hx => by
  obtain ⟨i, hi, rfl⟩ := List.mem_iff_getElem.mp hx
  have hi2 : t + i < n := by simp at hi; omega
  have hi' : t + i < xs.size := by omega
  have := h (t + i) (by omega) hi2
  unfold bey at this
  rw [Nat.zero_add, kv_at hi'] at this
  cases left with
  | true => simpa using this
  | false => simpa using this
noncomputable abbrev HiC : Type := Option (Array Keyed) × Nat × Nat × Array Keyed × Nat × Nat × Nat
noncomputable def hiPart3 (a b : Array Keyed) (na nb : Nat) (out : Array Keyed) (mg k k1 : Nat) : StateT SortSt Sem (ForInStep HiC) := do
  let x ← elem' a (na - 1)
  if (na - 1 == 0) = true then pure (ForInStep.done (some (a.extract 0 (na - 1) ++ b.extract 0 nb ++ (out.push x).reverse), na - 1, nb, out.push x, mg, k, k1))
  else if (decide (k < 7) && decide (k1 < 7)) = true then pure (ForInStep.done (none, na - 1, nb, out.push x, mg, k, k1))
  else pure (ForInStep.yield (none, na - 1, nb, out.push x, mg, k, k1))
noncomputable def hiPart2 (a b : Array Keyed) (na nb : Nat) (out : Array Keyed) (mg k bc : Nat) : StateT SortSt Sem (ForInStep HiC) := do
  let y ← elem' b (nb - 1)
  if (nb - 1 == 1) = true then pure (ForInStep.done (some (b.extract 0 (nb - 1) ++ a.extract 0 na ++ (out.push y).reverse), na, nb - 1, out.push y, mg, k, bc))
  else do
    let x ← elem' a (na - 1)
    let r ← gallop' true x b 0 (nb - 1) (nb - 1 - 1)
    match r with
    | some at1 =>
      if nb - 1 - at1 > 0 then
        if (at1 == 1) = true then pure (ForInStep.done (some (b.extract 0 at1 ++ a.extract 0 na ++ (out.push y ++ (b.extract at1 (nb - 1)).reverse).reverse), na, at1, out.push y ++ (b.extract at1 (nb - 1)).reverse, mg, k, nb - 1 - at1))
        else if (at1 == 0) = true then pure (ForInStep.done (some (a.extract 0 na ++ b.extract 0 at1 ++ (out.push y ++ (b.extract at1 (nb - 1)).reverse).reverse), na, at1, out.push y ++ (b.extract at1 (nb - 1)).reverse, mg, k, nb - 1 - at1))
        else hiPart3 a b na at1 (out.push y ++ (b.extract at1 (nb - 1)).reverse) mg k (nb - 1 - at1)
      else hiPart3 a b na (nb - 1) (out.push y) mg k (nb - 1 - at1)
    | _ => pure (ForInStep.done (some (a.extract 0 na ++ b.extract 0 (nb - 1) ++ (out.push y).reverse), na, nb - 1, out.push y, mg, k, bc))
noncomputable def hiPart1 (a b : Array Keyed) (na nb : Nat) (out : Array Keyed) (mg ac bc : Nat) : StateT SortSt Sem (ForInStep HiC) := do
  setMinGallop' mg
  let y ← elem' b (nb - 1)
  let r ← gallop' false y a 0 na (na - 1)
  match r with
  | some at_ =>
    if na - at_ > 0 then
      if (at_ == 0) = true then pure (ForInStep.done (some (a.extract 0 at_ ++ b.extract 0 nb ++ (out ++ (a.extract at_ na).reverse).reverse), at_, nb, out ++ (a.extract at_ na).reverse, mg, na - at_, bc))
      else hiPart2 a b at_ nb (out ++ (a.extract at_ na).reverse) mg (na - at_) bc
    else hiPart2 a b na nb out mg (na - at_) bc
  | _ => pure (ForInStep.done (some (a.extract 0 na ++ b.extract 0 nb ++ out.reverse), na, nb, out, mg, ac, bc))
theorem rev_run (xs out : Array Keyed) (i n : Nat) : (out ++ (xs.extract i n).reverse).toList.reverse = (xs.toList.take n).drop i ++ out.toList.reverse := by
  simp [List.drop_take]
theorem rev_push (out : Array Keyed) (x : Keyed) : (out.push x).toList.reverse = [x] ++ out.toList.reverse := by simp
section
variable {prog : Program} {w : World} {A : Around} {E : Value → Shared → Prop} {s : Shared} {st : SortSt}
noncomputable def HiAt (a b : Array Keyed) (out : Array Keyed) (na nb : Nat) : Prop := HInv (a.toList ++ b.toList) (a.toList.take na) (b.toList.take nb) out.toList.reverse ∧ 1 ≤ na ∧ na ≤ a.size ∧ 2 ≤ nb ∧ nb ≤ b.size
theorem wpS_hiPart3 {a b out : Array Keyed} {na nb mg k k1 : Nat} {Post : ForInStep HiC → SortSt → Prop} (ha : IntKeys a) (hL : HiAt a b out na nb) (hge : ∀ y ∈ b.toList.take nb, kv y ≤ K a (na - 1))
    (hdone : ∀ (out : Array Keyed) (na nb : Nat), HInv (a.toList ++ b.toList) (a.toList.take na) (b.toList.take nb) out.toList.reverse → (na = 0 ∨ nb = 0) → ∀ rest, Post (.done (some (a.extract 0 na ++ b.extract 0 nb ++ out.reverse), rest)) st)
    (hgo : ∀ out' na' nb', HiAt a b out' na' nb' → out.size < out'.size → Post (.done (none, na', nb', out', mg, k, k1)) st ∧ Post (.yield (none, na', nb', out', mg, k, k1)) st) :
    wpS (model prog w) A E s (hiPart3 a b na nb out mg k k1) Post st := by
  obtain ⟨hm, l1, l2, l3, l4⟩ := hL
  obtain ⟨tx, qx, ex⟩ := intKeys_at ha (i := na - 1) (by omega)
  have hts := take_snoc ex
  rw [show na - 1 + 1 = na by omega] at hts
  rw [hts] at hm
  have hm2 : HInv (a.toList ++ b.toList) (a.toList.take (na - 1)) (b.toList.take nb) (out.push (.int (K a (na - 1)) tx, qx)).toList.reverse := by
    rw [rev_push]
    exact hm.sufX fun x hx y hy => by rw [List.mem_singleton.mp hx]; exact hge y hy
  unfold hiPart3
  refine wpS_bind (wpS_elem ex ?_)
  by_cases e : na - 1 = 0
  · refine wpS_ifp (by simpa using e) ?_
    exact wpS_pure (hdone _ _ _ hm2 (.inl e) _)
  refine wpS_ifn (by simpa using e) ?_
  have := hgo _ _ _ ⟨hm2, by omega, by omega, l3, l4⟩ (by rw [Array.size_push]; exact Nat.lt_succ_self _)
  split
  · exact wpS_pure this.1
  · exact wpS_pure this.2
theorem wpS_hiPart2 {a b out : Array Keyed} {na nb mg k bc : Nat} {Post : ForInStep HiC → SortSt → Prop} (hk : kindOf st = oneType') (ha : IntKeys a) (hb : IntKeys b) (hL : HiAt a b out na nb) (hge : ∀ x ∈ a.toList.take na, kv x ≤ K b (nb - 1))
    (hfirst : ∀ (out : Array Keyed) (na nb : Nat), HInv (a.toList ++ b.toList) (a.toList.take na) (b.toList.take nb) out.toList.reverse → nb = 1 → ∀ rest, Post (.done (some (b.extract 0 nb ++ a.extract 0 na ++ out.reverse), rest)) st)
    (hdone : ∀ (out : Array Keyed) (na nb : Nat), HInv (a.toList ++ b.toList) (a.toList.take na) (b.toList.take nb) out.toList.reverse → (na = 0 ∨ nb = 0) → ∀ rest, Post (.done (some (a.extract 0 na ++ b.extract 0 nb ++ out.reverse), rest)) st)
    (hgo : ∀ out' na' nb' k k1, HiAt a b out' na' nb' → out.size < out'.size → Post (.done (none, na', nb', out', mg, k, k1)) st ∧ Post (.yield (none, na', nb', out', mg, k, k1)) st) :
    wpS (model prog w) A E s (hiPart2 a b na nb out mg k bc) Post st := by
  obtain ⟨hm, l1, l2, l3, l4⟩ := hL
  obtain ⟨ty, qy, ey⟩ := intKeys_at hb (i := nb - 1) (by omega)
  obtain ⟨tx, qx, ex⟩ := intKeys_at ha (i := na - 1) (by omega)
  have hts := take_snoc ey
  rw [show nb - 1 + 1 = nb by omega] at hts
  rw [hts] at hm
  have hm2 : HInv (a.toList ++ b.toList) (a.toList.take na) (b.toList.take (nb - 1)) (out.push (.int (K b (nb - 1)) ty, qy)).toList.reverse := by
    rw [rev_push]
    exact hm.sufY fun y hy x hx => by rw [List.mem_singleton.mp hy]; exact hge x hx
  unfold hiPart2
  refine wpS_bind (wpS_elem ey ?_)
  by_cases e : nb - 1 = 1
  · refine wpS_ifp (by simpa using e) ?_
    exact wpS_pure (hfirst _ _ _ hm2 e _)
  refine wpS_ifn (by simpa using e) ?_
  refine wpS_bind (wpS_elem ex (wpS_bind ?_))
  refine wpS_gallop hk hb (by omega) (by omega) (srt_getT hm2.sy (by omega)) fun at1 hat1 h1 h2 => ?_
  dsimp only
  have t1 := bey_takeT (left := true) (by omega) h1
  have t2 := bey_midT (left := true) (n := nb - 1) (by omega) h2
  simp only [if_true] at t1 t2
  have hxX : ∀ x ∈ a.toList.take na, kv x ≤ K a (na - 1) := fun x hx => by
    have h3 := take_snoc ex
    rw [show na - 1 + 1 = na by omega] at h3
    have := hm2.sx
    rw [h3] at this hx
    exact srt_last this x hx
  have hm3 : HInv (a.toList ++ b.toList) (a.toList.take na) (b.toList.take at1) ((out.push (.int (K b (nb - 1)) ty, qy)) ++ (b.extract at1 (nb - 1)).reverse).toList.reverse := by
    have h3 : b.toList.take (nb - 1) = b.toList.take at1 ++ (b.toList.take (nb - 1)).drop at1 := by
      have := (List.take_append_drop at1 (b.toList.take (nb - 1))).symm
      rwa [List.take_take, Nat.min_eq_left hat1] at this
    have h4 := hm2
    rw [h3] at h4
    rw [rev_run]
    exact h4.sufY fun y hy x hx => Int.le_trans (hxX x hx) (t2 y hy)
  have t1' : ∀ y ∈ b.toList.take at1, kv y ≤ K a (na - 1) := fun y hy => Int.le_of_lt (t1 y hy)
  by_cases hk0 : nb - 1 - at1 > 0
  · refine wpS_ifp hk0 ?_
    by_cases e2 : at1 = 1
    · refine wpS_ifp (by simpa using e2) ?_
      exact wpS_pure (hfirst _ _ _ hm3 e2 _)
    refine wpS_ifn (by simpa using e2) ?_
    by_cases e3 : at1 = 0
    · refine wpS_ifp (by simpa using e3) ?_
      exact wpS_pure (hdone _ _ _ hm3 (.inr e3) _)
    refine wpS_ifn (by simpa using e3) ?_
    exact wpS_hiPart3 ha ⟨hm3, l1, l2, by omega, by omega⟩ t1' hdone fun o i j h hs => hgo o i j _ _ h (by simp at hs; omega)
  · refine wpS_ifn hk0 ?_
    have : at1 = nb - 1 := by omega
    subst this
    exact wpS_hiPart3 ha ⟨hm2, l1, l2, by omega, by omega⟩ t1' hdone fun o i j h hs => hgo o i j _ _ h (by simp at hs; omega)
theorem wpS_hiPart1 {a b out : Array Keyed} {na nb mg ac bc : Nat} {Post : ForInStep HiC → SortSt → Prop} (hk : kindOf st = oneType') (ha : IntKeys a) (hb : IntKeys b) (hL : HiAt a b out na nb)
    (hfirst : ∀ (out : Array Keyed) (na nb : Nat), HInv (a.toList ++ b.toList) (a.toList.take na) (b.toList.take nb) out.toList.reverse → nb = 1 → ∀ rest st', SameBut st st' → Post (.done (some (b.extract 0 nb ++ a.extract 0 na ++ out.reverse), rest)) st')
    (hdone : ∀ (out : Array Keyed) (na nb : Nat), HInv (a.toList ++ b.toList) (a.toList.take na) (b.toList.take nb) out.toList.reverse → (na = 0 ∨ nb = 0) → ∀ rest st', SameBut st st' → Post (.done (some (a.extract 0 na ++ b.extract 0 nb ++ out.reverse), rest)) st')
    (hgo : ∀ out' na' nb' k k1 st', SameBut st st' → HiAt a b out' na' nb' → out.size < out'.size → Post (.done (none, na', nb', out', mg, k, k1)) st' ∧ Post (.yield (none, na', nb', out', mg, k, k1)) st') :
    wpS (model prog w) A E s (hiPart1 a b na nb out mg ac bc) Post st := by
  obtain ⟨hm, l1, l2, l3, l4⟩ := hL
  obtain ⟨ty, qy, ey⟩ := intKeys_at hb (i := nb - 1) (by omega)
  unfold hiPart1
  rw [setMinGallop'_eq]
  refine wpS_bind (wpS_modify ?_)
  obtain ⟨st2, hst2⟩ : ∃ st2 : SortSt, st2 = SortSt.mk' (kindOf st) (arrOf st) (pendingOf st) mg (failedOf st) := ⟨_, rfl⟩
  rw [← hst2]
  have hs2 : SameBut st st2 := ⟨mg, hst2⟩
  have hk2 : kindOf st2 = oneType' := by rw [hst2]; exact hk
  refine wpS_bind (wpS_elem ey (wpS_bind ?_))
  refine wpS_gallop hk2 ha (by omega) (by omega) (srt_getT hm.sx (by omega)) fun at_ hat h1 h2 => ?_
  dsimp only
  have t1 := bey_takeT (left := false) (by omega) h1
  have t2 := bey_midT (left := false) (n := na) (by omega) h2
  simp only [Bool.false_eq_true, if_false] at t1 t2
  have hyY : ∀ y ∈ b.toList.take nb, kv y ≤ K b (nb - 1) := fun y hy => by
    have h3 := take_snoc ey
    rw [show nb - 1 + 1 = nb by omega] at h3
    have := hm.sy
    rw [h3] at this hy
    exact srt_last this y hy
  have hm3 : HInv (a.toList ++ b.toList) (a.toList.take at_) (b.toList.take nb) (out ++ (a.extract at_ na).reverse).toList.reverse := by
    have h3 : a.toList.take na = a.toList.take at_ ++ (a.toList.take na).drop at_ := by
      have := (List.take_append_drop at_ (a.toList.take na)).symm
      rwa [List.take_take, Nat.min_eq_left hat] at this
    have h4 := hm
    rw [h3] at h4
    rw [rev_run]
    exact h4.sufX fun x hx y hy => Int.le_trans (hyY y hy) (Int.le_of_lt (t2 x hx))
  by_cases hk0 : na - at_ > 0
  · refine wpS_ifp hk0 ?_
    by_cases e1 : at_ = 0
    · refine wpS_ifp (by simpa using e1) ?_
      exact wpS_pure (hdone _ _ _ hm3 (.inl e1) _ _ hs2)
    refine wpS_ifn (by simpa using e1) ?_
    exact wpS_hiPart2 hk2 ha hb ⟨hm3, by omega, by omega, l3, l4⟩ t1 (fun o i j h e r => hfirst o i j h e r _ hs2) (fun o i j h e r => hdone o i j h e r _ hs2) fun o i j k k1 h hs => hgo o i j k k1 _ hs2 h (by simp at hs; omega)
  · refine wpS_ifn hk0 ?_
    have : at_ = na := by omega
    subst this
    exact wpS_hiPart2 hk2 ha hb ⟨hm, l1, l2, l3, l4⟩ t1 (fun o i j h e r => hfirst o i j h e r _ hs2) (fun o i j h e r => hdone o i j h e r _ hs2) fun o i j k k1 h hs => hgo o i j k k1 _ hs2 h hs
inductive HM1 (a b : Array Keyed) (st : SortSt) (z : Nat) (c : Option (Array Keyed) × Nat × Nat × Array Keyed × Nat) (st' : SortSt) : Prop
  | mk (_ : SameBut st st') (na nb : Nat) (out : Array Keyed) (mg : Nat) (_ : c = (none, na, nb, out, mg)) (_ : HiAt a b out na nb) (_ : z < out.size) : HM1 a b st z c st'
inductive HM2 (a b : Array Keyed) (st : SortSt) (z : Nat) (c : Option (Array Keyed) × Nat × Nat × Array Keyed × Nat × Nat) (st' : SortSt) : Prop
  | mk (_ : st' = st) (na nb : Nat) (out : Array Keyed) (ac bc : Nat) (_ : c = (none, na, nb, out, ac, bc)) (_ : HiAt a b out na nb) (_ : z < out.size) : HM2 a b st z c st'
inductive HMQ2 (a b : Array Keyed) (R : Array Keyed → SortSt → Prop) (st : SortSt) (z : Nat) (c : Option (Array Keyed) × Nat × Nat × Array Keyed × Nat × Nat) (st' : SortSt) : Prop
  | fin (r : Array Keyed) (rest : Nat × Nat × Array Keyed × Nat × Nat) (_ : c = (some r, rest)) (_ : R r st') : HMQ2 a b R st z c st'
  | go (_ : st' = st) (na nb : Nat) (out : Array Keyed) (ac bc : Nat) (_ : c = (none, na, nb, out, ac, bc)) (_ : HiAt a b out na nb) (_ : z < out.size) : HMQ2 a b R st z c st'
inductive HM3 (a b : Array Keyed) (st : SortSt) (z : Nat) (c : Option (Array Keyed) × Nat × Nat × Array Keyed × Nat × Nat × Nat) (st' : SortSt) : Prop
  | mk (_ : SameBut st st') (na nb : Nat) (out : Array Keyed) (mg k k1 : Nat) (_ : c = (none, na, nb, out, mg, k, k1)) (_ : HiAt a b out na nb) (_ : z < out.size) : HM3 a b st z c st'
inductive HMQ3 (a b : Array Keyed) (R : Array Keyed → SortSt → Prop) (st : SortSt) (z : Nat) (c : Option (Array Keyed) × Nat × Nat × Array Keyed × Nat × Nat × Nat) (st' : SortSt) : Prop
  | fin (r : Array Keyed) (rest : Nat × Nat × Array Keyed × Nat × Nat × Nat) (_ : c = (some r, rest)) (_ : R r st') : HMQ3 a b R st z c st'
  | go (_ : SameBut st st') (na nb : Nat) (out : Array Keyed) (mg k k1 : Nat) (_ : c = (none, na, nb, out, mg, k, k1)) (_ : HiAt a b out na nb) (_ : z < out.size) : HMQ3 a b R st z c st'
theorem wpS_mergeHi {a b : Array Keyed} {Q : Array Keyed → SortSt → Prop} (hk : kindOf st = oneType') (ha : IntKeys a) (hb : IntKeys b) (sa : Srt a.toList) (sb : Srt b.toList) (na0 : 0 < a.size) (nb0 : 0 < b.size)
    (h0 : ∀ x ∈ a.toList, ∀ y ∈ b.toList.take 1, kv y ≤ kv x) (h1 : ∀ x ∈ a.toList.drop (a.size - 1), ∀ y ∈ b.toList, kv y ≤ kv x)
    (hQ : ∀ (out : Array Keyed) st', SameBut st st' → Srt out.toList → out.toList.Perm (a.toList ++ b.toList) → Q out st') : wpS (model prog w) A E s (mergeHi' a b) Q st := by
  have tl : ∀ (xs : Array Keyed) (i : Nat), (xs.extract 0 i).toList = xs.toList.take i := fun xs i => by simp
  have done : ∀ (out : Array Keyed) (na nb : Nat) st', SameBut st st' → HInv (a.toList ++ b.toList) (a.toList.take na) (b.toList.take nb) out.toList.reverse → (na = 0 ∨ nb = 0) → Q (a.extract 0 na ++ b.extract 0 nb ++ out.reverse) st' := fun out na nb st' hs hm he => by
    have e : (a.extract 0 na ++ b.extract 0 nb ++ out.reverse).toList = a.toList.take na ++ b.toList.take nb ++ out.toList.reverse := by rw [Array.toList_append, Array.toList_append, tl, tl, Array.toList_reverse]
    obtain ⟨q1, q2⟩ := hm.end1 (by
      rcases he with he | he
      · rw [he, List.take_zero]; exact (fun _ h => nomatch h)
      · rw [he, List.take_zero]; exact (fun _ _ _ h => nomatch h))
    exact hQ _ st' hs (e ▸ q1) (e ▸ q2)
  have firstB : ∀ (out : Array Keyed) (na nb : Nat) st', SameBut st st' → HInv (a.toList ++ b.toList) (a.toList.take na) (b.toList.take nb) out.toList.reverse → nb = 1 → Q (b.extract 0 nb ++ a.extract 0 na ++ out.reverse) st' := fun out na nb st' hs hm he => by
    have e : (b.extract 0 nb ++ a.extract 0 na ++ out.reverse).toList = b.toList.take nb ++ a.toList.take na ++ out.toList.reverse := by rw [Array.toList_append, Array.toList_append, tl, tl, Array.toList_reverse]
    obtain ⟨q1, q2⟩ := hm.end2 (fun y hy x hx => h0 x (List.mem_of_mem_take hx) y (by rw [he] at hy; exact hy))
    exact hQ _ st' hs (e ▸ q1) (e ▸ q2)
  rw [mergeHi'_eq]
  refine wpS_bind (wpS_lift (wpAny_rule ⟨rfl, ?_⟩))
  dsimp only
  obtain ⟨ta0, qa0, ea0⟩ := intKeys_at ha (i := a.size - 1) (by omega)
  refine wpS_bind (wpS_elem ea0 ?_)
  have hinit : HInv (a.toList ++ b.toList) (a.toList.take (a.size - 1)) (b.toList.take b.size) (#[((.int (K a (a.size - 1)) ta0, qa0) : Keyed)] : Array Keyed).toList.reverse := by
    have e := take_snoc ea0
    rw [show a.size - 1 + 1 = a.toList.length by simp; omega, List.take_length] at e
    have h0' : HInv (a.toList ++ b.toList) (a.toList.take (a.size - 1) ++ [(.int (K a (a.size - 1)) ta0, qa0)]) (b.toList.take b.size) [] := ⟨List.Pairwise.nil, by rw [← e]; exact sa, by rw [show b.size = b.toList.length by simp, List.take_length]; exact sb, (fun _ _ _ h => nomatch h), by rw [← e, show b.size = b.toList.length by simp, List.take_length, List.append_nil]⟩
    have := h0'.sufX fun x hx y hy => h1 x (by rw [drop_cons ea0, List.mem_singleton.mp hx]; exact .head _) y (List.mem_of_mem_take hy)
    simpa using this
  by_cases e1 : a.size - 1 = 0
  · refine wpS_ifp (by simpa using e1) ?_
    exact wpS_pure (done _ _ _ st (SameBut.refl st) hinit (.inl e1))
  refine wpS_ifn (by simpa using e1) ?_
  by_cases e2 : b.size = 1
  · refine wpS_ifp (by simpa using e2) ?_
    exact wpS_pure (firstB _ _ _ st (SameBut.refl st) hinit e2)
  refine wpS_ifn (by simpa using e2) ?_
  refine wpS_bind (wpS_get ?_)
  (try dsimp only)
  refine wpS_bind (wpS_mono (wpS_forRange (I := fun x c st' => HM1 a b st x c st') (Q := fun c st' => ∃ r rest, c = (some r, rest) ∧ Q r st') ?step ?fin ?init) ?post)
  case init => exact ⟨SameBut.refl st, _, _, _, _, rfl, ⟨hinit, by omega, by omega, by omega, Nat.le_refl _⟩, by simp⟩
  case post =>
    rintro c st' ⟨r, rest, rfl, hq⟩
    exact wpS_pure hq
  case fin =>
    rintro c st' ⟨_, na, nb, out, mg, rfl, hL, hx⟩
    exfalso
    have h2 := hL.1.pm.length_eq
    have h3 := hL.2
    simp only [List.length_append, List.length_take, Array.length_toList, List.length_reverse] at h2
    omega
  case step =>
    rintro x c st' _ hx ⟨hs', na, nb, out, mg, rfl, hL, hxo⟩
    have hk' : kindOf st' = oneType' := by obtain ⟨g, rfl⟩ := hs'; exact hk
    refine wpS_bind (wpS_mono (wpS_forRange (I := fun y c st'' => HM2 a b st' (x + y) c st'')
      (Q := fun c st'' => HMQ2 a b Q st' (x + 1) c st'') ?jstep ?jfin ⟨rfl, na, nb, out, 0, 0, rfl, hL, hxo⟩) ?jpost)
    case jfin =>
      rintro c st'' ⟨rfl, na, nb, out, ac, bc, rfl, hL, hx⟩
      exact .go rfl na nb out ac bc rfl hL (by omega)
    case jstep =>
      rintro y c st'' _ hy ⟨rfl, na, nb, out, ac, bc, rfl, hL, hxo⟩
      obtain ⟨hm, l1, l2, l3, l4⟩ := hL
      obtain ⟨tb, qb, eb⟩ := intKeys_at hb (i := nb - 1) (by omega)
      obtain ⟨ta, qa, ea⟩ := intKeys_at ha (i := na - 1) (by omega)
      have sB := take_snoc eb
      have sA := take_snoc ea
      rw [show nb - 1 + 1 = nb by omega] at sB
      rw [show na - 1 + 1 = na by omega] at sA
      refine wpS_bind (wpS_elem eb (wpS_bind (wpS_elem ea (wpS_bind (wpS_lt hk' ?_)))))
      dsimp only
      by_cases hlt : K b (nb - 1) < K a (na - 1)
      · refine wpS_ifp (by simpa using hlt) ?_
        refine wpS_bind (wpS_elem ea ?_)
        have hm2 : HInv (a.toList ++ b.toList) (a.toList.take (na - 1)) (b.toList.take nb) (out.push (.int (K a (na - 1)) ta, qa)).toList.reverse := by
          have h4 := hm
          rw [sA] at h4
          rw [rev_push]
          refine h4.sufX fun x hx y hy => ?_
          rw [List.mem_singleton.mp hx]
          have h5 := hm.sy
          rw [sB] at h5 hy
          exact Int.le_trans (srt_last h5 y hy) (Int.le_of_lt hlt)
        by_cases e3 : na - 1 = 0
        · refine wpS_ifp (by simpa using e3) ?_
          exact wpS_pure (.fin _ _ rfl (done _ _ _ _ hs' hm2 (.inl e3)))
        refine wpS_ifn (by simpa using e3) ?_
        have hL2 : HiAt a b _ (na - 1) nb := ⟨hm2, by omega, by omega, l3, l4⟩
        split
        · exact wpS_pure (.go rfl _ _ _ _ _ rfl hL2 (by rw [Array.size_push]; omega))
        · exact wpS_pure ⟨rfl, _, _, _, _, _, rfl, hL2, by rw [Array.size_push]; omega⟩
      · refine wpS_ifn (by simpa using hlt) ?_
        refine wpS_bind (wpS_elem eb ?_)
        have hm2 : HInv (a.toList ++ b.toList) (a.toList.take na) (b.toList.take (nb - 1)) (out.push (.int (K b (nb - 1)) tb, qb)).toList.reverse := by
          have h4 := hm
          rw [sB] at h4
          rw [rev_push]
          refine h4.sufY fun y hy x hx => ?_
          rw [List.mem_singleton.mp hy]
          have h5 := hm.sx
          rw [sA] at h5 hx
          exact Int.le_trans (srt_last h5 x hx) (Int.not_lt.mp hlt)
        by_cases e3 : nb - 1 = 1
        · refine wpS_ifp (by simpa using e3) ?_
          exact wpS_pure (.fin _ _ rfl (firstB _ _ _ _ hs' hm2 e3))
        refine wpS_ifn (by simpa using e3) ?_
        have hL2 : HiAt a b _ na (nb - 1) := ⟨hm2, l1, l2, by omega, by omega⟩
        split
        · exact wpS_pure (.go rfl _ _ _ _ _ rfl hL2 (by rw [Array.size_push]; omega))
        · exact wpS_pure ⟨rfl, _, _, _, _, _, rfl, hL2, by rw [Array.size_push]; omega⟩
    case jpost =>
      rintro c st'' (⟨r, rest, rfl, hq⟩ | ⟨rfl, na, nb, out, ac, bc, rfl, hL, hxo⟩)
      · exact wpS_pure ⟨r, _, rfl, hq⟩
      dsimp only
      refine wpS_bind (wpS_lift (wpAny_rule ⟨rfl, ?_⟩))
      refine wpS_bind (wpS_mono (wpS_forRange (I := fun y c st2 => HM3 a b st (x + 1) c st2)
        (Q := fun c st2 => HMQ3 a b Q st (x + 1) c st2) ?kstep ?kfin ⟨hs', na, nb, out, mg + 1, ac, bc, rfl, hL, hxo⟩) ?kpost)
      case kfin =>
        rintro c st2 ⟨hs2, na, nb, out, mg, k, k1, rfl, hL, hx⟩
        exact .go hs2 na nb out mg k k1 rfl hL hx
      case kstep =>
        rintro y c st2 _ hy ⟨hs2, na, nb, out, mg, ac, bc, rfl, hL, hxo⟩
        have hk2 : kindOf st2 = oneType' := by obtain ⟨g, rfl⟩ := hs2; exact hk
        have tr : ∀ {st3}, SameBut st2 st3 → SameBut st st3 := fun {st3} h => by
          obtain ⟨g, rfl⟩ := hs2
          obtain ⟨g', rfl⟩ := h
          exact ⟨g', rfl⟩
        have key : ∀ mg', wpS (model prog w) A E s (hiPart1 a b na nb out mg' ac bc) (fun r st' => match r with
            | .done c' => HMQ3 a b Q st (x + 1) c' st'
            | .yield c' => HM3 a b st (x + 1) c' st') st2 := fun mg' =>
          wpS_hiPart1 hk2 ha hb hL (fun o i j h e r st3 h3 => .fin _ r rfl (firstB o i j st3 (tr h3) h e)) (fun o i j h e r st3 h3 => .fin _ r rfl (done o i j st3 (tr h3) h e))
            fun o i j k k1 st3 h3 h hs => ⟨.go (tr h3) i j o mg' k k1 rfl h (by omega), ⟨tr h3, i, j, o, mg', k, k1, rfl, h, by omega⟩⟩
        dsimp only
        by_cases hmg : mg > 1
        · refine wpS_ifp hmg ?_
          refine wpS_mono (key (mg - 1)) fun r st3 h => ?_
          cases r <;> exact h
        · refine wpS_ifn hmg ?_
          refine wpS_mono (key mg) fun r st3 h => ?_
          cases r <;> exact h
      case kpost =>
        rintro c st2 (⟨r, rest, rfl, hq⟩ | ⟨hs2, na, nb, out, mg, k, k1, rfl, hL, hxo⟩)
        · exact wpS_pure ⟨r, _, rfl, hq⟩
        dsimp only
        rw [setMinGallop'_eq]
        refine wpS_bind (wpS_modify (wpS_pure ?_))
        refine ⟨?_, na, nb, out, mg + 1, rfl, hL, hxo⟩
        obtain ⟨g, rfl⟩ := hs2
        exact ⟨_, rfl⟩
end
end

section
open PySem PyProof.Rows
set_option autoImplicit false
set_option maxRecDepth 100000
set_option maxHeartbeats 2000000
theorem mergeAt'_eq (i : Nat) : mergeAt' i = (do
  let s ← get
  let (some (sa, na, power), some (sb, nb, _)) := ((pendingOf s)[i]?, (pendingOf s)[i + 1]?) | unsupported "internal:list.sort.pending"
  set (setPending s (((pendingOf s).setIfInBounds i (sa, na + nb, power)).eraseIdxIfInBounds (i + 1)))
  let some k ← gallop' false (← elem' (arrOf s) sb) (arrOf s) sa na 0 | return false
  let (sa, na) := (sa + k, na - k)
  if na == 0 then return true
  let some nb ← gallop' true (← elem' (arrOf s) (sa + na - 1)) (arrOf s) sb nb (nb - 1) | return false
  if nb == 0 then return true
  let x := (arrOf s).extract sa sb
  let y := (arrOf s).extract sb (sb + nb)
  let merged ← if na ≤ nb then mergeLo' x y else mergeHi' x y
  modify fun s => setArr s (merged.toList.zipIdx.foldl (fun a (p, j) => a.setIfInBounds (sa + j) p) (arrOf s))
  return (failedOf (← get)).isNone) := rfl
theorem write_back : ∀ (l : List Keyed) (j sa : Nat) (xs : Array Keyed), sa + j + l.length ≤ xs.size →
    ((l.zipIdx j).foldl (fun a (e : Keyed × Nat) => a.setIfInBounds (sa + e.2) e.1) xs).toList = xs.toList.take (sa + j) ++ l ++ xs.toList.drop (sa + j + l.length)
  | [], j, sa, xs, _ => by simp
  | p :: r, j, sa, xs, h => by
    have hl : (p :: r).length = r.length + 1 := rfl
    rw [List.zipIdx_cons, List.foldl_cons, write_back r (j + 1) sa _ (by rw [Array.size_setIfInBounds]; omega)]
    dsimp only
    have hs : (xs.setIfInBounds (sa + j) p).toList = xs.toList.take (sa + j) ++ p :: xs.toList.drop (sa + j + 1) := by
      rw [Array.toList_setIfInBounds, List.set_eq_take_append_cons_drop, if_pos (by simp; omega)]
    have hlt : (xs.toList.take (sa + j)).length = sa + j := by rw [List.length_take, Array.length_toList]; omega
    rw [hs, show sa + (j + 1) = sa + j + 1 by omega]
    have e1 : (xs.toList.take (sa + j) ++ p :: xs.toList.drop (sa + j + 1)).take (sa + j + 1) = xs.toList.take (sa + j) ++ [p] := by
      rw [List.take_append, hlt, show sa + j + 1 - (sa + j) = 1 by omega, List.take_of_length_le (by omega)]
      rfl
    have e2 : (xs.toList.take (sa + j) ++ p :: xs.toList.drop (sa + j + 1)).drop (sa + j + 1 + r.length) = xs.toList.drop (sa + j + (p :: r).length) := by
      rw [List.drop_append, hlt, List.drop_of_length_le (by omega), List.nil_append, show sa + j + 1 + r.length - (sa + j) = r.length + 1 by omega, List.drop_succ_cons, List.drop_drop]
      congr 1
      omega
    rw [e1, e2]
    simp
theorem intKeys_sub {xs ys : Array Keyed} (h : IntKeys xs) (hs : ∀ p ∈ ys.toList, p ∈ xs.toList) : IntKeys ys := fun p hp => h p (hs p hp)
section
variable {prog : Program} {w : World} {A : Around} {E : Value → Shared → Prop} {s : Shared} {st : SortSt}
theorem wpS_set {M : Model} {st2 : SortSt} {Q : PUnit → SortSt → Prop} (h : Q ⟨⟩ st2) : wpS M A E s (set st2 : StateT SortSt Sem PUnit) Q st := by
  unfold wpS; rw [StateT.run_set]; exact wpAny_pure ⟨rfl, h⟩
theorem wpS_mergeAt {r1 r2 p1 p2 : Nat} {Q : Bool → SortSt → Prop} (hk : kindOf st = oneType') (h0 : IntKeys (arrOf st)) (hf : failedOf st = none) (hp : pendingOf st = #[(0, r1, p1), (r1, r2, p2)]) (hsz : (arrOf st).size = r1 + r2) (h1 : 0 < r1) (h2 : 0 < r2)
    (s1 : Srt ((arrOf st).toList.take r1)) (s2 : Srt ((arrOf st).toList.drop r1))
    (hQ : ∀ st', (arrOf st').toList.Perm (arrOf st).toList → Srt (arrOf st').toList → failedOf st' = none → pendingOf st' = #[(0, r1 + r2, p1)] → Q true st') : wpS (model prog w) A E s (mergeAt' 0) Q st := by
  rw [mergeAt'_eq]
  refine wpS_bind (wpS_get ?_)
  rw [hp]
  have e0 : (#[(0, r1, p1), (r1, r2, p2)] : Array (Nat × Nat × Nat))[0]? = some (0, r1, p1) := rfl
  have e1 : (#[(0, r1, p1), (r1, r2, p2)] : Array (Nat × Nat × Nat))[0 + 1]? = some (r1, r2, p2) := rfl
  rw [e0, e1]
  dsimp only
  have e2 : ((#[(0, r1, p1), (r1, r2, p2)] : Array (Nat × Nat × Nat)).setIfInBounds 0 (0, r1 + r2, p1)).eraseIdxIfInBounds (0 + 1) = #[(0, r1 + r2, p1)] := by
    simp [Array.eraseIdxIfInBounds]
  rw [e2]
  refine wpS_bind (wpS_set ?_)
  obtain ⟨st2, hst2⟩ : ∃ st2 : SortSt, st2 = setPending st #[(0, r1 + r2, p1)] := ⟨_, rfl⟩
  rw [← hst2]
  have ea : arrOf st2 = arrOf st := by rw [hst2]
  have ek : kindOf st2 = oneType' := by rw [hst2]; exact hk
  have ef : failedOf st2 = none := by rw [hst2]; exact hf
  have ep : pendingOf st2 = #[(0, r1 + r2, p1)] := by rw [hst2]
  obtain ⟨xs, hxs⟩ : ∃ xs, xs = arrOf st := ⟨_, rfl⟩
  rw [← hxs] at h0 hsz s1 s2 hQ ea ⊢
  have hlen : xs.toList.length = r1 + r2 := by simpa using hsz
  have whole : (∀ x ∈ xs.toList.take r1, ∀ y ∈ xs.toList.drop r1, kv x ≤ kv y) → Srt xs.toList := fun h => by
    rw [← List.take_append_drop r1 xs.toList]
    exact List.pairwise_append.mpr ⟨s1, s2, h⟩
  obtain ⟨tb, qb, eb⟩ := intKeys_at h0 (i := r1) (by omega)
  obtain ⟨ta, qa, ela⟩ := intKeys_at h0 (i := r1 - 1) (by omega)
  have hB0 : ∀ y ∈ xs.toList.drop r1, K xs r1 ≤ kv y := fun y hy => by
    have := s2
    rw [drop_cons eb] at this hy
    exact srt_head this y hy
  have hA1 : ∀ x ∈ xs.toList.take r1, kv x ≤ K xs (r1 - 1) := fun x hx => by
    have h3 := take_snoc ela
    rw [show r1 - 1 + 1 = r1 by omega] at h3
    have := s1
    rw [h3] at this hx
    exact srt_last this x hx
  refine wpS_bind (wpS_elem eb (wpS_bind ?_))
  refine wpS_gallop ek h0 (by omega) (by omega) (srt_getT s1 (by omega)) fun k hk1 g1 g2 => ?_
  dsimp only
  have t1 := bey_takeT (left := false) (by omega) g1
  have t2 := bey_midT (left := false) (n := r1) (by omega) g2
  simp only [Bool.false_eq_true, if_false] at t1 t2
  by_cases hz : r1 - k = 0
  · rw [if_pos (by simpa using hz)]
    refine wpS_pure (hQ st2 (by rw [ea]) (by rw [ea]; exact whole fun x hx y hy => Int.le_trans (t1 x (by rw [show k = r1 by omega]; exact hx)) (hB0 y hy)) ef ep)
  rw [if_neg (by simpa using hz), show 0 + k + (r1 - k) - 1 = r1 - 1 by omega]
  refine wpS_bind (wpS_elem ela (wpS_bind ?_))
  refine wpS_gallop ek h0 (by omega) (by omega) (srt_get s2 (by omega)) fun m hm1 g3 g4 => ?_
  dsimp only
  have t3 := bey_take (left := true) (by omega) g3
  have t4 := bey_drop (left := true) (n := r2) (by omega) g4
  simp only [if_true] at t3 t4
  by_cases hz2 : m = 0
  · rw [if_pos (by simpa using hz2)]
    refine wpS_pure (hQ st2 (by rw [ea]) (by rw [ea]; exact whole fun x hx y hy => Int.le_trans (hA1 x hx) (t4 y (by rw [hz2]; simpa using hy))) ef ep)
  rw [if_neg (by simpa using hz2)]
  rw [Nat.zero_add]
  obtain ⟨X, hX⟩ : ∃ X, X = xs.extract k r1 := ⟨_, rfl⟩
  obtain ⟨Y, hY⟩ : ∃ Y, Y = xs.extract r1 (r1 + m) := ⟨_, rfl⟩
  rw [← hX, ← hY]
  have hXl : X.toList = (xs.toList.take r1).drop k := by rw [hX]; simp [List.drop_take]
  have hYl : Y.toList = (xs.toList.drop r1).take m := by rw [hY]; exact extract_run xs r1 m
  have hXs : X.size = r1 - k := by rw [hX]; simp; omega
  have hYs : Y.size = m := by rw [hY]; simp; omega
  have hXm : ∀ p ∈ X.toList, p ∈ xs.toList.take r1 := fun p hp => by rw [hXl] at hp; exact List.mem_of_mem_drop hp
  have hYm : ∀ p ∈ Y.toList, p ∈ xs.toList.drop r1 := fun p hp => by rw [hYl] at hp; exact List.mem_of_mem_take hp
  have kX : IntKeys X := intKeys_sub h0 fun p hp => List.mem_of_mem_take (hXm p hp)
  have kY : IntKeys Y := intKeys_sub h0 fun p hp => List.mem_of_mem_drop (hYm p hp)
  have sX : Srt X.toList := by rw [hXl]; exact s1.sublist (List.drop_sublist _ _)
  have sY : Srt Y.toList := by rw [hYl]; exact s2.sublist (List.take_sublist _ _)
  have tX : ∀ x ∈ X.toList, K xs r1 < kv x := fun x hx => t2 x (by rw [← hXl]; exact hx)
  have tY : ∀ y ∈ Y.toList, kv y < K xs (r1 - 1) := fun y hy => t3 y (by rw [← hYl]; exact hy)
  have hy1 : ∀ x ∈ X.toList, ∀ y ∈ Y.toList.take 1, kv y ≤ kv x := fun x hx y hy => by
    have e : Y.toList.take 1 = [(.int (K xs r1) tb, qb)] := by
      rw [hYl, drop_cons eb, List.take_take, show min 1 m = 1 by omega]; rfl
    rw [e] at hy
    rw [List.mem_singleton.mp hy]
    exact Int.le_of_lt (tX x hx)
  have hx1 : ∀ x ∈ X.toList.drop (X.size - 1), ∀ y ∈ Y.toList, kv y ≤ kv x := fun x hx y hy => by
    have e : X.toList.drop (X.size - 1) = [(.int (K xs (r1 - 1)) ta, qa)] := by
      rw [hXl, hXs, List.drop_drop, show k + (r1 - k - 1) = r1 - 1 by omega]
      have h3 := take_snoc ela
      rw [show r1 - 1 + 1 = r1 by omega] at h3
      rw [h3, List.drop_append, List.drop_of_length_le (by rw [List.length_take]; omega), List.nil_append, show r1 - 1 - (xs.toList.take (r1 - 1)).length = 0 by rw [List.length_take]; omega]
      rfl
    rw [e] at hx
    rw [List.mem_singleton.mp hx]
    exact Int.le_of_lt (tY y hy)
  have fin : ∀ (out : Array Keyed) st', SameBut st2 st' → Srt out.toList → out.toList.Perm (X.toList ++ Y.toList) →
      wpS (model prog w) A E s (do modify fun s => setArr s (out.toList.zipIdx.foldl (fun a (e : Keyed × Nat) => a.setIfInBounds (k + e.2) e.1) (arrOf s)); let z ← get; pure (failedOf z).isNone) Q st' := fun out st' hs ho hpm => by
    obtain ⟨gg, rfl⟩ := hs
    refine wpS_bind (wpS_modify (wpS_bind (wpS_get (wpS_pure ?_))))
    have hlo : out.toList.length = r1 - k + m := by
      have := hpm.length_eq
      rw [List.length_append, Array.length_toList (xs := X), Array.length_toList (xs := Y), hXs, hYs] at this
      exact this
    have hw := write_back out.toList 0 k xs (by omega)
    have hres : ((out.toList.zipIdx.foldl (fun a (e : Keyed × Nat) => a.setIfInBounds (k + e.2) e.1) xs)).toList = xs.toList.take k ++ out.toList ++ (xs.toList.drop r1).drop m := by
      rw [hw, Nat.add_zero, List.drop_drop, hlo, show k + (r1 - k + m) = r1 + m by omega]
    have hpt : (xs.toList.take k ++ (X.toList ++ Y.toList) ++ (xs.toList.drop r1).drop m) = xs.toList := by
      rw [hXl, hYl]
      have q1 : xs.toList.take k ++ (xs.toList.take r1).drop k = xs.toList.take r1 := by
        have := List.take_append_drop k (xs.toList.take r1)
        rwa [List.take_take, Nat.min_eq_left hk1] at this
      rw [List.append_assoc, List.append_assoc, List.take_append_drop, ← List.append_assoc, q1, List.take_append_drop]
    have harr : arrOf (SortSt.mk' (kindOf st2) (arrOf st2) (pendingOf st2) gg (failedOf st2)) = xs := ea
    refine (by
      have := hQ (setArr (SortSt.mk' (kindOf st2) (arrOf st2) (pendingOf st2) gg (failedOf st2)) (out.toList.zipIdx.foldl (fun a (e : Keyed × Nat) => a.setIfInBounds (k + e.2) e.1) (arrOf st2))) ?_ ?_ ef ep
      · have e : (failedOf (setArr (SortSt.mk' (kindOf st2) (arrOf st2) (pendingOf st2) gg (failedOf st2)) (out.toList.zipIdx.foldl (fun a (e : Keyed × Nat) => a.setIfInBounds (k + e.2) e.1) (arrOf st2)))).isNone = true := by
          show (failedOf st2).isNone = true
          rw [ef]; rfl
        rw [← e] at this
        exact this
      · show (out.toList.zipIdx.foldl (fun a (e : Keyed × Nat) => a.setIfInBounds (k + e.2) e.1) (arrOf st2)).toList.Perm xs.toList
        rw [ea, hres]
        conv => rhs; rw [← hpt]
        exact List.Perm.append_right _ (List.Perm.append_left _ hpm)
      · show Srt (out.toList.zipIdx.foldl (fun a (e : Keyed × Nat) => a.setIfInBounds (k + e.2) e.1) (arrOf st2)).toList
        rw [ea, hres]
        have mo : ∀ p ∈ out.toList, p ∈ X.toList ∨ p ∈ Y.toList := fun p hp => List.mem_append.mp (hpm.mem_iff.mp hp)
        refine List.pairwise_append.mpr ⟨List.pairwise_append.mpr ⟨s1.sublist (by rw [← Nat.min_eq_left hk1, ← List.take_take]; exact List.take_sublist _ _), ho, fun x hx y hy => ?_⟩, s2.sublist (List.drop_sublist _ _), fun x hx y hy => ?_⟩
        · rcases mo y hy with hy | hy
          · exact Int.le_trans (t1 x hx) (Int.le_of_lt (tX y hy))
          · exact Int.le_trans (t1 x hx) (hB0 y (hYm y hy))
        · have hyB := t4 y hy
          rcases List.mem_append.mp hx with hx | hx
          · exact Int.le_trans (t1 x hx) (hB0 y (List.mem_of_mem_drop hy))
          rcases mo x hx with hx | hx
          · exact Int.le_trans (hA1 x (hXm x hx)) hyB
          · exact Int.le_trans (Int.le_of_lt (tY x hx)) hyB)
  by_cases hle : r1 - k ≤ m
  · rw [if_pos hle]
    exact wpS_bind (wpS_mergeLo ek kX kY sX sY (by omega) (by omega) hy1 hx1 fin)
  · rw [if_neg hle]
    exact wpS_bind (wpS_mergeHi ek kX kY sX sY (by omega) (by omega) hy1 hx1 fin)
end
end

section
open PySem PyProof.Rows
set_option autoImplicit false
set_option maxRecDepth 100000
set_option maxHeartbeats 2000000
/-- a run's ground: all but the pieces from lo on stands -/
structure SL (a₀ : Array Keyed) (lo : Nat) (pd : Array (Nat × Nat × Nat)) (st : SortSt) : Prop where
  perm : (arrOf st).Perm a₀
  kind : kindOf st = oneType'
  failed : failedOf st = none
  pend : pendingOf st = pd
  pre : ∀ i, i < lo → (arrOf st)[i]? = a₀[i]?
noncomputable def UpS (xs : Array Keyed) (lo n : Nat) : Prop := ∀ i j, i ≤ j → j < n → K xs (lo + i) ≤ K xs (lo + j)
noncomputable def DownS (xs : Array Keyed) (lo n : Nat) : Prop := ∀ i j, i ≤ j → j < n → K xs (lo + j) ≤ K xs (lo + i)
theorem SL.size {a₀ : Array Keyed} {lo : Nat} {pd : Array (Nat × Nat × Nat)} {st : SortSt} (h : SL a₀ lo pd st) : (arrOf st).size = a₀.size := h.perm.size_eq
theorem SL.keys {a₀ : Array Keyed} {lo : Nat} {pd : Array (Nat × Nat × Nat)} {st : SortSt} (h : SL a₀ lo pd st) (h0 : IntKeys a₀) : IntKeys (arrOf st) := intKeys_sub h0 fun _ hp => (Array.perm_iff_toList_perm.mp h.perm).mem_iff.mp hp
theorem SL.set {a₀ : Array Keyed} {lo : Nat} {pd : Array (Nat × Nat × Nat)} {st : SortSt} (h : SL a₀ lo pd st) {xs : Array Keyed} (hp : xs.Perm (arrOf st)) (hpre : ∀ i, i < lo → xs[i]? = (arrOf st)[i]?) : SL a₀ lo pd (setArr st xs) :=
  ⟨hp.trans h.perm, h.kind, h.failed, h.pend, fun i hi => (hpre i hi).trans (h.pre i hi)⟩
theorem bubble_pre {xs : Array Keyed} {lo k d : Nat} (hs : lo + k < xs.size) (hd : d ≤ k) (i : Nat) (hi : i < lo) : (bubble xs (lo + k) d)[i]? = xs[i]? := by
  rw [getElem?_bubble hs d (by omega), if_neg (by omega), if_neg (by omega)]
theorem K_bubbleL {xs : Array Keyed} {lo k d : Nat} (hs : lo + k < xs.size) (hd : d ≤ k) (i : Nat) : K (bubble xs (lo + k) d) (lo + i) = if i = k - d then K xs (lo + k) else if k - d < i ∧ i ≤ k then K xs (lo + (i - 1)) else K xs (lo + i) := by
  rw [K_bubble hs (by omega)]
  by_cases h1 : i = k - d
  · rw [if_pos (by omega), if_pos h1]
  rw [if_neg (by omega), if_neg h1]
  by_cases h2 : k - d < i ∧ i ≤ k
  · rw [if_pos (by omega), if_pos h2, show lo + i - 1 = lo + (i - 1) by omega]
  · rw [if_neg (by omega), if_neg h2]
theorem mirror_pre {xs : Array Keyed} {lo i j : Nat} (hj : lo + j ≤ xs.size) (t : Nat) (ht : t < lo) : (mirror xs (lo + i) (lo + j) ((lo + j - (lo + i)) / 2))[t]? = xs[t]? := by
  rw [getElem?_mirror_all hj, if_neg (by omega)]
theorem K_mirrorL {xs : Array Keyed} {lo i j : Nat} (hj : lo + j ≤ xs.size) (t : Nat) : K (mirror xs (lo + i) (lo + j) ((lo + j - (lo + i)) / 2)) (lo + t) = if i ≤ t ∧ t < j then K xs (lo + (i + j - 1 - t)) else K xs (lo + t) := by
  rw [K_mirror hj]
  by_cases h1 : i ≤ t ∧ t < j
  · rw [if_pos (by omega), if_pos h1, show lo + i + (lo + j) - 1 - (lo + t) = lo + (i + j - 1 - t) by omega]
  · rw [if_neg (by omega), if_neg h1]
theorem K_mirrorLE {xs : Array Keyed} {lo i j : Nat} (hj : lo + j ≤ xs.size) (heq : ∀ k, i ≤ k → k < j → K xs (lo + k) = K xs (lo + (j - 1))) (t : Nat) : K (mirror xs (lo + i) (lo + j) ((lo + j - (lo + i)) / 2)) (lo + t) = K xs (lo + t) := by
  rw [K_mirrorL hj]
  split
  · rw [heq _ (by omega) (by omega), heq t (by omega) (by omega)]
  · rfl
section
variable {prog : Program} {w : World} {A : Around} {E : Value → Shared → Prop} {s : Shared} {a₀ : Array Keyed} {lo : Nat} {pd : Array (Nat × Nat × Nat)}
theorem wpS_ltL {st : SortSt} {i j : Nat} {Q : Option Bool → SortSt → Prop} (hB : SL a₀ lo pd st) (h0 : IntKeys a₀) (hi : i < a₀.size) (hj : j < a₀.size)
    (h : Q (some (decide (K (arrOf st) i < K (arrOf st) j))) st) : wpS (model prog w) A E s (ltAt' i j) Q st := by
  obtain ⟨t, p, e1⟩ := intKeys_at (hB.keys h0) (i := i) (by rw [hB.size]; exact hi)
  obtain ⟨u, q, e2⟩ := intKeys_at (hB.keys h0) (i := j) (by rw [hB.size]; exact hj)
  exact wpS_ltAt hB.kind e1 e2 h
theorem wpS_binL {st : SortSt} {n ok : Nat} {Q : Bool → SortSt → Prop} (h0 : IntKeys a₀) (hn : lo + n ≤ a₀.size) (hok : ok ≤ n) (hok1 : 1 ≤ ok) (hB : SL a₀ lo pd st) (hs : UpS (arrOf st) lo ok)
    (h : ∀ st', SL a₀ lo pd st' → UpS (arrOf st') lo n → Q true st') : wpS (model prog w) A E s (binarySort' lo n ok) Q st := by
  rw [binarySort'_eq]
  refine wpS_bind (wpS_mono (wpS_forRange (I := fun k c st' => c = (none, ()) ∧ SL a₀ lo pd st' ∧ UpS (arrOf st') lo (min k n))
    (Q := fun c st' => c = (none, ()) ∧ SL a₀ lo pd st' ∧ UpS (arrOf st') lo n) ?step ?fin ?init) ?post)
  case post =>
    rintro c st' ⟨rfl, hB', hs'⟩
    exact wpS_pure (h st' hB' hs')
  case init => exact ⟨rfl, hB, fun i j hij hj => hs i j hij (by omega)⟩
  case fin =>
    rintro c st' ⟨hc, hB', hs'⟩
    refine ⟨hc, hB', ?_⟩
    rwa [show min (max (max ok 1) n) n = n by omega] at hs'
  case step =>
    rintro k c st' hak hkn ⟨rfl, hB', hs'⟩
    rw [show min k n = k by omega] at hs'
    have hk : lo + k < a₀.size := by omega
    refine wpS_bind (wpS_mono (wpS_forRange (I := fun x c st'' => st'' = st' ∧ ∃ l r, c = (none, l, r) ∧ l ≤ r ∧ r ≤ k ∧ r - l ≤ k - x ∧
        (∀ i, i < l → K (arrOf st') (lo + i) ≤ K (arrOf st') (lo + k)) ∧ (∀ i, r ≤ i → i < k → K (arrOf st') (lo + k) < K (arrOf st') (lo + i)))
      (Q := fun c st'' => st'' = st' ∧ ∃ l r, c = (none, l, r) ∧ l ≤ k ∧
        (∀ i, i < l → K (arrOf st') (lo + i) ≤ K (arrOf st') (lo + k)) ∧ (∀ i, l ≤ i → i < k → K (arrOf st') (lo + k) < K (arrOf st') (lo + i))) ?istep ?ifin ?iinit) ?ipost)
    case iinit => exact ⟨rfl, 0, k, rfl, by omega, by omega, by omega, fun i hi => by omega, fun i h1 h2 => by omega⟩
    case ifin =>
      rintro c st'' ⟨rfl, l, r, rfl, hlr, hrk, hm, hlo, hhi⟩
      have : l = r := by omega
      subst this
      exact ⟨rfl, l, l, rfl, hrk, hlo, hhi⟩
    case istep =>
      rintro x c st'' _ hxk ⟨rfl, l, r, rfl, hlr, hrk, hm, hlo, hhi⟩
      dsimp only
      by_cases hge : l ≥ r
      · rw [if_pos hge]
        have : l = r := by omega
        subst this
        exact wpS_pure ⟨rfl, l, l, rfl, hrk, hlo, hhi⟩
      · rw [if_neg hge]
        refine wpS_bind (wpS_ltL hB' h0 hk (by omega) ?_)
        by_cases hless : K (arrOf st'') (lo + k) < K (arrOf st'') (lo + (l + r) / 2)
        · simp only [hless, decide_true, if_true]
          refine wpS_pure ⟨rfl, l, (l + r) / 2, rfl, by omega, by omega, by omega, hlo, fun i h1 h2 => ?_⟩
          exact Int.lt_of_lt_of_le hless (hs' _ _ h1 h2)
        · simp only [hless, decide_false, Bool.false_eq_true, if_false]
          refine wpS_pure ⟨rfl, (l + r) / 2 + 1, r, rfl, by omega, by omega, by omega, fun i h1 => ?_, hhi⟩
          exact Int.le_trans (hs' i ((l + r) / 2) (by omega) (by omega)) (Int.not_lt.mp hless)
    case ipost =>
      rintro c st'' ⟨rfl, l, r, rfl, hlk, hlo, hhi⟩
      show wpS _ _ _ _ (do moveDown' (lo + k) (lo + l); pure (ForInStep.yield (none, ()))) _ _
      rw [moveDown'_eq]
      have hks : lo + k < (arrOf st'').size := by rw [hB'.size]; exact hk
      rw [show lo + k - (lo + l) = k - l by omega]
      refine wpS_bind (wpS_modify (wpS_pure ⟨rfl, ?_, ?_⟩))
      · exact hB'.set (bubble_perm _ _ _) (bubble_pre hks (by omega))
      rw [show min (k + 1) n = k + 1 by omega]
      intro i j hij hj
      show K (bubble (arrOf st'') (lo + k) (k - l)) (lo + i) ≤ K (bubble (arrOf st'') (lo + k) (k - l)) (lo + j)
      rw [K_bubbleL hks (by omega), K_bubbleL hks (by omega), show k - (k - l) = l by omega]
      repeat' split
      all_goals first
        | (exfalso; omega)
        | exact Int.le_refl _
        | exact hlo _ (by omega)
        | exact Int.le_of_lt (hhi _ (by omega) (by omega))
        | exact hs' _ _ (by omega) (by omega)
end
noncomputable def ascL (lo a nrem : Nat) : StateT SortSt Sem AscSt :=
  forIn [a:nrem] ((none, a) : AscSt) fun _ __s => do
    let __x ← ltAt' (lo + __s.snd) (lo + __s.snd - 1)
    match __x with
    | some smaller => if smaller = true then pure (ForInStep.done (none, __s.snd)) else pure (ForInStep.yield (none, __s.snd + 1))
    | _ => pure (ForInStep.done (some none, __s.snd))
noncomputable def tail3L (lo n nrem : Nat) : StateT SortSt Sem (Option Nat) := do
  reverseSlice' lo (lo + n)
  let __s ← ascL lo n nrem
  match __s.fst with
  | some r => pure r
  | none => pure (some __s.snd)
noncomputable def descL (lo n nrem : Nat) : StateT SortSt Sem DescSt :=
  forIn [n:nrem] ((none, n, 0) : DescSt) fun _ __s => do
    let __x ← ltAt' (lo + __s.snd.fst) (lo + __s.snd.fst - 1)
    match __x with
    | some smaller =>
      if smaller = true then
        if __s.snd.snd > 0 then do
          reverseSlice' (lo + __s.snd.fst - (__s.snd.snd + 1)) (lo + __s.snd.fst)
          pure (ForInStep.yield (none, __s.snd.fst + 1, 0))
        else pure (ForInStep.yield (none, __s.snd.fst + 1, 0))
      else do
        let __x ← ltAt' (lo + __s.snd.fst - 1) (lo + __s.snd.fst)
        match __x with
        | some larger =>
          if larger = true then pure (ForInStep.done (none, __s.snd.fst, __s.snd.snd))
          else pure (ForInStep.yield (none, __s.snd.fst + 1, __s.snd.snd + 1))
        | _ => pure (ForInStep.done (some none, __s.snd.fst, __s.snd.snd))
    | _ => pure (ForInStep.done (some none, __s.snd.fst, __s.snd.snd))
noncomputable def descPartL (lo n nrem : Nat) : StateT SortSt Sem (Option Nat) := do
  liftM (rule "list.sort.descending-run")
  let __s ← descL lo (n + 1) nrem
  match __s.fst with
  | some r => pure r
  | none =>
    if __s.snd.snd > 0 then do
      reverseSlice' (lo + __s.snd.fst - (__s.snd.snd + 1)) (lo + __s.snd.fst)
      tail3L lo __s.snd.fst nrem
    else tail3L lo __s.snd.fst nrem
theorem countRunL_eq (lo nrem : Nat) : countRun' lo nrem = (do
    let __s ← ascL lo 1 nrem
    match __s.fst with
    | some r => pure r
    | none =>
      if (__s.snd == nrem) = true then pure (some __s.snd)
      else if __s.snd > 1 then do
        let __x ← ltAt' lo (lo + __s.snd - 1)
        match __x with
        | some rose => if rose = true then pure (some __s.snd) else do
            reverseSlice' lo (lo + __s.snd)
            descPartL lo __s.snd nrem
        | _ => pure none
      else descPartL lo __s.snd nrem) := by
  rw [countRun'_eq]
  unfold descPartL tail3L descL ascL
  have de : ∀ {α : Type} (x : StateT SortSt Sem α) (f g : α → StateT SortSt Sem (Option Nat)), (∀ a, f a = g a) → (x >>= f) = (x >>= g) := fun x f g h => by rw [show f = g from funext h]
  refine de _ _ _ fun __s => ?_
  obtain ⟨r, n⟩ := __s
  cases r with
  | some r => rfl
  | none =>
    dsimp only
    split
    · rfl
    · split
      · refine de _ _ _ fun x => ?_
        cases x with
        | none => rfl
        | some rose =>
          dsimp only
          split
          · rfl
          · refine de _ _ _ fun _ => de _ _ _ fun _ => de _ _ _ fun s2 => ?_
            obtain ⟨r2, n2, q2⟩ := s2
            cases r2 with
            | some r2 => rfl
            | none =>
              dsimp only
              split
              · refine de _ _ _ fun _ => de _ _ _ fun _ => de _ _ _ fun s3 => ?_
                obtain ⟨r3, n3⟩ := s3
                cases r3 <;> rfl
              · refine de _ _ _ fun _ => de _ _ _ fun s3 => ?_
                obtain ⟨r3, n3⟩ := s3
                cases r3 <;> rfl
      · refine de _ _ _ fun _ => de _ _ _ fun s2 => ?_
        obtain ⟨r2, n2, q2⟩ := s2
        cases r2 with
        | some r2 => rfl
        | none =>
          dsimp only
          split
          · refine de _ _ _ fun _ => de _ _ _ fun _ => de _ _ _ fun s3 => ?_
            obtain ⟨r3, n3⟩ := s3
            cases r3 <;> rfl
          · refine de _ _ _ fun _ => de _ _ _ fun s3 => ?_
            obtain ⟨r3, n3⟩ := s3
            cases r3 <;> rfl
end

section
open PySem PyProof.Rows
set_option autoImplicit false
set_option maxRecDepth 100000
set_option maxHeartbeats 2000000
section
variable {prog : Program} {w : World} {A : Around} {E : Value → Shared → Prop} {s : Shared} {a₀ : Array Keyed} {lo : Nat} {pd : Array (Nat × Nat × Nat)}
theorem wpS_revL {st : SortSt} {i j : Nat} {Q : Unit → SortSt → Prop} (h : Q () (setArr st (mirror (arrOf st) i j ((j - i) / 2)))) :
    wpS (model prog w) A E s (reverseSlice' i j) Q st := by
  rw [reverseSlice'_eq]; exact wpS_modify h
theorem wpS_ascL {st : SortSt} {a nrem : Nat} {Q : AscSt → SortSt → Prop} (h0 : IntKeys a₀) (hn : lo + nrem ≤ a₀.size) (ha : 1 ≤ a) (han : a ≤ nrem) (hB : SL a₀ lo pd st) (hs : UpS (arrOf st) lo a)
    (h : ∀ n, a ≤ n → n ≤ nrem → UpS (arrOf st) lo n → (n = nrem ∨ K (arrOf st) (lo + n) < K (arrOf st) (lo + (n - 1))) → Q (none, n) st) :
    wpS (model prog w) A E s (ascL lo a nrem) Q st := by
  unfold ascL
  refine wpS_forRange (I := fun x c st' => st' = st ∧ c = (none, x) ∧ UpS (arrOf st) lo x) ?step ?fin ⟨rfl, rfl, hs⟩
  case fin =>
    rintro c st' ⟨rfl, rfl, hs'⟩
    rw [show max a nrem = nrem by omega] at hs' ⊢
    exact h nrem han (Nat.le_refl _) hs' (.inl rfl)
  case step =>
    rintro x c st' hax hxn ⟨rfl, rfl, hs'⟩
    dsimp only
    rw [show lo + x - 1 = lo + (x - 1) by omega]
    refine wpS_bind (wpS_ltL hB h0 (by omega) (by omega) ?_)
    by_cases hless : K (arrOf st') (lo + x) < K (arrOf st') (lo + (x - 1))
    · simp only [hless, decide_true, if_true]
      exact wpS_pure (h x hax (by omega) hs' (.inr hless))
    · simp only [hless, decide_false, Bool.false_eq_true, if_false]
      refine wpS_pure ⟨rfl, rfl, fun i j hij hj => ?_⟩
      by_cases hjx : j < x
      · exact hs' i j hij hjx
      · have hj' : j = x := by omega
        subst hj'
        by_cases hi' : i = j
        · subst hi'; exact Int.le_refl _
        · exact Int.le_trans (hs' i (j - 1) (by omega) (by omega)) (Int.not_lt.mp hless)
theorem wpS_tail3L {st : SortSt} {n nrem : Nat} {Q : Option Nat → SortSt → Prop} (h0 : IntKeys a₀) (hn : lo + nrem ≤ a₀.size) (h1 : 1 ≤ n) (hnn : n ≤ nrem) (hB : SL a₀ lo pd st)
    (hs : DownS (arrOf st) lo n) (h : ∀ m st', SL a₀ lo pd st' → 1 ≤ m → m ≤ nrem → UpS (arrOf st') lo m → Q (some m) st') :
    wpS (model prog w) A E s (tail3L lo n nrem) Q st := by
  unfold tail3L
  have hsz : lo + n ≤ (arrOf st).size := by rw [hB.size]; omega
  refine wpS_bind (wpS_revL ?_)
  have hB' : SL a₀ lo pd (setArr st (mirror (arrOf st) lo (lo + n) ((lo + n - lo) / 2))) := hB.set (mirror_perm _ _ _ _) (mirror_pre (i := 0) hsz)
  refine wpS_bind (wpS_ascL h0 hn h1 hnn hB' ?_ fun m hm1 hm2 hsm _ => wpS_pure (h m _ hB' (by omega) hm2 hsm))
  intro i j hij hj
  show K (mirror (arrOf st) (lo + 0) (lo + n) ((lo + n - (lo + 0)) / 2)) (lo + i) ≤ K (mirror (arrOf st) (lo + 0) (lo + n) ((lo + n - (lo + 0)) / 2)) (lo + j)
  rw [K_mirrorL hsz, K_mirrorL hsz, if_pos (by omega), if_pos (by omega)]
  exact hs _ _ (by omega) (by omega)
theorem wpS_descL {st : SortSt} {n nrem : Nat} {Q : DescSt → SortSt → Prop} (h0 : IntKeys a₀) (hn : lo + nrem ≤ a₀.size) (h1 : 1 ≤ n) (hnn : n ≤ nrem) (hB : SL a₀ lo pd st) (hs : DownS (arrOf st) lo n)
    (h : ∀ m neq st', SL a₀ lo pd st' → n ≤ m → m ≤ nrem → DownS (arrOf st') lo m → neq + 1 ≤ m → (∀ i, m - (neq + 1) ≤ i → i < m → K (arrOf st') (lo + i) = K (arrOf st') (lo + (m - 1))) → Q (none, m, neq) st') :
    wpS (model prog w) A E s (descL lo n nrem) Q st := by
  unfold descL
  refine wpS_forRange (I := fun x c st' => ∃ neq, c = (none, x, neq) ∧ SL a₀ lo pd st' ∧ DownS (arrOf st') lo x ∧ neq + 1 ≤ x ∧
      (∀ i, x - (neq + 1) ≤ i → i < x → K (arrOf st') (lo + i) = K (arrOf st') (lo + (x - 1)))) ?step ?fin ⟨0, rfl, hB, hs, by omega, fun i h1 h2 => by congr 1; omega⟩
  case fin =>
    rintro c st' ⟨neq, rfl, hB', hs', hq, he⟩
    rw [show max n nrem = nrem by omega] at hs' hq he ⊢
    exact h nrem neq st' hB' hnn (Nat.le_refl _) hs' hq he
  case step =>
    rintro x c st' hax hxn ⟨neq, rfl, hB', hs', hq, he⟩
    dsimp only
    have hsz : lo + x ≤ (arrOf st').size := by rw [hB'.size]; omega
    rw [show lo + x - 1 = lo + (x - 1) by omega]
    refine wpS_bind (wpS_ltL hB' h0 (by omega) (by omega) ?_)
    by_cases hless : K (arrOf st') (lo + x) < K (arrOf st') (lo + (x - 1))
    · simp only [hless, decide_true, if_true]
      have step1 : ∀ xs : Array Keyed, (∀ k, K xs (lo + k) = K (arrOf st') (lo + k)) → DownS xs lo (x + 1) := by
        intro xs hk i j hij hj
        rw [hk, hk]
        by_cases hjx : j < x
        · exact hs' i j hij hjx
        · have hj' : j = x := by omega
          subst hj'
          by_cases hi' : i = j
          · subst hi'; exact Int.le_refl _
          · exact Int.le_trans (Int.le_of_lt hless) (hs' i (j - 1) (by omega) (by omega))
      by_cases hneq : neq > 0
      · rw [if_pos hneq, show lo + x - (neq + 1) = lo + (x - (neq + 1)) by omega]
        refine wpS_bind (wpS_revL (wpS_pure ⟨0, rfl, hB'.set (mirror_perm _ _ _ _) (mirror_pre hsz), step1 _ (K_mirrorLE hsz he), by omega, fun i h1 h2 => by congr 1; omega⟩))
      · rw [if_neg hneq]
        exact wpS_pure ⟨0, rfl, hB', step1 _ (fun _ => rfl), by omega, fun i h1 h2 => by congr 1; omega⟩
    · simp only [hless, decide_false, Bool.false_eq_true, if_false]
      refine wpS_bind (wpS_ltL hB' h0 (by omega) (by omega) ?_)
      by_cases hlarger : K (arrOf st') (lo + (x - 1)) < K (arrOf st') (lo + x)
      · simp only [hlarger, decide_true, if_true]
        exact wpS_pure (h x neq st' hB' hax (by omega) hs' hq he)
      · simp only [hlarger, decide_false, Bool.false_eq_true, if_false]
        have heqx : K (arrOf st') (lo + x) = K (arrOf st') (lo + (x - 1)) := by omega
        refine wpS_pure ⟨neq + 1, rfl, hB', fun i j hij hj => ?_, by omega, fun i h1 h2 => ?_⟩
        · by_cases hjx : j < x
          · exact hs' i j hij hjx
          · have hj' : j = x := by omega
            subst hj'
            by_cases hi' : i = j
            · subst hi'; exact Int.le_refl _
            · rw [heqx]; exact hs' i (j - 1) (by omega) (by omega)
        · rw [show x + 1 - 1 = x by omega]
          by_cases hix : i = x
          · subst hix; rfl
          · rw [heqx]; exact he i (by omega) (by omega)
theorem wpS_descPartL {st : SortSt} {n nrem : Nat} {Q : Option Nat → SortSt → Prop} (h0 : IntKeys a₀) (hn : lo + nrem ≤ a₀.size) (hnn : n + 1 ≤ nrem) (hB : SL a₀ lo pd st)
    (hs : DownS (arrOf st) lo (n + 1)) (h : ∀ m st', SL a₀ lo pd st' → 1 ≤ m → m ≤ nrem → UpS (arrOf st') lo m → Q (some m) st') :
    wpS (model prog w) A E s (descPartL lo n nrem) Q st := by
  unfold descPartL
  refine wpS_bind (wpS_lift (wpAny_rule ⟨rfl, ?_⟩))
  refine wpS_bind (wpS_descL h0 hn (by omega) hnn hB hs fun m neq st' hB' hm1 hm2 hs' hq he => ?_)
  dsimp only
  have hsz : lo + m ≤ (arrOf st').size := by rw [hB'.size]; omega
  by_cases hneq : neq > 0
  · rw [if_pos hneq, show lo + m - (neq + 1) = lo + (m - (neq + 1)) by omega]
    refine wpS_bind (wpS_revL (wpS_tail3L h0 hn (by omega) hm2 (hB'.set (mirror_perm _ _ _ _) (mirror_pre hsz)) ?_ h))
    intro i j hij hj
    show K (mirror (arrOf st') _ _ _) (lo + j) ≤ K (mirror (arrOf st') _ _ _) (lo + i)
    rw [K_mirrorLE hsz he, K_mirrorLE hsz he]
    exact hs' i j hij hj
  · rw [if_neg hneq]
    exact wpS_tail3L h0 hn (by omega) hm2 hB' hs' h
theorem wpS_countRunL {st : SortSt} {nrem : Nat} {Q : Option Nat → SortSt → Prop} (h0 : IntKeys a₀) (hn : lo + nrem ≤ a₀.size) (h1 : 1 ≤ nrem) (hB : SL a₀ lo pd st)
    (h : ∀ m st', SL a₀ lo pd st' → 1 ≤ m → m ≤ nrem → UpS (arrOf st') lo m → Q (some m) st') :
    wpS (model prog w) A E s (countRun' lo nrem) Q st := by
  rw [countRunL_eq]
  refine wpS_bind (wpS_ascL h0 hn (Nat.le_refl 1) h1 hB (fun i j hij hj => by rw [show i = j by omega]; exact Int.le_refl _) fun n hn1 hn2 hsn hor => ?_)
  dsimp only
  by_cases hnn : n = nrem
  · rw [if_pos (by simpa using hnn)]
    exact wpS_pure (h n st hB hn1 hn2 hsn)
  · rw [if_neg (by simpa using hnn)]
    have hlt := hor.resolve_left hnn
    by_cases hgt : n > 1
    · rw [if_pos hgt, show lo + n - 1 = lo + (n - 1) by omega]
      refine wpS_bind (wpS_ltL hB h0 (by omega) (by omega) ?_)
      by_cases hrose : K (arrOf st) lo < K (arrOf st) (lo + (n - 1))
      · simp only [hrose, decide_true, if_true]
        exact wpS_pure (h n st hB hn1 hn2 hsn)
      · simp only [hrose, decide_false, Bool.false_eq_true, if_false]
        have hsz : lo + n ≤ (arrOf st).size := by rw [hB.size]; omega
        have hall : ∀ k, 0 ≤ k → k < n → K (arrOf st) (lo + k) = K (arrOf st) (lo + (n - 1)) := by
          intro k _ hk
          have a1 := hsn 0 k (by omega) hk
          have a2 := hsn k (n - 1) (by omega) (by omega)
          rw [Nat.add_zero] at a1
          omega
        refine wpS_bind (wpS_revL (wpS_descPartL h0 hn (by omega) (hB.set (mirror_perm _ _ _ _) (mirror_pre (i := 0) hsz)) ?_ h))
        intro i j hij hj
        show K (mirror (arrOf st) (lo + 0) (lo + n) ((lo + n - (lo + 0)) / 2)) (lo + j) ≤ K (mirror (arrOf st) (lo + 0) (lo + n) ((lo + n - (lo + 0)) / 2)) (lo + i)
        rw [K_mirrorLE hsz hall, K_mirrorLE hsz hall]
        by_cases hjn : j < n
        · rw [hall i (by omega) (by omega), hall j (by omega) hjn]; exact Int.le_refl _
        · have hj' : j = n := by omega
          subst hj'
          by_cases hi' : i = j
          · subst hi'; exact Int.le_refl _
          · rw [hall i (by omega) (by omega)]; exact Int.le_of_lt hlt
    · rw [if_neg hgt]
      have hn1' : n = 1 := by omega
      subst hn1'
      refine wpS_descPartL h0 hn (by omega) hB ?_ h
      intro i j hij hj
      by_cases hi' : i = j
      · subst hi'; exact Int.le_refl _
      · have hi0 : i = 0 := by omega
        have hj1 : j = 1 := by omega
        subst hi0; subst hj1
        exact Int.le_of_lt hlt
end
end

section
open PySem PyProof.Rows
set_option autoImplicit false
set_option maxRecDepth 100000
set_option maxHeartbeats 2000000
theorem srt_of {xs : Array Keyed} {lo n : Nat} (hn : lo + n ≤ xs.size) (h : UpS xs lo n) : Srt ((xs.toList.drop lo).take n) := by
  refine List.pairwise_iff_getElem.mpr fun i j hi hj hij => ?_
  have hj' : j < n := by simp at hj; omega
  have := h i j (Nat.le_of_lt hij) hj'
  rw [kv_at (by omega), kv_at (by omega)] at this
  simpa using this
theorem sorted_of {xs : Array Keyed} (h : Srt xs.toList) : SortedTo xs xs.size := fun i j hij hj => by
  have := srt_get (xs := xs) (base := 0) (n := xs.size) (by simpa using h) (by omega) i j hij hj
  simpa using this
theorem take_same {xs ys : Array Keyed} {r : Nat} (h : ∀ i, i < r → xs[i]? = ys[i]?) : xs.toList.take r = ys.toList.take r := by
  refine List.ext_getElem? fun i => ?_
  by_cases hi : i < r
  · rw [List.getElem?_take_of_lt hi, List.getElem?_take_of_lt hi]
    simpa using h i hi
  · rw [List.getElem?_take_eq_none (by omega), List.getElem?_take_eq_none (by omega)]
structure One (a₀ : Array Keyed) (r1 : Nat) (st : SortSt) : Prop where
  perm : (arrOf st).Perm a₀
  kind : kindOf st = oneType'
  failed : failedOf st = none
  pend : pendingOf st = #[(0, r1, 0)]
  s1 : Srt ((arrOf st).toList.take r1)
structure Two (a₀ : Array Keyed) (r1 p1 : Nat) (st : SortSt) : Prop where
  perm : (arrOf st).Perm a₀
  kind : kindOf st = oneType'
  failed : failedOf st = none
  pend : pendingOf st = #[(0, r1, p1), (r1, a₀.size - r1, 0)]
  s1 : Srt ((arrOf st).toList.take r1)
  s2 : Srt ((arrOf st).toList.drop r1)
section
variable {prog : Program} {w : World} {A : Around} {E : Value → Shared → Prop} {s : Shared} {a₀ : Array Keyed}
theorem wpS_sortRuns2 {st : SortSt} {Q : Unit → SortSt → Prop} (h0 : IntKeys a₀) (hB : SBase a₀ st) (h64 : 64 ≤ a₀.size) (h127 : a₀.size ≤ 127)
    (h : ∀ st', (arrOf st').Perm a₀ → failedOf st' = none → SortedTo (arrOf st') a₀.size → Q () st') : wpS (model prog w) A E s sortRuns' Q st := by
  rw [sortRuns'_eq]
  refine wpS_bind (wpS_get ?_)
  dsimp only
  obtain ⟨mr, hmr⟩ : ∃ mr, mr = minRun' a₀.size a₀.size 0 := ⟨_, rfl⟩
  have hmr2 : mr ≤ a₀.size ∧ a₀.size ≤ 2 * mr ∧ 1 ≤ mr := by
    obtain ⟨f, hf⟩ : ∃ f, a₀.size = f + 1 + 1 := ⟨a₀.size - 2, by omega⟩
    have e : minRun' (f + 1 + 1) a₀.size 0 = a₀.size / 2 + max 0 (a₀.size % 2) := by
      rw [minRun'_succ, if_neg (by omega), minRun'_succ, if_pos (by omega)]
    rw [← hf] at e
    rw [e] at hmr
    omega
  simp only [hB.size, ← hmr]
  refine wpS_bind (wpS_mono (wpS_forRange
    (I := fun x c st' => (x = 0 ∧ c = (none, 0) ∧ SBase a₀ st') ∨ (1 ≤ x ∧ ∃ r1, c = (none, r1) ∧ mr ≤ r1 ∧ r1 < a₀.size ∧ x = 1 ∧ One a₀ r1 st') ∨ (1 ≤ x ∧ c = (none, a₀.size) ∧ (SDone a₀ st' ∨ ∃ r1 p1, mr ≤ r1 ∧ r1 < a₀.size ∧ Two a₀ r1 p1 st')))
    (Q := fun c st' => c = (none, a₀.size) ∧ (SDone a₀ st' ∨ ∃ r1 p1, mr ≤ r1 ∧ r1 < a₀.size ∧ Two a₀ r1 p1 st')) ?step ?fin (.inl ⟨rfl, rfl, hB⟩)) ?post)
  case fin =>
    rintro c st' (⟨hx, _, _⟩ | ⟨_, r1, _, _, _, hx, _⟩ | ⟨_, hc, hD⟩)
    · omega
    · omega
    · exact ⟨hc, hD⟩
  case step =>
    rintro x c st' _ hx (⟨rfl, rfl, hB'⟩ | ⟨hx1, r1, rfl, hr1, hr2, rfl, hO⟩ | ⟨hx1, rfl, hD⟩)
    · dsimp only
      rw [if_neg (by omega)]
      simp only [Nat.sub_zero, Nat.zero_add]
      have finish : ∀ m st3, SBase a₀ st3 → SortedTo (arrOf st3) m → mr ≤ m → m ≤ a₀.size → (1 ≤ 0 + 1 ∧ ∃ r1, ((none, m) : Option Unit × Nat) = (none, r1) ∧ mr ≤ r1 ∧ r1 < a₀.size ∧ 0 + 1 = 1 ∧ One a₀ r1 (setPending st3 ((pendingOf st3).push (0, m, 0)))) ∨ (1 ≤ 0 + 1 ∧ ((none, m) : Option Unit × Nat) = (none, a₀.size) ∧ (SDone a₀ (setPending st3 ((pendingOf st3).push (0, m, 0))) ∨ ∃ r1 p1, mr ≤ r1 ∧ r1 < a₀.size ∧ Two a₀ r1 p1 (setPending st3 ((pendingOf st3).push (0, m, 0))))) := fun m st3 hB3 hs3 h1 h2 => by
        by_cases e : m = a₀.size
        · subst e
          exact .inr ⟨by omega, rfl, .inl (hB3.done hs3)⟩
        · refine .inl ⟨by omega, m, rfl, h1, by omega, rfl, hB3.perm, hB3.kind, hB3.failed, by show (pendingOf st3).push _ = _; rw [hB3.pend]; rfl, ?_⟩
          have := srt_of (xs := arrOf st3) (lo := 0) (n := m) (by rw [hB3.size]; omega) fun i j hij hj => by rw [Nat.zero_add, Nat.zero_add]; exact hs3 i j hij hj
          simpa using this
      refine wpS_bind (wpS_countRun h0 (Nat.le_refl _) (by omega) hB' fun m st2 hB2 hm1 hm2 hs2 => ?_)
      dsimp only
      by_cases hlt : m < mr
      · rw [if_pos hlt]
        refine wpS_bind (wpS_lift (wpAny_rule ⟨rfl, ?_⟩))
        have emin : min a₀.size mr = mr := Nat.min_eq_right hmr2.1
        simp only [emin]
        refine wpS_bind (wpS_binarySort h0 hmr2.1 (Nat.le_of_lt hlt) hB2 hs2 fun st3 hB3 hs3 => ?_)
        simp only [Bool.not_true, Bool.false_eq_true, if_false]
        refine wpS_bind (wpS_get ?_)
        have hb : (pendingOf st3).back? = none := by rw [hB3.pend]; rfl
        rw [hb]
        dsimp only
        exact wpS_bind (wpS_modify (wpS_pure (.inr (by have := finish mr st3 hB3 hs3 (Nat.le_refl _) hmr2.1; simpa using this))))
      · rw [if_neg hlt]
        refine wpS_bind (wpS_get ?_)
        have hb : (pendingOf st2).back? = none := by rw [hB2.pend]; rfl
        rw [hb]
        dsimp only
        exact wpS_bind (wpS_modify (wpS_pure (.inr (by have := finish m st2 hB2 hs2 (by omega) hm2; simpa using this))))
    · dsimp only
      rw [if_neg (by omega)]
      have hL : SL (arrOf st') r1 #[(0, r1, 0)] st' := ⟨Array.Perm.refl _, hO.kind, hO.failed, hO.pend, fun _ _ => rfl⟩
      have hsz' : (arrOf st').size = a₀.size := hO.perm.size_eq
      have h0' : IntKeys (arrOf st') := intKeys_sub h0 fun _ hp => (Array.perm_iff_toList_perm.mp hO.perm).mem_iff.mp hp
      have finish : ∀ st3, SL (arrOf st') r1 #[(0, r1, 0)] st3 → UpS (arrOf st3) r1 (a₀.size - r1) → ∀ pw, Two a₀ r1 pw (setPending (setPending st3 #[(0, r1, pw)]) ((#[(0, r1, pw)] : Array (Nat × Nat × Nat)).push (r1, a₀.size - r1, 0))) := fun st3 hB3 hs3 pw => by
        refine ⟨hB3.perm.trans hO.perm, hB3.kind, hB3.failed, rfl, ?_, ?_⟩
        · show Srt ((arrOf st3).toList.take r1)
          rw [take_same hB3.pre]; exact hO.s1
        · show Srt ((arrOf st3).toList.drop r1)
          have := srt_of (xs := arrOf st3) (lo := r1) (n := a₀.size - r1) (by rw [hB3.size, hsz']; omega) hs3
          rwa [List.take_of_length_le (by rw [List.length_drop, Array.length_toList, hB3.size, hsz']; exact Nat.le_refl _)] at this
      refine wpS_bind (wpS_countRunL h0' (by omega) (by omega) hL fun m st2 hB2 hm1 hm2 hs2 => ?_)
      dsimp only
      by_cases hlt : m < mr
      · rw [if_pos hlt]
        refine wpS_bind (wpS_lift (wpAny_rule ⟨rfl, ?_⟩))
        have emin : min (a₀.size - r1) mr = a₀.size - r1 := Nat.min_eq_left (by omega)
        simp only [emin]
        refine wpS_bind (wpS_binL h0' (by omega) hm2 hm1 hB2 hs2 fun st3 hB3 hs3 => ?_)
        simp only [Bool.not_true, Bool.false_eq_true, if_false]
        refine wpS_bind (wpS_get ?_)
        have hb : (pendingOf st3).back? = some (0, r1, 0) := by rw [hB3.pend]; rfl
        rw [hb]
        dsimp only
        refine wpS_bind (wpS_mono (wpS_forRange (I := fun _ c st'' => st'' = st3 ∧ c = (none, ())) (Q := fun c st'' => st'' = st3 ∧ c = (none, ())) ?_ (fun _ _ hh => hh) ⟨rfl, rfl⟩) ?_)
        · rintro x c st'' _ _ ⟨rfl, rfl⟩
          refine wpS_bind (wpS_get ?_)
          have e : (if (pendingOf st'').size > 1 then (pendingOf st'')[(pendingOf st'').size - 2]? else none) = none := by rw [hB3.pend]; rfl
          rw [e]
          exact wpS_pure ⟨rfl, rfl⟩
        · rintro c st'' ⟨rfl, rfl⟩
          dsimp only
          refine wpS_bind (wpS_modify (wpS_bind (wpS_modify (wpS_pure ?_))))
          refine .inr (.inr ⟨by omega, by rw [show r1 + (a₀.size - r1) = a₀.size by omega], .inr ⟨r1, power' a₀.size (2 * 0 + r1) (2 * 0 + r1 + r1 + (a₀.size - r1)) a₀.size, hr1, hr2, ?_⟩⟩)
          have hf := finish st'' hB3 hs3 (power' a₀.size (2 * 0 + r1) (2 * 0 + r1 + r1 + (a₀.size - r1)) a₀.size)
          have epd : (pendingOf st'').modify ((pendingOf st'').size - 1) (fun e : Nat × Nat × Nat => (e.1, e.2.1, power' a₀.size (2 * 0 + r1) (2 * 0 + r1 + r1 + (a₀.size - r1)) a₀.size)) = #[(0, r1, power' a₀.size (2 * 0 + r1) (2 * 0 + r1 + r1 + (a₀.size - r1)) a₀.size)] := by
            rw [hB3.pend]; rfl
          rw [← epd] at hf
          exact hf
      · rw [if_neg hlt]
        have hmm : m = a₀.size - r1 := by omega
        subst hmm
        refine wpS_bind (wpS_get ?_)
        have hb : (pendingOf st2).back? = some (0, r1, 0) := by rw [hB2.pend]; rfl
        rw [hb]
        dsimp only
        refine wpS_bind (wpS_mono (wpS_forRange (I := fun _ c st'' => st'' = st2 ∧ c = (none, ())) (Q := fun c st'' => st'' = st2 ∧ c = (none, ())) ?_ (fun _ _ hh => hh) ⟨rfl, rfl⟩) ?_)
        · rintro x c st'' _ _ ⟨rfl, rfl⟩
          refine wpS_bind (wpS_get ?_)
          have e : (if (pendingOf st'').size > 1 then (pendingOf st'')[(pendingOf st'').size - 2]? else none) = none := by rw [hB2.pend]; rfl
          rw [e]
          exact wpS_pure ⟨rfl, rfl⟩
        · rintro c st'' ⟨rfl, rfl⟩
          dsimp only
          refine wpS_bind (wpS_modify (wpS_bind (wpS_modify (wpS_pure ?_))))
          refine .inr (.inr ⟨by omega, by rw [show r1 + (a₀.size - r1) = a₀.size by omega], .inr ⟨r1, power' a₀.size (2 * 0 + r1) (2 * 0 + r1 + r1 + (a₀.size - r1)) a₀.size, hr1, hr2, ?_⟩⟩)
          have hf := finish st'' hB2 hs2 (power' a₀.size (2 * 0 + r1) (2 * 0 + r1 + r1 + (a₀.size - r1)) a₀.size)
          have epd : (pendingOf st'').modify ((pendingOf st'').size - 1) (fun e : Nat × Nat × Nat => (e.1, e.2.1, power' a₀.size (2 * 0 + r1) (2 * 0 + r1 + r1 + (a₀.size - r1)) a₀.size)) = #[(0, r1, power' a₀.size (2 * 0 + r1) (2 * 0 + r1 + r1 + (a₀.size - r1)) a₀.size)] := by
            rw [hB2.pend]; rfl
          rw [← epd] at hf
          exact hf
    · dsimp only
      rw [if_pos (Nat.le_refl _)]
      exact wpS_pure ⟨rfl, hD⟩
  case post =>
    rintro c st' ⟨rfl, hD⟩
    dsimp only
    refine wpS_bind (wpS_mono (wpS_forRange (I := fun x c st'' => c = (none, ()) ∧ ((x = 0 ∧ st'' = st') ∨ (1 ≤ x ∧ (arrOf st'').Perm a₀ ∧ failedOf st'' = none ∧ SortedTo (arrOf st'') a₀.size ∧ (pendingOf st'').size ≤ 1)))
      (Q := fun c st'' => c = (none, ()) ∧ (arrOf st'').Perm a₀ ∧ failedOf st'' = none ∧ SortedTo (arrOf st'') a₀.size) ?pstep ?pfin ⟨rfl, .inl ⟨rfl, rfl⟩⟩) ?ppost)
    case ppost =>
      rintro c st'' ⟨rfl, q1, q2, q3⟩
      exact wpS_pure (h _ q1 q2 q3)
    case pfin =>
      rintro c st'' ⟨hc, ⟨hx, _⟩ | ⟨_, q1, q2, q3, _⟩⟩
      · omega
      · exact ⟨hc, q1, q2, q3⟩
    case pstep =>
      rintro x c st'' _ _ ⟨rfl, ⟨rfl, rfl⟩ | ⟨hx, q1, q2, q3, q4⟩⟩
      · refine wpS_bind (wpS_get ?_)
        rcases hD with hD | ⟨r1, p1, hr1, hr2, hT⟩
        · rw [if_pos (by rw [hD.2.2.1]; exact Nat.le_refl 1)]
          exact wpS_pure ⟨rfl, hD.1, hD.2.1, hD.2.2.2⟩
        · rw [if_neg (by rw [hT.pend]; exact Nat.not_le.mpr (Nat.lt_succ_self 1))]
          have ei : (if Option.any (fun x => decide (x < (pendingOf st'')[(pendingOf st'').size - 2 + 1]?.elim 0 fun x => x.2.1)) (if (pendingOf st'').size - 2 > 0 then Option.map (fun x => x.2.1) (pendingOf st'')[(pendingOf st'').size - 2 - 1]? else none) = true then (pendingOf st'').size - 2 - 1 else (pendingOf st'').size - 2) = 0 := by
            rw [hT.pend]; rfl
          rw [ei]
          have hsz : (arrOf st'').size = a₀.size := hT.perm.size_eq
          have h0' : IntKeys (arrOf st'') := intKeys_sub h0 fun _ hp => (Array.perm_iff_toList_perm.mp hT.perm).mem_iff.mp hp
          refine wpS_bind (wpS_mergeAt hT.kind h0' hT.failed hT.pend (by omega) (by omega) (by omega) hT.s1 hT.s2 fun st4 m1 m2 m3 m4 => ?_)
          simp only [Bool.not_true, Bool.false_eq_true, if_false]
          have hp4 : (arrOf st4).Perm a₀ := (Array.perm_iff_toList_perm.mpr m1).trans hT.perm
          refine wpS_pure ⟨rfl, .inr ⟨by omega, hp4, m3, ?_, by rw [m4]; exact Nat.le_refl 1⟩⟩
          have := sorted_of m2
          rwa [hp4.size_eq] at this
      · refine wpS_bind (wpS_get ?_)
        rw [if_pos q4]
        exact wpS_pure ⟨rfl, q1, q2, q3⟩
end
end

section
open PySem PyProof.Rows
set_option autoImplicit false
set_option maxRecDepth 100000
set_option maxHeartbeats 2000000
section
variable {prog : Program} {w : World} {A : Around} {E : Value → Shared → Prop} {s : Shared}
theorem wpS_runs {a₀ : Array Keyed} {st : SortSt} {Q : Unit → SortSt → Prop} (h0 : IntKeys a₀) (hB : SBase a₀ st) (h2 : 2 ≤ a₀.size) (h127 : a₀.size ≤ 127)
    (h : ∀ st', (arrOf st').Perm a₀ → failedOf st' = none → SortedTo (arrOf st') a₀.size → Q () st') : wpS (model prog w) A E s sortRuns' Q st := by
  by_cases h64 : a₀.size < 64
  · exact wpS_sortRuns h0 hB h2 h64 h
  · exact wpS_sortRuns2 h0 hB (by omega) h127 h
theorem sort_big {a : Addr} {vs : List Value} {ns : List Int} {n : Nat} {P : Fin → Shared → Prop} (ho : s.heap.get? a = some (seqObj "list" vs.toArray n)) (hI : IntsAre vs ns) (h2 : 2 ≤ vs.length) (h127 : vs.length ≤ 127)
    (h : ∀ (out : Array Value) (ns' : List Int), IntsAre out.toList ns' → ns'.Perm ns → ns'.Pairwise (· ≤ ·) → P (.done (.ret .none)) { s with heap := sortedHeap s.heap a vs out }) :
    wpAny (model prog w) A (Builtin.«list.sort» ⟨[.ref a], []⟩) P E s := by
  have hle : vs.toArray.size ≤ sizeLine := by simp; exact Nat.le_trans h127 (by decide)
  rw [list_sort_plain]
  have ha : a < s.heap.objs.size := Heap.lt_size ho
  refine wpAny_bind (listItems_at ho rfl (wpAny_bind (listUpdate_at ho rfl ?_ hle (Nat.zero_le _))))
  obtain ⟨e1, ho1⟩ : ∃ e1, (s.heap.update a (Obj.mapSeq fun _ => #[])).get? a = some (seqObj "list" #[] e1) := ⟨_, get?_update_seq ho (fun _ => #[])⟩
  refine wpAny_bind (seqEpoch_at ho1 rfl (wpAny_bind (wpAny_newTuple ?_ (Nat.le_trans h127 (by decide)))))
  refine wpAny_bind (wpAny_newList (wpAny_holding ?_))
  have ho6 : (((s.heap.update a (Obj.mapSeq fun _ => #[])).push (seqObj "tuple" vs.toArray 0)).push (seqObj "list" #[] 0)).get? a = some (seqObj "list" #[] e1) :=
    Heap.get?_push_of_some _ (Heap.get?_push_of_some _ ho1)
  show wpAny (model prog w) A _ P E { s with heap := ((s.heap.update a (Obj.mapSeq fun _ => #[])).push (seqObj "tuple" vs.toArray 0)).push (seqObj "list" #[] 0) }
  dsimp only
  have h2' : ¬ vs.toArray.size < 2 := by simp; omega
  rw [if_neg h2', if_neg h2']
  have hkind : keyKind' vs.toArray = pure oneType' := by
    match vs, h2 with
    | v₁ :: v₂ :: rest, _ => exact keyKind_ints hI
  rw [hkind]
  refine wpAny_bind (wpAny_pure ?_)
  refine wpAny_bind (wpAny_mono (wpS_runs (a₀ := pairsOf vs) (st := SortSt.mk' oneType' (vs.toArray.zip vs.toArray) #[] 7 none)
    (Q := fun _ st' => (arrOf st').Perm (pairsOf vs) ∧ failedOf st' = none ∧ SortedTo (arrOf st') (pairsOf vs).size)
    hI.intKeys ⟨Array.Perm.refl _, rfl, rfl, rfl⟩ (by rw [pairsOf_size]; exact h2) (by rw [pairsOf_size]; exact h127) fun st' a1 a2 a3 => ⟨a1, a2, a3⟩) ?_ fun _ _ e => e)
  rintro ⟨⟨⟩, st'⟩ s' ⟨rfl, hp, hf, hs⟩
  dsimp only
  refine wpAny_bind (seqEpoch_at ho6 rfl ?_)
  have hsz : ((arrOf st').map (·.2)).size ≤ sizeLine + 1 := by
    rw [Array.size_map, hp.size_eq, pairsOf_size]
    exact Nat.le_trans h127 (by decide)
  refine wpAny_bind (listUpdate_at ho6 rfl ?_ (Nat.zero_le _) hsz)
  rw [hf]
  simp only [bne_self_eq_false, Bool.false_eq_true, if_false]
  obtain ⟨ns', q1, q2, q3⟩ := sorted_out hI hp hs
  exact wpAny_pure (h _ ns' q1 q2 q3)
theorem sorted_big {h₀ : Heap} {L : Addr} {m : Str → Option Value} {news : List (Addr × Obj)} {l : Addr} {vs : List Value} {ns : List Int} {Q : Value → Shared → Prop}
    (F : Fr h₀ L s.heap m) (N : News h₀ L s.heap news) (hl : s.heap.IsList l vs.toArray) (hI : IntsAre vs ns) (h2 : 2 ≤ vs.length) (h127 : vs.length ≤ 127)
    (h : ∀ (h' : Heap) (vs' : List Value) (ns' : List Int) (e : Nat), Fr h₀ L h' m → News h₀ L h' ((s.heap.objs.size + 1, seqObj "list" vs'.toArray e) :: news) →
      IntsAre vs' ns' → ns'.Perm ns → ns'.Pairwise (· ≤ ·) → Q (.ref (s.heap.objs.size + 1)) { s with heap := h' }) :
    wpAny (model prog w) A (call (.builtin "sorted") [.ref l]) Q E s := by
  have hle : vs.length ≤ sizeLine := Nat.le_trans h127 (by decide)
  refine Calls.call_function_entry kind_sorted plain_sorted entry_sorted (args_sorted1 _) ?_
  unfold Builtin.«sorted»
  refine wpAny_bind (m := checkCount "sorted" 1 1 _) (wpAny_pure ?_)
  refine wpAny_bind (collect_list hl ?_ hle)
  refine wpAny_bind (wpAny_newList ?_)
  have hsz : ((s.heap.push (seqObj "list" #[] 0)).update s.heap.objs.size (Obj.mapSeq (· ++ vs.toArray))).objs.size = s.heap.objs.size + 1 := by
    rw [Heap.size_update, size_push']
  have hoL : (((s.heap.push (seqObj "list" #[] 0)).update s.heap.objs.size (Obj.mapSeq (· ++ vs.toArray))).push (seqObj "list" vs.toArray 0)).get? (s.heap.objs.size + 1) = some (seqObj "list" vs.toArray 0) := by
    rw [← hsz]; exact Heap.get?_push_size _ rfl
  show wpAny _ _ _ _ _ { s with heap := ((s.heap.push (seqObj "list" #[] 0)).update s.heap.objs.size (Obj.mapSeq (· ++ vs.toArray))).push (seqObj "list" vs.toArray 0) }
  rw [hsz]
  refine wpAny_bind (wpAny_holding (wpAny_call_entry slot_list_sort ⟨_, hoL, rfl⟩ entry_list_sort (sort_big hoL hI h2 h127 fun out ns' a1 a2 a3 => ⟨_, rfl, ?_⟩) (args_list_sort _)))
  refine wpAny_pure ⟨_, rfl, ?_⟩
  obtain ⟨e, he⟩ := sortedAll_at s.heap vs out
  exact h _ out.toList ns' e (F.kept fun _ _ => sortedAll_old) (N.kept_cons F (fun _ _ => sortedAll_old) (Nat.le_succ _) he) a1 a2 a3
end
end

section
open PySem PySem.W PyProof.Rows PySem.Calls PySem.Spec
set_option autoImplicit false
set_option Elab.async false
set_option maxRecDepth 100000
set_option maxHeartbeats 2000000
theorem fr_slots {h₀ h h' : Heap} {L : Addr} {m : Str → Option Value} (F : Fr h₀ L h m) (k : KeepS [L] h h') : Fr h₀ L h' m := by
  obtain ⟨oL, es, ep, hL, r⟩ := id F.ns
  obtain ⟨sl, hs⟩ := (k _ _ hL).1
  exact ⟨⟨_, es, ep, hs, r⟩, fun b o e => (k _ _ (F.keep b o e)).2 fun hb => absurd (List.mem_singleton.mp hb) (Nat.ne_of_lt (Nat.lt_of_lt_of_le (Heap.lt_size e) F.above)), F.above⟩
theorem news_slots {h₀ h h' : Heap} {L : Addr} {news : List (Addr × Obj)} (N : News h₀ L h news) (k : KeepS [L] h h') : News h₀ L h' news :=
  fun p hp => ⟨(k _ _ (N p hp).1).2 fun hb => (N p hp).2.1 (List.mem_singleton.mp hb), (N p hp).2⟩
theorem news_new {h₀ h h' : Heap} {L : Addr} {m : Str → Option Value} {news l : List (Addr × Obj)} (F : Fr h₀ L h m) (N : News h₀ L h' news) (hl : ∀ p ∈ l, h'.get? p.1 = some p.2 ∧ h.get? p.1 = none) : News h₀ L h' (l ++ news) := fun p hp => by
  rcases List.mem_append.mp hp with hp | hp
  · obtain ⟨h1, h2⟩ := hl p hp
    refine ⟨h1, fun e => ?_, ?_⟩
    · obtain ⟨oL, es, ep, hL, r⟩ := F.ns
      rw [← e, h2] at hL; cases hL
    · cases q : h₀.get? p.1 with
      | none => rfl
      | some o => rw [F.keep _ _ q] at h2; cases h2
  · exact N p hp
theorem papersAt_of {h₀ h : Heap} {L b : Addr} {vs : List Value} {n B : Nat} {ts news : List (Addr × Obj)} {ps : List Paper} (N : News h₀ L h news) (hb : (b, W.listOf (List.toArray vs) n) ∈ news) (hts : ∀ p ∈ ts, p ∈ news) (hv : PapV B (fun a o => (a, o) ∈ ts) vs ps) : PapersAt h b B ps :=
  ⟨vs, n, (N _ hb).1, hv.mono (Nat.le_refl _) fun a o h => (N _ (hts _ h)).1⟩
theorem frames_one {w : World} {mean : ExcName → Option Value} {mg mb : Str → Option Value} {A : Around} {base h₀ : Heap} {name : Str} {scope : Scope} {L f : Addr} {cd : Value} (G : Gr w mean mg mb A base [] h₀) : framesOf (A.deeper (envOf name scope L f cd)) = [L] := by
  unfold framesOf
  rw [Around.frames_deeper G.B.stack]
  rfl
theorem sorted_any {prog : Program} {w : World} {A : Around} {E : Value → Shared → Prop} {s : Shared} {h₀ : Heap} {L : Addr} {m : Str → Option Value} {news : List (Addr × Obj)} {l : Addr} {vs : List Value} {ns : List Int} {Q : Value → Shared → Prop}
    (F : Fr h₀ L s.heap m) (N : News h₀ L s.heap news) (hl : s.heap.IsList l vs.toArray) (hI : IntsAre vs ns) (h127 : vs.length ≤ 127)
    (h : ∀ (h' : Heap) (vs' : List Value) (ns' : List Int) (e : Nat), Fr h₀ L h' m → News h₀ L h' ((s.heap.objs.size + 1, seqObj "list" vs'.toArray e) :: news) →
      IntsAre vs' ns' → ns'.Perm ns → ns'.Pairwise (· ≤ ·) → Q (.ref (s.heap.objs.size + 1)) { s with heap := h' }) :
    wpAny (model prog w) A (call (.builtin "sorted") [.ref l]) Q E s := by
  by_cases h64 : vs.length < 64
  · exact sorted_N F N hl hI h64 h
  · exact sorted_big F N hl hI (by omega) h127 h
end

section
open PySem PySem.W PyProof.Rows PySem.Calls PySem.Spec
set_option autoImplicit false
set_option Elab.async false
set_option maxRecDepth 100000
set_option maxHeartbeats 2000000
theorem item_tri1 {prog : Program} {w : World} {A : Around} {E : Value → Shared → Prop} {s : Shared} {l : Addr} {value slice : Expr} {u : Tok} {Q : Value → Shared → Prop} {x y z : Str} {t1 t2 t3 : Tok} (hl : s.heap.get? l = some (tupObj [.str x t1, .str y t2, .str z t3])) (h : Q (.str y t2) s)
    (hs : subscripted slice false (.ref l) (.int 1 u) = operate [.ref l, .int 1 u] (getItem (.ref l) (.int 1 u)) := by with_unfolding_all rfl) :
    wpAny (model prog w) A (subscriptTail value slice (.ref l) (.int 1 u)) Q E s := by
  have ht : IsTup s.heap l #[.str x t1, .str y t2, .str z t3] := ⟨_, hl, rfl, _, rfl⟩
  exact subscriptTail_builtin_flat ht.typeIs slot_tuple_getitem.lookup (getItem_tuple ht (by decide) (by decide) (j := 1) rfl rfl ⟨(fun a e => nomatch e), h⟩) hs
theorem subs_drop_len (c : Nat) : ∀ l : List Nat, (subs c [] l).length ≤ l.length
  | [] => Nat.le_refl _
  | d :: r => by
    have h := subs_drop_len c r
    have e : subs c [] (d :: r) = (if d = c then [] else [d]) ++ subs c [] r := by simp [subs]
    rw [e, List.length_append, List.length_cons]
    split
    · simp; omega
    · simp; omega
theorem word_lt (n : Nat) : ∀ (t : Tree) (d : Nat), (∀ e ∈ t.leaves d, e.1 < n) → ∀ c ∈ t.word, c = 40 ∨ c = 41 ∨ (97 ≤ c ∧ c < 97 + n)
  | .nil, _, _, c, hc => nomatch hc
  | .leaf k, d, h, c, hc => by
    have hk : k < n := h (k, d) (.head _)
    rw [List.mem_singleton.mp hc]; omega
  | .node a b, d, h, c, hc => by
    rw [Tree.word] at hc
    rcases List.mem_append.mp hc with hc | hc
    · rcases List.mem_cons.mp hc with rfl | hc
      · exact .inl rfl
      rcases List.mem_append.mp hc with hc | hc
      · exact word_lt n a (d + 1) (fun e he => h e (List.mem_append.mpr (.inl he))) c hc
      · exact word_lt n b (d + 1) (fun e he => h e (List.mem_append.mpr (.inr he))) c hc
    · rw [List.mem_singleton.mp hc]; exact .inr (.inl rfl)
noncomputable def PapTup (h : Heap) (T : Addr) (k : Nat) : Prop := ∃ (nm : List Nat) (sg cv : List Nat) (t1 t2 t3 : Tok), h.get? T = some (tupObj [.str ⟨nm.toArray⟩ t1, .str ⟨sg.toArray⟩ t2, .str ⟨cv.toArray⟩ t3]) ∧ sg.length = k
theorem papTup_eq {h : Heap} {T : Addr} {k k' : Nat} (x : PapTup h T k) (y : PapTup h T k') : k = k' := by
  obtain ⟨nm, sg, cv, t1, t2, t3, e, rfl⟩ := x
  obtain ⟨nm', sg', cv', t1', t2', t3', e', rfl⟩ := y
  rw [e] at e'
  have e2 := congrArg (fun o : Obj => match o.data with | .seq a _ => (match a[1]? with | some (Value.str s _) => s.cps.size | _ => 0) | _ => 0) (Option.some.inj e')
  simpa [tupObj] using e2
section
variable {prog : Program} {w : World} {A : Around} {E : Value → Shared → Prop} {s : Shared} {h₀ : Heap} {L b : Addr} {m : Str → Option Value} {news ts : List (Addr × Obj)} {env : Env} {vs : List Value} {n B : Nat} {ps : List Paper}
theorem comp_lens {elt iter : Expr} {x : Str} {px : Pos} {scope : Scope} {pos : Pos} {Q : Value → Shared → Prop}
    (hh : A.handled = none) (hclos : closureFor scope env = pure []) (hcell : ∀ y ∈ scope.names, y.2 ≠ .cell) (hkind : scope.kind = .function)
    (hnames : ∀ y ∈ scope.names, y.2 = .local → scope.names.lookup y.1 = some .local) (hx : scope.names.lookup x = some .local) (hv : PapV B (fun a o => (a, o) ∈ ts) vs ps) (hts : ∀ p ∈ ts, p ∈ news) (hb : (b, W.listOf (List.toArray vs) n) ∈ news) (hz : vs.length ≤ 1000)
    (h : wpAny (model prog w) A (eval iter env) (fun xv s₁ => xv = .ref b ∧ Fr h₀ L s₁.heap m ∧ News h₀ L s₁.heap news ∧
      (∀ C T nm sg cv t1 t2 t3 s₂ m₂ E', Fr h₀ L s₂.heap m → News h₀ L s₂.heap news → s₂.heap.Ns (compEnvC scope [] C env).locals m₂ → m₂ x = some (.ref T) → s₂.heap.get? T = some (tupObj [.str nm t1, .str sg t2, .str cv t3]) → sg.length ≤ 10 →
        wpAny (model prog w) A (eval elt (compEnvC scope [] C env)) (fun r s₃ => (∃ t, r = .int (sg.length : Int) t) ∧ Keeps s₂ s₃) E' s₂) ∧
      (∀ D (ys : List Value) h' tk n, Fr h₀ L h' m → (∀ p ∈ news, p.1 ≠ D) → News h₀ L h' ((D, W.listOf ys.toArray n) :: news) → IntsAre ys ((ps.map fun p => p.signs.length).map Int.ofNat) → Q (.ref D) { s₁ with heap := h', toks := tk })) E s)
    (hsg : ∀ p ∈ ps, p.signs.length ≤ 10) (hs : ∀ x, foldedSetIterable iter env x = pure x) :
    wpAny (model prog w) A (eval (.ListComp elt [⟨.Name x px, iter, [], 0⟩] scope pos) env) Q E s := by
  refine wpAny_ListComp_free (fun _ => true) (fun v r => ∃ h T k t, (∀ p ∈ ts, Heap.get? h p.1 = some p.2) ∧ v = .ref T ∧ PapTup h T k ∧ r = .int (k : Int) t) hclos hcell hkind hnames hx (wpAny_mono h (fun xv s₁ h₁ => ?_) fun _ _ e => e) hs
  obtain ⟨rfl, F, N, helt, hQ⟩ := h₁
  have hl : s₁.heap.IsList b vs.toArray := ⟨_, (N _ hb).1, rfl, n, rfl⟩
  have hlt : b < s₁.heap.objs.size := Heap.lt_size (N _ hb).1
  refine wpAny_pyIter_list hl ?_
  have up : ∀ (h' : Heap), (∀ c o', c ∉ [s₁.heap.objs.size] → (s₁.heap.push { cls := .type "list_iterator", data := .fields #[.ref b, .int 0 0] }).get? c = some o' → h'.get? c = some o') → ∀ c o', s₁.heap.get? c = some o' → h'.get? c = some o' :=
    fun h' hk c o' e => hk c o' (fun hb => Nat.lt_irrefl _ ((List.mem_singleton.mp hb) ▸ Heap.lt_size e)) (Heap.get?_push_of_some _ e)
  refine ⟨s₁.heap.objs.size, [s₁.heap.objs.size, b], [s₁.heap.objs.size], vs.toArray.size, _, _, rfl, Walks.list hh s₁.heap.objs.size b (Nat.ne_of_lt hlt) vs.toArray, ?_, ⟨⟨_, Heap.get?_push_size _ rfl, rfl, rfl⟩, hl.push _⟩, ?_, ⟨?_, ?_⟩, ?_⟩
  · simp; exact Nat.le_trans hz (by decide)
  · intro c hc
    show c < (s₁.heap.push _).objs.size
    rw [Heap.size_push]
    rcases List.mem_cons.mp hc with rfl | hc
    · exact Nat.lt_succ_self _
    · rw [List.mem_singleton.mp hc]; exact Nat.lt_succ_of_lt hlt
  · intro C i v s₃ m₃ E' _ hP hn hm _ _
    exact wpAny_tests_nil ⟨rfl, _, _, rfl, fun _ _ e => e⟩
  · intro C i v s₃ m₃ E' _ hP _ hn hm hk _
    obtain ⟨T, p, t1, t2, t3, rfl, hp, hT, _⟩ := hv.get (by simpa using hP)
    have k3 := up s₃.heap hk
    have N3 := News.grown N k3
    have hsgp : (⟨p.signs.toArray⟩ : Str).length ≤ 10 := by simpa [Str.length] using hsg p (List.mem_of_getElem? hp)
    refine wpAny_mono (helt C T _ _ _ t1 t2 t3 s₃ m₃ E' (F.keeps k3) N3 hn hm (N3 _ (hts _ hT)).1 hsgp) (fun r s₄ h₄ => ?_) fun _ _ e => e
    obtain ⟨⟨t, rfl⟩, hk4⟩ := h₄
    exact ⟨⟨s₃.heap, T, p.signs.length, t, fun q hq => (N3 _ (hts _ hq)).1, rfl, ⟨[p.nm], p.signs, p.cover, t1, t2, t3, (N3 _ (hts _ hT)).1, rfl⟩, by simp [Str.length]⟩, hk4⟩
  · intro D h' tk ys vs' hnew hlD hplD hlen hP hF hk
    obtain ⟨n', hD⟩ := hplD
    have hDn : ∀ c o', s₁.heap.get? c = some o' → c ≠ D := fun c o' e q => by rw [← q, Heap.get?_push_of_some _ e] at hnew; cases hnew
    have F' := F.keeps (up h' hk)
    have N' := News.grown N (up h' hk)
    obtain ⟨oL, es, ep, hLo, _⟩ := id F.ns
    have hvv : vs' = vs := by
      refine List.ext_getElem? fun j => ?_
      cases q : vs'[j]? with
      | some v => simpa using (hP j v q).symm
      | none =>
        have h1 := List.getElem?_eq_none_iff.mp q
        exact (List.getElem?_eq_none (by rw [hlen] at h1; simpa using h1)).symm
    refine hQ D ys.toList h' tk n' F' (fun p hp => hDn _ _ (N p hp).1) (fun p hp => ?_) ?_
    · rcases List.mem_cons.mp hp with rfl | hp
      · refine ⟨by rw [Array.toArray_toList]; exact hD, (hDn _ _ hLo).symm, ?_⟩
        cases e : h₀.get? D with
        | none => rfl
        | some o' => exact absurd rfl (hDn _ _ (F.keep _ _ e))
      · exact N' p hp
    · rw [List.filter_eq_self.mpr fun _ _ => rfl, hvv] at hF
      have gen : ∀ {vs : List Value} {ps : List Paper} {ys : List Value}, PapV B (fun a o => (a, o) ∈ ts) vs ps → Paired (fun v r => ∃ h T k t, (∀ p ∈ ts, Heap.get? h p.1 = some p.2) ∧ v = .ref T ∧ PapTup h T k ∧ r = .int (k : Int) t) vs ys → IntsAre ys ((ps.map fun p => p.signs.length).map Int.ofNat) := by
        intro vs ps ys x
        induction x generalizing ys with
        | nil => intro h; cases h; exact .nil
        | @cons T p t1 t2 t3 vs ps hT _ _ ih =>
          intro hp
          cases hp with
          | cons hab hr =>
            obtain ⟨h, T', k, t, hh2, e, hk, rfl⟩ := hab
            cases e
            have : k = p.signs.length := papTup_eq hk ⟨[p.nm], p.signs, p.cover, t1, t2, t3, hh2 _ hT, rfl⟩
            subst this
            exact .cons _ _ (ih hr)
      exact gen hv hF
end
end

section
open PySem PySem.W PyProof.Rows PySem.Calls PySem.Spec
set_option autoImplicit false
set_option Elab.async false
set_option maxRecDepth 100000
set_option maxHeartbeats 4000000
local macro_rules | `(tactic| walk_at "my stop") => `(tactic| first
  | (with_reducible show wpAny _ _ (subscriptTail _ _ _ _) _ _ _)
  | (with_reducible show wpAny _ _ (compareOp CmpOp.NotEq (Value.ref _) (Value.ref _)) _ _ _)
  | (with_reducible show wpAny _ _ (call (Value.builtin "sorted") _ _) _ _ _)
  | (with_reducible show wpAny _ _ (call (Value.builtin "len") [Value.ref _]) _ _ _)
  | (with_reducible show wpAny _ _ (call (Value.builtin "str.replace") _ _) _ _ _))
local macro_rules | `(tactic| k_all) => `(tactic| assumption)
theorem fillW : PySem.Challenge.rw_wb0031_01 = PySem.Challenge.rw_wb0031_01 ∧ hd.heap_39 = hd.heap_39 := by
  k_fill
  exact ⟨rfl, rfl⟩
theorem finL : PySem.Challenge.rw_wb0031_01.Holds := Mine.hd rfl (by
  k_fill
  intro w s₀ s₁ mg mb G Y fa o pm cd doc dV kV ho hdd hcd hD hmg hg args vals as hpre hlay hrd hwl hlo
  have KX := kIn_of Y
  have X := (Ground.X G).1
  have V := (Ground.X G).2
  refine Ground.open G ?_
  intro T B D TE TW
  try (refine guard_noD D (by decide +kernel) ?_; clear D)
  clear hmg
  wrow_args hpre hlay hrd hwl hlo
  refine enter_call ?_
  w_top on
  have K0 := below_caller (Top.heap T)
  w_call any ho hdd hcd hD T F
  (try dsimp only)
  rename List Int => ns
  rename List Value => vs
  rename IntsAre vs ns => hI
  rename s₁.heap.IsList _ vs.toArray => hL
  rename ¬ ((63 : Nat) : Int) < _ => h63
  refine wpAny_mono (Q := fun f s' => f = Flow.ret (.bool true) ∧ ∃ h' g' tk', s' = ⟨h', g', s₁.drawn, tk', s₁.os⟩ ∧ (∀ b o, s₁.heap.get? b = some o → h'.get? b = some o) ∧ AllBare g') ?walk ?fin (fun e s' h => h)
  case fin =>
    rintro f s' ⟨rfl, h', g', tk', rfl, hk, hb⟩
    (try dsimp only)
    refine ⟨.inl ⟨.bool true, _, [], rfl, raisesW_false (by wrow_none_raised), readsW_of_reads (.bool true), ?_, ?_⟩, OldK.of_keep hk, rfl, hb⟩
    · exact (postW_of (by wrow_shape) (by wtm_val) (by str_meet; first | done | w_fin))
    · first | exact unshared_nil | exact fun h => absurd h (by decide)
  case walk =>
  have G1 : Gr w (ExcName.means s₀.heap) mg mb callerA s₁.heap [] s₁.heap := ⟨K0, KX, T, KX, T, fun _ h => nomatch h⟩
  have hh : callerA.handled = none := rfl
  rename Fr _ _ _ _ => F1
  rename News _ _ _ _ => N1
  (try clear hD); (try clear hcd); (try clear ho); (try clear TE); (try clear TW); (try clear V); (try clear G); (try clear Y); (try clear B)
  have B1 := G1.B
  obtain ⟨hp, gg, dd, tk0, os⟩ := s₁
  dsimp only at *
  subst hg
  clear X K0
  have X := KX
  generalize ExcName.means s₀.heap = mean at *
  clear hdd
  (try clear r0 w1)
  have hn63 : ns.length ≤ 63 := by omega
  clear h63
  obtain ⟨n, t1, t2, LF⟩ := law_facts ns
  obtain ⟨ps, hps⟩ : ∃ ps, papersOf ns = ps := ⟨_, rfl⟩
  have hn5 : n ≤ 5 := by have := LF.hn; omega
  have hpl : ps.length = n := by rw [← hps, LF.ps]; simp
  have hgood : ∀ p ∈ ps, GoodP p := fun p hp => by
    rw [← hps, LF.ps] at hp
    obtain ⟨k, hk, rfl⟩ := List.mem_map.mp hp
    exact (LF.good k (List.mem_range.mp hk)).1
  have hcov : ∀ p ∈ ps, 2 ≤ p.cover.length ∧ p.cover.length ≤ 10 := fun p hp => by
    rcases (hgood p hp).cov with h | h | h | h <;> rw [h] <;> decide
  have hsz : ∀ p ∈ ps, p.signs.length ≤ 10 ∧ p.cover.length ≤ 10 := fun p hp => ⟨Nat.le_trans (hgood p hp).len (by decide), (hcov p hp).2⟩
  walk_at "my hop"
  refine wpAny_with_toks (n := 1) (Nat.le_add_left 1 tk0) ?_
  walk_at "my steps"
  refine ⟨X.keeps F1.keep, ?_⟩
  refine con_papers (G1.at F1 rfl hh (by decide) (by decide) (Nat.le_add_left 1 _)).pl (Fr.lst F1 hL) hI hn63 fun h2 b vs2 n2 ts2 tk2 k2 hnew2 hv2 => ?_
  dsimp only at k2 hnew2 ⊢
  have F2 := fr_keep F1 k2
  have N2 := news_new F1 (news_keep N1 k2) hnew2
  rw [List.append_nil] at N2
  clear F1 N1 k2 hnew2
  rw [hps] at hv2
  have hps0 : ps ≠ [] := fun e => by have := LF.hn; rw [e] at hpl; simp at hpl; omega
  have htk2 : 1 ≤ tk2 := by
    cases hv2 with
    | nil => exact absurd rfl hps0
    | cons _ h _ => exact Nat.lt_of_le_of_lt (Nat.zero_le _) h.2.2.2
  refine wpAny_with_toks (n := tk2) (Nat.le_refl _) ?_
  walk_at "my steps"
  intro hk2 _
  rename Fr _ _ _ _ => F3
  obtain ⟨m0, F3⟩ : ∃ m0 : Str → Option Value, Fr hp hp.objs.size _ (fun y => if y = Str.ofString "papers" then some (Value.ref b) else m0 y) := ⟨_, F3⟩
  rename News _ _ _ _ => N3
  walk_at "my hop"
  refine wpAny_with_toks (n := tk2) hk2 ?_
  walk_at "my steps"
  refine ⟨X.keeps F3.keep, ?_⟩
  refine con_nest (B := tk2) (ps := ps) (G1.at F3 rfl hh (by decide) (by decide) (Nat.le_trans htk2 hk2)).pl (papersAt_of N3 (.head _) (fun _ h => .tail _ h) hv2) (by omega) hps0 hsz (by rw [hpl, ← hps]; exact LF.nok) fun h4 t4 tk4 k4 => ?_
  rw [hpl, ← hps, LF.nest]
  dsimp only at k4 ⊢
  have F4 := fr_keep F3 k4
  have N4 := news_keep N3 k4
  clear F3 N3 k4
  walk_at "my steps"
  intro hk4
  rename Fr _ _ _ _ => F5
  rename News _ _ _ _ => N5
  walk_at "my hop"
  refine wpAny_with_toks (n := tk2) hk4 ?_
  walk_at "my steps"
  refine ⟨X.keeps F5.keep, ?_⟩
  obtain ⟨s1a, s1b, s1c⟩ := toks_spec (paperOf ns) t1 0 LF.g1 LF.dep1
  have hl1 := LF.len1
  refine con_read w (G1.at F5 rfl hh (by decide) (by decide) (Nat.le_trans htk2 hk4)) (toksT (paperOf ns) t1 0) (by simpa using s1a.symm) s1b (ne_toks _ _ _ LF.full1) (by simp [Str.length]; omega) fun h6 ta tv tk6 k6 hta htv hta0 htk6 => ?_
  rw [frames_one G1] at k6
  rw [s1c] at htv
  dsimp only at k6 hta hta0 ⊢
  obtain ⟨to, hto, htc, htn, htd⟩ := id hta
  have F6 := fr_slots F5 k6
  have N6 := news_new (l := [(ta, to)]) F5 (news_slots N5 k6) (fun p hp => by rw [List.mem_singleton.mp hp]; exact ⟨hto, hta0⟩)
  clear F5 N5 k6 hta hto hta0
  walk_at "my steps"
  intro hk6
  rename Fr _ _ _ _ => F7
  rename News _ _ _ _ => N7
  have hta7 : Heap.IsList _ ta tv.toArray := ⟨_, (N7 _ (.head _)).1, htc, htn, htd⟩
  have hlenv := htv.length
  walk_at "my hop"
  refine wpAny_with_toks (n := tk2) hk6 (wpAny_If ?_)
  walk_at "my steps"
  refine ListComp_D (K := ItemKind.int) (h₀ := hp) (L := hp.objs.size) (news := [(ta, to)] ++ (b, W.listOf (List.toArray vs2) n2) :: ts2) (m := fun y => if y = Str.ofString "told" then some (Value.ref ta) else if y = Str.ofString "first" then some (Value.str { cps := (rendD (paperOf ns) t1 0).toArray } t4) else if y = Str.ofString "papers" then some (Value.ref b) else m0 y) (pz := fun x => decide ((4095 : Int) < x)) (d := PyData.int) hh ?b1 ?b2 ?b3 ?b4 ?b5 ?_ ?b6
  case b1 => decide
  case b2 => decide
  case b3 => rfl
  case b4 => decide
  case b5 => rfl
  case b6 => exact fun _ => rfl
  walk_at "my steps"
  have hnl := LF.nlen
  refine ⟨ta, tv, numsT (paperOf ns) t1 0, rfl, hta7, htv.areOf, Nat.le_trans hnl (by decide), F7, N7, ?_, ?_, ?_⟩
  · intro C a1 v s₂ m₂ E' ha1 hns hm
    obtain ⟨tq, rfl⟩ := ha1
    refine wpAny_tests_one ?_
    walk_at "my steps"
    exact ⟨rfl, _, _, rfl, fun _ _ e => e⟩
  · intro C a1 v s₂ m₂ E' ha1 _ hns hm
    obtain ⟨tq, rfl⟩ := ha1
    walk_at "my steps"
    exact ⟨.int _ _, _, _, rfl, fun _ _ e => e⟩
  · intro D ys h8 tk8 F8 N8 hD hlD hca
    have hyl : ys.length = least n (ps.map fun p => p.signs.length) := by
      rw [(IntsAre.ofCarried hca).length, LF.big, hps]
    walk_at "my steps"
    have hyl2 : ys.length ≤ 127 := by
      rw [(IntsAre.ofCarried hca).length]
      exact Nat.le_trans (List.length_filter_le _ _) hnl
    refine len_list hlD (by simp; omega) ?_
    walk_at "my steps"
    refine comp_lens (h₀ := hp) (L := hp.objs.size) (ts := ts2) (b := b) (n := n2) (news := [(ta, to)] ++ (b, W.listOf (List.toArray vs2) n2) :: ts2) (m := fun y => if y = Str.ofString "told" then some (Value.ref ta) else if y = Str.ofString "first" then some (Value.str { cps := (rendD (paperOf ns) t1 0).toArray } t4) else if y = Str.ofString "papers" then some (Value.ref b) else m0 y) hh ?c1 ?c2 ?c3 ?c4 ?c5 hv2 (fun _ h => .tail _ (.tail _ h)) (.tail _ (.head _)) ?c6 ?_ (fun p hp => (hsz p hp).1) ?c7
    case c1 => rfl
    case c2 => decide
    case c3 => rfl
    case c4 => decide
    case c5 => rfl
    case c6 => rw [hv2.length]; omega
    case c7 => exact fun _ => rfl
    walk_at "my steps"
    refine ⟨rfl, F8, N8, ?_, ?_⟩
    · intro C T3 nm sg cv t1' t2' t3' s₂ m₂ E' F9 N9 hns hm hT hsg
      clear F8 N8
      walk_at "my steps"
      refine item_tri1 hT ?_
      walk_at "my steps"
      exact ⟨⟨_, rfl⟩, _, _, rfl, fun _ _ e => e⟩
    · intro D2 ys2 h9 tk9 n9 F9 hD9 N9 hi9
      clear F8 N8
      walk_at "my steps"
      refine ⟨X.keeps F9.keep, ?_⟩
      refine con_least n (G1.at (s := ⟨h9, #[], dd, 1, os⟩) F9 rfl hh ?d1 ?d2 (Nat.le_refl 1)).pl (N9 _ (.head _)).1 hi9 ?l1 ?l2 ?l3 ?l4 fun h10 t10 tk10 k10 => ?_
      case d1 => exact Nat.lt_of_le_of_lt (Nat.add_le_add_left hn5 _) (by decide)
      case d2 => exact Nat.lt_of_le_of_lt (Nat.add_le_add_left (Nat.mul_le_mul_left 16 hn5) _) (by decide)
      case l1 => exact fun e => hps0 (List.map_eq_nil_iff.mp e)
      case l2 => rw [List.length_map, hpl]; exact Nat.le_refl _
      case l3 => rw [List.length_map, hpl]; exact Nat.le_trans hn5 (by decide)
      case l4 =>
        intro c hc
        obtain ⟨p, hp, rfl⟩ := List.mem_map.mp hc
        exact Nat.le_trans (hsz p hp).1 (by decide)
      dsimp only at k10 ⊢
      have F10 := fr_keep F9 k10
      have N10 : News hp hp.objs.size h10 ([(ta, to)] ++ (b, W.listOf (List.toArray vs2) n2) :: ts2) := fun p hp => news_keep N9 k10 p (.tail _ hp)
      clear F9 N9 k10 hi9 hlD hca hD hD9
      walk_at "my steps"
      rw [if_neg (by simp [hyl])]
      walk_at "my hop"
      intro hk10
      (try dsimp only)
      walk_at "my hop"
      refine wpAny_with_toks (n := tk2) hk10 ?_
      walk_at "my steps"
      refine ⟨X.keeps F10.keep, ?_⟩
      have hx1 : (⟨(rendD (paperOf ns) t1 0).toArray⟩ : Str).cps.toList = rendD (paperOf ns) t1 0 := by simp
      have hasc1 := chars_rend (paperOf ns) t1 0 LF.g1
      have hend1 : escEnd false (rendD (paperOf ns) t1 0) = false := by have := eend_rend (paperOf ns) t1 0 LF.g1 []; rw [List.append_nil] at this; exact this
      have hst1 : strip (rendD (paperOf ns) t1 0) = t1.word := strip_of (sseg_rend (paperOf ns) t1 0 LF.g1) (has34 _ _ _ LF.full1)
      refine wpAny_with_toks (n := tk2) hk10 ?_
      refine con_strip (G1.at F10 rfl hh (by decide) (by decide) (Nat.le_trans htk2 hk10)) (by simp [Str.length]; exact hl1) (by rw [hx1]; exact hasc1) (by rw [hx1]; exact fun _ => hend1) fun h11 t11 g11 tk11 k11 hg11 htk11 => ?_
      rw [hx1, hst1]
      dsimp only at k11 hg11 ⊢
      have hb11 : AllBare g11 := hg11 (fun y hy => by simp at hy)
      have F11 := fr_keep F10 k11
      have N11 := news_keep N10 k11
      clear F10 N10 k11 hg11
      intro hk11
      walk_at "my steps"
      refine ⟨X.keeps F11.keep, ?_⟩
      have hxw1 : (⟨t1.word.toArray⟩ : Str).cps.toList = t1.word := by simp
      have hpok := LF.pok
      have hpile := LF.pile
      rw [hps] at hpok hpile
      refine con_pile (B := tk2) (ps := ps) (G1.at F11 rfl hh (by decide) (by decide) htk11).pl hk11 (papersAt_of N11 (.tail _ (.head _)) (fun _ h => .tail _ (.tail _ h)) hv2) (by omega) (by simp [Str.length]; exact LF.w1) hsz (by rw [hxw1]; exact hpok) fun h12 b12 vs12 n12 ts12 tk12 k12 hnew12 hv12 => ?_
      rw [hxw1, hpile] at hv12
      obtain ⟨T12, u1, u2, rfl, hT12⟩ : ∃ T u1 u2, vs12 = [.ref T] ∧ (T, tupObj [.int 0 u1, .str ⟨(rendD (paperOf ns) t2 0).toArray⟩ u2]) ∈ ts12 := by
        cases hq : vs12.reverse with
        | nil => rw [hq] at hv12; cases hv12
        | cons v r =>
          rw [hq] at hv12
          cases hv12 with
          | cons hT hr =>
            cases hr
            exact ⟨_, _, _, by have := congrArg List.reverse hq; simpa using this, hT⟩
      dsimp only at k12 hnew12 ⊢
      have F12 := fr_keep F11 k12
      have N12 := news_new F11 (news_keep N11 k12) hnew12
      clear F11 N11 k12 hnew12 hv12
      walk_at "my steps"
      intro hk12
      rename Fr _ _ _ _ => F13
      rename News _ _ _ _ => N13
      have hL13 : Heap.IsList _ b12 (List.toArray [.ref T12]) := ⟨_, (N13 _ (.head _)).1, rfl, _, rfl⟩
      have hT13 := (N13 _ (.tail _ (List.mem_append.mpr (.inl hT12)))).1
      walk_at "my hop"
      refine wpAny_with_toks (n := tk2) hk12 (wpAny_If ?_)
      walk_at "my steps"
      refine len_list hL13 (by simp) ?_
      walk_at "my steps"
      rw [if_neg (by simp)]
      walk_at "my steps"
      refine item_list hL13 (by decide) (by decide) (x := .ref T12) (by simp) ?_
      walk_at "my steps"
      refine item_pair0 hT13 ?_
      walk_at "my steps"
      rw [if_neg (by simp)]
      walk_at "my steps"
      rw [if_neg Bool.false_ne_true]
      walk_at "my hop"
      intro hk13
      (try dsimp only)
      walk_at "my hop"
      refine wpAny_with_toks (n := tk2) hk13 ?_
      walk_at "my steps"
      refine item_list hL13 (by decide) (by decide) (x := .ref T12) (by simp) ?_
      walk_at "my steps"
      refine item_pair1 hT13 ?_
      walk_at "my steps"
      intro hk14
      rename Fr _ _ _ _ => F14
      rename News _ _ _ _ => N14
      walk_at "my hop"
      refine wpAny_with_toks (n := tk2) hk14 ?_
      walk_at "my steps"
      refine ⟨X.keeps F14.keep, ?_⟩
      have hl2 := LF.len2
      have hx2 : (⟨(rendD (paperOf ns) t2 0).toArray⟩ : Str).cps.toList = rendD (paperOf ns) t2 0 := by simp
      have hasc2 := chars_rend (paperOf ns) t2 0 LF.g2
      have hend2 : escEnd false (rendD (paperOf ns) t2 0) = false := by have := eend_rend (paperOf ns) t2 0 LF.g2 []; rw [List.append_nil] at this; exact this
      have hst2 : strip (rendD (paperOf ns) t2 0) = t2.word := strip_of (sseg_rend (paperOf ns) t2 0 LF.g2) (has34 _ _ _ LF.full2)
      refine wpAny_with_toks (n := tk2) hk14 ?_
      refine con_strip (G1.at F14 rfl hh (by decide) (by decide) (Nat.le_trans htk2 hk14)) (by simp [Str.length]; exact hl2) (by rw [hx2]; exact hasc2) (by rw [hx2]; exact fun _ => hend2) fun h15 t15 g15 tk15 k15 hg15 htk15 => ?_
      rw [hx2, hst2]
      dsimp only at k15 hg15 ⊢
      have hb15 : AllBare g15 := hg15 hb11
      have F15 := fr_keep F14 k15
      have N15 := news_keep N14 k15
      clear F14 N14 k15 hg15
      intro hk15
      walk_at "my steps"
      intro hk16
      rename Fr _ _ _ _ => F16
      rename News _ _ _ _ => N16
      walk_at "my hop"
      refine wpAny_with_toks (n := tk2) hk16 (wpAny_If ?_)
      walk_at "my steps"
      have hw2l : (⟨t2.word.toArray⟩ : Str).length ≤ 100 := by simp [Str.length]; exact LF.w2
      refine wpAny_with_toks (n := 1) (Nat.le_add_left 1 _) (SC.replaceW (Nat.succ_ne_zero _) (Nat.succ_ne_zero _) (Nat.ne_of_lt (Nat.lt_succ_self _)) (by decide) (Nat.le_trans hw2l (by decide)) (by decide) fun t17 k17 => ?_)
      intro hk17
      walk_at "my steps"
      have hr1 : (Txt.replace ⟨t2.word.toArray⟩ (Str.ofString "(") (Str.ofString "")) = ⟨(subs 40 [] t2.word).toArray⟩ := by
        refine str_ext ?_
        show (Txt.replace ⟨t2.word.toArray⟩ ⟨#[40]⟩ ⟨#[]⟩).cps.toList = _
        rw [replace_subs]
      rw [hr1]
      have hr2l : (⟨(subs 40 [] t2.word).toArray⟩ : Str).length ≤ 100 := by
        simp [Str.length]
        exact Nat.le_trans (subs_drop_len 40 _) LF.w2
      refine wpAny_with_toks (n := 1) (by first | exact Nat.le_add_left 1 _ | exact Nat.le_trans hk17 (Nat.le_add_right _ _)) (SC.replaceW ?_ ?_ (Nat.ne_of_lt (Nat.lt_succ_self _)) (by decide) (Nat.le_trans hr2l (by decide)) (by decide) fun t18 k18 => ?_)
      · first | exact Nat.ne_of_gt hk17 | exact Nat.succ_ne_zero _
      · first | exact Nat.succ_ne_zero _ | exact Nat.ne_of_gt hk17
      intro hk18
      have hr2 : (Txt.replace ⟨(subs 40 [] t2.word).toArray⟩ (Str.ofString ")") (Str.ofString "")) = ⟨((List.range n).map fun k => 97 + k).toArray⟩ := by
        refine str_ext ?_
        show (Txt.replace ⟨(subs 40 [] t2.word).toArray⟩ ⟨#[41]⟩ ⟨#[]⟩).cps.toList = _
        rw [replace_subs]
        simpa using LF.order
      rw [hr2]
      have hbL : Heap.IsList _ b (List.toArray vs2) := ⟨_, (N16 _ (List.mem_append.mpr (.inr (.tail _ (.head _))))).1, rfl, _, rfl⟩
      walk_at "my steps"
      refine len_list hbL (by simp [hv2.length]; omega) ?_
      walk_at "my steps"
      (try dsimp only)
      walk1
      have hvn : vs2.toArray.size = n := by simp [hv2.length, hpl]
      have hsl : ∀ k, k = 4 ∨ k = 5 → Txt.slice (Str.ofString "abcde") none (some (k : Nat)) = ⟨((List.range k).map fun j => 97 + j).toArray⟩ := by
        rintro k (rfl | rfl) <;> decide +kernel
      rw [hvn, hsl n LF.hn]
      walk_at "my steps"
      rw [if_neg (by simp)]
      walk_at "my hop"
      intro hk19
      (try dsimp only)
      rename Fr _ _ _ _ => F19
      rename News _ _ _ _ => N19
      walk_at "my hop"
      refine wpAny_with_toks (n := tk2) hk19 ?_
      walk_at "my steps"
      refine ⟨X.keeps F19.keep, ?_⟩
      obtain ⟨s2a, s2b, s2c⟩ := toks_spec (paperOf ns) t2 0 LF.g2 LF.dep2
      refine con_read w (G1.at F19 rfl hh (by decide) (by decide) (Nat.le_trans htk2 hk19)) (toksT (paperOf ns) t2 0) (by simpa using s2a.symm) s2b (ne_toks _ _ _ LF.full2) (by simp [Str.length]; omega) fun h20 tb tbv tk20 k20 htb htbv htb0 htk20 => ?_
      rw [frames_one G1] at k20
      rw [s2c] at htbv
      dsimp only at k20 htb htb0 ⊢
      obtain ⟨tbo, htbo, htbc, htbn, htbd⟩ := id htb
      have F20 := fr_slots F19 k20
      have N20 := news_new (l := [(tb, tbo)]) F19 (news_slots N19 k20) (fun p hp => by rw [List.mem_singleton.mp hp]; exact ⟨htbo, htb0⟩)
      clear F19 N19 k20 htb htbo htb0
      walk_at "my steps"
      intro hk21
      rename Fr _ _ _ _ => F21
      rename News _ _ _ _ => N21
      walk_at "my hop"
      refine wpAny_with_toks (n := tk2) hk21 (wpAny_If ?_)
      walk_at "my steps"
      refine ⟨X.keeps F21.keep, ?_⟩
      have hxw2 : (⟨t2.word.toArray⟩ : Str).cps.toList = t2.word := by simp
      have hB21 : tk2 ≤ _ := hk21
      refine con_told (B := tk2) (ps := ps) (G1.at F21 rfl hh (by decide) (by decide) (Nat.le_trans htk2 hk21)).pl hk21 (papersAt_of N21 (List.mem_append.mpr (.inr (List.mem_append.mpr (.inr (.tail _ (.head _)))))) (fun _ h => List.mem_append.mpr (.inr (List.mem_append.mpr (.inr (.tail _ (.tail _ h)))))) hv2) (by omega) hw2l hsz (by rw [hxw2, hpl]; exact word_lt n t2 0 LF.lt2) fun h22 bt vt nt tk22 k22 hbt hit => ?_
      have htold : toldGo ps t2.word 0 = numsT (paperOf ns) t2 0 := by
        have := told_tree (paperOf ns) n t2 0 [] LF.lt2
        rw [← LF.ps, hps, List.append_nil, toldGo, List.append_nil] at this
        exact this
      rw [hxw2, htold] at hit
      dsimp only at k22 hbt ⊢
      have F22 := fr_keep F21 k22
      have N22 := news_keep N21 k22
      clear F21 N21 k22
      have htb22 : Heap.IsList h22 tb tbv.toArray := ⟨_, (N22 _ (.head _)).1, htbc, htbn, htbd⟩
      walk_at "my steps"
      refine ne_intsK htb22 htbv ⟨_, hbt, rfl, _, rfl⟩ hit (by show callerA.units + 3 + 64 < cLine; decide) ?_
      walk_at "my steps"
      rw [if_neg (by simp)]
      walk_at "my steps"
      have hnl2 : tbv.length ≤ 127 := by rw [htbv.length, LF.perm.length_eq]; exact hnl
      refine sorted_any F22 N22 htb22 htbv hnl2 fun h23 vs23 ns23 e23 F23 N23 hi23 hp23 ho23 => ?_
      clear F22 N22
      (try dsimp only)
      generalize h22.objs.size + 1 = c23 at N23 ⊢
      have hta23 : Heap.IsList h23 ta tv.toArray := ⟨_, (N23 _ (.tail _ (List.mem_append.mpr (.inr (List.mem_append.mpr (.inr (.head _))))))).1, htc, htn, htd⟩
      walk_at "my steps"
      refine sorted_any F23 N23 hta23 htv (by rw [hlenv]; exact hnl) fun h24 vs24 ns24 e24 F24 N24 hi24 hp24 ho24 => ?_
      clear F23
      (try dsimp only)
      have heq : ns23 = ns24 := ksm_same (hp23.trans (LF.perm.trans hp24.symm)) ho23 ho24
      walk_at "my steps"
      refine ne_intsK ⟨_, (N24 _ (.tail _ (.head _))).1, rfl, _, rfl⟩ hi23 ⟨_, (N24 _ (.head _)).1, rfl, _, rfl⟩ hi24 (by show callerA.units + 3 + 64 < cLine; decide) ?_
      have N25 : News hp hp.objs.size h24 ((b, W.listOf (List.toArray vs2) n2) :: ts2) := fun p hp => N24 p (.tail _ (.tail _ (List.mem_append.mpr (.inr (List.mem_append.mpr (.inr (.tail _ hp)))))))
      clear N23 N24
      walk_at "my steps"
      rw [heq, if_neg (by simp)]
      walk_at "my steps"
      rw [if_neg Bool.false_ne_true]
      walk_at "my hop"
      intro hk25
      (try dsimp only)
      walk_at "my hop"
      refine wpAny_with_toks (n := tk2) hk25 (wpAny_If ?_)
      walk_at "my steps"
      refine ⟨X.keeps F24.keep, ?_⟩
      refine con_check (G1.at F24 rfl hh (by decide) (by decide) (Nat.le_trans htk2 hk25)) (by simp [Str.length]; exact hl2) (by rw [hx2]; exact hasc2) (by rw [hx2]; exact fun _ => hend2) (by rw [hx2, hst2]; exact fun c hc => by rcases word_chars (paperOf ns) t2 LF.g2 c hc with h | h | h <;> omega) ?_ fun h26 g26 tk26 k26 hg26 htk26 => ?_
      · rw [hx2, hst2]
        have := EEnd.chars (l := t2.word) (fun c hc => by rcases word_chars (paperOf ns) t2 LF.g2 c hc with h | h | h <;> omega) []
        rw [List.append_nil] at this
        exact this
      rw [hx2, check_word (paperOf ns) t2 LF.g2 LF.full2]
      dsimp only at k26 hg26 ⊢
      have hb26 : AllBare g26 := hg26 hb15
      have F26 := fr_keep F24 k26
      have N26 := news_keep N25 k26
      clear F24 N25 k26 hg26
      walk_at "my steps"
      rw [if_neg (by decide)]
      walk_at "my hop"
      intro hk27
      (try dsimp only)
      walk_at "my steps"
      refine ⟨X.keeps F26.keep, ?_⟩
      refine wpAny_with_toks (n := tk2) hk27 ?_
      refine con_attrib w (G1.at F26 rfl hh (by decide) (by decide) (Nat.le_trans htk2 hk27)) (by simp [Str.length]; omega) fun h28 t28 tk28 k28 htk28 => ?_
      dsimp only at k28 ⊢
      have F28 := fr_keep F26 k28
      have N28 := news_keep N26 k28
      clear F26 N26 k28
      intro hk28
      walk_at "my steps"
      refine ⟨X.keeps F28.keep, ?_⟩
      have hxa : (esc tblA ⟨(rendD (paperOf ns) t2 0).toArray⟩).cps.toList = escL tblA (rendD (paperOf ns) t2 0) := by simp [esc]
      have hasca := att_ascii hasc2
      have hno34 := att_no34 (rendD (paperOf ns) t2 0)
      obtain ⟨hps2, hee2, _⟩ := att_rend (paperOf ns) t2 0 LF.g2
      have henda : escEnd false (escL tblA (rendD (paperOf ns) t2 0)) = false := by have := hee2 []; rw [List.append_nil] at this; exact this
      have hsta : strip (escL tblA (rendD (paperOf ns) t2 0)) = escL tblA (rendD (paperOf ns) t2 0) := by rw [strip, if_neg hno34]
      have hla := LF.lenA2
      refine wpAny_with_toks (n := tk2) hk28 ?_
      refine con_check (G1.at F28 rfl hh (by decide) (by decide) htk28) (by have := congrArg List.length hxa; simp [Str.length] at this ⊢; omega) (by rw [hxa]; exact hasca) (by rw [hxa]; exact fun _ => henda) (by rw [hxa, hsta]; exact hasca) (by rw [hxa, hsta]; exact henda) fun h29 g29 tk29 k29 hg29 htk29 => ?_
      rw [hxa, check_of hno34 hps2]
      dsimp only at k29 hg29 ⊢
      have hb29 : AllBare g29 := hg29 hb26
      have F29 := fr_keep F28 k29
      have N29 := news_keep N28 k29
      clear F28 N28 k29 hg29
      intro hk29
      walk_at "my steps"
      refine ⟨X.keeps F29.keep, ?_⟩
      have hrow : rowOf t2.word ps = rowT (paperOf ns) t2 := by rw [← hps, LF.ps]; exact rowOf_tree (paperOf ns) n LF.good t2 LF.lt2
      refine con_closes (B := tk2) (ps := ps) (G1.at F29 rfl hh (by decide) (by decide) htk29).pl hk29 (papersAt_of N29 (.head _) (fun _ h => .tail _ h) hv2) (by omega) hw2l hcov (by rw [hxw2, hrow]; exact rowT_chars (paperOf ns) t2 LF.g2) fun h30 tk30 k30 => ?_
      rw [hxw2, hrow]
      dsimp only at k30 ⊢
      have F30 := fr_keep F29 k30
      clear F29 N29
      walk_at "my steps"
      exact ⟨by simp, _, _, _, rfl, F30.keep, hb29⟩)
end

end
end Mine

theorem PySem.Challenge.cw_wb0031_01_holds : PySem.Challenge.rw_wb0031_01.Holds :=
  Mine.finL
