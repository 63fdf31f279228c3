import PyProof.Rows.All
import Wide.All
import OpenK.AllK
import Wide.FinOn
import PyProof.InstNe
import PyProof.NeKinds
import ObjForm.ListNI
import PySem.Challenge.RW_dp0026_01
set_option Elab.async false
set_option maxRecDepth 100000
set_option maxHeartbeats 0
set_option linter.unusedVariables false
section TD26A
open PySem PySem.W PyProof.Rows
namespace D26
section
local macro_rules | `(tactic| k_head) => `(tactic| z_head)
open_top hdz for PySem.Challenge.rw_dp0026_01
end
end D26
end TD26A
section TD26B
open PySem PySem.W PyProof.Rows
namespace D26
/-- what stands at the call's start, without the two code tables that the call grows -/
noncomputable def KB (P : Params) : Frag := (hdz.heap_84 P).filter fun p => !(Nat.beq p.1 23 || Nat.beq p.1 42)
theorem lookup_filter {f : Addr × Obj → Bool} : ∀ {K : Frag} {a : Addr} {o : Obj}, (∀ x y, f (a, x) = f (a, y)) → (K.filter f).lookup a = some o → K.lookup a = some o
  | [], _, _, _, h => by simp at h
  | (b, ob) :: K, a, o, hf, h => by
    rw [List.filter_cons] at h
    rw [List.lookup_cons]
    by_cases e : a = b
    · subst e
      simp only [beq_self_eq_true]
      cases q : f (a, ob) with
      | true => rw [q] at h; simpa using h
      | false =>
        rw [q] at h
        simp only [Bool.false_eq_true, if_false] at h
        exfalso
        have : ∀ {K : Frag}, (K.filter f).lookup a = none := by
          intro K
          induction K with
          | nil => rfl
          | cons p K ih =>
            rw [List.filter_cons]
            split
            · rename_i hp
              obtain ⟨c, oc⟩ := p
              rw [List.lookup_cons]
              by_cases e : a = c
              · subst e; rw [hf oc ob, q] at hp; cases hp
              · have : (a == c) = false := by simpa using e
                rw [this]; exact ih
            · exact ih
        rw [this] at h; cases h
    · have e' : (a == b) = false := by simpa using e
      rw [e']
      split at h
      · rw [List.lookup_cons, e'] at h; exact lookup_filter hf h
      · exact lookup_filter hf h
theorem in_filter {f : Addr × Obj → Bool} {K : Frag} {h : Heap} (hf : ∀ a x y, f (a, x) = f (a, y)) (X : K.In h) : Frag.In (K.filter f) h := fun a o e => X a o (lookup_filter (hf a) e)
end D26
end TD26B
section TD26K
open PySem PySem.W PyProof.Rows
namespace D26
def fnBody : Stmt → List Stmt
  | .FunctionDef _ _ b .. => b
  | .ClassDef _ _ _ b .. => b
  | _ => []
def fnParams : Stmt → Arguments
  | .FunctionDef _ a .. => a
  | _ => ⟨[], [], none, [], [], none, []⟩
def fnScope : Stmt → Scope
  | .FunctionDef _ _ _ _ _ _ s .. => s
  | _ => ⟨.function, [], false, false, []⟩
def nthS : Nat → List Stmt → Stmt
  | _, [] => .Pass ⟨0, 0, 0, 0⟩
  | 0, x :: _ => x
  | n + 1, _ :: r => nthS n r
def lamOf : Stmt → Option (Arguments × PySem.Expr × Scope)
  | .Assign _ (.Call _ (.Lambda a b s _ :: _) _ _) _ => some (a, b, s)
  | _ => none
def kStmts : List Stmt := fnBody (nthS 0 (fnBody (nthS 2 PySem.Challenge.pw_dp0026_01.main.body)))
def lawStmts : List Stmt := fnBody (nthS 6 PySem.Challenge.pw_dp0026_01.main.body)
def lamP : Arguments := match lamOf (nthS 0 lawStmts) with | some (a, _, _) => a | none => ⟨[], [], none, [], [], none, []⟩
def lamB : PySem.Expr := match lamOf (nthS 0 lawStmts) with | some (_, b, _) => b | none => .Constant .none 0 ⟨0, 0, 0, 0⟩
def lamS : Scope := match lamOf (nthS 0 lawStmts) with | some (_, _, s) => s | none => ⟨.function, [], false, false, []⟩
/-- the text's signs -/
abbrev sLam : Str := ⟨#[60, 108, 97, 109, 98, 100, 97, 62]⟩
abbrev sCut : Str := ⟨#[47, 99, 108, 97, 105, 109, 47, 99, 117, 116, 46, 112, 121]⟩
abbrev sQLam : Str := ⟨#[108, 97, 119, 46, 60, 108, 111, 99, 97, 108, 115, 62, 46, 60, 108, 97, 109, 98, 100, 97, 62]⟩
abbrev sInit : Str := ⟨#[95, 95, 105, 110, 105, 116, 95, 95]⟩
abbrev sQInit : Str := ⟨#[99, 109, 112, 95, 116, 111, 95, 107, 101, 121, 46, 60, 108, 111, 99, 97, 108, 115, 62, 46, 75, 46, 95, 95, 105, 110, 105, 116, 95, 95]⟩
abbrev sGt : Str := ⟨#[95, 95, 103, 116, 95, 95]⟩
abbrev sQGt : Str := ⟨#[99, 109, 112, 95, 116, 111, 95, 107, 101, 121, 46, 60, 108, 111, 99, 97, 108, 115, 62, 46, 75, 46, 95, 95, 103, 116, 95, 95]⟩
abbrev sEq : Str := ⟨#[95, 95, 101, 113, 95, 95]⟩
abbrev sQEq : Str := ⟨#[99, 109, 112, 95, 116, 111, 95, 107, 101, 121, 46, 60, 108, 111, 99, 97, 108, 115, 62, 46, 75, 46, 95, 95, 101, 113, 95, 95]⟩
abbrev sLt : Str := ⟨#[95, 95, 108, 116, 95, 95]⟩
abbrev sLe : Str := ⟨#[95, 95, 108, 101, 95, 95]⟩
abbrev sGe : Str := ⟨#[95, 95, 103, 101, 95, 95]⟩
abbrev sHash : Str := ⟨#[95, 95, 104, 97, 115, 104, 95, 95]⟩
abbrev sMod : Str := ⟨#[95, 95, 109, 111, 100, 117, 108, 101, 95, 95]⟩
abbrev sFirst : Str := ⟨#[95, 95, 102, 105, 114, 115, 116, 108, 105, 110, 101, 110, 111, 95, 95]⟩
abbrev sSlots : Str := ⟨#[95, 95, 115, 108, 111, 116, 115, 95, 95]⟩
abbrev sStat : Str := ⟨#[95, 95, 115, 116, 97, 116, 105, 99, 95, 97, 116, 116, 114, 105, 98, 117, 116, 101, 115, 95, 95]⟩
abbrev sObj : Str := ⟨#[111, 98, 106]⟩
abbrev sDoc : Str := ⟨#[95, 95, 100, 111, 99, 95, 95]⟩
abbrev sK : Str := ⟨#[75]⟩
abbrev sQK : Str := ⟨#[99, 109, 112, 95, 116, 111, 95, 107, 101, 121, 46, 60, 108, 111, 99, 97, 108, 115, 62, 46, 75]⟩
abbrev sFun : Str := ⟨#[99, 112, 121, 51, 49, 51, 46, 102, 117, 110, 99, 116, 111, 111, 108, 115]⟩
abbrev sLaw : Str := ⟨#[108, 97, 119, 95, 100, 112, 48, 48, 50, 54, 95, 48, 49]⟩
abbrev sMy : Str := ⟨#[109, 121, 99, 109, 112]⟩

/-- a text's hash, as the runner has it -/
noncomputable def hF (P : Params) (x : Str) : Int := PySem.W.ZFast.zw12210062019545310541 (P.strHash x.cps)
structure KCls (u : Nat) (P : Params) (h : Heap) : Prop where
  o57 : h.get? (nat_lit 57) = some ⟨.type "cell", none, .cell (some (.ref 55)), #[]⟩
  o71 : h.get? (nat_lit 71) = some ⟨.type "code", none, .fields #[.str sInit (u + 17), .str sQInit (u + 18), .str sCut (u + 19), .int 13 0, .int 2 0, .int 0 0, .int 0 0, .int 19 0, .ref 66, .bool true, .int 181 0, .ref 67, .none, .ref 68, .ref 69, .ref 70, .int (u + 22 : Nat) 0, .int 13 0, .str sCut (u + 23)], #[]⟩
  o87 : h.get? (nat_lit 87) = some ⟨.type "code", none, .fields #[.str sGt (u + 34), .str sQGt (u + 35), .str sCut (u + 36), .int 19 0, .int 2 0, .int 0 0, .int 0 0, .int 19 0, .ref 82, .bool true, .int 181 0, .ref 83, .none, .ref 84, .ref 85, .ref 86, .int (u + 40 : Nat) 0, .int 19 0, .str sCut (u + 41)], #[]⟩
  o95 : h.get? (nat_lit 95) = some ⟨.type "code", none, .fields #[.str sEq (u + 43), .str sQEq (u + 44), .str sCut (u + 45), .int 22 0, .int 2 0, .int 0 0, .int 0 0, .int 19 0, .ref 90, .bool true, .int 181 0, .ref 91, .none, .ref 92, .ref 93, .ref 94, .int (u + 49 : Nat) 0, .int 22 0, .str sCut (u + 50)], #[]⟩
  o72 : h.get? (nat_lit 72) = some ⟨.type "function", none, .func { name := sInit, qualname := sQInit, params := fnParams (nthS 2 kStmts), body := .stmts (fnBody (nthS 2 kStmts)), scope := fnScope (nthS 2 kStmts), globals := 3, closure := [], defaults := .none, kwdefaults := .none, doc := .none, pyModule := .str sLaw 207, annotations := none, code := .ref 71, closureTuple := .none, builtins := 0 }, #[]⟩
  o88 : h.get? (nat_lit 88) = some ⟨.type "function", none, .func { name := sGt, qualname := sQGt, params := fnParams (nthS 4 kStmts), body := .stmts (fnBody (nthS 4 kStmts)), scope := fnScope (nthS 4 kStmts), globals := 3, closure := [(sMy, 57)], defaults := .none, kwdefaults := .none, doc := .none, pyModule := .str sLaw 207, annotations := none, code := .ref 87, closureTuple := .ref 81, builtins := 0 }, #[]⟩
  o96 : h.get? (nat_lit 96) = some ⟨.type "function", none, .func { name := sEq, qualname := sQEq, params := fnParams (nthS 5 kStmts), body := .stmts (fnBody (nthS 5 kStmts)), scope := fnScope (nthS 5 kStmts), globals := 3, closure := [(sMy, 57)], defaults := .none, kwdefaults := .none, doc := .none, pyModule := .str sLaw 207, annotations := none, code := .ref 95, closureTuple := .ref 89, builtins := 0 }, #[]⟩
  o115 : h.get? (nat_lit 115) = some ⟨.type "dict", none, .dict #[⟨hF P sMod, .str sMod (u + 8), .str sFun (u + 13)⟩, ⟨hF P sFirst, .str sFirst (u + 12), .int 9 (u + 11)⟩, ⟨hF P sSlots, .str sSlots (u + 16), .ref 65⟩, ⟨hF P sInit, .str sInit (u + 24), .ref 72⟩, ⟨hF P sLt, .str sLt (u + 33), .ref 80⟩, ⟨hF P sGt, .str sGt (u + 42), .ref 88⟩, ⟨hF P sEq, .str sEq (u + 51), .ref 96⟩, ⟨hF P sLe, .str sLe (u + 60), .ref 104⟩, ⟨hF P sGe, .str sGe (u + 69), .ref 112⟩, ⟨hF P sHash, .str sHash (u + 70), .none⟩, ⟨hF P sStat, .str sStat (u + 72), .ref 113⟩, ⟨hF P sObj, .str sObj (u + 74), .ref 117⟩, ⟨hF P sDoc, .str sDoc (u + 75), .none⟩] 3, #[]⟩
  o116 : h.get? (nat_lit 116) = some ⟨.type "type", none, .cls { name := sK, bases := [.type "object"], mro := [.ref 116, .type "object"], ns := 115, qualname := sQK, hasDict := false, slotNames := [sObj], subclasses := [], abstract := false, collection := none, hasDel := false }, #[some (.ref 58), none, some (.str sK u), some (.str sQK (u + 9)), some (.builtin "object.__new__"), some (.bool false)]⟩
  o117 : h.get? (nat_lit 117) = some ⟨.type "member_descriptor", none, .fields #[.str sObj (u + 73), .ref 116, .builtin "proto.slot", .builtin "proto.slot#set", .int 0 0], #[]⟩
structure KOk (v u : Nat) (P : Params) (h : Heap) : Prop where
  o54 : h.get? (nat_lit 54) = some ⟨.type "code", none, .fields #[.str sLam v, .str sQLam (v + 1), .str sCut (v + 2), .int 47 0, .int 2 0, .int 0 0, .int 0 0, .int 19 0, .ref 49, .bool true, .int 181 0, .ref 50, .none, .ref 51, .ref 52, .ref 53, .int (v + 5 : Nat) 0, .int 47 0, .str sCut (v + 6)], #[]⟩
  o55 : h.get? (nat_lit 55) = some ⟨.type "function", none, .func { name := sLam, qualname := sQLam, params := lamP, body := .expr lamB, scope := lamS, globals := 3, closure := [], defaults := .none, kwdefaults := .none, doc := .none, pyModule := .str sLaw 207, annotations := none, code := .ref 54, closureTuple := .none, builtins := 0 }, #[]⟩
  cls : KCls u P h
end D26
end TD26K
section TS1
open PySem PySem.W PyProof.Rows PySem.W.X PySem.Calls
namespace D26
def lamPos : Pos := ⟨47, 22, 47, 50⟩
def lawScope : Scope := fnScope (nthS 6 PySem.Challenge.pw_dp0026_01.main.body)
abbrev lawEnv : Env := envOfC (Str.ofString "law") lawScope 47 45 (.ref 44)
abbrev tup (vs : Array Value) : Obj := { cls := .type "tuple", dict := none, data := .seq vs }
abbrev tab (vs : Array Value) : Obj := { cls := .none, data := .fields vs }
abbrev codeOb (name qual file : Str) (n t l ar po kw fl tx : Nat) : Obj :=
  { cls := .type "code", dict := none, data := .fields #[.str name t, .str qual (t + 1), .str file (t + 2), rawInt l, rawInt ar, rawInt po, rawInt kw, rawInt fl, .ref n, .bool true, rawInt tx, .ref (n + 1), .none, .ref (n + 2), .ref (n + 3), .ref (n + 4), rawInt ((t + 5 : Nat) : Int), rawInt l, .str file (t + 6)] }
section
variable {M : Model} {A : Around} {E : Value → Shared → Prop} {s : Shared}
def codeHeap (h : Heap) (t : Nat) (name qual file : Str) (l ar po kw fl tx : Nat) (a b : Str) (fd : FuncData) : Heap :=
  ((((((h.push (tup #[])).push (tab #[])).push (tup #[.str a (t + 3), .str b (t + 4)])).push (tup #[])).push { cls := .none, data := .func fd }).push (codeOb name qual file h.objs.size t l ar po kw fl tx))
theorem sz (h : Heap) (o : Obj) : (h.push o).objs.size = h.objs.size + 1 := Heap.size_push ..
theorem newCode_ex {ctx : CodeContext} {name qual : Str} {l ar po kw fl : Nat} {a b : Str} {fd : FuncData} {Q : Value → Shared → Prop}
    (h : Q (.ref (s.heap.objs.size + 5)) { s with heap := codeHeap s.heap s.toks name qual ctx.file l ar po kw fl ctx.text a b fd, toks := s.toks + 7 }) :
    wpAny M A (newCode ctx name qual l ar po kw fl [] true none (some ([a, b], [])) (some fd)) Q E s := by
  intro Γ p hΓ
  show Q (.ref (((((((s.heap.push (tup #[])).push (tab #[])).push (tup #[.str a (s.toks + 3), .str b (s.toks + 4)])).push (tup #[])).push { cls := .none, data := .func fd })).objs.size)) _
  simp only [sz]
  exact h

theorem lam_free : lamS.freeNames = [] := by
  unfold Scope.freeNames
  have : (lamS.names.filter (·.2 == .free)).map (·.1) = [] := by rfl
  rw [this]; simp
theorem lam_loc : localNames lamP lamS (.expr lamB) = some ([⟨#[97]⟩, ⟨#[98]⟩], []) := by kernel_rfl
abbrev lamFd : FuncData := { name := sLam, qualname := sQLam, params := lamP, body := .expr lamB, scope := lamS, globals := builtinsNs, closure := [], defaults := .none, kwdefaults := .none }
theorem fcode_ex {env : Env} {vs : Array Value} {o44 : Obj} {t18 : Tok} {Q : Value → Shared → Prop} (hc : env.code = .ref 44) (hk : env.scope.kind = .function)
    (h44 : s.heap.get? 44 = some o44) (d44 : o44.data = .fields vs) (v11 : vs.getD 11 .none = .ref 42) (v18 : vs.getD 18 .none = .str sCut t18) (v7 : vs.getD 7 .none = .int 3 0) (v9 : vs.getD 9 .none = .bool true) (v10 : vs.getD 10 .none = .int 181 0)
    (h42 : s.heap.get? 42 = some (tab #[]))
    (h : ∀ h', h'.objs.size = s.heap.objs.size + 6 → Heap.ExtBut 42 s.heap h' → h'.get? (s.heap.objs.size + 5) = some (codeOb sLam sQLam sCut s.heap.objs.size s.toks 47 2 0 0 19 181) → h'.get? 42 = some (tab #[.int 47 0, .int 22 0, .ref (s.heap.objs.size + 5)]) →
      Q (.ref (s.heap.objs.size + 5)) { s with heap := h', toks := s.toks + 7 }) :
    wpAny M A (functionCode env lamPos 47 sLam sQLam lamP lamS (.expr lamB)) Q E s := by
  unfold functionCode codeAt
  rw [hc, if_neg (show ¬ ((Value.ref 44 == Value.none) = true) from Bool.false_ne_true)]
  refine wpAny_bind (wpAny_fieldsOf h44 d44 ?_)
  rw [v11]
  refine wpAny_bind (wpAny_fieldsOf h42 rfl ?_)
  show wpAny M A _ Q E s
  rw [v18, v7, v9, v10, lam_free, lam_loc]
  refine wpAny_bind (newCode_ex ?_)
  have k1 : ∀ b o, s.heap.get? b = some o → (codeHeap s.heap s.toks sLam sQLam sCut 47 2 0 0 19 181 ⟨#[97]⟩ ⟨#[98]⟩ lamFd).get? b = some o := fun b o e => by
    unfold codeHeap
    exact Heap.get?_push_of_some _ (Heap.get?_push_of_some _ (Heap.get?_push_of_some _ (Heap.get?_push_of_some _ (Heap.get?_push_of_some _ (Heap.get?_push_of_some _ e)))))
  have hop := k1 42 _ h42
  have lt42 : 42 < s.heap.objs.size := Heap.lt_size h42
  have k2 : (codeHeap s.heap s.toks sLam sQLam sCut 47 2 0 0 19 181 ⟨#[97]⟩ ⟨#[98]⟩ lamFd).get? (s.heap.objs.size + 5) = some (codeOb sLam sQLam sCut s.heap.objs.size s.toks 47 2 0 0 19 181) := by
    have := Heap.get?_push_size ((((((s.heap.push (tup #[])).push (tab #[])).push (tup #[.str ⟨#[97]⟩ (s.toks + 3), .str ⟨#[98]⟩ (s.toks + 4)])).push (tup #[])).push { cls := .none, data := .func lamFd })) (o := codeOb sLam sQLam sCut s.heap.objs.size s.toks 47 2 0 0 19 181) rfl
    simp only [sz] at this
    exact this
  have k3 : (codeHeap s.heap s.toks sLam sQLam sCut 47 2 0 0 19 181 ⟨#[97]⟩ ⟨#[98]⟩ lamFd).objs.size = s.heap.objs.size + 6 := by
    unfold codeHeap; simp only [sz]
  show wpAny M A _ Q E { s with heap := codeHeap s.heap s.toks sLam sQLam sCut 47 2 0 0 19 181 ⟨#[97]⟩ ⟨#[98]⟩ lamFd, toks := s.toks + 7 }
  generalize codeHeap s.heap s.toks sLam sQLam sCut 47 2 0 0 19 181 ⟨#[97]⟩ ⟨#[98]⟩ lamFd = H at *
  refine wpAny_bind (wpAny_updateFieldsOfTheText hop rfl ?_)
  have hget := Heap.get?_update_self (h := H) (fun o => Obj.mapFields (fun vs => if (codeAmong lamPos vs.toList).isSome = true then vs else
    vs ++ #[rawInt lamPos.line, rawInt lamPos.col, .ref (s.heap.objs.size + 5)]) o) hop rfl
  refine wpAny_bind (wpAny_fieldsOf hget rfl ?_)
  refine wpAny_pure (h _ ?_ ?_ ?_ hget)
  · rw [(Heap.SameBut.update ..).1, k3]
  · exact fun b o hb e => (Heap.SameBut.update ..).extBut b o hb (k1 b o e)
  · exact (Heap.SameBut.update ..).extBut _ _ (show s.heap.objs.size + 5 ≠ 42 by omega) k2

theorem str_lam : (Str.ofString "<lambda>") = sLam := by decide +kernel
theorem str_qlam : (lawEnv.qual ++ Str.ofString "<lambda>") = sQLam := by decide +kernel
theorem lam_clos : closureFor lamS lawEnv = pure [] := rfl
theorem lam_exact {mg : Str → Option Value} {vs : Array Value} {o44 o4 : Obj} {t18 : Tok} {Q : Value → Shared → Prop} (hg : s.heap.Ns mainGlobals mg) (hn : mg "__name__" = some (.str sLaw 207)) (hb : mg "__builtins__" = some (.ref 4))
    (h4 : s.heap.get? 4 = some o4) (c4 : o4.cls = .type "module") (d4 : o4.dict = some builtinsNs) (p4 : o4.data = .plain)
    (h44 : s.heap.get? 44 = some o44) (d44 : o44.data = .fields vs) (v11 : vs.getD 11 .none = .ref 42) (v18 : vs.getD 18 .none = .str sCut t18) (v7 : vs.getD 7 .none = .int 3 0) (v9 : vs.getD 9 .none = .bool true) (v10 : vs.getD 10 .none = .int 181 0)
    (h42 : s.heap.get? 42 = some (tab #[]))
    (h : ∀ h', h'.objs.size = s.heap.objs.size + 7 → Heap.ExtBut 42 s.heap h' → h'.get? (s.heap.objs.size + 5) = some (codeOb sLam sQLam sCut s.heap.objs.size s.toks 47 2 0 0 19 181) → h'.get? 42 = some (tab #[.int 47 0, .int 22 0, .ref (s.heap.objs.size + 5)]) →
      h'.get? (s.heap.objs.size + 6) = some { cls := .type "function", data := .func { name := sLam, qualname := sQLam, params := lamP, body := .expr lamB, scope := lamS, globals := mainGlobals, closure := [], defaults := .none, kwdefaults := .none, doc := .none, pyModule := .str sLaw 207, annotations := none, code := .ref (s.heap.objs.size + 5), closureTuple := .none, builtins := builtinsNs } } →
      Q (.ref (s.heap.objs.size + 6)) { s with heap := h', toks := s.toks + 7 }) :
    wpAny M A (eval (.Lambda lamP lamB lamS lamPos) lawEnv) Q E s := by
  show wpAny M A (makeTail (Str.ofString "<lambda>") (lawEnv.qual ++ Str.ofString "<lambda>") lamP (.expr lamB) lamS lawEnv .none .none none lamPos lamPos.line) Q E s
  rw [str_qlam, str_lam]
  unfold makeTail
  rw [lam_clos]
  refine wpAny_bind (wpAny_pure (wpAny_bind (wpAny_pure ?_)))
  refine wpAny_bind (fcode_ex rfl rfl h44 d44 v11 v18 v7 v9 v10 h42 fun h' z1 z2 z3 z4 => ?_)
  have hg' : h'.Ns mainGlobals mg := hg.extBut z2 (by decide)
  refine wpAny_bind (wpAny_builtinsFor hg' hb (by decide) (z2 _ _ (by decide) h4) c4 d4 p4 ?_)
  refine wpAny_bind (wpAny_nsGet hg' ?_)
  rw [hn]
  refine wpAny_bind (wpAny_pure (wpAny_newObj_type ?_ (by size_fits)))
  have := h (h'.push { cls := .type "function", data := .func { name := sLam, qualname := sQLam, params := lamP, body := .expr lamB, scope := lamS, globals := mainGlobals, closure := [], defaults := .none, kwdefaults := .none, doc := .none, pyModule := .str sLaw 207, annotations := none, code := .ref (s.heap.objs.size + 5), closureTuple := .none, builtins := builtinsNs } })
    (by rw [sz, z1]) (fun b o hb e => Heap.get?_push_of_some _ (z2 b o hb e)) (Heap.get?_push_of_some _ z3) (Heap.get?_push_of_some _ z4) (by rw [← z1]; exact Heap.get?_push_size _ rfl)
  rw [← z1] at this
  exact this
end
end D26
end TS1
section TS2
open PySem PySem.W PyProof.Rows PySem.W.X PySem.Calls
namespace D26
abbrev lawFd : FuncData := { name := Str.ofString "law", qualname := Str.ofString "law", params := fnParams (nthS 6 PySem.Challenge.pw_dp0026_01.main.body), body := .stmts lawStmts, scope := lawScope, globals := mainGlobals, closure := [], defaults := .none, kwdefaults := .none, doc := .none, pyModule := .str sLaw 207, annotations := none, code := .ref 44, closureTuple := .none, builtins := builtinsNs }
theorem fn45 (P : Params) : (hdz.heap_84 P).lookup 45 = some { cls := .type "function", data := .func lawFd } := by kernel_rfl
theorem law_binds : bindArgs lawFd ⟨[.ref 46], []⟩ = pure [(Str.ofString "script", .ref 46)] := rfl
section
variable {prog : Program} {w : World} {A : Around} {E : Value → Shared → Prop} {s : Shared}
theorem law_enter {R : Result → Shared → Prop} {P : Params} (hroom : A.depth < recursionLimit) (hs : s.heap.objs.size = 47) (KX : (hdz.heap_84 P).In s.heap) (hlim : s.heap.NoLimit)
    (h : ∀ h₁, h₁.objs.size = 49 → (∀ b o, s.heap.get? b = some o → h₁.get? b = some o) → h₁.Ns 47 (fun x => if x = Str.ofString "script" then some (.ref 46) else none) → h₁.get? 48 = some { cls := .type "cell", data := .cell none } →
      wpAny (model prog w) (A.deeper lawEnv) (execs lawStmts lawEnv) (fun f s' => R (.ok (.ret (match f with | .ret v => v | _ => .none))) s')
        (fun e s' => wpAny (model prog w) (A.deeper lawEnv) (leaving lawEnv e) (fun _ s'' => R (.error e) s'') (fun e' s'' => R (.error e') s'') s')
        { s with heap := h₁, toks := s.toks + 1 }) :
    codeAny (model prog w) A (.call (.ref 45) ⟨[.ref 46], []⟩) R s := by
  have h45 := KX _ _ (fn45 P)
  have hcd : s.heap.CodeRec (.ref 44) (Str.ofString "law") := by
    refine ⟨44, _, _, _, rfl, KX 44 { cls := .type "code", data := .fields #[.str (Str.ofString "law") 224, .str (Str.ofString "law") 225, .str sCut 226, .int 46 0, .int 1 0, .int 0 0, .int 0 0, .int 3 0, .ref 41, .bool true, .int 181 0, .ref 42, .none, .none, .none, .ref 43, .int 227 0, .int 46 0, .str sCut 228] } (by kernel_rfl), rfl, rfl⟩
  refine codeAny_call_function hroom h45 rfl rfl rfl rfl hcd ?_
  rw [law_binds]
  refine wpAny_pure ?_
  show wpAny (model prog w) A.in1 (newFunctionEnv lawScope mainGlobals [] [(Str.ofString "script", .ref 46)] (Str.ofString "law" ++ ".<locals>.") (some 45) (.ref 44) none builtinsNs) _ _ s
  simp only [newFunctionEnv, Option.isSome_none, Bool.false_eq_true, if_false]
  refine wpAny_bind (wpAny_alloc ?_)
  refine wpAny_bind (wpAny_layCells _ (fun name kind cells => by cases hkc : kind == NameKind.cell <;> simp [hkc]) _ _ _ _ ?_)
  rw [show ({ s with heap := s.heap.push { cls := .type "frame", data := .dict #[] } } : Shared).heap.objs.size = 48 from by show (s.heap.push _).objs.size = 48; rw [sz, hs], hs]
  show wpAny (model prog w) A.in1 (do forIn [(Str.ofString "script", Value.ref 46)] PUnit.unit _; pure lawEnv) _ _ { s with heap := (s.heap.push { cls := .type "frame", data := .dict #[] }).push { cls := .type "cell", data := .cell none } }
  simp only [List.forIn_cons, List.forIn_nil, bind_assoc, pure_bind]
  have n47 : ((s.heap.push { cls := .type "frame", data := .dict #[] }).push { cls := .type "cell", data := .cell none }).Ns 47 (fun _ => none) := by
    have := (Heap.Ns.new s.heap (.type "frame")).push { cls := .type "cell", data := .cell none }
    rwa [hs] at this
  have g48 : ((s.heap.push { cls := .type "frame", data := .dict #[] }).push { cls := .type "cell", data := .cell none }).get? 48 = some { cls := .type "cell", data := .cell none } := by
    have := Heap.get?_push_size (s.heap.push { cls := .type "frame", data := .dict #[] }) (o := { cls := .type "cell", data := .cell none }) rfl
    rwa [sz, hs] at this
  refine wpAny_bind (wpAny_storeName_local (m := fun _ => none) rfl n47 (fun h' hn hsb => ?_) rfl)
  have kp : ∀ b o, s.heap.get? b = some o → h'.get? b = some o := fun b o e => by
    have lt := Heap.lt_size e
    rw [hs] at lt
    rw [hsb.2 b (Nat.ne_of_lt lt)]
    exact Heap.get?_push_of_some _ (Heap.get?_push_of_some _ e)
  refine wpAny_pure ⟨hlim.keeps kp, ?_⟩
  exact codeAny_func (h h' (by rw [hsb.1, sz, sz, hs]) kp hn ((hsb.2 48 (by decide)).trans g48))
end
end D26
end TS2
section TD26C
open PySem PySem.W PyProof.Rows PySem.W.X PySem.Calls
namespace D26
def padPos : Pos := ⟨60, 0, 60, 1⟩
def padStmt : Stmt := .Assign [.Attribute (.Name "law" padPos) "pad" padPos] (.List (List.replicate 100 (.List [] padPos)) padPos) padPos
def pwV : Program := { PySem.Challenge.pw_dp0026_01 with main := { PySem.Challenge.pw_dp0026_01.main with body := PySem.Challenge.pw_dp0026_01.main.body ++ [padStmt] } }
def rwV : OpenRow := { PySem.Challenge.rw_dp0026_01.row with prog := pwV, name := Str.ofString "cmp_to_key" }
section
local macro_rules | `(tactic| k_head) => `(tactic| z_head)
local macro_rules | `(tactic| o_law) => `(tactic| skip)
open_top hdv for rwV
end

theorem AllIn.filter {h : Heap} {f : Addr × Obj → Bool} : ∀ {K : Frag}, AllIn h K → AllIn h (K.filter f)
  | [], _ => trivial
  | p :: K, ⟨a, b⟩ => by
    rw [List.filter_cons]
    split
    · exact ⟨a, AllIn.filter b⟩
    · exact AllIn.filter b
theorem kV (P : Params) : hdv.heap_23 P = ((hdz.heap_84 P).filter fun p => !Nat.beq p.1 42).filter fun p => [0, 1, 2, 3, 4, 5, 6, 7, 8, 9, 10, 11, 12, 13, 14, 15, 22, 23, 24, 25, 26, 27, 28].any (Nat.beq p.1) := by kernel_rfl
theorem kV2 (P : Params) : KT.of (hdv.heap_23 P) = hdv.ktop_45 P := by kernel_rfl
theorem r1_fin {V : XV} {T : BT} {ch : Ch} {h : Heap} {m : Nat} {u : Nat} {P : Params} {s₀ : Heap} {g : Array GenState} {d : Drawn} {os : OsState} {Q : Value → Shared → Prop} {a : Value} {fin : Shared}
    (hQ : ∀ h' tk, h'.objs.size = 120 → (∀ b o, b ≠ 23 → s₀.get? b = some o → h'.get? b = some o) → h'.get? 23 = some (tab #[.int 9 0, .int 4 0, .ref 63]) → KCls u P h' → Q (.ref 116) ⟨h', g, d, tk, os⟩)
    (D : Rep V h T m ch) (hn : V.n₁ = 56) (hh : V.h₀ = s₀) (hm : V.n₁ + m = 120) (hch : ch = [(23, #[.int 9 0, .int 4 0, .ref 63])])
    (e57 : T.get 1 = some ⟨.type "cell", none, .cell (some (.ref 55)), #[]⟩)
    (e71 : T.get 15 = some ⟨.type "code", none, .fields #[.str sInit (u + 17), .str sQInit (u + 18), .str sCut (u + 19), .int 13 0, .int 2 0, .int 0 0, .int 0 0, .int 19 0, .ref 66, .bool true, .int 181 0, .ref 67, .none, .ref 68, .ref 69, .ref 70, .int (u + 22 : Nat) 0, .int 13 0, .str sCut (u + 23)], #[]⟩)
    (e87 : T.get 31 = some ⟨.type "code", none, .fields #[.str sGt (u + 34), .str sQGt (u + 35), .str sCut (u + 36), .int 19 0, .int 2 0, .int 0 0, .int 0 0, .int 19 0, .ref 82, .bool true, .int 181 0, .ref 83, .none, .ref 84, .ref 85, .ref 86, .int (u + 40 : Nat) 0, .int 19 0, .str sCut (u + 41)], #[]⟩)
    (e95 : T.get 39 = some ⟨.type "code", none, .fields #[.str sEq (u + 43), .str sQEq (u + 44), .str sCut (u + 45), .int 22 0, .int 2 0, .int 0 0, .int 0 0, .int 19 0, .ref 90, .bool true, .int 181 0, .ref 91, .none, .ref 92, .ref 93, .ref 94, .int (u + 49 : Nat) 0, .int 22 0, .str sCut (u + 50)], #[]⟩)
    (e72 : T.get 16 = some ⟨.type "function", none, .func { name := sInit, qualname := sQInit, params := fnParams (nthS 2 kStmts), body := .stmts (fnBody (nthS 2 kStmts)), scope := fnScope (nthS 2 kStmts), globals := 3, closure := [], defaults := .none, kwdefaults := .none, doc := .none, pyModule := .str sLaw 207, annotations := none, code := .ref 71, closureTuple := .none, builtins := 0 }, #[]⟩)
    (e88 : T.get 32 = some ⟨.type "function", none, .func { name := sGt, qualname := sQGt, params := fnParams (nthS 4 kStmts), body := .stmts (fnBody (nthS 4 kStmts)), scope := fnScope (nthS 4 kStmts), globals := 3, closure := [(sMy, 57)], defaults := .none, kwdefaults := .none, doc := .none, pyModule := .str sLaw 207, annotations := none, code := .ref 87, closureTuple := .ref 81, builtins := 0 }, #[]⟩)
    (e96 : T.get 40 = some ⟨.type "function", none, .func { name := sEq, qualname := sQEq, params := fnParams (nthS 5 kStmts), body := .stmts (fnBody (nthS 5 kStmts)), scope := fnScope (nthS 5 kStmts), globals := 3, closure := [(sMy, 57)], defaults := .none, kwdefaults := .none, doc := .none, pyModule := .str sLaw 207, annotations := none, code := .ref 95, closureTuple := .ref 89, builtins := 0 }, #[]⟩)
    (e115 : T.get 59 = some ⟨.type "dict", none, .dict #[⟨hF P sMod, .str sMod (u + 8), .str sFun (u + 13)⟩, ⟨hF P sFirst, .str sFirst (u + 12), .int 9 (u + 11)⟩, ⟨hF P sSlots, .str sSlots (u + 16), .ref 65⟩, ⟨hF P sInit, .str sInit (u + 24), .ref 72⟩, ⟨hF P sLt, .str sLt (u + 33), .ref 80⟩, ⟨hF P sGt, .str sGt (u + 42), .ref 88⟩, ⟨hF P sEq, .str sEq (u + 51), .ref 96⟩, ⟨hF P sLe, .str sLe (u + 60), .ref 104⟩, ⟨hF P sGe, .str sGe (u + 69), .ref 112⟩, ⟨hF P sHash, .str sHash (u + 70), .none⟩, ⟨hF P sStat, .str sStat (u + 72), .ref 113⟩, ⟨hF P sObj, .str sObj (u + 74), .ref 117⟩, ⟨hF P sDoc, .str sDoc (u + 75), .none⟩] 3, #[]⟩)
    (e116 : T.get 60 = some ⟨.type "type", none, .cls { name := sK, bases := [.type "object"], mro := [.ref 116, .type "object"], ns := 115, qualname := sQK, hasDict := false, slotNames := [sObj], subclasses := [], abstract := false, collection := none, hasDel := false }, #[some (.ref 58), none, some (.str sK u), some (.str sQK (u + 9)), some (.builtin "object.__new__"), some (.bool false)]⟩)
    (e117 : T.get 61 = some ⟨.type "member_descriptor", none, .fields #[.str sObj (u + 73), .ref 116, .builtin "proto.slot", .builtin "proto.slot#set", .int 0 0], #[]⟩)
    (ea : a = .ref 116) (ef : fin = ⟨h, g, d, fin.toks, os⟩) (_ : (0 : Nat) < 1) : Q a fin := by
  subst ea hch
  rw [ef]
  have own : ∀ i o, T.get i = some o → h.get? (56 + i) = some o := fun i o e => by have := (D.own i o e).2; rwa [hn] at this
  have kp : ∀ b o, b ≠ 23 → s₀.get? b = some o → h.get? b = some o := fun b o hb e => D.keep b o (by rw [hh]; exact e) (by
    show (match Nat.beq 23 b with | true => some _ | false => none) = none
    have : Nat.beq 23 b = false := by
      cases q : Nat.beq 23 b with
      | false => rfl
      | true => exact absurd (Nat.eq_of_beq_eq_true q).symm hb
    rw [this])
  refine hQ h fin.toks (by rw [D.size, hm]) kp (D.ch 23 _ rfl).1 ⟨own _ _ e57, own _ _ e71, own _ _ e87, own _ _ e95, own _ _ e72, own _ _ e88, own _ _ e96, own _ _ e115, own _ _ e116, own _ _ e117⟩
section
local macro_rules | `(tactic| exfalso) => do
  let hQ := Lean.mkIdent `hQ
  `(tactic| (refine r1_fin $hQ (by with_reducible assumption) ?_ ?_ ?_ ?_ ?_ ?_ ?_ ?_ ?_ ?_ ?_ ?_ ?_ ?_ ?_ ?_ ?_; (iterate 16 kernel_rfl)))
theorem r1 (w : World) (s : Shared) (env : Env) (hs : s.heap.objs.size = 56) (hg : s.gens = #[]) (ZH : KT.Holds s.heap 1 0 (hdv.ktop_45 w.params))
    (Q : Value → Shared → Prop) (E : Value → Shared → Prop)
    (hQ : ∀ h' tk, h'.objs.size = 120 → (∀ b o, b ≠ 23 → s.heap.get? b = some o → h'.get? b = some o) → h'.get? 23 = some (tab #[.int 9 0, .int 4 0, .ref 63]) → KCls s.toks w.params h' → Q (.ref 116) ⟨h', #[], s.drawn, tk, s.os⟩) :
    wpAny (model PySem.Challenge.pw_dp0026_01 w) (callerA.deeper env) (PySem.call (.ref 28) [.ref 55]) Q E s := by
  z_run
end
end D26
end TD26C
section TS3
open PySem PySem.W PyProof.Rows PySem.W.X PySem.Calls
namespace D26
def lawRest : List Stmt := match lawStmts with | _ :: r => r | [] => []
abbrev lawM : Str → Option Value := fun x => if x = Str.ofString "script" then some (.ref 46) else none
theorem kAt44 (P : Params) : (hdz.heap_84 P).lookup 44 = some { cls := .type "code", data := .fields #[.str (Str.ofString "law") 224, .str (Str.ofString "law") 225, .str sCut 226, .int 46 0, .int 1 0, .int 0 0, .int 0 0, .int 3 0, .ref 41, .bool true, .int 181 0, .ref 42, .none, .none, .none, .ref 43, .int 227 0, .int 46 0, .str sCut 228] } := by kernel_rfl
theorem kAt4 (P : Params) : (hdz.heap_84 P).lookup 4 = some { cls := .type "module", dict := some 0 } := by kernel_rfl
theorem kAt42 (P : Params) : (hdz.heap_84 P).lookup 42 = some (tab #[]) := by kernel_rfl
theorem kAt23 (P : Params) : (hdz.heap_84 P).lookup 23 = some (tab #[]) := by kernel_rfl
def isFnO : Option Obj → Bool
  | some ⟨_, _, .func _, _⟩ => true
  | _ => false
theorem fnAt_of {K : Frag} {h : Heap} {a : Addr} (X : K.In h) (e : isFnO (K.lookup a) = true) : FnAt a h := by
  cases q : K.lookup a with
  | none => rw [q] at e; cases e
  | some o =>
    rw [q] at e
    obtain ⟨oc, od, d, sl⟩ := o
    cases d with
    | func fd => exact ⟨oc, od, fd, sl, X _ _ q⟩
    | _ => cases e
theorem kAt28 (P : Params) : isFnO ((hdz.heap_84 P).lookup 28) = true := by kernel_rfl
noncomputable def kls (v u : Nat) (P : Params) : List (Addr × Obj) := [
  (nat_lit 54, ⟨.type "code", none, .fields #[.str sLam v, .str sQLam (v + 1), .str sCut (v + 2), .int 47 0, .int 2 0, .int 0 0, .int 0 0, .int 19 0, .ref 49, .bool true, .int 181 0, .ref 50, .none, .ref 51, .ref 52, .ref 53, .int (v + 5 : Nat) 0, .int 47 0, .str sCut (v + 6)], #[]⟩),
  (nat_lit 55, ⟨.type "function", none, .func { name := sLam, qualname := sQLam, params := lamP, body := .expr lamB, scope := lamS, globals := 3, closure := [], defaults := .none, kwdefaults := .none, doc := .none, pyModule := .str sLaw 207, annotations := none, code := .ref 54, closureTuple := .none, builtins := 0 }, #[]⟩),
  (nat_lit 57, ⟨.type "cell", none, .cell (some (.ref 55)), #[]⟩),
  (nat_lit 71, ⟨.type "code", none, .fields #[.str sInit (u + 17), .str sQInit (u + 18), .str sCut (u + 19), .int 13 0, .int 2 0, .int 0 0, .int 0 0, .int 19 0, .ref 66, .bool true, .int 181 0, .ref 67, .none, .ref 68, .ref 69, .ref 70, .int (u + 22 : Nat) 0, .int 13 0, .str sCut (u + 23)], #[]⟩),
  (nat_lit 87, ⟨.type "code", none, .fields #[.str sGt (u + 34), .str sQGt (u + 35), .str sCut (u + 36), .int 19 0, .int 2 0, .int 0 0, .int 0 0, .int 19 0, .ref 82, .bool true, .int 181 0, .ref 83, .none, .ref 84, .ref 85, .ref 86, .int (u + 40 : Nat) 0, .int 19 0, .str sCut (u + 41)], #[]⟩),
  (nat_lit 95, ⟨.type "code", none, .fields #[.str sEq (u + 43), .str sQEq (u + 44), .str sCut (u + 45), .int 22 0, .int 2 0, .int 0 0, .int 0 0, .int 19 0, .ref 90, .bool true, .int 181 0, .ref 91, .none, .ref 92, .ref 93, .ref 94, .int (u + 49 : Nat) 0, .int 22 0, .str sCut (u + 50)], #[]⟩),
  (nat_lit 72, ⟨.type "function", none, .func { name := sInit, qualname := sQInit, params := fnParams (nthS 2 kStmts), body := .stmts (fnBody (nthS 2 kStmts)), scope := fnScope (nthS 2 kStmts), globals := 3, closure := [], defaults := .none, kwdefaults := .none, doc := .none, pyModule := .str sLaw 207, annotations := none, code := .ref 71, closureTuple := .none, builtins := 0 }, #[]⟩),
  (nat_lit 88, ⟨.type "function", none, .func { name := sGt, qualname := sQGt, params := fnParams (nthS 4 kStmts), body := .stmts (fnBody (nthS 4 kStmts)), scope := fnScope (nthS 4 kStmts), globals := 3, closure := [(sMy, 57)], defaults := .none, kwdefaults := .none, doc := .none, pyModule := .str sLaw 207, annotations := none, code := .ref 87, closureTuple := .ref 81, builtins := 0 }, #[]⟩),
  (nat_lit 96, ⟨.type "function", none, .func { name := sEq, qualname := sQEq, params := fnParams (nthS 5 kStmts), body := .stmts (fnBody (nthS 5 kStmts)), scope := fnScope (nthS 5 kStmts), globals := 3, closure := [(sMy, 57)], defaults := .none, kwdefaults := .none, doc := .none, pyModule := .str sLaw 207, annotations := none, code := .ref 95, closureTuple := .ref 89, builtins := 0 }, #[]⟩),
  (nat_lit 115, ⟨.type "dict", none, .dict #[⟨hF P sMod, .str sMod (u + 8), .str sFun (u + 13)⟩, ⟨hF P sFirst, .str sFirst (u + 12), .int 9 (u + 11)⟩, ⟨hF P sSlots, .str sSlots (u + 16), .ref 65⟩, ⟨hF P sInit, .str sInit (u + 24), .ref 72⟩, ⟨hF P sLt, .str sLt (u + 33), .ref 80⟩, ⟨hF P sGt, .str sGt (u + 42), .ref 88⟩, ⟨hF P sEq, .str sEq (u + 51), .ref 96⟩, ⟨hF P sLe, .str sLe (u + 60), .ref 104⟩, ⟨hF P sGe, .str sGe (u + 69), .ref 112⟩, ⟨hF P sHash, .str sHash (u + 70), .none⟩, ⟨hF P sStat, .str sStat (u + 72), .ref 113⟩, ⟨hF P sObj, .str sObj (u + 74), .ref 117⟩, ⟨hF P sDoc, .str sDoc (u + 75), .none⟩] 3, #[]⟩),
  (nat_lit 116, ⟨.type "type", none, .cls { name := sK, bases := [.type "object"], mro := [.ref 116, .type "object"], ns := 115, qualname := sQK, hasDict := false, slotNames := [sObj], subclasses := [], abstract := false, collection := none, hasDel := false }, #[some (.ref 58), none, some (.str sK u), some (.str sQK (u + 9)), some (.builtin "object.__new__"), some (.bool false)]⟩),
  (nat_lit 117, ⟨.type "member_descriptor", none, .fields #[.str sObj (u + 73), .ref 116, .builtin "proto.slot", .builtin "proto.slot#set", .int 0 0], #[]⟩)]
theorem KOk.mem {v u : Nat} {P : Params} {h : Heap} (K : KOk v u P h) : ∀ p ∈ kls v u P, h.get? p.1 = some p.2 := by
  obtain ⟨o54, o55, o57, o71, o87, o95, o72, o88, o96, o115, o116, o117⟩ := K
  unfold kls
  simp only [List.mem_cons, List.not_mem_nil, or_false]
  rintro p (rfl | rfl | rfl | rfl | rfl | rfl | rfl | rfl | rfl | rfl | rfl | rfl) <;> assumption
theorem KOk.of {v u : Nat} {P : Params} {h : Heap} (K : ∀ p ∈ kls v u P, h.get? p.1 = some p.2) : KOk v u P h := by
  unfold kls at K
  simp only [List.forall_mem_cons] at K
  obtain ⟨a, b, c, d, e, f, g, h, i, j, k, l, _⟩ := K
  exact ⟨a, b, c, d, e, f, g, h, i, j, k, l⟩
theorem kls_ge {v u : Nat} {P : Params} : ∀ p ∈ kls v u P, 54 ≤ p.1 := by
  unfold kls
  simp only [List.mem_cons, List.not_mem_nil, or_false]
  rintro p (rfl | rfl | rfl | rfl | rfl | rfl | rfl | rfl | rfl | rfl | rfl | rfl) <;> exact Nat.le_of_ble_eq_true rfl
theorem AllIn.keep42 {h h' : Heap} (k : ∀ b o, b ≠ 42 → h.get? b = some o → h'.get? b = some o) : ∀ {K : Frag}, AllIn h K → AllIn h' (K.filter fun p => !Nat.beq p.1 42)
  | [], _ => trivial
  | p :: K, ⟨a, b⟩ => by
    rw [List.filter_cons]
    split
    · rename_i q
      refine ⟨k _ _ (fun e => ?_) a, AllIn.keep42 k b⟩
      rw [e] at q
      exact absurd q (by decide)
    · exact AllIn.keep42 k b
theorem FnAt.extBut {h h' : Heap} {a b : Addr} (x : FnAt a h) (hs : Heap.ExtBut b h h') (hab : a ≠ b) : FnAt a h' := let ⟨_, _, _, _, e⟩ := x; ⟨_, _, _, _, hs a _ hab e⟩
theorem holdsK {h : Heap} {K : Frag} {T : KT} (hT : KT.of K = T) (e : AllIn h K) : KT.Holds h 1 0 T := hT ▸ holds_of e
abbrev tabs2 : List (Addr × Addr) := [(27, 23), (44, 42)]
section
variable {w : World} {s : Shared}
theorem law_start {R : Result → Shared → Prop} {mg : Str → Option Value} (hs : s.heap.objs.size = 47) (hge : s.gens = #[]) (AK : AllIn s.heap (hdz.heap_84 w.params)) (KX : (hdz.heap_84 w.params).In s.heap) (hlim : s.heap.NoLimit)
    (hg : s.heap.Ns mainGlobals mg) (hn : mg "__name__" = some (.str sLaw 207)) (hb : mg "__builtins__" = some (.ref 4)) (hc : mg "cmp_to_key" = some (.ref 28))
    (h : ∀ h' oc v u tk, oc.data = .cell (some (.ref 116)) → Fr (ghostOf s.heap tabs2) 47 h' lawM → News (ghostOf s.heap tabs2) 47 h' ((48, oc) :: (23, tab #[.int 9 0, .int 4 0, .ref 63]) :: (42, tab #[.int 47 0, .int 22 0, .ref 54]) :: kls v u w.params) →
      wpAny (model PySem.Challenge.pw_dp0026_01 w) (callerA.deeper lawEnv) (execs lawRest lawEnv) (fun f s' => R (.ok (.ret (match f with | .ret v => v | _ => .none))) s') (fun _ _ => False) ⟨h', #[], s.drawn, tk, s.os⟩) :
    codeAny (model PySem.Challenge.pw_dp0026_01 w) callerA (.call (.ref 45) ⟨[.ref 46], []⟩) R s := by
  refine law_enter (by decide) hs KX hlim fun h₁ z1 z2 z3 z4 => ?_
  refine wpAny_mono (E := fun _ _ => False) ?_ (fun _ _ x => x) (fun _ _ x => x.elim)
  show wpAny _ _ (execs (.Assign [.Name (Str.ofString "make") _] (.Call (.Name (Str.ofString "cmp_to_key") _) [.Lambda lamP lamB lamS lamPos] [] _) _ :: lawRest) lawEnv) _ _ _
  refine wpAny_execs_cons (wpAny_Assign_Name (wpAny_Call_Name_kw (Name_function_global rfl rfl (loadGlobal_global (hg.keeps z2) hc ?_))))
  refine callWith_F (fnAt_of (KX.keeps z2) (kAt28 w.params)) (spliced_more ?_)
  refine lam_exact (hg.keeps z2) hn hb (z2 _ _ (KX _ _ (kAt4 w.params))) rfl rfl rfl (z2 _ _ (KX _ _ (kAt44 w.params))) rfl rfl rfl rfl rfl rfl (z2 _ _ (KX _ _ (kAt42 w.params))) fun h₂ y1 y2 y3 y4 y5 => ?_
  have e56 : h₂.objs.size = 56 := y1.trans (by show h₁.objs.size + 7 = 56; rw [z1])
  have y3' : h₂.get? (nat_lit 54) = some (codeOb sLam sQLam sCut 49 (s.toks + 1) 47 2 0 0 19 181) := by
    have := y3; dsimp only at this; rw [z1] at this; exact this
  have y4' : h₂.get? 42 = some (tab #[.int 47 0, .int 22 0, .ref 54]) := by
    have := y4; dsimp only at this; rw [z1] at this; exact this
  have y5' := y5
  dsimp only at y5'
  rw [z1] at y5'
  have kp2 : ∀ b o, b ≠ 42 → s.heap.get? b = some o → h₂.get? b = some o := fun b o hb e => y2 b o hb (z2 b o e)
  refine spliced_none ⟨FnAt.extBut (fnAt_of (KX.keeps z2) (kAt28 w.params)) y2 (by decide), ?_⟩
  show wpAny _ _ (call (.ref 28) [.ref (h₁.objs.size + 6)]) _ _ _
  rw [z1]
  have ZH : KT.Holds h₂ 1 0 (hdv.ktop_45 w.params) := by
    have e1 : AllIn h₂ (hdv.heap_23 w.params) := Eq.mp (congrArg (AllIn h₂) (kV w.params).symm) (AllIn.filter (AllIn.keep42 kp2 AK))
    exact holdsK (kV2 w.params) e1
  refine r1 w ⟨h₂, s.gens, s.drawn, s.toks + 1 + 7, s.os⟩ lawEnv e56 hge ZH _ _ fun h₃ tk x1 x2 x3 x4 => ?_
  have c48 : h₃.get? 48 = some { cls := .type "cell", data := .cell none } := x2 48 _ (by decide) (y2 48 _ (by decide) z4)
  refine wpAny_storeName_cell (c := 48) rfl rfl rfl ⟨_, c48, rfl⟩ fun h₄ hcell hsb => ?_
  obtain ⟨oc, k4, kd⟩ := hcell
  have kp : ∀ b o, b ≠ 23 → b ≠ 42 → s.heap.get? b = some o → h₄.get? b = some o := fun b o h1 h2 e => by
    have lt := Heap.lt_size e
    rw [hs] at lt
    rw [hsb.2 b (Nat.ne_of_lt (Nat.lt_succ_of_lt lt))]
    exact x2 b o h1 (kp2 b o h2 e)
  have K4 : KOk (s.toks + 1) (s.toks + 1 + 7) w.params h₃ := ⟨x2 _ _ (by decide) y3', x2 _ _ (by decide) y5', x4⟩
  refine h h₄ oc (s.toks + 1) (s.toks + 1 + 7) tk kd ⟨?_, ?_, ?_⟩ ?_
  · have n3 : h₃.Ns 47 lawM := by
      obtain ⟨o, es, ep, g1, g2⟩ := z3
      exact ⟨o, es, ep, x2 47 _ (by decide) (y2 47 _ (by decide) g1), g2⟩
    exact n3.sameBut hsb (by decide)
  · intro b o e
    refine kp b o (fun q => ?_) (fun q => ?_) (of_hideAll _ e)
    · subst q; rw [hideAll_none _ (by decide)] at e; cases e
    · subst q; rw [hideAll_none _ (by decide)] at e; cases e
  · rw [hideAll_size, hs]; exact Nat.le_refl _
  · intro p hp
    rcases List.mem_cons.mp hp with rfl | hp
    · exact ⟨k4, show (48 : Nat) ≠ 47 by decide, Heap.get?_none_of_le (by rw [hideAll_size, hs]; show (47 : Nat) ≤ 48; decide)⟩
    rcases List.mem_cons.mp hp with rfl | hp
    · exact ⟨(hsb.2 23 (by decide)).trans x3, by decide, hideAll_none _ (by decide)⟩
    rcases List.mem_cons.mp hp with rfl | hp
    · exact ⟨(hsb.2 42 (by decide)).trans (x2 42 _ (by decide) y4'), by decide, hideAll_none _ (by decide)⟩
    · have ge := kls_ge p hp
      exact ⟨(hsb.2 p.1 (fun q => by rw [q] at ge; exact absurd ge (by decide))).trans (K4.mem p hp), fun q => by rw [q] at ge; exact absurd ge (by decide), Heap.get?_none_of_le (by rw [hideAll_size, hs]; exact Nat.le_trans (by decide) ge)⟩
end
end D26
end TS3
section TS4
open PySem PySem.W PyProof.Rows PySem.W.X PySem.Calls
namespace D26
/-- an object of the class: its one slot -/
abbrev inst (da : Addr) (x : Int) (t : Tok) : Obj := ⟨.ref 116, some da, .plain, #[some (.int x t)]⟩
abbrev dict0 : Obj := ⟨.type "dict", none, .dict #[] 0, #[]⟩
theorem r2_fin {h₀ h : Heap} {Q : Value → Shared → Prop} {g : Array GenState} {d : Drawn} {os : OsState} {x : Int} {t : Tok} {a : Addr} {f o1 o2 : Obj} {da fr : Addr} {s : Shared}
    (hQ : ∀ h' a da tk', (∀ b o, h₀.get? b = some o → h'.get? b = some o) → h₀.get? a = none → h'.get? a = some (inst da x t) → h'.get? da = some dict0 → Q (.ref a) ⟨h', g, d, tk', os⟩)
    (D : Mem h₀ h [] [(fr, f), (a, o1), (da, o2)]) (e : o1 = inst da x t) (e2 : o2 = dict0) (es : s = ⟨h, g, d, s.toks, os⟩) : Q (.ref a) s := by
  rw [es]
  refine hQ h a da _ (fun b o e => D.keep b o e (by simp [away])) (D.nw (a, o1) (.tail _ (.head _))).2 ?_ ?_
  · rw [← e]
    exact (D.nw (a, o1) (.tail _ (.head _))).1
  · rw [← e2]
    exact (D.nw (da, o2) (.tail _ (.tail _ (.head _)))).1
section
local macro_rules | `(tactic| x_close) => do
  let hQ := Lean.mkIdent `hQ
  `(tactic| exact r2_fin $hQ (by with_reducible assumption) (by kernel_rfl) (by kernel_rfl) (by kernel_rfl))
theorem r2 (w : World) (s : Shared) (env : Env) (v u : Nat) (x : Int) (t : Tok) (KX : (KB w.params).In s.heap) (K : KOk v u w.params s.heap) (Q : Value → Shared → Prop) (E : Value → Shared → Prop)
    (hQ : ∀ h' a da tk', (∀ b o, s.heap.get? b = some o → h'.get? b = some o) → s.heap.get? a = none → h'.get? a = some (inst da x t) → h'.get? da = some dict0 → Q (.ref a) ⟨h', s.gens, s.drawn, tk', s.os⟩) :
    wpAny (model PySem.Challenge.pw_dp0026_01 w) (callerA.deeper env) (PySem.call (.ref 116) [.int x t]) Q E s := by
  obtain ⟨o54, o55, o57, o71, o87, o95, o72, o88, o96, o115, o116, o117⟩ := K
  x_run
end
end D26
end TS4
section TS5
open PySem PySem.W PyProof.Rows PySem.W.X PySem.Calls
namespace D26
/-- what stands stays -/
abbrev Stays (h h' : Heap) : Prop := ∀ b o, h.get? b = some o → h'.get? b = some o
theorem stays_frame {h h' : Heap} {o : Obj} (hsb : Heap.SameBut h.objs.size (h.push o) h') : Stays h h' := fun b o' e => by
  rw [hsb.2 b (Nat.ne_of_lt (Heap.lt_size e))]
  exact Heap.get?_push_of_some _ e
section
variable {w : World} {A : Around} {E : Value → Shared → Prop} {s : Shared}
theorem lam_binds (x y : Int) (tx ty : Tok) (fd : FuncData) (h : fd = { name := sLam, qualname := sQLam, params := lamP, body := .expr lamB, scope := lamS, globals := 3, closure := [], defaults := .none, kwdefaults := .none, doc := .none, pyModule := .str sLaw 207, annotations := none, code := .ref 54, closureTuple := .none, builtins := 0 }) :
    bindArgs fd ⟨[.int x tx, .int y ty], []⟩ = pure [(Str.ofString "a", .int x tx), (Str.ofString "b", .int y ty)] := by
  subst h; rfl
theorem lamCall {v u : Nat} {P : Params} {x y : Int} {tx ty : Tok} {Q : Value → Shared → Prop} (hroom : A.depth < recursionLimit) (hlim : s.heap.NoLimit) (K : KOk v u P s.heap)
    (hQ : ∀ h' t tk, Stays s.heap h' → Q (.int (x.fdiv 2 - y.fdiv 2) t) { s with heap := h', toks := tk }) :
    wpAny (model PySem.Challenge.pw_dp0026_01 w) A (call (.ref 55) [.int x tx, .int y ty]) Q E s := by
  refine wpAny_call (kla_callFunE (body := lamB) hroom K.o55 rfl rfl rfl rfl ⟨54, _, _, _, rfl, K.o54, rfl, rfl⟩ ?_)
  rw [lam_binds x y tx ty _ rfl]
  refine wpAny_pure (wpAny_newFunctionEnv (by decide) (locs rfl) (fun h₁ hn hsb => ⟨hlim.fresh _ hsb, kla_codeExpr ?_⟩) rfl)
  have st := stays_frame hsb
  show wpAny _ _ (eval (.BinOp (.BinOp (.Name (Str.ofString "a") _) .FloorDiv (.Constant (.int 2) _ _) _) .Sub (.BinOp (.Name (Str.ofString "b") _) .FloorDiv (.Constant (.int 2) _ _) _) _) _) _ _ _
  refine wpAny_BinOp (wpAny_BinOp (wpAny_Name (wpAny_loadName_local (v := .int x tx) rfl rfl hn rfl (wpAny_Constant_int (floordiv_int (by decide) ?_ (.inl (PyProof.noPylong_of_log2 (by decide +kernel))))))))
  refine wpAny_BinOp (wpAny_Name (wpAny_loadName_local (v := .int y ty) rfl rfl hn rfl (wpAny_Constant_int (floordiv_int (by decide) ?_ (.inl (PyProof.noPylong_of_log2 (by decide +kernel)))))))
  exact sub_int (hQ _ _ _ st)

theorem kls_in {v u : Nat} {P : Params} {h : Heap} (K : KOk v u P h) : Frag.In (kls v u P) h := fun a o e => K.mem (a, o) (by
  have : ∀ {l : Frag}, l.lookup a = some o → (a, o) ∈ l := by
    intro l
    induction l with
    | nil => intro e; cases e
    | cons p l ih =>
      intro e
      obtain ⟨b, ob⟩ := p
      rw [List.lookup_cons] at e
      by_cases q : a = b
      · subst q; simp at e; subst e; exact .head _
      · have q' : (a == b) = false := by simpa using q
        rw [q'] at e; exact .tail _ (ih e)
  exact this e)
section
variable (v u : Nat) (P : Params)
theorem kf1 : plainGet (kls v u P) 116 (Str.ofString "obj") = true := by kernel_rfl
theorem kf2 : (clsIn (kls v u P) 116).isSome = true := by kernel_rfl
theorem kf3 : findIn (kls v u P) (.ref 116) (Str.ofString "obj") = some (some (.ref 117)) := by kernel_rfl
theorem kf4 : specialIn (kls v u P) (.ref 117) "__get__" = some (some (.builtin "member_descriptor.__get__")) := by kernel_rfl
theorem kf5 : takesIn (kls v u P) (.ref 117) = some true := by kernel_rfl
theorem kf6 : slotIn (kls v u P) 117 116 = some 0 := by kernel_rfl
end
theorem instAt {h : Heap} {a da : Addr} {x : Int} {t : Tok} (ha : h.get? a = some (inst da x t)) (hd : h.get? da = some dict0) : InstAt h a (inst da x t) 116 (some dict0) := ⟨ha, rfl, rfl, hd⟩
theorem objGet {v u : Nat} {P : Params} {a da : Addr} {x : Int} {t : Tok} {expr : Bool} {Q : Value → Shared → Prop} (K : KOk v u P s.heap) (ha : s.heap.get? a = some (inst da x t)) (hd : s.heap.get? da = some dict0)
    (h : Q (.int x t) { s with toks := s.toks + 1 }) : wpAny (model PySem.Challenge.pw_dp0026_01 w) A (getAttr (.ref a) (Str.ofString "obj") expr) Q E s :=
  get_bind (kls_in K) (instAt ha hd) (plainGet_of (kf1 v u P)).1 (findObj_data (kf2 v u P) (kf3 v u P) (kf4 v u P) (kf5 v u P)) (plainGet_of (kf1 v u P)).2
    (wpAny_call (slot_get (s := { s with toks := s.toks + 1 }) (kls_in K) (instAt ha hd) (kf6 v u P) rfl (handed_on rfl h)))
end
end D26
end TS5
section TS6
open PySem PySem.W PyProof.Rows PySem.W.X PySem.Calls
namespace D26
theorem KOk.stays {v u : Nat} {P : Params} {h h' : Heap} (K : KOk v u P h) (st : Stays h h') : KOk v u P h' := KOk.of fun p hp => st _ _ (K.mem p hp)
/-- a key: an object of the class and its (empty) dict -/
structure KeyAt (h : Heap) (a : Addr) (x : Int) : Prop where
  ex : ∃ da t, h.get? a = some (inst da x t) ∧ h.get? da = some dict0
theorem KeyAt.stays {h h' : Heap} {a : Addr} {x : Int} (K : KeyAt h a x) (st : Stays h h') : KeyAt h' a x := let ⟨da, t, e1, e2⟩ := K.ex; ⟨da, t, st _ _ e1, st _ _ e2⟩
section
variable {w : World} {A : Around} {E : Value → Shared → Prop} {s : Shared}
theorem methArgs {v u : Nat} {P : Params} {a b : Addr} {x y : Int} {env : Env} {pos p1 p2 p3 p4 p5 : Pos} {m : Str → Option Value} {Q : Value → Shared → Prop}
    (hroom : A.depth < recursionLimit) (hlim : s.heap.NoLimit) (K : KOk v u P s.heap) (ha : KeyAt s.heap a x) (hb : KeyAt s.heap b y)
    (hk : env.scope.kind = .function) (hs : env.kindOf (Str.ofString "self") = some .local) (ho : env.kindOf (Str.ofString "other") = some .local) (hm : env.kindOf (Str.ofString "mycmp") = some .free) (hc : env.cells.lookup (Str.ofString "mycmp") = some 57)
    (hn : s.heap.Ns env.locals m) (h1 : m (Str.ofString "self") = some (.ref a)) (h2 : m (Str.ofString "other") = some (.ref b))
    (hQ : ∀ h' t tk, Stays s.heap h' → Q (.int (x.fdiv 2 - y.fdiv 2) t) { s with heap := h', toks := tk }) :
    wpAny (model PySem.Challenge.pw_dp0026_01 w) A (eval (.Call (.Name (Str.ofString "mycmp") p1) [.Attribute (.Name (Str.ofString "self") p2) (Str.ofString "obj") p3, .Attribute (.Name (Str.ofString "other") p4) (Str.ofString "obj") p5] [] pos) env) Q E s := by
  obtain ⟨da, ta, ea1, ea2⟩ := ha.ex
  obtain ⟨db, tb, eb1, eb2⟩ := hb.ex
  refine wpAny_Call_Name_kw (wpAny_Name (wpAny_loadName_free hk hm hc ⟨_, K.cls.o57, rfl⟩ ?_))
  refine callWith_F ⟨_, _, _, _, K.o55⟩ (spliced_more ?_)
  refine Attribute_name (wpAny_Name (wpAny_loadName_local hk hs hn h1 (objGet K ea1 ea2 ?_)))
  refine spliced_more (Attribute_name (wpAny_Name (wpAny_loadName_local hk ho hn h2 (objGet K eb1 eb2 (spliced_none ⟨⟨_, _, _, _, K.o55⟩, ?_⟩)))))
  exact lamCall hroom hlim K fun h' t tk st => hQ h' t tk st

theorem gtCall {v u : Nat} {P : Params} {a b : Addr} {x y : Int} {Q : Value → Shared → Prop} (hroom : A.depth < recursionLimit) (hroom2 : (A.deeper default).depth < recursionLimit) (hlim : s.heap.NoLimit) (K : KOk v u P s.heap) (ha : KeyAt s.heap a x) (hb : KeyAt s.heap b y)
    (hQ : ∀ h' tk, Stays s.heap h' → Q (.bool (decide (0 < x.fdiv 2 - y.fdiv 2))) { s with heap := h', toks := tk }) :
    wpAny (model PySem.Challenge.pw_dp0026_01 w) A (call (.ref 88) [.ref a, .ref b]) Q E s := by
  refine wpAny_call (codeAny_call_function (body := fnBody (nthS 4 kStmts)) hroom K.cls.o88 rfl rfl rfl rfl ⟨87, _, _, _, rfl, K.cls.o87, rfl, rfl⟩ ?_)
  rw [show bindArgs _ ⟨[.ref a, .ref b], []⟩ = pure [(Str.ofString "self", .ref a), (Str.ofString "other", .ref b)] from rfl]
  refine wpAny_pure (wpAny_newFunctionEnv (by decide) (locs rfl) (fun h₁ hn hsb => ⟨hlim.fresh _ hsb, codeAny_func ?_⟩) rfl)
  have st := stays_frame hsb
  show wpAny _ _ (execs [.Return (some (.Compare (.Call (.Name (Str.ofString "mycmp") _) [.Attribute (.Name (Str.ofString "self") _) (Str.ofString "obj") _, .Attribute (.Name (Str.ofString "other") _) (Str.ofString "obj") _] [] _) [.Gt] [.Constant (.int 0) _ _] _)) _] _) _ _ _
  refine wpAny_execs_cons (wpAny_Return_some (wpAny_Compare1 ?_))
  refine methArgs (s := { s with heap := h₁, toks := _ }) hroom2 (hlim.fresh _ hsb) (K.stays st) (ha.stays st) (hb.stays st) rfl rfl rfl rfl rfl hn rfl rfl fun h' t tk st' => ?_
  refine wpAny_Constant_int (gt_int ?_)
  exact hQ h' _ fun b o e => st' b o (st b o e)

theorem eqCall {v u : Nat} {P : Params} {a b : Addr} {x y : Int} {Q : Value → Shared → Prop} (hroom : A.depth < recursionLimit) (hroom2 : (A.deeper default).depth < recursionLimit) (hlim : s.heap.NoLimit) (K : KOk v u P s.heap) (ha : KeyAt s.heap a x) (hb : KeyAt s.heap b y)
    (hQ : ∀ h' tk, Stays s.heap h' → Q (.bool (x.fdiv 2 - y.fdiv 2 == 0)) { s with heap := h', toks := tk }) :
    wpAny (model PySem.Challenge.pw_dp0026_01 w) A (call (.ref 96) [.ref a, .ref b]) Q E s := by
  refine wpAny_call (codeAny_call_function (body := fnBody (nthS 5 kStmts)) hroom K.cls.o96 rfl rfl rfl rfl ⟨95, _, _, _, rfl, K.cls.o95, rfl, rfl⟩ ?_)
  rw [show bindArgs _ ⟨[.ref a, .ref b], []⟩ = pure [(Str.ofString "self", .ref a), (Str.ofString "other", .ref b)] from rfl]
  refine wpAny_pure (wpAny_newFunctionEnv (by decide) (locs rfl) (fun h₁ hn hsb => ⟨hlim.fresh _ hsb, codeAny_func ?_⟩) rfl)
  have st := stays_frame hsb
  show wpAny _ _ (execs [.Return (some (.Compare (.Call (.Name (Str.ofString "mycmp") _) [.Attribute (.Name (Str.ofString "self") _) (Str.ofString "obj") _, .Attribute (.Name (Str.ofString "other") _) (Str.ofString "obj") _] [] _) [.Eq] [.Constant (.int 0) _ _] _)) _] _) _ _ _
  refine wpAny_execs_cons (wpAny_Return_some (wpAny_Compare1 ?_))
  refine methArgs (s := { s with heap := h₁, toks := _ }) hroom2 (hlim.fresh _ hsb) (K.stays st) (ha.stays st) (hb.stays st) rfl rfl rfl rfl rfl hn rfl rfl fun h' t tk st' => ?_
  refine wpAny_Constant_int (eq_int ?_)
  exact hQ h' _ fun b o e => st' b o (st b o e)
end
end D26
end TS6
section TS7
open PySem PySem.W PyProof.Rows PySem.W.X PySem.Calls
namespace D26
section
variable {w : World} {A : Around} {E : Value → Shared → Prop} {s : Shared}
theorem ownEq {v u : Nat} {P : Params} {a : Addr} {x : Int} {h : Heap} (K : KOk v u P h) (ha : KeyAt h a x) : h.OwnEqNoNe a 116 96 "object" [.type "object"] := by
  obtain ⟨da, ta, ea1, ea2⟩ := ha.ex
  refine ⟨_, _, _, _, 115, _, _, _, _, _, _, _, _, _, _, _, _, _, _, _, ea1, rfl, K.cls.o116, ⟨_, _, _, K.cls.o115, rfl, ?_, fun _ => rfl⟩, ?_, K.cls.o96, rfl, F.cmp_object.mro, F.cmp_object.eq.lookup, ?_⟩
  · intro e he
    simp only [List.mem_toArray, List.mem_cons, List.not_mem_nil, or_false] at he
    rcases he with rfl | rfl | rfl | rfl | rfl | rfl | rfl | rfl | rfl | rfl | rfl | rfl | rfl <;> exact ⟨_, _, rfl⟩
  · rfl
  · rfl
theorem neCall {v u : Nat} {P : Params} {a b : Addr} {x y : Int} {Q : Value → Shared → Prop} (hu : A.units + 1 < cLine) (hroom : A.depth < recursionLimit) (hroom2 : (A.deeper default).depth < recursionLimit) (hlim : s.heap.NoLimit) (K : KOk v u P s.heap) (ha : KeyAt s.heap a x) (hb : KeyAt s.heap b y)
    (hQ : ∀ h' tk, Stays s.heap h' → Q (.bool (!(x.fdiv 2 - y.fdiv 2 == 0))) { s with heap := h', toks := tk }) :
    wpAny (model PySem.Challenge.pw_dp0026_01 w) A (compareOp .NotEq (.ref a) (.ref b)) Q E s := by
  obtain ⟨db, tb, eb1, eb2⟩ := hb.ex
  refine compareOp_ne_ownEq F.cmp_object (ownEq K ha) eb1 rfl hu (eqCall (A := A.in1) hroom hroom2 hlim K ha hb fun h' tk st => ⟨_, rfl, hQ h' tk st⟩)
end
end D26
end TS7
section TS8
open PySem PySem.W PyProof.Rows PySem.W.X PySem.Calls
namespace D26
abbrev modS (i : Nat) : Stmt := nthS i PySem.Challenge.pw_dp0026_01.main.body
abbrev modFd (i : Nat) (nm : Str) (pm : Value) (code : Addr) : FuncData := { name := nm, qualname := nm, params := fnParams (modS i), body := .stmts (fnBody (modS i)), scope := fnScope (modS i), globals := mainGlobals, closure := [], defaults := .none, kwdefaults := .none, doc := .none, pyModule := pm, annotations := none, code := .ref code, closureTuple := .none, builtins := builtinsNs }
theorem kb21 (P : Params) : (KB P).lookup 21 = some { cls := .type "function", data := .func (modFd 1 (Str.ofString "_lt_from_gt") (.str sFun 187) 20) } := by kernel_rfl
theorem kb35 (P : Params) : (KB P).lookup 35 = some { cls := .type "function", data := .func (modFd 4 (Str.ofString "_law_heaps") (.str sLaw 207) 34) } := by kernel_rfl
theorem kb40 (P : Params) : (KB P).lookup 40 = some { cls := .type "function", data := .func (modFd 5 (Str.ofString "_law_order") (.str sLaw 207) 39) } := by kernel_rfl
def isStrO (q : Str) : Option Value → Bool
  | some (.str n _) => decide (n = q)
  | _ => false
def isCode (q : Str) : Option Obj → Bool
  | some ⟨_, _, .fields vs, _⟩ => isStrO q vs[1]?
  | _ => false
theorem codeRec_of {K : Frag} {h : Heap} {c : Addr} {q : Str} (X : K.In h) (e : isCode q (K.lookup c) = true) : h.CodeRec (.ref c) q := by
  cases r : K.lookup c with
  | none => rw [r] at e; cases e
  | some o =>
    rw [r] at e
    have g := X _ _ r
    obtain ⟨oc, od, d, sl⟩ := o
    cases d with
    | fields vs =>
      have e' : isStrO q vs[1]? = true := e
      cases hv : vs[1]? with
      | none => rw [hv] at e'; cases e'
      | some x =>
        rw [hv] at e'
        cases x with
        | str n t => exact ⟨c, _, vs, t, rfl, g, rfl, by rw [hv, of_decide_eq_true e']⟩
        | _ => cases e'
    | _ => cases e
theorem kb20 (P : Params) : isCode (Str.ofString "_lt_from_gt") ((KB P).lookup 20) = true := by kernel_rfl
theorem kb34 (P : Params) : isCode (Str.ofString "_law_heaps") ((KB P).lookup 34) = true := by kernel_rfl
theorem kb39 (P : Params) : isCode (Str.ofString "_law_order") ((KB P).lookup 39) = true := by kernel_rfl
/-- the names of a namespace in the fragment -/
def nsEs : Option Obj → Array DictEntry
  | some ⟨_, _, .dict es _, _⟩ => es
  | _ => #[]
def strKey : Value → Bool
  | .str _ _ => true
  | _ => false
def nsOk : Option Obj → Bool
  | some ⟨_, _, .dict es _, _⟩ => es.toList.all fun e => strKey e.key
  | _ => false
noncomputable def nsM (P : Params) (a : Addr) : Str → Option Value := nsFind (nsEs ((KB P).lookup a))
theorem ns_of {P : Params} {h : Heap} {a : Addr} (X : (KB P).In h) (e : nsOk ((KB P).lookup a) = true) : h.Ns a (nsM P a) := by
  unfold nsM
  cases r : (KB P).lookup a with
  | none => rw [r] at e; cases e
  | some o =>
    rw [r] at e
    have g := X _ _ r
    obtain ⟨oc, od, d, sl⟩ := o
    cases d with
    | dict es ep =>
      refine ⟨_, es, ep, g, rfl, fun en hen => ?_, fun _ => rfl⟩
      have e' : (es.toList.all fun e => strKey e.key) = true := e
      have := List.all_eq_true.mp e' en (by simpa using hen)
      cases k : en.key with
      | str n t => exact ⟨n, t, rfl⟩
      | _ => rw [k] at this; cases this
    | _ => cases e
theorem kns3 (P : Params) : nsOk ((KB P).lookup 3) = true := by kernel_rfl
theorem kns0 (P : Params) : nsOk ((KB P).lookup 0) = true := by kernel_rfl
structure Base (v u : Nat) (P : Params) (h : Heap) : Prop where
  kb : (KB P).In h
  ok : KOk v u P h
  lim : h.NoLimit
section
variable {v u : Nat} {P : Params} {h h' : Heap}
theorem Base.stays (B : Base v u P h) (st : Stays h h') : Base v u P h' := ⟨B.kb.keeps st, B.ok.stays st, B.lim.keeps st⟩
theorem Base.g (B : Base v u P h) : h.Ns mainGlobals (nsM P 3) := ns_of B.kb (kns3 P)
theorem Base.b (B : Base v u P h) : h.Ns builtinsNs (nsM P 0) := ns_of B.kb (kns0 P)
end
theorem g_type (P : Params) : nsM P 3 "type" = none := by kernel_rfl
theorem b_type (P : Params) : nsM P 0 "type" = some (.type "type") := by kernel_rfl
theorem g_ni (P : Params) : nsM P 3 "NotImplemented" = none := by kernel_rfl
theorem b_ni (P : Params) : nsM P 0 "NotImplemented" = some .notImplemented := by kernel_rfl
noncomputable def kAll (v u : Nat) (P : Params) : Frag := KB P ++ kls v u P
theorem kAll_in {v u : Nat} {P : Params} {h : Heap} (X : (KB P).In h) (K : KOk v u P h) : (kAll v u P).In h := fun a o e => by
  unfold kAll at e
  rw [List.lookup_append] at e
  cases q : (KB P).lookup a with
  | some o' => rw [q] at e; cases e; exact X _ _ q
  | none => rw [q] at e; exact kls_in K _ _ e
section
variable (v u : Nat) (P : Params)
theorem kg2 : readsIn (kAll v u P) 116 (.type "type") = true := by kernel_rfl
theorem kg3 : findCls (kAll v u P) (.ref 116) (.type "type") (Str.ofString "__gt__") = some (.val (.ref 88)) := by kernel_rfl
theorem kg4 : specialIn (kls v u P) (.ref 116) "__getattribute__" = some (some (.builtin "type.__getattribute__")) := by kernel_rfl
end
section
variable {w : World} {A : Around} {E : Value → Shared → Prop} {s : Shared}
theorem gtGet {v u : Nat} {P : Params} {expr : Bool} {Q : Value → Shared → Prop} (B : Base v u P s.heap)
    (h : Q (.ref 88) { s with toks := s.toks + 1 }) : wpAny (model PySem.Challenge.pw_dp0026_01 w) A (getAttr (.ref 116) (Str.ofString "__gt__") expr) Q E s :=
  cls_value (kAll_in B.kb B.ok) (kg2 v u P) (kg3 v u P) rfl h
theorem ltCall {v u : Nat} {P : Params} {a b : Addr} {x y : Int} {Q : Value → Shared → Prop} (hu : A.units + 5 < cLine) (hroom : A.depth + 3 < recursionLimit) (B : Base v u P s.heap) (ha : KeyAt s.heap a x) (hb : KeyAt s.heap b y)
    (hQ : ∀ h' tk, Stays s.heap h' → Q (.bool (decide (x.fdiv 2 < y.fdiv 2))) { s with heap := h', toks := tk }) :
    wpAny (model PySem.Challenge.pw_dp0026_01 w) A (call (.ref 21) [.ref a, .ref b]) Q E s := by
  refine wpAny_call (codeAny_call_function (body := fnBody (modS 1)) (by omega) (B.kb _ _ (kb21 P)) rfl rfl rfl rfl (codeRec_of B.kb (kb20 P)) ?_)
  rw [show bindArgs _ ⟨[.ref a, .ref b], []⟩ = pure [(Str.ofString "self", .ref a), (Str.ofString "other", .ref b)] from rfl]
  refine wpAny_pure (wpAny_newFunctionEnv (by decide) (locs rfl) (fun h₁ hn hsb => ⟨B.lim.fresh _ hsb, codeAny_func ?_⟩) rfl)
  have st := stays_frame hsb
  have B1 := B.stays st
  obtain ⟨da, ta, ea1, ea2⟩ := (ha.stays st).ex
  show wpAny _ _ (execs [.Assign [.Name (Str.ofString "op_result") _] (.Call (.Attribute (.Call (.Name (Str.ofString "type") _) [.Name (Str.ofString "self") _] [] _) (Str.ofString "__gt__") _) [.Name (Str.ofString "self") _, .Name (Str.ofString "other") _] [] _) _,
    .If (.Compare (.Name (Str.ofString "op_result") _) [.Is] [.Name (Str.ofString "NotImplemented") _] _) [.Return (some (.Name (Str.ofString "op_result") _)) _] [] _,
    .Return (some (.BoolOp .And [.UnaryOp .Not (.Name (Str.ofString "op_result") _) _, .Compare (.Name (Str.ofString "self") _) [.NotEq] [.Name (Str.ofString "other") _] _] _)) _] _) _ _ _
  refine wpAny_execs_cons (wpAny_Assign_Name (MethodCall_ (wpAny_Call_Name_kw ?_)))
  refine Name_function_global rfl rfl (loadGlobal_builtin B1.g (g_type P) B1.b (b_type P) ?_)
  refine callWith_type1 (spliced_more (wpAny_Name (wpAny_loadName_local (v := .ref a) rfl rfl hn rfl (spliced_none ?_))))
  refine kto_own (instAt ea1 ea2) ?_
  refine method_cls (K := kls v u P) (kls_in B1.ok) (kg4 v u P) (gtGet B1 ?_)
  refine callWith_F ⟨_, _, _, _, B1.ok.cls.o88⟩ (spliced_more (wpAny_Name (wpAny_loadName_local (v := .ref a) rfl rfl hn rfl ?_)))
  refine spliced_more (wpAny_Name (wpAny_loadName_local (v := .ref b) rfl rfl hn rfl (spliced_none ⟨⟨_, _, _, _, B1.ok.cls.o88⟩, ?_⟩)))
  refine gtCall (s := { s with heap := h₁, toks := _ }) (show A.depth + 1 < recursionLimit by omega) (show A.depth + 1 + 1 < recursionLimit by omega) B1.lim B1.ok (ha.stays st) (hb.stays st) fun h₂ tk st2 => ?_
  refine wpAny_storeName_local rfl (hn.keeps st2) (fun h₃ hn3 hsb3 => ?_) rfl
  have st3 : Stays s.heap h₃ := fun b o e => by
    rw [hsb3.2 b (Nat.ne_of_lt (Heap.lt_size e))]
    exact st2 b o (st b o e)
  have B3 := B.stays st3
  refine wpAny_execs_cons (wpAny_If (wpAny_isTrue_Compare1 (wpAny_Name (wpAny_loadName_local (v := .bool (decide (0 < x.fdiv 2 - y.fdiv 2))) rfl rfl hn3 rfl ?_))))
  refine Name_function_global rfl rfl (loadGlobal_builtin B3.g (g_ni P) B3.b (b_ni P) ?_)
  refine wpAny_is_other rfl (fun e => by cases e) (wpAny_truthy_bool ?_)
  rw [if_neg (by decide)]
  refine wpAny_execs_nil (wpAny_execs_cons (wpAny_Return_some ?_))
  refine BoolOp_and (UnaryOp_ (wpAny_Name (wpAny_loadName_local (v := .bool (decide (0 < x.fdiv 2 - y.fdiv 2))) rfl rfl hn3 rfl ?_)))
  refine not_value (wpAny_truthy_bool (wpAny_truthy_bool ?_))
  by_cases hp : 0 < x.fdiv 2 - y.fdiv 2
  · simp only [hp, decide_true, Bool.not_true, Bool.false_eq_true, if_false]
    have := hQ h₃ (tk + 1) st3
    rw [decide_eq_false (show ¬ x.fdiv 2 < y.fdiv 2 by omega)] at this
    exact this
  · simp only [hp, decide_false, Bool.not_false, if_true]
    refine BoolOp_one (wpAny_Compare1 (wpAny_Name (wpAny_loadName_local (v := .ref a) rfl rfl hn3 rfl (wpAny_Name (wpAny_loadName_local (v := .ref b) rfl rfl hn3 rfl ?_)))))
    refine neCall (s := { s with heap := h₃, toks := _ }) (show A.units + 3 + 1 < cLine by omega) (show A.depth + 1 < recursionLimit by omega) (show A.depth + 1 + 1 < recursionLimit by omega) B3.lim B3.ok (ha.stays st3) (hb.stays st3) fun h₄ tk st4 => ?_
    have := hQ h₄ tk fun b o e => st4 b o (st3 b o e)
    rw [show decide (x.fdiv 2 < y.fdiv 2) = !(x.fdiv 2 - y.fdiv 2 == 0) by
      rw [Bool.eq_iff_iff]; simp; omega] at this
    exact this
end
end D26
end TS8
section TS9
open PySem PySem.W PyProof.Rows PySem.W.X PySem.Calls
namespace D26
section
variable {prog : Program} {w : World} {A : Around} {E : Value → Shared → Prop} {s : Shared} {env : Env}
theorem forR {Q : Flow → Shared → Prop} {x : Str} {px : Pos} {body : List Stmt} {r : Addr} {n : Nat} {t u v : Tok} {m : Str → Option Value}
    (hh : A.handled = none) (hx : env.kindOf x = some .local)
    (hp : (env.scope.kind == .class || (env.scope.kind == .module && env.locals != env.globals)) = false)
    (hr : IsRange s.heap r 0 n 1 t u v) (hsmall : Builtin.Range.small 0 n 1 = true) (hn : s.heap.Ns env.locals m)
    (J : Nat → (Str → Option Value) → Heap → Prop)
    (hJs : ∀ i m h h', J i m h → (∀ b o, b < s.heap.objs.size → b ≠ env.locals → h.get? b = some o → h'.get? b = some o) → J i m h')
    (h0 : J 0 m s.heap)
    (step : ∀ (i : Nat) tk m₁ h₁ tk₁ I oI, i < n → J i m₁ h₁ → h₁.Ns env.locals (fun y => if y = x then some (.int i tk) else m₁ y) → s.heap.get? I = none → I ≠ env.locals → h₁.get? I = some oI →
      wpAny (model prog w) A (execs body env) (fun f s₂ => f = .next ∧ ∃ h₂ tk₂ m₂, s₂ = { s with heap := h₂, toks := tk₂ } ∧ h₂.Ns env.locals m₂ ∧ J (i + 1) m₂ h₂ ∧ h₂.get? I = some oI) (fun _ _ => False) { s with heap := h₁, toks := tk₁ })
    (hQ : ∀ h' tk m', h'.Ns env.locals m' → J n m' h' → Q .next { s with heap := h', toks := tk }) :
    wpAny (model prog w) A (pyIter (.ref r)) (fun it s₂ =>
      codeAny (model prog w) A (.forLoop (.Name x px) it body [] env) (fun r s' => match r with | .ok f => Q f s' | .error e => cameBackBy (model prog w) A env E e s') s₂) E s := by
  have hlt : ∀ b o, s.heap.get? b = some o → b ≠ s.heap.objs.size := fun b o e => Nat.ne_of_lt (Heap.lt_size e)
  obtain ⟨oL, _, _, hoL, _⟩ := id hn
  have hsz : Builtin.Range.rangeSize 0 n 1 = n := by
    unfold Builtin.Range.rangeSize
    simp
    intro h; omega
  refine wpAny_pyIter_range hr hsmall ?_
  have hIL : s.heap.objs.size ≠ env.locals := Ne.symm (hlt _ _ hoL)
  refine codeAny_forLoop
    (fun k s' => ∃ h' tk m' i, s' = { s with heap := h', toks := tk } ∧ IsRangeIter h' s.heap.objs.size (i : Nat) ((n : Int) - (i : Nat)) 1 ∧ h'.Ns env.locals m' ∧ J i m' h' ∧ i ≤ n ∧ k = n + 1 - i) ?_ (n + 1)
    ⟨_, s.toks, m, 0, rfl, ?_, hn.push _, hJs 0 m _ _ h0 fun b o _ _ e => Heap.get?_push_of_some _ e, Nat.zero_le _, rfl⟩
  · rintro k s' ⟨h', tk, m', i, rfl, hit', hn', hJ, hi, rfl⟩
    by_cases hl : i < n
    · refine wpAny_pyNext_range_item hit' (by omega) fun h₁ hit₁ hs₁ => ?_
      refine wpAny_assign_Name (wpAny_storeName_local hx (hn'.sameBut hs₁ (Ne.symm hIL)) (fun h₂ hn₂ hs₂ => ?_) hp)
      refine wpAny_mono (step i _ m' h₂ _ s.heap.objs.size _ hl (hJs i m' _ _ hJ fun b o h1 h2 e => ?_) hn₂ (Heap.get?_none_of_le (Nat.le_refl _)) hIL ((hs₂.2 _ hIL).trans hit₁)) (fun f s₃ h₃ => ?_) fun _ _ e => e.elim
      · exact hs₂.extBut b o h2 (hs₁.extBut b o (Nat.ne_of_lt h1) e)
      · obtain ⟨rfl, h₃', tk₃, m₂, rfl, hn₃, hJ₃, hI₃⟩ := h₃
        refine ⟨n + 1 - (i + 1), by omega, h₃', tk₃, m₂, i + 1, rfl, ?_, hn₃, hJ₃, hl, rfl⟩
        rw [show ((i + 1 : Nat) : Int) = (i : Int) + 1 by omega, show (n : Int) - ((i : Int) + 1) = (n : Int) - (i : Int) - 1 by omega]
        exact hI₃
    · have hin : i = n := by omega
      subst hin
      refine wpAny_pyNext_range_end hh hit' (by omega) fun h₁ he₁ => wpAny_execs_nil ?_
      exact hQ h₁ tk m' (hn'.extBut he₁ (Ne.symm hIL)) (hJs i m' _ _ hJ fun b o h1 _ e => he₁ b o (Nat.ne_of_lt h1) e)
  · have := Heap.get?_push_size s.heap (o := { cls := .type "range_iterator", data := .fields #[rawInt 0, rawInt (Builtin.Range.rangeSize 0 n 1), rawInt 1] }) rfl
    rw [hsz] at this ⊢
    simpa using this
theorem whileR {Q : Flow → Shared → Prop} {test : Expr} {body : List Stmt} {pos : Pos} (I : Nat → Shared → Prop)
    (turn : ∀ n s, I n s → wpAny (model prog w) A (isTrue test env (eval test env)) (fun b s₂ =>
        if b then wpAny (model prog w) A (execs body env) (fun f s₃ => f = .next ∧ ∃ m, m < n ∧ I m s₃) (fun _ _ => False) s₂ else Q .next s₂) (fun _ _ => False) s)
    (n : Nat) (h : I n s) : wpAny (model prog w) A (exec (.While test body [] pos) env) Q E s := by
  refine wpAny_While (codeAny_whileLoop I (fun n s hI => ?_) n h)
  refine wpAny_mono (turn n s hI) (fun b s₂ h₂ => ?_) fun _ _ e => e.elim
  cases b with
  | true =>
    simp only [if_true] at h₂ ⊢
    refine wpAny_mono h₂ (fun f s₃ h₃ => ?_) fun _ _ e => e.elim
    obtain ⟨rfl, h₃⟩ := h₃
    exact h₃
  | false =>
    simp only [Bool.false_eq_true, if_false] at h₂ ⊢
    exact wpAny_execs_nil h₂
end
end D26
end TS9
section TS10
open PySem PySem.W PyProof.Rows PySem.W.X PySem.Calls
namespace D26
abbrev lst (vs : List Value) (n : Nat) : Obj := { cls := .type "list", data := .seq vs.toArray n }
def AllInt (vs : List Value) : Prop := ∀ v ∈ vs, ∃ n t, v = .int n t
theorem AllInt.ints : ∀ {vs : List Value}, AllInt vs → ∃ ns, IntsAre vs ns
  | [], _ => ⟨[], .nil⟩
  | v :: vs, h => by
    obtain ⟨n, t, rfl⟩ := h v (.head _)
    obtain ⟨ns, hn⟩ := AllInt.ints (vs := vs) fun x hx => h x (.tail _ hx)
    exact ⟨n :: ns, .cons n t hn⟩
theorem AllInt.of : ∀ {vs : List Value} {ns : List Int}, IntsAre vs ns → AllInt vs
  | _, _, .nil => fun v hv => nomatch hv
  | _, _, .cons n t h => fun v hv => by
    rcases List.mem_cons.mp hv with rfl | hv
    · exact ⟨n, t, rfl⟩
    · exact AllInt.of h v hv
theorem g_min (P : Params) : nsM P 3 "min" = none := by kernel_rfl
theorem b_min (P : Params) : nsM P 0 "min" = some (.builtin "min") := by kernel_rfl
theorem g_len (P : Params) : nsM P 3 "len" = none := by kernel_rfl
theorem b_len (P : Params) : nsM P 0 "len" = some (.builtin "len") := by kernel_rfl
theorem g_range (P : Params) : nsM P 3 "range" = none := by kernel_rfl
theorem b_range (P : Params) : nsM P 0 "range" = some (.type "range") := by kernel_rfl
theorem g_max (P : Params) : nsM P 3 "max" = none := by kernel_rfl
theorem b_max (P : Params) : nsM P 0 "max" = some (.builtin "max") := by kernel_rfl
theorem g_list (P : Params) : nsM P 3 "list" = none := by kernel_rfl
theorem b_list (P : Params) : nsM P 0 "list" = some (.type "list") := by kernel_rfl
theorem g_order (P : Params) : nsM P 3 "_law_order" = some (.ref 40) := by kernel_rfl
theorem g_heaps (P : Params) : nsM P 3 "_law_heaps" = some (.ref 35) := by kernel_rfl
theorem g_lt (P : Params) : nsM P 3 "_lt_from_gt" = some (.ref 21) := by kernel_rfl
section
variable {w : World} {A : Around} {E : Value → Shared → Prop} {s : Shared}
theorem lenName {v u : Nat} {P : Params} {env : Env} {x : Str} {l : Addr} {items : Array Value} {p1 p2 pos : Pos} {m : Str → Option Value} {Q : Value → Shared → Prop} (B : Base v u P s.heap)
    (hl : s.heap.IsList l items) (hsz : items.size ≤ 100) (hn : s.heap.Ns env.locals m) (hm : m x = some (.ref l))
    (hk : env.scope.kind = .function) (hg : env.kindOf (Str.ofString "len") = some .globalImplicit) (hgl : env.globals = mainGlobals) (hbl : env.builtins = builtinsNs)
    (hx : env.kindOf x = some .local) (hd : (x == Str.ofString "__debug__") = false)
    (h : Q (.int items.size (s.toks + 1)) { s with toks := s.toks + 1 + 1 }) :
    wpAny (model PySem.Challenge.pw_dp0026_01 w) A (eval (.Call (.Name (Str.ofString "len") p1) [.Name x p2] [] pos) env) Q E s := by
  refine wpAny_Call_Name_kw (Name_function_global hk hg (loadGlobal_builtin (hgl ▸ B.g) (g_len P) (hbl ▸ B.b) (b_len P) ?_))
  refine PyProof.Rows.callWith_builtin1 (spliced_more (wpAny_Name (wpAny_loadName_local hk hx hn hm (spliced_none ?_)) hd))
  exact len_list hl (by omega) h
theorem isList_stays {h h' : Heap} {l : Addr} {items : Array Value} (hl : h.IsList l items) (st : ∀ o, h.get? l = some o → h'.get? l = some o) : h'.IsList l items := by
  obtain ⟨o, e, r⟩ := hl
  exact ⟨o, st o e, r⟩
theorem getL {l : Addr} {items : Array Value} {k : Int} {t : Tok} {x : Value} {Q : Value → Shared → Prop} (hl : s.heap.IsList l items) (h0 : 0 ≤ k) (hfit : k < 100) (hx : items[k.toNat]? = some x) (h : Q x s) :
    ItemOn (model PySem.Challenge.pw_dp0026_01 w) A E (.ref l) (.int k t) Q s := ⟨"list", _, slot_list_getitem.lookup, hl.typeIs, wpAny_getItem_list hl h0 (by omega) hx h⟩
abbrev hpEnv (L : Addr) : Env := newEnv (fnScope (modS 4)) L mainGlobals [] (Str.ofString "_law_heaps" ++ ".<locals>.") (some 35) (.ref 34) none builtinsNs
theorem cast12 {C : Value → Prop} {n : Nat} {t u : Tok} (h : ∀ t', C (.int (min n 12 : Nat) t')) : C (if (12 : Int) < (n : Int) then Value.int 12 u else Value.int (n : Int) t) := by
  by_cases q : (12 : Int) < n
  · have := h u
    rw [Nat.min_eq_right (by omega)] at this
    rw [if_pos q]; exact this
  · have := h t
    rw [Nat.min_eq_left (by omega)] at this
    rw [if_neg q]; exact this
theorem rep1 (k : Nat) (x : Value) : (List.replicate k [x]).flatten = List.replicate k x := by
  induction k with
  | zero => rfl
  | succ k ih => rw [List.replicate_succ, List.replicate_succ, List.flatten_cons, ih]; rfl
abbrev hpFor : Stmt := nthS 1 (fnBody (modS 4))
/-- the loop of `_law_heaps` -/
theorem heaps_loop {v u : Nat} {P : Params} {l L D : Addr} {vs : List Value} {h₀ : Heap} {m : Str → Option Value} {Q : Flow → Shared → Prop} {k : Nat} {x : Value} (hh : A.handled = none) (B : Base v u P s.heap) (st0 : Stays h₀ s.heap) (hL : h₀.objs.size ≤ L)
    (hn : s.heap.Ns L m) (hm : m (Str.ofString "script") = some (.ref l)) (hd : m (Str.ofString "heaps") = some (.ref D)) (hDL : D ≠ L) (hD0 : h₀.get? D = none) (hk : k = min vs.length 12)
    (hl : h₀.IsList l vs.toArray) (hi : AllInt vs) (hle : vs.length ≤ 63) (lD : s.heap.IsList D (List.replicate k x).toArray) (hx : ∃ n t, x = .int n t)
    (hQ : ∀ h' tk m' ws, h'.Ns L m' → m' (Str.ofString "heaps") = some (.ref D) → Stays h₀ h' → h'.IsList D ws.toArray → AllInt ws → ws.length = k → Q .next { s with heap := h', toks := tk }) :
    wpAny (model PySem.Challenge.pw_dp0026_01 w) A (exec hpFor (hpEnv L)) Q E s := by
  show wpAny _ _ (exec (.For (.Name (Str.ofString "place") _) (.Call (.Name (Str.ofString "range") _) [.Call (.Name (Str.ofString "len") _) [.Name (Str.ofString "script") _] [] _] [] _)
      [.AugAssign (.Subscript (.Name (Str.ofString "heaps") _) (.BinOp (.Name (Str.ofString "place") _) .Mod (.Constant (.int 12) _ _) _) _) .Add (.Subscript (.Name (Str.ofString "script") _) (.Name (Str.ofString "place") _) _) _] [] _) (hpEnv L)) _ _ _
  have ne0 : ∀ b o, h₀.get? b = some o → b ≠ L := fun b o e => Nat.ne_of_lt (Nat.lt_of_lt_of_le (Heap.lt_size e) hL)
  refine wpAny_For (wpAny_Call_Name_kw (Name_function_global rfl rfl (loadGlobal_builtin B.g (g_range P) B.b (b_range P) ?_)))
  refine callWith_type1 (spliced_more ?_)
  refine lenName B (isList_stays hl fun o e => st0 _ _ e) (by simp; omega) hn hm rfl rfl rfl rfl rfl rfl ?_
  rw [show vs.toArray.size = vs.length by simp]
  refine spliced_none (call_range_1 ?_)
  refine forR (n := vs.length) (J := fun i m h => m (Str.ofString "heaps") = some (.ref D) ∧ m (Str.ofString "script") = some (.ref l) ∧ Stays h₀ h ∧ ∃ ws : List Value, h.IsList D ws.toArray ∧ AllInt ws ∧ ws.length = k)
    hh rfl rfl (IsRange.new ..) (small_one (by omega) (by omega) (by omega) (by omega)) (hn.push _) ?_ ?_ ?_ ?_
  · rintro i m₁ h h' ⟨e1, e2, e3, ws, e4, e5, e6⟩ st
    refine ⟨e1, e2, fun b o e => st b o (Heap.lt_size (Heap.get?_push_of_some _ (st0 b o e))) (ne0 b o e) (e3 b o e), ws, isList_stays e4 fun o e => st _ o (Heap.lt_size (Heap.get?_push_of_some _ lD.choose_spec.1)) hDL e, e5, e6⟩
  · refine ⟨hd, hm, fun b o e => Heap.get?_push_of_some _ (st0 b o e), _, isList_stays lD fun o e => Heap.get?_push_of_some _ e, ?_, by simp⟩
    intro v hv
    rw [List.eq_of_mem_replicate hv]
    exact hx
  · rintro i tk m₁ h₁ tk₁ I oI hin ⟨e1, e2, e3, ws, e4, e5, e6⟩ hn₁ hI hIL hI₁
    have hmod : (i : Int).fmod 12 = ((i % 12 : Nat) : Int) := by rw [Int.fmod_eq_emod_of_nonneg _ (by decide)]; rfl
    have hlt : i % 12 < ws.length := by
      rw [e6, hk]
      have := Nat.mod_lt i (show 0 < 12 by decide)
      have := Nat.mod_le i 12
      omega
    have hDI : D ≠ I := by
      rintro rfl
      obtain ⟨o, e, _⟩ := lD
      rw [Heap.get?_push_of_some _ e] at hI
      cases hI
    obtain ⟨xa, ta, hxa⟩ := e5 _ (List.getElem_mem hlt)
    obtain ⟨xb, tb, hxb⟩ := hi _ (List.getElem_mem hin)
    have g1 : ws.toArray[((i % 12 : Nat) : Int).toNat]? = some (.int xa ta) := by rw [Int.toNat_natCast]; simp [hlt, hxa]
    have g2 : vs.toArray[(i : Int).toNat]? = some (.int xb tb) := by rw [Int.toNat_natCast]; simp [hin, hxb]
    refine wpAny_execs_cons (wpAny_AugAssign_SubscriptAny (wpAny_Name (wpAny_loadName_local (v := .ref D) rfl rfl hn₁ e1 ?_)))
    refine wpAny_BinOp (wpAny_Name (wpAny_loadName_local (v := .int i tk) rfl rfl hn₁ rfl (wpAny_Constant_int (mod_int (by decide) ?_))))
    rw [hmod]
    refine wpAny_getItem_list e4 (by omega) (by omega) g1 ?_
    refine Subscript_Name (wpAny_Name (wpAny_loadName_local (v := .ref l) rfl rfl hn₁ e2 (wpAny_Name (wpAny_loadName_local (v := .int i tk) rfl rfl hn₁ rfl ?_))))
    refine getL (isList_stays hl fun o e => e3 _ _ e) (by omega) (by omega) g2 ?_
    refine iadd_int (wpAny_setItem_list e4 (by omega) (by omega) (by simp; omega) fun h₂ l₂ sb₂ => wpAny_execs_nil ⟨rfl, h₂, _, _, rfl, hn₁.sameBut sb₂ (Ne.symm hDL), ⟨e1, e2, ?_, ?_⟩, ?_⟩)
    · intro b o e
      rw [sb₂.2 b (fun q => by rw [q] at e; rw [hD0] at e; cases e)]
      exact e3 b o e
    · have l₃ := l₂
      rw [Int.toNat_natCast, List.setIfInBounds_toArray] at l₃
      refine ⟨_, l₃, ?_, by simp [e6]⟩
      · intro v hv
        rcases List.mem_or_eq_of_mem_set hv with h | h
        · exact e5 v h
        · exact ⟨_, _, h⟩
    · exact (sb₂.2 I hDI.symm).trans hI₁
  · rintro h' tk m' hn' ⟨e1, e2, e3, ws, e4, e5, e6⟩
    exact hQ h' tk m' ws hn' e1 e3 e4 e5 e6
theorem heaps_body {v u : Nat} {P : Params} {l L : Addr} {vs : List Value} {h₀ : Heap} {m : Str → Option Value} {Q : Flow → Shared → Prop} (hh : A.handled = none) (B : Base v u P h₀)
    (F : Fr h₀ L s.heap m) (hm : m (Str.ofString "script") = some (.ref l))
    (hl : h₀.IsList l vs.toArray) (hi : AllInt vs) (hle : vs.length ≤ 63)
    (hQ : ∀ h' tk r vs', Stays h₀ h' → h₀.get? r = none → h'.IsList r vs'.toArray → AllInt vs' → vs'.length ≤ 12 → Q (.ret (.ref r)) { s with heap := h', toks := tk }) :
    wpAny (model PySem.Challenge.pw_dp0026_01 w) A (execs (fnBody (modS 4)) (hpEnv L)) Q E s := by
  show wpAny _ _ (execs [.Assign [.Name (Str.ofString "heaps") _] (.BinOp (.List [.Constant (.int 0) _ _] _) .Mult (.Call (.Name (Str.ofString "min") _) [.Call (.Name (Str.ofString "len") _) [.Name (Str.ofString "script") _] [] _, .Constant (.int 12) _ _] [] _) _) _,
    hpFor, .Return (some (.Name (Str.ofString "heaps") _)) _] _) _ _ _
  refine wpAny_execs_cons (wpAny_Assign_Name (wpAny_BinOp (wpAny_List (spliced_more (wpAny_Constant_int (spliced_none ⟨by show 1 ≤ sizeLine; decide, ?_⟩))))))
  have F2 := F.push (lst [.int 0 s.toks] 0)
  have B2 := B.stays F2.keep
  refine wpAny_Call_Name_kw (Name_function_global rfl rfl (loadGlobal_builtin B2.g (g_min P) B2.b (b_min P) ?_))
  refine PyProof.Rows.callWith_builtin1 (spliced_more ?_)
  refine lenName B2 (isList_stays hl fun o e => F2.keep _ _ e) (by simp; omega) F2.ns hm rfl rfl rfl rfl rfl rfl ?_
  refine spliced_more (wpAny_Constant_int (spliced_none ?_))
  refine min_two_ints hh fun h3 tk3 st3 => ?_
  rw [show vs.toArray.size = vs.length by simp]
  refine cast12 (C := fun v => wpAny _ _ (binaryOp .Mult _ v) _ _ _) (n := vs.length) fun t' => ?_
  have F3 : Fr h₀ L h3 m := ⟨F2.ns.keeps st3, fun b o e => st3 b o (F2.keep b o e), F2.above⟩
  have g3 : h3.IsList s.heap.objs.size [Value.int 0 s.toks].toArray := ⟨_, st3 _ _ (Heap.get?_push_size s.heap (o := lst [.int 0 s.toks] 0) rfl), rfl, _, rfl⟩
  have hk : min vs.length 12 ≤ 12 := Nat.min_le_right _ _
  refine mul_list_is (ds := [.int 0]) F3 (news := []) (fun p hp => nomatch hp) g3 (.cons (.int 0 _) .nil) (by omega) (by omega) (by simp; omega) fun h4 F4 _ n4 l4 _ => ?_
  rw [rep1, Int.toNat_natCast] at l4
  refine wpAny_storeName_local rfl F4.ns (fun h5 n5 sb5 => ?_) rfl
  have hDL : h3.objs.size ≠ L := Ne.symm (Nat.ne_of_lt F3.ns.lt)
  have st5 : Stays h₀ h5 := fun b o e => by
    rw [sb5.2 b (fun q => Nat.lt_irrefl _ (Nat.lt_of_lt_of_le (Heap.lt_size e) (Nat.le_trans F4.above (Nat.le_of_eq q.symm))))]
    exact F4.keep b o e
  have l5 : h5.IsList h3.objs.size (List.replicate (min vs.length 12) (Value.int 0 s.toks)).toArray := isList_stays l4 fun o e => (sb5.2 _ hDL).trans e
  refine wpAny_execs_cons (heaps_loop (s := { s with heap := h5, toks := _ }) (h₀ := h₀) (L := L) (D := h3.objs.size) hh (B.stays st5) st5 F4.above n5 hm rfl hDL n4 rfl hl hi hle l5 ⟨_, _, rfl⟩ fun h' tk m' ws n' e1 e2 e3 e4 e5 => ?_)
  refine wpAny_execs_cons (wpAny_Return_some (wpAny_Name (wpAny_loadName_local (v := .ref h3.objs.size) rfl rfl n' e1 ?_)))
  exact hQ h' tk h3.objs.size ws e2 n4 e3 e4 (by rw [e5]; exact hk)
theorem heapsCall {v u : Nat} {P : Params} {l : Addr} {vs : List Value} {Q : Value → Shared → Prop} (hh : A.handled = none) (hroom : A.depth < recursionLimit) (B : Base v u P s.heap)
    (hl : s.heap.IsList l vs.toArray) (hi : AllInt vs) (hle : vs.length ≤ 63)
    (hQ : ∀ h' tk r vs', Stays s.heap h' → s.heap.get? r = none → h'.IsList r vs'.toArray → AllInt vs' → vs'.length ≤ 12 → Q (.ref r) { s with heap := h', toks := tk }) :
    wpAny (model PySem.Challenge.pw_dp0026_01 w) A (call (.ref 35) [.ref l]) Q E s := by
  refine wpAny_call (codeAny_call_function (body := fnBody (modS 4)) hroom (B.kb _ _ (kb35 P)) rfl rfl rfl rfl (codeRec_of B.kb (kb34 P)) ?_)
  rw [show bindArgs _ ⟨[.ref l], []⟩ = pure [(Str.ofString "script", .ref l)] from rfl]
  refine wpAny_pure (wpAny_newFunctionEnv (by decide) (locs rfl) (fun h₁ hn hsb => ⟨B.lim.fresh _ hsb, codeAny_func ?_⟩) rfl)
  have st := stays_frame hsb
  exact heaps_body (A := A.deeper _) (s := { s with heap := h₁, toks := _ }) (h₀ := s.heap) (L := s.heap.objs.size) hh B ⟨hn, st, Nat.le_refl _⟩ rfl hl hi hle fun h' tk r vs' z1 z2 z3 z4 z5 => hQ h' tk r vs' z1 z2 z3 z4 z5
end
end D26
end TS10
section TS11
namespace D26
/-- the stack's output: what comes off while l is laid, then all that is left -/
def run (sz : Nat → Int) : List Nat → List Nat → List Nat
  | [], st => st
  | i :: l, st => st.takeWhile (fun k => decide (sz k < sz i)) ++ run sz l (i :: st.dropWhile (fun k => decide (sz k < sz i)))
/-- the order by the first of the greatest -/
inductive Ord (sz : Nat → Int) : List Nat → List Nat → Prop
  | nil : Ord sz [] []
  | cons {pl a b : List Nat} {f : Nat} (top : ∀ k ∈ pl, sz k ≤ sz f) (first : (pl.filter fun k => decide (sz k = sz f)).head? = some f)
      (ha : Ord sz (pl.filter fun k => decide (k < f)) a) (hb : Ord sz (pl.filter fun k => decide (f < k)) b) : Ord sz pl (a ++ b ++ [f])
theorem takeWhile_all {p : Nat → Bool} : ∀ {l : List Nat}, (∀ k ∈ l, p k = true) → l.takeWhile p = l ∧ l.dropWhile p = []
  | [], _ => ⟨rfl, rfl⟩
  | x :: l, h => by
    have := takeWhile_all (l := l) fun k hk => h k (.tail _ hk)
    rw [List.takeWhile_cons_of_pos (h x (.head _)), List.dropWhile_cons_of_pos (h x (.head _)), this.1, this.2]
    exact ⟨rfl, rfl⟩
theorem takeWhile_snoc {p : Nat → Bool} {m : Nat} (hm : p m = false) : ∀ {l : List Nat}, (l ++ [m]).takeWhile p = l.takeWhile p ∧ (l ++ [m]).dropWhile p = l.dropWhile p ++ [m]
  | [] => by simp [List.takeWhile, List.dropWhile, hm]
  | x :: l => by
    have := takeWhile_snoc hm (l := l)
    rw [List.cons_append]
    cases hx : p x with
    | true => rw [List.takeWhile_cons_of_pos hx, List.dropWhile_cons_of_pos hx, List.takeWhile_cons_of_pos hx, List.dropWhile_cons_of_pos hx, this.1, this.2]; exact ⟨rfl, rfl⟩
    | false => rw [List.takeWhile_cons_of_neg (by simp [hx]), List.dropWhile_cons_of_neg (by simp [hx]), List.takeWhile_cons_of_neg (by simp [hx]), List.dropWhile_cons_of_neg (by simp [hx])]; exact ⟨rfl, rfl⟩
theorem mem_dropWhile {p : Nat → Bool} {k : Nat} : ∀ {l : List Nat}, k ∈ l.dropWhile p → k ∈ l
  | [], h => h
  | x :: l, h => by
    cases hx : p x with
    | true => rw [List.dropWhile_cons_of_pos hx] at h; exact .tail _ (mem_dropWhile h)
    | false => rw [List.dropWhile_cons_of_neg (by simp [hx])] at h; exact h
theorem run_top {sz : Nat → Int} {m : Nat} {b : List Nat} : ∀ {a st : List Nat}, (∀ k ∈ a, sz k < sz m) → (∀ k ∈ st, sz k < sz m) → run sz (a ++ m :: b) st = run sz a st ++ run sz b [m]
  | [], st, _, hs => by
    have := takeWhile_all (p := fun k => decide (sz k < sz m)) (l := st) fun k hk => decide_eq_true (hs k hk)
    show st.takeWhile _ ++ run sz b (m :: st.dropWhile _) = st ++ run sz b [m]
    rw [this.1, this.2]
  | i :: a, st, ha, hs => by
    show st.takeWhile _ ++ run sz (a ++ m :: b) (i :: st.dropWhile _) = (st.takeWhile _ ++ run sz a (i :: st.dropWhile _)) ++ run sz b [m]
    rw [run_top (fun k hk => ha k (.tail _ hk)) (fun k hk => by
      rcases List.mem_cons.mp hk with rfl | hk
      · exact ha _ (.head _)
      · exact hs k (mem_dropWhile hk)), List.append_assoc]
theorem run_low {sz : Nat → Int} {m : Nat} : ∀ {b st : List Nat}, (∀ k ∈ b, sz k ≤ sz m) → run sz b (st ++ [m]) = run sz b st ++ [m]
  | [], _, _ => rfl
  | i :: b, st, hb => by
    have := takeWhile_snoc (p := fun k => decide (sz k < sz i)) (m := m) (decide_eq_false (by have := hb i (.head _); omega)) (l := st)
    show (st ++ [m]).takeWhile _ ++ run sz b (i :: (st ++ [m]).dropWhile _) = (st.takeWhile _ ++ run sz b (i :: st.dropWhile _)) ++ [m]
    rw [this.1, this.2, ← List.cons_append, run_low (fun k hk => hb k (.tail _ hk)), List.append_assoc]
theorem split_first {sz : Nat → Int} {f : Nat} : ∀ {pl : List Nat}, pl.Pairwise (· < ·) → (∀ k ∈ pl, sz k ≤ sz f) → (pl.filter fun k => decide (sz k = sz f)).head? = some f →
    ∃ a b, pl = a ++ f :: b ∧ (∀ k ∈ a, sz k < sz f) ∧ pl.filter (fun k => decide (k < f)) = a ∧ pl.filter (fun k => decide (f < k)) = b
  | [], _, _, h => by cases h
  | x :: pl, hp, ht, h => by
    obtain ⟨hx, hp'⟩ := List.pairwise_cons.mp hp
    by_cases e : sz x = sz f
    · rw [List.filter_cons_of_pos (by simpa using e)] at h
      cases h
      refine ⟨[], pl, rfl, (fun k hk => by cases hk), ?_, ?_⟩
      · rw [List.filter_cons_of_neg (by simp)]
        exact List.filter_eq_nil_iff.mpr fun k hk => by have := hx k hk; simp; omega
      · rw [List.filter_cons_of_neg (by simp)]
        exact List.filter_eq_self.mpr fun k hk => by simpa using hx k hk
    · rw [List.filter_cons_of_neg (by simpa using e)] at h
      obtain ⟨a, b, e1, e2, e3, e4⟩ := split_first hp' (fun k hk => ht k (.tail _ hk)) h
      have hf : f ∈ pl := by rw [e1]; simp
      have hxf := hx f hf
      refine ⟨x :: a, b, by rw [e1]; rfl, ?_, ?_, ?_⟩
      · intro k hk
        rcases List.mem_cons.mp hk with rfl | hk
        · have := ht k (.head _); omega
        · exact e2 k hk
      · rw [List.filter_cons_of_pos (by simpa using hxf), e3]
      · rw [List.filter_cons_of_neg (by simp; omega), e4]
theorem ord_run {sz : Nat → Int} {pl out : List Nat} (h : Ord sz pl out) : pl.Pairwise (· < ·) → out = run sz pl [] := by
  induction h with
  | nil => intro _; rfl
  | cons top first _ _ iha ihb =>
    intro hp
    obtain ⟨a, b, e1, e2, e3, e4⟩ := split_first hp top first
    rw [iha (hp.filter _), ihb (hp.filter _), e3, e4, e1, run_top e2 (fun k hk => by cases hk)]
    rw [e1] at top
    rw [show ∀ f, [f] = [] ++ [f] from fun _ => rfl, run_low fun k hk => top k (by simp [hk])]
    simp
end D26
end TS11
section TS12
open PySem PySem.W PyProof.Rows PySem.W.X PySem.Calls
namespace D26
theorem same_items {items : Array Value} {vs : List Value} (h1 : vs.length = items.size) (h2 : ∀ (j : Nat) (v : Value), vs[j]? = some v → items[j]? = some v) : vs = items.toList := by
  apply List.ext_getElem?
  intro j
  cases e : vs[j]? with
  | some v => have := h2 j v e; simpa using this.symm
  | none =>
    have : vs.length ≤ j := List.getElem?_eq_none_iff.mp e
    symm
    apply List.getElem?_eq_none_iff.mpr
    simpa using (h1 ▸ this)
section
variable {prog : Program} {w : World} {A : Around} {E : Value → Shared → Prop} {s : Shared} {env : Env} {elt : PySem.Expr} {x y : Str} {px py : Pos} {ifs : List PySem.Expr} {scope : Scope} {cl : List (Str × Addr)} {pos : Pos} {l : Addr} {items : Array Value} {m : Str → Option Value}
theorem compF {Q : Value → Shared → Prop} (p : Value → Bool) (F : Value → Value → Prop)
    (hclos : closureFor scope env = pure cl) (hcell : ∀ y ∈ scope.names, y.2 ≠ .cell) (hkind : scope.kind = .function)
    (hnames : ∀ y ∈ scope.names, y.2 = .local → scope.names.lookup y.1 = some .local) (hx : scope.names.lookup x = some .local)
    (hk : env.scope.kind = .function) (hy : env.kindOf y = some .local) (hd : (y == Str.ofString "__debug__") = false) (hn : s.heap.Ns env.locals m) (hm : m y = some (.ref l)) (hl : s.heap.IsList l items) (hsz : items.size ≤ 100) (hh : A.handled = none)
    (tests : ∀ C v s₃ m₃ E', v ∈ items → s₃.heap.Ns C m₃ → m₃ x = some v → Stays s.heap s₃.heap →
      wpAny (model prog w) A (forIn ifs true fun c r => if r = true then do let ok ← isTrue c (compEnvC scope cl C env) (eval c (compEnvC scope cl C env)); pure (ForInStep.yield ok) else pure (ForInStep.yield r))
        (fun ok s₄ => ok = p v ∧ Keeps s₃ s₄) E' s₃)
    (helt : ∀ C v s₃ m₃ E', v ∈ items → p v = true → s₃.heap.Ns C m₃ → m₃ x = some v → Stays s.heap s₃.heap →
      wpAny (model prog w) A (eval elt (compEnvC scope cl C env)) (fun y s₄ => F v y ∧ Keeps s₃ s₄) E' s₃)
    (hQ : ∀ D h' tk ys, s.heap.get? D = none → h'.IsList D ys → Paired F (items.toList.filter p) ys.toList → Stays s.heap h' → Q (.ref D) { s with heap := h', toks := tk })
    (hs : ∀ x, foldedSetIterable (.Name y py) env x = pure x := by intro _; rfl) :
    wpAny (model prog w) A (eval (.ListComp elt [⟨.Name x px, .Name y py, ifs, 0⟩] scope pos) env) Q E s := by
  refine wpAny_ListComp_free p F hclos hcell hkind hnames hx (wpAny_Name (wpAny_loadName_local hk hy hn hm (wpAny_pyIter_list hl ?_)) hd) hs
  have hlI : l ≠ s.heap.objs.size := by obtain ⟨o, e, _⟩ := hl; exact Nat.ne_of_lt (Heap.lt_size e)
  have up : ∀ (h' : Heap), (∀ b o, b ∉ [s.heap.objs.size] → (s.heap.push { cls := .type "list_iterator", data := .fields #[.ref l, .int 0 0] }).get? b = some o → h'.get? b = some o) → Stays s.heap h' := fun h' hk b o e =>
    hk b o (by simpa using Nat.ne_of_lt (Heap.lt_size e)) (Heap.get?_push_of_some _ e)
  refine ⟨s.heap.objs.size, _, _, _, _, _, rfl, Walks.list hh _ l hlI items, Nat.le_trans hsz (by decide), ⟨⟨_, Heap.get?_push_size _ rfl, rfl, rfl⟩, isList_stays hl fun o e => Heap.get?_push_of_some _ e⟩, ?_, ⟨?_, ?_⟩, ?_⟩
  · intro b hb
    rw [sz]
    rcases List.mem_cons.mp hb with rfl | hb
    · exact Nat.lt_succ_self _
    · rw [List.mem_singleton.mp hb]
      obtain ⟨o, e, _⟩ := hl
      exact Nat.lt_succ_of_lt (Heap.lt_size e)
  · intro C i v s₃ m₃ E' _ hv hn₃ hm₃ hk₃ _
    exact tests C v s₃ m₃ E' (Array.mem_of_getElem? hv) hn₃ hm₃ (up _ hk₃)
  · intro C i v s₃ m₃ E' _ hv hp hn₃ hm₃ hk₃ _
    exact helt C v s₃ m₃ E' (Array.mem_of_getElem? hv) hp hn₃ hm₃ (up _ hk₃)
  · intro D h' tk ys vs hD hlD _ hlen hP hF hk'
    rw [same_items hlen hP] at hF
    refine hQ D h' tk ys ?_ hlD hF (up _ hk')
    cases e : s.heap.get? D with
    | none => rfl
    | some o => rw [Heap.get?_push_of_some _ e] at hD; cases hD
theorem compA {z : Str} {pz spos : Pos} {Q : Flow → Shared → Prop} (p : Value → Bool) (F : Value → Value → Prop)
    (hsw : swapsWith (.ListComp elt [⟨.Name x px, .Name y py, ifs, 0⟩] scope pos) (some (.Name z pz)) spos.line env = pure true)
    (hclos : closureFor scope env = pure cl) (hcell : ∀ y ∈ scope.names, y.2 ≠ .cell) (hkind : scope.kind = .function)
    (hnames : ∀ y ∈ scope.names, y.2 = .local → scope.names.lookup y.1 = some .local) (hx : scope.names.lookup x = some .local)
    (hz : env.kindOf z = some .local) (hp : (env.scope.kind == .class || (env.scope.kind == .module && env.locals != env.globals)) = false)
    (hk : env.scope.kind = .function) (hy : env.kindOf y = some .local) (hd : (y == Str.ofString "__debug__") = false) (hn : s.heap.Ns env.locals m) (hm : m y = some (.ref l)) (hl : s.heap.IsList l items) (hsz : items.size ≤ 100) (hh : A.handled = none)
    (tests : ∀ C v s₃ m₃ E', v ∈ items → s₃.heap.Ns C m₃ → m₃ x = some v → Stays s.heap s₃.heap →
      wpAny (model prog w) A (forIn ifs true fun c r => if r = true then do let ok ← isTrue c (compEnvC scope cl C env) (eval c (compEnvC scope cl C env)); pure (ForInStep.yield ok) else pure (ForInStep.yield r))
        (fun ok s₄ => ok = p v ∧ Keeps s₃ s₄) E' s₃)
    (helt : ∀ C v s₃ m₃ E', v ∈ items → p v = true → s₃.heap.Ns C m₃ → m₃ x = some v → Stays s.heap s₃.heap →
      wpAny (model prog w) A (eval elt (compEnvC scope cl C env)) (fun y s₄ => F v y ∧ Keeps s₃ s₄) E' s₃)
    (hQ : ∀ D h' tk ys, s.heap.get? D = none → D ≠ env.locals → h'.IsList D ys → Paired F (items.toList.filter p) ys.toList → h'.Ns env.locals (fun q => if q = z then some (.ref D) else m q) →
      (∀ b o, b ≠ env.locals → s.heap.get? b = some o → h'.get? b = some o) → Q .next { s with heap := h', toks := tk })
    (hs : ∀ x, foldedSetIterable (.Name y py) env x = pure x := by intro _; rfl) :
    wpAny (model prog w) A (exec (.Assign [.Name z pz] (.ListComp elt [⟨.Name x px, .Name y py, ifs, 0⟩] scope pos) spos) env) Q E s := by
  refine wpAny_Assign_ListComp_free p F hsw hclos hcell hkind hnames hx hz hp (wpAny_Name (wpAny_loadName_local hk hy hn hm (wpAny_pyIter_list hl ?_)) hd) hs
  have hlI : l ≠ s.heap.objs.size := by obtain ⟨o, e, _⟩ := hl; exact Nat.ne_of_lt (Heap.lt_size e)
  have up : ∀ (h' : Heap), (∀ b o, b ∉ [s.heap.objs.size] → (s.heap.push { cls := .type "list_iterator", data := .fields #[.ref l, .int 0 0] }).get? b = some o → h'.get? b = some o) → Stays s.heap h' := fun h' hk b o e =>
    hk b o (by simpa using Nat.ne_of_lt (Heap.lt_size e)) (Heap.get?_push_of_some _ e)
  refine ⟨s.heap.objs.size, _, _, _, _, _, m, rfl, Walks.list hh _ l hlI items, Nat.le_trans hsz (by decide), ⟨⟨_, Heap.get?_push_size _ rfl, rfl, rfl⟩, isList_stays hl fun o e => Heap.get?_push_of_some _ e⟩, ?_, ?_, hn.push _, ⟨?_, ?_⟩, ?_⟩
  · intro b hb
    rw [sz]
    rcases List.mem_cons.mp hb with rfl | hb
    · exact Nat.lt_succ_self _
    · rw [List.mem_singleton.mp hb]
      obtain ⟨o, e, _⟩ := hl
      exact Nat.lt_succ_of_lt (Heap.lt_size e)
  · simpa using Nat.ne_of_lt hn.lt
  · intro C i v s₃ m₃ E' _ hv hn₃ hm₃ hk₃ _
    exact tests C v s₃ m₃ E' (Array.mem_of_getElem? hv) hn₃ hm₃ (up _ hk₃)
  · intro C i v s₃ m₃ E' _ hv hp hn₃ hm₃ hk₃ _
    exact helt C v s₃ m₃ E' (Array.mem_of_getElem? hv) hp hn₃ hm₃ (up _ hk₃)
  · intro D h' tk ys vs hD hlD _ hlen hP hF hn' hk'
    rw [same_items hlen hP] at hF
    have hD' : s.heap.get? D = none := by
      cases e : s.heap.get? D with
      | none => rfl
      | some o => rw [Heap.get?_push_of_some _ e] at hD; cases hD
    refine hQ D h' tk ys hD' (fun q => ?_) hlD hF hn' fun b o hb e => hk' b o hb (by simpa using Nat.ne_of_lt (Heap.lt_size e)) (Heap.get?_push_of_some _ e)
    obtain ⟨o, _, _, e, _⟩ := hn
    rw [← q, hD'] at e; cases e
end
end D26
end TS12
section TS13
open PySem PySem.W PyProof.Rows PySem.W.X PySem.Calls
namespace D26
section
variable {prog : Program} {w : World} {A : Around} {E : Value → Shared → Prop} {s : Shared}
theorem pairs_of : ∀ {vs : List Value} {ns : List Int}, IntsAre vs ns → ∃ xs : List (Int × Tok), vs = xs.map (fun p => Value.int p.1 p.2) ∧ ns = xs.map (·.1)
  | _, _, .nil => ⟨[], rfl, rfl⟩
  | _, _, .cons n t h => by
    obtain ⟨xs, rfl, rfl⟩ := pairs_of h
    exact ⟨(n, t) :: xs, rfl, rfl⟩
theorem maxL {l : Addr} {vs : List Value} {ns : List Int} {Q : Value → Shared → Prop} (hh : A.handled = none) (hl : s.heap.IsList l vs.toArray) (hi : IntsAre vs ns) (hne : ns ≠ [])
    (h : ∀ h' M (t : Tok) tk, Stays s.heap h' → M ∈ ns → (∀ a ∈ ns, a ≤ M) → Q (.int M t) { s with heap := h', toks := tk }) :
    wpAny (model prog w) A (call (.builtin "max") [.ref l]) Q E s := by
  obtain ⟨xs, rfl, rfl⟩ := pairs_of hi
  have hx : xs ≠ [] := fun e => hne (by rw [e]; rfl)
  have hlen : 0 < xs.length := List.length_pos_iff.mpr hx
  have e : (xs.map (fun p => Value.int p.1 p.2)).toArray = intItems xs.toArray := by unfold intItems; simp
  rw [e] at hl
  have num : ∀ i (hi : i < xs.length), numAt xs.toArray i = xs[i].1 := fun i hi => by unfold numAt; simp [hi]
  refine max_intList hh hl (by simpa using hlen) fun v h' tk hv hk => ?_
  obtain ⟨t, rfl⟩ := intItems_at hv
  obtain ⟨h1, h2⟩ := argBest_gt (numAt xs.toArray) (xs.toArray.size - 1)
  have h1' : argBest (fun i j => decide (numAt xs.toArray i > numAt xs.toArray j)) (xs.toArray.size - 1) < xs.length := by
    simp only [List.size_toArray] at h1 ⊢; omega
  refine h h' _ t tk hk ?_ ?_
  · rw [num _ h1']
    exact List.mem_map.mpr ⟨_, List.getElem_mem h1', rfl⟩
  · intro a ha
    obtain ⟨p, hp, rfl⟩ := List.mem_map.mp ha
    obtain ⟨i, hi', rfl⟩ := List.getElem_of_mem hp
    have := h2 i (by simp only [List.size_toArray]; omega)
    rw [num i hi'] at this
    exact this
end
abbrev orEnv (L : Addr) : Env := envOfC (Str.ofString "_law_order") (fnScope (modS 5)) L 40 (.ref 39)
def scopeOf : PySem.Expr → Scope
  | .ListComp _ _ s _ => s
  | .Subscript (.ListComp _ _ s _) _ _ => s
  | .Call _ [.ListComp _ _ s _] _ _ => s
  | _ => ⟨.function, [], false, false, []⟩
def valOfS : Stmt → PySem.Expr
  | .Assign _ v _ => v
  | _ => .Constant .none 0 ⟨0, 0, 0, 0⟩
abbrev orS (i : Nat) : Scope := scopeOf (valOfS (nthS i (fnBody (modS 5))))
abbrev orB (i : Nat) : Stmt := nthS i (fnBody (modS 5))
abbrev orCells (L : Addr) : List (Str × Addr) := cellsFrom (L + 1) (fnScope (modS 5)).names []
abbrev nats (pl : List Nat) : List Int := pl.map fun k : Nat => (k : Int)
theorem ints_mem : ∀ {vs : List Value} {ns : List Int} {v : Value}, IntsAre vs ns → v ∈ vs → ∃ n t, v = .int n t ∧ n ∈ ns
  | _, _, _, .nil, h => nomatch h
  | _, _, _, .cons n t r, h => by
    rcases List.mem_cons.mp h with rfl | h
    · exact ⟨n, t, rfl, .head _⟩
    · obtain ⟨k, u, e, m⟩ := ints_mem r h
      exact ⟨k, u, e, .tail _ m⟩
/-- the sizes' list -/
structure Sizes (zs : List Value) (sz : Nat → Int) : Prop where
  at_ : ∀ k, k < zs.length → ∃ t, zs[k]? = some (.int (sz k) t)
  le : zs.length ≤ 50
theorem paired_ints {f : Int → Int} {q : Int → Bool} {p : Value → Bool} (hp : ∀ n t, p (.int n t) = q n) : ∀ {vs : List Value} {ns : List Int} {ys : List Value}, IntsAre vs ns → Paired (fun v y => ∃ n t t', v = .int n t ∧ y = .int (f n) t') (vs.filter p) ys → IntsAre ys ((ns.filter q).map f)
  | _, _, ys, .nil, h => by
    cases h; exact .nil
  | _, _, ys, .cons (vs := vs) (ns := ns) n t r, h => by
    rw [List.filter_cons, hp n t] at h
    rw [List.filter_cons]
    cases hq : q n with
    | true =>
      rw [hq] at h
      simp only [if_true] at h ⊢
      cases h with
      | cons h1 h2 =>
        obtain ⟨n', t1, t2, e1, e2⟩ := h1
        cases e1; subst e2
        exact .cons _ _ (paired_ints hp r h2)
    | false =>
      rw [hq] at h
      simp only [Bool.false_eq_true, if_false] at h ⊢
      exact paired_ints hp r h
section
variable {w : World} {A : Around} {E : Value → Shared → Prop} {s : Shared} {v u : Nat} {P : Params} {h₀ : Heap} {L ls lp : Addr} {m cm : Str → Option Value} {zs ps : List Value} {sz : Nat → Int} {pl : List Nat}
theorem topS {Q : Flow → Shared → Prop} (hh : A.handled = none) (B : Base v u P h₀) (F : Fr h₀ L s.heap m) (X : Cl L (orCells L) s.heap cm) (hc : cm (Str.ofString "sizes") = some (.ref ls)) (hm : m (Str.ofString "places") = some (.ref lp))
    (hs : h₀.IsList ls zs.toArray) (Z : Sizes zs sz) (hp : h₀.IsList lp ps.toArray) (hpi : IntsAre ps (nats pl)) (hpk : ∀ k ∈ pl, k < zs.length) (hpl : pl.length ≤ 50) (hne : pl ≠ [])
    (hQ : ∀ h' M t tk, Fr h₀ L h' m → Cl L (orCells L) h' (fun y => if y = Str.ofString "top" then some (.int M t) else cm y) → M ∈ pl.map sz → (∀ a ∈ pl.map sz, a ≤ M) → Q .next { s with heap := h', toks := tk }) :
    wpAny (model PySem.Challenge.pw_dp0026_01 w) A (exec (orB 1) (orEnv L)) Q E s := by
  show wpAny _ _ (exec (.Assign [.Name (Str.ofString "top") _] (.Call (.Name (Str.ofString "max") _) [.ListComp (.Subscript (.Name (Str.ofString "sizes") _) (.Name (Str.ofString "k") _) _) [⟨.Name (Str.ofString "k") _, .Name (Str.ofString "places") _, [], 0⟩] (orS 1) _] [] _) _) _) _ _ _
  have B1 := B.stays F.keep
  have hlen : ps.length = pl.length := by rw [hpi.length]; simp
  refine wpAny_Assign_Name (wpAny_Call_Name_kw (Name_function_global rfl rfl (loadGlobal_builtin B1.g (g_max P) B1.b (b_max P) ?_)))
  refine PyProof.Rows.callWith_builtin1 (spliced_more ?_)
  refine compF (cl := [(Str.ofString "sizes", L + 1)]) (p := fun _ => true) (F := fun v y => ∃ n t t', v = .int n t ∧ y = .int ((fun n => sz n.toNat) n) t') rfl (by decide) rfl (by decide) rfl rfl rfl rfl F.ns hm (isList_stays hp fun o e => F.keep _ _ e) (by simp; omega) hh ?_ ?_ ?_
  · intro C v s₃ m₃ E' _ _ _ _
    exact wpAny_pure ⟨rfl, _, _, rfl, fun _ _ e => e⟩
  · intro C v s₃ m₃ E' hv _ hn₃ hm₃ st₃
    obtain ⟨n, t, rfl, hn⟩ := ints_mem hpi (by simpa using hv)
    obtain ⟨k, hk, rfl⟩ := List.mem_map.mp hn
    obtain ⟨t', ht'⟩ := Z.at_ k (hpk k hk)
    have c1 : s₃.heap.IsCell (L + 1) (some (.ref ls)) := by
      have := X.cell (Str.ofString "sizes") (L + 1) rfl
      rw [hc] at this
      exact this.keeps st₃
    refine Subscript_Name (wpAny_Name (wpAny_loadName_cell (c := L + 1) rfl rfl rfl c1 (wpAny_Name (wpAny_loadName_local rfl rfl hn₃ hm₃ ?_))))
    refine getL (isList_stays hs fun o e => st₃ _ _ (F.keep _ _ e)) (by omega) (by have := hpk k hk; have := Z.le; omega) (x := .int (sz k) t') (by simpa using ht') ⟨⟨(k : Int), t, t', rfl, rfl⟩, _, _, rfl, fun _ _ e => e⟩
  · intro D h' tk ys hD hlD hF st
    refine spliced_none ?_
    have iy := paired_ints (f := fun n => sz n.toNat) (q := fun _ => true) (fun _ _ => rfl) hpi hF
    rw [List.filter_eq_self.mpr fun _ _ => rfl] at iy
    rw [show (nats pl).map (fun n => sz n.toNat) = pl.map sz by simp [nats, List.map_map, Function.comp_def]] at iy
    refine maxL (vs := ys.toList) hh hlD iy (by simpa using hne) fun h₂ M t tk₂ st₂ h1 h2 => ?_
    have F2 : Fr h₀ L h₂ m := ⟨(F.ns.keeps st).keeps st₂, fun b o e => st₂ b o (st b o (F.keep b o e)), F.above⟩
    refine stC F2 ((X.keeps st).keeps st₂) (c := L + 1 + 1) rfl fun h₃ F3 X3 => hQ h₃ M t _ F3 X3 h1 h2
theorem one_test {prog : Program} {c : PySem.Expr} {cenv : Env} {Q : Bool → Shared → Prop} (h : wpAny (model prog w) A (isTrue c cenv (eval c cenv)) Q E s) :
    wpAny (model prog w) A (forIn [c] true fun c r => if r = true then do let ok ← isTrue c cenv (eval c cenv); pure (ForInStep.yield ok) else pure (ForInStep.yield r)) Q E s := by
  simp only [List.forIn_cons, List.forIn_nil, if_true, bind_assoc, pure_bind]
  exact wpAny_bind (wpAny_mono h (fun b s' hb => wpAny_pure hb) fun _ _ e => e)
def intP (q : Int → Bool) : Value → Bool
  | .int n _ => q n
  | _ => false
theorem firstS {Q : Flow → Shared → Prop} {M : Int} {tM : Tok} (hh : A.handled = none) (B : Base v u P h₀) (F : Fr h₀ L s.heap m) (X : Cl L (orCells L) s.heap cm) (hc : cm (Str.ofString "sizes") = some (.ref ls)) (hc2 : cm (Str.ofString "top") = some (.int M tM)) (hm : m (Str.ofString "places") = some (.ref lp))
    (hs : h₀.IsList ls zs.toArray) (Z : Sizes zs sz) (hp : h₀.IsList lp ps.toArray) (hpi : IntsAre ps (nats pl)) (hpk : ∀ k ∈ pl, k < zs.length) (hpl : pl.length ≤ 50) (hM : M ∈ pl.map sz)
    (hQ : ∀ h' f t tk, Fr h₀ L h' m → Cl L (orCells L) h' (fun y => if y = Str.ofString "first" then some (.int (f : Nat) t) else cm y) → (pl.filter fun k => decide (sz k = M)).head? = some f → Q .next { s with heap := h', toks := tk }) :
    wpAny (model PySem.Challenge.pw_dp0026_01 w) A (exec (orB 2) (orEnv L)) Q E s := by
  show wpAny _ _ (exec (.Assign [.Name (Str.ofString "first") _] (.Subscript (.ListComp (.Name (Str.ofString "k") _) [⟨.Name (Str.ofString "k") _, .Name (Str.ofString "places") _, [.Compare (.Subscript (.Name (Str.ofString "sizes") _) (.Name (Str.ofString "k") _) _) [.Eq] [.Name (Str.ofString "top") _] _], 0⟩] (orS 2) _) (.Constant (.int 0) _ _) _) _) _) _ _ _
  have hlen : ps.length = pl.length := by rw [hpi.length]; simp
  refine wpAny_Assign_Name (Subscript_ ?_)
  refine compF (cl := [(Str.ofString "top", L + 1 + 1), (Str.ofString "sizes", L + 1)]) (p := intP fun n => decide (sz n.toNat = M)) (F := fun v y => ∃ n t t', v = .int n t ∧ y = .int ((fun n => n) n) t') rfl (by decide) rfl (by decide) rfl rfl rfl rfl F.ns hm (isList_stays hp fun o e => F.keep _ _ e) (by simp; omega) hh ?_ ?_ ?_
  · intro C v s₃ m₃ E' hv hn₃ hm₃ st₃
    obtain ⟨n, t, rfl, hn⟩ := ints_mem hpi (by simpa using hv)
    obtain ⟨k, hk, rfl⟩ := List.mem_map.mp hn
    obtain ⟨t', ht'⟩ := Z.at_ k (hpk k hk)
    have c1 : s₃.heap.IsCell (L + 1) (some (.ref ls)) := by
      have := X.cell (Str.ofString "sizes") (L + 1) rfl
      rw [hc] at this
      exact this.keeps st₃
    have c2 : s₃.heap.IsCell (L + 1 + 1) (some (.int M tM)) := by
      have := X.cell (Str.ofString "top") (L + 1 + 1) rfl
      rw [hc2] at this
      exact this.keeps st₃
    refine one_test (wpAny_isTrue_Compare1 (Subscript_Name (wpAny_Name (wpAny_loadName_cell (c := L + 1) rfl rfl rfl c1 (wpAny_Name (wpAny_loadName_local rfl rfl hn₃ hm₃ ?_))))))
    refine getL (isList_stays hs fun o e => st₃ _ _ (F.keep _ _ e)) (by omega) (by have := hpk k hk; have := Z.le; omega) (x := .int (sz k) t') (by simpa using ht') ?_
    refine wpAny_Name (wpAny_loadName_cell (c := L + 1 + 1) rfl rfl rfl c2 (eq_int (wpAny_truthy_bool ⟨?_, _, _, rfl, fun _ _ e => e⟩)))
    show (sz k == M) = decide (sz (k : Int).toNat = M)
    rfl
  · intro C v s₃ m₃ E' hv _ hn₃ hm₃ st₃
    obtain ⟨n, t, rfl, hn⟩ := ints_mem hpi (by simpa using hv)
    refine wpAny_Name (wpAny_loadName_local rfl rfl hn₃ hm₃ ⟨⟨n, t, t, rfl, rfl⟩, _, _, rfl, fun _ _ e => e⟩)
  · intro D h' tk ys hD hlD hF st
    have iy := paired_ints (f := fun n => n) (q := fun n => decide (sz n.toNat = M)) (fun _ _ => rfl) hpi hF
    have e1 : ((nats pl).filter fun n => decide (sz n.toNat = M)).map (fun n => n) = nats (pl.filter fun k => decide (sz k = M)) := by
      rw [List.map_id', nats, List.filter_map]
      rfl
    rw [e1] at iy
    cases e : pl.filter (fun k => decide (sz k = M)) with
    | nil =>
      obtain ⟨k, hk, rfl⟩ := List.mem_map.mp hM
      have := List.filter_eq_nil_iff.mp e k hk
      simp at this
    | cons f rest =>
      rw [e] at iy
      have hd : ∃ t, ys[0]? = some (.int (f : Nat) t) := by
        have : ∀ {l : List Value}, IntsAre l (nats (f :: rest)) → ∃ t, l[0]? = some (.int (f : Nat) t) := by
          intro l hl
          cases hl with
          | cons n t r => exact ⟨t, rfl⟩
        obtain ⟨t, ht⟩ := this iy
        exact ⟨t, by simpa using ht⟩
      obtain ⟨t, ht⟩ := hd
      refine wpAny_Constant_int (subscriptTail_builtinR (x := .int (f : Nat) t) hlD.typeIs slot_list_getitem.lookup (wpAny_getItem_list hlD (by decide) (by decide) ht ⟨rfl, ?_⟩))
      have F2 : Fr h₀ L h' m := ⟨F.ns.keeps st, fun b o e => st b o (F.keep b o e), F.above⟩
      refine stC F2 (X.keeps st) (c := L + 1 + 1 + 1) rfl fun h₃ F3 X3 => hQ h₃ f t _ F3 X3 (by rw [e]; rfl)
end
end D26
end TS13
section TS14
open PySem PySem.W PyProof.Rows PySem.W.X PySem.Calls
namespace D26
section
variable {w : World} {A : Around} {E : Value → Shared → Prop} {s : Shared} {v u : Nat} {P : Params} {h₀ : Heap} {L ls lp : Addr} {m cm : Str → Option Value} {zs ps : List Value} {sz : Nat → Int} {pl : List Nat}
theorem aheadS {Q : Flow → Shared → Prop} {f : Nat} {tf : Tok} (hh : A.handled = none) (hn : s.heap.Ns L m) (c3 : s.heap.IsCell (L + 1 + 1 + 1) (some (.int (f : Nat) tf))) (hm : m (Str.ofString "places") = some (.ref lp))
    (hp : s.heap.IsList lp ps.toArray) (hpi : IntsAre ps (nats pl)) (hpl : pl.length ≤ 50)
    (hQ : ∀ D h' tk (ys : List Value), D ≠ L → h'.IsList D ys.toArray → IntsAre ys (nats (pl.filter fun k => decide (k < f))) → h'.Ns L (fun q => if q = Str.ofString "ahead" then some (.ref D) else m q) → (∀ b o, b ≠ L → s.heap.get? b = some o → h'.get? b = some o) → Q .next { s with heap := h', toks := tk }) :
    wpAny (model PySem.Challenge.pw_dp0026_01 w) A (exec (orB 3) (orEnv L)) Q E s := by
  show wpAny _ _ (exec (.Assign [.Name (Str.ofString "ahead") _] (.ListComp (.Name (Str.ofString "k") _) [⟨.Name (Str.ofString "k") _, .Name (Str.ofString "places") _, [.Compare (.Name (Str.ofString "k") _) [.Lt] [.Name (Str.ofString "first") _] _], 0⟩] (orS 3) _) _) _) _ _ _
  have hlen : ps.length = pl.length := by rw [hpi.length]; simp
  refine compA (cl := [(Str.ofString "first", L + 1 + 1 + 1)]) (p := intP fun n => decide (n < (f : Int))) (F := fun v y => ∃ n t t', v = .int n t ∧ y = .int ((fun n => n) n) t') rfl rfl (by decide) rfl (by decide) rfl rfl rfl rfl rfl rfl hn hm hp (by simp; omega) hh ?_ ?_ ?_
  · intro C v s₃ m₃ E' hv hn₃ hm₃ st₃
    obtain ⟨n, t, rfl, hn⟩ := ints_mem hpi (by simpa using hv)
    refine one_test (wpAny_isTrue_Compare1 (wpAny_Name (wpAny_loadName_local rfl rfl hn₃ hm₃ (wpAny_Name (wpAny_loadName_cell (c := L + 1 + 1 + 1) rfl rfl rfl (c3.keeps st₃) (lt_int (wpAny_truthy_bool ⟨?_, _, _, rfl, fun _ _ e => e⟩)))))))
    rfl
  · intro C v s₃ m₃ E' hv _ hn₃ hm₃ st₃
    obtain ⟨n, t, rfl, hn⟩ := ints_mem hpi (by simpa using hv)
    refine wpAny_Name (wpAny_loadName_local rfl rfl hn₃ hm₃ ⟨⟨n, t, t, rfl, rfl⟩, _, _, rfl, fun _ _ e => e⟩)
  · intro D h' tk ys hD hDL hlD hF hn' st
    have iy := paired_ints (f := fun n => n) (q := fun n => decide (n < (f : Int))) (fun _ _ => rfl) hpi hF
    have e1 : ((nats pl).filter fun n => decide (n < (f : Int))).map (fun n => n) = nats (pl.filter fun k => decide (k < f)) := by
      rw [List.map_id', nats, List.filter_map]
      congr 1
      apply List.filter_congr
      intro k _
      simp
    rw [e1] at iy
    exact hQ D h' tk ys.toList hDL hlD iy hn' st
theorem behindS {Q : Flow → Shared → Prop} {f : Nat} {tf : Tok} (hh : A.handled = none) (hn : s.heap.Ns L m) (c3 : s.heap.IsCell (L + 1 + 1 + 1) (some (.int (f : Nat) tf))) (hm : m (Str.ofString "places") = some (.ref lp))
    (hp : s.heap.IsList lp ps.toArray) (hpi : IntsAre ps (nats pl)) (hpl : pl.length ≤ 50)
    (hQ : ∀ D h' tk (ys : List Value), D ≠ L → h'.IsList D ys.toArray → IntsAre ys (nats (pl.filter fun k => decide (f < k))) → h'.Ns L (fun q => if q = Str.ofString "behind" then some (.ref D) else m q) → (∀ b o, b ≠ L → s.heap.get? b = some o → h'.get? b = some o) → Q .next { s with heap := h', toks := tk }) :
    wpAny (model PySem.Challenge.pw_dp0026_01 w) A (exec (orB 4) (orEnv L)) Q E s := by
  show wpAny _ _ (exec (.Assign [.Name (Str.ofString "behind") _] (.ListComp (.Name (Str.ofString "k") _) [⟨.Name (Str.ofString "k") _, .Name (Str.ofString "places") _, [.Compare (.Name (Str.ofString "k") _) [.Gt] [.Name (Str.ofString "first") _] _], 0⟩] (orS 4) _) _) _) _ _ _
  have hlen : ps.length = pl.length := by rw [hpi.length]; simp
  refine compA (cl := [(Str.ofString "first", L + 1 + 1 + 1)]) (p := intP fun n => decide (n > (f : Int))) (F := fun v y => ∃ n t t', v = .int n t ∧ y = .int ((fun n => n) n) t') rfl rfl (by decide) rfl (by decide) rfl rfl rfl rfl rfl rfl hn hm hp (by simp; omega) hh ?_ ?_ ?_
  · intro C v s₃ m₃ E' hv hn₃ hm₃ st₃
    obtain ⟨n, t, rfl, hn⟩ := ints_mem hpi (by simpa using hv)
    refine one_test (wpAny_isTrue_Compare1 (wpAny_Name (wpAny_loadName_local rfl rfl hn₃ hm₃ (wpAny_Name (wpAny_loadName_cell (c := L + 1 + 1 + 1) rfl rfl rfl (c3.keeps st₃) (gt_int (wpAny_truthy_bool ⟨?_, _, _, rfl, fun _ _ e => e⟩)))))))
    rfl
  · intro C v s₃ m₃ E' hv _ hn₃ hm₃ st₃
    obtain ⟨n, t, rfl, hn⟩ := ints_mem hpi (by simpa using hv)
    refine wpAny_Name (wpAny_loadName_local rfl rfl hn₃ hm₃ ⟨⟨n, t, t, rfl, rfl⟩, _, _, rfl, fun _ _ e => e⟩)
  · intro D h' tk ys hD hDL hlD hF hn' st
    have iy := paired_ints (f := fun n => n) (q := fun n => decide (n > (f : Int))) (fun _ _ => rfl) hpi hF
    have e1 : ((nats pl).filter fun n => decide (n > (f : Int))).map (fun n => n) = nats (pl.filter fun k => decide (f < k)) := by
      rw [List.map_id', nats, List.filter_map]
      congr 1
      apply List.filter_congr
      intro k _
      simp
    rw [e1] at iy
    exact hQ D h' tk ys.toList hDL hlD iy hn' st
end
end D26
end TS14
section TS15
open PySem PySem.W PyProof.Rows PySem.W.X PySem.Calls
namespace D26
theorem three_parts (f : Nat) : ∀ pl : List Nat, (pl.filter fun k => decide (k < f)).length + (pl.filter fun k => decide (f < k)).length + (pl.filter fun k => decide (k = f)).length = pl.length
  | [] => rfl
  | x :: pl => by
    have := three_parts f pl
    simp only [List.filter_cons]
    rcases Nat.lt_trichotomy x f with h | h | h
    · simp [h, Nat.not_lt.mpr (Nat.le_of_lt h), Nat.ne_of_lt h]; omega
    · subst h; simp; omega
    · simp [h, Nat.not_lt.mpr (Nat.le_of_lt h), Nat.ne_of_gt h]; omega
theorem two_parts {f : Nat} {pl : List Nat} (hf : f ∈ pl) : (pl.filter fun k => decide (k < f)).length + (pl.filter fun k => decide (f < k)).length + 1 ≤ pl.length := by
  have := three_parts f pl
  have : 0 < (pl.filter fun k => decide (k = f)).length := List.length_pos_of_mem (List.mem_filter.mpr ⟨hf, by simp⟩)
  omega
section
variable {prog : Program} {w : World} {A : Around} {E : Value → Shared → Prop} {s : Shared}
theorem addL {l b : Addr} {vs ws : List Value} {Q : Value → Shared → Prop} (hl : s.heap.IsList l vs.toArray) (hb : s.heap.IsList b ws.toArray) (hsz : vs.length + ws.length ≤ 200)
    (h : Q (.ref s.heap.objs.size) { s with heap := s.heap.push (lst (vs ++ ws) 0) }) :
    wpAny (model prog w) A (binaryOp .Add (.ref l) (.ref b)) Q E s := by
  obtain ⟨⟨c1, d1, a1, s1⟩, ho, hc, n1, hd⟩ := hl
  obtain ⟨⟨c2, d2, a2, s2⟩, ho2, hc2, n2, hd2⟩ := hb
  dsimp only at hc hd hc2 hd2
  subst hc hd hc2 hd2
  refine concat_meets ⟨_, ho, rfl⟩ ⟨_, ho2, rfl⟩ noFill_list_add seq_list_add PySem.F.slot_list_add PySem.F.entry_list_add (PySem.F.args_list_add_2 _ _) (list_addW l b vs.toArray ws.toArray n1 n2 d1 d2 s1 s2 (Nat.le_trans (by simpa using hsz) (show 200 ≤ sizeLine by decide))) ⟨ho, ho2, ?_⟩
  rw [List.append_toArray] at *
  exact h
end
section
variable (w : World) (v u : Nat) (P : Params) (zs : List Value) (sz : Nat → Int) (ls : Addr)
def OrderOk (n : Nat) : Prop := ∀ (A : Around) (s : Shared) (E Q : Value → Shared → Prop) (lp : Addr) (ps : List Value) (pl : List Nat), pl.length < n → A.handled = none → A.depth + pl.length + 2 < recursionLimit → A.units + 3 * pl.length + 10 < cLine →
  Base v u P s.heap → s.heap.IsList ls zs.toArray → s.heap.IsList lp ps.toArray → IntsAre ps (nats pl) → (∀ k ∈ pl, k < zs.length) → pl.length ≤ 50 →
  (∀ h' tk r (rs : List Value) out, Stays s.heap h' → h'.IsList r rs.toArray → IntsAre rs (nats out) → Ord sz pl out → out.length ≤ pl.length → Q (.ref r) { s with heap := h', toks := tk }) →
  wpAny (model PySem.Challenge.pw_dp0026_01 w) A (call (.ref 40) [.ref ls, .ref lp]) Q E s
end
section
variable {w : World} {A : Around} {E : Value → Shared → Prop} {s : Shared} {v u : Nat} {P : Params} {h₀ : Heap} {L ls lp : Addr} {m cm : Str → Option Value} {zs ps : List Value} {sz : Nat → Int} {pl : List Nat}
theorem isCell_but {h h' : Heap} {c b : Addr} {x : Option Value} (X : h.IsCell c x) (hs : ∀ a o, a ≠ b → h.get? a = some o → h'.get? a = some o) (hb : c ≠ b) : h'.IsCell c x := by
  obtain ⟨o, e, r⟩ := X
  exact ⟨o, hs c o hb e, r⟩
/-- the last statement -/
theorem retS {n : Nat} {la lb : Addr} {as bs : List Value} {f : Nat} {tf : Tok} {Q : Flow → Shared → Prop} (IH : OrderOk w v u P zs sz ls n) (hh : A.handled = none) (hdep : A.depth + pl.length + 1 < recursionLimit) (hun : A.units + 3 * pl.length + 7 < cLine) (hn' : pl.length ≤ n)
    (B : Base v u P s.heap) (hs : s.heap.IsList ls zs.toArray) (hpk : ∀ k ∈ pl, k < zs.length) (hpl : pl.length ≤ 50) (hf : f ∈ pl)
    (hn : s.heap.Ns L m) (c1 : s.heap.IsCell (L + 1) (some (.ref ls))) (c3 : s.heap.IsCell (L + 1 + 1 + 1) (some (.int (f : Nat) tf))) (hma : m (Str.ofString "ahead") = some (.ref la)) (hmb : m (Str.ofString "behind") = some (.ref lb))
    (ha : s.heap.IsList la as.toArray) (hai : IntsAre as (nats (pl.filter fun k => decide (k < f)))) (hb : s.heap.IsList lb bs.toArray) (hbi : IntsAre bs (nats (pl.filter fun k => decide (f < k))))
    (hQ : ∀ h' tk r (rs : List Value) a b, Stays s.heap h' → h'.IsList r rs.toArray → IntsAre rs (nats (a ++ b ++ [f])) → Ord sz (pl.filter fun k => decide (k < f)) a → Ord sz (pl.filter fun k => decide (f < k)) b → (a ++ b ++ [f]).length ≤ pl.length → Q (.ret (.ref r)) { s with heap := h', toks := tk }) :
    wpAny (model PySem.Challenge.pw_dp0026_01 w) A (exec (orB 5) (orEnv L)) Q E s := by
  have h2 := two_parts hf
  show wpAny _ _ (exec (.Return (some (.BinOp (.BinOp (.Call (.Name (Str.ofString "_law_order") _) [.Name (Str.ofString "sizes") _, .Name (Str.ofString "ahead") _] [] _) .Add (.Call (.Name (Str.ofString "_law_order") _) [.Name (Str.ofString "sizes") _, .Name (Str.ofString "behind") _] [] _) _) .Add (.List [.Name (Str.ofString "first") _] _) _)) _) _) _ _ _
  have fnk : ∀ {h : Heap}, Base v u P h → FnAt 40 h := fun B => ⟨_, _, _, _, B.kb _ _ (kb40 P)⟩
  refine wpAny_Return_some (wpAny_BinOp (wpAny_BinOp (wpAny_Call_Name_kw (Name_function_global rfl rfl (loadGlobal_global B.g (g_order P) ?_)))))
  refine callWith_F (fnk B) (spliced_more (wpAny_Name (wpAny_loadName_cell (c := L + 1) rfl rfl rfl c1 ?_)))
  refine spliced_more (wpAny_Name (wpAny_loadName_local rfl rfl hn hma (spliced_none ⟨fnk B, ?_⟩)))
  refine IH _ _ _ _ _ _ _ (by omega) hh (by omega) (by omega) B hs ha hai (fun k hk => hpk k (List.mem_filter.mp hk).1) (by omega) fun h₁ tk₁ r₁ rs₁ oa st₁ l₁ i₁ o₁ n₁ => ?_
  have B1 := B.stays st₁
  refine wpAny_Call_Name_kw (Name_function_global rfl rfl (loadGlobal_global B1.g (g_order P) ?_))
  refine callWith_F (fnk B1) (spliced_more (wpAny_Name (wpAny_loadName_cell (c := L + 1) rfl rfl rfl (c1.keeps st₁) ?_)))
  refine spliced_more (wpAny_Name (wpAny_loadName_local rfl rfl (hn.keeps st₁) hmb (spliced_none ⟨fnk B1, ?_⟩)))
  refine IH _ _ _ _ _ _ _ (by omega) hh (by omega) (by omega) B1 (isList_stays hs fun o e => st₁ _ _ e) (isList_stays hb fun o e => st₁ _ _ e) hbi (fun k hk => hpk k (List.mem_filter.mp hk).1) (by omega) fun h₂ tk₂ r₂ rs₂ ob st₂ l₂ i₂ o₂ n₂ => ?_
  have e1 : rs₁.length = oa.length := by rw [i₁.length]; simp
  have e2 : rs₂.length = ob.length := by rw [i₂.length]; simp
  refine addL (isList_stays l₁ fun o e => st₂ _ _ e) l₂ (by omega) ?_
  refine wpAny_List (spliced_more (wpAny_Name (wpAny_loadName_cell (c := L + 1 + 1 + 1) rfl rfl rfl (((c3.keeps st₁).keeps st₂).keeps fun _ _ e => Heap.get?_push_of_some _ e) (spliced_none ⟨by show 1 ≤ sizeLine; decide, ?_⟩))))
  refine addL (vs := rs₁ ++ rs₂) (ws := [.int (f : Nat) tf]) ⟨_, Heap.get?_push_of_some _ (Heap.get?_push_size h₂ rfl), rfl, _, rfl⟩ ⟨_, Heap.get?_push_size _ rfl, rfl, _, rfl⟩ (by simp; omega) ?_
  refine hQ _ _ _ (rs₁ ++ rs₂ ++ [.int (f : Nat) tf]) oa ob (fun b o e => Heap.get?_push_of_some _ (Heap.get?_push_of_some _ (Heap.get?_push_of_some _ (st₂ b o (st₁ b o e))))) ⟨_, Heap.get?_push_size _ rfl, rfl, _, rfl⟩ ?_ o₁ o₂ (by simp; omega)
  rw [show nats (oa ++ ob ++ [f]) = nats oa ++ nats ob ++ [(f : Int)] by simp [nats]]
  exact (i₁.append i₂).append (.cons _ _ .nil)
end
end D26
end TS15
section TS16
open PySem PySem.W PyProof.Rows PySem.W.X PySem.Calls
namespace D26
section
variable {w : World} {A : Around} {E : Value → Shared → Prop} {s : Shared} {v u : Nat} {P : Params} {h₀ : Heap} {L ls lp : Addr} {m cm : Str → Option Value} {zs ps : List Value} {sz : Nat → Int} {pl : List Nat}
/-- `places == []` -/
theorem testS {Q : Bool → Shared → Prop} {p1 p2 p3 : Pos} {whole : Sem Value} (hu : A.units < cLine) (hn : s.heap.Ns L m) (hm : m (Str.ofString "places") = some (.ref lp)) (hp : s.heap.IsList lp ps.toArray) (hlen : ps.length = pl.length)
    (hQ : ∀ h' tk, Stays s.heap h' → Q (decide (pl = [])) { s with heap := h', toks := tk }) :
    wpAny (model PySem.Challenge.pw_dp0026_01 w) A (isTrue (.Compare (.Name (Str.ofString "places") p1) [.Eq] [.List [] p2] p3) (orEnv L) whole) Q E s := by
  refine wpAny_isTrue_Compare1 (wpAny_Name (wpAny_loadName_local rfl rfl hn hm (wpAny_List (spliced_none ⟨by decide, ?_⟩))))
  have st : Stays s.heap (s.heap.push { cls := .type "list", data := .seq ([] : List Value).toArray }) := fun b o e => Heap.get?_push_of_some _ e
  have hp' := isList_stays hp fun o e => st _ _ e
  have he : (s.heap.push { cls := .type "list", data := .seq ([] : List Value).toArray }).IsList s.heap.objs.size ([] : List Value).toArray := ⟨_, Heap.get?_push_size _ rfl, rfl, _, rfl⟩
  have := hQ _ s.toks st
  show wpAny _ _ (richCompare .Eq _ _) _ _ _
  by_cases e : pl = []
  · rw [decide_eq_true e] at this
    have hps : ps = [] := List.length_eq_zero_iff.mp (by rw [hlen, e]; rfl)
    subst hps
    exact SeqAt.RcAt.lists (s := { s with heap := _ }) (e := fun _ => true) hp' he rfl hu (fun j h1 => absurd h1 (by simp)) _ _ _ _ (wpAny_truthy_bool this)
  · rw [decide_eq_false e] at this
    have hps : ps.length ≠ 0 := by rw [hlen]; exact fun q => e (List.length_eq_zero_iff.mp q)
    exact SeqAt.RcAt.lists_lengths (s := { s with heap := _ }) hp' he (by simpa using hps) hu _ _ _ _ (wpAny_truthy_bool this)
theorem order_step {n : Nat} (Z : Sizes zs sz) (IH : OrderOk w v u P zs sz ls n) : OrderOk w v u P zs sz ls (n + 1) := by
  intro A s E Q lp ps pl hlt hh hdep hun B hs hp hpi hpk hpl hQ
  have hlen : ps.length = pl.length := by rw [hpi.length]; simp
  refine wpAny_call (call_cells_ret (name := Str.ofString "_law_order") (params := fnParams (modS 5)) (body := fnBody (modS 5)) (scope := fnScope (modS 5)) (pm := .str sLaw 207) (cd := .ref 39) (doc := .none) (by omega) (B.kb _ _ (kb40 P)) rfl B.lim (codeRec_of B.kb (kb39 P))
    (binds := [(Str.ofString "sizes", .ref ls), (Str.ofString "places", .ref lp)]) rfl ?_ fun h₁ tk₁ F X => ?_)
  · intro x hx
    rcases List.mem_cons.mp hx with rfl | hx
    · exact .inr ⟨rfl, rfl⟩
    · rw [List.mem_singleton.mp hx]; exact .inl rfl
  have B1 := B.stays F.keep
  show wpAny _ _ (execs [.If (.Compare (.Name (Str.ofString "places") _) [.Eq] [.List [] _] _) [.Return (some (.List [] _)) _] [] _, orB 1, orB 2, orB 3, orB 4, orB 5] (orEnv s.heap.objs.size)) _ _ _
  refine wpAny_execs_cons (wpAny_If ?_)
  refine testS (pl := pl) (lp := lp) (show A.units + 3 < cLine by omega) F.ns rfl (isList_stays hp fun o e => F.keep _ _ e) hlen fun h₂ tk₂ st₂ => ?_
  by_cases e : pl = []
  · rw [decide_eq_true e, if_pos rfl]
    refine wpAny_execs_cons (wpAny_Return_some (wpAny_List (spliced_none ⟨by decide, ?_⟩)))
    subst e
    exact hQ _ _ _ [] [] (fun b o e => Heap.get?_push_of_some _ (st₂ b o (F.keep b o e))) ⟨_, Heap.get?_push_size _ rfl, rfl, _, rfl⟩ .nil .nil (Nat.le_refl _)
  rw [decide_eq_false e, if_neg (by decide)]
  refine wpAny_execs_nil (wpAny_execs_cons ?_)
  have F2 : Fr s.heap s.heap.objs.size h₂ _ := ⟨F.ns.keeps st₂, fun b o e => st₂ b o (F.keep b o e), F.above⟩
  refine topS (s := { s with heap := h₂, toks := _ }) (lp := lp) (ls := ls) hh B F2 (X.keeps st₂) rfl rfl hs Z hp hpi hpk hpl e fun h₃ M tM tk₃ F3 X3 hM hmax => ?_
  refine wpAny_execs_cons (firstS (s := { s with heap := h₃, toks := _ }) (lp := lp) (ls := ls) hh B F3 X3 rfl rfl rfl hs Z hp hpi hpk hpl hM fun h₄ f tf tk₄ F4 X4 hf => ?_)
  have hfm := List.mem_filter.mp (List.mem_of_mem_head? hf)
  have hfM : sz f = M := of_decide_eq_true hfm.2
  have c1 : h₄.IsCell (s.heap.objs.size + 1) (some (.ref ls)) := X4.cell (Str.ofString "sizes") _ rfl
  have c3 : h₄.IsCell (s.heap.objs.size + 1 + 1 + 1) (some (.int (f : Nat) tf)) := X4.cell (Str.ofString "first") _ rfl
  have ne : ∀ b o, s.heap.get? b = some o → b ≠ s.heap.objs.size := fun b o e => Nat.ne_of_lt (Heap.lt_size e)
  refine wpAny_execs_cons (aheadS (s := { s with heap := h₄, toks := _ }) (lp := lp) hh F4.ns c3 rfl (isList_stays hp fun o e => F4.keep _ _ e) hpi hpl fun D h₅ tk₅ as hD hla hai n5 st₅ => ?_)
  have st5' : Stays s.heap h₅ := fun b o e => st₅ b o (ne b o e) (F4.keep b o e)
  have c1' := isCell_but (b := s.heap.objs.size) c1 (fun a o h e => st₅ a o h e) (show s.heap.objs.size + 1 ≠ s.heap.objs.size by omega)
  have c3' := isCell_but (b := s.heap.objs.size) c3 (fun a o h e => st₅ a o h e) (show s.heap.objs.size + 1 + 1 + 1 ≠ s.heap.objs.size by omega)
  refine wpAny_execs_cons (behindS (s := { s with heap := h₅, toks := _ }) (lp := lp) hh n5 c3' rfl (isList_stays hp fun o e => st5' _ _ e) hpi hpl fun D' h₆ tk₆ bs hD' hlb hbi n6 st₆ => ?_)
  have st6' : Stays s.heap h₆ := fun b o e => st₆ b o (ne b o e) (st5' b o e)
  have c1'' := isCell_but (b := s.heap.objs.size) c1' (fun a o h e => st₆ a o h e) (show s.heap.objs.size + 1 ≠ s.heap.objs.size by omega)
  have c3'' := isCell_but (b := s.heap.objs.size) c3' (fun a o h e => st₆ a o h e) (show s.heap.objs.size + 1 + 1 + 1 ≠ s.heap.objs.size by omega)
  refine wpAny_execs_cons (retS (s := { s with heap := h₆, toks := _ }) IH hh (show A.depth + 1 + pl.length + 1 < recursionLimit by omega) (show A.units + 3 + 3 * pl.length + 7 < cLine by omega) (by omega) (B.stays st6') (isList_stays hs fun o e => st6' _ _ e) hpk hpl hfm.1 n6 c1'' c3'' rfl rfl
    (isList_stays hla fun o e => st₆ _ _ hD e) hai hlb hbi fun h₇ tk₇ r rs a b st₇ lr ir oa ob hl => ?_)
  refine hQ h₇ tk₇ r rs (a ++ b ++ [f]) (fun b o e => st₇ b o (st6' b o e)) lr ir (.cons (fun k hk => ?_) ?_ oa ob) hl
  · rw [hfM]; exact hmax _ (List.mem_map.mpr ⟨k, hk, rfl⟩)
  · rw [hfM]; exact hf
theorem order_all (Z : Sizes zs sz) : ∀ n, OrderOk w v u P zs sz ls n
  | 0 => fun _ _ _ _ _ _ _ h => absurd h (Nat.not_lt_zero _)
  | n + 1 => order_step Z (order_all Z n)
end
end D26
end TS16
section TS17
open PySem PySem.W PyProof.Rows PySem.W.X PySem.Calls
namespace D26
abbrev laB (i : Nat) : Stmt := nthS i lawStmts
abbrev keysScope : Scope := scopeOf (valOfS (laB 2))
theorem kcall (v u : Nat) (P : Params) : keepIn (kls v u P) (.ref 116) = true := by kernel_rfl
structure KeysAt (h : Heap) (ks : List Addr) (ns : List Int) : Prop where
  at_ : ∀ (i : Nat) a x, ks[i]? = some a → ns[i]? = some x → KeyAt h a x
theorem KeysAt.stays {h h' : Heap} {ks : List Addr} {ns : List Int} (K : KeysAt h ks ns) (st : Stays h h') : KeysAt h' ks ns := ⟨fun i a x e1 e2 => (K.at_ i a x e1 e2).stays st⟩
abbrev refs (ks : List Addr) : List Value := ks.map Value.ref
section
variable {w : World} {E : Value → Shared → Prop} {s : Shared} {v u : Nat} {ln : Addr} {m : Str → Option Value} {vs : List Value} {ns : List Int}
theorem ints_at : ∀ {vs : List Value} {ns : List Int} {i : Nat} {v : Value}, IntsAre vs ns → vs[i]? = some v → ∃ n t, v = .int n t ∧ ns[i]? = some n
  | _, _, i, _, .nil, h => by simp at h
  | _, _, 0, _, .cons n t r, h => by cases h; exact ⟨n, t, rfl, rfl⟩
  | _, _, i + 1, _, .cons n t r, h => ints_at (i := i) r (by simpa using h)
abbrev kEnv (C : Addr) : Env := compEnvC keysScope [(Str.ofString "make", 48)] C lawEnv
theorem keyAt_keep {h h' : Heap} {a I C D l : Addr} {x : Int} {i n : Nat} {its : List Value} {m' : Str → Option Value} {q : Str} {y : Value} (K : KeyAt h a x) (hI : h.IsListIter I l i) (hD : h.get? D = some (lst its n)) (hC : h.Ns C m') (hq : m' q = some y)
    (keep : ∀ b o, b ≠ I → b ≠ C → b ≠ D → h.get? b = some o → h'.get? b = some o) : KeyAt h' a x := by
  obtain ⟨da, t, e1, e2⟩ := K.ex
  obtain ⟨oI, eI, cI, _⟩ := hI
  obtain ⟨oC, es, ep, eC, dC, kC, fC⟩ := hC
  refine ⟨da, t, keep _ _ ?_ ?_ ?_ e1, keep _ _ ?_ ?_ ?_ e2⟩
  · rintro rfl; rw [e1] at eI; cases eI; cases cI
  · rintro rfl; rw [e1] at eC; cases eC; cases dC
  · rintro rfl; rw [e1] at hD; cases hD
  · rintro rfl; rw [e2] at eI; cases eI; exact absurd cI (by decide)
  · rintro rfl; rw [e2] at eC; cases eC; cases dC
    have := fC q
    rw [hq] at this
    exact absurd this (by show nsFind #[] q ≠ some y; intro z; cases z)
  · rintro rfl; rw [e2] at hD; exact absurd (congrArg (fun o => o.map Obj.cls) hD) (by simp)
theorem keyAt_ns {h h' : Heap} {a C : Addr} {x : Int} {m' : Str → Option Value} {q : Str} {y : Value} (K : KeyAt h a x) (hC : h.Ns C m') (hq : m' q = some y) (sb : Heap.SameBut C h h') : KeyAt h' a x := by
  obtain ⟨da, t, e1, e2⟩ := K.ex
  obtain ⟨oC, es, ep, eC, dC, kC, fC⟩ := hC
  refine ⟨da, t, (sb.2 _ ?_).trans e1, (sb.2 _ ?_).trans e2⟩
  · rintro rfl; rw [e1] at eC; cases eC; cases dC
  · rintro rfl; rw [e2] at eC; cases eC; cases dC
    have := fC q
    rw [hq] at this
    exact absurd this (by show nsFind #[] q ≠ some y; intro z; cases z)
theorem keysAt_ns {h h' : Heap} {ks : List Addr} {ns : List Int} {C : Addr} {m' : Str → Option Value} {q : Str} (K : KeysAt h ks ns) (hC : h.Ns C m') (hq : ks = [] ∨ ∃ y, m' q = some y) (sb : Heap.SameBut C h h') : KeysAt h' ks ns := by
  refine ⟨fun i a x e1 e2 => ?_⟩
  rcases hq with h0 | ⟨y, hy⟩
  · rw [h0] at e1; simp at e1
  · exact keyAt_ns (K.at_ i a x e1 e2) hC hy sb
/-- the comprehension's loop -/
theorem keys_loop {R : Result → Shared → Prop} {I D C : Addr} {h₀ : Heap} {px p1 p2 p3 p4 : Pos} {mC : Str → Option Value} {iter : PySem.Expr} (B : Base v u w.params h₀) (c48 : h₀.IsCell 48 (some (.ref 116))) (hl : h₀.IsList ln vs.toArray) (hi : IntsAre vs ns)
    (hI : h₀.get? I = none) (hD : h₀.get? D = none) (hC : h₀.get? C = none) (hIC : I ≠ C) (hID : I ≠ D) (hDC : D ≠ C) (st : Stays h₀ s.heap) (sI : s.heap.IsListIter I ln 0) (sD : s.heap.get? D = some (lst [] 0)) (sC : s.heap.Ns C mC) (hsz : vs.length ≤ 50)
    (hR : ∀ h' tk m' ks n, Stays h₀ h' → h'.Ns C m' → h'.get? D = some (lst (refs ks) n) → ks.length = vs.length → KeysAt h' ks ns → (ks = [] ∨ ∃ y, m' (Str.ofString "x") = some y) → R (.ok .next) { s with heap := h', toks := tk }) :
    codeAny (model PySem.Challenge.pw_dp0026_01 w) (callerA.deeper lawEnv) (.compLoop (.ListComp (.Call (.Name (Str.ofString "make") p1) [.Name (Str.ofString "x") p2] [] p3) [⟨.Name (Str.ofString "x") px, iter, [], 0⟩] keysScope p4) 0 (.ref I) (.ref D) (kEnv C)) R s := by
  have W := Walks.list (prog := PySem.Challenge.pw_dp0026_01) (w := w) (A := callerA.deeper lawEnv) rfl I ln (fun q => by obtain ⟨o, e, _⟩ := hl; rw [q, hI] at e; cases e) vs.toArray
  have hvs : vs.toArray.size = vs.length := by simp
  rw [hvs] at W
  have nI : ∀ b o, h₀.get? b = some o → b ∉ [I] := fun b o e q => by rw [List.mem_singleton.mp q, hI] at e; cases e
  refine codeAny_compLoop_list
    (fun k s' => ∃ h' tk m' i ks n, s' = { s with heap := h', toks := tk } ∧ Stays h₀ h' ∧ h'.IsListIter I ln i ∧ h'.get? D = some (lst (refs ks) n) ∧ h'.Ns C m' ∧ ks.length = i ∧ KeysAt h' ks ns ∧ (ks = [] ∨ ∃ y, m' (Str.ofString "x") = some y) ∧ i ≤ vs.length ∧ k = vs.length + 1 - i) ?_ (vs.length + 1)
    ⟨s.heap, s.toks, mC, 0, [], 0, rfl, st, sI, sD, sC, rfl, ⟨fun i a x e _ => by simp at e⟩, .inl rfl, Nat.zero_le _, rfl⟩
  rintro k s' ⟨h', tk, m', i, ks, n, rfl, st', sI', sD', sC', hks, K', hbx, hle, rfl⟩
  have hl' := isList_stays hl fun o e => st' _ _ e
  by_cases hlt : i < vs.length
  · refine W.item i _ _ _ hlt ⟨sI', hl'⟩ fun x h₁ tk₁ hx hst hk₁ => ?_
    obtain ⟨nx, tx, rfl, hnx⟩ := ints_at hi (show vs[i]? = some x by simpa using hx)
    have st₁ : Stays h₀ h₁ := fun b o e => hk₁ b o (nI b o e) (st' b o e)
    have sD₁ : h₁.get? D = some (lst (refs ks) n) := hk₁ D _ (by simpa using hID.symm) sD'
    have sC₁ : h₁.Ns C m' := sC'.at' fun o e => hk₁ C o (by simpa using hIC.symm) e
    refine wpAny_assign_Name (wpAny_storeName_local rfl sC₁ (fun h₂ sC₂ sb₂ => ?_) rfl)
    have cC : ∀ b o, h₀.get? b = some o → b ≠ C := fun b o e q => by rw [q, hC] at e; cases e
    have st₂ : Stays h₀ h₂ := fun b o e => (sb₂.2 b (cC b o e)).trans (st₁ b o e)
    have B2 := B.stays st₂
    refine wpAny_Call_Name_kw (wpAny_Name (wpAny_loadName_cell (c := 48) rfl rfl rfl (c48.keeps st₂) ?_))
    refine callWith_K (kls_in B.ok) (kcall v u w.params) (spliced_more (wpAny_Name (wpAny_loadName_local (v := .int nx tx) rfl rfl sC₂ rfl (spliced_none ⟨kls_in B2.ok, ?_⟩))))
    refine r2 w { s with heap := h₂, toks := _ } lawEnv v u nx tx B2.kb B2.ok _ _ fun h₃ a da tk₃ st₃ ha₀ ha hda => ?_
    have hz : (refs ks).toArray.size ≤ sizeLine := by
      simp only [refs, List.size_toArray, List.length_map]
      exact Nat.le_trans (show ks.length ≤ 50 by omega) (by decide)
    refine append_at (hsz := hz) (st₃ _ _ ((sb₂.2 D hDC).trans sD₁)) fun h₄ sb₄ sD₄ => ?_
    have hDa : ∀ b o, h₀.get? b = some o → b ≠ D := fun b o e q => by rw [q, hD] at e; cases e
    have st₄ : Stays h₀ h₄ := fun b o e => (sb₄.2 b (hDa b o e)).trans (st₃ b o (st₂ b o e))
    have keep : ∀ b o, b ≠ I → b ≠ C → b ≠ D → h'.get? b = some o → h₄.get? b = some o := fun b o e1 e2 e3 e =>
      (sb₄.2 b e3).trans (st₃ b o ((sb₂.2 b e2).trans (hk₁ b o (by simpa using e1) e)))
    have aD : a ≠ D := by
      rintro rfl
      rw [(sb₂.2 a hDC).trans sD₁] at ha₀; cases ha₀
    have dD : da ≠ D := by
      rintro rfl
      rw [st₃ _ _ ((sb₂.2 da hDC).trans sD₁)] at hda; exact absurd (congrArg (fun o => o.map Obj.cls) hda) (by simp)
    refine ⟨vs.length + 1 - (i + 1), by omega, h₄, tk₃, _, i + 1, ks ++ [a], n + 1, rfl, st₄, ?_, ?_, (sC₂.keeps st₃).sameBut sb₄ hDC.symm, by simp [hks], ⟨fun j b x e1 e2 => ?_⟩, .inr ⟨_, rfl⟩, hlt, rfl⟩
    · obtain ⟨o, e, r⟩ := hst.1
      exact ⟨o, (sb₄.2 I hID).trans (st₃ _ _ ((sb₂.2 I hIC).trans e)), r⟩
    · rw [sD₄]; simp [refs]
    · by_cases hj : j < ks.length
      · rw [List.getElem?_append_left hj] at e1
        rcases hbx with h0 | ⟨y, hy⟩
        · rw [h0] at hj; exact absurd hj (Nat.not_lt_zero _)
        · exact keyAt_keep (K'.at_ j b x e1 e2) sI' sD' sC' hy keep
      · have hjl : j < (ks ++ [a]).length := by
          rcases Nat.lt_or_ge j (ks ++ [a]).length with h | h
          · exact h
          · rw [List.getElem?_eq_none h] at e1; cases e1
        have hj' : j = ks.length := by simp at hjl; omega
        subst hj'
        rw [List.getElem?_append_right (Nat.le_refl _)] at e1
        simp at e1
        subst e1
        rw [hks, hnx] at e2
        cases e2
        exact ⟨da, tx, (sb₄.2 _ aD).trans ha, (sb₄.2 _ dD).trans hda⟩
  · have hin : i = vs.length := by omega
    subst hin
    refine W.done _ _ _ ⟨sI', hl'⟩ fun h₁ tk₁ hk₁ => ?_
    refine hR h₁ tk₁ m' ks n (fun b o e => hk₁ b o (nI b o e) (st' b o e)) (sC'.at' fun o e => hk₁ C o (by simpa using hIC.symm) e) (hk₁ D _ (by simpa using hID.symm) sD') hks ⟨fun j b x e1 e2 => ?_⟩ hbx
    obtain ⟨da, t, z1, z2⟩ := (K'.at_ j b x e1 e2).ex
    obtain ⟨oI, eI, cI, _⟩ := sI'
    refine ⟨da, t, hk₁ _ _ ?_ z1, hk₁ _ _ ?_ z2⟩
    · intro q; rw [List.mem_singleton.mp q, eI] at z1; cases z1; cases cI
    · intro q; rw [List.mem_singleton.mp q, eI] at z2; cases z2; exact absurd cI (by decide)
end
end D26
end TS17
section TS18
open PySem PySem.W PyProof.Rows PySem.W.X PySem.Calls
namespace D26
section
variable {w : World} {E : Value → Shared → Prop} {s : Shared} {v u : Nat} {ln : Addr} {m : Str → Option Value} {vs : List Value} {ns : List Int}
theorem keysS {Q : Flow → Shared → Prop} (B : Base v u w.params s.heap) (c48 : s.heap.IsCell 48 (some (.ref 116))) (hn : s.heap.Ns 47 m) (hm : m (Str.ofString "numbers") = some (.ref ln)) (hl : s.heap.IsList ln vs.toArray) (hi : IntsAre vs ns) (hsz : vs.length ≤ 50)
    (hQ : ∀ D h' tk ks n, s.heap.get? D = none → h'.get? D = some (lst (refs ks) n) → ks.length = vs.length → KeysAt h' ks ns → h'.Ns 47 (fun z => if z = Str.ofString "keys" then some (.ref D) else m z) →
      (∀ b o, b ≠ 47 → s.heap.get? b = some o → h'.get? b = some o) → Q .next { s with heap := h', toks := tk }) :
    wpAny (model PySem.Challenge.pw_dp0026_01 w) (callerA.deeper lawEnv) (exec (laB 2) lawEnv) Q E s := by
  show wpAny _ _ (exec (.Assign [.Name (Str.ofString "keys") ⟨49, 4, 49, 8⟩] (.ListComp (.Call (.Name (Str.ofString "make") _) [.Name (Str.ofString "x") _] [] _) [⟨.Name (Str.ofString "x") _, .Name (Str.ofString "numbers") _, [], 0⟩] keysScope _) _) lawEnv) _ _ _
  rw [exec_Assign_Name_used _ _ _ _ rfl]
  refine wpAny_bind (wpAny_standAt (wpAny_bind ?_))
  show wpAny _ _ (do let _ ← comprehension (.ListComp (.Call (.Name (Str.ofString "make") _) [.Name (Str.ofString "x") _] [] _) [⟨.Name (Str.ofString "x") _, .Name (Str.ofString "numbers") _, [], 0⟩] keysScope _) keysScope lawEnv _ (newList []) false (eval (.Name (Str.ofString "numbers") _) lawEnv) (some (assign (.Name (Str.ofString "keys") ⟨49, 4, 49, 8⟩) lawEnv))) _ _ s
  refine wpAny_bind (wpAny_mono (wpAny_comprehension_free (use := some (assign (.Name (Str.ofString "keys") ⟨49, 4, 49, 8⟩) lawEnv)) (Q := fun _ s' => Q .next s') (cl := [(Str.ofString "make", 48)]) rfl (by intro _; rfl) rfl rfl (by decide) ?_) (fun _ s' hq => wpAny_pure (wpAny_pure hq)) fun _ _ e => e)
  refine wpAny_Name (wpAny_loadName_local rfl rfl hn hm (wpAny_pyIter_list hl ?_))
  refine wpAny_newObj_type (wpAny_newFunctionEnv (by decide) (by intro y hy; simp at hy) (fun h₁ hns₁ hsb₁ => ?_) rfl)
  dsimp only at hns₁ hsb₁ ⊢
  obtain ⟨oL, _, _, hoL, _⟩ := id hn
  have h47 : 47 < s.heap.objs.size := Heap.lt_size hoL
  generalize hH1 : s.heap.push { cls := .type "list_iterator", data := .fields #[.ref ln, .int 0 0] } = H1 at hns₁ hsb₁ ⊢
  generalize hH2 : H1.push { cls := .type "list", dict := none, data := .seq ([] : List Value).toArray } = H2 at hns₁ hsb₁ ⊢
  have z1 : H1.objs.size = s.heap.objs.size + 1 := by rw [← hH1, sz]
  have z2 : H2.objs.size = s.heap.objs.size + 2 := by rw [← hH2, sz, z1]
  have k1 : Stays s.heap H1 := fun b o e => hH1 ▸ Heap.get?_push_of_some _ e
  have k2 : Stays H1 H2 := fun b o e => hH2 ▸ Heap.get?_push_of_some _ e
  have k3 : Stays H2 h₁ := fun b o e => hsb₁.extBut b o (Nat.ne_of_lt (Heap.lt_size e)) (Heap.get?_push_of_some _ e)
  have st : Stays s.heap h₁ := fun b o e => k3 b o (k2 b o (k1 b o e))
  have fresh : ∀ a, s.heap.objs.size ≤ a → s.heap.get? a = none := fun a ha => Heap.get?_none_of_le ha
  have gI : h₁.IsListIter s.heap.objs.size ln 0 := ⟨_, k3 _ _ (k2 _ _ (hH1 ▸ Heap.get?_push_size s.heap rfl)), rfl, rfl⟩
  have gD : h₁.get? H1.objs.size = some (lst [] 0) := k3 _ _ (hH2 ▸ Heap.get?_push_size H1 rfl)
  have loop : ∀ (p1 p2 p3 p4 p5 px : Pos) (s₃ : Shared), s₃ = { s with heap := h₁, toks := s.toks + ([] : List (Str × Value)).length } →
      codeAny (model PySem.Challenge.pw_dp0026_01 w) (callerA.deeper lawEnv) (.compLoop (.ListComp (.Call (.Name (Str.ofString "make") p1) [.Name (Str.ofString "x") p2] [] p3) [⟨.Name (Str.ofString "x") px, .Name (Str.ofString "numbers") p5, [], 0⟩] keysScope p4) 0 (.ref s.heap.objs.size) (.ref H1.objs.size) (kEnv H2.objs.size))
        (compPost (model PySem.Challenge.pw_dp0026_01 w) (callerA.deeper lawEnv) E (some (assign (.Name (Str.ofString "keys") ⟨49, 4, 49, 8⟩) lawEnv)) (fun _ s' => Q .next s') (.ref H1.objs.size) H2.objs.size) s₃ := by
    rintro p1 p2 p3 p4 p5 px s₃ rfl
    refine keys_loop (h₀ := s.heap) B c48 hl hi (fresh _ (Nat.le_refl _)) (fresh _ (by omega)) (fresh _ (by omega)) (show s.heap.objs.size ≠ H2.objs.size by omega) (show s.heap.objs.size ≠ H1.objs.size by omega) (show H1.objs.size ≠ H2.objs.size by omega) st gI gD hns₁ hsz fun h' tk m' ks n st' nC gD' hk K hbx => ?_
    show wpAny _ _ (assign (.Name (Str.ofString "keys") ⟨49, 4, 49, 8⟩) lawEnv (.ref H1.objs.size)) _ _ _
    refine wpAny_assign_Name (wpAny_storeName_local rfl (hn.keeps st') (fun h₂ hn₂ hs₂ => ?_) rfl)
    have n47C : (47 : Nat) ≠ H2.objs.size := by omega
    have n47D : H1.objs.size ≠ 47 := by omega
    have nC₂ := nC.sameBut hs₂ n47C.symm
    refine ⟨m', nC₂, fun h₃ hs₃ => ?_⟩
    have K₂ := keysAt_ns K (hn.keeps st') (q := Str.ofString "numbers") (.inr ⟨_, hm⟩) hs₂
    have K₃ := keysAt_ns K₂ nC₂ hbx hs₃
    refine hQ H1.objs.size h₃ _ ks n (fresh _ (by omega)) ?_ hk K₃ (hn₂.sameBut hs₃ n47C) fun b o hb e => ?_
    · exact (hs₃.2 _ (show H1.objs.size ≠ H2.objs.size by omega)).trans ((hs₂.2 _ n47D).trans gD')
    · have := Heap.lt_size e
      exact (hs₃.2 b (Nat.ne_of_lt (Nat.lt_of_lt_of_le this (show s.heap.objs.size ≤ H2.objs.size by omega)))).trans ((hs₂.2 b hb).trans (st' b o e))
  exact codeAny_compStart_list (loop _ _ _ _ _ _ _ rfl) (wpAny_pyIter_listiter gI (loop _ _ _ _ _ _ _ rfl))
end
end D26
end TS18
section TS19
open PySem PySem.W PyProof.Rows PySem.W.X PySem.Calls
namespace D26
theorem kb47 (P : Params) : (KB P).lookup 47 = none := by kernel_rfl
theorem Base.hide {v u : Nat} {P : Params} {h : Heap} (B : Base v u P h) : Base v u P (h.hide 47) := by
  refine ⟨fun a o e => ?_, KOk.of fun p hp => ?_, ?_⟩
  · have ne : a ≠ 47 := by rintro rfl; rw [kb47] at e; cases e
    rw [Heap.hide_ne h ne]; exact B.kb a o e
  · have ge := kls_ge p hp
    have ne : p.1 ≠ 47 := fun q => by rw [q] at ge; exact absurd ge (by decide)
    rw [Heap.hide_ne h ne]; exact B.ok.mem p hp
  · exact B.lim.at fun o e => by rw [Heap.hide_ne h (show cStatics ≠ 47 by decide)]; exact e
/-- the state of the two loops -/
structure LI (G : Heap) (kl sl ol ln : Addr) (m : Str → Option Value) (h : Heap) (st out : List Nat) : Prop where
  ns : h.Ns 47 m
  keep : Stays G h
  mkk : m (Str.ofString "keys") = some (.ref kl)
  ms : m (Str.ofString "stack") = some (.ref sl)
  mo : m (Str.ofString "out") = some (.ref ol)
  mn : m (Str.ofString "numbers") = some (.ref ln)
  sAt : ∃ ws n, h.get? sl = some (lst ws n) ∧ IntsAre ws (nats st.reverse)
  oAt : ∃ ws n, h.get? ol = some (lst ws n) ∧ IntsAre ws (nats out)
/-- what stands still -/
structure LF (v u : Nat) (P : Params) (G : Heap) (kl sl ol ln : Addr) (ks : List Addr) (ns : List Int) (vs : List Value) : Prop where
  B : Base v u P G
  hk : G.IsList kl (refs ks).toArray
  K : KeysAt G ks ns
  len : ks.length = ns.length
  hn : G.IsList ln vs.toArray
  hi : IntsAre vs ns
  le : ns.length ≤ 20
  g47 : G.get? 47 = none
  gs : G.get? sl = none
  go : G.get? ol = none
  so : sl ≠ ol
  s47 : sl ≠ 47
  o47 : ol ≠ 47
def szF (ns : List Int) (k : Nat) : Int := (ns.getD k 0).fdiv 2
theorem LI.stays {G : Heap} {kl sl ol ln : Addr} {m : Str → Option Value} {h h' : Heap} {st out : List Nat} (I : LI G kl sl ol ln m h st out) (s : Stays h h') : LI G kl sl ol ln m h' st out := by
  obtain ⟨a, b, c, d, e, f, ⟨ws, n, g1, g2⟩, ⟨os, n', k1, k2⟩⟩ := I
  exact ⟨a.keeps s, fun b' o e => s b' o (b b' o e), c, d, e, f, ⟨ws, n, s _ _ g1, g2⟩, ⟨os, n', s _ _ k1, k2⟩⟩
theorem ints_snoc {ws : List Value} {l : List Int} {x : Int} (h : IntsAre ws (l ++ [x])) : ∃ ws' t, ws = ws' ++ [.int x t] ∧ IntsAre ws' l := by
  induction l generalizing ws with
  | nil =>
    cases h with
    | cons n t r => cases r; exact ⟨[], t, rfl, .nil⟩
  | cons y l ih =>
    cases h with
    | cons n t r =>
      obtain ⟨ws', t', rfl, hi⟩ := ih r
      exact ⟨_ :: ws', t', rfl, .cons _ _ hi⟩
section
variable {w : World} {A : Around} {E : Value → Shared → Prop} {s : Shared} {v u : Nat} {P : Params} {G : Heap} {kl sl ol ln : Addr} {m : Str → Option Value} {ks : List Addr} {ns : List Int} {vs : List Value} {st out : List Nat}
/-- `stack != []` -/
theorem neNil {Q : Bool → Shared → Prop} {p1 p2 p3 : Pos} {whole : Sem Value} (hu : A.units < cLine) (I : LI G kl sl ol ln m s.heap st out)
    (hQ : ∀ h', Stays s.heap h' → Q (decide (st ≠ [])) { s with heap := h' }) :
    wpAny (model PySem.Challenge.pw_dp0026_01 w) A (isTrue (.Compare (.Name (Str.ofString "stack") p1) [.NotEq] [.List [] p2] p3) lawEnv whole) Q E s := by
  refine wpAny_isTrue_Compare1 (wpAny_Name (wpAny_loadName_local rfl rfl I.ns I.ms (wpAny_List (spliced_none ⟨by decide, ?_⟩))))
  have stz : Stays s.heap (s.heap.push { cls := .type "list", data := .seq ([] : List Value).toArray }) := fun b o e => Heap.get?_push_of_some _ e
  obtain ⟨ws, n, g1, g2⟩ := I.sAt
  have hlen : ws.length = st.length := by rw [g2.length]; simp
  have hp' : (s.heap.push { cls := .type "list", data := .seq ([] : List Value).toArray }).IsList sl ws.toArray := ⟨_, stz _ _ g1, rfl, _, rfl⟩
  have he : (s.heap.push { cls := .type "list", data := .seq ([] : List Value).toArray }).IsList s.heap.objs.size ([] : List Value).toArray := ⟨_, Heap.get?_push_size _ rfl, rfl, _, rfl⟩
  have := hQ _ stz
  show wpAny _ _ (richCompare .NotEq _ _) _ _ _
  by_cases e : st = []
  · rw [decide_eq_false (by simpa using e)] at this
    have hps : ws = [] := List.length_eq_zero_iff.mp (by rw [hlen, e]; rfl)
    subst hps
    exact SeqAt.RcNeAt.lists (s := { s with heap := _ }) (e := fun _ => true) hp' he rfl hu (fun j h1 => absurd h1 (by simp)) _ _ _ _ (wpAny_truthy_bool this)
  · rw [decide_eq_true e] at this
    have hps : ws.length ≠ 0 := by rw [hlen]; exact fun q => e (List.length_eq_zero_iff.mp q)
    exact SeqAt.RcNeAt.lists_lengths (s := { s with heap := _ }) hp' he (by simpa using hps) hu _ _ _ _ (wpAny_truthy_bool this)
/-- `out.append(stack.pop())` -/
theorem popS {Q : Flow → Shared → Prop} {t : Nat} {p1 p2 p3 p4 p5 p6 p7 : Pos} {pl1 pl2 : Sem Bool}
    (he1 : eval (.Call (.Attribute (.Name (Str.ofString "out") p1) (Str.ofString "append") p2) [.Call (.Attribute (.Name (Str.ofString "stack") p3) (Str.ofString "pop") p4) [] [] p5] [] p6) lawEnv = (do
      let ov ← eval (.Name (Str.ofString "out") p1) lawEnv
      standAt p2.atName
      let (f, first) ← holding [ov] (getMethod ov (Str.ofString "append") pl1)
      callWith p6 f first (backTo p6 (starEach [.Call (.Attribute (.Name (Str.ofString "stack") p3) (Str.ofString "pop") p4) [] [] p5] lawEnv)) []))
    (he2 : eval (.Call (.Attribute (.Name (Str.ofString "stack") p3) (Str.ofString "pop") p4) [] [] p5) lawEnv = (do
      let ov ← eval (.Name (Str.ofString "stack") p3) lawEnv
      standAt p4.atName
      let (f, first) ← holding [ov] (getMethod ov (Str.ofString "pop") pl2)
      callWith p5 f first (backTo p5 (starEach [] lawEnv)) []))
    (F : LF v u P G kl sl ol ln ks ns vs) (I : LI G kl sl ol ln m s.heap (t :: st) out) (hle : st.length + out.length ≤ 40)
    (hQ : ∀ h', LI G kl sl ol ln m h' st (out ++ [t]) → (∀ b o, b ≠ sl → b ≠ ol → s.heap.get? b = some o → h'.get? b = some o) → Q .next { s with heap := h' }) :
    wpAny (model PySem.Challenge.pw_dp0026_01 w) A (exec (.Expr (.Call (.Attribute (.Name (Str.ofString "out") p1) (Str.ofString "append") p2) [.Call (.Attribute (.Name (Str.ofString "stack") p3) (Str.ofString "pop") p4) [] [] p5] [] p6) p7) lawEnv) Q E s := by
  obtain ⟨ws, n, g1, g2⟩ := I.sAt
  obtain ⟨os, n', k1, k2⟩ := I.oAt
  rw [List.reverse_cons, show nats (st.reverse ++ [t]) = nats st.reverse ++ [(t : Int)] by simp [nats]] at g2
  obtain ⟨ws', tt, rfl, g3⟩ := ints_snoc g2
  have l1 : ws'.length = st.length := by rw [g3.length]; simp
  have l2 : os.length = out.length := by rw [k2.length]; simp
  refine wpAny_Expr (MethodCall_ (he := he1) (wpAny_Name (wpAny_loadName_local rfl rfl I.ns I.mo (Calls.getMethod_list_append k1 rfl rfl (callWith_method1 (spliced_more ?_))))))
  refine MethodCall_ (he := he2) (wpAny_Name (wpAny_loadName_local rfl rfl I.ns I.ms (Copied.getMethod_pop_at g1 rfl rfl (callWith_method0 ?_))))
  refine Copied.pop_at (hsz := Nat.le_trans (show _ ≤ 50 by simp; omega) (by decide)) g1 (y := .int t tt) (by simp) fun h₁ sb₁ e₁ => spliced_none ?_
  refine append_at (hsz := Nat.le_trans (show _ ≤ 50 by simp; omega) (by decide)) ((sb₁.2 _ F.so.symm).trans k1) fun h₂ sb₂ e₂ => ?_
  have kp : ∀ b o, b ≠ sl → b ≠ ol → s.heap.get? b = some o → h₂.get? b = some o := fun b o h1 h2 e => (sb₂.2 b h2).trans ((sb₁.2 b h1).trans e)
  refine hQ h₂ ⟨(I.ns.sameBut sb₁ F.s47.symm).sameBut sb₂ F.o47.symm, fun b o e => kp b o (fun q => ?_) (fun q => ?_) (I.keep b o e), I.mkk, I.ms, I.mo, I.mn, ⟨ws', n + 1, ?_, g3⟩, ⟨os ++ [.int t tt], n' + 1, ?_, ?_⟩⟩ kp
  · rw [q, F.gs] at e; cases e
  · rw [q, F.go] at e; cases e
  · rw [sb₂.2 _ F.so, e₁]; simp
  · rw [e₂]; simp
  · rw [show nats (out ++ [t]) = nats out ++ [(t : Int)] by simp [nats]]
    exact k2.append (.cons _ _ .nil)
end
end D26
end TS19
section TS20
open PySem PySem.W PyProof.Rows PySem.W.X PySem.Calls
namespace D26
section
variable {w : World} {A : Around} {E : Value → Shared → Prop} {s : Shared} {v u : Nat} {P : Params} {G : Heap} {kl sl ol ln : Addr} {m : Str → Option Value} {ks : List Addr} {ns : List Int} {vs : List Value} {st out : List Nat}
theorem last_at (ws : List Value) (x : Value) : (ws ++ [x]).toArray[(-1 + ((ws ++ [x]).toArray.size : Int)).toNat]? = some x := by
  have : (-1 + ((ws ++ [x]).toArray.size : Int)).toNat = ws.length := by
    rw [List.size_toArray, List.length_append, List.length_singleton]; omega
  rw [this]; simp
theorem LF.key (F : LF v u P G kl sl ol ln ks ns vs) {k : Nat} (hk : k < ns.length) : ∃ a, ks[k]? = some a ∧ KeyAt G a (ns.getD k 0) := by
  have hk' : k < ks.length := by rw [F.len]; exact hk
  refine ⟨ks[k], List.getElem?_eq_getElem hk', F.K.at_ k _ _ (List.getElem?_eq_getElem hk') ?_⟩
  rw [List.getElem?_eq_getElem hk, List.getD_eq_getElem?_getD, List.getElem?_eq_getElem hk]; rfl
/-- `_lt_from_gt(keys[stack[-1]], keys[place])` -/
theorem ltTest {Q : Bool → Shared → Prop} {t i : Nat} {tk : Tok} {p1 p2 p3 p4 p5 p6 p7 p8 p9 p10 p11 : Pos} (F : LF v u P G kl sl ol ln ks ns vs) (I : LI G kl sl ol ln m s.heap (t :: st) out) (hu : A.units + 5 < cLine) (hroom : A.depth + 3 < recursionLimit)
    (hp : m (Str.ofString "place") = some (.int i tk)) (hi : i < ns.length) (ht : t < ns.length) (hle : st.length ≤ 40)
    (hQ : ∀ h' tk, Stays s.heap h' → Q (decide (szF ns t < szF ns i)) { s with heap := h', toks := tk }) :
    wpAny (model PySem.Challenge.pw_dp0026_01 w) A (isTrue (.Call (.Name (Str.ofString "_lt_from_gt") p1) [.Subscript (.Name (Str.ofString "keys") p2) (.Subscript (.Name (Str.ofString "stack") p3) (.UnaryOp .USub (.Constant (.int 1) 0 p4) p5) p6) p7, .Subscript (.Name (Str.ofString "keys") p8) (.Name (Str.ofString "place") p9) p10] [] p11) lawEnv
      (eval (.Call (.Name (Str.ofString "_lt_from_gt") p1) [.Subscript (.Name (Str.ofString "keys") p2) (.Subscript (.Name (Str.ofString "stack") p3) (.UnaryOp .USub (.Constant (.int 1) 0 p4) p5) p6) p7, .Subscript (.Name (Str.ofString "keys") p8) (.Name (Str.ofString "place") p9) p10] [] p11) lawEnv)) Q E s := by
  obtain ⟨ws, n, g1, g2⟩ := I.sAt
  rw [List.reverse_cons, show nats (st.reverse ++ [t]) = nats st.reverse ++ [(t : Int)] by simp [nats]] at g2
  obtain ⟨ws', tt, rfl, g3⟩ := ints_snoc g2
  have l1 : ws'.length = st.length := by rw [g3.length]; simp
  have B := F.B.stays I.keep
  have hkl := isList_stays F.hk fun o e => I.keep _ _ e
  have hsl : s.heap.IsList sl (ws' ++ [Value.int t tt]).toArray := ⟨_, g1, rfl, _, rfl⟩
  have fnk : ∀ {h : Heap}, Base v u P h → FnAt 21 h := fun B => ⟨_, _, _, _, B.kb _ _ (kb21 P)⟩
  obtain ⟨a, ea, Ka⟩ := F.key ht
  obtain ⟨b, eb, Kb⟩ := F.key hi
  have le := F.le
  refine wpAny_isTrue_value (wpAny_Call_Name_kw (Name_function_global rfl rfl (loadGlobal_global B.g (g_lt P) ?_)))
  refine callWith_F (fnk B) (spliced_more (Subscript_ (wpAny_Name (wpAny_loadName_local rfl rfl I.ns I.mkk ?_))))
  refine Subscript_UnaryOp (wpAny_Name (wpAny_loadName_local rfl rfl I.ns I.ms (UnaryOp_ (wpAny_Constant_int (neg_int ?_)))))
  refine ⟨"list", _, slot_list_getitem.lookup, hsl.typeIs, wpAny_getItem_list_neg hsl (by decide) (by simp; omega) (by decide) (x := .int t tt) (last_at ws' _) ?_⟩
  refine subscriptTail_builtinR (x := .ref a) (T := "list") hkl.typeIs slot_list_getitem.lookup (wpAny_getItem_list hkl (by omega) (by omega) (by simpa using ea) ⟨rfl, ?_⟩)
  refine spliced_more (Subscript_Name (wpAny_Name (wpAny_loadName_local rfl rfl I.ns I.mkk (wpAny_Name (wpAny_loadName_local rfl rfl I.ns hp ?_)))))
  refine getL hkl (by omega) (by omega) (x := .ref b) (by simpa using eb) (spliced_none ⟨fnk B, ?_⟩)
  refine ltCall hu hroom B (Ka.stays I.keep) (Kb.stays I.keep) fun h' tk' st' => wpAny_truthy_bool (hQ h' tk' st')
end
end D26
end TS20
section TS21
open PySem PySem.W PyProof.Rows PySem.W.X PySem.Calls
namespace D26
def forBody : Stmt → List Stmt
  | .For _ _ b _ _ => b
  | _ => []
abbrev inW : Stmt := nthS 0 (forBody (laB 5))
section
variable {w : World} {A : Around} {E : Value → Shared → Prop} {s : Shared} {v u : Nat} {P : Params} {G : Heap} {kl sl ol ln : Addr} {m : Str → Option Value} {ks : List Addr} {ns : List Int} {vs : List Value} {st out : List Nat}
theorem run_pop {sz : Nat → Int} {i t : Nat} {l st out : List Nat} (h : sz t < sz i) : (out ++ [t]) ++ run sz (i :: l) st = out ++ run sz (i :: l) (t :: st) := by
  have h' : decide (sz t < sz i) = true := decide_eq_true h
  show (out ++ [t]) ++ (st.takeWhile _ ++ run sz l (i :: st.dropWhile _)) = out ++ ((t :: st).takeWhile _ ++ run sz l (i :: (t :: st).dropWhile _))
  rw [List.takeWhile_cons_of_pos (p := fun k => decide (sz k < sz i)) h', List.dropWhile_cons_of_pos (p := fun k => decide (sz k < sz i)) h']
  simp
theorem run_lay {sz : Nat → Int} {i t : Nat} {l st out : List Nat} (h : ¬ sz t < sz i) : out ++ run sz l (i :: t :: st) = out ++ run sz (i :: l) (t :: st) := by
  have h' : ¬ decide (sz t < sz i) = true := by simpa using h
  show out ++ run sz l (i :: t :: st) = out ++ ((t :: st).takeWhile _ ++ run sz l (i :: (t :: st).dropWhile _))
  rw [List.takeWhile_cons_of_neg (p := fun k => decide (sz k < sz i)) h', List.dropWhile_cons_of_neg (p := fun k => decide (sz k < sz i)) h']
  rfl
/-- the inner loop -/
theorem innerW {Q : Flow → Shared → Prop} {i : Nat} {tk : Tok} {l : List Nat} {Ia : Addr} {oI : Obj} (F : LF v u P G kl sl ol ln ks ns vs) (I : LI G kl sl ol ln m s.heap st out) (hu : A.units + 5 < cLine) (hroom : A.depth + 3 < recursionLimit)
    (hp : m (Str.ofString "place") = some (.int i tk)) (hi : i < ns.length) (hst : ∀ k ∈ st, k < ns.length) (hle : st.length + out.length ≤ 40) (hIs : Ia ≠ sl) (hIo : Ia ≠ ol) (hI : s.heap.get? Ia = some oI)
    (hQ : ∀ h' tk' st' out', LI G kl sl ol ln m h' st' out' → h'.get? Ia = some oI → (∀ k ∈ st', k < ns.length) → st'.length + out'.length = st.length + out.length → out' ++ run (szF ns) l (i :: st') = out ++ run (szF ns) (i :: l) st → Q .next { s with heap := h', toks := tk' }) :
    wpAny (model PySem.Challenge.pw_dp0026_01 w) A (exec inW lawEnv) Q E s := by
  show wpAny _ _ (exec (.While (.BoolOp .And [.Compare (.Name (Str.ofString "stack") _) [.NotEq] [.List [] _] _,
    .Call (.Name (Str.ofString "_lt_from_gt") _) [.Subscript (.Name (Str.ofString "keys") _) (.Subscript (.Name (Str.ofString "stack") _) (.UnaryOp .USub (.Constant (.int 1) 0 _) _) _) _, .Subscript (.Name (Str.ofString "keys") _) (.Name (Str.ofString "place") _) _] [] _] _)
    [.Expr (.Call (.Attribute (.Name (Str.ofString "out") ⟨54, 12, 54, 15⟩) (Str.ofString "append") ⟨54, 12, 54, 22⟩) [.Call (.Attribute (.Name (Str.ofString "stack") ⟨54, 23, 54, 28⟩) (Str.ofString "pop") ⟨54, 23, 54, 32⟩) [] [] ⟨54, 23, 54, 34⟩] [] ⟨54, 12, 54, 35⟩) ⟨54, 12, 54, 35⟩] [] _) lawEnv) _ _ _
  refine whileR (fun n s' => ∃ h' tk' st' out', s' = { s with heap := h', toks := tk' } ∧ LI G kl sl ol ln m h' st' out' ∧ h'.get? Ia = some oI ∧ (∀ k ∈ st', k < ns.length) ∧ st'.length + out'.length = st.length + out.length ∧ out' ++ run (szF ns) (i :: l) st' = out ++ run (szF ns) (i :: l) st ∧ n = st'.length) ?_ st.length
    ⟨s.heap, s.toks, st, out, rfl, I, hI, hst, rfl, rfl, rfl⟩
  rintro n s' ⟨h', tk', st', out', rfl, I', hI', hst', hl', hr', rfl⟩
  refine wpAny_isTrue_BoolOp (wpAny_allTrue_And_cons (neNil (s := { s with heap := h', toks := tk' }) (by omega) I' fun h₁ s₁ => ?_))
  cases st' with
  | nil => exact hQ h₁ tk' [] out' (I'.stays s₁) (s₁ _ _ hI') hst' hl' hr'
  | cons t st'' =>
    rw [decide_eq_true (List.cons_ne_nil t st''), if_pos rfl]
    have lle : st''.length + 1 + out'.length ≤ 40 := by simp only [List.length_cons] at hl'; omega
    refine wpAny_allTrue_And_cons (ltTest (s := { s with heap := h₁, toks := tk' }) F (I'.stays s₁) hu hroom hp hi (hst' t (.head _)) (by omega) fun h₂ tk₂ s₂ => ?_)
    by_cases hlt : szF ns t < szF ns i
    · rw [decide_eq_true hlt, if_pos rfl]
      refine wpAny_allTrue_And_nil ?_
      rw [if_pos rfl]
      refine wpAny_execs_cons (popS (s := { s with heap := h₂, toks := tk₂ }) rfl rfl F ((I'.stays s₁).stays s₂) (by omega) fun h₃ I₃ k₃ => wpAny_execs_nil ⟨rfl, st''.length, by simp, h₃, tk₂, st'', out' ++ [t], rfl, I₃, k₃ _ _ hIs hIo (s₂ _ _ (s₁ _ _ hI')), fun k hk => hst' k (.tail _ hk), ?_, ?_, rfl⟩)
      · simp only [List.length_cons, List.length_append, List.length_nil] at hl' ⊢; omega
      · rw [run_pop hlt]; exact hr'
    · rw [decide_eq_false hlt]
      exact hQ h₂ tk₂ (t :: st'') out' ((I'.stays s₁).stays s₂) (s₂ _ _ (s₁ _ _ hI')) hst' hl' (by rw [run_lay hlt]; exact hr')
end
end D26
end TS21
section TS22
open PySem PySem.W PyProof.Rows PySem.W.X PySem.Calls
namespace D26
/-- the loops' state without the frame -/
structure LJ (G : Heap) (kl sl ol ln : Addr) (m : Str → Option Value) (h : Heap) (st out : List Nat) : Prop where
  keep : Stays G h
  mkk : m (Str.ofString "keys") = some (.ref kl)
  ms : m (Str.ofString "stack") = some (.ref sl)
  mo : m (Str.ofString "out") = some (.ref ol)
  mn : m (Str.ofString "numbers") = some (.ref ln)
  sAt : ∃ ws n, h.get? sl = some (lst ws n) ∧ IntsAre ws (nats st.reverse)
  oAt : ∃ ws n, h.get? ol = some (lst ws n) ∧ IntsAre ws (nats out)
section
variable {w : World} {A : Around} {E : Value → Shared → Prop} {s : Shared} {v u : Nat} {P : Params} {G : Heap} {kl sl ol ln : Addr} {m : Str → Option Value} {ks : List Addr} {ns : List Int} {vs : List Value} {st out : List Nat}
theorem LI.j {h : Heap} (I : LI G kl sl ol ln m h st out) : LJ G kl sl ol ln m h st out := ⟨I.keep, I.mkk, I.ms, I.mo, I.mn, I.sAt, I.oAt⟩
theorem LJ.i {h : Heap} (I : LJ G kl sl ol ln m h st out) (hn : h.Ns 47 m) : LI G kl sl ol ln m h st out := ⟨hn, I.keep, I.mkk, I.ms, I.mo, I.mn, I.sAt, I.oAt⟩
theorem LJ.place {h : Heap} {x : Value} (I : LJ G kl sl ol ln m h st out) : LJ G kl sl ol ln (fun y => if y = Str.ofString "place" then some x else m y) h st out := ⟨I.keep, I.mkk, I.ms, I.mo, I.mn, I.sAt, I.oAt⟩
theorem LJ.keeps {h h' : Heap} {N : Nat} (F : LF v u P G kl sl ol ln ks ns vs) (hG : G.objs.size ≤ N) (hs : sl < N) (ho : ol < N) (I : LJ G kl sl ol ln m h st out) (k : ∀ b o, b < N → b ≠ 47 → h.get? b = some o → h'.get? b = some o) : LJ G kl sl ol ln m h' st out := by
  obtain ⟨a, c, d, e, f, ⟨ws, n, g1, g2⟩, ⟨os, n', k1, k2⟩⟩ := I
  refine ⟨fun b o e => k b o (Nat.lt_of_lt_of_le (Heap.lt_size e) hG) (fun q => ?_) (a b o e), c, d, e, f, ⟨ws, n, k _ _ hs F.s47 g1, g2⟩, ⟨os, n', k _ _ ho F.o47 k1, k2⟩⟩
  rw [q, F.g47] at e; cases e
/-- `stack.append(place)` -/
theorem pushS {Q : Flow → Shared → Prop} {i : Nat} {tk : Tok} (F : LF v u P G kl sl ol ln ks ns vs) (I : LI G kl sl ol ln m s.heap st out) (hp : m (Str.ofString "place") = some (.int i tk)) (hle : st.length ≤ 40)
    (hQ : ∀ h', LI G kl sl ol ln m h' (i :: st) out → (∀ b o, b ≠ sl → s.heap.get? b = some o → h'.get? b = some o) → Q .next { s with heap := h' }) :
    wpAny (model PySem.Challenge.pw_dp0026_01 w) A (exec (nthS 1 (forBody (laB 5))) lawEnv) Q E s := by
  obtain ⟨ws, n, g1, g2⟩ := I.sAt
  obtain ⟨os, n', k1, k2⟩ := I.oAt
  have l1 : ws.length = st.length := by rw [g2.length]; simp
  show wpAny _ _ (exec (.Expr (.Call (.Attribute (.Name (Str.ofString "stack") ⟨55, 8, 55, 13⟩) (Str.ofString "append") ⟨55, 8, 55, 20⟩) [.Name (Str.ofString "place") ⟨55, 21, 55, 26⟩] [] ⟨55, 8, 55, 27⟩) ⟨55, 8, 55, 27⟩) lawEnv) _ _ _
  refine wpAny_Expr (MethodCall_ (wpAny_Name (wpAny_loadName_local rfl rfl I.ns I.ms (Calls.getMethod_list_append g1 rfl rfl (callWith_method1 (spliced_more (wpAny_Name (wpAny_loadName_local rfl rfl I.ns hp (spliced_none ?_)))))))))
  refine append_at (hsz := Nat.le_trans (show _ ≤ 50 by simp; omega) (by decide)) g1 fun h₂ sb₂ e₂ => ?_
  have kp : ∀ b o, b ≠ sl → s.heap.get? b = some o → h₂.get? b = some o := fun b o h1 e => (sb₂.2 b h1).trans e
  refine hQ h₂ ⟨I.ns.sameBut sb₂ F.s47.symm, fun b o e => kp b o (fun q => ?_) (I.keep b o e), I.mkk, I.ms, I.mo, I.mn, ⟨ws ++ [.int i tk], n + 1, ?_, ?_⟩, ⟨os, n', (sb₂.2 _ F.so.symm).trans k1, k2⟩⟩ kp
  · rw [q, F.gs] at e; cases e
  · rw [e₂]; simp
  · rw [List.reverse_cons, show nats (st.reverse ++ [i]) = nats st.reverse ++ [(i : Int)] by simp [nats]]
    exact g2.append (.cons _ _ .nil)
/-- the outer loop -/
theorem forS {Q : Flow → Shared → Prop} (F : LF v u P G kl sl ol ln ks ns vs) (I : LI G kl sl ol ln m s.heap [] []) (hG : G.objs.size ≤ s.heap.objs.size) (hh : A.handled = none) (hu : A.units + 5 < cLine) (hroom : A.depth + 3 < recursionLimit)
    (hQ : ∀ h' tk' m' st' out', LI G kl sl ol ln m' h' st' out' → st'.length + out'.length = ns.length → out' ++ st' = run (szF ns) (List.range' 0 ns.length) [] → Q .next { s with heap := h', toks := tk' }) :
    wpAny (model PySem.Challenge.pw_dp0026_01 w) A (exec (laB 5) lawEnv) Q E s := by
  show wpAny _ _ (exec (.For (.Name (Str.ofString "place") _) (.Call (.Name (Str.ofString "range") _) [.Call (.Name (Str.ofString "len") _) [.Name (Str.ofString "keys") _] [] _] [] _) [inW, nthS 1 (forBody (laB 5))] [] _) lawEnv) _ _ _
  have B := F.B.stays I.keep
  have le := F.le
  have hkl := isList_stays F.hk fun o e => I.keep _ _ e
  have hkn : (refs ks).toArray.size = ns.length := by simp [F.len]
  have hs : sl < s.heap.objs.size := by obtain ⟨ws, n, g1, _⟩ := I.sAt; exact Heap.lt_size g1
  have ho : ol < s.heap.objs.size := by obtain ⟨ws, n, g1, _⟩ := I.oAt; exact Heap.lt_size g1
  refine wpAny_For (wpAny_Call_Name_kw (Name_function_global rfl rfl (loadGlobal_builtin B.g (g_range P) B.b (b_range P) ?_)))
  refine callWith_type1 (spliced_more ?_)
  refine lenName B hkl (by omega) I.ns I.mkk rfl rfl rfl rfl rfl rfl ?_
  rw [hkn]
  refine spliced_none (call_range_1 ?_)
  refine forR (n := ns.length) (J := fun i m h => ∃ st out, LJ G kl sl ol ln m h st out ∧ (∀ k ∈ st, k < ns.length) ∧ st.length + out.length = i ∧ out ++ run (szF ns) (List.range' i (ns.length - i)) st = run (szF ns) (List.range' 0 ns.length) [])
    hh rfl rfl (IsRange.new ..) (small_one (by omega) (by omega) (by omega) (by omega)) (I.ns.push _) ?_ ?_ ?_ ?_
  · rintro i m₁ h h' ⟨st, out, e1, e2, e3, e4⟩ stz
    exact ⟨st, out, e1.keeps F (N := s.heap.objs.size) hG hs ho (fun b o h1 h2 e => stz b o (by rw [sz]; exact Nat.lt_succ_of_lt h1) h2 e), e2, e3, e4⟩
  · exact ⟨[], [], (I.stays fun b o e => Heap.get?_push_of_some _ e).j, (fun k hk => by cases hk), rfl, rfl⟩
  · rintro i tk m₁ h₁ tk₁ Ia oI hin ⟨st, out, e1, e2, e3, e4⟩ hn₁ hI hIL hI₁
    have hIs : Ia ≠ sl := by
      rintro rfl
      obtain ⟨ws, n, g1, _⟩ := I.sAt
      rw [Heap.get?_push_of_some _ g1] at hI; cases hI
    have hIo : Ia ≠ ol := by
      rintro rfl
      obtain ⟨ws, n, g1, _⟩ := I.oAt
      rw [Heap.get?_push_of_some _ g1] at hI; cases hI
    refine wpAny_execs_cons (innerW (s := { s with heap := h₁, toks := tk₁ }) (l := List.range' (i + 1) (ns.length - (i + 1))) F (e1.place.i hn₁) hu hroom rfl hin e2 (by omega) hIs hIo hI₁ fun h₂ tk₂ st₂ out₂ I₂ hI₂ z1 z2 z3 => ?_)
    refine wpAny_execs_cons (pushS (s := { s with heap := h₂, toks := tk₂ }) F I₂ rfl (by omega) fun h₃ I₃ k₃ => wpAny_execs_nil ⟨rfl, h₃, tk₂, _, rfl, I₃.ns, ⟨i :: st₂, out₂, I₃.j, ?_, ?_, ?_⟩, k₃ _ _ hIs hI₂⟩)
    · intro k hk
      rcases List.mem_cons.mp hk with rfl | hk
      · exact hin
      · exact z1 k hk
    · simp only [List.length_cons]; omega
    · rw [z3, ← e4, show ns.length - i = (ns.length - (i + 1)) + 1 by omega, List.range'_succ]
  · rintro h' tk m' hn' ⟨st, out, e1, e2, e3, e4⟩
    refine hQ h' tk m' st out (e1.i hn') e3 ?_
    rw [Nat.sub_self] at e4
    exact e4
/-- the last loop -/
theorem lastW {Q : Flow → Shared → Prop} (F : LF v u P G kl sl ol ln ks ns vs) (I : LI G kl sl ol ln m s.heap st out) (hu : A.units + 5 < cLine) (hle : st.length + out.length ≤ 40)
    (hQ : ∀ h' tk', LI G kl sl ol ln m h' [] (out ++ st) → Q .next { s with heap := h', toks := tk' }) :
    wpAny (model PySem.Challenge.pw_dp0026_01 w) A (exec (laB 6) lawEnv) Q E s := by
  show wpAny _ _ (exec (.While (.Compare (.Name (Str.ofString "stack") _) [.NotEq] [.List [] _] _)
    [.Expr (.Call (.Attribute (.Name (Str.ofString "out") ⟨57, 8, 57, 11⟩) (Str.ofString "append") ⟨57, 8, 57, 18⟩) [.Call (.Attribute (.Name (Str.ofString "stack") ⟨57, 19, 57, 24⟩) (Str.ofString "pop") ⟨57, 19, 57, 28⟩) [] [] ⟨57, 19, 57, 30⟩] [] ⟨57, 8, 57, 31⟩) ⟨57, 8, 57, 31⟩] [] _) lawEnv) _ _ _
  refine whileR (fun n s' => ∃ h' tk' st' out', s' = { s with heap := h', toks := tk' } ∧ LI G kl sl ol ln m h' st' out' ∧ st'.length + out'.length = st.length + out.length ∧ out' ++ st' = out ++ st ∧ n = st'.length) ?_ st.length
    ⟨s.heap, s.toks, st, out, rfl, I, rfl, rfl, rfl⟩
  rintro n s' ⟨h', tk', st', out', rfl, I', hl', hr', rfl⟩
  refine neNil (s := { s with heap := h', toks := tk' }) (by omega) I' fun h₁ s₁ => ?_
  cases st' with
  | nil =>
    rw [List.append_nil] at hr'
    subst hr'
    exact hQ h₁ tk' (I'.stays s₁)
  | cons t st'' =>
    rw [decide_eq_true (List.cons_ne_nil t st''), if_pos rfl]
    have lle : st''.length + 1 + out'.length ≤ 40 := by simp only [List.length_cons] at hl'; omega
    refine wpAny_execs_cons (popS (s := { s with heap := h₁, toks := tk' }) rfl rfl F (I'.stays s₁) (by omega) fun h₃ I₃ k₃ => wpAny_execs_nil ⟨rfl, st''.length, by simp, h₃, tk', st'', out' ++ [t], rfl, I₃, ?_, ?_, rfl⟩)
    · simp only [List.length_cons, List.length_append, List.length_nil] at hl' ⊢; omega
    · rw [← hr']; simp
end
end D26
end TS22
section TS23
open PySem PySem.W PyProof.Rows PySem.W.X PySem.Calls
namespace D26
theorem ints_of_get : ∀ {vs : List Value} {ns : List Int}, vs.length = ns.length → (∀ (j : Nat) v, vs[j]? = some v → ∃ n t, ns[j]? = some n ∧ v = .int n t) → IntsAre vs ns
  | [], [], _, _ => .nil
  | [], _ :: _, h, _ => by cases h
  | _ :: _, [], h, _ => by cases h
  | v :: vs, n :: ns, h, hg => by
    obtain ⟨n', t, e1, rfl⟩ := hg 0 v rfl
    cases e1
    exact .cons _ _ (ints_of_get (by simpa using h) fun j v e => hg (j + 1) v (by simpa using e))
theorem ints_sizes {zs : List Value} {ns : List Int} (h : IntsAre zs (ns.map fun n => n.fdiv 2)) (hle : ns.length ≤ 50) : Sizes zs (szF ns) := by
  have hl : zs.length = ns.length := by rw [h.length]; simp
  refine ⟨fun k hk => ?_, by omega⟩
  obtain ⟨n, t, e1, e2⟩ := ints_at (i := k) (v := zs[k]) h (List.getElem?_eq_getElem hk)
  refine ⟨t, ?_⟩
  rw [List.getElem?_eq_getElem hk, e1]
  rw [List.getElem?_map] at e2
  cases q : ns[k]? with
  | none => rw [q] at e2; cases e2
  | some x =>
    rw [q] at e2
    cases e2
    unfold szF
    rw [List.getD_eq_getElem?_getD, q]; rfl
theorem rangeSize_nat (n : Nat) : Builtin.Range.rangeSize 0 n 1 = n := by
  unfold Builtin.Range.rangeSize
  simp
  intro h; omega
theorem range_pairwise (i n : Nat) : (List.range' i n).Pairwise (· < ·) := by
  induction n generalizing i with
  | zero => exact .nil
  | succ n ih =>
    rw [List.range'_succ]
    refine List.pairwise_cons.mpr ⟨fun k hk => ?_, ih (i + 1)⟩
    have := List.mem_range'_1.mp hk
    omega
section
variable {w : World} {A : Around} {E : Value → Shared → Prop} {s : Shared} {v u : Nat} {P : Params} {G : Heap} {kl sl ol ln : Addr} {m : Str → Option Value} {ks : List Addr} {ns : List Int} {vs : List Value} {st out : List Nat}
/-- two lists of the same ints -/
theorem eqLists {l b : Addr} {xs ys : List Value} {l1 : List Int} (h1 : s.heap.IsList l xs.toArray) (h2 : s.heap.IsList b ys.toArray) (i1 : IntsAre xs l1) (i2 : IntsAre ys l1) (hu : A.units < cLine) : SeqAt.RcAt A s (.ref l) (.ref b) true := by
  have e1 := i1.length
  have e2 := i2.length
  have := SeqAt.RcAt.lists (A := A) (s := s) (e := fun _ => true) h1 h2 (by simp; omega) hu fun j q1 q2 => by
    have q1' : j < xs.length := by simpa using q1
    have q2' : j < ys.length := by simpa using q2
    obtain ⟨n, t, z1, z2⟩ := ints_at (i := j) (v := xs[j]) i1 (List.getElem?_eq_getElem q1')
    obtain ⟨n', t', z3, z4⟩ := ints_at (i := j) (v := ys[j]) i2 (List.getElem?_eq_getElem q2')
    rw [z2] at z4
    cases z4
    show SeqAt.EqAt _ _ xs.toArray[j] ys.toArray[j] true
    rw [List.getElem_toArray, List.getElem_toArray, z1, z3]
    have := SeqAt.EqAt.int_int (A := A.in1) (s := s) n t n t'
    rwa [beq_self_eq_true] at this
  rwa [List.all_eq_true.mpr fun _ _ => rfl] at this
abbrev retScope : Scope := ⟨.function, [(Str.ofString ".0", .local), (Str.ofString "x", .local)], false, false, []⟩
theorem retL {Q : Flow → Shared → Prop} (F : LF v u P G kl sl ol ln ks ns vs) (I : LI G kl sl ol ln m s.heap [] out) (ho : out = run (szF ns) (List.range' 0 ns.length) []) (hh : A.handled = none) (hu : A.units + 100 < cLine) (hroom : A.depth + 40 < recursionLimit)
    (hQ : ∀ h' tk', Stays s.heap h' → Q (.ret (.bool true)) { s with heap := h', toks := tk' }) :
    wpAny (model PySem.Challenge.pw_dp0026_01 w) A (exec (laB 7) lawEnv) Q E s := by
  show wpAny _ _ (exec (.Return (some (.Compare (.Name (Str.ofString "out") _) [.Eq] [.Call (.Name (Str.ofString "_law_order") _) [.ListComp (.BinOp (.Name (Str.ofString "x") _) .FloorDiv (.Constant (.int 2) _ _) _) [⟨.Name (Str.ofString "x") _, .Name (Str.ofString "numbers") _, [], 0⟩] retScope _,
    .Call (.Name (Str.ofString "list") _) [.Call (.Name (Str.ofString "range") _) [.Call (.Name (Str.ofString "len") _) [.Name (Str.ofString "numbers") _] [] _] [] _] [] _] [] _] _)) _) lawEnv) _ _ _
  have B := F.B.stays I.keep
  have le := F.le
  have hnl := isList_stays F.hn fun o e => I.keep _ _ e
  have hvn : vs.length = ns.length := F.hi.length
  obtain ⟨os, n', k1, k2⟩ := I.oAt
  have fnk : ∀ {h : Heap}, Base v u P h → FnAt 40 h := fun B => ⟨_, _, _, _, B.kb _ _ (kb40 P)⟩
  refine wpAny_Return_some (wpAny_Compare1 (wpAny_Name (wpAny_loadName_local rfl rfl I.ns I.mo ?_)))
  refine wpAny_Call_Name_kw (Name_function_global rfl rfl (loadGlobal_global B.g (g_order P) ?_))
  refine callWith_F (fnk B) (spliced_more ?_)
  refine compF (cl := []) (p := fun _ => true) (F := fun v y => ∃ n t t', v = .int n t ∧ y = .int ((fun n : Int => n.fdiv 2) n) t') rfl (by decide) rfl (by decide) rfl rfl rfl rfl I.ns I.mn hnl (by simp; omega) hh ?_ ?_ ?_
  · intro C v s₃ m₃ E' _ _ _ _
    exact wpAny_pure ⟨rfl, _, _, rfl, fun _ _ e => e⟩
  · intro C v s₃ m₃ E' hv _ hn₃ hm₃ st₃
    obtain ⟨n, t, rfl, hn⟩ := ints_mem F.hi (by simpa using hv)
    refine wpAny_BinOp (wpAny_Name (wpAny_loadName_local (v := .int n t) rfl rfl hn₃ hm₃ (wpAny_Constant_int (floordiv_int (by decide) ⟨⟨n, t, _, rfl, rfl⟩, _, _, rfl, fun _ _ e => e⟩ (.inl (PyProof.noPylong_of_log2 (by decide +kernel)))))))
  intro D h₁ tk₁ ys hD hlD hF st₁
  have iy := paired_ints (f := fun n : Int => n.fdiv 2) (q := fun _ => true) (fun _ _ => rfl) F.hi hF
  rw [List.filter_eq_self.mpr fun _ _ => rfl] at iy
  have B1 := B.stays st₁
  refine spliced_more (wpAny_Call_Name_kw (Name_function_global rfl rfl (loadGlobal_builtin B1.g (g_list P) B1.b (b_list P) ?_)))
  refine callWith_type1 (spliced_more (wpAny_Call_Name_kw (Name_function_global rfl rfl (loadGlobal_builtin B1.g (g_range P) B1.b (b_range P) ?_))))
  refine callWith_type1 (spliced_more ?_)
  refine lenName B1 (isList_stays hnl fun o e => st₁ _ _ e) (by simp; omega) (I.ns.keeps st₁) I.mn rfl rfl rfl rfl rfl rfl ?_
  rw [show vs.toArray.size = ns.length by simp [hvn]]
  refine spliced_none (call_range_1 (spliced_none ?_))
  refine call_list_range (n := ns.length) hh (IsRange.new ..) (small_one (by omega) (by omega) (by omega) (by omega)) ?_ (by omega) fun h₂ tk₂ acc c' st₂ hacc items => ?_
  · exact rangeSize_nat _
  have st₂' : Stays h₁ h₂ := fun b o e => st₂ b o (Heap.get?_push_of_some _ e)
  have B2 := B1.stays st₂'
  have ip : IntsAre acc.toList (nats (List.range' 0 ns.length)) := by
    refine ints_of_get (by simpa using items.1) fun j v e => ?_
    have e' : acc[j]? = some v := by simpa using e
    obtain ⟨t, rfl⟩ := items.2 j v e'
    have hj : j < ns.length := by
      have := (Array.getElem?_eq_some_iff.mp e').1
      rw [items.1] at this; exact this
    refine ⟨_, t, ?_, rfl⟩
    simp [nats, hj]
  refine spliced_none ⟨fnk B2, ?_⟩
  have Z := ints_sizes iy (by omega)
  have zl : ys.toList.length = ns.length := by rw [iy.length]; simp
  refine order_all Z 60 A _ _ _ _ acc.toList (List.range' 0 ns.length) (by simp; omega) hh (by simp; omega) (by simp; omega) B2 (isList_stays hlD fun o e => st₂' _ _ e) ⟨_, hacc, rfl, _, rfl⟩ ip (fun k hk => ?_) (by simp; omega) fun h₃ tk₃ r rs o2 st₃ lr ir od hl => ?_
  · rw [zl]
    have := List.mem_range'_1.mp hk
    omega
  have eo := ord_run od (range_pairwise _ _)
  rw [← ho] at eo
  subst eo
  refine eqLists (s := { s with heap := h₃, toks := tk₃ }) (l1 := nats o2) ⟨_, st₃ _ _ (st₂' _ _ (st₁ _ _ k1)), rfl, _, rfl⟩ lr k2 ir (by omega) _ _ _ _ ?_
  exact hQ h₃ tk₃ fun b o e => st₃ b o (st₂' b o (st₁ b o e))
end
end D26
end TS23
section TS24
open PySem PySem.W PyProof.Rows PySem.W.X PySem.Calls
namespace D26
/-- all but the law's frame stays -/
abbrev But (h h' : Heap) : Prop := ∀ b o, b ≠ 47 → h.get? b = some o → h'.get? b = some o
theorem But.hide {h h' : Heap} (k : But h h') : Stays (h.hide 47) h' := fun b o e => by
  by_cases q : b = 47
  · rw [q, Heap.hide_self] at e; cases e
  · rw [Heap.hide_ne h q] at e; exact k b o q e
theorem Base.but {v u : Nat} {P : Params} {h h' : Heap} (B : Base v u P h) (k : But h h') : Base v u P h' := B.hide.stays k.hide
theorem hide_same (h : Heap) : Heap.SameBut 47 h (h.hide 47) := ⟨Heap.hide_size h 47, fun b hb => Heap.hide_ne h hb⟩
theorem isList_hide {h : Heap} {l : Addr} {items : Array Value} (hl : h.IsList l items) (ne : l ≠ 47) : (h.hide 47).IsList l items := isList_stays hl fun o e => (Heap.hide_ne h ne).trans e
section
variable {w : World} {E : Value → Shared → Prop} {s : Shared} {v u : Nat} {m : Str → Option Value} {vs : List Value} {ns : List Int}
/-- `numbers = _law_heaps(script) + [2, 3, 0]` -/
theorem numS {Q : Flow → Shared → Prop} (B : Base v u w.params s.heap) (hn : s.heap.Ns 47 m) (hm : m (Str.ofString "script") = some (.ref 46)) (hl : s.heap.IsList 46 vs.toArray) (hi : AllInt vs) (hle : vs.length ≤ 63)
    (hQ : ∀ h' tk' ln ws ks, ln ≠ 47 → h'.IsList ln ws.toArray → IntsAre ws ks → ws.length ≤ 15 → h'.Ns 47 (fun y => if y = Str.ofString "numbers" then some (.ref ln) else m y) → But s.heap h' → Q .next { s with heap := h', toks := tk' }) :
    wpAny (model PySem.Challenge.pw_dp0026_01 w) (callerA.deeper lawEnv) (exec (laB 1) lawEnv) Q E s := by
  show wpAny _ _ (exec (.Assign [.Name (Str.ofString "numbers") _] (.BinOp (.Call (.Name (Str.ofString "_law_heaps") _) [.Name (Str.ofString "script") _] [] _) .Add (.List [.Constant (.int 2) _ _, .Constant (.int 3) _ _, .Constant (.int 0) _ _] _) _) _) lawEnv) _ _ _
  have fnk : ∀ {h : Heap}, Base v u w.params h → FnAt 35 h := fun B => ⟨_, _, _, _, B.kb _ _ (kb35 w.params)⟩
  refine wpAny_Assign_Name (wpAny_BinOp (wpAny_Call_Name_kw (Name_function_global rfl rfl (loadGlobal_global B.g (g_heaps w.params) ?_))))
  refine callWith_F (fnk B) (spliced_more (wpAny_Name (wpAny_loadName_local rfl rfl hn hm (spliced_none ⟨fnk B, ?_⟩))))
  refine heapsCall rfl (by decide) B hl hi hle fun h₁ tk₁ r ws st₁ _ lr ir le => ?_
  refine wpAny_List (spliced_more (wpAny_Constant_int (spliced_more (wpAny_Constant_int (spliced_more (wpAny_Constant_int (spliced_none ⟨by show 3 ≤ sizeLine; decide, ?_⟩)))))))
  have st₂ : ∀ {o : Obj}, Stays h₁ (h₁.push o) := fun b o e => Heap.get?_push_of_some _ e
  refine addL (vs := ws) (ws := [.int 2 tk₁, .int 3 (tk₁ + 1), .int 0 (tk₁ + 1 + 1)]) (isList_stays lr fun o e => st₂ _ _ e) ⟨_, Heap.get?_push_size _ rfl, rfl, _, rfl⟩ (by simp; omega) ?_
  have n1 := (hn.keeps st₁).push { cls := .type "list", data := .seq #[.int 2 tk₁, .int 3 (tk₁ + 1), .int 0 (tk₁ + 1 + 1)] }
  refine wpAny_storeName_local rfl (n1.push _) (fun h₂ n₂ sb₂ => ?_) rfl
  obtain ⟨ks, ik⟩ := ir.ints
  have ne : (h₁.push { cls := .type "list", data := .seq #[.int 2 tk₁, .int 3 (tk₁ + 1), .int 0 (tk₁ + 1 + 1)] }).objs.size ≠ 47 := Ne.symm (Nat.ne_of_lt n1.lt)
  refine hQ h₂ _ _ (ws ++ [.int 2 tk₁, .int 3 (tk₁ + 1), .int 0 (tk₁ + 1 + 1)]) (ks ++ [2, 3, 0]) ne ?_ (ik.append (.cons _ _ (.cons _ _ (.cons _ _ .nil)))) (by simp; omega) n₂ fun b o hb e => ?_
  · exact ⟨_, (sb₂.2 _ ne).trans (Heap.get?_push_size _ rfl), rfl, _, rfl⟩
  · exact (sb₂.2 b hb).trans (Heap.get?_push_of_some _ (st₂ _ _ (st₁ b o e)))
/-- a new empty list in a name -/
theorem nilS {Q : Flow → Shared → Prop} {x : Str} {px p1 p2 : Pos} (hx : lawEnv.kindOf x = some .local) (hn : s.heap.Ns 47 m)
    (hQ : ∀ h' tk' D, D = s.heap.objs.size → s.heap.objs.size ≤ h'.objs.size → h'.get? D = some (lst [] 0) → h'.Ns 47 (fun y => if y = x then some (.ref D) else m y) → But s.heap h' → Q .next { s with heap := h', toks := tk' }) :
    wpAny (model PySem.Challenge.pw_dp0026_01 w) (callerA.deeper lawEnv) (exec (.Assign [.Name x px] (.List [] p1) p2) lawEnv) Q E s := by
  refine wpAny_Assign_Name (wpAny_List (spliced_none ⟨by decide, ?_⟩))
  refine wpAny_storeName_local hx (hn.push _) (fun h₂ n₂ sb₂ => ?_) rfl
  refine hQ h₂ _ _ rfl (by rw [sb₂.1, sz]; exact Nat.le_succ _) ((sb₂.2 _ (Ne.symm (Nat.ne_of_lt hn.lt))).trans (Heap.get?_push_size _ rfl)) n₂ fun b o hb e => (sb₂.2 b hb).trans (Heap.get?_push_of_some _ e)
/-- the law behind its first statement -/
theorem law_rest {Q : Flow → Shared → Prop} (B : Base v u w.params s.heap) (c48 : s.heap.IsCell 48 (some (.ref 116))) (hn : s.heap.Ns 47 m) (hm : m (Str.ofString "script") = some (.ref 46)) (hl : s.heap.IsList 46 vs.toArray) (hi : AllInt vs) (hle : vs.length ≤ 63)
    (hQ : ∀ h' tk', But s.heap h' → Q (.ret (.bool true)) { s with heap := h', toks := tk' }) :
    wpAny (model PySem.Challenge.pw_dp0026_01 w) (callerA.deeper lawEnv) (execs lawRest lawEnv) Q E s := by
  show wpAny _ _ (execs [laB 1, laB 2, laB 3, laB 4, laB 5, laB 6, laB 7] lawEnv) _ _ _
  refine wpAny_execs_cons (numS B hn hm hl hi hle fun h₁ tk₁ ln ws ns ne₁ l₁ i₁ le₁ n₁ k₁ => ?_)
  have hlen : ws.length = ns.length := i₁.length
  refine wpAny_execs_cons (keysS (s := { s with heap := h₁, toks := tk₁ }) (B.but k₁) (isCell_but c48 k₁ (by decide)) n₁ rfl l₁ i₁ (by omega) fun kl h₂ tk₂ ks n hD hkl hks K n₂ k₂ => ?_)
  have neK : kl ≠ 47 := by
    rintro rfl
    obtain ⟨o, _, _, e, _⟩ := n₁
    rw [e] at hD; cases hD
  have k₂' : But h₁ h₂ := k₂
  have B2 := (B.but k₁).but k₂'
  show wpAny _ _ (execs (.Assign [.Name (Str.ofString "stack") _] (.List [] _) _ :: .Assign [.Name (Str.ofString "out") _] (.List [] _) _ :: [laB 5, laB 6, laB 7]) lawEnv) _ _ _
  refine wpAny_execs_cons (nilS (s := { s with heap := h₂, toks := tk₂ }) rfl n₂ fun h₃ tk₃ sl es z₃ s₃ n₃ k₃ => ?_)
  refine wpAny_execs_cons (nilS (s := { s with heap := h₃, toks := tk₃ }) rfl n₃ fun h₄ tk₄ ol eo z₄ s₄ n₄ k₄ => ?_)
  have k₃' : But h₂ h₃ := k₃
  have k₄' : But h₃ h₄ := k₄
  have es' : sl = h₂.objs.size := es
  have eo' : ol = h₃.objs.size := eo
  have z₃' : h₂.objs.size ≤ h₃.objs.size := z₃
  have z₄' : h₃.objs.size ≤ h₄.objs.size := z₄
  have lt47 : 47 < h₂.objs.size := n₂.lt
  have lts : sl < h₃.objs.size := Heap.lt_size s₃
  have F : LF v u w.params (h₂.hide 47) kl sl ol ln ks ns ws := by
    refine ⟨B2.hide, isList_hide ⟨_, hkl, rfl, _, rfl⟩ neK, keysAt_ns K n₂ (q := Str.ofString "numbers") (.inr ⟨_, rfl⟩) (hide_same h₂), by omega, isList_hide (isList_stays l₁ fun o e => k₂ _ _ ne₁ e) ne₁, i₁, by omega, Heap.hide_self _ _, Heap.get?_none_of_le ?_, Heap.get?_none_of_le ?_, ?_, ?_, ?_⟩
    · rw [Heap.hide_size]; omega
    · rw [Heap.hide_size]; omega
    · exact Nat.ne_of_lt (by rw [eo']; exact lts)
    · exact Nat.ne_of_gt (by rw [es']; exact lt47)
    · exact Nat.ne_of_gt (by rw [eo']; exact Nat.lt_of_lt_of_le lt47 z₃')
  have I : LI (h₂.hide 47) kl sl ol ln _ h₄ [] [] :=
    ⟨n₄, fun b o e => k₄ b o (fun q => by rw [q, Heap.hide_self] at e; cases e) (But.hide k₃' b o e), rfl, rfl, rfl, rfl, ⟨[], 0, k₄ _ _ F.s47 s₃, .nil⟩, ⟨[], 0, s₄, .nil⟩⟩
  refine wpAny_execs_cons (forS (s := { s with heap := h₄, toks := tk₄ }) F I (by rw [Heap.hide_size]; exact Nat.le_trans z₃' z₄') rfl (by decide) (by decide) fun h₅ tk₅ m₅ st out I₅ e1 e2 => ?_)
  refine wpAny_execs_cons (lastW (s := { s with heap := h₅, toks := tk₅ }) F I₅ (by decide) (by omega) fun h₆ tk₆ I₆ => ?_)
  refine wpAny_execs_cons (retL (s := { s with heap := h₆, toks := tk₆ }) F I₆ e2 rfl (by decide) (by decide) fun h₇ tk₇ st₇ => ?_)
  refine hQ h₇ tk₇ fun b o hb e => st₇ b o (I₆.keep b o ?_)
  rw [Heap.hide_ne _ hb]
  exact k₂ b o hb (k₁ b o hb e)
end
end D26
end TS24
section TS25
open PySem PySem.W PyProof.Rows PySem.W.X PySem.Calls
namespace D26
theorem allIn_keeps {h h' : Heap} (k : Stays h h') : ∀ {K : Frag}, AllIn h K → AllIn h' K
  | [], _ => trivial
  | _ :: _, ⟨a, b⟩ => ⟨k _ _ a, allIn_keeps k b⟩
theorem ns_agree {h : Heap} {a : Addr} {m m' : Str → Option Value} (x : h.Ns a m) (y : h.Ns a m') (n : Str) : m n = m' n := by
  obtain ⟨o, es, ep, e1, e2, _, e3⟩ := x
  obtain ⟨o', es', ep', f1, f2, _, f3⟩ := y
  rw [e1] at f1
  cases f1
  rw [e2] at f2
  cases f2
  rw [← e3 n, ← f3 n]
theorem g_law (P : Params) : nsM P 3 "law" = some (.ref 45) := by kernel_rfl
theorem g_name (P : Params) : nsM P 3 "__name__" = some (.str sLaw 207) := by kernel_rfl
theorem g_blt (P : Params) : nsM P 3 "__builtins__" = some (.ref 4) := by kernel_rfl
theorem g_cmp (P : Params) : nsM P 3 "cmp_to_key" = some (.ref 28) := by kernel_rfl
theorem kb23 (P : Params) : (KB P).lookup 23 = none := by kernel_rfl
theorem kb42 (P : Params) : (KB P).lookup 42 = none := by kernel_rfl
def refTo (a : Addr) : Option Value → Bool
  | some (.ref b) => Nat.beq b a
  | _ => false
def isCodeCls : Value → Bool
  | .type n => n == "code"
  | _ => false
def codeTab (a : Addr) : Option Obj → Bool
  | some ⟨c, _, .fields vs, _⟩ => isCodeCls c && refTo a vs[11]?
  | _ => false
theorem isTab_of {K : Frag} {h : Heap} {c a : Addr} (X : K.In h) (e : codeTab a (K.lookup c) = true) : isCodeTable h a := by
  cases q : K.lookup c with
  | none => rw [q] at e; cases e
  | some o =>
    rw [q] at e
    have g := X _ _ q
    obtain ⟨oc, od, d, sl⟩ := o
    cases d with
    | fields vs =>
      have e' : (isCodeCls oc && refTo a vs[11]?) = true := e
      obtain ⟨e1, e2⟩ := Bool.and_eq_true_iff.mp e'
      have c1 : oc = .type "code" := by
        cases oc with
        | type n => rw [eq_of_beq (show (n == "code") = true from e1)]
        | _ => cases e1
      have c2 : vs[11]? = some (.ref a) := by
        cases r : vs[11]? with
        | none => rw [r] at e2; cases e2
        | some y =>
          rw [r] at e2
          cases y with
          | ref b => rw [Nat.eq_of_beq_eq_true (show Nat.beq b a = true from e2)]
          | _ => cases e2
      exact ⟨c, _, vs, g, c1, rfl, c2⟩
    | _ => cases e
theorem tab42 (P : Params) : codeTab 42 ((hdz.heap_84 P).lookup 44) = true := by kernel_rfl
theorem tab23 (P : Params) : codeTab 23 ((hdz.heap_84 P).lookup 27) = true := by kernel_rfl
theorem law_old {h₀ h : Heap} {P : Params} {ps qs : Array Value} (KX : (hdz.heap_84 P).In h₀) (k : ∀ b o, b ≠ 23 → b ≠ 42 → h₀.get? b = some o → h.get? b = some o) (h23 : h.get? 23 = some (tab ps)) (h42 : h.get? 42 = some (tab qs)) : OldK h₀ h := by
  refine ⟨fun b o e => ?_, fun b o e => ?_⟩
  · by_cases e1 : b = 23
    · subst e1
      rw [KX _ _ (kAt23 P)] at e
      cases e
      exact .inr (.inl ⟨isTab_of KX (tab23 P), rfl, #[], ps, rfl, by rw [Array.empty_append]; exact h23⟩)
    by_cases e2 : b = 42
    · subst e2
      rw [KX _ _ (kAt42 P)] at e
      cases e
      exact .inr (.inl ⟨isTab_of KX (tab42 P), rfl, #[], qs, rfl, by rw [Array.empty_append]; exact h42⟩)
    exact .inl (k b o e1 e2 e)
  · by_cases e1 : b = 23
    · exact ⟨_, e1 ▸ h23⟩
    by_cases e2 : b = 42
    · exact ⟨_, e2 ▸ h42⟩
    exact ⟨o, k b o e1 e2 e⟩
/-- the law's call: it ends with True, and what stood stands -/
theorem law_call {w : World} {s : Shared} {R : Result → Shared → Prop} {vs : List Value} {ns : List Int} (hs : s.heap.objs.size = 47) (hge : s.gens = #[]) (AK : AllIn s.heap (hdz.heap_84 w.params)) (KX : (hdz.heap_84 w.params).In s.heap) (hlim : s.heap.NoLimit)
    (hl : s.heap.IsList 46 vs.toArray) (hi : IntsAre vs ns) (hle : vs.length ≤ 63)
    (hR : ∀ h' tk, OldK s.heap h' → R (.ok (.ret (.bool true))) ⟨h', #[], s.drawn, tk, s.os⟩) :
    codeAny (model PySem.Challenge.pw_dp0026_01 w) callerA (.call (.ref 45) ⟨[.ref 46], []⟩) R s := by
  have KB1 : (KB w.params).In s.heap := in_filter (fun _ _ _ => rfl) KX
  refine law_start hs hge AK KX hlim (ns_of KB1 (kns3 w.params)) (g_name _) (g_blt _) (g_cmp _) fun h₁ oc v u tk hoc F N => ?_
  have keep : ∀ b o, b ≠ 23 → b ≠ 42 → s.heap.get? b = some o → h₁.get? b = some o := fun b o e1 e2 e => F.keep b o (ghost_ne e (by simp only [tabs2, List.map_cons, List.map_nil, List.mem_cons, List.not_mem_nil, or_false, not_or]; exact ⟨e1, e2⟩))
  have B1 : Base v u w.params h₁ := by
    refine ⟨fun a o e => keep a o (fun q => ?_) (fun q => ?_) (KB1 a o e), KOk.of fun p hp => (N p (.tail _ (.tail _ (.tail _ hp)))).1, hlim.at fun o e => keep _ o (by decide) (by decide) e⟩
    · rw [q, kb23] at e; cases e
    · rw [q, kb42] at e; cases e
  refine law_rest (s := ⟨h₁, #[], s.drawn, tk, s.os⟩) B1 ⟨oc, (N (48, oc) (.head _)).1, hoc⟩ F.ns rfl (isList_stays hl fun o e => keep _ o (by decide) (by decide) e) (AllInt.of hi) hle fun h₂ tk₂ k₂ => ?_
  refine hR h₂ tk₂ (law_old KX (fun b o e1 e2 e => k₂ b o (fun q => ?_) (keep b o e1 e2 e)) (k₂ 23 _ (by decide) (N _ (.tail _ (.head _))).1) (k₂ 42 _ (by decide) (N _ (.tail _ (.tail _ (.head _)))).1))
  have := Heap.lt_size e
  rw [hs, q] at this
  exact absurd this (by decide)
end D26
end TS25
open PySem PySem.W PyProof.Rows PySem.W.X PySem.Calls D26
theorem PySem.Challenge.cw_dp0026_01_holds : PySem.Challenge.rw_dp0026_01.Holds := by
  refine hdz ?_
  intro w s₀ s₁ mg mb G y fa o pm cd doc dV kV ho hd hcd hD hmg hg args vals as L hpre hlay hrd hwl hlo
  obtain ⟨AK, KX, ZN, ZT⟩ := z_facts (K := hdz.heap_84) (fun P => by kernel_rfl) y
  refine Ground.open G ?_
  intro T B D TE TW
  wrow_args hpre hlay hrd hwl hlo
  obtain ⟨hat, hsz⟩ := script_at L
  rw [ZN] at hat hsz
  subst hat
  have KX1 : (hdz.heap_84 w.params).In s₁.heap := Frag.In.keeps KX L.keeps
  have KB1 : (KB w.params).In s₁.heap := in_filter (fun _ _ _ => rfl) KX1
  have hfa : fa = 45 := by
    have e : mg "law" = some (.ref 45) := (ns_agree T.g (ns_of KB1 (kns3 w.params)) "law").trans (g_law w.params)
    exact Value.ref.inj (Option.some.inj (hmg.symm.trans e))
  subst hfa
  rename IntsAre _ _ => hI
  have hlen := hI.length
  refine enter_call (law_call hsz hg (allIn_keeps L.keeps AK) KX1 T.nolimit (by assumption) hI (by omega) fun h' tk hold => ?_)
  exact ⟨.inl ⟨_, _, [], rfl, fun _ => rfl, ReadsW.bool true, by first | rfl | wrow_post, fun _ => ⟨List.nodup_nil, fun _ hm => (nomatch hm)⟩⟩, hold, rfl, AllBare.empty⟩
