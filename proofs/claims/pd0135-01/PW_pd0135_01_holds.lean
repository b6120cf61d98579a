import PyProof.Rows.All
import Wide.All
import OpenK.AllK
import Wide.FinOn
import PySem.Challenge.RW_pd0135_01
set_option Elab.async false
set_option maxRecDepth 100000
open PySem PySem.W PyProof.Rows PySem.Calls PySem.Spec
namespace Mine
local macro_rules | `(tactic| walk_at $s:str) => `(tactic| k_extra $s)
section
open PySem PySem.W PyProof.Rows
set_option maxHeartbeats 8000000
/-- the law's program -/
abbrev G0 : Program := PySem.Challenge.pw_pd0135_01
/-- a statement of a body -/
noncomputable def stmtAt : List Stmt → Nat → Option Stmt
  | [], _ => none
  | s :: _, 0 => some s
  | _ :: r, n + 1 => stmtAt r n
/-- the object that the def leaves, that stands at that place of the text -/
noncomputable def fnAt (n : Nat) (pm cd : Value) : Obj := match stmtAt G0.main.body n with
  | some (.FunctionDef m params body _ _ _ scope _ _ _) => { cls := .type "function", data := .func { name := m, qualname := m, params := params, body := .stmts body, scope := scope, globals := 3, closure := [], defaults := .none, kwdefaults := .none, pyModule := pm, code := cd } }
  | _ => { cls := .none, data := .fields #[] }
/-- the part of the heap that the proof reads -/
noncomputable def K0 : Params → Frag := fun P => [
  (nat_lit 3, { cls := Value.type "dict", data := Data.dict #[{ hash := PyData.keyHash P (Str.ofString "__name__"), key := Value.str (Str.ofString "__name__") 165, val := Value.str (Str.ofString "law_pd0135_01") 376 }, { hash := PyData.keyHash P (Str.ofString "__doc__"), key := Value.str (Str.ofString "__doc__") 166, val := Value.none }, { hash := PyData.keyHash P (Str.ofString "__package__"), key := Value.str (Str.ofString "__package__") 167, val := Value.none }, { hash := PyData.keyHash P (Str.ofString "__loader__"), key := Value.str (Str.ofString "__loader__") 168, val := Value.builtin "__main__.__loader__#opaque" }, { hash := PyData.keyHash P (Str.ofString "__spec__"), key := Value.str (Str.ofString "__spec__") 169, val := Value.none }, { hash := PyData.keyHash P (Str.ofString "__annotations__"), key := Value.str (Str.ofString "__annotations__") 170, val := Value.ref 6 }, { hash := PyData.keyHash P (Str.ofString "__builtins__"), key := Value.str (Str.ofString "__builtins__") 171, val := Value.ref 4 }, { hash := PyData.keyHash P (Str.ofString "__file__"), key := Value.str (Str.ofString "__file__") 173, val := Value.str (Str.ofString "/claim/cut.py") 172 }, { hash := PyData.keyHash P (Str.ofString "__cached__"), key := Value.str (Str.ofString "__cached__") 174, val := Value.none }, { hash := PyData.keyHash P (Str.ofString "_wall"), key := Value.str (Str.ofString "_wall") 193, val := Value.ref 21 }, { hash := PyData.keyHash P (Str.ofString "strip_quotes"), key := Value.str (Str.ofString "strip_quotes") 202, val := Value.ref 28 }, { hash := PyData.keyHash P (Str.ofString "_plain_name"), key := Value.str (Str.ofString "_plain_name") 213, val := Value.ref 35 }, { hash := PyData.keyHash P (Str.ofString "ABCMeta"), key := Value.str (Str.ofString "ABCMeta") 239, val := Value.ref 52 }, { hash := PyData.keyHash P (Str.ofString "_ABCLike"), key := Value.str (Str.ofString "_ABCLike") 282, val := Value.ref 85 }, { hash := PyData.keyHash P (Str.ofString "_abc_plain_meta"), key := Value.str (Str.ofString "_abc_plain_meta") 289, val := Value.ref 94 }, { hash := PyData.keyHash P (Str.ofString "fspath"), key := Value.str (Str.ofString "fspath") 301, val := Value.ref 101 }, { hash := PyData.keyHash P (Str.ofString "_check_arg_types"), key := Value.str (Str.ofString "_check_arg_types") 314, val := Value.ref 108 }, { hash := PyData.keyHash P (Str.ofString "_get_sep"), key := Value.str (Str.ofString "_get_sep") 323, val := Value.ref 115 }, { hash := PyData.keyHash P (Str.ofString "join"), key := Value.str (Str.ofString "join") 334, val := Value.ref 122 }, { hash := PyData.keyHash P (Str.ofString "split"), key := Value.str (Str.ofString "split") 345, val := Value.ref 129 }, { hash := PyData.keyHash P (Str.ofString "splitroot"), key := Value.str (Str.ofString "splitroot") 354, val := Value.ref 136 }, { hash := PyData.keyHash P (Str.ofString "normpath"), key := Value.str (Str.ofString "normpath") 369, val := Value.ref 143 }, { hash := PyData.keyHash P (Str.ofString "commonpath"), key := Value.str (Str.ofString "commonpath") 375, val := Value.ref 148 }, { hash := PyData.keyHash P (Str.ofString "_law_word"), key := Value.str (Str.ofString "_law_word") 392, val := Value.ref 155 }, { hash := PyData.keyHash P (Str.ofString "_law_read"), key := Value.str (Str.ofString "_law_read") 402, val := Value.ref 162 }, { hash := PyData.keyHash P (Str.ofString "_law_due"), key := Value.str (Str.ofString "_law_due") 415, val := Value.ref 169 }, { hash := PyData.keyHash P (Str.ofString "_law_common"), key := Value.str (Str.ofString "_law_common") 421, val := Value.ref 174 }, { hash := PyData.keyHash P (Str.ofString "law"), key := Value.str (Str.ofString "law") 427, val := Value.ref 179 }] 28 }),
  (nat_lit 27, { cls := Value.type "code", data := Data.fields #[Value.str (Str.ofString "strip_quotes") 196, Value.str (Str.ofString "strip_quotes") 197, Value.str (Str.ofString "/claim/cut.py") 198, Value.int 5 0, Value.int 1 0, Value.int 0 0, Value.int 0 0, Value.int 3 0, Value.ref 22, Value.bool true, Value.int 181 0, Value.ref 23, Value.none, Value.ref 24, Value.ref 25, Value.ref 26, Value.int 200 0, Value.int 5 0, Value.str (Str.ofString "/claim/cut.py") 201] }),
  (nat_lit 28, fnAt 2 (Value.str (Str.ofString "cpy313.http.cookiejar") 194) (Value.ref 27)),
  (nat_lit 100, { cls := Value.type "code", data := Data.fields #[Value.str (Str.ofString "fspath") 292, Value.str (Str.ofString "fspath") 293, Value.str (Str.ofString "/claim/cut.py") 294, Value.int 42 0, Value.int 1 0, Value.int 0 0, Value.int 0 0, Value.int 3 0, Value.ref 95, Value.bool true, Value.int 181 0, Value.ref 96, Value.none, Value.ref 97, Value.ref 98, Value.ref 99, Value.int 299 0, Value.int 42 0, Value.str (Str.ofString "/claim/cut.py") 300] }),
  (nat_lit 101, fnAt 11 (Value.str (Str.ofString "os") 290) (Value.ref 100)),
  (nat_lit 114, { cls := Value.type "code", data := Data.fields #[Value.str (Str.ofString "_get_sep") 317, Value.str (Str.ofString "_get_sep") 318, Value.str (Str.ofString "/claim/cut.py") 319, Value.int 71 0, Value.int 1 0, Value.int 0 0, Value.int 0 0, Value.int 3 0, Value.ref 109, Value.bool true, Value.int 181 0, Value.ref 110, Value.none, Value.ref 111, Value.ref 112, Value.ref 113, Value.int 321 0, Value.int 71 0, Value.str (Str.ofString "/claim/cut.py") 322] }),
  (nat_lit 115, fnAt 15 (Value.str (Str.ofString "cpy313.posixpath") 315) (Value.ref 114)),
  (nat_lit 121, { cls := Value.type "code", data := Data.fields #[Value.str (Str.ofString "join") 324, Value.str (Str.ofString "join") 325, Value.str (Str.ofString "/claim/cut.py") 326, Value.int 76 0, Value.int 1 0, Value.int 0 0, Value.int 0 0, Value.int 7 0, Value.ref 116, Value.bool true, Value.int 181 0, Value.ref 117, Value.none, Value.ref 118, Value.ref 119, Value.ref 120, Value.int 332 0, Value.int 76 0, Value.str (Str.ofString "/claim/cut.py") 333] }),
  (nat_lit 122, fnAt 16 (Value.str (Str.ofString "cpy313.posixpath") 315) (Value.ref 121)),
  (nat_lit 128, { cls := Value.type "code", data := Data.fields #[Value.str (Str.ofString "split") 335, Value.str (Str.ofString "split") 336, Value.str (Str.ofString "/claim/cut.py") 337, Value.int 93 0, Value.int 1 0, Value.int 0 0, Value.int 0 0, Value.int 3 0, Value.ref 123, Value.bool true, Value.int 181 0, Value.ref 124, Value.none, Value.ref 125, Value.ref 126, Value.ref 127, Value.int 343 0, Value.int 93 0, Value.str (Str.ofString "/claim/cut.py") 344] }),
  (nat_lit 129, fnAt 17 (Value.str (Str.ofString "cpy313.posixpath") 315) (Value.ref 128)),
  (nat_lit 135, { cls := Value.type "code", data := Data.fields #[Value.str (Str.ofString "splitroot") 346, Value.str (Str.ofString "splitroot") 347, Value.str (Str.ofString "/claim/cut.py") 348, Value.int 101 0, Value.int 1 0, Value.int 0 0, Value.int 0 0, Value.int 3 0, Value.ref 130, Value.bool true, Value.int 181 0, Value.ref 131, Value.none, Value.ref 132, Value.ref 133, Value.ref 134, Value.int 352 0, Value.int 101 0, Value.str (Str.ofString "/claim/cut.py") 353] }),
  (nat_lit 136, fnAt 18 (Value.str (Str.ofString "cpy313.posixpath") 315) (Value.ref 135)),
  (nat_lit 142, { cls := Value.type "code", data := Data.fields #[Value.str (Str.ofString "normpath") 355, Value.str (Str.ofString "normpath") 356, Value.str (Str.ofString "/claim/cut.py") 357, Value.int 115 0, Value.int 1 0, Value.int 0 0, Value.int 0 0, Value.int 3 0, Value.ref 137, Value.bool true, Value.int 181 0, Value.ref 138, Value.none, Value.ref 139, Value.ref 140, Value.ref 141, Value.int 367 0, Value.int 115 0, Value.str (Str.ofString "/claim/cut.py") 368] }),
  (nat_lit 143, fnAt 19 (Value.str (Str.ofString "cpy313.posixpath") 315) (Value.ref 142)),
  (nat_lit 147, { cls := Value.type "code", data := Data.fields #[Value.str (Str.ofString "commonpath") 370, Value.str (Str.ofString "commonpath") 371, Value.str (Str.ofString "/claim/cut.py") 372, Value.int 140 0, Value.int 1 0, Value.int 0 0, Value.int 0 0, Value.int 3 0, Value.ref 144, Value.bool true, Value.int 181 0, Value.ref 145, Value.none, Value.none, Value.none, Value.ref 146, Value.int 373 0, Value.int 140 0, Value.str (Str.ofString "/claim/cut.py") 374] }),
  (nat_lit 148, fnAt 20 (Value.str (Str.ofString "cpy313.posixpath") 315) (Value.ref 147)),
  (nat_lit 154, { cls := Value.type "code", data := Data.fields #[Value.str (Str.ofString "_law_word") 378, Value.str (Str.ofString "_law_word") 379, Value.str (Str.ofString "/claim/cut.py") 380, Value.int 170 0, Value.int 1 0, Value.int 0 0, Value.int 0 0, Value.int 3 0, Value.ref 149, Value.bool true, Value.int 181 0, Value.ref 150, Value.none, Value.ref 151, Value.ref 152, Value.ref 153, Value.int 390 0, Value.int 170 0, Value.str (Str.ofString "/claim/cut.py") 391] }),
  (nat_lit 155, fnAt 22 (Value.str (Str.ofString "law_pd0135_01") 376) (Value.ref 154)),
  (nat_lit 161, { cls := Value.type "code", data := Data.fields #[Value.str (Str.ofString "_law_read") 393, Value.str (Str.ofString "_law_read") 394, Value.str (Str.ofString "/claim/cut.py") 395, Value.int 183 0, Value.int 1 0, Value.int 0 0, Value.int 0 0, Value.int 3 0, Value.ref 156, Value.bool true, Value.int 181 0, Value.ref 157, Value.none, Value.ref 158, Value.ref 159, Value.ref 160, Value.int 400 0, Value.int 183 0, Value.str (Str.ofString "/claim/cut.py") 401] }),
  (nat_lit 162, fnAt 23 (Value.str (Str.ofString "law_pd0135_01") 376) (Value.ref 161)),
  (nat_lit 168, { cls := Value.type "code", data := Data.fields #[Value.str (Str.ofString "_law_due") 403, Value.str (Str.ofString "_law_due") 404, Value.str (Str.ofString "/claim/cut.py") 405, Value.int 190 0, Value.int 1 0, Value.int 0 0, Value.int 0 0, Value.int 3 0, Value.ref 163, Value.bool true, Value.int 181 0, Value.ref 164, Value.none, Value.ref 165, Value.ref 166, Value.ref 167, Value.int 413 0, Value.int 190 0, Value.str (Str.ofString "/claim/cut.py") 414] }),
  (nat_lit 169, fnAt 24 (Value.str (Str.ofString "law_pd0135_01") 376) (Value.ref 168)),
  (nat_lit 173, { cls := Value.type "code", data := Data.fields #[Value.str (Str.ofString "_law_common") 416, Value.str (Str.ofString "_law_common") 417, Value.str (Str.ofString "/claim/cut.py") 418, Value.int 203 0, Value.int 1 0, Value.int 0 0, Value.int 0 0, Value.int 3 0, Value.ref 170, Value.bool true, Value.int 181 0, Value.ref 171, Value.none, Value.none, Value.none, Value.ref 172, Value.int 419 0, Value.int 203 0, Value.str (Str.ofString "/claim/cut.py") 420] }),
  (nat_lit 174, fnAt 25 (Value.str (Str.ofString "law_pd0135_01") 376) (Value.ref 173)),
  (nat_lit 178, { cls := Value.type "code", data := Data.fields #[Value.str (Str.ofString "law") 422, Value.str (Str.ofString "law") 423, Value.str (Str.ofString "/claim/cut.py") 424, Value.int 208 0, Value.int 1 0, Value.int 0 0, Value.int 0 0, Value.int 3 0, Value.ref 175, Value.bool true, Value.int 181 0, Value.ref 176, Value.none, Value.none, Value.none, Value.ref 177, Value.int 425 0, Value.int 208 0, Value.str (Str.ofString "/claim/cut.py") 426] }),
  (nat_lit 179, fnAt 26 (Value.str (Str.ofString "law_pd0135_01") 376) (Value.ref 178))]
noncomputable def as0 : List Addr := [3, 27, 28, 100, 101, 114, 115, 121, 122, 128, 129, 135, 136, 142, 143, 147, 148, 154, 155, 161, 162, 168, 169, 173, 174, 178, 179]
/-- the defs and classes of the text -/
noncomputable def V0 : Program := { G0 with main := { G0.main with body := G0.main.body.filter fun s => match s with | .Assign .. => false | _ => true } }
end
section
def Kept (h h' : Heap) : Prop := ∀ b o, h.get? b = some o → h'.get? b = some o

/-- a call of one of the text's plain defs: the frame over the heap as it stands -/
theorem enter {prog : Program} {w : World} {K : Frag} {A : Around} {s : Shared} {p : Program} {loose : List Str} {mean : ExcName → Option Value} {mg mb : Str → Option Value}
    {R : Result → Shared → Prop} {name qual : Str} {params : Arguments} {body : List Stmt} {scope : Scope} {dV kV doc pm cdv ct oc : Value} {an od : Option Addr} {osl : Array (Option Value)} {f : Addr} {args : Args} {binds : List (Str × Value)}
    (X : K.In s.heap) (T : Top p loose mean mg mb s.heap)
    (ho : K.lookup f = some ⟨oc, od, .func (fnOf name qual params body scope dV kV doc pm an cdv ct), osl⟩) (hcd : codeIn K cdv qual = true) (hroom : A.depth < recursionLimit)
    (hbind : BindsTo s (fnOf name qual params body scope dV kV doc pm an cdv ct) args binds) (hloc : ∀ y ∈ binds, scope.names.lookup y.1 = some .local)
    (h : ∀ L' h₁, Fr s.heap L' h₁ (fun y => binds.reverse.lookup y) → News s.heap L' h₁ [] →
      wpAny (model prog w) (A.deeper (envOf qual scope L' f cdv)) (execs body (envOf qual scope L' f cdv))
        (fun fl s' => R (.ok (.ret (match fl with | .ret v => v | _ => .none))) s') (fun _ _ => False)
        { s with heap := h₁, toks := s.toks + binds.length })
    (hcell : ∀ x ∈ scope.names, x.2 ≠ .cell) (hco : scope.isCoroutine = false) (hgen : scope.isGenerator = false) (hk : scope.kind = .function) : codeAny (model prog w) A (.call (.ref f) args) R s := by
  refine codeAny_call_def (fd := fnOf name qual params body scope dV kV doc pm an cdv ct) (body := body) (binds := binds) hroom (X _ _ ho) rfl T.nolimit (codeRec_of X hcd) rfl hbind hcell hloc (fun h₁ hns hk₁ => ?_) hco hgen hk
  exact wpAny_mono (h _ h₁ ⟨hns, hk₁, Nat.le_refl _⟩ News.nil) (fun _ _ x => x) (fun _ _ x => x.elim)

def Done (Q : Value → Shared → Prop) (fl : Flow) (s : Shared) : Prop := Q (match fl with | .ret v => v | _ => .none) s
end
section
set_option maxHeartbeats 4000000
theorem kind_isn : builtinKind "issubclass.nested" = none := by decide +kernel
theorem plain_isn : plainId "issubclass.nested" = true := by decide +kernel
theorem args_isn (a b c : Value) : argsOk "issubclass.nested" ⟨[a, b, c], []⟩ := by unfold argsOk; kernel_rfl
theorem meta_str : typeOf (.type "str") = pure (.type "type") := by kernel_rfl
theorem sub_str : isSubtype (.type "str") (.type "str") = pure true := by rw [isSubtype_type]; kernel_rfl
theorem isn_str {dep : Int} {tk : Tok} : Meets (Builtin.«issubclass.nested» ⟨[.type "str", .type "str", .int dep tk], []⟩) (fun _ R s => R (.ok (.ret (.bool true))) s) := by
  intro prog w A R s hs
  have hm := meta_str
  have hself := sub_str
  have hb : ((Value.type "type") == (Value.type "type")) = true := rfl
  repeat (any_goals (first | assumption | (rw [if_pos hb]) | (rw [hself]) | wp_step))

theorem isn_code {prog : Program} {w : World} {A : Around} {s : Shared} {dep : Int} {tk : Tok} {R : Result → Shared → Prop} (h : R (.ok (.ret (.bool true))) s) :
    codeAny (model prog w) A (.call (.builtin "issubclass.nested") ⟨[.type "str", .type "str", .int dep tk], []⟩) R s := by
  refine codeAny_call_builtin plain_isn F.entry_issubclass_nested ?_
  have hfin := isn_str (dep := dep) (tk := tk) prog w A R s h
  have ok := args_isn (.type "str") (.type "str") (.int dep tk)
  simp only [checkBuiltinCall, kind_isn]
  cases hsig : Manifest.signature? "issubclass.nested" with
  | none => exact wpAny_pure hfin
  | some sig =>
    simp only [argsOk, hsig] at ok
    show wpAny _ _ (Bind.checkArgs "issubclass.nested" sig ⟨[.type "str", .type "str", .int dep tk], []⟩) _ _ s
    rw [ok]
    exact wpAny_pure hfin
theorem issub_str {prog : Program} {w : World} {A : Around} {E : Value → Shared → Prop} {s : Shared} {tp : Addr} {c : Value} {Q : Value → Shared → Prop}
    (htp : s.heap.get? tp = some { cls := .type "tuple", data := .seq #[.type "str", c] }) (h : Q (.bool true) s) :
    wpAny (model prog w) A (call (.builtin "issubclass") [.type "str", .ref tp]) Q E s := by
  refine call_issubclass (S := fun _ R s => s.heap.get? tp = some { cls := .type "tuple", data := .seq #[.type "str", c] } ∧ R (.ok (.ret (.bool true))) s) (fun prog w A R s hs => issubclass_outer ?_) ⟨htp, h⟩
  obtain ⟨htp, hs⟩ := hs
  obtain ⟨h, g, d, t, os⟩ := s
  have hT2 : (⟨h, g, d, t, os⟩ : Shared).TypeIs (.ref tp) "tuple" := ⟨_, htp, rfl⟩
  have f1 := F.isi_sub_tuple
  unfold Builtin.«issubclass.nested»
  repeat (any_goals (first | assumption | wp_step))
  refine isn_code ?_
  dsimp only
  repeat (any_goals (first | assumption | wp_step))
end
section
set_option maxHeartbeats 4000000

/-- an Around that handles nothing -/
abbrev Ar (dp un : Nat) (fr : Option (List Env)) (gd : Option (List Code)) : Around := { handled := none, depth := dp, frames := fr, guards := gd, units := un }

/-- the law's row -/
abbrev P0 := PySem.Challenge.rw_pd0135_01

theorem Kept.refl (h : Heap) : Kept h h := fun _ _ e => e
theorem Kept.trans {a b c : Heap} (h : Kept a b) (k : Kept b c) : Kept a c := fun x o e => k x o (h x o e)

/-- what a call of the text's def at f does: it keeps every object, and hands back what Post says -/
def Contract (w : World) (f : Addr) (n : Nat) (args : List Value) (Pre : Heap → Prop) (Post : Heap → Value → Heap → Prop) : Prop :=
  ∀ (mean : ExcName → Option Value) (mg mb : Str → Option Value) (h₀ : Heap) (ge : Array GenState) (dr : Drawn) (tk : Nat) (os : OsState) (dp un : Nat) (fr : Option (List Env)) (gd : Option (List Code)) (Q E : Value → Shared → Prop),
    (K0 w.params).In h₀ → Top V0 (looseW V0 []) mean mg mb h₀ → dp + n < 1000 → un + 50 * n < 9900 → Pre h₀ →
    (∀ r h' tk', Kept h₀ h' → Post h₀ r h' → Q r ⟨h', ge, dr, tk', os⟩) →
    wpAny (model P0.prog w) (Ar dp un fr gd) (call (.ref f) args) Q E ⟨h₀, ge, dr, tk, os⟩

theorem Fr.kept {h₀ h h' : Heap} {L : Addr} {m : Str → Option Value} (F : Fr h₀ L h m) (k : Kept h h') : Fr h₀ L h' m := by
  obtain ⟨⟨oL, es, ep, hL, r⟩, kp, ab⟩ := F
  exact ⟨⟨oL, es, ep, k _ _ hL, r⟩, fun b o e => k _ _ (kp b o e), ab⟩
theorem News.kept {h₀ h h' : Heap} {L : Addr} {news : List (Addr × Obj)} (N : News h₀ L h news) (k : Kept h h') : News h₀ L h' news :=
  fun p hp => ⟨k _ _ (N p hp).1, (N p hp).2⟩
theorem fr_lt {h₀ h : Heap} {L : Addr} {m : Str → Option Value} (F : Fr h₀ L h m) : L < h.objs.size := F.ns.lt
theorem News.add {h₀ h h' : Heap} {L : Addr} {m : Str → Option Value} {news : List (Addr × Obj)} {l : Addr} {o : Obj} (F : Fr h₀ L h m) (N : News h₀ L h' news) (hl : h.get? l = none) (ho : h'.get? l = some o) : News h₀ L h' ((l, o) :: news) := by
  intro p hp
  rcases List.mem_cons.mp hp with rfl | hp
  · refine ⟨ho, fun (e : l = L) => ?_, ?_⟩
    · obtain ⟨oL, es, ep, hL, r⟩ := F.ns
      rw [← e, hl] at hL; cases hL
    · cases hq : h₀.get? l with
      | none => rfl
      | some o' => have := F.keep _ _ hq; rw [hl] at this; cases this
  · exact N p hp

def AllNe (d : Nat) : List (Addr × Obj) → Prop
  | [] => True
  | p :: r => @Ne Nat p.1 d ∧ AllNe d r
theorem allNe_of {d : Addr} (l : List (Addr × Obj)) (h : ∀ p ∈ l, p.1 ≠ d) : AllNe d l := by
  induction l with
  | nil => exact trivial
  | cons p r ih => exact ⟨h p List.mem_cons_self, ih fun q hq => h q (List.mem_cons_of_mem _ hq)⟩
theorem of_allNe {d : Addr} (l : List (Addr × Obj)) (h : AllNe d l) : ∀ p ∈ l, p.1 ≠ d := by
  induction l with
  | nil => intro p hp; cases hp
  | cons p r ih =>
    intro q hq
    rcases List.mem_cons.mp hq with e | hq
    · rw [e]; exact h.1
    · exact ih h.2 q hq
/-- a contract used at a call in a frame -/
theorem use {w : World} {A : Around} {f : Addr} {n : Nat} {args : List Value} {Pre : Heap → Prop} {Post : Heap → Value → Heap → Prop} {h₀ : Heap} {L : Addr} {m : Str → Option Value} {news : List (Addr × Obj)} {s : Shared}
    {mean : ExcName → Option Value} {mg mb : Str → Option Value} {Q E : Value → Shared → Prop} (C : Contract w f n args Pre Post) (F : Fr h₀ L s.heap m) (N : News h₀ L s.heap news)
    (X : (K0 w.params).In h₀) (T : Top V0 (looseW V0 []) mean mg mb h₀) (hh : A.handled = none) (hd : A.depth + n < 1000) (hu : A.units + 50 * n < 9900) (pre : Pre s.heap)
    (k : ∀ r h' tk', Fr h₀ L h' m → News h₀ L h' news → Kept s.heap h' → Post s.heap r h' → Q r { s with heap := h', toks := tk' }) :
    wpAny (model P0.prog w) A (call (.ref f) args) Q E s := by
  obtain ⟨hd', dp, fr, gd, un⟩ := A
  obtain ⟨h, ge, dr, tk, os⟩ := s
  cases hh
  exact C mean mg mb h ge dr tk os dp un fr gd Q E (X.keeps F.keep) (T.keeps F.keep) hd hu pre fun r h' tk' kp po => k r h' tk' (Fr.kept F kp) (News.kept N kp) kp po

/-- the same, of a def that hands back a new object -/
theorem useN {w : World} {A : Around} {f : Addr} {n : Nat} {args : List Value} {Pre : Heap → Prop} {Po : Heap → Obj → Prop} {h₀ : Heap} {L : Addr} {m : Str → Option Value} {news : List (Addr × Obj)} {s : Shared}
    {mean : ExcName → Option Value} {mg mb : Str → Option Value} {Q E : Value → Shared → Prop} (C : Contract w f n args Pre (fun h r h' => ∃ l o, r = .ref l ∧ h.get? l = none ∧ h'.get? l = some o ∧ Po h' o)) (F : Fr h₀ L s.heap m) (N : News h₀ L s.heap news)
    (X : (K0 w.params).In h₀) (T : Top V0 (looseW V0 []) mean mg mb h₀) (hh : A.handled = none) (hd : A.depth + n < 1000) (hu : A.units + 50 * n < 9900) (pre : Pre s.heap)
    (k : ∀ l o h' tk', Fr h₀ L h' m → News h₀ L h' ((l, o) :: news) → AllNe l news → Kept s.heap h' → Po h' o → Q (.ref l) { s with heap := h', toks := tk' }) :
    wpAny (model P0.prog w) A (call (.ref f) args) Q E s :=
  use C F N X T hh hd hu pre fun r h' tk' F' N' kp ⟨l, o, hr, hl, ho, po⟩ => by
    subst hr
    exact k l o h' tk' F' (News.add F N' hl ho) (allNe_of _ fun p hp e => by have := (N p hp).1; rw [e, hl] at this; cases this) kp po

/-- the end of a def's body -/
def Back (h₀ : Heap) (ge : Array GenState) (dr : Drawn) (os : OsState) (Post : Value → Heap → Prop) (fl : Flow) (s : Shared) : Prop :=
  ∃ v h' tk', fl = .ret v ∧ s = ⟨h', ge, dr, tk', os⟩ ∧ Kept h₀ h' ∧ Post v h'
theorem Back.intro {h₀ h' : Heap} {ge : Array GenState} {dr : Drawn} {os : OsState} {Post : Value → Heap → Prop} {v : Value} {tk' : Nat} {L : Addr} {m : Str → Option Value} (F : Fr h₀ L h' m) (p : Post v h') : Back h₀ ge dr os Post (.ret v) ⟨h', ge, dr, tk', os⟩ :=
  ⟨v, h', tk', rfl, rfl, F.keep, p⟩

/-- a contract by the walk of the body -/
theorem contract {w : World} {f : Addr} {n : Nat} {args : List Value} {Pre : Heap → Prop} {Post : Heap → Value → Heap → Prop}
    {name qual : Str} {params : Arguments} {body : List Stmt} {scope : Scope} {dV kV doc pm cdv ct oc : Value} {an od : Option Addr} {osl : Array (Option Value)} {binds : List (Str × Value)}
    (ho : (K0 w.params).lookup f = some ⟨oc, od, .func (fnOf name qual params body scope dV kV doc pm an cdv ct), osl⟩) (hcd : codeIn (K0 w.params) cdv qual = true)
    (hbind : ∀ s, BindsTo s (fnOf name qual params body scope dV kV doc pm an cdv ct) ⟨args, []⟩ binds) (hloc : ∀ y ∈ binds, scope.names.lookup y.1 = some .local)
    (hcell : ∀ x ∈ scope.names, x.2 ≠ .cell) (hco : scope.isCoroutine = false) (hgen : scope.isGenerator = false) (hk : scope.kind = .function)
    (h : ∀ (mean : ExcName → Option Value) (mg mb : Str → Option Value) (h₀ : Heap) (ge : Array GenState) (dr : Drawn) (tk : Nat) (os : OsState) (dp un : Nat) (fr : Option (List Env)) (gd : Option (List Code)) (L : Addr) (h₁ : Heap),
      (K0 w.params).In h₀ → Top V0 (looseW V0 []) mean mg mb h₀ → dp + n < 1000 → un + 50 * n < 9900 → Pre h₀ → Fr h₀ L h₁ (fun y => binds.reverse.lookup y) → News h₀ L h₁ [] →
      wpAny (model P0.prog w) ((Ar dp un fr gd).deeper (envOf qual scope L f cdv)) (execs body (envOf qual scope L f cdv)) (Back h₀ ge dr os (Post h₀)) (fun _ _ => False) ⟨h₁, ge, dr, tk, os⟩) :
    Contract w f n args Pre Post := by
  intro mean mg mb h₀ ge dr tk os dp un fr gd Q E X T hd hu pre k
  refine wpAny_call (enter (s := ⟨h₀, ge, dr, tk, os⟩) X T ho hcd (by show dp < recursionLimit; simp only [recursionLimit]; omega) (hbind _) hloc (fun L h₁ F N => ?_) hcell hco hgen hk)
  refine wpAny_mono (h mean mg mb h₀ ge dr _ os dp un fr gd L h₁ X T hd hu pre F N) (fun fl s' b => ?_) fun _ _ e => e
  obtain ⟨v, h', tk', rfl, rfl, kp, po⟩ := b
  exact k v h' tk' kp po
end
section
set_option maxHeartbeats 4000000
theorem fill : (P0 = P0) ∧ K0 = K0 := by
  w_top off
  k_with_none
  (k_with "call builtin:issubclass" => ((with_reducible show wpAny _ _ (call (Value.builtin "issubclass") [Value.type "str", Value.ref _]) _ _ _); k_dflt (refine issub_str (by exact News.get (by k_asm) (by k_mem)) ?_; k_whole)))
  (k_with "mine contract" => (k_dflt ((case ho => k_is); (case hcd => k_is); (case hbind => intro s; exact BindsTo.of_eq rfl); (case hcell => decide); (case hloc => exact locs rfl); (case hco => exact rfl); (case hgen => exact rfl); (case hk => exact rfl)); intro mean mg mb h₀ ge dr tk os dp un fr gd L h₁ X T hdp hun pre F N; (try dsimp only); (try k_fold); k_steps))
  (k_with "mine room" => (simp only [Around.deeper, Around.in1, Ar] at *; omega))
  (k_with "mine use" => ((case k1 => k_asm); (case k2 => k_asm); (case k3 => k_asm); (case k4 => k_asm); (case k5 => exact rfl); (case k6 => walk_at "mine room"); (case k7 => walk_at "mine room")))
  k_fill
  exact ⟨rfl, rfl⟩



theorem fspath_c (w : World) (x : Str) (t : Tok) : Contract w 101 1 [.str x t] (fun _ => True) (fun _ r _ => r = .str x t) := by
  k_dflt (refine' contract (binds := [(Str.ofString "path", .str x t)]) ?ho ?hcd ?hbind ?hloc ?hcell ?hco ?hgen ?hk ?_)
  walk_at "mine contract"
  all_goals (refine Back.intro (by assumption) rfl)

theorem getsep_c (w : World) (x : Str) (t : Tok) : Contract w 115 1 [.str x t] (fun _ => True) (fun _ r _ => ∃ t', r = .str (Str.ofString "/") t') := by
  k_dflt (refine' contract (binds := [(Str.ofString "path", .str x t)]) ?ho ?hcd ?hbind ?hloc ?hcell ?hco ?hgen ?hk ?_)
  walk_at "mine contract"
  all_goals (refine Back.intro (by assumption) ⟨_, rfl⟩)

theorem strEq {a b : Str} {t : Tok} (h : a = b) : Value.str a t = Value.str b t := by rw [h]
def stripQ (x : Str) : Str :=
  let y := if Txt.startswith x (Str.ofString "\"") then Txt.slice x (some 1) none else x
  if Txt.endswith y (Str.ofString "\"") then Txt.slice y none (some (-1)) else y

theorem strip_c (w : World) (x : Str) (t : Tok) (hx : x.length ≤ 100000) : Contract w 28 1 [.str x t] (fun _ => True) (fun _ r _ => ∃ t', r = .str (stripQ x) t') := by
  k_dflt (refine' contract (binds := [(Str.ofString "text", .str x t)]) ?ho ?hcd ?hbind ?hloc ?hcell ?hco ?hgen ?hk ?_)
  walk_at "mine contract"
  all_goals (refine Back.intro (by assumption) ⟨_, strEq ?_⟩; simp only [stripQ]; simp_all)



theorem wordsC11 : True := by
  (k_with "call ref" => ((with_reducible show wpAny _ _ (call (Value.ref 101) [Value.str _ _]) _ _ _); k_dflt (refine' use (fspath_c _ _ _) (by k_asm) (by k_asm) (by k_asm) (by k_asm) (by exact rfl) (by walk_at "mine room") (by walk_at "mine room") trivial ?_; k_whole); intro r' h' tk' F' N' kp' po'; subst po'; clear kp'; (try k_sweep); (try dsimp only)))
  (k_with "call ref" => ((with_reducible show wpAny _ _ (call (Value.ref 115) [Value.str _ _]) _ _ _); k_dflt (refine' use (getsep_c _ _ _) (by k_asm) (by k_asm) (by k_asm) (by k_asm) (by exact rfl) (by walk_at "mine room") (by walk_at "mine room") trivial ?_; k_whole); intro r' h' tk' F' N' kp' po'; obtain ⟨t', po'⟩ := po'; subst po'; clear kp'; (try k_sweep); (try dsimp only)))
  (k_with "call ref" => ((with_reducible show wpAny _ _ (call (Value.ref 28) [Value.str _ _]) _ _ _); k_dflt (refine use (strip_c _ _ _ (by walk_at "mine len")) (by k_asm) (by k_asm) (by k_asm) (by k_asm) (by exact rfl) (by walk_at "mine room") (by walk_at "mine room") trivial ?_; k_whole); intro r' h' tk' F' N' kp' po'; obtain ⟨t', po'⟩ := po'; subst po'; clear kp'; (try k_sweep); (try dsimp only)))
  trivial
abbrev tupO (vs : List Value) : Obj := { cls := .type "tuple", data := .seq vs.toArray }
theorem tup2 {a b a' b' : Str} {t u : Tok} (h : a = a') (k : b = b') : tupO [.str a t, .str b u] = tupO [.str a' t, .str b' u] := by rw [h, k]
def splitT (x : Str) : Str := Txt.slice x (some (Txt.rfind x (Str.ofString "/") + 1)) none
def splitH (x : Str) : Str :=
  let y := Txt.slice x none (some (Txt.rfind x (Str.ofString "/") + 1))
  if (y.length : Int) = 0 then y else if (y != Txt.mul (Str.ofString "/") y.length) = true then Txt.rstripChars y (Str.ofString "/") else y

theorem splitH_a {x : Str} (h1 : ((Txt.slice x none (some (Txt.rfind x (Str.ofString "/") + 1))).length : Int) ≠ 0)
    (h2 : (Txt.slice x none (some (Txt.rfind x (Str.ofString "/") + 1)) != Txt.mul (Str.ofString "/") (Txt.slice x none (some (Txt.rfind x (Str.ofString "/") + 1))).length) = true) :
    Txt.rstripChars (Txt.slice x none (some (Txt.rfind x (Str.ofString "/") + 1))) (Str.ofString "/") = splitH x := by
  unfold splitH; rw [if_neg h1, if_pos h2]
theorem splitH_b {x : Str} (h1 : ((Txt.slice x none (some (Txt.rfind x (Str.ofString "/") + 1))).length : Int) ≠ 0)
    (h2 : (Txt.slice x none (some (Txt.rfind x (Str.ofString "/") + 1)) != Txt.mul (Str.ofString "/") (Txt.slice x none (some (Txt.rfind x (Str.ofString "/") + 1))).length) = false) :
    Txt.slice x none (some (Txt.rfind x (Str.ofString "/") + 1)) = splitH x := by
  unfold splitH; rw [if_neg h1, if_neg (by rw [h2]; exact Bool.false_ne_true)]
theorem splitH_c {x : Str} (h1 : ((Txt.slice x none (some (Txt.rfind x (Str.ofString "/") + 1))).length : Int) = 0) :
    Txt.slice x none (some (Txt.rfind x (Str.ofString "/") + 1)) = splitH x := by
  unfold splitH; rw [if_pos h1]

theorem split_c (w : World) (x : Str) (t : Tok) (hx : x.length ≤ 100000) : Contract w 129 2 [.str x t] (fun _ => True) (fun h r h' => ∃ l o, r = .ref l ∧ h.get? l = none ∧ h'.get? l = some o ∧ ∃ t1 t2, o = tupO [.str (splitH x) t1, .str (splitT x) t2]) := by
  k_dflt (refine' contract (binds := [(Str.ofString "p", .str x t)]) ?ho ?hcd ?hbind ?hloc ?hcell ?hco ?hgen ?hk ?_)
  walk_at "mine contract"
  all_goals (refine Back.intro (by assumption) ⟨_, _, rfl, News.fresh (by assumption) (by k_mem), News.get (by assumption) (by k_mem), _, _, tup2 (by with_reducible first | exact splitH_a (by assumption) (by assumption) | exact splitH_b (by assumption) (by assumption) | exact splitH_c (by assumption)) rfl⟩)

/-- of a text with one slash ahead -/
theorem splitroot_c (w : World) (x : Str) (t : Tok) (hx : x.length ≤ 100000) (h1 : Txt.slice x none (some 1) = Str.ofString "/") (h2 : Txt.slice x (some 1) (some 2) ≠ Str.ofString "/") :
    Contract w 136 2 [.str x t] (fun _ => True) (fun h r h' => ∃ l o, r = .ref l ∧ h.get? l = none ∧ h'.get? l = some o ∧ ∃ t1 t2 t3, o = tupO [.str (Str.ofString "") t1, .str (Str.ofString "/") t2, .str (Txt.slice x (some 1) none) t3]) := by
  k_dflt (refine' contract (binds := [(Str.ofString "p", .str x t)]) ?ho ?hcd ?hbind ?hloc ?hcell ?hco ?hgen ?hk ?_)
  walk_at "mine contract"
  all_goals first
    | (exfalso; simp_all; done)
    | (refine Back.intro (by assumption) ⟨_, _, rfl, News.fresh (by assumption) (by k_mem), News.get (by assumption) (by k_mem), _, _, _, rfl⟩)
end
section
set_option maxHeartbeats 1000000

/-- a turn's end -/
def TurnEnd (h₀ : Heap) (L : Addr) (J : (Str → Option Value) → List (Addr × Obj) → Prop) (I : Addr) (oI : Obj) (s₁ : Shared) (Q : Flow → Shared → Prop) (f : Flow) (s₂ : Shared) : Prop :=
  match f with
  | .ret v => Q (.ret v) s₂
  | .brk => Q .next s₂
  | _ => ∃ h' tk m' nx, s₂ = { s₁ with heap := h', toks := tk } ∧ Fr h₀ L h' m' ∧ News h₀ L h' ((I, oI) :: nx) ∧ (∀ p ∈ nx, p.1 ≠ I) ∧ J m' nx

section
variable {prog : Program} {w : World} {A : Around} {E : Value → Shared → Prop} {s : Shared} {env : Env} {h₀ : Heap} {x : Str} {body : List Stmt} {Q : Flow → Shared → Prop}

theorem loopJ {I l : Addr} {lo : Obj} {n : Nat} {P : Nat → Value → Prop} {St : Nat → Heap → Prop} {m₀ : Str → Option Value} {news : List (Addr × Obj)} (J : Nat → (Str → Option Value) → List (Addr × Obj) → Prop)
    (W : Walks prog w A I [I, l] [I] n P St) (hl : s.heap.get? l = some lo) (hIl : I ≠ l) (hL : env.locals ≠ I ∧ env.locals ≠ l) (hI : h₀.get? I = none) (hst : St 0 s.heap) (oI0 : Obj) (hoI : s.heap.get? I = some oI0)
    (hStI : ∀ i h, St i h → ∃ oI, h.get? I = some oI)
    (hJl : h₀.get? l = some lo ∨ ∀ i m nx, J i m nx → (l, lo) ∈ nx)
    (F : Fr h₀ env.locals s.heap m₀) (N : News h₀ env.locals s.heap news) (hn : ∀ p ∈ news, p.1 ≠ I) (hj : J 0 m₀ news)
    (turn : ∀ i v m₁ nx oI h tk, i < n → P i v → J i m₁ nx → (∀ p ∈ nx, p.1 ≠ I) → Fr h₀ env.locals h (fun y => if y = x then some v else m₁ y) → News h₀ env.locals h ((I, oI) :: nx) →
      wpAny (model prog w) A (execs body env) (TurnEnd h₀ env.locals (J (i + 1)) I oI { s with heap := h, toks := tk } Q) E { s with heap := h, toks := tk })
    (done : ∀ m₁ nx h tk, J n m₁ nx → Fr h₀ env.locals h m₁ → News h₀ env.locals h nx → Q .next { s with heap := h, toks := tk }) :
    LoopAtV prog w A h₀ env x body Q E (.ref I) s := by
  refine ⟨I, [I, l], [I], n, P, St, m₀, news, J, rfl, W, ?_, ?_, ?_, hst, F, N, hj, ?_, ?_⟩
  · intro hm
    rcases List.mem_cons.mp hm with e | hm
    · exact hL.1 e
    · exact hL.2 (List.mem_singleton.mp hm)
  · intro b hb
    rw [List.mem_singleton.mp hb]; exact hI
  · intro p hp hq
    exact hn p hp (List.mem_singleton.mp hq)
  · rintro i v m₁ nx s₁ own ⟨h, tk, rfl⟩ hi hP hJ hoff hown hownh hin hst₁ F₁ N₁
    obtain ⟨oI, hoI1⟩ := hStI _ _ hst₁
    have hI1 : (I, oI) ∈ own := hin I List.mem_cons_self hI oI hoI1
    have hnx : ∀ p ∈ nx, p.1 ≠ I := fun p hp e => hoff p hp (by rw [e]; exact List.mem_singleton.mpr rfl)
    have N₂ : News h₀ env.locals h ((I, oI) :: nx) := fun p hp => by
      rcases List.mem_cons.mp hp with rfl | hp
      · exact N₁ _ (List.mem_append_left _ hI1)
      · exact N₁ _ (List.mem_append_right _ hp)
    refine wpAny_mono (turn i v m₁ nx oI h tk hi hP hJ hnx F₁ N₂) (fun f s₂ p => ?_) fun _ _ e => e
    have fin : (∃ h' tk' m' nx', s₂ = { ({ s with heap := h, toks := tk } : Shared) with heap := h', toks := tk' } ∧ Fr h₀ env.locals h' m' ∧ News h₀ env.locals h' ((I, oI) :: nx') ∧ (∀ p ∈ nx', p.1 ≠ I) ∧ J (i + 1) m' nx') →
        LoopStepU h₀ env.locals [I] own (J (i + 1)) { s with heap := h, toks := tk } .next s₂ := by
      rintro ⟨h', tk', m', nx', rfl, F', N', hn', hJ'⟩
      refine ⟨rfl, h', tk', m', nx', rfl, F', ?_, ?_, hJ'⟩
      · intro p hp
        rcases List.mem_append.mp hp with hp | hp
        · have hpf := hown p hp
          have hpg := hownh p hp
          have base := N₁ p (List.mem_append_left _ hp)
          rcases List.mem_cons.mp hpf with e | hpf
          · have ho : p.2 = oI := by
              have h1 : h.get? p.1 = some p.2 := hpg
              rw [e, hoI1] at h1; exact (Option.some.inj h1).symm
            have := (N' (I, oI) List.mem_cons_self).1
            exact ⟨by rw [e, ho]; exact this, base.2⟩
          · have e := List.mem_singleton.mp hpf
            refine ⟨?_, base.2⟩
            rcases hJl with hb | hb
            · have hl1 := F₁.keep _ _ hb
              have hp2 : h.get? p.1 = some p.2 := hpg
              rw [e, hl1] at hp2
              rw [e, ← Option.some.inj hp2]
              exact F'.keep _ _ hb
            · have hl1 := (N₁ (l, lo) (List.mem_append_right _ (hb _ _ _ hJ))).1
              have hp2 : h.get? p.1 = some p.2 := hpg
              rw [e] at hp2
              have hl1' : h.get? l = some lo := hl1
              rw [hl1'] at hp2
              rw [e, ← Option.some.inj hp2]
              exact (N' (l, lo) (List.mem_cons_of_mem _ (hb _ _ _ hJ'))).1
        · exact N' p (List.mem_cons_of_mem _ hp)
      · intro p hp hq
        exact hn' p hp (List.mem_singleton.mp hq)
    cases f with
    | ret v => exact .ret p
    | brk => exact .brk p
    | next => exact .next (fin p)
    | cont => exact .cont (fin p)
  · rintro h' tk m' news' F' N' _ hJ
    exact done m' news' h' tk hJ F' N'

/-- a for over a list or a tuple, its state by J over the names and the ledger -/
theorem iterJ {l : Addr} {lo : Obj} {vs : List Value} {nn : Nat} {m₀ : Str → Option Value} {news : List (Addr × Obj)} (J : Nat → (Str → Option Value) → List (Addr × Obj) → Prop)
    (hh : A.handled = none) (hlo : lo = { cls := .type "list", data := .seq vs.toArray nn } ∨ lo = { cls := .type "tuple", data := .seq vs.toArray nn }) (hl : s.heap.get? l = some lo) (hLl : env.locals ≠ l)
    (hJl : h₀.get? l = some lo ∨ ∀ i m nx, J i m nx → (l, lo) ∈ nx)
    (F : Fr h₀ env.locals s.heap m₀) (N : News h₀ env.locals s.heap news) (hj : J 0 m₀ news)
    (turn : ∀ i v m₁ nx I oI h tk, vs[i]? = some v → J i m₁ nx → (∀ p ∈ nx, p.1 ≠ I) → (∀ p ∈ news, p.1 < I) → Fr h₀ env.locals h (fun y => if y = x then some v else m₁ y) → News h₀ env.locals h ((I, oI) :: nx) →
      wpAny (model prog w) A (execs body env) (TurnEnd h₀ env.locals (J (i + 1)) I oI { s with heap := h, toks := tk } Q) E { s with heap := h, toks := tk })
    (done : ∀ m₁ nx h tk, J vs.length m₁ nx → Fr h₀ env.locals h m₁ → News h₀ env.locals h nx → Q .next { s with heap := h, toks := tk }) :
    wpAny (model prog w) A (pyIter (.ref l)) (fun it s₂ => LoopAtV prog w A h₀ env x body Q E it s₂) E s := by
  have hne : l ≠ s.heap.objs.size := Nat.ne_of_lt (Heap.lt_size hl)
  have hLI : env.locals ≠ s.heap.objs.size := Nat.ne_of_lt F.ns.lt
  have hnew : ∀ p ∈ news, p.1 < s.heap.objs.size := fun p hp => Heap.lt_size (N p hp).1
  rcases hlo with rfl | rfl
  · have hls : s.heap.IsList l vs.toArray := ⟨_, hl, rfl, nn, rfl⟩
    refine wpAny_pyIter_list hls ?_
    have W := Walks.list (prog := prog) (w := w) hh s.heap.objs.size l hne vs.toArray
    rw [List.size_toArray] at W
    refine loopJ (lo := { cls := .type "list", data := .seq vs.toArray nn }) J W (Heap.get?_push_of_some _ hl) (Ne.symm hne) ⟨hLI, hLl⟩ (next_is_new F) ⟨⟨_, Heap.get?_push_size _ rfl, rfl, rfl⟩, hls.at fun o e => Heap.get?_push_of_some _ e⟩ _ (Heap.get?_push_size _ rfl)
      (fun i h st => let ⟨o, ho, _⟩ := st.1; ⟨o, ho⟩) hJl (F.push _) (fun p hp => ⟨Heap.get?_push_of_some _ (N p hp).1, (N p hp).2⟩) (fun p hp => Nat.ne_of_lt (hnew p hp)) hj ?_ ?_
    · intro i v m₁ nx oI h tk _ hP hJ hn F₁ N₁
      exact turn i v m₁ nx _ oI h tk (by simpa using hP) hJ hn hnew F₁ N₁
    · exact done
  · have hls : s.heap.IsTuple l vs.toArray := ⟨_, hl, rfl, nn, rfl⟩
    refine wpAny_pyIter_tuple hls ?_
    have W := Walks.tuple (prog := prog) (w := w) hh s.heap.objs.size l hne vs.toArray
    rw [List.size_toArray] at W
    refine loopJ (lo := { cls := .type "tuple", data := .seq vs.toArray nn }) J W (Heap.get?_push_of_some _ hl) (Ne.symm hne) ⟨hLI, hLl⟩ (next_is_new F) ⟨⟨_, Heap.get?_push_size _ rfl, rfl, rfl⟩, hls.at fun o e => Heap.get?_push_of_some _ e⟩ _ (Heap.get?_push_size _ rfl)
      (fun i h st => let ⟨o, ho, _⟩ := st.1; ⟨o, ho⟩) hJl (F.push _) (fun p hp => ⟨Heap.get?_push_of_some _ (N p hp).1, (N p hp).2⟩) (fun p hp => Nat.ne_of_lt (hnew p hp)) hj ?_ ?_
    · intro i v m₁ nx oI h tk _ hP hJ hn F₁ N₁
      exact turn i v m₁ nx _ oI h tk (by simpa using hP) hJ hn hnew F₁ N₁
    · exact done
end
end
section
set_option maxHeartbeats 1000000

/-- a contract of a def with *rest -/
theorem contractV {w : World} {f : Addr} {n : Nat} {args : List Value} {vs : List Value} {Pre : Heap → Prop} {Post : Heap → Value → Heap → Prop}
    {name qual : Str} {params : Arguments} {body : List Stmt} {scope : Scope} {dV kV doc pm cdv ct oc : Value} {an od : Option Addr} {osl : Array (Option Value)} {binds : Addr → List (Str × Value)} {b₁ : Value → List (Str × Value)}
    (ho : (K0 w.params).lookup f = some ⟨oc, od, .func (fnOf name qual params body scope dV kV doc pm an cdv ct), osl⟩) (hcd : codeIn (K0 w.params) cdv qual = true)
    (hp : bindArgs (fnOf name qual params body scope dV kV doc pm an cdv ct) ⟨args, []⟩ = (newTuple vs >>= fun v => pure (b₁ v))) (hz : vs.length ≤ sizeLine)
    (hg : ∀ D, b₁ (.ref D) = binds D) (hloc : ∀ D, ∀ y ∈ binds D, scope.names.lookup y.1 = some .local)
    (hcell : ∀ x ∈ scope.names, x.2 ≠ .cell) (hco : scope.isCoroutine = false) (hgen : scope.isGenerator = false) (hk : scope.kind = .function)
    (h : ∀ (mean : ExcName → Option Value) (mg mb : Str → Option Value) (h₀ : Heap) (ge : Array GenState) (dr : Drawn) (tk : Nat) (os : OsState) (dp un : Nat) (fr : Option (List Env)) (gd : Option (List Code)) (D L : Addr) (h₁ : Heap),
      (K0 w.params).In h₀ → Top V0 (looseW V0 []) mean mg mb h₀ → dp + n < 1000 → un + 50 * n < 9900 → Pre h₀ → Fr h₀ L h₁ (fun y => (binds D).reverse.lookup y) → News h₀ L h₁ [(D, ({ cls := .type "tuple", data := .seq vs.toArray } : Obj))] →
      wpAny (model P0.prog w) ((Ar dp un fr gd).deeper (envOf qual scope L f cdv)) (execs body (envOf qual scope L f cdv)) (Back h₀ ge dr os (Post h₀)) (fun _ _ => False) ⟨h₁, ge, dr, tk, os⟩) :
    Contract w f n args Pre Post := by
  intro mean mg mb h₀ ge dr tk os dp un fr gd Q E X T hd hu pre k
  refine wpAny_call (codeAny_call_function (s := ⟨h₀, ge, dr, tk, os⟩) (fd := fnOf name qual params body scope dV kV doc pm an cdv ct) (body := body) (by show dp < recursionLimit; simp only [recursionLimit]; omega) (X _ _ ho) rfl hco hgen rfl (codeRec_of X hcd) ?_)
  rw [hp]
  refine wpAny_bind (wpAny_newObj_type (s := ⟨h₀, ge, dr, tk, os⟩) (wpAny_pure ?_) (by show vs.toArray.size ≤ sizeLine; rw [List.size_toArray]; exact hz))
  rw [hg]
  refine wpAny_newFunctionEnv (s := ⟨h₀.push _, ge, dr, tk, os⟩) hcell (hloc _) (fun h₁ hns hsb => ⟨(T.nolimit.keeps fun b o e => Heap.get?_push_of_some _ e).fresh _ hsb, codeAny_func ?_⟩) hk
  have hk₁ : ∀ b o, (h₀.push ({ cls := .type "tuple", data := .seq vs.toArray } : Obj)).get? b = some o → h₁.get? b = some o := fun b o e => hsb.extBut b o (Nat.ne_of_lt (Heap.lt_size e)) (Heap.get?_push_of_some _ e)
  have F : Fr h₀ (h₀.push ({ cls := .type "tuple", data := .seq vs.toArray } : Obj)).objs.size h₁ (fun y => (binds h₀.objs.size).reverse.lookup y) :=
    ⟨hns, fun b o e => hk₁ b o (Heap.get?_push_of_some _ e), by rw [Heap.size_push]; exact Nat.le_succ _⟩
  have N : News h₀ (h₀.push ({ cls := .type "tuple", data := .seq vs.toArray } : Obj)).objs.size h₁ [(h₀.objs.size, ({ cls := .type "tuple", data := .seq vs.toArray } : Obj))] := by
    intro p hp
    rw [List.mem_singleton.mp hp]
    exact ⟨hk₁ _ _ (Heap.get?_push_size _ rfl), by rw [Heap.size_push]; exact Nat.ne_of_lt (Nat.lt_succ_self _), Heap.get?_none_of_le (Nat.le_refl _)⟩
  refine wpAny_mono (h mean mg mb h₀ ge dr _ os dp un fr gd h₀.objs.size _ h₁ X T hd hu pre F N) (fun fl s' b => ?_) fun _ _ e => e.elim
  obtain ⟨v, h', tk', rfl, rfl, kp, po⟩ := b
  exact k v h' tk' kp po
theorem bindV {name qual : Str} {body : List Stmt} {scope : Scope} {doc pm cdv ct : Value} {an : Option Addr} {p1 p2 : Pos} {v0 : Value} {vs : List Value} :
    bindArgs (fnOf name qual { posonlyargs := [], args := [{ arg := Str.ofString "a", annotation := none, pos := p1 }], vararg := some { arg := Str.ofString "p", annotation := none, pos := p2 }, kwonlyargs := [], kw_defaults := [], kwarg := none, defaults := [] } body scope .none .none doc pm an cdv ct) ⟨v0 :: vs, []⟩
      = (newTuple vs >>= fun v => pure [(Str.ofString "a", v0), (Str.ofString "p", v)]) := by
  unfold bindArgs
  simp only [List.length_cons, Option.isNone_some, Bool.and_false]
  rfl

/-- what the frame holds, as far as it is told -/
def Has (m : Str → Option Value) (ps : List (Str × Value)) : Prop := ∀ p ∈ ps, m p.1 = some p.2
theorem Has.fr {h₀ h : Heap} {L : Addr} {m : Str → Option Value} {ps : List (Str × Value)} (H : Has m ps) (F : Fr h₀ L h m) : Fr h₀ L h (kstB m ps) := by
  have e : kstB m ps = m := funext fun z => kstB_eq H fun _ => rfl
  rw [e]; exact F
theorem Has.frx {h₀ h : Heap} {L : Addr} {m : Str → Option Value} {ps : List (Str × Value)} {x : Str} {v : Value} (H : Has m ps) (F : Fr h₀ L h (fun y => if y = x then some v else m y)) : Fr h₀ L h (fun y => if y = x then some v else kstB m ps y) := by
  have e : kstB m ps = m := funext fun z => kstB_eq H fun _ => rfl
  rw [e]; exact F
theorem Has.nil {m : Str → Option Value} : Has m [] := fun _ hp => nomatch hp
theorem Has.cons {m : Str → Option Value} {x : Str} {v : Value} {ps : List (Str × Value)} (h : m x = some v) (H : Has m ps) : Has m ((x, v) :: ps) := fun p hp => by
  rcases List.mem_cons.mp hp with rfl | hp
  · exact h
  · exact H p hp
end
section
set_option maxHeartbeats 4000000
theorem fillJ1 : (P0 = P0) ∧ K0 = K0 := by
  w_top off
  k_with_none
  (k_with "call builtin:issubclass" => ((with_reducible show wpAny _ _ (call (Value.builtin "issubclass") [Value.type "str", Value.ref _]) _ _ _); k_dflt (refine issub_str (by exact News.get (by k_asm) (by k_mem)) ?_; k_whole)))
  (k_with "mine contract" => (k_dflt ((case ho => k_is); (case hcd => k_is); (case hbind => intro s; exact BindsTo.of_eq rfl); (case hcell => decide); (case hloc => exact locs rfl); (case hco => exact rfl); (case hgen => exact rfl); (case hk => exact rfl)); intro mean mg mb h₀ ge dr tk os dp un fr gd L h₁ X T hdp hun pre F N; (try dsimp only); (try k_fold); k_steps))
  (k_with "mine room" => (simp only [Around.deeper, Around.in1, Ar] at *; omega))
  (k_with "mine use" => ((case k1 => k_asm); (case k2 => k_asm); (case k3 => k_asm); (case k4 => k_asm); (case k5 => exact rfl); (case k6 => walk_at "mine room"); (case k7 => walk_at "mine room")))
  (k_with "call ref" => ((with_reducible show wpAny _ _ (call (Value.ref 101) [Value.str _ _]) _ _ _); k_dflt (refine' use (fspath_c _ _ _) (by k_asm) (by k_asm) (by k_asm) (by k_asm) (by exact rfl) (by walk_at "mine room") (by walk_at "mine room") trivial ?_; k_whole); intro r' h' tk' F' N' kp' po'; subst po'; clear kp'; (try k_sweep); (try dsimp only)))
  (k_with "call ref" => ((with_reducible show wpAny _ _ (call (Value.ref 115) [Value.str _ _]) _ _ _); k_dflt (refine' use (getsep_c _ _ _) (by k_asm) (by k_asm) (by k_asm) (by k_asm) (by exact rfl) (by walk_at "mine room") (by walk_at "mine room") trivial ?_; k_whole); intro r' h' tk' F' N' kp' po'; obtain ⟨t', po'⟩ := po'; subst po'; clear kp'; (try k_sweep); (try dsimp only)))
  (k_with "call ref" => ((with_reducible show wpAny _ _ (call (Value.ref 28) [Value.str _ _]) _ _ _); k_dflt (refine use (strip_c _ _ _ (by walk_at "mine len")) (by k_asm) (by k_asm) (by k_asm) (by k_asm) (by exact rfl) (by walk_at "mine room") (by walk_at "mine room") trivial ?_; k_whole); intro r' h' tk' F' N' kp' po'; obtain ⟨t', po'⟩ := po'; subst po'; clear kp'; (try k_sweep); (try dsimp only)))
  k_fill
  exact ⟨rfl, rfl⟩

def joinStep (path b : Str) : Str := if Txt.startswith b (Str.ofString "/") = true ∨ path.length = 0 then b else if Txt.endswith path (Str.ofString "/") = true then path ++ b else path ++ (Str.ofString "/" ++ b)
def joinP (a : Str) (xs : List Str) : Str := xs.foldl joinStep a
def sumL (xs : List Str) : Nat := (xs.map fun x => x.length + 1).sum
theorem joinStep_len (p b : Str) : (joinStep p b).length ≤ p.length + (b.length + 1) := by
  have h : (Str.ofString "/").length = 1 := by decide +kernel
  unfold joinStep
  split
  · omega
  · split
    · rw [Str.length_append]; omega
    · rw [Str.length_append, Str.length_append, h]; omega
theorem joinP_len (a : Str) (xs : List Str) : (joinP a xs).length ≤ a.length + sumL xs := by
  induction xs generalizing a with
  | nil => simp [joinP, sumL]
  | cons x r ih =>
    have h1 := ih (joinStep a x)
    have h2 := joinStep_len a x
    simp only [joinP, sumL, List.foldl_cons, List.map_cons, List.sum_cons] at h1 ⊢
    omega
theorem sumL_take (xs : List Str) (i : Nat) : sumL (xs.take i) ≤ sumL xs := by
  induction xs generalizing i with
  | nil => simp
  | cons x r ih =>
    cases i with
    | zero => simp [sumL]
    | succ i =>
      have := ih i
      simp only [sumL, List.take_succ_cons, List.map_cons, List.sum_cons] at this ⊢
      omega
theorem sumL_mem {xs : List Str} {y : Str} (h : y ∈ xs) : y.length + 1 ≤ sumL xs := by
  induction h with
  | head => simp [sumL]
  | tail _ _ ih => simp only [sumL, List.map_cons, List.sum_cons] at ih ⊢; omega
theorem joinP_take {a : Str} {xs : List Str} {i : Nat} {y : Str} (h : xs[i]? = some y) : joinP a (xs.take (i + 1)) = joinStep (joinP a (xs.take i)) y := by
  unfold joinP; rw [List.take_add_one, h]; simp
theorem strs_at {vs : List Value} {xs : List Str} (h : StrsAre vs xs) {i : Nat} {v : Value} (hv : vs[i]? = some v) : ∃ y t, xs[i]? = some y ∧ v = .str y t := by
  induction h generalizing i with
  | nil => simp at hv
  | cons y t _ ih =>
    cases i with
    | zero => simp at hv; exact ⟨y, t, by simp, hv.symm⟩
    | succ i => simpa using ih (by simpa using hv)
theorem strs_len {vs : List Value} {xs : List Str} (h : StrsAre vs xs) : vs.length = xs.length := by
  induction h with
  | nil => rfl
  | cons _ _ _ ih => simp [ih]

theorem strSome {a b : Str} {t : Tok} (h : b = a) : some (Value.str a t) = some (Value.str b t) := by rw [h]
theorem joinStep_a {p b : Str} (h : Txt.startswith b (Str.ofString "/") = true) : joinStep p b = b := by unfold joinStep; rw [if_pos (.inl h)]
theorem joinStep_b {p b : Str} (h : (p.length : Int) = 0) : joinStep p b = b := by unfold joinStep; rw [if_pos (.inr (by omega))]
theorem joinStep_n {p b : Str} (h1 : Txt.startswith b (Str.ofString "/") = false) (h2 : (p.length : Int) ≠ 0) : ¬ (Txt.startswith b (Str.ofString "/") = true ∨ p.length = 0) := by rw [h1]; simp; omega
theorem joinStep_c {p b : Str} (h1 : Txt.startswith b (Str.ofString "/") = false) (h2 : (p.length : Int) ≠ 0) (h3 : Txt.endswith p (Str.ofString "/") = true) : joinStep p b = p ++ b := by unfold joinStep; rw [if_neg (joinStep_n h1 h2), if_pos h3]
theorem joinStep_d {p b : Str} (h1 : Txt.startswith b (Str.ofString "/") = false) (h2 : (p.length : Int) ≠ 0) (h3 : Txt.endswith p (Str.ofString "/") = false) : joinStep p b = p ++ (Str.ofString "/" ++ b) := by unfold joinStep; rw [if_neg (joinStep_n h1 h2), if_neg (by rw [h3]; exact Bool.false_ne_true)]

theorem join_c (w : World) (a : Str) (t : Tok) (ps : List Value) (xs : List Str) (hxs : StrsAre ps xs) (hz : ps.length ≤ sizeLine) (hx : a.length + sumL xs ≤ 100000) : Contract w 122 2 (.str a t :: ps) (fun _ => True) (fun _ r _ => ∃ t', r = .str (joinP a xs) t') := by
  k_dflt (refine' contractV (vs := ps) (b₁ := fun v => [(Str.ofString "a", .str a t), (Str.ofString "p", v)]) (binds := fun D => [(Str.ofString "a", .str a t), (Str.ofString "p", .ref D)]) ?ho ?hcd ?hp ?hz ?hg ?hloc ?hcell ?hco ?hgen ?hk ?_; (case ho => k_is); (case hcd => k_is); (case hz => exact hz); (case hp => exact bindV); (case hg => exact fun _ => rfl); (case hcell => decide); (case hloc => exact fun _ => locs rfl); (case hco => exact rfl); (case hgen => exact rfl); (case hk => exact rfl))
  intro mean mg mb h₀ ge dr tk os dp un fr gd D L h₁ X T hdp hun pre F N
  (try dsimp only); (try k_fold)
  k_steps
  rename Fr _ _ _ _ => F9
  rename News _ _ _ _ => N9
  refine iterJ (lo := tupO ps) (vs := ps) (nn := 0) (fun i m nx => nx = [(D, tupO ps)] ∧ ∃ t' t'', Has m [(Str.ofString "path", .str (joinP a (xs.take i)) t'), (Str.ofString "sep", .str (Str.ofString "/") t'')])
    rfl (.inr rfl) (News.get N9 (by k_mem)) (Ne.symm (N9 (D, _) (by k_mem)).2.1) (.inr fun i m nx hJ => by rw [hJ.1]; exact .head _) F9 N9 ⟨rfl, _, _, Has.cons rfl (Has.cons rfl Has.nil)⟩ ?_ ?_
  · clear F9 N9
    intro i v m₁ nx I oI h tk hv hJ hn hlt (F1 : Fr h₀ L h _) (N1 : News h₀ L h _)
    obtain ⟨rfl, t', t'', H⟩ := hJ
    obtain ⟨y, ty, hy, rfl⟩ := strs_at hxs hv
    replace F1 := H.frx F1
    have hI : D ≠ I := hn _ (.head _)
    clear hn hlt H hv
    have b1 := joinP_len a (xs.take i)
    have b2 := sumL_take xs i
    have b3 := sumL_mem (List.mem_of_getElem? hy)
    have b4 : (joinP a (xs.take i)).length ≤ 100000 := by omega
    have b5 : y.length ≤ 100000 := by omega
    (try k_fold)
    k_steps
    all_goals ((rename Fr _ _ _ _ => F8); (rename News _ _ _ _ => N8); refine ⟨_, _, _, [(D, tupO ps)], rfl, F8, N8, (by intro p hp; rw [List.mem_singleton.mp hp]; exact hI), rfl, _, _, Has.cons (strSome ?_) (Has.cons rfl Has.nil)⟩; rw [joinP_take hy])
    all_goals first | exact joinStep_a (by assumption) | exact joinStep_b (by assumption) | exact joinStep_c (by assumption) (by assumption) (by assumption) | exact joinStep_d (by assumption) (by assumption) (by assumption)
  · clear F9 N9
    intro m₁ nx h tk hJ (F1 : Fr h₀ L h _) (N1 : News h₀ L h _)
    obtain ⟨rfl, t', t'', H⟩ := hJ
    rw [strs_len hxs, List.take_length] at H
    replace F1 := H.fr F1
    clear H
    (try k_fold)
    k_steps
    all_goals (exact Back.intro (by assumption) ⟨_, rfl⟩)
end
section
set_option maxHeartbeats 1000000
theorem led_split {h₀ h : Heap} {L a : Addr} {o : Obj} {r : List (Addr × Obj)} (N : News h₀ L h ((a, o) :: r)) : ∃ NC ob rest, NC = a ∧ ob = o ∧ rest = r ∧ News h₀ L h ((NC, ob) :: rest) := ⟨a, o, r, rfl, rfl, rfl, N⟩
theorem fr_name {h₀ h : Heap} {L : Addr} {m : Str → Option Value} (F : Fr h₀ L h m) : ∃ m', m' = m ∧ Fr h₀ L h m' := ⟨m, rfl, F⟩
theorem strs_snoc {vs : List Value} {xs : List Str} (h : StrsAre vs xs) (y : Str) (t : Tok) : StrsAre (vs ++ [.str y t]) (xs ++ [y]) := by
  induction h with
  | nil => exact .cons y t .nil
  | cons a b _ ih => exact .cons a b ih
theorem strs_dropLast {vs : List Value} {xs : List Str} (h : StrsAre vs xs) : StrsAre vs.dropLast xs.dropLast := by
  induction h with
  | nil => exact .nil
  | cons a b h ih =>
    cases h with
    | nil => exact .nil
    | cons c d h => exact .cons a b ih
end
section
set_option maxHeartbeats 1000000
section
variable {prog : Program} {w : World} {A : Around} {E : Value → Shared → Prop} {s : Shared} {h₀ : Heap} {L D : Addr} {m : Str → Option Value} {news news' : List (Addr × Obj)} {vs : List Value} {xs : List Str} {n : Nat}

theorem truthyL {Q : Bool → Shared → Prop} (N : News h₀ L s.heap news) (hm : (D, W.listOf vs.toArray n) ∈ news) (hz : vs.length ≤ 200000) (h1 : vs ≠ [] → Q true { s with toks := s.toks + 1 + 1 }) (h2 : vs = [] → Q false { s with toks := s.toks + 1 + 1 }) : wpAny (model prog w) A (truthy (.ref D)) Q E s := by
  refine wpAny_truthy_list (items := vs.toArray) ⟨_, N.get hm, rfl, n, rfl⟩ (by rw [List.size_toArray]; omega) ?_
  cases vs with
  | nil => exact h2 rfl
  | cons a r => exact h1 (by simp)

theorem appendL {x : Value} {Q : Value → Shared → Prop} (F : Fr h₀ L s.heap m) (N : News h₀ L s.heap news) (U : Upd D (W.listOf vs.toArray n) (W.listOf (vs ++ [x]).toArray (n + 1)) news news') (hz : vs.length ≤ 200000)
    (h : ∀ h', Fr h₀ L h' m → News h₀ L h' news' → Q .none { s with heap := h' }) : wpAny (model prog w) A (call (.builtin "list.append") [.ref D, x]) Q E s :=
  append_K F N (by rw [List.push_toArray]; exact U) h (by rw [List.size_toArray, sizeLine_eq]; omega)

theorem popL {Q : Value → Shared → Prop} (F : Fr h₀ L s.heap m) (N : News h₀ L s.heap news) (U : Upd D (W.listOf vs.toArray n) (W.listOf vs.dropLast.toArray (n + 1)) news news') (hne' : vs ≠ []) (hz : vs.length ≤ 200000)
    (h : ∀ v h', Fr h₀ L h' m → News h₀ L h' news' → Q v { s with heap := h' }) : wpAny (model prog w) A (call (.builtin "list.pop") [.ref D]) Q E s := by
  refine kl_pop F N (p := vs.dropLast) (y := vs.getLast hne') ?_ U (by rw [List.toList_toArray, sizeLine_eq]; omega) fun h' F' N' => h _ h' F' N'
  have e := kpa_last (vs.getLast hne') vs.dropLast
  rw [List.dropLast_concat_getLast] at e
  simpa using e

theorem lastL {value slice : Expr} {u : Tok} {Q : Value → Shared → Prop} (N : News h₀ L s.heap news) (hm : (D, W.listOf vs.toArray n) ∈ news) (hvs : StrsAre vs xs) (hne' : vs ≠ [])
    (h : ∀ y t, xs.getLast? = some y → Q (.str y t) s)
    (hs : subscripted slice false (.ref D) (.int (-1) u) = operate [.ref D, .int (-1) u] (getItem (.ref D) (.int (-1) u)) := by with_unfolding_all rfl) (hg : ∀ r, letTemporaryGo value (.ref D) r = pure () := by intro _; with_unfolding_all rfl) :
    wpAny (model prog w) A (subscriptTail value slice (.ref D) (.int (-1) u)) Q E s := by
  have hp : 0 < vs.length := List.length_pos_iff.mpr hne'
  have hl : vs[vs.length - 1]? = some (vs.getLast hne') := by rw [← List.getLast?_eq_getElem?]; exact List.getLast?_eq_some_getLast hne'
  obtain ⟨y, t, hy, e⟩ := strs_at hvs hl
  have hi : ((-1 : Int) + (vs.length : Int)).toNat = vs.length - 1 := by omega
  refine kim_back (l := vs) N hm rfl rfl (by omega) (by omega) (by omega) (x := .str y t) (by rw [hi, hl, e]) (h y t ?_) hs hg
  rw [List.getLast?_eq_getElem?, ← strs_len hvs]; exact hy

theorem insertL {u : Tok} {y : Value} {Q : Value → Shared → Prop} (F : Fr h₀ L s.heap m) (N : News h₀ L s.heap news) (U : Upd D (W.listOf vs.toArray n) (W.listOf (y :: vs).toArray (n + 1)) news news') (hz : vs.length ≤ 200000)
    (h : ∀ h', Fr h₀ L h' m → News h₀ L h' news' → Q .none { s with heap := h' }) : wpAny (model prog w) A (call (.builtin "list.insert") [.ref D, .int 0 u, y]) Q E s :=
  kl_insert F N (by decide) (l := y :: vs) (by simp [kl_ins]) U (by rw [List.toList_toArray, sizeLine_eq]; omega) h

theorem sumL_eq (xs : List Str) : sumL xs = (xs.map (·.length)).sum + xs.length := by
  induction xs with
  | nil => rfl
  | cons x r ih => simp only [sumL, List.map_cons, List.sum_cons, List.length_cons] at ih ⊢; omega
theorem joinL {t : Tok} {Q : Value → Shared → Prop} (N : News h₀ L s.heap news) (hm : (D, W.listOf vs.toArray n) ∈ news) (hvs : StrsAre vs xs) (hz : sumL xs ≤ 200000)
    (h : ∀ t' k, Q (.str (Txt.join (Str.ofString "/") xs) t') { s with toks := k }) : wpAny (model prog w) A (call (.builtin "str.join") [.str (Str.ofString "/") t, .ref D]) Q E s := by
  have h1 : (Str.ofString "/").length = 1 := by decide +kernel
  exact join_list (items := vs.toArray) ⟨_, N.get hm, rfl, n, rfl⟩ (by simpa using hvs) (by rw [h1]; have := sumL_eq xs; omega) h
end
end
section
set_option maxHeartbeats 4000000
theorem fillN1 : (P0 = P0) ∧ K0 = K0 := by
  w_top off
  k_with_none
  (k_with "call builtin:issubclass" => ((with_reducible show wpAny _ _ (call (Value.builtin "issubclass") [Value.type "str", Value.ref _]) _ _ _); k_dflt (refine issub_str (by exact News.get (by k_asm) (by k_mem)) ?_; k_whole)))
  (k_with "mine contract" => (k_dflt ((case ho => k_is); (case hcd => k_is); (case hbind => intro s; exact BindsTo.of_eq rfl); (case hcell => decide); (case hloc => exact locs rfl); (case hco => exact rfl); (case hgen => exact rfl); (case hk => exact rfl)); intro mean mg mb h₀ ge dr tk os dp un fr gd L h₁ X T hdp hun pre F N; (try dsimp only); (try k_fold); k_steps))
  (k_with "mine room" => (simp only [Around.deeper, Around.in1, Ar] at *; omega))
  (k_with "mine use" => ((case k1 => k_asm); (case k2 => k_asm); (case k3 => k_asm); (case k4 => k_asm); (case k5 => exact rfl); (case k6 => walk_at "mine room"); (case k7 => walk_at "mine room")))
  (k_with "call ref" => ((with_reducible show wpAny _ _ (call (Value.ref 101) [Value.str _ _]) _ _ _); k_dflt (refine' use (fspath_c _ _ _) (by k_asm) (by k_asm) (by k_asm) (by k_asm) (by exact rfl) (by walk_at "mine room") (by walk_at "mine room") trivial ?_; k_whole); intro r' h' tk' F' N' kp' po'; subst po'; clear kp'; (try k_sweep); (try dsimp only)))
  (k_with "call ref" => ((with_reducible show wpAny _ _ (call (Value.ref 115) [Value.str _ _]) _ _ _); k_dflt (refine' use (getsep_c _ _ _) (by k_asm) (by k_asm) (by k_asm) (by k_asm) (by exact rfl) (by walk_at "mine room") (by walk_at "mine room") trivial ?_; k_whole); intro r' h' tk' F' N' kp' po'; obtain ⟨t', po'⟩ := po'; subst po'; clear kp'; (try k_sweep); (try dsimp only)))
  (k_with "call ref" => ((with_reducible show wpAny _ _ (call (Value.ref 28) [Value.str _ _]) _ _ _); k_dflt (refine use (strip_c _ _ _ (by walk_at "mine len")) (by k_asm) (by k_asm) (by k_asm) (by k_asm) (by exact rfl) (by walk_at "mine room") (by walk_at "mine room") trivial ?_; k_whole); intro r' h' tk' F' N' kp' po'; obtain ⟨t', po'⟩ := po'; subst po'; clear kp'; (try k_sweep); (try dsimp only)))
  (k_with "mine len" => first | with_reducible assumption | omega | assumption)
  (k_with "mine contract0" => (k_dflt ((case ho => k_is); (case hcd => k_is); (case hbind => intro s; exact BindsTo.of_eq rfl); (case hcell => decide); (case hloc => exact locs rfl); (case hco => exact rfl); (case hgen => exact rfl); (case hk => exact rfl))))
  (k_with "truthy ref" => ((with_reducible show wpAny _ _ (truthy (Value.ref _)) _ _ _); k_dflt (refine truthyL (by k_asm) (by k_mem) (by walk_at "mine len") ?_ ?_) <;> (k_whole; intro hT'; (try dsimp only))))
  (k_with "call builtin:list.append" => ((with_reducible show wpAny _ _ (call (Value.builtin _) [Value.ref _, _]) _ _ _); k_dflt (refine appendL (by k_asm) (by k_asm) (by k_upd) (by walk_at "mine len") ?_; k_whole); intro h' F' N'; (try k_sweep)))
  (k_with "call builtin:list.pop" => ((with_reducible show wpAny _ _ (call (Value.builtin _) [Value.ref _]) _ _ _); k_dflt (refine popL (by k_asm) (by k_asm) (by k_upd) (by assumption) (by walk_at "mine len") ?_; k_whole); intro v' h' F' N'; (try k_sweep)))
  (k_with "call builtin:list.insert" => ((with_reducible show wpAny _ _ (call (Value.builtin _) [Value.ref _, Value.int 0 _, _]) _ _ _); k_dflt (refine insertL (by k_asm) (by k_asm) (by k_upd) (by walk_at "mine len") ?_; k_whole); intro h' F' N'; (try k_sweep)))
  (k_with "subscriptTail" => ((show wpAny _ _ (subscriptTail _ _ (Value.ref _) (Value.int (-1) _)) _ _ _); k_dflt (refine lastL (by k_asm) (by k_mem) (by assumption) (by assumption) ?_; k_whole); intro y' t' hl'; (try dsimp only)))
  (k_with "call builtin:str.join" => ((with_reducible show wpAny _ _ (call (Value.builtin _) [Value.str _ _, Value.ref _]) _ _ _); k_dflt (refine joinL (by k_asm) (by k_mem) (by k_asm) (by walk_at "mine len") ?_; k_whole); intro t' k'; (try dsimp only)))
  k_fill
  exact ⟨rfl, rfl⟩

def normStep (st : List Str) (c : Str) : List Str :=
  if c.length = 0 ∨ c = Str.ofString "." then st
  else if c ≠ Str.ofString ".." ∨ st.getLast? = some (Str.ofString "..") then st ++ [c]
  else st.dropLast
def normF (cs : List Str) : List Str := cs.foldl normStep []
theorem normF_take {cs : List Str} {i : Nat} {y : Str} (h : cs[i]? = some y) : normF (cs.take (i + 1)) = normStep (normF (cs.take i)) y := by
  unfold normF; rw [List.take_add_one, h]; simp
theorem normF_len (cs : List Str) : (normF cs).length ≤ cs.length := by
  suffices h : ∀ st, (cs.foldl normStep st).length ≤ st.length + cs.length by simpa [normF] using h []
  induction cs with
  | nil => intro st; simp
  | cons c r ih =>
    intro st
    have h1 := ih (normStep st c)
    have h2 : (normStep st c).length ≤ st.length + 1 := by
      unfold normStep; split
      · omega
      · split
        · simp
        · simp; omega
    simp only [List.foldl_cons, List.length_cons]; omega

section
variable {vs : List Value} {xs : List Str} {y z : Str} {t : Tok}
theorem norm_a (h : StrsAre vs xs) (c : (y.length : Int) = 0) : StrsAre vs (normStep xs y) := by unfold normStep; rw [if_pos (.inl (by omega))]; exact h
theorem norm_b (h : StrsAre vs xs) (c : (y == Str.ofString ".") = true) : StrsAre vs (normStep xs y) := by unfold normStep; rw [if_pos (.inr (beq_iff_eq.mp c))]; exact h
theorem norm_n (c0 : (y.length : Int) ≠ 0) (c : (y == Str.ofString ".") = false) : ¬ (y.length = 0 ∨ y = Str.ofString ".") := by
  rintro (e | e)
  · omega
  · rw [e] at c; simp at c
theorem norm_c1 (h : StrsAre vs xs) (c0 : (y.length : Int) ≠ 0) (c : (y == Str.ofString ".") = false) (c2 : (y != Str.ofString "..") = true) : StrsAre (vs ++ [.str y t]) (normStep xs y) := by
  unfold normStep; rw [if_neg (norm_n c0 c), if_pos (.inl (by simpa using c2))]; exact strs_snoc h y t
theorem norm_d (h : StrsAre vs xs) (c0 : (y.length : Int) ≠ 0) (c : (y == Str.ofString ".") = false) (hl : xs.getLast? = some z) (c3 : (z == Str.ofString "..") = true) : StrsAre (vs ++ [.str y t]) (normStep xs y) := by
  unfold normStep; rw [if_neg (norm_n c0 c), if_pos (.inr (by rw [hl, beq_iff_eq.mp c3]))]; exact strs_snoc h y t
theorem norm_e (h : StrsAre vs xs) (c0 : (y.length : Int) ≠ 0) (c : (y == Str.ofString ".") = false) (c2 : (y != Str.ofString "..") = false) (hl : xs.getLast? = some z) (c3 : (z == Str.ofString "..") = false) : StrsAre vs.dropLast (normStep xs y) := by
  unfold normStep
  rw [if_neg (norm_n c0 c), if_neg ?_]
  · exact strs_dropLast h
  · rintro (e | e)
    · have : y = Str.ofString ".." := by simpa using c2
      exact e this
    · rw [hl] at e; rw [Option.some.inj e] at c3; simp at c3
theorem norm_f (h : StrsAre vs xs) (c0 : (y.length : Int) ≠ 0) (c : (y == Str.ofString ".") = false) (c2 : (y != Str.ofString "..") = false) (hn : vs = []) : StrsAre vs (normStep xs y) := by
  subst hn
  cases h
  unfold normStep
  rw [if_neg (norm_n c0 c), if_neg ?_]
  · exact .nil
  · rintro (e | e)
    · have : y = Str.ofString ".." := by simpa using c2
      exact e this
    · cases e
end

theorem wordsN11 : True := by
  (k_with "call ref" => ((with_reducible show wpAny _ _ (call (Value.ref 136) [Value.str _ _]) _ _ _); k_dflt (refine useN (splitroot_c _ _ _ (by walk_at "mine len") (by assumption) (by assumption)) (by k_asm) (by k_asm) (by k_asm) (by k_asm) (by exact rfl) (by walk_at "mine room") (by walk_at "mine room") trivial ?_; k_whole); intro l' o' h' tk' F' N' l1 kp' po'; obtain ⟨t1', t2', t3', po'⟩ := po'; subst po'; clear kp'; (try simp only [AllNe, and_true] at l1); (try k_sweep); (try dsimp only)))
  (k_with "subscriptTail Name UnaryOp ref int" => ((with_reducible show wpAny _ _ (subscriptTail _ _ (Value.ref _) (Value.int _ _)) _ _ _); walk_at "subscriptTail"))
  (k_with "truthy str" => ((with_reducible show wpAny _ _ (truthy (Value.str _ _)) _ _ _); refine SBL.truthy (by omega) ?_))
  (k_with "binaryOp Add str str" => ((with_reducible show wpAny _ _ (binaryOp Operator.Add (Value.str _ _) (Value.str _ _)) _ _ _); (refine SBL.add (hsz := ?hsz) ?_); (case hsz => size_fits); intro _ _ _))
  trivial
def normP (x : Str) : Str := Str.ofString "/" ++ Txt.join (Str.ofString "/") (normF (Txt.split (Txt.slice x (some 1) none) (Str.ofString "/")))
theorem normP_eq {x : Str} {t : Tok} : Value.str (Str.ofString "/" ++ Txt.join (Str.ofString "/") (normF (Txt.split (Txt.slice x (some 1) none) (Str.ofString "/")))) t = Value.str (normP x) t := by unfold normP; rfl
theorem sumL_dropLast (xs : List Str) : sumL xs.dropLast ≤ sumL xs := by
  rw [List.dropLast_eq_take]; exact sumL_take _ _
theorem sumL_norm (cs : List Str) : sumL (normF cs) ≤ sumL cs := by
  suffices h : ∀ st, sumL (cs.foldl normStep st) ≤ sumL st + sumL cs by simpa [normF, sumL] using h []
  induction cs with
  | nil => intro st; simp [sumL]
  | cons c r ih =>
    intro st
    have h1 := ih (normStep st c)
    have h2 : sumL (normStep st c) ≤ sumL st + (c.length + 1) := by
      unfold normStep; split
      · omega
      · split
        · simp [sumL]
        · have := sumL_dropLast st; omega
    simp only [List.foldl_cons]
    have : sumL (c :: r) = (c.length + 1) + sumL r := by simp [sumL]
    omega
theorem join_len (xs : List Str) : (Txt.join (Str.ofString "/") xs).length ≤ sumL xs := by
  have h1 : (Str.ofString "/").length = 1 := by decide +kernel
  have h2 : (Txt.join (Str.ofString "/") xs).length = (xs.map (·.length)).sum + (xs.length - 1) * (Str.ofString "/").length := size_glued _ xs
  have h3 := sumL_eq xs
  rw [h1] at h2
  omega
theorem norm_c (w : World) (x : Str) (t : Tok) (hx : x.length ≤ 100000) (h0 : (x.length : Int) ≠ 0) (h1 : Txt.slice x none (some 1) = Str.ofString "/") (h2 : Txt.slice x (some 1) (some 2) ≠ Str.ofString "/") (hs : sumL (Txt.split (Txt.slice x (some 1) none) (Str.ofString "/")) ≤ 100000) :
    Contract w 143 3 [.str x t] (fun _ => True) (fun _ r _ => ∃ t', r = .str (normP x) t') := by
  have hc : (Txt.split (Txt.slice x (some 1) none) (Str.ofString "/")).length ≤ 100000 := by have := sumL_eq (Txt.split (Txt.slice x (some 1) none) (Str.ofString "/")); omega
  k_dflt (refine' contract (binds := [(Str.ofString "path", .str x t)]) ?ho ?hcd ?hbind ?hloc ?hcell ?hco ?hgen ?hk ?_)
  walk_at "mine contract0"
  intro mean mg mb h₀ ge dr tk os dp un fr gd L h₁ X T hdp hun pre F N
  (try dsimp only); (try k_fold)
  k_steps
  rotate_left
  · exfalso; omega
  rename Fr _ _ _ _ => F9
  rename News _ _ _ _ => N9
  rename StrsAre _ _ => hS
  dsimp only at F9 N9 ⊢
  rename (List.map _ _ = Txt.split _ _) => hL
  rename (∀ a, a ∈ List.map _ _ → _) => hLen0
  have hLen : ∀ a ∈ Txt.split (Txt.slice x (some 1) none) (Str.ofString "/"), a.length ≤ 100000 := fun a ha => Nat.le_trans (hLen0 a (hL ▸ ha)) (Nat.le_trans (Txt.slice_le x _ _) hx)
  rw [hL] at hS
  obtain ⟨NC, ob, rest, e1, e2, e3, N9⟩ := led_split N9
  subst e1 e2
  have hoff : OwnOff rest [NC] := by
    subst e3
    intro p hp b hb
    rw [List.mem_singleton.mp hb]
    rcases List.mem_cons.mp hp with rfl | hp
    · show (_ : Nat) ≠ _; omega
    · rw [List.mem_singleton.mp hp]; show (_ : Nat) ≠ _; omega
  refine iterJ (lo := _) (vs := _) (nn := 0) (fun i m nx => ∃ vs n t1 t2 t3 t4, nx = (NC, W.listOf vs.toArray n) :: rest ∧ StrsAre vs (normF ((Txt.split (Txt.slice x (some 1) none) (Str.ofString "/")).take i)) ∧ Has m [(Str.ofString "new_comps", .ref NC), (Str.ofString "dot", .str (Str.ofString ".") t1), (Str.ofString "dotdot", .str (Str.ofString "..") t2), (Str.ofString "initial_slashes", .str (Str.ofString "/") t3), (Str.ofString "sep", .str (Str.ofString "/") t4)])
    rfl (.inl rfl) (by subst e3; exact News.get N9 (.tail _ (.head _))) (by subst e3; exact Ne.symm (N9 _ (.tail _ (.head _))).2.1) (.inr fun i m nx hJ => by obtain ⟨vs, n, _, _, _, _, e, _⟩ := hJ; rw [e]; subst e3; exact .tail _ (.head _)) F9 N9 ⟨[], 0, _, _, _, _, rfl, .nil, Has.cons rfl (Has.cons rfl (Has.cons rfl (Has.cons rfl (Has.cons rfl Has.nil))))⟩ ?_ ?_
  · clear F9 N9 e3
    intro i v m₁ nx I oI h tk hv hJ hn hlt (F1 : Fr h₀ L h _) (N1 : News h₀ L h _)
    obtain ⟨vs, n, t1, t2, t3, t4, rfl, hvs, H⟩ := hJ
    obtain ⟨y, ty, hy, rfl⟩ := strs_at hS hv
    replace F1 := H.frx F1
    simp only [kstB] at F1
    have hvl : vs.length ≤ 200000 := by have := strs_len hvs; have := normF_len ((Txt.split (Txt.slice x (some 1) none) (Str.ofString "/")).take i); rw [List.length_take] at this; omega
    have hI := neN (hn _ (.head _))
    have hnI : ∀ (o : Obj), ∀ p ∈ (NC, o) :: rest, p.1 ≠ I := fun o p hp => by
      rcases List.mem_cons.mp hp with rfl | hp
      · exact hI
      · exact hn p (.tail _ hp)
    have by1 : y.length ≤ 100000 := hLen y (List.mem_of_getElem? hy)
    clear hlt H hv
    (try k_fold)
    k_steps
    all_goals ((rename Fr _ _ _ _ => F8); (rename News _ _ _ _ => N8); refine ⟨_, _, _, _ :: rest, rfl, F8, N8, hnI _, _, _, _, _, _, _, rfl, ?_, Has.cons rfl (Has.cons rfl (Has.cons rfl (Has.cons rfl (Has.cons rfl Has.nil))))⟩; rw [normF_take hy])
    all_goals first | exact absurd (by assumption : vs = []) (by assumption) | exact norm_a hvs (by assumption) | exact norm_b hvs (by assumption) | exact norm_c1 hvs (by assumption) (by assumption) (by assumption) | exact norm_d hvs (by assumption) (by assumption) (by assumption) (by assumption) | exact norm_e hvs (by assumption) (by assumption) (by assumption) (by assumption) (by assumption) | exact norm_f hvs (by assumption) (by assumption) (by assumption) (by assumption)
  · clear F9 N9 e3
    intro m₁ nx h tk hJ (F1 : Fr h₀ L h _) (N1 : News h₀ L h _)
    obtain ⟨vs, n, t1, t2, t3, t4, rfl, hvs, H⟩ := hJ
    rw [strs_len hS, List.take_length] at hvs
    replace F1 := H.fr F1
    simp only [kstB] at F1
    have hvl : vs.length ≤ 200000 := by have := strs_len hvs; have := normF_len (Txt.split (Txt.slice x (some 1) none) (Str.ofString "/")); omega
    have hsl := sumL_norm (Txt.split (Txt.slice x (some 1) none) (Str.ofString "/"))
    have hjl := join_len (normF (Txt.split (Txt.slice x (some 1) none) (Str.ofString "/")))
    have hl1 : (Str.ofString "/").length = 1 := by decide +kernel
    clear H
    (try k_fold)
    k_steps
    rotate_left
    · exfalso; omega
    · exact Back.intro (by assumption) ⟨_, normP_eq⟩
end
section
set_option maxHeartbeats 1000000
/-- where the walk is to stop -/
def Hold (P : Prop) : Prop := P
theorem hold {P : Prop} (h : Hold P) : P := h
theorem held {P : Prop} (h : P) : Hold P := h
def WEnd (h₀ : Heap) (L : Addr) (n : Nat) (J : Nat → (Str → Option Value) → List (Addr × Obj) → Prop) (s : Shared) (Q : Flow → Shared → Prop) (f : Flow) (s₂ : Shared) : Prop :=
  match f with
  | .ret v => Q (.ret v) s₂
  | .brk => Q .next s₂
  | _ => ∃ n' h' tk m' nx, n' < n ∧ s₂ = { s with heap := h', toks := tk } ∧ Fr h₀ L h' m' ∧ News h₀ L h' nx ∧ J n' m' nx

/-- a while by J over the measure, the names and the ledger -/
theorem whileJ {prog : Program} {w : World} {A : Around} {E : Value → Shared → Prop} {s : Shared} {env : Env} {h₀ : Heap} {test : Expr} {body : List Stmt} {pos : Pos} {Q : Flow → Shared → Prop} {m₀ : Str → Option Value} {news : List (Addr × Obj)}
    (J : Nat → (Str → Option Value) → List (Addr × Obj) → Prop) (n₀ : Nat) (F : Fr h₀ env.locals s.heap m₀) (N : News h₀ env.locals s.heap news) (hj : J n₀ m₀ news)
    (turn : ∀ n m nx h tk, J n m nx → Fr h₀ env.locals h m → News h₀ env.locals h nx →
      wpAny (model prog w) A (isTrue test env (eval test env)) (fun b s₂ => if b then wpAny (model prog w) A (execs body env) (WEnd h₀ env.locals n J s Q) (fun _ _ => False) s₂ else Q .next s₂) (fun _ _ => False) { s with heap := h, toks := tk }) :
    wpAny (model prog w) A (exec (.While test body [] pos) env) Q E s := by
  refine wpAny_While (codeAny_whileLoop (fun n s' => ∃ h tk m nx, s' = { s with heap := h, toks := tk } ∧ Fr h₀ env.locals h m ∧ News h₀ env.locals h nx ∧ J n m nx) ?_ n₀ ⟨s.heap, s.toks, m₀, news, rfl, F, N, hj⟩)
  rintro n s' ⟨h, tk, m, nx, rfl, F', N', hJ⟩
  refine wpAny_mono (turn n m nx h tk hJ F' N') (fun b s₂ hb => ?_) fun _ _ e => e.elim
  cases b with
  | false => exact wpAny_execs_nil hb
  | true =>
    refine wpAny_mono hb (fun f s₃ hf => ?_) fun _ _ e => e.elim
    have fin : (∃ n' h' tk m' nx, n' < n ∧ s₃ = { s with heap := h', toks := tk } ∧ Fr h₀ env.locals h' m' ∧ News h₀ env.locals h' nx ∧ J n' m' nx) →
        ∃ m, m < n ∧ ∃ h tk m' nx, s₃ = { s with heap := h, toks := tk } ∧ Fr h₀ env.locals h m' ∧ News h₀ env.locals h nx ∧ J m m' nx := by
      rintro ⟨n', h', tk', m', nx', hlt, e, F'', N'', hJ'⟩
      exact ⟨n', hlt, h', tk', m', nx', e, F'', N'', hJ'⟩
    cases f with
    | ret v => exact hf
    | brk => exact hf
    | next => exact fin hf
    | cont => exact fin hf

theorem itemL {prog : Program} {w : World} {A : Around} {E : Value → Shared → Prop} {s : Shared} {h₀ : Heap} {L D : Addr} {news : List (Addr × Obj)} {vs : List Value} {xs : List Str} {n : Nat} {k : Int} {value slice : Expr} {u : Tok} {Q : Value → Shared → Prop}
    (N : News h₀ L s.heap news) (hm : (D, W.listOf vs.toArray n) ∈ news) (hvs : StrsAre vs xs) (h0 : 0 ≤ k) (h1 : k < (xs.length : Int)) (hz : xs.length ≤ 200000)
    (h : ∀ y t, xs[k.toNat]? = some y → Q (.str y t) s)
    (hs : subscripted slice false (.ref D) (.int k u) = operate [.ref D, .int k u] (getItem (.ref D) (.int k u)) := by with_unfolding_all rfl) (hg : ∀ r, letTemporaryGo value (.ref D) r = pure () := by intro _; with_unfolding_all rfl) :
    wpAny (model prog w) A (subscriptTail value slice (.ref D) (.int k u)) Q E s := by
  have hl := strs_len hvs
  have hk : k.toNat < vs.length := by omega
  obtain ⟨y, t, hy, e⟩ := strs_at hvs (List.getElem?_eq_getElem hk)
  exact kim_list (l := vs) N hm rfl rfl h0 (by omega) (x := .str y t) (by rw [List.getElem?_eq_getElem hk, e]) (h y t hy) hs hg
end
section
set_option maxHeartbeats 4000000
theorem fillR1 : (P0 = P0) ∧ K0 = K0 := by
  w_top off
  k_with_none
  (k_with "call builtin:issubclass" => ((with_reducible show wpAny _ _ (call (Value.builtin "issubclass") [Value.type "str", Value.ref _]) _ _ _); k_dflt (refine issub_str (by exact News.get (by k_asm) (by k_mem)) ?_; k_whole)))
  (k_with "mine contract" => (k_dflt ((case ho => k_is); (case hcd => k_is); (case hbind => intro s; exact BindsTo.of_eq rfl); (case hcell => decide); (case hloc => exact locs rfl); (case hco => exact rfl); (case hgen => exact rfl); (case hk => exact rfl)); intro mean mg mb h₀ ge dr tk os dp un fr gd L h₁ X T hdp hun pre F N; (try dsimp only); (try k_fold); k_steps))
  (k_with "mine room" => (simp only [Around.deeper, Around.in1, Ar] at *; omega))
  (k_with "mine use" => ((case k1 => k_asm); (case k2 => k_asm); (case k3 => k_asm); (case k4 => k_asm); (case k5 => exact rfl); (case k6 => walk_at "mine room"); (case k7 => walk_at "mine room")))
  (k_with "call ref" => ((with_reducible show wpAny _ _ (call (Value.ref 101) [Value.str _ _]) _ _ _); k_dflt (refine' use (fspath_c _ _ _) (by k_asm) (by k_asm) (by k_asm) (by k_asm) (by exact rfl) (by walk_at "mine room") (by walk_at "mine room") trivial ?_; k_whole); intro r' h' tk' F' N' kp' po'; subst po'; clear kp'; (try k_sweep); (try dsimp only)))
  (k_with "call ref" => ((with_reducible show wpAny _ _ (call (Value.ref 115) [Value.str _ _]) _ _ _); k_dflt (refine' use (getsep_c _ _ _) (by k_asm) (by k_asm) (by k_asm) (by k_asm) (by exact rfl) (by walk_at "mine room") (by walk_at "mine room") trivial ?_; k_whole); intro r' h' tk' F' N' kp' po'; obtain ⟨t', po'⟩ := po'; subst po'; clear kp'; (try k_sweep); (try dsimp only)))
  (k_with "call ref" => ((with_reducible show wpAny _ _ (call (Value.ref 28) [Value.str _ _]) _ _ _); k_dflt (refine use (strip_c _ _ _ (by walk_at "mine len")) (by k_asm) (by k_asm) (by k_asm) (by k_asm) (by exact rfl) (by walk_at "mine room") (by walk_at "mine room") trivial ?_; k_whole); intro r' h' tk' F' N' kp' po'; obtain ⟨t', po'⟩ := po'; subst po'; clear kp'; (try k_sweep); (try dsimp only)))
  (k_with "mine len" => first | with_reducible assumption | omega | assumption)
  (k_with "mine contract0" => (k_dflt ((case ho => k_is); (case hcd => k_is); (case hbind => intro s; exact BindsTo.of_eq rfl); (case hcell => decide); (case hloc => exact locs rfl); (case hco => exact rfl); (case hgen => exact rfl); (case hk => exact rfl))))
  (k_with "truthy ref" => ((with_reducible show wpAny _ _ (truthy (Value.ref _)) _ _ _); k_dflt (refine truthyL (by k_asm) (by k_mem) (by walk_at "mine len") ?_ ?_) <;> (k_whole; intro hT'; (try dsimp only))))
  (k_with "call builtin:list.append" => ((with_reducible show wpAny _ _ (call (Value.builtin _) [Value.ref _, _]) _ _ _); k_dflt (refine appendL (by k_asm) (by k_asm) (by k_upd) (by walk_at "mine len") ?_; k_whole); intro h' F' N'; (try k_sweep)))
  (k_with "call builtin:list.pop" => ((with_reducible show wpAny _ _ (call (Value.builtin _) [Value.ref _]) _ _ _); k_dflt (refine popL (by k_asm) (by k_asm) (by k_upd) (by assumption) (by walk_at "mine len") ?_; k_whole); intro v' h' F' N'; (try k_sweep)))
  (k_with "call builtin:list.insert" => ((with_reducible show wpAny _ _ (call (Value.builtin _) [Value.ref _, Value.int 0 _, _]) _ _ _); k_dflt (refine insertL (by k_asm) (by k_asm) (by k_upd) (by walk_at "mine len") ?_; k_whole); intro h' F' N'; (try k_sweep)))
  (k_with "subscriptTail" => ((show wpAny _ _ (subscriptTail _ _ (Value.ref _) (Value.int (-1) _)) _ _ _); k_dflt (refine lastL (by k_asm) (by k_mem) (by assumption) (by assumption) ?_; k_whole); intro y' t' hl'; (try dsimp only)))
  (k_with "call builtin:str.join" => ((with_reducible show wpAny _ _ (call (Value.builtin _) [Value.str _ _, Value.ref _]) _ _ _); k_dflt (refine joinL (by k_asm) (by k_mem) (by k_asm) (by walk_at "mine len") ?_; k_whole); intro t' k'; (try dsimp only)))
  (k_with "call ref" => ((with_reducible show wpAny _ _ (call (Value.ref 129) [Value.str _ _]) _ _ _); k_dflt (refine useN (split_c _ _ _ (by walk_at "mine len")) (by k_asm) (by k_asm) (by k_asm) (by k_asm) (by exact rfl) (by walk_at "mine room") (by walk_at "mine room") trivial ?_; k_whole); intro l' o' h' tk' F' N' l1 kp' po'; obtain ⟨t1', t2', po'⟩ := po'; subst po'; clear kp'; (try simp only [AllNe, and_true] at l1); (try k_sweep); (try dsimp only)))
  (k_with "exec While Compare cons nil" => (refine hold ?_))
  k_fill
  exact ⟨rfl, rfl⟩

def Climb : Str → List Str → Prop
  | p, [] => splitT p = Str.ofString ""
  | p, x :: r => splitT p = x ∧ x ≠ Str.ofString "" ∧ Climb (splitH p) r
theorem rstripChars_le (x y : Str) : (Txt.rstripChars x y).length ≤ x.length := len_rstripChars x y
theorem splitT_le (x : Str) : (splitT x).length ≤ x.length := Txt.slice_le x _ _
theorem splitH_le (x : Str) : (splitH x).length ≤ x.length := by
  have h := Txt.slice_le x none (some (Txt.rfind x (Str.ofString "/") + 1))
  unfold splitH
  dsimp only
  split
  · exact h
  · split
    · exact Nat.le_trans (rstripChars_le _ _) h
    · exact h

theorem read_c (w : World) (p : Str) (t : Tok) (r : List Str) (hp : p.length ≤ 100000) (hc : Climb p r) (hr : r.length ≤ 100000) :
    Contract w 162 3 [.str p t] (fun _ => True) (fun h rv h' => ∃ l o, rv = .ref l ∧ h.get? l = none ∧ h'.get? l = some o ∧ ∃ vs n, o = W.listOf vs.toArray n ∧ StrsAre vs (r.map stripQ).reverse) := by
  k_dflt (refine' contract (binds := [(Str.ofString "path", .str p t)]) ?ho ?hcd ?hbind ?hloc ?hcell ?hco ?hgen ?hk ?_)
  walk_at "mine contract0"
  intro mean mg mb h₀ ge dr tk os dp un fr gd L h₁ X T hdp hun pre F N
  (try dsimp only); (try k_fold)
  k_steps
  refine held ?_
  rename Fr _ _ _ _ => F9
  rename News _ _ _ _ => N9
  obtain ⟨T0, ob, rest, e1, e2, e3, N9⟩ := led_split N9
  subst e1 e2 e3
  replace N9 : News _ _ _ _ := fun p hp => N9 p (.tail _ hp)
  obtain ⟨NM, ob, rest, e1, e2, e3, N9⟩ := led_split N9
  subst e1 e2 e3
  refine whileJ (fun k m nx => ∃ p' done todo vs n t1 t2, k = todo.length ∧ r = done ++ todo ∧ p'.length ≤ 100000 ∧ Climb p' todo ∧ nx = [(NM, W.listOf vs.toArray n)] ∧ StrsAre vs (done.map stripQ).reverse ∧
    Has m [(Str.ofString "names", .ref NM), (Str.ofString "head", .str (splitH p') t1), (Str.ofString "tail", .str (splitT p') t2)]) r.length F9 N9 ⟨p, [], r, [], 0, _, _, rfl, rfl, hp, hc, rfl, .nil, Has.cons rfl (Has.cons rfl (Has.cons rfl Has.nil))⟩ ?_
  clear F9 N9
  intro k m nx h tk hJ (F1 : Fr h₀ L h _) (N1 : News h₀ L h _)
  obtain ⟨p', done, todo, vs, n, t1, t2, rfl, rfl, hp', hc', rfl, hvs, H⟩ := hJ
  replace F1 := H.fr F1
  simp only [kstB] at F1
  have b1 := splitH_le p'
  have b2 := splitT_le p'
  have b3 := strs_len hvs
  simp only [List.length_reverse, List.length_map, List.length_append] at b3 hr
  have b4 : vs.length ≤ 200000 := by omega
  clear H
  (try k_fold)
  k_steps
  · (rename Fr _ _ _ _ => F8); (rename News _ _ _ _ => N8)
    cases todo with
    | nil => exact absurd (show splitT p' = Str.ofString "" from hc') (by simpa using ‹(splitT p' != Str.ofString "") = true›)
    | cons x r' =>
      obtain ⟨hx1, hx2, hx3⟩ := hc'
      refine ⟨r'.length, _, _, _, [(NM, _)], Nat.lt_succ_self _, rfl, F8, fun p hp => N8 p (.tail _ hp), splitH p', done ++ [x], r', _, _, _, _, rfl, by simp, Nat.le_trans b1 hp', hx3, rfl, ?_, Has.cons rfl (Has.cons rfl (Has.cons rfl Has.nil))⟩
      rw [List.map_append, List.reverse_append, List.map_singleton, List.reverse_singleton, ← hx1]
      exact .cons _ _ hvs
  · cases todo with
    | cons x r' =>
      obtain ⟨hx1, hx2, hx3⟩ := hc'
      have : splitT p' = Str.ofString "" := by simpa using ‹(splitT p' != Str.ofString "") = false›
      exact absurd (hx1.symm.trans this) hx2
    | nil =>
      refine Back.intro (by assumption) ⟨_, _, rfl, News.fresh (by assumption) (by k_mem), News.get (by assumption) (by k_mem), vs, n, rfl, ?_⟩
      rw [List.append_nil]; exact hvs
end
section
set_option maxHeartbeats 4000000
theorem fillK1 : (P0 = P0) ∧ K0 = K0 := by
  w_top off
  k_with_none
  (k_with "call builtin:issubclass" => ((with_reducible show wpAny _ _ (call (Value.builtin "issubclass") [Value.type "str", Value.ref _]) _ _ _); k_dflt (refine issub_str (by exact News.get (by k_asm) (by k_mem)) ?_; k_whole)))
  (k_with "mine contract" => (k_dflt ((case ho => k_is); (case hcd => k_is); (case hbind => intro s; exact BindsTo.of_eq rfl); (case hcell => decide); (case hloc => exact locs rfl); (case hco => exact rfl); (case hgen => exact rfl); (case hk => exact rfl)); intro mean mg mb h₀ ge dr tk os dp un fr gd L h₁ X T hdp hun pre F N; (try dsimp only); (try k_fold); k_steps))
  (k_with "mine room" => (simp only [Around.deeper, Around.in1, Ar] at *; omega))
  (k_with "mine use" => ((case k1 => k_asm); (case k2 => k_asm); (case k3 => k_asm); (case k4 => k_asm); (case k5 => exact rfl); (case k6 => walk_at "mine room"); (case k7 => walk_at "mine room")))
  (k_with "call ref" => ((with_reducible show wpAny _ _ (call (Value.ref 101) [Value.str _ _]) _ _ _); k_dflt (refine' use (fspath_c _ _ _) (by k_asm) (by k_asm) (by k_asm) (by k_asm) (by exact rfl) (by walk_at "mine room") (by walk_at "mine room") trivial ?_; k_whole); intro r' h' tk' F' N' kp' po'; subst po'; clear kp'; (try k_sweep); (try dsimp only)))
  (k_with "call ref" => ((with_reducible show wpAny _ _ (call (Value.ref 115) [Value.str _ _]) _ _ _); k_dflt (refine' use (getsep_c _ _ _) (by k_asm) (by k_asm) (by k_asm) (by k_asm) (by exact rfl) (by walk_at "mine room") (by walk_at "mine room") trivial ?_; k_whole); intro r' h' tk' F' N' kp' po'; obtain ⟨t', po'⟩ := po'; subst po'; clear kp'; (try k_sweep); (try dsimp only)))
  (k_with "call ref" => ((with_reducible show wpAny _ _ (call (Value.ref 28) [Value.str _ _]) _ _ _); k_dflt (refine use (strip_c _ _ _ (by walk_at "mine len")) (by k_asm) (by k_asm) (by k_asm) (by k_asm) (by exact rfl) (by walk_at "mine room") (by walk_at "mine room") trivial ?_; k_whole); intro r' h' tk' F' N' kp' po'; obtain ⟨t', po'⟩ := po'; subst po'; clear kp'; (try k_sweep); (try dsimp only)))
  (k_with "mine len" => first | with_reducible assumption | omega | assumption)
  (k_with "mine contract0" => (k_dflt ((case ho => k_is); (case hcd => k_is); (case hbind => intro s; exact BindsTo.of_eq rfl); (case hcell => decide); (case hloc => exact locs rfl); (case hco => exact rfl); (case hgen => exact rfl); (case hk => exact rfl))))
  (k_with "truthy ref" => ((with_reducible show wpAny _ _ (truthy (Value.ref _)) _ _ _); k_dflt (refine truthyL (by k_asm) (by k_mem) (by walk_at "mine len") ?_ ?_) <;> (k_whole; intro hT'; (try dsimp only))))
  (k_with "call builtin:list.append" => ((with_reducible show wpAny _ _ (call (Value.builtin _) [Value.ref _, _]) _ _ _); k_dflt (refine appendL (by k_asm) (by k_asm) (by k_upd) (by walk_at "mine len") ?_; k_whole); intro h' F' N'; (try k_sweep)))
  (k_with "call builtin:list.pop" => ((with_reducible show wpAny _ _ (call (Value.builtin _) [Value.ref _]) _ _ _); k_dflt (refine popL (by k_asm) (by k_asm) (by k_upd) (by assumption) (by walk_at "mine len") ?_; k_whole); intro v' h' F' N'; (try k_sweep)))
  (k_with "call builtin:list.insert" => ((with_reducible show wpAny _ _ (call (Value.builtin _) [Value.ref _, Value.int 0 _, _]) _ _ _); k_dflt (refine insertL (by k_asm) (by k_asm) (by k_upd) (by walk_at "mine len") ?_; k_whole); intro h' F' N'; (try k_sweep)))
  (k_with "subscriptTail" => ((show wpAny _ _ (subscriptTail _ _ (Value.ref _) (Value.int (-1) _)) _ _ _); k_dflt (refine lastL (by k_asm) (by k_mem) (by assumption) (by assumption) ?_; k_whole); intro y' t' hl'; (try dsimp only)))
  (k_with "call builtin:str.join" => ((with_reducible show wpAny _ _ (call (Value.builtin _) [Value.str _ _, Value.ref _]) _ _ _); k_dflt (refine joinL (by k_asm) (by k_mem) (by k_asm) (by walk_at "mine len") ?_; k_whole); intro t' k'; (try dsimp only)))
  (k_with "call ref" => ((with_reducible show wpAny _ _ (call (Value.ref 129) [Value.str _ _]) _ _ _); k_dflt (refine useN (split_c _ _ _ (by walk_at "mine len")) (by k_asm) (by k_asm) (by k_asm) (by k_asm) (by exact rfl) (by walk_at "mine room") (by walk_at "mine room") trivial ?_; k_whole); intro l' o' h' tk' F' N' l1 kp' po'; obtain ⟨t1', t2', po'⟩ := po'; subst po'; clear kp'; (try simp only [AllNe, and_true] at l1); (try k_sweep); (try dsimp only)))
  (k_with "exec While Compare cons nil" => (refine hold ?_))
  k_fill
  exact ⟨rfl, rfl⟩

def signsL : List Str := [Str.ofString "a", Str.ofString " ", Str.ofString "'", Str.ofString "-", Str.ofString "\\", Str.ofString "é", Str.ofString ".", Str.ofString "\""]
def endsL : List Str := [Str.ofString "a", Str.ofString " ", Str.ofString "'", Str.ofString "-", Str.ofString "\\", Str.ofString "é"]
def InnerOk (x : Str) : Prop := (∀ c ∈ x.cps.toList, c ≠ 47) ∧ x.length ≤ 20
def CoreOk (x : Str) : Prop := ∃ e i, e ∈ endsL ∧ InnerOk i ∧ (x = e ∨ x = e ++ i ++ e)
theorem ends_of {k : Nat} {y : Str} (h : signsL[k]? = some y) (hk : k < 6) : y ∈ endsL := by
  have hc : k = 0 ∨ k = 1 ∨ k = 2 ∨ k = 3 ∨ k = 4 ∨ k = 5 := by omega
  rcases hc with rfl | rfl | rfl | rfl | rfl | rfl <;> (simp [signsL] at h; subst h; simp [endsL])
theorem signs_len {y : Str} (h : y ∈ signsL) : y.length = 1 := by
  simp only [signsL, List.mem_cons, List.not_mem_nil, or_false] at h
  rcases h with rfl | rfl | rfl | rfl | rfl | rfl | rfl | rfl <;> decide +kernel
theorem signs_ok {y : Str} (h : y ∈ signsL) : ∀ c ∈ y.cps.toList, c ≠ 47 := by
  simp only [signsL, List.mem_cons, List.not_mem_nil, or_false] at h
  rcases h with rfl | rfl | rfl | rfl | rfl | rfl | rfl | rfl <;> decide +kernel
theorem inner_snoc {x y : Str} (h : ∀ c ∈ x.cps.toList, c ≠ 47) (hy : y ∈ signsL) : ∀ c ∈ (x ++ y).cps.toList, c ≠ 47 := by
  intro c hc
  have e : (x ++ y).cps.toList = x.cps.toList ++ y.cps.toList := by rw [Str.cps_append, Array.toList_append]
  rw [e] at hc
  rcases List.mem_append.mp hc with h1 | h1
  · exact h c h1
  · exact signs_ok hy c h1

theorem wordsK11 : True := by
  (k_with "mine signs" => (k_dflt (refine itemL (xs := signsL) (by k_asm) (by k_mem) (by exact (.cons _ _ (.cons _ _ (.cons _ _ (.cons _ _ (.cons _ _ (.cons _ _ (.cons _ _ (.cons _ _ .nil))))))))) (by exact Int.fmod_nonneg_of_pos _ (by decide)) (by exact Int.lt_of_lt_of_le (Int.fmod_lt_of_pos _ (by decide)) (by decide)) (by decide) ?_; k_whole); intro y' t' hy'; (have hl' := signs_len (List.mem_of_getElem? hy')); (try dsimp only)))
  (k_with "subscriptTail Name BinOp ref int" => walk_at "mine signs")
  (k_with "subscriptTail" => walk_at "mine signs")
  trivial
theorem word_c (w : World) (n : Int) (t : Tok) (h0 : 0 ≤ n) (h1 : n < 1000000000) :
    Contract w 155 1 [.int n t] (fun _ => True) (fun h rv h' => ∃ l o, rv = .ref l ∧ h.get? l = none ∧ h'.get? l = some o ∧ ∃ core a b t1 t2, CoreOk core ∧ 0 ≤ a ∧ a < 3 ∧ 0 ≤ b ∧ b < 3 ∧ o = tupO [.str (Txt.mul (Str.ofString "\"") a ++ core ++ Txt.mul (Str.ofString "\"") b) t1, .str (Txt.mul (Str.ofString "\"") (if 0 > a - 1 then 0 else a - 1) ++ core ++ Txt.mul (Str.ofString "\"") (if 0 > b - 1 then 0 else b - 1)) t2]) := by
  k_dflt (refine' contract (binds := [(Str.ofString "n", .int n t)]) ?ho ?hcd ?hbind ?hloc ?hcell ?hco ?hgen ?hk ?_)
  walk_at "mine contract0"
  intro mean mg mb h₀ ge dr tk os dp un fr gd L h₁ X T hdp hun pre F N
  (try dsimp only); (try k_fold)
  k_steps
  refine held ?_
  rename (signsL[_]? = some _) => hy
  rename Fr _ _ _ _ => F9
  rename News _ _ _ _ => N9
  obtain ⟨SG, ob, rest, e1, e2, e3, N9⟩ := led_split N9
  subst e1 e3
  have hend := ends_of hy (by have h1 := Int.fmod_nonneg_of_pos (n.fdiv 9) (show (0 : Int) < 6 by decide); have h2 := Int.fmod_lt_of_pos (n.fdiv 9) (show (0 : Int) < 6 by decide); omega)
  rename Str => ee
  refine whileJ (fun k m nx => ∃ inner left t1 t2 te, k = left.toNat ∧ 0 ≤ left ∧ left * 8 ^ inner.length ≤ 18518518 ∧ (∀ c ∈ inner.cps.toList, c ≠ 47) ∧ inner.length ≤ 9 ∧ nx = [(SG, ob)] ∧
    Has m [(Str.ofString "n", .int n t), (Str.ofString "signs", .ref SG), (Str.ofString "inner", .str inner t1), (Str.ofString "left", .int left t2), (Str.ofString "end", .str ee te)]) (n.fdiv 54).toNat F9 N9 ⟨Str.ofString "", n.fdiv 54, _, _, _, rfl, ?_, ?_, ?_, ?_, rfl, Has.cons rfl (Has.cons rfl (Has.cons rfl (Has.cons rfl (Has.cons rfl Has.nil))))⟩ ?_
  · exact Int.fdiv_nonneg h0 (by decide)
  · have : (Str.ofString "").length = 0 := by decide +kernel
    rw [this]
    have := Int.fdiv_eq_ediv_of_nonneg n (show (0 : Int) ≤ 54 by decide)
    rw [this]; omega
  · intro c hc; have : (Str.ofString "").cps.toList = [] := by decide +kernel
    rw [this] at hc; cases hc
  · decide +kernel
  clear F9 N9
  intro k m nx h tk hJ (F1 : Fr h₀ L h _) (N1 : News h₀ L h _)
  obtain ⟨inner, left, t1, t2, te, rfl, hl0, hl1, hi1, hi2, rfl, H⟩ := hJ
  replace F1 := H.fr F1
  simp only [kstB] at F1
  subst e2
  clear H
  (try k_fold)
  k_steps
  · (rename Fr _ _ _ _ => F8); (rename News _ _ _ _ => N8)
    rename (signsL[(left.fmod 8).toNat]? = some _) => hy2
    have hmem := List.mem_of_getElem? hy2
    have hlp : 0 < left := by assumption
    have e8 : left.fdiv 8 = left / 8 := Int.fdiv_eq_ediv_of_nonneg left (by decide)
    refine ⟨(left.fdiv 8).toNat, _, _, _, _, ?_, rfl, F8, N8, _, left.fdiv 8, _, _, _, rfl, ?_, ?_, inner_snoc hi1 hmem, ?_, rfl, Has.cons rfl (Has.cons rfl (Has.cons rfl (Has.cons rfl (Has.cons rfl Has.nil))))⟩
    · rw [e8]; omega
    · rw [e8]; omega
    · rw [Str.length_append, signs_len hmem, e8, Int.pow_succ, ← Int.mul_assoc]
      refine Int.le_trans ?_ hl1
      have hp : (0 : Int) ≤ 8 ^ inner.length := Int.pow_nonneg (by decide)
      rw [Int.mul_assoc, Int.mul_comm (8 ^ inner.length) 8, ← Int.mul_assoc]
      exact Int.mul_le_mul_of_nonneg_right (by omega) hp
    · rw [Str.length_append, signs_len hmem]
      rcases Nat.lt_or_ge inner.length 9 with hlt | hge
      · omega
      · exfalso
        have he9 : inner.length = 9 := by omega
        rw [he9] at hl1
        omega
  · refine Back.intro (by assumption) ⟨_, _, rfl, News.fresh (by assumption) (by k_mem), News.get (by assumption) (by k_mem), ee ++ inner ++ ee, n.fmod 3, (n.fdiv 3).fmod 3, _, _, ⟨ee, inner, hend, ⟨hi1, by omega⟩, .inr rfl⟩, Int.fmod_nonneg_of_pos _ (by decide), Int.fmod_lt_of_pos _ (by decide), Int.fmod_nonneg_of_pos _ (by decide), Int.fmod_lt_of_pos _ (by decide), rfl⟩
  · refine Back.intro (by assumption) ⟨_, _, rfl, News.fresh (by assumption) (by k_mem), News.get (by assumption) (by k_mem), ee, n.fmod 3, (n.fdiv 3).fmod 3, _, _, ⟨ee, inner, hend, ⟨hi1, by omega⟩, .inl rfl⟩, Int.fmod_nonneg_of_pos _ (by decide), Int.fmod_lt_of_pos _ (by decide), Int.fmod_nonneg_of_pos _ (by decide), Int.fmod_lt_of_pos _ (by decide), rfl⟩
end
section
set_option maxHeartbeats 1000000
section
variable {prog : Program} {w : World} {A : Around} {s : Shared} {env : Env} {h₀ : Heap} {target iter : Expr} {body : List Stmt} {pos : Pos} {Q : Flow → Shared → Prop} {E : Value → Shared → Prop}

def ForAt (prog : Program) (w : World) (A : Around) (target : Expr) (body : List Stmt) (env : Env) (Q : Flow → Shared → Prop) (E : Value → Shared → Prop) (xv : Value) (s₁ : Shared) : Prop :=
  wpAny (model prog w) A (pyIter xv) (fun it s₂ => codeAny (model prog w) A (.forLoop target it body [] env) (fun r s' => match r with | .ok f => Q f s' | .error e => cameBackBy (model prog w) A env E e s') s₂) E s₁

theorem for_at (h : wpAny (model prog w) A (eval iter env) (ForAt prog w A target body env Q E) E s) (hs : ∀ x, foldedSetIterable iter env x = pure x := by intro _; rfl) :
    wpAny (model prog w) A (exec (.For target iter body [] pos) env) Q E s := wpAny_For h hs

theorem owned_list {it l : Addr} {i : Nat} {v : Value} {Q : Unit → Shared → Prop} (hit : s.heap.IsListIter it l i) (h : Q () s) : wpAny (model prog w) A (letOwnedTupleGo target (.ref it) v) Q E s := by
  obtain ⟨o, ho, hc, hd⟩ := hit
  have base : wpAny (model prog w) A (pure ()) Q E s := wpAny_pure h
  cases target <;> first | exact base | skip
  all_goals
    cases v <;> first | exact base | skip
    show wpAny _ _ (load it >>= _) _ _ _
    refine wpAny_bind (wpAny_load ho ?_)
    rw [hc, hd]
    exact wpAny_pure h

theorem codeAny_forLoop_t {R : Result → Shared → Prop} {it : Value} {orelse : List Stmt} (I : Nat → Shared → Prop)
    (turn : ∀ n s, I n s → wpAny (model prog w) A (pyNext it) (fun r s₁ => match r with
      | none => wpAny (model prog w) A (execs orelse env) (fun f s₃ => R (.ok f) s₃) (notedBy (model prog w) A env fun e s' => R (.error e) s') s₁
      | some v => wpAny (model prog w) A (letOwnedTupleGo target it v) (fun _ s₁ => wpAny (model prog w) A (assign target env v) (fun _ s₂ => wpAny (model prog w) A (execs body env) (fun f s₃ => match f with
          | .next | .cont => ∃ m, m < n ∧ I m s₃
          | .brk => R (.ok .next) s₃
          | .ret v => R (.ok (.ret v)) s₃) (fun _ _ => False) s₂) (fun _ _ => False) s₁) (fun _ _ => False) s₁) (fun _ _ => False) s)
    (n : Nat) (h : I n s) : codeAny (model prog w) A (.forLoop target it body orelse env) R s := by
  refine codeAny_loop' rfl I (fun n s hI => ?_) n h
  show wpAny _ _ ((forTurn target it body orelse env).onRaise (fun x => do noteFrame x env; theTreesLotGoes x)) _ _ s
  refine wpAny_noted ?_
  simp only [forTurn]
  refine wpAny_bind (wpAny_standAt (wpAny_bind (wpAny_onRaise (wpAny_mono (turn n s hI) (fun r s₁ h₁ => ?_) fun _ _ h' => h'.elim))))
  cases r with
  | none => exact wpAny_pure (.inr ⟨rfl, codeAny_block h₁⟩)
  | some v =>
    refine wpAny_bind (wpAny_mono h₁ (fun _ s₁' h₁' => ?_) fun _ _ h' => h'.elim)
    refine wpAny_bind (wpAny_mono h₁' (fun _ s₂ h₂ => wpAny_bind (wpAny_mono h₂ (fun f s₃ h₃ => ?_) fun _ _ h' => h'.elim)) fun _ _ h' => h'.elim)
    cases f with
    | next => exact wpAny_pure (.inl ⟨rfl, h₃⟩)
    | cont => exact wpAny_pure (.inl ⟨rfl, h₃⟩)
    | brk => exact wpAny_pure h₃
    | ret v => exact wpAny_pure h₃

/-- a for with any target over a list, its state by J -/
theorem forT {l : Addr} {lo : Obj} {vs : List Value} {nn : Nat} {m₀ : Str → Option Value} {news : List (Addr × Obj)} (J : Nat → (Str → Option Value) → List (Addr × Obj) → Prop)
    (hh : A.handled = none) (hlo : lo = W.listOf vs.toArray nn) (hl : s.heap.get? l = some lo) (hLl : env.locals ≠ l)
    (hJl : h₀.get? l = some lo ∨ ∀ i m nx, J i m nx → (l, lo) ∈ nx)
    (F : Fr h₀ env.locals s.heap m₀) (N : News h₀ env.locals s.heap news) (hj : J 0 m₀ news)
    (turn : ∀ i v m₁ nx I oI h tk, vs[i]? = some v → J i m₁ nx → (∀ p ∈ nx, p.1 ≠ I) → Fr h₀ env.locals h m₁ → News h₀ env.locals h ((I, oI) :: nx) →
      wpAny (model prog w) A (assign target env v) (fun _ s₂ => wpAny (model prog w) A (execs body env) (TurnEnd h₀ env.locals (J (i + 1)) I oI s Q) (fun _ _ => False) s₂) (fun _ _ => False) { s with heap := h, toks := tk })
    (done : ∀ m₁ nx h tk, J vs.length m₁ nx → Fr h₀ env.locals h m₁ → News h₀ env.locals h nx → Q .next { s with heap := h, toks := tk }) :
    ForAt prog w A target body env Q E (.ref l) s := by
  have hne : l ≠ s.heap.objs.size := Nat.ne_of_lt (Heap.lt_size hl)
  have hLI : env.locals ≠ s.heap.objs.size := Nat.ne_of_lt F.ns.lt
  have hInew : h₀.get? s.heap.objs.size = none := next_is_new F
  subst hlo
  have hls : s.heap.IsList l vs.toArray := ⟨_, hl, rfl, nn, rfl⟩
  unfold ForAt
  refine wpAny_pyIter_list hls ?_
  have Wk := Walks.list (prog := prog) (w := w) hh s.heap.objs.size l hne vs.toArray
  have hsz : vs.toArray.size = vs.length := by simp
  rw [hsz] at Wk
  generalize hI : s.heap.objs.size = I at *
  refine codeAny_forLoop_t (fun k s' => ∃ h' tk m' nx i oI, s' = { s with heap := h', toks := tk } ∧ h'.IsListIter I l i ∧ h'.get? I = some oI ∧ h'.get? l = some (W.listOf vs.toArray nn) ∧ Fr h₀ env.locals h' m' ∧ News h₀ env.locals h' nx ∧ (∀ p ∈ nx, p.1 ≠ I) ∧ J i m' nx ∧ i ≤ vs.length ∧ k = vs.length + 1 - i) ?_ (vs.length + 1) ?_
  · rintro k s' ⟨h', tk, m', nx, i, oI, rfl, hit, hoI, hl', F', N', hn', hJ, hi, rfl⟩
    have st : h'.IsListIter I l i ∧ h'.IsList l vs.toArray := ⟨hit, _, hl', rfl, nn, rfl⟩
    have kept : ∀ h₁ : Heap, (∀ b o, b ∉ [I] → h'.get? b = some o → h₁.get? b = some o) → Fr h₀ env.locals h₁ m' ∧ News h₀ env.locals h₁ nx ∧ h₁.get? l = some (W.listOf vs.toArray nn) := fun h₁ hk₁ =>
      ⟨⟨F'.ns.at' fun o e => hk₁ _ o (by simpa using hLI) e, fun b o e => hk₁ b o (by intro hb; rw [List.mem_singleton.mp hb, hInew] at e; cases e) (F'.keep b o e), F'.above⟩,
        fun p hp => ⟨hk₁ _ _ (by simpa using hn' p hp) (N' p hp).1, (N' p hp).2⟩, hk₁ _ _ (by simpa using hne) hl'⟩
    by_cases hlt : i < vs.length
    · refine Wk.item i _ _ _ hlt st fun v h₁ tk₁ hP hst₁ hk₁ => ?_
      obtain ⟨F₁, N₁, hl₁⟩ := kept h₁ hk₁
      obtain ⟨oI₁, hoI₁, hc₁, hd₁⟩ := id hst₁.1
      refine owned_list hst₁.1 ?_
      have NI : News h₀ env.locals h₁ ((I, oI₁) :: nx) := fun p hp => by
        rcases List.mem_cons.mp hp with rfl | hp
        · exact ⟨hoI₁, Ne.symm hLI, hInew⟩
        · exact N₁ p hp
      refine wpAny_mono (turn i v m' nx I oI₁ h₁ tk₁ (by simpa using hP) hJ hn' F₁ NI) (fun _ s₂ h₂ => wpAny_mono h₂ (fun f s₃ h₃ => ?_) fun _ _ e => e) fun _ _ e => e
      have fin : (∃ h' tk m' nx', s₃ = { s with heap := h', toks := tk } ∧ Fr h₀ env.locals h' m' ∧ News h₀ env.locals h' ((I, oI₁) :: nx') ∧ (∀ p ∈ nx', p.1 ≠ I) ∧ J (i + 1) m' nx') →
          ∃ m, m < vs.length + 1 - i ∧ ∃ h' tk m' nx i oI, s₃ = { s with heap := h', toks := tk } ∧ h'.IsListIter I l i ∧ h'.get? I = some oI ∧ h'.get? l = some (W.listOf vs.toArray nn) ∧ Fr h₀ env.locals h' m' ∧ News h₀ env.locals h' nx ∧ (∀ p ∈ nx, p.1 ≠ I) ∧ J i m' nx ∧ i ≤ vs.length ∧ m = vs.length + 1 - i := by
        rintro ⟨h₄, tk₄, m₄, nx₄, rfl, F₄, N₄, hn₄, hJ₄⟩
        have hI₄ := (N₄ (I, oI₁) List.mem_cons_self).1
        refine ⟨vs.length + 1 - (i + 1), by omega, h₄, tk₄, m₄, nx₄, i + 1, oI₁, rfl, ⟨oI₁, hI₄, hc₁, hd₁⟩, hI₄, ?_, F₄, fun p hp => N₄ p (List.mem_cons_of_mem _ hp), hn₄, hJ₄, hlt, rfl⟩
        rcases hJl with hb | hb
        · exact F₄.keep _ _ hb
        · exact (N₄ _ (List.mem_cons_of_mem _ (hb _ _ _ hJ₄))).1
      cases f with
      | ret v => exact h₃
      | brk => exact h₃
      | next => exact fin h₃
      | cont => exact fin h₃
    · have hin : i = vs.length := by omega
      subst hin
      refine Wk.done _ _ _ st fun h₁ tk₁ hk₁ => wpAny_execs_nil ?_
      obtain ⟨F₁, N₁, _⟩ := kept h₁ hk₁
      exact done m' nx h₁ tk₁ hJ F₁ N₁
  · have hIs : (s.heap.push ({ cls := .type "list_iterator", data := .fields #[.ref l, .int 0 0] } : Obj)).get? s.heap.objs.size = some { cls := .type "list_iterator", data := .fields #[.ref l, .int 0 0] } := Heap.get?_push_size _ rfl
    rw [hI] at hIs
    refine ⟨_, s.toks, m₀, news, 0, _, rfl, ⟨_, hIs, rfl, rfl⟩, hIs, Heap.get?_push_of_some _ hl, F.push _, (fun p hp => ⟨Heap.get?_push_of_some _ (N p hp).1, (N p hp).2⟩), (fun p hp e => ?_), hj, Nat.zero_le _, rfl⟩
    exact absurd (Heap.lt_size (N p hp).1) (by rw [e, ← hI]; exact Nat.lt_irrefl _)
end
end
section
set_option maxHeartbeats 4000000
theorem fillD1 : (P0 = P0) ∧ K0 = K0 := by
  w_top off
  k_with_none
  (k_with "call builtin:issubclass" => ((with_reducible show wpAny _ _ (call (Value.builtin "issubclass") [Value.type "str", Value.ref _]) _ _ _); k_dflt (refine issub_str (by exact News.get (by k_asm) (by k_mem)) ?_; k_whole)))
  (k_with "mine contract" => (k_dflt ((case ho => k_is); (case hcd => k_is); (case hbind => intro s; exact BindsTo.of_eq rfl); (case hcell => decide); (case hloc => exact locs rfl); (case hco => exact rfl); (case hgen => exact rfl); (case hk => exact rfl)); intro mean mg mb h₀ ge dr tk os dp un fr gd L h₁ X T hdp hun pre F N; (try dsimp only); (try k_fold); k_steps))
  (k_with "mine room" => (simp only [Around.deeper, Around.in1, Ar] at *; omega))
  (k_with "mine use" => ((case k1 => k_asm); (case k2 => k_asm); (case k3 => k_asm); (case k4 => k_asm); (case k5 => exact rfl); (case k6 => walk_at "mine room"); (case k7 => walk_at "mine room")))
  (k_with "call ref" => ((with_reducible show wpAny _ _ (call (Value.ref 101) [Value.str _ _]) _ _ _); k_dflt (refine' use (fspath_c _ _ _) (by k_asm) (by k_asm) (by k_asm) (by k_asm) (by exact rfl) (by walk_at "mine room") (by walk_at "mine room") trivial ?_; k_whole); intro r' h' tk' F' N' kp' po'; subst po'; clear kp'; (try k_sweep); (try dsimp only)))
  (k_with "call ref" => ((with_reducible show wpAny _ _ (call (Value.ref 115) [Value.str _ _]) _ _ _); k_dflt (refine' use (getsep_c _ _ _) (by k_asm) (by k_asm) (by k_asm) (by k_asm) (by exact rfl) (by walk_at "mine room") (by walk_at "mine room") trivial ?_; k_whole); intro r' h' tk' F' N' kp' po'; obtain ⟨t', po'⟩ := po'; subst po'; clear kp'; (try k_sweep); (try dsimp only)))
  (k_with "call ref" => ((with_reducible show wpAny _ _ (call (Value.ref 28) [Value.str _ _]) _ _ _); k_dflt (refine use (strip_c _ _ _ (by walk_at "mine len")) (by k_asm) (by k_asm) (by k_asm) (by k_asm) (by exact rfl) (by walk_at "mine room") (by walk_at "mine room") trivial ?_; k_whole); intro r' h' tk' F' N' kp' po'; obtain ⟨t', po'⟩ := po'; subst po'; clear kp'; (try k_sweep); (try dsimp only)))
  (k_with "mine len" => first | with_reducible assumption | omega | assumption)
  (k_with "mine contract0" => (k_dflt ((case ho => k_is); (case hcd => k_is); (case hbind => intro s; exact BindsTo.of_eq rfl); (case hcell => decide); (case hloc => exact locs rfl); (case hco => exact rfl); (case hgen => exact rfl); (case hk => exact rfl))))
  (k_with "truthy ref" => ((with_reducible show wpAny _ _ (truthy (Value.ref _)) _ _ _); k_dflt (refine truthyL (by k_asm) (by k_mem) (by walk_at "mine len") ?_ ?_) <;> (k_whole; intro hT'; (try dsimp only))))
  (k_with "call builtin:list.append" => ((with_reducible show wpAny _ _ (call (Value.builtin _) [Value.ref _, _]) _ _ _); k_dflt (refine appendL (by k_asm) (by k_asm) (by k_upd) (by walk_at "mine len") ?_; k_whole); intro h' F' N'; (try k_sweep)))
  (k_with "call builtin:list.pop" => ((with_reducible show wpAny _ _ (call (Value.builtin _) [Value.ref _]) _ _ _); k_dflt (refine popL (by k_asm) (by k_asm) (by k_upd) (by assumption) (by walk_at "mine len") ?_; k_whole); intro v' h' F' N'; (try k_sweep)))
  (k_with "call builtin:list.insert" => ((with_reducible show wpAny _ _ (call (Value.builtin _) [Value.ref _, Value.int 0 _, _]) _ _ _); k_dflt (refine insertL (by k_asm) (by k_asm) (by k_upd) (by walk_at "mine len") ?_; k_whole); intro h' F' N'; (try k_sweep)))
  (k_with "subscriptTail" => ((show wpAny _ _ (subscriptTail _ _ (Value.ref _) (Value.int (-1) _)) _ _ _); k_dflt (refine lastL (by k_asm) (by k_mem) (by assumption) (by assumption) ?_; k_whole); intro y' t' hl'; (try dsimp only)))
  (k_with "call builtin:str.join" => ((with_reducible show wpAny _ _ (call (Value.builtin _) [Value.str _ _, Value.ref _]) _ _ _); k_dflt (refine joinL (by k_asm) (by k_mem) (by k_asm) (by walk_at "mine len") ?_; k_whole); intro t' k'; (try dsimp only)))
  (k_with "call ref" => ((with_reducible show wpAny _ _ (call (Value.ref 129) [Value.str _ _]) _ _ _); k_dflt (refine useN (split_c _ _ _ (by walk_at "mine len")) (by k_asm) (by k_asm) (by k_asm) (by k_asm) (by exact rfl) (by walk_at "mine room") (by walk_at "mine room") trivial ?_; k_whole); intro l' o' h' tk' F' N' l1 kp' po'; obtain ⟨t1', t2', po'⟩ := po'; subst po'; clear kp'; (try simp only [AllNe, and_true] at l1); (try k_sweep); (try dsimp only)))
  (k_with "exec While Compare cons nil" => (refine hold ?_))
  (k_with "exec For" => ((with_reducible show wpAny _ _ (exec (Stmt.For (Expr.Tuple _ _ _) _ _ [] _) _) _ _ _); refine for_at ?_))
  (k_with "exec For Tuple" => ((with_reducible show wpAny _ _ (exec (Stmt.For (Expr.Tuple _ _ _) _ _ [] _) _) _ _ _); refine for_at ?_))
  k_fill
  exact ⟨rfl, rfl⟩

inductive ToldAre (h : Heap) : List Value → List (Int × Str) → Prop
  | nil : ToldAre h [] []
  | cons {a : Addr} {f : Int} {x : Str} {t u : Tok} {vs fs} : h.get? a = some (tupO [.int f t, .str x u]) → ToldAre h vs fs → ToldAre h (.ref a :: vs) ((f, x) :: fs)
theorem ToldAre.keeps {h h' : Heap} {vs : List Value} {fs : List (Int × Str)} (T : ToldAre h vs fs) (k : Kept h h') : ToldAre h' vs fs := by
  induction T with
  | nil => exact .nil
  | cons e _ ih => exact .cons (k _ _ e) ih
theorem ToldAre.append {h : Heap} {vs vs' : List Value} {fs fs' : List (Int × Str)} (T : ToldAre h vs fs) (T' : ToldAre h vs' fs') : ToldAre h (vs ++ vs') (fs ++ fs') := by
  induction T with
  | nil => exact T'
  | cons e _ ih => exact .cons e ih
theorem ToldAre.rev {h : Heap} {vs : List Value} {fs : List (Int × Str)} (T : ToldAre h vs fs) : ToldAre h vs.reverse fs.reverse := by
  induction T with
  | nil => exact .nil
  | cons e _ ih => rw [List.reverse_cons, List.reverse_cons]; exact ih.append (.cons e .nil)
theorem ToldAre.len {h : Heap} {vs : List Value} {fs : List (Int × Str)} (T : ToldAre h vs fs) : vs.length = fs.length := by
  induction T with
  | nil => rfl
  | cons _ _ ih => simp [ih]
theorem ToldAre.item {h : Heap} {vs : List Value} {fs : List (Int × Str)} (T : ToldAre h vs fs) {i : Nat} {v : Value} (hv : vs[i]? = some v) : ∃ a f x t u, v = .ref a ∧ fs[i]? = some (f, x) ∧ h.get? a = some (tupO [.int f t, .str x u]) := by
  induction T generalizing i with
  | nil => simp at hv
  | cons e _ ih =>
    cases i with
    | zero => simp at hv; exact ⟨_, _, _, _, _, hv.symm, by simp, e⟩
    | succ i => simpa using ih (by simpa using hv)

def nameOf (f : Int) (own : Str) : Option Str :=
  if f = 0 then some own else if f = 2 then some (Str.ofString "a") else if f = 3 then some (Str.ofString "..") else if f = 4 then some (Str.ofString "")
  else if f = 7 then some (Str.ofString ".") else if f = 8 then some (Str.ofString "b") else if f = 9 then some (Str.ofString "\"") else none
def dueStep (st : List Str × Int) (p : Int × Str) : List Str × Int :=
  if p.1 = 1 then (st.1, st.2 + 1) else match nameOf p.1 p.2 with
    | none => st
    | some x => if 0 < st.2 then (st.1, st.2 - 1) else (x :: st.1, st.2)
def dueS (fs : List (Int × Str)) : List Str × Int := fs.foldl dueStep ([], 0)
def dueF (fs : List (Int × Str)) : List Str := (dueS fs.reverse).1
theorem dueS_take {fs : List (Int × Str)} {i : Nat} {p : Int × Str} (h : fs[i]? = some p) : dueS (fs.take (i + 1)) = dueStep (dueS (fs.take i)) p := by
  unfold dueS; rw [List.take_add_one, h]; simp

/-- the list of words, by place -/
def Words (wl : List Value) : Prop := ∀ (f : Int) (x : Str), 1 ≤ f → f < 10 → ∃ v, wl[f.toNat]? = some v ∧ ((v = .none ∧ nameOf f x = none) ∨ ∃ y t, v = .str y t ∧ nameOf f x = some y)
theorem words_ok (t2 t3 t4 t7 t8 t9 : Tok) : Words [.none, .none, .str (Str.ofString "a") t2, .str (Str.ofString "..") t3, .str (Str.ofString "") t4, .none, .none, .str (Str.ofString ".") t7, .str (Str.ofString "b") t8, .str (Str.ofString "\"") t9] := by
  intro f x h1 h2
  have h : f = 1 ∨ f = 2 ∨ f = 3 ∨ f = 4 ∨ f = 5 ∨ f = 6 ∨ f = 7 ∨ f = 8 ∨ f = 9 := by omega
  rcases h with rfl | rfl | rfl | rfl | rfl | rfl | rfl | rfl | rfl
  · exact ⟨_, rfl, .inl ⟨rfl, rfl⟩⟩
  · exact ⟨_, rfl, .inr ⟨_, _, rfl, rfl⟩⟩
  · exact ⟨_, rfl, .inr ⟨_, _, rfl, rfl⟩⟩
  · exact ⟨_, rfl, .inr ⟨_, _, rfl, rfl⟩⟩
  · exact ⟨_, rfl, .inl ⟨rfl, rfl⟩⟩
  · exact ⟨_, rfl, .inl ⟨rfl, rfl⟩⟩
  · exact ⟨_, rfl, .inr ⟨_, _, rfl, rfl⟩⟩
  · exact ⟨_, rfl, .inr ⟨_, _, rfl, rfl⟩⟩
  · exact ⟨_, rfl, .inr ⟨_, _, rfl, rfl⟩⟩
theorem due_up {s1 : List Str} {c : Int} {x : Str} : dueStep (s1, c) (1, x) = (s1, c + 1) := rfl
theorem due_none {s1 : List Str} {c f : Int} {x : Str} (h1 : f ≠ 1) (h : nameOf f x = none) : dueStep (s1, c) (f, x) = (s1, c) := by
  unfold dueStep; rw [if_neg h1]; simp only [h]
theorem due_down {s1 : List Str} {c f : Int} {x y : Str} (h1 : f ≠ 1) (h : nameOf f x = some y) (hc : 0 < c) : dueStep (s1, c) (f, x) = (s1, c - 1) := by
  unfold dueStep; rw [if_neg h1]; simp only [h, if_pos hc]
theorem due_put {s1 : List Str} {c f : Int} {x y : Str} (h1 : f ≠ 1) (h : nameOf f x = some y) (hc : ¬ 0 < c) : dueStep (s1, c) (f, x) = (y :: s1, c) := by
  unfold dueStep; rw [if_neg h1]; simp only [h, if_neg hc]

theorem isList_kept {h₀ h : Heap} {L l : Addr} {m : Str → Option Value} {its : Array Value} (F : Fr h₀ L h m) (hl : h₀.IsList l its) : h.IsList l its := let ⟨o, ho, r⟩ := hl; ⟨o, F.keep _ _ ho, r⟩
theorem revL {prog : Program} {w : World} {A : Around} {E : Value → Shared → Prop} {s : Shared} {h₀ : Heap} {L l : Addr} {m : Str → Option Value} {news : List (Addr × Obj)} {value slice : PySem.Expr} {vs : List Value} {vk : Value} {ops : List Value} {Q : Value → Shared → Prop}
    (F : Fr h₀ L s.heap m) (N : News h₀ L s.heap news) (hl : h₀.IsList l vs.toArray) (pk : IsPart vk (some (-1)))
    (h : ∀ D h', Fr h₀ L h' m → News h₀ L h' ((D, W.listOf vs.reverse.toArray 0) :: news) → (∀ p ∈ news, p.1 < D) → Q (.ref D) { s with heap := h' })
    (hs : subscripted slice false (.ref l) (.ref s.heap.objs.size) = operate ops (getItem (.ref l) (.ref s.heap.objs.size))) (ht : ∀ r, letTemporaryGo value (.ref l) r = pure ()) (hz : vs.length ≤ 200000) :
    wpAny (model prog w) A (subscriptTail value slice (.ref l) (.ref s.heap.objs.size)) Q E { s with heap := s.heap.push { cls := .type "slice", data := .fields #[.none, .none, vk] } } :=
  krv_lit (its := vs.toArray) (zs := vs.reverse) F N (isList_kept F hl) pk (by simp) h hs ht (by rw [List.size_toArray, sizeLine_eq]; omega)

theorem wordsD11 : True := by
  (k_with "subscriptTail Name Slice ref ref" => ((with_reducible show wpAny _ _ (subscriptTail _ (PySem.Expr.Slice none none (some _) _) (Value.ref _) (Value.ref _)) _ _ _); k_dflt (refine revL (by k_asm) (by k_asm) (by assumption) (by exact IsPart.int _ _) ?_ (by with_unfolding_all rfl) (by (intro _; with_unfolding_all rfl)) (by walk_at "mine len")); intro D' h' F' N' l1; (try k_lt l1); (try k_sweep)))
  (k_with "subscriptTail Name Name ref int" => ((with_reducible show wpAny _ _ (subscriptTail _ _ (Value.ref _) (Value.int _ _)) _ _ _); (with_unfolding_all refine item_litK (by exact News.isList (by k_asm) (by k_mem)) (by omega) (by omega) (by with_reducible assumption) ?_ (by with_unfolding_all rfl); k_whole)))
  trivial
theorem ite_noB {a b : Int} {P Q : Prop} (h : a ≠ b) (q : Q) : if (a == b) = true then P else Q := by
  rw [if_neg (by simpa using h)]; exact q
theorem ite_noD {a b : Int} {P Q : Prop} (h : a ≠ b) (q : Q) : if decide (a = b) = true then P else Q := by
  rw [if_neg (by simpa using h)]; exact q
theorem ite_noP {a b : Int} {P Q : Prop} (h : a ≠ b) (q : Q) : if a = b then P else Q := by
  rw [if_neg h]; exact q

theorem wordsD12 : True := by
  (k_with "ite" => first | with_reducible refine ite_noB (by with_reducible assumption) ?_ | with_reducible refine ite_noD (by with_reducible assumption) ?_ | with_reducible refine ite_noP (by with_reducible assumption) ?_)
  trivial
theorem due_c (w : World) (tl : Addr) (vs : List Value) (fs : List (Int × Str)) (hf : ∀ p ∈ fs, 0 ≤ p.1 ∧ p.1 < 10) (hz : vs.length ≤ 1000) :
    Contract w 169 1 [.ref tl] (fun h => ∃ n, h.get? tl = some (W.listOf vs.toArray n) ∧ ToldAre h vs fs) (fun h rv h' => ∃ l o, rv = .ref l ∧ h.get? l = none ∧ h'.get? l = some o ∧ ∃ ws n, o = W.listOf ws.toArray n ∧ StrsAre ws (dueF fs)) := by
  k_dflt (refine' contract (binds := [(Str.ofString "told", .ref tl)]) ?ho ?hcd ?hbind ?hloc ?hcell ?hco ?hgen ?hk ?_)
  walk_at "mine contract0"
  intro mean mg mb h₀ ge dr tk os dp un fr gd L h₁ X T hdp hun pre F N
  obtain ⟨nt, hl, hT⟩ := pre
  have hL : h₀.IsList tl vs.toArray := ⟨_, hl, rfl, nt, rfl⟩
  (try dsimp only); (try k_fold)
  k_steps
  (rename Fr _ _ _ _ => F9); (rename News _ _ _ _ => N9)
  obtain ⟨RV, ob, rest, e1, e2, e3, N9⟩ := led_split N9
  subst e1 e2 e3
  have N8 : News h₀ L _ _ := fun p hp => N9 p (.tail _ hp)
  obtain ⟨NM, ob, rest, e1, e2, e3, N8⟩ := led_split N8
  subst e1 e2
  have N7 : News h₀ L _ rest := fun p hp => N8 p (.tail _ hp)
  rw [e3] at N7
  obtain ⟨WD, obw, rest', e4, e5, e6, N7⟩ := led_split N7
  subst e4 e6 e3
  obtain ⟨wl, ewl, hW⟩ : ∃ wl : List Value, obw = W.listOf wl.toArray 0 ∧ Words wl := ⟨[_, _, _, _, _, _, _, _, _, _], e5, words_ok _ _ _ _ _ _⟩
  have hT' := hT.rev
  refine forT (lo := W.listOf vs.reverse.toArray 0) (vs := vs.reverse) (nn := 0) (fun i m nx => ∃ ws n t s1 c, dueS (fs.reverse.take i) = (s1, c) ∧ nx = [(NM, W.listOf ws.toArray n), (RV, W.listOf vs.reverse.toArray 0), (WD, obw)] ∧ StrsAre ws s1 ∧ 0 ≤ c ∧ ws.length ≤ i ∧
    Has m [(Str.ofString "names", .ref NM), (Str.ofString "words", .ref WD), (Str.ofString "climbs", .int c t)])
    rfl rfl (News.get N9 (.head _)) (Ne.symm (N9 _ (.head _)).2.1) (.inr fun i m nx hJ => by obtain ⟨_, _, _, _, _, _, e, _⟩ := hJ; rw [e]; exact .tail _ (.head _)) F9 (fun p hp => N9 p ?_) ⟨[], 0, _, [], 0, rfl, rfl, .nil, Int.le_refl _, Nat.le_refl _, Has.cons rfl (Has.cons rfl (Has.cons rfl Has.nil))⟩ ?_ ?_
  · subst e5
    rcases List.mem_cons.mp hp with rfl | hp
    · exact .tail _ (.head _)
    · rcases List.mem_cons.mp hp with rfl | hp
      · exact .head _
      · exact .tail _ (.tail _ hp)
  · clear F9 N9 N8 N7
    intro i v m₁ nx I oI h tk hv hJ hn (F1 : Fr h₀ L h _) (N1 : News h₀ L h _)
    obtain ⟨ws, n, tc, s1, c, hst, rfl, hws, hc0, hwl, H⟩ := hJ
    obtain ⟨a, f, x, tf, tx, rfl, hfx, ha⟩ := hT'.item hv
    have hfr := hf (f, x) (List.mem_reverse.mp (List.mem_of_getElem? hfx))
    have hI1 := neN (hn _ (.head _))
    have hI2 := neN (hn _ (.tail _ (.head _)))
    have hI3 := neN (hn _ (.tail _ (.tail _ (.head _))))
    have hIT : IsTup h₀ a #[.int f tf, .str x tx] := ⟨_, ha, rfl, 0, rfl⟩
    have hil : i < vs.reverse.length := (List.getElem?_eq_some_iff.mp hv).1
    have hwl2 : ws.length ≤ 200000 := by rw [List.length_reverse] at hil; omega
    replace F1 := H.fr F1
    simp only [kstB] at F1
    have hnI : ∀ (o1 o2 o3 : Obj), ∀ p ∈ [(NM, o1), (RV, o2), (WD, o3)], p.1 ≠ I := fun o1 o2 o3 p hp => by
      simp only [List.mem_cons, List.not_mem_nil, or_false] at hp
      rcases hp with rfl | rfl | rfl
      · exact hI1
      · exact hI2
      · exact hI3
    clear H hv hn
    subst ewl
    clear e5
    have hcase : f = 0 ∨ f = 1 ∨ 2 ≤ f := by have := hfr.1; dsimp only at *; omega
    have hf9 : f < 10 := hfr.2
    clear hfr
    rcases hcase with rfl | rfl | hf2
    · (try k_fold)
      k_steps
      all_goals
        (rename Fr _ _ _ _ => F8)
        (rename News _ _ _ _ => N8)
      · exact ⟨_, _, _, [(NM, _), (RV, _), (WD, _)], rfl, F8, N8, hnI _ _ _, _, _, _, s1, _, (by rw [dueS_take hfx, hst]; exact due_down (by decide) rfl (by assumption)), rfl, hws, (by omega), (by omega), Has.cons rfl (Has.cons rfl (Has.cons rfl Has.nil))⟩
      · exact ⟨_, _, _, [(NM, _), (RV, _), (WD, _)], rfl, F8, N8, hnI _ _ _, _, _, _, _ :: s1, _, (by rw [dueS_take hfx, hst]; exact due_put (by decide) rfl (by assumption)), rfl, .cons _ _ hws, hc0, (by simp only [List.length_cons]; omega), Has.cons rfl (Has.cons rfl (Has.cons rfl Has.nil))⟩
    · obtain ⟨v, hv1, hv2⟩ := hW 1 x (by decide) (by decide)
      obtain rfl : v = .none := by
        rcases hv2 with h | ⟨y, t, _, h⟩
        · exact h.1
        · cases h
      (try k_fold)
      k_steps
      (rename Fr _ _ _ _ => F8)
      (rename News _ _ _ _ => N8)
      exact ⟨_, _, _, [(NM, _), (RV, _), (WD, _)], rfl, F8, N8, hnI _ _ _, _, _, _, s1, _, (by rw [dueS_take hfx, hst]; exact due_up), rfl, hws, (by omega), (by omega), Has.cons rfl (Has.cons rfl (Has.cons rfl Has.nil))⟩
    · have hf0 : f ≠ 0 := by omega
      have hf1 : f ≠ 1 := by omega
      obtain ⟨v, hv1, ⟨rfl, hv2⟩ | ⟨y, ty, rfl, hv2⟩⟩ := hW f x (by omega) hf9
      · (try k_fold)
        k_steps
        (rename Fr _ _ _ _ => F8)
        (rename News _ _ _ _ => N8)
        exact ⟨_, _, _, [(NM, _), (RV, _), (WD, _)], rfl, F8, N8, hnI _ _ _, _, _, _, s1, _, (by rw [dueS_take hfx, hst]; exact due_none hf1 hv2), rfl, hws, hc0, (by omega), Has.cons rfl (Has.cons rfl (Has.cons rfl Has.nil))⟩
      · (try k_fold)
        k_steps
        all_goals
          (rename Fr _ _ _ _ => F8)
          (rename News _ _ _ _ => N8)
        · exact ⟨_, _, _, [(NM, _), (RV, _), (WD, _)], rfl, F8, N8, hnI _ _ _, _, _, _, s1, _, (by rw [dueS_take hfx, hst]; exact due_down hf1 hv2 (by assumption)), rfl, hws, (by omega), (by omega), Has.cons rfl (Has.cons rfl (Has.cons rfl Has.nil))⟩
        · exact ⟨_, _, _, [(NM, _), (RV, _), (WD, _)], rfl, F8, N8, hnI _ _ _, _, _, _, _ :: s1, _, (by rw [dueS_take hfx, hst]; exact due_put hf1 hv2 (by assumption)), rfl, .cons _ _ hws, hc0, (by simp only [List.length_cons]; omega), Has.cons rfl (Has.cons rfl (Has.cons rfl Has.nil))⟩
  · clear F9 N9 N8 N7
    intro m₁ nx h tk hJ (F1 : Fr h₀ L h _) (N1 : News h₀ L h _)
    obtain ⟨ws, n, tc, s1, c, hst, rfl, hws, hc0, hwl, H⟩ := hJ
    rw [hT'.len, List.take_length] at hst
    have hdf : dueF fs = s1 := by unfold dueF; rw [hst]
    rw [← hdf] at hws
    replace F1 := H.fr F1
    simp only [kstB] at F1
    clear H
    (try k_fold)
    k_steps
    exact Back.intro (by assumption) ⟨_, _, rfl, News.fresh (by assumption) (by k_mem), News.get (by assumption) (by k_mem), ws, n, rfl, hws⟩
end
section
set_option maxHeartbeats 1000000

/-- a contract of a def with cells -/
theorem contractC {w : World} {f : Addr} {n : Nat} {args : List Value} {Pre : Heap → Prop} {Post : Heap → Value → Heap → Prop}
    {name qual : Str} {params : Arguments} {body : List Stmt} {scope : Scope} {dV kV doc pm cdv ct oc : Value} {an od : Option Addr} {osl : Array (Option Value)} {binds : List (Str × Value)}
    (ho : (K0 w.params).lookup f = some ⟨oc, od, .func (fnOf name qual params body scope dV kV doc pm an cdv ct), osl⟩) (hcd : codeIn (K0 w.params) cdv qual = true)
    (hbind : ∀ s, BindsTo s (fnOf name qual params body scope dV kV doc pm an cdv ct) ⟨args, []⟩ binds)
    (hkind : (binds.all fun y => scope.names.lookup y.1 == some .local || scope.names.lookup y.1 == some .cell) = true)
    (hnd : ((cellsFrom 0 scope.names []).map (·.1)).Nodup) (hco : scope.isCoroutine = false) (hgen : scope.isGenerator = false) (hk : scope.kind = .function)
    (h : ∀ (mean : ExcName → Option Value) (mg mb : Str → Option Value) (h₀ : Heap) (ge : Array GenState) (dr : Drawn) (tk : Nat) (os : OsState) (dp un : Nat) (fr : Option (List Env)) (gd : Option (List Code)) (L : Addr) (h₁ : Heap) (cells : List (Addr × Obj)),
      (K0 w.params).In h₀ → Top V0 (looseW V0 []) mean mg mb h₀ → dp + n < 1000 → un + 50 * n < 9900 → Pre h₀ →
      Fr h₀ L h₁ (bindL (envOfC qual scope L f cdv).kindOf binds fun _ => none) → News h₀ L h₁ cells → CellsAre (bindC (envOfC qual scope L f cdv).kindOf binds fun _ => none) (cellsFrom (L + 1) scope.names []) cells →
      wpAny (model P0.prog w) ((Ar dp un fr gd).deeper (envOfC qual scope L f cdv)) (execs body (envOfC qual scope L f cdv)) (Back h₀ ge dr os (Post h₀)) (fun _ _ => False) ⟨h₁, ge, dr, tk, os⟩) :
    Contract w f n args Pre Post := by
  intro mean mg mb h₀ ge dr tk os dp un fr gd Q E X T hd hu pre k
  refine wpAny_call (codeAny_call_function (s := ⟨h₀, ge, dr, tk, os⟩) (fd := fnOf name qual params body scope dV kV doc pm an cdv ct) (body := body) (by show dp < recursionLimit; simp only [recursionLimit]; omega) (X _ _ ho) rfl hco hgen rfl (codeRec_of X hcd) (hbind _ _ _ _ _ ?_))
  refine wpAny_newFunctionEnv_cells hk (kindsX hkind _) fun env' he s' x => ?_
  subst he
  refine ⟨T.nolimit.keeps x.toInCall.keep, codeAny_func ?_⟩
  obtain ⟨h₁, tk', rfl, _⟩ := x.done
  have hk₁ := x.toInCall.keep
  obtain ⟨cells, NC, Y⟩ := Cl.news (h₀ := h₀) (Nat.le_refl _) fun n c hm => ⟨x.cell n c (lookup_of_mem_nodup (cellsFrom_names scope.names 0 (h₀.objs.size + 1) [] [] rfl ▸ hnd) hm), x.above n c hm⟩
  refine wpAny_mono (h mean mg mb h₀ ge dr tk' os dp un fr gd h₀.objs.size h₁ cells X T hd hu pre ⟨x.toInCall.ns, hk₁, Nat.le_refl _⟩ NC Y) (fun fl s' b => ?_) fun _ _ e => e.elim
  obtain ⟨v, h', tk'', rfl, rfl, kp, po⟩ := b
  exact k v h' tk'' kp po

/-- a comprehension's turns, its state by J over the turn's number, the items so far and the ledger -/
theorem compRestJ {prog : Program} {w : World} {A : Around} {h₀ : Heap} {L : Addr} {m : Str → Option Value} {env : Env} {elt : Expr} {x : Str} {scope : Scope} {cl : List (Str × Addr)} {s : Shared} {S : List (Addr × Obj) → Prop} {P : Nat → Value → Prop} {Fin : List Value → List (Addr × Obj) → Prop}
    {n : Nat} {news : List (Addr × Obj)} (J : Nat → List Value → List (Addr × Obj) → Prop) (hj : J 0 [] news)
    (turn : ∀ i ys nx v I oI C oC D m₂ h tk (E' : Value → Shared → Prop), i < n → J i ys nx → P i v → LCg.NsObj oC m₂ → m₂ x = some v → Fr h₀ L h m → News h₀ L h ((I, oI) :: (C, oC) :: (D, LCg.lst ys) :: nx) → LCg.Off3 I C D nx → ((@Ne Nat I C) ∧ (@Ne Nat I D) ∧ (@Ne Nat C D)) →
      wpAny (model prog w) A (eval elt (compEnvC scope cl C env)) (LCg.CompEnd h₀ L m { s with heap := h, toks := tk } I oI C oC D (LCg.lst ys) S (fun y nx' => J (i + 1) (ys ++ [y]) nx')) E' { s with heap := h, toks := tk })
    (fin : ∀ ys nx, J n ys nx → Fin ys nx) : LCg.CompRest prog w A h₀ L m env elt x scope cl s S P Fin n 0 [] news := by
  have key : ∀ (j i : Nat) (ys : List Value) (nx : List (Addr × Obj)), i + j = n → J i ys nx → LCg.CompRest prog w A h₀ L m env elt x scope cl s S P Fin j i ys nx := by
    intro j
    induction j with
    | zero =>
      intro i ys nx hi hJ
      have e : i = n := by omega
      subst e
      exact LCg.CompRest.zero (fin ys nx hJ)
    | succ j ih =>
      intro i ys nx hi hJ
      refine LCg.CompRest.succ ?_
      intro v I oI C oC D m₂ h tk E' hv hC hx F N off ne
      refine wpAny_mono (turn i ys nx v I oI C oC D m₂ h tk E' (by omega) hJ hv hC hx F N off ne) (fun y s₂ hq => ?_) fun _ _ e => e
      obtain ⟨h', tk', nw, e, F', N', off', hS, hJ'⟩ := hq
      exact ⟨h', tk', nw, e, F', N', off', hS, ih (i + 1) _ _ (by omega) hJ'⟩
  exact key n 0 [] news (by omega) hj
end
section
set_option maxHeartbeats 1000000
open LCg
section
variable {prog : Program} {w : World} {A : Around} {E : Value → Shared → Prop} {s : Shared} {h₀ : Heap} {L : Addr} {m : Str → Option Value} {env : Env}

/-- what a comprehension goes over, in general -/
def SrcG (prog : Program) (w : World) (A : Around) (E : Value → Shared → Prop) (h₀ : Heap) (L : Addr) (m : Str → Option Value) (env : Env) (elt : Expr) (x : Str) (scope : Scope) (cl : List (Str × Addr)) (Fin : Shared → List Value → List (Addr × Obj) → Prop) (xv : Value) (s₁ : Shared) : Prop :=
  wpAny (model prog w) A (pyIter xv) (fun it s₂ => ∃ I fp n P St S news, it = .ref I ∧ Walks prog w A I fp [I] n P St ∧ n ≤ sizeLine ∧ (∀ i h, St i h → ∃ o, h.get? I = some o) ∧
    (∀ i h h' o nw, St i h → h.get? I = some o → h'.get? I = some o → (∀ b o, h₀.get? b = some o → h'.get? b = some o) → News h₀ L h' nw → S nw → St i h') ∧ St 0 s₂.heap ∧ (∀ b ∈ fp, b < s₂.heap.objs.size) ∧
    Fr h₀ L s₂.heap m ∧ News h₀ L s₂.heap news ∧ L ≠ I ∧ h₀.get? I = none ∧ (∀ p ∈ news, p.1 ≠ I) ∧ S news ∧ CompRest prog w A h₀ L m env elt x scope cl s₂ S P (Fin s₂) n 0 [] news) E s₁

theorem ListComp_G {elt iter : Expr} {x : Str} {px : Pos} {scope : Scope} {cl : List (Str × Addr)} {pos : Pos} {Q : Value → Shared → Prop} (F₀ : Fr h₀ L s.heap m)
    (hclos : closureFor scope env = pure cl) (hcell : ∀ y ∈ scope.names, y.2 ≠ .cell) (hkind : scope.kind = .function)
    (hnames : ∀ y ∈ scope.names, y.2 = .local → scope.names.lookup y.1 = some .local) (hx : scope.names.lookup x = some .local)
    (h : wpAny (model prog w) A (eval iter env) (SrcG prog w A E h₀ L m env elt x scope cl (fun s₂ => FinE h₀ L m s₂ Q)) E s)
    (hs : ∀ x, foldedSetIterable iter env x = pure x := by intro _; rfl) :
    wpAny (model prog w) A (eval (.ListComp elt [⟨.Name x px, iter, [], 0⟩] scope pos) env) Q E s := by
  rw [eval_ListComp]
  refine wpAny_comprehension_free (use := none) rfl hs hclos hkind hnames (wpAny_mono h (fun xv s₁ h₁ => ?_) fun _ _ e => e)
  refine wpAny_mono h₁ (fun it s₂ h₂ => ?_) fun _ _ e => e
  obtain ⟨I, fp, n, P, St, S, news, rfl, W, hsz, hIo, hSt, hst, hfp, F, N, hLI, hI0, off, hS, R⟩ := h₂
  refine block_U W hsz hIo hSt hcell hkind hx hst hfp F N hLI hI0 off hS R ?_
  intro D C h' tk m' ys news' F' N' o1 hn hC₀ hD₀ hCL hDL hCD offC fin
  refine ⟨m', hn, fun h'' hs'' => fin D h'' tk (F'.change hs'' hCL hC₀) (fun p hp => ?_) o1⟩
  refine ⟨hs''.extBut _ _ ?_ (N' p hp).1, (N' p hp).2⟩
  rcases List.mem_cons.mp hp with rfl | hp
  · exact Ne.symm hCD
  · exact offC p hp

theorem Assign_ListComp_G {elt iter : Expr} {x y : Str} {px py : Pos} {scope : Scope} {cl : List (Str × Addr)} {pos spos : Pos} {Q : Flow → Shared → Prop} (F₀ : Fr h₀ L s.heap m) (hLe : env.locals = L)
    (hsw : swapsWith (.ListComp elt [⟨.Name x px, iter, [], 0⟩] scope pos) (some (.Name y py)) spos.line env = pure true)
    (hclos : closureFor scope env = pure cl) (hcell : ∀ z ∈ scope.names, z.2 ≠ .cell) (hkind : scope.kind = .function)
    (hnames : ∀ z ∈ scope.names, z.2 = .local → scope.names.lookup z.1 = some .local) (hx : scope.names.lookup x = some .local)
    (hy : env.kindOf y = some .local) (hp : (env.scope.kind == .class || (env.scope.kind == .module && env.locals != env.globals)) = false)
    (h : wpAny (model prog w) A (eval iter env) (SrcG prog w A E h₀ L m env elt x scope cl (fun s₂ => FinA h₀ L m s₂ y Q)) E s)
    (hs : ∀ x, foldedSetIterable iter env x = pure x := by intro _; rfl) :
    wpAny (model prog w) A (exec (.Assign [.Name y py] (.ListComp elt [⟨.Name x px, iter, [], 0⟩] scope pos) spos) env) Q E s := by
  subst hLe
  rw [exec_Assign_Name_used _ _ _ _ hsw]
  refine wpAny_bind (wpAny_standAt (wpAny_bind ?_))
  show wpAny _ A (do let _ ← comprehension (.ListComp elt [⟨.Name x px, iter, [], 0⟩] scope pos) scope env _ (newList []) false (eval iter env) (some (assign (.Name y py) env))) _ _ s
  refine wpAny_bind (wpAny_mono (wpAny_comprehension_free (use := some (assign (.Name y py) env)) (Q := fun _ s' => Q .next s') rfl hs hclos hkind hnames
    (wpAny_mono h (fun xv s₁ h₁ => ?_) fun _ _ e => e)) (fun _ s' hq => wpAny_pure (wpAny_pure hq)) fun _ _ e => e)
  refine wpAny_mono h₁ (fun it s₂ h₂ => ?_) fun _ _ e => e
  obtain ⟨I, fp, n, P, St, S, news, rfl, W, hsz, hIo, hSt, hst, hfp, F, N, hLI, hI0, off, hS, R⟩ := h₂
  refine block_U W hsz hIo hSt hcell hkind hx hst hfp F N hLI hI0 off hS R ?_
  intro D C h' tk m' ys news' F' N' o1 hn hC₀ hD₀ hCL hDL hCD offC fin
  show wpAny _ A (assign (.Name y py) env (.ref D)) _ _ _
  refine wpAny_assign_Name (wpAny_storeName_local hy F'.ns (fun h₂ hn₂ hs₂ => ?_) hp)
  have hL₀ : h₀.get? env.locals = none := Heap.get?_none_of_le F'.above
  have F₂ : Fr h₀ env.locals h₂ (fun z => if z = y then some (.ref D) else m z) := ⟨hn₂, fun b o e => hs₂.extBut b o (fun q => by rw [q, hL₀] at e; cases e) (F'.keep b o e), F'.above⟩
  refine ⟨m', hn.sameBut hs₂ hCL, fun h'' hs'' => fin D h'' _ (F₂.change hs'' hCL hC₀) (fun p hp => ?_) o1⟩
  have z : h₂.get? p.1 = some p.2 := hs₂.extBut _ _ (N' p hp).2.1 (N' p hp).1
  refine ⟨hs''.extBut _ _ ?_ z, (N' p hp).2⟩
  rcases List.mem_cons.mp hp with rfl | hp
  · exact Ne.symm hCD
  · exact offC p hp

variable {elt : Expr} {x : Str} {scope : Scope} {cl : List (Str × Addr)} {Fin : Shared → List Value → List (Addr × Obj) → Prop} {news : List (Addr × Obj)} {s₁ : Shared}

theorem SrcG.str {y : Str} {t : Tok} (hh : A.handled = none) (ha : (y.cps.all (· < 128)) = true) (F : Fr h₀ L s₁.heap m) (N : News h₀ L s₁.heap news) (hsz : y.length ≤ sizeLine)
    (h : ∀ g, CompRest prog w A h₀ L m env elt x scope cl { s₁ with heap := g } (fun _ => True) (SignAt y) (Fin { s₁ with heap := g }) y.cps.size 0 [] news) :
    SrcG prog w A E h₀ L m env elt x scope cl Fin (.str y t) s₁ := by
  unfold SrcG
  refine wpAny_pyIter_ascii ha ?_
  refine ⟨_, _, _, _, _, (fun _ => True), news, rfl, Walks.strAscii hh s₁.heap.objs.size y t, hsz, (fun i h st => by obtain ⟨o, e, _⟩ := st; exact ⟨o, e⟩), ?_, ⟨_, Heap.get?_push_size _ rfl, rfl, rfl⟩, ?_, F.keeps fun _ _ e => Heap.get?_push_of_some _ e, N.grown fun _ _ e => Heap.get?_push_of_some _ e, Nat.ne_of_lt F.ns.lt, next_is_new F, (fun p hp => Nat.ne_of_lt (Heap.lt_size (N p hp).1)), trivial, h _⟩
  · intro i h h' o nw st e e' _ _ _
    obtain ⟨o', q, r⟩ := st
    rw [e] at q; cases q
    exact ⟨o, e', r⟩
  · intro b hb
    rw [List.mem_singleton.mp hb]
    show s₁.heap.objs.size < (s₁.heap.push _).objs.size
    rw [Heap.size_push]; exact Nat.lt_succ_self _

/-- where a tuple of the call's own, or of before it, stands -/
def TupSrc (h₀ : Heap) (ax : Addr) (vs : List Value) (news : List (Addr × Obj)) : Prop := (ax, ({ cls := .type "tuple", data := .seq vs.toArray } : Obj)) ∈ news
theorem SrcG.tuple {ax : Addr} {vs : List Value} (hh : A.handled = none) (F : Fr h₀ L s₁.heap m) (N : News h₀ L s₁.heap news) (hm : TupSrc h₀ ax vs news) (hsz : vs.length ≤ sizeLine)
    (h : ∀ g, CompRest prog w A h₀ L m env elt x scope cl { s₁ with heap := g } (TupSrc h₀ ax vs) (fun i v => vs[i]? = some v) (Fin { s₁ with heap := g }) vs.length 0 [] news) :
    SrcG prog w A E h₀ L m env elt x scope cl Fin (.ref ax) s₁ := by
  unfold SrcG
  have hlt := Heap.lt_size (N _ hm).1
  have hls : s₁.heap.IsTuple ax vs.toArray := ⟨_, (N _ hm).1, rfl, 0, rfl⟩
  refine wpAny_pyIter_tuple hls ?_
  have W := Walks.tuple (prog := prog) (w := w) hh s₁.heap.objs.size ax (Nat.ne_of_lt hlt) vs.toArray
  have hz' : vs.toArray.size = vs.length := by simp
  rw [hz'] at W
  refine ⟨_, _, _, (fun i v => vs[i]? = some v), _, TupSrc h₀ ax vs, news, rfl, { sub := W.sub, frame := W.frame, done := W.done, self := W.self, item := fun i s Q E hi st hQ => W.item i s Q E hi st fun v h' tk hP => hQ v h' tk (by simpa using hP) }, hsz, (fun i h st => by obtain ⟨o, e, _⟩ := st.1; exact ⟨o, e⟩), ?_, ⟨⟨_, Heap.get?_push_size _ rfl, rfl, rfl⟩, hls.at fun o e => Heap.get?_push_of_some _ e⟩, ?_, F.keeps fun _ _ e => Heap.get?_push_of_some _ e, N.grown fun _ _ e => Heap.get?_push_of_some _ e, Nat.ne_of_lt F.ns.lt, next_is_new F, (fun p hp => Nat.ne_of_lt (Heap.lt_size (N p hp).1)), hm, h _⟩
  · intro i h h' o nw st e e' _ N' hm'
    obtain ⟨o', q, r⟩ := st.1
    rw [e] at q; cases q
    exact ⟨⟨o, e', r⟩, ⟨_, (N' _ hm').1, rfl, 0, rfl⟩⟩
  · intro b hb
    show b < (s₁.heap.push _).objs.size
    rw [Heap.size_push]
    rcases List.mem_cons.mp hb with rfl | hb
    · exact Nat.lt_succ_self _
    · rw [List.mem_singleton.mp hb]; exact Nat.lt_succ_of_lt hlt
end
end
section
set_option maxHeartbeats 1000000
inductive RowsAre (h : Heap) : List Value → List (List Str) → Prop
  | nil : RowsAre h [] []
  | cons {a : Addr} {ws : List Value} {n : Nat} {row : List Str} {vs rows} : h.get? a = some (W.listOf ws.toArray n) → StrsAre ws row → RowsAre h vs rows → RowsAre h (.ref a :: vs) (row :: rows)
theorem RowsAre.keeps {h h' : Heap} {vs : List Value} {rows : List (List Str)} (T : RowsAre h vs rows) (k : Kept h h') : RowsAre h' vs rows := by
  induction T with
  | nil => exact .nil
  | cons e s _ ih => exact .cons (k _ _ e) s ih
theorem RowsAre.len {h : Heap} {vs : List Value} {rows : List (List Str)} (T : RowsAre h vs rows) : vs.length = rows.length := by
  induction T with
  | nil => rfl
  | cons _ _ _ ih => simp [ih]
theorem RowsAre.item {h : Heap} {vs : List Value} {rows : List (List Str)} (T : RowsAre h vs rows) {i : Nat} {v : Value} (hv : vs[i]? = some v) :
    ∃ a ws n row, v = .ref a ∧ rows[i]? = some row ∧ h.get? a = some (W.listOf ws.toArray n) ∧ StrsAre ws row := by
  induction T generalizing i with
  | nil => simp at hv
  | cons e s _ ih =>
    cases i with
    | zero => simp at hv; exact ⟨_, _, _, _, hv.symm, by simp, e, s⟩
    | succ i => simpa using ih (by simpa using hv)

/-- the same of a comprehension with a test -/
theorem compRestTJ {prog : Program} {w : World} {A : Around} {h₀ : Heap} {L : Addr} {m : Str → Option Value} {env : Env} {ct elt : Expr} {x : Str} {scope : Scope} {cl : List (Str × Addr)} {s : Shared} {S : List (Addr × Obj) → Prop} {P : Nat → Value → Prop} {Fin : List Value → List (Addr × Obj) → Prop}
    {n : Nat} {news : List (Addr × Obj)} (J : Nat → List Value → List (Addr × Obj) → Prop) (hj : J 0 [] news)
    (turn : ∀ i ys nx v I oI C oC D m₂ h tk (E' : Value → Shared → Prop), i < n → J i ys nx → P i v → LCg.NsObj oC m₂ → m₂ x = some v → Fr h₀ L h m → News h₀ L h ((I, oI) :: (C, oC) :: (D, LCg.lst ys) :: nx) → LCg.Off3 I C D nx → ((@Ne Nat I C) ∧ (@Ne Nat I D) ∧ (@Ne Nat C D)) →
      wpAny (model prog w) A (isTrue ct (compEnvC scope cl C env) (eval ct (compEnvC scope cl C env))) (fun ok s' => if ok = true then
        wpAny (model prog w) A (eval elt (compEnvC scope cl C env)) (LCg.CompEnd h₀ L m { s with heap := h, toks := tk } I oI C oC D (LCg.lst ys) S (fun y nx' => J (i + 1) (ys ++ [y]) nx')) E' s'
        else LCg.CompEnd h₀ L m { s with heap := h, toks := tk } I oI C oC D (LCg.lst ys) S (fun _ nx' => J (i + 1) ys nx') Value.none s') E' { s with heap := h, toks := tk })
    (fin : ∀ ys nx, J n ys nx → Fin ys nx) : LCt.CompRestT prog w A h₀ L m env ct elt x scope cl s S P Fin n 0 [] news := by
  have key : ∀ (j i : Nat) (ys : List Value) (nx : List (Addr × Obj)), i + j = n → J i ys nx → LCt.CompRestT prog w A h₀ L m env ct elt x scope cl s S P Fin j i ys nx := by
    intro j
    induction j with
    | zero =>
      intro i ys nx hi hJ
      have e : i = n := by omega
      subst e
      exact LCt.CompRestT.zero (fin ys nx hJ)
    | succ j ih =>
      intro i ys nx hi hJ
      refine LCt.CompRestT.succ ?_
      intro v I oI C oC D m₂ h tk E' hv hC hx F N off ne
      refine wpAny_mono (turn i ys nx v I oI C oC D m₂ h tk E' (by omega) hJ hv hC hx F N off ne) (fun ok s' hq => ?_) fun _ _ e => e
      cases ok with
      | true =>
        simp only [if_true] at hq ⊢
        refine wpAny_mono hq (fun y s₂ hq => ?_) fun _ _ e => e
        obtain ⟨h', tk', nw, e, F', N', off', hS, hJ'⟩ := hq
        exact ⟨h', tk', nw, e, F', N', off', hS, ih (i + 1) _ _ (by omega) hJ'⟩
      | false =>
        simp only [Bool.false_eq_true, if_false] at hq ⊢
        obtain ⟨h', tk', nw, e, F', N', off', hS, hJ'⟩ := hq
        exact ⟨h', tk', nw, e, F', N', off', hS, ih (i + 1) _ _ (by omega) hJ'⟩
  exact key n 0 [] news (by omega) hj
end
section
open PySem PySem.W PyProof.Rows PySem.Calls PySem.Spec PySem.SeqAt
set_option maxHeartbeats 1000000
theorem strs_get {vs : List Value} {xs : List Str} (h : StrsAre vs xs) {j : Nat} (hj : j < vs.toArray.size) : ∃ t, vs.toArray[j] = .str (xs.getD j ⟨#[]⟩) t := by
  have hj' : j < vs.length := by simpa using hj
  obtain ⟨y, t, hy, e⟩ := strs_at h (List.getElem?_eq_getElem hj')
  refine ⟨t, ?_⟩
  rw [List.getElem_toArray, e, List.getD_eq_getElem?_getD, hy]; rfl
theorem all_range {as bs : List Str} (hl : as.length = bs.length) : ((List.range as.length).all fun j => as.getD j ⟨#[]⟩ == bs.getD j ⟨#[]⟩) = decide (as = bs) := by
  rw [Bool.eq_iff_iff, List.all_eq_true, decide_eq_true_eq]
  constructor
  · intro h
    apply List.ext_getElem hl
    intro i h1 h2
    have := h i (List.mem_range.mpr h1)
    simpa [List.getD_eq_getElem?_getD, h1, h2] using this
  · rintro rfl i _; simp
section
variable {prog : Program} {w : World} {A : Around} {E : Value → Shared → Prop} {s : Shared} {a b : Addr} {xs ys : List Value} {ns ms : List Str} {Q : Value → Shared → Prop}
theorem eqStrs (ha : s.heap.IsList a xs.toArray) (hb : s.heap.IsList b ys.toArray) (hi : StrsAre xs ns) (hj : StrsAre ys ms) (hu : A.units + 64 < cLine) (h : Q (.bool (decide (ns = ms))) s) :
    wpAny (model prog w) A (compareOp .Eq (.ref a) (.ref b)) Q E s := by
  have l1 := strs_len hi
  have l2 := strs_len hj
  by_cases hl : ns.length = ms.length
  · rw [← all_range hl] at h
    refine eq_listAt ha hb (by simp; omega) (by omega) (e := fun j => ns.getD j ⟨#[]⟩ == ms.getD j ⟨#[]⟩) (fun j h1 h2 => ?_) (by rw [List.size_toArray, l1]; exact h)
    obtain ⟨t, e⟩ := strs_get hi h1
    obtain ⟨u, e'⟩ := strs_get hj h2
    rw [e, e']
    exact EqAt.str_str _ _ _ _
  · rw [decide_eq_false (fun e => hl (by rw [e]))] at h
    exact eq_list_lengthsAt ha hb (by simp; omega) (by omega) h
theorem neStrs (ha : s.heap.IsList a xs.toArray) (hb : s.heap.IsList b ys.toArray) (hi : StrsAre xs ns) (hj : StrsAre ys ms) (hu : A.units + 64 < cLine) (h : Q (.bool (!decide (ns = ms))) s) :
    wpAny (model prog w) A (compareOp .NotEq (.ref a) (.ref b)) Q E s := by
  have l1 := strs_len hi
  have l2 := strs_len hj
  by_cases hl : ns.length = ms.length
  · rw [← all_range hl] at h
    refine RcNeAt.lists ha hb (by simp; omega) (by omega) (e := fun j => ns.getD j ⟨#[]⟩ == ms.getD j ⟨#[]⟩) (fun j h1 h2 => ?_) prog w E Q (by rw [List.size_toArray, l1]; exact h)
    obtain ⟨t, e⟩ := strs_get hi h1
    obtain ⟨u, e'⟩ := strs_get hj h2
    rw [e, e']
    exact EqAt.str_str _ _ _ _
  · rw [decide_eq_false (fun e => hl (by rw [e]))] at h
    exact RcNeAt.lists_lengths ha hb (by simp; omega) (by omega) prog w E Q h
end
theorem strs_take {vs : List Value} {xs : List Str} (h : StrsAre vs xs) (k : Nat) : StrsAre (vs.take k) (xs.take k) := by
  induction h generalizing k with
  | nil => rw [List.take_nil, List.take_nil]; exact .nil
  | cons a b _ ih =>
    cases k with
    | zero => exact .nil
    | succ k => exact .cons a b (ih k)
section
variable {prog : Program} {w : World} {A : Around} {E : Value → Shared → Prop} {s : Shared} {h₀ : Heap} {L l : Addr} {m : Str → Option Value} {news : List (Addr × Obj)} {vs : List Value} {y : Int} {u : Tok} {value slice : PySem.Expr} {Q : Value → Shared → Prop}
theorem pick_upto (vs : List Value) (h : 0 ≤ y) : (slicePick vs.toArray none (some y) none).toList = vs.take y.toNat := by
  have e : sliceBounds none (some y) none vs.toArray.size = (((0 : Nat) : Int), ((min y.toNat vs.toArray.size : Nat) : Int), 1) := by
    simp only [sliceBounds, Option.getD_none, show (1 : Int) > 0 by decide, if_true, if_neg (show ¬ (y < 0) by omega)]
    congr 1
    congr 1
    omega
  rw [kmk_pick_nat _ e]
  show (vs.drop 0).take (min y.toNat vs.toArray.size - 0) = _
  rw [List.drop_zero, Nat.sub_zero, List.size_toArray, kmk_take_min]
theorem takeL {hi : Value} (F : Fr h₀ L s.heap m) (N : News h₀ L s.heap news) (hl : s.heap.IsList l vs.toArray) (pu : IsPart hi (some y)) (h0 : 0 ≤ y)
    (h : ∀ D h', Fr h₀ L h' m → News h₀ L h' ((D, W.listOf (vs.take y.toNat).toArray 0) :: news) → (∀ p ∈ news, p.1 < D) → Q (.ref D) { s with heap := h' })
    (hs : subscripted slice false (.ref l) (.ref s.heap.objs.size) = operate [.ref s.heap.objs.size, .ref l] (getItem (.ref l) (.ref s.heap.objs.size))) (ht : ∀ r, letTemporaryGo value (.ref l) r = pure ()) (hz : vs.length ≤ 200000) :
    wpAny (model prog w) A (subscriptTail value slice (.ref l) (.ref s.heap.objs.size)) Q E { s with heap := s.heap.push { cls := .type "slice", data := .fields #[.none, hi, .none] } } :=
  kmk_slice_lit F N hl IsPart.none pu (pick_upto vs h0) h hs ht (by rw [List.size_toArray, sizeLine_eq]; omega)
end
end
section
open PySem PySem.W PyProof.Rows PySem.Calls PySem.Spec PySem.SeqAt
open PySem.AutoSeq1 (wpAny_loadPart')
open PySem.MeetsSeq PySem.MeetsSeq2 PySem.MeetsSeq3 PySem.SeqRoads2
set_option maxHeartbeats 1000000
def strLt (a b : Str) : Bool := decide (a.cps.toList < b.cps.toList)
/-- the order of lists of texts -/
def ltL : List Str → List Str → Bool
  | _, [] => false
  | [], _ :: _ => true
  | a :: r, b :: t => if a = b then ltL r t else strLt a b

theorem lt_loop (l b : Addr) (xs ys : List Value) (as bs : List Str) (n n2 : Nat) (hi : StrsAre xs as) (hj : StrsAre ys bs) (k : Nat) :
    ∀ i : Nat, min as.length bs.length - i = k → i ≤ min as.length bs.length → Meets (Builtin.«list.__eq__.loop» ⟨[.ref l, .ref b, rawInt i, rawInt 0], []⟩)
      (fun A R s => s.heap.get? l = some { cls := .type "list", data := .seq xs.toArray n } ∧ s.heap.get? b = some { cls := .type "list", data := .seq ys.toArray n2 } ∧
        R (.ok (.ret (.bool (ltL (as.drop i) (bs.drop i))))) s) := by
  have l1 := strs_len hi
  have l2 := strs_len hj
  induction k with
  | zero =>
    intro i hk hile prog w A R s h
    obtain ⟨hp, g, d, tk, os⟩ := s; obtain ⟨hl, hb, h⟩ := h
    wp_walk using wpAny_loadPart' hl, wpAny_loadPart' hb
    have hor : xs.toArray[((i : Nat) : Int).toNat]? = none ∨ ys.toArray[((i : Nat) : Int).toNat]? = none := by
      rcases Nat.le_total as.length bs.length with hle | hle
      · left; simp; omega
      · right; simp; omega
    have hfin : ltL (as.drop i) (bs.drop i) = decide (xs.toArray.size < ys.toArray.size) := by
      rcases Nat.lt_or_ge as.length bs.length with hlt | hge
      · have e1 : as.drop i = [] := List.drop_of_length_le (by omega)
        have e2 : 0 < (bs.drop i).length := by rw [List.length_drop]; omega
        rw [e1]
        cases hb2 : bs.drop i with
        | nil => rw [hb2] at e2; cases e2
        | cons x r => simp [ltL]; omega
      · have e1 : bs.drop i = [] := List.drop_of_length_le (by omega)
        rw [e1]
        cases as.drop i <;> simp [ltL] <;> omega
    rw [hfin] at h
    rcases hor with e | e
    · rw [e]
      wp_walk using wpAny_loadPart' hl, wpAny_loadPart' hb
      exact h
    · rw [e]
      cases xs.toArray[((i : Nat) : Int).toNat]? <;> (wp_walk using wpAny_loadPart' hl, wpAny_loadPart' hb) <;> exact h
  | succ k ih =>
    intro i hk hile prog w A R s h
    obtain ⟨hp, g, d, tk, os⟩ := s; obtain ⟨hl, hb, h⟩ := h
    wp_walk using wpAny_loadPart' hl, wpAny_loadPart' hb
    have hlt : i < xs.toArray.size := by simp; omega
    have hlt2 : i < ys.toArray.size := by simp; omega
    obtain ⟨t, e1⟩ := strs_get hi hlt
    obtain ⟨u, e2⟩ := strs_get hj hlt2
    have hi1 : xs.toArray[((i : Nat) : Int).toNat]? = some (.str (as.getD i ⟨#[]⟩) t) := by rw [← e1]; simp only [Int.toNat_natCast]; exact Array.getElem?_eq_getElem hlt
    have hi2 : ys.toArray[((i : Nat) : Int).toNat]? = some (.str (bs.getD i ⟨#[]⟩) u) := by rw [← e2]; simp only [Int.toNat_natCast]; exact Array.getElem?_eq_getElem hlt2
    have da : as.drop i = as.getD i ⟨#[]⟩ :: as.drop (i + 1) := by rw [List.drop_eq_getElem_cons (by omega : i < as.length)]; simp [List.getD_eq_getElem?_getD, show i < as.length by omega]
    have db : bs.drop i = bs.getD i ⟨#[]⟩ :: bs.drop (i + 1) := by rw [List.drop_eq_getElem_cons (by omega : i < bs.length)]; simp [List.getD_eq_getElem?_getD, show i < bs.length by omega]
    have hc : ((i : Int) + 1) = ((i + 1 : Nat) : Int) := by push_cast; rfl
    rw [da, db] at h
    rw [hi1, hi2]
    refine wpAny_bind (EqAt.str_str _ _ _ _ prog w _ _ ?_)
    by_cases hb' : as.getD i ⟨#[]⟩ = bs.getD i ⟨#[]⟩
    · rw [show (as.getD i ⟨#[]⟩ == bs.getD i ⟨#[]⟩) = true from beq_iff_eq.mpr hb']
      simp only [ltL, if_pos hb'] at h
      wp_walk
      rw [hc]
      exact ⟨plainId_quiet plain_eq_loop _, codeAny_builtin entry_eq_loop (by
        rw [Around.under_plainId plain_eq_loop _]
        exact ih (i + 1) (by omega) (by omega) prog w A R _ ⟨hl, hb, h⟩)⟩
    · rw [show (as.getD i ⟨#[]⟩ == bs.getD i ⟨#[]⟩) = false from beq_eq_false_iff_ne.mpr hb']
      simp only [ltL, if_neg hb'] at h
      wp_walk using wpAny_loadPart' hl, wpAny_loadPart' hb
      rw [hi1, hi2]
      dsimp only
      refine wpAny_bind (show wpAny _ _ (compareOp .Lt (.str _ _) (.str _ _)) _ _ _ from lt_str ?_)
      exact wpAny_pure h

theorem list_lt (l b : Addr) (xs ys : List Value) (as bs : List Str) (n n2 : Nat) (hi : StrsAre xs as) (hj : StrsAre ys bs) :
    Meets (Builtin.«list.__lt__» ⟨[.ref l, .ref b], []⟩)
      (fun A R s => s.heap.get? l = some { cls := .type "list", data := .seq xs.toArray n } ∧ s.heap.get? b = some { cls := .type "list", data := .seq ys.toArray n2 } ∧
        R (.ok (.ret (.bool (ltL as bs)))) s) := by
  intro prog w A R s h
  obtain ⟨hp, g, d, tk, os⟩ := s; obtain ⟨hl, hb, h⟩ := h
  have f3 := AutoSeq1.sub_list_list
  wp_walk using wpAny_loadPart' hl, wpAny_loadPart' hb
  exact ⟨plainId_quiet plain_eq_loop _, codeAny_builtin entry_eq_loop (by
    rw [Around.under_plainId plain_eq_loop _]
    exact lt_loop l b xs ys as bs n n2 hi hj _ 0 rfl (Nat.zero_le _) prog w A R _ ⟨hl, hb, by simpa using h⟩)⟩
theorem ltLists {prog : Program} {w : World} {A : Around} {E : Value → Shared → Prop} {s : Shared} {a b : Addr} {xs ys : List Value} {ns ms : List Str} {n n2 : Nat} {Q : Value → Shared → Prop}
    (ha : s.heap.get? a = some (W.listOf xs.toArray n)) (hb : s.heap.get? b = some (W.listOf ys.toArray n2)) (hi : StrsAre xs ns) (hj : StrsAre ys ms) (hu : A.units < cLine) (h : Q (.bool (ltL ns ms)) s) :
    wpAny (model prog w) A (richCompare .Lt (.ref a) (.ref b)) Q E s :=
  richCompare_meets_room (op := .Lt) ⟨_, ha, rfl⟩ ⟨_, hb, rfl⟩ F.slot_list_lt F.entry_list_lt (F.args_list_lt_2 _ _) (list_lt a b xs ys ns ms n n2 hi hj)
    ⟨ha, hb, show Value.bool (ltL ns ms) ≠ Value.notImplemented ∧ Q (.bool (ltL ns ms)) s from ⟨(fun x => nomatch x), h⟩⟩ hu
end
section
open PySem PySem.W PyProof.Rows PySem.Calls PySem.Spec PySem.SeqAt
open PySem.AutoSeq1 (wpAny_loadPart')
open PySem.MeetsSeq PySem.MeetsSeq2 PySem.MeetsSeq3 PySem.SeqRoads2
set_option maxHeartbeats 1000000
theorem gt_loop (l b : Addr) (xs ys : List Value) (as bs : List Str) (n n2 : Nat) (hi : StrsAre xs as) (hj : StrsAre ys bs) (k : Nat) :
    ∀ i : Nat, min as.length bs.length - i = k → i ≤ min as.length bs.length → Meets (Builtin.«list.__eq__.loop» ⟨[.ref l, .ref b, rawInt i, rawInt 4], []⟩)
      (fun A R s => s.heap.get? l = some { cls := .type "list", data := .seq xs.toArray n } ∧ s.heap.get? b = some { cls := .type "list", data := .seq ys.toArray n2 } ∧
        R (.ok (.ret (.bool (ltL (bs.drop i) (as.drop i))))) s) := by
  have l1 := strs_len hi
  have l2 := strs_len hj
  induction k with
  | zero =>
    intro i hk hile prog w A R s h
    obtain ⟨hp, g, d, tk, os⟩ := s; obtain ⟨hl, hb, h⟩ := h
    wp_walk using wpAny_loadPart' hl, wpAny_loadPart' hb
    have hor : xs.toArray[((i : Nat) : Int).toNat]? = none ∨ ys.toArray[((i : Nat) : Int).toNat]? = none := by
      rcases Nat.le_total as.length bs.length with hle | hle
      · left; simp; omega
      · right; simp; omega
    have hfin : ltL (bs.drop i) (as.drop i) = decide (xs.toArray.size > ys.toArray.size) := by
      rcases Nat.lt_or_ge bs.length as.length with hlt | hge
      · have e1 : bs.drop i = [] := List.drop_of_length_le (by omega)
        have e2 : 0 < (as.drop i).length := by rw [List.length_drop]; omega
        rw [e1]
        cases hb2 : as.drop i with
        | nil => rw [hb2] at e2; cases e2
        | cons x r => simp [ltL]; omega
      · have e1 : as.drop i = [] := List.drop_of_length_le (by omega)
        rw [e1]
        cases bs.drop i <;> simp [ltL] <;> omega
    rw [hfin] at h
    rcases hor with e | e
    · rw [e]
      wp_walk using wpAny_loadPart' hl, wpAny_loadPart' hb
      exact h
    · rw [e]
      cases xs.toArray[((i : Nat) : Int).toNat]? <;> (wp_walk using wpAny_loadPart' hl, wpAny_loadPart' hb) <;> exact h
  | succ k ih =>
    intro i hk hile prog w A R s h
    obtain ⟨hp, g, d, tk, os⟩ := s; obtain ⟨hl, hb, h⟩ := h
    wp_walk using wpAny_loadPart' hl, wpAny_loadPart' hb
    have hlt : i < xs.toArray.size := by simp; omega
    have hlt2 : i < ys.toArray.size := by simp; omega
    obtain ⟨t, e1⟩ := strs_get hi hlt
    obtain ⟨u, e2⟩ := strs_get hj hlt2
    have hi1 : xs.toArray[((i : Nat) : Int).toNat]? = some (.str (as.getD i ⟨#[]⟩) t) := by rw [← e1]; simp only [Int.toNat_natCast]; exact Array.getElem?_eq_getElem hlt
    have hi2 : ys.toArray[((i : Nat) : Int).toNat]? = some (.str (bs.getD i ⟨#[]⟩) u) := by rw [← e2]; simp only [Int.toNat_natCast]; exact Array.getElem?_eq_getElem hlt2
    have da : as.drop i = as.getD i ⟨#[]⟩ :: as.drop (i + 1) := by rw [List.drop_eq_getElem_cons (by omega : i < as.length)]; simp [List.getD_eq_getElem?_getD, show i < as.length by omega]
    have db : bs.drop i = bs.getD i ⟨#[]⟩ :: bs.drop (i + 1) := by rw [List.drop_eq_getElem_cons (by omega : i < bs.length)]; simp [List.getD_eq_getElem?_getD, show i < bs.length by omega]
    have hc : ((i : Int) + 1) = ((i + 1 : Nat) : Int) := by push_cast; rfl
    rw [da, db] at h
    rw [hi1, hi2]
    refine wpAny_bind (EqAt.str_str _ _ _ _ prog w _ _ ?_)
    by_cases hb' : as.getD i ⟨#[]⟩ = bs.getD i ⟨#[]⟩
    · rw [show (as.getD i ⟨#[]⟩ == bs.getD i ⟨#[]⟩) = true from beq_iff_eq.mpr hb']
      simp only [ltL, if_pos hb'.symm] at h
      wp_walk
      rw [hc]
      exact ⟨plainId_quiet plain_eq_loop _, codeAny_builtin entry_eq_loop (by
        rw [Around.under_plainId plain_eq_loop _]
        exact ih (i + 1) (by omega) (by omega) prog w A R _ ⟨hl, hb, h⟩)⟩
    · rw [show (as.getD i ⟨#[]⟩ == bs.getD i ⟨#[]⟩) = false from beq_eq_false_iff_ne.mpr hb']
      simp only [ltL, if_neg (fun e => hb' (Eq.symm e))] at h
      wp_walk using wpAny_loadPart' hl, wpAny_loadPart' hb
      rw [hi1, hi2]
      dsimp only
      refine wpAny_bind (show wpAny _ _ (compareOp .Gt (.str _ _) (.str _ _)) _ _ _ from PySem.P.gt_str ?_)
      exact wpAny_pure h

theorem list_gt (l b : Addr) (xs ys : List Value) (as bs : List Str) (n n2 : Nat) (hi : StrsAre xs as) (hj : StrsAre ys bs) :
    Meets (Builtin.«list.__gt__» ⟨[.ref l, .ref b], []⟩)
      (fun A R s => s.heap.get? l = some { cls := .type "list", data := .seq xs.toArray n } ∧ s.heap.get? b = some { cls := .type "list", data := .seq ys.toArray n2 } ∧
        R (.ok (.ret (.bool (ltL bs as)))) s) := by
  intro prog w A R s h
  obtain ⟨hp, g, d, tk, os⟩ := s; obtain ⟨hl, hb, h⟩ := h
  have f3 := AutoSeq1.sub_list_list
  wp_walk using wpAny_loadPart' hl, wpAny_loadPart' hb
  exact ⟨plainId_quiet plain_eq_loop _, codeAny_builtin entry_eq_loop (by
    rw [Around.under_plainId plain_eq_loop _]
    exact gt_loop l b xs ys as bs n n2 hi hj _ 0 rfl (Nat.zero_le _) prog w A R _ ⟨hl, hb, by simpa using h⟩)⟩
theorem gtLists {prog : Program} {w : World} {A : Around} {E : Value → Shared → Prop} {s : Shared} {a b : Addr} {xs ys : List Value} {ns ms : List Str} {n n2 : Nat} {Q : Value → Shared → Prop}
    (ha : s.heap.get? a = some (W.listOf xs.toArray n)) (hb : s.heap.get? b = some (W.listOf ys.toArray n2)) (hi : StrsAre xs ns) (hj : StrsAre ys ms) (hu : A.units < cLine) (h : Q (.bool (ltL ms ns)) s) :
    wpAny (model prog w) A (richCompare .Gt (.ref a) (.ref b)) Q E s :=
  richCompare_meets_room (op := .Gt) ⟨_, ha, rfl⟩ ⟨_, hb, rfl⟩ F.slot_list_gt F.entry_list_gt (F.args_list_gt_2 _ _) (list_gt a b xs ys ns ms n n2 hi hj)
    ⟨ha, hb, show Value.bool (ltL ms ns) ≠ Value.notImplemented ∧ Q (.bool (ltL ms ns)) s from ⟨(fun x => nomatch x), h⟩⟩ hu

section
variable {prog : Program} {w : World} {A : Around} {R : Result → Shared → Prop} {I : Addr} {fp : List Addr} {n : Nat} {P : Nat → Value → Prop} {St : Nat → Heap → Prop} {hB : Heap}
theorem min_loopK (W : Walks prog w A.in1 I fp [I] n P St) (bt : Nat → Nat → Bool) (hcmp : ∀ i j vi vj (s : Shared) (Q : Value → Shared → Prop) (E : Value → Shared → Prop), Kept hB s.heap → P i vi → P j vj → Q (.bool (bt i j)) s → wpAny (model prog w) A.in1 (richCompare .Lt vi vj) Q E s)
    (S : Addr) (hSf : S ∉ fp) (hI : hB.get? I = none) (hS0 : hB.get? S = none) :
    ∀ (k j : Nat) (s : Shared) (vb : Value) (c : Nat), n - (j + 1) = k → j + 1 ≤ n → Kept hB s.heap → St (j + 1) s.heap → P (argBest bt j) vb →
    s.heap.get? S = some { cls := .type "list", dict := none, data := .seq #[vb, vb] c, slots := #[] } →
    (∀ v h' tk, P (argBest bt (n - 1)) v → (∀ b o, b ≠ I → b ≠ S → s.heap.get? b = some o → h'.get? b = some o) → R (.ok (.ret v)) { s with heap := h', toks := tk }) →
    codeAny (model prog w) A (.builtin "min.loop" ⟨[.ref I, .none, .ref S], []⟩) R s := by
  have hSI : S ≠ I := fun e => hSf (W.sub _ (by rw [e]; exact List.mem_singleton.mpr rfl))
  have hSw : S ∉ [I] := fun h => hSI (List.mem_singleton.mp h)
  have hname : (toString "min" ++ toString ".loop" : String) = "min.loop" := by decide
  have nw : ∀ {b : Addr}, b ≠ I → b ∉ [I] := fun h e => h (List.mem_singleton.mp e)
  have kept1 : ∀ {h h' : Heap}, Kept hB h → (∀ b o, b ∉ [I] → h.get? b = some o → h'.get? b = some o) → Kept hB h' := fun k k' b o e => k' b o (nw fun q => by rw [q, hI] at e; cases e) (k b o e)
  have kept2 : ∀ {h : Heap} (f : Obj → Obj), Kept hB h → Kept hB (h.update S f) := fun f k b o e => (Heap.get?_update_other _ _ (fun q : S = b => by rw [← q, hS0] at e; cases e)).trans (k b o e)
  intro k
  induction k with
  | zero =>
    intro j s vb c hk hj hK hst hPb hS hR
    have hin : j + 1 = n := by omega
    refine codeAny_builtin PySem.F.entry_min_loop ?_
    rw [Around.under_plainId PySem.F.plain_min_loop _]
    show wpAny _ A.in1 (seqItems? (.ref S) >>= _) _ _ s
    refine wpAny_bind (wpAny_seqItems hS rfl ?_)
    show wpAny _ A.in1 (tryCatch (pyNext (.ref I)) _ >>= _) _ _ s
    refine wpAny_bind (wpAny_tryCatch (W.done s _ _ (hin ▸ hst) fun h' tk hk' => ?_))
    have hS' := hk' S _ hSw hS
    show wpAny _ A.in1 (updateSeq S (fun _ => #[]) >>= _) _ _ _
    refine wpAny_bind ?_
    refine wpAny_updateSeq hS' rfl (wpAny_bind (wpAny_letGo (wpAny_pure ?_)))
    refine hR vb _ tk (by rw [← hin]; exact hPb) fun b o hbw hbS e => (Heap.get?_update_other _ _ (Ne.symm hbS)).trans (hk' b o (nw hbw) e)
  | succ k ih =>
    intro j s vb c hk hj hK hst hPb hS hR
    have hlt : j + 1 < n := by omega
    refine codeAny_builtin PySem.F.entry_min_loop ?_
    rw [Around.under_plainId PySem.F.plain_min_loop _]
    show wpAny _ A.in1 (seqItems? (.ref S) >>= _) _ _ s
    refine wpAny_bind (wpAny_seqItems hS rfl ?_)
    show wpAny _ A.in1 (tryCatch (pyNext (.ref I)) _ >>= _) _ _ s
    refine wpAny_bind (wpAny_tryCatch (W.item (j + 1) s _ _ hlt hst fun v h' tk hP hst' hk' => ?_))
    have hS' := hk' S _ hSw hS
    have hK' := kept1 hK hk'
    show wpAny _ A.in1 (tryCatch (holding [v, v] (richCompare .Lt v vb >>= _)) _ >>= _) _ _ _
    refine wpAny_bind (wpAny_tryCatch (wpAny_holding (wpAny_bind (hcmp (j + 1) (argBest bt j) v vb _ _ _ hK' hP hPb ?_))))
    refine wpAny_bind (wpAny_holding (wpAny_truthy_bool ?_))
    refine wpAny_bind (wpAny_letGo (wpAny_pure ?_))
    cases hb : bt (j + 1) (argBest bt j) with
    | true =>
      simp only [if_true]
      refine wpAny_bind ?_
      refine wpAny_updateSeq hS' rfl (wpAny_bind (wpAny_letGo ?_))
      rw [hname]
      refine wpAny_pure ⟨plainId_quiet PySem.F.plain_min_loop _, ih (j + 1) _ v _ (by omega) hlt (kept2 _ hK') (W.frame _ _ _ hst' fun b hbf o e => ?_) (by simp only [argBest, hb, if_true]; exact hP) (Heap.get?_update_self _ hS' rfl)
        fun v' h'' tk'' hP' hk'' => ?_⟩
      · exact (Heap.get?_update_other _ _ (fun h : S = b => hSf (by rw [h]; exact hbf))).trans e
      · exact hR v' h'' tk'' hP' fun b o hbw hbS e => hk'' b o hbw hbS ((Heap.get?_update_other _ _ (Ne.symm hbS)).trans (hk' b o (nw hbw) e))
    | false =>
      simp only [Bool.false_eq_true, if_false]
      refine wpAny_bind (wpAny_letGo ?_)
      rw [hname]
      refine wpAny_pure ⟨plainId_quiet PySem.F.plain_min_loop _, ih (j + 1) _ vb c (by omega) hlt hK' hst' (by simp only [argBest, hb, Bool.false_eq_true, if_false]; exact hPb) hS' fun v' h'' tk'' hP' hk'' => ?_⟩
      exact hR v' h'' tk'' hP' fun b o hbw hbS e => hk'' b o hbw hbS (hk' b o (nw hbw) e)
end
section
variable {prog : Program} {w : World} {A : Around} {E : Value → Shared → Prop} {s : Shared}
/-- the least of a list of lists of texts -/
theorem minRows {l : Addr} {vs : List Value} {rows : List (List Str)} {Q : Value → Shared → Prop} (hh : A.handled = none) (hl : s.heap.IsList l vs.toArray) (hr : RowsAre s.heap vs rows) (hn : 0 < rows.length) (hu : A.units + 64 < cLine)
    (h : ∀ v h' tk, vs[argBest (fun i j => ltL (rows.getD i []) (rows.getD j [])) (rows.length - 1)]? = some v → Kept s.heap h' → Q v { s with heap := h', toks := tk }) :
    wpAny (model prog w) A (call (.builtin "min") [.ref l]) Q E s := by
  have hname : (toString "min" ++ toString ".loop" : String) = "min.loop" := by decide
  refine call_function_tree PySem.F.kind_min PySem.F.plain_min PySem.F.entry_min (PySem.F.args_min1 _) ?_
  show wpAny _ A.in1 (Builtin.Builtins.bindParams "min" ["key", "default"] 0 ⟨[], []⟩ >>= _) _ _ s
  refine wpAny_bind (wpAny_of_eq (show Builtin.Builtins.bindParams "min" ["key", "default"] 0 ⟨[], []⟩ = pure [none, none] from rfl) ?_)
  refine wpAny_bind (wpAny_pure ?_)
  refine wpAny_bind (wpAny_pyIter_list hl ?_)
  refine wpAny_bind (wpAny_newObj_type ?_)
  rw [hname]
  have hlt : l < s.heap.objs.size := by obtain ⟨o, e, _⟩ := hl; exact Heap.lt_size e
  have W := Walks.list (prog := prog) (w := w) (A := A.in1) hh s.heap.objs.size l (Nat.ne_of_lt hlt) vs.toArray
  have hz : vs.toArray.size = vs.length := by simp
  rw [hz, hr.len] at W
  have hSz : (s.heap.push { cls := .type "list_iterator", data := .fields #[.ref l, .int 0 0] }).objs.size = s.heap.objs.size + 1 := Heap.size_push ..
  have gI : s.heap.get? s.heap.objs.size = none := Heap.get?_none_of_le (Nat.le_refl _)
  have gS : s.heap.get? (s.heap.push { cls := .type "list_iterator", data := .fields #[.ref l, .int 0 0] }).objs.size = none := Heap.get?_none_of_le (by rw [hSz]; exact Nat.le_succ _)
  have hSf : (s.heap.push { cls := .type "list_iterator", data := .fields #[.ref l, .int 0 0] }).objs.size ∉ [s.heap.objs.size, l] := by
    rw [hSz]
    intro hm
    rcases List.mem_cons.mp hm with e | hm
    · exact absurd e (Nat.ne_of_gt (Nat.lt_succ_self _))
    · have := List.mem_singleton.mp hm
      rw [← this] at hlt
      exact absurd hlt (Nat.not_lt.mpr (Nat.le_succ _))
  have hcmp : ∀ i j vi vj (s' : Shared) (Q : Value → Shared → Prop) (E : Value → Shared → Prop), Kept s.heap s'.heap → vs.toArray[i]? = some vi → vs.toArray[j]? = some vj → Q (.bool (ltL (rows.getD i []) (rows.getD j []))) s' → wpAny (model prog w) A.in1 (richCompare .Lt vi vj) Q E s' := by
    intro i j vi vj s' Q E hK hvi hvj hQ
    obtain ⟨a, wa, na, ra, rfl, hra, ga, sa⟩ := hr.item (by simpa using hvi)
    obtain ⟨b, wb, nb, rb, rfl, hrb, gb, sb⟩ := hr.item (by simpa using hvj)
    have e1 : rows.getD i [] = ra := by rw [List.getD_eq_getElem?_getD, hra]; rfl
    have e2 : rows.getD j [] = rb := by rw [List.getD_eq_getElem?_getD, hrb]; rfl
    rw [e1, e2] at hQ
    exact ltLists (hK _ _ ga) (hK _ _ gb) sa sb (by rw [units_in1]; omega) hQ
  have hl2 : ((s.heap.push { cls := .type "list_iterator", data := .fields #[.ref l, .int 0 0] }).push { cls := .type "list", data := .seq ([] : List Value).toArray }).IsList l vs.toArray := hl.at fun o e => Heap.get?_push_of_some _ (Heap.get?_push_of_some _ e)
  have K2 : Kept s.heap ((s.heap.push { cls := .type "list_iterator", data := .fields #[.ref l, .int 0 0] }).push { cls := .type "list", data := .seq ([] : List Value).toArray }) := fun b o e => Heap.get?_push_of_some _ (Heap.get?_push_of_some _ e)
  have hS := Heap.get?_push_size (s.heap.push { cls := .type "list_iterator", data := .fields #[.ref l, .int 0 0] }) (o := ({ cls := .type "list", data := .seq ([] : List Value).toArray } : Obj)) rfl
  refine wpAny_pure ⟨plainId_quiet PySem.F.plain_min_loop _, ?_⟩
  refine codeAny_builtin PySem.F.entry_min_loop ?_
  rw [Around.under_plainId PySem.F.plain_min_loop _]
  show wpAny _ A.in1 (seqItems? (.ref _) >>= _) _ _ _
  refine wpAny_bind (wpAny_seqItems hS rfl ?_)
  show wpAny _ A.in1 (tryCatch (pyNext (.ref s.heap.objs.size)) _ >>= _) _ _ _
  refine wpAny_bind (wpAny_tryCatch (W.item 0 _ _ _ hn ⟨⟨_, Heap.get?_push_of_some _ (Heap.get?_push_size _ rfl), rfl, rfl⟩, hl2⟩ fun v h' tk hP hst' hk' => ?_))
  have hSI : (s.heap.push { cls := .type "list_iterator", data := .fields #[.ref l, .int 0 0] }).objs.size ≠ s.heap.objs.size := by rw [hSz]; exact Nat.ne_of_gt (Nat.lt_succ_self _)
  have hS' := hk' _ _ (fun q => hSI (List.mem_singleton.mp q)) hS
  show wpAny _ A.in1 (updateSeq _ (fun _ => #[v, v]) >>= _) _ _ _
  refine wpAny_bind ?_
  refine wpAny_updateSeq hS' rfl ?_
  rw [hname]
  have hK3 : Kept s.heap h' := fun b o e => hk' b o (fun q => by rw [List.mem_singleton.mp q, gI] at e; cases e) (K2 b o e)
  refine wpAny_pure ⟨plainId_quiet PySem.F.plain_min_loop _, min_loopK (hB := s.heap) W _ hcmp _ hSf gI gS _ 0 _ v _ rfl hn (fun b o e => ?_) (W.frame _ _ _ hst' fun b hbf o e => ?_) hP (Heap.get?_update_self _ hS' rfl) fun v' h'' tk'' hP' hk'' => ?_⟩
  · exact (Heap.get?_update_other _ _ (fun q => by rw [← q, gS] at e; cases e)).trans (hK3 b o e)
  · exact (Heap.get?_update_other _ _ (fun q => hSf (by rw [q]; exact hbf))).trans e
  · refine h v' h'' tk'' (by simpa using hP') fun b o e => hk'' b o (fun q => by rw [q, gI] at e; cases e) (fun q => by rw [q, gS] at e; cases e) ?_
    exact (Heap.get?_update_other _ _ (fun q => by rw [← q, gS] at e; cases e)).trans (hK3 b o e)
end

section
variable {prog : Program} {w : World} {A : Around} {R : Result → Shared → Prop} {I : Addr} {fp : List Addr} {n : Nat} {P : Nat → Value → Prop} {St : Nat → Heap → Prop} {hB : Heap}
theorem max_loopK (W : Walks prog w A.in1 I fp [I] n P St) (bt : Nat → Nat → Bool) (hcmp : ∀ i j vi vj (s : Shared) (Q : Value → Shared → Prop) (E : Value → Shared → Prop), Kept hB s.heap → P i vi → P j vj → Q (.bool (bt i j)) s → wpAny (model prog w) A.in1 (richCompare .Gt vi vj) Q E s)
    (S : Addr) (hSf : S ∉ fp) (hI : hB.get? I = none) (hS0 : hB.get? S = none) :
    ∀ (k j : Nat) (s : Shared) (vb : Value) (c : Nat), n - (j + 1) = k → j + 1 ≤ n → Kept hB s.heap → St (j + 1) s.heap → P (argBest bt j) vb →
    s.heap.get? S = some { cls := .type "list", dict := none, data := .seq #[vb, vb] c, slots := #[] } →
    (∀ v h' tk, P (argBest bt (n - 1)) v → (∀ b o, b ≠ I → b ≠ S → s.heap.get? b = some o → h'.get? b = some o) → R (.ok (.ret v)) { s with heap := h', toks := tk }) →
    codeAny (model prog w) A (.builtin "max.loop" ⟨[.ref I, .none, .ref S], []⟩) R s := by
  have hSI : S ≠ I := fun e => hSf (W.sub _ (by rw [e]; exact List.mem_singleton.mpr rfl))
  have hSw : S ∉ [I] := fun h => hSI (List.mem_singleton.mp h)
  have hname : (toString "max" ++ toString ".loop" : String) = "max.loop" := by decide
  have nw : ∀ {b : Addr}, b ≠ I → b ∉ [I] := fun h e => h (List.mem_singleton.mp e)
  have kept1 : ∀ {h h' : Heap}, Kept hB h → (∀ b o, b ∉ [I] → h.get? b = some o → h'.get? b = some o) → Kept hB h' := fun k k' b o e => k' b o (nw fun q => by rw [q, hI] at e; cases e) (k b o e)
  have kept2 : ∀ {h : Heap} (f : Obj → Obj), Kept hB h → Kept hB (h.update S f) := fun f k b o e => (Heap.get?_update_other _ _ (fun q : S = b => by rw [← q, hS0] at e; cases e)).trans (k b o e)
  intro k
  induction k with
  | zero =>
    intro j s vb c hk hj hK hst hPb hS hR
    have hin : j + 1 = n := by omega
    refine codeAny_builtin PySem.F.entry_max_loop ?_
    rw [Around.under_plainId PySem.F.plain_max_loop _]
    show wpAny _ A.in1 (seqItems? (.ref S) >>= _) _ _ s
    refine wpAny_bind (wpAny_seqItems hS rfl ?_)
    show wpAny _ A.in1 (tryCatch (pyNext (.ref I)) _ >>= _) _ _ s
    refine wpAny_bind (wpAny_tryCatch (W.done s _ _ (hin ▸ hst) fun h' tk hk' => ?_))
    have hS' := hk' S _ hSw hS
    show wpAny _ A.in1 (updateSeq S (fun _ => #[]) >>= _) _ _ _
    refine wpAny_bind ?_
    refine wpAny_updateSeq hS' rfl (wpAny_bind (wpAny_letGo (wpAny_pure ?_)))
    refine hR vb _ tk (by rw [← hin]; exact hPb) fun b o hbw hbS e => (Heap.get?_update_other _ _ (Ne.symm hbS)).trans (hk' b o (nw hbw) e)
  | succ k ih =>
    intro j s vb c hk hj hK hst hPb hS hR
    have hlt : j + 1 < n := by omega
    refine codeAny_builtin PySem.F.entry_max_loop ?_
    rw [Around.under_plainId PySem.F.plain_max_loop _]
    show wpAny _ A.in1 (seqItems? (.ref S) >>= _) _ _ s
    refine wpAny_bind (wpAny_seqItems hS rfl ?_)
    show wpAny _ A.in1 (tryCatch (pyNext (.ref I)) _ >>= _) _ _ s
    refine wpAny_bind (wpAny_tryCatch (W.item (j + 1) s _ _ hlt hst fun v h' tk hP hst' hk' => ?_))
    have hS' := hk' S _ hSw hS
    have hK' := kept1 hK hk'
    show wpAny _ A.in1 (tryCatch (holding [v, v] (richCompare .Gt v vb >>= _)) _ >>= _) _ _ _
    refine wpAny_bind (wpAny_tryCatch (wpAny_holding (wpAny_bind (hcmp (j + 1) (argBest bt j) v vb _ _ _ hK' hP hPb ?_))))
    refine wpAny_bind (wpAny_holding (wpAny_truthy_bool ?_))
    refine wpAny_bind (wpAny_letGo (wpAny_pure ?_))
    cases hb : bt (j + 1) (argBest bt j) with
    | true =>
      simp only [if_true]
      refine wpAny_bind ?_
      refine wpAny_updateSeq hS' rfl (wpAny_bind (wpAny_letGo ?_))
      rw [hname]
      refine wpAny_pure ⟨plainId_quiet PySem.F.plain_max_loop _, ih (j + 1) _ v _ (by omega) hlt (kept2 _ hK') (W.frame _ _ _ hst' fun b hbf o e => ?_) (by simp only [argBest, hb, if_true]; exact hP) (Heap.get?_update_self _ hS' rfl)
        fun v' h'' tk'' hP' hk'' => ?_⟩
      · exact (Heap.get?_update_other _ _ (fun h : S = b => hSf (by rw [h]; exact hbf))).trans e
      · exact hR v' h'' tk'' hP' fun b o hbw hbS e => hk'' b o hbw hbS ((Heap.get?_update_other _ _ (Ne.symm hbS)).trans (hk' b o (nw hbw) e))
    | false =>
      simp only [Bool.false_eq_true, if_false]
      refine wpAny_bind (wpAny_letGo ?_)
      rw [hname]
      refine wpAny_pure ⟨plainId_quiet PySem.F.plain_max_loop _, ih (j + 1) _ vb c (by omega) hlt hK' hst' (by simp only [argBest, hb, Bool.false_eq_true, if_false]; exact hPb) hS' fun v' h'' tk'' hP' hk'' => ?_⟩
      exact hR v' h'' tk'' hP' fun b o hbw hbS e => hk'' b o hbw hbS (hk' b o (nw hbw) e)
end
section
variable {prog : Program} {w : World} {A : Around} {E : Value → Shared → Prop} {s : Shared}
/-- the greatest of a list of lists of texts -/
theorem maxRows {l : Addr} {vs : List Value} {rows : List (List Str)} {Q : Value → Shared → Prop} (hh : A.handled = none) (hl : s.heap.IsList l vs.toArray) (hr : RowsAre s.heap vs rows) (hn : 0 < rows.length) (hu : A.units + 64 < cLine)
    (h : ∀ v h' tk, vs[argBest (fun i j => ltL (rows.getD j []) (rows.getD i [])) (rows.length - 1)]? = some v → Kept s.heap h' → Q v { s with heap := h', toks := tk }) :
    wpAny (model prog w) A (call (.builtin "max") [.ref l]) Q E s := by
  have hname : (toString "max" ++ toString ".loop" : String) = "max.loop" := by decide
  refine call_function_tree PySem.F.kind_max PySem.F.plain_max PySem.F.entry_max (PySem.F.args_max1 _) ?_
  show wpAny _ A.in1 (Builtin.Builtins.bindParams "max" ["key", "default"] 0 ⟨[], []⟩ >>= _) _ _ s
  refine wpAny_bind (wpAny_of_eq (show Builtin.Builtins.bindParams "max" ["key", "default"] 0 ⟨[], []⟩ = pure [none, none] from rfl) ?_)
  refine wpAny_bind (wpAny_pure ?_)
  refine wpAny_bind (wpAny_pyIter_list hl ?_)
  refine wpAny_bind (wpAny_newObj_type ?_)
  rw [hname]
  have hlt : l < s.heap.objs.size := by obtain ⟨o, e, _⟩ := hl; exact Heap.lt_size e
  have W := Walks.list (prog := prog) (w := w) (A := A.in1) hh s.heap.objs.size l (Nat.ne_of_lt hlt) vs.toArray
  have hz : vs.toArray.size = vs.length := by simp
  rw [hz, hr.len] at W
  have hSz : (s.heap.push { cls := .type "list_iterator", data := .fields #[.ref l, .int 0 0] }).objs.size = s.heap.objs.size + 1 := Heap.size_push ..
  have gI : s.heap.get? s.heap.objs.size = none := Heap.get?_none_of_le (Nat.le_refl _)
  have gS : s.heap.get? (s.heap.push { cls := .type "list_iterator", data := .fields #[.ref l, .int 0 0] }).objs.size = none := Heap.get?_none_of_le (by rw [hSz]; exact Nat.le_succ _)
  have hSf : (s.heap.push { cls := .type "list_iterator", data := .fields #[.ref l, .int 0 0] }).objs.size ∉ [s.heap.objs.size, l] := by
    rw [hSz]
    intro hm
    rcases List.mem_cons.mp hm with e | hm
    · exact absurd e (Nat.ne_of_gt (Nat.lt_succ_self _))
    · have := List.mem_singleton.mp hm
      rw [← this] at hlt
      exact absurd hlt (Nat.not_lt.mpr (Nat.le_succ _))
  have hcmp : ∀ i j vi vj (s' : Shared) (Q : Value → Shared → Prop) (E : Value → Shared → Prop), Kept s.heap s'.heap → vs.toArray[i]? = some vi → vs.toArray[j]? = some vj → Q (.bool (ltL (rows.getD j []) (rows.getD i []))) s' → wpAny (model prog w) A.in1 (richCompare .Gt vi vj) Q E s' := by
    intro i j vi vj s' Q E hK hvi hvj hQ
    obtain ⟨a, wa, na, ra, rfl, hra, ga, sa⟩ := hr.item (by simpa using hvi)
    obtain ⟨b, wb, nb, rb, rfl, hrb, gb, sb⟩ := hr.item (by simpa using hvj)
    have e1 : rows.getD i [] = ra := by rw [List.getD_eq_getElem?_getD, hra]; rfl
    have e2 : rows.getD j [] = rb := by rw [List.getD_eq_getElem?_getD, hrb]; rfl
    rw [e1, e2] at hQ
    exact gtLists (hK _ _ ga) (hK _ _ gb) sa sb (by rw [units_in1]; omega) hQ
  have hl2 : ((s.heap.push { cls := .type "list_iterator", data := .fields #[.ref l, .int 0 0] }).push { cls := .type "list", data := .seq ([] : List Value).toArray }).IsList l vs.toArray := hl.at fun o e => Heap.get?_push_of_some _ (Heap.get?_push_of_some _ e)
  have K2 : Kept s.heap ((s.heap.push { cls := .type "list_iterator", data := .fields #[.ref l, .int 0 0] }).push { cls := .type "list", data := .seq ([] : List Value).toArray }) := fun b o e => Heap.get?_push_of_some _ (Heap.get?_push_of_some _ e)
  have hS := Heap.get?_push_size (s.heap.push { cls := .type "list_iterator", data := .fields #[.ref l, .int 0 0] }) (o := ({ cls := .type "list", data := .seq ([] : List Value).toArray } : Obj)) rfl
  refine wpAny_pure ⟨plainId_quiet PySem.F.plain_max_loop _, ?_⟩
  refine codeAny_builtin PySem.F.entry_max_loop ?_
  rw [Around.under_plainId PySem.F.plain_max_loop _]
  show wpAny _ A.in1 (seqItems? (.ref _) >>= _) _ _ _
  refine wpAny_bind (wpAny_seqItems hS rfl ?_)
  show wpAny _ A.in1 (tryCatch (pyNext (.ref s.heap.objs.size)) _ >>= _) _ _ _
  refine wpAny_bind (wpAny_tryCatch (W.item 0 _ _ _ hn ⟨⟨_, Heap.get?_push_of_some _ (Heap.get?_push_size _ rfl), rfl, rfl⟩, hl2⟩ fun v h' tk hP hst' hk' => ?_))
  have hSI : (s.heap.push { cls := .type "list_iterator", data := .fields #[.ref l, .int 0 0] }).objs.size ≠ s.heap.objs.size := by rw [hSz]; exact Nat.ne_of_gt (Nat.lt_succ_self _)
  have hS' := hk' _ _ (fun q => hSI (List.mem_singleton.mp q)) hS
  show wpAny _ A.in1 (updateSeq _ (fun _ => #[v, v]) >>= _) _ _ _
  refine wpAny_bind ?_
  refine wpAny_updateSeq hS' rfl ?_
  rw [hname]
  have hK3 : Kept s.heap h' := fun b o e => hk' b o (fun q => by rw [List.mem_singleton.mp q, gI] at e; cases e) (K2 b o e)
  refine wpAny_pure ⟨plainId_quiet PySem.F.plain_max_loop _, max_loopK (hB := s.heap) W _ hcmp _ hSf gI gS _ 0 _ v _ rfl hn (fun b o e => ?_) (W.frame _ _ _ hst' fun b hbf o e => ?_) hP (Heap.get?_update_self _ hS' rfl) fun v' h'' tk'' hP' hk'' => ?_⟩
  · exact (Heap.get?_update_other _ _ (fun q => by rw [← q, gS] at e; cases e)).trans (hK3 b o e)
  · exact (Heap.get?_update_other _ _ (fun q => hSf (by rw [q]; exact hbf))).trans e
  · refine h v' h'' tk'' (by simpa using hP') fun b o e => hk'' b o (fun q => by rw [q, gI] at e; cases e) (fun q => by rw [q, gS] at e; cases e) ?_
    exact (Heap.get?_update_other _ _ (fun q => by rw [← q, gS] at e; cases e)).trans (hK3 b o e)
end
end
section
open PySem PySem.W PyProof.Rows PySem.Calls PySem.Spec PySem.SeqAt
set_option maxHeartbeats 1000000
section
variable {prog : Program} {w : World} {A : Around} {E : Value → Shared → Prop} {s : Shared} {h₀ : Heap} {L l : Addr} {m : Str → Option Value} {news : List (Addr × Obj)} {vs : List Value} {xs : List Str} {k : Int} {u : Tok} {value slice : PySem.Expr} {x : Value} {Q : Value → Shared → Prop}
theorem listKept {h : Heap} {its : Array Value} (F : Fr h₀ L h m) (hl : h₀.IsList l its) : h.IsList l its := let ⟨o, ho, r⟩ := hl; ⟨o, F.keep _ _ ho, r⟩
/-- an item of a list that stood before the call -/
theorem itemB (F : Fr h₀ L s.heap m) (hl : h₀.IsList l vs.toArray) (h0 : 0 ≤ k) (hfit : k < 2 ^ 63) (hx : vs[k.toNat]? = some x) (h : Q x s)
    (hs : subscripted slice false (.ref l) (.int k u) = operate [.ref l, .int k u] (getItem (.ref l) (.int k u)) := by with_unfolding_all rfl) (hg : ∀ r, letTemporaryGo value (.ref l) r = pure () := by intro _; with_unfolding_all rfl) :
    wpAny (model prog w) A (subscriptTail value slice (.ref l) (.int k u)) Q E s :=
  item_listL (listKept F hl) h0 hfit hx h hs hg
theorem lenB (F : Fr h₀ L s.heap m) (hl : h₀.IsList l vs.toArray) (hi : StrsAre vs xs) (hz : xs.length ≤ 200000) (h : ∀ t k, Q (.int xs.length t) { s with toks := k }) :
    wpAny (model prog w) A (call (.builtin "len") [.ref l]) Q E s :=
  len_strsA (listKept F hl) hi (by omega) (h _ _)
theorem neNil0 {a b : Addr} (ha : s.heap.IsList a ([] : List Value).toArray) (hb : s.heap.IsList b ([] : List Value).toArray) (hu : A.units + 64 < cLine) (h : Q (.bool false) s) :
    wpAny (model prog w) A (compareOp .NotEq (.ref a) (.ref b)) Q E s :=
  neStrs ha hb .nil .nil hu (by simpa using h)
theorem neNil1 {a b : Addr} {y : Value} {r : List Value} (ha : s.heap.IsList a (y :: r).toArray) (hb : s.heap.IsList b ([] : List Value).toArray) (hu : A.units + 64 < cLine) (h : Q (.bool true) s) :
    wpAny (model prog w) A (compareOp .NotEq (.ref a) (.ref b)) Q E s :=
  RcNeAt.lists_lengths ha hb (by simp) (by omega) prog w E Q h
end
/-- all rows begin alike, k items long -/
def AllEq (rows : List (List Str)) (r0 : List Str) (k : Nat) : Prop := ∀ r ∈ rows, r.take k = r0.take k
end
section
set_option maxHeartbeats 4000000
theorem fillC2 : (P0 = P0) ∧ K0 = K0 := by
  w_top off
  k_with_none
  (k_with "call builtin:issubclass" => ((with_reducible show wpAny _ _ (call (Value.builtin "issubclass") [Value.type "str", Value.ref _]) _ _ _); k_dflt (refine issub_str (by exact News.get (by k_asm) (by k_mem)) ?_; k_whole)))
  (k_with "mine contract" => (k_dflt ((case ho => k_is); (case hcd => k_is); (case hbind => intro s; exact BindsTo.of_eq rfl); (case hcell => decide); (case hloc => exact locs rfl); (case hco => exact rfl); (case hgen => exact rfl); (case hk => exact rfl)); intro mean mg mb h₀ ge dr tk os dp un fr gd L h₁ X T hdp hun pre F N; (try dsimp only); (try k_fold); k_steps))
  (k_with "mine room" => (simp only [Around.deeper, Around.in1, Ar] at *; omega))
  (k_with "mine use" => ((case k1 => k_asm); (case k2 => k_asm); (case k3 => k_asm); (case k4 => k_asm); (case k5 => exact rfl); (case k6 => walk_at "mine room"); (case k7 => walk_at "mine room")))
  (k_with "call ref" => ((with_reducible show wpAny _ _ (call (Value.ref 101) [Value.str _ _]) _ _ _); k_dflt (refine' use (fspath_c _ _ _) (by k_asm) (by k_asm) (by k_asm) (by k_asm) (by exact rfl) (by walk_at "mine room") (by walk_at "mine room") trivial ?_; k_whole); intro r' h' tk' F' N' kp' po'; subst po'; clear kp'; (try k_sweep); (try dsimp only)))
  (k_with "call ref" => ((with_reducible show wpAny _ _ (call (Value.ref 115) [Value.str _ _]) _ _ _); k_dflt (refine' use (getsep_c _ _ _) (by k_asm) (by k_asm) (by k_asm) (by k_asm) (by exact rfl) (by walk_at "mine room") (by walk_at "mine room") trivial ?_; k_whole); intro r' h' tk' F' N' kp' po'; obtain ⟨t', po'⟩ := po'; subst po'; clear kp'; (try k_sweep); (try dsimp only)))
  (k_with "call ref" => ((with_reducible show wpAny _ _ (call (Value.ref 28) [Value.str _ _]) _ _ _); k_dflt (refine use (strip_c _ _ _ (by walk_at "mine len")) (by k_asm) (by k_asm) (by k_asm) (by k_asm) (by exact rfl) (by walk_at "mine room") (by walk_at "mine room") trivial ?_; k_whole); intro r' h' tk' F' N' kp' po'; obtain ⟨t', po'⟩ := po'; subst po'; clear kp'; (try k_sweep); (try dsimp only)))
  (k_with "mine len" => first | with_reducible assumption | omega | assumption)
  (k_with "mine contract0" => (k_dflt ((case ho => k_is); (case hcd => k_is); (case hbind => intro s; exact BindsTo.of_eq rfl); (case hcell => decide); (case hloc => exact locs rfl); (case hco => exact rfl); (case hgen => exact rfl); (case hk => exact rfl))))
  (k_with "truthy ref" => ((with_reducible show wpAny _ _ (truthy (Value.ref _)) _ _ _); k_dflt (refine truthyL (by k_asm) (by k_mem) (by walk_at "mine len") ?_ ?_) <;> (k_whole; intro hT'; (try dsimp only))))
  (k_with "call builtin:list.append" => ((with_reducible show wpAny _ _ (call (Value.builtin _) [Value.ref _, _]) _ _ _); k_dflt (refine appendL (by k_asm) (by k_asm) (by k_upd) (by walk_at "mine len") ?_; k_whole); intro h' F' N'; (try k_sweep)))
  (k_with "call builtin:list.pop" => ((with_reducible show wpAny _ _ (call (Value.builtin _) [Value.ref _]) _ _ _); k_dflt (refine popL (by k_asm) (by k_asm) (by k_upd) (by assumption) (by walk_at "mine len") ?_; k_whole); intro v' h' F' N'; (try k_sweep)))
  (k_with "call builtin:list.insert" => ((with_reducible show wpAny _ _ (call (Value.builtin _) [Value.ref _, Value.int 0 _, _]) _ _ _); k_dflt (refine insertL (by k_asm) (by k_asm) (by k_upd) (by walk_at "mine len") ?_; k_whole); intro h' F' N'; (try k_sweep)))
  (k_with "subscriptTail" => ((show wpAny _ _ (subscriptTail _ _ (Value.ref _) (Value.int (-1) _)) _ _ _); k_dflt (refine lastL (by k_asm) (by k_mem) (by assumption) (by assumption) ?_; k_whole); intro y' t' hl'; (try dsimp only)))
  (k_with "call builtin:str.join" => ((with_reducible show wpAny _ _ (call (Value.builtin _) [Value.str _ _, Value.ref _]) _ _ _); k_dflt (refine joinL (by k_asm) (by k_mem) (by k_asm) (by walk_at "mine len") ?_; k_whole); intro t' k'; (try dsimp only)))
  (k_with "call ref" => ((with_reducible show wpAny _ _ (call (Value.ref 129) [Value.str _ _]) _ _ _); k_dflt (refine useN (split_c _ _ _ (by walk_at "mine len")) (by k_asm) (by k_asm) (by k_asm) (by k_asm) (by exact rfl) (by walk_at "mine room") (by walk_at "mine room") trivial ?_; k_whole); intro l' o' h' tk' F' N' l1 kp' po'; obtain ⟨t1', t2', po'⟩ := po'; subst po'; clear kp'; (try simp only [AllNe, and_true] at l1); (try k_sweep); (try dsimp only)))
  (k_with "exec While Compare cons nil" => (refine hold ?_))
  (k_with "exec For" => ((with_reducible show wpAny _ _ (exec (Stmt.For (Expr.Tuple _ _ _) _ _ [] _) _) _ _ _); refine for_at ?_))
  (k_with "exec For Tuple" => ((with_reducible show wpAny _ _ (exec (Stmt.For (Expr.Tuple _ _ _) _ _ [] _) _) _ _ _); refine for_at ?_))
  (k_with "mine contractC0" => (k_dflt ((case ho => k_is); (case hcd => k_is); (case hbind => intro s; exact BindsTo.of_eq rfl); (case hkind => exact rfl); (case hnd => decide); (case hco => exact rfl); (case hgen => exact rfl); (case hk => exact rfl))))
  k_fill
  exact ⟨rfl, rfl⟩

set_option maxHeartbeats 400000
theorem wordsC21 : True := by
  (k_with "CompSrcT" => (refine hold ?_))
  (k_with "CompEnd" => (refine hold ?_))
  (k_with "CompSrc" => (refine hold ?_))
  (k_with "mine units" => ((have hcL9 := cLine_is); (simp only [Around.deeper, Around.in1, Ar] at *; omega)))
  (k_with "subscriptTail Name Constant ref int" => ((with_reducible show wpAny _ _ (subscriptTail _ _ (Value.ref _) (Value.int _ _)) _ _ _); k_dflt (refine itemB (by k_asm) (by assumption) (by decide) (by decide) (by assumption) ?_; k_whole)))
  (k_with "mine take" => ((with_reducible show wpAny _ _ (subscriptTail _ (PySem.Expr.Slice none (some _) none _) (Value.ref _) (Value.ref _)) _ _ _); k_dflt (refine takeL (by k_asm) (by k_asm) (by exact listKept (by k_asm) (by assumption)) (by exact IsPart.int _ _) (by omega) ?_ (by with_unfolding_all rfl) (by (intro _; with_unfolding_all rfl)) (by assumption); k_whole); intro D' h' F' N' l1; (try k_lt l1); (try k_sweep)))
  (k_with "subscriptTail Name Slice ref ref" => walk_at "mine take")
  (k_with "subscriptTail" => walk_at "mine take")
  (k_with "compareOp NotEq ref ref" => (k_dflt (first
    | (refine neNil0 (by exact News.isList (by k_asm) (by k_mem)) (by exact News.isList (by k_asm) (by k_mem)) (by walk_at "mine units") ?_; k_whole)
    | (refine neNil1 (by exact News.isList (by k_asm) (by k_mem)) (by exact News.isList (by k_asm) (by k_mem)) (by walk_at "mine units") ?_; k_whole)
    | (refine neStrs (by exact News.isList (by k_asm) (by k_mem)) (by exact News.isList (by k_asm) (by k_mem)) (by exact strs_take (by assumption) _) (by exact strs_take (by assumption) _) (by walk_at "mine units") ?_; k_whole))))
  (k_with "call builtin:len" => ((with_reducible show wpAny _ _ (call (Value.builtin "len") [Value.ref _]) _ _ _); k_dflt (refine lenB (by k_asm) (by assumption) (by assumption) (by walk_at "mine len") ?_; k_whole); intro t' k'; (try dsimp only)))
  trivial
theorem common_c (w : World) (rl : Addr) (rvs : List Value) (rows : List (List Str)) (r0 : List Str) (h0 : rows[0]? = some r0) (hz : rows.length ≤ 100) (hz0 : ∀ r ∈ rows, r.length ≤ 1000) :
    Contract w 174 3 [.ref rl] (fun h => ∃ n, h.get? rl = some (W.listOf rvs.toArray n) ∧ RowsAre h rvs rows) (fun h rv h' => ∃ l o, rv = .ref l ∧ h.get? l = none ∧ h'.get? l = some o ∧ ∃ ws n k, o = W.listOf ws.toArray n ∧ StrsAre ws (r0.take k) ∧ k ≤ r0.length ∧ AllEq rows r0 k ∧ (∀ k', k < k' → k' ≤ r0.length → ¬ AllEq rows r0 k')) := by
  k_dflt (refine' contractC (binds := [(Str.ofString "rows", .ref rl)]) ?ho ?hcd ?hbind ?hkind ?hnd ?hco ?hgen ?hk ?_)
  walk_at "mine contractC0"
  intro mean mg mb h₀ ge dr tk os dp un fr gd L h₁ cells X T hdp hun pre F N Y
  obtain ⟨nt, hl, hR⟩ := pre
  have hL : h₀.IsList rl rvs.toArray := ⟨_, hl, rfl, nt, rfl⟩
  have hv0 : ∃ v, rvs[0]? = some v := by
    have := (List.getElem?_eq_some_iff.mp h0).1
    exact ⟨_, List.getElem?_eq_getElem (by rw [hR.len]; exact this)⟩
  obtain ⟨v0, hv0⟩ := hv0
  obtain ⟨a0, ws0, n0, row0, rfl, hr0, ha0, hs0⟩ := hR.item hv0
  have e0 : row0 = r0 := Option.some.inj (hr0.symm.trans h0)
  subst e0
  have hA0 : h₀.IsList a0 ws0.toArray := ⟨_, ha0, rfl, n0, rfl⟩
  have hx0 : rvs[Int.toNat 0]? = some (.ref a0) := hv0
  have hz1 : row0.length ≤ 200000 := Nat.le_trans (hz0 _ (List.mem_of_getElem? hr0)) (by decide)
  have hz2 : ws0.length ≤ 200000 := by rw [strs_len hs0]; exact hz1
  have hrl := hR.len
  obtain ⟨oS0, oR0, hE, dS0, dR0⟩ := CellsAre.two Y
  subst hE
  clear Y
  replace dR0 : oR0.data = Data.cell (some (Value.ref rl)) := dR0
  replace dS0 : oS0.data = Data.cell none := dS0
  (try dsimp only); (try k_fold)
  k_steps
  refine held ?_
  (rename Fr _ _ _ _ => F9); (rename News _ _ _ _ => N9)
  rename (Obj.data _ = Data.cell (some (Value.int _ _))) => dS
  refine whileJ (fun k m nx => ∃ oS oR t, k ≤ row0.length ∧ (∀ k', k < k' → k' ≤ row0.length → ¬ AllEq rows row0 k') ∧ nx = [(L + 1 + 1, oS), (L + 1, oR)] ∧ oS.data = .cell (some (.int k t)) ∧ oR.data = .cell (some (.ref rl))) row0.length F9 N9 ⟨_, _, _, Nat.le_refl _, fun k' h1 h2 => absurd h1 (Nat.not_lt.mpr h2), rfl, dS, dR0⟩ ?_
  clear F9 N9 dS dR0
  intro k m nx h tk hJ (F1 : Fr h₀ L h _) (N1 : News h₀ L h _)
  obtain ⟨oS, oR, tS, hk1, hk2, rfl, dS, dR⟩ := hJ
  (try k_fold)
  k_steps
  refine held ?_
  k_dflt (refine LCt.CompSrcT.base (by rfl) (by k_asm) (by k_asm) (by assumption) (by rw [List.size_toArray, sizeLine_eq]; omega) ?_)
  intro g'
  refine compRestTJ (fun i ys nx => nx = [(L + 1 + 1, oS), (L + 1, oR)] ∧ (ys = [] ↔ ∀ j r, j < i → rows[j]? = some r → r.take k = row0.take k)) ⟨rfl, by simp⟩ ?_ ?_
  · intro i ys nx v I oI C oC D m₂ h tk E' hi hJ hv hC hx (F1 : Fr h₀ L h _) (N1 : News h₀ L h _) off ne
    obtain ⟨rfl, hys⟩ := hJ
    obtain ⟨a, ws, n, row, rfl, hrow, ha, hs⟩ := hR.item (by simpa using hv)
    have hA : h₀.IsList a ws.toArray := ⟨_, ha, rfl, n, rfl⟩
    have hz3 : ws.length ≤ 200000 := by rw [strs_len hs]; exact Nat.le_trans (hz0 _ (List.mem_of_getElem? hrow)) (by decide)
    have off0 := off
    simp only [LCg.Off3, and_true] at off
    (try k_fold)
    k_steps
    · refine held ?_
      (rename Fr _ _ _ _ => F8); (rename News _ _ _ _ => N8)
      rename (List.take (Int.toNat _) row = List.take (Int.toNat _) row0) => hcmp
      rw [Int.toNat_natCast] at hcmp
      refine LCg.CompEnd.intro F8 N8 [(L + 1 + 1, oS), (L + 1, oR)] (by lcg_sub) off0 (.inl hL) ⟨rfl, hys.trans ⟨fun hh j r hj hr => ?_, fun hh j r hj hr => hh j r (by omega) hr⟩⟩
      rcases Nat.lt_or_ge j i with h1 | h1
      · exact hh j r h1 hr
      · have : j = i := by omega
        subst this
        rw [hrow] at hr
        cases hr
        exact hcmp
    · refine held ?_
      (rename Fr _ _ _ _ => F8); (rename News _ _ _ _ => N8)
      rename (¬ List.take (Int.toNat _) row = List.take (Int.toNat _) row0) => hcmp
      rw [Int.toNat_natCast] at hcmp
      refine LCg.CompEnd.intro F8 N8 [(L + 1 + 1, oS), (L + 1, oR)] (by lcg_sub) off0 (.inl hL) ⟨rfl, ⟨fun hh => absurd hh (by simp), fun hh => absurd (hh i row (Nat.lt_succ_self _) hrow) hcmp⟩⟩
  · intro ys nx hJ
    obtain ⟨rfl, hys⟩ := hJ
    have hall : (∀ j r, j < rvs.toArray.size → rows[j]? = some r → r.take k = row0.take k) ↔ AllEq rows row0 k := by
      constructor
      · intro hh r hr
        obtain ⟨j, hj, e⟩ := List.getElem_of_mem hr
        exact hh j r (by rw [List.size_toArray, hrl]; exact hj) (by rw [List.getElem?_eq_getElem hj, e])
      · intro hh j r _ hr
        exact hh r (List.mem_of_getElem? hr)
    rw [hall] at hys
    clear hall
    rcases ys with _ | ⟨y, r⟩
    · k_steps
      refine Back.intro (by assumption) ⟨_, _, rfl, News.fresh (by assumption) (by k_mem), News.get (by assumption) (by k_mem), _, 0, k, rfl, strs_take hs0 k, hk1, hys.mp rfl, hk2⟩
    · k_steps
      (rename Fr _ _ _ _ => F8); (rename News _ _ _ _ => N8)
      rename (Obj.data _ = Data.cell (some (Value.int _ _))) => dS'
      have hne : ¬ AllEq rows row0 k := fun hh => absurd (hys.mpr hh) (by simp)
      have hk0 : k ≠ 0 := fun e => hne (by rw [e]; intro r _; rfl)
      have ek : ((k : Int) - 1) = ((k - 1 : Nat) : Int) := by omega
      rw [ek] at dS'
      refine ⟨k - 1, _, _, _, [(L + 1 + 1, _), (L + 1, oR)], by omega, rfl, F8, fun p hp => N8 p (.tail _ (.tail _ hp)), _, _, _, by omega, fun k' h1 h2 => ?_, rfl, dS', dR⟩
      rcases Nat.lt_or_ge k k' with h3 | h3
      · exact hk2 k' h3 h2
      · have : k' = k := by omega
        rw [this]; exact hne
end
section
open PySem PySem.W PyProof.Rows PySem.Calls PySem.Spec PySem.SeqAt
open PySem.AutoSeq1 (wpAny_loadPart')
set_option maxHeartbeats 1000000
theorem owner_map : Manifest.owners.lookup (String.ofList ['p', 'a', 'm'].reverse) = some Manifest.sig_map := by kernel_rfl
theorem slot_map_next : Slot "map" "__next__" "map.__next__" :=
  .of (owner := "map") (n := "__next__") (by rw [typeLookup_type, builtinLookup_eq_fast]; kernel_rfl) (by decide +kernel) (by decide +kernel) (by decide +kernel)
    (by first | exact .inl (by decide +kernel) | exact .inr (by decide +kernel)) (by rw [isSubtype_type]; kernel_rfl)
theorem slot_map_iter : Slot "map" "__iter__" "map.__iter__" :=
  .of (owner := "map") (n := "__iter__") (by rw [typeLookup_type, builtinLookup_eq_fast]; kernel_rfl) (by decide +kernel) (by decide +kernel) (by decide +kernel)
    (by first | exact .inl (by decide +kernel) | exact .inr (by decide +kernel)) (by rw [isSubtype_type]; kernel_rfl)
theorem slot_map_init : Slot "map" "__init__" "object.__init__" :=
  .of (owner := "object") (n := "__init__") (by rw [typeLookup_type, builtinLookup_eq_fast]; kernel_rfl) (by decide +kernel) (by decide +kernel) (by decide +kernel)
    (by first | exact .inl (by decide +kernel) | exact .inr (by decide +kernel)) (by rw [isSubtype_type]; kernel_rfl)
theorem entry_map_next : entryFor table "map.__next__" = some Builtin.«map.__next__» := entryFor_of_tree (by kernel_rfl)
theorem entry_map_new : entryFor table "map.__new__" = some Builtin.«map.__new__» := entryFor_of_tree (by kernel_rfl)
theorem entry_map_iter : entryFor table "map.__iter__" = some Builtin.«dict_keyiterator.__iter__» :=
  entryFor_alias (id' := "dict_keyiterator.__iter__") (by kernel_rfl) (by first | rfl | decide +kernel | (unfold String.splitOn; simp +decide [String.splitOnAux])) (by decide +kernel) (by kernel_rfl)
theorem args_map_next (a : Value) : argsOk "map.__next__" ⟨[a], []⟩ := by
  unfold argsOk; rw [signature?_of (id := "map.__next__") (n := ['_', '_', 't', 'x', 'e', 'n', '_', '_']) (o := ['p', 'a', 'm']) (by kernel_rfl) owner_map]; kernel_rfl
theorem args_map_iter (a : Value) : argsOk "map.__iter__" ⟨[a], []⟩ := by
  unfold argsOk; rw [signature?_of (id := "map.__iter__") (n := ['_', '_', 'r', 'e', 't', 'i', '_', '_']) (o := ['p', 'a', 'm']) (by kernel_rfl) owner_map]; kernel_rfl
theorem mro_map : mroOf (.type "map") = pure [.type "map", .type "object"] := by rw [mroOf_type]; kernel_rfl
theorem lookup_map_new : typeLookup (.type "map") "__new__" = pure (some (.builtin "map.__new__")) := by rw [typeLookup_type, builtinLookup_eq_fast]; kernel_rfl
theorem called_map : TypeCalled "map" "map.__new__" "object.__init__" :=
  ⟨by decide +kernel, by decide +kernel, ⟨_, _, mro_map⟩, madeBy_type mro_map lookup_map_new (by decide +kernel), by decide +kernel, by rw [isSubtype_type]; kernel_rfl, slot_map_init⟩
theorem typeCall_map (a b : Value) : checkTypeCall "map" ⟨[a, b], []⟩ = pure () := by kernel_rfl
theorem newCall_map (a b : Value) : checkBuiltinCall "map.__new__" ⟨[.type "map", a, b], []⟩ = pure () := by kernel_rfl
theorem args_init3 (o a b : Value) : argsOk "object.__init__" ⟨[o, a, b], []⟩ := by unfold argsOk; kernel_rfl
theorem nolen_map : typeLookup (.type "map") "__len__" = pure none := by rw [typeLookup_type, builtinLookup_eq_fast]; kernel_rfl
theorem nohint_map : typeLookup (.type "map") "__length_hint__" = pure none := by rw [typeLookup_type, builtinLookup_eq_fast]; kernel_rfl
theorem sub_map : isSubtype (.type "map") (.type "map") = pure true := by rw [isSubtype_type]; kernel_rfl

abbrev mapObj (T : Addr) (f : Value) : Obj := { cls := .type "map", data := .fields #[.ref T, f] }
abbrev itObj (l : Addr) (i : Nat) : Obj := { cls := .type "list_iterator", data := .fields #[.ref l, .int i 0] }
theorem meets_map_new (l : Addr) (items : Array Value) (n : Nat) (f : Value) :
    Meets (Builtin.«map.__new__» ⟨[.type "map", f, .ref l], []⟩) (fun _ R s => s.heap.get? l = some { cls := .type "list", dict := none, data := .seq items n, slots := #[] } ∧
      R (.ok (.ret (.ref ((s.heap.push (itObj l 0)).push (tupO [.ref s.heap.objs.size])).objs.size)))
        { s with heap := ((s.heap.push (itObj l 0)).push (tupO [.ref s.heap.objs.size])).push (mapObj (s.heap.push (itObj l 0)).objs.size f) }) :=
  .of_wp fun prog w A R s h => by
    obtain ⟨hp, g, d, tk, os⟩ := s; obtain ⟨hl, h⟩ := h
    have hsub := sub_map
    have hL : Heap.IsList (Shared.heap ⟨hp, g, d, tk, os⟩) l items := ⟨_, hl, rfl, n, rfl⟩
    wp_walk using wpAny_loadPart' hl, wpAny_pyIter_list hL
    exact ⟨_, rfl, h⟩
end
section
open PySem PySem.W PyProof.Rows PySem.Calls PySem.Spec PySem.SeqAt
open PySem.AutoSeq1 (wpAny_loadPart')
set_option maxHeartbeats 1000000
section
variable {prog : Program} {w : World} {A : Around} {E : Value → Shared → Prop} {s : Shared}
theorem pyIter_map {M T : Addr} {f : Value} {Q : Value → Shared → Prop} (hM : s.heap.get? M = some (mapObj T f)) (h : Q (.ref M) s) : wpAny (model prog w) A (pyIter (.ref M)) Q E s := by
  have hT : s.TypeIs (.ref M) "map" := ⟨_, hM, rfl⟩
  refine wpAny_pyIter_slot hT slot_map_iter (wpAny_call_entry slot_map_iter hT entry_map_iter ?_ (args_map_iter _))
  show wpAny _ _ (ret (.ref M)) _ _ s
  exact wpAny_pure ⟨_, rfl, "map", _, hT, slot_map_next.lookup, h⟩

theorem map_item {M T I l : Addr} {f : Value} {i : Nat} {items : Array Value} {x : Value} {Q : Option Value → Shared → Prop}
    (hM : s.heap.get? M = some (mapObj T f)) (hT : s.heap.get? T = some (tupO [.ref I])) (hit : s.heap.IsListIter I l i) (hl : s.heap.IsList l items) (hx : items[i]? = some x) (hMI : M ≠ I)
    (hf : ∀ h', Heap.SameBut I s.heap h' → h'.IsListIter I l (i + 1) → wpAny (model prog w) A.in1 (call f [x]) (fun y s' => Q (some y) s') (fun _ _ => False) { s with heap := h' }) :
    wpAny (model prog w) A (pyNext (.ref M)) Q E s := by
  have hTy : s.TypeIs (.ref M) "map" := ⟨_, hM, rfl⟩
  unfold pyNext
  refine wpAny_bind (wpAny_attempt (wpAny_callSpecial?_slot (name := Str.ofString "__next__") hTy slot_map_next
    (wpAny_call_entry slot_map_next hTy entry_map_next ?_ (args_map_next _))))
  show wpAny _ _ (field (.ref M) 0 >>= _) _ _ s
  refine wpAny_bind (wpAny_field hM rfl (x := .ref T) rfl ?_)
  refine wpAny_bind (wpAny_seqItems hT rfl ?_)
  dsimp only
  refine wpAny_bind ?_
  rw [← Array.forIn_toList]
  show wpAny _ _ (forIn [Value.ref I] _ _) _ _ _
  rw [List.forIn_cons]
  refine wpAny_bind (wpAny_bind (wpAny_holding (wpAny_nextOf_list_item hit hl hx fun h' hit' hs' => ?_)))
  refine wpAny_pure ?_
  dsimp only
  rw [List.forIn_nil]
  refine wpAny_pure ?_
  have hM' : h'.get? M = some (mapObj T f) := (hs'.2 M hMI).trans hM
  show wpAny _ _ (field (.ref M) 1 >>= _) _ _ { s with heap := h' }
  refine wpAny_bind (wpAny_field hM' rfl (x := f) rfl ?_)
  refine wpAny_bind (wpAny_holding (wpAny_mono (hf h' hs' hit') (fun y s' hq => ?_) fun _ _ e => e.elim))
  refine wpAny_bind (wpAny_letGo ?_)
  refine wpAny_pure ⟨y, rfl, wpAny_pure hq⟩
theorem map_end {M T I l : Addr} {f : Value} {i : Nat} {items : Array Value} {Q : Option Value → Shared → Prop} (hh : A.handled = none)
    (hM : s.heap.get? M = some (mapObj T f)) (hT : s.heap.get? T = some (tupO [.ref I])) (hit : s.heap.IsListIter I l i) (hl : s.heap.IsList l items) (hx : items[i]? = none)
    (hQ : ∀ h', Heap.ExtBut I s.heap h' → Q none { s with heap := h' }) :
    wpAny (model prog w) A (pyNext (.ref M)) Q E s := by
  have hTy : s.TypeIs (.ref M) "map" := ⟨_, hM, rfl⟩
  unfold pyNext
  refine wpAny_bind (wpAny_attempt (wpAny_callSpecial?_slot (name := Str.ofString "__next__") hTy slot_map_next
    (wpAny_call_entry slot_map_next hTy entry_map_next ?_ (args_map_next _))))
  show wpAny _ _ (field (.ref M) 0 >>= _) _ _ s
  refine wpAny_bind (wpAny_field hM rfl (x := .ref T) rfl ?_)
  refine wpAny_bind (wpAny_seqItems hT rfl ?_)
  dsimp only
  refine wpAny_bind ?_
  rw [← Array.forIn_toList]
  show wpAny _ _ (forIn [Value.ref I] _ _) _ _ _
  rw [List.forIn_cons]
  refine wpAny_bind (wpAny_bind (wpAny_holding (wpAny_nextOf_list_end hh hit hl hx fun h' e he hst => ?_)))
  obtain ⟨o, ho, hoc⟩ := hst
  refine wpAny_bind (wpAny_isInstance (T := "StopIteration") (b := true) ⟨o, ho, hoc⟩ isSubtype_stop ?_)
  rw [if_pos rfl]
  exact wpAny_pure (hQ h' he)
end

-- what `collect` leaves of a map over a list, when f hands each on
section
variable {prog : Program} {w : World} {A : Around} {R : Result → Shared → Prop} {hB : Heap} {M T I l S : Addr} {f : Value} {vs : List Value}
theorem ext_loop_map (hh : A.handled = none) (hn : vs.length ≤ sizeLine) (hM0 : hB.get? M = some (mapObj T f)) (hT0 : hB.get? T = some (tupO [.ref I])) (hl0 : hB.IsList l vs.toArray) (hMI : M ≠ I) (hTI : T ≠ I) (hlI : l ≠ I) (hSI : S ≠ I) (hS0 : hB.get? S = none)
    (res : Value) (hf : ∀ (i : Nat) (x : Value) (s : Shared) (Q : Value → Shared → Prop), vs[i]? = some x → (∀ b o, b ≠ I → hB.get? b = some o → s.heap.get? b = some o) →
      (∀ h' tk', Kept s.heap h' → Q x { s with heap := h', toks := tk' }) → wpAny (model prog w) A.in1.in1 (call f [x]) Q (fun _ _ => False) s) :
    ∀ (k i : Nat) (s : Shared) (c : Nat), vs.length - i = k → i ≤ vs.length → (∀ b o, b ≠ I → hB.get? b = some o → s.heap.get? b = some o) → s.heap.IsListIter I l i →
    s.heap.get? S = some { cls := .type "list", dict := none, data := .seq (vs.take i).toArray c, slots := #[] } →
    (∀ h' tk c', (∀ b o, b ≠ I → hB.get? b = some o → h'.get? b = some o) → h'.get? S = some { cls := .type "list", dict := none, data := .seq vs.toArray c', slots := #[] } → R (.ok (.ret res)) { s with heap := h', toks := tk }) →
    codeAny (model prog w) A (.builtin "list.extend.loop" ⟨[.ref S, .ref M, res], []⟩) R s := by
  intro k
  induction k with
  | zero =>
    intro i s c hk hi hK hit hS hR
    have hin : i = vs.length := by omega
    subst hin
    refine codeAny_builtin PySem.F.entry_extend_loop ?_
    rw [Around.under_plainId PySem.F.plain_extend_loop _]
    show wpAny _ A.in1 (pyNext (.ref M) >>= _) _ _ s
    refine wpAny_bind (map_end hh (hK _ _ hMI hM0) (hK _ _ hTI hT0) hit (hl0.at fun o e => hK _ _ hlI e) (by simp) fun h' he => ?_)
    refine wpAny_pure (hR h' s.toks c (fun b o hb e => he b o hb (hK b o hb e)) ?_)
    rw [List.take_length] at hS
    exact he _ _ hSI hS
  | succ k ih =>
    intro i s c hk hi hK hit hS hR
    have hlt : i < vs.length := by omega
    have hx : vs[i]? = some vs[i] := List.getElem?_eq_getElem hlt
    refine codeAny_builtin PySem.F.entry_extend_loop ?_
    rw [Around.under_plainId PySem.F.plain_extend_loop _]
    show wpAny _ A.in1 (pyNext (.ref M) >>= _) _ _ s
    refine wpAny_bind (map_item (hK _ _ hMI hM0) (hK _ _ hTI hT0) hit (hl0.at fun o e => hK _ _ hlI e) (x := vs[i]) (by simp [hlt]) hMI fun h' hs' hit' => ?_)
    refine hf i vs[i] _ _ hx (fun b o hb e => hs'.extBut b o hb (hK b o hb e)) fun h₂ tk₂ hk₂ => ?_
    have hS₂ : h₂.get? S = some { cls := .type "list", dict := none, data := .seq (vs.take i).toArray c, slots := #[] } := hk₂ _ _ (hs'.extBut _ _ hSI hS)
    obtain ⟨oI, hoI, hcI, hdI⟩ := hit'
    have hoI₂ := hk₂ _ _ hoI
    show wpAny _ A.in1 (updateSeq S (·.push vs[i]) >>= _) _ _ _
    have hsz : (vs.take i).toArray.size ≤ sizeLine := by rw [List.size_toArray, List.length_take]; omega
    obtain ⟨c2, hc2⟩ : ∃ c2, (h₂.update S (Obj.mapSeq (·.push vs[i]))).get? S = some { cls := .type "list", dict := none, data := .seq (vs.take (i + 1)).toArray c2, slots := #[] } := by
      have e3 : (vs.take (i + 1)).toArray = (vs.take i).toArray.push vs[i] := by rw [List.take_add_one, hx]; simp
      rw [e3]
      exact ⟨_, get?_update_seq hS₂ (·.push vs[i])⟩
    refine wpAny_bind ?_
    refine wpAny_updateSeq hS₂ rfl (wpAny_pure ⟨plainId_quiet PySem.F.plain_extend_loop _, ih (i + 1) _ c2 (by omega) hlt (fun b o hb e => ?_) ⟨oI, ?_, hcI, hdI⟩ ?_ fun h' tk c' hK' hS' => ?_⟩) hsz ?_
    · exact (Heap.get?_update_other _ _ (fun q : S = b => by rw [← q, hS0] at e; cases e)).trans (hk₂ _ _ (hs'.extBut b o hb (hK b o hb e)))
    · exact (Heap.get?_update_other _ _ hSI).trans hoI₂
    · exact hc2
    · exact hR h' tk c' hK' hS'
    · show ((vs.take i).toArray.push vs[i]).size ≤ sizeLine + 1
      rw [Array.size_push]; omega
end
end
section
open PySem PySem.W PyProof.Rows PySem.Calls PySem.Spec PySem.SeqAt
open PySem.AutoSeq1 (wpAny_loadPart')
set_option maxHeartbeats 1000000
section
variable {prog : Program} {w : World} {A : Around} {E : Value → Shared → Prop} {s : Shared} {M T I l : Addr} {f : Value} {vs : List Value}
theorem collect_map {Q : List Value → Shared → Prop} (hh : A.handled = none) (hn : vs.length ≤ sizeLine) (hM0 : s.heap.get? M = some (mapObj T f)) (hT0 : s.heap.get? T = some (tupO [.ref I])) (hl0 : s.heap.IsList l vs.toArray) (hit : s.heap.get? I = some (itObj l 0)) (hMI : M ≠ I) (hTI : T ≠ I) (hlI : l ≠ I)
    (hf : ∀ (i : Nat) (x : Value) (s' : Shared) (Q : Value → Shared → Prop), vs[i]? = some x → (∀ b o, b ≠ I → s.heap.get? b = some o → s'.heap.get? b = some o) →
      (∀ h' tk', Kept s'.heap h' → Q x { s' with heap := h', toks := tk' }) → wpAny (model prog w) A.in1.in1 (call f [x]) Q (fun _ _ => False) s')
    (hQ : ∀ (h' : Heap) (tk : Nat), (∀ b o, b ≠ I → s.heap.get? b = some o → h'.get? b = some o) → Q vs { s with heap := h', toks := tk }) :
    wpAny (model prog w) A (collect (.ref M)) Q E s := by
  have hSM : s.heap.objs.size ≠ M := Nat.ne_of_gt (Heap.lt_size hM0)
  have hSI : s.heap.objs.size ≠ I := Nat.ne_of_gt (Heap.lt_size hit)
  have up : ∀ b o, s.heap.get? b = some o → (s.heap.push { cls := .type "list", data := .seq ([] : List Value).toArray }).get? b = some o := fun b o e => Heap.get?_push_of_some _ e
  have hTy : Shared.TypeIs { s with heap := s.heap.push { cls := .type "list", data := .seq ([] : List Value).toArray } } (.ref M) "map" := ⟨_, up _ _ hM0, rfl⟩
  unfold collect
  refine wpAny_bind (wpAny_runValue (codeAny_builtin PySem.F.entry_proto_collect ?_))
  rw [Around.under_plainId PySem.F.plain_proto_collect _]
  show wpAny _ A.in1 (newList [] >>= fun l => again (.builtin "list.__iadd__" ⟨[l, .ref M], []⟩)) _ _ s
  refine wpAny_bind (wpAny_newObj_type ?_)
  refine wpAny_pure ⟨plainId_quiet PySem.F.plain_list_iadd _, codeAny_builtin PySem.F.entry_list_iadd ?_⟩
  rw [Around.under_plainId PySem.F.plain_list_iadd _]
  show wpAny _ A.in1 (Builtin.List.listExtendWith (.ref s.heap.objs.size) (.ref M) (.ref s.heap.objs.size)) _ _ _
  unfold Builtin.List.listExtendWith
  refine wpAny_bind (wpAny_typeOf hTy ?_)
  have h1 : Builtin.List.listSameRef (.ref s.heap.objs.size) (.ref M) = false := by simp [Builtin.List.listSameRef, hSM]
  have h2 : (Value.type "map" == Value.type "list") = false := by decide
  have h3 : (Value.type "map" == Value.type "tuple") = false := by decide
  simp only [h1, h2, h3, Bool.or_false, Bool.false_eq_true, if_false]
  refine wpAny_bind (pyIter_map (up _ _ hM0) ?_)
  refine wpAny_bind (wpAny_holding ?_)
  unfold Builtin.List.listLengthHint
  refine wpAny_bind (wpAny_specialOf hTy nolen_map ?_)
  show wpAny _ A.in1 (specialOf (Value.ref M) (Str.ofString "__length_hint__") >>= _) _ _ _
  refine wpAny_bind (wpAny_specialOf hTy nohint_map ?_)
  refine wpAny_pure ?_
  show wpAny _ A.in1 (rule "list.extend.makes-room" >>= fun _ => Builtin.List.listTouch (.ref s.heap.objs.size) >>= fun _ =>
    again (.builtin "list.extend.loop" ⟨[.ref s.heap.objs.size, .ref M, .ref s.heap.objs.size], []⟩)) _ _ _
  refine wpAny_bind (wpAny_rule ?_)
  have hS₁ : (s.heap.push { cls := .type "list", data := .seq ([] : List Value).toArray }).get? s.heap.objs.size = some { cls := .type "list", data := .seq ([] : List Value).toArray } := Heap.get?_push_size _ rfl
  refine wpAny_bind ?_
  show wpAny _ A.in1 (updateSeq s.heap.objs.size (·.push .none) >>= fun _ => updateSeq s.heap.objs.size (·.pop)) _ _ _
  refine wpAny_bind (wpAny_updateSeq hS₁ rfl ?_)
  have hS₂ := Heap.get?_update_self (Obj.mapSeq (·.push Value.none)) hS₁ rfl
  refine wpAny_updateSeq hS₂ rfl ?_
  have hS₃ := Heap.get?_update_self (Obj.mapSeq (·.pop)) hS₂ rfl
  have oth : ∀ b o, b ≠ s.heap.objs.size → (s.heap.push { cls := .type "list", data := .seq ([] : List Value).toArray }).get? b = some o →
      (((s.heap.push { cls := .type "list", data := .seq ([] : List Value).toArray }).update s.heap.objs.size (Obj.mapSeq (·.push Value.none))).update s.heap.objs.size (Obj.mapSeq (·.pop))).get? b = some o :=
    fun b o hb e => (Heap.get?_update_other _ _ (Ne.symm hb)).trans ((Heap.get?_update_other _ _ (Ne.symm hb)).trans e)
  have old : ∀ b o, s.heap.get? b = some o → (((s.heap.push { cls := .type "list", data := .seq ([] : List Value).toArray }).update s.heap.objs.size (Obj.mapSeq (·.push Value.none))).update s.heap.objs.size (Obj.mapSeq (·.pop))).get? b = some o :=
    fun b o e => oth b o (Nat.ne_of_lt (Heap.lt_size e)) (up b o e)
  refine wpAny_pure ⟨plainId_quiet PySem.F.plain_extend_loop _, ext_loop_map (hB := s.heap) (S := s.heap.objs.size) hh hn hM0 hT0 hl0 hMI hTI hlI hSI (Heap.get?_none_of_le (Nat.le_refl _)) _ hf _ 0 _ _ rfl (Nat.zero_le _) (fun b o _ e => old b o e) ⟨_, old _ _ hit, rfl, rfl⟩ hS₃ fun h' tk c' hK hS' => ?_⟩
  show wpAny _ A (load s.heap.objs.size >>= _) _ _ _
  refine wpAny_bind (wpAny_load hS' ?_)
  exact wpAny_pure (hQ h' tk hK)

end
theorem callTypeNew {prog : Program} {w : World} {A : Around} {E : Value → Shared → Prop} {s : Shared} {T newId : String} {Bn : Builtin} {args : List Value} {Q : Value → Shared → Prop} (ft : TypeCalled T newId "object.__init__")
    (hne : (some newId != some "object.__new__") = true) (hct : checkTypeCall T ⟨args, []⟩ = pure ()) (hcn : checkBuiltinCall newId ⟨.type T :: args, []⟩ = pure ())
    (hok : ∀ obj, argsOk "object.__init__" ⟨obj :: args, []⟩) (entryN : entryFor table newId = some Bn)
    (g : wpAny (model prog w) A.in1.in1 (Bn ⟨.type T :: args, []⟩) (fun fin s' => ∃ v, fin = .done (.ret v) ∧ s'.TypeIs v T ∧ Q v s') E s) :
    wpAny (model prog w) A (call (.type T) args) Q E s := by
  obtain ⟨c, tl, hmro⟩ := ft.mro
  have hmade := ft.made
  have hsub := ft.sub
  refine wpAny_call (codeAny_of_tree ?_)
  show wpAny _ _ (callAny (.type T) _) _ _ _
  refine wpAny_pure ⟨Code.quiet_builtin _ (by decide +kernel), codeAny_builtin PySem.F.entry_type_call ?_⟩
  rw [Around.under_plain (weight_type_call_type T args []) (units_type_call_type T args [])]
  have h1 := ft.notType
  have h2 := ft.canCreate
  repeat (any_goals (first | assumption | wp_step))
  refine codeAny_mono (R := wants (fun v s' => s'.TypeIs v T ∧ Q v s') E) (codeAny_call_builtin ft.plain entryN (wpAny_of_eq hcn (wpAny_mono g (fun fin s' hq => ?_) fun _ _ e => e))) fun r s₁ hr => ?_
  · obtain ⟨v, rfl, hv⟩ := hq
    exact hv
  cases r with
  | error e => exact hr
  | ok fl =>
    cases fl with
    | ret obj =>
      obtain ⟨hT, hq⟩ := hr
      have hli := ft.init.lookup
      have hbi := ft.init.bind obj
      repeat (any_goals (first | assumption | wp_step))
      refine codeAny_mono (codeAny_call_builtin ft.init.plain PySem.F.entry_object_init (ft.init.check _ _ _ _ _ _ _ _ hT (hok obj) (object_init_meets ft.init.lookup ft.made hne prog w A.in1 (wants (fun r s₂ => r = .none ∧ Q obj s₂) E) s₁ ⟨hT, rfl, hq⟩))) fun r₂ s₂ hr₂ => ?_
      cases r₂ with
      | error e => exact hr₂
      | ok fl₂ =>
        cases fl₂ with
        | ret r =>
          obtain ⟨rfl, hq⟩ := hr₂
          repeat (any_goals (first | assumption | wp_step))
        | _ => exact hr₂.elim
    | _ => exact hr.elim

section
variable {prog : Program} {w : World} {A : Around} {E : Value → Shared → Prop} {s : Shared} {M T I l : Addr} {f : Value} {vs : List Value}
theorem tupleOfMap {Q : Value → Shared → Prop} (hh : A.handled = none) (hn : vs.length ≤ sizeLine) (hM0 : s.heap.get? M = some (mapObj T f)) (hT0 : s.heap.get? T = some (tupO [.ref I])) (hl0 : s.heap.IsList l vs.toArray) (hit : s.heap.get? I = some (itObj l 0)) (hMI : M ≠ I) (hTI : T ≠ I) (hlI : l ≠ I)
    (hf : ∀ (i : Nat) (x : Value) (s' : Shared) (Q : Value → Shared → Prop), vs[i]? = some x → (∀ b o, b ≠ I → s.heap.get? b = some o → s'.heap.get? b = some o) →
      (∀ h' tk', Kept s'.heap h' → Q x { s' with heap := h', toks := tk' }) → wpAny (model prog w) A.in1.in1.in1.in1 (call f [x]) Q (fun _ _ => False) s')
    (h : ∀ (h' : Heap) (tk : Nat), (∀ b o, b ≠ I → s.heap.get? b = some o → h'.get? b = some o) → Q (.ref h'.objs.size) { s with heap := h'.push (tupO vs), toks := tk }) :
    wpAny (model prog w) A (call (.type "tuple") [.ref M]) Q E s := by
  refine callTypeNew PySem.F.called_tuple (by decide) (PySem.F.typeCall_tuple_1 _) (PySem.F.newCall_tuple_1 _) (fun obj => PySem.F.args_object_init_2 obj _) PySem.F.entry_tuple_new ?_
  obtain ⟨hp, g, d, tk, os⟩ := s
  have hsub := sub_tuple_self
  have hinit := init_tuple_lookup
  have hmh := madeHere_tuple
  have hTy : Shared.TypeIs ⟨hp, g, d, tk, os⟩ (.ref M) "map" := ⟨_, hM0, rfl⟩
  have hh2 : A.in1.in1.handled = none := hh
  wp_walk using wpAny_loadPart' hM0, wpAny_typeOf hTy, collect_map hh2 hn hM0 hT0 hl0 hit hMI hTI hlI hf
  intro h' tk' hk
  show wpAny _ _ (Builtin.Tuple.tupleExact vs.toArray >>= fun v => ret v) _ _ _
  unfold Builtin.Tuple.tupleExact
  refine wpAny_bind (wpAny_newObj_type ?_ (by show vs.toArray.size ≤ sizeLine; rw [List.size_toArray]; exact hn))
  exact wpAny_pure ⟨_, rfl, ⟨_, Heap.get?_push_size _ rfl, rfl⟩, h h' tk' hk⟩
theorem mapNew {Q : Value → Shared → Prop} {n : Nat} (hl : s.heap.get? l = some (W.listOf vs.toArray n))
    (h : Q (.ref ((s.heap.push (itObj l 0)).push (tupO [.ref s.heap.objs.size])).objs.size) { s with heap := ((s.heap.push (itObj l 0)).push (tupO [.ref s.heap.objs.size])).push (mapObj (s.heap.push (itObj l 0)).objs.size f) }) :
    wpAny (model prog w) A (call (.type "map") [f, .ref l]) Q E s := by
  exact callType_new called_map (by decide) (typeCall_map _ _) (newCall_map _ _) (fun obj => args_init3 obj _ _) entry_map_new (meets_map_new l vs.toArray n f)
    ⟨hl, show _ ∧ _ from ⟨⟨_, Heap.get?_push_size _ rfl, rfl⟩, h⟩⟩
end
end
section
open PySem PySem.W PyProof.Rows PySem.Calls PySem.Spec PySem.SeqAt
set_option maxHeartbeats 1000000
section
variable {w : World} {A : Around} {E : Value → Shared → Prop} {s : Shared} {h₀ : Heap} {L l : Addr} {m : Str → Option Value} {news : List (Addr × Obj)} {vs : List Value} {n : Nat} {mean : ExcName → Option Value} {mg mb : Str → Option Value}
theorem mapNewL {f : Value} {Q : Value → Shared → Prop} (F : Fr h₀ L s.heap m) (N : News h₀ L s.heap news) (hl : h₀.get? l = some (W.listOf vs.toArray n))
    (h : ∀ I T M h', Fr h₀ L h' m → News h₀ L h' ((M, mapObj T f) :: (T, tupO [.ref I]) :: (I, itObj l 0) :: news) → (∀ p ∈ news, p.1 < I) → I < T → T < M → Q (.ref M) { s with heap := h' }) :
    wpAny (model P0.prog w) A (call (.type "map") [f, .ref l]) Q E s := by
  have hS1 : (s.heap.push (itObj l 0)).objs.size = s.heap.objs.size + 1 := Heap.size_push ..
  have hS2 : ((s.heap.push (itObj l 0)).push (tupO [.ref s.heap.objs.size])).objs.size = s.heap.objs.size + 1 + 1 := by rw [Heap.size_push, hS1]
  refine mapNew (n := n) (F.keep _ _ hl) (h s.heap.objs.size (s.heap.push (itObj l 0)).objs.size _ _ (((F.push _).push _).push _) ?_ (fun p hp => Heap.lt_size (N p hp).1) (by rw [hS1]; exact Nat.lt_succ_self _) (by rw [hS1, hS2]; exact Nat.lt_succ_self _))
  have hL : L < s.heap.objs.size := F.ns.lt
  have none : ∀ b, s.heap.objs.size ≤ b → h₀.get? b = none := fun b hb => by
    cases e : h₀.get? b with
    | none => rfl
    | some o => exact absurd (Heap.lt_size (F.keep _ _ e)) (Nat.not_lt.mpr hb)
  intro p hp
  rcases List.mem_cons.mp hp with rfl | hp
  · refine ⟨Heap.get?_push_size _ rfl, ?_, none _ ?_⟩
    · rw [hS2]; exact Nat.ne_of_gt (Nat.lt_succ_of_lt (Nat.lt_succ_of_lt hL))
    · rw [hS2]; omega
  · rcases List.mem_cons.mp hp with rfl | hp
    · refine ⟨Heap.get?_push_of_some _ (Heap.get?_push_size _ rfl), ?_, none _ ?_⟩
      · rw [hS1]; exact Nat.ne_of_gt (Nat.lt_succ_of_lt hL)
      · rw [hS1]; omega
    · rcases List.mem_cons.mp hp with rfl | hp
      · exact ⟨Heap.get?_push_of_some _ (Heap.get?_push_of_some _ (Heap.get?_push_size _ rfl)), Nat.ne_of_gt hL, none _ (Nat.le_refl _)⟩
      · exact ⟨Heap.get?_push_of_some _ (Heap.get?_push_of_some _ (Heap.get?_push_of_some _ (N p hp).1)), (N p hp).2⟩

/-- tuple(map(fspath, paths)) of texts -/
theorem tupleMapL {I T M : Addr} {xs : List Str} {Q : Value → Shared → Prop} (F : Fr h₀ L s.heap m) (N : News h₀ L s.heap ((M, mapObj T (.ref 101)) :: (T, tupO [.ref I]) :: (I, itObj l 0) :: news)) (hI : ∀ p ∈ news, p.1 < I) (hIT : I < T) (hTM : T < M)
    (X : (K0 w.params).In h₀) (Tp : Top V0 (looseW V0 []) mean mg mb h₀) (hh : A.handled = none) (hd : A.depth + 3 < 1000) (hu : A.units + 150 < 9900)
    (hl : h₀.get? l = some (W.listOf vs.toArray n)) (hvs : StrsAre vs xs) (hn : vs.length ≤ 200000)
    (h : ∀ D h' tk, Fr h₀ L h' m → News h₀ L h' ((D, tupO vs) :: news) → (∀ p ∈ news, p.1 < D) → Q (.ref D) { s with heap := h', toks := tk }) :
    wpAny (model P0.prog w) A (call (.type "tuple") [.ref M]) Q E s := by
  have nM := N _ (.head _)
  have nT := N _ (.tail _ (.head _))
  have nI := N _ (.tail _ (.tail _ (.head _)))
  have hIn := nI.2.2
  have hlI : l ≠ I := fun e => by rw [e, hIn] at hl; cases hl
  refine tupleOfMap (vs := vs) hh (by rw [sizeLine_eq]; omega) nM.1 nT.1 ⟨_, F.keep _ _ hl, rfl, n, rfl⟩ nI.1 (Nat.ne_of_gt (Nat.lt_trans hIT hTM)) (Nat.ne_of_gt hIT) hlI ?_ ?_
  · intro i x s' Q' hx hK hq
    obtain ⟨y, t, hy, rfl⟩ := strs_at hvs hx
    obtain ⟨hd', dp, fr, gd, un⟩ := A
    obtain ⟨hp, ge, dr, tk, os⟩ := s'
    cases hh
    have K0 : ∀ b o, h₀.get? b = some o → hp.get? b = some o := fun b o e => hK b o (fun q => by rw [q, hIn] at e; cases e) (F.keep b o e)
    refine fspath_c w y t mean mg mb hp ge dr tk os dp (un + 1 + 1 + 1 + 1) fr gd _ _ (X.keeps K0) (Tp.keeps K0) (Nat.lt_of_le_of_lt (Nat.add_le_add_left (by decide) dp) hd) (by show un + 1 + 1 + 1 + 1 + 50 * 1 < 9900; simp only at hu; omega) trivial fun r h' tk' kp po => ?_
    subst po
    exact hq h' tk' kp
  · intro h' tk hK
    have hLI : L ≠ I := Ne.symm nI.2.1
    have F' : Fr h₀ L h' m := ⟨F.ns.at' fun o e => hK L o hLI e, fun b o e => hK b o (fun q => by rw [q, hIn] at e; cases e) (F.keep b o e), F.above⟩
    have nw : ∀ p ∈ news, h'.get? p.1 = some p.2 := fun p hp => hK _ _ (Nat.ne_of_lt (hI p hp)) (N p (.tail _ (.tail _ (.tail _ hp)))).1
    refine h h'.objs.size _ tk (F'.push _) (fun p hp => ?_) (fun p hp => Heap.lt_size (nw p hp))
    rcases List.mem_cons.mp hp with rfl | hp
    · exact ⟨Heap.get?_push_size _ rfl, Nat.ne_of_gt F'.ns.lt, next_is_new F'⟩
    · exact ⟨Heap.get?_push_of_some _ (nw p hp), (N p (.tail _ (.tail _ (.tail _ hp)))).2⟩
end
end
section
open PySem PySem.W PyProof.Rows PySem.Calls PySem.Spec PySem.SeqAt
open PySem.AutoSeq1 (wpAny_loadPart')
set_option maxHeartbeats 1000000
/-- the set's table, empty and with True in it -/
def tab0 (b : Bool) : SetTable := SetTable.fresh 0 0 (!b)
def lay1 (b : Bool) := layNew (tab0 b) #[] 1 (.bool true)
def tab1 (b : Bool) : SetTable := (lay1 b).2.1
theorem lay1_eq (b : Bool) : layNew (tab0 b) #[] 1 (.bool true) = (#[(1, .bool true)], tab1 b, false, false) := by cases b <;> decide +kernel
def set0 (b : Bool) : Obj := { cls := .type "set", data := .set #[] 0 (tab0 b) }
def set1 (b : Bool) (ep : Nat) : Obj := { cls := .type "set", data := .set #[(1, .bool true)] ep (tab1 b) }
section
variable {prog : Program} {w : World} {A : Around} {E : Value → Shared → Prop} {s : Shared}
theorem pyHash_true {Q : Int → Shared → Prop} (h : Q 1 { s with toks := s.toks + 1 }) : wpAny (model prog w) A (pyHash (.bool true)) Q E s := by
  have hT : s.TypeIs (.bool true) "bool" := rfl
  unfold pyHash
  have hv : [Value.bool true].any Value.onHeap = false := rfl
  refine wpAny_bind ?_
  rw [cRoomFor, if_neg (by rw [hv]; exact Bool.false_ne_true)]; refine wpAny_pure ?_
  refine wpAny_bind (wpAny_specialOf hT PySem.F.slot_bool_hash.lookup ?_)
  show wpAny _ _ (if (some (Value.builtin "int.__hash__") == some Value.none) = true then _ else _) Q E s
  rw [if_neg (by rw [beq_builtin_none]; exact Bool.false_ne_true)]
  refine wpAny_bind (wpAny_specialOf hT PySem.F.slot_bool_hash.lookup ?_)
  show wpAny _ _ (callSpecialIfBoundUnlessNone? (.bool true) "__hash__" _ >>= _) Q E s
  refine wpAny_bind (wpAny_callSpecialIfBoundUnlessNone?_slot hT PySem.F.slot_bool_hash
    (wpAny_call_entry PySem.F.slot_bool_hash hT entry_int_hash
      (show wpAny _ _ (do ret (← mkInt (rawHash 1))) _ _ s from wpAny_ret_mkInt ?_) (args_int_hash _)))
  have e1 : rawHash 1 = 1 := by decide +kernel
  show wpAny _ _ (if (decide (-(2 : Int) ^ 63 ≤ rawHash 1) && decide (rawHash 1 < 2 ^ 63)) = true then _ else _) Q E _
  rw [e1]
  exact wpAny_pure h
theorem newSet0 {Q : Value → Shared → Prop} (h : Q (.ref s.heap.objs.size) { s with heap := s.heap.push (set0 (w.params.followText "set-order")) }) : wpAny (model prog w) A (newSet (.type "set")) Q E s := by
  unfold newSet setsByText
  refine wpAny_bind (wpAny_bind (wpAny_askSetting (wpAny_pure ?_)))
  dsimp only
  simp only [newObj]
  exact wpAny_bind (wpAny_alloc (wpAny_pure h))

theorem setAdd_pre {D : Addr} {Q : Value → Shared → Prop} (hT : s.TypeIs (.ref D) "set")
    (h : wpAny (model prog w) A.in1 (setAddHashed D (.bool true) 1) (fun _ s' => Q .none s') E { s with toks := s.toks + 1 }) :
    wpAny (model prog w) A (call (.builtin "set.add") [.ref D, .bool true]) Q E s := by
  refine wpAny_call_entry PySem.F.slot_set_add hT PySem.F.entry_set_add ?_ (PySem.F.args_set_add_2 _ _)
  unfold Builtin.«set.add» Builtin.Frozenset.oneOther
  simp only [List.isEmpty_nil, bind_assoc]
  unfold Builtin.Frozenset.addrOf setAdd
  refine wpAny_bind (wpAny_pure ?_)
  try dsimp only
  refine wpAny_bind (wpAny_pure ?_)
  try dsimp only
  refine wpAny_bind ?_
  refine wpAny_holding ?_
  refine wpAny_bind (pyHash_true ?_)
  refine wpAny_mono h (fun _ s' hq => ?_) fun _ _ e => e
  show wpAny _ _ (ret Value.none) _ _ _
  exact wpAny_pure ⟨_, rfl, hq⟩
theorem setAdd_first {D : Addr} {b : Bool} {Q : Value → Shared → Prop} (hD : s.heap.get? D = some (set0 b))
    (h : ∀ h' ep, Heap.SameBut D s.heap h' → h'.get? D = some (set1 b ep) → Q .none { s with heap := h', toks := s.toks + 1 }) :
    wpAny (model prog w) A (call (.builtin "set.add") [.ref D, .bool true]) Q E s := by
  refine setAdd_pre ⟨_, hD, rfl⟩ ?_
  unfold setAddHashed setAddHashedIn
  refine wpAny_holding (wpAny_bind (wpAny_setState_of (s := { s with toks := s.toks + 1 }) hD rfl (by cases b <;> decide +kernel) ?_))
  dsimp only
  rw [show byScan (.bool true) #[] = true from by decide +kernel]
  simp only [↓reduceIte]
  unfold setAddByScan
  refine wpAny_bind ?_
  refine wpAny_bind (wpAny_rule ?_)
  refine wpAny_bind (show wpAny _ _ (pure ScanMet.absent) _ _ _ from wpAny_pure ?_)
  dsimp only
  rw [lay1_eq b]
  dsimp only
  refine wpAny_bind (show wpAny _ _ (pure ()) _ _ _ from wpAny_pure ?_)
  have hp : (tab1 b).plain = true := by cases b <;> decide +kernel
  have hf : (tab1 b).tooFull = false := by cases b <;> decide +kernel
  rw [hp, if_pos rfl]
  refine wpAny_bind (show wpAny _ _ (pure true) _ _ _ from wpAny_pure ?_)
  rw [if_pos rfl, hf]
  refine wpAny_bind (wpAny_storeSet_of (s := { s with toks := s.toks + 1 }) hD rfl ?_ (by decide))
  show wpAny _ _ (pure (some true)) _ _ _
  refine wpAny_pure (wpAny_pure ?_)
  exact h _ _ (Heap.SameBut.update ..) (Heap.get?_update_self _ hD rfl)
theorem setAdd_again {D : Addr} {b : Bool} {ep : Nat} {Q : Value → Shared → Prop} (hD : s.heap.get? D = some (set1 b ep)) (h : Q .none { s with toks := s.toks + 1 }) :
    wpAny (model prog w) A (call (.builtin "set.add") [.ref D, .bool true]) Q E s := by
  refine setAdd_pre ⟨_, hD, rfl⟩ ?_
  have hfit : (tab1 b).fits 1 = true := by cases b <;> decide +kernel
  unfold setAddHashed setAddHashedIn
  refine wpAny_holding (wpAny_bind (wpAny_setState_of (s := { s with toks := s.toks + 1 }) hD rfl hfit ?_))
  dsimp only
  rw [show byScan (.bool true) #[(1, .bool true)] = true from by decide +kernel]
  simp only [↓reduceIte]
  unfold setAddByScan
  refine wpAny_bind ?_
  refine wpAny_bind (wpAny_rule ?_)
  show wpAny _ _ (setScanFrom D (.bool true) 1 true [(1, .bool true)] 0 >>= _) _ _ _
  refine wpAny_bind ?_
  unfold setScanFrom
  rw [if_pos (by decide)]
  refine wpAny_bind (wpAny_setEpoch_of (s := { s with toks := s.toks + 1 }) hD rfl hfit ?_)
  refine wpAny_bind (EqAt.same (.bool true) _ _ _ _ ?_)
  exact wpAny_pure (wpAny_pure (wpAny_pure h))
end
end
section
open PySem PySem.W PyProof.Rows PySem.Calls PySem.Spec PySem.SeqAt
open PySem.AutoSeq1 (wpAny_loadPart')
set_option maxHeartbeats 1000000
theorem owner_seti : Manifest.owners.lookup (String.ofList ['r', 'o', 't', 'a', 'r', 'e', 't', 'i', '_', 't', 'e', 's'].reverse) = some Manifest.sig_set_iterator := by kernel_rfl
theorem slot_seti_next : Slot "set_iterator" "__next__" "set_iterator.__next__" :=
  .of (owner := "set_iterator") (n := "__next__") (by rw [typeLookup_type, builtinLookup_eq_fast]; kernel_rfl) (by decide +kernel) (by decide +kernel) (by decide +kernel)
    (by first | exact .inl (by decide +kernel) | exact .inr (by decide +kernel)) (by rw [isSubtype_type]; kernel_rfl)
theorem entry_seti_next : entryFor table "set_iterator.__next__" = some Builtin.«set_iterator.__next__» := entryFor_of_tree (by kernel_rfl)
theorem args_seti_next (a : Value) : argsOk "set_iterator.__next__" ⟨[a], []⟩ := by
  unfold argsOk; rw [signature?_of (id := "set_iterator.__next__") (n := ['_', '_', 't', 'x', 'e', 'n', '_', '_']) (o := ['r', 'o', 't', 'a', 'r', 'e', 't', 'i', '_', 't', 'e', 's']) (by kernel_rfl) owner_seti]; kernel_rfl
theorem entry_set_iter : entryFor table "set.__iter__" = some Builtin.«frozenset.__iter__» :=
  entryFor_alias (id' := "frozenset.__iter__") (by kernel_rfl) rfl (by decide +kernel) (by kernel_rfl)
theorem fits1 (b : Bool) : (tab1 b).fits 1 = true := by cases b <;> decide +kernel
section
variable {prog : Program} {w : World} {A : Around} {E : Value → Shared → Prop} {s : Shared} {D : Addr} {b : Bool} {ep : Nat}
def nxt (b : Bool) : Nat := if b then 0 else 2
theorem setNext_item {Q : Option (Value × Nat) → Shared → Prop} (hb : w.params.followText "set-order" = b) (hD : s.heap.get? D = some (set1 b ep)) (h : Q (some (.bool true, nxt b)) s) :
    wpAny (model prog w) A (setNext D 0 0 ep) Q E s := by
  unfold setNext
  refine wpAny_bind (wpAny_setState_of hD rfl (fits1 b) ?_)
  dsimp only
  unfold setsByText
  refine wpAny_bind (wpAny_bind (wpAny_askSetting (wpAny_pure ?_)))
  show wpAny _ _ (if w.params.followText "set-order" = true then _ else _) _ _ _
  rw [hb]
  cases b with
  | true =>
    rw [if_pos rfl, if_neg (by simp)]
    unfold setWalk setsByText
    refine wpAny_bind (wpAny_bind (wpAny_setState_of hD rfl (fits1 true) ?_))
    dsimp only
    refine wpAny_bind (wpAny_bind (wpAny_askSetting (wpAny_pure ?_)))
    show wpAny _ _ (if w.params.followText "set-order" = true then _ else _) _ _ _
    rw [hb, if_pos rfl]
    refine wpAny_bind (wpAny_askSetting (wpAny_pure (wpAny_pure ?_)))
    have e : (pickOrder (w.params.setOrder D ep) #[((1 : Int), Value.bool true)])[0]? = some (1, .bool true) := by
      simp [pickOrder, pickOrder.go, Nat.mod_one]
    rw [show ((model prog w).w.params.setOrder D ep) = w.params.setOrder D ep from rfl, e]
    exact h
  | false =>
    rw [if_neg (by decide)]
    rw [if_neg (by decide +kernel)]
    refine wpAny_bind (show wpAny _ _ (pure ()) _ _ _ from wpAny_pure ?_)
    exact wpAny_pure h
theorem setNext_end {Q : Option (Value × Nat) → Shared → Prop} (hb : w.params.followText "set-order" = b) (hD : s.heap.get? D = some (set1 b ep)) (h : Q none s) :
    wpAny (model prog w) A (setNext D (nxt b) 1 ep) Q E s := by
  unfold setNext
  refine wpAny_bind (wpAny_setState_of hD rfl (fits1 b) ?_)
  dsimp only
  unfold setsByText
  refine wpAny_bind (wpAny_bind (wpAny_askSetting (wpAny_pure ?_)))
  show wpAny _ _ (if w.params.followText "set-order" = true then _ else _) _ _ _
  rw [hb]
  cases b with
  | true =>
    rw [if_pos rfl, if_neg (by simp)]
    unfold setWalk setsByText
    refine wpAny_bind (wpAny_bind (wpAny_setState_of hD rfl (fits1 true) ?_))
    dsimp only
    refine wpAny_bind (wpAny_bind (wpAny_askSetting (wpAny_pure ?_)))
    show wpAny _ _ (if w.params.followText "set-order" = true then _ else _) _ _ _
    rw [hb, if_pos rfl]
    refine wpAny_bind (wpAny_askSetting (wpAny_pure (wpAny_pure ?_)))
    have e : (pickOrder (w.params.setOrder D ep) #[((1 : Int), Value.bool true)])[1]? = none := by
      simp [pickOrder, pickOrder.go, Nat.mod_one]
    rw [show ((model prog w).w.params.setOrder D ep) = w.params.setOrder D ep from rfl, e]
    exact h
  | false =>
    rw [if_neg (by decide)]
    rw [if_neg (by decide +kernel)]
    refine wpAny_bind (show wpAny _ _ (pure ()) _ _ _ from wpAny_pure ?_)
    exact wpAny_pure h

abbrev setIt (D : Addr) (ep f i : Nat) : Obj := { cls := .type "set_iterator", data := .fields #[rawInt f, rawInt i, .ref D, rawInt 1, rawInt ep] }
theorem pyIter_set1 {Q : Value → Shared → Prop} (hD : s.heap.get? D = some (set1 b ep)) (h : Q (.ref s.heap.objs.size) { s with heap := s.heap.push (setIt D ep 0 0) }) : wpAny (model prog w) A (pyIter (.ref D)) Q E s := by
  have hT : s.TypeIs (.ref D) "set" := ⟨_, hD, rfl⟩
  refine wpAny_pyIter_slot hT PySem.F.slot_set_iter (wpAny_call_entry PySem.F.slot_set_iter hT entry_set_iter ?_ (PySem.F.args_set_iter_1 _))
  unfold Builtin.«frozenset.__iter__» Builtin.Frozenset.slot0 slotArgs
  simp only [List.isEmpty_nil, Bool.not_true, Bool.false_eq_true, ↓reduceIte, bind_assoc, List.length_nil, bne_self_eq_false]
  unfold Builtin.Frozenset.addrOf Builtin.Frozenset.sizeOf
  refine wpAny_bind (wpAny_pure ?_)
  try dsimp only
  refine wpAny_bind (wpAny_pure ?_)
  refine wpAny_bind (wpAny_bind (wpAny_setEntries_of hD rfl (fits1 b) (wpAny_pure ?_)))
  unfold setDrawn
  refine wpAny_bind (wpAny_bind (wpAny_setState_of hD rfl (fits1 b) ?_))
  dsimp only
  unfold setsByText
  refine wpAny_bind (wpAny_bind (wpAny_askSetting (wpAny_pure (wpAny_pure ?_))))
  rw [if_neg (by rw [Bool.and_eq_true]; rintro ⟨_, hx⟩; revert hx; cases b <;> decide +kernel)]
  refine wpAny_bind (wpAny_pure ?_)
  refine wpAny_bind (wpAny_setEpoch_of hD rfl (fits1 b) ?_)
  exact wpAny_bind (wpAny_newObj_type (wpAny_pure ⟨_, rfl, "set_iterator", _, ⟨_, Heap.get?_push_size _ rfl, rfl⟩, slot_seti_next.lookup, h⟩))

theorem next_set1 {I : Addr} {Q : Option Value → Shared → Prop} (hb : w.params.followText "set-order" = b) (hD : s.heap.get? D = some (set1 b ep)) (hI : s.heap.get? I = some (setIt D ep 0 0))
    (h : ∀ h', Heap.SameBut I s.heap h' → h'.get? I = some (setIt D ep (nxt b) 1) → Q (some (.bool true)) { s with heap := h' }) : wpAny (model prog w) A (pyNext (.ref I)) Q E s := by
  have hT : s.TypeIs (.ref I) "set_iterator" := ⟨_, hI, rfl⟩
  unfold pyNext
  refine wpAny_bind (wpAny_attempt (wpAny_callSpecial?_slot (name := Str.ofString "__next__") hT slot_seti_next
    (wpAny_call_entry slot_seti_next hT entry_seti_next ?_ (args_seti_next _))))
  refine wpAny_bind (m := slotArgs "__next__" 0 _) (wpAny_pure ?_)
  refine wpAny_bind (wpAny_fieldsOf hI rfl ?_)
  show wpAny _ _ (setEntries D >>= _) _ _ _
  refine wpAny_bind (wpAny_setEntries_of hD rfl (fits1 b) ?_)
  rw [if_neg (by decide)]
  show wpAny _ _ (setNext D 0 0 ep >>= _) _ _ _
  refine wpAny_bind (setNext_item hb hD ?_)
  dsimp only
  refine wpAny_bind (wpAny_setField hI rfl (by simp) ?_)
  have h1 := Heap.get?_update_self (Obj.mapFields (·.setIfInBounds 0 (rawInt (nxt b)))) hI rfl
  refine wpAny_bind (wpAny_setField h1 rfl (by simp) ?_)
  have h2 := Heap.get?_update_self (Obj.mapFields (·.setIfInBounds 1 (rawInt ((0 : Nat) + 1)))) h1 rfl
  refine wpAny_pure ⟨_, rfl, wpAny_pure (h _ ((Heap.SameBut.update ..).trans (Heap.SameBut.update ..)) h2)⟩
theorem next_set1_end {I : Addr} {Q : Option Value → Shared → Prop} (hh : A.handled = none) (hb : w.params.followText "set-order" = b) (hD : s.heap.get? D = some (set1 b ep)) (hI : s.heap.get? I = some (setIt D ep (nxt b) 1))
    (h : ∀ h', Heap.ExtBut I s.heap h' → Q none { s with heap := h' }) : wpAny (model prog w) A (pyNext (.ref I)) Q E s := by
  have hT : s.TypeIs (.ref I) "set_iterator" := ⟨_, hI, rfl⟩
  unfold pyNext
  refine wpAny_bind (wpAny_attempt (wpAny_callSpecial?_slot (name := Str.ofString "__next__") hT slot_seti_next
    (wpAny_call_entry slot_seti_next hT entry_seti_next ?_ (args_seti_next _))))
  refine wpAny_bind (m := slotArgs "__next__" 0 _) (wpAny_pure ?_)
  refine wpAny_bind (wpAny_fieldsOf hI rfl ?_)
  show wpAny _ _ (setEntries D >>= _) _ _ _
  refine wpAny_bind (wpAny_setEntries_of hD rfl (fits1 b) ?_)
  rw [if_neg (by decide)]
  show wpAny _ _ (setNext D (nxt b) 1 ep >>= _) _ _ _
  refine wpAny_bind (setNext_end hb hD ?_)
  dsimp only
  refine wpAny_bind (wpAny_setField hI rfl (by simp) ?_)
  show wpAny _ _ (newExc (.type "StopIteration") [] >>= _) _ _ _
  refine wpAny_bind ?_
  simp only [newExc, newTuple]
  refine wpAny_bind (wpAny_newObj_type ?_ (by size_fits))
  refine wpAny_bind (m := firstArgMember _ _) (wpAny_of_eq (a := Value.none) (by first | rfl | (simp only [firstArgMember]; rfl)) ?_)
  refine wpAny_newObj_type ?_ (by size_fits)
  simp only [raiseNew]
  refine wpAny_bind (wpAny_handled ?_)
  first | rw [show A.in1.handled = none from hh] | rw [hh]
  refine wpAny_bind (wpAny_pure (wpAny_throw ?_))
  refine wpAny_bind (wpAny_isInstance (T := "StopIteration") (b := true) ⟨_, Heap.get?_push_size _ rfl, rfl⟩ isSubtype_stop ?_)
  rw [if_pos rfl]
  exact wpAny_pure (h _ (((Heap.SameBut.update ..).extBut.push _).push _))
/-- one name from the set that holds True alone -/
theorem unpackItems_set1 {Q : List Value → Shared → Prop} (hh : A.handled = none) (hb : w.params.followText "set-order" = b) (hD : s.heap.get? D = some (set1 b ep))
    (h : ∀ h', Heap.ExtBut s.heap.objs.size s.heap h' → Q [.bool true] { s with heap := h' }) : wpAny (model prog w) A (unpackItems (.ref D) 1 none) Q E s := by
  have hT : s.TypeIs (.ref D) "set" := ⟨_, hD, rfl⟩
  have hDI : D ≠ s.heap.objs.size := Nat.ne_of_lt (Heap.lt_size hD)
  unfold unpackItems
  refine wpAny_bind ?_
  unfold notIterableAtAll
  refine wpAny_bind (wpAny_specialOf hT PySem.F.slot_set_iter.lookup ?_)
  refine wpAny_pure ?_
  simp only [Bool.false_eq_true, if_false]
  refine wpAny_bind (wpAny_holding (pyIter_set1 hD ?_))
  refine wpAny_bind (wpAny_holding ?_)
  unfold draw
  refine wpAny_bind (next_set1 hb (Heap.get?_push_of_some _ hD) (Heap.get?_push_size _ rfl) fun h' hs' hI' => ?_)
  dsimp only
  refine wpAny_bind (wpAny_holding ?_)
  unfold draw
  refine wpAny_pure (wpAny_pure ?_)
  rw [if_neg (by simp)]
  refine wpAny_bind (wpAny_holding (next_set1_end hh hb ((hs'.2 D hDI).trans (Heap.get?_push_of_some _ hD)) hI' fun h₂ he₂ => ?_))
  simp only [Option.isSome_none, Bool.false_eq_true, if_false]
  exact wpAny_pure (h h₂ fun c o hc e => he₂ c o hc (hs'.extBut c o hc (Heap.get?_push_of_some _ e)))
end
end
section
open PySem PySem.W PyProof.Rows PySem.Calls PySem.Spec PySem.SeqAt
set_option maxHeartbeats 1000000
open LCg
theorem compTurn_set1 (elt target iter : Expr) (scope : Scope) (pos : Pos) (it acc : Value) (env : Env) :
    compTurn (.SetComp elt [⟨target, iter, [], 0⟩] scope pos) 0 it acc env = (standAt iter.pos >>= fun _ => pyNext it >>= fun r => match r with
      | none => pure (.done .next)
      | some v => letOwnedTupleGo target it v >>= fun _ => assign target env v >>= fun _ =>
        (eval elt env >>= fun x => standAt elt.pos >>= fun _ => call (.builtin "set.add") [acc, x] >>= fun _ => pure ()) >>= fun _ =>
          again (.compLoop (.SetComp elt [⟨target, iter, [], 0⟩] scope pos) 0 it acc env)) := by rfl
section
variable {prog : Program} {w : World} {A : Around} {E : Value → Shared → Prop} {R : Result → Shared → Prop} {s : Shared}
theorem compLoop_set {elt target iter : Expr} {scope : Scope} {pos : Pos} {it acc : Value} {env : Env} (I : Nat → Shared → Prop)
    (turn : ∀ n s, I n s → wpAny (model prog w) A (pyNext it) (fun r s₁ => match r with
      | none => R (.ok .next) s₁
      | some v => wpAny (model prog w) A (assign target env v) (fun _ s₂ => wpAny (model prog w) A (eval elt env) (fun x s₃ =>
          wpAny (model prog w) A (call (.builtin "set.add") [acc, x]) (fun _ s₄ => ∃ m, m < n ∧ I m s₄) (fun _ _ => False) s₃)
          (fun _ _ => False) s₂) (fun _ _ => False) s₁) (fun _ _ => False) s)
    (n : Nat) (h : I n s) (ht : ∀ v, letOwnedTupleGo target it v = pure () := by intro _; rfl) :
    codeAny (model prog w) A (.compLoop (.SetComp elt [⟨target, iter, [], 0⟩] scope pos) 0 it acc env) R s := by
  refine codeAny_loop rfl I (fun n s hI => ?_) n h
  show wpAny _ _ ((compTurn (.SetComp elt [⟨target, iter, [], 0⟩] scope pos) 0 it acc env).onRaise (fun x => do noteFrame x env; theTreesLotGoes x)) _ _ s
  refine wpAny_noted ?_
  rw [compTurn_set1]
  refine wpAny_bind (wpAny_standAt (wpAny_bind (wpAny_mono (turn n s hI) (fun r s₁ h₁ => ?_) fun _ _ h' => h'.elim)))
  cases r with
  | none => exact wpAny_pure h₁
  | some v =>
    refine wpAny_bind (wpAny_of_eq (ht v) ?_)
    exact wpAny_bind (wpAny_mono h₁ (fun _ s₂ h₂ => wpAny_bind (wpAny_bind (wpAny_mono h₂ (fun x s₃ h₃ => wpAny_bind (wpAny_standAt (wpAny_bind (wpAny_mono h₃
      (fun _ s₄ h₄ => wpAny_pure (wpAny_pure ⟨rfl, h₄⟩)) fun _ _ h' => h'.elim)))) fun _ _ h' => h'.elim))) fun _ _ h' => h'.elim)
theorem compStart_set {elt target iter : Expr} {ifs rest scope pos it acc env}
    (h0 : codeAny (model prog w) A (.compLoop (.SetComp elt (⟨target, iter, ifs, 0⟩ :: rest) scope pos) 0 it acc env) R s)
    (h : wpAny (model prog w) A (pyIter it) (fun it' s' => codeAny (model prog w) A (.compLoop (.SetComp elt (⟨target, iter, ifs, 0⟩ :: rest) scope pos) 0 it' acc env) R s')
      (notedBy (model prog w) A env fun x s' => R (.error x) s') s) :
    codeAny (model prog w) A (.compStart (.SetComp elt (⟨target, iter, ifs, 0⟩ :: rest) scope pos) 0 it acc env) R s := by
  refine codeAny_of_tree ?_
  show wpAny _ _ ((compStart (.SetComp elt (⟨target, iter, ifs, 0⟩ :: rest) scope pos) 0 it acc env).onRaise (fun x => do noteFrame x env; standAt theWindowsPlace)) _ _ s
  refine wpAny_notedAt ?_
  unfold compStart
  show wpAny _ _ (ask >>= _) _ _ s
  refine wpAny_bind (wpAny_askSetting (wpAny_ite ?_))
  split
  · first
      | exact wpAny_bind (wpAny_pure (wpAny_pure (And.intro rfl h0)))
      | exact wpAny_pure (And.intro rfl h0)
  · first
      | exact wpAny_bind (wpAny_rule (wpAny_bind (wpAny_standAt (wpAny_bind (wpAny_mono h (fun it' s' h' => wpAny_pure (And.intro rfl h')) fun _ _ x => x)))))
      | (refine wpAny_bind (wpAny_rule ?_); show wpAny _ _ (standAt iter.pos >>= _) _ _ s; exact wpAny_bind (wpAny_standAt (wpAny_bind (wpAny_mono h (fun it' s' h' => wpAny_pure (And.intro rfl h')) fun _ _ x => x))))
end
section
variable {prog : Program} {w : World} {A : Around} {E : Value → Shared → Prop} {s : Shared} {h₀ : Heap} {L : Addr} {m : Str → Option Value} {env : Env}
/-- a set of Trues out of a tuple -/
def SetSrc (prog : Program) (w : World) (A : Around) (h₀ : Heap) (L : Addr) (m : Str → Option Value) (env : Env) (elt : Expr) (x : Str) (scope : Scope) (cl : List (Str × Addr)) (Q : Value → Shared → Prop) (xv : Value) (s₁ : Shared) : Prop :=
  ∃ (ax : Addr) (vs : List Value) (news : List (Addr × Obj)), xv = .ref ax ∧ A.handled = none ∧ Fr h₀ L s₁.heap m ∧ News h₀ L s₁.heap news ∧ TupSrc h₀ ax vs news ∧ 0 < vs.length ∧ vs.length ≤ sizeLine ∧
    (∀ (i : Nat) (v : Value) I oI C oC D oD m₂ h tk (E' : Value → Shared → Prop), vs[i]? = some v → NsObj oC m₂ → m₂ x = some v → Fr h₀ L h m → News h₀ L h ((I, oI) :: (C, oC) :: (D, oD) :: news) → Off3 I C D news → ((@Ne Nat I C) ∧ (@Ne Nat I D) ∧ (@Ne Nat C D)) →
      wpAny (model prog w) A (eval elt (compEnvC scope cl C env)) (CompEnd h₀ L m { s₁ with heap := h, toks := tk } I oI C oC D oD (TupSrc h₀ ax vs) (fun y nw => y = .bool true ∧ nw = news)) E' { s₁ with heap := h, toks := tk }) ∧
    (∀ D h tk ep, Fr h₀ L h m → News h₀ L h ((D, set1 (w.params.followText "set-order") ep) :: news) → Off1 D news → Q (.ref D) { s₁ with heap := h, toks := tk })

theorem SetComp_true {elt iter : Expr} {x : Str} {px : Pos} {scope : Scope} {cl : List (Str × Addr)} {pos : Pos} {Q : Value → Shared → Prop} (_F₀ : Fr h₀ L s.heap m)
    (hclos : closureFor scope env = pure cl) (hcell : ∀ y ∈ scope.names, y.2 ≠ .cell) (hkind : scope.kind = .function)
    (hnames : ∀ y ∈ scope.names, y.2 = .local → scope.names.lookup y.1 = some .local) (hx : scope.names.lookup x = some .local)
    (h : wpAny (model prog w) A (eval iter env) (SetSrc prog w A h₀ L m env elt x scope cl Q) E s)
    (hs : ∀ x, foldedSetIterable iter env x = pure x := by intro _; rfl) :
    wpAny (model prog w) A (eval (.SetComp elt [⟨.Name x px, iter, [], 0⟩] scope pos) env) Q E s := by
  show wpAny _ _ (comprehension (.SetComp elt [⟨.Name x px, iter, [], 0⟩] scope pos) scope env _ (newSet (.type "set")) false (eval iter env)) _ _ _
  refine wpAny_comprehension_free (use := none) rfl hs hclos hkind hnames (wpAny_mono h (fun xv s₁ h₁ => ?_) fun _ _ e => e)
  obtain ⟨ax, vs, news, rfl, hh, F, N, hm, hn0, hsz, turn, fin⟩ := h₁
  have hlt := Heap.lt_size (N _ hm).1
  have hls : s₁.heap.IsTuple ax vs.toArray := ⟨_, (N _ hm).1, rfl, 0, rfl⟩
  refine wpAny_pyIter_tuple hls ?_
  have W := Walks.tuple (prog := prog) (w := w) hh s₁.heap.objs.size ax (Nat.ne_of_lt hlt) vs.toArray
  have hz' : vs.toArray.size = vs.length := by simp
  rw [hz'] at W
  have hax : ax ≠ s₁.heap.objs.size := Nat.ne_of_lt hlt
  have FI : Fr h₀ L (s₁.heap.push { cls := .type "tuple_iterator", data := .fields #[.ref ax, .int 0 0] }) m := F.push _
  have hI0 := next_is_new F
  have hLI : L ≠ s₁.heap.objs.size := Nat.ne_of_lt F.ns.lt
  have offI : ∀ p ∈ news, p.1 ≠ s₁.heap.objs.size := fun p hp => Nat.ne_of_lt (Heap.lt_size (N p hp).1)
  refine newSet0 ?_
  generalize hb : w.params.followText "set-order" = b at *
  generalize hI : s₁.heap.objs.size = I at *
  have hs2 : (s₁.heap.push { cls := .type "tuple_iterator", data := .fields #[.ref ax, .int 0 0] }).objs.size = I + 1 := by rw [Heap.size_push, hI]
  generalize hH1 : s₁.heap.push { cls := .type "tuple_iterator", data := .fields #[.ref ax, .int 0 0] } = H1 at *
  have up1 : ∀ c o, s₁.heap.get? c = some o → H1.get? c = some o := fun c o e => hH1 ▸ Heap.get?_push_of_some _ e
  have gI : H1.get? I = some { cls := .type "tuple_iterator", data := .fields #[.ref ax, .int 0 0] } := by rw [← hH1, ← hI]; exact Heap.get?_push_size _ rfl
  refine wpAny_newFunctionEnv hcell (by intro y hy; simp at hy) (fun h₁ hns₁ hsb₁ => ?_) hkind
  dsimp only at hns₁ hsb₁ ⊢
  have hs3 : (H1.push (set0 b)).objs.size = I + 1 + 1 := by rw [Heap.size_push, hs2]
  rw [hs3] at hns₁ hsb₁ ⊢
  rw [hs2]
  have lt1 : ∀ {c : Addr}, c < I → c ≠ I + 1 + 1 := fun h e => absurd h (by rw [e]; exact Nat.not_lt.mpr (Nat.le_of_lt (Nat.lt_succ_of_lt (Nat.lt_succ_self _))))
  have old : ∀ c o, c ≠ I + 1 + 1 → H1.get? c = some o → h₁.get? c = some o := fun c o hc e => hsb₁.extBut c o hc (Heap.get?_push_of_some _ (Heap.get?_push_of_some _ e))
  have gD : h₁.get? (I + 1) = some (set0 b) := hsb₁.extBut _ _ (Nat.ne_of_lt (Nat.lt_succ_self _)) (Heap.get?_push_of_some _ (by rw [← hs2]; exact Heap.get?_push_size _ rfl))
  have hIC : I ≠ I + 1 + 1 := Nat.ne_of_lt (Nat.lt_succ_of_lt (Nat.lt_succ_self _))
  have hID : I ≠ I + 1 := Nat.ne_of_lt (Nat.lt_succ_self _)
  have hDC : I + 1 ≠ I + 1 + 1 := Nat.ne_of_lt (Nat.lt_succ_self _)
  have sz : ∀ c o, s₁.heap.get? c = some o → c < I := fun c o e => hI ▸ Heap.lt_size e
  have keep1 : ∀ c o, s₁.heap.get? c = some o → h₁.get? c = some o := fun c o e => old c o (lt1 (sz c o e)) (up1 c o e)
  have h0n : ∀ c, I ≤ c → h₀.get? c = none := fun c hc => by
    cases e : h₀.get? c with
    | none => rfl
    | some o => exact absurd (sz _ _ (F.keep _ _ e)) (Nat.not_lt.mpr hc)
  have hD0 : h₀.get? (I + 1) = none := h0n _ (Nat.le_succ _)
  have hC0 : h₀.get? (I + 1 + 1) = none := h0n _ (Nat.le_of_lt (Nat.lt_succ_of_lt (Nat.lt_succ_self _)))
  have hLlt : L < I := hI ▸ F.ns.lt
  have hLD : L ≠ I + 1 := Nat.ne_of_lt (Nat.lt_succ_of_lt hLlt)
  have hLC : L ≠ I + 1 + 1 := Nat.ne_of_lt (Nat.lt_succ_of_lt (Nat.lt_succ_of_lt hLlt))
  have offN : ∀ p ∈ news, p.1 < I := fun p hp => sz _ _ (N p hp).1
  have off0 : Off3 I (I + 1 + 1) (I + 1) news := Off3.of fun p hp => ⟨Nat.ne_of_lt (offN p hp), lt1 (offN p hp), Nat.ne_of_lt (Nat.lt_succ_of_lt (offN p hp))⟩
  have axI : ax < I := sz _ _ (N _ hm).1
  have st0 : h₁.IsTupleIter I ax 0 ∧ h₁.IsTuple ax vs.toArray := ⟨⟨_, old _ _ hIC gI, rfl, rfl⟩, ⟨_, keep1 _ _ (N _ hm).1, rfl, 0, rfl⟩⟩
  have main : ∀ s₃ : Shared, s₃ = { s₁ with heap := h₁, toks := s₁.toks + ([] : List (Str × Value)).length } →
      codeAny (model prog w) A (.compLoop (.SetComp elt [⟨.Name x px, iter, [], 0⟩] scope pos) 0 (.ref I) (.ref (I + 1)) (compEnvC scope cl (I + 1 + 1) env)) (compPost (model prog w) A E none Q (.ref (I + 1)) (I + 1 + 1)) s₃ := by
    rintro s₃ rfl
    refine compLoop_set (fun k s' => ∃ h' tk i m' oD, s' = { s₁ with heap := h', toks := tk } ∧ i ≤ vs.length ∧ k = vs.length + 1 - i ∧ (h'.IsTupleIter I ax i ∧ h'.IsTuple ax vs.toArray) ∧ Fr h₀ L h' m ∧ h'.Ns (I + 1 + 1) m' ∧ News h₀ L h' ((I + 1, oD) :: news) ∧ (i = 0 → oD = set0 b) ∧ (0 < i → ∃ ep, oD = set1 b ep)) ?_ (vs.length + 1)
      ⟨h₁, _, 0, _, _, rfl, Nat.zero_le _, rfl, st0, F.keeps keep1, hns₁, fun p hp => ?_, fun _ => rfl, fun h => absurd h (Nat.lt_irrefl _)⟩
    · rintro k s' ⟨h', tk, i, m', oD, rfl, hi, rfl, st', F', hn', N', ho0, ho1⟩
      by_cases hlt : i < vs.length
      · refine W.item i _ _ _ hlt st' fun v h₂ tk₂ hPv st₂ hk₂ => ?_
        have nI : ∀ c, c ≠ I → c ∉ [I] := fun c hc hm => hc (List.mem_singleton.mp hm)
        refine wpAny_assign_Name (wpAny_storeName_local (lookup_relabel_local hx) (hn'.at' fun o e => hk₂ _ o (nI _ (Ne.symm hIC)) e) (fun h₃ hn₃ hs₃ => ?_) (by simp [compEnvC, relabel, hkind]))
        have hv : vs[i]? = some v := by simpa using hPv
        have st₃ : h₃.IsTupleIter I ax (i + 1) ∧ h₃.IsTuple ax vs.toArray := W.frame _ _ _ st₂ fun c hc o e => hs₃.extBut c o (fun q => by
          rcases List.mem_cons.mp hc with e1 | hc
          · exact hIC (e1 ▸ q)
          · have := List.mem_singleton.mp hc
            exact lt1 axI (this ▸ q)) e
        obtain ⟨oI, heI, hcI, hdI⟩ := id st₃.1
        obtain ⟨oC, heC, hoC⟩ := ns_obj hn₃
        have F₃ : Fr h₀ L h₃ m := (fr_but F' hk₂ hLI hI0).change hs₃ (Ne.symm hLC) hC0
        have N₃ : News h₀ L h₃ ((I, oI) :: (I + 1 + 1, oC) :: (I + 1, oD) :: news) := fun p hp => by
          rcases List.mem_cons.mp hp with rfl | hp
          · exact ⟨heI, Ne.symm hLI, hI0⟩
          · rcases List.mem_cons.mp hp with rfl | hp
            · exact ⟨heC, Ne.symm hLC, hC0⟩
            · have z := N' p hp
              refine ⟨hs₃.extBut _ _ ?_ (hk₂ _ _ (nI _ ?_) z.1), z.2⟩
              · rcases List.mem_cons.mp hp with rfl | hp
                · exact hDC
                · exact lt1 (offN p hp)
              · rcases List.mem_cons.mp hp with rfl | hp
                · exact Ne.symm hID
                · exact Nat.ne_of_lt (offN p hp)
        refine wpAny_mono (turn i v I oI (I + 1 + 1) oC (I + 1) oD _ h₃ _ _ hv hoC (by simp) F₃ N₃ off0 ⟨hIC, hID, Ne.symm hDC⟩) (fun y s₄ h₄ => ?_) fun _ _ e => e
        obtain ⟨h₄, tk₄, news₄, rfl, F₄, N₄, off₄, hS₄, rfl, rfl⟩ := h₄
        have zI := (N₄ (I, oI) List.mem_cons_self).1
        have zC := (N₄ (I + 1 + 1, oC) (List.mem_cons_of_mem _ List.mem_cons_self)).1
        have zD := (N₄ (I + 1, oD) (List.mem_cons_of_mem _ (List.mem_cons_of_mem _ List.mem_cons_self))).1
        have N₄' : News h₀ L h₄ news₄ := fun p hp => N₄ p (List.mem_cons_of_mem _ (List.mem_cons_of_mem _ (List.mem_cons_of_mem _ hp)))
        have fin2 : ∀ h₅ tk₅ ep, Heap.SameBut (I + 1) h₄ h₅ → h₅.get? (I + 1) = some (set1 b ep) → ∃ k', k' < vs.length + 1 - i ∧ ∃ h' tk i m' oD, ({ s₁ with heap := h₅, toks := tk₅ } : Shared) = { s₁ with heap := h', toks := tk } ∧ i ≤ vs.length ∧ k' = vs.length + 1 - i ∧ (h'.IsTupleIter I ax i ∧ h'.IsTuple ax vs.toArray) ∧ Fr h₀ L h' m ∧ h'.Ns (I + 1 + 1) m' ∧ News h₀ L h' ((I + 1, oD) :: news₄) ∧ (i = 0 → oD = set0 b) ∧ (0 < i → ∃ ep, oD = set1 b ep) := by
          intro h₅ tk₅ ep hs₅ hD₅
          refine ⟨vs.length + 1 - (i + 1), by omega, h₅, tk₅, i + 1, _, set1 b ep, rfl, hlt, rfl, ⟨⟨oI, hs₅.extBut _ _ hID zI, hcI, hdI⟩, ⟨_, hs₅.extBut _ _ (Nat.ne_of_lt (Nat.lt_succ_of_lt axI)) (N₄' _ hS₄).1, rfl, 0, rfl⟩⟩, F₄.change hs₅ (Ne.symm hLD) hD0, (hoC.ns zC).sameBut hs₅ (Ne.symm hDC), fun p hp => ?_, fun h => absurd h (Nat.succ_ne_zero _), fun _ => ⟨ep, rfl⟩⟩
          rcases List.mem_cons.mp hp with rfl | hp
          · exact ⟨hD₅, Ne.symm hLD, hD0⟩
          · exact ⟨hs₅.extBut _ _ (Nat.ne_of_lt (Nat.lt_succ_of_lt (offN p hp))) (N₄' p hp).1, (N₄' p hp).2⟩
        rcases Nat.eq_zero_or_pos i with h0 | h0
        · rw [ho0 h0] at zD
          exact setAdd_first zD fun h₅ ep hs₅ hD₅ => fin2 h₅ _ ep hs₅ hD₅
        · obtain ⟨ep, he⟩ := ho1 h0
          rw [he] at zD
          exact setAdd_again zD (fin2 h₄ _ ep (Heap.SameBut.refl ..) zD)
      · obtain rfl : i = vs.length := Nat.le_antisymm hi (Nat.not_lt.mp hlt)
        obtain ⟨ep, rfl⟩ := ho1 hn0
        refine W.done _ _ _ st' fun h₂ tk₂ hk₂ => ?_
        have nI : ∀ c, c ≠ I → c ∉ [I] := fun c hc hm => hc (List.mem_singleton.mp hm)
        refine ⟨_, hn'.at' fun o e => hk₂ _ o (nI _ (Ne.symm hIC)) e, fun h'' hs'' => ?_⟩
        refine fin (I + 1) h'' tk₂ ep ((fr_but F' hk₂ hLI hI0).change hs'' (Ne.symm hLC) hC0) (fun p hp => ?_) off0.one
        refine ⟨hs''.extBut _ _ ?_ (hk₂ _ _ (nI _ ?_) (N' p hp).1), (N' p hp).2⟩
        · rcases List.mem_cons.mp hp with rfl | hp
          · exact hDC
          · exact lt1 (offN p hp)
        · rcases List.mem_cons.mp hp with rfl | hp
          · exact Ne.symm hID
          · exact Nat.ne_of_lt (offN p hp)
    · rcases List.mem_cons.mp hp with rfl | hp
      · exact ⟨gD, Ne.symm hLD, hD0⟩
      · exact ⟨keep1 _ _ (N p hp).1, (N p hp).2⟩
  exact compStart_set (main _ rfl) (W.self 0 _ _ _ st0 (main _ rfl))
end
end
section
open PySem PySem.W PyProof.Rows PySem.Calls PySem.Spec PySem.SeqAt
set_option maxHeartbeats 1000000
section
variable {prog : Program} {w : World} {A : Around} {E : Value → Shared → Prop} {s : Shared} {h₀ : Heap} {L t : Addr} {m : Str → Option Value} {news : List (Addr × Obj)} {vs : List Value}
theorem truthyT {Q : Bool → Shared → Prop} (N : News h₀ L s.heap news) (hm : (t, tupO vs) ∈ news) (hp : 0 < vs.length) (hz : vs.length ≤ 1000) (h : Q true { s with toks := s.toks + 1 + 1 }) : wpAny (model prog w) A (truthy (.ref t)) Q E s := by
  refine ktl_truthyK N hm hz ?_
  have e : (!vs.isEmpty) = true := by cases vs with
    | nil => cases hp
    | cons a r => rfl
  rw [e]; exact h
theorem item0T {value slice : PySem.Expr} {u : Tok} {x : Value} {Q : Value → Shared → Prop} (N : News h₀ L s.heap news) (hm : (t, tupO vs) ∈ news) (hx : vs[0]? = some x) (h : Q x s)
    (hs : subscripted slice false (.ref t) (.int 0 u) = operate [.ref t, .int 0 u] (getItem (.ref t) (.int 0 u)) := by with_unfolding_all rfl) (hg : ∀ r, letTemporaryGo value (.ref t) r = pure () := by intro _; with_unfolding_all rfl) :
    wpAny (model prog w) A (subscriptTail value slice (.ref t) (.int 0 u)) Q E s := by
  have hp : 0 < vs.length := (List.getElem?_eq_some_iff.mp hx).1
  refine kim_tup (j := 0) (l := vs) N hm rfl rfl (by decide) (by decide) ?_ hx h hs hg
  have e : (if (0 : Int) < 0 then (0 : Int) + (vs.length : Nat) else 0) = 0 := if_neg (by decide)
  have e2 : (decide ((0 : Int) ≤ 0) && decide ((0 : Int) < (vs.length : Nat))) = true := by simp [Bool.and_eq_true]; exact hp
  unfold seqIndex?
  simp only [e]
  rw [if_pos e2]; rfl
/-- a try whose body raises nothing -/
theorem tryQuiet {env : Env} {body orelse : List Stmt} {e₀ : ExceptHandler} {hs : List ExceptHandler} {pos : Pos} {Q : Flow → Shared → Prop}
    (h : wpAny (model prog w) A (execs body env) (fun f s₁ => match f with | .next => wpAny (model prog w) A (execs orelse env) Q E s₁ | f => Q f s₁) (fun _ _ => False) s) :
    wpAny (model prog w) A (exec (.Try body (e₀ :: hs) orelse [] pos) env) Q E s :=
  wpAny_Try_except (wpAny_mono h (fun _ _ q => q) fun _ _ e => e.elim)
/-- one name from a set of Trues -/
theorem assignSet1 {env : Env} {x : Str} {px pos : Pos} {k : Nat} {D : Addr} {ep : Nat} {Q : Unit → Shared → Prop} (hh : A.handled = none) (hL : env.locals = L) (F : Fr h₀ L s.heap m) (N : News h₀ L s.heap ((D, set1 (w.params.followText "set-order") ep) :: news))
    (hx : env.kindOf x = some .local) (hk : env.scope.kind = .function)
    (h : ∀ h' tk, Fr h₀ L h' (fun y => if y = x then some (.bool true) else m y) → News h₀ L h' news → Q () { s with heap := h', toks := tk }) :
    wpAny (model prog w) A (assign (.Tuple [.Name x px] k pos) env (.ref D)) Q E s := by
  subst hL
  rw [assign_Tuple]
  refine wpAny_bind (wpAny_standAt ?_)
  unfold unpack
  have hD := (N _ (.head _)).1
  show wpAny _ _ (holding [.ref D] (unpackItems (.ref D) 1 none) >>= _) _ _ _
  refine wpAny_bind (wpAny_holding (unpackItems_set1 hh rfl hD fun h₁ he => ?_))
  have F₁ : Fr h₀ env.locals h₁ m := ⟨F.ns.at' fun o e => he _ o (Nat.ne_of_lt (Heap.lt_size e)) e, fun b o e => he b o (Nat.ne_of_lt (Heap.lt_size (F.keep _ _ e))) (F.keep b o e), F.above⟩
  have N₁ : News h₀ env.locals h₁ news := fun p hp => ⟨he _ _ (Nat.ne_of_lt (Heap.lt_size (N p (.tail _ hp)).1)) (N p (.tail _ hp)).1, (N p (.tail _ hp)).2⟩
  show wpAny _ _ (assignInOrder [assign (.Name x px) env] [.bool true]) _ _ _
  unfold assignInOrder
  refine wpAny_bind (wpAny_holding ?_)
  refine wpAny_assign_Name (wpAny_storeName_local hx F₁.ns (fun h₂ hn₂ hs₂ => ?_) (by rw [hk]; rfl))
  unfold assignInOrder
  exact wpAny_pure (h h₂ _ (F₁.set hn₂ hs₂) (N₁.set hs₂))
end
end
section
open PySem PySem.W PyProof.Rows PySem.Calls PySem.Spec PySem.SeqAt
set_option maxHeartbeats 1000000
abbrev enObj (it : Addr) (i : Int) (old : Value) : Obj := { cls := .type "enumerate", dict := none, data := .fields #[.none, .bool false, .ref it, rawInt i, .none, old], slots := #[] }
def ItIs (o : Obj) (l : Addr) (i : Nat) : Prop := o.cls = .type "list_iterator" ∧ o.data = .fields #[.ref l, .int (i : Int) 0]
section
variable {prog : Program} {w : World} {A : Around} {E : Value → Shared → Prop} {s : Shared} {h₀ : Heap} {L l : Addr} {m : Str → Option Value} {news : List (Addr × Obj)} {vs : List Value} {n : Nat}
theorem enumNewL {Q : Value → Shared → Prop} (F : Fr h₀ L s.heap m) (N : News h₀ L s.heap news) (hl : (l, W.listOf vs.toArray n) ∈ news)
    (h : ∀ it e oit h', Fr h₀ L h' m → News h₀ L h' ((e, enObj it 0 .none) :: (it, oit) :: news) → ItIs oit l 0 → (∀ p ∈ news, p.1 < it) → it < e → Q (.ref e) { s with heap := h' }) :
    wpAny (model prog w) A (call (.type "enumerate") [.ref l]) Q E s := by
  refine call_enumerate_1 (N _ hl).1 fun h' he hit hz hk => ?_
  have hL : L < s.heap.objs.size := F.ns.lt
  have none : ∀ b, s.heap.objs.size ≤ b → h₀.get? b = none := fun b hb => by
    cases e : h₀.get? b with
    | none => rfl
    | some o => exact absurd (Heap.lt_size (F.keep _ _ e)) (Nat.not_lt.mpr hb)
  obtain ⟨oi, hoi, hc, hd⟩ := hit
  refine h s.heap.objs.size (s.heap.objs.size + 1) oi h' (F.keeps hk) (fun p hp => ?_) ⟨hc, hd⟩ (fun p hp => Heap.lt_size (N p hp).1) (Nat.lt_succ_self _)
  rcases List.mem_cons.mp hp with rfl | hp
  · exact ⟨he, Nat.ne_of_gt (Nat.lt_succ_of_lt hL), none _ (Nat.le_succ _)⟩
  · rcases List.mem_cons.mp hp with rfl | hp
    · exact ⟨hoi, Nat.ne_of_gt hL, none _ (Nat.le_refl _)⟩
    · exact ⟨hk _ _ (N p hp).1, (N p hp).2⟩

/-- a turn's end of a loop over enumerate -/
def EnEnd (h₀ : Heap) (L : Addr) (J : (Str → Option Value) → List (Addr × Obj) → Prop) (e : Addr) (oe : Obj) (it : Addr) (oit : Obj) (s₁ : Shared) (Q : Flow → Shared → Prop) (f : Flow) (s₂ : Shared) : Prop :=
  match f with
  | .ret v => Q (.ret v) s₂
  | .brk => Q .next s₂
  | _ => ∃ h' tk m' nx, s₂ = { s₁ with heap := h', toks := tk } ∧ Fr h₀ L h' m' ∧ News h₀ L h' ((e, oe) :: (it, oit) :: nx) ∧ (∀ p ∈ nx, p.1 ≠ e ∧ p.1 ≠ it) ∧ J m' nx

theorem forEnum {env : Env} {body : List Stmt} {Q : Flow → Shared → Prop} {xi xv : Str} {pi pv pt : Pos} {x1} {e it : Addr} {oit : Obj} {m₀ : Str → Option Value} (J : Nat → (Str → Option Value) → List (Addr × Obj) → Prop)
    (hh : A.handled = none) (hxi : env.kindOf xi = some .local) (hxv : env.kindOf xv = some .local) (hk : env.scope.kind = .function)
    (hJl : ∀ i m nx, J i m nx → (l, W.listOf vs.toArray n) ∈ nx) (hit : ItIs oit l 0) (hie : it < e) (hlt : ∀ p ∈ news, p.1 < it)
    (F : Fr h₀ env.locals s.heap m₀) (N : News h₀ env.locals s.heap ((e, enObj it 0 .none) :: (it, oit) :: news)) (hj : J 0 m₀ news)
    (turn : ∀ (i : Nat) (v : Value) m₁ nx oe oit h tk tk', vs[i]? = some v → J i m₁ nx → (∀ p ∈ nx, p.1 ≠ e ∧ p.1 ≠ it) → Fr h₀ env.locals h (fun y => if y = xv then some v else if y = xi then some (.int i tk') else m₁ y) → News h₀ env.locals h ((e, oe) :: (it, oit) :: nx) →
      wpAny (model prog w) A (execs body env) (EnEnd h₀ env.locals (J (i + 1)) e oe it oit s Q) (fun _ _ => False) { s with heap := h, toks := tk })
    (done : ∀ m₁ nx h tk, J vs.length m₁ nx → Fr h₀ env.locals h m₁ → News h₀ env.locals h nx → Q .next { s with heap := h, toks := tk }) :
    ForAt prog w A (.Tuple [.Name xi pi, .Name xv pv] x1 pt) body env Q E (.ref e) s := by
  have hp : (env.scope.kind == .class || (env.scope.kind == .module && env.locals != env.globals)) = false := by rw [hk]; rfl
  have nE := N _ (.head _)
  have nI := N _ (.tail _ (.head _))
  unfold ForAt
  refine wpAny_pyIter_enum nE.1 ?_
  have hei : e ≠ it := Nat.ne_of_gt hie
  have heL := nE.2.1
  have hiL := nI.2.1
  refine codeAny_forLoop_t (fun k s' => ∃ h' tk m' nx i old oit', s' = { s with heap := h', toks := tk } ∧ Fr h₀ env.locals h' m' ∧ News h₀ env.locals h' ((e, enObj it ((i : Nat) : Int) old) :: (it, oit') :: nx) ∧ ItIs oit' l i ∧ (∀ p ∈ nx, p.1 ≠ e ∧ p.1 ≠ it) ∧ J i m' nx ∧ i ≤ vs.length ∧ k = vs.length + 1 - i) ?_ (vs.length + 1)
    ⟨s.heap, s.toks, m₀, news, 0, .none, oit, rfl, F, N, hit, fun p hp => ⟨Nat.ne_of_lt (Nat.lt_trans (hlt p hp) hie), Nat.ne_of_lt (hlt p hp)⟩, hj, Nat.zero_le _, rfl⟩
  rintro k s' ⟨H, tk, m', nx, i, old, oit', rfl, F', N', hit', hoff, hJ, hi, rfl⟩
  have nE' := N' _ (.head _)
  have nI' := N' _ (.tail _ (.head _))
  have Nx : News h₀ env.locals H nx := fun p hp => N' p (.tail _ (.tail _ hp))
  have itr : H.IsListIter it l i := ⟨oit', nI'.1, hit'.1, hit'.2⟩
  have hl' : H.IsList l vs.toArray := ⟨_, (Nx _ (hJl _ _ _ hJ)).1, rfl, n, rfl⟩
  by_cases hlt' : i < vs.length
  · have hx : vs.toArray[i]? = some vs[i] := by simp [hlt']
    refine wpAny_pyNext_enum_item nE'.1 itr hl' hx hei fun h₁ heo hit₁ ht₁ hz₁ hk₁ => ?_
    refine wpAny_letOwnedTupleGo_enum heo fun h₂ he₂ hs₂ => ?_
    replace hs₂ : Heap.SameBut e h₁ h₂ := hs₂
    have heH : e < H.objs.size := Heap.lt_size nE'.1
    have hiH : it < H.objs.size := Heap.lt_size nI'.1
    have hLH : env.locals < H.objs.size := F'.ns.lt
    have ht₂ : h₂.IsTuple H.objs.size #[.int i tk, vs[i]] := ⟨_, (hs₂.2 _ (Nat.ne_of_gt heH)).trans ht₁, rfl, _, rfl⟩
    have hz₂ : h₂.objs.size = H.objs.size + 1 := hs₂.1.trans hz₁
    refine wpAny_assign_Tuple hh ht₂ rfl rfl fun h₃ hx₃ => ?_
    replace hx₃ : Heap.ExtBut h₂.objs.size h₂ h₃ := hx₃
    have old₃ : ∀ b o, b < H.objs.size → h₂.get? b = some o → h₃.get? b = some o := fun b o hb x => hx₃ b o (by rw [hz₂]; exact Nat.ne_of_lt (Nat.lt_succ_of_lt hb)) x
    have up₃ : ∀ b o, b ≠ e → b ≠ it → H.get? b = some o → h₃.get? b = some o := fun b o hbe hbi x => old₃ b o (Heap.lt_size x) (hs₂.extBut b o hbe (hk₁ b o hbe hbi x))
    have h0e : ∀ b o, h₀.get? b = some o → b ≠ e ∧ b ≠ it := fun b o x => ⟨fun q => (by rw [q, nE.2.2] at x; cases x), fun q => (by rw [q, nI.2.2] at x; cases x)⟩
    have F₃ : Fr h₀ env.locals h₃ m' := ⟨F'.ns.at' fun o x => up₃ _ o (Ne.symm heL) (Ne.symm hiL) x, fun b o x => up₃ b o (h0e b o x).1 (h0e b o x).2 (F'.keep b o x), F'.above⟩
    obtain ⟨oit₁, hoit₁, hc₁, hd₁⟩ := hit₁
    have gE₃ : h₃.get? e = some (enObj it ((i : Int) + 1) vs[i]) := old₃ _ _ heH he₂
    have gI₃ : h₃.get? it = some oit₁ := old₃ _ _ hiH (hs₂.extBut _ _ (Ne.symm hei) hoit₁)
    have N₃ : News h₀ env.locals h₃ ((e, enObj it ((i : Int) + 1) vs[i]) :: (it, oit₁) :: nx) := fun p hp => by
      rcases List.mem_cons.mp hp with rfl | hp
      · exact ⟨gE₃, nE.2⟩
      · rcases List.mem_cons.mp hp with rfl | hp
        · exact ⟨gI₃, nI.2⟩
        · exact ⟨up₃ _ _ (hoff p hp).1 (hoff p hp).2 (Nx p hp).1, (Nx p hp).2⟩
    show wpAny _ A (do holding [vs[i]] (assign (.Name xi pi) env (.int i tk)); do holding [] (assign (.Name xv pv) env vs[i]); pure ()) _ _ _
    refine wpAny_bind (wpAny_holding (wpAny_assign_Name (wpAny_storeName_local hxi F₃.ns (fun h₄ hn₄ hs₄ => ?_) hp)))
    refine wpAny_bind (wpAny_holding (wpAny_assign_Name (wpAny_storeName_local hxv hn₄ (fun h₅ hn₅ hs₅ => wpAny_pure ?_) hp)))
    have F₅ := (F₃.set hn₄ hs₄).set hn₅ hs₅
    have N₅ := (N₃.set hs₄).set hs₅
    refine wpAny_mono (turn i vs[i] m' nx _ oit₁ _ _ tk (List.getElem?_eq_getElem hlt') hJ hoff F₅ N₅) (fun f s₃ h₆ => ?_) fun _ _ x => x
    have fin : (∃ h' tk m'' nx', s₃ = { s with heap := h', toks := tk } ∧ Fr h₀ env.locals h' m'' ∧ News h₀ env.locals h' ((e, enObj it ((i : Int) + 1) vs[i]) :: (it, oit₁) :: nx') ∧ (∀ p ∈ nx', p.1 ≠ e ∧ p.1 ≠ it) ∧ J (i + 1) m'' nx') →
        ∃ k', k' < vs.length + 1 - i ∧ ∃ h' tk m' nx i old oit', s₃ = { s with heap := h', toks := tk } ∧ Fr h₀ env.locals h' m' ∧ News h₀ env.locals h' ((e, enObj it ((i : Nat) : Int) old) :: (it, oit') :: nx) ∧ ItIs oit' l i ∧ (∀ p ∈ nx, p.1 ≠ e ∧ p.1 ≠ it) ∧ J i m' nx ∧ i ≤ vs.length ∧ k' = vs.length + 1 - i := by
      rintro ⟨h', tk', m'', nx', rfl, F₆, N₆, hoff₆, hJ₆⟩
      have ec : ((i : Int) + 1) = ((i + 1 : Nat) : Int) := by push_cast; rfl
      rw [ec] at N₆
      exact ⟨vs.length + 1 - (i + 1), by omega, h', tk', m'', nx', i + 1, _, oit₁, rfl, F₆, N₆, ⟨hc₁, hd₁⟩, hoff₆, hJ₆, hlt', rfl⟩
    cases f with
    | ret v => exact h₆
    | brk => exact h₆
    | next => exact fin h₆
    | cont => exact fin h₆
  · have hin : i = vs.length := by omega
    subst hin
    refine wpAny_pyNext_enum_end hh nE'.1 itr hl' (by simp) fun h₁ he₁ => wpAny_execs_nil ?_
    refine done m' nx h₁ tk hJ ⟨F'.ns.at' fun o x => he₁ _ o (Ne.symm hiL) x, fun b o x => he₁ b o (fun q => by rw [q, nI.2.2] at x; cases x) (F'.keep b o x), F'.above⟩ fun p hp => ⟨he₁ _ _ (hoff p hp).2 (Nx p hp).1, (Nx p hp).2⟩
end
end
section
open PySem PySem.W PyProof.Rows PySem.Calls PySem.Spec PySem.SeqAt
set_option maxHeartbeats 1000000
theorem RowsAre.snoc {h : Heap} {a : Addr} {ws : List Value} {n : Nat} {row : List Str} {vs : List Value} {rows : List (List Str)} (R : RowsAre h vs rows) (ha : h.get? a = some (W.listOf ws.toArray n)) (hs : StrsAre ws row) : RowsAre h (vs ++ [.ref a]) (rows ++ [row]) := by
  induction R with
  | nil => exact .cons ha hs .nil
  | cons e s _ ih => exact .cons e s ih
/-- rows that stand on the ledger, the newest first -/
inductive RowsLed : List (Addr × Obj) → List Value → List (List Str) → Prop
  | nil : RowsLed [] [] []
  | cons {led : List (Addr × Obj)} {a : Addr} {ws : List Value} {n : Nat} {row : List Str} {vs rows} : RowsLed led vs rows → StrsAre ws row → RowsLed ((a, W.listOf ws.toArray n) :: led) (vs ++ [.ref a]) (rows ++ [row])
theorem RowsLed.are {led : List (Addr × Obj)} {vs : List Value} {rows : List (List Str)} {h : Heap} (R : RowsLed led vs rows) (k : ∀ p ∈ led, h.get? p.1 = some p.2) : RowsAre h vs rows := by
  induction R with
  | nil => exact .nil
  | cons _ s ih => exact (ih fun p hp => k p (.tail _ hp)).snoc (k _ (.head _)) s
theorem RowsLed.len {led : List (Addr × Obj)} {vs : List Value} {rows : List (List Str)} (R : RowsLed led vs rows) : vs.length = rows.length := by
  induction R with
  | nil => rfl
  | cons _ _ ih => simp [ih]
theorem RowsLed.item {led : List (Addr × Obj)} {vs : List Value} {rows : List (List Str)} (R : RowsLed led vs rows) {i : Nat} {v : Value} (hv : vs[i]? = some v) :
    ∃ a ws n row, v = .ref a ∧ rows[i]? = some row ∧ (a, W.listOf ws.toArray n) ∈ led ∧ StrsAre ws row := by
  induction R with
  | nil => simp at hv
  | cons R' s ih =>
    rename_i led a ws n row vs rows
    have hl := R'.len
    rcases Nat.lt_trichotomy i vs.length with h | h | h
    · rw [List.getElem?_append_left h] at hv
      obtain ⟨a', ws', n', row', e1, e2, e3, e4⟩ := ih hv
      exact ⟨a', ws', n', row', e1, by rw [List.getElem?_append_left (by omega)]; exact e2, .tail _ e3, e4⟩
    · subst h
      simp at hv
      subst hv
      exact ⟨a, ws, n, row, rfl, by rw [hl]; simp, .head _, s⟩
    · rw [List.getElem?_eq_none (by rw [List.length_append, List.length_singleton]; omega)] at hv
      cases hv
def okc (c : Str) : Bool := decide (c.length ≠ 0) && c != Str.ofString "."
def compsOf (p : Str) : List Str := (Txt.split p (Str.ofString "/")).filter okc
theorem okc_a {y : Str} (h1 : (y.length : Int) ≠ 0) (h2 : (y != Str.ofString ".") = true) : okc y = true := by
  unfold okc; rw [h2, Bool.and_true]; exact decide_eq_true (by omega)
theorem okc_b {y : Str} (h2 : (y != Str.ofString ".") = false) : okc y = false := by unfold okc; rw [h2, Bool.and_false]
theorem okc_c {y : Str} (h1 : (y.length : Int) = 0) : okc y = false := by unfold okc; rw [decide_eq_false (by omega), Bool.false_and]
theorem filt_yes {row : List Str} {j : Nat} {y : Str} {f : Str → Bool} (hy : row[j]? = some y) (h : f y = true) : (row.take (j + 1)).filter f = (row.take j).filter f ++ [y] := by
  rw [List.take_add_one, hy, List.filter_append]; simp [h]
theorem filt_no {row : List Str} {j : Nat} {y : Str} {f : Str → Bool} (hy : row[j]? = some y) (h : f y = false) : (row.take (j + 1)).filter f = (row.take j).filter f := by
  rw [List.take_add_one, hy, List.filter_append]; simp [h]
theorem sumL_filter (xs : List Str) (f : Str → Bool) : sumL (xs.filter f) ≤ sumL xs := by
  induction xs with
  | nil => simp
  | cons x r ih =>
    have e : sumL (x :: r) = (x.length + 1) + sumL r := by simp [sumL]
    rw [List.filter_cons]
    split
    · have e2 : sumL (x :: r.filter f) = (x.length + 1) + sumL (r.filter f) := by simp [sumL]
      omega
    · omega
theorem comps_sum (p : Str) : sumL (compsOf p) ≤ p.length + 1 := by
  have h1 := sumL_filter (Txt.split p (Str.ofString "/")) okc
  have h2 := split_weight p (Str.ofString "/") (by decide +kernel)
  have h3 := sumL_eq (Txt.split p (Str.ofString "/"))
  unfold compsOf
  omega
end
section
set_option maxHeartbeats 1000000
theorem strLt_irrefl (a : Str) : strLt a a = false := by unfold strLt; exact decide_eq_false (List.lt_irrefl _)
theorem strLt_trans {a b c : Str} (h1 : strLt a b = true) (h2 : strLt b c = true) : strLt a c = true := by
  unfold strLt at *
  exact decide_eq_true (List.lt_trans (of_decide_eq_true h1) (of_decide_eq_true h2))
theorem ltL_irrefl (a : List Str) : ltL a a = false := by
  induction a with
  | nil => rfl
  | cons x r ih => simp only [ltL, if_true]; exact ih
theorem ltL_trans {a b c : List Str} (h1 : ltL a b = true) (h2 : ltL b c = true) : ltL a c = true := by
  induction a generalizing b c with
  | nil =>
    cases c with
    | nil => cases b <;> cases h2
    | cons z t => rfl
  | cons x r ih =>
    cases b with
    | nil => cases h1
    | cons y s =>
      cases c with
      | nil => cases h2
      | cons z t =>
        simp only [ltL] at h1 h2 ⊢
        by_cases e1 : x = y
        · rw [if_pos e1] at h1
          by_cases e2 : y = z
          · rw [if_pos e2] at h2
            rw [if_pos (e1.trans e2)]
            exact ih h1 h2
          · rw [if_neg e2] at h2
            rw [if_neg (by rw [e1]; exact e2), e1]
            exact h2
        · rw [if_neg e1] at h1
          by_cases e2 : y = z
          · rw [if_neg (by rw [← e2]; exact e1), ← e2]
            exact h1
          · rw [if_neg e2] at h2
            have h3 := strLt_trans h1 h2
            by_cases e3 : x = z
            · rw [e3, strLt_irrefl] at h3; cases h3
            · rw [if_neg e3]; exact h3
/-- the least of the first ones is none's greater -/
theorem best_min {lt : Nat → Nat → Bool} (hi : ∀ a, lt a a = false) (ht : ∀ a b c, lt a b = true → lt b c = true → lt a c = true) (k : Nat) : ∀ j, j ≤ k → lt j (argBest lt k) = false := by
  induction k with
  | zero => intro j hj; obtain rfl : j = 0 := Nat.le_zero.mp hj; exact hi 0
  | succ k ih =>
    intro j hj
    unfold argBest
    cases hb : lt (k + 1) (argBest lt k) with
    | true =>
      simp only [if_true]
      rcases Nat.lt_or_ge j (k + 1) with h | h
      · cases hc : lt j (k + 1) with
        | false => rfl
        | true => have := ht _ _ _ hc hb; rw [ih j (by omega)] at this; cases this
      · obtain rfl : j = k + 1 := by omega
        exact hi _
    | false =>
      simp only [Bool.false_eq_true, if_false]
      rcases Nat.lt_or_ge j (k + 1) with h | h
      · exact ih j (by omega)
      · obtain rfl : j = k + 1 := by omega
        exact hb
theorem best_le (lt : Nat → Nat → Bool) (k : Nat) : argBest lt k ≤ k := by
  induction k with
  | zero => exact Nat.le_refl _
  | succ k ih => unfold argBest; split <;> omega
theorem min_rows (rows : List (List Str)) (k : Nat) : ∀ j, j ≤ k → ltL (rows.getD j []) (rows.getD (argBest (fun i j => ltL (rows.getD i []) (rows.getD j [])) k) []) = false :=
  best_min (lt := fun i j => ltL (rows.getD i []) (rows.getD j [])) (fun _ => ltL_irrefl _) (fun _ _ _ h1 h2 => ltL_trans h1 h2) k
theorem max_rows (rows : List (List Str)) (k : Nat) : ∀ j, j ≤ k → ltL (rows.getD (argBest (fun i j => ltL (rows.getD j []) (rows.getD i [])) k) []) (rows.getD j []) = false :=
  best_min (lt := fun i j => ltL (rows.getD j []) (rows.getD i [])) (fun _ => ltL_irrefl _) (fun _ _ _ h1 h2 => ltL_trans h2 h1) k
theorem getD_of {rows : List (List Str)} {k : Nat} {r : List Str} (h : rows[k]? = some r) : rows.getD k [] = r := by rw [List.getD_eq_getElem?_getD, h]; rfl
/-- alike so far, the greater one goes on -/
theorem lt_next {a b : List Str} (h : ltL b a = false) {i : Nat} (hi : i < a.length) (he : a.take i = b.take i) : i < b.length := by
  induction i generalizing a b with
  | zero =>
    cases b with
    | nil => cases a with
      | nil => cases hi
      | cons x r => cases h
    | cons y s => simp
  | succ i ih =>
    cases a with
    | nil => cases hi
    | cons x r =>
      cases b with
      | nil => cases he
      | cons y s =>
        simp only [List.take_succ_cons, List.cons.injEq] at he
        obtain ⟨rfl, he⟩ := he
        simp only [ltL, if_true] at h
        have := ih h (by simpa using hi) he
        simpa using this
theorem Has.frx2 {h₀ h : Heap} {L : Addr} {m : Str → Option Value} {ps : List (Str × Value)} {x y : Str} {v u : Value} (H : Has m ps) (F : Fr h₀ L h (fun z => if z = x then some v else if z = y then some u else m z)) : Fr h₀ L h (fun z => if z = x then some v else if z = y then some u else kstB m ps z) := by
  have e : kstB m ps = m := funext fun z => kstB_eq H fun _ => rfl
  rw [e]; exact F
end
section
set_option maxHeartbeats 4000000
theorem fillC3 : (P0 = P0) ∧ K0 = K0 := by
  w_top off
  k_with_none
  (k_with "call builtin:issubclass" => ((with_reducible show wpAny _ _ (call (Value.builtin "issubclass") [Value.type "str", Value.ref _]) _ _ _); k_dflt (refine issub_str (by exact News.get (by k_asm) (by k_mem)) ?_; k_whole)))
  (k_with "mine contract" => (k_dflt ((case ho => k_is); (case hcd => k_is); (case hbind => intro s; exact BindsTo.of_eq rfl); (case hcell => decide); (case hloc => exact locs rfl); (case hco => exact rfl); (case hgen => exact rfl); (case hk => exact rfl)); intro mean mg mb h₀ ge dr tk os dp un fr gd L h₁ X T hdp hun pre F N; (try dsimp only); (try k_fold); k_steps))
  (k_with "mine room" => (simp only [Around.deeper, Around.in1, Ar] at *; omega))
  (k_with "mine use" => ((case k1 => k_asm); (case k2 => k_asm); (case k3 => k_asm); (case k4 => k_asm); (case k5 => exact rfl); (case k6 => walk_at "mine room"); (case k7 => walk_at "mine room")))
  (k_with "call ref" => ((with_reducible show wpAny _ _ (call (Value.ref 101) [Value.str _ _]) _ _ _); k_dflt (refine' use (fspath_c _ _ _) (by k_asm) (by k_asm) (by k_asm) (by k_asm) (by exact rfl) (by walk_at "mine room") (by walk_at "mine room") trivial ?_; k_whole); intro r' h' tk' F' N' kp' po'; subst po'; clear kp'; (try k_sweep); (try dsimp only)))
  (k_with "call ref" => ((with_reducible show wpAny _ _ (call (Value.ref 115) [Value.str _ _]) _ _ _); k_dflt (refine' use (getsep_c _ _ _) (by k_asm) (by k_asm) (by k_asm) (by k_asm) (by exact rfl) (by walk_at "mine room") (by walk_at "mine room") trivial ?_; k_whole); intro r' h' tk' F' N' kp' po'; obtain ⟨t', po'⟩ := po'; subst po'; clear kp'; (try k_sweep); (try dsimp only)))
  (k_with "call ref" => ((with_reducible show wpAny _ _ (call (Value.ref 28) [Value.str _ _]) _ _ _); k_dflt (refine use (strip_c _ _ _ (by walk_at "mine len")) (by k_asm) (by k_asm) (by k_asm) (by k_asm) (by exact rfl) (by walk_at "mine room") (by walk_at "mine room") trivial ?_; k_whole); intro r' h' tk' F' N' kp' po'; obtain ⟨t', po'⟩ := po'; subst po'; clear kp'; (try k_sweep); (try dsimp only)))
  (k_with "mine len" => first | with_reducible assumption | omega | assumption)
  (k_with "mine contract0" => (k_dflt ((case ho => k_is); (case hcd => k_is); (case hbind => intro s; exact BindsTo.of_eq rfl); (case hcell => decide); (case hloc => exact locs rfl); (case hco => exact rfl); (case hgen => exact rfl); (case hk => exact rfl))))
  (k_with "truthy ref" => ((with_reducible show wpAny _ _ (truthy (Value.ref _)) _ _ _); k_dflt (refine truthyL (by k_asm) (by k_mem) (by walk_at "mine len") ?_ ?_) <;> (k_whole; intro hT'; (try dsimp only))))
  (k_with "call builtin:list.append" => ((with_reducible show wpAny _ _ (call (Value.builtin _) [Value.ref _, _]) _ _ _); k_dflt (refine appendL (by k_asm) (by k_asm) (by k_upd) (by walk_at "mine len") ?_; k_whole); intro h' F' N'; (try k_sweep)))
  (k_with "call builtin:list.pop" => ((with_reducible show wpAny _ _ (call (Value.builtin _) [Value.ref _]) _ _ _); k_dflt (refine popL (by k_asm) (by k_asm) (by k_upd) (by assumption) (by walk_at "mine len") ?_; k_whole); intro v' h' F' N'; (try k_sweep)))
  (k_with "call builtin:list.insert" => ((with_reducible show wpAny _ _ (call (Value.builtin _) [Value.ref _, Value.int 0 _, _]) _ _ _); k_dflt (refine insertL (by k_asm) (by k_asm) (by k_upd) (by walk_at "mine len") ?_; k_whole); intro h' F' N'; (try k_sweep)))
  (k_with "subscriptTail" => ((show wpAny _ _ (subscriptTail _ _ (Value.ref _) (Value.int (-1) _)) _ _ _); k_dflt (refine lastL (by k_asm) (by k_mem) (by assumption) (by assumption) ?_; k_whole); intro y' t' hl'; (try dsimp only)))
  (k_with "call builtin:str.join" => ((with_reducible show wpAny _ _ (call (Value.builtin _) [Value.str _ _, Value.ref _]) _ _ _); k_dflt (refine joinL (by k_asm) (by k_mem) (by k_asm) (by walk_at "mine len") ?_; k_whole); intro t' k'; (try dsimp only)))
  (k_with "call ref" => ((with_reducible show wpAny _ _ (call (Value.ref 129) [Value.str _ _]) _ _ _); k_dflt (refine useN (split_c _ _ _ (by walk_at "mine len")) (by k_asm) (by k_asm) (by k_asm) (by k_asm) (by exact rfl) (by walk_at "mine room") (by walk_at "mine room") trivial ?_; k_whole); intro l' o' h' tk' F' N' l1 kp' po'; obtain ⟨t1', t2', po'⟩ := po'; subst po'; clear kp'; (try simp only [AllNe, and_true] at l1); (try k_sweep); (try dsimp only)))
  (k_with "exec While Compare cons nil" => (refine hold ?_))
  (k_with "exec For" => ((with_reducible show wpAny _ _ (exec (Stmt.For (Expr.Tuple _ _ _) _ _ [] _) _) _ _ _); refine for_at ?_))
  (k_with "exec For Tuple" => ((with_reducible show wpAny _ _ (exec (Stmt.For (Expr.Tuple _ _ _) _ _ [] _) _) _ _ _); refine for_at ?_))
  (k_with "mine contractC0" => (k_dflt ((case ho => k_is); (case hcd => k_is); (case hbind => intro s; exact BindsTo.of_eq rfl); (case hkind => exact rfl); (case hnd => decide); (case hco => exact rfl); (case hgen => exact rfl); (case hk => exact rfl))))
  k_fill
  exact ⟨rfl, rfl⟩

set_option maxHeartbeats 1000000
theorem wordsC31 : True := by
  (k_with "CompSrcT" => (refine hold ?_))
  (k_with "CompSrc" => (refine hold ?_))
  (k_with "call type:enumerate" => ((with_reducible show wpAny _ _ (call (Value.type "enumerate") [Value.ref _]) _ _ _); k_dflt (refine enumNewL (by k_asm) (by k_asm) (by k_mem) ?_; k_whole); intro it' e' oit' h' F' N' hit' l1 l2; (try k_sweep)))
  (k_with "exec For Tuple Call" => (refine hold ?_))
  (k_with "subscriptTail Name Name ref int" => ((with_reducible show wpAny _ _ (subscriptTail _ _ (Value.ref _) (Value.int _ _)) _ _ _); k_dflt (refine itemL (by k_asm) (by k_mem) (by assumption) (by omega) (by omega) (by walk_at "mine len") ?_; k_whole); intro y' t' hy'; (try dsimp only)))
  (k_with "subscriptTail Name Slice ref ref" => ((with_reducible show wpAny _ _ (subscriptTail _ (PySem.Expr.Slice none (some _) none _) (Value.ref _) (Value.ref _)) _ _ _); k_dflt (refine takeL (by k_asm) (by k_asm) (by exact News.isList (by k_asm) (by k_mem)) (by exact IsPart.int _ _) (by omega) ?_ (by with_unfolding_all rfl) (by (intro _; with_unfolding_all rfl)) (by assumption); k_whole); intro D' h' F' N' l1; (try k_lt l1); (try k_sweep)))
  (k_with "call builtin:min" => (refine hold ?_))
  (k_with "call builtin:max" => (refine hold ?_))
  (k_with "CompEnd" => (refine hold ?_))
  (k_with "mine units" => ((have hcL9 := cLine_is); (simp only [Around.deeper, Around.in1, Ar] at *; omega)))
  (k_with "call type:map" => ((with_reducible show wpAny _ _ (call (Value.type "map") [_, Value.ref _]) _ _ _); k_dflt (refine mapNewL (by k_asm) (by k_asm) (by assumption) ?_; k_whole); intro I' T' M' h' F' N' l0 l2 l3; (have l1 := l0); (try k_lt l1); (try k_sweep)))
  (k_with "call type:tuple" => ((with_reducible show wpAny _ _ (call (Value.type "tuple") [Value.ref _]) _ _ _); k_dflt (refine tupleMapL (by k_asm) (by k_asm) (by assumption) (by assumption) (by assumption) (by k_asm) (by k_asm) (by exact rfl) (by walk_at "mine room") (by walk_at "mine room") (by assumption) (by assumption) (by assumption) ?_; k_whole); intro D' h' tk' F' N' l1; (try k_lt l1); (try k_sweep)))
  (k_with "truthy ref" => ((with_reducible show wpAny _ _ (truthy (Value.ref _)) _ _ _); k_dflt (refine truthyT (by k_asm) (by k_mem) (by assumption) (by assumption) ?_; k_whole)))
  (k_with "subscriptTail Name Constant ref int" => ((with_reducible show wpAny _ _ (subscriptTail _ _ (Value.ref _) (Value.int 0 _)) _ _ _); k_dflt (refine item0T (by k_asm) (by k_mem) (by assumption) ?_; k_whole)))
  (k_with "exec Try" => ((with_reducible show wpAny _ _ (exec (Stmt.Try _ (_ :: _) _ [] _) _) _ _ _); refine tryQuiet ?_))
  (k_with "exec Assign cons ListComp" => (refine hold ?_))
  (k_with "SrcG" => (refine hold ?_))
  (k_with "mine sub" => (intro p hp; simp only [List.mem_cons] at hp ⊢; grind))
  (k_with "eval SetComp" => (refine hold ?_))
  (k_with "SetSrc" => (refine hold ?_))
  (k_with "mine set1" => ((with_reducible show wpAny _ _ (assign (PySem.Expr.Tuple [PySem.Expr.Name _ _] _ _) _ (Value.ref _)) _ _ _); k_dflt (refine assignSet1 (by exact rfl) (by exact rfl) (by k_asm) (by k_asm) (by exact rfl) (by exact rfl) ?_; k_whole); intro h' tk' F' N'; (try k_sweep)))
  (k_with "assign Tuple" => walk_at "mine set1")
  (k_with "assign" => walk_at "mine set1")
  (k_with "eval ListComp" => (refine hold ?_))
  trivial
/-- what commonpath hands back: of the least and the greatest row the common beginning -/
def CPost (rows : List (List Str)) (rv : Value) : Prop :=
  ∃ r1 r2 k t, r1 ∈ rows ∧ r2 ∈ rows ∧ (∀ r ∈ rows, ltL r r1 = false) ∧ (∀ r ∈ rows, ltL r2 r = false) ∧ k ≤ r1.length ∧ k ≤ r2.length ∧ r1.take k = r2.take k ∧ (k = r1.length ∨ r1[k]? ≠ r2[k]?) ∧
    rv = .str (Str.ofString "/" ++ Txt.join (Str.ofString "/") (r1.take k)) t
theorem cpost {rows : List (List Str)} {r1 r2 : List Str} {k : Nat} {x : Str} {t : Tok} (h1 : r1 ∈ rows) (h2 : r2 ∈ rows) (h3 : ∀ r ∈ rows, ltL r r1 = false) (h4 : ∀ r ∈ rows, ltL r2 r = false) (h5 : k ≤ r1.length) (h6 : k ≤ r2.length) (h7 : r1.take k = r2.take k)
    (h8 : k = r1.length ∨ r1[k]? ≠ r2[k]?) (hx : x = Str.ofString "/" ++ Txt.join (Str.ofString "/") (r1.take k)) : CPost rows (.str x t) := by
  subst hx; exact ⟨r1, r2, k, t, h1, h2, h3, h4, h5, h6, h7, h8, rfl⟩
theorem least_all {rows : List (List Str)} {r1 : List Str} (h : rows[argBest (fun i j => ltL (rows.getD i []) (rows.getD j [])) (rows.length - 1)]? = some r1) : ∀ r ∈ rows, ltL r r1 = false := by
  intro r hr
  obtain ⟨j, hj, e⟩ := List.getElem_of_mem hr
  have h3 := min_rows rows (rows.length - 1) j (by omega)
  rw [getD_of h, getD_of (show rows[j]? = some r by rw [List.getElem?_eq_getElem hj, e])] at h3
  exact h3
theorem most_all {rows : List (List Str)} {r2 : List Str} (h : rows[argBest (fun i j => ltL (rows.getD j []) (rows.getD i [])) (rows.length - 1)]? = some r2) : ∀ r ∈ rows, ltL r2 r = false := by
  intro r hr
  obtain ⟨j, hj, e⟩ := List.getElem_of_mem hr
  have h3 := max_rows rows (rows.length - 1) j (by omega)
  rw [getD_of h, getD_of (show rows[j]? = some r by rw [List.getElem?_eq_getElem hj, e])] at h3
  exact h3
theorem cpath_c (w : World) (pl : Addr) (pvs : List Value) (ps : List Str) (hne : ps ≠ []) (hz : ps.length ≤ 100) (hz0 : ∀ p ∈ ps, p.length ≤ 1000) (hps : ∀ p ∈ ps, Txt.startswith p (Str.ofString "/") = true) (hvs : StrsAre pvs ps) :
    Contract w 148 5 [.ref pl] (fun h => ∃ n, h.get? pl = some (W.listOf pvs.toArray n)) (fun h rv h' => CPost (ps.map compsOf) rv) := by
  k_dflt (refine' contractC (binds := [(Str.ofString "paths", .ref pl)]) ?ho ?hcd ?hbind ?hkind ?hnd ?hco ?hgen ?hk ?_)
  walk_at "mine contractC0"
  intro mean mg mb h₀ ge dr tk os dp un fr gd L h₁ cells X T hdp hun pre F N Y
  obtain ⟨nt, hl⟩ := pre
  obtain ⟨oC0, oS0, hE, dC0, dS0⟩ := CellsAre.two Y
  subst hE
  clear Y
  replace dC0 : oC0.data = Data.cell none := dC0
  replace dS0 : oS0.data = Data.cell none := dS0
  have hpl : pvs.length ≤ 200000 := by rw [strs_len hvs]; omega
  have hz3 : pvs.length ≤ 1000 := by rw [strs_len hvs]; omega
  have hpos : 0 < pvs.length := by rw [strs_len hvs]; exact List.length_pos_iff.mpr hne
  obtain ⟨p0, t0, hp0, hx0⟩ := strs_at hvs (List.getElem?_eq_getElem hpos)
  have hx1 : pvs[0]? = some (.str p0 t0) := by rw [List.getElem?_eq_getElem hpos, hx0]
  (try dsimp only); (try k_fold)
  k_steps
  refine held ?_
  (rename Fr _ _ _ _ => F9); (rename News _ _ _ _ => N9)
  obtain ⟨PT, ob, rest, e1, e2, e3, N9⟩ := led_split N9
  subst e1 e2 e3
  obtain ⟨cC, oC, rest, e1, e2, e3, M8⟩ := led_split (show News h₀ L _ _ from fun p hp => N9 p (.tail _ hp))
  rw [e3] at M8
  obtain ⟨cS, oS, rest', e1', e2', e3', M7⟩ := led_split (show News h₀ L _ _ from fun p hp => M8 p (.tail _ hp))
  subst e2 e2' e1 e1' e3' e3
  clear M8 M7
  rename (oC.data = Data.cell (some (Value.str _ _))) => dC
  rename (oS.data = Data.cell (some (Value.str _ _))) => dS
  k_dflt (refine Assign_ListComp_G F9 (by rfl) (by with_unfolding_all rfl) (by with_unfolding_all rfl) (by decide) (by rfl) (by decide) (by rfl) (by rfl) (by rfl) ?_)
  k_steps
  refine held ?_
  k_dflt (refine SrcG.tuple (by rfl) (by k_asm) (by k_asm) (by show _ ∈ _; k_mem) (by rw [sizeLine_eq]; omega) ?_)
  intro g'
  refine compRestJ (fun i ys nx => ∃ led, nx = (PT, tupO pvs) :: (L + 1 + 1, oC) :: (L + 1, oS) :: led ∧ RowsLed led ys ((ps.take i).map fun p => Txt.split p (Str.ofString "/"))) ⟨[], rfl, .nil⟩ ?_ ?_
  · intro i ys nx v I oI C oC' D m₂ h tk E' hi hJ hv hC hx (F1 : Fr h₀ L h _) (N1 : News h₀ L h _) off ne
    obtain ⟨led, rfl, hR⟩ := hJ
    obtain ⟨y, ty, hy, rfl⟩ := strs_at hvs hv
    have by1 : y.length ≤ 100000 := Nat.le_trans (hz0 y (List.mem_of_getElem? hy)) (by decide)
    clear F9 N9
    have off0 := off
    simp only [LCg.Off3, and_true] at off
    have hsz : ∀ p ∈ ((I, oI) :: (C, oC') :: (D, LCg.lst ys) :: (PT, tupO pvs) :: (L + 1 + 1, oC) :: (L + 1, oS) :: led), p.1 < h.objs.size := fun p hp => Heap.lt_size (N1 p hp).1
    (try k_fold)
    k_steps
    refine held ?_
    (rename Fr _ _ _ _ => F8); (rename News _ _ _ _ => N8)
    rename (List (PySem.Str × PySem.Tok)) => lsv
    rename StrsAre _ (List.map _ _) => hS
    rename (List.map _ _ = Txt.split _ _) => hL
    rw [hL] at hS
    refine LCg.CompEnd.intro F8 N8 ((PT, tupO pvs) :: (L + 1 + 1, oC) :: (L + 1, oS) :: (h.objs.size, W.listOf (strValues lsv).toArray 0) :: led) (by walk_at "mine sub") ⟨off.1, off.2.1, off.2.2.1, ⟨Nat.ne_of_gt (hsz _ (.head _)), Nat.ne_of_gt (hsz _ (.tail _ (.head _))), Nat.ne_of_gt (hsz _ (.tail _ (.tail _ (.head _))))⟩, off.2.2.2⟩ (by show _ ∈ _; k_mem) ⟨_, rfl, ?_⟩
    rw [List.take_add_one, hy]
    simp only [Option.toList_some, List.map_append, List.map_cons, List.map_nil]
    exact .cons hR hS
  · intro ys nx hJ
    obtain ⟨led, rfl, hR⟩ := hJ
    rw [strs_len hvs, List.take_length] at hR
    clear F9 N9
    k_steps
    refine held ?_
    (rename Fr _ _ _ _ => F9); (rename News _ _ _ _ => N9)
    obtain ⟨D1, ob, rest, e1, e2, e3, N8⟩ := led_split N9
    subst e1 e2 e3
    clear N8
    k_dflt (refine SetComp_true F9 (by with_unfolding_all rfl) (by decide) (by rfl) (by decide) (by rfl) ?_)
    k_steps
    refine held ?_
    refine ⟨PT, pvs, _, rfl, rfl, by assumption, by assumption, (by show _ ∈ _; k_mem), hpos, (by rw [sizeLine_eq]; omega), ?_, ?_⟩
    · clear F9 N9
      intro i v I oI C oC' D oD m₂ h tk E' hv hC hx (F1 : Fr h₀ L h _) (N1 : News h₀ L h _) off ne
      obtain ⟨y, ty, hy, rfl⟩ := strs_at hvs hv
      have by1 : y.length ≤ 100000 := Nat.le_trans (hz0 y (List.mem_of_getElem? hy)) (by decide)
      have hst := hps y (List.mem_of_getElem? hy)
      (try k_fold)
      k_steps
      refine held ?_
      (rename Fr _ _ _ _ => F8); (rename News _ _ _ _ => N8)
      refine LCg.CompEnd.intro F8 N8 _ (fun p hp => hp) off (by show _ ∈ _; k_mem) ⟨by rw [hst], rfl⟩
    · clear F9 N9
      intro D2 h tk ep (F1 : Fr h₀ L h _) (N1 : News h₀ L h _) o2
      simp only [LCg.Off1] at o2
      k_steps
      refine held ?_
      (rename Fr _ _ _ _ => F9); (rename News _ _ _ _ => N9)
      k_dflt (refine LCg.Assign_ListComp_U (F₀ := F9) (by rfl) (by with_unfolding_all rfl) (by with_unfolding_all rfl) (by decide) (by rfl) (by decide) (by rfl) (by rfl) (by rfl) ?_)
      k_steps
      refine held ?_
      have hyl := hR.len
      rw [List.length_map] at hyl
      k_dflt (refine LCg.CompSrc.ledger (by rfl) (by k_asm) (by k_asm) (by k_mem) (by rw [List.size_toArray, sizeLine_eq]; omega) ?_)
      intro g2
      refine compRestJ (fun i ys2 nx => ∃ led2, nx = (D1, LCg.lst ys) :: (PT, tupO pvs) :: (L + 1 + 1, oC) :: (L + 1, oS) :: (led2 ++ led) ∧ RowsLed led2 ys2 ((ps.take i).map compsOf)) ⟨[], rfl, .nil⟩ ?_ ?_
      · clear F9 N9
        intro i ys2 nx v I oI C oC' D m₂ h tk E' hi hJ hv hC hx (F1 : Fr h₀ L h _) (N1 : News h₀ L h _) off ne
        obtain ⟨led2, rfl, hR2⟩ := hJ
        obtain ⟨a, ws, n, row, rfl, hrow, ha, hs⟩ := hR.item (by simpa using hv)
        rw [List.getElem?_map] at hrow
        have hip : i < ps.length := by rw [List.size_toArray] at hi; omega
        rw [List.getElem?_eq_getElem hip] at hrow
        have hrow2 : Txt.split ps[i] (Str.ofString "/") = row := Option.some.inj hrow
        have off0 := off
        simp only [LCg.Off3] at off
        have hwl : ws.length ≤ 1002 := by rw [strs_len hs, ← hrow2]; exact Nat.le_trans (split_le _ _) (Nat.add_le_add_right (hz0 _ (List.getElem_mem hip)) 2)
        (try k_fold)
        k_steps
        refine held ?_
        k_dflt (refine LCt.ListComp_T (F₀ := F1) (by with_unfolding_all rfl) (by decide) (by rfl) (by decide) (by rfl) ?_)
        k_steps
        refine held ?_
        have hmem : (a, W.listOf ws.toArray n) ∈ ((I, oI) :: (C, oC') :: (D, LCg.lst ys2) :: (D1, LCg.lst ys) :: (PT, tupO pvs) :: (L + 1 + 1, oC) :: (L + 1, oS) :: (led2 ++ led)) := by
          refine .tail _ (.tail _ (.tail _ (.tail _ (.tail _ (.tail _ (.tail _ ?_))))))
          exact List.mem_append_right _ ha
        k_dflt (refine LCt.CompSrcT.ledger (by rfl) (by k_asm) (by k_asm) hmem (by rw [List.size_toArray, sizeLine_eq]; omega) ?_)
        intro g3
        refine compRestTJ (fun j zs nx => nx = ((I, oI) :: (C, oC') :: (D, LCg.lst ys2) :: (D1, LCg.lst ys) :: (PT, tupO pvs) :: (L + 1 + 1, oC) :: (L + 1, oS) :: (led2 ++ led)) ∧ StrsAre zs ((row.take j).filter okc)) ⟨rfl, .nil⟩ ?_ ?_
        · clear F1 N1
          intro j zs nx v I2 oI2 C2 oC2 D3 m3 h tk E' hj hJ hv2 hC2 hx2 (F1 : Fr h₀ L h _) (N1 : News h₀ L h _) off2 ne2
          obtain ⟨rfl, hzs⟩ := hJ
          obtain ⟨y, ty, hy, rfl⟩ := strs_at hs (by simpa using hv2)
          have by1 : y.length ≤ 100000 := by
            have h1 := part_short (hrow2 ▸ List.mem_of_getElem? hy)
            have h2 := hz0 _ (List.getElem_mem hip)
            omega
          have off20 := off2
          simp only [LCg.Off3] at off2
          (try k_fold)
          k_steps
          all_goals
            refine held ?_
            (rename Fr _ _ _ _ => F8)
            (rename News _ _ _ _ => N8)
            refine LCg.CompEnd.intro F8 N8 _ (fun p hp => hp) off20 (.inr ⟨_, hmem, rfl, _, rfl⟩) ⟨rfl, ?_⟩
            first
              | (rw [filt_yes hy (okc_a (by assumption) (by assumption))]; exact strs_snoc hzs _ _)
              | (rw [filt_no hy (okc_b (by assumption))]; exact hzs)
              | (rw [filt_no hy (okc_c (by assumption))]; exact hzs)
        · intro zs nx hJ
          obtain ⟨rfl, hzs⟩ := hJ
          rw [List.size_toArray, strs_len hs, List.take_length, ← hrow2] at hzs
          clear F1 N1
          k_steps
          refine held ?_
          (rename Fr _ _ _ _ => F8)
          (rename News _ _ _ _ => N8)
          obtain ⟨NR, ob, rest, e1, e2, e3, N7⟩ := led_split N8
          subst e1 e2 e3
          rename (I ≠ NR ∧ _) => oN
          refine LCg.CompEnd.intro F8 N8 ((D1, LCg.lst ys) :: (PT, tupO pvs) :: (L + 1 + 1, oC) :: (L + 1, oS) :: (NR, LCg.lst zs) :: (led2 ++ led)) (by walk_at "mine sub") ⟨off.1, off.2.1, off.2.2.1, off.2.2.2.1, ⟨Ne.symm oN.1, Ne.symm oN.2.1, Ne.symm oN.2.2.1⟩, off.2.2.2.2⟩ (.inr ⟨_, by k_mem, rfl, _, rfl⟩) ⟨(NR, LCg.lst zs) :: led2, rfl, ?_⟩
          rw [List.take_add_one, List.getElem?_eq_getElem hip]
          simp only [Option.toList_some, List.map_append, List.map_cons, List.map_nil]
          exact .cons hR2 hzs
      · intro ys2 nx hJ
        obtain ⟨led2, rfl, hR2⟩ := hJ
        rw [List.size_toArray, hyl, List.take_length] at hR2
        clear F9 N9
        have hR3 := hR2
        have hpl2 : 0 < (ps.map compsOf).length := by rw [List.length_map]; exact List.length_pos_iff.mpr hne
        k_steps
        refine held ?_
        (rename Fr _ _ _ _ => F9); (rename News _ _ _ _ => N9)
        have hRA : RowsAre _ ys2 (ps.map compsOf) := hR2.are fun p hp => (N9 p (.tail _ (.tail _ (.tail _ (.tail _ (.tail _ (List.mem_append_left _ hp))))))).1
        refine minRows rfl (News.isList N9 (by k_mem)) hRA hpl2 (by walk_at "mine units") ?_
        intro v1 h1 tk1 hv1 hK1
        have hRA1 := hRA.keeps hK1
        replace F9 := Fr.kept F9 hK1
        replace N9 := News.kept N9 hK1
        obtain ⟨A1, W1, n1, r1, rfl, hr1, hm1, hs1⟩ := hR2.item hv1
        clear hRA
        (try dsimp only)
        k_steps
        refine held ?_
        (rename Fr _ _ _ _ => F9); (rename News _ _ _ _ => N9)
        have hRA2 : RowsAre _ ys2 (ps.map compsOf) := hR2.are fun p hp => (N9 p (.tail _ (.tail _ (.tail _ (.tail _ (.tail _ (List.mem_append_left _ hp))))))).1
        refine maxRows rfl (News.isList N9 (by k_mem)) hRA2 hpl2 (by walk_at "mine units") ?_
        intro v2 h2 tk2 hv2 hK2
        replace F9 := Fr.kept F9 hK2
        replace N9 := News.kept N9 hK2
        obtain ⟨A2, W2, n2, r2, rfl, hr2, hm2, hs2⟩ := hR2.item hv2
        clear hRA1 hRA2
        have hm1' := List.mem_of_getElem? hr1
        have hm2' := List.mem_of_getElem? hr2
        have hmin := least_all hr1
        have hmax := most_all hr2
        have hord : ltL r2 r1 = false := hmin _ hm2'
        have hsum : sumL r1 ≤ 1001 := by
          obtain ⟨q, hq, e⟩ := List.mem_map.mp (List.mem_of_getElem? hr1)
          rw [← e]
          exact Nat.le_trans (comps_sum q) (Nat.add_le_add_right (hz0 q hq) 1)
        have hsum2 : sumL r2 ≤ 1001 := by
          obtain ⟨q, hq, e⟩ := List.mem_map.mp (List.mem_of_getElem? hr2)
          rw [← e]
          exact Nat.le_trans (comps_sum q) (Nat.add_le_add_right (hz0 q hq) 1)
        have hl1 : r1.length ≤ 1001 := by have := sumL_eq r1; omega
        have hl2 : r2.length ≤ 1001 := by have := sumL_eq r2; omega
        have hw1 := strs_len hs1
        have hw1b : W1.length ≤ 200000 := by omega
        replace N9 : News h₀ L _ [(A1, W.listOf W1.toArray n1), (A2, W.listOf W2.toArray n2), (L + 1 + 1, oC), (L + 1, oS)] := fun p hp => by
          simp only [List.mem_cons, List.not_mem_nil, or_false] at hp
          rcases hp with rfl | rfl | rfl | rfl
          · exact N9 _ (.tail _ (.tail _ (.tail _ (.tail _ (.tail _ (List.mem_append_left _ hm1))))))
          · exact N9 _ (.tail _ (.tail _ (.tail _ (.tail _ (.tail _ (List.mem_append_left _ hm2))))))
          · exact N9 _ (by k_mem)
          · exact N9 _ (by k_mem)
        clear hR hR2 hR3 hv1 hv2 hK1 hK2 hm1 hm2 hr1 hr2
        (try dsimp only)
        k_steps
        refine held ?_
        refine for_at ?_
        k_steps
        rename ItIs _ _ _ => hIt
        (rename Fr _ _ _ _ => F9); (rename News _ _ _ _ => N9)
        rename (∀ p ∈ [(A1, _), (A2, _), (L + 1 + 1, oC), (L + 1, oS)], _) => hlt
        refine forEnum (l := A1) (vs := W1) (n := n1) (fun i m nx => nx = [(A1, W.listOf W1.toArray n1), (A2, W.listOf W2.toArray n2), (L + 1 + 1, oC), (L + 1, oS)] ∧ i ≤ r1.length ∧ r1.take i = r2.take i ∧ Has m [(Str.ofString "s1", .ref A1), (Str.ofString "s2", .ref A2), (Str.ofString "common", .ref A1), (Str.ofString "isabs", .bool true)])
          rfl rfl rfl rfl (fun i m nx hJ => by rw [hJ.1]; exact .head _) hIt (by assumption) hlt F9 N9 ⟨rfl, Nat.zero_le _, rfl, Has.cons rfl (Has.cons rfl (Has.cons rfl (Has.cons rfl Has.nil)))⟩ ?_ ?_
        · clear F9 N9
          intro i v m₁ nx oe oit h tk tk' hv hJ hoff (F1 : Fr h₀ L h _) (N1 : News h₀ L h _)
          obtain ⟨rfl, hi1, heq, H⟩ := hJ
          obtain ⟨y, ty, hy, rfl⟩ := strs_at hs1 hv
          have hil : i < r1.length := (List.getElem?_eq_some_iff.mp hy).1
          have hi2 := lt_next hord hil heq
          replace F1 := Has.frx2 H F1
          simp only [kstB] at F1
          have hst := strs_take hs1 (i : Int).toNat
          rw [Int.toNat_natCast] at hst
          have hsT := sumL_take r1 i
          have hsT2 : sumL (r1.take i) ≤ 200000 := by omega
          have hjl := join_len (r1.take i)
          have hl0 : (Str.ofString "/").length = 1 := by decide +kernel
          (try k_fold)
          k_steps
          · unfold EnEnd
            dsimp only
            k_steps
            rename (r2[_]? = some _) => hy2
            rw [Int.toNat_natCast] at hy2
            rename ((y != _) = true) => hyy
            exact Back.intro (by assumption) (cpost hm1' hm2' hmin hmax (Nat.le_of_lt hil) (Nat.le_of_lt hi2) heq (.inr (by rw [hy, hy2]; intro e; rw [Option.some.inj e] at hyy; simp at hyy)) rfl)
          · (rename Fr _ _ _ _ => F8); (rename News _ _ _ _ => N8)
            rename (r2[_]? = some _) => hy2
            rw [Int.toNat_natCast] at hy2
            rename ((y != _) = false) => hyy
            refine ⟨_, _, _, [(A1, W.listOf W1.toArray n1), (A2, W.listOf W2.toArray n2), (L + 1 + 1, oC), (L + 1, oS)], rfl, F8, N8, hoff, rfl, hil, ?_, Has.cons rfl (Has.cons rfl (Has.cons rfl (Has.cons rfl Has.nil)))⟩
            rw [List.take_add_one, List.take_add_one, hy, hy2, heq, show y = _ by simpa using hyy]
        · clear F9 N9
          intro m₁ nx h tk hJ (F1 : Fr h₀ L h _) (N1 : News h₀ L h _)
          obtain ⟨rfl, hi1, heq, H⟩ := hJ
          rw [hw1, List.take_length] at heq
          replace F1 := H.fr F1
          simp only [kstB] at F1
          have hsT2 : sumL r1 ≤ 200000 := by omega
          have hjl := join_len r1
          have hl0 : (Str.ofString "/").length = 1 := by decide +kernel
          (try k_fold)
          k_steps
          have hle : r1.length ≤ r2.length := by have h5 := congrArg List.length heq; rw [List.length_take] at h5; omega
          exact Back.intro (by assumption) (cpost hm1' hm2' hmin hmax (Nat.le_refl _) hle (by rw [List.take_length]; exact heq) (.inl rfl) (by rw [List.take_length]))
end
section
set_option maxHeartbeats 1000000
def folderS (st : List Str) : Str := Str.ofString "/" ++ Txt.join (Str.ofString "/") st
def GoodC (c : Str) : Prop := c.length ≠ 0 ∧ c.length ≤ 40 ∧ (∀ k ∈ c.cps.toList, k ≠ 47) ∧ c ≠ Str.ofString "." ∧ c ≠ Str.ofString ".."
def NameOk (c : Str) : Prop := c.length ≤ 40 ∧ ∀ k ∈ c.cps.toList, k ≠ 47
def quote (x : Str) : Str := Str.ofString "\"" ++ x ++ Str.ofString "\""
def pathOf (names : List Str) : Str := folderS (names.map quote)
def piecesL (word : Str) : List Str := [word, Str.ofString "..", Str.ofString "\"a", Str.ofString "\"..\"", Str.ofString "\"", Str.ofString ".", Str.ofString "", Str.ofString "\".\"", Str.ofString "b\"", Str.ofString "\"\"\""]
def WordOk (word own : Str) : Prop := GoodC word ∧ stripQ word = own
structure Inv (n : Nat) (st : List Str) (fs : List (Int × Str)) : Prop where
  good : ∀ c ∈ st, GoodC c
  len : st.length ≤ 4 * n
  fsl : fs.length ≤ 4 * n
  fsr : ∀ p ∈ fs, 0 ≤ p.1 ∧ p.1 < 10
  due : st.map stripQ = dueF fs
structure NormPre (x : Str) : Prop where
  hx : x.length ≤ 100000
  h0 : (x.length : Int) ≠ 0
  h1 : Txt.slice x none (some 1) = Str.ofString "/"
  h2 : Txt.slice x (some 1) (some 2) ≠ Str.ofString "/"
  hs : sumL (Txt.split (Txt.slice x (some 1) none) (Str.ofString "/")) ≤ 100000
/-- what the digits pick -/
def partsOf (word : Str) (steps : List Int) : List Str := steps.map fun s => (piecesL word).getD s.toNat (Str.ofString "")
end
section
open PySem.Builtin PySem.Builtin.Str
set_option maxHeartbeats 1000000
/-- the signs of a text -/
def cs (x : Str) : List Nat := x.cps.toList
theorem cs_ext {a b : Str} (h : cs a = cs b) : a = b := Str.ext' (Array.toList_inj.mp h)
theorem cs_app (a b : Str) : cs (a ++ b) = cs a ++ cs b := by unfold cs; rw [Str.cps_append, Array.toList_append]
theorem cs_len (x : Str) : (cs x).length = x.length := by unfold cs Str.length; rw [Array.length_toList]
theorem cs_mk (l : List Nat) : cs ⟨l.toArray⟩ = l := rfl
theorem slash_is : Str.ofString "/" = ⟨#[47]⟩ := by decide +kernel
theorem quote_is : Str.ofString "\"" = ⟨#[34]⟩ := by decide +kernel
theorem empty_is : Str.ofString "" = ⟨#[]⟩ := by decide +kernel
theorem cs_slash : cs (Str.ofString "/") = [47] := by decide +kernel
theorem cs_quote : cs (Str.ofString "\"") = [34] := by decide +kernel
theorem cs_empty : cs (Str.ofString "") = [] := by decide +kernel
theorem cs_nil {x : Str} (h : x.length = 0) : x = Str.ofString "" := by
  apply cs_ext; rw [cs_empty]; exact List.length_eq_zero_iff.mp (by rw [cs_len, h])
theorem starts_iff (x : Str) (c : Nat) : Txt.startswith x ⟨#[c]⟩ = true ↔ (cs x)[0]? = some c := by
  show _ ↔ x.cps.toList[0]? = some c
  rw [← StrLaws.subAt_one x c 0]
  unfold Txt.startswith
  rw [Bool.and_eq_true, decide_eq_true_iff]
theorem ends_iff (x : Str) (c : Nat) : Txt.endswith x ⟨#[c]⟩ = true ↔ (cs x).getLast? = some c := by
  unfold Txt.endswith
  rw [Bool.and_eq_true, decide_eq_true_iff, List.getLast?_eq_getElem?, cs_len]
  have h1 : (⟨#[c]⟩ : Str).length = 1 := rfl
  have h := StrLaws.subAt_one x c (x.length - 1)
  rw [h1] at h ⊢
  show _ ↔ x.cps.toList[x.length - 1]? = some c
  rw [← h]
  constructor
  · rintro ⟨a, b⟩; exact ⟨by omega, b⟩
  · rintro ⟨a, b⟩; exact ⟨by omega, b⟩
theorem cs_from1 {x : Str} (h : 1 ≤ x.length) : cs (Txt.slice x (some 1) none) = (cs x).drop 1 := by
  have hl := cs_len x
  have e := StrLaws.sliceText_from (x := x) (i := 1) ⟨by decide, by show (1 : Int) ≤ ((cs x).length : Nat); omega⟩
  rw [show Txt.slice x (some 1) none = _ from e, cs_mk]
  show List.take _ ((cs x).drop 1) = _
  rw [List.take_of_length_le]
  rw [List.length_drop]
  show (cs x).length - 1 ≤ (((cs x).length : Int) - 1).toNat
  omega
theorem cs_fromN {x : Str} {n : Nat} (h : n ≤ x.length) : cs (Txt.slice x (some (n : Int)) none) = (cs x).drop n := by
  have hl := cs_len x
  have e := StrLaws.sliceText_from (x := x) (i := (n : Int)) ⟨by omega, by show (n : Int) ≤ ((cs x).length : Nat); omega⟩
  rw [show Txt.slice x (some (n : Int)) none = _ from e, cs_mk]
  show List.take _ ((cs x).drop (n : Int).toNat) = _
  rw [Int.toNat_natCast, List.take_of_length_le]
  rw [List.length_drop]
  show (cs x).length - n ≤ (((cs x).length : Int) - n).toNat
  omega
theorem cs_toN {x : Str} {n : Nat} (h : n ≤ x.length) : cs (Txt.slice x none (some (n : Int))) = (cs x).take n := by
  have hl := cs_len x
  have e := StrLaws.sliceText_to (x := x) (j := (n : Int)) ⟨by omega, by show (n : Int) ≤ ((cs x).length : Nat); omega⟩
  rw [show Txt.slice x none (some (n : Int)) = _ from e, cs_mk, List.drop_zero]
  congr 1
theorem cs_toLast {x : Str} (h : 1 ≤ x.length) : cs (Txt.slice x none (some (-1))) = (cs x).dropLast := by
  have e := StrLaws.sliceText_neg_hi x none (j := -1) (by decide) (by omega)
  have e2 : (-1 + (x.length : Int)) = ((x.length - 1 : Nat) : Int) := by omega
  rw [e2] at e
  rw [show Txt.slice x none (some (-1)) = _ from e]
  show cs (Txt.slice x none (some ((x.length - 1 : Nat) : Int))) = _
  rw [cs_toN (by omega), List.dropLast_eq_take, cs_len]
theorem cs_12 {x : Str} (h : 2 ≤ x.length) : cs (Txt.slice x (some 1) (some 2)) = ((cs x).drop 1).take 1 := by
  have hl := cs_len x
  have e := StrLaws.sliceText_plain (x := x) (i := 1) (j := 2) ⟨by decide, by decide, by show (2 : Int) ≤ ((cs x).length : Nat); omega⟩
  rw [show Txt.slice x (some 1) (some 2) = _ from e, cs_mk]
  rfl
theorem rfind_at {x : Str} {a b : List Nat} {c : Nat} (h : cs x = a ++ c :: b) (hb : c ∉ b) : Txt.rfind x ⟨#[c]⟩ = (a.length : Int) := by
  unfold Txt.rfind
  have at_iff : ∀ i, StrLaws.At x ⟨#[c]⟩ x.length i ↔ (cs x)[i]? = some c := fun i => StrLaws.subAt_one x c i
  rcases StrLaws.last_spec x ⟨#[c]⟩ with ⟨_, hn⟩ | ⟨i, hi, hai, hno⟩
  · exfalso
    refine hn a.length ((at_iff _).mpr ?_)
    rw [h]; simp
  · rw [hi]
    have h1 := (at_iff _).mp hai
    have h2 : ¬ i < a.length := fun hlt => hno a.length hlt ((at_iff _).mpr (by rw [h]; simp))
    have h3 : ¬ a.length < i := fun hlt => by
      rw [h, List.getElem?_append_right (by omega)] at h1
      obtain ⟨k, hk⟩ : ∃ k, i - a.length = k + 1 := ⟨i - a.length - 1, by omega⟩
      rw [hk, List.getElem?_cons_succ] at h1
      exact hb (List.mem_of_getElem? h1)
    have : i = a.length := by omega
    rw [this]
/-- joined by slashes -/
def J : List Str → List Nat
  | [] => []
  | [x] => cs x
  | x :: y :: r => cs x ++ 47 :: J (y :: r)
theorem cs_join (l : List Str) : cs (Txt.join (Str.ofString "/") l) = J l := by
  unfold Txt.join
  rw [StrLaws.glued_eq_join, slash_is]
  induction l with
  | nil => rfl
  | cons x r ih =>
    cases r with
    | nil => rfl
    | cons y r =>
      show cs (x ++ ⟨#[47]⟩ ++ Str.join ⟨#[47]⟩ (y :: r)) = _
      rw [cs_app, cs_app, ih]
      show (cs x ++ [47]) ++ J (y :: r) = _
      rw [List.append_assoc]; rfl
def Free (x : Str) : Prop := 47 ∉ cs x
theorem J_inj : ∀ {a b : List Str}, a ≠ [] → b ≠ [] → (∀ x ∈ a, Free x) → (∀ x ∈ b, Free x) → J a = J b → a = b := by
  have cut : ∀ {p q u v : List Nat}, 47 ∉ p → 47 ∉ q → p ++ 47 :: u = q ++ 47 :: v → p = q ∧ u = v := by
    intro p
    induction p with
    | nil =>
      intro q u v _ hq e
      cases q with
      | nil => simpa using e
      | cons c q => simp at e; exact absurd e.1 (fun e => hq (e ▸ List.mem_cons_self))
    | cons c p ih =>
      intro q u v hp hq e
      cases q with
      | nil => simp at e; exact absurd e.1.symm (fun e => hp (e ▸ List.mem_cons_self))
      | cons d q =>
        simp only [List.cons_append, List.cons.injEq] at e
        obtain ⟨h1, h2⟩ := ih (fun h => hp (.tail _ h)) (fun h => hq (.tail _ h)) e.2
        exact ⟨by rw [e.1, h1], h2⟩
  intro a
  induction a with
  | nil => intro b h; exact absurd rfl h
  | cons x r ih =>
    intro b _ hb ha hb' e
    cases b with
    | nil => exact absurd rfl hb
    | cons y t =>
      have hx := ha x (.head _)
      have hy := hb' y (.head _)
      cases r with
      | nil =>
        cases t with
        | nil => rw [cs_ext (show cs x = cs y from e)]
        | cons z t =>
          exfalso
          apply hx
          have e : cs x = cs y ++ 47 :: J (z :: t) := e
          rw [e]; simp
      | cons z r =>
        cases t with
        | nil =>
          exfalso
          apply hy
          have e : cs x ++ 47 :: J (z :: r) = cs y := e
          rw [← e]; simp
        | cons u t =>
          have e : cs x ++ 47 :: J (z :: r) = cs y ++ 47 :: J (u :: t) := e
          obtain ⟨h1, h2⟩ := cut hx hy e
          rw [cs_ext h1, ih (by simp) (by simp) (fun q hq => ha q (.tail _ hq)) (fun q hq => hb' q (.tail _ hq)) h2]
theorem split_ne (x : Str) : Txt.split x (Str.ofString "/") ≠ [] := by
  have h := split_pos x (Str.ofString "/")
  intro e; rw [e] at h; exact absurd h (by decide)
theorem split_of {x : Str} {l : List Str} (hl : l ≠ []) (hf : ∀ y ∈ l, Free y) (h : cs x = J l) : Txt.split x (Str.ofString "/") = l := by
  refine J_inj (split_ne x) hl (fun y hy => ?_) hf ?_
  · rw [slash_is] at hy
    exact StrLaws.split_free x 47 y hy
  · rw [← h, ← cs_join]
    unfold Txt.join
    rw [StrLaws.glued_eq_join, StrLaws.join_split]
end
section
open PySem.Builtin PySem.Builtin.Str
set_option maxHeartbeats 1000000
theorem cs_folder (st : List Str) : cs (folderS st) = 47 :: J st := by
  unfold folderS; rw [cs_app, cs_slash, cs_join]; rfl
theorem J_snoc : ∀ (l : List Str) (x : Str), l ≠ [] → J (l ++ [x]) = J l ++ 47 :: cs x := by
  intro l
  induction l with
  | nil => intro x h; exact absurd rfl h
  | cons a r ih =>
    intro x _
    cases r with
    | nil => rfl
    | cons b r =>
      show cs a ++ 47 :: J ((b :: r) ++ [x]) = (cs a ++ 47 :: J (b :: r)) ++ 47 :: cs x
      rw [ih x (by simp)]
      simp
theorem fold47 : ∀ (l : List (Array Nat)) (acc : Array Nat), (∀ c ∈ acc.toList, c = 47) → (∀ a ∈ l, a = #[47]) → ∀ c ∈ (l.foldl (· ++ ·) acc).toList, c = 47 := by
  intro l
  induction l with
  | nil => intro acc h _; exact h
  | cons a r ih =>
    intro acc h g
    refine ih (acc ++ a) (fun c hc => ?_) fun b hb => g b (.tail _ hb)
    rw [Array.toList_append, List.mem_append] at hc
    rcases hc with hc | hc
    · exact h c hc
    · rw [g a (.head _)] at hc; simpa using hc
theorem mul47 (n : Int) : ∀ c ∈ cs (Txt.mul (Str.ofString "/") n), c = 47 := by
  unfold Txt.mul
  split
  · intro c hc; cases hc
  · split
    · intro c hc; rw [cs_slash] at hc; simpa using hc
    · refine fold47 _ _ (fun c hc => by cases hc) fun a ha => ?_
      rw [List.eq_of_mem_replicate ha, slash_is]
theorem mul1 : Txt.mul (Str.ofString "/") ((1 : Nat) : Int) = Str.ofString "/" := by decide +kernel
theorem rstrip_at {x : Str} {a : List Nat} {d : Nat} (h : cs x = a ++ [d] ++ [47]) (hd : d ≠ 47) : cs (Txt.rstripChars x (Str.ofString "/")) = a ++ [d] := by
  unfold Txt.rstripChars
  rw [PyProof.Rows.stripBy_eq]
  show (strSub x 0 (stripHi _ true x 0)).cps.toList = _
  rw [StrLaws.strSub_toList]
  have hl := cs_len x
  have e1 : stripHi (Str.ofString "/").cps.contains true x 0 = x.length - 1 := by
    unfold stripHi
    rw [if_pos rfl, List.drop_zero]
    show x.length - (List.takeWhile _ (cs x).reverse).length = _
    rw [h, List.reverse_append, List.reverse_append]
    simp only [List.reverse_cons, List.reverse_nil, List.nil_append, List.cons_append, List.takeWhile_cons]
    rw [slash_is]
    have h47 : ((⟨#[47]⟩ : Str).cps.contains 47) = true := by simp
    have hdd : ((⟨#[47]⟩ : Str).cps.contains d) = false := by
      show (#[47].contains d) = false
      rw [Bool.eq_false_iff]
      intro e
      have := Array.contains_iff_mem.mp e
      simp at this; exact hd this
    rw [if_pos h47, hdd]
    rfl
  rw [e1, List.drop_zero, Nat.sub_zero]
  show List.take (x.length - 1) (cs x) = _
  rw [← hl, h, ← List.dropLast_eq_take, List.dropLast_concat]
theorem splitT_at {x : Str} {a b : List Nat} (h : cs x = a ++ 47 :: b) (hb : 47 ∉ b) : cs (splitT x) = b := by
  have hl := cs_len x
  rw [h] at hl
  simp only [List.length_append, List.length_cons] at hl
  unfold splitT
  rw [slash_is, rfind_at h hb, show ((a.length : Int) + 1) = ((a.length + 1 : Nat) : Int) by omega, cs_fromN (by omega), h, List.drop_append]
  simp
theorem splitHy {x : Str} {a b : List Nat} (h : cs x = a ++ 47 :: b) (hb : 47 ∉ b) : cs (Txt.slice x none (some (Txt.rfind x (Str.ofString "/") + 1))) = a ++ [47] := by
  have hl := cs_len x
  rw [h] at hl
  simp only [List.length_append, List.length_cons] at hl
  rw [slash_is, rfind_at h hb, show ((a.length : Int) + 1) = ((a.length + 1 : Nat) : Int) by omega, cs_toN (by omega), h, List.take_append]
  simp
  exact List.take_of_length_le (Nat.le_succ _)
theorem splitH_root {x : Str} {b : List Nat} (h : cs x = 47 :: b) (hb : 47 ∉ b) : splitH x = Str.ofString "/" := by
  have hy := splitHy (a := []) h hb
  have e : Txt.slice x none (some (Txt.rfind x (Str.ofString "/") + 1)) = Str.ofString "/" := cs_ext (by rw [hy, cs_slash]; rfl)
  unfold splitH
  rw [e]
  have h1 : (Str.ofString "/").length = 1 := by decide +kernel
  dsimp only
  rw [h1, if_neg (by decide), mul1, if_neg (by simp)]
theorem splitH_at {x : Str} {a b : List Nat} {d : Nat} (h : cs x = a ++ [d] ++ 47 :: b) (hd : d ≠ 47) (hb : 47 ∉ b) : cs (splitH x) = a ++ [d] := by
  have hy := splitHy h hb
  unfold splitH
  dsimp only
  generalize Txt.slice x none (some (Txt.rfind x (Str.ofString "/") + 1)) = y at hy
  have hl := cs_len y
  rw [hy] at hl
  simp only [List.length_append, List.length_cons, List.length_nil] at hl
  rw [if_neg (by omega)]
  have hne : y ≠ Txt.mul (Str.ofString "/") y.length := by
    intro e
    have := mul47 y.length d (by rw [← e, hy]; simp)
    exact hd this
  rw [if_pos (by simpa using hne)]
  exact rstrip_at hy hd
/-- a name in a folder -/
def Comp (c : Str) : Prop := c.length ≠ 0 ∧ Free c
theorem J_last {st : List Str} (h : ∀ c ∈ st, Comp c) (hne : st ≠ []) : ∃ a d, J st = a ++ [d] ∧ d ≠ 47 := by
  induction st with
  | nil => exact absurd rfl hne
  | cons x r ih =>
    cases r with
    | nil =>
      obtain ⟨h1, h2⟩ := h x (.head _)
      have hx : cs x ≠ [] := fun e => h1 (by rw [← cs_len, e]; rfl)
      refine ⟨(cs x).dropLast, (cs x).getLast hx, (List.dropLast_concat_getLast hx).symm, fun e => h2 ?_⟩
      show 47 ∈ cs x
      rw [← e]; exact List.getLast_mem hx
    | cons y r =>
      obtain ⟨a, d, e, hd⟩ := ih (fun c hc => h c (.tail _ hc)) (by simp)
      refine ⟨cs x ++ 47 :: a, d, ?_, hd⟩
      show cs x ++ 47 :: J (y :: r) = _
      rw [e]; simp
theorem climb_snoc {st : List Str} {x : Str} (h : ∀ c ∈ st, Comp c) (hx : Comp x) : splitT (folderS (st ++ [x])) = x ∧ splitH (folderS (st ++ [x])) = folderS st := by
  cases hs : st with
  | nil =>
    have e : cs (folderS ([] ++ [x])) = 47 :: cs x := cs_folder [x]
    exact ⟨cs_ext (splitT_at (a := []) e hx.2), by rw [splitH_root e hx.2]; exact cs_ext (by rw [cs_folder, cs_slash]; rfl)⟩
  | cons y r =>
    rw [← hs]
    have hne : st ≠ [] := by rw [hs]; simp
    have e : cs (folderS (st ++ [x])) = (47 :: J st) ++ 47 :: cs x := by rw [cs_folder, J_snoc st x hne]; rfl
    obtain ⟨a, d, eJ, hd⟩ := J_last h hne
    refine ⟨cs_ext (splitT_at e hx.2), cs_ext ?_⟩
    have e2 : cs (folderS (st ++ [x])) = (47 :: a) ++ [d] ++ 47 :: cs x := by rw [e, eJ]; rfl
    rw [splitH_at e2 hd hx.2, cs_folder, eJ]; rfl
theorem rev_ind {α : Type} {P : List α → Prop} (h0 : P []) (h1 : ∀ l x, P l → P (l ++ [x])) (l : List α) : P l := by
  suffices h : ∀ n (l : List α), l.length = n → P l from h _ l rfl
  intro n
  induction n with
  | zero => intro l hl; rw [List.length_eq_zero_iff.mp hl]; exact h0
  | succ n ih =>
    intro l hl
    have hne : l ≠ [] := by intro e; rw [e] at hl; simp at hl
    rw [← List.dropLast_concat_getLast hne]
    exact h1 _ _ (ih _ (by rw [List.length_dropLast, hl]; rfl))
theorem climb_comp {st : List Str} (h : ∀ c ∈ st, Comp c) : Climb (folderS st) st.reverse := by
  revert h
  refine rev_ind (P := fun st => (∀ c ∈ st, Comp c) → Climb (folderS st) st.reverse) ?_ ?_ st
  · intro _
    show splitT (folderS []) = Str.ofString ""
    refine cs_ext ?_
    rw [splitT_at (a := []) (b := []) (cs_folder []) (by simp), cs_empty]
  · intro l x ih h
    have hx := h x (by simp)
    have hl := fun c hc => h c (List.mem_append_left _ hc)
    obtain ⟨e1, e2⟩ := climb_snoc hl hx
    rw [List.reverse_append]
    refine ⟨e1, fun e => hx.1 (by rw [e]; decide +kernel), ?_⟩
    rw [e2]
    exact ih hl
theorem free_iff {c : Str} : Free c ↔ ∀ k ∈ c.cps.toList, k ≠ 47 := ⟨fun h k hk e => h (e ▸ hk), fun h hm => h 47 hm rfl⟩
theorem good_comp {c : Str} (h : GoodC c) : Comp c := ⟨h.1, free_iff.mpr h.2.2.1⟩
theorem cs_quoteS (x : Str) : cs (quote x) = 34 :: (cs x ++ [34]) := by
  unfold quote; rw [cs_app, cs_app, cs_quote]; rfl
theorem quote_comp {x : Str} (h : NameOk x) : Comp (quote x) := by
  refine ⟨fun e => ?_, fun hm => ?_⟩
  · rw [← cs_len, cs_quoteS] at e; simp at e
  · rw [cs_quoteS] at hm
    simp only [List.mem_cons, List.mem_append, List.not_mem_nil, or_false] at hm
    rcases hm with hm | hm | hm
    · exact absurd hm (by decide)
    · exact h.2 47 hm rfl
    · exact absurd hm (by decide)
theorem climb_folder {st : List Str} (h : ∀ c ∈ st, GoodC c) : Climb (folderS st) st.reverse := climb_comp fun c hc => good_comp (h c hc)
theorem climb_path {names : List Str} (h : ∀ x ∈ names, NameOk x) : Climb (pathOf names) (names.map quote).reverse :=
  climb_comp fun c hc => by obtain ⟨x, hx, e⟩ := List.mem_map.mp hc; rw [← e]; exact quote_comp (h x hx)
end
section
open PySem.Builtin PySem.Builtin.Str
set_option maxHeartbeats 1000000
def jn (l : List Str) (b : Str) : List Str := if l.getLast? = some (Str.ofString "") then l.dropLast ++ [b] else l ++ [b]
theorem fold_snoc (pre : List Str) : ∃ A, ∀ x, cs (folderS (pre ++ [x])) = A ++ 47 :: cs x := by
  cases pre with
  | nil => exact ⟨[], fun x => cs_folder [x]⟩
  | cons y r => exact ⟨47 :: J (y :: r), fun x => by rw [cs_folder, J_snoc _ x (by simp)]; rfl⟩
theorem snoc_of {α : Type} {l : List α} (h : l ≠ []) : ∃ p x, l = p ++ [x] := ⟨l.dropLast, l.getLast h, (List.dropLast_concat_getLast h).symm⟩
theorem len0_empty {x : Str} (h : cs x = []) : x = Str.ofString "" := cs_ext (by rw [h, cs_empty])
theorem join_jn {l : List Str} {b : Str} (hne : l ≠ []) (hf : ∀ x ∈ l, Free x) (hb : Free b) : joinStep (folderS l) b = folderS (jn l b) := by
  obtain ⟨p, z, rfl⟩ := snoc_of hne
  have hz : Free z := hf z (by simp)
  obtain ⟨A, hA⟩ := fold_snoc p
  have hA1 := hA z
  have hlen : (folderS (p ++ [z])).length ≠ 0 := by
    rw [← cs_len, hA1]; simp
  have h1 : ¬ (Txt.startswith b (Str.ofString "/") = true ∨ (folderS (p ++ [z])).length = 0) := by
    rintro (h | h)
    · rw [slash_is, starts_iff] at h
      exact hb (List.mem_of_getElem? h)
    · exact hlen h
  unfold joinStep jn
  rw [if_neg h1]
  have hl : (p ++ [z]).getLast? = some z := by simp
  by_cases hz0 : cs z = []
  · have he := len0_empty hz0
    have h2 : Txt.endswith (folderS (p ++ [z])) (Str.ofString "/") = true := by
      rw [slash_is, ends_iff, hA1, hz0]; simp
    rw [if_pos h2, hl, if_pos (by rw [he]), List.dropLast_concat]
    refine cs_ext ?_
    rw [cs_app, hA1, hA b, hz0]; simp
  · have h2 : ¬ Txt.endswith (folderS (p ++ [z])) (Str.ofString "/") = true := by
      rw [slash_is, ends_iff, hA1]
      intro e
      have e2 : (A ++ 47 :: cs z).getLast? = (cs z).getLast? := by
        rw [show A ++ 47 :: cs z = (A ++ [47]) ++ cs z by simp]
        rw [List.getLast?_append]
        cases hq : (cs z).getLast? with
        | none => exact absurd (List.getLast?_eq_none_iff.mp hq) hz0
        | some v => rfl
      rw [e2] at e
      exact hz (List.mem_of_getLast? e)
    rw [if_neg h2, hl, if_neg (fun e => hz0 (by rw [Option.some.inj e, cs_empty]))]
    refine cs_ext ?_
    rw [cs_app, cs_app, cs_slash, cs_folder, cs_folder, J_snoc (p ++ [z]) b (by simp)]
    simp
theorem normF_snoc (p : List Str) (x : Str) : normF (p ++ [x]) = normStep (normF p) x := by
  unfold normF; rw [List.foldl_append]; rfl
theorem normF_jn {l : List Str} {b : Str} (hne : l ≠ []) : normF (jn l b) = normStep (normF l) b := by
  obtain ⟨p, z, rfl⟩ := snoc_of hne
  unfold jn
  split
  · rename_i h
    have hz : z = Str.ofString "" := by simpa using h
    rw [List.dropLast_concat, normF_snoc, normF_snoc p z, hz]
    have : normStep (normF p) (Str.ofString "") = normF p := by
      unfold normStep; rw [if_pos (.inl (by decide +kernel))]
    rw [this]
  · rw [normF_snoc]
def Hd (l : List Str) : Prop := l = [Str.ofString ""] ∨ ∃ x r, l = x :: r ∧ x ≠ Str.ofString ""
theorem Hd.ne {l : List Str} (h : Hd l) : l ≠ [] := by
  rcases h with rfl | ⟨x, r, rfl, _⟩ <;> simp
theorem hd_jn {l : List Str} {b : Str} (h : Hd l) : Hd (jn l b) := by
  unfold jn
  rcases h with rfl | ⟨x, r, rfl, hx⟩
  · rw [if_pos (by simp)]
    by_cases hb : b = Str.ofString ""
    · exact .inl (by rw [hb]; rfl)
    · exact .inr ⟨b, [], rfl, hb⟩
  · split
    · rename_i h
      cases r with
      | nil => exact absurd (by simpa using h) hx
      | cons y r => exact .inr ⟨x, (y :: r).dropLast ++ [b], rfl, hx⟩
    · exact .inr ⟨x, r ++ [b], rfl, hx⟩
theorem free_jn {l : List Str} {b : Str} (hf : ∀ x ∈ l, Free x) (hb : Free b) : ∀ x ∈ jn l b, Free x := by
  unfold jn
  intro x hx
  split at hx
  · rcases List.mem_append.mp hx with hx | hx
    · exact hf x ((List.dropLast_sublist _).subset hx)
    · rw [List.mem_singleton.mp hx]; exact hb
  · rcases List.mem_append.mp hx with hx | hx
    · exact hf x hx
    · rw [List.mem_singleton.mp hx]; exact hb
theorem jfold {parts : List Str} (hp : ∀ x ∈ parts, Free x) : ∀ {l : List Str}, Hd l → (∀ x ∈ l, Free x) →
    joinP (folderS l) parts = folderS (parts.foldl jn l) ∧ Hd (parts.foldl jn l) ∧ (∀ x ∈ parts.foldl jn l, Free x) ∧ normF (parts.foldl jn l) = parts.foldl normStep (normF l) := by
  induction parts with
  | nil => intro l h hf; exact ⟨rfl, h, hf, rfl⟩
  | cons b r ih =>
    intro l h hf
    have hb := hp b (.head _)
    obtain ⟨e1, e2, e3, e4⟩ := ih (fun x hx => hp x (.tail _ hx)) (hd_jn (b := b) h) (free_jn hf hb)
    refine ⟨?_, e2, e3, ?_⟩
    · show joinP (joinStep (folderS l) b) r = _
      rw [join_jn h.ne hf hb, e1]; rfl
    · show normF (r.foldl jn (jn l b)) = r.foldl normStep (normStep (normF l) b)
      rw [e4, normF_jn h.ne]
theorem cs_tail (l : List Str) : cs (Txt.slice (folderS l) (some 1) none) = J l := by
  rw [cs_from1, cs_folder]
  · rfl
  · rw [← cs_len, cs_folder]; simp
theorem split_folder {l : List Str} (hne : l ≠ []) (hf : ∀ x ∈ l, Free x) : Txt.split (Txt.slice (folderS l) (some 1) none) (Str.ofString "/") = l := split_of hne hf (cs_tail l)
theorem norm_folder {l : List Str} (hne : l ≠ []) (hf : ∀ x ∈ l, Free x) : normP (folderS l) = folderS (normF l) := by
  unfold normP; rw [split_folder hne hf]; rfl
theorem sumL_cons (x : Str) (xs : List Str) : sumL (x :: xs) = x.length + 1 + sumL xs := by simp [sumL]
theorem J_len : ∀ {l : List Str}, l ≠ [] → (J l).length + 1 = sumL l := by
  intro l
  induction l with
  | nil => intro h; exact absurd rfl h
  | cons x r ih =>
    intro _
    rw [sumL_cons]
    cases r with
    | nil => show (cs x).length + 1 = _; rw [cs_len]; rfl
    | cons y r =>
      have := ih (by simp)
      show (cs x ++ 47 :: J (y :: r)).length + 1 = _
      rw [List.length_append, List.length_cons, cs_len]
      omega
theorem folder_root : folderS [Str.ofString ""] = Str.ofString "/" := cs_ext (by rw [cs_folder, cs_slash]; show 47 :: cs (Str.ofString "") = _; rw [cs_empty])
theorem folder_root0 : folderS [] = Str.ofString "/" := cs_ext (by rw [cs_folder, cs_slash]; rfl)
theorem norm_pre {l : List Str} (h : Hd l) (hf : ∀ x ∈ l, Free x) (hz : (folderS l).length ≤ 100000) : NormPre (folderS l) := by
  have hl : (folderS l).length = (J l).length + 1 := by rw [← cs_len, cs_folder]; rfl
  have hn1 : (1 : Nat) ≤ (folderS l).length := by omega
  refine ⟨hz, by omega, ?_, ?_, ?_⟩
  · refine cs_ext ?_
    have e := cs_toN (x := folderS l) (n := 1) hn1
    rw [show ((1 : Nat) : Int) = 1 from rfl] at e
    rw [e, cs_folder, cs_slash]; rfl
  · rcases h with rfl | ⟨x, r, rfl, hx⟩
    · rw [folder_root]; decide +kernel
    · intro e
      have hx0 : cs x ≠ [] := fun e => hx (len0_empty e)
      obtain ⟨d, t, hd⟩ : ∃ d t, J (x :: r) = d :: t ∧ d ∈ cs x := by
        cases hc : cs x with
        | nil => exact absurd hc hx0
        | cons d t =>
          cases r with
          | nil => exact ⟨d, t, hc, .head _⟩
          | cons y r => exact ⟨d, t ++ 47 :: J (y :: r), by show cs x ++ _ = _; rw [hc]; rfl, .head _⟩
      have e2 := congrArg cs e
      rw [cs_12 (by rw [hl, hd.1]; simp), cs_folder, hd.1, cs_slash] at e2
      have : d = 47 := by simpa using e2
      exact hf x (.head _) (this ▸ hd.2)
  · rw [split_folder h.ne hf, ← J_len h.ne, ← hl]; exact hz
end
section
open PySem.Builtin PySem.Builtin.Str
set_option maxHeartbeats 1000000
theorem inv_nil (n : Nat) : Inv n [] [] := ⟨fun _ h => (nomatch h), Nat.zero_le _, Nat.zero_le _, fun _ h => (nomatch h), rfl⟩
theorem join_slash (a : Str) (xs : List Str) : joinP a (Str.ofString "/" :: xs) = joinP (folderS []) xs := by
  show joinP (joinStep a (Str.ofString "/")) xs = _
  have e : joinStep a (Str.ofString "/") = Str.ofString "/" := by
    unfold joinStep; rw [if_pos (.inl (by decide +kernel))]
  rw [e, folder_root0]
/-- names that no step of normpath touches -/
def Plain (c : Str) : Prop := Comp c ∧ c ≠ Str.ofString "." ∧ c ≠ Str.ofString ".."
theorem good_plain {c : Str} (h : GoodC c) : Plain c := ⟨good_comp h, h.2.2.2.1, h.2.2.2.2⟩
theorem step_plain {st : List Str} {c : Str} (h : Plain c) : normStep st c = st ++ [c] := by
  unfold normStep
  rw [if_neg (by rintro (e | e); exact h.1.1 e; exact h.2.1 e), if_pos (.inl h.2.2)]
theorem normF_plain {st : List Str} (h : ∀ c ∈ st, Plain c) : normF st = st := by
  revert h
  refine rev_ind (P := fun st => (∀ c ∈ st, Plain c) → normF st = st) (fun _ => rfl) ?_ st
  intro l x ih h
  rw [normF_snoc, ih (fun c hc => h c (List.mem_append_left _ hc)), step_plain (h x (by simp))]
theorem empty_free : Free (Str.ofString "") := by unfold Free; rw [cs_empty]; simp
/-- a folder as a list that is no empty one -/
def rep (st : List Str) : List Str := if st = [] then [Str.ofString ""] else st
theorem rep_folder (st : List Str) : folderS (rep st) = folderS st := by
  unfold rep; split
  · rename_i h; rw [h, folder_root, folder_root0]
  · rfl
theorem rep_hd {st : List Str} (h : ∀ c ∈ st, Comp c) : Hd (rep st) ∧ ∀ c ∈ rep st, Free c := by
  unfold rep; split
  · exact ⟨.inl rfl, fun c hc => by rw [List.mem_singleton.mp hc]; exact empty_free⟩
  · rename_i hne
    refine ⟨?_, fun c hc => (h c hc).2⟩
    cases st with
    | nil => exact absurd rfl hne
    | cons x r => exact .inr ⟨x, r, rfl, fun e => (h x (.head _)).1 (by rw [e]; decide +kernel)⟩
theorem rep_norm {st : List Str} (h : ∀ c ∈ st, Plain c) : normF (rep st) = st := by
  unfold rep; split
  · rename_i e; rw [e]; unfold normF; show normStep [] (Str.ofString "") = []
    unfold normStep; rw [if_pos (.inl (by decide +kernel))]
  · exact normF_plain h
theorem J_bound {st : List Str} {B : Nat} (h : ∀ c ∈ st, c.length ≤ B) : (J st).length ≤ (B + 1) * st.length := by
  induction st with
  | nil => exact Nat.zero_le _
  | cons x r ih =>
    have hx := h x (.head _)
    have := ih fun c hc => h c (.tail _ hc)
    rw [List.length_cons, Nat.mul_succ]
    cases r with
    | nil => show (cs x).length ≤ _; rw [cs_len]; omega
    | cons y r =>
      show (cs x ++ 47 :: J (y :: r)).length ≤ _
      rw [List.length_append, List.length_cons, cs_len]; omega
theorem folder_len {st : List Str} (h : ∀ c ∈ st, GoodC c) : (folderS st).length ≤ 1 + 41 * st.length := by
  have := J_bound (B := 40) fun c hc => (h c hc).2.1
  rw [← cs_len, cs_folder, List.length_cons]; omega
/-- the pieces -/
theorem piece_cases {word own : Str} (W : WordOk word own) {s : Int} (h0 : 0 ≤ s) (h1 : s < 10) : ∃ y, (piecesL word).getD s.toNat (Str.ofString "") = y ∧ Free y ∧ y.length ≤ 40 ∧
    ((Plain y ∧ GoodC y ∧ s ≠ 1 ∧ nameOf s own = some (stripQ y)) ∨ (s = 1 ∧ y = Str.ofString "..") ∨ (s ≠ 1 ∧ nameOf s own = none ∧ (y.length = 0 ∨ y = Str.ofString "."))) := by
  have lit : ∀ (z : Str), (z.length ≠ 0 ∧ z.length ≤ 40 ∧ (47 ∈ cs z → False) ∧ z ≠ Str.ofString "." ∧ z ≠ Str.ofString "..") → Free z ∧ z.length ≤ 40 ∧ Plain z ∧ GoodC z := by
    rintro z ⟨a, b, c, d, e⟩
    have g : GoodC z := ⟨a, b, free_iff.mp c, d, e⟩
    exact ⟨c, b, good_plain g, g⟩
  have hs : s = 0 ∨ s = 1 ∨ s = 2 ∨ s = 3 ∨ s = 4 ∨ s = 5 ∨ s = 6 ∨ s = 7 ∨ s = 8 ∨ s = 9 := by omega
  rcases hs with rfl | rfl | rfl | rfl | rfl | rfl | rfl | rfl | rfl | rfl
  · exact ⟨word, rfl, (good_comp W.1).2, W.1.2.1, .inl ⟨good_plain W.1, W.1, by decide, by rw [W.2]; rfl⟩⟩
  · exact ⟨Str.ofString "..", rfl, by unfold Free; decide +kernel, by decide +kernel, .inr (.inl ⟨rfl, rfl⟩)⟩
  · obtain ⟨a, b, c, d⟩ := lit (Str.ofString "\"a") (by decide +kernel)
    exact ⟨Str.ofString "\"a", rfl, a, b, .inl ⟨c, d, by decide, by rw [show stripQ (Str.ofString "\"a") = Str.ofString "a" by decide +kernel]; rfl⟩⟩
  · obtain ⟨a, b, c, d⟩ := lit (Str.ofString "\"..\"") (by decide +kernel)
    exact ⟨Str.ofString "\"..\"", rfl, a, b, .inl ⟨c, d, by decide, by rw [show stripQ (Str.ofString "\"..\"") = Str.ofString ".." by decide +kernel]; rfl⟩⟩
  · obtain ⟨a, b, c, d⟩ := lit (Str.ofString "\"") (by decide +kernel)
    exact ⟨Str.ofString "\"", rfl, a, b, .inl ⟨c, d, by decide, by rw [show stripQ (Str.ofString "\"") = Str.ofString "" by decide +kernel]; rfl⟩⟩
  · exact ⟨Str.ofString ".", rfl, by unfold Free; decide +kernel, by decide +kernel, .inr (.inr ⟨by decide, rfl, .inr rfl⟩)⟩
  · exact ⟨Str.ofString "", rfl, by unfold Free; decide +kernel, by decide +kernel, .inr (.inr ⟨by decide, rfl, .inl (by decide +kernel)⟩)⟩
  · obtain ⟨a, b, c, d⟩ := lit (Str.ofString "\".\"") (by decide +kernel)
    exact ⟨Str.ofString "\".\"", rfl, a, b, .inl ⟨c, d, by decide, by rw [show stripQ (Str.ofString "\".\"") = Str.ofString "." by decide +kernel]; rfl⟩⟩
  · obtain ⟨a, b, c, d⟩ := lit (Str.ofString "b\"") (by decide +kernel)
    exact ⟨Str.ofString "b\"", rfl, a, b, .inl ⟨c, d, by decide, by rw [show stripQ (Str.ofString "b\"") = Str.ofString "b" by decide +kernel]; rfl⟩⟩
  · obtain ⟨a, b, c, d⟩ := lit (Str.ofString "\"\"\"") (by decide +kernel)
    exact ⟨Str.ofString "\"\"\"", rfl, a, b, .inl ⟨c, d, by decide, by rw [show stripQ (Str.ofString "\"\"\"") = Str.ofString "\"" by decide +kernel]; rfl⟩⟩
/-- the names read forwards -/
def fstep (st : List Str) (p : Int × Str) : List Str := if p.1 = 1 then st.dropLast else match nameOf p.1 p.2 with
  | none => st
  | some x => st ++ [x]
theorem due_gen (fs : List (Int × Str)) : ∀ (ns : List Str) (k : Nat), (fs.reverse.foldl dueStep (ns, (k : Int))).1 = (fs.foldl fstep []).take ((fs.foldl fstep []).length - k) ++ ns := by
  refine rev_ind (P := fun fs => ∀ (ns : List Str) (k : Nat), (fs.reverse.foldl dueStep (ns, (k : Int))).1 = (fs.foldl fstep []).take ((fs.foldl fstep []).length - k) ++ ns) ?_ ?_ fs
  · intro ns k; simp
  · intro l p ih ns k
    rw [List.reverse_append, List.foldl_append, List.foldl_append]
    show (l.reverse.foldl dueStep (dueStep (ns, (k : Int)) p)).1 = _
    generalize hF : l.foldl fstep [] = F at ih
    show _ = (fstep F p).take ((fstep F p).length - k) ++ ns
    by_cases h1 : p.1 = 1
    · have e : ((k : Int) + 1) = ((k + 1 : Nat) : Int) := by omega
      rw [show dueStep (ns, (k : Int)) p = (ns, ((k + 1 : Nat) : Int)) by unfold dueStep; rw [if_pos h1, ← e], show fstep F p = F.dropLast by unfold fstep; rw [if_pos h1],
        ih ns (k + 1), List.dropLast_eq_take, List.take_take, List.length_take]
      congr 2; omega
    · cases hn : nameOf p.1 p.2 with
      | none =>
        rw [show dueStep (ns, (k : Int)) p = (ns, (k : Int)) by unfold dueStep; rw [if_neg h1, hn], show fstep F p = F by unfold fstep; rw [if_neg h1, hn]]
        exact ih ns k
      | some x =>
        rw [show fstep F p = F ++ [x] by unfold fstep; rw [if_neg h1, hn]]
        by_cases hk : 0 < k
        · have e : ((k : Int) - 1) = ((k - 1 : Nat) : Int) := by omega
          rw [show dueStep (ns, (k : Int)) p = (ns, ((k - 1 : Nat) : Int)) by unfold dueStep; rw [if_neg h1, hn, ← e]; exact if_pos (by show 0 < (k : Int); omega),
            ih ns (k - 1), List.length_append, List.length_singleton, List.take_append_of_le_length (by omega)]
          congr 2; omega
        · have e : k = 0 := by omega
          subst e
          rw [show dueStep (ns, ((0 : Nat) : Int)) p = (x :: ns, ((0 : Nat) : Int)) by unfold dueStep; rw [if_neg h1, hn]; exact if_neg (by show ¬ (0 : Int) < 0; decide), ih (x :: ns) 0]
          rw [Nat.sub_zero, Nat.sub_zero, List.take_length, List.take_length]
          simp
theorem due_is (fs : List (Int × Str)) : dueF fs = fs.foldl fstep [] := by
  have h := due_gen fs [] 0
  unfold dueF dueS
  rw [show (([] : List Str), (0 : Int)) = (([] : List Str), ((0 : Nat) : Int)) from rfl, h]
  simp
theorem good_step {st : List Str} {word own : Str} (W : WordOk word own) {s : Int} (h0 : 0 ≤ s) (h1 : s < 10) (hg : ∀ c ∈ st, GoodC c) :
    (∀ c ∈ normStep st ((piecesL word).getD s.toNat (Str.ofString "")), GoodC c) ∧ (normStep st ((piecesL word).getD s.toNat (Str.ofString ""))).length ≤ st.length + 1 ∧
    (normStep st ((piecesL word).getD s.toNat (Str.ofString ""))).map stripQ = fstep (st.map stripQ) (s, own) := by
  obtain ⟨y, e, _, _, h⟩ := piece_cases W h0 h1
  rw [e]
  rcases h with ⟨hp, hgy, hs, hn⟩ | ⟨rfl, rfl⟩ | ⟨hs, hn, hy⟩
  · rw [step_plain hp]
    refine ⟨?_, by simp, ?_⟩
    · intro c hc
      rcases List.mem_append.mp hc with hc | hc
      · exact hg c hc
      · rw [List.mem_singleton.mp hc]; exact hgy
    · unfold fstep; rw [if_neg hs, hn, List.map_append]; rfl
  · have e2 : normStep st (Str.ofString "..") = st.dropLast := by
      unfold normStep
      rw [if_neg (by decide +kernel), if_neg]
      rintro (h | h)
      · exact h rfl
      · exact (hg _ (List.mem_of_getLast? h)).2.2.2.2 rfl
    rw [e2]
    refine ⟨fun c hc => hg c ((List.dropLast_sublist _).subset hc), by rw [List.length_dropLast]; omega, ?_⟩
    unfold fstep; rw [if_pos rfl, List.map_dropLast]
  · have e2 : normStep st y = st := by
      unfold normStep; rw [if_pos hy]
    rw [e2]
    refine ⟨hg, by omega, ?_⟩
    unfold fstep; rw [if_neg hs, hn]
theorem good_fold {word own : Str} (W : WordOk word own) : ∀ (steps : List Int) (st : List Str), (∀ s ∈ steps, 0 ≤ s ∧ s < 10) → (∀ c ∈ st, GoodC c) →
    (∀ c ∈ (partsOf word steps).foldl normStep st, GoodC c) ∧ ((partsOf word steps).foldl normStep st).length ≤ st.length + steps.length ∧
    ((partsOf word steps).foldl normStep st).map stripQ = (steps.map fun s => (s, own)).foldl fstep (st.map stripQ) := by
  intro steps
  induction steps with
  | nil => intro st _ hg; exact ⟨hg, by simp [partsOf], rfl⟩
  | cons s r ih =>
    intro st hs hg
    obtain ⟨a, b, c⟩ := good_step W (hs s (.head _)).1 (hs s (.head _)).2 hg
    obtain ⟨d, e, f⟩ := ih _ (fun s hs' => hs s (.tail _ hs')) a
    refine ⟨d, ?_, ?_⟩
    · rw [List.length_cons]; exact Nat.le_trans e (by omega)
    · rw [List.map_cons, List.foldl_cons, ← c]; exact f
theorem parts_ok {word own : Str} {ds : List Int} (W : WordOk word own) (hs : ∀ s ∈ ds, 0 ≤ s ∧ s < 10) : (∀ y ∈ partsOf word ds, Free y) ∧ sumL (partsOf word ds) ≤ 41 * ds.length := by
  induction ds with
  | nil => exact ⟨fun _ h => (nomatch h), Nat.le_refl _⟩
  | cons d r ih =>
    obtain ⟨a, b⟩ := ih fun s h => hs s (.tail _ h)
    obtain ⟨y, e, hf, hl, _⟩ := piece_cases W (hs d (.head _)).1 (hs d (.head _)).2
    have e2 : partsOf word (d :: r) = y :: partsOf word r := by rw [← e]; rfl
    rw [e2, sumL_cons, List.length_cons]
    refine ⟨fun z hz => ?_, by omega⟩
    rcases List.mem_cons.mp hz with rfl | hz
    · exact hf
    · exact a z hz
theorem parts_sum {word own : Str} {ds : List Int} (W : WordOk word own) (hs : ∀ s ∈ ds, 0 ≤ s ∧ s < 10) (hl : ds.length ≤ 4) : sumL (partsOf word ds) ≤ 200 := by
  have := (parts_ok W hs).2
  omega
theorem turn_law {n : Nat} {st : List Str} {fs : List (Int × Str)} {word own : Str} {steps : List Int} (hn : n ≤ 10) (I : Inv n st fs) (W : WordOk word own) (hs : ∀ s ∈ steps, 0 ≤ s ∧ s < 10) (hl : steps.length ≤ 4) :
    NormPre (joinP (folderS st) (partsOf word steps)) ∧ normP (joinP (folderS st) (partsOf word steps)) = folderS ((partsOf word steps).foldl normStep st) ∧ Inv (n + 1) ((partsOf word steps).foldl normStep st) (fs ++ steps.map fun s => (s, own)) := by
  obtain ⟨hF, hsum⟩ := parts_ok W hs
  obtain ⟨r1, r2⟩ := rep_hd fun c hc => good_comp (I.good c hc)
  obtain ⟨j1, j2, j3, j4⟩ := jfold hF r1 r2
  rw [rep_folder] at j1
  have hfl := folder_len I.good
  have hIl := I.len
  have hjl := joinP_len (folderS st) (partsOf word steps)
  obtain ⟨g1, g2, g3⟩ := good_fold W steps st hs I.good
  rw [j1] at hjl ⊢
  refine ⟨norm_pre j2 j3 (by omega), ?_, ⟨g1, by omega, ?_, ?_, ?_⟩⟩
  · rw [norm_folder j2.ne j3, j4, rep_norm fun c hc => good_plain (I.good c hc)]
  · rw [List.length_append, List.length_map]; have := I.fsl; omega
  · intro p hp
    rcases List.mem_append.mp hp with hp | hp
    · exact I.fsr p hp
    · obtain ⟨s, hs', e⟩ := List.mem_map.mp hp
      rw [← e]; exact hs s hs'
  · rw [g3, I.due, due_is, due_is, List.foldl_append]
end
section
open PySem.Builtin PySem.Builtin.Str
set_option maxHeartbeats 1000000
theorem strip_starts {x : Str} {t : List Nat} (h : cs x = 34 :: t) : cs (if Txt.startswith x (Str.ofString "\"") then Txt.slice x (some 1) none else x) = t := by
  rw [if_pos (by rw [quote_is, starts_iff, h]; rfl), cs_from1 (by rw [← cs_len, h]; simp), h]; rfl
theorem strip_starts_no {x : Str} (h : (cs x)[0]? ≠ some 34) : (if Txt.startswith x (Str.ofString "\"") then Txt.slice x (some 1) none else x) = x := by
  rw [if_neg (by rw [quote_is, starts_iff]; exact h)]
theorem strip_ends {x : Str} {t : List Nat} (h : cs x = t ++ [34]) : cs (if Txt.endswith x (Str.ofString "\"") then Txt.slice x none (some (-1)) else x) = t := by
  rw [if_pos (by rw [quote_is, ends_iff, h]; simp), cs_toLast (by rw [← cs_len, h]; simp), h, List.dropLast_concat]
theorem strip_ends_no {x : Str} (h : (cs x).getLast? ≠ some 34) : (if Txt.endswith x (Str.ofString "\"") then Txt.slice x none (some (-1)) else x) = x := by
  rw [if_neg (by rw [quote_is, ends_iff]; exact h)]
theorem strip_quote (x : Str) : stripQ (quote x) = x := by
  refine cs_ext ?_
  unfold stripQ
  exact strip_ends (strip_starts (cs_quoteS x))
theorem path_len {names : List Str} (h : ∀ x ∈ names, NameOk x) (hl : names.length ≤ 20) : (pathOf names).length ≤ 1000 := by
  have hb := J_bound (B := 42) (st := names.map quote) fun c hc => by
    obtain ⟨x, hx, e⟩ := List.mem_map.mp hc
    have := (h x hx).1
    rw [← e, ← cs_len, cs_quoteS, List.length_cons, List.length_append, cs_len]
    simp only [List.length_singleton]; omega
  rw [List.length_map] at hb
  unfold pathOf
  rw [← cs_len, cs_folder, List.length_cons]; omega
theorem path_start (names : List Str) : Txt.startswith (pathOf names) (Str.ofString "/") = true := by
  rw [slash_is, starts_iff]; unfold pathOf; rw [cs_folder]; rfl
theorem quote_plain {x : Str} (h : NameOk x) : Plain (quote x) := by
  refine ⟨quote_comp h, fun e => ?_, fun e => ?_⟩
  · have := congrArg cs e
    rw [cs_quoteS, show cs (Str.ofString ".") = [46] by decide +kernel] at this
    exact absurd (List.cons.inj this).1 (by decide)
  · have := congrArg cs e
    rw [cs_quoteS, show cs (Str.ofString "..") = [46, 46] by decide +kernel] at this
    exact absurd (List.cons.inj this).1 (by decide)
theorem quotes_plain {names : List Str} (h : ∀ x ∈ names, NameOk x) : ∀ c ∈ names.map quote, Plain c := fun c hc => by
  obtain ⟨x, hx, e⟩ := List.mem_map.mp hc
  rw [← e]; exact quote_plain (h x hx)
theorem norm_path {names : List Str} (h : ∀ x ∈ names, NameOk x) (hl : names.length ≤ 20) : NormPre (pathOf names) ∧ normP (pathOf names) = pathOf names := by
  have hp := quotes_plain h
  obtain ⟨r1, r2⟩ := rep_hd fun c hc => (hp c hc).1
  have hz := path_len h hl
  unfold pathOf at hz ⊢
  rw [← rep_folder] at hz
  refine ⟨by rw [← rep_folder]; exact norm_pre r1 r2 (by omega), ?_⟩
  have e := norm_folder r1.ne r2
  rw [rep_folder, rep_norm hp] at e
  exact e
theorem jn_app {q : List Str} (hq : ∀ c ∈ q, Comp c) : ∀ {l : List Str}, l ≠ [] → (∀ c ∈ l, Comp c) → q.foldl jn l = l ++ q := by
  induction q with
  | nil => intro l _ _; simp
  | cons x r ih =>
    intro l hne hl
    have e : jn l x = l ++ [x] := by
      unfold jn
      rw [if_neg]
      intro e
      exact (hl _ (List.mem_of_getLast? e)).1 (by decide +kernel)
    rw [List.foldl_cons, e, ih (fun c hc => hq c (.tail _ hc)) (by simp) (fun c hc => ?_)]
    · simp
    · rcases List.mem_append.mp hc with hc | hc
      · exact hl c hc
      · rw [List.mem_singleton.mp hc]; exact hq x (.head _)
theorem joinP_quotes {names : List Str} (h : ∀ x ∈ names, NameOk x) : joinP (Str.ofString "/") (names.map quote) = pathOf names := by
  have hp := quotes_plain h
  unfold pathOf
  generalize names.map quote = q at hp
  obtain ⟨j1, _, _, _⟩ := jfold (parts := q) (fun c hc => (hp c hc).1.2) (l := [Str.ofString ""]) (.inl rfl) (fun c hc => by rw [List.mem_singleton.mp hc]; exact empty_free)
  rw [folder_root] at j1
  rw [j1]
  cases q with
  | nil => rw [List.foldl_nil, folder_root, folder_root0]
  | cons x r =>
    have e : jn [Str.ofString ""] x = [x] := by unfold jn; rw [if_pos (by simp)]; rfl
    rw [List.foldl_cons, e, jn_app (fun c hc => (hp c (.tail _ hc)).1) (by simp) (fun c hc => by rw [List.mem_singleton.mp hc]; exact (hp x (.head _)).1)]
    rfl
theorem okc_plain {c : Str} (h : Plain c) : okc c = true := okc_a (by have := h.1.1; omega) (by simpa using h.2.1)
theorem path_comps {names : List Str} (h : ∀ x ∈ names, NameOk x) : compsOf (pathOf names) = names.map quote := by
  have hp := quotes_plain h
  unfold pathOf compsOf
  generalize names.map quote = q at hp
  have he : okc (Str.ofString "") = false := by decide +kernel
  have hq : ∀ q : List Str, (∀ c ∈ q, Plain c) → q.filter okc = q := fun q hq => List.filter_eq_self.mpr fun c hc => okc_plain (hq c hc)
  cases q with
  | nil =>
    rw [folder_root0]
    have : Txt.split (Str.ofString "/") (Str.ofString "/") = [Str.ofString "", Str.ofString ""] :=
      split_of (by simp) (fun y hy => by simp only [List.mem_cons, List.not_mem_nil, or_false, or_self] at hy; rw [hy]; exact empty_free) (by show _ = cs (Str.ofString "") ++ 47 :: cs (Str.ofString ""); rw [cs_empty, cs_slash]; rfl)
    rw [this, List.filter_cons, he, List.filter_cons, he]; rfl
  | cons x r =>
    have : Txt.split (folderS (x :: r)) (Str.ofString "/") = Str.ofString "" :: x :: r :=
      split_of (by simp) (fun y hy => by rcases List.mem_cons.mp hy with rfl | hy; exact empty_free; exact (hp y hy).1.2) (by rw [cs_folder]; show _ = cs (Str.ofString "") ++ 47 :: J (x :: r); rw [cs_empty]; rfl)
    rw [this, List.filter_cons, he, hq _ hp]; rfl
theorem strip_sub (x : Str) : (∀ k ∈ cs (stripQ x), k ∈ cs x) ∧ (stripQ x).length ≤ x.length := by
  have a1 : ∀ y : Str, (∀ k ∈ cs (if Txt.startswith y (Str.ofString "\"") then Txt.slice y (some 1) none else y), k ∈ cs y) := by
    intro y k hk
    split at hk
    · rename_i h
      rw [quote_is, starts_iff] at h
      have hl : 1 ≤ y.length := by rw [← cs_len]; exact (List.getElem?_eq_some_iff.mp h).1
      rw [cs_from1 hl] at hk
      exact List.mem_of_mem_drop hk
    · exact hk
  have a2 : ∀ y : Str, (∀ k ∈ cs (if Txt.endswith y (Str.ofString "\"") then Txt.slice y none (some (-1)) else y), k ∈ cs y) := by
    intro y k hk
    split at hk
    · rename_i h
      rw [quote_is, ends_iff] at h
      have hl : 1 ≤ y.length := by rw [← cs_len]; exact List.length_pos_iff.mpr (fun e => by rw [e] at h; cases h)
      rw [cs_toLast hl] at hk
      exact (List.dropLast_sublist _).subset hk
    · exact hk
  refine ⟨fun k hk => a1 x k (a2 _ k hk), ?_⟩
  unfold stripQ
  have b1 : ∀ y : Str, (if Txt.startswith y (Str.ofString "\"") then Txt.slice y (some 1) none else y).length ≤ y.length := by
    intro y; split
    · exact Txt.slice_le _ _ _
    · exact Nat.le_refl _
  have b2 : ∀ y : Str, (if Txt.endswith y (Str.ofString "\"") then Txt.slice y none (some (-1)) else y).length ≤ y.length := by
    intro y; split
    · exact Txt.slice_le _ _ _
    · exact Nat.le_refl _
  exact Nat.le_trans (b2 _) (b1 x)
theorem names_ok {st : List Str} (h : ∀ c ∈ st, GoodC c) : ∀ x ∈ st.map stripQ, NameOk x := by
  intro x hx
  obtain ⟨c, hc, e⟩ := List.mem_map.mp hx
  obtain ⟨s1, s2⟩ := strip_sub c
  have g := h c hc
  rw [← e]
  exact ⟨Nat.le_trans s2 g.2.1, fun k hk => g.2.2.1 k (s1 k hk)⟩
/-- words -/
theorem core_cs {x : Str} (h : CoreOk x) : ∃ c m, (c ≠ 47 ∧ c ≠ 34 ∧ c ≠ 46) ∧ (cs x = [c] ∨ cs x = c :: (m ++ [c])) ∧ (∀ k ∈ m, k ≠ 47) ∧ m.length ≤ 20 := by
  obtain ⟨e, i, he, hi, hx⟩ := h
  have key : ∃ c, cs e = [c] ∧ (c ≠ 47 ∧ c ≠ 34 ∧ c ≠ 46) := by
    simp only [endsL, List.mem_cons, List.not_mem_nil, or_false] at he
    rcases he with rfl | rfl | rfl | rfl | rfl | rfl
    · exact ⟨97, by decide +kernel, by decide⟩
    · exact ⟨32, by decide +kernel, by decide⟩
    · exact ⟨39, by decide +kernel, by decide⟩
    · exact ⟨45, by decide +kernel, by decide⟩
    · exact ⟨92, by decide +kernel, by decide⟩
    · exact ⟨233, by decide +kernel, by decide⟩
  obtain ⟨c, hc, hok⟩ := key
  refine ⟨c, cs i, hok, ?_, hi.1, by rw [cs_len]; exact hi.2⟩
  rcases hx with rfl | rfl
  · exact .inl hc
  · exact .inr (by rw [cs_app, cs_app, hc]; simp)
theorem mulq (a : Int) (h0 : 0 ≤ a) (h3 : a < 3) : cs (Txt.mul (Str.ofString "\"") a) = List.replicate a.toNat 34 := by
  have : a = 0 ∨ a = 1 ∨ a = 2 := by omega
  rcases this with rfl | rfl | rfl <;> decide +kernel
theorem word_law {core : Str} {a b : Int} (hc : CoreOk core) (ha : 0 ≤ a) (ha3 : a < 3) (hb : 0 ≤ b) (hb3 : b < 3) :
    WordOk (Txt.mul (Str.ofString "\"") a ++ core ++ Txt.mul (Str.ofString "\"") b) (Txt.mul (Str.ofString "\"") (if 0 > a - 1 then 0 else a - 1) ++ core ++ Txt.mul (Str.ofString "\"") (if 0 > b - 1 then 0 else b - 1)) := by
  obtain ⟨c, m, ⟨c1, c2, c3⟩, hcs, hm, hml⟩ := core_cs hc
  have hcl : (cs core).length ≤ 22 := by rcases hcs with e | e <;> rw [e] <;> simp <;> omega
  have hcm : ∀ k ∈ cs core, k ≠ 47 := by
    intro k hk
    rcases hcs with e | e
    · rw [e] at hk; rw [List.mem_singleton.mp hk]; exact c1
    · rw [e] at hk
      simp only [List.mem_cons, List.mem_append, List.not_mem_nil, or_false] at hk
      rcases hk with rfl | hk | rfl
      · exact c1
      · exact hm k hk
      · exact c1
  have hcc : c ∈ cs core := by rcases hcs with e | e <;> rw [e] <;> simp
  have hc0 : (cs core)[0]? = some c := by rcases hcs with e | e <;> rw [e] <;> rfl
  have hcL : (cs core).getLast? = some c := by
    rcases hcs with e | e
    · rw [e]; rfl
    · have e2 : cs core = (c :: m) ++ [c] := e
      rw [e2]; exact List.getLast?_concat
  have hne : cs core ≠ [] := fun e => by rw [e] at hcc; cases hcc
  have cw : ∀ p q : Int, 0 ≤ p → p < 3 → 0 ≤ q → q < 3 → cs (Txt.mul (Str.ofString "\"") p ++ core ++ Txt.mul (Str.ofString "\"") q) = List.replicate p.toNat 34 ++ cs core ++ List.replicate q.toNat 34 := by
    intro p q p0 p3 q0 q3
    rw [cs_app, cs_app, mulq p p0 p3, mulq q q0 q3]
  have hw := cw a b ha ha3 hb hb3
  generalize Txt.mul (Str.ofString "\"") a ++ core ++ Txt.mul (Str.ofString "\"") b = w at hw
  refine ⟨⟨?_, ?_, ?_, ?_, ?_⟩, ?_⟩
  · intro e
    rw [← cs_len, hw] at e
    simp only [List.length_append, List.length_replicate] at e
    exact hne (List.length_eq_zero_iff.mp (by omega))
  · rw [← cs_len, hw]
    simp only [List.length_append, List.length_replicate]
    omega
  · intro k hk
    have hk : k ∈ cs w := hk
    rw [hw] at hk
    simp only [List.mem_append, List.mem_replicate] at hk
    rcases hk with (⟨_, rfl⟩ | hk) | ⟨_, rfl⟩
    · decide
    · exact hcm k hk
    · decide
  · intro e
    have hcw : c ∈ cs w := by rw [hw]; simp [hcc]
    rw [e, show cs (Str.ofString ".") = [46] by decide +kernel] at hcw
    exact c3 (List.mem_singleton.mp hcw)
  · intro e
    have hcw : c ∈ cs w := by rw [hw]; simp [hcc]
    rw [e, show cs (Str.ofString "..") = [46, 46] by decide +kernel] at hcw
    simp at hcw; exact c3 hcw
  · refine cs_ext ?_
    rw [cw _ _ (by split <;> omega) (by split <;> omega) (by split <;> omega) (by split <;> omega)]
    have front : cs (if Txt.startswith w (Str.ofString "\"") then Txt.slice w (some 1) none else w) = List.replicate (if 0 > a - 1 then 0 else a - 1).toNat 34 ++ cs core ++ List.replicate b.toNat 34 := by
      by_cases h : 0 > a - 1
      · rw [if_pos h]
        have e0 : a = 0 := by omega
        subst e0
        have hw2 : cs w = cs core ++ List.replicate b.toNat 34 := by rw [hw]; rfl
        rw [strip_starts_no, hw2]
        · rfl
        · rw [hw2, List.getElem?_append_left (List.length_pos_iff.mpr hne), hc0]
          intro e; exact c2 (Option.some.inj e)
      · rw [if_neg h]
        have e0 : a.toNat = (a - 1).toNat + 1 := by omega
        exact strip_starts (by rw [hw, e0, List.replicate_succ]; rfl)
    unfold stripQ
    dsimp only
    generalize (if Txt.startswith w (Str.ofString "\"") then Txt.slice w (some 1) none else w) = y at front
    by_cases h : 0 > b - 1
    · rw [if_pos h]
      have e0 : b = 0 := by omega
      subst e0
      have hy2 : cs y = List.replicate (if 0 > a - 1 then 0 else a - 1).toNat 34 ++ cs core := by rw [front]; show _ ++ [] = _; rw [List.append_nil]
      rw [strip_ends_no, hy2]
      · show _ = _ ++ []; rw [List.append_nil]
      · rw [hy2, List.getLast?_append, hcL]
        intro e; exact c2 (Option.some.inj e)
    · rw [if_neg h]
      have e0 : b.toNat = (b - 1).toNat + 1 := by omega
      refine strip_ends ?_
      rw [front, e0, List.replicate_succ']
      simp only [List.append_assoc]
end
section
set_option maxHeartbeats 1000000
theorem strLt_tot {a b : Str} (h1 : strLt a b = false) (h2 : strLt b a = false) : a = b := by
  unfold strLt at h1 h2
  have h1 := of_decide_eq_false h1
  have h2 := of_decide_eq_false h2
  have h3 : cs a = cs b := List.le_antisymm (List.not_lt.mp h2) (List.not_lt.mp h1)
  exact cs_ext h3
theorem between : ∀ (j : Nat) {a b r : List Str}, ltL r a = false → ltL b r = false → a.take j = b.take j → j ≤ a.length → j ≤ b.length → r.take j = a.take j := by
  intro j
  induction j with
  | zero => intro a b r _ _ _ _ _; simp
  | succ j ih =>
    intro a b r h1 h2 he ha hb
    cases a with
    | nil => simp at ha
    | cons x a =>
      cases b with
      | nil => simp at hb
      | cons y b =>
        simp only [List.take_succ_cons, List.cons.injEq] at he
        obtain ⟨rfl, he⟩ := he
        cases r with
        | nil => simp [ltL] at h1
        | cons z r =>
          simp only [ltL] at h1 h2
          have hz : z = x := by
            by_cases hzx : z = x
            · exact hzx
            · rw [if_neg hzx] at h1
              rw [if_neg (fun e => hzx e.symm)] at h2
              exact strLt_tot h1 h2
          subst hz
          rw [if_pos rfl] at h1 h2
          rw [List.take_succ_cons, List.take_succ_cons, ih h1 h2 he (by simpa using ha) (by simpa using hb)]
theorem quote_inj {a b : List Str} (h : a.map quote = b.map quote) : a = b := by
  have := congrArg (fun l => l.map stripQ) h
  simp only [List.map_map] at this
  have e : (stripQ ∘ quote) = id := funext strip_quote
  rwa [e, List.map_id, List.map_id] at this
/-- the end: what is read of the common path is the rows' common beginning -/
theorem end_law {rows : List (List Str)} {r0 : List Str} {k : Nat} (h0 : rows[0]? = some r0) (hk : k ≤ r0.length) (ha : AllEq rows r0 k) (hm : ∀ k', k < k' → k' ≤ r0.length → ¬ AllEq rows r0 k')
    {r1 r2 : List Str} {j : Nat} (m1 : r1 ∈ rows.map (·.map quote)) (m2 : r2 ∈ rows.map (·.map quote)) (hmin : ∀ r ∈ rows.map (·.map quote), ltL r r1 = false) (hmax : ∀ r ∈ rows.map (·.map quote), ltL r2 r = false)
    (hj1 : j ≤ r1.length) (hj2 : j ≤ r2.length) (he : r1.take j = r2.take j) (hd : j = r1.length ∨ r1[j]? ≠ r2[j]?) : r1.take j = (r0.take k).map quote := by
  have hall : ∀ r ∈ rows, (r.take j).map quote = r1.take j := by
    intro r hr
    have hq : r.map quote ∈ rows.map (·.map quote) := List.mem_map.mpr ⟨r, hr, rfl⟩
    rw [List.map_take]
    exact between j (hmin _ hq) (hmax _ hq) he hj1 hj2
  have hr0 := List.mem_of_getElem? h0
  have e0 := hall r0 hr0
  have hj0 : j ≤ r0.length := by
    have := congrArg List.length e0
    rw [List.length_map, List.length_take, List.length_take] at this
    omega
  have hjk : ¬ k < j := fun hlt => hm j hlt hj0 fun r hr => quote_inj ((hall r hr).trans e0.symm)
  have hkj : ¬ j < k := by
    intro hlt
    obtain ⟨p1, hp1, e1⟩ := List.mem_map.mp m1
    obtain ⟨p2, hp2, e2⟩ := List.mem_map.mp m2
    have g1 := ha p1 hp1
    have g2 := ha p2 hp2
    have get : ∀ p : List Str, p.take k = r0.take k → (p.map quote)[j]? = (r0.map quote)[j]? := by
      intro p hp
      have h1 : (p.take k)[j]? = (r0.take k)[j]? := by rw [hp]
      rw [List.getElem?_take_of_lt hlt, List.getElem?_take_of_lt hlt] at h1
      rw [List.getElem?_map, List.getElem?_map, h1]
    rcases hd with hd | hd
    · have hl := congrArg List.length g1
      rw [List.length_take, List.length_take] at hl
      have : r1.length = p1.length := by rw [← e1, List.length_map]
      omega
    · apply hd
      rw [← e1, ← e2]
      show (p1.map quote)[j]? = (p2.map quote)[j]?
      rw [get p1 g1, get p2 g2]
  have : j = k := by omega
  subst this
  exact e0.symm
end
section
set_option maxHeartbeats 1000000
theorem dg_range : ∀ {c : Char}, c.isDigit = true → 48 ≤ c.toNat ∧ c.toNat ≤ 57 := by
  intro c h
  simp only [Char.isDigit, ge_iff_le, Bool.and_eq_true, decide_eq_true_eq] at h
  exact ⟨UInt32.le_iff_toNat_le.mp h.1, UInt32.le_iff_toNat_le.mp h.2⟩
theorem dg_signs {n : Int} (h0 : 0 ≤ n) (h1 : n < 10000) : (Str.ofString (toString n)).cps.toList.length ≤ 4 ∧ ∀ c ∈ (Str.ofString (toString n)).cps.toList, 48 ≤ c ∧ c ≤ 57 := by
  obtain ⟨m, rfl⟩ := Int.eq_ofNat_of_zero_le h0
  rw [KIN.signs_num]
  refine ⟨?_, fun c hc => ?_⟩
  · rw [List.length_map]
    exact (Nat.length_toDigits_le_iff (by decide) (by decide)).mpr (by omega)
  · obtain ⟨ch, hch, e⟩ := List.mem_map.mp hc
    rw [← e]
    exact dg_range (Nat.isDigit_of_mem_toDigits (by decide) (by decide) hch)
theorem dg_size {n : Int} (h0 : 0 ≤ n) (h1 : n < 10000) : (Str.ofString (toString n)).cps.size ≤ 4 := by
  have h := (dg_signs h0 h1).1
  rwa [Array.length_toList] at h
theorem dg_ascii {n : Int} (h0 : 0 ≤ n) (h1 : n < 10000) : ((Str.ofString (toString n)).cps.all (· < 128)) = true := by
  rw [Array.all_eq_true']
  intro c hc
  have h := (dg_signs h0 h1).2 c (Array.mem_toList_iff.mpr hc)
  exact decide_eq_true (by omega)
theorem dg_int : ∀ d : Nat, d < 10 → PySem.intText? ⟨#[d + 48]⟩ = some (d : Int) := by decide +kernel
theorem dg_item {n : Int} (h0 : 0 ≤ n) (h1 : n < 10000) {i : Nat} {v : Value} (h : SignAt (Str.ofString (toString n)) i v) : ∃ c u d, v = .str ⟨#[c]⟩ u ∧ PySem.intText? ⟨#[c]⟩ = some d ∧ 0 ≤ d ∧ d < 10 := by
  obtain ⟨c, u, hc, rfl⟩ := h
  have hm := (dg_signs h0 h1).2 c (Array.mem_toList_iff.mpr (Array.mem_of_getElem? hc))
  have e := dg_int (c - 48) (by omega)
  rw [show c - 48 + 48 = c by omega] at e
  exact ⟨c, u, _, rfl, e, by omega, by omega⟩
end
section
set_option maxHeartbeats 1000000
section
universe u
variable {α : Type u} {p a b c d e f g h i j k l m : α} {t u v w : List α}
theorem sub1 (q : p ∈ a :: t) : p ∈ a :: b :: t := by simp only [List.mem_cons] at q ⊢; grind
theorem sub2 (q : p ∈ a :: d :: f :: g :: h :: i :: k :: l :: (t ++ [])) : p ∈ a :: b :: d :: e :: f :: g :: h :: i :: j :: k :: l :: (t ++ u) := by simp only [List.append_nil, List.mem_cons, List.mem_append] at q ⊢; grind
theorem sub3 (q : p ∈ j :: d :: f :: g :: h :: i :: k :: l :: t) : p ∈ b :: d :: e :: f :: g :: h :: i :: j :: k :: l :: t := by simp only [List.mem_cons] at q ⊢; grind
theorem sub4 (q : p ∈ a :: b :: c :: d :: e :: f :: g :: h :: i :: j :: k :: ((l :: t) ++ u)) : p ∈ l :: a :: b :: c :: d :: e :: f :: g :: h :: i :: j :: k :: (t ++ u) := by simp only [List.cons_append, List.mem_cons] at q ⊢; grind
theorem sub5 (q : p ∈ t ++ v) : p ∈ a :: b :: c :: d :: e :: f :: g :: h :: i :: j :: k :: (t ++ (u ++ v)) := by simp only [List.mem_append, List.mem_cons] at q ⊢; grind
theorem sub5b (q : p ∈ t ++ v) : p ∈ a :: b :: c :: d :: e :: f :: g :: h :: (t ++ (u ++ v)) := by simp only [List.mem_append, List.mem_cons] at q ⊢; grind
theorem sub6 (q : p ∈ a :: b :: t) : p ∈ a :: b :: c :: d :: e :: t := by simp only [List.mem_cons] at q ⊢; grind
theorem sub7 (q : p ∈ h :: g :: c :: d :: e :: f :: i :: j :: t) : p ∈ a :: b :: c :: d :: e :: f :: g :: h :: i :: j :: t := by simp only [List.mem_cons] at q ⊢; grind
theorem sub8 (q : p ∈ b :: a :: t) : p ∈ a :: b :: t := by simp only [List.mem_cons] at q ⊢; grind
theorem sub9 (q : p ∈ e :: f :: a :: b :: d :: g :: h :: ((c :: u) ++ (t ++ v))) : p ∈ a :: b :: c :: d :: e :: f :: g :: h :: (t ++ (u ++ v)) := by simp only [List.cons_append, List.mem_append, List.mem_cons] at q ⊢; grind
theorem sub10 (q : p ∈ t) : p ∈ a :: b :: c :: d :: e :: f :: g :: (t ++ u) := by simp only [List.mem_cons, List.mem_append]; grind
theorem sub11 (q : p ∈ (c :: u) ++ (t ++ v)) : p = c ∨ p ∈ t ++ (u ++ v) := by simp only [List.cons_append, List.mem_append, List.mem_cons] at q ⊢; grind
end
end
section
set_option maxHeartbeats 4000000
theorem fillLW : (P0 = P0) ∧ K0 = K0 := by
  w_top off
  k_with_none
  (k_with "call builtin:issubclass" => ((with_reducible show wpAny _ _ (call (Value.builtin "issubclass") [Value.type "str", Value.ref _]) _ _ _); k_dflt (refine issub_str (by exact News.get (by k_asm) (by k_mem)) ?_; k_whole)))
  (k_with "mine contract" => (k_dflt ((case ho => k_is); (case hcd => k_is); (case hbind => intro s; exact BindsTo.of_eq rfl); (case hcell => decide); (case hloc => exact locs rfl); (case hco => exact rfl); (case hgen => exact rfl); (case hk => exact rfl)); intro mean mg mb h₀ ge dr tk os dp un fr gd L h₁ X T hdp hun pre F N; (try dsimp only); (try k_fold); k_steps))
  (k_with "mine room" => (simp only [Around.deeper, Around.in1, Ar] at *; omega))
  (k_with "mine use" => ((case k1 => k_asm); (case k2 => k_asm); (case k3 => k_asm); (case k4 => k_asm); (case k5 => exact rfl); (case k6 => walk_at "mine room"); (case k7 => walk_at "mine room")))
  (k_with "call ref" => ((with_reducible show wpAny _ _ (call (Value.ref 101) [Value.str _ _]) _ _ _); k_dflt (refine' use (fspath_c _ _ _) (by k_asm) (by k_asm) (by k_asm) (by k_asm) (by exact rfl) (by walk_at "mine room") (by walk_at "mine room") trivial ?_; k_whole); intro r' h' tk' F' N' kp' po'; subst po'; clear kp'; (try k_sweep); (try dsimp only)))
  (k_with "call ref" => ((with_reducible show wpAny _ _ (call (Value.ref 115) [Value.str _ _]) _ _ _); k_dflt (refine' use (getsep_c _ _ _) (by k_asm) (by k_asm) (by k_asm) (by k_asm) (by exact rfl) (by walk_at "mine room") (by walk_at "mine room") trivial ?_; k_whole); intro r' h' tk' F' N' kp' po'; obtain ⟨t', po'⟩ := po'; subst po'; clear kp'; (try k_sweep); (try dsimp only)))
  (k_with "call ref" => ((with_reducible show wpAny _ _ (call (Value.ref 28) [Value.str _ _]) _ _ _); k_dflt (refine use (strip_c _ _ _ (by walk_at "mine len")) (by k_asm) (by k_asm) (by k_asm) (by k_asm) (by exact rfl) (by walk_at "mine room") (by walk_at "mine room") trivial ?_; k_whole); intro r' h' tk' F' N' kp' po'; obtain ⟨t', po'⟩ := po'; subst po'; clear kp'; (try k_sweep); (try dsimp only)))
  (k_with "mine len" => first | with_reducible assumption | omega | assumption)
  (k_with "mine contract0" => (k_dflt ((case ho => k_is); (case hcd => k_is); (case hbind => intro s; exact BindsTo.of_eq rfl); (case hcell => decide); (case hloc => exact locs rfl); (case hco => exact rfl); (case hgen => exact rfl); (case hk => exact rfl))))
  (k_with "truthy ref" => ((with_reducible show wpAny _ _ (truthy (Value.ref _)) _ _ _); k_dflt (refine truthyL (by k_asm) (by k_mem) (by walk_at "mine len") ?_ ?_) <;> (k_whole; intro hT'; (try dsimp only))))
  (k_with "call builtin:list.append" => ((with_reducible show wpAny _ _ (call (Value.builtin _) [Value.ref _, _]) _ _ _); k_dflt (refine appendL (by k_asm) (by k_asm) (by k_upd) (by walk_at "mine len") ?_; k_whole); intro h' F' N'; (try k_sweep)))
  (k_with "call builtin:list.pop" => ((with_reducible show wpAny _ _ (call (Value.builtin _) [Value.ref _]) _ _ _); k_dflt (refine popL (by k_asm) (by k_asm) (by k_upd) (by assumption) (by walk_at "mine len") ?_; k_whole); intro v' h' F' N'; (try k_sweep)))
  (k_with "call builtin:list.insert" => ((with_reducible show wpAny _ _ (call (Value.builtin _) [Value.ref _, Value.int 0 _, _]) _ _ _); k_dflt (refine insertL (by k_asm) (by k_asm) (by k_upd) (by walk_at "mine len") ?_; k_whole); intro h' F' N'; (try k_sweep)))
  (k_with "subscriptTail" => ((show wpAny _ _ (subscriptTail _ _ (Value.ref _) (Value.int (-1) _)) _ _ _); k_dflt (refine lastL (by k_asm) (by k_mem) (by assumption) (by assumption) ?_; k_whole); intro y' t' hl'; (try dsimp only)))
  (k_with "call builtin:str.join" => ((with_reducible show wpAny _ _ (call (Value.builtin _) [Value.str _ _, Value.ref _]) _ _ _); k_dflt (refine joinL (by k_asm) (by k_mem) (by k_asm) (by walk_at "mine len") ?_; k_whole); intro t' k'; (try dsimp only)))
  (k_with "call ref" => ((with_reducible show wpAny _ _ (call (Value.ref 129) [Value.str _ _]) _ _ _); k_dflt (refine useN (split_c _ _ _ (by walk_at "mine len")) (by k_asm) (by k_asm) (by k_asm) (by k_asm) (by exact rfl) (by walk_at "mine room") (by walk_at "mine room") trivial ?_; k_whole); intro l' o' h' tk' F' N' l1 kp' po'; obtain ⟨t1', t2', po'⟩ := po'; subst po'; clear kp'; (try simp only [AllNe, and_true] at l1); (try k_sweep); (try dsimp only)))
  (k_with "exec While Compare cons nil" => (refine hold ?_))
  (k_with "exec For" => ((with_reducible show wpAny _ _ (exec (Stmt.For (Expr.Tuple _ _ _) _ _ [] _) _) _ _ _); refine for_at ?_))
  (k_with "exec For Tuple" => ((with_reducible show wpAny _ _ (exec (Stmt.For (Expr.Tuple _ _ _) _ _ [] _) _) _ _ _); refine for_at ?_))
  (k_with "mine contractC0" => (k_dflt ((case ho => k_is); (case hcd => k_is); (case hbind => intro s; exact BindsTo.of_eq rfl); (case hkind => exact rfl); (case hnd => decide); (case hco => exact rfl); (case hgen => exact rfl); (case hk => exact rfl))))
  k_fill
  exact ⟨rfl, rfl⟩
set_option maxHeartbeats 6000000
theorem wordsLW1 : True := by
  (k_with "CompSrcT" => (refine hold ?_))
  (k_with "CompSrc" => (refine hold ?_))
  (k_with "CompEnd" => (refine hold ?_))
  (k_with "SrcG" => (refine hold ?_))
  (k_with "exec Assign cons ListComp" => (refine hold ?_))
  (k_with "eval ListComp" => (refine hold ?_))
  (k_with "call ref" => (refine hold ?_))
  (k_with "last exec For Name IfExp" => (refine hold ?_))
  (k_with "exec For Name IfExp" => (refine hold ?_))
  (k_with "last exec For Name" => (refine hold ?_))
  (k_with "pyIter ref XX" => (refine hold ?_))
  (k_with "mine sub" => (intro p hp; simp only [List.mem_cons] at hp ⊢; grind))
  (k_with "call type:int" => ((with_reducible show wpAny _ _ (call (Value.type "int") [Value.str _ _]) _ _ _); k_dflt (refine KIN.call_text (by assumption) (by exact (show 1 ≤ 640 by decide)) ?_; k_whole)))
  (k_with "subscriptTail Name Name ref int" => ((with_reducible show wpAny _ _ (subscriptTail _ _ (Value.ref _) (Value.int _ _)) _ _ _); k_dflt (refine itemL (by k_asm) (by k_mem) (by assumption) (by omega) (by omega) (by walk_at "mine len") ?_; k_whole); intro y' t' hy'; (try dsimp only)))
  trivial
def HoldMark : Prop := True
theorem wordsLW2 : True := by
  (k_with "exec If" => ((rename HoldMark => hm'); clear hm'; refine hold ?_))
  (k_with "StarOf ref" => (k_dflt (refine star_seq (by k_asm) (by k_asm) (by k_mem) (by exact rfl) (by exact rfl) (by exact .inl rfl) (by exact rfl) (by (rw [List.size_toArray, sizeLine_eq]; omega)) ?_; k_whole); intro h' F' N'; (try k_sweep); try dsimp only [List.nil_append, List.cons_append]))
  (k_with "call builtin:list.append" => (refine hold ?_))
  (k_with "mine units" => ((have hcL9 := cLine_is); (simp only [Around.deeper, Around.in1, Ar] at *; omega)))
  trivial
theorem word_lo (x : Int) : 0 ≤ x.fmod (10 ^ Int.toNat 9) := by
  rw [show (10 : Int) ^ Int.toNat 9 = 1000000000 by decide +kernel]
  rw [Int.fmod_eq_emod_of_nonneg _ (by decide)]; omega
theorem word_hi (x : Int) : x.fmod (10 ^ Int.toNat 9) < 1000000000 := by
  rw [show (10 : Int) ^ Int.toNat 9 = 1000000000 by decide +kernel]
  exact Int.fmod_lt_of_pos _ (by decide)
theorem ints_snoc {vs : List Value} {ns : List Int} (h : IntsAre vs ns) (n : Int) (t : Tok) : IntsAre (vs ++ [.int n t]) (ns ++ [n]) := by
  induction h with
  | nil => exact .cons _ _ .nil
  | cons m u _ ih => exact .cons _ _ ih
theorem norm_c2 (w : World) (x : Str) (t : Tok) (h : NormPre x) : Contract w 143 3 [.str x t] (fun _ => True) (fun _ r _ => ∃ t', r = .str (normP x) t') := norm_c w x t h.hx h.h0 h.h1 h.h2 h.hs
theorem wordNm {a b : Str} (h : WordOk a b) : ∃ a' b', a' = a ∧ b' = b ∧ WordOk a' b' := ⟨a, b, rfl, rfl, h⟩
theorem twoNm {a b : Obj} {c d : Data} (h : a.data = c) (g : b.data = d) : ∃ a' b', a' = a ∧ b' = b ∧ a'.data = c ∧ b'.data = d := ⟨a, b, rfl, rfl, h, g⟩
theorem word_c2 (w : World) (n : Int) (t : Tok) (h0 : 0 ≤ n) (h1 : n < 1000000000) :
    Contract w 155 1 [.int n t] (fun _ => True) (fun h rv h' => ∃ l o, rv = .ref l ∧ h.get? l = none ∧ h'.get? l = some o ∧ ∃ word own t1 t2, WordOk word own ∧ o = tupO [.str word t1, .str own t2]) := by
  intro mean mg mb h₀ ge dr tk os dp un fr gd Q E X T hd hu pre k
  refine word_c w n t h0 h1 mean mg mb h₀ ge dr tk os dp un fr gd Q E X T hd hu pre fun r h' tk' kp po => k r h' tk' kp ?_
  obtain ⟨l, o, e1, e2, e3, core, a, b, t1, t2, hc, ha, ha3, hb, hb3, e⟩ := po
  exact ⟨l, o, e1, e2, e3, _, _, t1, t2, word_law hc ha ha3 hb hb3, e⟩
theorem wordsLW3 : True := by
  (k_with "call ref" => ((with_reducible show wpAny _ _ (call (Value.ref 155) [Value.int _ _]) _ _ _); k_dflt (refine useN (word_c2 _ _ _ (by exact word_lo _) (by exact word_hi _)) (by k_asm) (by k_asm) (by k_asm) (by k_asm) (by exact rfl) (by walk_at "mine room") (by walk_at "mine room") trivial ?_; k_whole); intro l' o' h' tk' F' N' l1 kp' po'; obtain ⟨word', own', t1', t2', hW', po'⟩ := po'; subst po'; clear kp'; (try simp only [AllNe, and_true] at l1); (try k_sweep); (try dsimp only)))
  (k_with "call ref" => ((with_reducible show wpAny _ _ (call (Value.ref 122) (Value.str _ _ :: _)) _ _ _); k_dflt (refine use (join_c _ _ _ _ _ (by (rw [List.append_nil]; first | assumption | exact StrsAre.cons _ _ (by assumption))) (by (rw [sizeLine_eq]; simp only [List.length_cons, List.length_append, List.length_nil]; omega)) (by walk_at "mine len")) (by k_asm) (by k_asm) (by k_asm) (by k_asm) (by exact rfl) (by walk_at "mine room") (by walk_at "mine room") trivial ?_; k_whole); intro r' h' tk' F' N' kp' po'; obtain ⟨t', po'⟩ := po'; subst po'; clear kp'; (try k_sweep); (try dsimp only)))
  (k_with "call ref" => ((with_reducible show wpAny _ _ (call (Value.ref 143) [Value.str _ _]) _ _ _); k_dflt (refine use (norm_c2 _ _ _ (by assumption)) (by k_asm) (by k_asm) (by k_asm) (by k_asm) (by exact rfl) (by walk_at "mine room") (by walk_at "mine room") trivial ?_; k_whole); intro r' h' tk' F' N' kp' po'; obtain ⟨t', po'⟩ := po'; subst po'; clear kp'; (try k_sweep); (try dsimp only)))
  trivial
theorem catL (a b : List Value) : a.toArray.toList ++ b.toArray.toList = a ++ b := by simp
theorem stripq_rev (st : List Str) : (st.reverse.map stripQ).reverse = st.map stripQ := by rw [List.map_reverse, List.reverse_reverse]
theorem stripq_quote (names : List Str) : ((names.map quote).reverse.map stripQ).reverse = names := by
  rw [List.map_reverse, List.reverse_reverse, List.map_map]
  have e : (stripQ ∘ quote) = id := funext strip_quote
  rw [e, List.map_id]
def ListOf (xs : List Str) (h : Heap) (rv : Value) (h' : Heap) : Prop := ∃ l o, rv = .ref l ∧ h.get? l = none ∧ h'.get? l = some o ∧ ∃ vs n, o = W.listOf vs.toArray n ∧ StrsAre vs xs
theorem readF_c (w : World) (st : List Str) (t : Tok) (hg : ∀ c ∈ st, GoodC c) (hl : st.length ≤ 20) :
    Contract w 162 3 [.str (folderS st) t] (fun _ => True) (fun h rv h' => ∃ l o, rv = .ref l ∧ h.get? l = none ∧ h'.get? l = some o ∧ ∃ vs n, o = W.listOf vs.toArray n ∧ StrsAre vs (st.map stripQ)) := by
  have h1 := folder_len hg
  have h2 := read_c w (folderS st) t st.reverse (by omega) (climb_folder hg) (by rw [List.length_reverse]; omega)
  rw [stripq_rev] at h2
  exact h2
theorem readP_c (w : World) (names : List Str) (t : Tok) (hn : ∀ x ∈ names, NameOk x) (hl : names.length ≤ 20) :
    Contract w 162 3 [.str (pathOf names) t] (fun _ => True) (fun h rv h' => ∃ l o, rv = .ref l ∧ h.get? l = none ∧ h'.get? l = some o ∧ ∃ vs n, o = W.listOf vs.toArray n ∧ StrsAre vs names) := by
  have h1 := path_len hn hl
  have h2 := read_c w (pathOf names) t (names.map quote).reverse (by omega) (climb_path hn) (by rw [List.length_reverse, List.length_map]; omega)
  rw [stripq_quote] at h2
  exact h2
theorem joinQ_c (w : World) (t : Tok) (ps : List Value) (names : List Str) (hn : ∀ x ∈ names, NameOk x) (hs : StrsAre ps (names.map quote)) (hl : names.length ≤ 20) (hx : sumL (names.map quote) ≤ 1000) :
    Contract w 122 2 (.str (Str.ofString "/") t :: ps) (fun _ => True) (fun _ r _ => ∃ t', r = .str (pathOf names) t') := by
  have h1 : (Str.ofString "/").length = 1 := by decide +kernel
  have h3 := strs_len hs
  rw [List.length_map] at h3
  have h2 := join_c w (Str.ofString "/") t ps (names.map quote) hs (by rw [sizeLine_eq]; omega) (by omega)
  rw [joinP_quotes hn] at h2
  exact h2
theorem normN_c (w : World) (names : List Str) (t : Tok) (hn : ∀ x ∈ names, NameOk x) (hl : names.length ≤ 20) :
    Contract w 143 3 [.str (pathOf names) t] (fun _ => True) (fun _ r _ => ∃ t', r = .str (pathOf names) t') := by
  obtain ⟨h1, h2⟩ := norm_path hn hl
  have h3 := norm_c2 w (pathOf names) t h1
  rw [h2] at h3
  exact h3
theorem quote_len (x : Str) : (quote x).length = x.length + 2 := by
  have h1 : (Str.ofString "\"").length = 1 := by decide +kernel
  unfold quote; rw [Str.length_append, Str.length_append, h1]; omega
theorem quote_sum {names : List Str} (hn : ∀ x ∈ names, NameOk x) (hl : names.length ≤ 20) : sumL (names.map quote) ≤ 1000 := by
  have key : ∀ ns : List Str, (∀ x ∈ ns, NameOk x) → sumL (ns.map quote) ≤ 43 * ns.length := by
    intro ns
    induction ns with
    | nil => intro _; exact Nat.le_refl _
    | cons x r ih =>
      intro h
      have h1 := ih fun y hy => h y (.tail _ hy)
      have h2 := (h x (.head _)).1
      rw [List.map_cons, sumL_cons, quote_len, List.length_cons]
      omega
  have := key names hn
  omega
theorem dueN_c (w : World) (tl : Addr) (vs : List Value) (fs : List (Int × Str)) (names : List Str) (hf : ∀ p ∈ fs, 0 ≤ p.1 ∧ p.1 < 10) (hz : vs.length ≤ 1000) (e : names = dueF fs) :
    Contract w 169 1 [.ref tl] (fun h => ∃ n, h.get? tl = some (W.listOf vs.toArray n) ∧ ToldAre h vs fs) (fun h rv h' => ∃ l o, rv = .ref l ∧ h.get? l = none ∧ h'.get? l = some o ∧ ∃ ws n, o = W.listOf ws.toArray n ∧ StrsAre ws names) := by
  subst e; exact due_c w tl vs fs hf hz
section
variable {prog : Program} {w : World} {A : Around} {E : Value → Shared → Prop} {s : Shared} {a b : Addr} {xs ys : List Value} {ns : List Str} {Q : Value → Shared → Prop}
theorem neSame (ha : s.heap.IsList a xs.toArray) (hb : s.heap.IsList b ys.toArray) (hi : StrsAre xs ns) (hj : StrsAre ys ns) (hu : A.units + 64 < cLine) (h : Q (.bool false) s) :
    wpAny (model prog w) A (compareOp .NotEq (.ref a) (.ref b)) Q E s := neStrs ha hb hi hj hu (by rw [decide_eq_true rfl]; exact h)
theorem neSelf {x : Str} {t u : Tok} (h : Q (.bool false) s) : wpAny (model prog w) A (compareOp .NotEq (.str x t) (.str x u)) Q E s := PySem.P.ne_str (by rw [bne_self_eq_false]; exact h)
theorem eqSame (ha : s.heap.IsList a xs.toArray) (hb : s.heap.IsList b ys.toArray) (hi : StrsAre xs ns) (hj : StrsAre ys ns) (hu : A.units + 64 < cLine) (h : Q (.bool true) s) :
    wpAny (model prog w) A (compareOp .Eq (.ref a) (.ref b)) Q E s := eqStrs ha hb hi hj hu (by rw [decide_eq_true rfl]; exact h)
end
theorem wordsLW4 : True := by
  (k_with "compareOp NotEq str str" => ((with_reducible show wpAny _ _ (compareOp _ (Value.str (pathOf _) _) (Value.str (pathOf _) _)) _ _ _); k_dflt (refine' neSelf ?_; k_whole)))
  (k_with "compareOp NotEq ref ref" => (k_dflt (refine neSame (by exact News.isList (by k_asm) (by k_mem)) (by exact News.isList (by k_asm) (by k_mem)) (by assumption) (by assumption) (by walk_at "mine units") ?_; k_whole)))
  (k_with "compareOp Eq ref ref" => (k_dflt (refine eqSame (by exact News.isList (by k_asm) (by k_mem)) (by exact News.isList (by k_asm) (by k_mem)) (by assumption) (by assumption) (by walk_at "mine units") ?_; k_whole)))
  (k_with "call ref" => ((with_reducible show wpAny _ _ (call (Value.ref 162) [Value.str _ _]) _ _ _); k_dflt (refine useN (readF_c _ _ _ (by assumption) (by assumption)) (by k_asm) (by k_asm) (by k_asm) (by k_asm) (by exact rfl) (by walk_at "mine room") (by walk_at "mine room") trivial ?_; k_whole); intro l' o' h' tk' F' N' l1 kp' po'; obtain ⟨nvs', nn', po', hnv'⟩ := po'; subst po'; clear kp'; (try simp only [AllNe] at l1); (try k_sweep); (try dsimp only)))
  (k_with "call ref" => ((with_reducible show wpAny _ _ (call (Value.ref 162) [Value.str (pathOf _) _]) _ _ _); k_dflt (refine useN (readP_c _ _ _ (by assumption) (by assumption)) (by k_asm) (by k_asm) (by k_asm) (by k_asm) (by exact rfl) (by walk_at "mine room") (by walk_at "mine room") trivial ?_; k_whole); intro l' o' h' tk' F' N' l1 kp' po'; obtain ⟨nvs', nn', po', hnv'⟩ := po'; subst po'; clear kp'; (try simp only [AllNe] at l1); (try k_sweep); (try dsimp only)))
  (k_with "call ref" => ((with_reducible show wpAny _ _ (call (Value.ref 143) [Value.str (pathOf _) _]) _ _ _); k_dflt (refine use (normN_c _ _ _ (by assumption) (by assumption)) (by k_asm) (by k_asm) (by k_asm) (by k_asm) (by exact rfl) (by walk_at "mine room") (by walk_at "mine room") trivial ?_; k_whole); intro r' h' tk' F' N' kp' po'; obtain ⟨t', po'⟩ := po'; subst po'; clear kp'; (try k_sweep); (try dsimp only)))
  (k_with "binaryOp Add ref ref" => ((with_reducible show wpAny _ _ (binaryOp _ (Value.ref _) (Value.ref _)) _ _ _); k_dflt (refine kmk_add_lit (by k_asm) (by k_asm) (by exact News.isList (by k_asm) (by k_mem)) (by exact News.isList (by k_asm) (by k_mem)) (by exact catL _ _) ?_ (by (simp only [Array.length_toList, List.size_toArray, sizeLine_eq]; omega)); k_whole); intro D' h' F' N' l1; (try k_lt l1); (try k_sweep)))
  (k_with "call ref" => ((with_reducible show wpAny _ _ (call (Value.ref 122) (Value.str _ _ :: _)) _ _ _); k_dflt (refine use (joinQ_c _ _ _ _ (by assumption) (by (rw [List.append_nil]; assumption)) (by assumption) (by assumption)) (by k_asm) (by k_asm) (by k_asm) (by k_asm) (by exact rfl) (by walk_at "mine room") (by walk_at "mine room") trivial ?_; k_whole); intro r' h' tk' F' N' kp' po'; obtain ⟨t', po'⟩ := po'; subst po'; clear kp'; (try k_sweep); (try dsimp only)))
  trivial
theorem allNe_in {d a : Addr} {o : Obj} {l : List (Addr × Obj)} (h : @Ne Nat a d) (hl : ∀ p ∈ l, p.1 ≠ d) : ∀ p ∈ (a, o) :: l, p.1 ≠ d := fun p hp => by
  rcases List.mem_cons.mp hp with rfl | hp
  · exact h
  · exact hl p hp
/-- what was told, on the ledger, the newest first -/
inductive ToldLed : List (Addr × Obj) → List Value → List (Int × Str) → Prop
  | nil : ToldLed [] [] []
  | cons {led : List (Addr × Obj)} {a : Addr} {f : Int} {x : Str} {t u : Tok} {vs fs} : ToldLed led vs fs → ToldLed ((a, tupO [.int f t, .str x u]) :: led) (vs ++ [.ref a]) (fs ++ [(f, x)])
theorem ToldLed.are {led : List (Addr × Obj)} {vs : List Value} {fs : List (Int × Str)} {h : Heap} (R : ToldLed led vs fs) (k : ∀ p ∈ led, h.get? p.1 = some p.2) : ToldAre h vs fs := by
  induction R with
  | nil => exact .nil
  | cons _ ih => exact (ih fun p hp => k p (.tail _ hp)).append (.cons (k _ (.head _)) .nil)
theorem ToldLed.len {led : List (Addr × Obj)} {vs : List Value} {fs : List (Int × Str)} (R : ToldLed led vs fs) : vs.length = fs.length := by
  induction R with
  | nil => rfl
  | cons _ ih => simp [ih]
theorem ToldLed.app {led led' : List (Addr × Obj)} {vs vs' : List Value} {fs fs' : List (Int × Str)} (R : ToldLed led vs fs) (R' : ToldLed led' vs' fs') : ToldLed (led' ++ led) (vs ++ vs') (fs ++ fs') := by
  induction R' with
  | nil => simpa using R
  | cons _ ih =>
    rw [← List.append_assoc, ← List.append_assoc]
    exact .cons ih
/-- the turn's state -/
structure LawJ (L SR PT RW : Addr) (so : Obj) (i : Nat) (m : Str → Option Value) (nx : List (Addr × Obj)) (st : List Str) (fs : List (Int × Str)) (rows : List (List Str)) (rvs pvs tvs : List Value) (n1 n2 n3 : Nat) (TD : Addr) (oP oO : Obj) (cP cO : Option Value) (ledR ledT : List (Addr × Obj)) (tf : Tok) : Prop where
  nx : nx = (SR, so) :: (PT, W.listOf pvs.toArray n3) :: (RW, W.listOf rvs.toArray n2) :: (TD, W.listOf tvs.toArray n1) :: (L + 1 + 1, oP) :: (L + 1, oO) :: (ledR ++ ledT)
  oP : oP.data = .cell cP
  oO : oO.data = .cell cO
  R : RowsLed ledR rvs rows
  T : ToldLed ledT tvs fs
  offT : (@Ne Nat SR TD) ∧ (@Ne Nat PT TD) ∧ (@Ne Nat RW TD) ∧ (@Ne Nat (L + 1 + 1) TD) ∧ (@Ne Nat (L + 1) TD)
  off : OwnOff (ledR ++ ledT) [PT, RW, L + 1 + 1, L + 1]
  I : Inv i st fs
  P : StrsAre pvs (rows.map pathOf)
  len : rows.length = i
  ok : ∀ r ∈ rows, ∀ x ∈ r, NameOk x
  lenr : ∀ r ∈ rows, r.length ≤ 20
  H : Has m [(Str.ofString "folder", .str (folderS st) tf), (Str.ofString "told", .ref TD), (Str.ofString "rows", .ref RW), (Str.ofString "paths", .ref PT)]
theorem offI {own : List (Addr × Obj)} {a b c d e : Addr} (h : OwnOff own [a, b, c, d]) (g : AllNe e own) : OwnOff own [a, b, c, d, e] := fun p hp q hq => by
  rw [show [a, b, c, d, e] = [a, b, c, d] ++ [e] from rfl] at hq
  rcases List.mem_append.mp hq with hq | hq
  · exact h p hp q hq
  · rw [List.mem_singleton.mp hq]; exact of_allNe _ g p hp
theorem offD {own : List (Addr × Obj)} {a b c d e : Addr} (h : OwnOff own [a, b, c, d, e]) : OwnOff own [a, b, c, d] := fun p hp q hq => h p hp q (by rw [show [a, b, c, d, e] = [a, b, c, d] ++ [e] from rfl]; exact List.mem_append_left _ hq)
theorem comps_rows {rows : List (List Str)} (hok : ∀ r ∈ rows, ∀ x ∈ r, NameOk x) : (rows.map pathOf).map compsOf = rows.map (·.map quote) := by
  rw [List.map_map]
  exact List.map_congr_left fun r hr => path_comps (hok r hr)
theorem cpathL_c (w : World) (pl : Addr) (pvs : List Value) (rows : List (List Str)) (hne : rows ≠ []) (hz : rows.length ≤ 5) (hok : ∀ r ∈ rows, ∀ x ∈ r, NameOk x) (hl : ∀ r ∈ rows, r.length ≤ 20) (hP : StrsAre pvs (rows.map pathOf)) :
    Contract w 148 5 [.ref pl] (fun h => ∃ n, h.get? pl = some (W.listOf pvs.toArray n)) (fun h rv h' => ∃ row k t, row ∈ rows ∧ rv = .str (pathOf (row.take k)) t ∧
      (∀ r0 kk, rows[0]? = some r0 → kk ≤ r0.length → AllEq rows r0 kk → (∀ k', kk < k' → k' ≤ r0.length → ¬ AllEq rows r0 k') → row.take k = r0.take kk)) := by
  intro mean mg mb h₀ ge dr tk os dp un fr gd Q E X T hd hu pre kk
  have hC := cpath_c w pl pvs (rows.map pathOf) (by simpa using hne) (by rw [List.length_map]; omega) (by intro p hp; obtain ⟨r, hr, e⟩ := List.mem_map.mp hp; rw [← e]; exact path_len (hok r hr) (hl r hr)) (by intro p hp; obtain ⟨r, hr, e⟩ := List.mem_map.mp hp; rw [← e]; exact path_start r) hP
  refine hC mean mg mb h₀ ge dr tk os dp un fr gd Q E X T hd hu pre fun r h' tk' kp po => kk r h' tk' kp ?_
  obtain ⟨r1, r2, k, t, m1, m2, hmin, hmax, hj1, hj2, he, hdif, e⟩ := po
  rw [comps_rows hok] at m1 m2 hmin hmax
  obtain ⟨row, hrow, er⟩ := List.mem_map.mp m1
  refine ⟨row, k, t, hrow, ?_, fun r0 kk h0 hk ha hm => quote_inj ?_⟩
  · rw [e, ← er]
    unfold pathOf folderS
    rw [List.map_take]
  · rw [List.map_take, er]
    exact end_law h0 hk ha hm m1 m2 hmin hmax hj1 hj2 he hdif
theorem law_c (w : World) (sl : Addr) (svs : List Value) (ns : List Int) (hi : IntsAre svs ns) (hz : ns.length ≤ 100) :
    Contract w 179 10 [.ref sl] (fun h => h.IsList sl svs.toArray) (fun h rv h' => rv = .bool true) := by
  k_dflt (refine' contractC (binds := [(Str.ofString "script", .ref sl)]) ?ho ?hcd ?hbind ?hkind ?hnd ?hco ?hgen ?hk ?_)
  walk_at "mine contractC0"
  intro mean mg mb h₀ ge dr tk os dp un fr gd L h₁ cells X T hdp hun pre F N Y
  have hL : h₀.IsList sl svs.toArray := pre
  obtain ⟨oP0, oO0, hE, dP0, dO0⟩ := CellsAre.two Y
  subst hE
  clear Y
  replace dP0 : oP0.data = Data.cell none := dP0
  replace dO0 : oO0.data = Data.cell none := dO0
  (try dsimp only); (try k_fold)
  k_steps
  refine held ?_
  (rename Fr _ _ _ _ => F9); (rename News _ _ _ _ => N9)
  obtain ⟨PT, ob, rest, e1, e2, e3, N9⟩ := led_split N9
  subst e1 e2 e3
  obtain ⟨RW, oR, rest, e1, e2, e3, M8⟩ := led_split (show News h₀ L _ _ from fun p hp => N9 p (.tail _ hp))
  rw [e3] at M8
  obtain ⟨TD, oT, rest', e1', e2', e3', M7⟩ := led_split (show News h₀ L _ _ from fun p hp => M8 p (.tail _ hp))
  subst e2 e2' e1 e1' e3' e3
  clear M8 M7
  clear N9
  rename News _ _ _ _ => N9
  rename (TD < RW ∧ _) => lRW
  rename (RW < PT ∧ _) => lPT
  obtain ⟨m0, em, F9⟩ := fr_name F9
  refine for_at ?_
  refine wpAny_mono (Q := fun xv s₁ => Hold (∃ SR ws nn xs h' tk', xv = .ref SR ∧ s₁ = ⟨h', ge, dr, tk', os⟩ ∧ IntsAre ws xs ∧ 1 ≤ ws.length ∧ ws.length ≤ 5 ∧ Fr h₀ L h' m0 ∧ ((@LT.lt Nat _ PT SR) ∧ (@LT.lt Nat _ RW SR) ∧ (@LT.lt Nat _ TD SR) ∧ (@LT.lt Nat _ (L + 1 + 1) SR) ∧ (@LT.lt Nat _ (L + 1) SR)) ∧ News h₀ L h' [(SR, W.listOf ws.toArray nn), (PT, W.listOf #[] 0), (RW, W.listOf #[] 0), (TD, W.listOf #[] 0), (L + 1 + 1, oP0), (L + 1, oO0)])) ?_ ?_ (fun _ _ e => e)
  · subst em
    k_steps
    · rename IntsAre _ (List.take 5 ns) => hIa
      have hla := hIa.length
      rw [List.length_take] at hla
      (rename Fr _ _ _ _ => F7); (rename News _ _ _ _ => N7)
      exact ⟨_, _, _, _, _, _, rfl, rfl, hIa, by omega, by omega, F7, by assumption, N7⟩
    · (rename Fr _ _ _ _ => F7); (rename News _ _ _ _ => N7)
      exact ⟨_, [_, _, _], 0, [34, 1, -27], _, _, rfl, rfl, .cons _ _ (.cons _ _ (.cons _ _ .nil)), Nat.le_add_left _ _, Nat.le_of_ble_eq_true rfl, F7, by assumption, N7⟩
  · rintro xv s₁ ⟨SR, ws, nn, xs, h1, tk1, rfl, rfl, hxs, hw1, hw5, F1, lSR, N1⟩
    clear F9 N9
    subst em
    refine forT (l := SR) (lo := W.listOf ws.toArray nn) (vs := ws) (nn := nn) (fun i m nx => ∃ st fs rows rvs pvs tvs n1 n2 n3 TD oP oO cP cO ledR ledT tf, LawJ L SR PT RW (W.listOf ws.toArray nn) i m nx st fs rows rvs pvs tvs n1 n2 n3 TD oP oO cP cO ledR ledT tf) (by rfl) rfl (N1 _ (.head _)).1 (Ne.symm (N1 _ (.head _)).2.1) (.inr ?_) F1 N1 ?_ ?_ ?_
    · rintro i m nx ⟨_, _, _, _, _, _, _, _, _, _, _, _, _, _, _, _, _, J⟩
      rw [J.nx]; exact .head _
    · exact ⟨[], [], [], [], [], [], _, _, _, TD, oP0, oO0, _, _, [], [], _, rfl, dP0, dO0, .nil, .nil, (by omega), (fun _ hp => nomatch hp), inv_nil 0, .nil, rfl, (fun _ hp => nomatch hp), (fun _ hp => nomatch hp), Has.cons rfl (Has.cons rfl (Has.cons rfl (Has.cons rfl Has.nil)))⟩
    · clear F1 N1
      rintro i v m₁ nx I oI h tk hv ⟨st, fs, rows, rvs, pvs, tvs, n1, n2, n3, TD, oP, oO, cP, cO, ledR, ledT, tf, rfl, dP, dO, hR, hT, hTD, hoff, hI, hP, hlen, hok, hlr, H⟩ hnI (F1 : Fr h₀ L h _) (N1 : News h₀ L h _)
      replace hnI := allNe_of _ hnI
      simp only [AllNe] at hnI
      replace hoff := offI hoff hnI.2.2.2.2.2.2
      obtain ⟨x, tx, rfl, hxv⟩ := hxs.at i v hv
      have hi10 : i ≤ 10 := by have := (List.getElem?_eq_some_iff.mp hv).1; omega
      have hi5 : i < 5 := by have := (List.getElem?_eq_some_iff.mp hv).1; omega
      replace F1 := H.fr F1
      simp only [kstB] at F1
      (try k_fold)
      k_steps
      refine held ?_
      (rename Fr _ _ _ _ => F9); (rename News _ _ _ _ => N9)
      rename WordOk _ _ => hW
      obtain ⟨word, own, e1, e2, hW⟩ := wordNm hW
      subst e1 e2
      obtain ⟨PC, ob, rest, e1, e2, e3, N8⟩ := led_split N9
      rw [e3] at N8
      clear N9
      subst e1
      obtain ⟨TT, ot, rest', e1', e2', e3', N7⟩ := led_split (show News h₀ L _ _ from fun p hp => N8 p (.tail _ hp))
      obtain ⟨pcs, epc, hpcs⟩ : ∃ pcs, ob = W.listOf pcs.toArray 0 ∧ StrsAre pcs (piecesL word) := ⟨[_, _, _, _, _, _, _, _, _, _], e2, .cons _ _ (.cons _ _ (.cons _ _ (.cons _ _ (.cons _ _ (.cons _ _ (.cons _ _ (.cons _ _ (.cons _ _ (.cons _ _ .nil)))))))))⟩
      clear e2
      subst epc
      clear N7 e3 e3'
      subst e1'
      clear e2'
      rename (_ = Data.cell (some (Value.str own _))) => dO9
      rename (_ = Data.cell (some (Value.ref PC))) => dP9
      obtain ⟨oP9, oO9, eP9, eO9, dP9, dO9⟩ := twoNm dP9 dO9
      subst eP9 eO9
      replace N9 : News h₀ L _ ((PC, W.listOf pcs.toArray 0) :: (I, oI) :: (SR, W.listOf ws.toArray nn) :: (PT, W.listOf pvs.toArray n3) :: (RW, W.listOf rvs.toArray n2) :: (TD, W.listOf tvs.toArray n1) :: (L + 1 + 1, oP9) :: (L + 1, oO9) :: (ledR ++ ledT)) := fun p hp => N8 p (sub1 hp)
      clear N8
      k_dflt (refine Assign_ListComp_G F9 (by rfl) (by with_unfolding_all rfl) (by with_unfolding_all rfl) (by decide) (by rfl) (by decide) (by rfl) (by rfl) (by rfl) ?_)
      k_steps
      refine held ?_
      (try dsimp only)
      have hx0 : 0 ≤ (if x < 0 then -x else x).fmod 10000 := by rw [Int.fmod_eq_emod_of_nonneg _ (by decide)]; omega
      have hx1 : (if x < 0 then -x else x).fmod 10000 < 10000 := Int.fmod_lt_of_pos _ (by decide)
      have hsz4 := dg_size hx0 hx1
      k_dflt (refine SrcG.str (by rfl) (dg_ascii hx0 hx1) (by k_asm) (by k_asm) (Nat.le_trans hsz4 (by rw [sizeLine_eq]; decide)) ?_)
      intro g'
      refine compRestJ (fun i ys nx => nx = ((PC, W.listOf pcs.toArray 0) :: (I, oI) :: (SR, W.listOf ws.toArray nn) :: (PT, W.listOf pvs.toArray n3) :: (RW, W.listOf rvs.toArray n2) :: (TD, W.listOf tvs.toArray n1) :: (L + 1 + 1, oP9) :: (L + 1, oO9) :: (ledR ++ ledT)) ∧ ∃ ds, IntsAre ys ds ∧ (∀ d ∈ ds, 0 ≤ d ∧ d < 10) ∧ ds.length = i) ⟨rfl, [], .nil, (fun _ h => nomatch h), rfl⟩ ?_ ?_
      · clear F9 N9
        intro j ys nx v I1 oI1 C oC D m₂ h tk E' hj hJ hv hC hx (F1 : Fr h₀ L h _) (N1 : News h₀ L h _) off ne
        obtain ⟨rfl, ds, hds, hdr, hdl⟩ := hJ
        obtain ⟨c, u, d, rfl, hc, hd0, hd9⟩ := dg_item hx0 hx1 hv
        have off0 := off
        simp only [LCg.Off3] at off
        (try k_fold)
        k_steps
        refine held ?_
        (rename Fr _ _ _ _ => F8); (rename News _ _ _ _ => N8)
        refine LCg.CompEnd.intro F8 N8 _ (fun p hp => hp) off0 trivial ⟨rfl, ds ++ [d], ints_snoc hds _ _, ?_, ?_⟩
        · intro d' hd'
          rcases List.mem_append.mp hd' with h | h
          · exact hdr _ h
          · rw [List.mem_singleton.mp h]; exact ⟨hd0, hd9⟩
        · rw [List.length_append, hdl]; rfl
      · intro ys nx hJ
        obtain ⟨rfl, ds, hds, hdr, hdl⟩ := hJ
        rw [← hdl] at hsz4
        clear F9 N9
        k_steps
        refine held ?_
        (rename Fr _ _ _ _ => F9); (rename News _ _ _ _ => N9)
        obtain ⟨DS, ob, rest, e1, e2, e3, N8⟩ := led_split N9
        subst e1 e2 e3
        clear N8
        k_dflt (refine LCg.Assign_ListComp_U (F₀ := F9) (by rfl) (by with_unfolding_all rfl) (by with_unfolding_all rfl) (by decide) (by rfl) (by decide) (by rfl) (by rfl) (by rfl) ?_)
        k_steps
        refine held ?_
        have hyl := hds.length
        have hp10 : (piecesL word).length = 10 := rfl
        k_dflt (refine LCg.CompSrc.ledger (by rfl) (by k_asm) (by k_asm) (by k_mem) (by rw [List.size_toArray, sizeLine_eq]; omega) ?_)
        intro g2
        refine compRestJ (fun i zs nx => nx = ((DS, LCg.lst ys) :: (PC, W.listOf pcs.toArray 0) :: (I, oI) :: (SR, W.listOf ws.toArray nn) :: (PT, W.listOf pvs.toArray n3) :: (RW, W.listOf rvs.toArray n2) :: (TD, W.listOf tvs.toArray n1) :: (L + 1 + 1, oP9) :: (L + 1, oO9) :: (ledR ++ ledT)) ∧ StrsAre zs (partsOf word (ds.take i))) ⟨rfl, .nil⟩ ?_ ?_
        · clear F9 N9
          intro j zs nx v I1 oI1 C oC D m₂ h tk E' hj hJ hv hC hx (F1 : Fr h₀ L h _) (N1 : News h₀ L h _) off ne
          obtain ⟨rfl, hzs⟩ := hJ
          obtain ⟨d, td, rfl, hd⟩ := hds.at j v (by simpa using hv)
          obtain ⟨hd0, hd9⟩ := hdr d (List.mem_of_getElem? hd)
          have off0 := off
          simp only [LCg.Off3] at off
          (try k_fold)
          k_steps
          refine held ?_
          (rename Fr _ _ _ _ => F8); (rename News _ _ _ _ => N8)
          rename ((piecesL word)[d.toNat]? = some _) => hy9
          refine LCg.CompEnd.intro F8 N8 _ (fun p hp => hp) off0 (.inr ⟨_, by k_mem, rfl, _, rfl⟩) ⟨rfl, ?_⟩
          rw [List.take_add_one, hd]
          simp only [Option.toList_some, partsOf, List.map_append, List.map_cons, List.map_nil, List.getD_eq_getElem?_getD, hy9, Option.getD_some]
          exact strs_snoc hzs _ _
        · intro zs nx hJ
          obtain ⟨rfl, hzs⟩ := hJ
          rw [List.size_toArray, hyl, List.take_length] at hzs
          clear F9 N9
          have hzl : zs.length ≤ 4 := by have := strs_len hzs; rw [partsOf, List.length_map] at this; omega
          have hfl := folder_len hI.good
          have hIl := hI.len
          have hps := parts_sum hW hdr hsz4
          have hps1 : sumL (Str.ofString "/" :: partsOf word ds) ≤ 300 := by rw [sumL_cons]; have : (Str.ofString "/").length = 1 := (by decide +kernel); omega
          have hN1 := (turn_law hi10 hI hW hdr hsz4).1
          have hN2 : NormPre (joinP (folderS st) (Str.ofString "/" :: partsOf word ds)) := by rw [join_slash]; exact (turn_law hi10 (inv_nil i) hW hdr hsz4).1
          have hm : HoldMark := trivial
          k_steps
          refine held ?_
          refine wpAny_mono (Q := fun fl s₁ => Hold (∃ h' tk' tf' TD' tvs' n1' fs' st' ledT' m', fl = .next ∧ s₁ = ⟨h', ge, dr, tk', os⟩ ∧ Fr h₀ L h' m' ∧ Has m' [(Str.ofString "folder", .str (folderS st') tf'), (Str.ofString "told", .ref TD'), (Str.ofString "rows", .ref RW), (Str.ofString "paths", .ref PT), (Str.ofString "steps", .ref DS)] ∧
            News h₀ L h' ((TD', W.listOf tvs'.toArray n1') :: (DS, LCg.lst ys) :: (I, oI) :: (SR, W.listOf ws.toArray nn) :: (PT, W.listOf pvs.toArray n3) :: (RW, W.listOf rvs.toArray n2) :: (L + 1 + 1, oP9) :: (L + 1, oO9) :: (ledR ++ ledT')) ∧ ToldLed ledT' tvs' fs' ∧ Inv (i + 1) st' (fs' ++ ds.map fun d => (d, own)) ∧ fs'.length ≤ 20 ∧ OwnOff (ledR ++ ledT') [PT, RW, L + 1 + 1, L + 1, I])) ?_ ?_ (fun _ _ e => e)
          · k_steps
            · refine held ?_
              (rename Fr _ _ _ _ => F8); (rename News _ _ _ _ => N8)
              have e2 : normP (joinP (folderS st) (Str.ofString "/" :: partsOf word ds)) = folderS ((partsOf word ds).foldl normStep []) := by rw [join_slash]; exact (turn_law hi10 (inv_nil i) hW hdr hsz4).2.1
              rw [e2] at F8
              exact ⟨_, _, _, _, [], 0, [], _, [], _, rfl, rfl, F8, Has.cons rfl (Has.cons rfl (Has.cons rfl (Has.cons rfl (Has.cons rfl Has.nil)))), (fun p hp => N8 p (sub2 hp)), .nil, (turn_law hi10 (inv_nil i) hW hdr hsz4).2.2, Nat.zero_le _, (fun p hp => hoff p (by rw [List.append_nil] at hp; exact List.mem_append_left _ hp))⟩
            · refine held ?_
              (rename Fr _ _ _ _ => F8); (rename News _ _ _ _ => N8)
              rw [(turn_law hi10 hI hW hdr hsz4).2.1] at F8
              exact ⟨_, _, _, TD, tvs, n1, fs, _, ledT, _, rfl, rfl, F8, Has.cons rfl (Has.cons rfl (Has.cons rfl (Has.cons rfl (Has.cons rfl Has.nil)))), (fun p hp => N8 p (sub3 hp)), hT, (turn_law hi10 hI hW hdr hsz4).2.2, (by have := hI.fsl; omega), hoff⟩
          · rintro fl s₁ ⟨h3, tk3, tf3, TD3, tvs3, n13, fs3, st3, ledT3, m3, rfl, rfl, F9, H3, N9, hT3, hI3, hfs3, hoff3⟩
            replace F9 := H3.fr F9
            simp only [kstB] at F9
            clear hT hoff hI
            (try k_fold)
            k_steps
            refine held ?_
            (rename Fr _ _ _ _ => F7); (rename News _ _ _ _ => N7)
            k_dflt (refine LCg.ListComp_U (F₀ := F7) (by with_unfolding_all rfl) (by decide) (by rfl) (by decide) (by rfl) ?_)
            k_steps
            refine held ?_
            k_dflt (refine LCg.CompSrc.ledger (by rfl) (by k_asm) (by k_asm) (by k_mem) (by rw [List.size_toArray, sizeLine_eq]; omega) ?_)
            intro g3
            refine compRestJ (fun i vs nx => ∃ led4, nx = (TD3, W.listOf tvs3.toArray n13) :: (DS, LCg.lst ys) :: (I, oI) :: (SR, W.listOf ws.toArray nn) :: (PT, W.listOf pvs.toArray n3) :: (RW, W.listOf rvs.toArray n2) :: (L + 1 + 1, oP9) :: (L + 1, oO9) :: (led4 ++ (ledR ++ ledT3)) ∧ ToldLed led4 vs ((ds.take i).map fun d => (d, own)) ∧ OwnOff led4 [PT, RW, L + 1 + 1, L + 1, I]) ⟨[], rfl, .nil, (fun _ h => nomatch h)⟩ ?_ ?_
            · clear F7 N7
              intro j vs nx v I1 oI1 C oC D m₂ h tk E' hj hJ hv hC hx (F1 : Fr h₀ L h _) (N1 : News h₀ L h _) off ne
              obtain ⟨led4, rfl, hvs, hb4⟩ := hJ
              obtain ⟨d, td, rfl, hd⟩ := hds.at j v (by simpa using hv)
              have off0 := off
              simp only [LCg.Off3] at off
              (try k_fold)
              k_steps
              refine held ?_
              (rename Fr _ _ _ _ => F8); (rename News _ _ _ _ => N8)
              obtain ⟨TU, ob, rest, e1, e2, e3, N7⟩ := led_split N8
              rw [e3] at N7
              clear N8 e3
              subst e1
              rename (I1 < TU ∧ _) => lT
              refine LCg.CompEnd.intro F8 N7 ((TD3, W.listOf tvs3.toArray n13) :: (DS, LCg.lst ys) :: (I, oI) :: (SR, W.listOf ws.toArray nn) :: (PT, W.listOf pvs.toArray n3) :: (RW, W.listOf rvs.toArray n2) :: (L + 1 + 1, oP9) :: (L + 1, oO9) :: (((TU, ob) :: led4) ++ (ledR ++ ledT3))) (fun p hp => sub4 hp)
                ⟨off.1, off.2.1, off.2.2.1, off.2.2.2.1, off.2.2.2.2.1, off.2.2.2.2.2.1, off.2.2.2.2.2.2.1, off.2.2.2.2.2.2.2.1, ⟨Nat.ne_of_gt lT.1, Nat.ne_of_gt lT.2.1, Nat.ne_of_gt lT.2.2.1⟩, off.2.2.2.2.2.2.2.2⟩ (.inr ⟨_, by k_mem, rfl, _, rfl⟩) ⟨_, rfl, ?_, ?_⟩
              · rw [List.take_add_one, hd]
                simp only [Option.toList_some, List.map_append, List.map_cons, List.map_nil]
                rw [e2]
                exact .cons hvs
              · intro p hp q hq
                rcases List.mem_cons.mp hp with rfl | hp
                · simp only [List.mem_cons, List.not_mem_nil, or_false] at hq
                  obtain ⟨_, _, _, _, _, l6, _, l8, l9, l10, l11, _⟩ := lT
                  rcases hq with rfl | rfl | rfl | rfl | rfl
                  · exact Nat.ne_of_gt l8
                  · exact Nat.ne_of_gt l9
                  · exact Nat.ne_of_gt l10
                  · exact Nat.ne_of_gt l11
                  · exact Nat.ne_of_gt l6
                · exact hb4 p hp q hq
            · intro vs nx hJ
              obtain ⟨led4, rfl, hvs, hb4⟩ := hJ
              rw [List.size_toArray, hyl, List.take_length] at hvs
              clear F7 N7
              have hvl : vs.length = ds.length := by rw [hvs.len, List.length_map]
              have htl := hT3.len
              have hg3 := hI3.good
              have hl3 : st3.length ≤ 20 := by have := hI3.len; omega
              k_steps
              refine held ?_
              (rename Fr _ _ _ _ => F8); (rename News _ _ _ _ => N8)
              obtain ⟨NL, obN, rest, e1, e2, e3, N7⟩ := led_split N8
              rw [e3] at N7
              subst e1
              obtain ⟨TN, obT, rest', e1', e2', e3', N6⟩ := led_split (show News h₀ L _ _ from fun p hp => N7 p (.tail _ hp))
              subst e1' e2'
              clear N6 e3' e3
              obtain ⟨nvs, nn9, eN9, hnv⟩ : ∃ nvs n, obN = W.listOf nvs.toArray n ∧ StrsAre nvs (st3.map stripQ) := ⟨_, _, e2, by assumption⟩
              clear e2
              subst eN9
              replace N8 : News h₀ L _ ((NL, W.listOf nvs.toArray nn9) :: (TN, W.listOf (tvs3 ++ vs).toArray 0) :: (I, oI) :: (SR, W.listOf ws.toArray nn) :: (PT, W.listOf pvs.toArray n3) :: (RW, W.listOf rvs.toArray n2) :: (L + 1 + 1, oP9) :: (L + 1, oO9) :: (led4 ++ (ledR ++ ledT3))) := fun p hp => N7 p (sub6 hp)
              clear N7
              have hTA := (hT3.app hvs).are fun p hp => (N8 p (sub5b hp)).1
              have hdz : (tvs3 ++ vs).length ≤ 1000 := by rw [List.length_append]; omega
              k_dflt (refine' useN (dueN_c _ _ _ _ _ hI3.fsr hdz hI3.due) ?k1 ?k2 ?k3 ?k4 ?k5 ?k6 ?k7 ⟨_, (N8 (TN, W.listOf (tvs3 ++ vs).toArray 0) (by k_mem)).1, hTA⟩ ?_; walk_at "mine use"; k_whole)
              intro l' o' h' tk' F' N' l1 kp' po'; obtain ⟨nvs', nn', po', hnv'⟩ := po'; subst po'; clear kp'; (try simp only [AllNe] at l1); (try k_sweep); (try dsimp only)
              k_steps
              refine held ?_
              (rename Fr _ _ _ _ => F8); (rename News _ _ _ _ => N7)
              have N8 : News h₀ L _ ((NL, W.listOf nvs.toArray nn9) :: (TN, W.listOf (tvs3 ++ vs).toArray 0) :: (I, oI) :: (SR, W.listOf ws.toArray nn) :: (PT, W.listOf pvs.toArray n3) :: (RW, W.listOf rvs.toArray n2) :: (L + 1 + 1, oP9) :: (L + 1, oO9) :: (led4 ++ (ledR ++ ledT3))) := fun p hp => N7 p (.tail _ hp)
              clear N7 hnv'
              have hNO := names_ok hg3
              have hnl : (st3.map stripQ).length ≤ 20 := by rw [List.length_map]; exact hl3
              generalize hnm : List.map stripQ st3 = names at hnv hNO hnl
              k_dflt (refine LCg.ListComp_U (F₀ := F8) (by with_unfolding_all rfl) (by decide) (by rfl) (by decide) (by rfl) ?_)
              k_steps
              refine held ?_
              have hnvl := strs_len hnv
              k_dflt (refine LCg.CompSrc.ledger (by rfl) (by k_asm) (by k_asm) (by k_mem) (by rw [List.size_toArray, sizeLine_eq]; omega) ?_)
              intro g4
              refine compRestJ (fun i qs nx => nx = ((NL, W.listOf nvs.toArray nn9) :: (TN, W.listOf (tvs3 ++ vs).toArray 0) :: (I, oI) :: (SR, W.listOf ws.toArray nn) :: (PT, W.listOf pvs.toArray n3) :: (RW, W.listOf rvs.toArray n2) :: (L + 1 + 1, oP9) :: (L + 1, oO9) :: (led4 ++ (ledR ++ ledT3))) ∧ StrsAre qs ((names.take i).map quote)) ⟨rfl, .nil⟩ ?_ ?_
              · clear F8 N8
                intro j qs nx v I1 oI1 C oC D m₂ h tk E' hj hJ hv hC hx (F1 : Fr h₀ L h _) (N1 : News h₀ L h _) off ne
                obtain ⟨rfl, hqs⟩ := hJ
                obtain ⟨y, ty, hy, rfl⟩ := strs_at hnv (by simpa using hv)
                have hy40 := (hNO y (List.mem_of_getElem? hy)).1
                have off0 := off
                simp only [LCg.Off3] at off
                (try k_fold)
                k_steps
                refine held ?_
                (rename Fr _ _ _ _ => F8); (rename News _ _ _ _ => N8)
                refine LCg.CompEnd.intro F8 N8 _ (fun p hp => hp) off0 (.inr ⟨_, by k_mem, rfl, _, rfl⟩) ⟨rfl, ?_⟩
                rw [List.take_add_one, hy]
                simp only [Option.toList_some, List.map_append, List.map_cons, List.map_nil]
                exact strs_snoc hqs _ _
              · intro qs nx hJ
                obtain ⟨rfl, hqs⟩ := hJ
                rw [List.size_toArray, hnvl, List.take_length] at hqs
                clear F8 N8
                have hql := strs_len hqs
                rw [List.length_map] at hql
                have hqz : qs.length ≤ 20 := by omega
                have hqs1 := quote_sum hNO hnl
                have hoff9 : OwnOff (led4 ++ (ledR ++ ledT3)) [PT, RW, L + 1 + 1, L + 1, I] := fun p hp => (List.mem_append.mp hp).elim (hb4 p) (hoff3 p)
                have hrz : rvs.length ≤ 10 := by have := hR.len; omega
                have hpz : pvs.length ≤ 10 := by have := strs_len hP; rw [List.length_map] at this; omega
                k_steps
                refine held ?_
                (rename Fr _ _ _ _ => F8); (rename News _ _ _ _ => N7)
                have N8 : News h₀ L _ ((RW, W.listOf rvs.toArray n2) :: (PT, W.listOf pvs.toArray n3) :: (NL, W.listOf nvs.toArray nn9) :: (TN, W.listOf (tvs3 ++ vs).toArray 0) :: (I, oI) :: (SR, W.listOf ws.toArray nn) :: (L + 1 + 1, oP9) :: (L + 1, oO9) :: (led4 ++ (ledR ++ ledT3))) := fun p hp => N7 p (sub7 hp)
                clear N7
                rename (TN ≠ NL ∧ _) => lN
                rename (_ < TN ∧ _) => lT
                have hA1 : ∀ p ∈ ((PT, W.listOf pvs.toArray n3) :: (NL, W.listOf nvs.toArray nn9) :: (TN, W.listOf (tvs3 ++ vs).toArray 0) :: (I, oI) :: (SR, W.listOf ws.toArray nn) :: (L + 1 + 1, oP9) :: (L + 1, oO9) :: (led4 ++ (ledR ++ ledT3))), p.1 ≠ RW :=
                  allNe_in (Nat.ne_of_gt lPT.1) (allNe_in (Ne.symm lN.2.2.2.2.2.2.2.1) (allNe_in (Nat.ne_of_gt lT.2.2.2.2.2.2.1) (allNe_in (Ne.symm hnI.2.2.1) (allNe_in (Nat.ne_of_gt lSR.2.1) (allNe_in (Nat.ne_of_lt lRW.2.1) (allNe_in (Nat.ne_of_lt lRW.2.2) (fun p hp => hoff9 p hp RW (.tail _ (.head _)))))))))
                k_dflt (refine' appendL F8 N8 (Upd.head hA1) (Nat.le_trans hrz (by decide)) ?_; k_whole)
                intro h5 F5 N5
                clear F8 N8 hA1
                (try dsimp only)
                k_steps
                refine held ?_
                (rename Fr _ _ _ _ => F8); (rename News _ _ _ _ => N7)
                have N8 : News h₀ L _ ((PT, W.listOf pvs.toArray n3) :: (RW, W.listOf (rvs ++ [Value.ref NL]).toArray (n2 + 1)) :: (NL, W.listOf nvs.toArray nn9) :: (TN, W.listOf (tvs3 ++ vs).toArray 0) :: (I, oI) :: (SR, W.listOf ws.toArray nn) :: (L + 1 + 1, oP9) :: (L + 1, oO9) :: (led4 ++ (ledR ++ ledT3))) := fun p hp => N7 p (sub8 hp)
                clear N7
                have hA1 : ∀ p ∈ ((RW, W.listOf (rvs ++ [Value.ref NL]).toArray (n2 + 1)) :: (NL, W.listOf nvs.toArray nn9) :: (TN, W.listOf (tvs3 ++ vs).toArray 0) :: (I, oI) :: (SR, W.listOf ws.toArray nn) :: (L + 1 + 1, oP9) :: (L + 1, oO9) :: (led4 ++ (ledR ++ ledT3))), p.1 ≠ PT :=
                  allNe_in (Nat.ne_of_lt lPT.1) (allNe_in (Ne.symm lN.2.2.2.2.2.2.1) (allNe_in (Nat.ne_of_gt lT.2.2.2.2.2.1) (allNe_in (Ne.symm hnI.2.1) (allNe_in (Nat.ne_of_gt lSR.1) (allNe_in (Nat.ne_of_lt lPT.2.2.1) (allNe_in (Nat.ne_of_lt lPT.2.2.2) (fun p hp => hoff9 p hp PT (.head _))))))))
                k_dflt (refine' appendL F8 N8 (Upd.head hA1) (Nat.le_trans hpz (by decide)) ?_; k_whole)
                intro h6 F6 N6
                clear F8 N8 hA1
                (try dsimp only)
                k_steps
                (rename Fr _ _ _ _ => F7)
                obtain ⟨PT', obP, rest, e1, e2, e3, N7⟩ := led_split N6
                rw [e3] at N7
                obtain ⟨tp, etp⟩ : ∃ tp, obP = W.listOf (pvs ++ [Value.str (pathOf names) tp]).toArray (n3 + 1) := ⟨_, e2⟩
                clear e2 e3
                subst etp e1
                clear N6
                unfold TurnEnd
                dsimp only
                refine ⟨_, _, _, _, rfl, F7, (fun p hp => N7 p (sub9 hp)), ?_, st3, _, rows ++ [names], _, _, _, _, _, _, TN, oP9, oO9, _, _, (NL, W.listOf nvs.toArray nn9) :: ledR, led4 ++ ledT3, tf3, rfl, dP9, dO9, .cons hR hnv, hT3.app hvs, ?_, ?_, hI3, ?_, ?_, ?_, ?_, Has.cons rfl (Has.cons rfl (Has.cons rfl (Has.cons rfl Has.nil)))⟩
                · refine allNe_in hnI.1 (allNe_in hnI.2.1 (allNe_in hnI.2.2.1 (allNe_in (Nat.ne_of_gt lT.2.2.2.1) (allNe_in hnI.2.2.2.2.1 (allNe_in hnI.2.2.2.2.2.1 ?_)))))
                  intro p hp
                  rcases sub11 hp with rfl | hp
                  · exact Ne.symm lN.2.2.2.2.1
                  · exact hoff9 p hp I (.tail _ (.tail _ (.tail _ (.tail _ (.head _)))))
                · exact ⟨Nat.ne_of_lt lT.2.2.2.2.1, Nat.ne_of_lt lT.2.2.2.2.2.1, Nat.ne_of_lt lT.2.2.2.2.2.2.1, Nat.ne_of_lt lT.2.2.2.2.2.2.2.1, Nat.ne_of_lt lT.2.2.2.2.2.2.2.2.1⟩
                · intro p hp q hq
                  rcases sub11 hp with rfl | hp
                  · simp only [List.mem_cons, List.not_mem_nil, or_false] at hq
                    rcases hq with rfl | rfl | rfl | rfl
                    · exact Ne.symm lN.2.2.2.2.2.2.1
                    · exact Ne.symm lN.2.2.2.2.2.2.2.1
                    · exact Ne.symm lN.2.2.2.2.2.2.2.2.1
                    · exact Ne.symm lN.2.2.2.2.2.2.2.2.2.1
                  · exact offD hoff9 p hp q hq
                · rw [List.map_append]; exact strs_snoc hP _ _
                · rw [List.length_append, hlen]; rfl
                · intro r hr
                  rcases List.mem_append.mp hr with h | h
                  · exact hok r h
                  · rw [List.mem_singleton.mp h]; exact hNO
                · intro r hr
                  rcases List.mem_append.mp hr with h | h
                  · exact hlr r h
                  · rw [List.mem_singleton.mp h]; exact hnl
    · clear F1 N1
      rintro m₁ nx h tk ⟨st, fs, rows, rvs, pvs, tvs, n1, n2, n3, TD, oP, oO, cP, cO, ledR, ledT, tf, rfl, dP, dO, hR, hT, hTD, hoff, hI, hP, hlen, hok, hlr, H⟩ (F1 : Fr h₀ L h _) (N1 : News h₀ L h _)
      replace F1 := H.fr F1
      simp only [kstB] at F1
      have hne : rows ≠ [] := fun e => by rw [e] at hlen; simp only [List.length_nil] at hlen; omega
      have hr5 : rows.length ≤ 5 := by omega
      obtain ⟨r0, hr0⟩ : ∃ r0, rows[0]? = some r0 := ⟨_, List.getElem?_eq_getElem (List.length_pos_iff.mpr hne)⟩
      (try dsimp only)
      (try k_fold)
      k_steps
      refine held ?_
      (rename Fr _ _ _ _ => F8); (rename News _ _ _ _ => N8)
      k_dflt (refine' use (cpathL_c w PT pvs rows hne hr5 hok hlr hP) ?k1 ?k2 ?k3 ?k4 ?k5 ?k6 ?k7 ⟨_, (N8 (PT, W.listOf pvs.toArray n3) (by k_mem)).1⟩ ?_; walk_at "mine use"; k_whole)
      intro r' h' tk' F' N' kp' po'
      obtain ⟨row, k, t', hrow, e, hfin⟩ := po'
      subst e
      clear kp' F8 N8
      have hro : ∀ x ∈ row.take k, NameOk x := fun x hx => hok row hrow x (List.mem_of_mem_take hx)
      have hrl : (row.take k).length ≤ 20 := by have := hlr row hrow; rw [List.length_take]; omega
      (try dsimp only)
      k_steps
      refine held ?_
      (rename Fr _ _ _ _ => F8); (rename News _ _ _ _ => N8)
      have hRA : RowsAre _ rvs rows := hR.are fun p hp => (N8 p (sub10 hp)).1
      k_dflt (refine' useN (common_c w RW rvs rows r0 hr0 (Nat.le_trans hr5 (by decide)) (fun r hr => Nat.le_trans (hlr r hr) (by decide))) ?k1 ?k2 ?k3 ?k4 ?k5 ?k6 ?k7 ⟨_, (N8 (RW, W.listOf rvs.toArray n2) (by k_mem)).1, hRA⟩ ?_; walk_at "mine use"; k_whole)
      intro l' o' h' tk' F' N' l1 kp' po'
      obtain ⟨ws', nn', k', po', hws', hk', hall, hmaxi⟩ := po'
      subst po'
      clear kp' F8 N8 hRA
      rw [← hfin r0 k' hr0 hk' hall hmaxi] at hws'
      (try dsimp only)
      k_steps
      exact Back.intro (by assumption) rfl
end
section
open PySem PySem.W PyProof.Rows
set_option maxHeartbeats 8000000
/-- the state that the library's own opening leaves -/
noncomputable abbrev s0 (w : World) (os : OsState) : Shared := ⟨boot_heap w.params, Array.mk [], boot_drawn, boot_toks, os⟩
abbrev R0 : RowW := PySem.Challenge.rw_pd0135_01.row.toRowW
theorem boot0 : opening G0 = plainProg G0.main.scope.names := by kernel_rfl
theorem fence0 (s : Shared) : fenceModules? G0 s = some s := by kernel_rfl
theorem ns0 (w : World) (os : OsState) : ((s0 w os).heap.isNs mainGlobals && (s0 w os).gens.size == 0) = true := by kernel_rfl
/-- the top's run behind the library's own opening, by the library's twins of the machine -/
theorem left0 : LeftO G0 V0 [] (fun s => xlAt V0 [] s && recOk (RowW.records R0) s) (Hook.obs (kHook K0 as0 (fun _ => by kernel_rfl))) (Hook.val (kHook K0 as0 (fun _ => by kernel_rfl))) 2362 := by
  intro w
  obtain ⟨s, e, e'⟩ := Option.map_eq_some_iff.mp (boot_open (N := 2362) boot0 rfl fence0 w)
  obtain ⟨os, rfl⟩ : ∃ os, s = s0 w os := by
    obtain ⟨h, gs, d, k, os⟩ := s
    obtain ⟨rfl, rfl, rfl, rfl⟩ : h = boot_heap w.params ∧ gs = Array.mk [] ∧ d = boot_drawn ∧ k = boot_toks := by simpa using e'
    exact ⟨os, rfl⟩
  unfold openEnds
  rw [e, Option.bind_some]
  clear e e'
  unfold topFrom
  rw [ns0 w os, PySem.W.Fast.te14082659384304107361, PySem.W.Fast.te14364793385576792824, PySem.W.Fast.te4187177175401517315]
  kernel_rfl
theorem head0 (call : ∀ d kwd, defOf V0 PySem.Challenge.rw_pd0135_01.row.name = some (d, kwd) → WalkO V0 [] (XL V0 []) (Hook.says (kHook K0 as0 (fun _ => by kernel_rfl))) PySem.Challenge.rw_pd0135_01.row.toRowW d kwd fun f vs => PySem.call f vs) : PySem.Challenge.rw_pd0135_01.Holds := by
  w_on; o_law
  refine holds_open (q := V0) (loose := []) (Xt := fun s => xlAt V0 [] s && recOk (RowW.records R0) s) (XP := XL V0 []) (Yf := Hook.obs (kHook K0 as0 (fun _ => by kernel_rfl))) (Ya := Hook.val (kHook K0 as0 (fun _ => by kernel_rfl))) (YP := Hook.says (kHook K0 as0 (fun _ => by kernel_rfl))) (N := 2362) left0 (Hook.of (kHook K0 as0 (fun _ => by kernel_rfl))) (Hook.keeps (kHook K0 as0 (fun _ => by kernel_rfl))) (fun s e => xl_of s (Bool.and_eq_true_iff.mp e).1) XL.keeps (by rfl) (by rfl) (by rfl) (fun s e => recFacts_of (Bool.and_eq_true_iff.mp e).2) (by first | rfl | fail "open_line: no head takes a call that writes beside a table") (by first | assumption | decide +kernel) (by decide +kernel) ⟨rfl, rfl, rfl, rfl, rfl, by decide +kernel⟩ ?hw ?hc
  case hw => w_witness2
  case hc => exact call _ _ (by rfl)
end
section
set_option maxHeartbeats 4000000
theorem fillFT : (P0 = P0) ∧ K0 = K0 := by
  w_top off
  k_with_none
  (k_with "call builtin:issubclass" => ((with_reducible show wpAny _ _ (call (Value.builtin "issubclass") [Value.type "str", Value.ref _]) _ _ _); k_dflt (refine issub_str (by exact News.get (by k_asm) (by k_mem)) ?_; k_whole)))
  (k_with "mine contract" => (k_dflt ((case ho => k_is); (case hcd => k_is); (case hbind => intro s; exact BindsTo.of_eq rfl); (case hcell => decide); (case hloc => exact locs rfl); (case hco => exact rfl); (case hgen => exact rfl); (case hk => exact rfl)); intro mean mg mb h₀ ge dr tk os dp un fr gd L h₁ X T hdp hun pre F N; (try dsimp only); (try k_fold); k_steps))
  (k_with "mine room" => (simp only [Around.deeper, Around.in1, Ar] at *; omega))
  (k_with "mine use" => ((case k1 => k_asm); (case k2 => k_asm); (case k3 => k_asm); (case k4 => k_asm); (case k5 => exact rfl); (case k6 => walk_at "mine room"); (case k7 => walk_at "mine room")))
  (k_with "call ref" => ((with_reducible show wpAny _ _ (call (Value.ref 101) [Value.str _ _]) _ _ _); k_dflt (refine' use (fspath_c _ _ _) (by k_asm) (by k_asm) (by k_asm) (by k_asm) (by exact rfl) (by walk_at "mine room") (by walk_at "mine room") trivial ?_; k_whole); intro r' h' tk' F' N' kp' po'; subst po'; clear kp'; (try k_sweep); (try dsimp only)))
  (k_with "call ref" => ((with_reducible show wpAny _ _ (call (Value.ref 115) [Value.str _ _]) _ _ _); k_dflt (refine' use (getsep_c _ _ _) (by k_asm) (by k_asm) (by k_asm) (by k_asm) (by exact rfl) (by walk_at "mine room") (by walk_at "mine room") trivial ?_; k_whole); intro r' h' tk' F' N' kp' po'; obtain ⟨t', po'⟩ := po'; subst po'; clear kp'; (try k_sweep); (try dsimp only)))
  (k_with "call ref" => ((with_reducible show wpAny _ _ (call (Value.ref 28) [Value.str _ _]) _ _ _); k_dflt (refine use (strip_c _ _ _ (by walk_at "mine len")) (by k_asm) (by k_asm) (by k_asm) (by k_asm) (by exact rfl) (by walk_at "mine room") (by walk_at "mine room") trivial ?_; k_whole); intro r' h' tk' F' N' kp' po'; obtain ⟨t', po'⟩ := po'; subst po'; clear kp'; (try k_sweep); (try dsimp only)))
  (k_with "mine len" => first | with_reducible assumption | omega | assumption)
  (k_with "mine contract0" => (k_dflt ((case ho => k_is); (case hcd => k_is); (case hbind => intro s; exact BindsTo.of_eq rfl); (case hcell => decide); (case hloc => exact locs rfl); (case hco => exact rfl); (case hgen => exact rfl); (case hk => exact rfl))))
  (k_with "truthy ref" => ((with_reducible show wpAny _ _ (truthy (Value.ref _)) _ _ _); k_dflt (refine truthyL (by k_asm) (by k_mem) (by walk_at "mine len") ?_ ?_) <;> (k_whole; intro hT'; (try dsimp only))))
  (k_with "call builtin:list.append" => ((with_reducible show wpAny _ _ (call (Value.builtin _) [Value.ref _, _]) _ _ _); k_dflt (refine appendL (by k_asm) (by k_asm) (by k_upd) (by walk_at "mine len") ?_; k_whole); intro h' F' N'; (try k_sweep)))
  (k_with "call builtin:list.pop" => ((with_reducible show wpAny _ _ (call (Value.builtin _) [Value.ref _]) _ _ _); k_dflt (refine popL (by k_asm) (by k_asm) (by k_upd) (by assumption) (by walk_at "mine len") ?_; k_whole); intro v' h' F' N'; (try k_sweep)))
  (k_with "call builtin:list.insert" => ((with_reducible show wpAny _ _ (call (Value.builtin _) [Value.ref _, Value.int 0 _, _]) _ _ _); k_dflt (refine insertL (by k_asm) (by k_asm) (by k_upd) (by walk_at "mine len") ?_; k_whole); intro h' F' N'; (try k_sweep)))
  (k_with "subscriptTail" => ((show wpAny _ _ (subscriptTail _ _ (Value.ref _) (Value.int (-1) _)) _ _ _); k_dflt (refine lastL (by k_asm) (by k_mem) (by assumption) (by assumption) ?_; k_whole); intro y' t' hl'; (try dsimp only)))
  (k_with "call builtin:str.join" => ((with_reducible show wpAny _ _ (call (Value.builtin _) [Value.str _ _, Value.ref _]) _ _ _); k_dflt (refine joinL (by k_asm) (by k_mem) (by k_asm) (by walk_at "mine len") ?_; k_whole); intro t' k'; (try dsimp only)))
  (k_with "call ref" => ((with_reducible show wpAny _ _ (call (Value.ref 129) [Value.str _ _]) _ _ _); k_dflt (refine useN (split_c _ _ _ (by walk_at "mine len")) (by k_asm) (by k_asm) (by k_asm) (by k_asm) (by exact rfl) (by walk_at "mine room") (by walk_at "mine room") trivial ?_; k_whole); intro l' o' h' tk' F' N' l1 kp' po'; obtain ⟨t1', t2', po'⟩ := po'; subst po'; clear kp'; (try simp only [AllNe, and_true] at l1); (try k_sweep); (try dsimp only)))
  (k_with "exec While Compare cons nil" => (refine hold ?_))
  (k_with "exec For" => ((with_reducible show wpAny _ _ (exec (Stmt.For (Expr.Tuple _ _ _) _ _ [] _) _) _ _ _); refine for_at ?_))
  (k_with "exec For Tuple" => ((with_reducible show wpAny _ _ (exec (Stmt.For (Expr.Tuple _ _ _) _ _ [] _) _) _ _ _); refine for_at ?_))
  (k_with "mine contractC0" => (k_dflt ((case ho => k_is); (case hcd => k_is); (case hbind => intro s; exact BindsTo.of_eq rfl); (case hkind => exact rfl); (case hnd => decide); (case hco => exact rfl); (case hgen => exact rfl); (case hk => exact rfl))))
  k_fill
  exact ⟨rfl, rfl⟩
set_option maxHeartbeats 8000000
theorem law_run {w : World} {s₁ : Shared} {mean : ExcName → Option Value} {mg mb : Str → Option Value} {sl : Addr} {svs : List Value} {ns : List Int} {Q E : Value → Shared → Prop}
    (X : (K0 w.params).In s₁.heap) (T : Top V0 (looseW V0 []) mean mg mb s₁.heap) (hi : IntsAre svs ns) (hz : ns.length ≤ 100) (hl : s₁.heap.IsList sl svs.toArray)
    (k : ∀ h' tk', Kept s₁.heap h' → Q (.bool true) { s₁ with heap := h', toks := tk' }) : wpAny (model P0.prog w) callerA (call (.ref 179) [.ref sl]) Q E s₁ := by
  obtain ⟨h, ge, dr, tk, os⟩ := s₁
  exact law_c w sl svs ns hi hz mean mg mb h ge dr tk os _ _ _ _ Q E X T (by decide) (by decide) hl fun r h' tk' kp e => by subst e; exact k h' tk' kp
theorem fin : PySem.Challenge.rw_pd0135_01.Holds := head0 fun d kwd hdf => (by
  k_fill
  intro w s₀ s₁ mg mb G Y fa o pm cd doc dV kV ho hd hcd hD hmg hg args vals as hpre hlay hrd hwl hlo
  have KX := kIn_of Y
  refine Ground.open G ?_
  intro T B D TE TW
  have e1 : mg (Str.ofString "law") = some (.ref 179) := mg_of KX T.g (by k_is)
  have e2 : fa = 179 := by
    have e0 : d.name = Str.ofString "law" := defOf_name hdf
    have e3 : some (Value.ref fa) = some (Value.ref 179) := hmg.symm.trans (e0 ▸ e1)
    injection e3 with e3
    injection e3
  subst e2
  wrow_args hpre hlay hrd hwl hlo
  rename Heap.IsList _ _ _ => hL9
  rename IntsAre _ _ => hI9
  refine law_run KX T hI9 (by omega) hL9 ?_
  intro h' tk' kp
  refine GoodW.toG ?_
  refine ⟨.inl ⟨_, _, _, rfl, raisesW_false ?ha, .bool true, ?hb, unshared_nil⟩, kp, rfl, hg⟩
  case ha => wrow_none_raised
  case hb => wrow_post)
end
end Mine
set_option maxRecDepth 100000 in
theorem PySem.Challenge.cw_pd0135_01_holds : PySem.Challenge.rw_pd0135_01.Holds :=
  Mine.fin
