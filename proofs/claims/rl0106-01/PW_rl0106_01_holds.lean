import PyProof.Rows.All
import Wide.All
import OpenK.AllK
import Wide.FinOn
import PySem.Challenge.RW_rl0106_01
set_option Elab.async false
set_option linter.all false
set_option compiler.extract_closed false
section
open PySem PySem.W PyProof.Rows
set_option maxRecDepth 100000
set_option maxHeartbeats 8000000
namespace Mine
/-- the text's statement k -/
noncomputable def stm (k : Nat) : Stmt := (List.drop k PySem.Challenge.pw_rl0106_01.main.body).headD (.Pass ⟨0, 0, 0, 0⟩)
/-- the object of a plain def, from its statement -/
noncomputable def fnO (s : Stmt) (dV : Value) (m : String) (t c : Nat) : Obj := @Stmt.casesOn (fun _ => Obj) s
  (fun nm ps b _ _ _ sc _ _ _ => { cls := .type "function", data := .func { name := nm, qualname := nm, params := ps, body := .stmts b, scope := sc, globals := 3, closure := [], defaults := dV, kwdefaults := .none, pyModule := .str (Str.ofString m) t, code := .ref c } })
  (fun _ _ _ _ _ _ _ _ _ _ => default)
  (fun _ _ _ _ _ _ _ _ _ _ _ => default)
  (fun _ _ => default)
  (fun _ _ => default)
  (fun _ _ _ => default)
  (fun _ _ _ _ _ _ _ => default)
  (fun _ _ _ _ => default)
  (fun _ _ _ _ _ => default)
  (fun _ _ _ _ _ => default)
  (fun _ _ _ _ _ => default)
  (fun _ _ _ _ => default)
  (fun _ _ _ _ => default)
  (fun _ _ _ => default)
  (fun _ _ _ => default)
  (fun _ _ _ => default)
  (fun _ _ _ => default)
  (fun _ _ _ _ _ => default)
  (fun _ _ _ _ _ => default)
  (fun _ _ _ => default)
  (fun _ _ => default)
  (fun _ _ _ _ => default)
  (fun _ _ => default)
  (fun _ _ => default)
  (fun _ _ => default)
  (fun _ => default)
  (fun _ => default)
  (fun _ => default)
def tx (s : String) (t : Nat) : Value := .str (Str.ofString s) t
def tuO (vs : Array Value) : Obj := { cls := .type "tuple", data := .seq vs }
def en (P : Params) (s : String) (t : Nat) (v : Value) : DictEntry := { hash := PyData.keyHash P (Str.ofString s), key := .str (Str.ofString s) t, val := v }
def cdO (nm : String) (t1 t2 t3 l n f r8 z r11 r13 r14 r15 m l2 t4 : Nat) : Obj := { cls := .type "code", data := .fields #[tx nm t1, tx nm t2, tx "/claim/cut.py" t3, .int l 0, .int n 0, .int 0 0, .int 0 0, .int f 0, .ref r8, .bool true, .int z 0, .ref r11, .none, .ref r13, .ref r14, .ref r15, .int m 0, .int l2 0, tx "/claim/cut.py" t4] }
noncomputable def s22 : {o : Obj // o = fnO (stm 1) (.ref 15) "cpy313._pylong" 187 21} := by
  apply Subtype.mk
  conv => rhs; whnf
noncomputable def o22 : Obj := s22.1
noncomputable def s29 : {o : Obj // o = fnO (stm 2) (.none) "cpy313._pylong" 187 28} := by
  apply Subtype.mk
  conv => rhs; whnf
noncomputable def o29 : Obj := s29.1
noncomputable def s36 : {o : Obj // o = fnO (stm 3) (.none) "cpy313._pylong" 187 35} := by
  apply Subtype.mk
  conv => rhs; whnf
noncomputable def o36 : Obj := s36.1
noncomputable def s43 : {o : Obj // o = fnO (stm 5) (.none) "cpy313._pylong" 187 42} := by
  apply Subtype.mk
  conv => rhs; whnf
noncomputable def o43 : Obj := s43.1
noncomputable def s50 : {o : Obj // o = fnO (stm 6) (.none) "cpy313._pylong" 187 49} := by
  apply Subtype.mk
  conv => rhs; whnf
noncomputable def o50 : Obj := s50.1
noncomputable def s57 : {o : Obj // o = fnO (stm 7) (.none) "cpy313._pylong" 187 56} := by
  apply Subtype.mk
  conv => rhs; whnf
noncomputable def o57 : Obj := s57.1
noncomputable def s64 : {o : Obj // o = fnO (stm 8) (.none) "cpy313._pylong" 187 63} := by
  apply Subtype.mk
  conv => rhs; whnf
noncomputable def o64 : Obj := s64.1
noncomputable def s71 : {o : Obj // o = fnO (stm 9) (.none) "cpy313._pylong" 187 70} := by
  apply Subtype.mk
  conv => rhs; whnf
noncomputable def o71 : Obj := s71.1
noncomputable def s78 : {o : Obj // o = fnO (stm 10) (.none) "cpy313._pylong" 187 77} := by
  apply Subtype.mk
  conv => rhs; whnf
noncomputable def o78 : Obj := s78.1
noncomputable def s85 : {o : Obj // o = fnO (stm 12) (.none) "cpy313.colorsys" 307 84} := by
  apply Subtype.mk
  conv => rhs; whnf
noncomputable def o85 : Obj := s85.1
noncomputable def s92 : {o : Obj // o = fnO (stm 13) (.none) "cpy313.colorsys" 307 91} := by
  apply Subtype.mk
  conv => rhs; whnf
noncomputable def o92 : Obj := s92.1
noncomputable def s99 : {o : Obj // o = fnO (stm 16) (.none) "cpy313.locale" 341 98} := by
  apply Subtype.mk
  conv => rhs; whnf
noncomputable def o99 : Obj := s99.1
noncomputable def s106 : {o : Obj // o = fnO (stm 18) (.none) "law_rl0106_01" 354 105} := by
  apply Subtype.mk
  conv => rhs; whnf
noncomputable def o106 : Obj := s106.1
noncomputable def s113 : {o : Obj // o = fnO (stm 19) (.none) "law_rl0106_01" 354 112} := by
  apply Subtype.mk
  conv => rhs; whnf
noncomputable def o113 : Obj := s113.1
noncomputable def s118 : {o : Obj // o = fnO (stm 20) (.none) "law_rl0106_01" 354 117} := by
  apply Subtype.mk
  conv => rhs; whnf
noncomputable def o118 : Obj := s118.1
noncomputable def s123 : {o : Obj // o = fnO (stm 21) (.none) "law_rl0106_01" 354 122} := by
  apply Subtype.mk
  conv => rhs; whnf
noncomputable def o123 : Obj := s123.1
noncomputable def KK : Params → Frag := fun P =>
  (nat_lit 2, { cls := .none, data := .dict #[] }) ::
  (nat_lit 3, { cls := .type "dict", data := .dict #[en P "__name__" 165 (tx "law_rl0106_01" 354), en P "__doc__" 166 (.none), en P "__package__" 167 (.none), en P "__loader__" 168 (.builtin "__main__.__loader__#opaque"), en P "__spec__" 169 (.none), en P "__annotations__" 170 (.ref 6), en P "__builtins__" 171 (.ref 4), en P "__file__" 173 (tx "/claim/cut.py" 172), en P "__cached__" 174 (.none), en P "compute_powers" 208 (.ref 22), en P "_str_to_int_inner" 219 (.ref 29), en P "int_from_string" 226 (.ref 36), en P "_DIV_LIMIT" 228 (.int 4000 227), en P "_div2n1n" 245 (.ref 43), en P "_div3n2n" 259 (.ref 50), en P "_int2digits" 270 (.ref 57), en P "_digits2int" 281 (.ref 64), en P "_divmod_pos" 296 (.ref 71), en P "int_divmod" 306 (.ref 78), en P "rgb_to_hsv" 326 (.ref 85), en P "hsv_to_rgb" 340 (.ref 92), en P "CHAR_MAX" 344 (.int 127 343), en P "_grouping_intervals" 353 (.ref 99), en P "_law_pieces" 365 (.ref 106), en P "_law_figures" 376 (.ref 113), en P "_law_mix" 382 (.ref 118), en P "law" 388 (.ref 123)] 27 }) ::
  (nat_lit 6, { cls := .type "dict", data := .dict #[] }) ::
  (nat_lit 15, tuO #[.bool false]) ::
  (nat_lit 16, tuO #[]) ::
  (nat_lit 18, tuO #[tx "w" 192, tx "base" 193, tx "more_than" 194, tx "show" 195, tx "seen" 196, tx "need" 197, tx "ws" 198, tx "lo" 199, tx "d" 200, tx "it" 201, tx "first" 202, tx "this" 203, tx "hi" 204, tx "sq" 205]) ::
  (nat_lit 19, tuO #[]) ::
  (nat_lit 21, cdO "compute_powers" 189 190 191 2 4 3 16 181 17 18 19 20 206 2 207) ::
  (nat_lit 22, o22) ::
  (nat_lit 23, tuO #[]) ::
  (nat_lit 25, tuO #[tx "s" 212]) ::
  (nat_lit 26, tuO #[tx "s" 213, tx "DIGLIM" 214, tx "inner" 215, tx "w5pow" 216]) ::
  (nat_lit 28, cdO "_str_to_int_inner" 209 210 211 43 1 3 23 181 24 25 26 27 217 43 218) ::
  (nat_lit 29, o29) ::
  (nat_lit 30, tuO #[]) ::
  (nat_lit 32, tuO #[tx "s" 223]) ::
  (nat_lit 33, tuO #[]) ::
  (nat_lit 35, cdO "int_from_string" 220 221 222 53 1 3 30 181 31 32 33 34 224 53 225) ::
  (nat_lit 36, o36) ::
  (nat_lit 37, tuO #[]) ::
  (nat_lit 39, tuO #[tx "a" 232, tx "b" 233, tx "n" 234, tx "pad" 235, tx "half_n" 236, tx "mask" 237, tx "b1" 238, tx "b2" 239, tx "q1" 240, tx "r" 241, tx "q2" 242]) ::
  (nat_lit 40, tuO #[]) ::
  (nat_lit 42, cdO "_div2n1n" 229 230 231 57 3 3 37 181 38 39 40 41 243 57 244) ::
  (nat_lit 43, o43) ::
  (nat_lit 44, tuO #[]) ::
  (nat_lit 46, tuO #[tx "a12" 249, tx "a3" 250, tx "b" 251, tx "b1" 252, tx "b2" 253, tx "n" 254, tx "q" 255, tx "r" 256]) ::
  (nat_lit 47, tuO #[]) ::
  (nat_lit 49, cdO "_div3n2n" 246 247 248 73 6 3 44 181 45 46 47 48 257 73 258) ::
  (nat_lit 50, o50) ::
  (nat_lit 51, tuO #[]) ::
  (nat_lit 53, tuO #[tx "a" 263, tx "n" 264]) ::
  (nat_lit 54, tuO #[tx "n" 265, tx "a_digits" 266, tx "inner" 267]) ::
  (nat_lit 56, cdO "_int2digits" 260 261 262 83 2 3 51 181 52 53 54 55 268 83 269) ::
  (nat_lit 57, o57) ::
  (nat_lit 58, tuO #[]) ::
  (nat_lit 60, tuO #[tx "digits" 274, tx "n" 275]) ::
  (nat_lit 61, tuO #[tx "digits" 276, tx "n" 277, tx "inner" 278]) ::
  (nat_lit 63, cdO "_digits2int" 271 272 273 99 2 3 58 181 59 60 61 62 279 99 280) ::
  (nat_lit 64, o64) ::
  (nat_lit 65, tuO #[]) ::
  (nat_lit 67, tuO #[tx "a" 285, tx "b" 286, tx "n" 287, tx "a_digits" 288, tx "r" 289, tx "q_digits" 290, tx "a_digit" 291, tx "q_digit" 292, tx "q" 293]) ::
  (nat_lit 68, tuO #[]) ::
  (nat_lit 70, cdO "_divmod_pos" 282 283 284 108 2 3 65 181 66 67 68 69 294 108 295) ::
  (nat_lit 71, o71) ::
  (nat_lit 72, tuO #[]) ::
  (nat_lit 74, tuO #[tx "a" 300, tx "b" 301, tx "q" 302, tx "r" 303]) ::
  (nat_lit 75, tuO #[]) ::
  (nat_lit 77, cdO "int_divmod" 297 298 299 119 2 3 72 181 73 74 75 76 304 119 305) ::
  (nat_lit 78, o78) ::
  (nat_lit 79, tuO #[]) ::
  (nat_lit 81, tuO #[tx "r" 312, tx "g" 313, tx "b" 314, tx "maxc" 315, tx "minc" 316, tx "rangec" 317, tx "v" 318, tx "s" 319, tx "rc" 320, tx "gc" 321, tx "bc" 322, tx "h" 323]) ::
  (nat_lit 82, tuO #[]) ::
  (nat_lit 84, cdO "rgb_to_hsv" 309 310 311 131 3 3 79 181 80 81 82 83 324 131 325) ::
  (nat_lit 85, o85) ::
  (nat_lit 86, tuO #[]) ::
  (nat_lit 88, tuO #[tx "h" 330, tx "s" 331, tx "v" 332, tx "i" 333, tx "f" 334, tx "p" 335, tx "q" 336, tx "t" 337]) ::
  (nat_lit 89, tuO #[]) ::
  (nat_lit 91, cdO "hsv_to_rgb" 327 328 329 150 3 3 86 181 87 88 89 90 338 150 339) ::
  (nat_lit 92, o92) ::
  (nat_lit 93, tuO #[]) ::
  (nat_lit 95, tuO #[tx "grouping" 348, tx "last_interval" 349, tx "interval" 350]) ::
  (nat_lit 96, tuO #[]) ::
  (nat_lit 98, cdO "_grouping_intervals" 345 346 347 173 1 35 93 181 94 95 96 97 351 173 352) ::
  (nat_lit 99, o99) ::
  (nat_lit 100, tuO #[]) ::
  (nat_lit 102, tuO #[tx "text" 359, tx "row" 360, tx "pieces" 361, tx "told" 362]) ::
  (nat_lit 103, tuO #[]) ::
  (nat_lit 105, cdO "_law_pieces" 356 357 358 186 2 3 100 181 101 102 103 104 363 186 364) ::
  (nat_lit 106, o106) ::
  (nat_lit 107, tuO #[]) ::
  (nat_lit 109, tuO #[tx "number" 369, tx "low" 370, tx "base" 371, tx "figures" 372, tx "rest" 373]) ::
  (nat_lit 110, tuO #[]) ::
  (nat_lit 112, cdO "_law_figures" 366 367 368 196 3 3 107 181 108 109 110 111 374 196 375) ::
  (nat_lit 113, o113) ::
  (nat_lit 114, tuO #[]) ::
  (nat_lit 117, { cls := .type "code", data := .fields #[tx "_law_mix" 377, tx "_law_mix" 378, tx "/claim/cut.py" 379, .int 203 0, .int 2 0, .int 0 0, .int 0 0, .int 3 0, .ref 114, .bool true, .int 181 0, .ref 115, .none, .none, .none, .ref 116, .int 380 0, .int 203 0, tx "/claim/cut.py" 381] }) ::
  (nat_lit 118, o118) ::
  (nat_lit 119, tuO #[]) ::
  (nat_lit 122, { cls := .type "code", data := .fields #[tx "law" 383, tx "law" 384, tx "/claim/cut.py" 385, .int 211 0, .int 1 0, .int 0 0, .int 0 0, .int 3 0, .ref 119, .bool true, .int 181 0, .ref 120, .none, .none, .none, .ref 121, .int 386 0, .int 211 0, tx "/claim/cut.py" 387] }) ::
  (nat_lit 123, o123) :: []
def asL : List Addr := [2, 3, 6, 15, 16, 18, 19, 21, 22, 23, 25, 26, 28, 29, 30, 32, 33, 35, 36, 37, 39, 40, 42, 43, 44, 46, 47, 49, 50, 51, 53, 54, 56, 57, 58, 60, 61, 63, 64, 65, 67, 68, 70, 71, 72, 74, 75, 77, 78, 79, 81, 82, 84, 85, 86, 88, 89, 91, 92, 93, 95, 96, 98, 99, 100, 102, 103, 105, 106, 107, 109, 110, 112, 113, 114, 117, 118, 119, 122, 123]
/-- the text without the statements that no test looks at -/
noncomputable def view : Program := { PySem.Challenge.pw_rl0106_01 with main := { PySem.Challenge.pw_rl0106_01.main with body := [stm 2, stm 3, stm 4, stm 5, stm 6, stm 7, stm 8, stm 9, stm 10, stm 12, stm 13, stm 15, stm 16, stm 18, stm 19, stm 20, stm 21] } }
theorem asK : ∀ P, asL = (KK P).map (·.1) := fun _ => by kernel_rfl
/-- what is seen of the heap that the top leaves -/
noncomputable abbrev hook : Hook := kmHook KK asL asK [59, 52, 24]
theorem saidRow : PySem.Challenge.rw_rl0106_01.row.wellSaid = true := by kernel_rfl
theorem said : PySem.Challenge.rw_rl0106_01.wellSaid = true := by
  delta OpenLaw.wellSaid
  iterate 18 (with_reducible refine look_both ?_ ?_; rotate_left; kernel_rfl)
  exact saidRow
theorem left : LeftO PySem.Challenge.rw_rl0106_01.row.prog view [Str.ofString "compute_powers"] (fun s => xlAt view [] s && recOk (RowW.records PySem.Challenge.rw_rl0106_01.row.toRowW) s) hook.obs hook.val 1312 := by
  intro w
  kernel_rfl
noncomputable def lawS : {d : DefRec × List (Str × Expr) // defOf view PySem.Challenge.rw_rl0106_01.row.name = some d} := by
  apply Subtype.mk
  conv => lhs; whnf
theorem hd (call : WalkO view [Str.ofString "compute_powers"] (XL view []) hook.says PySem.Challenge.rw_rl0106_01.row.toRowW lawS.1.1 lawS.1.2 fun f vs => PySem.call f vs) : PySem.Challenge.rw_rl0106_01.Holds := by
  refine holds_law said fun said' => ?_
  refine holds_open (d := lawS.1.1) (kwd := lawS.1.2) (N := 1312) left hook.of hook.keeps (fun s e => xl_of s (Bool.and_eq_true_iff.mp e).1) XL.keeps lawS.2 (by kernel_rfl) (by kernel_rfl) (fun s e => recFacts_of (Bool.and_eq_true_iff.mp e).2) (by kernel_rfl) said' (by kernel_rfl) ⟨rfl, rfl, rfl, rfl, rfl, by decide +kernel⟩ ?hw call
  case hw => w_witness2
end Mine
end
section
open PySem PySem.W PySem.Calls PyProof.Rows
set_option maxRecDepth 100000
set_option maxHeartbeats 8000000
namespace Mine

section
variable {h₀ h h' : Heap} {L : Addr} {m : Str → Option Value} {news : List (Addr × Obj)}
theorem frStays (F : Fr h₀ L h m) (k : h.StaysIn h') : Fr h₀ L h' m := ⟨F.ns.keeps k, fun b o e => k _ _ (F.keep b o e), F.above⟩
theorem newsStays (N : News h₀ L h news) (k : h.StaysIn h') : News h₀ L h' news := fun p hp => ⟨k _ _ (N p hp).1, (N p hp).2⟩
theorem newsAdd {t : Addr} {o : Obj} (F : Fr h₀ L h m) (N : News h₀ L h' news) (ht : h'.get? t = some o) (hn : h.objs.size ≤ t) : News h₀ L h' ((t, o) :: news) := fun p hp => by
  rcases List.mem_cons.mp hp with rfl | hp
  · refine ⟨ht, fun q => ?_, ?_⟩
    · exact Nat.lt_irrefl _ (Nat.lt_of_lt_of_le F.ns.lt (Nat.le_trans hn (Nat.le_of_eq q)))
    · exact Heap.get?_none_of_le (Nat.le_trans F.above (Nat.le_trans (Nat.le_of_lt F.ns.lt) hn))
  · exact N p hp
theorem newTuple_B {M : Model} {A : Around} {E : Value → Shared → Prop} {s : Shared} {vs : List Value} {Q : Value → Shared → Prop} (F : Fr h₀ L s.heap m) (N : News h₀ L s.heap news)
    (h : ∀ t h', Fr h₀ L h' m → News h₀ L h' ((t, { cls := .type "tuple", data := .seq vs.toArray }) :: news) → (∀ p ∈ news, p.1 < t) → L < t → Q (.ref t) { s with heap := h' }) (hsz : vs.length ≤ sizeLine := by size_fits) :
    wpAny M A (newTuple vs) Q E s := newTuple_N F N (fun h' F' N' => h _ h' F' N' (fun p hp => Heap.lt_size (N p hp).1) F.ns.lt) hsz
theorem newList_B {M : Model} {A : Around} {E : Value → Shared → Prop} {s : Shared} {vs : List Value} {Q : Value → Shared → Prop} (F : Fr h₀ L s.heap m) (N : News h₀ L s.heap news)
    (h : ∀ t h', Fr h₀ L h' m → News h₀ L h' ((t, listOf vs.toArray 0) :: news) → (∀ p ∈ news, p.1 < t) → L < t → Q (.ref t) { s with heap := h' }) (hsz : vs.length ≤ sizeLine := by size_fits) :
    wpAny M A (newList vs) Q E s := newList_N F N (fun h' F' N' => h _ h' F' N' (fun p hp => Heap.lt_size (N p hp).1) F.ns.lt) hsz
theorem leLt {a b c : Nat} (h1 : a ≤ b) (h2 : @LT.lt Nat _ b c) : a ≤ c := Nat.le_trans h1 (Nat.le_of_lt h2)
theorem newsLt {t : Addr} (N : News h₀ L h news) (hn : h.objs.size ≤ t) : ∀ p ∈ news, p.1 < t := fun p hp => Nat.lt_of_lt_of_le (Heap.lt_size (N p hp).1) hn
end

section
variable {w : World} {A : Around} {s : Shared} {p : Program} {loose : List Str} {mean : ExcName → Option Value} {mg mb : Str → Option Value}
  {R : Result → Shared → Prop} {name qual : Str} {params : Arguments} {body : List Stmt} {scope : Scope} {cl : List (Str × Addr)} {dV kV doc pm cdv ct oc : Value} {an od : Option Addr} {osl : Array (Option Value)} {f : Addr} {fo : Obj} {args : Args} {binds : List (Str × Value)} {ne : List (Addr × Obj)}

/-- a plain def, called over the state s: its frame stands upon the whole heap of s, but for the objects of the list ne, which stand in its ledger -/
theorem enterX (hlim : s.heap.NoLimit) (hroom : A.depth < recursionLimit) (hne : ∀ p ∈ ne, s.heap.get? p.1 = some p.2)
    (ho : s.heap.get? f = some fo) (hd : fo.data = .func (fnX name qual params body scope cl dV kV doc pm an cdv ct)) (hcd : s.heap.CodeRec cdv qual)
    (hbind : BindsTo s (fnX name qual params body scope cl dV kV doc pm an cdv ct) args binds) (hloc : ∀ y ∈ binds, scope.names.lookup y.1 = some .local)
    (h : ∀ L' h₁, Fr (hideAll s.heap (ne.map (·.1))) L' h₁ (fun y => binds.reverse.lookup y) → News (hideAll s.heap (ne.map (·.1))) L' h₁ ne → s.heap.objs.size ≤ L' →
      wpAny (model PySem.Challenge.rw_rl0106_01.row.prog w) (A.deeper (envX qual scope L' f cdv cl)) (execs body (envX qual scope L' f cdv cl))
        (fun fl s' => R (.ok (.ret (match fl with | .ret v => v | _ => .none))) s') (fun _ _ => False)
        { s with heap := h₁, toks := s.toks + binds.length })
    (hco : scope.isCoroutine = false) (hgen : scope.isGenerator = false) (hk : scope.kind = .function)
    (hcell : ∀ x ∈ scope.names, x.2 ≠ .cell) : codeAny (model PySem.Challenge.rw_rl0106_01.row.prog w) A (.call (.ref f) args) R s := by
  refine codeAny_call_def (fd := fnX name qual params body scope cl dV kV doc pm an cdv ct) (body := body) (binds := binds) hroom ho hd hlim hcd rfl hbind hcell hloc (fun h₁ hns hk₁ => ?_) hco hgen hk
  exact wpAny_mono (h s.heap.objs.size h₁ ⟨hns, fun b o e => hk₁ b o (of_hideAll _ e), Nat.le_of_eq (hideAll_size _ _)⟩
    (fun p hp => ⟨hk₁ _ _ (hne p hp), Nat.ne_of_lt (Heap.lt_size (hne p hp)), hideAll_none _ (List.mem_map_of_mem hp)⟩) (Nat.le_refl _)) (fun _ _ x => x) fun _ _ x => x.elim

/-- the same for a def whose locals are captured -/
theorem enterC (hlim : s.heap.NoLimit) (hroom : A.depth < recursionLimit) (hne : ∀ p ∈ ne, s.heap.get? p.1 = some p.2)
    (ho : s.heap.get? f = some fo) (hd : fo.data = .func (fnX name qual params body scope [] dV kV doc pm an cdv ct)) (hcd : s.heap.CodeRec cdv qual)
    (hbind : BindsTo s (fnX name qual params body scope [] dV kV doc pm an cdv ct) args binds)
    (hkind : (binds.all fun y => scope.names.lookup y.1 == some .local || scope.names.lookup y.1 == some .cell) = true)
    (hnd : ((cellsFrom 0 scope.names []).map (·.1)).Nodup)
    (h : ∀ L' h₁ tk cells, Fr (hideAll s.heap (ne.map (·.1))) L' h₁ (bindL (envOfC qual scope L' f cdv).kindOf binds fun _ => none) → News (hideAll s.heap (ne.map (·.1))) L' h₁ (cells ++ ne) →
      CellsAre (bindC (envOfC qual scope L' f cdv).kindOf binds fun _ => none) (cellsFrom (L' + 1) scope.names []) cells → s.heap.objs.size ≤ L' → (∀ p ∈ ne, p.1 < L') →
      wpAny (model PySem.Challenge.rw_rl0106_01.row.prog w) (A.deeper (envOfC qual scope L' f cdv)) (execs body (envOfC qual scope L' f cdv))
        (fun fl s' => R (.ok (.ret (match fl with | .ret v => v | _ => .none))) s') (fun _ _ => False)
        { s with heap := h₁, toks := tk })
    (hco : scope.isCoroutine = false) (hgen : scope.isGenerator = false) (hk : scope.kind = .function) : codeAny (model PySem.Challenge.rw_rl0106_01.row.prog w) A (.call (.ref f) args) R s := by
  refine codeAny_call_function hroom ho hd hco hgen rfl hcd (hbind _ _ _ _ ?_)
  refine wpAny_newFunctionEnv_cells hk (kindsX hkind _) fun env' he s' x => ?_
  subst he
  refine ⟨hlim.keeps x.toInCall.keep, codeAny_func ?_⟩
  obtain ⟨h₁, tk, rfl, _⟩ := x.done
  have hk₁ := x.toInCall.keep
  obtain ⟨cells, NC, Y⟩ := Cl.news (h₀ := s.heap) (Nat.le_refl _) fun n c hm => ⟨x.cell n c (lookup_of_mem_nodup (cellsFrom_names scope.names 0 (s.heap.objs.size + 1) [] [] rfl ▸ hnd) hm), x.above n c hm⟩
  refine wpAny_mono (h s.heap.objs.size h₁ tk cells ⟨x.toInCall.ns, fun b o e => hk₁ b o (of_hideAll _ e), Nat.le_of_eq (hideAll_size _ _)⟩ (fun p hp => ?_) Y (Nat.le_refl _) (fun p hp => Heap.lt_size (hne p hp))) (fun fl s' hl => hl) fun _ _ y => y.elim
  rcases List.mem_append.mp hp with hp | hp
  · refine ⟨(NC p hp).1, (NC p hp).2.1, ?_⟩
    cases q : (hideAll s.heap (ne.map (·.1))).get? p.1 with
    | none => rfl
    | some o => have := of_hideAll _ q; rw [(NC p hp).2.2] at this; cases this
  · exact ⟨hk₁ _ _ (hne p hp), Nat.ne_of_lt (Heap.lt_size (hne p hp)), hideAll_none _ (List.mem_map_of_mem hp)⟩

theorem enterP (X : (Mine.KK w.params).In s.heap) (T : Top p loose mean mg mb s.heap) (hroom : A.depth < recursionLimit)
    (ho : (Mine.KK w.params).lookup f = some ⟨oc, od, .func (fnOf name qual params body scope dV kV doc pm an cdv ct), osl⟩) (hcd : codeIn (Mine.KK w.params) cdv qual = true)
    (hbind : BindsTo s (fnOf name qual params body scope dV kV doc pm an cdv ct) args binds) (hloc : ∀ y ∈ binds, scope.names.lookup y.1 = some .local)
    (h : ∀ L' h₁, Fr s.heap L' h₁ (fun y => binds.reverse.lookup y) → News s.heap L' h₁ [] → s.heap.objs.size ≤ L' →
      wpAny (model PySem.Challenge.rw_rl0106_01.row.prog w) (A.deeper (envOf qual scope L' f cdv)) (execs body (envOf qual scope L' f cdv))
        (fun fl s' => R (.ok (.ret (match fl with | .ret v => v | _ => .none))) s') (fun _ _ => False)
        { s with heap := h₁, toks := s.toks + binds.length })
    (hco : scope.isCoroutine = false) (hgen : scope.isGenerator = false) (hk : scope.kind = .function)
    (hcell : ∀ x ∈ scope.names, x.2 ≠ .cell) : codeAny (model PySem.Challenge.rw_rl0106_01.row.prog w) A (.call (.ref f) args) R s :=
  enterX (cl := []) (ne := []) T.nolimit hroom (fun _ h => nomatch h) (X _ _ ho) rfl (codeRec_of X hcd) hbind hloc h hco hgen hk hcell

theorem enterPC (X : (Mine.KK w.params).In s.heap) (T : Top p loose mean mg mb s.heap) (hroom : A.depth < recursionLimit)
    (ho : (Mine.KK w.params).lookup f = some ⟨oc, od, .func (fnOf name qual params body scope dV kV doc pm an cdv ct), osl⟩) (hcd : codeIn (Mine.KK w.params) cdv qual = true)
    (hbind : BindsTo s (fnOf name qual params body scope dV kV doc pm an cdv ct) args binds)
    (hkind : (binds.all fun y => scope.names.lookup y.1 == some .local || scope.names.lookup y.1 == some .cell) = true)
    (hnd : ((cellsFrom 0 scope.names []).map (·.1)).Nodup)
    (h : ∀ L' h₁ tk cells, Fr s.heap L' h₁ (bindL (envOfC qual scope L' f cdv).kindOf binds fun _ => none) → News s.heap L' h₁ (cells ++ []) →
      CellsAre (bindC (envOfC qual scope L' f cdv).kindOf binds fun _ => none) (cellsFrom (L' + 1) scope.names []) cells → s.heap.objs.size ≤ L' → (∀ p ∈ ([] : List (Addr × Obj)), p.1 < L') →
      wpAny (model PySem.Challenge.rw_rl0106_01.row.prog w) (A.deeper (envOfC qual scope L' f cdv)) (execs body (envOfC qual scope L' f cdv))
        (fun fl s' => R (.ok (.ret (match fl with | .ret v => v | _ => .none))) s') (fun _ _ => False)
        { s with heap := h₁, toks := tk })
    (hco : scope.isCoroutine = false) (hgen : scope.isGenerator = false) (hk : scope.kind = .function) : codeAny (model PySem.Challenge.rw_rl0106_01.row.prog w) A (.call (.ref f) args) R s :=
  enterC (ne := []) T.nolimit hroom (fun _ h => nomatch h) (X _ _ ho) rfl (codeRec_of X hcd) hbind hkind hnd h hco hgen hk
end
end Mine
end
section
open PySem PySem.W PySem.Calls PyProof.Rows
set_option maxRecDepth 100000
set_option maxHeartbeats 8000000
namespace Mine
abbrev tupO (vs : Array Value) : Obj := { cls := .type "tuple", data := .seq vs }
abbrev listO (vs : Array Value) (n : Nat) : Obj := { cls := .type "list", data := .seq vs n }

theorem noPylong64 {a b : Int} (h : b.natAbs < 2 ^ 64) : Builtin.divisionGoesByPylong a b = false := by
  refine PyProof.noPylong_of_log2 ?_
  by_cases h0 : b.natAbs = 0
  · rw [h0]; decide +kernel
  · have := (Nat.log2_lt h0 (k := 64)).mpr h
    lia

theorem div2n1n_spec {w : World} {A : Around} {s : Shared} {p : Program} {loose : List Str} {mean : ExcName → Option Value} {mg mb : Str → Option Value} {Q E : Value → Shared → Prop} {a b n : Int} {ta tb tn : Tok}
    (X : (Mine.KK w.params).In s.heap) (T : Top p loose mean mg mb s.heap) (hd : A.depth + 5 < recursionLimit)
    (hn : (Builtin.Int.intBits a : Int) - n ≤ 4000) (hb : 0 < b) (hb2 : b.natAbs < 2 ^ 64)
    (h : ∀ t h' tk' u1 u2, s.heap.StaysIn h' → s.heap.objs.size ≤ t → h'.get? t = some (tupO #[.int (a.fdiv b) u1, .int (a.fmod b) u2]) → Q (.ref t) { s with heap := h', toks := tk' }) :
    wpAny (model PySem.Challenge.rw_rl0106_01.row.prog w) A (call (.ref 43) [.int a ta, .int b tb, .int n tn]) Q E s := by
  revert X; k_fill; intro X
  refine wpAny_call ?_
  k_dflt (refine' enterP X T ?k8 ?k6 ?k7 ?k9 ?kB ?_ ?c2 ?c3 ?c4 ?c5; (case k6 => k_is); (case k7 => k_is); (case k8 => lia); (case k9 => exact BindsTo.of_eq rfl); (case c5 => decide); (case kB => exact locs rfl); (case c2 => exact rfl); (case c3 => exact rfl); (case c4 => exact rfl); k_whole)
  intro L' h' F' N' hL'
  (try dsimp only)
  k_steps
  refine divmod_N F' N' (by lia) ?_ (.inl (noPylong64 hb2))
  intro h2 F2 N2
  exact h _ _ _ _ _ F2.keep (Nat.le_trans hL' (Nat.le_of_lt F'.ns.lt)) (N2 _ (List.Mem.head _)).1
end Mine
end
section
open PySem PySem.W PySem.Calls PyProof.Rows
set_option maxRecDepth 100000
set_option maxHeartbeats 8000000
namespace Mine
section
variable {prog : Program} {w : World} {A : Around} {E : Value → Shared → Prop} {s : Shared} {a : Addr} {o : Obj}

theorem truthy_set {es : Array (Int × Value)} {ep : Nat} {t : SetTable} {Q : Bool → Shared → Prop}
    (ho : s.heap.get? a = some o) (hex : o.ExactSet) (hd : o.data = .set es ep t) (hf : t.fits es.size = true) (hfit : (es.size : Int) < 2 ^ 63)
    (h : Q ((es.size : Int) != 0) { s with toks := s.toks + 1 + 1 }) : wpAny (model prog w) A (truthy (.ref a)) Q E s := by
  have hT : s.TypeIs (.ref a) "set" := ⟨o, ho, hex.1⟩
  have key : wpAny (model prog w) A (runValue (.builtin "len" ⟨[.ref a], []⟩)) (fun r s' => r = .int es.size (s.toks + 1) ∧ Q ((es.size : Int) != 0) s') E s := by
    refine wpAny_runValue (codeAny_builtin entry_len ?_)
    rw [Around.under_plainId plain_len _]
    exact wpAny_mono (wpAny_len_body_set (Q := fun r s' => r = .int es.size (s.toks + 1) ∧ Q ((es.size : Int) != 0) s') ho hex hd hf hfit ⟨rfl, h⟩)
      (fun fin s' h' => by obtain ⟨r, rfl, hq⟩ := h'; exact hq) fun _ _ e => e
  have noBool : typeLookup (.type "set") "__bool__" = pure none := by first | exact noBool_set | kernel_rfl
  unfold truthy
  first
    | refine wpAny_bind (wpAny_callSpecial?_none (name := Str.ofString "__bool__") hT noBool ?_)
    | refine wpAny_bind (wpAny_pure (wpAny_bind (wpAny_callSpecial?_none (name := Str.ofString "__bool__") hT noBool ?_)))
  first
    | refine wpAny_bind (wpAny_specialOf (name := Str.ofString "__len__") hT F.slot_set_len.lookup ?_)
    | refine wpAny_bind (wpAny_pure (wpAny_bind (wpAny_specialOf (name := Str.ofString "__len__") hT F.slot_set_len.lookup ?_)))
  first
    | exact wpAny_bind (wpAny_mono key (fun r s' h' => by obtain ⟨rfl, hq⟩ := h'; exact wpAny_pure hq) fun _ _ e => e)
    | exact wpAny_bind (wpAny_pure (wpAny_bind (wpAny_mono key (fun r s' h' => by obtain ⟨rfl, hq⟩ := h'; exact wpAny_pure hq) fun _ _ e => e)))

theorem wpAny_choose1 {src : Source} {Q : Nat → Shared → Prop} (h : ∀ dr, Q 0 { s with drawn := dr }) : wpAny (model prog w) A (choose src 1) Q E s := by
  intro Γ p hΓ
  unfold choose
  rw [Sem.wp_choose]
  refine ⟨by decide, ?_⟩
  rw [Nat.mod_one]
  exact h _

theorem setPop_one {x : Value} {hs : Int} {ep : Nat} {t : SetTable} {Q : Option Value → Shared → Prop}
    (ho : s.heap.get? a = some o) (hd : o.data = .set #[(hs, x)] ep t) (hf : t.fits 1 = true)
    (h : ∀ dr t', t'.fits 0 = true → Q (some x) { s with heap := s.heap.update a (Obj.putSet #[] t'), drawn := dr }) : wpAny (model prog w) A (setPop a) Q E s := by
  have hf' := hf
  unfold SetTable.fits at hf
  rw [Bool.and_eq_true, beq_iff_eq, decide_eq_true_eq] at hf
  obtain ⟨hp, hfl⟩ := hf
  obtain ⟨p0, hp0⟩ := Array.size_eq_one_iff.mp hp
  have hpp : t.popPlace = some 0 := by
    unfold SetTable.popPlace
    rw [hp0]
    simp
  have hfit' : (t.popped 0).fits 0 = true := by
    unfold SetTable.popped SetTable.drop SetTable.fits SetTable.fill
    rw [hp0]
    simp only [List.getElem?_toArray, List.getElem?_cons_zero]
    unfold SetTable.fill at hfl
    rw [hp0] at hfl
    simp [SetTable.eraseAt, SetTable.insertAt] at hfl ⊢
    omega
  unfold setPop
  refine wpAny_bind (wpAny_setState_of ho hd (by simpa using hf') ?_)
  dsimp only
  rw [hpp]
  dsimp only
  unfold setsByText
  refine wpAny_bind (wpAny_bind (wpAny_askSetting (wpAny_pure ?_)))
  rcases t with ⟨mask, place, dummies, finger, led, moves, plain⟩
  refine wpAny_ite ?_
  split
  · refine wpAny_bind (wpAny_choose1 fun dr => ?_)
    exact wpAny_bind (wpAny_storeSet_of ho hd (wpAny_pure (h dr _ hfit')) (by show 0 ≤ sizeLine; exact Nat.zero_le _))
  · refine wpAny_bind (wpAny_of_eq (show _ = pure () from by cases led <;> rfl) ?_)
    refine wpAny_bind (wpAny_pure ?_)
    exact wpAny_bind (wpAny_storeSet_of ho hd (wpAny_pure (h s.drawn _ hfit')) (by show 0 ≤ sizeLine; exact Nat.zero_le _))
end

section
variable {prog : Program} {w : World} {A : Around} {E : Value → Shared → Prop} {s : Shared} {h₀ : Heap} {L sa : Addr} {m : Str → Option Value} {news : List (Addr × Obj)} {g : Obj → List (Addr × Obj)} {so : Obj} {S : Int → Bool} {n : Nat}
theorem truthy_setK {Q : Bool → Shared → Prop} (N : News h₀ L s.heap news) (hm : (sa, so) ∈ news) (hso : so.SetObjOf (intKind prog w) S n) (hfit : (n : Int) < 2 ^ 63)
    (h : Q ((n : Int) != 0) { s with toks := s.toks + 1 + 1 }) : wpAny (model prog w) A (truthy (.ref sa)) Q E s := by
  obtain ⟨hex, es, ep, t, hd, _, _, hn, hf⟩ := hso
  subst hn
  exact truthy_set (N.get hm) hex hd hf hfit h
theorem popMeth_setK {pl : Sem Bool} {Q : Value × List Value → Shared → Prop} (N : News h₀ L s.heap news) (hm : (sa, so) ∈ news) (hso : so.SetObjOf (intKind prog w) S n) (h : Q (.builtin "set.pop", [.ref sa]) s) :
    wpAny (model prog w) A (getMethod (.ref sa) "pop" pl) Q E s := by
  obtain ⟨hex, es, ep, t, hd, _, _, hn, hf⟩ := hso
  refine getMethod_builtin (T := "set") ⟨so, N.get hm, hex.1⟩ F.plainAttrs_set F.slot_set_pop F.type_set_pop (fun b e => ?_) h
  injection e with e; subst e; exact ⟨so, N.get hm, hex.2.1⟩
theorem pop_setK {k : Int} {Q : Value → Shared → Prop} (F : Fr h₀ L s.heap m) (N : News h₀ L s.heap news) (U : UpdF sa so news g) (hso : so.SetObjOf (intKind prog w) (fun k' => false || decide (k' = k)) 1)
    (h : ∀ dr h' so' tk, Fr h₀ L h' m → News h₀ L h' (g so') → so'.SetObjOf (intKind prog w) (fun _ => false) 0 → Q (.int k tk) { s with heap := h', drawn := dr }) :
    wpAny (model prog w) A (call (.builtin "set.pop") [.ref sa]) Q E s := by
  obtain ⟨own, rest, rfl, hg, h1, h2⟩ := U.split
  obtain ⟨hex, es, ep, t, hd, hel, hS, hn, hf⟩ := hso
  have hm := N (sa, so) (List.mem_append_right _ (.head _))
  obtain ⟨⟨hs, x⟩, rfl⟩ := Array.size_eq_one_iff.mp hn
  obtain ⟨tk, rfl⟩ : ∃ tk, x = .int k tk := by
    have := (hS k).mp (by simp)
    obtain ⟨e, he, hk⟩ := this
    simp at he
    subst he
    exact Value.isInt_shape hk
  refine wpAny_call_entry PySem.F.slot_set_pop (T := "set") ⟨so, hm.1, hex.1⟩ PySem.F.entry_set_pop ?_ (PySem.F.args_set_pop_1 _)
  unfold Builtin.«set.pop» Builtin.Frozenset.noArgs
  simp only [List.isEmpty_nil, bind_assoc]
  unfold Builtin.Frozenset.addrOf
  refine wpAny_bind (wpAny_pure ?_)
  try dsimp only
  refine wpAny_bind (setPop_one hm.1 hd (by simpa using hf) fun dr t' ht' => ?_)
  dsimp only
  refine wpAny_pure ⟨_, rfl, ?_⟩
  obtain ⟨c, d, dt, sl⟩ := so
  simp only at hd
  subst hd
  obtain ⟨F', N'⟩ := news_upd (f := Obj.putSet #[] t') (o' := ⟨c, d, .set #[] (ep + 1) t', sl⟩) F N h1 h2 rfl rfl
  refine h dr _ ⟨c, d, .set #[] (ep + 1) t', sl⟩ tk F' (by rw [hg]; exact N') ⟨hex, #[], _, t', rfl, fun e he => by simp at he, fun k => by simp, rfl, ht'⟩
end
section

theorem cp_spec {w : World} {A : Around} {s : Shared} {p : Program} {loose : List Str} {mean : ExcName → Option Value} {mg mb : Str → Option Value} {Q E : Value → Shared → Prop} {n : Int} {t1 t2 t3 : Tok}
    (X : (Mine.KK w.params).In s.heap) (T : Top p loose mean mg mb s.heap) (hd : A.depth + 5 < recursionLimit) (hn : n ≤ 2048)
    (h : ∀ v h' tk' dr', s.heap.StaysIn h' → Q v { s with heap := h', toks := tk', drawn := dr' }) :
    wpAny (model PySem.Challenge.rw_rl0106_01.row.prog w) A (call (.ref 22) [.int n t1, .int 5 t2, .int 2048 t3]) Q E s := by
  revert X; k_fill; intro X
  refine wpAny_call ?_
  k_dflt (refine' enterP X T ?k8 ?k6 ?k7 ?k9 ?kB ?_ ?c2 ?c3 ?c4 ?c5; (case k6 => k_is); (case k7 => k_is); (case k8 => omega); (case k9 => first | exact BindsTo.of_eq rfl | exact binds_K (by k_in) rfl (by k_is) rfl rfl rfl); (case c5 => decide); (case kB => exact locs rfl); (case c2 => exact rfl); (case c3 => exact rfl); (case c4 => exact rfl); k_whole)
  intro L' h' F' N' hL'
  (try dsimp only)
  repeat' (first | (k_unfold; (try dsimp only)) | (k_end; wrow_close) | ((with_reducible show wpAny _ _ (call (Value.builtin "set.pop") _) _ _ _); (k_here; kse_here; k_dflt (refine' pop_setK ?F ?N ?U ?d ?_; (case F => k_asm); (case N => k_asm); (case U => k_updF); (case d => k_asm)); intro dr' h' so' tk' F' N' hs'; (try dsimp only at N'); (try k_sweep))) | ((with_reducible show wpAny _ _ (getMethod (Value.ref _) _ _) _ _ _); (k_here; kse_here; (with_reducible show wpAny _ _ (getMethod (Value.ref _) (Str.ofString "pop") _) _ _ _); k_dflt (refine' popMeth_setK ?N ?U ?d ?_; (case N => k_asm); (case U => k_mem); (case d => k_asm)))) | ((with_reducible show wpAny _ _ (truthy (Value.ref _)) _ _ _); (k_here; kse_here; k_dflt (refine' truthy_setK ?N ?U ?d ?z ?_; (case N => k_asm); (case U => k_mem); (case d => k_asm); (case z => kse_fit)); (try dsimp only))) | walk1 | (dsimp only; first | ((with_reducible show wpAny _ _ (call (Value.builtin "set.pop") _) _ _ _); (k_here; kse_here; k_dflt (refine' pop_setK ?F ?N ?U ?d ?_; (case F => k_asm); (case N => k_asm); (case U => k_updF); (case d => k_asm)); intro dr' h' so' tk' F' N' hs'; (try dsimp only at N'); (try k_sweep))) | ((with_reducible show wpAny _ _ (getMethod (Value.ref _) _ _) _ _ _); (k_here; kse_here; (with_reducible show wpAny _ _ (getMethod (Value.ref _) (Str.ofString "pop") _) _ _ _); k_dflt (refine' popMeth_setK ?N ?U ?d ?_; (case N => k_asm); (case U => k_mem); (case d => k_asm)))) | ((with_reducible show wpAny _ _ (truthy (Value.ref _)) _ _ _); (k_here; kse_here; k_dflt (refine' truthy_setK ?N ?U ?d ?z ?_; (case N => k_asm); (case U => k_mem); (case d => k_asm); (case z => kse_fit)); (try dsimp only))) | walk1) | (leave1; walk_say "STEP leave1"; try dsimp only))
  exact h _ _ _ _ (fun b o e => Fr.keep (by assumption) b o e)
end
end Mine
end
section
open PySem PySem.W PySem.Calls PyProof.Rows
set_option maxRecDepth 100000
set_option maxHeartbeats 8000000
namespace Mine

/-- the heap without the tables of the three defs that make defs -/
abbrev hid (h : Heap) : Heap := hideAll h [59, 52, 24]
abbrev q24 : Str := Str.ofString "_str_to_int_inner.<locals>.inner"
abbrev q52 : Str := Str.ofString "_int2digits.<locals>.inner"
abbrev q59 : Str := Str.ofString "_digits2int.<locals>.inner"
/-- the table P is empty, or it holds the code of the one def made there -/
def TabIs (P : Addr) (qual : Str) (ln : Nat) (h : Heap) (ps : Array Value) : Prop :=
  h.get? P = some (tabObj ps) ∧ (ps = #[] ∨ ∃ c' oc vs t, ps = #[rawInt ln, rawInt (4 : Nat), .ref c'] ∧ (hid h).get? c' = some oc ∧ oc.data = .fields vs ∧ vs[1]? = some (.str qual t))
structure Tabs (h : Heap) : Prop where
  t24 : ∃ ps, TabIs 24 q24 46 h ps
  t52 : ∃ ps, TabIs 52 q52 86 h ps
  t59 : ∃ ps, TabIs 59 q59 101 h ps
/-- what stands behind a call: all that stood but the tables, and these as they may be -/
structure After (h h' : Heap) : Prop where
  keep : ∀ b o, (hid h).get? b = some o → h'.get? b = some o
  tabs : Tabs h'
  size : h.objs.size ≤ h'.objs.size

theorem hid_not {h : Heap} {b : Addr} {o : Obj} (e : (hid h).get? b = some o) : b ∉ ([59, 52, 24] : List Addr) := fun q => by
  rw [hideAll_none _ q] at e; cases e
theorem hid_up {h h' : Heap} (k : ∀ b o, (hid h).get? b = some o → h'.get? b = some o) : ∀ b o, (hid h).get? b = some o → (hid h').get? b = some o :=
  fun b o e => hideAll_get _ (k b o e) (hid_not e)
theorem TabIs.stays {P : Addr} {q : Str} {l : Nat} {ps : Array Value} {h h' : Heap} (x : TabIs P q l h ps) (k : h.StaysIn h') : TabIs P q l h' ps := by
  refine ⟨k _ _ x.1, x.2.imp id fun ⟨c', oc, vs, t, e1, e2, e3⟩ => ⟨c', oc, vs, t, e1, hid_up (fun b o e => k _ _ (of_hideAll _ e)) _ _ e2, e3⟩⟩
theorem Tabs.stays {h h' : Heap} (x : Tabs h) (k : h.StaysIn h') : Tabs h' :=
  ⟨let ⟨ps, y⟩ := x.t24; ⟨ps, y.stays k⟩, let ⟨ps, y⟩ := x.t52; ⟨ps, y.stays k⟩, let ⟨ps, y⟩ := x.t59; ⟨ps, y.stays k⟩⟩
theorem After.of {h h' : Heap} (x : Tabs h) (k : h.StaysIn h') (z : h.objs.size ≤ h'.objs.size) : After h h' := ⟨fun b o e => k _ _ (of_hideAll _ e), x.stays k, z⟩
theorem After.trans {h h' h'' : Heap} (x : After h h') (y : After h' h'') : After h h'' := ⟨fun b o e => y.keep _ _ (hid_up x.keep _ _ e), y.tabs, Nat.le_trans x.size y.size⟩

/-- the ground that every call of the text's own stands upon -/
structure Gr (w : World) (p : Program) (loose : List Str) (mean : ExcName → Option Value) (mg mb : Str → Option Value) (h : Heap) : Prop where
  X : (Mine.KK w.params).In (hid h)
  T : Top p loose mean mg mb (hid h)
  c24 : CodeHd (hid h) 28 24
  c52 : CodeHd (hid h) 56 52
  c59 : CodeHd (hid h) 63 59
  tabs : Tabs h
section
variable {w : World} {p : Program} {loose : List Str} {mean : ExcName → Option Value} {mg mb : Str → Option Value} {h h' : Heap}
theorem Gr.after (G : Gr w p loose mean mg mb h) (x : After h h') : Gr w p loose mean mg mb h' :=
  ⟨G.X.keeps (hid_up x.keep), G.T.keeps (hid_up x.keep), G.c24.keeps (hid_up x.keep), G.c52.keeps (hid_up x.keep), G.c59.keeps (hid_up x.keep), x.tabs⟩
theorem Gr.stays (G : Gr w p loose mean mg mb h) (k : h.StaysIn h') : Gr w p loose mean mg mb h' :=
  ⟨G.X.keeps (hid_up fun b o e => k _ _ (of_hideAll _ e)), G.T.keeps (hid_up fun b o e => k _ _ (of_hideAll _ e)), G.c24.keeps (hid_up fun b o e => k _ _ (of_hideAll _ e)), G.c52.keeps (hid_up fun b o e => k _ _ (of_hideAll _ e)), G.c59.keeps (hid_up fun b o e => k _ _ (of_hideAll _ e)), G.tabs.stays k⟩
theorem Gr.XX (G : Gr w p loose mean mg mb h) : (Mine.KK w.params).In h := G.X.keeps fun b o e => of_hideAll _ e
theorem Gr.TT (G : Gr w p loose mean mg mb h) : Top p loose mean mg mb h := G.T.keeps fun b o e => of_hideAll _ e
end

section
variable {w : World} {A : Around} {s : Shared} {p : Program} {loose : List Str} {mean : ExcName → Option Value} {mg mb : Str → Option Value} {h₀ : Heap} {L : Addr} {m : Str → Option Value} {news : List (Addr × Obj)}
  {R : Result → Shared → Prop} {name qual : Str} {params : Arguments} {body : List Stmt} {scope : Scope} {cl : List (Str × Addr)} {doc pm ctv : Value} {c' : Addr} {f : Addr} {args : Args} {binds : List (Str × Value)}
/-- a def that the frame at hand has made, called: its frame stands upon all that is not in the ledger, and the ledger goes along -/
theorem enterN (F : Fr h₀ L s.heap m) (N : News h₀ L s.heap news) (X₀ : (Mine.KK w.params).In h₀) (T : Top p loose mean mg mb h₀)
    (ho : (f, fnMade name qual params body scope cl doc pm c' ctv) ∈ news) (hcd : s.heap.CodeRec (.ref c') qual) (hroom : A.depth < recursionLimit)
    (hbind : BindsTo s (fnX name qual params body scope cl .none .none doc pm none (.ref c') ctv) args binds) (hloc : ∀ y ∈ binds, scope.names.lookup y.1 = some .local)
    (h : ∀ g L' h₁, Fr g L' h₁ (fun y => binds.reverse.lookup y) → News g L' h₁ news → (Mine.KK w.params).In g → Top p loose mean mg mb g → h₀.StaysIn g → (∀ p ∈ news, p.1 < L') → s.heap.objs.size ≤ L' →
      wpAny (model PySem.Challenge.rw_rl0106_01.row.prog w) (A.deeper (envX qual scope L' f (.ref c') cl)) (execs body (envX qual scope L' f (.ref c') cl))
        (fun fl s' => LeaveK h₀ L m g R (match fl with | .ret v => v | _ => .none) s') (fun _ _ => False)
        { s with heap := h₁, toks := s.toks + binds.length })
    (hco : scope.isCoroutine = false) (hgen : scope.isGenerator = false) (hk : scope.kind = .function)
    (hcell : ∀ x ∈ scope.names, x.2 ≠ .cell) : codeAny (model PySem.Challenge.rw_rl0106_01.row.prog w) A (.call (.ref f) args) R s := by
  have nm : ∀ b o, h₀.get? b = some o → b ∉ news.map (·.1) := fun b o e q => by
    obtain ⟨p, hp, rfl⟩ := List.mem_map.mp q
    rw [(N p hp).2.2] at e; cases e
  have st : h₀.StaysIn (hideAll s.heap (news.map (·.1))) := fun b o e => hideAll_get _ (F.keep b o e) (nm b o e)
  obtain ⟨oL, es, ep, hL, hLd, hLk, hLf⟩ := F.ns
  have nL : L ∉ news.map (·.1) := fun q => by
    obtain ⟨p, hp, e⟩ := List.mem_map.mp q
    exact (N p hp).2.1 e
  have hLg := hideAll_get (news.map (·.1)) hL nL
  refine codeAny_call_def (fd := fnX name qual params body scope cl .none .none doc pm none (.ref c') ctv) (body := body) (binds := binds) hroom (N _ ho).1 rfl (T.nolimit.keeps F.keep) hcd rfl hbind hcell hloc (fun h₁ hns hk₁ => ?_) hco hgen hk
  refine wpAny_mono (h _ s.heap.objs.size h₁ ⟨hns, fun b o e => hk₁ b o (of_hideAll _ e), Nat.le_of_eq (hideAll_size _ _)⟩
    (fun p hp => ⟨hk₁ _ _ (N p hp).1, Nat.ne_of_lt (Heap.lt_size (N p hp).1), hideAll_none _ (List.mem_map_of_mem hp)⟩) (X₀.keeps st) (T.keeps st) st (fun p hp => Heap.lt_size (N p hp).1) (Nat.le_refl _)) (fun fl s' hl => ?_) fun _ _ y => y.elim
  obtain ⟨L', m', news', F', N', k⟩ := hl
  refine k ⟨⟨oL, es, ep, F'.keep L oL hLg, hLd, hLk, hLf⟩, fun b o e => F'.keep b o (st b o e), F.above⟩ fun p hp => ⟨(N' p hp).1, fun q => ?_, ?_⟩
  · have := (N' p hp).2.2; rw [q, hLg] at this; cases this
  · cases q : h₀.get? p.1 with
    | none => rfl
    | some o => have := (N' p hp).2.2; rw [st _ _ q] at this; cases this
end

section
variable {w : World} {A : Around} {s : Shared} {p : Program} {loose : List Str} {mean : ExcName → Option Value} {mg mb : Str → Option Value}
  {R : Result → Shared → Prop} {name qual : Str} {params : Arguments} {body : List Stmt} {scope : Scope} {dV kV doc pm cdv ct oc : Value} {an od : Option Addr} {osl : Array (Option Value)} {f : Addr} {args : Args} {binds : List (Str × Value)} {p24 p52 p59 : Array Value}
abbrev tabL (p24 p52 p59 : Array Value) : List (Addr × Obj) := [(59, tabObj p59), (52, tabObj p52), (24, tabObj p24)]
theorem tabL_at {h : Heap} (T24 : TabIs 24 q24 46 h p24) (T52 : TabIs 52 q52 86 h p52) (T59 : TabIs 59 q59 101 h p59) : ∀ q ∈ tabL p24 p52 p59, h.get? q.1 = some q.2 := fun q hq => by
  simp only [tabL, List.mem_cons, List.not_mem_nil, or_false] at hq
  rcases hq with rfl | rfl | rfl
  · exact T59.1
  · exact T52.1
  · exact T24.1
theorem enterT (G : Gr w p loose mean mg mb s.heap) (T24 : TabIs 24 q24 46 s.heap p24) (T52 : TabIs 52 q52 86 s.heap p52) (T59 : TabIs 59 q59 101 s.heap p59) (hroom : A.depth < recursionLimit)
    (ho : (Mine.KK w.params).lookup f = some ⟨oc, od, .func (fnOf name qual params body scope dV kV doc pm an cdv ct), osl⟩) (hcd : codeIn (Mine.KK w.params) cdv qual = true)
    (hbind : BindsTo s (fnOf name qual params body scope dV kV doc pm an cdv ct) args binds) (hloc : ∀ y ∈ binds, scope.names.lookup y.1 = some .local)
    (h : ∀ L' h₁, Fr (hid s.heap) L' h₁ (fun y => binds.reverse.lookup y) → News (hid s.heap) L' h₁ [(59, tabObj p59), (52, tabObj p52), (24, tabObj p24)] → s.heap.objs.size ≤ L' → @LT.lt Nat _ 59 L' ∧ @LT.lt Nat _ 52 L' ∧ @LT.lt Nat _ 24 L' →
      wpAny (model PySem.Challenge.rw_rl0106_01.row.prog w) (A.deeper (envOf qual scope L' f cdv)) (execs body (envOf qual scope L' f cdv))
        (fun fl s' => R (.ok (.ret (match fl with | .ret v => v | _ => .none))) s') (fun _ _ => False)
        { s with heap := h₁, toks := s.toks + binds.length })
    (hco : scope.isCoroutine = false) (hgen : scope.isGenerator = false) (hk : scope.kind = .function)
    (hcell : ∀ x ∈ scope.names, x.2 ≠ .cell) : codeAny (model PySem.Challenge.rw_rl0106_01.row.prog w) A (.call (.ref f) args) R s :=
  enterX (cl := []) (ne := tabL p24 p52 p59) G.TT.nolimit hroom (tabL_at T24 T52 T59) (G.XX _ _ ho) rfl (codeRec_of G.XX hcd) hbind hloc
    (fun L' h₁ F N z => h L' h₁ F N z ⟨Nat.lt_of_lt_of_le (Heap.lt_size T59.1) z, Nat.lt_of_lt_of_le (Heap.lt_size T52.1) z, Nat.lt_of_lt_of_le (Heap.lt_size T24.1) z⟩) hco hgen hk hcell
theorem enterTC (G : Gr w p loose mean mg mb s.heap) (T24 : TabIs 24 q24 46 s.heap p24) (T52 : TabIs 52 q52 86 s.heap p52) (T59 : TabIs 59 q59 101 s.heap p59) (hroom : A.depth < recursionLimit)
    (ho : (Mine.KK w.params).lookup f = some ⟨oc, od, .func (fnOf name qual params body scope dV kV doc pm an cdv ct), osl⟩) (hcd : codeIn (Mine.KK w.params) cdv qual = true)
    (hbind : BindsTo s (fnOf name qual params body scope dV kV doc pm an cdv ct) args binds)
    (hkind : (binds.all fun y => scope.names.lookup y.1 == some .local || scope.names.lookup y.1 == some .cell) = true)
    (hnd : ((cellsFrom 0 scope.names []).map (·.1)).Nodup)
    (h : ∀ L' h₁ tk cells, Fr (hid s.heap) L' h₁ (bindL (envOfC qual scope L' f cdv).kindOf binds fun _ => none) → News (hid s.heap) L' h₁ (cells ++ [(59, tabObj p59), (52, tabObj p52), (24, tabObj p24)]) →
      CellsAre (bindC (envOfC qual scope L' f cdv).kindOf binds fun _ => none) (cellsFrom (L' + 1) scope.names []) cells → s.heap.objs.size ≤ L' → @LT.lt Nat _ 59 L' ∧ @LT.lt Nat _ 52 L' ∧ @LT.lt Nat _ 24 L' →
      wpAny (model PySem.Challenge.rw_rl0106_01.row.prog w) (A.deeper (envOfC qual scope L' f cdv)) (execs body (envOfC qual scope L' f cdv))
        (fun fl s' => R (.ok (.ret (match fl with | .ret v => v | _ => .none))) s') (fun _ _ => False)
        { s with heap := h₁, toks := tk })
    (hco : scope.isCoroutine = false) (hgen : scope.isGenerator = false) (hk : scope.kind = .function) : codeAny (model PySem.Challenge.rw_rl0106_01.row.prog w) A (.call (.ref f) args) R s :=
  enterC (ne := tabL p24 p52 p59) G.TT.nolimit hroom (tabL_at T24 T52 T59) (G.XX _ _ ho) rfl (codeRec_of G.XX hcd) hbind hkind hnd
    (fun L' h₁ tk cells F N Y z _ => h L' h₁ tk cells F N Y z ⟨Nat.lt_of_lt_of_le (Heap.lt_size T59.1) z, Nat.lt_of_lt_of_le (Heap.lt_size T52.1) z, Nat.lt_of_lt_of_le (Heap.lt_size T24.1) z⟩) hco hgen hk
end

section
variable {h h' : Heap} {P : Addr} {q : Str} {l : Nat} {ps : Array Value} {L c' : Addr} {m : Str → Option Value} {news : List (Addr × Obj)} {oc : Obj} {vs : Array Value} {t : Tok} {p24 p52 p59 : Array Value}
theorem tab_keep (F : Fr (hid h) L h' m) (x : TabIs P q l h ps) (e : h'.get? P = some (tabObj ps)) : TabIs P q l h' ps :=
  ⟨e, x.2.imp id fun ⟨c', oc, vs, t, e1, e2, e3⟩ => ⟨c', oc, vs, t, e1, hid_up F.keep _ _ e2, e3⟩⟩
theorem tab_new (e : h'.get? P = some (tabObj (#[] ++ #[rawInt l, rawInt (4 : Nat), .ref c']))) (hc : h'.get? c' = some oc) (hn : @LT.lt Nat _ 59 c') (hd : oc.data = .fields vs) (hv : vs[1]? = some (.str q t)) :
    TabIs P q l h' #[rawInt l, rawInt (4 : Nat), .ref c'] := ⟨by rw [e]; simp, .inr ⟨c', oc, vs, t, rfl, hideAll_get _ hc (by
    intro hm
    simp only [List.mem_cons, List.not_mem_nil, or_false] at hm
    rcases hm with e | e | e
    · exact absurd hn (by rw [e]; decide)
    · exact absurd hn (by rw [e]; decide)
    · exact absurd hn (by rw [e]; decide)), hd, hv⟩⟩
theorem after_of (F : Fr (hid h) L h' m) (hL : h.objs.size ≤ L) (a : TabIs 24 q24 46 h' p24) (b : TabIs 52 q52 86 h' p52) (c : TabIs 59 q59 101 h' p59) : After h h' :=
  ⟨F.keep, ⟨⟨_, a⟩, ⟨_, b⟩, ⟨_, c⟩⟩, Nat.le_trans hL (Nat.le_of_lt F.ns.lt)⟩
end
end Mine
end
section
open PySem PySem.W PySem.Calls PyProof.Rows
set_option maxRecDepth 100000
set_option maxHeartbeats 8000000
namespace Mine
section
variable {w : World} {A : Around} {s : Shared} {p : Program} {loose : List Str} {mean : ExcName → Option Value} {mg mb : Str → Option Value} {h₀ : Heap} {L : Addr} {m : Str → Option Value} {news : List (Addr × Obj)} {Q E : Value → Shared → Prop}
theorem cp_K {n : Int} {t1 t2 t3 : Tok} (F : Fr h₀ L s.heap m) (N : News h₀ L s.heap news) (X : (Mine.KK w.params).In h₀) (T : Top p loose mean mg mb h₀) (hd : A.depth + 5 < recursionLimit) (hn : n ≤ 2048)
    (h : ∀ v h' tk' dr', Fr h₀ L h' m → News h₀ L h' news → Q v { s with heap := h', toks := tk', drawn := dr' }) :
    wpAny (model PySem.Challenge.rw_rl0106_01.row.prog w) A (call (.ref 22) [.int n t1, .int 5 t2, .int 2048 t3]) Q E s :=
  cp_spec (X.keeps F.keep) (T.keeps F.keep) hd hn fun v h' tk' dr' k => h v h' tk' dr' (frStays F k) (newsStays N k)
end

theorem slice_full (x : Str) : Txt.slice x (some 0) (some (x.length : Int)) = x := by
  unfold Txt.slice
  have e : Builtin.Str.strSliceIndices (some 0) (some (x.length : Int)) 1 x.length = sliceRange ((0 : Nat) : Int) (x.length : Int) 1 := by
    unfold Builtin.Str.strSliceIndices
    simp only [show (1 : Int) > 0 by decide, if_true]
    congr 1 <;> (try split) <;> lia
  rw [e, PySem.sliceRange_one]
  simp

section

theorem si_spec {w : World} {A : Around} {s : Shared} {p : Program} {loose : List Str} {mean : ExcName → Option Value} {mg mb : Str → Option Value} {Q E : Value → Shared → Prop} {x : Str} {t1 : Tok}
    (G : Gr w p loose mean mg mb s.heap) (hd : A.depth + 20 < recursionLimit) (hx : x.length ≤ 600) {n : Int} (hn : PySem.intText? x = some n)
    (h : ∀ u h' tk' dr', After s.heap h' → Q (.int n u) { s with heap := h', toks := tk', drawn := dr' }) :
    wpAny (model PySem.Challenge.rw_rl0106_01.row.prog w) A (call (.ref 29) [.str x t1]) Q E s := by
  have X := G.X
  have T := G.T
  have C := G.c24
  obtain ⟨p24, T24⟩ := G.tabs.t24
  obtain ⟨p52, T52⟩ := G.tabs.t52
  obtain ⟨p59, T59⟩ := G.tabs.t59
  revert X; k_fill; intro X
  refine wpAny_call ?_
  k_dflt (refine' enterTC G T24 T52 T59 ?k8 ?k6 ?k7 ?k9 ?kB ?kD ?_ ?c2 ?c3 ?c4; (case k6 => k_is); (case k7 => k_is); (case k8 => lia); (case k9 => first | exact BindsTo.of_eq rfl | exact binds_K (by k_in) rfl (by k_is) rfl rfl rfl); (case kB => exact rfl); (case kD => decide +kernel); (case c2 => exact rfl); (case c3 => exact rfl); (case c4 => exact rfl); k_whole)
  intro L' h' tk' cells' F' N' Y' hL' l1
  k_cells Y'; (try simp only [List.cons_append, List.nil_append] at N')
  (try dsimp only)
  obtain ⟨e24, hp⟩ := T24
  rcases hp with rfl | ⟨c', oc, vs, t, rfl, hoc, hdat, hv⟩
  · repeat' (first | (k_unfold; (try dsimp only)) | (k_end; wrow_close) | ((with_reducible show wpAny _ _ (call (Value.ref _) _) _ _ _); (k_here; (with_reducible show wpAny _ _ (call (Value.ref 22) _) _ _ _); k_dflt (refine' cp_K ?F ?N ?X ?T ?d ?n ?_; (case F => k_asm); (case N => k_asm); (case X => k_asm); (case T => k_asm); (case d => (simp only [depth_deeper]; lia)); (case n => lia)); intro _ _ _ _ _ _; (try k_sweep))) | walk1 | (dsimp only; first | ((with_reducible show wpAny _ _ (call (Value.ref _) _) _ _ _); (k_here; (with_reducible show wpAny _ _ (call (Value.ref 22) _) _ _ _); k_dflt (refine' cp_K ?F ?N ?X ?T ?d ?n ?_; (case F => k_asm); (case N => k_asm); (case X => k_asm); (case T => k_asm); (case d => (simp only [depth_deeper]; lia)); (case n => lia)); intro _ _ _ _ _ _; (try k_sweep))) | walk1) | (leave1; walk_say "STEP leave1"; try dsimp only))
    refine wpAny_call ?_
    k_dflt (refine' enterN ?F ?N ?X ?T ?mem ?cr ?room ?bind ?loc ?_ ?c2 ?c3 ?c4 ?c5; (case F => k_asm); (case N => k_asm); (case X => k_asm); (case T => k_asm); (case mem => k_mem); (case cr => exact codeRec_news (by k_asm) (by k_mem) (by assumption) (by assumption)); (case room => (simp only [depth_deeper]; lia)); (case bind => exact BindsTo.of_eq rfl); (case c5 => decide); (case loc => exact locs rfl); (case c2 => exact rfl); (case c3 => exact rfl); (case c4 => exact rfl); k_whole)
    intro g' L2 h2 F2 N2 X2 T2 st2 l2 z2
    (try dsimp only)
    repeat' (first | (k_unfold; (try dsimp only)) | (k_end; wrow_close) | ((with_reducible show wpAny _ _ (call (Value.ref _) _) _ _ _); (k_here; (with_reducible show wpAny _ _ (call (Value.ref 22) _) _ _ _); k_dflt (refine' cp_K ?F ?N ?X ?T ?d ?n ?_; (case F => k_asm); (case N => k_asm); (case X => k_asm); (case T => k_asm); (case d => (simp only [depth_deeper]; lia)); (case n => lia)); intro _ _ _ _ _ _; (try k_sweep))) | walk1 | (dsimp only; first | ((with_reducible show wpAny _ _ (call (Value.ref _) _) _ _ _); (k_here; (with_reducible show wpAny _ _ (call (Value.ref 22) _) _ _ _); k_dflt (refine' cp_K ?F ?N ?X ?T ?d ?n ?_; (case F => k_asm); (case N => k_asm); (case X => k_asm); (case T => k_asm); (case d => (simp only [depth_deeper]; lia)); (case n => lia)); intro _ _ _ _ _ _; (try k_sweep))) | walk1) | (leave1; walk_say "STEP leave1"; try dsimp only))
    rw [slice_full]
    refine KIN.call_text hn (by lia) ?_
    (try dsimp only)
    repeat' (first | (k_unfold; (try dsimp only)) | (k_end; wrow_close) | ((with_reducible show wpAny _ _ (call (Value.ref _) _) _ _ _); (k_here; (with_reducible show wpAny _ _ (call (Value.ref 22) _) _ _ _); k_dflt (refine' cp_K ?F ?N ?X ?T ?d ?n ?_; (case F => k_asm); (case N => k_asm); (case X => k_asm); (case T => k_asm); (case d => (simp only [depth_deeper]; lia)); (case n => lia)); intro _ _ _ _ _ _; (try k_sweep))) | walk1 | (dsimp only; first | ((with_reducible show wpAny _ _ (call (Value.ref _) _) _ _ _); (k_here; (with_reducible show wpAny _ _ (call (Value.ref 22) _) _ _ _); k_dflt (refine' cp_K ?F ?N ?X ?T ?d ?n ?_; (case F => k_asm); (case N => k_asm); (case X => k_asm); (case T => k_asm); (case d => (simp only [depth_deeper]; lia)); (case n => lia)); intro _ _ _ _ _ _; (try k_sweep))) | walk1) | (leave1; walk_say "STEP leave1"; try dsimp only))
    exact h _ _ _ _ (after_of (by assumption) hL' (tab_new (News.get (by assumption) (by k_mem)) (News.get (by assumption) (by k_mem)) (by lia) (by assumption) (by assumption)) (tab_keep (by assumption) T52 (News.get (by assumption) (by k_mem))) (tab_keep (by assumption) T59 (News.get (by assumption) (by k_mem))))
  · repeat' (first | (k_unfold; (try dsimp only)) | (k_end; wrow_close) | ((with_reducible show wpAny _ _ (call (Value.ref _) _) _ _ _); (k_here; (with_reducible show wpAny _ _ (call (Value.ref 22) _) _ _ _); k_dflt (refine' cp_K ?F ?N ?X ?T ?d ?n ?_; (case F => k_asm); (case N => k_asm); (case X => k_asm); (case T => k_asm); (case d => (simp only [depth_deeper]; lia)); (case n => lia)); intro _ _ _ _ _ _; (try k_sweep))) | walk1 | (dsimp only; first | ((with_reducible show wpAny _ _ (call (Value.ref _) _) _ _ _); (k_here; (with_reducible show wpAny _ _ (call (Value.ref 22) _) _ _ _); k_dflt (refine' cp_K ?F ?N ?X ?T ?d ?n ?_; (case F => k_asm); (case N => k_asm); (case X => k_asm); (case T => k_asm); (case d => (simp only [depth_deeper]; lia)); (case n => lia)); intro _ _ _ _ _ _; (try k_sweep))) | walk1) | (leave1; walk_say "STEP leave1"; try dsimp only))
    refine wpAny_call ?_
    k_dflt (refine' enterN ?F ?N ?X ?T ?mem ?cr ?room ?bind ?loc ?_ ?c2 ?c3 ?c4 ?c5; (case F => k_asm); (case N => k_asm); (case X => k_asm); (case T => k_asm); (case mem => k_mem); (case cr => exact ⟨c', oc, vs, t, rfl, Fr.keep (by assumption) _ _ hoc, hdat, by rw [hv]; rfl⟩); (case room => (simp only [depth_deeper]; lia)); (case bind => exact BindsTo.of_eq rfl); (case c5 => decide); (case loc => exact locs rfl); (case c2 => exact rfl); (case c3 => exact rfl); (case c4 => exact rfl); k_whole)
    intro g' L2 h2 F2 N2 X2 T2 st2 l2 z2
    (try dsimp only)
    repeat' (first | (k_unfold; (try dsimp only)) | (k_end; wrow_close) | ((with_reducible show wpAny _ _ (call (Value.ref _) _) _ _ _); (k_here; (with_reducible show wpAny _ _ (call (Value.ref 22) _) _ _ _); k_dflt (refine' cp_K ?F ?N ?X ?T ?d ?n ?_; (case F => k_asm); (case N => k_asm); (case X => k_asm); (case T => k_asm); (case d => (simp only [depth_deeper]; lia)); (case n => lia)); intro _ _ _ _ _ _; (try k_sweep))) | walk1 | (dsimp only; first | ((with_reducible show wpAny _ _ (call (Value.ref _) _) _ _ _); (k_here; (with_reducible show wpAny _ _ (call (Value.ref 22) _) _ _ _); k_dflt (refine' cp_K ?F ?N ?X ?T ?d ?n ?_; (case F => k_asm); (case N => k_asm); (case X => k_asm); (case T => k_asm); (case d => (simp only [depth_deeper]; lia)); (case n => lia)); intro _ _ _ _ _ _; (try k_sweep))) | walk1) | (leave1; walk_say "STEP leave1"; try dsimp only))
    rw [slice_full]
    refine KIN.call_text hn (by lia) ?_
    (try dsimp only)
    repeat' (first | (k_unfold; (try dsimp only)) | (k_end; wrow_close) | ((with_reducible show wpAny _ _ (call (Value.ref _) _) _ _ _); (k_here; (with_reducible show wpAny _ _ (call (Value.ref 22) _) _ _ _); k_dflt (refine' cp_K ?F ?N ?X ?T ?d ?n ?_; (case F => k_asm); (case N => k_asm); (case X => k_asm); (case T => k_asm); (case d => (simp only [depth_deeper]; lia)); (case n => lia)); intro _ _ _ _ _ _; (try k_sweep))) | walk1 | (dsimp only; first | ((with_reducible show wpAny _ _ (call (Value.ref _) _) _ _ _); (k_here; (with_reducible show wpAny _ _ (call (Value.ref 22) _) _ _ _); k_dflt (refine' cp_K ?F ?N ?X ?T ?d ?n ?_; (case F => k_asm); (case N => k_asm); (case X => k_asm); (case T => k_asm); (case d => (simp only [depth_deeper]; lia)); (case n => lia)); intro _ _ _ _ _ _; (try k_sweep))) | walk1) | (leave1; walk_say "STEP leave1"; try dsimp only))
    exact h _ _ _ _ (after_of (by assumption) hL' (tab_keep (by assumption) ⟨e24, .inr ⟨c', oc, vs, t, rfl, hoc, hdat, hv⟩⟩ (News.get (by assumption) (by k_mem))) (tab_keep (by assumption) T52 (News.get (by assumption) (by k_mem))) (tab_keep (by assumption) T59 (News.get (by assumption) (by k_mem))))
end
end Mine
end
section
open PySem PySem.W PySem.Calls PyProof.Rows
set_option maxRecDepth 100000
set_option maxHeartbeats 8000000
namespace Mine
/-- no run takes a token back -/
theorem wp_toks {α : Type} (M : Model) (Γ : Ctx) : ∀ (t : Sem α) (Q : α → Pos → Shared → Prop) (E : Value → Pos → Shared → Prop) (p : Pos) (s : Shared) (n : Nat), n ≤ s.toks →
    Sem.wp M Γ t (fun a p' s' => n ≤ s'.toks → Q a p' s') (fun e p' s' => n ≤ s'.toks → E e p' s') p s → Sem.wp M Γ t Q E p s := by
  intro t
  induction t with
  | pure a => intro Q E p s n hn h; rw [Sem.wp] at h ⊢; exact h hn
  | raise e => intro Q E p s n hn h; rw [Sem.wp] at h ⊢; exact h hn
  | unsupported _ => intro Q E p s n hn h; rw [Sem.wp] at h ⊢; exact h
  | finish _ => intro Q E p s n hn h; rw [Sem.wp] at h ⊢; exact h
  | rule _ k ih => intro Q E p s n hn h; rw [Sem.wp] at h ⊢; exact ih _ _ _ _ _ _ hn h
  | «at» _ k ih => intro Q E p s n hn h; rw [Sem.wp] at h ⊢; exact ih _ _ _ _ _ _ hn h
  | load _ _ k ih => intro Q E p s n hn h; rw [Sem.wp] at h ⊢; obtain ⟨o, e, h⟩ := h; exact ⟨o, e, ih _ _ _ _ _ _ hn h⟩
  | update _ _ _ k ih => intro Q E p s n hn h; rw [Sem.wp] at h ⊢; exact ⟨h.1, ih _ _ _ _ _ _ hn h.2⟩
  | alloc _ k ih => intro Q E p s n hn h; rw [Sem.wp] at h ⊢; exact ih _ _ _ _ _ _ hn h
  | loadIfAlive _ k ih => intro Q E p s n hn h; rw [Sem.wp] at h ⊢; exact ih _ _ _ _ _ _ hn h
  | point _ k ih => intro Q E p s n hn h; rw [Sem.wp] at h ⊢; exact ih _ _ _ _ _ _ hn h
  | register _ k ih => intro Q E p s n hn h; rw [Sem.wp] at h ⊢; exact h
  | fresh k ih => intro Q E p s n hn h; rw [Sem.wp] at h ⊢; exact ih _ _ _ _ _ _ (Nat.le_succ_of_le hn) h
  | ask k ih => intro Q E p s n hn h; rw [Sem.wp] at h ⊢; exact ih _ _ _ _ _ _ hn h
  | choose _ _ k ih => intro Q E p s n hn h; rw [Sem.wp] at h ⊢; exact ⟨h.1, ih _ _ _ _ _ _ hn h.2⟩
  | os _ _ k ih => intro Q E p s n hn h; rw [Sem.wp] at h ⊢; exact ih _ _ _ _ _ _ hn h
  | call _ _ _ _ k ih => intro Q E p s n hn h; rw [Sem.wp] at h ⊢; obtain ⟨r, s', hr, h⟩ := h; exact ⟨r, s', hr, ih _ _ _ _ _ _ (Nat.le_trans hn hr.toks_le) h⟩
  | handled _ k ih => intro Q E p s n hn h; rw [Sem.wp] at h ⊢; exact ih _ _ _ _ _ _ hn h
  | newGen _ k ih => intro Q E p s n hn h; rw [Sem.wp] at h ⊢; exact ih _ _ _ _ _ _ hn h
  | genState _ k ih => intro Q E p s n hn h; rw [Sem.wp] at h ⊢; obtain ⟨o, e, h⟩ := h; exact ⟨o, e, ih _ _ _ _ _ _ hn h⟩
  | resume _ _ _ k ih => intro Q E p s n hn h; rw [Sem.wp] at h ⊢; obtain ⟨r, s', hr, h⟩ := h; exact ⟨r, s', hr, ih _ _ _ _ _ _ (Nat.le_trans hn hr.toks_le) h⟩
  | yield _ _ _ k ih => intro Q E p s n hn h; rw [Sem.wp] at h ⊢; exact h
  | stack k ih => intro Q E p s n hn h; rw [Sem.wp] at h ⊢; exact ih _ _ _ _ _ _ hn h
  | fork _ k ih => intro Q E p s n hn h; rw [Sem.wp] at h ⊢; exact h
  | thread k ih => intro Q E p s n hn h; rw [Sem.wp] at h ⊢; exact ih _ _ _ _ _ _ hn h
  | await _ _ _ _ k ih => intro Q E p s n hn h; rw [Sem.wp] at h ⊢; exact h
theorem wpAny_tok {α : Type} {M : Model} {A : Around} {t : Sem α} {Q : α → Shared → Prop} {E : Value → Shared → Prop} {s : Shared}
    (h : wpAny M A t (fun a s' => s.toks ≤ s'.toks → Q a s') (fun e s' => s.toks ≤ s'.toks → E e s') s) : wpAny M A t Q E s :=
  fun Γ p hΓ => wp_toks M Γ t _ _ p s s.toks (Nat.le_refl _) (h Γ p hΓ)
theorem codeAny_tok {M : Model} {A : Around} {c : Code} {R : Result → Shared → Prop} {s : Shared}
    (h : codeAny M A c (fun r s' => s.toks ≤ s'.toks → R r s') s) : codeAny M A c R s := fun Γ p hc hΓ => by
  obtain ⟨r, s', hr, h⟩ := h Γ p hc hΓ
  exact ⟨r, s', hr, h hr.toks_le⟩
section
variable {prog : Program} {w : World} {A : Around} {E : Value → Shared → Prop} {s : Shared} {Q : Value → Shared → Prop} {x : Str} {t : Tok}
theorem rstripT (hs : x.length ≤ 1000) (h : ∀ t' k, (Txt.rstrip x).length ≤ x.length → s.toks ≤ k → Q (.str (Txt.rstrip x) t') { s with toks := k }) : wpAny (model prog w) A (call (.builtin "str.rstrip") [.str x t]) Q E s :=
  wpAny_tok (SCL.rstrip (fun t' k hl hk => h t' k hl hk) (by rw [sizeLine_eq]; lia))
end

section
variable {prog : Program} {w : World} {A : Around} {E : Value → Shared → Prop} {s : Shared} {Q : Value → Shared → Prop} {x : Str} {t u v : Tok}
theorem replaceU (hu : (Builtin.Str.occurrences x (Str.ofString "_") 0 x.length (x.length + 1)).isEmpty = true ∨ (u ≠ 0 ∧ v ≠ 0 ∧ u ≠ v)) (hb : x.length ≤ 1000)
    (h : ∀ t' k, Q (.str (Txt.replace x (Str.ofString "_") (Str.ofString "")) t') { s with toks := k }) : wpAny (model prog w) A (call (.builtin "str.replace") [.str x t, .str (Str.ofString "_") u, .str (Str.ofString "") v]) Q E s := by
  rcases hu with he | ⟨h1, h2, h3⟩
  · refine call_gives F.slot_str_replace (typeIs_str _ _ _) F.entry_str_replace (F.args_str_replace_3 _ _ _) (gives_str_replace x _ _ t u v fun hc => absurd hc (by rw [he]; simp)) ?_
    have := h t s.toks
    unfold Txt.replace at this
    rw [he] at this ⊢
    have h9 : Q (.str x t) s := by simpa using this
    exact h9
  · exact SC.replace h1 h2 h3 (by decide +kernel) (by rw [show (Str.ofString "").length = 0 from by decide +kernel]; lia) h
end
section
variable {w : World} {A : Around} {s : Shared} {p : Program} {loose : List Str} {mean : ExcName → Option Value} {mg mb : Str → Option Value} {Q E : Value → Shared → Prop}
theorem ifs_spec {x : Str} {t1 : Tok} (G : Gr w p loose mean mg mb s.heap) (hd : A.depth + 30 < recursionLimit) (hx : x.length ≤ 600)
    (hu : (Builtin.Str.occurrences (Txt.rstrip x) (Str.ofString "_") 0 (Txt.rstrip x).length ((Txt.rstrip x).length + 1)).isEmpty = true ∨ 0 < s.toks)
    {n : Int} (hl : (Txt.replace (Txt.rstrip x) (Str.ofString "_") (Str.ofString "")).length ≤ 600) (hn : PySem.intText? (Txt.replace (Txt.rstrip x) (Str.ofString "_") (Str.ofString "")) = some n)
    (h : ∀ u h' tk' dr', After s.heap h' → Q (.int n u) { s with heap := h', toks := tk', drawn := dr' }) :
    wpAny (model PySem.Challenge.rw_rl0106_01.row.prog w) A (call (.ref 36) [.str x t1]) Q E s := by
  have X := G.X
  have T := G.T
  obtain ⟨p24, T24⟩ := G.tabs.t24
  obtain ⟨p52, T52⟩ := G.tabs.t52
  obtain ⟨p59, T59⟩ := G.tabs.t59
  revert X; k_fill; intro X
  refine wpAny_call ?_
  k_dflt (refine' enterT G T24 T52 T59 ?k8 ?k6 ?k7 ?k9 ?kB ?_ ?c2 ?c3 ?c4 ?c5; (case k6 => k_is); (case k7 => k_is); (case k8 => lia); (case k9 => exact BindsTo.of_eq rfl); (case c5 => decide); (case kB => exact locs rfl); (case c2 => exact rfl); (case c3 => exact rfl); (case c4 => exact rfl); k_whole)
  intro L' h' F' N' hL' l1
  (try dsimp only)
  generalize htk : s.toks + _ = tk0
  repeat' (first | (k_unfold; (try dsimp only)) | (k_end; wrow_close) | ((with_reducible show wpAny _ _ (call (Value.builtin "str.rstrip") _) _ _ _); (k_here; (refine rstripT (by lia) ?_); intro _ _ _ _)) | walk1 | (dsimp only; first | ((with_reducible show wpAny _ _ (call (Value.builtin "str.rstrip") _) _ _ _); (k_here; (refine rstripT (by lia) ?_); intro _ _ _ _)) | walk1) | (leave1; walk_say "STEP leave1"; try dsimp only))
  refine replaceU (hu.imp id fun hp => ?_) (by lia) ?_
  · dsimp only at *
    refine ⟨?_, ?_, ?_⟩ <;> intro e <;> (simp only [Tok] at *) <;> lia
  intro t2 k2
  (try dsimp only)
  repeat' (first | (k_unfold; (try dsimp only)) | (k_end; wrow_close) | ((with_reducible show wpAny _ _ (call (Value.builtin "str.rstrip") _) _ _ _); (k_here; (refine rstripT (by lia) ?_); intro _ _ _ _)) | walk1 | (dsimp only; first | ((with_reducible show wpAny _ _ (call (Value.builtin "str.rstrip") _) _ _ _); (k_here; (refine rstripT (by lia) ?_); intro _ _ _ _)) | walk1) | (leave1; walk_say "STEP leave1"; try dsimp only))
  refine si_spec (G.after (after_of (by assumption) hL' (tab_keep (by assumption) T24 (News.get (by assumption) (by k_mem))) (tab_keep (by assumption) T52 (News.get (by assumption) (by k_mem))) (tab_keep (by assumption) T59 (News.get (by assumption) (by k_mem))))) (by simp only [depth_deeper]; lia) hl hn ?_
  intro u9 h9 tk9 dr9 a9
  refine h _ _ _ _ (After.trans ?_ a9)
  exact after_of (by assumption) hL' (tab_keep (by assumption) T24 (News.get (by assumption) (by k_mem))) (tab_keep (by assumption) T52 (News.get (by assumption) (by k_mem))) (tab_keep (by assumption) T59 (News.get (by assumption) (by k_mem)))
end
end Mine
end
section
open PySem PySem.W PySem.Calls PyProof.Rows
set_option maxRecDepth 100000
set_option maxHeartbeats 8000000
namespace Mine
theorem bitsLe {a m : Nat} (h : a < 2 ^ m) : Builtin.Int.intBits (a : Int) ≤ m := intBits_le_iff.mpr (by simpa using h)
theorem land_high (x k : Nat) : x &&& (x / 2 ^ k * 2 ^ k) = x / 2 ^ k * 2 ^ k := by
  apply Nat.eq_of_testBit_eq
  intro i
  rw [Nat.testBit_and, Nat.testBit_mul_two_pow, Nat.testBit_div_two_pow]
  by_cases h : k ≤ i
  · rw [Nat.sub_add_cancel h]; simp
  · simp [h]
theorem bitAnd_nat (x y : Nat) : Builtin.bitAnd (x : Int) (y : Int) = ((x &&& y : Nat) : Int) := by
  unfold Builtin.bitAnd
  simp
theorem xor_low (x k : Nat) : Builtin.bitXor (x : Int) ((x / 2 ^ k * 2 ^ k : Nat) : Int) = ((x % 2 ^ k : Nat) : Int) := by
  rw [bitXor_and, bitAnd_nat, land_high]
  have := Nat.div_add_mod x (2 ^ k)
  rw [Nat.mul_comm] at this
  generalize x / 2 ^ k * 2 ^ k = y at *
  lia
section
variable {prog : Program} {w : World} {A : Around} {E : Value → Shared → Prop} {s : Shared} {Q : Value → Shared → Prop} {a b k x : Nat} {t u : Tok}
theorem addNN (h : Q (.int ((a + b : Nat) : Int) s.toks) { s with toks := s.toks + 1 }) : wpAny (model prog w) A (binaryOp .Add (.int (a : Int) t) (.int (b : Int) u)) Q E s := add_int (by rw [← Int.natCast_add]; exact h)
theorem subNN (hle : b ≤ a) (h : Q (.int ((a - b : Nat) : Int) s.toks) { s with toks := s.toks + 1 }) : wpAny (model prog w) A (binaryOp .Sub (.int (a : Int) t) (.int (b : Int) u)) Q E s := sub_int (by rw [← Int.natCast_sub hle]; exact h)
theorem mulNN (ha : a < 2 ^ 64) (h : Q (.int ((a * b : Nat) : Int) s.toks) { s with toks := s.toks + 1 }) : wpAny (model prog w) A (binaryOp .Mult (.int (a : Int) t) (.int (b : Int) u)) Q E s :=
  PyProof.Rows.mul_int (by rw [← Int.natCast_mul]; exact h) (IntMulOk.of_left (bitsLe ha))
theorem fdiv_nat (a k : Nat) : (a : Int).fdiv (2 ^ ((k : Int)).toNat) = ((a / 2 ^ k : Nat) : Int) := by
  have : (2 ^ ((k : Int)).toNat : Int) = ((2 ^ k : Nat) : Int) := by simp
  rw [this, Int.fdiv_eq_ediv_of_nonneg _ (Int.natCast_nonneg _)]
  simp
theorem shrNN (h : Q (.int ((a / 2 ^ k : Nat) : Int) s.toks) { s with toks := s.toks + 1 }) : wpAny (model prog w) A (binaryOp .RShift (.int (a : Int) t) (.int (k : Int) u)) Q E s :=
  rshift_int (Int.natCast_nonneg _) (by rw [fdiv_nat]; exact h)
theorem shr1 (h : Q (.int ((a / 2 : Nat) : Int) s.toks) { s with toks := s.toks + 1 }) : wpAny (model prog w) A (binaryOp .RShift (.int (a : Int) t) (.int 1 u)) Q E s :=
  rshift_int (by decide) (by have := fdiv_nat a 1; rw [show ((1 : Int)).toNat = (((1 : Nat) : Int)).toNat from rfl, this]; simpa using h)
theorem shlNN {m : Nat} (ha : a < 2 ^ m) (hm : m ≤ 1000000) (hk : k ≤ 1000000) (h : Q (.int ((a * 2 ^ k : Nat) : Int) s.toks) { s with toks := s.toks + 1 }) : wpAny (model prog w) A (binaryOp .LShift (.int (a : Int) t) (.int (k : Int) u)) Q E s :=
  lshift_int (Int.natCast_nonneg _) (by have := bitsLe ha; lia) (by simpa using h)
theorem xorNN (h : Q (.int ((x % 2 ^ k : Nat) : Int) s.toks) { s with toks := s.toks + 1 }) : wpAny (model prog w) A (binaryOp .BitXor (.int (x : Int) t) (.int ((x / 2 ^ k * 2 ^ k : Nat) : Int) u)) Q E s :=
  xor_int (by rw [xor_low]; exact h)
end
end Mine
end
section
open PySem PySem.W PySem.Calls PyProof.Rows
set_option maxRecDepth 100000
set_option maxHeartbeats 8000000
namespace Mine
/-- the def that stands at place k of the body of the def o -/
def nestOf (o : Option Obj) (k : Nat) : Arguments × List Stmt × Scope := match o with
  | some ⟨_, _, .func fd, _⟩ => (match fd.body with
    | .stmts l => (match l[k]? with
      | some (.FunctionDef _ a b _ _ _ sc _ _ _) => (a, b, sc)
      | _ => (default, [], default))
    | _ => (default, [], default))
  | _ => (default, [], default)
def Filled (n x lo hi : Nat) (ds ds' : List Int) : Prop :=
  ds'.length = ds.length ∧ ∀ i, i < ds.length → ds'.getD i 0 = if lo ≤ i ∧ i < hi then ((x / 2 ^ (n * (i - lo)) % 2 ^ n : Nat) : Int) else ds.getD i 0

theorem filled_one {n x lo hi : Nat} {ds : List Int} (h : lo + 1 = hi) (hx : x < 2 ^ (n * (hi - lo))) (hl : hi ≤ ds.length) : Filled n x lo hi ds (ds.set lo (x : Int)) := by
  refine ⟨List.length_set .., fun i hi' => ?_⟩
  have e : hi - lo = 1 := by lia
  rw [e, Nat.mul_one] at hx
  by_cases h2 : lo = i
  · subst h2
    rw [if_pos (by lia), List.getD_eq_getElem?_getD, List.getElem?_set_self (by lia)]
    simp only [Nat.sub_self, Nat.mul_zero, Nat.pow_zero, Nat.div_one, Option.getD_some]
    rw [Nat.mod_eq_of_lt hx]
  · rw [if_neg (by lia), List.getD_eq_getElem?_getD, List.getElem?_set_ne h2, List.getD_eq_getElem?_getD]
theorem filled_two {n x lo mid hi : Nat} {ds ds1 ds2 : List Int} (h1 : lo ≤ mid) (h2 : mid ≤ hi) (hl : hi ≤ ds.length)
    (a : Filled n (x % 2 ^ ((mid - lo) * n)) lo mid ds ds1) (b : Filled n (x / 2 ^ ((mid - lo) * n)) mid hi ds1 ds2) : Filled n x lo hi ds ds2 := by
  refine ⟨b.1.trans a.1, fun i hi' => ?_⟩
  rw [b.2 i (by rw [a.1]; exact hi'), a.2 i hi']
  by_cases c1 : mid ≤ i ∧ i < hi
  · rw [if_pos c1, if_pos (by lia)]
    rw [Nat.div_div_eq_div_mul, ← Nat.pow_add, Nat.mul_comm (mid - lo) n, ← Nat.mul_add]
    rw [show mid - lo + (i - mid) = i - lo by lia]
  · rw [if_neg c1]
    by_cases c2 : lo ≤ i ∧ i < mid
    · rw [if_pos c2, if_pos (by lia)]
      congr 1
      obtain ⟨d, hd⟩ : ∃ d, (mid - lo) * n = n * (i - lo) + (n + d) := by
        have e : mid - lo = (i - lo) + 1 + (mid - 1 - i) := by lia
        refine ⟨(mid - 1 - i) * n, ?_⟩
        rw [e, Nat.add_mul, Nat.add_mul, Nat.one_mul, Nat.mul_comm (i - lo) n]
        lia
      rw [hd, Nat.pow_add, Nat.mod_mul_right_div_self, Nat.pow_add, Nat.mod_mul_right_mod]
    · rw [if_neg c2, if_neg (by lia)]
structure Hide (p : Prop) : Prop where
  out : p
/-- the code c' of a made def, in the ledger or below it -/
def CodeBy (h₀ : Heap) (news : List (Addr × Obj)) (c' : Addr) (q : Str) : Prop :=
  ∃ oc vs t, ((c', oc) ∈ news ∨ h₀.get? c' = some oc) ∧ oc.data = .fields vs ∧ vs[1]? = some (.str q t)
theorem CodeBy.rec' {h₀ h : Heap} {L : Addr} {m : Str → Option Value} {news news' : List (Addr × Obj)} {c' : Addr} {q : Str} (x : CodeBy h₀ news c' q) (F : Fr h₀ L h m) (N : News h₀ L h news') (hs : ∀ p ∈ news, p ∈ news') : h.CodeRec (.ref c') q := by
  obtain ⟨oc, vs, t, hm, h1, h2⟩ := x
  refine ⟨c', oc, vs, t, rfl, ?_, h1, h2⟩
  rcases hm with hm | hm
  · exact (N _ (hs _ hm)).1
  · exact F.keep _ _ hm
theorem CodeBy.up {h₀ g : Heap} {news : List (Addr × Obj)} {c' : Addr} {q : Str} (x : CodeBy h₀ news c' q) (st : h₀.StaysIn g) : CodeBy g news c' q :=
  let ⟨oc, vs, t, hm, r⟩ := x; ⟨oc, vs, t, hm.imp id (st _ _), r⟩

section
local macro_rules | `(tactic| walk_at "eval Name") => `(tactic| (k_here; k_dflt (refine' nameX_F ?N ?c ?m ?d ?_ ?a ?b; (case a => rfl); (case b => rfl); (case N => with_reducible assumption); (case c => rfl); (case m => exact List.mem_cons_of_mem _ (by with_reducible assumption)); (case d => with_reducible assumption); k_whole)))
variable {w : World} {p : Program} {loose : List Str} {mean : ExcName → Option Value} {mg mb : Str → Option Value}
theorem i2d_inner {n : Nat} (hn : 0 < n) (hn2 : n ≤ 64) {D f cD cI cN c' : Addr} {oD oI oN : Obj} {tn : Tok} {doc pm ctv : Value} {others : List (Addr × Obj)}
    (hne : ∀ q ∈ others, q.1 ≠ D)
    (hf : (f, fnMade (Str.ofString "inner") q52 (nestOf ((Mine.KK w.params).lookup 57) 1).1 (nestOf ((Mine.KK w.params).lookup 57) 1).2.1 (nestOf ((Mine.KK w.params).lookup 57) 1).2.2
      [(Str.ofString "n", cN), (Str.ofString "inner", cI), (Str.ofString "a_digits", cD)] doc pm c' ctv) ∈ others)
    (mD : (cD, oD) ∈ others) (mI : (cI, oI) ∈ others) (mN : (cN, oN) ∈ others) (dD : oD.data = .cell (some (.ref D))) (dI : oI.data = .cell (some (.ref f))) (dN : oN.data = .cell (some (.int n tn))) :
    ∀ (k x lo hi : Nat), hi - lo ≤ k → lo < hi → hi ≤ 100 → x < 2 ^ (n * (hi - lo)) →
    ∀ (A : Around) (s : Shared) (h₀ : Heap) (L : Addr) (m : Str → Option Value) (vs : List Value) (ep : Nat) (ds : List Int) (t1 t2 t3 : Tok) (Q E : Value → Shared → Prop),
      Fr h₀ L s.heap m → News h₀ L s.heap ((D, W.listOf vs.toArray ep) :: others) → (Mine.KK w.params).In h₀ → Top p loose mean mg mb h₀ → CodeBy h₀ others c' q52 → CodeHd h₀ 56 52 → IntsAre vs ds → hi ≤ ds.length → A.depth + k + 5 < recursionLimit →
      (∀ h' tk' vs' ep' ds', Fr h₀ L h' m → News h₀ L h' ((D, W.listOf vs'.toArray ep') :: others) → IntsAre vs' ds' → Filled n x lo hi ds ds' → Q .none { s with heap := h', toks := tk' }) →
      wpAny (model PySem.Challenge.rw_rl0106_01.row.prog w) A (call (.ref f) [.int x t1, .int lo t2, .int hi t3]) Q E s := by
  have e2 : nestOf ((Mine.KK w.params).lookup 57) 1 = nestOf ((Mine.KK w.params).lookup 57) 1 := rfl
  conv at e2 => rhs; whnf
  rw [e2] at hf
  dsimp only at hf
  clear e2
  intro k
  induction k with
  | zero => intro x lo hi h1 h2; lia
  | succ k ih =>
    intro x lo hi hk hlt hhi hx A s h₀ L m vs ep ds t1 t2 t3 Q E F N X T C CH hI hlen hd h
    revert X; k_fill; intro X
    refine wpAny_call ?_
    k_dflt (refine' enterN F N X T ?mem ?cr ?room ?bind ?loc ?_ ?c2 ?c3 ?c4 ?c5; (case mem => exact List.mem_cons_of_mem _ hf); (case cr => exact C.rec' F N fun p hp => List.mem_cons_of_mem _ hp); (case room => lia); (case bind => exact BindsTo.of_eq rfl); (case c5 => decide); (case loc => exact locs rfl); (case c2 => exact rfl); (case c3 => exact rfl); (case c4 => exact rfl); k_whole)
    intro g' L2 h2 F2 N2 X2 T2 st2 l2 z2
    have C2 := C.up st2
    replace CH := CH.keeps st2
    (try dsimp only)
    clear F N C
    replace ih := Hide.mk ih
    replace hx := Hide.mk hx
    replace h := Hide.mk h
    repeat' (first | (k_unfold; (try dsimp only)) | ((fail_if_success (with_reducible show wpAny _ _ (binaryOp Operator.LShift _ _) _ _ _)); first | (k_end; wrow_close) | ((with_reducible show wpAny _ _ (binaryOp Operator.BitXor (Value.int _ _) (Value.int _ _)) _ _ _); (k_here; with_reducible refine xorNN ?_)) | ((with_reducible show wpAny _ _ (binaryOp Operator.RShift (Value.int _ _) (Value.int _ _)) _ _ _); (k_here; first | with_reducible refine shr1 ?_ | with_reducible refine shrNN ?_)) | ((with_reducible show wpAny _ _ (binaryOp Operator.Mult (Value.int _ _) (Value.int _ _)) _ _ _); (k_here; with_reducible refine mulNN (by lia) ?_)) | ((with_reducible show wpAny _ _ (binaryOp Operator.Sub (Value.int _ _) (Value.int _ _)) _ _ _); (k_here; with_reducible refine subNN (by lia) ?_)) | ((with_reducible show wpAny _ _ (binaryOp Operator.Add (Value.int _ _) (Value.int _ _)) _ _ _); (k_here; with_reducible refine addNN ?_)) | ((with_reducible show FnAt _ _); (k_dflt (exact FnAt.of (by with_reducible assumption) (List.mem_cons_of_mem _ (by assumption))))) | ((with_reducible show wpAny _ _ (callWith _ (Value.ref _) _ _ _) _ _ _); (k_here; k_dflt (refine' callWith_F ?k1 ?_; (case k1 => exact FnAt.of (by with_reducible assumption) (List.mem_cons_of_mem _ (by assumption))); k_whole))) | walk1 | (dsimp only; first | ((with_reducible show wpAny _ _ (binaryOp Operator.BitXor (Value.int _ _) (Value.int _ _)) _ _ _); (k_here; with_reducible refine xorNN ?_)) | ((with_reducible show wpAny _ _ (binaryOp Operator.RShift (Value.int _ _) (Value.int _ _)) _ _ _); (k_here; first | with_reducible refine shr1 ?_ | with_reducible refine shrNN ?_)) | ((with_reducible show wpAny _ _ (binaryOp Operator.Mult (Value.int _ _) (Value.int _ _)) _ _ _); (k_here; with_reducible refine mulNN (by lia) ?_)) | ((with_reducible show wpAny _ _ (binaryOp Operator.Sub (Value.int _ _) (Value.int _ _)) _ _ _); (k_here; with_reducible refine subNN (by lia) ?_)) | ((with_reducible show wpAny _ _ (binaryOp Operator.Add (Value.int _ _) (Value.int _ _)) _ _ _); (k_here; with_reducible refine addNN ?_)) | walk1) | (leave1; walk_say "STEP leave1"; try dsimp only)))
    · refine ksa_set F2 N2 (Upd.head hne) hI (by lia) (by lia) (by lia) ?_
      intro h3 F3 N3 hi3 hl3 hs3
      (try dsimp only)
      clear F2 N2
      repeat' (first | (k_unfold; (try dsimp only)) | ((fail_if_success (with_reducible show wpAny _ _ (binaryOp Operator.LShift _ _) _ _ _)); (fail_if_success (with_reducible show wpAny _ _ (call (Value.ref _) [_, _, _]) _ _ _)); first | (k_end; wrow_close) | ((with_reducible show wpAny _ _ (binaryOp Operator.BitXor (Value.int _ _) (Value.int _ _)) _ _ _); (k_here; with_reducible refine xorNN ?_)) | ((with_reducible show wpAny _ _ (binaryOp Operator.RShift (Value.int _ _) (Value.int _ _)) _ _ _); (k_here; first | with_reducible refine shr1 ?_ | with_reducible refine shrNN ?_)) | ((with_reducible show wpAny _ _ (binaryOp Operator.Mult (Value.int _ _) (Value.int _ _)) _ _ _); (k_here; with_reducible refine mulNN (by lia) ?_)) | ((with_reducible show wpAny _ _ (binaryOp Operator.Sub (Value.int _ _) (Value.int _ _)) _ _ _); (k_here; with_reducible refine subNN (by lia) ?_)) | ((with_reducible show wpAny _ _ (binaryOp Operator.Add (Value.int _ _) (Value.int _ _)) _ _ _); (k_here; with_reducible refine addNN ?_)) | ((with_reducible show FnAt _ _); (k_dflt (exact FnAt.of (by with_reducible assumption) (List.mem_cons_of_mem _ (by assumption))))) | ((with_reducible show wpAny _ _ (callWith _ (Value.ref _) _ _ _) _ _ _); (k_here; k_dflt (refine' callWith_F ?k1 ?_; (case k1 => exact FnAt.of (by with_reducible assumption) (List.mem_cons_of_mem _ (by assumption))); k_whole))) | walk1 | (dsimp only; first | ((with_reducible show wpAny _ _ (binaryOp Operator.BitXor (Value.int _ _) (Value.int _ _)) _ _ _); (k_here; with_reducible refine xorNN ?_)) | ((with_reducible show wpAny _ _ (binaryOp Operator.RShift (Value.int _ _) (Value.int _ _)) _ _ _); (k_here; first | with_reducible refine shr1 ?_ | with_reducible refine shrNN ?_)) | ((with_reducible show wpAny _ _ (binaryOp Operator.Mult (Value.int _ _) (Value.int _ _)) _ _ _); (k_here; with_reducible refine mulNN (by lia) ?_)) | ((with_reducible show wpAny _ _ (binaryOp Operator.Sub (Value.int _ _) (Value.int _ _)) _ _ _); (k_here; with_reducible refine subNN (by lia) ?_)) | ((with_reducible show wpAny _ _ (binaryOp Operator.Add (Value.int _ _) (Value.int _ _)) _ _ _); (k_here; with_reducible refine addNN ?_)) | walk1) | (leave1; walk_say "STEP leave1"; try dsimp only)))
      refine h.out _ _ _ _ _ (by assumption) (by assumption) hi3 ?_
      rw [show ((lo : Int)).toNat = lo from by simp]
      exact filled_one (by lia) hx.out (by lia)
    · refine shlNN (m := n * (hi - lo)) (Nat.lt_of_le_of_lt (Nat.div_le_self _ _) hx.out) ?_ ?_ ?_
      · exact Nat.le_trans (Nat.mul_le_mul hn2 (show hi - lo ≤ 100 by lia)) (by decide)
      · exact Nat.le_trans (Nat.mul_le_mul (show (lo + hi) / 2 - lo ≤ 100 by lia) hn2) (by decide)
      (try dsimp only)
      repeat' (first | (k_unfold; (try dsimp only)) | ((fail_if_success (with_reducible show wpAny _ _ (binaryOp Operator.LShift _ _) _ _ _)); (fail_if_success (with_reducible show wpAny _ _ (call (Value.ref _) [_, _, _]) _ _ _)); first | (k_end; wrow_close) | ((with_reducible show wpAny _ _ (binaryOp Operator.BitXor (Value.int _ _) (Value.int _ _)) _ _ _); (k_here; with_reducible refine xorNN ?_)) | ((with_reducible show wpAny _ _ (binaryOp Operator.RShift (Value.int _ _) (Value.int _ _)) _ _ _); (k_here; first | with_reducible refine shr1 ?_ | with_reducible refine shrNN ?_)) | ((with_reducible show wpAny _ _ (binaryOp Operator.Mult (Value.int _ _) (Value.int _ _)) _ _ _); (k_here; with_reducible refine mulNN (by lia) ?_)) | ((with_reducible show wpAny _ _ (binaryOp Operator.Sub (Value.int _ _) (Value.int _ _)) _ _ _); (k_here; with_reducible refine subNN (by lia) ?_)) | ((with_reducible show wpAny _ _ (binaryOp Operator.Add (Value.int _ _) (Value.int _ _)) _ _ _); (k_here; with_reducible refine addNN ?_)) | ((with_reducible show FnAt _ _); (k_dflt (exact FnAt.of (by with_reducible assumption) (List.mem_cons_of_mem _ (by assumption))))) | ((with_reducible show wpAny _ _ (callWith _ (Value.ref _) _ _ _) _ _ _); (k_here; k_dflt (refine' callWith_F ?k1 ?_; (case k1 => exact FnAt.of (by with_reducible assumption) (List.mem_cons_of_mem _ (by assumption))); k_whole))) | walk1 | (dsimp only; first | ((with_reducible show wpAny _ _ (binaryOp Operator.BitXor (Value.int _ _) (Value.int _ _)) _ _ _); (k_here; with_reducible refine xorNN ?_)) | ((with_reducible show wpAny _ _ (binaryOp Operator.RShift (Value.int _ _) (Value.int _ _)) _ _ _); (k_here; first | with_reducible refine shr1 ?_ | with_reducible refine shrNN ?_)) | ((with_reducible show wpAny _ _ (binaryOp Operator.Mult (Value.int _ _) (Value.int _ _)) _ _ _); (k_here; with_reducible refine mulNN (by lia) ?_)) | ((with_reducible show wpAny _ _ (binaryOp Operator.Sub (Value.int _ _) (Value.int _ _)) _ _ _); (k_here; with_reducible refine subNN (by lia) ?_)) | ((with_reducible show wpAny _ _ (binaryOp Operator.Add (Value.int _ _) (Value.int _ _)) _ _ _); (k_here; with_reducible refine addNN ?_)) | walk1) | (leave1; walk_say "STEP leave1"; try dsimp only)))
      have hm1 : lo < (lo + hi) / 2 := by lia
      have hm2 : (lo + hi) / 2 < hi := by lia
      have hx1 : x % 2 ^ (((lo + hi) / 2 - lo) * n) < 2 ^ (n * ((lo + hi) / 2 - lo)) := by
        rw [Nat.mul_comm n]; exact Nat.mod_lt _ (Nat.two_pow_pos _)
      have hx2 : x / 2 ^ (((lo + hi) / 2 - lo) * n) < 2 ^ (n * (hi - (lo + hi) / 2)) := by
        refine Nat.div_lt_of_lt_mul ?_
        rw [← Nat.pow_add, Nat.mul_comm ((lo + hi) / 2 - lo) n, ← Nat.mul_add, show (lo + hi) / 2 - lo + (hi - (lo + hi) / 2) = hi - lo by lia]
        exact hx.out
      replace hx1 := Hide.mk hx1
      replace hx2 := Hide.mk hx2
      refine ih.out _ _ _ ?_ hm1 ?_ hx1.out _ _ _ _ _ _ _ _ _ _ _ _ _ (by assumption) (by assumption) X2 T2 C2 CH hI ?_ ?_ ?_
      · lia
      · lia
      · lia
      · simp only [depth_deeper]; lia
      intro h5 tk5 vs5 ep5 ds5 F5 N5 I5 P5
      (try dsimp only)
      replace P5 := Hide.mk P5
      k_sweep
      repeat' (first | (k_unfold; (try dsimp only)) | ((fail_if_success (with_reducible show wpAny _ _ (binaryOp Operator.LShift _ _) _ _ _)); (fail_if_success (with_reducible show wpAny _ _ (call (Value.ref _) [_, _, _]) _ _ _)); first | (k_end; wrow_close) | ((with_reducible show wpAny _ _ (binaryOp Operator.BitXor (Value.int _ _) (Value.int _ _)) _ _ _); (k_here; with_reducible refine xorNN ?_)) | ((with_reducible show wpAny _ _ (binaryOp Operator.RShift (Value.int _ _) (Value.int _ _)) _ _ _); (k_here; first | with_reducible refine shr1 ?_ | with_reducible refine shrNN ?_)) | ((with_reducible show wpAny _ _ (binaryOp Operator.Mult (Value.int _ _) (Value.int _ _)) _ _ _); (k_here; with_reducible refine mulNN (by lia) ?_)) | ((with_reducible show wpAny _ _ (binaryOp Operator.Sub (Value.int _ _) (Value.int _ _)) _ _ _); (k_here; with_reducible refine subNN (by lia) ?_)) | ((with_reducible show wpAny _ _ (binaryOp Operator.Add (Value.int _ _) (Value.int _ _)) _ _ _); (k_here; with_reducible refine addNN ?_)) | ((with_reducible show FnAt _ _); (k_dflt (exact FnAt.of (by with_reducible assumption) (List.mem_cons_of_mem _ (by assumption))))) | ((with_reducible show wpAny _ _ (callWith _ (Value.ref _) _ _ _) _ _ _); (k_here; k_dflt (refine' callWith_F ?k1 ?_; (case k1 => exact FnAt.of (by with_reducible assumption) (List.mem_cons_of_mem _ (by assumption))); k_whole))) | walk1 | (dsimp only; first | ((with_reducible show wpAny _ _ (binaryOp Operator.BitXor (Value.int _ _) (Value.int _ _)) _ _ _); (k_here; with_reducible refine xorNN ?_)) | ((with_reducible show wpAny _ _ (binaryOp Operator.RShift (Value.int _ _) (Value.int _ _)) _ _ _); (k_here; first | with_reducible refine shr1 ?_ | with_reducible refine shrNN ?_)) | ((with_reducible show wpAny _ _ (binaryOp Operator.Mult (Value.int _ _) (Value.int _ _)) _ _ _); (k_here; with_reducible refine mulNN (by lia) ?_)) | ((with_reducible show wpAny _ _ (binaryOp Operator.Sub (Value.int _ _) (Value.int _ _)) _ _ _); (k_here; with_reducible refine subNN (by lia) ?_)) | ((with_reducible show wpAny _ _ (binaryOp Operator.Add (Value.int _ _) (Value.int _ _)) _ _ _); (k_here; with_reducible refine addNN ?_)) | walk1) | (leave1; walk_say "STEP leave1"; try dsimp only)))
      have hl5 : hi ≤ ds5.length := by rw [P5.out.1]; exact hlen
      refine ih.out _ _ _ ?_ hm2 ?_ hx2.out _ _ _ _ _ _ _ _ _ _ _ _ _ (by assumption) (by assumption) X2 T2 C2 CH I5 ?_ ?_ ?_
      · lia
      · lia
      · lia
      · simp only [depth_deeper]; lia
      intro h6 tk6 vs6 ep6 ds6 F6 N6 I6 P6
      (try dsimp only)
      replace P6 := Hide.mk P6
      k_sweep
      repeat' (first | (k_unfold; (try dsimp only)) | ((fail_if_success (with_reducible show wpAny _ _ (binaryOp Operator.LShift _ _) _ _ _)); (fail_if_success (with_reducible show wpAny _ _ (call (Value.ref _) [_, _, _]) _ _ _)); first | (k_end; wrow_close) | ((with_reducible show wpAny _ _ (binaryOp Operator.BitXor (Value.int _ _) (Value.int _ _)) _ _ _); (k_here; with_reducible refine xorNN ?_)) | ((with_reducible show wpAny _ _ (binaryOp Operator.RShift (Value.int _ _) (Value.int _ _)) _ _ _); (k_here; first | with_reducible refine shr1 ?_ | with_reducible refine shrNN ?_)) | ((with_reducible show wpAny _ _ (binaryOp Operator.Mult (Value.int _ _) (Value.int _ _)) _ _ _); (k_here; with_reducible refine mulNN (by lia) ?_)) | ((with_reducible show wpAny _ _ (binaryOp Operator.Sub (Value.int _ _) (Value.int _ _)) _ _ _); (k_here; with_reducible refine subNN (by lia) ?_)) | ((with_reducible show wpAny _ _ (binaryOp Operator.Add (Value.int _ _) (Value.int _ _)) _ _ _); (k_here; with_reducible refine addNN ?_)) | ((with_reducible show FnAt _ _); (k_dflt (exact FnAt.of (by with_reducible assumption) (List.mem_cons_of_mem _ (by assumption))))) | ((with_reducible show wpAny _ _ (callWith _ (Value.ref _) _ _ _) _ _ _); (k_here; k_dflt (refine' callWith_F ?k1 ?_; (case k1 => exact FnAt.of (by with_reducible assumption) (List.mem_cons_of_mem _ (by assumption))); k_whole))) | walk1 | (dsimp only; first | ((with_reducible show wpAny _ _ (binaryOp Operator.BitXor (Value.int _ _) (Value.int _ _)) _ _ _); (k_here; with_reducible refine xorNN ?_)) | ((with_reducible show wpAny _ _ (binaryOp Operator.RShift (Value.int _ _) (Value.int _ _)) _ _ _); (k_here; first | with_reducible refine shr1 ?_ | with_reducible refine shrNN ?_)) | ((with_reducible show wpAny _ _ (binaryOp Operator.Mult (Value.int _ _) (Value.int _ _)) _ _ _); (k_here; with_reducible refine mulNN (by lia) ?_)) | ((with_reducible show wpAny _ _ (binaryOp Operator.Sub (Value.int _ _) (Value.int _ _)) _ _ _); (k_here; with_reducible refine subNN (by lia) ?_)) | ((with_reducible show wpAny _ _ (binaryOp Operator.Add (Value.int _ _) (Value.int _ _)) _ _ _); (k_here; with_reducible refine addNN ?_)) | walk1) | (leave1; walk_say "STEP leave1"; try dsimp only)))
      exact h.out _ _ _ _ _ (by assumption) (by assumption) I6 (filled_two (by lia) (by lia) hlen P5.out P6.out)
end
end Mine
end
section
open PySem PySem.W PySem.Calls PyProof.Rows
set_option maxRecDepth 100000
set_option maxHeartbeats 8000000
namespace Mine
theorem mem_rest {q : Addr × Obj} {D : Addr} {o : Obj} {pre post : List (Addr × Obj)} (hm : q ∈ pre ++ (D, o) :: post) (hn : q.1 ≠ D) : q ∈ pre ++ post := by
  rcases List.mem_append.mp hm with h | h
  · exact List.mem_append_left _ h
  · rcases List.mem_cons.mp h with h | h
    · exact absurd (by rw [h]) hn
    · exact List.mem_append_right _ h
theorem CodeBy.rest {h₀ : Heap} {D c' : Addr} {o : Obj} {q : Str} {pre post : List (Addr × Obj)} (x : CodeBy h₀ (pre ++ (D, o) :: post) c' q) (hn : c' ≠ D) : CodeBy h₀ (pre ++ post) c' q :=
  let ⟨oc, vs, t, hm, r⟩ := x; ⟨oc, vs, t, hm.imp (fun y => mem_rest y hn) id, r⟩
section
variable {w : World} {p : Program} {loose : List Str} {mean : ExcName → Option Value} {mg mb : Str → Option Value} {A : Around} {s : Shared} {h₀ : Heap} {L : Addr} {m : Str → Option Value} {news : List (Addr × Obj)} {g : Obj → List (Addr × Obj)} {Q E : Value → Shared → Prop}
theorem i2d_call {n x hi : Nat} (hn : 0 < n) (hn2 : n ≤ 64) {D f cD cI cN c' : Addr} {oD oI oN : Obj} {tn t1 t2 t3 : Tok} {doc pm ctv : Value} {vs : List Value} {ds : List Int} {ep : Nat}
    (F : Fr h₀ L s.heap m) (N : News h₀ L s.heap news) (U : UpdF D (W.listOf vs.toArray ep) news g) (X : (Mine.KK w.params).In h₀) (T : Top p loose mean mg mb h₀) (CH : CodeHd h₀ 56 52)
    (hf : (f, fnMade (Str.ofString "inner") q52 (nestOf ((Mine.KK w.params).lookup 57) 1).1 (nestOf ((Mine.KK w.params).lookup 57) 1).2.1 (nestOf ((Mine.KK w.params).lookup 57) 1).2.2
      [(Str.ofString "n", cN), (Str.ofString "inner", cI), (Str.ofString "a_digits", cD)] doc pm c' ctv) ∈ news) (nf : f ≠ D) (nc : c' ≠ D)
    (mD : (cD, oD) ∈ news) (mI : (cI, oI) ∈ news) (mN : (cN, oN) ∈ news) (nD : cD ≠ D) (nI : cI ≠ D) (nN : cN ≠ D)
    (dD : oD.data = .cell (some (.ref D))) (dI : oI.data = .cell (some (.ref f))) (dN : oN.data = .cell (some (.int n tn)))
    (C : CodeBy h₀ news c' q52) (hI : IntsAre vs ds) (h0 : 0 < hi) (h100 : hi ≤ 100) (hx : x < 2 ^ (n * hi)) (hl : hi ≤ ds.length) (hd : A.depth + 110 < recursionLimit)
    (h : ∀ h' tk' vs' ep' ds', Fr h₀ L h' m → News h₀ L h' (g (W.listOf vs'.toArray ep')) → IntsAre vs' ds' → Filled n x 0 hi ds ds' → Q .none { s with heap := h', toks := tk' }) :
    wpAny (model PySem.Challenge.rw_rl0106_01.row.prog w) A (call (.ref f) [.int x t1, .int 0 t2, .int hi t3]) Q E s := by
  obtain ⟨pre, post, rfl, hg, h1, h2⟩ := U.split
  have key := i2d_inner (p := p) (loose := loose) (mean := mean) (mg := mg) (mb := mb) hn hn2 (D := D) (others := pre ++ post) (by
    intro q hq
    rcases List.mem_append.mp hq with hq | hq
    · exact h1 q hq
    · exact h2 q hq) (mem_rest hf nf) (mem_rest mD nD) (mem_rest mI nI) (mem_rest mN nN) dD dI dN hi x 0 hi (by lia) h0 h100 (by simpa using hx) A s h₀ L m vs ep ds t1 t2 t3 Q E F (fun q hq => N q (by
      rcases List.mem_cons.mp hq with rfl | hq
      · exact List.mem_append_right _ (.head _)
      · rcases List.mem_append.mp hq with hq | hq
        · exact List.mem_append_left _ hq
        · exact List.mem_append_right _ (.tail _ hq))) X T (C.rest nc) CH hI hl (by lia)
  refine key fun h' tk' vs' ep' ds' F' N' I' P' => h h' tk' vs' ep' ds' F' (by
    rw [hg]
    intro q hq
    refine N' q ?_
    rcases List.mem_append.mp hq with hq | hq
    · exact List.mem_cons_of_mem _ (List.mem_append_left _ hq)
    · rcases List.mem_cons.mp hq with rfl | hq
      · exact .head _
      · exact List.mem_cons_of_mem _ (List.mem_append_right _ hq)) I' P'

theorem foldl_rep (v : Value) : ∀ (k : Nat) (acc : Array Value), List.foldl (fun x1 x2 => x1 ++ x2) acc (List.replicate k #[v]) = acc ++ (List.replicate k v).toArray
  | 0, acc => by simp
  | k + 1, acc => by
    rw [List.replicate_succ, List.foldl_cons, foldl_rep v k, List.replicate_succ]
    apply Array.toList_inj.mp
    simp
theorem mulZeros {l : Addr} {k : Nat} {t u : Tok} (F : Fr h₀ L s.heap m) (N : News h₀ L s.heap news) (hm : (l, W.listOf #[.int 0 t] 0) ∈ news) (hk : k ≤ 1000)
    (h : ∀ D h', Fr h₀ L h' m → News h₀ L h' ((D, W.listOf (List.replicate k (.int 0 t)).toArray 0) :: news) → (∀ p ∈ news, p.1 < D) → L < D → Q (.ref D) { s with heap := h' }) :
    wpAny (model PySem.Challenge.rw_rl0106_01.row.prog w) A (binaryOp .Mult (.ref l) (.int (k : Int) u)) Q E s := by
  refine mul_list F N (items := #[.int 0 t]) (k := 0) (N.get hm) (by lia) (by lia) (by simp; lia) fun h' F' N' => ?_
  refine h _ h' F' ?_ (fun p hp => Heap.lt_size (N p hp).1) F.ns.lt
  have e : List.foldl (fun x1 x2 => x1 ++ x2) #[] (List.replicate (if (#[Value.int 0 t] : Array Value).isEmpty = true then 0 else ((k : Int)).toNat) #[Value.int 0 t]) = (List.replicate k (Value.int 0 t)).toArray := by
    rw [if_neg (by simp), foldl_rep]; simp
  rw [e] at N'
  exact N'
theorem intsZeros (t : Tok) : ∀ k : Nat, IntsAre (List.replicate k (.int 0 t)) (List.replicate k 0)
  | 0 => .nil
  | k + 1 => .cons 0 t (intsZeros t k)
end
end Mine
end
section
open PySem PySem.W PySem.Calls PyProof.Rows
set_option maxRecDepth 100000
set_option maxHeartbeats 8000000
namespace Mine
section
variable {w : World} {A : Around} {s : Shared} {p : Program} {loose : List Str} {mean : ExcName → Option Value} {mg mb : Str → Option Value} {Q E : Value → Shared → Prop}
abbrev cntOf (a n : Nat) : Nat := (Builtin.Int.intBits (a : Int) + n - 1) / n
theorem cnt_eq {b n : Nat} (hn : 0 < n) : ((b : Int) + (n : Int) - 1).fdiv (n : Int) = (((b + n - 1) / n : Nat) : Int) := by
  rw [show (b : Int) + (n : Int) - 1 = ((b + n - 1 : Nat) : Int) by lia, Int.fdiv_eq_ediv_of_nonneg _ (Int.natCast_nonneg _)]
  simp
theorem lenK {h₀ : Heap} {L D : Addr} {news : List (Addr × Obj)} {vs : List Value} {ep : Nat} (N : News h₀ L s.heap news) (hm : (D, W.listOf vs.toArray ep) ∈ news) (hb : vs.length ≤ 100000)
    (h : Q (.int (vs.length : Int) (s.toks + 1)) { s with toks := s.toks + 1 + 1 }) : wpAny (model PySem.Challenge.rw_rl0106_01.row.prog w) A (call (.builtin "len") [.ref D]) Q E s :=
  len_list (PySem.IsL.isList (n := ep) (N _ hm).1) (by rw [List.size_toArray]; lia) (by rw [List.size_toArray]; exact h)
theorem neOfBase {h₀ h : Heap} {L D c : Addr} {o oc : Obj} {news : List (Addr × Obj)} (N : News h₀ L h news) (hm : (D, o) ∈ news) (e : h₀.get? c = some oc) : c ≠ D := fun q => by
  have := (N _ hm).2.2
  rw [q, this] at e; cases e
theorem bits_lt {a n : Nat} (hn : 0 < n) : a < 2 ^ (n * cntOf a n) := by
  have h1 : a < 2 ^ Builtin.Int.intBits (a : Int) := by
    have := (intBits_le_iff (m := Builtin.Int.intBits (a : Int)) (x := (a : Int))).mp (Nat.le_refl _)
    simpa using this
  refine Nat.lt_of_lt_of_le h1 (Nat.pow_le_pow_right (by decide) ?_)
  unfold cntOf
  have h2 := Nat.div_add_mod (Builtin.Int.intBits (a : Int) + n - 1) n
  have h3 := Nat.mod_lt (Builtin.Int.intBits (a : Int) + n - 1) hn
  lia
theorem cnt_pos {a n : Nat} (hn : 0 < n) (ha : a ≠ 0) : 0 < cntOf a n := by
  have h1 := bits_lt (a := a) hn
  rcases Nat.eq_zero_or_pos (cntOf a n) with h | h
  · rw [h] at h1; simp at h1; lia
  · exact h
theorem cnt_zero {n : Nat} (hn : 0 < n) : cntOf 0 n = 0 := by
  unfold cntOf
  have : Builtin.Int.intBits ((0 : Nat) : Int) = 0 := rfl
  rw [this]
  exact Nat.div_eq_of_lt (by lia)
theorem filled_none {n : Nat} (hn : 0 < n) : Filled n 0 0 (cntOf 0 n) (List.replicate (cntOf 0 n) 0) (List.replicate (cntOf 0 n) 0) := by
  rw [cnt_zero hn]; exact ⟨rfl, fun i hi => absurd hi (Nat.not_lt_zero _)⟩
theorem i2d_spec {a n : Nat} {t1 t2 : Tok} (G : Gr w p loose mean mg mb s.heap) (hd : A.depth + 150 < recursionLimit) (hn : 0 < n) (hn2 : n ≤ 64) (hc : cntOf a n ≤ 100)
    (h : ∀ t h' tk' vs ep, After s.heap h' → s.heap.objs.size ≤ t → h'.get? t = some (W.listOf (vs : List Value).toArray ep) → (∃ ds, IntsAre vs ds ∧ Filled n a 0 (cntOf a n) (List.replicate (cntOf a n) 0) ds) → Q (.ref t) { s with heap := h', toks := tk' }) :
    wpAny (model PySem.Challenge.rw_rl0106_01.row.prog w) A (call (.ref 57) [.int (a : Int) t1, .int (n : Int) t2]) Q E s := by
  have X := G.X
  have T := G.T
  have C := G.c52
  obtain ⟨p24, T24⟩ := G.tabs.t24
  obtain ⟨p52, T52⟩ := G.tabs.t52
  obtain ⟨p59, T59⟩ := G.tabs.t59
  revert X; k_fill; intro X
  refine wpAny_call ?_
  k_dflt (refine' enterTC G T24 T52 T59 ?k8 ?k6 ?k7 ?k9 ?kB ?kD ?_ ?c2 ?c3 ?c4; (case k6 => k_is); (case k7 => k_is); (case k8 => lia); (case k9 => first | exact BindsTo.of_eq rfl | exact binds_K (by k_in) rfl (by k_is) rfl rfl rfl); (case kB => exact rfl); (case kD => decide +kernel); (case c2 => exact rfl); (case c3 => exact rfl); (case c4 => exact rfl); k_whole)
  intro L' h' tk' cells' F' N' Y' hL' l1
  k_cells Y'; (try simp only [List.cons_append, List.nil_append] at N')
  (try dsimp only)
  replace h := Hide.mk h
  repeat' (first | (k_unfold; (try dsimp only)) | (k_end; wrow_close) | ((with_reducible show wpAny _ _ (call (Value.builtin "len") _) _ _ _); (k_here; k_dflt (refine' lenK ?N ?m ?b ?_; (case N => k_asm); (case m => k_mem); (case b => (simp only [List.length_replicate]; lia))))) | walk1 | (dsimp only; first | ((with_reducible show wpAny _ _ (call (Value.builtin "len") _) _ _ _); (k_here; k_dflt (refine' lenK ?N ?m ?b ?_; (case N => k_asm); (case m => k_mem); (case b => (simp only [List.length_replicate]; lia))))) | walk1) | (leave1; walk_say "STEP leave1"; try dsimp only))
  rw [cnt_eq hn]
  refine mulZeros (by assumption) (by assumption) (by k_mem) (Nat.le_trans hc (by decide)) ?_
  intro D hD FD ND lD hLD
  k_lt lD
  (try k_lt2 hLD)
  (try dsimp only)
  k_sweep
  replace hc : (Builtin.Int.intBits (a : Int) + n - 1) / n ≤ 100 := hc
  obtain ⟨e52, hp⟩ := T52
  rcases hp with rfl | ⟨c', oc, vs, t, rfl, hoc, hdat, hv⟩
  · repeat' (first | (k_unfold; (try dsimp only)) | (k_end; wrow_close) | ((with_reducible show wpAny _ _ (call (Value.builtin "len") _) _ _ _); (k_here; k_dflt (refine' lenK ?N ?m ?b ?_; (case N => k_asm); (case m => k_mem); (case b => (simp only [List.length_replicate]; lia))))) | walk1 | (dsimp only; first | ((with_reducible show wpAny _ _ (call (Value.builtin "len") _) _ _ _); (k_here; k_dflt (refine' lenK ?N ?m ?b ?_; (case N => k_asm); (case m => k_mem); (case b => (simp only [List.length_replicate]; lia))))) | walk1) | (leave1; walk_say "STEP leave1"; try dsimp only))
    · rw [List.length_replicate]
      have ha : a ≠ 0 := by lia
      k_dflt (refine' i2d_call (p := p) (loose := loose) (mean := mean) (mg := mg) (mb := mb) (D := D) hn hn2 ?F ?N ?U X T C ?f ?nf ?nc ?mD ?mI ?mN ?nD ?nI ?nN ?dD ?dI ?dN ?C (intsZeros _ _) (cnt_pos hn ha) hc (bits_lt hn) ?hl ?hd ?_; (case F => k_asm); (case N => k_asm); (case U => k_updF); (case f => k_mem); (case nf => k_ne); (case nc => k_ne); (case mD => k_mem); (case mI => k_mem); (case mN => k_mem); (case nD => k_ne); (case nI => k_ne); (case nN => k_ne); (case dD => k_asm); (case dI => k_asm); (case dN => k_asm); (case C => exact ⟨_, _, _, .inl (by k_mem), by assumption, by assumption⟩); (case hl => simp); (case hd => (simp only [depth_deeper]; lia)))
      intro h9 tk9 vs9 ep9 ds9 F9 N9 I9 P9
      (try dsimp only at N9)
      (try dsimp only)
      replace P9 := Hide.mk P9
      k_sweep
      repeat' (first | (k_unfold; (try dsimp only)) | (k_end; wrow_close) | ((with_reducible show wpAny _ _ (call (Value.builtin "len") _) _ _ _); (k_here; k_dflt (refine' lenK ?N ?m ?b ?_; (case N => k_asm); (case m => k_mem); (case b => (simp only [List.length_replicate]; lia))))) | walk1 | (dsimp only; first | ((with_reducible show wpAny _ _ (call (Value.builtin "len") _) _ _ _); (k_here; k_dflt (refine' lenK ?N ?m ?b ?_; (case N => k_asm); (case m => k_mem); (case b => (simp only [List.length_replicate]; lia))))) | walk1) | (leave1; walk_say "STEP leave1"; try dsimp only))
      exact h.out D _ _ _ _ (after_of (by assumption) hL' (tab_keep (by assumption) T24 (News.get (by assumption) (by k_mem))) (tab_new (News.get (by assumption) (by k_mem)) (News.get (by assumption) (by k_mem)) (by lia) (by assumption) (by assumption)) (tab_keep (by assumption) T59 (News.get (by assumption) (by k_mem)))) (leLt hL' (by assumption)) (News.get (by assumption) (by k_mem)) ⟨_, I9, P9.out⟩
    · have ha : a = 0 := by lia
      subst ha
      exact h.out D _ _ _ _ (after_of (by assumption) hL' (tab_keep (by assumption) T24 (News.get (by assumption) (by k_mem))) (tab_new (News.get (by assumption) (by k_mem)) (News.get (by assumption) (by k_mem)) (by lia) (by assumption) (by assumption)) (tab_keep (by assumption) T59 (News.get (by assumption) (by k_mem)))) (leLt hL' (by assumption)) (News.get (by assumption) (by k_mem)) ⟨_, intsZeros _ _, filled_none hn⟩
  · repeat' (first | (k_unfold; (try dsimp only)) | (k_end; wrow_close) | ((with_reducible show wpAny _ _ (call (Value.builtin "len") _) _ _ _); (k_here; k_dflt (refine' lenK ?N ?m ?b ?_; (case N => k_asm); (case m => k_mem); (case b => (simp only [List.length_replicate]; lia))))) | walk1 | (dsimp only; first | ((with_reducible show wpAny _ _ (call (Value.builtin "len") _) _ _ _); (k_here; k_dflt (refine' lenK ?N ?m ?b ?_; (case N => k_asm); (case m => k_mem); (case b => (simp only [List.length_replicate]; lia))))) | walk1) | (leave1; walk_say "STEP leave1"; try dsimp only))
    · rw [List.length_replicate]
      have ha : a ≠ 0 := by lia
      k_dflt (refine' i2d_call (p := p) (loose := loose) (mean := mean) (mg := mg) (mb := mb) (D := D) hn hn2 ?F ?N ?U X T C ?f ?nf ?nc ?mD ?mI ?mN ?nD ?nI ?nN ?dD ?dI ?dN ?C (intsZeros _ _) (cnt_pos hn ha) hc (bits_lt hn) ?hl ?hd ?_; (case F => k_asm); (case N => k_asm); (case U => k_updF); (case f => k_mem); (case nf => k_ne); (case nc => exact neOfBase (D := D) (by assumption) (by k_mem) hoc); (case mD => k_mem); (case mI => k_mem); (case mN => k_mem); (case nD => k_ne); (case nI => k_ne); (case nN => k_ne); (case dD => k_asm); (case dI => k_asm); (case dN => k_asm); (case C => exact ⟨oc, vs, t, .inr hoc, hdat, by rw [hv]⟩); (case hl => simp); (case hd => (simp only [depth_deeper]; lia)))
      intro h9 tk9 vs9 ep9 ds9 F9 N9 I9 P9
      (try dsimp only at N9)
      (try dsimp only)
      replace P9 := Hide.mk P9
      k_sweep
      repeat' (first | (k_unfold; (try dsimp only)) | (k_end; wrow_close) | ((with_reducible show wpAny _ _ (call (Value.builtin "len") _) _ _ _); (k_here; k_dflt (refine' lenK ?N ?m ?b ?_; (case N => k_asm); (case m => k_mem); (case b => (simp only [List.length_replicate]; lia))))) | walk1 | (dsimp only; first | ((with_reducible show wpAny _ _ (call (Value.builtin "len") _) _ _ _); (k_here; k_dflt (refine' lenK ?N ?m ?b ?_; (case N => k_asm); (case m => k_mem); (case b => (simp only [List.length_replicate]; lia))))) | walk1) | (leave1; walk_say "STEP leave1"; try dsimp only))
      exact h.out D _ _ _ _ (after_of (by assumption) hL' (tab_keep (by assumption) T24 (News.get (by assumption) (by k_mem))) (tab_keep (by assumption) ⟨e52, .inr ⟨c', oc, vs, t, rfl, hoc, hdat, hv⟩⟩ (News.get (by assumption) (by k_mem))) (tab_keep (by assumption) T59 (News.get (by assumption) (by k_mem)))) (leLt hL' (by assumption)) (News.get (by assumption) (by k_mem)) ⟨_, I9, P9.out⟩
    · have ha : a = 0 := by lia
      subst ha
      exact h.out D _ _ _ _ (after_of (by assumption) hL' (tab_keep (by assumption) T24 (News.get (by assumption) (by k_mem))) (tab_keep (by assumption) ⟨e52, .inr ⟨c', oc, vs, t, rfl, hoc, hdat, hv⟩⟩ (News.get (by assumption) (by k_mem))) (tab_keep (by assumption) T59 (News.get (by assumption) (by k_mem)))) (leLt hL' (by assumption)) (News.get (by assumption) (by k_mem)) ⟨_, intsZeros _ _, filled_none hn⟩
end
end Mine
end
section
open PySem PySem.W PySem.Calls PyProof.Rows
set_option maxRecDepth 100000
set_option maxHeartbeats 8000000
namespace Mine
/-- the number of these figures, the lowest first, to the base 2 ^ n -/
def valN (n : Nat) : List Nat → Nat
  | [] => 0
  | d :: r => d + 2 ^ n * valN n r
theorem valN_append (n : Nat) (b : List Nat) : ∀ a : List Nat, valN n (a ++ b) = valN n a + 2 ^ (n * a.length) * valN n b
  | [] => by simp [valN]
  | d :: r => by
    rw [List.cons_append, valN, valN_append n b r, valN, List.length_cons, Nat.mul_add, Nat.mul_succ, Nat.pow_add, ← Nat.mul_assoc, Nat.mul_comm (2 ^ n) (2 ^ (n * r.length)), Nat.add_assoc]
theorem valN_lt (n : Nat) : ∀ a : List Nat, (∀ d ∈ a, d < 2 ^ n) → valN n a < 2 ^ (n * a.length)
  | [], _ => by simp [valN]
  | d :: r, h => by
    have h1 := h d (.head _)
    have h2 := valN_lt n r fun x hx => h x (.tail _ hx)
    rw [valN, List.length_cons, Nat.mul_succ, Nat.pow_add, Nat.mul_comm (2 ^ (n * r.length))]
    have h3 : 2 ^ n * valN n r + 2 ^ n ≤ 2 ^ n * 2 ^ (n * r.length) := by
      rw [← Nat.mul_succ]; exact Nat.mul_le_mul_left _ h2
    lia
abbrev cut (ds : List Nat) (lo hi : Nat) : List Nat := (ds.drop lo).take (hi - lo)
theorem cut_split (ds : List Nat) {lo mid hi : Nat} (h1 : lo ≤ mid) (h2 : mid ≤ hi) : cut ds lo hi = cut ds lo mid ++ cut ds mid hi := by
  unfold cut
  rw [show hi - lo = (mid - lo) + (hi - mid) by lia, List.take_add, List.drop_drop, show lo + (mid - lo) = mid by lia]
theorem cut_len {ds : List Nat} {lo hi : Nat} (h : hi ≤ ds.length) : (cut ds lo hi).length = hi - lo := by
  unfold cut; rw [List.length_take, List.length_drop]; lia
theorem cut_one {ds : List Nat} {lo hi : Nat} (h : hi ≤ ds.length) (e : lo + 1 = hi) : cut ds lo hi = [ds.getD lo 0] := by
  unfold cut
  rw [show hi - lo = 1 by lia, List.getD_eq_getElem?_getD, List.getElem?_eq_getElem (by lia), List.drop_eq_getElem_cons (show lo < ds.length by lia)]
  rfl
theorem cut_lt {ds : List Nat} {n lo hi : Nat} (hb : ∀ d ∈ ds, d < 2 ^ n) (h : hi ≤ ds.length) : valN n (cut ds lo hi) < 2 ^ (n * (hi - lo)) := by
  have := valN_lt n (cut ds lo hi) fun d hd => hb d (List.mem_of_mem_drop (List.mem_of_mem_take hd))
  rwa [cut_len h] at this
abbrev castL (ds : List Nat) : List Int := ds.map fun (d : Nat) => (d : Int)
theorem getD_cast (ds : List Nat) (i : Nat) : (castL ds).getD i 0 = ((ds.getD i 0 : Nat) : Int) := by
  rw [List.getD_eq_getElem?_getD, List.getElem?_map, List.getD_eq_getElem?_getD]
  cases ds[i]? <;> rfl

section
variable {prog : Program} {w : World} {A : Around} {E : Value → Shared → Prop} {s : Shared} {Q : Value → Shared → Prop}
theorem itemN {value slice : PySem.Expr} {l : Addr} {vs : List Value} {ds : List Nat} {ep lo : Nat} {u : Tok} (hl : s.heap.get? l = some (W.listOf vs.toArray ep)) (hi : IntsAre vs (castL ds)) (h1 : lo < ds.length) (h2 : lo ≤ 100000)
    (h : ∀ t, Q (.int ((ds.getD lo 0 : Nat) : Int) t) s)
    (hs : subscripted slice false (.ref l) (.int (lo : Int) u) = operate [.ref l, .int (lo : Int) u] (getItem (.ref l) (.int (lo : Int) u)) := by with_unfolding_all rfl) :
    wpAny (model prog w) A (subscriptTail value slice (.ref l) (.int (lo : Int) u)) Q E s :=
  item_anyK (PySem.IsL.isList (n := ep) hl) hi (Int.natCast_nonneg _) (by rw [List.length_map]; lia) (by lia) (fun t => by
    rw [getD_cast, show ((lo : Int)).toNat = lo from by simp]; exact h t) hs
end

section
local macro_rules | `(tactic| walk_at "eval Name") => `(tactic| (k_here; k_dflt (refine' nameX_F ?N ?c ?m ?d ?_ ?a ?b; (case a => rfl); (case b => rfl); (case N => with_reducible assumption); (case c => rfl); (case m => with_reducible assumption); (case d => with_reducible assumption); k_whole)))
variable {w : World} {p : Program} {loose : List Str} {mean : ExcName → Option Value} {mg mb : Str → Option Value}
theorem d2i_inner {n : Nat} (hn : 0 < n) (hn2 : n ≤ 64) {D f cD cI cN c' : Addr} {oD oI oN : Obj} {tn : Tok} {doc pm ctv : Value} {others : List (Addr × Obj)} {vs : List Value} {ds : List Nat} {ep : Nat}
    (hf : (f, fnMade (Str.ofString "inner") q59 (nestOf ((Mine.KK w.params).lookup 64) 0).1 (nestOf ((Mine.KK w.params).lookup 64) 0).2.1 (nestOf ((Mine.KK w.params).lookup 64) 0).2.2
      [(Str.ofString "n", cN), (Str.ofString "inner", cI), (Str.ofString "digits", cD)] doc pm c' ctv) ∈ others)
    (mD : (cD, oD) ∈ others) (mI : (cI, oI) ∈ others) (mN : (cN, oN) ∈ others) (dD : oD.data = .cell (some (.ref D))) (dI : oI.data = .cell (some (.ref f))) (dN : oN.data = .cell (some (.int n tn)))
    (hI : IntsAre vs (castL ds)) (hb : ∀ d ∈ ds, d < 2 ^ n) (hlen : ds.length ≤ 100) :
    ∀ (k lo hi : Nat), hi - lo ≤ k → lo < hi → hi ≤ ds.length →
    ∀ (A : Around) (s : Shared) (h₀ : Heap) (L : Addr) (m : Str → Option Value) (t2 t3 : Tok) (Q E : Value → Shared → Prop),
      Fr h₀ L s.heap m → News h₀ L s.heap others → (Mine.KK w.params).In h₀ → Top p loose mean mg mb h₀ → CodeBy h₀ others c' q59 → CodeHd h₀ 63 59 → h₀.get? D = some (W.listOf vs.toArray ep) → A.depth + k + 5 < recursionLimit →
      (∀ u h' tk', Fr h₀ L h' m → News h₀ L h' others → Q (.int ((valN n (cut ds lo hi) : Nat) : Int) u) { s with heap := h', toks := tk' }) →
      wpAny (model PySem.Challenge.rw_rl0106_01.row.prog w) A (call (.ref f) [.int lo t2, .int hi t3]) Q E s := by
  have e2 : nestOf ((Mine.KK w.params).lookup 64) 0 = nestOf ((Mine.KK w.params).lookup 64) 0 := rfl
  conv at e2 => rhs; whnf
  rw [e2] at hf
  dsimp only at hf
  clear e2
  replace hb := Hide.mk hb
  intro k
  induction k with
  | zero => intro lo hi h1 h2; lia
  | succ k ih =>
    intro lo hi hk hlt hhi A s h₀ L m t2 t3 Q E F N X T C CH hl hd h
    revert X; k_fill; intro X
    refine wpAny_call ?_
    k_dflt (refine' enterN F N X T ?mem ?cr ?room ?bind ?loc ?_ ?c2 ?c3 ?c4 ?c5; (case mem => exact hf); (case cr => exact C.rec' F N fun p hp => hp); (case room => lia); (case bind => exact BindsTo.of_eq rfl); (case c5 => decide); (case loc => exact locs rfl); (case c2 => exact rfl); (case c3 => exact rfl); (case c4 => exact rfl); k_whole)
    intro g' L2 h2 F2 N2 X2 T2 st2 l2 z2
    have C2 := C.up st2
    replace CH := CH.keeps st2
    have hl2 := st2 _ _ hl
    (try dsimp only)
    clear F N C hl
    replace ih := Hide.mk ih
    replace h := Hide.mk h
    repeat' (first | (k_unfold; (try dsimp only)) | ((fail_if_success (with_reducible show wpAny _ _ (subscriptTail _ _ _ _) _ _ _)); (fail_if_success (with_reducible show wpAny _ _ (binaryOp Operator.LShift _ _) _ _ _)); (fail_if_success (with_reducible show wpAny _ _ (call (Value.ref _) [_, _]) _ _ _)); first | (k_end; wrow_close) | ((with_reducible show wpAny _ _ (binaryOp Operator.RShift (Value.int _ _) (Value.int _ _)) _ _ _); (k_here; first | with_reducible refine shr1 ?_ | with_reducible refine shrNN ?_)) | ((with_reducible show wpAny _ _ (binaryOp Operator.Mult (Value.int _ _) (Value.int _ _)) _ _ _); (k_here; with_reducible refine mulNN (by lia) ?_)) | ((with_reducible show wpAny _ _ (binaryOp Operator.Sub (Value.int _ _) (Value.int _ _)) _ _ _); (k_here; with_reducible refine subNN (by lia) ?_)) | ((with_reducible show wpAny _ _ (binaryOp Operator.Add (Value.int _ _) (Value.int _ _)) _ _ _); (k_here; with_reducible refine addNN ?_)) | ((with_reducible show FnAt _ _); (k_dflt (exact FnAt.of (by with_reducible assumption) (by assumption)))) | ((with_reducible show wpAny _ _ (callWith _ (Value.ref _) _ _ _) _ _ _); (k_here; k_dflt (refine' callWith_F ?k1 ?_; (case k1 => exact FnAt.of (by with_reducible assumption) (by assumption)); k_whole))) | walk1 | (dsimp only; first | ((with_reducible show wpAny _ _ (binaryOp Operator.RShift (Value.int _ _) (Value.int _ _)) _ _ _); (k_here; first | with_reducible refine shr1 ?_ | with_reducible refine shrNN ?_)) | ((with_reducible show wpAny _ _ (binaryOp Operator.Mult (Value.int _ _) (Value.int _ _)) _ _ _); (k_here; with_reducible refine mulNN (by lia) ?_)) | ((with_reducible show wpAny _ _ (binaryOp Operator.Sub (Value.int _ _) (Value.int _ _)) _ _ _); (k_here; with_reducible refine subNN (by lia) ?_)) | ((with_reducible show wpAny _ _ (binaryOp Operator.Add (Value.int _ _) (Value.int _ _)) _ _ _); (k_here; with_reducible refine addNN ?_)) | walk1) | (leave1; walk_say "STEP leave1"; try dsimp only)))
    · refine itemN (F2.keep _ _ hl2) hI (by lia) (by lia) ?_
      intro t9
      (try dsimp only)
      repeat' (first | (k_unfold; (try dsimp only)) | ((fail_if_success (with_reducible show wpAny _ _ (subscriptTail _ _ _ _) _ _ _)); (fail_if_success (with_reducible show wpAny _ _ (binaryOp Operator.LShift _ _) _ _ _)); (fail_if_success (with_reducible show wpAny _ _ (call (Value.ref _) [_, _]) _ _ _)); first | (k_end; wrow_close) | ((with_reducible show wpAny _ _ (binaryOp Operator.RShift (Value.int _ _) (Value.int _ _)) _ _ _); (k_here; first | with_reducible refine shr1 ?_ | with_reducible refine shrNN ?_)) | ((with_reducible show wpAny _ _ (binaryOp Operator.Mult (Value.int _ _) (Value.int _ _)) _ _ _); (k_here; with_reducible refine mulNN (by lia) ?_)) | ((with_reducible show wpAny _ _ (binaryOp Operator.Sub (Value.int _ _) (Value.int _ _)) _ _ _); (k_here; with_reducible refine subNN (by lia) ?_)) | ((with_reducible show wpAny _ _ (binaryOp Operator.Add (Value.int _ _) (Value.int _ _)) _ _ _); (k_here; with_reducible refine addNN ?_)) | ((with_reducible show FnAt _ _); (k_dflt (exact FnAt.of (by with_reducible assumption) (by assumption)))) | ((with_reducible show wpAny _ _ (callWith _ (Value.ref _) _ _ _) _ _ _); (k_here; k_dflt (refine' callWith_F ?k1 ?_; (case k1 => exact FnAt.of (by with_reducible assumption) (by assumption)); k_whole))) | walk1 | (dsimp only; first | ((with_reducible show wpAny _ _ (binaryOp Operator.RShift (Value.int _ _) (Value.int _ _)) _ _ _); (k_here; first | with_reducible refine shr1 ?_ | with_reducible refine shrNN ?_)) | ((with_reducible show wpAny _ _ (binaryOp Operator.Mult (Value.int _ _) (Value.int _ _)) _ _ _); (k_here; with_reducible refine mulNN (by lia) ?_)) | ((with_reducible show wpAny _ _ (binaryOp Operator.Sub (Value.int _ _) (Value.int _ _)) _ _ _); (k_here; with_reducible refine subNN (by lia) ?_)) | ((with_reducible show wpAny _ _ (binaryOp Operator.Add (Value.int _ _) (Value.int _ _)) _ _ _); (k_here; with_reducible refine addNN ?_)) | walk1) | (leave1; walk_say "STEP leave1"; try dsimp only)))
      rw [show ds.getD lo 0 = valN n (cut ds lo hi) from by rw [cut_one hhi (by lia)]; simp [valN]]
      exact h.out _ _ _ (by assumption) (by assumption)
    · have hm1 : lo < (lo + hi) / 2 := by lia
      have hm2 : (lo + hi) / 2 < hi := by lia
      refine ih.out _ _ ?_ hm2 hhi _ _ _ _ _ _ _ _ _ (by assumption) (by assumption) X2 T2 C2 CH hl2 ?_ ?_
      · lia
      · simp only [depth_deeper]; lia
      intro u5 h5 tk5 F5 N5
      (try dsimp only)
      k_sweep
      repeat' (first | (k_unfold; (try dsimp only)) | ((fail_if_success (with_reducible show wpAny _ _ (subscriptTail _ _ _ _) _ _ _)); (fail_if_success (with_reducible show wpAny _ _ (binaryOp Operator.LShift _ _) _ _ _)); (fail_if_success (with_reducible show wpAny _ _ (call (Value.ref _) [_, _]) _ _ _)); first | (k_end; wrow_close) | ((with_reducible show wpAny _ _ (binaryOp Operator.RShift (Value.int _ _) (Value.int _ _)) _ _ _); (k_here; first | with_reducible refine shr1 ?_ | with_reducible refine shrNN ?_)) | ((with_reducible show wpAny _ _ (binaryOp Operator.Mult (Value.int _ _) (Value.int _ _)) _ _ _); (k_here; with_reducible refine mulNN (by lia) ?_)) | ((with_reducible show wpAny _ _ (binaryOp Operator.Sub (Value.int _ _) (Value.int _ _)) _ _ _); (k_here; with_reducible refine subNN (by lia) ?_)) | ((with_reducible show wpAny _ _ (binaryOp Operator.Add (Value.int _ _) (Value.int _ _)) _ _ _); (k_here; with_reducible refine addNN ?_)) | ((with_reducible show FnAt _ _); (k_dflt (exact FnAt.of (by with_reducible assumption) (by assumption)))) | ((with_reducible show wpAny _ _ (callWith _ (Value.ref _) _ _ _) _ _ _); (k_here; k_dflt (refine' callWith_F ?k1 ?_; (case k1 => exact FnAt.of (by with_reducible assumption) (by assumption)); k_whole))) | walk1 | (dsimp only; first | ((with_reducible show wpAny _ _ (binaryOp Operator.RShift (Value.int _ _) (Value.int _ _)) _ _ _); (k_here; first | with_reducible refine shr1 ?_ | with_reducible refine shrNN ?_)) | ((with_reducible show wpAny _ _ (binaryOp Operator.Mult (Value.int _ _) (Value.int _ _)) _ _ _); (k_here; with_reducible refine mulNN (by lia) ?_)) | ((with_reducible show wpAny _ _ (binaryOp Operator.Sub (Value.int _ _) (Value.int _ _)) _ _ _); (k_here; with_reducible refine subNN (by lia) ?_)) | ((with_reducible show wpAny _ _ (binaryOp Operator.Add (Value.int _ _) (Value.int _ _)) _ _ _); (k_here; with_reducible refine addNN ?_)) | walk1) | (leave1; walk_say "STEP leave1"; try dsimp only)))
      refine shlNN (cut_lt hb.out hhi) ?_ ?_ ?_
      · exact Nat.le_trans (Nat.mul_le_mul hn2 (show hi - (lo + hi) / 2 ≤ 100 by lia)) (by decide)
      · exact Nat.le_trans (Nat.mul_le_mul (show (lo + hi) / 2 - lo ≤ 100 by lia) hn2) (by decide)
      (try dsimp only)
      repeat' (first | (k_unfold; (try dsimp only)) | ((fail_if_success (with_reducible show wpAny _ _ (subscriptTail _ _ _ _) _ _ _)); (fail_if_success (with_reducible show wpAny _ _ (binaryOp Operator.LShift _ _) _ _ _)); (fail_if_success (with_reducible show wpAny _ _ (call (Value.ref _) [_, _]) _ _ _)); first | (k_end; wrow_close) | ((with_reducible show wpAny _ _ (binaryOp Operator.RShift (Value.int _ _) (Value.int _ _)) _ _ _); (k_here; first | with_reducible refine shr1 ?_ | with_reducible refine shrNN ?_)) | ((with_reducible show wpAny _ _ (binaryOp Operator.Mult (Value.int _ _) (Value.int _ _)) _ _ _); (k_here; with_reducible refine mulNN (by lia) ?_)) | ((with_reducible show wpAny _ _ (binaryOp Operator.Sub (Value.int _ _) (Value.int _ _)) _ _ _); (k_here; with_reducible refine subNN (by lia) ?_)) | ((with_reducible show wpAny _ _ (binaryOp Operator.Add (Value.int _ _) (Value.int _ _)) _ _ _); (k_here; with_reducible refine addNN ?_)) | ((with_reducible show FnAt _ _); (k_dflt (exact FnAt.of (by with_reducible assumption) (by assumption)))) | ((with_reducible show wpAny _ _ (callWith _ (Value.ref _) _ _ _) _ _ _); (k_here; k_dflt (refine' callWith_F ?k1 ?_; (case k1 => exact FnAt.of (by with_reducible assumption) (by assumption)); k_whole))) | walk1 | (dsimp only; first | ((with_reducible show wpAny _ _ (binaryOp Operator.RShift (Value.int _ _) (Value.int _ _)) _ _ _); (k_here; first | with_reducible refine shr1 ?_ | with_reducible refine shrNN ?_)) | ((with_reducible show wpAny _ _ (binaryOp Operator.Mult (Value.int _ _) (Value.int _ _)) _ _ _); (k_here; with_reducible refine mulNN (by lia) ?_)) | ((with_reducible show wpAny _ _ (binaryOp Operator.Sub (Value.int _ _) (Value.int _ _)) _ _ _); (k_here; with_reducible refine subNN (by lia) ?_)) | ((with_reducible show wpAny _ _ (binaryOp Operator.Add (Value.int _ _) (Value.int _ _)) _ _ _); (k_here; with_reducible refine addNN ?_)) | walk1) | (leave1; walk_say "STEP leave1"; try dsimp only)))
      refine ih.out _ _ ?_ hm1 ?_ _ _ _ _ _ _ _ _ _ (by assumption) (by assumption) X2 T2 C2 CH hl2 ?_ ?_
      · lia
      · lia
      · simp only [depth_deeper]; lia
      intro u6 h6 tk6 F6 N6
      (try dsimp only)
      k_sweep
      repeat' (first | (k_unfold; (try dsimp only)) | ((fail_if_success (with_reducible show wpAny _ _ (subscriptTail _ _ _ _) _ _ _)); (fail_if_success (with_reducible show wpAny _ _ (binaryOp Operator.LShift _ _) _ _ _)); (fail_if_success (with_reducible show wpAny _ _ (call (Value.ref _) [_, _]) _ _ _)); first | (k_end; wrow_close) | ((with_reducible show wpAny _ _ (binaryOp Operator.RShift (Value.int _ _) (Value.int _ _)) _ _ _); (k_here; first | with_reducible refine shr1 ?_ | with_reducible refine shrNN ?_)) | ((with_reducible show wpAny _ _ (binaryOp Operator.Mult (Value.int _ _) (Value.int _ _)) _ _ _); (k_here; with_reducible refine mulNN (by lia) ?_)) | ((with_reducible show wpAny _ _ (binaryOp Operator.Sub (Value.int _ _) (Value.int _ _)) _ _ _); (k_here; with_reducible refine subNN (by lia) ?_)) | ((with_reducible show wpAny _ _ (binaryOp Operator.Add (Value.int _ _) (Value.int _ _)) _ _ _); (k_here; with_reducible refine addNN ?_)) | ((with_reducible show FnAt _ _); (k_dflt (exact FnAt.of (by with_reducible assumption) (by assumption)))) | ((with_reducible show wpAny _ _ (callWith _ (Value.ref _) _ _ _) _ _ _); (k_here; k_dflt (refine' callWith_F ?k1 ?_; (case k1 => exact FnAt.of (by with_reducible assumption) (by assumption)); k_whole))) | walk1 | (dsimp only; first | ((with_reducible show wpAny _ _ (binaryOp Operator.RShift (Value.int _ _) (Value.int _ _)) _ _ _); (k_here; first | with_reducible refine shr1 ?_ | with_reducible refine shrNN ?_)) | ((with_reducible show wpAny _ _ (binaryOp Operator.Mult (Value.int _ _) (Value.int _ _)) _ _ _); (k_here; with_reducible refine mulNN (by lia) ?_)) | ((with_reducible show wpAny _ _ (binaryOp Operator.Sub (Value.int _ _) (Value.int _ _)) _ _ _); (k_here; with_reducible refine subNN (by lia) ?_)) | ((with_reducible show wpAny _ _ (binaryOp Operator.Add (Value.int _ _) (Value.int _ _)) _ _ _); (k_here; with_reducible refine addNN ?_)) | walk1) | (leave1; walk_say "STEP leave1"; try dsimp only)))
      have e9 : valN n (cut ds ((lo + hi) / 2) hi) * 2 ^ (((lo + hi) / 2 - lo) * n) + valN n (cut ds lo ((lo + hi) / 2)) = valN n (cut ds lo hi) := by
        rw [cut_split ds (Nat.le_of_lt hm1) (Nat.le_of_lt hm2), valN_append, cut_len (by lia), Nat.mul_comm n, Nat.mul_comm (2 ^ _), Nat.add_comm]
      rw [e9]
      exact h.out _ _ _ (by assumption) (by assumption)
end
end Mine
end
section
open PySem PySem.W PySem.Calls PyProof.Rows
set_option maxRecDepth 100000
set_option maxHeartbeats 8000000
namespace Mine
section
variable {w : World} {A : Around} {s : Shared} {p : Program} {loose : List Str} {mean : ExcName → Option Value} {mg mb : Str → Option Value} {Q E : Value → Shared → Prop}
theorem lenB {l : Addr} {vs : List Value} {ep : Nat} (hl : s.heap.get? l = some (W.listOf vs.toArray ep)) (hb : vs.length ≤ 100000)
    (h : Q (.int (vs.length : Int) (s.toks + 1)) { s with toks := s.toks + 1 + 1 }) : wpAny (model PySem.Challenge.rw_rl0106_01.row.prog w) A (call (.builtin "len") [.ref l]) Q E s :=
  len_list (PySem.IsL.isList (n := ep) hl) (by rw [List.size_toArray]; lia) (by rw [List.size_toArray]; exact h)
theorem truthyB {l : Addr} {vs : List Value} {ep : Nat} {Q : Bool → Shared → Prop} (hl : s.heap.get? l = some (W.listOf vs.toArray ep)) (hb : vs.length ≤ 100000)
    (h : ∀ tk, Q (!vs.isEmpty) { s with toks := tk }) : wpAny (model PySem.Challenge.rw_rl0106_01.row.prog w) A (truthy (.ref l)) Q E s :=
  wpAny_truthy_list (PySem.IsL.isList (n := ep) hl) (by rw [List.size_toArray]; lia) (by rw [List.isEmpty_toArray]; exact h _)
theorem ints_nil {vs : List Value} (h : IntsAre vs []) : vs = [] := by cases h; rfl
theorem ints_ne {vs : List Value} {ns : List Int} (h : IntsAre vs ns) (hn : ns ≠ []) : vs.isEmpty = false := by
  cases h with
  | nil => exact absurd rfl hn
  | cons => rfl
theorem d2i_spec {n : Nat} {l : Addr} {t2 : Tok} {vs : List Value} {ds : List Nat} {ep : Nat} (G : Gr w p loose mean mg mb s.heap) (hd : A.depth + 150 < recursionLimit) (hn : 0 < n) (hn2 : n ≤ 64)
    (hl : (hid s.heap).get? l = some (W.listOf vs.toArray ep)) (hI : IntsAre vs (castL ds)) (hb : ∀ d ∈ ds, d < 2 ^ n) (hlen : ds.length ≤ 100)
    (h : ∀ u h' tk', After s.heap h' → Q (.int ((valN n ds : Nat) : Int) u) { s with heap := h', toks := tk' }) :
    wpAny (model PySem.Challenge.rw_rl0106_01.row.prog w) A (call (.ref 64) [.ref l, .int (n : Int) t2]) Q E s := by
  have X := G.X
  have T := G.T
  have C := G.c59
  obtain ⟨p24, T24⟩ := G.tabs.t24
  obtain ⟨p52, T52⟩ := G.tabs.t52
  obtain ⟨p59, T59⟩ := G.tabs.t59
  revert X; k_fill; intro X
  refine wpAny_call ?_
  k_dflt (refine' enterTC G T24 T52 T59 ?k8 ?k6 ?k7 ?k9 ?kB ?kD ?_ ?c2 ?c3 ?c4; (case k6 => k_is); (case k7 => k_is); (case k8 => lia); (case k9 => first | exact BindsTo.of_eq rfl | exact binds_K (by k_in) rfl (by k_is) rfl rfl rfl); (case kB => exact rfl); (case kD => decide +kernel); (case c2 => exact rfl); (case c3 => exact rfl); (case c4 => exact rfl); k_whole)
  intro L' h' tk' cells' F' N' Y' hL' l1
  k_cells Y'; (try simp only [List.cons_append, List.nil_append] at N')
  (try dsimp only)
  replace h := Hide.mk h
  replace hb := Hide.mk hb
  have hvl : vs.length = ds.length := by have := hI.length; rw [List.length_map] at this; exact this
  obtain ⟨e59, hp⟩ := T59
  rcases hp with rfl | ⟨c', oc, vs', t, rfl, hoc, hdat, hv⟩
  · repeat' (first | (k_unfold; (try dsimp only)) | (k_end; wrow_close) | ((with_reducible show wpAny _ _ (call (Value.builtin "len") _) _ _ _); (k_here; k_dflt (refine' lenB ?l ?b ?_; (case l => exact Fr.keep (by assumption) _ _ (by assumption)); (case b => lia)))) | walk1 | (dsimp only; first | ((with_reducible show wpAny _ _ (call (Value.builtin "len") _) _ _ _); (k_here; k_dflt (refine' lenB ?l ?b ?_; (case l => exact Fr.keep (by assumption) _ _ (by assumption)); (case b => lia)))) | walk1) | (leave1; walk_say "STEP leave1"; try dsimp only))
    refine truthyB (Fr.keep (by assumption) _ _ hl) (by lia) ?_
    intro tk9
    (try dsimp only)
    by_cases hne : ds = []
    · subst hne
      obtain rfl := ints_nil hI
      simp only [List.isEmpty_nil, Bool.not_true, Bool.false_eq_true, if_false]
      repeat' (first | (k_unfold; (try dsimp only)) | (k_end; wrow_close) | ((with_reducible show wpAny _ _ (call (Value.builtin "len") _) _ _ _); (k_here; k_dflt (refine' lenB ?l ?b ?_; (case l => exact Fr.keep (by assumption) _ _ (by assumption)); (case b => lia)))) | walk1 | (dsimp only; first | ((with_reducible show wpAny _ _ (call (Value.builtin "len") _) _ _ _); (k_here; k_dflt (refine' lenB ?l ?b ?_; (case l => exact Fr.keep (by assumption) _ _ (by assumption)); (case b => lia)))) | walk1) | (leave1; walk_say "STEP leave1"; try dsimp only))
      exact h.out _ _ _ (after_of (by assumption) hL' (tab_keep (by assumption) T24 (News.get (by assumption) (by k_mem))) (tab_keep (by assumption) T52 (News.get (by assumption) (by k_mem))) (tab_new (News.get (by assumption) (by k_mem)) (News.get (by assumption) (by k_mem)) (by lia) (by assumption) (by assumption)))
    · rw [ints_ne hI (by simpa using hne)]
      simp only [Bool.not_false, if_true]
      repeat' (first | (k_unfold; (try dsimp only)) | (k_end; wrow_close) | ((with_reducible show wpAny _ _ (call (Value.builtin "len") _) _ _ _); (k_here; k_dflt (refine' lenB ?l ?b ?_; (case l => exact Fr.keep (by assumption) _ _ (by assumption)); (case b => lia)))) | walk1 | (dsimp only; first | ((with_reducible show wpAny _ _ (call (Value.builtin "len") _) _ _ _); (k_here; k_dflt (refine' lenB ?l ?b ?_; (case l => exact Fr.keep (by assumption) _ _ (by assumption)); (case b => lia)))) | walk1) | (leave1; walk_say "STEP leave1"; try dsimp only))
      rw [hvl]
      k_dflt (refine' d2i_inner (p := p) (loose := loose) (mean := mean) (mg := mg) (mb := mb) hn hn2 ?f ?mD ?mI ?mN ?dD ?dI ?dN hI hb.out hlen ds.length 0 ds.length (by lia) ?pos (Nat.le_refl _) _ _ _ _ _ _ _ _ _ ?F ?N X T ?C C hl ?hd ?_; (case F => k_asm); (case N => k_asm); (case f => k_mem); (case mD => k_mem); (case mI => k_mem); (case mN => k_mem); (case dD => k_asm); (case dI => k_asm); (case dN => k_asm); (case C => exact ⟨_, _, _, .inl (by k_mem), by assumption, by assumption⟩); (case pos => exact List.length_pos_iff.mpr hne); (case hd => (simp only [depth_deeper]; lia)))
      intro u9 h9 tk9 F9 N9
      (try dsimp only)
      rw [show cut ds 0 ds.length = ds from by simp [cut]]
      k_sweep
      repeat' (first | (k_unfold; (try dsimp only)) | (k_end; wrow_close) | ((with_reducible show wpAny _ _ (call (Value.builtin "len") _) _ _ _); (k_here; k_dflt (refine' lenB ?l ?b ?_; (case l => exact Fr.keep (by assumption) _ _ (by assumption)); (case b => lia)))) | walk1 | (dsimp only; first | ((with_reducible show wpAny _ _ (call (Value.builtin "len") _) _ _ _); (k_here; k_dflt (refine' lenB ?l ?b ?_; (case l => exact Fr.keep (by assumption) _ _ (by assumption)); (case b => lia)))) | walk1) | (leave1; walk_say "STEP leave1"; try dsimp only))
      exact h.out _ _ _ (after_of (by assumption) hL' (tab_keep (by assumption) T24 (News.get (by assumption) (by k_mem))) (tab_keep (by assumption) T52 (News.get (by assumption) (by k_mem))) (tab_new (News.get (by assumption) (by k_mem)) (News.get (by assumption) (by k_mem)) (by lia) (by assumption) (by assumption)))
  · repeat' (first | (k_unfold; (try dsimp only)) | (k_end; wrow_close) | ((with_reducible show wpAny _ _ (call (Value.builtin "len") _) _ _ _); (k_here; k_dflt (refine' lenB ?l ?b ?_; (case l => exact Fr.keep (by assumption) _ _ (by assumption)); (case b => lia)))) | walk1 | (dsimp only; first | ((with_reducible show wpAny _ _ (call (Value.builtin "len") _) _ _ _); (k_here; k_dflt (refine' lenB ?l ?b ?_; (case l => exact Fr.keep (by assumption) _ _ (by assumption)); (case b => lia)))) | walk1) | (leave1; walk_say "STEP leave1"; try dsimp only))
    refine truthyB (Fr.keep (by assumption) _ _ hl) (by lia) ?_
    intro tk9
    (try dsimp only)
    by_cases hne : ds = []
    · subst hne
      obtain rfl := ints_nil hI
      simp only [List.isEmpty_nil, Bool.not_true, Bool.false_eq_true, if_false]
      repeat' (first | (k_unfold; (try dsimp only)) | (k_end; wrow_close) | ((with_reducible show wpAny _ _ (call (Value.builtin "len") _) _ _ _); (k_here; k_dflt (refine' lenB ?l ?b ?_; (case l => exact Fr.keep (by assumption) _ _ (by assumption)); (case b => lia)))) | walk1 | (dsimp only; first | ((with_reducible show wpAny _ _ (call (Value.builtin "len") _) _ _ _); (k_here; k_dflt (refine' lenB ?l ?b ?_; (case l => exact Fr.keep (by assumption) _ _ (by assumption)); (case b => lia)))) | walk1) | (leave1; walk_say "STEP leave1"; try dsimp only))
      exact h.out _ _ _ (after_of (by assumption) hL' (tab_keep (by assumption) T24 (News.get (by assumption) (by k_mem))) (tab_keep (by assumption) T52 (News.get (by assumption) (by k_mem))) (tab_keep (by assumption) ⟨e59, .inr ⟨c', oc, vs', t, rfl, hoc, hdat, hv⟩⟩ (News.get (by assumption) (by k_mem))))
    · rw [ints_ne hI (by simpa using hne)]
      simp only [Bool.not_false, if_true]
      repeat' (first | (k_unfold; (try dsimp only)) | (k_end; wrow_close) | ((with_reducible show wpAny _ _ (call (Value.builtin "len") _) _ _ _); (k_here; k_dflt (refine' lenB ?l ?b ?_; (case l => exact Fr.keep (by assumption) _ _ (by assumption)); (case b => lia)))) | walk1 | (dsimp only; first | ((with_reducible show wpAny _ _ (call (Value.builtin "len") _) _ _ _); (k_here; k_dflt (refine' lenB ?l ?b ?_; (case l => exact Fr.keep (by assumption) _ _ (by assumption)); (case b => lia)))) | walk1) | (leave1; walk_say "STEP leave1"; try dsimp only))
      rw [hvl]
      k_dflt (refine' d2i_inner (p := p) (loose := loose) (mean := mean) (mg := mg) (mb := mb) hn hn2 ?f ?mD ?mI ?mN ?dD ?dI ?dN hI hb.out hlen ds.length 0 ds.length (by lia) ?pos (Nat.le_refl _) _ _ _ _ _ _ _ _ _ ?F ?N X T ?C C hl ?hd ?_; (case F => k_asm); (case N => k_asm); (case f => k_mem); (case mD => k_mem); (case mI => k_mem); (case mN => k_mem); (case dD => k_asm); (case dI => k_asm); (case dN => k_asm); (case C => exact ⟨oc, vs', t, .inr hoc, hdat, by rw [hv]⟩); (case pos => exact List.length_pos_iff.mpr hne); (case hd => (simp only [depth_deeper]; lia)))
      intro u9 h9 tk9 F9 N9
      (try dsimp only)
      rw [show cut ds 0 ds.length = ds from by simp [cut]]
      k_sweep
      repeat' (first | (k_unfold; (try dsimp only)) | (k_end; wrow_close) | ((with_reducible show wpAny _ _ (call (Value.builtin "len") _) _ _ _); (k_here; k_dflt (refine' lenB ?l ?b ?_; (case l => exact Fr.keep (by assumption) _ _ (by assumption)); (case b => lia)))) | walk1 | (dsimp only; first | ((with_reducible show wpAny _ _ (call (Value.builtin "len") _) _ _ _); (k_here; k_dflt (refine' lenB ?l ?b ?_; (case l => exact Fr.keep (by assumption) _ _ (by assumption)); (case b => lia)))) | walk1) | (leave1; walk_say "STEP leave1"; try dsimp only))
      exact h.out _ _ _ (after_of (by assumption) hL' (tab_keep (by assumption) T24 (News.get (by assumption) (by k_mem))) (tab_keep (by assumption) T52 (News.get (by assumption) (by k_mem))) (tab_keep (by assumption) ⟨e59, .inr ⟨c', oc, vs', t, rfl, hoc, hdat, hv⟩⟩ (News.get (by assumption) (by k_mem))))
end
end Mine
end
section
open PySem PySem.W PySem.Calls PyProof.Rows
set_option maxRecDepth 100000
set_option maxHeartbeats 8000000
namespace Mine
section
variable {w : World} {A : Around} {s : Shared} {env : Env} {target iter : PySem.Expr} {body : List Stmt} {pos : Pos} {Q : Flow → Shared → Prop}
/-- a for by an invariant over the whole state; I n: n bounds the turns to come -/
inductive ForInv (w : World) (A : Around) (env : Env) (target : PySem.Expr) (body : List Stmt) (Q : Flow → Shared → Prop) (it : Value) (s₂ : Shared) : Prop
  | mk (I : Nat → Shared → Prop) (n : Nat)
    (h1 : I n s₂)
    (h2 : ∀ k s', I k s' → wpAny (model PySem.Challenge.rw_rl0106_01.row.prog w) A (pyNext it) (fun r s₁ => match r with
      | none => Q .next s₁
      | some v => wpAny (model PySem.Challenge.rw_rl0106_01.row.prog w) A (assign target env v) (fun _ s₂ => wpAny (model PySem.Challenge.rw_rl0106_01.row.prog w) A (execs body env) (fun f s₃ => match f with
          | .next | .cont => ∃ j, j < k ∧ I j s₃
          | .brk => Q .next s₃
          | .ret v => Q (.ret v) s₃) (fun _ _ => False) s₂) (fun _ _ => False) s₁) (fun _ _ => False) s') : ForInv w A env target body Q it s₂
theorem forF (h : wpAny (model PySem.Challenge.rw_rl0106_01.row.prog w) A (eval iter env) (fun xv s₁ => wpAny (model PySem.Challenge.rw_rl0106_01.row.prog w) A (pyIter xv) (fun it s₂ => ForInv w A env target body Q it s₂) (fun _ _ => False) s₁) (fun _ _ => False) s)
    (hs : ∀ x, foldedSetIterable iter env x = pure x := by intro _; rfl) (ht : ∀ it v, letOwnedTupleGo target it v = pure () := by intro _ _; rfl) :
    wpAny (model PySem.Challenge.rw_rl0106_01.row.prog w) A (exec (.For target iter body [] pos) env) Q (fun _ _ => False) s := by
  refine wpAny_For (wpAny_mono h (fun xv s₁ h₁ => wpAny_mono h₁ (fun it s₂ h₂ => ?_) fun _ _ e => e) fun _ _ e => e) hs
  obtain ⟨I, n, h0, turn⟩ := h₂
  refine codeAny_forLoop (fun k s' => I k s') (fun k s' hI => ?_) n h0 (ht it)
  refine wpAny_mono (turn k s' hI) (fun r s₁ h₁ => ?_) fun _ _ e => e.elim
  cases r with
  | none => exact wpAny_execs_nil h₁
  | some v =>
    refine wpAny_mono h₁ (fun _ s₂ h₂ => wpAny_mono h₂ (fun f s₃ h₃ => ?_) fun _ _ e => e.elim) fun _ _ e => e.elim
    cases f <;> exact h₃
end
section
variable {b h h' : Heap} {L : Addr} {m : Str → Option Value} {p24 p52 p59 : Array Value}
theorem not_tab {a : Addr} (h : @LT.lt Nat _ 59 a) : a ∉ ([59, 52, 24] : List Addr) := by
  intro hm
  simp only [List.mem_cons, List.not_mem_nil, or_false] at hm
  rcases hm with e | e | e
  · exact absurd h (by rw [e]; decide)
  · exact absurd h (by rw [e]; decide)
  · exact absurd h (by rw [e]; decide)
/-- the frame at hand behind a call that may turn the tables -/
theorem after_frame (F : Fr (hid b) L h m) {rest : List (Addr × Obj)} (N : News (hid b) L h (rest ++ tabL p24 p52 p59)) (hr : ∀ q ∈ rest, @LT.lt Nat _ 59 q.1) (hL : @LT.lt Nat _ 59 L) (a : After h h') :
    ∃ p24' p52' p59', Fr (hid b) L h' m ∧ News (hid b) L h' (rest ++ tabL p24' p52' p59') ∧ TabIs 24 q24 46 h' p24' ∧ TabIs 52 q52 86 h' p52' ∧ TabIs 59 q59 101 h' p59' := by
  obtain ⟨⟨p24', t24⟩, ⟨p52', t52⟩, ⟨p59', t59⟩⟩ := a.tabs
  refine ⟨p24', p52', p59', ⟨?_, fun c o e => a.keep _ _ (hideAll_get _ (F.keep _ _ e) (hid_not e)), F.above⟩, ?_, t24, t52, t59⟩
  · obtain ⟨oL, es, ep, hL', r⟩ := F.ns
    exact ⟨oL, es, ep, a.keep _ _ (hideAll_get _ hL' (not_tab hL)), r⟩
  · intro q hq
    rcases List.mem_append.mp hq with hq | hq
    · exact ⟨a.keep _ _ (hideAll_get _ (N q (List.mem_append_left _ hq)).1 (not_tab (hr q hq))), (N q (List.mem_append_left _ hq)).2⟩
    · have z := fun (o : Obj) (x : Addr) (hx : (x, o) ∈ tabL p24 p52 p59) => (N (x, o) (List.mem_append_right _ hx)).2
      simp only [tabL, List.mem_cons, List.not_mem_nil, or_false] at hq
      rcases hq with rfl | rfl | rfl
      · exact ⟨t59.1, z (tabObj p59) 59 (by simp [tabL])⟩
      · exact ⟨t52.1, z (tabObj p52) 52 (by simp [tabL])⟩
      · exact ⟨t24.1, z (tabObj p24) 24 (by simp [tabL])⟩
end
theorem frCongr {h₀ h : Heap} {L : Addr} {m m' : Str → Option Value} (F : Fr h₀ L h m) (e : ∀ y, m y = m' y) : Fr h₀ L h m' := by
  have : m = m' := funext e
  rw [← this]; exact F
end Mine
end
section
open PySem PySem.W PySem.Calls PyProof.Rows
set_option maxRecDepth 100000
set_option maxHeartbeats 8000000
namespace Mine
/-- an object that is no code: so no code of a made def lies where it lies -/
def NoCode (o : Obj) : Prop := ∀ vs q t, o.data = .fields vs → vs[1]? ≠ some (Value.str q t)
theorem NoCode.seq {c : Value} {d : Option Addr} {xs : Array Value} {n : Nat} {sl : Array (Option Value)} : NoCode ⟨c, d, .seq xs n, sl⟩ := fun _ _ _ e => by cases e
def CodeOk (base : Heap) (tail : List (Addr × Obj)) (q : Str) (l : Nat) (ps : Array Value) : Prop :=
  ps = #[] ∨ ∃ c' oc vs t, ps = #[rawInt l, rawInt (4 : Nat), .ref c'] ∧ c' ∉ ([59, 52, 24] : List Addr) ∧ ((c', oc) ∈ tail ∨ base.get? c' = some oc) ∧ oc.data = .fields vs ∧ vs[1]? = some (.str q t)
/-- the part of a ledger that holds the tables and the codes in them -/
structure TailIs (base : Heap) (tail : List (Addr × Obj)) : Prop where
  t24 : ∃ ps, (24, tabObj ps) ∈ tail ∧ CodeOk base tail q24 46 ps
  t52 : ∃ ps, (52, tabObj ps) ∈ tail ∧ CodeOk base tail q52 86 ps
  t59 : ∃ ps, (59, tabObj ps) ∈ tail ∧ CodeOk base tail q59 101 ps
  only : ∀ q ∈ tail, q.1 ∈ ([59, 52, 24] : List Addr) ∨ ∃ vs qn t, q.2.data = .fields vs ∧ vs[1]? = some (.str qn t)
section
variable {b h h' : Heap} {L : Addr} {m : Str → Option Value} {rest tail : List (Addr × Obj)} {p24 p52 p59 : Array Value}
theorem CodeOk.is {q : Str} {l : Nat} {ps : Array Value} {P : Addr} (x : CodeOk (hid b) tail q l ps) (F : Fr (hid b) L h m) (N : News (hid b) L h (rest ++ tail)) (hP : (P, tabObj ps) ∈ tail) : TabIs P q l h ps := by
  refine ⟨(N _ (List.mem_append_right _ hP)).1, x.imp id fun ⟨c', oc, vs, t, e1, e2, e3, e4, e5⟩ => ⟨c', oc, vs, t, e1, hideAll_get _ ?_ e2, e4, e5⟩⟩
  rcases e3 with e3 | e3
  · exact (N _ (List.mem_append_right _ e3)).1
  · exact F.keep _ _ e3
theorem TailIs.tabs (x : TailIs (hid b) tail) (F : Fr (hid b) L h m) (N : News (hid b) L h (rest ++ tail)) : Tabs h :=
  ⟨let ⟨ps, h1, h2⟩ := x.t24; ⟨ps, h2.is F N h1⟩, let ⟨ps, h1, h2⟩ := x.t52; ⟨ps, h2.is F N h1⟩, let ⟨ps, h1, h2⟩ := x.t59; ⟨ps, h2.is F N h1⟩⟩
theorem TailIs.after (x : TailIs (hid b) tail) (F : Fr (hid b) L h m) (N : News (hid b) L h (rest ++ tail)) (hL : b.objs.size ≤ L) : After b h :=
  ⟨F.keep, x.tabs F N, Nat.le_trans hL (Nat.le_of_lt F.ns.lt)⟩
theorem TailIs.of (T24 : TabIs 24 q24 46 b p24) (T52 : TabIs 52 q52 86 b p52) (T59 : TabIs 59 q59 101 b p59) : TailIs (hid b) [(59, tabObj p59), (52, tabObj p52), (24, tabObj p24)] where
  t24 := ⟨p24, by simp, T24.2.imp id fun ⟨c', oc, vs, t, e1, e2, e3, e4⟩ => ⟨c', oc, vs, t, e1, hid_not e2, .inr e2, e3, e4⟩⟩
  t52 := ⟨p52, by simp, T52.2.imp id fun ⟨c', oc, vs, t, e1, e2, e3, e4⟩ => ⟨c', oc, vs, t, e1, hid_not e2, .inr e2, e3, e4⟩⟩
  t59 := ⟨p59, by simp, T59.2.imp id fun ⟨c', oc, vs, t, e1, e2, e3, e4⟩ => ⟨c', oc, vs, t, e1, hid_not e2, .inr e2, e3, e4⟩⟩
  only := fun q hq => .inl (by
    simp only [List.mem_cons, List.not_mem_nil, or_false] at hq ⊢
    rcases hq with rfl | rfl | rfl <;> simp)
/-- the code of a table that now is, for the ledger -/
theorem code_led {q : Str} {l P : Nat} {ps : Array Value} (t : TabIs P q l h' ps) (F : Fr (hid b) L h' m) :
    ∃ cs : List (Addr × Obj), (∀ p ∈ cs, h'.get? p.1 = some p.2 ∧ p.1 ≠ L ∧ (hid b).get? p.1 = none) ∧ (∀ p ∈ cs, p.1 ∉ ([59, 52, 24] : List Addr)) ∧ (∀ p ∈ cs, ∃ vs qn t, p.2.data = .fields vs ∧ vs[1]? = some (.str qn t)) ∧
      ∀ tl, (∀ p ∈ cs, p ∈ tl) → CodeOk (hid b) tl q l ps := by
  obtain ⟨e, h0 | ⟨c', oc, vs, tk, e1, e2, e3, e4⟩⟩ := t
  · exact ⟨[], (fun _ x => nomatch x), (fun _ x => nomatch x), (fun _ x => nomatch x), fun tl _ => .inl h0⟩
  · cases hb : (hid b).get? c' with
    | some o =>
      have : o = oc := by have z := F.keep _ _ hb; rw [of_hideAll _ e2] at z; exact (Option.some.inj z).symm
      subst this
      exact ⟨[], (fun _ x => nomatch x), (fun _ x => nomatch x), (fun _ x => nomatch x), fun tl _ => .inr ⟨c', o, vs, tk, e1, hid_not e2, .inr hb, e3, e4⟩⟩
    | none =>
      refine ⟨[(c', oc)], fun p hp => ?_, fun p hp => ?_, fun p hp => ?_, fun tl ht => .inr ⟨c', oc, vs, tk, e1, hid_not e2, .inl (ht _ (.head _)), e3, e4⟩⟩
      · obtain rfl := List.mem_singleton.mp hp
        refine ⟨of_hideAll _ e2, fun z => ?_, hb⟩
        obtain ⟨oL, es, ep, hL, hLd, _⟩ := F.ns
        have z' : c' = L := z
        have := of_hideAll _ e2
        rw [z', hL] at this
        cases this
        rw [hLd] at e3; cases e3
      · obtain rfl := List.mem_singleton.mp hp; exact hid_not e2
      · obtain rfl := List.mem_singleton.mp hp; exact ⟨vs, q, tk, e3, e4⟩
/-- the frame at hand behind a call that may turn the tables -/
theorem after_tail (F : Fr (hid b) L h m) (N : News (hid b) L h (rest ++ tail)) (x : TailIs (hid b) tail) (hr : ∀ q ∈ rest, @LT.lt Nat _ 59 q.1) (hL : @LT.lt Nat _ 59 L) (a : After h h') :
    ∃ tail', Fr (hid b) L h' m ∧ News (hid b) L h' (rest ++ tail') ∧ TailIs (hid b) tail' ∧ ∀ q ∈ rest, NoCode q.2 → ∀ p ∈ tail', p.1 ≠ q.1 := by
  obtain ⟨⟨p24', t24⟩, ⟨p52', t52⟩, ⟨p59', t59⟩⟩ := a.tabs
  have F' : Fr (hid b) L h' m := by
    refine ⟨?_, fun c o e => a.keep _ _ (hideAll_get _ (F.keep _ _ e) (hid_not e)), F.above⟩
    obtain ⟨oL, es, ep, hL', r⟩ := F.ns
    exact ⟨oL, es, ep, a.keep _ _ (hideAll_get _ hL' (not_tab hL)), r⟩
  obtain ⟨c1, n1, m1, k1, o1⟩ := code_led t24 F'
  obtain ⟨c2, n2, m2, k2, o2⟩ := code_led t52 F'
  obtain ⟨c3, n3, m3, k3, o3⟩ := code_led t59 F'
  have hrest : ∀ q ∈ rest, h'.get? q.1 = some q.2 := fun q hq => a.keep _ _ (hideAll_get _ (N q (List.mem_append_left _ hq)).1 (not_tab (hr q hq)))
  have mem : ∀ q ∈ (59, tabObj p59') :: (52, tabObj p52') :: (24, tabObj p24') :: (c1 ++ c2 ++ c3), q = (59, tabObj p59') ∨ q = (52, tabObj p52') ∨ q = (24, tabObj p24') ∨ q ∈ c1 ∨ q ∈ c2 ∨ q ∈ c3 := fun q hq => by
    simpa only [List.mem_cons, List.mem_append, or_assoc] using hq
  have tb : ∀ P ps, (P, tabObj ps) ∈ tail → (hid b).get? P = none ∧ P ≠ L := fun P ps hm => ⟨(N _ (List.mem_append_right _ hm)).2.2, (N _ (List.mem_append_right _ hm)).2.1⟩
  obtain ⟨q24, g24, _⟩ := x.t24
  obtain ⟨q52, g52, _⟩ := x.t52
  obtain ⟨q59, g59, _⟩ := x.t59
  refine ⟨(59, tabObj p59') :: (52, tabObj p52') :: (24, tabObj p24') :: (c1 ++ c2 ++ c3), F', fun q hq => ?_, ⟨⟨p24', by simp, o1 _ fun p hp => by simp [hp]⟩, ⟨p52', by simp, o2 _ fun p hp => by simp [hp]⟩, ⟨p59', by simp, o3 _ fun p hp => by simp [hp]⟩, fun q hq => ?_⟩, fun q hq hn p hp => ?_⟩
  · rcases List.mem_append.mp hq with hq | hq
    · exact ⟨hrest q hq, (N q (List.mem_append_left _ hq)).2⟩
    · rcases mem q hq with rfl | rfl | rfl | hq | hq | hq
      · exact ⟨t59.1, (tb _ _ g59).2, (tb _ _ g59).1⟩
      · exact ⟨t52.1, (tb _ _ g52).2, (tb _ _ g52).1⟩
      · exact ⟨t24.1, (tb _ _ g24).2, (tb _ _ g24).1⟩
      · exact n1 q hq
      · exact n2 q hq
      · exact n3 q hq
  · rcases mem q hq with rfl | rfl | rfl | hq | hq | hq
    · exact .inl (by simp)
    · exact .inl (by simp)
    · exact .inl (by simp)
    · exact .inr (k1 q hq)
    · exact .inr (k2 q hq)
    · exact .inr (k3 q hq)
  · have code : ∀ (cs : List (Addr × Obj)), (∀ p ∈ cs, h'.get? p.1 = some p.2 ∧ p.1 ≠ L ∧ (hid b).get? p.1 = none) → (∀ p ∈ cs, ∃ vs qn t, p.2.data = .fields vs ∧ vs[1]? = some (.str qn t)) → p ∈ cs → p.1 ≠ q.1 := fun cs na ka hpc z => by
      have e1 := (na p hpc).1
      obtain ⟨vs, qn, t, e2, e3⟩ := ka p hpc
      rw [z, hrest q hq] at e1
      exact hn vs qn t (by rw [Option.some.inj e1]; exact e2) e3
    have tab : ∀ P : Addr, P ∈ ([59, 52, 24] : List Addr) → P ≠ q.1 := fun P hP z => not_tab (hr q hq) (z ▸ hP)
    rcases mem p hp with rfl | rfl | rfl | hp | hp | hp
    · exact tab _ (by simp)
    · exact tab _ (by simp)
    · exact tab _ (by simp)
    · exact code c1 n1 k1 hp
    · exact code c2 n2 k2 hp
    · exact code c3 n3 k3 hp
end
end Mine
end
section
open PySem PySem.W PySem.Calls PyProof.Rows Mine
local macro_rules | `(tactic| walk_at "newTuple") => `(tactic| (k_here; k_dflt (refine' newTuple_B ?F ?N ?_ ?z; (case F => k_asm); (case N => k_asm); (case z => kmk_size)); intro D' h' F' N' l1 hLt'; (try k_lt l1); (try k_lt2 hLt'); (try k_sweep)))
section
open PySem PySem.W PySem.Calls PyProof.Rows
set_option maxRecDepth 100000
set_option maxHeartbeats 8000000
namespace Mine
abbrev fl1 : UInt64 := 4607182418800017408
abbrev fl6 : UInt64 := 4618441417868443648

/-- what hsv_to_rgb gives at full saturation; i: the whole part of six times the hue -/
def hsvOut (h v : UInt64) (i : Int) : UInt64 × UInt64 × UInt64 :=
  let f := Float64.sub (Float64.mul h fl6) (Float64.ofInt i)
  let p := Float64.mul v (Float64.sub fl1 fl1)
  let q := Float64.mul v (Float64.sub fl1 (Float64.mul fl1 f))
  let t := Float64.mul v (Float64.sub fl1 (Float64.mul fl1 (Float64.sub fl1 f)))
  if i.fmod 6 = 0 then (v, t, p) else if i.fmod 6 = 1 then (q, v, p) else if i.fmod 6 = 2 then (p, v, t) else if i.fmod 6 = 3 then (p, q, v) else if i.fmod 6 = 4 then (t, p, v) else (v, p, q)

section
variable {x v : UInt64} {i : Int}
theorem hsvE0 (h : i.fmod 6 = 0) : hsvOut x v i = (v, Float64.mul v (Float64.sub fl1 (Float64.mul fl1 (Float64.sub fl1 (Float64.sub (Float64.mul x fl6) (Float64.ofInt i))))), Float64.mul v (Float64.sub fl1 fl1)) := by unfold hsvOut; simp only [h]; rfl
theorem hsvE1 (h : i.fmod 6 = 1) : hsvOut x v i = (Float64.mul v (Float64.sub fl1 (Float64.mul fl1 (Float64.sub (Float64.mul x fl6) (Float64.ofInt i)))), v, Float64.mul v (Float64.sub fl1 fl1)) := by unfold hsvOut; simp only [h]; rfl
theorem hsvE2 (h : i.fmod 6 = 2) : hsvOut x v i = (Float64.mul v (Float64.sub fl1 fl1), v, Float64.mul v (Float64.sub fl1 (Float64.mul fl1 (Float64.sub fl1 (Float64.sub (Float64.mul x fl6) (Float64.ofInt i)))))) := by unfold hsvOut; simp only [h]; rfl
theorem hsvE3 (h : i.fmod 6 = 3) : hsvOut x v i = (Float64.mul v (Float64.sub fl1 fl1), Float64.mul v (Float64.sub fl1 (Float64.mul fl1 (Float64.sub (Float64.mul x fl6) (Float64.ofInt i)))), v) := by unfold hsvOut; simp only [h]; rfl
theorem hsvE4 (h : i.fmod 6 = 4) : hsvOut x v i = (Float64.mul v (Float64.sub fl1 (Float64.mul fl1 (Float64.sub fl1 (Float64.sub (Float64.mul x fl6) (Float64.ofInt i))))), Float64.mul v (Float64.sub fl1 fl1), v) := by unfold hsvOut; simp only [h]; rfl
theorem hsvE5 (h : i.fmod 6 = 5) : hsvOut x v i = (v, Float64.mul v (Float64.sub fl1 fl1), Float64.mul v (Float64.sub fl1 (Float64.mul fl1 (Float64.sub (Float64.mul x fl6) (Float64.ofInt i))))) := by unfold hsvOut; simp only [h]; rfl
end

theorem notInf_all : ∀ n : Nat, n < 64 → Float64.isInf (Float64.ofInt (n : Int)) = false := by decide +kernel
theorem notInf_small {i : Int} (h0 : 0 ≤ i) (h1 : i ≤ 63) : ¬ Float64.isInf (Float64.ofInt i) = true := by
  obtain ⟨n, rfl⟩ := Int.eq_ofNat_of_zero_le h0
  rw [notInf_all n (by lia)]
  exact Bool.false_ne_true

theorem hsv_spec {w : World} {A : Around} {s : Shared} {p : Program} {loose : List Str} {mean : ExcName → Option Value} {mg mb : Str → Option Value} {Q E : Value → Shared → Prop} {x v : UInt64} {ta tb tn : Tok}
    (X : (Mine.KK w.params).In s.heap) (T : Top p loose mean mg mb s.heap) (hd : A.depth + 5 < recursionLimit)
    {sg : Bool} {m : Nat} {e : Int} (hdec : Float64.decode (Float64.mul x fl6) = .fin sg m e) (h0 : 0 ≤ Float64.truncOf sg m e) (h6 : Float64.truncOf sg m e ≤ 63)
    (h : ∀ t h' tk' u1 u2 u3, s.heap.StaysIn h' → s.heap.objs.size ≤ t →
      h'.get? t = some (tupO #[.float (hsvOut x v (Float64.truncOf sg m e)).1 u1, .float (hsvOut x v (Float64.truncOf sg m e)).2.1 u2, .float (hsvOut x v (Float64.truncOf sg m e)).2.2 u3]) → Q (.ref t) { s with heap := h', toks := tk' }) :
    wpAny (model PySem.Challenge.rw_rl0106_01.row.prog w) A (call (.ref 92) [.float x ta, .float fl1 tb, .float v tn]) Q E s := by
  have hh : ∀ c1 c2 c3, hsvOut x v (Float64.truncOf sg m e) = (c1, c2, c3) → ∀ t h' tk' u1 u2 u3, s.heap.StaysIn h' → s.heap.objs.size ≤ t →
      h'.get? t = some (tupO #[.float c1 u1, .float c2 u2, .float c3 u3]) → Q (.ref t) { s with heap := h', toks := tk' } := by
    intro c1 c2 c3 he; simpa [he] using h
  clear h
  revert X; k_fill; intro X
  refine wpAny_call ?_
  k_dflt (refine' enterP X T ?k8 ?k6 ?k7 ?k9 ?kB ?_ ?c2 ?c3 ?c4 ?c5; (case k6 => k_is); (case k7 => k_is); (case k8 => lia); (case k9 => exact BindsTo.of_eq rfl); (case c5 => decide); (case kB => exact locs rfl); (case c2 => exact rfl); (case c3 => exact rfl); (case c4 => exact rfl); k_whole)
  intro L' h' F' N' hL'
  (try dsimp only)
  k_steps
  · exact absurd (by assumption : (Float64.cmp fl1 0 == some Ordering.eq) = true) (by decide +kernel)
  · exact hh _ _ _ (hsvE0 (by assumption)) _ _ _ _ _ _ (fun b o e => Fr.keep (by assumption) b o e) (leLt hL' (by assumption)) (News.get (by assumption) (List.Mem.head _))
  · exact hh _ _ _ (hsvE1 (by assumption)) _ _ _ _ _ _ (fun b o e => Fr.keep (by assumption) b o e) (leLt hL' (by assumption)) (News.get (by assumption) (List.Mem.head _))
  · exact hh _ _ _ (hsvE2 (by assumption)) _ _ _ _ _ _ (fun b o e => Fr.keep (by assumption) b o e) (leLt hL' (by assumption)) (News.get (by assumption) (List.Mem.head _))
  · exact hh _ _ _ (hsvE3 (by assumption)) _ _ _ _ _ _ (fun b o e => Fr.keep (by assumption) b o e) (leLt hL' (by assumption)) (News.get (by assumption) (List.Mem.head _))
  · exact hh _ _ _ (hsvE4 (by assumption)) _ _ _ _ _ _ (fun b o e => Fr.keep (by assumption) b o e) (leLt hL' (by assumption)) (News.get (by assumption) (List.Mem.head _))
  · exact hh _ _ _ (hsvE5 (by assumption)) _ _ _ _ _ _ (fun b o e => Fr.keep (by assumption) b o e) (leLt hL' (by assumption)) (News.get (by assumption) (List.Mem.head _))
  · exfalso; have h7 := Int.fmod_nonneg_of_pos (Float64.truncOf sg m e) (b := 6) (by lia); have h8 := Int.fmod_lt_of_pos (Float64.truncOf sg m e) (b := 6) (by lia); lia
end Mine
end
section
open PySem PySem.W PySem.Calls PyProof.Rows
set_option maxRecDepth 100000
set_option maxHeartbeats 8000000
namespace Mine
def max2 (x y : UInt64) : UInt64 := if (Float64.cmp x y == some .lt) = true then y else x
def min2 (x y : UInt64) : UInt64 := if (Float64.cmp y x == some .lt) = true then y else x
abbrev max3 (r g b : UInt64) : UInt64 := max2 (max2 r g) b
abbrev min3 (r g b : UInt64) : UInt64 := min2 (min2 r g) b

section
variable {prog : Program} {w : World} {A : Around} {E : Value → Shared → Prop} {s : Shared} {Q : Value → Shared → Prop} {h₀ : Heap} {L : Addr} {m : Str → Option Value} {news : List (Addr × Obj)}
theorem three_lt {a b c : Value} {d : Addr} (hsz : (s.heap.push { cls := .type "tuple", data := .seq #[a, b, c] }).objs.size = s.heap.objs.size + 1) (hd : d ∈ [(s.heap.push { cls := .type "tuple", data := .seq #[a, b, c] }).objs.size, s.heap.objs.size]) (o : Obj) :
    d < ((s.heap.push { cls := .type "tuple", data := .seq #[a, b, c] }).push o).objs.size := by
  rw [Heap.size_push, hsz]
  rcases List.mem_cons.mp hd with rfl | hd
  · rw [hsz]; exact Nat.lt_succ_self _
  · rcases List.mem_cons.mp hd with rfl | hd
    · exact Nat.lt_succ_of_lt (Nat.lt_succ_self _)
    · cases hd
theorem max_three_ff {x y z : UInt64} {t u v : Tok} (hh : A.handled = none) (F : Fr h₀ L s.heap m) (N : News h₀ L s.heap news)
    (h : ∀ h' tk k, Fr h₀ L h' m → News h₀ L h' news → Q (.float (max3 x y z) k) { s with heap := h', toks := tk }) :
    wpAny (model prog w) A (call (.builtin "max") [.float x t, .float y u, .float z v]) Q E s := by
  have hT : (s.heap.push { cls := .type "tuple", data := .seq #[.float x t, .float y u, .float z v] }).IsTuple s.heap.objs.size #[.float x t, .float y u, .float z v] := ⟨_, Heap.get?_push_size _ rfl, rfl, 0, rfl⟩
  refine call_max_three (wpAny_pyIter_tuple hT ?_)
  have hsz : (s.heap.push { cls := .type "tuple", data := .seq #[.float x t, .float y u, .float z v] }).objs.size = s.heap.objs.size + 1 := Heap.size_push ..
  refine ⟨_, [_, s.heap.objs.size], [_], _, _, _, _, rfl, Walks.tuple (A := A.in1) hh _ s.heap.objs.size (by rw [hsz]; exact Nat.ne_of_lt (Nat.lt_succ_self _)) #[.float x t, .float y u, .float z v],
    ⟨⟨_, Heap.get?_push_size _ rfl, rfl, rfl⟩, hT.push _⟩, fun d hd => three_lt hsz hd _, by simp, Flt.cmpOf_gt _ (by intro q hq; simp at hq; rcases hq with rfl | rfl | rfl <;> constructor), fun q h' tk hP hk => ?_⟩
  have hold : ∀ d o, s.heap.get? d = some o → h'.get? d = some o := fun d o e => by
    refine hk d o (fun hm => ?_) (Heap.get?_push_of_some _ (Heap.get?_push_of_some _ e))
    rcases List.mem_cons.mp hm with e1 | hm
    · have := Heap.lt_size e; rw [e1, hsz] at this; exact Nat.lt_irrefl _ (Nat.lt_of_succ_lt this)
    · cases hm
  have hq : ∃ k, q = .float (max3 x y z) k := by
    rcases Bool.eq_false_or_eq_true (Float64.cmp x y == some .lt) with h1 | h1 <;> rcases Bool.eq_false_or_eq_true (Float64.cmp x z == some .lt) with h2 | h2 <;> rcases Bool.eq_false_or_eq_true (Float64.cmp y z == some .lt) with h3 | h3 <;>
      simp [argBest, Flt.ltV, h1, h2, h3] at hP <;> simp [max2, h1, h2, h3, ← hP]
  obtain ⟨k, rfl⟩ := hq
  exact h h' tk k (F.grownK hold) (N.grown hold)
theorem min_three_ff {x y z : UInt64} {t u v : Tok} (hh : A.handled = none) (F : Fr h₀ L s.heap m) (N : News h₀ L s.heap news)
    (h : ∀ h' tk k, Fr h₀ L h' m → News h₀ L h' news → Q (.float (min3 x y z) k) { s with heap := h', toks := tk }) :
    wpAny (model prog w) A (call (.builtin "min") [.float x t, .float y u, .float z v]) Q E s := by
  have hT : (s.heap.push { cls := .type "tuple", data := .seq #[.float x t, .float y u, .float z v] }).IsTuple s.heap.objs.size #[.float x t, .float y u, .float z v] := ⟨_, Heap.get?_push_size _ rfl, rfl, 0, rfl⟩
  refine call_min_three (wpAny_pyIter_tuple hT ?_)
  have hsz : (s.heap.push { cls := .type "tuple", data := .seq #[.float x t, .float y u, .float z v] }).objs.size = s.heap.objs.size + 1 := Heap.size_push ..
  refine ⟨_, [_, s.heap.objs.size], [_], _, _, _, _, rfl, Walks.tuple (A := A.in1) hh _ s.heap.objs.size (by rw [hsz]; exact Nat.ne_of_lt (Nat.lt_succ_self _)) #[.float x t, .float y u, .float z v],
    ⟨⟨_, Heap.get?_push_size _ rfl, rfl, rfl⟩, hT.push _⟩, fun d hd => three_lt hsz hd _, by simp, Flt.cmpOf_lt _ (by intro q hq; simp at hq; rcases hq with rfl | rfl | rfl <;> constructor), fun q h' tk hP hk => ?_⟩
  have hold : ∀ d o, s.heap.get? d = some o → h'.get? d = some o := fun d o e => by
    refine hk d o (fun hm => ?_) (Heap.get?_push_of_some _ (Heap.get?_push_of_some _ e))
    rcases List.mem_cons.mp hm with e1 | hm
    · have := Heap.lt_size e; rw [e1, hsz] at this; exact Nat.lt_irrefl _ (Nat.lt_of_succ_lt this)
    · cases hm
  have hq : ∃ k, q = .float (min3 x y z) k := by
    rcases Bool.eq_false_or_eq_true (Float64.cmp y x == some .lt) with h1 | h1 <;> rcases Bool.eq_false_or_eq_true (Float64.cmp z x == some .lt) with h2 | h2 <;> rcases Bool.eq_false_or_eq_true (Float64.cmp z y == some .lt) with h3 | h3 <;>
      simp [argBest, Flt.ltV, h1, h2, h3] at hP <;> simp [min2, h1, h2, h3, ← hP]
  obtain ⟨k, rfl⟩ := hq
  exact h h' tk k (F.grownK hold) (N.grown hold)
end

abbrev fl0 : UInt64 := 0
abbrev fl2 : UInt64 := 4611686018427387904
abbrev fl4 : UInt64 := 4616189618054758400

/-- what rgb_to_hsv gives -/
def rgbHue (r g b : UInt64) : UInt64 :=
  let M := max3 r g b
  let D := Float64.sub M (min3 r g b)
  let rc := Float64.div (Float64.sub M r) D
  let gc := Float64.div (Float64.sub M g) D
  let bc := Float64.div (Float64.sub M b) D
  if (Float64.cmp r M == some .eq) = true then Float64.sub bc gc
  else if (Float64.cmp g M == some .eq) = true then Float64.sub (Float64.add fl2 rc) bc
  else Float64.sub (Float64.add fl4 gc) rc
def rgbOut (r g b : UInt64) : UInt64 × UInt64 × UInt64 :=
  if (Float64.cmp (min3 r g b) (max3 r g b) == some .eq) = true then (fl0, fl0, max3 r g b)
  else ((Float64.divmod (Float64.div (rgbHue r g b) fl6) fl1).2, Float64.div (Float64.sub (max3 r g b) (min3 r g b)) (max3 r g b), max3 r g b)
section
variable {r g b : UInt64}
theorem rgbE0 (h : (Float64.cmp (min3 r g b) (max3 r g b) == some .eq) = true) : rgbOut r g b = (fl0, fl0, max3 r g b) := by unfold rgbOut; rw [if_pos h]
theorem rgbE1 (h : (Float64.cmp (min3 r g b) (max3 r g b) == some .eq) = false) (h1 : (Float64.cmp r (max3 r g b) == some .eq) = true) :
    rgbOut r g b = ((Float64.divmod (Float64.div (Float64.sub (Float64.div (Float64.sub (max3 r g b) b) (Float64.sub (max3 r g b) (min3 r g b))) (Float64.div (Float64.sub (max3 r g b) g) (Float64.sub (max3 r g b) (min3 r g b)))) fl6) fl1).2, Float64.div (Float64.sub (max3 r g b) (min3 r g b)) (max3 r g b), max3 r g b) := by
  unfold rgbOut rgbHue; rw [if_neg (by rw [h]; exact Bool.false_ne_true), if_pos h1]
theorem rgbE2 (h : (Float64.cmp (min3 r g b) (max3 r g b) == some .eq) = false) (h1 : (Float64.cmp r (max3 r g b) == some .eq) = false) (h2 : (Float64.cmp g (max3 r g b) == some .eq) = true) :
    rgbOut r g b = ((Float64.divmod (Float64.div (Float64.sub (Float64.add fl2 (Float64.div (Float64.sub (max3 r g b) r) (Float64.sub (max3 r g b) (min3 r g b)))) (Float64.div (Float64.sub (max3 r g b) b) (Float64.sub (max3 r g b) (min3 r g b)))) fl6) fl1).2, Float64.div (Float64.sub (max3 r g b) (min3 r g b)) (max3 r g b), max3 r g b) := by
  unfold rgbOut rgbHue; rw [if_neg (by rw [h]; exact Bool.false_ne_true), if_neg (by rw [h1]; exact Bool.false_ne_true), if_pos h2]
theorem rgbE3 (h : (Float64.cmp (min3 r g b) (max3 r g b) == some .eq) = false) (h1 : (Float64.cmp r (max3 r g b) == some .eq) = false) (h2 : (Float64.cmp g (max3 r g b) == some .eq) = false) :
    rgbOut r g b = ((Float64.divmod (Float64.div (Float64.sub (Float64.add fl4 (Float64.div (Float64.sub (max3 r g b) g) (Float64.sub (max3 r g b) (min3 r g b)))) (Float64.div (Float64.sub (max3 r g b) r) (Float64.sub (max3 r g b) (min3 r g b)))) fl6) fl1).2, Float64.div (Float64.sub (max3 r g b) (min3 r g b)) (max3 r g b), max3 r g b) := by
  unfold rgbOut rgbHue; rw [if_neg (by rw [h]; exact Bool.false_ne_true), if_neg (by rw [h1]; exact Bool.false_ne_true), if_neg (by rw [h2]; exact Bool.false_ne_true)]
end
section
variable {prog : Program} {w : World} {A : Around} {E : Value → Shared → Prop} {s : Shared} {Q : Value → Shared → Prop} {a b : UInt64} {t u : Tok}
theorem div_ff (hz : ¬ Float64.isZero b = true) (h : Q (.float (Float64.div a b) s.toks) { s with toks := s.toks + 1 }) : wpAny (model prog w) A (binaryOp .Div (.float a t) (.float b u)) Q E s := AutoFloatOps.truediv_1 hz h
theorem mod_ff (hz : ¬ Float64.isZero b = true) (h : Q (.float (Float64.divmod a b).2 s.toks) { s with toks := s.toks + 1 }) : wpAny (model prog w) A (binaryOp .Mod (.float a t) (.float b u)) Q E s := AutoFloatOps.mod_1 hz h
end
theorem zero6 : ¬ Float64.isZero fl6 = true := by decide +kernel
theorem zero1 : ¬ Float64.isZero fl1 = true := by decide +kernel



theorem rgb_spec {w : World} {A : Around} {s : Shared} {p : Program} {loose : List Str} {mean : ExcName → Option Value} {mg mb : Str → Option Value} {Q E : Value → Shared → Prop} {r g b : UInt64} {ta tb tn : Tok}
    (X : (Mine.KK w.params).In s.heap) (T : Top p loose mean mg mb s.heap) (hd : A.depth + 5 < recursionLimit) (hA : A.handled = none)
    (hz : (Float64.cmp (min3 r g b) (max3 r g b) == some .eq) = false → ¬ Float64.isZero (Float64.sub (max3 r g b) (min3 r g b)) = true ∧ ¬ Float64.isZero (max3 r g b) = true)
    (h : ∀ t h' tk' u1 u2 u3, s.heap.StaysIn h' → s.heap.objs.size ≤ t →
      h'.get? t = some (tupO #[.float (rgbOut r g b).1 u1, .float (rgbOut r g b).2.1 u2, .float (rgbOut r g b).2.2 u3]) → Q (.ref t) { s with heap := h', toks := tk' }) :
    wpAny (model PySem.Challenge.rw_rl0106_01.row.prog w) A (call (.ref 85) [.float r ta, .float g tb, .float b tn]) Q E s := by
  have hh : ∀ c1 c2 c3, rgbOut r g b = (c1, c2, c3) → ∀ t h' tk' u1 u2 u3, s.heap.StaysIn h' → s.heap.objs.size ≤ t →
      h'.get? t = some (tupO #[.float c1 u1, .float c2 u2, .float c3 u3]) → Q (.ref t) { s with heap := h', toks := tk' } := by
    intro c1 c2 c3 he; simpa [he] using h
  clear h
  revert X; k_fill; intro X
  refine wpAny_call ?_
  k_dflt (refine' enterP X T ?k8 ?k6 ?k7 ?k9 ?kB ?_ ?c2 ?c3 ?c4 ?c5; (case k6 => k_is); (case k7 => k_is); (case k8 => omega); (case k9 => exact BindsTo.of_eq rfl); (case c5 => decide); (case kB => exact locs rfl); (case c2 => exact rfl); (case c3 => exact rfl); (case c4 => exact rfl); k_whole)
  intro L' h' F' N' hL'
  (try dsimp only)
  repeat' (first | (k_unfold; (try dsimp only)) | (k_end; wrow_close) | ((with_reducible show wpAny _ _ (binaryOp Operator.Mod (Value.float _ _) (Value.float _ _)) _ _ _); (k_here; refine mod_ff zero1 ?_)) | ((with_reducible show wpAny _ _ (binaryOp Operator.Div (Value.float _ _) (Value.float _ _)) _ _ _); (k_here; first | refine div_ff (by assumption) ?_ | refine div_ff zero6 ?_)) | walk1 | (dsimp only; first | ((with_reducible show wpAny _ _ (binaryOp Operator.Mod (Value.float _ _) (Value.float _ _)) _ _ _); (k_here; refine mod_ff zero1 ?_)) | ((with_reducible show wpAny _ _ (binaryOp Operator.Div (Value.float _ _) (Value.float _ _)) _ _ _); (k_here; first | refine div_ff (by assumption) ?_ | refine div_ff zero6 ?_)) | walk1) | (leave1; walk_say "STEP leave1"; try dsimp only))
  refine max_three_ff hA F' N' ?_
  intro h1 tk1 k1 F1 N1
  (try dsimp only)
  clear F' N'
  repeat' (first | (k_unfold; (try dsimp only)) | (k_end; wrow_close) | ((with_reducible show wpAny _ _ (binaryOp Operator.Mod (Value.float _ _) (Value.float _ _)) _ _ _); (k_here; refine mod_ff zero1 ?_)) | ((with_reducible show wpAny _ _ (binaryOp Operator.Div (Value.float _ _) (Value.float _ _)) _ _ _); (k_here; first | refine div_ff (by assumption) ?_ | refine div_ff zero6 ?_)) | walk1 | (dsimp only; first | ((with_reducible show wpAny _ _ (binaryOp Operator.Mod (Value.float _ _) (Value.float _ _)) _ _ _); (k_here; refine mod_ff zero1 ?_)) | ((with_reducible show wpAny _ _ (binaryOp Operator.Div (Value.float _ _) (Value.float _ _)) _ _ _); (k_here; first | refine div_ff (by assumption) ?_ | refine div_ff zero6 ?_)) | walk1) | (leave1; walk_say "STEP leave1"; try dsimp only))
  refine min_three_ff hA (by assumption) (by assumption) ?_
  intro h2 tk2 k2 F2 N2
  (try dsimp only)
  k_sweep
  repeat' (first | (k_unfold; (try dsimp only)) | (k_end; wrow_close) | ((with_reducible show wpAny _ _ (binaryOp Operator.Mod (Value.float _ _) (Value.float _ _)) _ _ _); (k_here; refine mod_ff zero1 ?_)) | ((with_reducible show wpAny _ _ (binaryOp Operator.Div (Value.float _ _) (Value.float _ _)) _ _ _); (k_here; first | refine div_ff (by assumption) ?_ | refine div_ff zero6 ?_)) | walk1 | (dsimp only; first | ((with_reducible show wpAny _ _ (binaryOp Operator.Mod (Value.float _ _) (Value.float _ _)) _ _ _); (k_here; refine mod_ff zero1 ?_)) | ((with_reducible show wpAny _ _ (binaryOp Operator.Div (Value.float _ _) (Value.float _ _)) _ _ _); (k_here; first | refine div_ff (by assumption) ?_ | refine div_ff zero6 ?_)) | walk1) | (leave1; walk_say "STEP leave1"; try dsimp only))
  · exact hh _ _ _ (rgbE0 (by assumption)) _ _ _ _ _ _ (fun b o e => Fr.keep (by assumption) b o e) (leLt hL' (by assumption)) (News.get (by assumption) (List.Mem.head _))
  obtain ⟨hz1, hz2⟩ := hz (by assumption)
  repeat' (first | (k_unfold; (try dsimp only)) | (k_end; wrow_close) | ((with_reducible show wpAny _ _ (binaryOp Operator.Mod (Value.float _ _) (Value.float _ _)) _ _ _); (k_here; refine mod_ff zero1 ?_)) | ((with_reducible show wpAny _ _ (binaryOp Operator.Div (Value.float _ _) (Value.float _ _)) _ _ _); (k_here; first | refine div_ff (by assumption) ?_ | refine div_ff zero6 ?_)) | walk1 | (dsimp only; first | ((with_reducible show wpAny _ _ (binaryOp Operator.Mod (Value.float _ _) (Value.float _ _)) _ _ _); (k_here; refine mod_ff zero1 ?_)) | ((with_reducible show wpAny _ _ (binaryOp Operator.Div (Value.float _ _) (Value.float _ _)) _ _ _); (k_here; first | refine div_ff (by assumption) ?_ | refine div_ff zero6 ?_)) | walk1) | (leave1; walk_say "STEP leave1"; try dsimp only))
  · exact hh _ _ _ (rgbE1 (by assumption) (by assumption)) _ _ _ _ _ _ (fun b o e => Fr.keep (by assumption) b o e) (leLt hL' (by assumption)) (News.get (by assumption) (List.Mem.head _))
  · exact hh _ _ _ (rgbE2 (by assumption) (by assumption) (by assumption)) _ _ _ _ _ _ (fun b o e => Fr.keep (by assumption) b o e) (leLt hL' (by assumption)) (News.get (by assumption) (List.Mem.head _))
  · exact hh _ _ _ (rgbE3 (by assumption) (by assumption) (by assumption)) _ _ _ _ _ _ (fun b o e => Fr.keep (by assumption) b o e) (leLt hL' (by assumption)) (News.get (by assumption) (List.Mem.head _))
end Mine
end
section
open PySem
set_option maxRecDepth 100000
namespace Mine
theorem inf6 : ∀ n : Nat, n < 64 → Float64.isInf (Float64.ofFrac false n 6) = false := by decide +kernel
theorem inf1024 : ∀ n : Nat, n < 1000 → Float64.isInf (Float64.ofFrac false n 1024) = false := by decide +kernel
theorem mul6 : ∀ n : Nat, n < 64 → Float64.mul (Float64.ofFrac false n 6) fl6 = Float64.ofInt (n : Int) := by decide +kernel
end Mine
end
section
open PySem PySem.W PySem.Calls PyProof.Rows
set_option maxRecDepth 100000
set_option maxHeartbeats 8000000
namespace Mine
theorem allLt_ne {d : Nat} : ∀ {l : List (Addr × Obj)}, AllLt d l → ∀ p ∈ l, p.1 ≠ d
  | [], _ => fun _ h => nomatch h
  | q :: r, h => fun p hp => by
    rcases List.mem_cons.mp hp with rfl | hp
    · exact Nat.ne_of_lt h.1
    · exact allLt_ne h.2 p hp
theorem over3 (m : Str → Option Value) (a b c : Str) (y : Str) : m y = if y = a then m a else if y = b then m b else if y = c then m c else m y := by
  by_cases h1 : y = a
  · rw [if_pos h1, h1]
  · rw [if_neg h1]
    by_cases h2 : y = b
    · rw [if_pos h2, h2]
    · rw [if_neg h2]
      by_cases h3 : y = c
      · rw [if_pos h3, h3]
      · rw [if_neg h3]
theorem over3b {a b c y : Str} {A B C A' B' C' M : Option Value} : (if y = a then A else if y = b then B else if y = c then C else if y = a then A' else if y = b then B' else if y = c then C' else M) = if y = a then A else if y = b then B else if y = c then C else M := by
  by_cases h1 : y = a
  · simp only [if_pos h1]
  · by_cases h2 : y = b
    · simp only [if_neg h1, if_pos h2]
    · by_cases h3 : y = c
      · simp only [if_neg h1, if_neg h2, if_pos h3]
      · simp only [if_neg h1, if_neg h2, if_neg h3]
theorem fdivN (a b : Nat) : (a : Int).fdiv (b : Int) = ((a / b : Nat) : Int) := by
  rw [Int.fdiv_eq_ediv_of_nonneg _ (Int.natCast_nonneg _)]; simp
theorem fmodN (a b : Nat) : (a : Int).fmod (b : Int) = ((a % b : Nat) : Int) := by
  rw [Int.fmod_eq_emod_of_nonneg _ (Int.natCast_nonneg _)]; simp
theorem dmp_step {n a b j r : Nat} (hb : 0 < b) (hr : a / 2 ^ (n * (j + 1)) % b = r) :
    (r * 2 ^ n + a / 2 ^ (n * j) % 2 ^ n) % b = a / 2 ^ (n * j) % b ∧ (r * 2 ^ n + a / 2 ^ (n * j) % 2 ^ n) / b < 2 ^ n ∧ (r * 2 ^ n + a / 2 ^ (n * j) % 2 ^ n) / b + 2 ^ n * (a / 2 ^ (n * (j + 1)) / b) = a / 2 ^ (n * j) / b := by
  have e1 : a / 2 ^ (n * (j + 1)) = a / 2 ^ (n * j) / 2 ^ n := by rw [Nat.mul_succ, Nat.pow_add, Nat.div_div_eq_div_mul]
  rw [e1] at hr ⊢
  generalize a / 2 ^ (n * j) = x at *
  have h1 := Nat.div_add_mod x (2 ^ n)
  have h2 := Nat.div_add_mod (x / 2 ^ n) b
  rw [hr] at h2
  have hrb : r < b := hr ▸ Nat.mod_lt _ hb
  have hm := Nat.mod_lt x (Nat.two_pow_pos n)
  generalize x / 2 ^ n / b = y at *
  generalize x % 2 ^ n = d at *
  have hx : x = b * (2 ^ n * y) + (r * 2 ^ n + d) := by
    rw [← h1, ← h2, Nat.mul_add, Nat.add_assoc, ← Nat.mul_assoc, ← Nat.mul_assoc, Nat.mul_comm (2 ^ n) b, Nat.mul_comm (2 ^ n) r]
  refine ⟨?_, ?_, ?_⟩
  · rw [hx, Nat.mul_add_mod]
  · refine Nat.div_lt_of_lt_mul ?_
    have : (r + 1) * 2 ^ n ≤ b * 2 ^ n := Nat.mul_le_mul_right _ hrb
    rw [Nat.add_mul, Nat.one_mul] at this
    lia
  · rw [hx, Nat.mul_add_div hb]; lia
theorem ints_snoc {x : Int} {u : Tok} : ∀ {vs : List Value} {ns : List Int}, IntsAre vs ns → IntsAre (vs ++ [.int x u]) (ns ++ [x])
  | _, _, .nil => .cons x u .nil
  | _, _, .cons i t h => .cons i t (ints_snoc h)
theorem frExtBut {h₀ h h' : Heap} {L d : Addr} {m : Str → Option Value} (F : Fr h₀ L h m) (x : Heap.ExtBut d h h') (hd : d ≠ L ∧ h₀.get? d = none) : Fr h₀ L h' m := by
  obtain ⟨oL, a1, a2, hoL, a3⟩ := F.ns
  refine ⟨⟨oL, a1, a2, x _ _ hd.1.symm hoL, a3⟩, fun b o e => x _ _ (fun q => ?_) (F.keep b o e), F.above⟩
  rw [q, hd.2] at e; cases e
theorem ints_rev {vs : List Value} {ns : List Int} (h : IntsAre vs ns) : IntsAre vs.reverse ns.reverse := by
  induction h with
  | nil => exact .nil
  | cons i t h ih => rw [List.reverse_cons, List.reverse_cons]; exact ints_snoc ih
/-- what holds between the turns of _divmod_pos; k: the figures to come -/
inductive DmpInv (base : Heap) (L : Addr) (m₀ : Str → Option Value) (I lq la : Addr) (avs : List Value) (ae : Nat) (tail : List (Addr × Obj)) (S : Shared) (a b n cnt : Nat) (k : Nat) (s' : Shared) : Prop
  | mk (h' : Heap) (tk' : Nat) (oI : Obj) (qs : List Nat) (qvs : List Value) (qe r : Nat) (tr : Tok) (uq ua : Option Value)
    (h1 : s' = { S with heap := h', toks := tk' })
    (h2 : Fr base L h' (fun y => if y = Str.ofString "r" then some (.int (r : Int) tr) else if y = Str.ofString "q_digit" then uq else if y = Str.ofString "a_digit" then ua else m₀ y))
    (h3 : News base L h' ((I, oI) :: (lq, W.listOf qvs.toArray qe) :: (la, W.listOf avs.toArray ae) :: tail))
    (h4 : oI.cls = .type "list_reverseiterator")
    (h5 : oI.data = .fields #[.ref la, rawInt ((k : Int) - 1)])
    (h6 : IntsAre qvs (castL qs))
    (h7 : k ≤ cnt)
    (h8 : qs.length = cnt - k)
    (h9 : r = a / 2 ^ (n * k) % b)
    (h10 : valN n qs.reverse = a / 2 ^ (n * k) / b)
    (h11 : ∀ q ∈ qs, q < 2 ^ n) : DmpInv base L m₀ I lq la avs ae tail S a b n cnt k s'
section
local macro_rules | `(tactic| k_all) => `(tactic| assumption)
variable {w : World} {A : Around} {s : Shared} {p : Program} {loose : List Str} {mean : ExcName → Option Value} {mg mb : Str → Option Value} {Q E : Value → Shared → Prop}
abbrev bitsOf (b : Nat) : Nat := Builtin.Int.intBits (b : Int)
theorem dmp_spec {a b : Nat} {t1 t2 : Tok} (G : Gr w p loose mean mg mb s.heap) (hd : A.depth + 200 < recursionLimit) (hA : A.handled = none) (hb : 0 < b) (hn : 0 < bitsOf b) (hn2 : bitsOf b ≤ 64) (hc : cntOf a (bitsOf b) ≤ 100)
    (h : ∀ t h' tk' u1 u2, After s.heap h' → s.heap.objs.size ≤ t → h'.get? t = some (tupO #[.int ((a / b : Nat) : Int) u1, .int ((a % b : Nat) : Int) u2]) → Q (.ref t) { s with heap := h', toks := tk' }) :
    wpAny (model PySem.Challenge.rw_rl0106_01.row.prog w) A (call (.ref 71) [.int (a : Int) t1, .int (b : Int) t2]) Q E s := by
  have X := G.X
  have T := G.T
  obtain ⟨p24, T24⟩ := G.tabs.t24
  obtain ⟨p52, T52⟩ := G.tabs.t52
  obtain ⟨p59, T59⟩ := G.tabs.t59
  revert X; k_fill; intro X
  refine wpAny_call ?_
  k_dflt (refine' enterT G T24 T52 T59 ?k8 ?k6 ?k7 ?k9 ?kB ?_ ?c2 ?c3 ?c4 ?c5; (case k6 => k_is); (case k7 => k_is); (case k8 => lia); (case k9 => exact BindsTo.of_eq rfl); (case c5 => decide); (case kB => exact locs rfl); (case c2 => exact rfl); (case c3 => exact rfl); (case c4 => exact rfl); k_whole)
  intro L' h' F' N' hL' l1
  have TL := TailIs.of T24 T52 T59
  generalize [(59, tabObj p59), (52, tabObj p52), (24, tabObj p24)] = tail at N' TL
  (try dsimp only)
  replace h := Hide.mk h
  repeat' (first | (k_unfold; (try dsimp only)) | ((fail_if_success (with_reducible show wpAny _ _ (exec (Stmt.For _ _ _ _ _) _) _ _ _)); (fail_if_success (with_reducible show wpAny _ _ (call (Value.ref _) _) _ _ _)); first | (k_end; wrow_close) | ((with_reducible show wpAny _ _ (binaryOp Operator.Add (Value.int _ _) (Value.int _ _)) _ _ _); (k_here; with_reducible refine addNN ?_)) | (k_here; (with_reducible show wpAny _ _ (assign (Expr.Tuple _ _ _) _ (Value.ref _)) _ _ _); k_dflt (refine' unpackN_ ?k1 ?k2 ?k3 ?k4 ?k5 ?k6 ?_; (case k1 => k_asm); (case k2 => k_asm); (case k3 => exact News.isTup (by k_asm) (by k_mem)); (case k4 => assumption); (case k5 => exact rfl); (case k6 => exact rfl)); intro _ _ _; (try k_sweep)) | walk1 | (dsimp only; first | ((with_reducible show wpAny _ _ (binaryOp Operator.Add (Value.int _ _) (Value.int _ _)) _ _ _); (k_here; with_reducible refine addNN ?_)) | (k_here; (with_reducible show wpAny _ _ (assign (Expr.Tuple _ _ _) _ (Value.ref _)) _ _ _); k_dflt (refine' unpackN_ ?k1 ?k2 ?k3 ?k4 ?k5 ?k6 ?_; (case k1 => k_asm); (case k2 => k_asm); (case k3 => exact News.isTup (by k_asm) (by k_mem)); (case k4 => assumption); (case k5 => exact rfl); (case k6 => exact rfl)); intro _ _ _; (try k_sweep)) | walk1) | (leave1; walk_say "STEP leave1"; try dsimp only)))
  refine i2d_spec (G.after (TL.after (rest := []) (by assumption) (by assumption) hL')) (by simp only [depth_deeper]; lia) hn hn2 hc ?_
  intro la h2 tk2 avs ae A2 hla hget hds
  obtain ⟨ds, hI, hfill⟩ := hds
  have hLla : @LT.lt Nat _ L' la := Nat.lt_of_lt_of_le (Fr.ns (by assumption : Fr (hid s.heap) L' _ _)).lt hla
  obtain ⟨tail2, F2, N2, TL2, nt2⟩ := after_tail (rest := []) (by assumption) (by assumption) TL (fun _ h => nomatch h) l1.1 A2
  have N3 := newsAdd (by assumption) N2 hget hla
  simp only [List.nil_append] at N3
  clear N2 TL nt2
  (try dsimp only)
  k_sweep
  repeat' (first | (k_unfold; (try dsimp only)) | ((fail_if_success (with_reducible show wpAny _ _ (exec (Stmt.For _ _ _ _ _) _) _ _ _)); (fail_if_success (with_reducible show wpAny _ _ (call (Value.ref _) _) _ _ _)); first | (k_end; wrow_close) | ((with_reducible show wpAny _ _ (binaryOp Operator.Add (Value.int _ _) (Value.int _ _)) _ _ _); (k_here; with_reducible refine addNN ?_)) | (k_here; (with_reducible show wpAny _ _ (assign (Expr.Tuple _ _ _) _ (Value.ref _)) _ _ _); k_dflt (refine' unpackN_ ?k1 ?k2 ?k3 ?k4 ?k5 ?k6 ?_; (case k1 => k_asm); (case k2 => k_asm); (case k3 => exact News.isTup (by k_asm) (by k_mem)); (case k4 => assumption); (case k5 => exact rfl); (case k6 => exact rfl)); intro _ _ _; (try k_sweep)) | walk1 | (dsimp only; first | ((with_reducible show wpAny _ _ (binaryOp Operator.Add (Value.int _ _) (Value.int _ _)) _ _ _); (k_here; with_reducible refine addNN ?_)) | (k_here; (with_reducible show wpAny _ _ (assign (Expr.Tuple _ _ _) _ (Value.ref _)) _ _ _); k_dflt (refine' unpackN_ ?k1 ?k2 ?k3 ?k4 ?k5 ?k6 ?_; (case k1 => k_asm); (case k2 => k_asm); (case k3 => exact News.isTup (by k_asm) (by k_mem)); (case k4 => assumption); (case k5 => exact rfl); (case k6 => exact rfl)); intro _ _ _; (try k_sweep)) | walk1) | (leave1; walk_say "STEP leave1"; try dsimp only)))
  refine forF ?_
  repeat' (first | (k_unfold; (try dsimp only)) | ((fail_if_success (with_reducible show wpAny _ _ (pyIter _) _ _ _)); first | (k_end; wrow_close) | ((with_reducible show wpAny _ _ (binaryOp Operator.Add (Value.int _ _) (Value.int _ _)) _ _ _); (k_here; with_reducible refine addNN ?_)) | (k_here; (with_reducible show wpAny _ _ (assign (Expr.Tuple _ _ _) _ (Value.ref _)) _ _ _); k_dflt (refine' unpackN_ ?k1 ?k2 ?k3 ?k4 ?k5 ?k6 ?_; (case k1 => k_asm); (case k2 => k_asm); (case k3 => exact News.isTup (by k_asm) (by k_mem)); (case k4 => assumption); (case k5 => exact rfl); (case k6 => exact rfl)); intro _ _ _; (try k_sweep)) | walk1 | (dsimp only; first | ((with_reducible show wpAny _ _ (binaryOp Operator.Add (Value.int _ _) (Value.int _ _)) _ _ _); (k_here; with_reducible refine addNN ?_)) | (k_here; (with_reducible show wpAny _ _ (assign (Expr.Tuple _ _ _) _ (Value.ref _)) _ _ _); k_dflt (refine' unpackN_ ?k1 ?k2 ?k3 ?k4 ?k5 ?k6 ?_; (case k1 => k_asm); (case k2 => k_asm); (case k3 => exact News.isTup (by k_asm) (by k_mem)); (case k4 => assumption); (case k5 => exact rfl); (case k6 => exact rfl)); intro _ _ _; (try k_sweep)) | walk1) | (leave1; walk_say "STEP leave1"; try dsimp only)))
  rename_i lq _ llq _ I hI0 FI NI lI
  refine wpAny_pyIter_revIter ⟨_, NI.get (.head _), rfl, rfl⟩ ?_
  have hds := hI.length
  have hcl : ds.length = cntOf a (bitsOf b) := by rw [hfill.1, List.length_replicate]
  have nlq : ∀ q ∈ tail2, q.1 ≠ lq := allLt_ne llq.2
  have nI : ∀ q ∈ tail2, q.1 ≠ I := allLt_ne lI.2.2
  obtain ⟨m₀, hm₀, FI⟩ : ∃ m₀, m₀ = _ ∧ Fr (hid s.heap) L' hI0 m₀ := ⟨_, rfl, FI⟩
  replace hfill := Hide.mk hfill
  refine ⟨DmpInv (hid s.heap) L' m₀ I lq la avs ae tail2 s a b (bitsOf b) (cntOf a (bitsOf b)), cntOf a (bitsOf b), ?_, ?_⟩
  · obtain ⟨tr, htr⟩ : ∃ tr, m₀ (Str.ofString "r") = some (.int ((0 : Nat) : Int) tr) := by subst hm₀; exact ⟨_, rfl⟩
    refine ⟨hI0, _, _, [], [], 0, 0, tr, m₀ (Str.ofString "q_digit"), m₀ (Str.ofString "a_digit"), rfl, frCongr FI ?_, NI, rfl, ?_, .nil, Nat.le_refl _, by simp, ?_, ?_, fun _ h => nomatch h⟩
    · intro y
      rw [← htr]
      exact over3 _ _ _ _ _
    · show _ = Data.fields #[.ref la, rawInt ((cntOf a (bitsOf b) : Int) - 1)]
      rw [← hcl, ← hds]; rfl
    · rw [Nat.div_eq_of_lt (bits_lt hn)]; simp
    · rw [Nat.div_eq_of_lt (bits_lt hn)]; simp [valN]
  · rintro k s' ⟨h5, tk5, oI, qs, qvs, qe, r, tr, uq, ua, rfl, F5, N5, ci, di, Iq, hk, hql, hr, hv, hq⟩
    rcases Nat.eq_zero_or_pos k with hk0 | hk0
    · subst hk0
      have e2 : r = a % b := by rw [hr]; simp
      have e1 : valN (bitsOf b) qs.reverse = a / b := by rw [hv]; simp
      refine wpAny_pyNext_rev_end hA ⟨oI, N5.get (.head _), ci, di⟩ ?_
      intro h6 x6
      dsimp only
      have F6 : Fr (hid s.heap) L' h6 _ := frExtBut F5 x6 (N5 _ (.head _)).2
      have N6 : News (hid s.heap) L' h6 ((lq, W.listOf qvs.toArray qe) :: (la, W.listOf avs.toArray ae) :: tail2) := fun q hq => by
        have z := N5 q (.tail _ hq)
        refine ⟨x6 _ _ (fun e => ?_) z.1, z.2⟩
        rcases List.mem_cons.mp hq with rfl | hq
        · exact absurd lI.1 (by rw [show lq = I from e]; exact Nat.lt_irrefl _)
        · rcases List.mem_cons.mp hq with rfl | hq
          · exact absurd lI.2.1 (by rw [show la = I from e]; exact Nat.lt_irrefl _)
          · exact nI q hq e
      clear F5 N5
      replace hr := Hide.mk hr
      replace hv := Hide.mk hv
      replace hq := Hide.mk hq
      subst hm₀
      rw [e2] at F6
      repeat' (first | (k_unfold; (try dsimp only)) | ((fail_if_success (with_reducible show wpAny _ _ (call (Value.ref _) _) _ _ _)); first | (k_end; wrow_close) | ((with_reducible show wpAny _ _ (binaryOp Operator.Add (Value.int _ _) (Value.int _ _)) _ _ _); (k_here; with_reducible refine addNN ?_)) | (k_here; (with_reducible show wpAny _ _ (assign (Expr.Tuple _ _ _) _ (Value.ref _)) _ _ _); k_dflt (refine' unpackN_ ?k1 ?k2 ?k3 ?k4 ?k5 ?k6 ?_; (case k1 => k_asm); (case k2 => k_asm); (case k3 => exact News.isTup (by k_asm) (by k_mem)); (case k4 => assumption); (case k5 => exact rfl); (case k6 => exact rfl)); intro _ _ _; (try k_sweep)) | walk1 | (dsimp only; first | ((with_reducible show wpAny _ _ (binaryOp Operator.Add (Value.int _ _) (Value.int _ _)) _ _ _); (k_here; with_reducible refine addNN ?_)) | (k_here; (with_reducible show wpAny _ _ (assign (Expr.Tuple _ _ _) _ (Value.ref _)) _ _ _); k_dflt (refine' unpackN_ ?k1 ?k2 ?k3 ?k4 ?k5 ?k6 ?_; (case k1 => k_asm); (case k2 => k_asm); (case k3 => exact News.isTup (by k_asm) (by k_mem)); (case k4 => assumption); (case k5 => exact rfl); (case k6 => exact rfl)); intro _ _ _; (try k_sweep)) | walk1) | (leave1; walk_say "STEP leave1"; try dsimp only)))
      (try dsimp only)
      refine kl_reverse (its := qvs.toArray) (l := qvs.reverse) (by assumption) (by assumption) (by simp) (Upd.head (List.forall_mem_cons.mpr ⟨?_, nlq⟩)) ?_ ?_
      · exact Nat.ne_of_lt llq.1
      · have := Iq.length
        rw [sizeLine_eq]
        simp at this ⊢
        lia
      intro h8 F8 N8
      (try dsimp only)
      k_sweep
      repeat' (first | (k_unfold; (try dsimp only)) | ((fail_if_success (with_reducible show wpAny _ _ (call (Value.ref _) _) _ _ _)); first | (k_end; wrow_close) | ((with_reducible show wpAny _ _ (binaryOp Operator.Add (Value.int _ _) (Value.int _ _)) _ _ _); (k_here; with_reducible refine addNN ?_)) | (k_here; (with_reducible show wpAny _ _ (assign (Expr.Tuple _ _ _) _ (Value.ref _)) _ _ _); k_dflt (refine' unpackN_ ?k1 ?k2 ?k3 ?k4 ?k5 ?k6 ?_; (case k1 => k_asm); (case k2 => k_asm); (case k3 => exact News.isTup (by k_asm) (by k_mem)); (case k4 => assumption); (case k5 => exact rfl); (case k6 => exact rfl)); intro _ _ _; (try k_sweep)) | walk1 | (dsimp only; first | ((with_reducible show wpAny _ _ (binaryOp Operator.Add (Value.int _ _) (Value.int _ _)) _ _ _); (k_here; with_reducible refine addNN ?_)) | (k_here; (with_reducible show wpAny _ _ (assign (Expr.Tuple _ _ _) _ (Value.ref _)) _ _ _); k_dflt (refine' unpackN_ ?k1 ?k2 ?k3 ?k4 ?k5 ?k6 ?_; (case k1 => k_asm); (case k2 => k_asm); (case k3 => exact News.isTup (by k_asm) (by k_mem)); (case k4 => assumption); (case k5 => exact rfl); (case k6 => exact rfl)); intro _ _ _; (try k_sweep)) | walk1) | (leave1; walk_say "STEP leave1"; try dsimp only)))
      have hlq59 : @LT.lt Nat _ 59 lq := Nat.lt_trans l1.1 (Nat.lt_trans hLla llq.1)
      have hla59 : @LT.lt Nat _ 59 la := Nat.lt_trans l1.1 hLla
      refine d2i_spec (ds := qs.reverse) (G.after (TL2.after (rest := [_, _]) (by assumption) (by assumption) hL')) (by simp only [depth_deeper]; lia) hn hn2 (hideAll_get _ (News.get (by assumption) (.head _)) (not_tab hlq59)) (by rw [castL, List.map_reverse]; exact ints_rev Iq) (fun d hd => hq.out d (List.mem_reverse.mp hd)) (by rw [List.length_reverse, hql]; exact Nat.le_trans (Nat.sub_le _ _) hc) ?_
      intro u9 h9 tk9 A9
      rw [e1]
      obtain ⟨tail3, F9, N9, TL3, nt3⟩ := after_tail (rest := [_, _]) (by assumption) (by assumption) TL2 (by
        intro q hq
        simp only [List.mem_cons, List.not_mem_nil, or_false] at hq
        rcases hq with rfl | rfl
        · exact hlq59
        · exact hla59) l1.1 A9
      simp only [List.cons_append, List.nil_append] at N9
      (try dsimp only)
      k_sweep
      repeat' (first | (k_unfold; (try dsimp only)) | ((fail_if_success (with_reducible show wpAny _ _ (call (Value.ref _) _) _ _ _)); first | (k_end; wrow_close) | ((with_reducible show wpAny _ _ (binaryOp Operator.Add (Value.int _ _) (Value.int _ _)) _ _ _); (k_here; with_reducible refine addNN ?_)) | (k_here; (with_reducible show wpAny _ _ (assign (Expr.Tuple _ _ _) _ (Value.ref _)) _ _ _); k_dflt (refine' unpackN_ ?k1 ?k2 ?k3 ?k4 ?k5 ?k6 ?_; (case k1 => k_asm); (case k2 => k_asm); (case k3 => exact News.isTup (by k_asm) (by k_mem)); (case k4 => assumption); (case k5 => exact rfl); (case k6 => exact rfl)); intro _ _ _; (try k_sweep)) | walk1 | (dsimp only; first | ((with_reducible show wpAny _ _ (binaryOp Operator.Add (Value.int _ _) (Value.int _ _)) _ _ _); (k_here; with_reducible refine addNN ?_)) | (k_here; (with_reducible show wpAny _ _ (assign (Expr.Tuple _ _ _) _ (Value.ref _)) _ _ _); k_dflt (refine' unpackN_ ?k1 ?k2 ?k3 ?k4 ?k5 ?k6 ?_; (case k1 => k_asm); (case k2 => k_asm); (case k3 => exact News.isTup (by k_asm) (by k_mem)); (case k4 => assumption); (case k5 => exact rfl); (case k6 => exact rfl)); intro _ _ _; (try k_sweep)) | walk1) | (leave1; walk_say "STEP leave1"; try dsimp only)))
      exact h.out _ _ _ _ _ (TL3.after (rest := [_, _, _]) (by assumption) (by assumption) hL') (leLt hL' (by assumption)) (News.get (by assumption) (.head _))
    · obtain ⟨j, rfl⟩ : ∃ j, k = j + 1 := ⟨k - 1, by lia⟩
      have hj : j < ds.length := by lia
      obtain ⟨tx, hx⟩ := hI.get j ds[j] (by simp [hj])
      refine wpAny_pyNext_rev_item (i := j) (items := avs.toArray) (x := .int ds[j] tx) ⟨oI, N5.get (.head _), ci, by rw [di]; simp⟩ (PySem.IsL.isList (n := ae) (N5.get (.tail _ (.tail _ (.head _))))) (by simpa using hx) ?_
      intro h6 it6 sb6
      obtain ⟨oI6, g6, ci6, di6⟩ := it6
      dsimp only
      have F6 : Fr (hid s.heap) L' h6 _ := F5.change sb6 (N5 _ (.head _)).2.1 (N5 _ (.head _)).2.2
      have N6 : News (hid s.heap) L' h6 ((I, oI6) :: (lq, W.listOf qvs.toArray qe) :: (la, W.listOf avs.toArray ae) :: tail2) := fun q hq => by
        rcases List.mem_cons.mp hq with rfl | hq
        · exact ⟨g6, (N5 _ (.head _)).2⟩
        · have z := N5 q (.tail _ hq)
          refine ⟨(sb6.2 _ fun e => ?_).trans z.1, z.2⟩
          rcases List.mem_cons.mp hq with rfl | hq
          · exact absurd lI.1 (by rw [show lq = I from e]; exact Nat.lt_irrefl _)
          · rcases List.mem_cons.mp hq with rfl | hq
            · exact absurd lI.2.1 (by rw [show la = I from e]; exact Nat.lt_irrefl _)
            · exact nI q hq e
      have hd6 : ds[j] = ((a / 2 ^ (bitsOf b * j) % 2 ^ bitsOf b : Nat) : Int) := by
        have := hfill.out.2 j (by rw [List.length_replicate, ← hcl]; exact hj)
        rw [if_pos ⟨Nat.zero_le _, hcl ▸ hj⟩, List.getD_eq_getElem?_getD, List.getElem?_eq_getElem hj] at this
        simpa using this
      rw [hd6]
      clear F5 N5 hd6 hx
      replace hr := Hide.mk hr
      replace hv := Hide.mk hv
      replace hq := Hide.mk hq
      subst hm₀
      repeat' (first | (k_unfold; (try dsimp only)) | ((fail_if_success (with_reducible show wpAny _ _ (binaryOp Operator.LShift _ _) _ _ _)); (fail_if_success (with_reducible show wpAny _ _ (call (Value.ref _) _) _ _ _)); first | (k_end; wrow_close) | ((with_reducible show wpAny _ _ (binaryOp Operator.Add (Value.int _ _) (Value.int _ _)) _ _ _); (k_here; with_reducible refine addNN ?_)) | (k_here; (with_reducible show wpAny _ _ (assign (Expr.Tuple _ _ _) _ (Value.ref _)) _ _ _); k_dflt (refine' unpackN_ ?k1 ?k2 ?k3 ?k4 ?k5 ?k6 ?_; (case k1 => k_asm); (case k2 => k_asm); (case k3 => exact News.isTup (by k_asm) (by k_mem)); (case k4 => assumption); (case k5 => exact rfl); (case k6 => exact rfl)); intro _ _ _; (try k_sweep)) | walk1 | (dsimp only; first | ((with_reducible show wpAny _ _ (binaryOp Operator.Add (Value.int _ _) (Value.int _ _)) _ _ _); (k_here; with_reducible refine addNN ?_)) | (k_here; (with_reducible show wpAny _ _ (assign (Expr.Tuple _ _ _) _ (Value.ref _)) _ _ _); k_dflt (refine' unpackN_ ?k1 ?k2 ?k3 ?k4 ?k5 ?k6 ?_; (case k1 => k_asm); (case k2 => k_asm); (case k3 => exact News.isTup (by k_asm) (by k_mem)); (case k4 => assumption); (case k5 => exact rfl); (case k6 => exact rfl)); intro _ _ _; (try k_sweep)) | walk1) | (leave1; walk_say "STEP leave1"; try dsimp only)))
      have hb64 : b < 2 ^ 64 := by
        have := intBits_le_iff.mp hn2
        simpa using this
      have hrb : r < b := by rw [hr.out]; exact Nat.mod_lt _ hb
      refine shlNN (m := 64) (Nat.lt_trans hrb hb64) (by decide) (Nat.le_trans hn2 (by decide)) ?_
      (try dsimp only)
      repeat' (first | (k_unfold; (try dsimp only)) | ((fail_if_success (with_reducible show wpAny _ _ (binaryOp Operator.LShift _ _) _ _ _)); (fail_if_success (with_reducible show wpAny _ _ (call (Value.ref _) _) _ _ _)); first | (k_end; wrow_close) | ((with_reducible show wpAny _ _ (binaryOp Operator.Add (Value.int _ _) (Value.int _ _)) _ _ _); (k_here; with_reducible refine addNN ?_)) | (k_here; (with_reducible show wpAny _ _ (assign (Expr.Tuple _ _ _) _ (Value.ref _)) _ _ _); k_dflt (refine' unpackN_ ?k1 ?k2 ?k3 ?k4 ?k5 ?k6 ?_; (case k1 => k_asm); (case k2 => k_asm); (case k3 => exact News.isTup (by k_asm) (by k_mem)); (case k4 => assumption); (case k5 => exact rfl); (case k6 => exact rfl)); intro _ _ _; (try k_sweep)) | walk1 | (dsimp only; first | ((with_reducible show wpAny _ _ (binaryOp Operator.Add (Value.int _ _) (Value.int _ _)) _ _ _); (k_here; with_reducible refine addNN ?_)) | (k_here; (with_reducible show wpAny _ _ (assign (Expr.Tuple _ _ _) _ (Value.ref _)) _ _ _); k_dflt (refine' unpackN_ ?k1 ?k2 ?k3 ?k4 ?k5 ?k6 ?_; (case k1 => k_asm); (case k2 => k_asm); (case k3 => exact News.isTup (by k_asm) (by k_mem)); (case k4 => assumption); (case k5 => exact rfl); (case k6 => exact rfl)); intro _ _ _; (try k_sweep)) | walk1) | (leave1; walk_say "STEP leave1"; try dsimp only)))
      have hx64 : r * 2 ^ bitsOf b + a / 2 ^ (bitsOf b * j) % 2 ^ bitsOf b < 2 ^ 200 := by
        have h1 : r * 2 ^ bitsOf b ≤ 2 ^ 64 * 2 ^ 64 := Nat.mul_le_mul (Nat.le_of_lt (Nat.lt_trans hrb hb64)) (Nat.pow_le_pow_right (by decide) hn2)
        have h2 : a / 2 ^ (bitsOf b * j) % 2 ^ bitsOf b < 2 ^ 64 := Nat.lt_of_lt_of_le (Nat.mod_lt _ (Nat.two_pow_pos _)) (Nat.pow_le_pow_right (by decide) hn2)
        have h3 : (2 : Nat) ^ 64 * 2 ^ 64 + 2 ^ 64 < 2 ^ 200 := by decide
        lia
      refine div2n1n_spec (X.keeps (Fr.keep (by assumption))) (T.keeps (Fr.keep (by assumption))) (by simp only [depth_deeper]; lia) ?_ (by lia) (by simpa using hb64) ?_
      · have := bitsLe hx64
        have hp : (0 : Int) ≤ (bitsOf b : Int) := Int.natCast_nonneg _
        refine Int.le_trans (Int.sub_le_self _ hp) ?_
        exact Int.le_trans (Int.ofNat_le.mpr this) (by decide)
      intro tt h7 tk7 u1 u2 k7 ht7 g7
      rw [fdivN, fmodN] at g7
      have F7 := frStays (by assumption) k7
      have N7 := newsAdd (by assumption) (newsStays (by assumption) k7) g7 ht7
      have lt7 := newsLt (by assumption : News (hid s.heap) L' _ _) ht7
      k_lt lt7
      (try dsimp only)
      k_sweep
      clear hx64
      repeat' (first | (k_unfold; (try dsimp only)) | ((fail_if_success (with_reducible show Exists _)); (fail_if_success (with_reducible show wpAny _ _ (binaryOp Operator.LShift _ _) _ _ _)); (fail_if_success (with_reducible show wpAny _ _ (call (Value.ref _) _) _ _ _)); first | (k_end; wrow_close) | ((with_reducible show wpAny _ _ (binaryOp Operator.Add (Value.int _ _) (Value.int _ _)) _ _ _); (k_here; with_reducible refine addNN ?_)) | (k_here; (with_reducible show wpAny _ _ (assign (Expr.Tuple _ _ _) _ (Value.ref _)) _ _ _); k_dflt (refine' unpackN_ ?k1 ?k2 ?k3 ?k4 ?k5 ?k6 ?_; (case k1 => k_asm); (case k2 => k_asm); (case k3 => exact News.isTup (by k_asm) (by k_mem)); (case k4 => assumption); (case k5 => exact rfl); (case k6 => exact rfl)); intro _ _ _; (try k_sweep)) | walk1 | (dsimp only; first | ((with_reducible show wpAny _ _ (binaryOp Operator.Add (Value.int _ _) (Value.int _ _)) _ _ _); (k_here; with_reducible refine addNN ?_)) | (k_here; (with_reducible show wpAny _ _ (assign (Expr.Tuple _ _ _) _ (Value.ref _)) _ _ _); k_dflt (refine' unpackN_ ?k1 ?k2 ?k3 ?k4 ?k5 ?k6 ?_; (case k1 => k_asm); (case k2 => k_asm); (case k3 => exact News.isTup (by k_asm) (by k_mem)); (case k4 => assumption); (case k5 => exact rfl); (case k6 => exact rfl)); intro _ _ _; (try k_sweep)) | walk1) | (leave1; walk_say "STEP leave1"; try dsimp only)))
      refine ⟨j, Nat.lt_succ_self _, ?_⟩
      have hstep := dmp_step (n := bitsOf b) (a := a) (b := b) (j := j) hb (by rw [← hr.out])
      refine ⟨_, _, oI6, qs ++ [(r * 2 ^ bitsOf b + a / 2 ^ (bitsOf b * j) % 2 ^ bitsOf b) / b], qvs ++ [.int (((r * 2 ^ bitsOf b + a / 2 ^ (bitsOf b * j) % 2 ^ bitsOf b) / b : Nat) : Int) u1], qe + 1, _, _, _, _, rfl, frCongr (by assumption) (fun y => over3b), ?_, ci6, ?_, ?_, by lia, ?_, ?_, ?_, ?_⟩
      · intro q9 hq9
        refine (by assumption : News (hid s.heap) L' _ _) q9 (.tail _ ?_)
        show q9 ∈ (_ : List (Addr × Obj))
        simpa using hq9
      · exact di6
      · have e9 : castL (qs ++ [(r * 2 ^ bitsOf b + a / 2 ^ (bitsOf b * j) % 2 ^ bitsOf b) / b]) = castL qs ++ [(((r * 2 ^ bitsOf b + a / 2 ^ (bitsOf b * j) % 2 ^ bitsOf b) / b : Nat) : Int)] := by simp [castL]
        rw [e9]
        exact ints_snoc Iq
      · rw [List.length_append, hql]; simp; lia
      · exact hstep.1
      · rw [List.reverse_append, List.reverse_singleton, List.singleton_append, valN, hv.out]; exact hstep.2.2
      · intro q9 hq9
        rcases List.mem_append.mp hq9 with hq9 | hq9
        · exact hq.out q9 hq9
        · rw [List.mem_singleton.mp hq9]; exact hstep.2.1
end
end Mine
end
section
open PySem PySem.W PySem.Calls PyProof.Rows
set_option maxRecDepth 100000
set_option maxHeartbeats 8000000
namespace Mine
theorem bits_pos {b : Nat} (h : 0 < b) : 0 < bitsOf b := by
  rcases Nat.eq_zero_or_pos (bitsOf b) with e | e
  · have := (intBits_le_iff (m := 0) (x := (b : Int))).mp (Nat.le_of_eq e)
    simp at this; lia
  · exact e
theorem cnt_le {a n : Nat} (hn : 0 < n) (ha : a < 2 ^ 100) : cntOf a n ≤ 100 := by
  have h1 := bitsLe ha
  unfold cntOf
  generalize Builtin.Int.intBits (a : Int) = k at *
  refine Nat.le_trans ?_ h1
  rcases Nat.eq_zero_or_pos k with rfl | hk
  · rw [Nat.div_eq_of_lt (by lia)]; exact Nat.le_refl _
  · refine Nat.div_le_of_le_mul ?_
    obtain ⟨n', rfl⟩ : ∃ n', n = n' + 1 := ⟨n - 1, by lia⟩
    obtain ⟨k', rfl⟩ : ∃ k', k = k' + 1 := ⟨k - 1, by lia⟩
    rw [Nat.add_mul, Nat.mul_add]
    have := Nat.zero_le (n' * k')
    lia
theorem neg_facts {a : Int} {b n : Nat} (hb : 0 < b) (e : a = -((n : Int) + 1)) : Builtin.bitNot (((n / b : Nat)) : Int) = a.fdiv b ∧ (b : Int) + Builtin.bitNot (((n % b : Nat)) : Int) = a.fmod b := by
  unfold Builtin.bitNot
  have hb' : (0 : Int) < b := by lia
  have h1 := Nat.div_add_mod n b
  have h2 := Nat.mod_lt n hb
  generalize n / b = q at *
  generalize n % b = r at *
  have h1' : (n : Int) = (b : Int) * (q : Int) + (r : Int) := by rw [← h1]; push_cast; rfl
  have h3 : a = ((b : Int) - 1 - (r : Int)) + (b : Int) * (-(q : Int) - 1) := by
    rw [e, h1', Int.mul_sub, Int.mul_neg]
    lia
  have hq : a.fdiv b = -(q : Int) - 1 := by
    rw [Int.fdiv_eq_ediv_of_nonneg _ (Int.le_of_lt hb'), h3, Int.add_mul_ediv_left _ _ (by lia), Int.ediv_eq_zero_of_lt (by lia) (by lia)]
    lia
  refine ⟨hq.symm, ?_⟩
  rw [Int.fmod_def, hq]
  generalize (b : Int) * (-(q : Int) - 1) = z at *
  lia
section
variable {w : World} {A : Around} {s : Shared} {p : Program} {loose : List Str} {mean : ExcName → Option Value} {mg mb : Str → Option Value} {Q E : Value → Shared → Prop}
theorem idm_pos {a b : Nat} {t1 t2 : Tok} (G : Gr w p loose mean mg mb s.heap) (hd : A.depth + 210 < recursionLimit) (hA : A.handled = none) (hb : 0 < b) (hb2 : b < 2 ^ 64) (ha : a < 2 ^ 100)
    (h : ∀ t h' tk' u1 u2, After s.heap h' → s.heap.objs.size ≤ t → h'.get? t = some (tupO #[.int ((a / b : Nat) : Int) u1, .int ((a % b : Nat) : Int) u2]) → Q (.ref t) { s with heap := h', toks := tk' }) :
    wpAny (model PySem.Challenge.rw_rl0106_01.row.prog w) A (call (.ref 78) [.int (a : Int) t1, .int (b : Int) t2]) Q E s := by
  have X := G.X
  have T := G.T
  obtain ⟨p24, T24⟩ := G.tabs.t24
  obtain ⟨p52, T52⟩ := G.tabs.t52
  obtain ⟨p59, T59⟩ := G.tabs.t59
  revert X; k_fill; intro X
  refine wpAny_call ?_
  k_dflt (refine' enterT G T24 T52 T59 ?k8 ?k6 ?k7 ?k9 ?kB ?_ ?c2 ?c3 ?c4 ?c5; (case k6 => k_is); (case k7 => k_is); (case k8 => lia); (case k9 => exact BindsTo.of_eq rfl); (case c5 => decide); (case kB => exact locs rfl); (case c2 => exact rfl); (case c3 => exact rfl); (case c4 => exact rfl); k_whole)
  intro L' h' F' N' hL' l1
  have TL := TailIs.of T24 T52 T59
  generalize [(59, tabObj p59), (52, tabObj p52), (24, tabObj p24)] = tail at N' TL
  (try dsimp only)
  replace h := Hide.mk h
  replace ha := Hide.mk ha
  replace hb2 := Hide.mk hb2
  repeat' (first | (k_unfold; (try dsimp only)) | ((fail_if_success (with_reducible show wpAny _ _ (call (Value.ref _) _) _ _ _)); first | (k_end; wrow_close) | (k_here; (with_reducible show wpAny _ _ (assign (Expr.Tuple _ _ _) _ (Value.ref _)) _ _ _); k_dflt (refine' unpackN_ ?k1 ?k2 ?k3 ?k4 ?k5 ?k6 ?_; (case k1 => k_asm); (case k2 => k_asm); (case k3 => exact News.isTup (by k_asm) (by k_mem)); (case k4 => assumption); (case k5 => exact rfl); (case k6 => exact rfl)); intro _ _ _; (try k_sweep)) | walk1 | (dsimp only; first | (k_here; (with_reducible show wpAny _ _ (assign (Expr.Tuple _ _ _) _ (Value.ref _)) _ _ _); k_dflt (refine' unpackN_ ?k1 ?k2 ?k3 ?k4 ?k5 ?k6 ?_; (case k1 => k_asm); (case k2 => k_asm); (case k3 => exact News.isTup (by k_asm) (by k_mem)); (case k4 => assumption); (case k5 => exact rfl); (case k6 => exact rfl)); intro _ _ _; (try k_sweep)) | walk1) | (leave1; walk_say "STEP leave1"; try dsimp only)))
  · exfalso; lia
  · exfalso; lia
  · refine dmp_spec (G.after (TL.after (rest := []) (by assumption) (by assumption) hL')) (by simp only [depth_deeper]; lia) hA hb (bits_pos hb) (bitsLe hb2.out) (cnt_le (bits_pos hb) ha.out) ?_
    intro t h9 tk9 u1 u2 A9 ht9 g9
    exact h.out _ _ _ _ _ ((TL.after (rest := []) (by assumption) (by assumption) hL').trans A9) (Nat.le_trans (Nat.le_trans hL' (Nat.le_of_lt (Fr.ns (by assumption : Fr (hid s.heap) L' _ _)).lt)) ht9) g9

/-- a divisor above nought -/
theorem idm_posB {a : Int} {b : Nat} {t1 t2 : Tok} (G : Gr w p loose mean mg mb s.heap) (hd : A.depth + 220 < recursionLimit) (hA : A.handled = none) (hb : 0 < b) (hb2 : b < 2 ^ 64) (ha : a.natAbs < 2 ^ 100)
    (h : ∀ t h' tk' u1 u2, After s.heap h' → s.heap.objs.size ≤ t → h'.get? t = some (tupO #[.int (a.fdiv b) u1, .int (a.fmod b) u2]) → Q (.ref t) { s with heap := h', toks := tk' }) :
    wpAny (model PySem.Challenge.rw_rl0106_01.row.prog w) A (call (.ref 78) [.int a t1, .int (b : Int) t2]) Q E s := by
  rcases Int.lt_or_le a 0 with hneg | hpos
  rotate_left
  · obtain ⟨n, rfl⟩ := Int.eq_ofNat_of_zero_le hpos
    refine idm_pos G (by lia) hA hb hb2 (by simpa using ha) ?_
    intro t h' tk' u1 u2 A' ht g
    refine h t h' tk' u1 u2 A' ht ?_
    rw [fdivN, fmodN]; exact g
  obtain ⟨n, hn⟩ : ∃ n : Nat, a = -((n : Int) + 1) := ⟨(-a - 1).toNat, by lia⟩
  have X := G.X
  have T := G.T
  obtain ⟨p24, T24⟩ := G.tabs.t24
  obtain ⟨p52, T52⟩ := G.tabs.t52
  obtain ⟨p59, T59⟩ := G.tabs.t59
  revert X; k_fill; intro X
  refine wpAny_call ?_
  k_dflt (refine' enterT G T24 T52 T59 ?k8 ?k6 ?k7 ?k9 ?kB ?_ ?c2 ?c3 ?c4 ?c5; (case k6 => k_is); (case k7 => k_is); (case k8 => lia); (case k9 => exact BindsTo.of_eq rfl); (case c5 => decide); (case kB => exact locs rfl); (case c2 => exact rfl); (case c3 => exact rfl); (case c4 => exact rfl); k_whole)
  intro L' h' F' N' hL' l1
  have TL := TailIs.of T24 T52 T59
  generalize [(59, tabObj p59), (52, tabObj p52), (24, tabObj p24)] = tail at N' TL
  (try dsimp only)
  replace h := Hide.mk h
  replace ha := Hide.mk ha
  replace hb2 := Hide.mk hb2
  repeat' (first | (k_unfold; (try dsimp only)) | ((fail_if_success (with_reducible show wpAny _ _ (call (Value.ref _) _) _ _ _)); first | (k_end; wrow_close) | (k_here; (with_reducible show wpAny _ _ (assign (Expr.Tuple _ _ _) _ (Value.ref _)) _ _ _); k_dflt (refine' unpackN_ ?k1 ?k2 ?k3 ?k4 ?k5 ?k6 ?_; (case k1 => k_asm); (case k2 => k_asm); (case k3 => exact News.isTup (by k_asm) (by k_mem)); (case k4 => assumption); (case k5 => exact rfl); (case k6 => exact rfl)); intro _ _ _; (try k_sweep)) | walk1 | (dsimp only; first | (k_here; (with_reducible show wpAny _ _ (assign (Expr.Tuple _ _ _) _ (Value.ref _)) _ _ _); k_dflt (refine' unpackN_ ?k1 ?k2 ?k3 ?k4 ?k5 ?k6 ?_; (case k1 => k_asm); (case k2 => k_asm); (case k3 => exact News.isTup (by k_asm) (by k_mem)); (case k4 => assumption); (case k5 => exact rfl); (case k6 => exact rfl)); intro _ _ _; (try k_sweep)) | walk1) | (leave1; walk_say "STEP leave1"; try dsimp only)))
  · exfalso; lia
  · rw [show Builtin.bitNot a = (n : Int) from by unfold Builtin.bitNot; lia]
    refine idm_pos (G.after (TL.after (rest := []) (by assumption) (by assumption) hL')) (by simp only [depth_deeper]; lia) hA hb hb2.out (by have := ha.out; lia) ?_
    intro t h9 tk9 u1 u2 A9 ht9 g9
    have hLt : @LT.lt Nat _ L' t := Nat.lt_of_lt_of_le (Fr.ns (by assumption : Fr (hid s.heap) L' _ _)).lt ht9
    obtain ⟨tail2, F2, N2, TL2, nt2⟩ := after_tail (rest := []) (by assumption) (by assumption) TL (fun _ h => nomatch h) l1.1 A9
    have N3 := newsAdd (by assumption) N2 g9 ht9
    simp only [List.nil_append] at N3
    clear N2 TL nt2
    (try dsimp only)
    k_sweep
    repeat' (first | (k_unfold; (try dsimp only)) | (k_end; wrow_close) | (k_here; (with_reducible show wpAny _ _ (assign (Expr.Tuple _ _ _) _ (Value.ref _)) _ _ _); k_dflt (refine' unpackN_ ?k1 ?k2 ?k3 ?k4 ?k5 ?k6 ?_; (case k1 => k_asm); (case k2 => k_asm); (case k3 => exact News.isTup (by k_asm) (by k_mem)); (case k4 => assumption); (case k5 => exact rfl); (case k6 => exact rfl)); intro _ _ _; (try k_sweep)) | walk1 | (dsimp only; first | (k_here; (with_reducible show wpAny _ _ (assign (Expr.Tuple _ _ _) _ (Value.ref _)) _ _ _); k_dflt (refine' unpackN_ ?k1 ?k2 ?k3 ?k4 ?k5 ?k6 ?_; (case k1 => k_asm); (case k2 => k_asm); (case k3 => exact News.isTup (by k_asm) (by k_mem)); (case k4 => assumption); (case k5 => exact rfl); (case k6 => exact rfl)); intro _ _ _; (try k_sweep)) | walk1) | (leave1; walk_say "STEP leave1"; try dsimp only))
    have nf := neg_facts (a := a) (n := n) hb hn
    have hh := h.out
    rw [← nf.1, ← nf.2] at hh
    exact hh _ _ _ _ _ (TL2.after (rest := [_, _]) (by assumption) (by assumption) hL') (leLt hL' (by assumption)) (News.get (by assumption) (.head _))

theorem negneg {a : Int} {b : Nat} (hb : 0 < b) : (-a).fdiv b = a.fdiv (-(b : Int)) ∧ -((-a).fmod b) = a.fmod (-(b : Int)) := by
  have h1 : (-a).fdiv b = a.fdiv (-(b : Int)) := by
    have := Int.neg_fdiv_neg a (-(b : Int))
    rw [Int.neg_neg] at this
    exact this
  refine ⟨h1, ?_⟩
  rw [Int.fmod_def, Int.fmod_def, h1, Int.neg_mul]
  lia
/-- a divisor below nought -/
theorem idm_negB {a : Int} {b : Nat} {t1 t2 : Tok} (G : Gr w p loose mean mg mb s.heap) (hd : A.depth + 230 < recursionLimit) (hA : A.handled = none) (hb : 0 < b) (hb2 : b < 2 ^ 64) (ha : a.natAbs < 2 ^ 100)
    (h : ∀ t h' tk' u1 u2, After s.heap h' → s.heap.objs.size ≤ t → h'.get? t = some (tupO #[.int (a.fdiv (-(b : Int))) u1, .int (a.fmod (-(b : Int))) u2]) → Q (.ref t) { s with heap := h', toks := tk' }) :
    wpAny (model PySem.Challenge.rw_rl0106_01.row.prog w) A (call (.ref 78) [.int a t1, .int (-(b : Int)) t2]) Q E s := by
  have X := G.X
  have T := G.T
  obtain ⟨p24, T24⟩ := G.tabs.t24
  obtain ⟨p52, T52⟩ := G.tabs.t52
  obtain ⟨p59, T59⟩ := G.tabs.t59
  revert X; k_fill; intro X
  refine wpAny_call ?_
  k_dflt (refine' enterT G T24 T52 T59 ?k8 ?k6 ?k7 ?k9 ?kB ?_ ?c2 ?c3 ?c4 ?c5; (case k6 => k_is); (case k7 => k_is); (case k8 => lia); (case k9 => exact BindsTo.of_eq rfl); (case c5 => decide); (case kB => exact locs rfl); (case c2 => exact rfl); (case c3 => exact rfl); (case c4 => exact rfl); k_whole)
  intro L' h' F' N' hL' l1
  have TL := TailIs.of T24 T52 T59
  generalize [(59, tabObj p59), (52, tabObj p52), (24, tabObj p24)] = tail at N' TL
  (try dsimp only)
  replace h := Hide.mk h
  replace ha := Hide.mk ha
  replace hb2 := Hide.mk hb2
  repeat' (first | (k_unfold; (try dsimp only)) | ((fail_if_success (with_reducible show wpAny _ _ (call (Value.ref _) _) _ _ _)); first | (k_end; wrow_close) | (k_here; (with_reducible show wpAny _ _ (assign (Expr.Tuple _ _ _) _ (Value.ref _)) _ _ _); k_dflt (refine' unpackN_ ?k1 ?k2 ?k3 ?k4 ?k5 ?k6 ?_; (case k1 => k_asm); (case k2 => k_asm); (case k3 => exact News.isTup (by k_asm) (by k_mem)); (case k4 => assumption); (case k5 => exact rfl); (case k6 => exact rfl)); intro _ _ _; (try k_sweep)) | walk1 | (dsimp only; first | (k_here; (with_reducible show wpAny _ _ (assign (Expr.Tuple _ _ _) _ (Value.ref _)) _ _ _); k_dflt (refine' unpackN_ ?k1 ?k2 ?k3 ?k4 ?k5 ?k6 ?_; (case k1 => k_asm); (case k2 => k_asm); (case k3 => exact News.isTup (by k_asm) (by k_mem)); (case k4 => assumption); (case k5 => exact rfl); (case k6 => exact rfl)); intro _ _ _; (try k_sweep)) | walk1) | (leave1; walk_say "STEP leave1"; try dsimp only)))
  · exfalso; lia
  · rw [Int.neg_neg]
    refine idm_posB (G.after (TL.after (rest := []) (by assumption) (by assumption) hL')) (by simp only [depth_deeper]; lia) hA hb hb2.out (by have := ha.out; lia) ?_
    intro t h9 tk9 u1 u2 A9 ht9 g9
    have hLt : @LT.lt Nat _ L' t := Nat.lt_of_lt_of_le (Fr.ns (by assumption : Fr (hid s.heap) L' _ _)).lt ht9
    obtain ⟨tail2, F2, N2, TL2, nt2⟩ := after_tail (rest := []) (by assumption) (by assumption) TL (fun _ h => nomatch h) l1.1 A9
    have N3 := newsAdd (by assumption) N2 g9 ht9
    simp only [List.nil_append] at N3
    clear N2 TL nt2
    (try dsimp only)
    k_sweep
    repeat' (first | (k_unfold; (try dsimp only)) | (k_end; wrow_close) | (k_here; (with_reducible show wpAny _ _ (assign (Expr.Tuple _ _ _) _ (Value.ref _)) _ _ _); k_dflt (refine' unpackN_ ?k1 ?k2 ?k3 ?k4 ?k5 ?k6 ?_; (case k1 => k_asm); (case k2 => k_asm); (case k3 => exact News.isTup (by k_asm) (by k_mem)); (case k4 => assumption); (case k5 => exact rfl); (case k6 => exact rfl)); intro _ _ _; (try k_sweep)) | walk1 | (dsimp only; first | (k_here; (with_reducible show wpAny _ _ (assign (Expr.Tuple _ _ _) _ (Value.ref _)) _ _ _); k_dflt (refine' unpackN_ ?k1 ?k2 ?k3 ?k4 ?k5 ?k6 ?_; (case k1 => k_asm); (case k2 => k_asm); (case k3 => exact News.isTup (by k_asm) (by k_mem)); (case k4 => assumption); (case k5 => exact rfl); (case k6 => exact rfl)); intro _ _ _; (try k_sweep)) | walk1) | (leave1; walk_say "STEP leave1"; try dsimp only))
    have nf := negneg (a := a) hb
    have hh := h.out
    rw [← nf.1, ← nf.2] at hh
    exact hh _ _ _ _ _ (TL2.after (rest := [_, _]) (by assumption) (by assumption) hL') (leLt hL' (by assumption)) (News.get (by assumption) (.head _))
end
end Mine
end
section
open PySem PySem.W PySem.Calls PyProof.Rows Mine
local macro_rules | `(tactic| walk_at "newList") => `(tactic| (k_here; k_dflt (refine' newList_B ?k1 ?k2 ?_; (case k1 => k_asm); (case k2 => k_asm); k_whole); intro l' h' F' N' l1 hLt'; (try k_lt l1); (try k_lt2 hLt'); (try k_sweep)))
section
open PySem PySem.W PySem.Calls PyProof.Rows
set_option maxRecDepth 100000
set_option maxHeartbeats 8000000
namespace Mine
section
variable {w : World} {A : Around} {s : Shared} {env : Env} {test : PySem.Expr} {body : List Stmt} {pos : Pos} {Q : Flow → Shared → Prop}
theorem whileF (I : Nat → Shared → Prop) (n : Nat) (h0 : I n s)
    (turn : ∀ k s', I k s' → wpAny (model PySem.Challenge.rw_rl0106_01.row.prog w) A (isTrue test env (eval test env)) (fun b s₂ =>
        if b then wpAny (model PySem.Challenge.rw_rl0106_01.row.prog w) A (execs body env) (fun f s₃ => match f with
            | .next | .cont => ∃ j, j < k ∧ I j s₃
            | .brk => Q .next s₃
            | .ret v => Q (.ret v) s₃) (fun _ _ => False) s₂
        else Q .next s₂) (fun _ _ => False) s') :
    wpAny (model PySem.Challenge.rw_rl0106_01.row.prog w) A (exec (.While test body [] pos) env) Q (fun _ _ => False) s := by
  refine wpAny_While (codeAny_whileLoop I (fun k s' hI => ?_) n h0)
  refine wpAny_mono (turn k s' hI) (fun b s₂ h₂ => ?_) fun _ _ e => e.elim
  cases b with
  | false => exact wpAny_execs_nil h₂
  | true =>
    refine wpAny_mono h₂ (fun f s₃ h₃ => ?_) fun _ _ e => e.elim
    cases f <;> exact h₃
end
section
variable {prog : Program} {w : World} {A : Around} {E : Value → Shared → Prop} {s : Shared} {Q : Value → Shared → Prop} {a b k : Nat} {t u : Tok}
theorem modNN (hb : 0 < b) (hb2 : b < 2 ^ 64) (h : Q (.int ((a % b : Nat) : Int) s.toks) { s with toks := s.toks + 1 }) : wpAny (model prog w) A (binaryOp .Mod (.int (a : Int) t) (.int (b : Int) u)) Q E s :=
  mod_int' (by lia) (by rw [fmodN]; exact h)
theorem divNN (hb : 0 < b) (hb2 : b < 2 ^ 64) (h : Q (.int ((a / b : Nat) : Int) s.toks) { s with toks := s.toks + 1 }) : wpAny (model prog w) A (binaryOp .FloorDiv (.int (a : Int) t) (.int (b : Int) u)) Q E s :=
  floordiv_int (by lia) (by rw [fdivN]; exact h) (.inl (noPylong64 (by simpa using hb2)))
theorem pow10N (hk : k ≤ 9) (h : Q (.int ((10 ^ k : Nat) : Int) s.toks) { s with toks := s.toks + 1 }) : wpAny (model prog w) A (binaryOp .Pow (.int 10 t) (.int (k : Int) u)) Q E s :=
  pow_int_small (Int.natCast_nonneg _) (by lia) (by decide) (by simpa using h)
end
/-- the figures of x to the base B, the lowest first -/
def figF : Nat → Nat → Nat → List Nat
  | 0, _, _ => []
  | k + 1, B, x => if x = 0 then [] else x % B :: figF k B (x / B)
theorem figF_zero (k B : Nat) : figF k B 0 = [] := by cases k <;> simp [figF]

theorem over1b {a y : Str} {A A' M : Option Value} : (if y = a then A else if y = a then A' else M) = if y = a then A else M := by
  by_cases h1 : y = a
  · simp only [if_pos h1]
  · simp only [if_neg h1]
theorem newsPushEq {h₀ h : Heap} {L D : Addr} {vs : List Value} {v : Value} {n : Nat} {rest : List (Addr × Obj)} (N : News h₀ L h ((D, W.listOf (vs.toArray.push v) n) :: rest)) : News h₀ L h ((D, W.listOf (vs ++ [v]).toArray n) :: rest) := by
  have e : vs.toArray.push v = (vs ++ [v]).toArray := by simp
  rw [← e]; exact N
inductive LfInv (base : Heap) (L : Addr) (m₀ : Str → Option Value) (D : Addr) (S : Shared) (c B x : Nat) (k : Nat) (s' : Shared) : Prop
  | mk (h' : Heap) (tk' : Nat) (done : List Nat) (vs : List Value) (ep rest : Nat) (tr : Tok)
    (h1 : s' = { S with heap := h', toks := tk' })
    (h2 : Fr base L h' (fun y => if y = Str.ofString "rest" then some (.int (rest : Int) tr) else m₀ y))
    (h3 : News base L h' [(D, W.listOf vs.toArray ep)])
    (h4 : IntsAre vs (castL (c :: done)))
    (h5 : done ++ figF k B rest = figF 100 B x)
    (h6 : rest < 2 ^ k)
    (h7 : k + done.length ≤ 100) : LfInv base L m₀ D S c B x k s'
section
variable {w : World} {A : Around} {s : Shared} {p : Program} {loose : List Str} {mean : ExcName → Option Value} {mg mb : Str → Option Value} {Q E : Value → Shared → Prop}
theorem lf_spec {a low B : Nat} {t1 t2 t3 : Tok} (X : (Mine.KK w.params).In s.heap) (T : Top p loose mean mg mb s.heap) (hd : A.depth + 5 < recursionLimit) (hl : low ≤ 9) (hB : 2 ≤ B) (hB2 : B < 2 ^ 64) (ha : a < 2 ^ 100)
    (h : ∀ t h' tk' vs ep, s.heap.StaysIn h' → s.heap.objs.size ≤ t → h'.get? t = some (W.listOf (vs : List Value).toArray ep) → IntsAre vs (castL (a % 10 ^ low :: figF 100 B (a / 10 ^ low))) → Q (.ref t) { s with heap := h', toks := tk' }) :
    wpAny (model PySem.Challenge.rw_rl0106_01.row.prog w) A (call (.ref 113) [.int (a : Int) t1, .int (low : Int) t2, .int (B : Int) t3]) Q E s := by
  revert X; k_fill; intro X
  refine wpAny_call ?_
  k_dflt (refine' enterP X T ?k8 ?k6 ?k7 ?k9 ?kB ?_ ?c2 ?c3 ?c4 ?c5; (case k6 => k_is); (case k7 => k_is); (case k8 => lia); (case k9 => exact BindsTo.of_eq rfl); (case c5 => decide); (case kB => exact locs rfl); (case c2 => exact rfl); (case c3 => exact rfl); (case c4 => exact rfl); k_whole)
  intro L' h' F' N' hL'
  (try dsimp only)
  have hp1 : 0 < 10 ^ low := Nat.pow_pos (by decide)
  have hp2 : 10 ^ low < 2 ^ 64 := Nat.lt_of_le_of_lt (Nat.pow_le_pow_right (by decide) hl) (by decide)
  have hB0 : 0 < B := by lia
  replace ha := Hide.mk ha
  replace h := Hide.mk h
  repeat' (first | (k_unfold; (try dsimp only)) | ((fail_if_success (with_reducible show wpAny _ _ (exec (Stmt.While _ _ _ _) _) _ _ _)); first | (k_end; wrow_close) | ((with_reducible show wpAny _ _ (binaryOp Operator.Pow (Value.int _ _) (Value.int _ _)) _ _ _); (k_here; with_reducible refine pow10N (by assumption) ?_)) | ((with_reducible show wpAny _ _ (binaryOp Operator.FloorDiv (Value.int _ _) (Value.int _ _)) _ _ _); (k_here; with_reducible refine divNN (by assumption) (by assumption) ?_)) | ((with_reducible show wpAny _ _ (binaryOp Operator.Mod (Value.int _ _) (Value.int _ _)) _ _ _); (k_here; with_reducible refine modNN (by assumption) (by assumption) ?_)) | walk1 | (dsimp only; first | ((with_reducible show wpAny _ _ (binaryOp Operator.Pow (Value.int _ _) (Value.int _ _)) _ _ _); (k_here; with_reducible refine pow10N (by assumption) ?_)) | ((with_reducible show wpAny _ _ (binaryOp Operator.FloorDiv (Value.int _ _) (Value.int _ _)) _ _ _); (k_here; with_reducible refine divNN (by assumption) (by assumption) ?_)) | ((with_reducible show wpAny _ _ (binaryOp Operator.Mod (Value.int _ _) (Value.int _ _)) _ _ _); (k_here; with_reducible refine modNN (by assumption) (by assumption) ?_)) | walk1) | (leave1; walk_say "STEP leave1"; try dsimp only)))
  rename_i D _ _ hLD _ h1 F1 N1
  obtain ⟨m₀, hm₀, F1⟩ : ∃ m₀, m₀ = _ ∧ Fr s.heap L' h1 m₀ := ⟨_, rfl, F1⟩
  refine whileF (LfInv s.heap L' m₀ D s (a % 10 ^ low) B (a / 10 ^ low)) 100 ?_ ?_
  · obtain ⟨tr, htr⟩ : ∃ tr, m₀ (Str.ofString "rest") = some (.int ((a / 10 ^ low : Nat) : Int) tr) := by subst hm₀; exact ⟨_, rfl⟩
    refine ⟨h1, _, [], [.int ((a % 10 ^ low : Nat) : Int) _], 0, a / 10 ^ low, tr, rfl, frCongr F1 ?_, N1, .cons _ _ .nil, by simp, ?_, by simp⟩
    · intro y
      rw [← htr]
      by_cases h1 : y = Str.ofString "rest"
      · rw [if_pos h1, h1]
      · rw [if_neg h1]
    · exact Nat.lt_of_le_of_lt (Nat.div_le_self _ _) ha.out
  · rintro k s' ⟨h5, tk5, done, vs, ep, rest, tr, rfl, F5, N5, I5, e5, r5, k5⟩
    replace e5 := Hide.mk e5
    replace r5 := Hide.mk r5
    have hl5 := I5.length
    simp only [List.length_map, List.length_cons] at hl5
    subst hm₀
    clear F1 N1
    repeat' (first | (k_unfold; (try dsimp only)) | ((fail_if_success (with_reducible show Exists _)); first | (k_end; wrow_close) | ((with_reducible show wpAny _ _ (binaryOp Operator.Pow (Value.int _ _) (Value.int _ _)) _ _ _); (k_here; with_reducible refine pow10N (by assumption) ?_)) | ((with_reducible show wpAny _ _ (binaryOp Operator.FloorDiv (Value.int _ _) (Value.int _ _)) _ _ _); (k_here; with_reducible refine divNN (by assumption) (by assumption) ?_)) | ((with_reducible show wpAny _ _ (binaryOp Operator.Mod (Value.int _ _) (Value.int _ _)) _ _ _); (k_here; with_reducible refine modNN (by assumption) (by assumption) ?_)) | walk1 | (dsimp only; first | ((with_reducible show wpAny _ _ (binaryOp Operator.Pow (Value.int _ _) (Value.int _ _)) _ _ _); (k_here; with_reducible refine pow10N (by assumption) ?_)) | ((with_reducible show wpAny _ _ (binaryOp Operator.FloorDiv (Value.int _ _) (Value.int _ _)) _ _ _); (k_here; with_reducible refine divNN (by assumption) (by assumption) ?_)) | ((with_reducible show wpAny _ _ (binaryOp Operator.Mod (Value.int _ _) (Value.int _ _)) _ _ _); (k_here; with_reducible refine modNN (by assumption) (by assumption) ?_)) | walk1) | (leave1; walk_say "STEP leave1"; try dsimp only)))
    · have hk : k ≠ 0 := by
        intro e; subst e
        have := r5.out
        simp at this
        lia
      obtain ⟨j, rfl⟩ : ∃ j, k = j + 1 := ⟨k - 1, by lia⟩
      dsimp only
      refine ⟨j, Nat.lt_succ_self _, _, _, done ++ [rest % B], vs ++ [.int ((rest % B : Nat) : Int) _], ep + 1, rest / B, _, rfl, frCongr (by assumption) (fun y => over1b), newsPushEq (by assumption), ?_, ?_, ?_, ?_⟩
      · have e9 : castL (a % 10 ^ low :: (done ++ [rest % B])) = castL (a % 10 ^ low :: done) ++ [((rest % B : Nat) : Int)] := by simp [castL]
        rw [e9]
        exact ints_snoc I5
      · rw [List.append_assoc, ← e5.out, figF, if_neg (by lia)]; rfl
      · have := r5.out
        refine Nat.div_lt_of_lt_mul ?_
        rw [Nat.pow_succ] at this
        have h2 : 2 * 2 ^ j ≤ B * 2 ^ j := Nat.mul_le_mul_right _ hB
        lia
      · rw [List.length_append]; simp; lia
    · have e0 : rest = 0 := by lia
      subst e0
      have e9 := e5.out
      rw [figF_zero, List.append_nil] at e9
      rw [e9] at I5
      exact h.out _ _ _ _ _ (fun b o e => Fr.keep (by assumption) b o e) (leLt hL' hLD) (News.get (by assumption) (.head _)) I5
end
end Mine
end
section
open PySem PySem.W PySem.Calls PyProof.Rows
set_option maxRecDepth 100000
set_option maxHeartbeats 8000000
namespace Mine
abbrev rngIt (x left : Int) : Obj := { cls := .type "range_iterator", data := .fields #[rawInt x, rawInt left, rawInt 1] }
section
variable {w : World} {A : Around} {E : Value → Shared → Prop} {s : Shared} {h₀ : Heap} {L I : Addr} {m : Str → Option Value} {rest : List (Addr × Obj)}
theorem rngIter {r : Addr} {n : Nat} {t u v : Tok} {Q : Value → Shared → Prop} (F : Fr h₀ L s.heap m) (N : News h₀ L s.heap rest) (hr : IsRange s.heap r 0 (n : Int) 1 t u v) (hn : n ≤ 100000)
    (h : ∀ I h', Fr h₀ L h' m → News h₀ L h' ((I, rngIt 0 (n : Int)) :: rest) → (∀ p ∈ rest, p.1 < I) → L < I → Q (.ref I) { s with heap := h' }) : wpAny (model PySem.Challenge.rw_rl0106_01.row.prog w) A (pyIter (.ref r)) Q E s := by
  have e : Builtin.Range.rangeSize 0 (n : Int) 1 = (n : Int) := by
    unfold Builtin.Range.rangeSize
    simp
    try lia
  refine wpAny_pyIter_range hr ?_ ?_
  · unfold Builtin.Range.small
    rw [e]
    simp [Builtin.Range.rangeFitsLong]
    lia
  · rw [e]
    exact h _ _ (F.push _) (N.push F _) (fun p hp => Heap.lt_size (N p hp).1) F.ns.lt
theorem rngNext {x left : Int} {Q : Option Value → Shared → Prop} (F : Fr h₀ L s.heap m) (N : News h₀ L s.heap ((I, rngIt x left) :: rest)) (hne : ∀ p ∈ rest, p.1 ≠ I) (h0 : 0 < left)
    (h : ∀ h', Fr h₀ L h' m → News h₀ L h' ((I, rngIt (x + 1) (left - 1)) :: rest) → Q (some (.int x s.toks)) { s with heap := h', toks := s.toks + 1 }) : wpAny (model PySem.Challenge.rw_rl0106_01.row.prog w) A (pyNext (.ref I)) Q E s := by
  have z := N _ (.head _)
  refine wpAny_pyNext_range_item (N.get (.head _)) h0 fun h' it sb => ?_
  refine h h' (F.change sb z.2.1 z.2.2) fun q hq => ?_
  rcases List.mem_cons.mp hq with rfl | hq
  · exact ⟨it, z.2⟩
  · have y := N q (.tail _ hq)
    exact ⟨(sb.2 _ (hne q hq)).trans y.1, y.2⟩
theorem rngEnd {x left : Int} {Q : Option Value → Shared → Prop} (hA : A.handled = none) (F : Fr h₀ L s.heap m) (N : News h₀ L s.heap ((I, rngIt x left) :: rest)) (hne : ∀ p ∈ rest, p.1 ≠ I) (h0 : left ≤ 0)
    (h : ∀ h', Fr h₀ L h' m → News h₀ L h' rest → Q none { s with heap := h' }) : wpAny (model PySem.Challenge.rw_rl0106_01.row.prog w) A (pyNext (.ref I)) Q E s := by
  have z := N _ (.head _)
  refine wpAny_pyNext_range_end hA (N.get (.head _)) h0 fun h' x => ?_
  refine h h' (frExtBut F x z.2) fun q hq => ?_
  have y := N q (.tail _ hq)
  exact ⟨x _ _ (hne q hq) y.1, y.2⟩
end
end Mine
end
section
open PySem PySem.W PySem.Calls PyProof.Rows
set_option maxRecDepth 100000
set_option maxHeartbeats 8000000
namespace Mine
/-- the colour of lamp k -/
def paint (leap k lamp : Nat) : UInt64 × UInt64 × UInt64 := hsvOut (Float64.ofFrac false (leap * k) 6) (Float64.ofFrac false lamp 1024) ((leap * k : Nat) : Int)
/-- the sum of the first colours -/
def mixF (leap : Nat) (ls : List Nat) : Nat → UInt64 × UInt64 × UInt64
  | 0 => (0, 0, 0)
  | k + 1 => (Float64.add (mixF leap ls k).1 (paint leap k (ls.getD k 0)).1, Float64.add (mixF leap ls k).2.1 (paint leap k (ls.getD k 0)).2.1, Float64.add (mixF leap ls k).2.2 (paint leap k (ls.getD k 0)).2.2)
theorem trunc_all : ∀ n : Nat, n < 64 → (match Float64.decode (Float64.ofInt (n : Int)) with | .fin sg m e => decide (Float64.truncOf sg m e = (n : Int)) | _ => false) = true := by decide +kernel
theorem paint_dec {n : Nat} (h : n < 64) : ∃ sg m e, Float64.decode (Float64.mul (Float64.ofFrac false n 6) fl6) = .fin sg m e ∧ Float64.truncOf sg m e = (n : Int) := by
  rw [mul6 n h]
  have := trunc_all n h
  split at this
  · rename_i sg m e hd
    exact ⟨sg, m, e, hd, by simpa using this⟩
  · cases this
section
variable {prog : Program} {w : World} {A : Around} {E : Value → Shared → Prop} {s : Shared} {Q : Value → Shared → Prop} {a : Nat} {t u : Tok}
theorem div6 (ha : a < 64) (h : Q (.float (Float64.ofFrac false a 6) s.toks) { s with toks := s.toks + 1 }) : wpAny (model prog w) A (binaryOp .Div (.int (a : Int) t) (.int 6 u)) Q E s :=
  AutoIntOps.truediv_2 (by decide) (by
    have e : (decide ((a : Int) < 0) != decide ((6 : Int) < 0)) = false := by simp
    rw [e, show ((a : Int)).natAbs = a from by simp, show ((6 : Int)).natAbs = 6 from rfl, inf6 a ha]; exact Bool.false_ne_true) (by
    have e : (decide ((a : Int) < 0) != decide ((6 : Int) < 0)) = false := by simp
    rw [e, show ((a : Int)).natAbs = a from by simp, show ((6 : Int)).natAbs = 6 from rfl]; exact h)
theorem div1024 (ha : a < 1000) (h : Q (.float (Float64.ofFrac false a 1024) s.toks) { s with toks := s.toks + 1 }) : wpAny (model prog w) A (binaryOp .Div (.int (a : Int) t) (.int 1024 u)) Q E s :=
  AutoIntOps.truediv_2 (by decide) (by
    have e : (decide ((a : Int) < 0) != decide ((1024 : Int) < 0)) = false := by simp
    rw [e, show ((a : Int)).natAbs = a from by simp, show ((1024 : Int)).natAbs = 1024 from rfl, inf1024 a ha]; exact Bool.false_ne_true) (by
    have e : (decide ((a : Int) < 0) != decide ((1024 : Int) < 0)) = false := by simp
    rw [e, show ((a : Int)).natAbs = a from by simp, show ((1024 : Int)).natAbs = 1024 from rfl]; exact h)
end
theorem newsPick {h₀ h : Heap} {L : Addr} {p0 p1 p2 p3 p4 p5 : Addr × Obj} (N : News h₀ L h [p0, p1, p2, p3, p4, p5]) : News h₀ L h [p2, p0, p4, p5] := N.perm (by simp)
theorem finNan {x : UInt64} (h : Float64.isFinite x = true) : ¬ Float64.isNaN x = true := by
  rcases PySem.Flt.three x with ⟨hd, c⟩ | ⟨_, hd, c⟩ | ⟨sg, m, e, hd, c⟩ <;> simp_all [Float64.isFinite, Float64.isNaN]
theorem finInf {x : UInt64} (h : Float64.isFinite x = true) : ¬ Float64.isInf x = true := by
  rcases PySem.Flt.three x with ⟨hd, c⟩ | ⟨_, hd, c⟩ | ⟨sg, m, e, hd, c⟩ <;> simp_all [Float64.isFinite, Float64.isInf]
/-- the colour mixed back from a sum, and the two rounded differences -/
def MixOk (c : UInt64 × UInt64 × UInt64) (x y : Int) : Prop :=
  ((Float64.cmp (min3 c.1 c.2.1 c.2.2) (max3 c.1 c.2.1 c.2.2) == some .eq) = false → ¬ Float64.isZero (Float64.sub (max3 c.1 c.2.1 c.2.2) (min3 c.1 c.2.1 c.2.2)) = true ∧ ¬ Float64.isZero (max3 c.1 c.2.1 c.2.2) = true) ∧
  ∃ sg m e, Float64.decode (Float64.mul (rgbOut c.1 c.2.1 c.2.2).1 fl6) = .fin sg m e ∧ 0 ≤ Float64.truncOf sg m e ∧ Float64.truncOf sg m e ≤ 63 ∧
    (Float64.isFinite (Float64.mul (Float64.sub (hsvOut (rgbOut c.1 c.2.1 c.2.2).1 (Float64.mul (rgbOut c.1 c.2.1 c.2.2).2.1 (rgbOut c.1 c.2.1 c.2.2).2.2) (Float64.truncOf sg m e)).1 (hsvOut (rgbOut c.1 c.2.1 c.2.2).1 (Float64.mul (rgbOut c.1 c.2.1 c.2.2).2.1 (rgbOut c.1 c.2.1 c.2.2).2.2) (Float64.truncOf sg m e)).2.1) (Float64.ofInt 1024)) = true ∧
      PySem.Flt.toInt Float64.nearestOf (Float64.mul (Float64.sub (hsvOut (rgbOut c.1 c.2.1 c.2.2).1 (Float64.mul (rgbOut c.1 c.2.1 c.2.2).2.1 (rgbOut c.1 c.2.1 c.2.2).2.2) (Float64.truncOf sg m e)).1 (hsvOut (rgbOut c.1 c.2.1 c.2.2).1 (Float64.mul (rgbOut c.1 c.2.1 c.2.2).2.1 (rgbOut c.1 c.2.1 c.2.2).2.2) (Float64.truncOf sg m e)).2.1) (Float64.ofInt 1024)) = x) ∧
    (Float64.isFinite (Float64.mul (Float64.sub (hsvOut (rgbOut c.1 c.2.1 c.2.2).1 (Float64.mul (rgbOut c.1 c.2.1 c.2.2).2.1 (rgbOut c.1 c.2.1 c.2.2).2.2) (Float64.truncOf sg m e)).2.1 (hsvOut (rgbOut c.1 c.2.1 c.2.2).1 (Float64.mul (rgbOut c.1 c.2.1 c.2.2).2.1 (rgbOut c.1 c.2.1 c.2.2).2.2) (Float64.truncOf sg m e)).2.2) (Float64.ofInt 1024)) = true ∧
      PySem.Flt.toInt Float64.nearestOf (Float64.mul (Float64.sub (hsvOut (rgbOut c.1 c.2.1 c.2.2).1 (Float64.mul (rgbOut c.1 c.2.1 c.2.2).2.1 (rgbOut c.1 c.2.1 c.2.2).2.2) (Float64.truncOf sg m e)).2.1 (hsvOut (rgbOut c.1 c.2.1 c.2.2).1 (Float64.mul (rgbOut c.1 c.2.1 c.2.2).2.1 (rgbOut c.1 c.2.1 c.2.2).2.2) (Float64.truncOf sg m e)).2.2) (Float64.ofInt 1024)) = y)
inductive LmInv (base : Heap) (L : Addr) (m₀ : Str → Option Value) (I : Addr) (S : Shared) (leap : Nat) (ls : List Nat) (k : Nat) (s' : Shared) : Prop
  | mk (h' : Heap) (tk' : Nat) (lp : Addr) (oP oC : Obj) (uc uk : Option Value) (e j : Nat) (u1 u2 u3 : Tok)
    (h1 : s' = { S with heap := h', toks := tk' })
    (h2 : j + k = ls.length)
    (h3 : Fr base L h' (fun y => if y = Str.ofString "k" then uk else m₀ y))
    (h4 : News base L h' [(I, rngIt (j : Int) (k : Int)), (lp, W.listOf #[.float (mixF leap ls j).1 u1, .float (mixF leap ls j).2.1 u2, .float (mixF leap ls j).2.2 u3] e), (L + 1 + 1, oC), (L + 1, oP)])
    (h5 : oP.data = .cell (some (.ref lp)))
    (h6 : oC.data = .cell uc)
    (h7 : (L + 1 + 1 ≠ lp ∧ L + 1 ≠ lp ∧ I ≠ lp))
    (h8 : (@LT.lt Nat _ (L + 1 + 1) I)) : LmInv base L m₀ I S leap ls k s'
section
local macro_rules | `(tactic| k_ne) => `(tactic| first | assumption | (refine Ne.symm ?_; assumption) | (simp only [ne_eq, not_false_eq_true, *]; done) | (refine Ne.symm ?_; simp only [ne_eq, not_false_eq_true, *]; done) | (refine neN ?_; (try dsimp only); lia))
local macro_rules | `(tactic| walk_at "CompSrc") => `(tactic| (k_here; (rename News _ _ _ _ => nwZ); (try simp only [List.cons_append, List.nil_append] at nwZ); k_dflt (refine LCg.CompSrc.range (by assumption) (by k_asm) (by k_asm) (by assumption) (by first | decide | rfl) (by first | rfl | decide) (by first | size_fits | exact Nat.le_of_ble_eq_true rfl) ?_; intro g'; lcg_lit)))
variable {w : World} {A : Around} {s : Shared} {p : Program} {loose : List Str} {mean : ExcName → Option Value} {mg mb : Str → Option Value} {Q E : Value → Shared → Prop}
theorem lm_spec {l : Addr} {ls : List Nat} {vs : List Value} {ep leap : Nat} {t2 : Tok} (X : (Mine.KK w.params).In s.heap) (T : Top p loose mean mg mb s.heap) (hd : A.depth + 10 < recursionLimit) (hA : A.handled = none)
    (hl : s.heap.get? l = some (W.listOf vs.toArray ep)) (hI : IntsAre vs (castL ls)) (hlen : ls.length ≤ 20) (h1000 : ∀ d ∈ ls, d < 1000) (hleap : leap ≤ 3)
    {x y : Int} (hm : Hide (MixOk (mixF leap ls ls.length) x y))
    (h : ∀ t h' tk' u1 u2, s.heap.StaysIn h' → s.heap.objs.size ≤ t → h'.get? t = some (tupO #[.int x u1, .int y u2]) → Q (.ref t) { s with heap := h', toks := tk' }) :
    wpAny (model PySem.Challenge.rw_rl0106_01.row.prog w) A (call (.ref 118) [.ref l, .int (leap : Int) t2]) Q E s := by
  have hvl : vs.length = ls.length := by have := hI.length; rw [List.length_map] at this; exact this
  replace hI := Hide.mk hI
  have hI2 := hI
  revert X; k_fill; intro X
  refine wpAny_call ?_
  k_dflt (refine' enterPC X T ?k8 ?k6 ?k7 ?k9 ?kB ?kD ?_ ?c2 ?c3 ?c4; (case k6 => k_is); (case k7 => k_is); (case k8 => lia); (case k9 => exact BindsTo.of_eq rfl); (case kB => exact rfl); (case kD => decide +kernel); (case c2 => exact rfl); (case c3 => exact rfl); (case c4 => exact rfl); k_whole)
  intro L' h' tk' cells' F' N' Y' hL' l1
  (try k_lt l1); k_cells Y'; (try simp only [List.cons_append, List.nil_append] at N')
  (try dsimp only)
  replace h := Hide.mk h
  repeat' (first | (k_unfold; (try dsimp only)) | ((fail_if_success (with_reducible show wpAny _ _ (exec (Stmt.For _ _ _ _ _) _) _ _ _)); first | (k_end; wrow_close) | (k_here; (with_reducible show wpAny _ _ (assign (Expr.Tuple _ _ _) _ (Value.ref _)) _ _ _); k_dflt (refine' unpackN_ ?k1 ?k2 ?k3 ?k4 ?k5 ?k6 ?_; (case k1 => k_asm); (case k2 => k_asm); (case k3 => exact News.isTup (by k_asm) (by k_mem)); (case k4 => assumption); (case k5 => exact rfl); (case k6 => exact rfl)); intro _ _ _; (try k_sweep)) | ((with_reducible show wpAny _ _ (call (Value.builtin "len") _) _ _ _); (k_here; k_dflt (refine' lenB ?l ?b ?_; (case l => exact Fr.keep (by assumption) _ _ (by assumption)); (case b => lia)))) | ((with_reducible show wpAny _ _ (binaryOp Operator.Div (Value.int _ _) (Value.int _ _)) _ _ _); (k_here; first | with_reducible refine div6 (by assumption) ?_ | with_reducible refine div1024 (by assumption) ?_)) | ((with_reducible show wpAny _ _ (binaryOp Operator.Mult (Value.int _ _) (Value.int _ _)) _ _ _); (k_here; with_reducible refine mulNN (by lia) ?_)) | walk1 | (dsimp only; first | (k_here; (with_reducible show wpAny _ _ (assign (Expr.Tuple _ _ _) _ (Value.ref _)) _ _ _); k_dflt (refine' unpackN_ ?k1 ?k2 ?k3 ?k4 ?k5 ?k6 ?_; (case k1 => k_asm); (case k2 => k_asm); (case k3 => exact News.isTup (by k_asm) (by k_mem)); (case k4 => assumption); (case k5 => exact rfl); (case k6 => exact rfl)); intro _ _ _; (try k_sweep)) | ((with_reducible show wpAny _ _ (call (Value.builtin "len") _) _ _ _); (k_here; k_dflt (refine' lenB ?l ?b ?_; (case l => exact Fr.keep (by assumption) _ _ (by assumption)); (case b => lia)))) | ((with_reducible show wpAny _ _ (binaryOp Operator.Div (Value.int _ _) (Value.int _ _)) _ _ _); (k_here; first | with_reducible refine div6 (by assumption) ?_ | with_reducible refine div1024 (by assumption) ?_)) | ((with_reducible show wpAny _ _ (binaryOp Operator.Mult (Value.int _ _) (Value.int _ _)) _ _ _); (k_here; with_reducible refine mulNN (by lia) ?_)) | walk1) | (leave1; walk_say "STEP leave1"; try dsimp only)))
  refine forF ?_
  repeat' (first | (k_unfold; (try dsimp only)) | ((fail_if_success (with_reducible show wpAny _ _ (pyIter _) _ _ _)); first | (k_end; wrow_close) | (k_here; (with_reducible show wpAny _ _ (assign (Expr.Tuple _ _ _) _ (Value.ref _)) _ _ _); k_dflt (refine' unpackN_ ?k1 ?k2 ?k3 ?k4 ?k5 ?k6 ?_; (case k1 => k_asm); (case k2 => k_asm); (case k3 => exact News.isTup (by k_asm) (by k_mem)); (case k4 => assumption); (case k5 => exact rfl); (case k6 => exact rfl)); intro _ _ _; (try k_sweep)) | ((with_reducible show wpAny _ _ (call (Value.builtin "len") _) _ _ _); (k_here; k_dflt (refine' lenB ?l ?b ?_; (case l => exact Fr.keep (by assumption) _ _ (by assumption)); (case b => lia)))) | ((with_reducible show wpAny _ _ (binaryOp Operator.Div (Value.int _ _) (Value.int _ _)) _ _ _); (k_here; first | with_reducible refine div6 (by assumption) ?_ | with_reducible refine div1024 (by assumption) ?_)) | ((with_reducible show wpAny _ _ (binaryOp Operator.Mult (Value.int _ _) (Value.int _ _)) _ _ _); (k_here; with_reducible refine mulNN (by lia) ?_)) | walk1 | (dsimp only; first | (k_here; (with_reducible show wpAny _ _ (assign (Expr.Tuple _ _ _) _ (Value.ref _)) _ _ _); k_dflt (refine' unpackN_ ?k1 ?k2 ?k3 ?k4 ?k5 ?k6 ?_; (case k1 => k_asm); (case k2 => k_asm); (case k3 => exact News.isTup (by k_asm) (by k_mem)); (case k4 => assumption); (case k5 => exact rfl); (case k6 => exact rfl)); intro _ _ _; (try k_sweep)) | ((with_reducible show wpAny _ _ (call (Value.builtin "len") _) _ _ _); (k_here; k_dflt (refine' lenB ?l ?b ?_; (case l => exact Fr.keep (by assumption) _ _ (by assumption)); (case b => lia)))) | ((with_reducible show wpAny _ _ (binaryOp Operator.Div (Value.int _ _) (Value.int _ _)) _ _ _); (k_here; first | with_reducible refine div6 (by assumption) ?_ | with_reducible refine div1024 (by assumption) ?_)) | ((with_reducible show wpAny _ _ (binaryOp Operator.Mult (Value.int _ _) (Value.int _ _)) _ _ _); (k_here; with_reducible refine mulNN (by lia) ?_)) | walk1) | (leave1; walk_say "STEP leave1"; try dsimp only)))
  rename_i lp _ llp hLp _ oP _ _ dP h1 _ _ _ _ hr F1 N1 _
  refine rngIter (n := vs.length) F1 N1 hr (by lia) ?_
  intro I h2 F2 N2 lI hLI
  k_lt lI
  k_lt2 hLI
  clear F1 N1
  obtain ⟨m₀, hm₀, F2⟩ : ∃ m₀, m₀ = _ ∧ Fr s.heap L' h2 m₀ := ⟨_, rfl, F2⟩
  refine ⟨LmInv s.heap L' m₀ I s leap ls, ls.length, ?_, ?_⟩
  · rw [hvl] at N2
    refine ⟨h2, _, lp, oP, _, _, m₀ (Str.ofString "k"), 0, 0, _, _, _, rfl, by lia, frCongr F2 ?_, N2, dP, by assumption, ⟨Nat.ne_of_lt (by lia), Nat.ne_of_lt (by lia), (Nat.ne_of_lt (by lia)).symm⟩, by lia⟩
    · intro y
      by_cases h1 : y = Str.ofString "k"
      · rw [if_pos h1, h1]
      · rw [if_neg h1]
  · rintro k s' ⟨h5, tk5, lp5, oP5, oC5, uc, uk, e5, j, u1, u2, u3, rfl, hjk, F5, N5, dP5, dC5, ⟨na, nb, nc⟩, lI5⟩
    have hneI : ∀ q ∈ [(lp5, W.listOf #[.float (mixF leap ls j).1 u1, .float (mixF leap ls j).2.1 u2, .float (mixF leap ls j).2.2 u3] e5), (L' + 1 + 1, oC5), (L' + 1, oP5)], q.1 ≠ I := by
      intro q hq
      simp only [List.mem_cons, List.not_mem_nil, or_false] at hq
      rcases hq with rfl | rfl | rfl
      · exact fun e => nc e.symm
      · exact Nat.ne_of_lt (by lia)
      · exact Nat.ne_of_lt (by lia)
    rcases Nat.eq_zero_or_pos k with hk0 | hk0
    · subst hk0
      refine rngEnd hA F5 N5 hneI (by lia) ?_
      intro h6 F6 N6
      dsimp only
      subst hm₀
      repeat' (first | (k_unfold; (try dsimp only)) | ((fail_if_success (with_reducible show wpAny _ _ (call (Value.ref _) _) _ _ _)); first | (k_end; wrow_close) | (k_here; (with_reducible show wpAny _ _ (assign (Expr.Tuple _ _ _) _ (Value.ref _)) _ _ _); k_dflt (refine' unpackN_ ?k1 ?k2 ?k3 ?k4 ?k5 ?k6 ?_; (case k1 => k_asm); (case k2 => k_asm); (case k3 => exact News.isTup (by k_asm) (by k_mem)); (case k4 => assumption); (case k5 => exact rfl); (case k6 => exact rfl)); intro _ _ _; (try k_sweep)) | ((with_reducible show wpAny _ _ (call (Value.builtin "len") _) _ _ _); (k_here; k_dflt (refine' lenB ?l ?b ?_; (case l => exact Fr.keep (by assumption) _ _ (by assumption)); (case b => lia)))) | ((with_reducible show wpAny _ _ (binaryOp Operator.Div (Value.int _ _) (Value.int _ _)) _ _ _); (k_here; first | with_reducible refine div6 (by assumption) ?_ | with_reducible refine div1024 (by assumption) ?_)) | ((with_reducible show wpAny _ _ (binaryOp Operator.Mult (Value.int _ _) (Value.int _ _)) _ _ _); (k_here; with_reducible refine mulNN (by lia) ?_)) | walk1 | (dsimp only; first | (k_here; (with_reducible show wpAny _ _ (assign (Expr.Tuple _ _ _) _ (Value.ref _)) _ _ _); k_dflt (refine' unpackN_ ?k1 ?k2 ?k3 ?k4 ?k5 ?k6 ?_; (case k1 => k_asm); (case k2 => k_asm); (case k3 => exact News.isTup (by k_asm) (by k_mem)); (case k4 => assumption); (case k5 => exact rfl); (case k6 => exact rfl)); intro _ _ _; (try k_sweep)) | ((with_reducible show wpAny _ _ (call (Value.builtin "len") _) _ _ _); (k_here; k_dflt (refine' lenB ?l ?b ?_; (case l => exact Fr.keep (by assumption) _ _ (by assumption)); (case b => lia)))) | ((with_reducible show wpAny _ _ (binaryOp Operator.Div (Value.int _ _) (Value.int _ _)) _ _ _); (k_here; first | with_reducible refine div6 (by assumption) ?_ | with_reducible refine div1024 (by assumption) ?_)) | ((with_reducible show wpAny _ _ (binaryOp Operator.Mult (Value.int _ _) (Value.int _ _)) _ _ _); (k_here; with_reducible refine mulNN (by lia) ?_)) | walk1) | (leave1; walk_say "STEP leave1"; try dsimp only)))
      have ej : j = ls.length := by lia
      refine rgb_spec (X.keeps (Fr.keep (by assumption))) (T.keeps (Fr.keep (by assumption))) (by simp only [depth_deeper]; lia) hA (ej ▸ hm.out.1) ?_
      intro tt h7 tk7 c1 c2 c3 k7 ht7 g7
      have F7 := frStays (by assumption) k7
      have N7 := newsAdd (by assumption) (newsStays (by assumption) k7) g7 ht7
      have lt7 := newsLt (by assumption : News s.heap L' _ _) ht7
      k_lt lt7
      (try dsimp only)
      k_sweep
      repeat' (first | (k_unfold; (try dsimp only)) | ((fail_if_success (with_reducible show wpAny _ _ (call (Value.ref _) _) _ _ _)); first | (k_end; wrow_close) | (k_here; (with_reducible show wpAny _ _ (assign (Expr.Tuple _ _ _) _ (Value.ref _)) _ _ _); k_dflt (refine' unpackN_ ?k1 ?k2 ?k3 ?k4 ?k5 ?k6 ?_; (case k1 => k_asm); (case k2 => k_asm); (case k3 => exact News.isTup (by k_asm) (by k_mem)); (case k4 => assumption); (case k5 => exact rfl); (case k6 => exact rfl)); intro _ _ _; (try k_sweep)) | ((with_reducible show wpAny _ _ (call (Value.builtin "len") _) _ _ _); (k_here; k_dflt (refine' lenB ?l ?b ?_; (case l => exact Fr.keep (by assumption) _ _ (by assumption)); (case b => lia)))) | ((with_reducible show wpAny _ _ (binaryOp Operator.Div (Value.int _ _) (Value.int _ _)) _ _ _); (k_here; first | with_reducible refine div6 (by assumption) ?_ | with_reducible refine div1024 (by assumption) ?_)) | ((with_reducible show wpAny _ _ (binaryOp Operator.Mult (Value.int _ _) (Value.int _ _)) _ _ _); (k_here; with_reducible refine mulNN (by lia) ?_)) | walk1 | (dsimp only; first | (k_here; (with_reducible show wpAny _ _ (assign (Expr.Tuple _ _ _) _ (Value.ref _)) _ _ _); k_dflt (refine' unpackN_ ?k1 ?k2 ?k3 ?k4 ?k5 ?k6 ?_; (case k1 => k_asm); (case k2 => k_asm); (case k3 => exact News.isTup (by k_asm) (by k_mem)); (case k4 => assumption); (case k5 => exact rfl); (case k6 => exact rfl)); intro _ _ _; (try k_sweep)) | ((with_reducible show wpAny _ _ (call (Value.builtin "len") _) _ _ _); (k_here; k_dflt (refine' lenB ?l ?b ?_; (case l => exact Fr.keep (by assumption) _ _ (by assumption)); (case b => lia)))) | ((with_reducible show wpAny _ _ (binaryOp Operator.Div (Value.int _ _) (Value.int _ _)) _ _ _); (k_here; first | with_reducible refine div6 (by assumption) ?_ | with_reducible refine div1024 (by assumption) ?_)) | ((with_reducible show wpAny _ _ (binaryOp Operator.Mult (Value.int _ _) (Value.int _ _)) _ _ _); (k_here; with_reducible refine mulNN (by lia) ?_)) | walk1) | (leave1; walk_say "STEP leave1"; try dsimp only)))
      obtain ⟨_, sg, ma, ee, hdec, hb0, hb6, hfx, hfy⟩ := hm.out
      subst ej
      refine hsv_spec (X.keeps (Fr.keep (by assumption))) (T.keeps (Fr.keep (by assumption))) (by simp only [depth_deeper]; lia) hdec hb0 hb6 ?_
      intro tt' h8 tk8 c4 c5 c6 k8 ht8 g8
      have F8 := frStays (by assumption) k8
      have N8 := newsAdd (by assumption) (newsStays (by assumption) k8) g8 ht8
      have lt8 := newsLt (by assumption : News s.heap L' _ _) ht8
      k_lt lt8
      (try dsimp only)
      k_sweep
      repeat' (first | (k_unfold; (try dsimp only)) | ((fail_if_success (with_reducible show wpAny _ _ (call (Value.ref _) _) _ _ _)); (fail_if_success (with_reducible show wpAny _ _ (call (Value.builtin "round") _) _ _ _)); first | (k_end; wrow_close) | (k_here; (with_reducible show wpAny _ _ (assign (Expr.Tuple _ _ _) _ (Value.ref _)) _ _ _); k_dflt (refine' unpackN_ ?k1 ?k2 ?k3 ?k4 ?k5 ?k6 ?_; (case k1 => k_asm); (case k2 => k_asm); (case k3 => exact News.isTup (by k_asm) (by k_mem)); (case k4 => assumption); (case k5 => exact rfl); (case k6 => exact rfl)); intro _ _ _; (try k_sweep)) | ((with_reducible show wpAny _ _ (call (Value.builtin "len") _) _ _ _); (k_here; k_dflt (refine' lenB ?l ?b ?_; (case l => exact Fr.keep (by assumption) _ _ (by assumption)); (case b => lia)))) | ((with_reducible show wpAny _ _ (binaryOp Operator.Div (Value.int _ _) (Value.int _ _)) _ _ _); (k_here; first | with_reducible refine div6 (by assumption) ?_ | with_reducible refine div1024 (by assumption) ?_)) | ((with_reducible show wpAny _ _ (binaryOp Operator.Mult (Value.int _ _) (Value.int _ _)) _ _ _); (k_here; with_reducible refine mulNN (by lia) ?_)) | walk1 | (dsimp only; first | (k_here; (with_reducible show wpAny _ _ (assign (Expr.Tuple _ _ _) _ (Value.ref _)) _ _ _); k_dflt (refine' unpackN_ ?k1 ?k2 ?k3 ?k4 ?k5 ?k6 ?_; (case k1 => k_asm); (case k2 => k_asm); (case k3 => exact News.isTup (by k_asm) (by k_mem)); (case k4 => assumption); (case k5 => exact rfl); (case k6 => exact rfl)); intro _ _ _; (try k_sweep)) | ((with_reducible show wpAny _ _ (call (Value.builtin "len") _) _ _ _); (k_here; k_dflt (refine' lenB ?l ?b ?_; (case l => exact Fr.keep (by assumption) _ _ (by assumption)); (case b => lia)))) | ((with_reducible show wpAny _ _ (binaryOp Operator.Div (Value.int _ _) (Value.int _ _)) _ _ _); (k_here; first | with_reducible refine div6 (by assumption) ?_ | with_reducible refine div1024 (by assumption) ?_)) | ((with_reducible show wpAny _ _ (binaryOp Operator.Mult (Value.int _ _) (Value.int _ _)) _ _ _); (k_here; with_reducible refine mulNN (by lia) ?_)) | walk1) | (leave1; walk_say "STEP leave1"; try dsimp only)))
      refine PySem.Flt.call_round_float hA (fun hx => absurd hx (finNan hfx.1)) (fun hx => absurd hx (finInf hfx.1)) (fun _ => ?_)
      (try dsimp only)
      repeat' (first | (k_unfold; (try dsimp only)) | ((fail_if_success (with_reducible show wpAny _ _ (call (Value.ref _) _) _ _ _)); (fail_if_success (with_reducible show wpAny _ _ (call (Value.builtin "round") _) _ _ _)); first | (k_end; wrow_close) | (k_here; (with_reducible show wpAny _ _ (assign (Expr.Tuple _ _ _) _ (Value.ref _)) _ _ _); k_dflt (refine' unpackN_ ?k1 ?k2 ?k3 ?k4 ?k5 ?k6 ?_; (case k1 => k_asm); (case k2 => k_asm); (case k3 => exact News.isTup (by k_asm) (by k_mem)); (case k4 => assumption); (case k5 => exact rfl); (case k6 => exact rfl)); intro _ _ _; (try k_sweep)) | ((with_reducible show wpAny _ _ (call (Value.builtin "len") _) _ _ _); (k_here; k_dflt (refine' lenB ?l ?b ?_; (case l => exact Fr.keep (by assumption) _ _ (by assumption)); (case b => lia)))) | ((with_reducible show wpAny _ _ (binaryOp Operator.Div (Value.int _ _) (Value.int _ _)) _ _ _); (k_here; first | with_reducible refine div6 (by assumption) ?_ | with_reducible refine div1024 (by assumption) ?_)) | ((with_reducible show wpAny _ _ (binaryOp Operator.Mult (Value.int _ _) (Value.int _ _)) _ _ _); (k_here; with_reducible refine mulNN (by lia) ?_)) | walk1 | (dsimp only; first | (k_here; (with_reducible show wpAny _ _ (assign (Expr.Tuple _ _ _) _ (Value.ref _)) _ _ _); k_dflt (refine' unpackN_ ?k1 ?k2 ?k3 ?k4 ?k5 ?k6 ?_; (case k1 => k_asm); (case k2 => k_asm); (case k3 => exact News.isTup (by k_asm) (by k_mem)); (case k4 => assumption); (case k5 => exact rfl); (case k6 => exact rfl)); intro _ _ _; (try k_sweep)) | ((with_reducible show wpAny _ _ (call (Value.builtin "len") _) _ _ _); (k_here; k_dflt (refine' lenB ?l ?b ?_; (case l => exact Fr.keep (by assumption) _ _ (by assumption)); (case b => lia)))) | ((with_reducible show wpAny _ _ (binaryOp Operator.Div (Value.int _ _) (Value.int _ _)) _ _ _); (k_here; first | with_reducible refine div6 (by assumption) ?_ | with_reducible refine div1024 (by assumption) ?_)) | ((with_reducible show wpAny _ _ (binaryOp Operator.Mult (Value.int _ _) (Value.int _ _)) _ _ _); (k_here; with_reducible refine mulNN (by lia) ?_)) | walk1) | (leave1; walk_say "STEP leave1"; try dsimp only)))
      refine PySem.Flt.call_round_float hA (fun hx => absurd hx (finNan hfy.1)) (fun hx => absurd hx (finInf hfy.1)) (fun _ => ?_)
      (try dsimp only)
      repeat' (first | (k_unfold; (try dsimp only)) | ((fail_if_success (with_reducible show wpAny _ _ (call (Value.ref _) _) _ _ _)); (fail_if_success (with_reducible show wpAny _ _ (call (Value.builtin "round") _) _ _ _)); first | (k_end; wrow_close) | (k_here; (with_reducible show wpAny _ _ (assign (Expr.Tuple _ _ _) _ (Value.ref _)) _ _ _); k_dflt (refine' unpackN_ ?k1 ?k2 ?k3 ?k4 ?k5 ?k6 ?_; (case k1 => k_asm); (case k2 => k_asm); (case k3 => exact News.isTup (by k_asm) (by k_mem)); (case k4 => assumption); (case k5 => exact rfl); (case k6 => exact rfl)); intro _ _ _; (try k_sweep)) | ((with_reducible show wpAny _ _ (call (Value.builtin "len") _) _ _ _); (k_here; k_dflt (refine' lenB ?l ?b ?_; (case l => exact Fr.keep (by assumption) _ _ (by assumption)); (case b => lia)))) | ((with_reducible show wpAny _ _ (binaryOp Operator.Div (Value.int _ _) (Value.int _ _)) _ _ _); (k_here; first | with_reducible refine div6 (by assumption) ?_ | with_reducible refine div1024 (by assumption) ?_)) | ((with_reducible show wpAny _ _ (binaryOp Operator.Mult (Value.int _ _) (Value.int _ _)) _ _ _); (k_here; with_reducible refine mulNN (by lia) ?_)) | walk1 | (dsimp only; first | (k_here; (with_reducible show wpAny _ _ (assign (Expr.Tuple _ _ _) _ (Value.ref _)) _ _ _); k_dflt (refine' unpackN_ ?k1 ?k2 ?k3 ?k4 ?k5 ?k6 ?_; (case k1 => k_asm); (case k2 => k_asm); (case k3 => exact News.isTup (by k_asm) (by k_mem)); (case k4 => assumption); (case k5 => exact rfl); (case k6 => exact rfl)); intro _ _ _; (try k_sweep)) | ((with_reducible show wpAny _ _ (call (Value.builtin "len") _) _ _ _); (k_here; k_dflt (refine' lenB ?l ?b ?_; (case l => exact Fr.keep (by assumption) _ _ (by assumption)); (case b => lia)))) | ((with_reducible show wpAny _ _ (binaryOp Operator.Div (Value.int _ _) (Value.int _ _)) _ _ _); (k_here; first | with_reducible refine div6 (by assumption) ?_ | with_reducible refine div1024 (by assumption) ?_)) | ((with_reducible show wpAny _ _ (binaryOp Operator.Mult (Value.int _ _) (Value.int _ _)) _ _ _); (k_here; with_reducible refine mulNN (by lia) ?_)) | walk1) | (leave1; walk_say "STEP leave1"; try dsimp only)))
      rename_i D9 h9 F9 N9 _ hLt9
      rw [hfx.2, hfy.2] at N9
      exact h.out D9 h9 _ _ _ (Fr.keep F9) (Nat.le_of_lt (Nat.lt_of_le_of_lt hL' hLt9)) (News.get N9 (.head _))
    · refine rngNext F5 N5 hneI (by lia) ?_
      intro h6 F6 N6
      dsimp only
      clear F5 N5
      have hj : j < ls.length := by lia
      have h64 : leap * j < 64 := by
        have := Nat.mul_le_mul hleap (show j ≤ 19 by lia)
        lia
      subst hm₀
      repeat' (first | (k_unfold; (try dsimp only)) | ((fail_if_success (with_reducible show wpAny _ _ (subscriptTail _ _ _ _) _ _ _)); (fail_if_success (with_reducible show wpAny _ _ (call (Value.ref _) _) _ _ _)); first | (k_end; wrow_close) | (k_here; (with_reducible show wpAny _ _ (assign (Expr.Tuple _ _ _) _ (Value.ref _)) _ _ _); k_dflt (refine' unpackN_ ?k1 ?k2 ?k3 ?k4 ?k5 ?k6 ?_; (case k1 => k_asm); (case k2 => k_asm); (case k3 => exact News.isTup (by k_asm) (by k_mem)); (case k4 => assumption); (case k5 => exact rfl); (case k6 => exact rfl)); intro _ _ _; (try k_sweep)) | ((with_reducible show wpAny _ _ (call (Value.builtin "len") _) _ _ _); (k_here; k_dflt (refine' lenB ?l ?b ?_; (case l => exact Fr.keep (by assumption) _ _ (by assumption)); (case b => lia)))) | ((with_reducible show wpAny _ _ (binaryOp Operator.Div (Value.int _ _) (Value.int _ _)) _ _ _); (k_here; first | with_reducible refine div6 (by assumption) ?_ | with_reducible refine div1024 (by assumption) ?_)) | ((with_reducible show wpAny _ _ (binaryOp Operator.Mult (Value.int _ _) (Value.int _ _)) _ _ _); (k_here; with_reducible refine mulNN (by lia) ?_)) | walk1 | (dsimp only; first | (k_here; (with_reducible show wpAny _ _ (assign (Expr.Tuple _ _ _) _ (Value.ref _)) _ _ _); k_dflt (refine' unpackN_ ?k1 ?k2 ?k3 ?k4 ?k5 ?k6 ?_; (case k1 => k_asm); (case k2 => k_asm); (case k3 => exact News.isTup (by k_asm) (by k_mem)); (case k4 => assumption); (case k5 => exact rfl); (case k6 => exact rfl)); intro _ _ _; (try k_sweep)) | ((with_reducible show wpAny _ _ (call (Value.builtin "len") _) _ _ _); (k_here; k_dflt (refine' lenB ?l ?b ?_; (case l => exact Fr.keep (by assumption) _ _ (by assumption)); (case b => lia)))) | ((with_reducible show wpAny _ _ (binaryOp Operator.Div (Value.int _ _) (Value.int _ _)) _ _ _); (k_here; first | with_reducible refine div6 (by assumption) ?_ | with_reducible refine div1024 (by assumption) ?_)) | ((with_reducible show wpAny _ _ (binaryOp Operator.Mult (Value.int _ _) (Value.int _ _)) _ _ _); (k_here; with_reducible refine mulNN (by lia) ?_)) | walk1) | (leave1; walk_say "STEP leave1"; try dsimp only)))
      refine itemN (Fr.keep (by assumption) _ _ hl) hI2.out hj (by lia) ?_
      intro t9
      (try dsimp only)
      have hj1000 : ls.getD j 0 < 1000 := by
        rw [List.getD_eq_getElem?_getD, List.getElem?_eq_getElem hj]
        exact h1000 _ (List.getElem_mem hj)
      repeat' (first | (k_unfold; (try dsimp only)) | ((fail_if_success (with_reducible show Exists _)); (fail_if_success (with_reducible show wpAny _ _ (call (Value.ref _) _) _ _ _)); first | (k_end; wrow_close) | (k_here; (with_reducible show wpAny _ _ (assign (Expr.Tuple _ _ _) _ (Value.ref _)) _ _ _); k_dflt (refine' unpackN_ ?k1 ?k2 ?k3 ?k4 ?k5 ?k6 ?_; (case k1 => k_asm); (case k2 => k_asm); (case k3 => exact News.isTup (by k_asm) (by k_mem)); (case k4 => assumption); (case k5 => exact rfl); (case k6 => exact rfl)); intro _ _ _; (try k_sweep)) | ((with_reducible show wpAny _ _ (call (Value.builtin "len") _) _ _ _); (k_here; k_dflt (refine' lenB ?l ?b ?_; (case l => exact Fr.keep (by assumption) _ _ (by assumption)); (case b => lia)))) | ((with_reducible show wpAny _ _ (binaryOp Operator.Div (Value.int _ _) (Value.int _ _)) _ _ _); (k_here; first | with_reducible refine div6 (by assumption) ?_ | with_reducible refine div1024 (by assumption) ?_)) | ((with_reducible show wpAny _ _ (binaryOp Operator.Mult (Value.int _ _) (Value.int _ _)) _ _ _); (k_here; with_reducible refine mulNN (by lia) ?_)) | walk1 | (dsimp only; first | (k_here; (with_reducible show wpAny _ _ (assign (Expr.Tuple _ _ _) _ (Value.ref _)) _ _ _); k_dflt (refine' unpackN_ ?k1 ?k2 ?k3 ?k4 ?k5 ?k6 ?_; (case k1 => k_asm); (case k2 => k_asm); (case k3 => exact News.isTup (by k_asm) (by k_mem)); (case k4 => assumption); (case k5 => exact rfl); (case k6 => exact rfl)); intro _ _ _; (try k_sweep)) | ((with_reducible show wpAny _ _ (call (Value.builtin "len") _) _ _ _); (k_here; k_dflt (refine' lenB ?l ?b ?_; (case l => exact Fr.keep (by assumption) _ _ (by assumption)); (case b => lia)))) | ((with_reducible show wpAny _ _ (binaryOp Operator.Div (Value.int _ _) (Value.int _ _)) _ _ _); (k_here; first | with_reducible refine div6 (by assumption) ?_ | with_reducible refine div1024 (by assumption) ?_)) | ((with_reducible show wpAny _ _ (binaryOp Operator.Mult (Value.int _ _) (Value.int _ _)) _ _ _); (k_here; with_reducible refine mulNN (by lia) ?_)) | walk1) | (leave1; walk_say "STEP leave1"; try dsimp only)))
      obtain ⟨sg, ma, ee, hdec, htr⟩ := paint_dec h64
      refine hsv_spec (X.keeps (Fr.keep (by assumption))) (T.keeps (Fr.keep (by assumption))) (by simp only [depth_deeper]; lia) hdec (by lia) (by lia) ?_
      intro tt h7 tk7 c1 c2 c3 k7 ht7 g7
      rw [htr] at g7
      have F7 := frStays (by assumption) k7
      have N7 := newsAdd (by assumption) (newsStays (by assumption) k7) g7 ht7
      have lt7 := newsLt (by assumption : News s.heap L' _ _) ht7
      k_lt lt7
      (try dsimp only)
      k_sweep
      repeat' (first | (k_unfold; (try dsimp only)) | ((fail_if_success (with_reducible show Exists _)); (fail_if_success (with_reducible show wpAny _ _ (call (Value.ref _) _) _ _ _)); first | (k_end; wrow_close) | (k_here; (with_reducible show wpAny _ _ (assign (Expr.Tuple _ _ _) _ (Value.ref _)) _ _ _); k_dflt (refine' unpackN_ ?k1 ?k2 ?k3 ?k4 ?k5 ?k6 ?_; (case k1 => k_asm); (case k2 => k_asm); (case k3 => exact News.isTup (by k_asm) (by k_mem)); (case k4 => assumption); (case k5 => exact rfl); (case k6 => exact rfl)); intro _ _ _; (try k_sweep)) | ((with_reducible show wpAny _ _ (call (Value.builtin "len") _) _ _ _); (k_here; k_dflt (refine' lenB ?l ?b ?_; (case l => exact Fr.keep (by assumption) _ _ (by assumption)); (case b => lia)))) | ((with_reducible show wpAny _ _ (binaryOp Operator.Div (Value.int _ _) (Value.int _ _)) _ _ _); (k_here; first | with_reducible refine div6 (by assumption) ?_ | with_reducible refine div1024 (by assumption) ?_)) | ((with_reducible show wpAny _ _ (binaryOp Operator.Mult (Value.int _ _) (Value.int _ _)) _ _ _); (k_here; with_reducible refine mulNN (by lia) ?_)) | walk1 | (dsimp only; first | (k_here; (with_reducible show wpAny _ _ (assign (Expr.Tuple _ _ _) _ (Value.ref _)) _ _ _); k_dflt (refine' unpackN_ ?k1 ?k2 ?k3 ?k4 ?k5 ?k6 ?_; (case k1 => k_asm); (case k2 => k_asm); (case k3 => exact News.isTup (by k_asm) (by k_mem)); (case k4 => assumption); (case k5 => exact rfl); (case k6 => exact rfl)); intro _ _ _; (try k_sweep)) | ((with_reducible show wpAny _ _ (call (Value.builtin "len") _) _ _ _); (k_here; k_dflt (refine' lenB ?l ?b ?_; (case l => exact Fr.keep (by assumption) _ _ (by assumption)); (case b => lia)))) | ((with_reducible show wpAny _ _ (binaryOp Operator.Div (Value.int _ _) (Value.int _ _)) _ _ _); (k_here; first | with_reducible refine div6 (by assumption) ?_ | with_reducible refine div1024 (by assumption) ?_)) | ((with_reducible show wpAny _ _ (binaryOp Operator.Mult (Value.int _ _) (Value.int _ _)) _ _ _); (k_here; with_reducible refine mulNN (by lia) ?_)) | walk1) | (leave1; walk_say "STEP leave1"; try dsimp only)))
      rename Obj.data _ = Data.cell (some (Value.ref tt)) => dC9
      rename_i D9 _ _ o9 h9 oP9 F9 N9 d9
      show ∃ j', j' < k ∧ _
      have ek : ((k : Int) - 1) = ((k - 1 : Nat) : Int) := by lia
      rw [ek] at N9
      refine ⟨k - 1, by lia, h9, _, D9, oP9, _, _, some (.int (j : Int) tk5), _, j + 1, _, _, _, rfl, by lia, frCongr F9 ?_, newsPick N9, d9, dC9, ⟨?_, ?_, ?_⟩, lI5⟩
      · intro y
        by_cases h1 : y = Str.ofString "k"
        · simp only [if_pos h1]
        · simp only [if_neg h1]
      · exact o9.2.2.2.1
      · exact o9.2.2.2.2
      · exact o9.2.1
end
end Mine
end
section
open PySem PySem.W PySem.Calls PyProof.Rows
set_option maxRecDepth 100000
set_option maxHeartbeats 8000000
namespace Mine
section
variable {M : Model} {A : Around} {R : GenEnd} {Y : Protocol} {n : Nat} {s₀ : Shared} {c : Code} {fs : List Frame} {s : Shared} {env : Env}
  {K : Flow → Sem Fin} {H : Value → Sem Fin} {gd : Bool → Bool} {lv : List Value → List Value}
/-- a statement that yields nothing, inside a generator -/
theorem seg_st {st : Stmt} {rest : List Stmt}
    (h : wpAny M (A.over c fs) (exec st env) (fun f s' => match f with
      | .next => Seg M A R Y n s₀ c ((execs rest env).wrap K H gd lv) fs s'
      | f => Seg M A R Y n s₀ c (K f) fs s') (fun _ _ => False) s) : Seg M A R Y n s₀ c ((execs (st :: rest) env).wrap K H gd lv) fs s := by
  refine seg_execs_cons (seg_wrap (wpAny_mono h (fun f s' h' => ?_) fun _ _ x => x.elim))
  cases f <;> exact h'
theorem seg_If {test : PySem.Expr} {body orelse : List Stmt} {pos : Pos}
    (h : wpAny M (A.over c fs) (isTrue test env (eval test env)) (fun b s' =>
      if b = true then Seg M A R Y n s₀ c ((execs body env).wrap K H gd lv) fs s' else Seg M A R Y n s₀ c ((execs orelse env).wrap K H gd lv) fs s') (fun _ _ => False) s) :
    Seg M A R Y n s₀ c ((exec (.If test body orelse pos) env).wrap K H gd lv) fs s := by
  rw [exec_If]
  refine seg_bind_wrap (wpAny_standAt (seg_bind_wrap (wpAny_mono h (fun b s' h' => ?_) fun _ _ x => x.elim)))
  cases b
  · exact h'
  · exact h'
theorem seg_For {target iter : PySem.Expr} {body orelse : List Stmt} {pos : Pos}
    (h : wpAny M (A.over c fs) (eval iter env) (fun xv s₁ => wpAny M (A.over c fs) (pyIter xv) (fun it s₂ => ∀ p,
      Seg M A R Y n s₀ (.forLoop target it body orelse env) (M.den (.forLoop target it body orelse env))
        (.ret (fun r => ((match r with | .ok f => (.pure f : Sem Flow) | .error e => .raise e).onRaise fun (x : Value) => do
          if (← field x 1) == Value.none then unsupported "frame.own-activation:exception-without-traceback"
          setFlight x env.frame).wrap K H gd lv) none (gd false) (lv []) c p [] :: fs) s₂) (fun _ _ => False) s₁) (fun _ _ => False) s)
    (hs : ∀ x, foldedSetIterable iter env x = pure x := by intro _; rfl) :
    Seg M A R Y n s₀ c ((exec (.For target iter body orelse pos) env).wrap K H gd lv) fs s := by
  rw [exec_For]
  refine seg_bind_wrap (wpAny_standAt (seg_bind_wrap (wpAny_mono h (fun xv s₁ h₁ => ?_) fun _ _ x => x.elim)))
  rw [hs]
  refine seg_bind_wrap (wpAny_pure (seg_bind_wrap (wpAny_standAt (seg_bind_wrap (wpAny_holding (wpAny_mono h₁ (fun it s₂ h₂ => ?_) fun _ _ x => x.elim))))))
  exact seg_call h₂
end
section
variable {prog : Program} {w : World} {A : Around} {R : GenEnd} {Y : Protocol} {n : Nat} {s₀ : Shared} {fs : List Frame} {s : Shared} {env : Env} {c : Code}
  {K : Flow → Sem Fin} {H : Value → Sem Fin} {gd : Bool → Bool} {lv : List Value → List Value}
/-- what a raise does in a loop of a generator's -/
abbrev loopH (env : Env) : Value → Sem Fin := fun e => (do noteFrame e env; theTreesLotGoes e : Sem Unit).wrap (fun _ => .raise e) .raise id id
/-- where a turn goes -/
abbrev loopK (c : Code) : Flow → Sem Fin := fun f => match f with
  | .next | .cont => .pure (.again c)
  | .brk => .pure (.done .next)
  | .ret v => .pure (.done (.ret v))
theorem seg_forTurn {target : PySem.Expr} {it : Value} {body : List Stmt}
    (h : wpAny (model prog w) (A.over (.forLoop target it body [] env) fs) (pyNext it) (fun r s₁ => match r with
      | none => Seg (model prog w) A R Y n s₀ (.block [] env) (leafOf (.ok .next)) fs s₁
      | some v => wpAny (model prog w) (A.over (.forLoop target it body [] env) fs) (assign target env v) (fun _ s₂ =>
          Seg (model prog w) A R Y n s₀ (.forLoop target it body [] env) ((execs body env).wrap (loopK (.forLoop target it body [] env)) (loopH env) id id) fs s₂) (fun _ _ => False) s₁) (fun _ _ => False) s)
    (ht : ∀ v, letOwnedTupleGo target it v = pure () := by intro _; rfl) :
    Seg (model prog w) A R Y n s₀ (.forLoop target it body [] env) ((model prog w).den (.forLoop target it body [] env)) fs s := by
  show Seg _ A R Y n s₀ _ ((forTurn target it body [] env).onRaise (fun x => do noteFrame x env; theTreesLotGoes x)) fs s
  unfold forTurn
  rw [Sem.onRaise_eq_wrap]
  refine seg_bind_wrap (wpAny_standAt ?_)
  refine seg_bind_wrap (wpAny_onRaise (wpAny_mono h (fun r s₁ h₁ => ?_) fun _ _ x => x.elim))
  cases r with
  | none => exact seg_again rfl h₁
  | some v =>
    dsimp only
    rw [ht]
    refine seg_bind_wrap (wpAny_pure (seg_bind_wrap (wpAny_mono h₁ (fun _ s₂ h₂ => ?_) fun _ _ x => x.elim)))
    rw [Sem.bind_eq_wrap', Sem.wrap_wrap]
    rw [Sem.wrap_congr (execs body env) _ _ (K' := loopK (.forLoop target it body [] env)) (H' := loopH env)
        (fun f => by cases f <;> rfl)
        (fun e => by first | exact Sem.bind_eq_wrap _ _ | (show (do noteFrame e env; theTreesLotGoes e : Sem Unit).bind (fun _ => .raise e) = _; rw [Sem.bind_eq_wrap]))]
    exact h₂
/-- the end of a loop's activation, back in the code that called it -/
theorem seg_back {f : Flow} {c' : Code} {p : Pos} {l : List Value} {g : Bool} (hk : Seg (model prog w) A R Y n s₀ c (K f) fs s) :
    Seg (model prog w) A R Y n s₀ c' (leafOf (.ok f)) (.ret (fun r => ((match r with | .ok f => (.pure f : Sem Flow) | .error e => .raise e).onRaise fun (x : Value) => do
          if (← field x 1) == Value.none then unsupported "frame.own-activation:exception-without-traceback"
          setFlight x env.frame).wrap K H gd lv) none g l c p [] :: fs) s := seg_leaf (.ok f) hk
end
end Mine
end
section
open PySem PySem.W PySem.Calls PyProof.Rows
set_option maxRecDepth 100000
set_option maxHeartbeats 8000000
namespace Mine
section
variable {prog : Program} {w : World} {A : Around} {E : Value → Shared → Prop} {s : Shared}
/-- the next of a generator, what is left being bare -/
theorem pyNextG {a : Addr} {g n : Nat} {gs : GenState} {P : Nat → Shared → Shared → Prop} {Y : Protocol} {Q : Option Value → Shared → Prop} (hh : A.handled = none)
    (hl : s.heap.NoLimit) (hroom : A.depth < recursionLimit) (hg : s.heap.IsGen a g) (hgs : s.gens[g]? = some gs)
    (hgo : gs.Goes (model prog w) A.in1 (fun n s₀ r s₁ => r = .ok (.ret .none) ∧ P n s₀ s₁) Y n (.send .none) (s.setGen g .running))
    (hY : ∀ v s₁ gs', gs'.bare = true → Y (n - 1) (s.setGen g .running) v s₁ (fun r' s'' => match n with
        | 0 => False
        | m + 1 => gs'.Goes (model prog w) A.in1 (fun n s₀ r s₁ => r = .ok (.ret .none) ∧ P n s₀ s₁) Y m r' s'') → Q (some v) (s₁.setGen g gs'))
    (hP : ∀ s₁, P n (s.setGen g .running) s₁ → ∀ h', (∀ b o, s₁.heap.get? b = some o → h'.get? b = some o) → Q none { s₁.setGen g .finished with heap := h' }) :
    wpAny (model prog w) A (pyNext (.ref a)) Q E s := by
  unfold pyNext
  refine wpAny_bind (wpAny_attempt (wpAny_callSpecial?_slot (name := Str.ofString "__next__") hg.typeIs slot_gen_next
    (wpAny_call_entry slot_gen_next hg.typeIs entry_gen_next ?_ (args_gen_next _))))
  show wpAny _ A.in1 (Builtin.Generator.genWake (.ref a) (.send .none)) _ _ s
  unfold Builtin.Generator.genWake
  refine wpAny_bind (wpAny_holding (wpAny_genNumber hg (wpAny_bind (wpAny_genState hgs ?_))))
  cases gs with
  | running => exact hgo.elim
  | finished => exact hgo.elim
  | _ =>
    refine wpAny_bind (wpAny_roomToWake hl hroom ?_)
    show wpAny _ A.in1 (.resume g (.send .none) [] _) _ _ s
    refine wpAny_resumeQ hgs hgo (fun x s₁ hx => ?_) (fun v s₁ gs' hb hv => ?_)
    · obtain ⟨rfl, hp⟩ := hx
      show wpAny _ A.in1 (newExc (.type "StopIteration") [] >>= _) _ _ _
      refine wpAny_bind ?_
      simp only [newExc, newTuple]
      refine wpAny_bind (wpAny_newObj_type ?_ (by size_fits))
      refine wpAny_bind (m := firstArgMember _ _) (wpAny_of_eq (a := Value.none) (by first | rfl | (simp only [firstArgMember]; rfl)) ?_)
      refine wpAny_newObj_type ?_ (by size_fits)
      simp only [raiseNew]
      refine wpAny_bind (wpAny_bind (wpAny_handled ?_))
      first | rw [show A.in1.handled = none from hh] | rw [hh]
      refine wpAny_throw ?_
      refine wpAny_bind (wpAny_isInstance (T := "StopIteration") (b := true) ⟨_, Heap.get?_push_size _ rfl, rfl⟩ isSubtype_stop ?_)
      exact wpAny_pure (hP s₁ hp _ fun b o hb => Heap.get?_push_of_some _ (Heap.get?_push_of_some _ hb))
    · exact wpAny_pure ⟨v, rfl, wpAny_pure (hY v s₁ gs' hb hv)⟩
end
section
variable {w : World} {A : Around} {s : Shared} {p : Program} {loose : List Str} {mean : ExcName → Option Value} {mg mb : Str → Option Value}
  {R : Result → Shared → Prop} {name qual : Str} {params : Arguments} {body : List Stmt} {scope : Scope} {dV kV doc pm cdv ct oc : Value} {an od : Option Addr} {osl : Array (Option Value)} {f : Addr} {args : Args} {binds : List (Str × Value)}
/-- a generator function, called over the state s -/
theorem enterG (X : (Mine.KK w.params).In s.heap) (T : Top p loose mean mg mb s.heap) (hroom : A.depth < recursionLimit)
    (ho : (Mine.KK w.params).lookup f = some ⟨oc, od, .func (fnOf name qual params body scope dV kV doc pm an cdv ct), osl⟩) (hcd : codeIn (Mine.KK w.params) cdv qual = true)
    (hbind : BindsTo s (fnOf name qual params body scope dV kV doc pm an cdv ct) args binds) (hloc : ∀ y ∈ binds, scope.names.lookup y.1 = some .local)
    (h : ∀ a h' tk', s.heap.StaysIn h' → h'.Ns s.heap.objs.size (fun y => binds.reverse.lookup y) → h'.IsGen a s.gens.size → @LT.lt Nat _ s.heap.objs.size a →
      R (.ok (.ret (.ref a))) { s with heap := h', toks := tk', gens := s.gens.push (.fresh (.func body (envOf qual scope s.heap.objs.size f cdv))) })
    (hco : scope.isCoroutine = false) (hgen : scope.isGenerator = true) (hk : scope.kind = .function)
    (hcell : ∀ x ∈ scope.names, x.2 ≠ .cell) : codeAny (model PySem.Challenge.rw_rl0106_01.row.prog w) A (.call (.ref f) args) R s := by
  refine codeAny_call_generator (body := body) hroom (X _ _ ho) rfl hco hgen rfl (codeRec_of X hcd) (hbind _ _ _ _ ?_)
  refine wpAny_newFunctionEnv hcell hloc (fun h' hns hsb => ?_) hk
  have hk : s.heap.StaysIn h' := fun b o e => hsb.extBut b o (Nat.ne_of_lt (Heap.lt_size e)) (Heap.get?_push_of_some _ e)
  refine ⟨T.nolimit.keeps hk, ?_⟩
  have hsz : h'.objs.size = s.heap.objs.size + 1 := by rw [hsb.1, Heap.size_push]
  refine h h'.objs.size _ _ (fun b o e => Heap.get?_push_of_some _ (hk b o e)) (hns.push _) ⟨_, _, _, Heap.get?_push_size _ rfl, rfl, rfl, rfl⟩ ?_
  rw [hsz]; exact Nat.lt_succ_self _
end
end Mine
end
section
open PySem PySem.W PySem.Calls PyProof.Rows
set_option maxRecDepth 100000
set_option maxHeartbeats 8000000
namespace Mine
/-- the way of _grouping_intervals over a row: at item i, n values to come (tv k: the value with k behind it), the last one told; fin: it ends behind them -/
inductive Path (row : List Nat) (tv : Nat → Nat) (fin : Bool) : Nat → Nat → Option Nat → Prop
  | stop {i last} : fin = true → row[i]? = none → Path row tv fin i 0 last
  | stop2 {i last} : fin = true → row[i]? = some 127 → Path row tv fin i 0 last
  | step {i n x last} : row[i]? = some x → x ≠ 127 → x ≠ 0 → tv n = x → Path row tv fin (i + 1) n (some x) → Path row tv fin i (n + 1) last
  | stuck {i n v} : row[i]? = some 0 → fin = false → (∀ k, k ≤ n → tv k = v) → Path row tv fin i (n + 1) (some v)
abbrev itO (l : Addr) (i : Nat) : Obj := { cls := .type "list_iterator", data := .fields #[.ref l, .int i 0] }
abbrev gmap (ui ul : Option Value) (l : Addr) : Str → Option Value := fun y => if y = Str.ofString "interval" then ui else if y = Str.ofString "last_interval" then ul else if y = Str.ofString "grouping" then some (.ref l) else none
/-- the generator's own things, as they stand ahead of a turn -/
inductive LS (base : Heap) (Lg I l : Addr) (i : Nat) (last : Option Nat) (s : Shared) : Prop
  | mk (ui ul : Option Value) (oI : Obj)
    (h1 : Fr base Lg s.heap (gmap ui ul l))
    (h2 : News base Lg s.heap [(I, oI)])
    (h3 : (oI.cls = .type "list_iterator" ∧ oI.data = .fields #[.ref l, .int i 0]))
    (h4 : (∀ v, last = some v → ∃ t, ul = some (.int (v : Int) t)))
    (h5 : (last = none → ul = some .none)) : LS base Lg I l i last s
def Since (Lg I : Addr) (s₀ s : Shared) : Prop :=
  ∃ h tk, s = { s₀ with heap := h, toks := tk } ∧ (∀ b o, s₀.heap.get? b = some o → b ≠ Lg → b ≠ I → h.get? b = some o)
def giR (Lg I : Addr) (fin : Bool) : GenEnd := fun n s₀ r s₁ => r = .ok (.ret .none) ∧ (n = 0 ∧ fin = true ∧ Since Lg I s₀ s₁)
def giY (base : Heap) (Lg I : Addr) (tv : Nat → Nat) (fin : Bool) : Protocol := fun k s₀ v s' kap =>
  (∃ t, v = .int (tv k : Int) t) ∧ Since Lg I s₀ s' ∧ (∃ o, s'.heap.get? I = some o) ∧ (∃ o, s'.heap.get? Lg = some o) ∧ base.get? I = none ∧ base.get? Lg = none ∧
    ((k = 0 ∧ fin = false) ∨ ∀ s'', base.StaysIn s''.heap → s''.heap.get? Lg = s'.heap.get? Lg → s''.heap.get? I = s'.heap.get? I → kap (.send .none) s'')
section
variable {base : Heap} {Lg I l : Addr} {i : Nat} {last : Option Nat} {s s₀ s' s'' : Shared}
theorem Since.refl : Since Lg I s s := ⟨s.heap, s.toks, rfl, fun _ _ e _ _ => e⟩
theorem Since.step {h' : Heap} {tk : Nat} (x : Since Lg I s₀ s) (k : ∀ b o, s.heap.get? b = some o → b ≠ Lg → b ≠ I → h'.get? b = some o) : Since Lg I s₀ { s with heap := h', toks := tk } := by
  obtain ⟨h, t, rfl, k0⟩ := x
  exact ⟨h', tk, rfl, fun b o e n1 n2 => k b o (k0 b o e n1 n2) n1 n2⟩
theorem LS.resume (x : LS base Lg I l i last s') (hb : base.StaysIn s''.heap) (h1 : s''.heap.get? Lg = s'.heap.get? Lg) (h2 : s''.heap.get? I = s'.heap.get? I) : LS base Lg I l i last s'' := by
  obtain ⟨ui, ul, oI, F, N, r, r4, r5⟩ := x
  refine ⟨ui, ul, oI, ⟨?_, hb, F.above⟩, fun q hq => ?_, r, r4, r5⟩
  · obtain ⟨oL, es, ep, hL, q⟩ := F.ns
    exact ⟨oL, es, ep, h1.trans hL, q⟩
  · have := N q hq
    obtain rfl := List.mem_singleton.mp hq
    exact ⟨h2.trans this.1, this.2⟩
theorem storeG {M : Model} {A : Around} {E : Value → Shared → Prop} {env : Env} {name : Str} {v : Value} {m : Str → Option Value} {news : List (Addr × Obj)} {Q : Unit → Shared → Prop} (hl : env.kindOf name = some .local) (he : env.locals = Lg)
    (hp : (env.scope.kind == .class || (env.scope.kind == .module && env.locals != env.globals)) = false) (F : Fr base Lg s.heap m) (N : News base Lg s.heap news) (S : Since Lg I s₀ s)
    (h : ∀ h', Fr base Lg h' (fun y => if y = name then some v else m y) → News base Lg h' news → Since Lg I s₀ { s with heap := h', toks := s.toks + 1 } → Q () { s with heap := h', toks := s.toks + 1 }) : wpAny M A (storeName env name v) Q E s := by
  subst he
  refine wpAny_storeName_local hl F.ns (fun h' hn sb => ?_) hp
  refine h h' ⟨hn, fun b o e => (sb.2 b ?_).trans (F.keep b o e), F.above⟩ (fun q hq => ⟨(sb.2 _ (N q hq).2.1).trans (N q hq).1, (N q hq).2⟩) (S.step fun b o e n1 _ => (sb.2 b n1).trans e)
  exact Nat.ne_of_lt (Nat.lt_of_lt_of_le (Heap.lt_size e) F.above)
theorem gi_ind {w : World} {A : Around} {R : GenEnd} {Y : Protocol} {c : Code} {fs : List Frame} {row : List Nat} {tv : Nat → Nat} {fin : Bool}
    (turn : ∀ n i last s₀ s, Path row tv fin i n last → LS base Lg I l i last s → Since Lg I s₀ s →
      (∀ x m, n = m + 1 → row[i]? = some x → Path row tv fin (i + 1) m (some x) → ∀ s'', LS base Lg I l (i + 1) (some x) s'' → ∀ s₂, Since Lg I s₂ s'' → Seg (model PySem.Challenge.rw_rl0106_01.row.prog w) A R Y m s₂ c ((model PySem.Challenge.rw_rl0106_01.row.prog w).den c) fs s'') →
      Seg (model PySem.Challenge.rw_rl0106_01.row.prog w) A R Y n s₀ c ((model PySem.Challenge.rw_rl0106_01.row.prog w).den c) fs s) :
    ∀ n i last s₀ s, Path row tv fin i n last → LS base Lg I l i last s → Since Lg I s₀ s → Seg (model PySem.Challenge.rw_rl0106_01.row.prog w) A R Y n s₀ c ((model PySem.Challenge.rw_rl0106_01.row.prog w).den c) fs s := by
  intro n
  induction n with
  | zero => intro i last s₀ s hp hl hs; exact turn 0 i last s₀ s hp hl hs fun x m e => by omega
  | succ n ih =>
    intro i last s₀ s hp hl hs
    refine turn (n + 1) i last s₀ s hp hl hs fun x m e hx hp' s'' hl'' s₂ hs₂ => ?_
    obtain rfl : n = m := by omega
    exact ih _ _ _ _ hp' hl'' hs₂
theorem resumeF {g9 : Heap} {m : Str → Option Value} {oI : Obj} (F : Fr base Lg g9 m) (N : News base Lg g9 [(I, oI)]) (hb : base.StaysIn s''.heap) (h1 : s''.heap.get? Lg = g9.get? Lg) (h2 : s''.heap.get? I = g9.get? I) :
    Fr base Lg s''.heap m ∧ News base Lg s''.heap [(I, oI)] := by
  refine ⟨⟨?_, hb, F.above⟩, fun q hq => ?_⟩
  · obtain ⟨oL, es, ep, hL, q⟩ := F.ns
    exact ⟨oL, es, ep, h1.trans hL, q⟩
  · have := N q hq
    obtain rfl := List.mem_singleton.mp hq
    exact ⟨h2.trans this.1, this.2⟩
theorem ownF {g9 : Heap} {m : Str → Option Value} (F : Fr base Lg g9 m) : (∃ o, g9.get? Lg = some o) ∧ base.get? Lg = none := by
  obtain ⟨oL, es, ep, hL, q⟩ := F.ns
  exact ⟨⟨_, hL⟩, Heap.get?_none_of_le F.above⟩
theorem gi_ind2 {w : World} {A : Around} {R : GenEnd} {Y : Protocol} {c : Code} {fs : List Frame} {v N0 : Nat}
    (turn : ∀ n s₀ s, n ≤ N0 → LS base Lg I l i (some v) s → Since Lg I s₀ s →
      (∀ m, n = m + 1 → ∀ s'', LS base Lg I l i (some v) s'' → ∀ s₂, Since Lg I s₂ s'' → Seg (model PySem.Challenge.rw_rl0106_01.row.prog w) A R Y (m + 1) s₂ c ((model PySem.Challenge.rw_rl0106_01.row.prog w).den c) fs s'') →
      Seg (model PySem.Challenge.rw_rl0106_01.row.prog w) A R Y (n + 1) s₀ c ((model PySem.Challenge.rw_rl0106_01.row.prog w).den c) fs s) :
    ∀ n s₀ s, n ≤ N0 → LS base Lg I l i (some v) s → Since Lg I s₀ s → Seg (model PySem.Challenge.rw_rl0106_01.row.prog w) A R Y (n + 1) s₀ c ((model PySem.Challenge.rw_rl0106_01.row.prog w).den c) fs s := by
  intro n
  induction n with
  | zero => intro s₀ s hb hl hs; exact turn 0 s₀ s hb hl hs fun m e => by omega
  | succ n ih =>
    intro s₀ s hb hl hs
    refine turn (n + 1) s₀ s hb hl hs fun m e s'' hl'' s₂ hs₂ => ?_
    obtain rfl : n = m := by omega
    exact ih _ _ (Nat.le_of_succ_le hb) hl'' hs₂
end
theorem gm_init {l : Addr} (y : Str) : (if y = Str.ofString "last_interval" then some Value.none else List.lookup y [(Str.ofString "grouping", Value.ref l)]) = gmap none (some .none) l y := by
  unfold gmap
  by_cases h1 : y = Str.ofString "grouping"
  · subst h1
    rw [if_neg (by decide), if_neg (by decide), if_neg (by decide), if_pos rfl]
    simp [List.lookup]
  · have e : List.lookup y [(Str.ofString "grouping", Value.ref l)] = none := by
      simp only [List.lookup]
      rw [show (y == Str.ofString "grouping") = false from by simpa using h1]
    rw [e]
    by_cases h2 : y = Str.ofString "interval"
    · subst h2
      rw [if_neg (by decide), if_pos rfl]
    · by_cases h3 : y = Str.ofString "last_interval"
      · simp only [if_pos h3, if_neg h2]
      · simp only [if_neg h3, if_neg h2, if_neg h1]
theorem gm_int {ui ul v : Option Value} {l : Addr} (y : Str) : (if y = Str.ofString "interval" then v else gmap ui ul l y) = gmap v ul l y := by
  unfold gmap
  by_cases h2 : y = Str.ofString "interval"
  · simp only [if_pos h2]
  · simp only [if_neg h2]
theorem gm_last {ui ul v : Option Value} {l : Addr} (y : Str) : (if y = Str.ofString "last_interval" then v else gmap ui ul l y) = gmap ui v l y := by
  unfold gmap
  by_cases h2 : y = Str.ofString "interval"
  · subst h2
    rw [if_neg (by decide)]; simp only [if_true]
  · by_cases h3 : y = Str.ofString "last_interval"
    · simp only [if_pos h3, if_neg h2]
    · simp only [if_neg h3, if_neg h2]
/-- a generator of the row, asleep: fp is what it owns -/
def GS (w : World) (A : Around) (base : Heap) (a : Addr) (g : Nat) (fp : List Addr) (tv : Nat → Nat) (fin : Bool) (n : Nat) (s : Shared) : Prop :=
  s.heap.IsGen a g ∧ a ∉ fp ∧ (∀ b ∈ fp, (∃ o, s.heap.get? b = some o) ∧ base.get? b = none) ∧ base.get? a = none ∧
  ∃ gs, s.gens[g]? = some gs ∧ gs.bare = true ∧ ∀ s'' : Shared, base.StaysIn s''.heap → (∀ b ∈ fp, s''.heap.get? b = s.heap.get? b) →
    ∃ Lg I, (∀ b ∈ [Lg, I], b ∈ fp ∨ s''.heap.get? b = none) ∧ gs.Goes (model PySem.Challenge.rw_rl0106_01.row.prog w) A.in1 (giR Lg I fin) (giY base Lg I tv fin) n (.send .none) s''

section
variable {w : World} {A : Around} {s : Shared} {p : Program} {loose : List Str} {mean : ExcName → Option Value} {mg mb : Str → Option Value} {Q E : Value → Shared → Prop}
theorem gi_spec {l : Addr} {vs : List Value} {row : List Nat} {ep : Nat} {tv : Nat → Nat} {fin : Bool} {n : Nat} {base : Heap} (X : (Mine.KK w.params).In base) (T : Top p loose mean mg mb base) (hbs : base.StaysIn s.heap) (hbz : base.objs.size ≤ s.heap.objs.size) (hd : A.depth + 10 < recursionLimit) (hA : A.handled = none)
    (hl : base.get? l = some (W.listOf vs.toArray ep)) (hI : IntsAre vs (castL row)) (hp : Path row tv fin 0 n none)
    (h : ∀ a h' tk' gs, s.heap.StaysIn h' → GS w A base a s.gens.size [s.heap.objs.size] tv fin n { s with heap := h', toks := tk', gens := s.gens.push gs } → gs.bare = true → @LT.lt Nat _ s.heap.objs.size a → Q (.ref a) { s with heap := h', toks := tk', gens := s.gens.push gs }) :
    wpAny (model PySem.Challenge.rw_rl0106_01.row.prog w) A (call (.ref 99) [.ref l]) Q E s := by
  revert X; k_fill; intro X
  refine wpAny_call ?_
  k_dflt (refine' enterG (X.keeps hbs) (T.keeps hbs) ?k8 ?k6 ?k7 ?k9 ?kB ?_ ?c2 ?c3 ?c4 ?c5; (case k6 => k_is); (case k7 => k_is); (case k8 => omega); (case k9 => exact BindsTo.of_eq rfl); (case c5 => decide); (case kB => exact locs rfl); (case c2 => exact rfl); (case c3 => exact rfl); (case c4 => exact rfl); k_whole)
  intro a h' tk' hk hns hgen hla
  refine h a h' tk' _ hk ⟨hgen, ?_, ?_, ?_, _, Array.getElem?_push_size .., rfl, ?_⟩ rfl hla
  · simp only [List.mem_singleton]; exact Nat.ne_of_gt hla
  · intro b hb
    obtain rfl := List.mem_singleton.mp hb
    obtain ⟨oL, es, ep, hL, _⟩ := hns
    exact ⟨⟨_, hL⟩, Heap.get?_none_of_le hbz⟩
  · exact Heap.get?_none_of_le (Nat.le_trans hbz (Nat.le_of_lt hla))
  intro s'' hb'' hfp
  refine ⟨s.heap.objs.size, s''.heap.objs.size, ?_, rfl, ?_⟩
  · intro b hb
    simp only [List.mem_cons, List.not_mem_nil, or_false] at hb ⊢
    rcases hb with rfl | rfl
    · exact .inl rfl
    · exact .inr (Heap.get?_none_of_le (Nat.le_refl _))
  obtain ⟨m0, hm0, hns⟩ : ∃ m0, m0 = _ ∧ h'.Ns s.heap.objs.size m0 := ⟨_, rfl, hns⟩
  have hns'' : s''.heap.Ns s.heap.objs.size m0 := by
    obtain ⟨oL, es, ep, hL, q⟩ := hns
    exact ⟨oL, es, ep, (hfp _ (List.mem_singleton.mpr rfl)).trans hL, q⟩
  have F0 : Fr base s.heap.objs.size s''.heap m0 := ⟨hns'', hb'', hbz⟩
  have N0 : News base s.heap.objs.size s''.heap [] := fun _ h => nomatch h
  subst hm0
  clear h hns hns''
  refine seg_func ?_
  refine seg_st ?_
  repeat' (first | (k_unfold; (try dsimp only)) | ((fail_if_success (with_reducible show wpAny _ _ (storeName _ _ _) _ _ _)); first | (k_end; wrow_close) | walk1 | (dsimp only; walk1) | (leave1; walk_say "STEP leave1"; try dsimp only)))
  refine wpAny_storeName_local (by exact rfl) F0.ns ?_ (by exact rfl)
  intro h2 hns2 sb2
  have F2 : Fr base s.heap.objs.size h2 _ := ⟨hns2, fun b o e => (sb2.2 b (Nat.ne_of_lt (Nat.lt_of_lt_of_le (Heap.lt_size e) hbz))).trans (F0.keep b o e), hbz⟩
  have z2 : h2.objs.size = s''.heap.objs.size := sb2.1
  have N2 : News base s.heap.objs.size h2 [] := fun _ h => nomatch h
  have k2 : ∀ b o, s''.heap.get? b = some o → b ≠ s.heap.objs.size → h2.get? b = some o := fun b o e n1 => (sb2.2 b n1).trans e
  clear F0 N0 hns2 sb2
  dsimp only
  refine seg_execs_cons (seg_For ?_)
  repeat' (first | (k_unfold; (try dsimp only)) | ((fail_if_success (with_reducible show wpAny _ _ (pyIter _) _ _ _)); first | (k_end; wrow_close) | walk1 | (dsimp only; walk1) | (leave1; walk_say "STEP leave1"; try dsimp only)))
  refine wpAny_pyIter_list (items := vs.toArray) ⟨_, F2.keep _ _ hl, rfl, _, rfl⟩ ?_
  intro p'
  have zI : h2.objs.size = s''.heap.objs.size := z2
  dsimp only
  rw [z2]
  refine gi_ind (base := base) (Lg := s.heap.objs.size) (I := s''.heap.objs.size) (l := l) ?_ n 0 none s'' _ hp ?_ ?_
  · clear hp
    intro n i last s₀ s5 hp hls hsi ih
    obtain ⟨ui, ul, oI, F5, N5, ⟨ci, di⟩, hl1, hl2⟩ := hls
    have hh9 : (A.in1.over (.forLoop (.Name (Str.ofString "interval") default) (.ref s''.heap.objs.size) [] [] default) []).handled = none := hA
    have hlist : s5.heap.IsList l vs.toArray := ⟨_, F5.keep _ _ hl, rfl, _, rfl⟩
    have hlen := hI.length
    have turn0 : ∀ x, row[i]? = some x → ∃ tx, vs.toArray[i]? = some (.int (x : Int) tx) := by
      intro x hx
      obtain ⟨tx, e⟩ := hI.get i (x : Int) (by simp [castL, hx])
      exact ⟨tx, by simpa using e⟩
    refine seg_forTurn ?_
    cases hp with
    | stop hf hr =>
      refine wpAny_pyNext_list_end (i := i) (items := vs.toArray) hA ⟨_, N5.get (.head _), ci, di⟩ hlist ?_ ?_
      · have : (castL row)[i]? = none := by simp [castL, hr]
        rw [List.getElem?_toArray]
        rw [List.getElem?_eq_none_iff] at this ⊢
        omega
      intro h6 x6
      dsimp only
      refine seg_back ?_
      dsimp only
      refine seg_execs_nil ?_
      exact seg_end (.ok (.ret .none)) ⟨rfl, rfl, hf, hsi.step (fun b o e n1 n2 => x6 b o n2 e)⟩
    | stop2 hf hr =>
      obtain ⟨tx, hx⟩ := turn0 _ hr
      refine wpAny_pyNext_list_item (i := i) (items := vs.toArray) ⟨_, N5.get (.head _), ci, di⟩ hlist hx ?_
      intro h6 it6 sb6
      obtain ⟨oI6, g6, ci6, di6⟩ := it6
      have F6 := F5.change sb6 (N5 _ (.head _)).2.1 (N5 _ (.head _)).2.2
      have N6 : News base s.heap.objs.size h6 [(s''.heap.objs.size, oI6)] := fun q hq => by
        obtain rfl := List.mem_singleton.mp hq
        exact ⟨g6, (N5 _ (.head _)).2⟩
      have S6 := hsi.step (h' := h6) (tk := s5.toks) (fun b o e n1 n2 => (sb6.2 b n2).trans e)
      clear F5 N5 g6 sb6
      dsimp only
      repeat' (first | (k_unfold; (try dsimp only)) | ((fail_if_success (with_reducible show wpAny _ _ (storeName _ _ _) _ _ _)); (fail_if_success (with_reducible show Seg _ _ _ _ _ _ _ _ _ _)); (fail_if_success (with_reducible show ∀ kap : Resume → Shared → Prop, _)); first | (k_end; wrow_close) | walk1 | (dsimp only; walk1) | (leave1; walk_say "STEP leave1"; try dsimp only)))
      refine storeG (by exact rfl) rfl (by exact rfl) F6 N6 S6 ?_
      intro h7 F7 N7 S7
      clear F6 N6 S6
      dsimp only
      refine seg_st ?_
      repeat' (first | (k_unfold; (try dsimp only)) | ((fail_if_success (with_reducible show wpAny _ _ (storeName _ _ _) _ _ _)); (fail_if_success (with_reducible show Seg _ _ _ _ _ _ _ _ _ _)); (fail_if_success (with_reducible show ∀ kap : Resume → Shared → Prop, _)); first | (k_end; wrow_close) | walk1 | (dsimp only; walk1) | (leave1; walk_say "STEP leave1"; try dsimp only)))
      dsimp only
      refine seg_back (f := .ret .none) ?_
      dsimp only
      exact seg_end (.ok (.ret .none)) ⟨rfl, rfl, hf, S7.step (fun b o e _ _ => e)⟩
    | @step i n x last hr h127 h0 htv hp' =>
      obtain ⟨tx, hx⟩ := turn0 _ hr
      refine wpAny_pyNext_list_item (i := i) (items := vs.toArray) ⟨_, N5.get (.head _), ci, di⟩ hlist hx ?_
      intro h6 it6 sb6
      obtain ⟨oI6, g6, ci6, di6⟩ := it6
      have F6 := F5.change sb6 (N5 _ (.head _)).2.1 (N5 _ (.head _)).2.2
      have N6 : News base s.heap.objs.size h6 [(s''.heap.objs.size, oI6)] := fun q hq => by
        obtain rfl := List.mem_singleton.mp hq
        exact ⟨g6, (N5 _ (.head _)).2⟩
      have S6 := hsi.step (h' := h6) (tk := s5.toks) (fun b o e n1 n2 => (sb6.2 b n2).trans e)
      clear F5 N5 g6 sb6
      dsimp only
      repeat' (first | (k_unfold; (try dsimp only)) | ((fail_if_success (with_reducible show wpAny _ _ (storeName _ _ _) _ _ _)); (fail_if_success (with_reducible show Seg _ _ _ _ _ _ _ _ _ _)); (fail_if_success (with_reducible show ∀ kap : Resume → Shared → Prop, _)); first | (k_end; wrow_close) | walk1 | (dsimp only; walk1) | (leave1; walk_say "STEP leave1"; try dsimp only)))
      refine storeG (by exact rfl) rfl (by exact rfl) F6 N6 S6 ?_
      intro h7 F7 N7 S7
      clear F6 N6 S6
      dsimp only
      refine seg_st ?_
      repeat' (first | (k_unfold; (try dsimp only)) | ((fail_if_success (with_reducible show wpAny _ _ (storeName _ _ _) _ _ _)); (fail_if_success (with_reducible show Seg _ _ _ _ _ _ _ _ _ _)); (fail_if_success (with_reducible show ∀ kap : Resume → Shared → Prop, _)); first | (k_end; wrow_close) | walk1 | (dsimp only; walk1) | (leave1; walk_say "STEP leave1"; try dsimp only)))
      · exfalso; omega
      dsimp only
      refine seg_st ?_
      repeat' (first | (k_unfold; (try dsimp only)) | ((fail_if_success (with_reducible show wpAny _ _ (storeName _ _ _) _ _ _)); (fail_if_success (with_reducible show Seg _ _ _ _ _ _ _ _ _ _)); (fail_if_success (with_reducible show ∀ kap : Resume → Shared → Prop, _)); first | (k_end; wrow_close) | walk1 | (dsimp only; walk1) | (leave1; walk_say "STEP leave1"; try dsimp only)))
      · exfalso; omega
      dsimp only
      refine seg_execs_cons (seg_Expr_Yield rfl rfl rfl (wpAny_mono (E := fun _ _ => False) ?_ (fun _ _ h => h) (fun _ _ x => x.elim)))
      repeat' (first | (k_unfold; (try dsimp only)) | ((fail_if_success (with_reducible show wpAny _ _ (storeName _ _ _) _ _ _)); (fail_if_success (with_reducible show Seg _ _ _ _ _ _ _ _ _ _)); (fail_if_success (with_reducible show ∀ kap : Resume → Shared → Prop, _)); first | (k_end; wrow_close) | walk1 | (dsimp only; walk1) | (leave1; walk_say "STEP leave1"; try dsimp only)))
      intro kap hk9
      refine ⟨⟨_, by rw [htv]⟩, S7.step (fun b o e _ _ => e), ⟨_, N7.get (.head _)⟩, (ownF F7).1, (N7 _ (.head _)).2.2, (ownF F7).2, .inr ?_⟩
      intro s8 hb8 h81 h82
      refine hk9 .none s8 ?_
      obtain ⟨F8, N8⟩ := resumeF F7 N7 hb8 h81 h82
      clear F7 N7 S7 hk9
      dsimp only
      refine seg_st ?_
      repeat' (first | (k_unfold; (try dsimp only)) | ((fail_if_success (with_reducible show wpAny _ _ (storeName _ _ _) _ _ _)); (fail_if_success (with_reducible show Seg _ _ _ _ _ _ _ _ _ _)); (fail_if_success (with_reducible show ∀ kap : Resume → Shared → Prop, _)); first | (k_end; wrow_close) | walk1 | (dsimp only; walk1) | (leave1; walk_say "STEP leave1"; try dsimp only)))
      refine storeG (by exact rfl) rfl (by exact rfl) F8 N8 ((Since.refl (Lg := s.heap.objs.size) (I := s''.heap.objs.size) (s := s8)).step (fun b o e _ _ => e)) ?_
      intro h9 F9 N9 S9
      dsimp only
      refine seg_execs_nil ?_
      refine seg_again rfl (ih x n rfl hr hp' _ ?_ _ S9)
      exact ⟨_, _, oI6, frCongr F9 (fun y => by rw [gm_int]; exact gm_last y), N9, ⟨ci6, di6⟩, fun v' e => by cases e; exact ⟨_, rfl⟩, fun e => by cases e⟩
    | @stuck i n v hr hf htv =>
      obtain ⟨tx, hx⟩ := turn0 _ hr
      refine wpAny_pyNext_list_item (i := i) (items := vs.toArray) ⟨_, N5.get (.head _), ci, di⟩ hlist hx ?_
      intro h6 it6 sb6
      obtain ⟨oI6, g6, ci6, di6⟩ := it6
      have F6 := F5.change sb6 (N5 _ (.head _)).2.1 (N5 _ (.head _)).2.2
      have N6 : News base s.heap.objs.size h6 [(s''.heap.objs.size, oI6)] := fun q hq => by
        obtain rfl := List.mem_singleton.mp hq
        exact ⟨g6, (N5 _ (.head _)).2⟩
      have S6 := hsi.step (h' := h6) (tk := s5.toks) (fun b o e n1 n2 => (sb6.2 b n2).trans e)
      clear F5 N5 g6 sb6
      dsimp only
      repeat' (first | (k_unfold; (try dsimp only)) | ((fail_if_success (with_reducible show wpAny _ _ (storeName _ _ _) _ _ _)); (fail_if_success (with_reducible show Seg _ _ _ _ _ _ _ _ _ _)); (fail_if_success (with_reducible show ∀ kap : Resume → Shared → Prop, _)); first | (k_end; wrow_close) | walk1 | (dsimp only; walk1) | (leave1; walk_say "STEP leave1"; try dsimp only)))
      refine storeG (by exact rfl) rfl (by exact rfl) F6 N6 S6 ?_
      intro h7 F7 N7 S7
      clear F6 N6 S6
      dsimp only
      refine seg_st ?_
      repeat' (first | (k_unfold; (try dsimp only)) | ((fail_if_success (with_reducible show wpAny _ _ (storeName _ _ _) _ _ _)); (fail_if_success (with_reducible show Seg _ _ _ _ _ _ _ _ _ _)); (fail_if_success (with_reducible show ∀ kap : Resume → Shared → Prop, _)); first | (k_end; wrow_close) | walk1 | (dsimp only; walk1) | (leave1; walk_say "STEP leave1"; try dsimp only)))
      dsimp only
      refine seg_execs_cons (seg_If ?_)
      repeat' (first | (k_unfold; (try dsimp only)) | ((fail_if_success (with_reducible show wpAny _ _ (storeName _ _ _) _ _ _)); (fail_if_success (with_reducible show Seg _ _ _ _ _ _ _ _ _ _)); (fail_if_success (with_reducible show ∀ kap : Resume → Shared → Prop, _)); first | (k_end; wrow_close) | walk1 | (dsimp only; walk1) | (leave1; walk_say "STEP leave1"; try dsimp only)))
      obtain ⟨tv', rfl⟩ := hl1 v rfl
      refine seg_st ?_
      repeat' (first | (k_unfold; (try dsimp only)) | ((fail_if_success (with_reducible show wpAny _ _ (storeName _ _ _) _ _ _)); (fail_if_success (with_reducible show Seg _ _ _ _ _ _ _ _ _ _)); (fail_if_success (with_reducible show ∀ kap : Resume → Shared → Prop, _)); first | (k_end; wrow_close) | walk1 | (dsimp only; walk1) | (leave1; walk_say "STEP leave1"; try dsimp only)))
      dsimp only
      refine seg_execs_cons (seg_While ?_)
      intro p2
      refine gi_ind2 (base := base) (Lg := s.heap.objs.size) (I := s''.heap.objs.size) (l := l) (i := i + 1) (v := v) (N0 := n) ?_ n s₀ _ (Nat.le_refl _) ?_ (S7.step (fun b o e _ _ => e))
      · intro m s₁ s10 hm hls10 S10 ih2
        obtain ⟨ui3, ul3, oI3, F3, N3, ⟨ci3, di3⟩, hl3, _⟩ := hls10
        obtain ⟨tv3, rfl⟩ := hl3 v rfl
        clear F7 N7 S7
        refine seg_whileLoop (wpAny_mono (E := fun _ _ => False) ?_ (fun _ _ h => h) (fun _ _ x => x.elim))
        repeat' (first | (k_unfold; (try dsimp only)) | ((fail_if_success (with_reducible show wpAny _ _ (storeName _ _ _) _ _ _)); (fail_if_success (with_reducible show Seg _ _ _ _ _ _ _ _ _ _)); (fail_if_success (with_reducible show ∀ kap : Resume → Shared → Prop, _)); first | (k_end; wrow_close) | walk1 | (dsimp only; walk1) | (leave1; walk_say "STEP leave1"; try dsimp only)))
        refine seg_execs_cons (seg_Expr_Yield rfl rfl rfl (wpAny_mono (E := fun _ _ => False) ?_ (fun _ _ h => h) (fun _ _ x => x.elim)))
        repeat' (first | (k_unfold; (try dsimp only)) | ((fail_if_success (with_reducible show wpAny _ _ (storeName _ _ _) _ _ _)); (fail_if_success (with_reducible show Seg _ _ _ _ _ _ _ _ _ _)); (fail_if_success (with_reducible show ∀ kap : Resume → Shared → Prop, _)); first | (k_end; wrow_close) | walk1 | (dsimp only; walk1) | (leave1; walk_say "STEP leave1"; try dsimp only)))
        intro kap hk9
        refine ⟨⟨_, by rw [htv m hm]⟩, S10.step (fun b o e _ _ => e), ⟨_, N3.get (.head _)⟩, (ownF F3).1, (N3 _ (.head _)).2.2, (ownF F3).2, ?_⟩
        rcases Nat.eq_zero_or_pos m with h0 | h0
        · exact .inl ⟨h0, hf⟩
        obtain ⟨m', rfl⟩ : ∃ m', m = m' + 1 := ⟨m - 1, by omega⟩
        refine .inr ?_
        intro s8 hb8 h81 h82
        refine hk9 .none s8 ?_
        obtain ⟨F8, N8⟩ := resumeF F3 N3 hb8 h81 h82
        dsimp only
        refine seg_execs_nil ?_
        refine seg_again rfl (ih2 m' rfl _ ?_ _ ((Since.refl (Lg := s.heap.objs.size) (I := s''.heap.objs.size) (s := s8)).step (fun b o e _ _ => e)))
        exact ⟨_, _, oI3, F8, N8, ⟨ci3, di3⟩, fun v' e => by cases e; exact ⟨_, rfl⟩, fun e => by cases e⟩
      · exact ⟨_, _, oI6, frCongr F7 gm_int, N7, ⟨ci6, di6⟩, fun v' e => by cases e; exact ⟨_, rfl⟩, fun e => by cases e⟩
  · refine ⟨none, some .none, itO l 0, frCongr (F2.push _) gm_init, ?_, ⟨rfl, rfl⟩, (fun v e => by cases e), fun _ => rfl⟩
    have := N2.push F2 (itO l 0)
    rw [z2] at this
    exact this
  · refine ⟨_, _, rfl, ?_⟩
    intro b o e n1 n2
    exact Heap.get?_push_of_some _ (k2 b o e n1)
end
end Mine
end
section
open PySem PySem.W PySem.Calls PyProof.Rows
set_option maxRecDepth 100000
set_option maxHeartbeats 8000000
namespace Mine
theorem setGen_at {s : Shared} {g : Nat} {x y : GenState} (h : ∃ z, s.gens[g]? = some z) : ((s.setGen g x).setGen g y).gens[g]? = some y := by
  obtain ⟨z, hz⟩ := h
  exact setGen_self (gs := x) (setGen_self (gs := z) hz)
theorem mem_setGen {s : Shared} {g : Nat} {x y : GenState} (h : AllBare s.gens) (hx : x.bare = true) : AllBare (s.setGen g x).gens := by
  intro y hy
  unfold Shared.setGen at hy
  simp only at hy
  rcases Array.mem_or_eq_of_mem_setIfInBounds hy with h1 | h1
  · exact h y h1
  · rw [h1]; exact hx
section
variable {w : World} {A : Around} {s : Shared} {base : Heap} {a : Addr} {g n : Nat} {fp : List Addr} {tv : Nat → Nat} {fin : Bool} {Q : Option Value → Shared → Prop} {E : Value → Shared → Prop}
theorem gs_next (hA : A.handled = none) (hl : s.heap.NoLimit) (hroom : A.depth < recursionLimit) (G : GS w A base a g fp tv fin (n + 1) s) (hb : base.StaysIn s.heap) (hB : AllBare s.gens)
    (h : ∀ h' tk' gens' t fp', (∀ b o, s.heap.get? b = some o → b ∉ fp → h'.get? b = some o) → (∀ b ∈ fp', b ∈ fp ∨ s.heap.get? b = none) → AllBare gens' →
      ((n = 0 ∧ fin = false) ∨ GS w A base a g fp' tv fin n { s with heap := h', toks := tk', gens := gens' }) → Q (some (.int (tv n : Int) t)) { s with heap := h', toks := tk', gens := gens' }) :
    wpAny (model PySem.Challenge.rw_rl0106_01.row.prog w) A (pyNext (.ref a)) Q E s := by
  obtain ⟨hg, haf, hfp, hba, gs, hgs, hbare, hgo⟩ := G
  obtain ⟨Lg, I, hnew, go⟩ := hgo (s.setGen g .running) hb (fun _ _ => rfl)
  refine pyNextG (P := fun n s₀ s₁ => n = 0 ∧ fin = true ∧ Since Lg I s₀ s₁) hA hl hroom hg hgs go ?_ ?_
  · intro v s₁ gs' hb' hY
    obtain ⟨⟨t, rfl⟩, ⟨h1, tk1, rfl, k1⟩, hI, hLg, bI, bLg, hk⟩ := hY
    have nfp : ∀ b o, s.heap.get? b = some o → b ∉ fp → b ≠ Lg ∧ b ≠ I := by
      intro b o e hn
      refine ⟨fun q => ?_, fun q => ?_⟩
      · rcases hnew Lg (by simp) with h2 | h2
        · exact hn (q ▸ h2)
        · have h3 : s.heap.get? Lg = none := h2
          rw [← q, e] at h3; cases h3
      · rcases hnew I (by simp) with h2 | h2
        · exact hn (q ▸ h2)
        · have h3 : s.heap.get? I = none := h2
          rw [← q, e] at h3; cases h3
    have keep : ∀ b o, s.heap.get? b = some o → b ∉ fp → h1.get? b = some o := fun b o e hn => k1 b o e (nfp b o e hn).1 (nfp b o e hn).2
    refine h h1 tk1 _ t [Lg, I] keep hnew (mem_setGen (y := gs') (s := { (s.setGen g .running) with heap := h1, toks := tk1 }) (mem_setGen (y := gs') hB rfl) hb') ?_
    rcases hk with hk | hk
    · exact .inl hk
    refine .inr ?_
    obtain ⟨oa, nm, qn, ha, hrest⟩ := hg
    refine ⟨⟨oa, nm, qn, keep a oa ha haf, hrest⟩, ?_, ?_, hba, gs', ?_, hb', ?_⟩
    · intro hm
      simp only [List.mem_cons, List.not_mem_nil, or_false] at hm
      rcases hm with hm | hm
      · exact (nfp a oa ha haf).1 hm
      · exact (nfp a oa ha haf).2 hm
    · intro b hm
      simp only [List.mem_cons, List.not_mem_nil, or_false] at hm
      rcases hm with rfl | rfl
      · exact ⟨hLg, bLg⟩
      · exact ⟨hI, bI⟩
    · exact setGen_self (gs := .running) (setGen_self (gs := gs) hgs)
    · intro s'' hb'' hs''
      exact ⟨Lg, I, fun b hm => .inl hm, hk s'' hb'' (hs'' Lg (by simp)) (hs'' I (by simp))⟩
  · rintro s₁ ⟨h0, _⟩
    exact absurd h0 (Nat.succ_ne_zero n)
theorem gs_end (hA : A.handled = none) (hl : s.heap.NoLimit) (hroom : A.depth < recursionLimit) (G : GS w A base a g fp tv true 0 s) (hb : base.StaysIn s.heap) (hB : AllBare s.gens)
    (h : ∀ h' tk' gens', (∀ b o, s.heap.get? b = some o → b ∉ fp → h'.get? b = some o) → AllBare gens' → Q none { s with heap := h', toks := tk', gens := gens' }) :
    wpAny (model PySem.Challenge.rw_rl0106_01.row.prog w) A (pyNext (.ref a)) Q E s := by
  obtain ⟨hg, haf, hfp, hba, gs, hgs, hbare, hgo⟩ := G
  obtain ⟨Lg, I, hnew, go⟩ := hgo (s.setGen g .running) hb (fun _ _ => rfl)
  have nfp : ∀ b o, s.heap.get? b = some o → b ∉ fp → b ≠ Lg ∧ b ≠ I := by
    intro b o e hn
    refine ⟨fun q => ?_, fun q => ?_⟩
    · rcases hnew Lg (by simp) with h2 | h2
      · exact hn (q ▸ h2)
      · have h3 : s.heap.get? Lg = none := h2
        rw [← q, e] at h3; cases h3
    · rcases hnew I (by simp) with h2 | h2
      · exact hn (q ▸ h2)
      · have h3 : s.heap.get? I = none := h2
        rw [← q, e] at h3; cases h3
  refine pyNextG (P := fun n s₀ s₁ => n = 0 ∧ true = true ∧ Since Lg I s₀ s₁) (n := 0) hA hl hroom hg hgs go ?_ ?_
  · intro v s₁ gs' hb' hY
    obtain ⟨⟨t, rfl⟩, ⟨h1, tk1, rfl, k1⟩, hI, hLg, bI, bLg, hk⟩ := hY
    exfalso
    rcases hk with hk | hk
    · exact absurd hk.2 (by decide)
    · refine hk _ (fun b o e => ?_) rfl rfl
      refine k1 b o (hb b o e) (fun q => ?_) (fun q => ?_)
      · rw [q, bLg] at e; cases e
      · rw [q, bI] at e; cases e
  · rintro s₁ ⟨_, _, h1, tk1, rfl, k1⟩ h' hk
    exact h h' tk1 _ (fun b o e hn => hk b o (k1 b o e (nfp b o e hn).1 (nfp b o e hn).2)) (mem_setGen (y := .finished) (s := { (s.setGen g .running) with heap := h1, toks := tk1 }) (mem_setGen (y := .running) hB rfl) rfl)
end
end Mine
end
section
open PySem PySem.W PySem.Calls PyProof.Rows
set_option maxRecDepth 100000
set_option maxHeartbeats 8000000
namespace Mine
abbrev txt (L : List Nat) : Str := ⟨L.toArray⟩
theorem txt_len (L : List Nat) : (txt L).length = L.length := by simp [Str.length]
theorem txt_of (x : Str) : ∃ L, x = txt L := ⟨x.cps.toList, by cases x; simp⟩
theorem pick_run (L : List Nat) (a : Nat) : ∀ m, a + m ≤ L.length → ((List.range m).map (a + ·)).filterMap (L.toArray[·]?) = (L.drop a).take m
  | 0, _ => by simp
  | m + 1, h => by
    rw [List.range_succ, List.map_append, List.filterMap_append, pick_run L a m (by lia), List.take_succ]
    congr 1
    have h1 : a + m < L.length := by lia
    simp [h1]
theorem slice_at (L : List Nat) (lo hi : Option Int) (a b : Nat) (hab : a ≤ b) (hb : b ≤ L.length) (e : Builtin.Str.strSliceIndices lo hi 1 L.length = sliceRange (a : Int) (b : Int) 1) :
    Txt.slice (txt L) lo hi = txt ((L.drop a).take (b - a)) := by
  unfold Txt.slice
  rw [txt_len, e, sliceRange_one]
  rw [pick_run L a (b - a) (by lia)]
  simp only [List.length_map, List.length_range]
  by_cases h : b - a = L.length
  · rw [if_pos (by simp [h])]
    have : a = 0 := by lia
    subst this
    simp only [Nat.sub_zero] at h
    rw [h]; simp
  · rw [if_neg (by simp [h])]
theorem slice_tail (L : List Nat) {k : Nat} (h : 1 ≤ k) : Txt.slice (txt L) (some (-(k : Int))) none = txt (L.drop (L.length - k)) := by
  rw [slice_at L _ _ (L.length - k) L.length (by lia) (Nat.le_refl _) ?_]
  · congr 2
    rw [List.take_of_length_le (by simp)]
  · unfold Builtin.Str.strSliceIndices
    simp only [show (1 : Int) > 0 by decide, if_true]
    rw [if_pos (by lia)]
    congr 1
    lia
theorem slice_head (L : List Nat) {k : Nat} (h : 1 ≤ k) : Txt.slice (txt L) none (some (-(k : Int))) = txt (L.take (L.length - k)) := by
  rw [slice_at L _ _ 0 (L.length - k) (by lia) (by lia) ?_]
  · simp
  · unfold Builtin.Str.strSliceIndices
    simp only [show (1 : Int) > 0 by decide, if_true]
    rw [if_pos (by lia)]
    congr 1
    lia
theorem slice_head_len (x : Str) {k : Nat} (h : 1 ≤ k) : (Txt.slice x none (some (-(k : Int)))).length = x.length - k := by
  obtain ⟨L, rfl⟩ := txt_of x
  rw [slice_head L h, txt_len, txt_len, List.length_take]; lia
end Mine
end
section
open PySem PySem.W PySem.Calls PyProof.Rows
set_option maxRecDepth 100000
set_option maxHeartbeats 8000000
namespace Mine
abbrev emp : Str := Str.ofString ""
theorem own_frame {base h h' : Heap} {L : Addr} {m : Str → Option Value} {rest : List (Addr × Obj)} {fp : List Addr} (F : Fr base L h m) (N : News base L h rest) (k : ∀ b o, h.get? b = some o → b ∉ fp → h'.get? b = some o)
    (hL : L ∉ fp) (hr : ∀ q ∈ rest, q.1 ∉ fp) (hb : ∀ b ∈ fp, base.get? b = none) : Fr base L h' m ∧ News base L h' rest := by
  refine ⟨⟨?_, fun b o e => k b o (F.keep b o e) (fun q => by rw [hb b q] at e; cases e), F.above⟩, fun q hq => ⟨k _ _ (N q hq).1 (hr q hq), (N q hq).2⟩⟩
  obtain ⟨oL, es, ep, hLo, r⟩ := F.ns
  exact ⟨oL, es, ep, k _ _ hLo hL, r⟩
/-- the pieces that a text is cut into from the right; k values to come -/
def cutF (tv : Nat → Nat) : Nat → Str → List Str
  | 0, x => if x = emp then [] else [x]
  | k + 1, x => if x = emp then [] else Txt.slice x (some (-(tv k : Int))) none :: cutF tv k (Txt.slice x none (some (-(tv k : Int))))
theorem strs_snoc {x : Str} {u : Tok} : ∀ {vs : List Value} {ns : List Str}, StrsAre vs ns → StrsAre (vs ++ [.str x u]) (ns ++ [x])
  | _, _, .nil => .cons x u .nil
  | _, _, .cons i t h => .cons i t (strs_snoc h)
theorem over2b {a b y : Str} {A B A' B' M : Option Value} : (if y = a then A else if y = b then B else if y = a then A' else if y = b then B' else M) = if y = a then A else if y = b then B else M := by
  by_cases h1 : y = a
  · simp only [if_pos h1]
  · by_cases h2 : y = b
    · simp only [if_neg h1, if_pos h2]
    · simp only [if_neg h1, if_neg h2]
structure OwnOk (a : Addr) (fp : List Addr) (own : List (Addr × Obj)) : Prop where
  gen : ∃ oa, (a, oa) ∈ own
  foot : ∀ b ∈ fp, ∃ o, (b, o) ∈ own
  only : ∀ q ∈ own, q.1 = a ∨ q.1 ∈ fp
theorem gs_move {w : World} {A : Around} {base : Heap} {a L L' : Addr} {g n : Nat} {fp : List Addr} {tv : Nat → Nat} {fin : Bool} {s s' : Shared} {own r r' : List (Addr × Obj)} (G : GS w A base a g fp tv fin n s) (O : OwnOk a fp own)
    (N : News base L s.heap (r ++ own)) (N' : News base L' s'.heap (r' ++ own)) (hg : s'.gens = s.gens) : GS w A base a g fp tv fin n s' := by
  obtain ⟨hgen, haf, hfp, hba, gs, hgs, hbare, hgo⟩ := G
  have at' : ∀ b o, (b, o) ∈ own → s'.heap.get? b = s.heap.get? b := fun b o hm => (N' _ (List.mem_append_right _ hm)).1.trans (N _ (List.mem_append_right _ hm)).1.symm
  obtain ⟨oa, hoa⟩ := O.gen
  refine ⟨?_, haf, ?_, hba, gs, by rw [hg]; exact hgs, hbare, ?_⟩
  · obtain ⟨o, nm, qn, ho, r⟩ := hgen
    exact ⟨o, nm, qn, (at' _ _ hoa).trans ho, r⟩
  · intro b hb
    obtain ⟨o, ho⟩ := O.foot b hb
    exact ⟨⟨o, (N' _ (List.mem_append_right _ ho)).1⟩, (hfp b hb).2⟩
  · intro s'' hb'' hs''
    refine hgo s'' hb'' fun b hb => ?_
    obtain ⟨o, ho⟩ := O.foot b hb
    exact (hs'' b hb).trans (at' _ _ ho)
theorem own_foot {h : Heap} : ∀ (fp : List Addr), (∀ b ∈ fp, ∃ o, h.get? b = some o) → ∃ own : List (Addr × Obj), (∀ b ∈ fp, ∃ o, (b, o) ∈ own) ∧ ∀ q ∈ own, q.1 ∈ fp ∧ h.get? q.1 = some q.2
  | [], _ => ⟨[], (fun _ h => nomatch h), fun _ h => nomatch h⟩
  | b :: r, hx => by
    obtain ⟨own, h1, h2⟩ := own_foot r fun c hc => hx c (.tail _ hc)
    obtain ⟨o, ho⟩ := hx b (.head _)
    refine ⟨(b, o) :: own, fun c hc => ?_, fun q hq => ?_⟩
    · rcases List.mem_cons.mp hc with rfl | hc
      · exact ⟨o, .head _⟩
      · obtain ⟨o', h'⟩ := h1 c hc; exact ⟨o', .tail _ h'⟩
    · rcases List.mem_cons.mp hq with rfl | hq
      · exact ⟨.head _, ho⟩
      · exact ⟨.tail _ (h2 q hq).1, (h2 q hq).2⟩
theorem own_make {w : World} {A : Around} {base : Heap} {a L : Addr} {g n : Nat} {fp : List Addr} {tv : Nat → Nat} {fin : Bool} {s : Shared} (G : GS w A base a g fp tv fin n s) (hL : L ∉ fp) (ha : a ≠ L) :
    ∃ own, News base L s.heap own ∧ OwnOk a fp own := by
  obtain ⟨⟨oa, nm, qn, hoa, _⟩, haf, hfp, hba, _⟩ := G
  obtain ⟨own, h1, h2⟩ := own_foot fp fun b hb => (hfp b hb).1
  refine ⟨(a, oa) :: own, fun q hq => ?_, ⟨⟨oa, .head _⟩, fun b hb => ?_, fun q hq => ?_⟩⟩
  · rcases List.mem_cons.mp hq with rfl | hq
    · exact ⟨hoa, ha, hba⟩
    · exact ⟨(h2 q hq).2, fun e => hL (e ▸ (h2 q hq).1), (hfp _ (h2 q hq).1).2⟩
  · obtain ⟨o, ho⟩ := h1 b hb; exact ⟨o, .tail _ ho⟩
  · rcases List.mem_cons.mp hq with rfl | hq
    · exact .inl rfl
    · exact .inr (h2 q hq).1
inductive LpInv (w : World) (A : Around) (base : Heap) (L : Addr) (m₀ : Str → Option Value) (D a : Addr) (g : Nat) (S : Shared) (tv : Nat → Nat) (fin : Bool) (all : List Str) (k : Nat) (s' : Shared) : Prop
  | mk (h' : Heap) (tk' : Nat) (gens' : Array GenState) (fp : List Addr) (own : List (Addr × Obj)) (vs : List Value) (ep : Nat) (ps : List Str) (x : Str) (tx : Tok) (ut : Option Value)
    (h1 : s' = { S with heap := h', toks := tk', gens := gens' })
    (h2 : Fr base L h' (fun y => if y = Str.ofString "text" then some (.str x tx) else if y = Str.ofString "told" then ut else m₀ y))
    (h3 : News base L h' ((D, W.listOf vs.toArray ep) :: own))
    (h4 : (∀ q ∈ own, q.1 ≠ D))
    (h5 : AllBare gens')
    (h6 : StrsAre vs ps)
    (h7 : ((k = 0 ∧ fin = false) ∨ (GS w A base a g fp tv fin k s' ∧ OwnOk a fp own)))
    (h8 : (fin = true ∨ x.length < k))
    (h9 : ps ++ cutF tv k x = all)
    (h10 : x.length ≤ 40)
    (h11 : ps.length + k ≤ 64) : LpInv w A base L m₀ D a g S tv fin all k s'
section
local macro_rules | `(tactic| k_all) => `(tactic| assumption)
variable {w : World} {A : Around} {s : Shared} {p : Program} {loose : List Str} {mean : ExcName → Option Value} {mg mb : Str → Option Value} {Q E : Value → Shared → Prop}
theorem lp_spec {l : Addr} {vs : List Value} {row : List Nat} {ep : Nat} {tv : Nat → Nat} {fin : Bool} {n : Nat} {x : Str} {t1 : Tok} (X : (Mine.KK w.params).In s.heap) (T : Top p loose mean mg mb s.heap) (hd : A.depth + 20 < recursionLimit) (hA : A.handled = none) (hB : AllBare s.gens)
    (hl : s.heap.get? l = some (W.listOf vs.toArray ep)) (hI : IntsAre vs (castL row)) (hp : Path row tv fin 0 n none) (hn : n ≤ 64) (hx : x.length ≤ 40) (hfx : fin = true ∨ x.length < n) (htv : ∀ k, 1 ≤ tv k ∧ tv k ≤ 9)
    (h : ∀ t h' tk' gens' vs' ep', s.heap.StaysIn h' → s.heap.objs.size ≤ t → h'.get? t = some (W.listOf (vs' : List Value).toArray ep') → StrsAre vs' (cutF tv n x) → AllBare gens' → Q (.ref t) { s with heap := h', toks := tk', gens := gens' }) :
    wpAny (model PySem.Challenge.rw_rl0106_01.row.prog w) A (call (.ref 106) [.str x t1, .ref l]) Q E s := by
  revert X; k_fill; intro X
  refine wpAny_call ?_
  k_dflt (refine' enterP X T ?k8 ?k6 ?k7 ?k9 ?kB ?_ ?c2 ?c3 ?c4 ?c5; (case k6 => k_is); (case k7 => k_is); (case k8 => lia); (case k9 => exact BindsTo.of_eq rfl); (case c5 => decide); (case kB => exact locs rfl); (case c2 => exact rfl); (case c3 => exact rfl); (case c4 => exact rfl); k_whole)
  intro L' h' F' N' hL'
  (try dsimp only)
  replace h := Hide.mk h
  replace htv := Hide.mk htv
  repeat' (first | (k_unfold; (try dsimp only)) | ((fail_if_success (with_reducible show wpAny _ _ (exec (Stmt.For _ _ _ _ _) _) _ _ _)); first | (k_end; wrow_close) | walk1 | (dsimp only; walk1) | (leave1; walk_say "STEP leave1"; try dsimp only)))
  refine forF ?_
  repeat' (first | (k_unfold; (try dsimp only)) | ((fail_if_success (with_reducible show wpAny _ _ (call (Value.ref _) _) _ _ _)); first | (k_end; wrow_close) | walk1 | (dsimp only; walk1) | (leave1; walk_say "STEP leave1"; try dsimp only)))
  rename_i D _ _ hLD h1 F1 N1
  refine gi_spec (base := s.heap) X T F1.keep (Nat.le_trans hL' (Nat.le_of_lt F1.ns.lt)) (by simp only [depth_deeper]; lia) hA hl hI hp ?_
  intro a h2 tk2 gs k2 G2 hb2 hla
  have F2 := frStays F1 k2
  have N2 := newsStays N1 k2
  have lL := F1.ns.lt
  have lD : @LT.lt Nat _ D h1.objs.size := Heap.lt_size (N1 _ (.head _)).1
  clear F1 N1
  obtain ⟨m₀, hm₀, F2⟩ : ∃ m₀, m₀ = _ ∧ Fr s.heap L' h2 m₀ := ⟨_, rfl, F2⟩
  obtain ⟨A9, hA9, G2⟩ : ∃ A9, A9 = _ ∧ GS w A9 s.heap a s.gens.size [h1.objs.size] tv fin n _ := ⟨_, rfl, G2⟩
  (try dsimp only)
  refine wpAny_pyIter_gen G2.1 ?_
  have nL2 : L' ∉ [h1.objs.size] := by simp only [List.mem_singleton]; exact Nat.ne_of_lt lL
  obtain ⟨own2, O2, ok2⟩ := own_make (L := L') G2 nL2 (fun e => by rw [e] at hla; exact absurd (Nat.lt_trans lL hla) (Nat.lt_irrefl _))
  have nD2 : ∀ q ∈ own2, q.1 ≠ D := by
    intro q hq
    rcases ok2.only q hq with h3 | h3
    · rw [h3]; exact Nat.ne_of_gt (Nat.lt_trans lD hla)
    · rw [List.mem_singleton.mp h3]; exact Nat.ne_of_gt lD
  refine ⟨LpInv w A9 s.heap L' m₀ D a s.gens.size s tv fin (cutF tv n x), n, ?_, ?_⟩
  · obtain ⟨tx, htx⟩ : ∃ tx, m₀ (Str.ofString "text") = some (.str x tx) := by subst hm₀; exact ⟨_, rfl⟩
    refine ⟨h2, tk2, _, _, own2, [], 0, [], x, tx, m₀ (Str.ofString "told"), rfl, frCongr F2 ?_, fun q hq => ?_, nD2, hB.push hb2, .nil, .inr ⟨G2, ok2⟩, hfx, rfl, hx, by simp; lia⟩
    · intro y
      rw [← htx]
      by_cases h1 : y = Str.ofString "text"
      · rw [if_pos h1, h1]
      · rw [if_neg h1]
        by_cases h2 : y = Str.ofString "told"
        · rw [if_pos h2, h2]
        · rw [if_neg h2]
    · rcases List.mem_cons.mp hq with rfl | hq
      · exact N2 _ (.head _)
      · exact O2 q hq
  · rintro k s' ⟨h5, tk5, gens5, fp5, own5, vs5, ep5, ps5, x5, tx5, ut5, rfl, F5, N5, nD5, B5, I5, G5, fx5, c5, x40, l5⟩
    clear F2 N2 nD2 O2 ok2
    subst hA9
    clear G2
    have vl5 : vs5.length = ps5.length := I5.length
    rcases Nat.eq_zero_or_pos k with hk0 | hk0
    · subst hk0
      have hfin : fin = true := by
        rcases fx5 with h | h
        · exact h
        · exact absurd h (Nat.not_lt_zero _)
      subst hfin
      rcases G5 with h9 | ⟨G5, ok5⟩
      · exact absurd h9.2 (by decide)
      have nfp : ∀ b ∈ fp5, b ≠ L' ∧ b ≠ D := fun b hb => by
        obtain ⟨o, ho⟩ := ok5.foot b hb
        exact ⟨(N5 _ (.tail _ ho)).2.1, nD5 _ ho⟩
      refine gs_end hA (T.nolimit.keeps F5.keep) (by simp only [depth_deeper]; lia) G5 F5.keep B5 ?_
      intro h6 tk6 gens6 k6 B6
      obtain ⟨F6, N6⟩ := own_frame F5 (rest := [_]) (fun q hq => N5 q (by obtain rfl := List.mem_singleton.mp hq; exact .head _)) k6 (fun e => (nfp _ e).1 rfl) (List.forall_mem_singleton.mpr fun e => (nfp _ e).2 rfl) (fun b hb => (G5.2.2.1 b hb).2)
      clear F5 N5 G5 k6 ok5 nD5
      subst hm₀
      dsimp only
      repeat' (first | (k_unfold; (try dsimp only)) | ((fail_if_success (with_reducible show wpAny _ _ (call (Value.ref _) _) _ _ _)); (fail_if_success (with_reducible show Exists _)); first | (k_end; wrow_close) | walk1 | (dsimp only; walk1) | (leave1; walk_say "STEP leave1"; try dsimp only)))
      · dsimp only
        refine h.out D _ _ _ (vs5 ++ [.str x5 tx5]) (ep5 + 1) (fun b o e => Fr.keep (by assumption) b o e) (leLt hL' hLD) ?_ ?_ B6
        · have := News.get (by assumption : News s.heap L' _ _) (.head _)
          simpa using this
        · rw [← c5]
          have hne : x5 ≠ emp := by simpa using (by assumption : (x5 != Str.ofString "") = true)
          unfold cutF
          rw [if_neg hne]
          exact strs_snoc I5
      · dsimp only
        refine h.out D _ _ _ vs5 _ (fun b o e => Fr.keep (by assumption) b o e) (leLt hL' hLD) (News.get (by assumption : News s.heap L' _ _) (.head _)) ?_ B6
        rw [← c5]
        have hne : x5 = emp := by simpa using (by assumption : (x5 != Str.ofString "") = false)
        unfold cutF
        rw [if_pos hne, List.append_nil]
        exact I5
    · obtain ⟨j, rfl⟩ : ∃ j, k = j + 1 := ⟨k - 1, by lia⟩
      rcases G5 with h9 | ⟨G5, ok5⟩
      · exact absurd h9.1 (Nat.succ_ne_zero j)
      have nfp : ∀ b ∈ fp5, b ≠ L' ∧ b ≠ D := fun b hb => by
        obtain ⟨o, ho⟩ := ok5.foot b hb
        exact ⟨(N5 _ (.tail _ ho)).2.1, nD5 _ ho⟩
      refine gs_next hA (T.nolimit.keeps F5.keep) (by simp only [depth_deeper]; lia) G5 F5.keep B5 ?_
      intro h6 tk6 gens6 t6 fp6 k6 new6 B6 G6
      obtain ⟨F6, N6⟩ := own_frame F5 (rest := [_]) (fun q hq => N5 q (by obtain rfl := List.mem_singleton.mp hq; exact .head _)) k6 (fun e => (nfp _ e).1 rfl) (List.forall_mem_singleton.mpr fun e => (nfp _ e).2 rfl) (fun b hb => (G5.2.2.1 b hb).2)
      obtain ⟨oa5, ha5⟩ := ok5.gen
      have naL : a ≠ L' := (N5 _ (.tail _ ha5)).2.1
      have naD : a ≠ D := nD5 _ ha5
      obtain ⟨own6, N6, nD6, G6⟩ : ∃ own6, News s.heap L' h6 ((D, W.listOf vs5.toArray ep5) :: own6) ∧ (∀ q ∈ own6, q.1 ≠ D) ∧ ((j = 0 ∧ fin = false) ∨ (GS w _ s.heap a s.gens.size fp6 tv fin j _ ∧ OwnOk a fp6 own6)) := by
        rcases G6 with h9 | G6
        · exact ⟨[], N6, (fun _ h => nomatch h), .inl h9⟩
        · have old : ∀ b o, h5.get? b = some o → b ∉ fp5 → b ∉ fp6 := fun b o e hn hm => by
            rcases new6 b hm with h3 | h3
            · exact hn h3
            · have h4 : h5.get? b = none := h3
              rw [e] at h4; cases h4
          obtain ⟨oL, _, _, hLo, _⟩ := F5.ns
          obtain ⟨own6, O6, ok6⟩ := own_make (L := L') G6 (old _ _ hLo fun e => (nfp _ e).1 rfl) naL
          refine ⟨own6, fun q hq => ?_, fun q hq => ?_, .inr ⟨G6, ok6⟩⟩
          · rcases List.mem_cons.mp hq with rfl | hq
            · exact N6 _ (.head _)
            · exact O6 q hq
          · rcases ok6.only q hq with h3 | h3
            · rw [h3]; exact naD
            · exact fun e => old _ _ (N5 _ (.head _)).1 (fun e => (nfp _ e).2 rfl) (e ▸ h3)
      have N60 := Hide.mk N6
      dsimp only at G6
      clear F5 N5 G5 k6 new6 ok5 nfp nD5
      subst hm₀
      have htv' := htv.out j
      dsimp only
      repeat' (first | (k_unfold; (try dsimp only)) | ((fail_if_success (with_reducible show wpAny _ _ (call (Value.ref _) _) _ _ _)); (fail_if_success (with_reducible show Exists _)); first | (k_end; wrow_close) | walk1 | (dsimp only; walk1) | (leave1; walk_say "STEP leave1"; try dsimp only)))
      · exfalso; simp_all
      · dsimp only
        refine h.out D _ _ _ vs5 ep5 (fun b o e => Fr.keep (by assumption) b o e) (leLt hL' hLD) (News.get (by assumption : News s.heap L' _ _) (.head _)) ?_ B6
        rw [← c5]
        have hne : x5 = emp := by simpa using (by assumption : (x5 == Str.ofString "") = true)
        unfold cutF
        rw [if_pos hne, List.append_nil]
        exact I5
      · have hne : x5 ≠ emp := by simpa using (by assumption : (x5 == Str.ofString "") = false)
        have hlx : 1 ≤ x5.length := by
          rcases Nat.eq_zero_or_pos x5.length with h9 | h9
          · exfalso; apply hne
            obtain ⟨L9, rfl⟩ := txt_of x5
            rw [txt_len] at h9
            rw [List.length_eq_zero_iff.mp h9]; rfl
          · exact h9
        have hsl := slice_head_len x5 htv'.1
        rename_i Fz Nz
        refine ⟨j, Nat.lt_succ_self j, _, _, gens6, fp6, own6, vs5 ++ [.str (Txt.slice x5 (some (-(tv j : Int))) none) _], ep5 + 1, ps5 ++ [Txt.slice x5 (some (-(tv j : Int))) none], Txt.slice x5 none (some (-(tv j : Int))), _, _, rfl, frCongr Fz (fun y => over2b), newsPushEq Nz, nD6, B6, strs_snoc I5, ?_, ?_, ?_, ?_, ?_⟩
        · rcases G6 with h9 | ⟨G6, ok6⟩
          · exact .inl h9
          · exact .inr ⟨gs_move (r := [_]) (r' := [_]) G6 ok6 N60.out Nz rfl, ok6⟩
        · rcases fx5 with h9 | h9
          · exact .inl h9
          · right; lia
        · rw [← c5, List.append_assoc]
          conv => rhs; unfold cutF
          rw [if_neg hne]; rfl
        · lia
        · rw [List.length_append]; simp; lia
end
end Mine
end
end
end
section
open PySem PySem.W PySem.Calls PyProof.Rows
set_option maxRecDepth 100000
set_option maxHeartbeats 8000000
namespace Mine
open NumText
/-! the numeral of a number -/
def digL (N : Nat) : List Nat := (Nat.toDigits 10 N).map Char.toNat
abbrev numT (N : Nat) : Str := Str.ofString (toString (N : Int))
theorem numT_txt (N : Nat) : numT N = txt (digL N) := by
  unfold numT txt digL
  rw [Str.ofString_eq_toList]
  have e : toString (N : Int) = Nat.repr N := rfl
  rw [e]
  simp [Nat.repr]
theorem dig_val (N : Nat) : digitsVal (digL N) = N := KIN.val_back N
theorem dig_all (N : Nat) : AllDigits (digL N) := by
  intro c hc
  obtain ⟨d, hd, rfl⟩ := List.mem_map.mp hc
  have := Nat.isDigit_of_mem_toDigits (by decide) (by decide) hd
  simp only [Char.isDigit, Bool.and_eq_true, decide_eq_true_eq] at this
  obtain ⟨h1, h2⟩ := this
  exact ⟨h1, h2⟩
theorem val_fold (A : List Nat) : ∀ acc, A.foldl (fun acc c => acc * 10 + (c - 48)) acc = acc * 10 ^ A.length + digitsVal A := by
  induction A with
  | nil => intro acc; simp [digitsVal]
  | cons c r ih =>
    intro acc
    unfold digitsVal
    rw [List.foldl_cons, List.foldl_cons, ih, ih (0 * 10 + (c - 48)), List.length_cons, Nat.pow_succ, Nat.add_mul, Nat.mul_assoc, Nat.mul_comm 10, Nat.zero_mul, Nat.zero_add]
    lia
theorem val_append (A B : List Nat) : digitsVal (A ++ B) = digitsVal A * 10 ^ B.length + digitsVal B := by
  conv => lhs; unfold digitsVal
  rw [List.foldl_append, val_fold B]
  rfl
theorem val_lt : ∀ A : List Nat, AllDigits A → digitsVal A < 10 ^ A.length
  | [], _ => by simp [digitsVal]
  | c :: r, h => by
    have e : digitsVal (c :: r) = digitsVal [c] * 10 ^ r.length + digitsVal r := val_append [c] r
    have h1 := val_lt r h.tail
    have h2 := h.head
    have h3 : digitsVal [c] = c - 48 := by simp [digitsVal]
    rw [e, h3, List.length_cons, Nat.pow_succ]
    have h4 : (c - 48 + 1) * 10 ^ r.length ≤ 10 * 10 ^ r.length := Nat.mul_le_mul_right _ (by lia)
    rw [Nat.add_mul, Nat.one_mul] at h4
    lia
theorem ad_sub {A B : List Nat} (h : AllDigits A) (hs : ∀ c ∈ B, c ∈ A) : AllDigits B := fun c hc => h c (hs c hc)
theorem dig_len_le {N k : Nat} (hk : 1 ≤ k) (h : N < 10 ^ k) : (digL N).length ≤ k := by
  have := Flt.repr_len hk h
  unfold digL
  rw [List.length_map]
  simpa [Nat.repr] using this
theorem dig_len_gt {N k : Nat} (h : 10 ^ k ≤ N) : k < (digL N).length := by
  have := val_lt _ (dig_all N)
  rw [dig_val] at this
  exact (Nat.pow_lt_pow_iff_right (by decide)).mp (Nat.lt_of_le_of_lt h this)
theorem val_split (L : List Nat) (j : Nat) : digitsVal L = digitsVal (L.take j) * 10 ^ (L.length - j) + digitsVal (L.drop j) := by
  conv => lhs; rw [← List.take_append_drop j L]
  rw [val_append, List.length_drop]
theorem val_drop_lt {L : List Nat} (h : AllDigits L) (j : Nat) : digitsVal (L.drop j) < 10 ^ (L.length - j) := by
  have := val_lt (L.drop j) (ad_sub h fun c hc => List.mem_of_mem_drop hc)
  rwa [List.length_drop] at this
/-- no nought at the front -/
def Lead (L : List Nat) : Prop := ∀ j, 1 ≤ j → j ≤ L.length → 0 < digitsVal (L.take j)
theorem dig_lead {N : Nat} (hN : 0 < N) : Lead (digL N) := by
  intro j h1 h2
  rcases Nat.eq_zero_or_pos (digitsVal ((digL N).take j)) with h | h
  · exfalso
    have e := val_split (digL N) j
    rw [dig_val, h, Nat.zero_mul, Nat.zero_add] at e
    have hl := val_drop_lt (dig_all N) j
    rw [← e] at hl
    rcases Nat.eq_zero_or_pos ((digL N).length - j) with h3 | h3
    · rw [h3] at hl; simp at hl; lia
    · have := dig_len_le h3 hl
      lia
  · exact h
theorem Lead.take {L : List Nat} (h : Lead L) (k : Nat) : Lead (L.take k) := by
  intro j h1 h2
  rw [List.length_take] at h2
  rw [List.take_take, Nat.min_eq_left (by lia)]
  exact h j h1 (by lia)
theorem val_tail {L : List Nat} (h : AllDigits L) (k : Nat) : digitsVal (L.drop (L.length - k)) = digitsVal L % 10 ^ k ∧ digitsVal (L.take (L.length - k)) = digitsVal L / 10 ^ k := by
  rcases Nat.le_total k L.length with hk | hk
  · have e := val_split L (L.length - k)
    have hl := val_drop_lt h (L.length - k)
    rw [show L.length - (L.length - k) = k by lia] at e hl
    have hp : 0 < 10 ^ k := Nat.pow_pos (by decide)
    constructor
    · rw [e, Nat.mul_comm, Nat.mul_add_mod, Nat.mod_eq_of_lt hl]
    · rw [e, Nat.mul_comm, Nat.mul_add_div hp, Nat.div_eq_of_lt hl, Nat.add_zero]
  · rw [show L.length - k = 0 by lia]
    have hl : digitsVal L < 10 ^ k := Nat.lt_of_lt_of_le (val_lt L h) (Nat.pow_le_pow_right (by decide) hk)
    rw [Nat.mod_eq_of_lt hl, Nat.div_eq_of_lt hl]
    exact ⟨rfl, rfl⟩
/-- the pieces of a numeral: texts of figures, their values, and the whole -/
structure Pcs (Ds : List (List Nat)) (L : List Nat) (vals : List Nat) : Prop where
  all : ∀ D ∈ Ds, AllDigits D ∧ D ≠ [] ∧ D.length ≤ L.length
  vals : Ds.map digitsVal = vals
  whole : Ds.reverse.flatten = L
theorem txt_inj {A B : List Nat} (h : txt A = txt B) : A = B := by
  have := congrArg (fun x => x.cps.toList) h
  simpa using this
theorem txt_emp (L : List Nat) : txt L = emp ↔ L = [] := by
  have e : emp = txt [] := rfl
  rw [e]
  exact ⟨txt_inj, fun h => by rw [h]⟩
theorem pcs_high {h B : Nat} (hh : 1 ≤ h) (hB : B = 10 ^ h) {tv : Nat → Nat} : ∀ (k : Nat) (L : List Nat) (F : Nat), (∀ j, j < k → tv j = h) → AllDigits L → Lead L → L.length ≤ h * (k + 1) → L.length ≤ F →
    ∃ Ds, cutF tv k (txt L) = Ds.map txt ∧ Pcs Ds L (figF F B (digitsVal L)) := by
  intro k
  induction k with
  | zero =>
    intro L F htv hL hlead hlen hF
    unfold cutF
    by_cases e : L = []
    · subst e
      refine ⟨[], by rw [if_pos ((txt_emp []).mpr rfl)]; rfl, (fun _ h => nomatch h), ?_, rfl⟩
      show [] = figF F B (digitsVal [])
      rw [show digitsVal [] = 0 from rfl, figF_zero]
    · rw [if_neg (fun q => e ((txt_emp L).mp q))]
      refine ⟨[L], rfl, fun D hD => ?_, ?_, by simp⟩
      · obtain rfl := List.mem_singleton.mp hD
        exact ⟨hL, e, Nat.le_refl _⟩
      · have hl0 : 0 < L.length := List.length_pos_iff.mpr e
        have hpos : 0 < digitsVal L := by
          have := hlead L.length hl0 (Nat.le_refl _)
          rwa [List.take_length] at this
        have hlt : digitsVal L < B := by
          rw [hB]
          exact Nat.lt_of_lt_of_le (val_lt L hL) (Nat.pow_le_pow_right (by decide) (by lia))
        obtain ⟨F', rfl⟩ : ∃ F', F = F' + 1 := ⟨F - 1, by lia⟩
        unfold figF
        rw [if_neg (by lia), Nat.mod_eq_of_lt hlt, Nat.div_eq_of_lt hlt, figF_zero]
        rfl
  | succ k ih =>
    intro L F htv hL hlead hlen hF
    unfold cutF
    by_cases e : L = []
    · subst e
      refine ⟨[], by rw [if_pos ((txt_emp []).mpr rfl)]; rfl, (fun _ h => nomatch h), ?_, rfl⟩
      show [] = figF F B (digitsVal [])
      rw [show digitsVal [] = 0 from rfl, figF_zero]
    · rw [if_neg (fun q => e ((txt_emp L).mp q)), htv k (Nat.lt_succ_self k), slice_tail L hh, slice_head L hh]
      have hl0 : 0 < L.length := List.length_pos_iff.mpr e
      have hpos : 0 < digitsVal L := by
        have := hlead L.length hl0 (Nat.le_refl _)
        rwa [List.take_length] at this
      obtain ⟨F', rfl⟩ : ∃ F', F = F' + 1 := ⟨F - 1, by lia⟩
      have hmul : h * (k + 1 + 1) = h * (k + 1) + h := Nat.mul_succ _ _
      obtain ⟨Ds, e1, e2⟩ := ih (L.take (L.length - h)) F' (fun j hj => htv j (Nat.lt_succ_of_lt hj)) (ad_sub hL fun c hc => List.mem_of_mem_take hc) (hlead.take _) (by rw [List.length_take]; lia) (by rw [List.length_take]; lia)
      have hv := val_tail hL h
      refine ⟨L.drop (L.length - h) :: Ds, by rw [e1]; rfl, fun D hD => ?_, ?_, ?_⟩
      · rcases List.mem_cons.mp hD with rfl | hD
        · refine ⟨ad_sub hL fun c hc => List.mem_of_mem_drop hc, ?_, by rw [List.length_drop]; lia⟩
          intro q
          have := congrArg List.length q
          rw [List.length_drop] at this
          simp at this; lia
        · have := e2.all D hD
          exact ⟨this.1, this.2.1, Nat.le_trans this.2.2 (by rw [List.length_take]; lia)⟩
      · unfold figF
        rw [if_neg (by lia), List.map_cons, e2.vals, hv.1, hv.2, hB]
      · rw [List.reverse_cons, List.flatten_append, e2.whole]
        simp
theorem pcs_all {N low high B n : Nat} {tv : Nat → Nat} (hN : 0 < N) (hl : 1 ≤ low) (hh : 1 ≤ high) (hB : B = 10 ^ high) (h0 : tv n = low) (hr : ∀ j, j < n → tv j = high) (hlen : low < (digL N).length) (hlen2 : (digL N).length ≤ low + high * (n + 1)) (h100 : (digL N).length ≤ 100) :
    ∃ Ds, cutF tv (n + 1) (numT N) = Ds.map txt ∧ Pcs Ds (digL N) (N % 10 ^ low :: figF 100 B (N / 10 ^ low)) := by
  rw [numT_txt]
  have hL := dig_all N
  have hlead := dig_lead hN
  have e0 : digL N ≠ [] := fun q => by rw [q] at hlen; simp at hlen
  obtain ⟨Ds, e1, e2⟩ := pcs_high hh hB n ((digL N).take ((digL N).length - low)) 100 hr (ad_sub hL fun c hc => List.mem_of_mem_take hc) (hlead.take _) (by rw [List.length_take]; lia) (by rw [List.length_take]; lia)
  have hv := val_tail hL low
  rw [dig_val] at hv
  unfold cutF
  rw [if_neg (fun q => e0 ((txt_emp _).mp q)), h0, slice_tail _ hl, slice_head _ hl]
  refine ⟨(digL N).drop ((digL N).length - low) :: Ds, by rw [e1]; rfl, fun D hD => ?_, ?_, ?_⟩
  · rcases List.mem_cons.mp hD with rfl | hD
    · refine ⟨ad_sub hL fun c hc => List.mem_of_mem_drop hc, ?_, by rw [List.length_drop]; lia⟩
      intro q
      have := congrArg List.length q
      rw [List.length_drop] at this
      simp at this; lia
    · have := e2.all D hD
      exact ⟨this.1, this.2.1, Nat.le_trans this.2.2 (by rw [List.length_take]; lia)⟩
  · rw [List.map_cons, e2.vals, hv.1, hv.2]
  · rw [List.reverse_cons, List.flatten_append, e2.whole]
    simp
end Mine
end
section
open PySem PySem.W PySem.Calls PyProof.Rows
set_option maxRecDepth 100000
set_option maxHeartbeats 8000000
namespace Mine
/-- what a row of sizes must do for a numeral of dl figures -/
structure RowOk (row : List Nat) (dl low high : Nat) (n : Nat) (tv : Nat → Nat) (fin : Bool) : Prop where
  path : Path row tv fin 0 (n + 1) none
  first : tv n = low
  rest : ∀ j, j < n → tv j = high
  size : ∀ k, 1 ≤ tv k ∧ tv k ≤ 9
  n64 : n + 1 ≤ 64
  fits : fin = true ∨ dl < n + 1
  len : dl ≤ low + high * (n + 1)
theorem path_rep {row : List Nat} {tv : Nat → Nat} {h : Nat} (h1 : 1 ≤ h) (h3 : h ≤ 3) : ∀ (m i : Nat) (last : Option Nat), (∀ j, j < m → row[i + j]? = some h) → (row[i + m]? = none ∨ row[i + m]? = some 127) → (∀ j, j < m → tv j = h) → Path row tv true i m last
  | 0, i, last, _, he, _ => he.elim (fun e => .stop rfl e) fun e => .stop2 rfl e
  | m + 1, i, last, hr, he, ht => by
    refine .step (x := h) (by simpa using hr 0 (by lia)) (by lia) (by lia) (ht m (by lia)) (path_rep h1 h3 m (i + 1) _ (fun j hj => ?_) ?_ fun j hj => ht j (by lia))
    · have := hr (j + 1) (by lia)
      rwa [show i + 1 + j = i + (j + 1) by lia]
    · rwa [show i + 1 + m = i + (m + 1) by lia]
section
variable {dl low high more : Nat}
theorem row_0 (hl : 1 ≤ low ∧ low ≤ 3) (hh : 1 ≤ high ∧ high ≤ 3) (hd : dl ≤ 21) : RowOk [low, high, 0, 1] dl low high 63 (fun k => if k < 63 then high else low) false where
  path := by
    refine .step (x := low) rfl (by lia) (by lia) (by simp) (.step (n := 62) (x := high) rfl (by lia) (by lia) (by simp) (.stuck (n := 61) rfl rfl fun k hk => ?_))
    rw [if_pos (by lia)]
  first := by simp
  rest := fun j hj => by rw [if_pos hj]
  size := fun k => by split <;> lia
  n64 := by lia
  fits := .inr (by lia)
  len := by lia
theorem row_tail (tl : List Nat) (htl : tl = [] ∨ ∃ r, tl = 127 :: r) (hl : 1 ≤ low ∧ low ≤ 3) (hh : 1 ≤ high ∧ high ≤ 3) (hd : dl ≤ 21) (hm : more = (dl - low - 1) / high) :
    RowOk (low :: (List.replicate more high ++ tl)) dl low high more (fun k => if k < more then high else low) true where
  path := by
    refine .step (x := low) rfl (by lia) (by lia) (by simp) (path_rep hh.1 hh.2 more 1 _ (fun j hj => ?_) ?_ fun j hj => ?_)
    · rw [show 0 + 1 + j = j + 1 by lia, List.getElem?_cons_succ, List.getElem?_append_left (by simp [hj])]
      simp [hj]
    · rw [show 0 + 1 + more = more + 1 by lia, List.getElem?_cons_succ, List.getElem?_append_right (by simp)]
      rcases htl with rfl | ⟨r, rfl⟩
      · left; simp
      · right; simp
    · rw [if_pos hj]
  first := by simp
  rest := fun j hj => by rw [if_pos hj]
  size := fun k => by split <;> lia
  n64 := by
    have : more ≤ dl - low - 1 := by rw [hm]; exact Nat.div_le_self _ _
    lia
  fits := .inl rfl
  len := by
    have h1 := Nat.div_add_mod (dl - low - 1) high
    have h2 := Nat.mod_lt (dl - low - 1) (show 0 < high by lia)
    rw [← hm] at h1
    rw [Nat.mul_succ]
    lia
end
end Mine
end
section
open PySem PySem.W PySem.Calls PyProof.Rows
set_option maxRecDepth 100000
set_option maxHeartbeats 8000000
namespace Mine
section
variable {prog : Program} {w : World} {A : Around} {s : Shared} {env : Env}
/-- y = [elt for x in iter], by an invariant over the whole state -/
theorem assignC {elt iter : PySem.Expr} {x y : Str} {px py : Pos} {scope : Scope} {cl : List (Str × Addr)} {pos spos : Pos} {Q : Flow → Shared → Prop}
    (h : wpAny (model prog w) A (eval iter env) (fun xv s₁ => wpAny (model prog w) A (pyIter xv) (fun it s₂ =>
      ∀ h₄ tk, s₂.heap.StaysIn h₄ → h₄.get? s₂.heap.objs.size = some (W.listOf #[] 0) → h₄.Ns (s₂.heap.objs.size + 1) (fun _ => none) →
        ∃ (Inv : Nat → Shared → Prop) (n : Nat), Inv n { s₂ with heap := h₄, toks := tk } ∧
          (∀ s' (Q' : Value → Shared → Prop), Inv n s' → Q' it s' → wpAny (model prog w) A (pyIter it) Q' (fun _ _ => False) s') ∧
          ∀ k s', Inv k s' → wpAny (model prog w) A (pyNext it) (fun r s₁ => match r with
            | none => wpAny (model prog w) A (assign (.Name y py) env (.ref s₂.heap.objs.size)) (fun _ s'' => ∃ m, s''.heap.Ns (s₂.heap.objs.size + 1) m ∧ ∀ h', Heap.SameBut (s₂.heap.objs.size + 1) s''.heap h' → Q .next { s'' with heap := h' }) (fun _ _ => False) s₁
            | some v => wpAny (model prog w) A (assign (.Name x px) (compEnvC scope cl (s₂.heap.objs.size + 1) env) v) (fun _ s₂' => wpAny (model prog w) A (eval elt (compEnvC scope cl (s₂.heap.objs.size + 1) env)) (fun xv s₃ =>
                wpAny (model prog w) A (call (.builtin "list.append") [.ref s₂.heap.objs.size, xv]) (fun _ s₄ => ∃ m, m < k ∧ Inv m s₄) (fun _ _ => False) s₃) (fun _ _ => False) s₂') (fun _ _ => False) s₁) (fun _ _ => False) s')
      (fun _ _ => False) s₁) (fun _ _ => False) s)
    (hsw : swapsWith (.ListComp elt [⟨.Name x px, iter, [], 0⟩] scope pos) (some (.Name y py)) spos.line env = pure true)
    (hclos : closureFor scope env = pure cl) (hcell : ∀ z ∈ scope.names, z.2 ≠ .cell) (hkind : scope.kind = .function)
    (hnames : ∀ z ∈ scope.names, z.2 = .local → scope.names.lookup z.1 = some .local)
    (hs : ∀ x, foldedSetIterable iter env x = pure x := by intro _; rfl) :
    wpAny (model prog w) A (exec (.Assign [.Name y py] (.ListComp elt [⟨.Name x px, iter, [], 0⟩] scope pos) spos) env) Q (fun _ _ => False) s := by
  rw [exec_Assign_Name_used _ _ _ _ hsw]
  refine wpAny_bind (wpAny_standAt (wpAny_bind ?_))
  show wpAny _ A (do let _ ← comprehension (.ListComp elt [⟨.Name x px, iter, [], 0⟩] scope pos) scope env _ (newList []) false (eval iter env) (some (assign (.Name y py) env))) _ _ s
  refine wpAny_bind (wpAny_mono (wpAny_comprehension_free (use := some (assign (.Name y py) env)) (Q := fun _ s' => Q .next s') rfl hs hclos hkind hnames
    (wpAny_mono h (fun xv s₁ h₁ => wpAny_mono h₁ (fun it s₂ h₂ => ?_) fun _ _ e => e) fun _ _ e => e)) (fun _ s' hq => wpAny_pure (wpAny_pure hq)) fun _ _ e => e)
  refine wpAny_newObj_type (wpAny_newFunctionEnv hcell (by intro y hy; simp at hy) (fun h₁ hns₁ hsb₁ => ?_) hkind)
  dsimp only at hns₁ hsb₁ ⊢
  have hC : (s₂.heap.push { cls := .type "list", dict := none, data := .seq ([] : List Value).toArray }).objs.size = s₂.heap.objs.size + 1 := by rw [Heap.size_push]
  rw [hC] at hns₁ hsb₁ ⊢
  have old : s₂.heap.StaysIn h₁ := fun b o e => hsb₁.extBut b o (Nat.ne_of_lt (Nat.lt_succ_of_lt (Heap.lt_size e))) (Heap.get?_push_of_some _ (Heap.get?_push_of_some _ e))
  have hD : h₁.get? s₂.heap.objs.size = some (W.listOf #[] 0) := hsb₁.extBut _ _ (Nat.ne_of_lt (Nat.lt_succ_self _)) (Heap.get?_push_of_some _ (Heap.get?_push_size _ rfl))
  obtain ⟨Inv, n, h0, hself, turn⟩ := h₂ h₁ _ old hD hns₁
  have loop : ∀ s₃ : Shared, Inv n s₃ → codeAny (model prog w) A (.compLoop (.ListComp elt [⟨.Name x px, iter, [], 0⟩] scope pos) 0 it (.ref s₂.heap.objs.size) (compEnvC scope cl (s₂.heap.objs.size + 1) env))
      (compPost (model prog w) A (fun _ _ => False) (some (assign (.Name y py) env)) (fun _ s' => Q .next s') (.ref s₂.heap.objs.size) (s₂.heap.objs.size + 1)) s₃ := by
    intro s₃ h3
    refine codeAny_compLoop_list Inv (fun k s' hk => ?_) n h3
    refine wpAny_mono (turn k s' hk) (fun r s₁ h₁ => ?_) fun _ _ e => e.elim
    cases r with
    | none => exact h₁
    | some v => exact wpAny_mono h₁ (fun _ s₂' h₂ => wpAny_mono h₂ (fun xv s₃ h₃ => wpAny_mono h₃ (fun _ _ q => q) fun _ _ e => e.elim) fun _ _ e => e.elim) fun _ _ e => e.elim
  refine codeAny_compStart_list (loop _ h0) (wpAny_mono (hself _ (fun it' s' => it' = it ∧ Inv n s') h0 ⟨rfl, h0⟩) (fun it' s' hh => ?_) fun _ _ e => e.elim)
  obtain ⟨rfl, hi⟩ := hh
  exact loop _ hi
end
end Mine
end
section
open PySem PySem.W PySem.Calls PyProof.Rows
set_option maxRecDepth 100000
set_option maxHeartbeats 8000000
namespace Mine
def Dis (rest tail : List (Addr × Obj)) : Prop := ∀ q ∈ rest, ∀ p ∈ tail, p.1 ≠ q.1
structure PieceOk (x : Str) (n : Nat) : Prop where
  len : x.length ≤ 600
  occ : (Builtin.Str.occurrences (Txt.rstrip x) (Str.ofString "_") 0 (Txt.rstrip x).length ((Txt.rstrip x).length + 1)).isEmpty = true
  len2 : (Txt.replace (Txt.rstrip x) (Str.ofString "_") (Str.ofString "")).length ≤ 600
  val : PySem.intText? (Txt.replace (Txt.rstrip x) (Str.ofString "_") (Str.ofString "")) = some (n : Int)
inductive VcInv (b : Heap) (C I D D3 : Addr) (x : Str) (restA : List (Addr × Obj)) (S : Shared) (ns : List Nat) (k : Nat) (s' : Shared) : Prop
  | mk (h' : Heap) (tk' : Nat) (dr' : Drawn) (oI : Obj) (i ea : Nat) (acc : List Value) (tail : List (Addr × Obj)) (up : Option Value)
    (h1 : s' = { S with heap := h', toks := tk', drawn := dr' })
    (h2 : Fr (hid b) C h' (fun y => if y = x then up else none))
    (h3 : News (hid b) C h' (((I, oI) :: (D, W.listOf acc.toArray ea) :: restA) ++ tail))
    (h4 : oI.cls = .type "list_iterator")
    (h5 : oI.data = .fields #[.ref D3, .int (i : Int) 0])
    (h6 : TailIs (hid b) tail)
    (h7 : Dis ((I, oI) :: (D, W.listOf acc.toArray ea) :: restA) tail)
    (h8 : i + k = ns.length)
    (h9 : IntsAre acc (castL (ns.take i))) : VcInv b C I D D3 x restA S ns k s'
section
variable {w : World} {A : Around} {s : Shared} {env : Env} {p : Program} {loose : List Str} {mean : ExcName → Option Value} {mg mb : Str → Option Value} {b : Heap} {L D3 : Addr} {m : Str → Option Value}
theorem valC {elt iter : PySem.Expr} {x y : Str} {px py : Pos} {scope : Scope} {cl : List (Str × Addr)} {pos spos : Pos} {Q : Flow → Shared → Prop} {vps : List Value} {xs : List Str} {ns : List Nat} {e3 : Nat} {rest tail : List (Addr × Obj)}
    (G : Gr w p loose mean mg mb b) (hd : A.depth + 60 < recursionLimit) (hA : A.handled = none)
    (F : Fr (hid b) L s.heap m) (N : News (hid b) L s.heap (((D3, W.listOf vps.toArray e3) :: rest) ++ tail)) (TL : TailIs (hid b) tail) (hdis : Dis ((D3, W.listOf vps.toArray e3) :: rest) tail) (hgt : ∀ q ∈ (D3, W.listOf vps.toArray e3) :: rest, @LT.lt Nat _ 59 q.1)
    (hnc : ∀ q ∈ rest, NoCode q.2) (hbL : b.objs.size ≤ L) (h59 : @LT.lt Nat _ 59 L) (hxs : StrsAre vps xs) (hlen : xs.length = ns.length) (hok : ∀ (i : Nat) (z : Str) (n : Nat), xs[i]? = some z → ns[i]? = some n → PieceOk z n) (h100 : ns.length ≤ 100)
    (hiter : ∀ Q' : Value → Shared → Prop, Q' (.ref D3) s → wpAny (model PySem.Challenge.rw_rl0106_01.row.prog w) A (eval iter env) Q' (fun _ _ => False) s)
    (helt : ∀ (C : Addr) (s₁ : Shared) (m₁ : Str → Option Value) (t : Tok) (z : Str) (Q' : Value → Shared → Prop), Fr (hid b) C s₁.heap m₁ → m₁ x = some (.str z t) →
      (∀ t', wpAny (model PySem.Challenge.rw_rl0106_01.row.prog w) A (call (.ref 36) [.str z t']) Q' (fun _ _ => False) s₁) → wpAny (model PySem.Challenge.rw_rl0106_01.row.prog w) A (eval elt (compEnvC scope cl C env)) Q' (fun _ _ => False) s₁)
    (hloc : env.locals = L) (hy : env.kindOf y = some .local) (hp : (env.scope.kind == .class || (env.scope.kind == .module && env.locals != env.globals)) = false)
    (hx : scope.names.lookup x = some .local)
    (h : ∀ h' tk' dr' D acc ea tail', Fr (hid b) L h' (fun z => if z = y then some (.ref D) else m z) → News (hid b) L h' ((D, W.listOf acc.toArray ea) :: (D3, W.listOf vps.toArray e3) :: rest ++ tail') → TailIs (hid b) tail' → Dis ((D, W.listOf (acc : List Value).toArray ea) :: (D3, W.listOf vps.toArray e3) :: rest) tail' →
      IntsAre acc (castL ns) → @LT.lt Nat _ L D → (∀ q ∈ (D3, W.listOf vps.toArray e3) :: rest, q.1 < D) → Q .next { s with heap := h', toks := tk', drawn := dr' })
    (hsw : swapsWith (.ListComp elt [⟨.Name x px, iter, [], 0⟩] scope pos) (some (.Name y py)) spos.line env = pure true)
    (hclos : closureFor scope env = pure cl) (hcell : ∀ z ∈ scope.names, z.2 ≠ .cell) (hkind : scope.kind = .function)
    (hnames : ∀ z ∈ scope.names, z.2 = .local → scope.names.lookup z.1 = some .local)
    (hs : ∀ x, foldedSetIterable iter env x = pure x := by intro _; rfl) :
    wpAny (model PySem.Challenge.rw_rl0106_01.row.prog w) A (exec (.Assign [.Name y py] (.ListComp elt [⟨.Name x px, iter, [], 0⟩] scope pos) spos) env) Q (fun _ _ => False) s := by
  subst hloc
  have hvl : vps.length = xs.length := hxs.length
  refine assignC (hiter _ ?_) hsw hclos hcell hkind hnames hs
  refine wpAny_pyIter_list (items := vps.toArray) ⟨_, N.get (.head _), rfl, _, rfl⟩ ?_
  dsimp only
  rw [Heap.size_push]
  intro h₄ tk old gD ns4
  obtain ⟨I, hI⟩ : ∃ I, I = s.heap.objs.size := ⟨_, rfl⟩
  rw [← hI] at gD ns4 ⊢
  have old2 : s.heap.StaysIn h₄ := fun a o e => old a o (Heap.get?_push_of_some _ e)
  have gI : h₄.get? I = some (itO D3 0) := old _ _ (by rw [hI]; exact Heap.get?_push_size _ rfl)
  have bI : ∀ a, I ≤ a → (hid b).get? a = none := fun a ha => Heap.get?_none_of_le (Nat.le_trans F.above (Nat.le_trans (Nat.le_of_lt F.ns.lt) (by rw [← hI]; exact ha)))
  obtain ⟨oL, esL, epL, hoL, dL⟩ := id F.ns
  have hI2 : @LE.le Nat _ I (I + 1 + 1) := Nat.le_of_lt (Nat.lt_succ_of_lt (Nat.lt_succ_self I))
  have hLI : @LT.lt Nat _ env.locals I := by rw [hI]; exact F.ns.lt
  have hltI : ∀ q ∈ ((D3, W.listOf vps.toArray e3) :: rest) ++ tail, @LT.lt Nat _ q.1 I := fun q hq => by rw [hI]; exact Heap.lt_size (N q hq).1
  have hF4 : Fr (hid b) (I + 1 + 1) h₄ (fun _ => none) := ⟨ns4, fun a o e => old2 _ _ (F.keep a o e), Nat.le_trans F.above (Nat.le_trans (Nat.le_of_lt hLI) hI2)⟩
  have hN4 : News (hid b) (I + 1 + 1) h₄ (((I, itO D3 0) :: (I + 1, W.listOf (#[] : Array Value) 0) :: (env.locals, oL) :: (D3, W.listOf vps.toArray e3) :: rest) ++ tail) := by
    intro q hq
    rcases List.mem_append.mp hq with hq | hq
    · rcases List.mem_cons.mp hq with rfl | hq
      · exact ⟨gI, Nat.ne_of_lt (Nat.lt_succ_of_lt (Nat.lt_succ_self I)), bI _ (Nat.le_refl _)⟩
      rcases List.mem_cons.mp hq with rfl | hq
      · exact ⟨gD, Nat.ne_of_lt (Nat.lt_succ_self _), bI _ (Nat.le_succ _)⟩
      rcases List.mem_cons.mp hq with rfl | hq
      · exact ⟨old2 _ _ hoL, Nat.ne_of_lt (Nat.lt_of_lt_of_le hLI hI2), Heap.get?_none_of_le F.above⟩
      · have z := N q (List.mem_append_left _ hq)
        exact ⟨old2 _ _ z.1, Nat.ne_of_lt (Nat.lt_of_lt_of_le (hltI q (List.mem_append_left _ hq)) hI2), z.2.2⟩
    · have z := N q (List.mem_append_right _ hq)
      exact ⟨old2 _ _ z.1, Nat.ne_of_lt (Nat.lt_of_lt_of_le (hltI q (List.mem_append_right _ hq)) hI2), z.2.2⟩
  have hdis4 : Dis ((I, itO D3 0) :: (I + 1, W.listOf (#[] : Array Value) 0) :: (env.locals, oL) :: (D3, W.listOf vps.toArray e3) :: rest) tail := by
    intro q hq t ht
    rcases List.mem_cons.mp hq with rfl | hq
    · exact Nat.ne_of_lt (hltI t (List.mem_append_right _ ht))
    rcases List.mem_cons.mp hq with rfl | hq
    · exact Nat.ne_of_lt (Nat.lt_succ_of_lt (hltI t (List.mem_append_right _ ht)))
    rcases List.mem_cons.mp hq with rfl | hq
    · exact (N t (List.mem_append_right _ ht)).2.1
    · exact hdis q hq t ht
  have hapart : ∀ q ∈ (I + 1, W.listOf (#[] : Array Value) 0) :: (env.locals, oL) :: (D3, W.listOf vps.toArray e3) :: rest, q.1 ≠ I := by
    intro q hq
    rcases List.mem_cons.mp hq with rfl | hq
    · exact Nat.ne_of_gt (Nat.lt_succ_self _)
    rcases List.mem_cons.mp hq with rfl | hq
    · exact Nat.ne_of_lt hLI
    · exact Nat.ne_of_lt (hltI q (List.mem_append_left _ hq))
  have hapart2 : ∀ q ∈ (env.locals, oL) :: (D3, W.listOf vps.toArray e3) :: rest, q.1 ≠ I + 1 := by
    intro q hq
    rcases List.mem_cons.mp hq with rfl | hq
    · exact Nat.ne_of_lt (Nat.lt_succ_of_lt hLI)
    · exact Nat.ne_of_lt (Nat.lt_succ_of_lt (hltI q (List.mem_append_left _ hq)))
  have hC59 : @LT.lt Nat _ 59 (I + 1 + 1) := Nat.lt_of_lt_of_le (Nat.lt_trans h59 hLI) hI2
  have hbC : b.objs.size ≤ I + 1 + 1 := Nat.le_trans hbL (Nat.le_trans (Nat.le_of_lt hLI) hI2)
  have hncL : NoCode oL := fun vs q t e => by rw [dL.1] at e; cases e
  refine ⟨VcInv b (I + 1 + 1) I (I + 1) D3 x ((env.locals, oL) :: (D3, W.listOf vps.toArray e3) :: rest) s ns, ns.length, ?_, ?_, ?_⟩
  · refine ⟨h₄, tk, s.drawn, itO D3 0, 0, 0, [], tail, none, rfl, frCongr hF4 (fun y => by split <;> rfl), hN4, rfl, rfl, TL, hdis4, by lia, .nil⟩
  · rintro s' Q' ⟨h5, tk5, dr5, oI, i, ea, acc, tail5, up, rfl, F5, N5, ci, di, _⟩ hq
    exact wpAny_pyIter_listiter (i := i) ⟨_, N5.get (.head _), ci, di⟩ hq
  · rintro k s' ⟨h5, tk5, dr5, oI, i, ea, acc, tail5, up, rfl, F5, N5, ci, di, TL5, dis5, hik, I5⟩
    have gD3 : h5.get? D3 = some (W.listOf vps.toArray e3) := N5.get (List.mem_append_left _ (.tail _ (.tail _ (.tail _ (.head _)))))
    have hlist : h5.IsList D3 vps.toArray := ⟨_, gD3, rfl, _, rfl⟩
    rcases Nat.eq_zero_or_pos k with hk0 | hk0
    · subst hk0
      refine wpAny_pyNext_list_end (i := i) (items := vps.toArray) hA ⟨_, N5.get (.head _), ci, di⟩ hlist (by rw [List.getElem?_toArray, List.getElem?_eq_none_iff]; lia) ?_
      intro h6 x6
      dsimp only
      have F6 : Fr (hid b) (I + 1 + 1) h6 _ := frExtBut F5 x6 (N5 _ (.head _)).2
      have N6 : News (hid b) (I + 1 + 1) h6 (((I + 1, W.listOf acc.toArray ea) :: (env.locals, oL) :: (D3, W.listOf vps.toArray e3) :: rest) ++ tail5) := fun q hq => by
        have z := N5 q (.tail _ hq)
        refine ⟨x6 _ _ ?_ z.1, z.2⟩
        rcases List.mem_append.mp hq with hq | hq
        · rcases List.mem_cons.mp hq with rfl | hq
          · exact Nat.ne_of_gt (Nat.lt_succ_self _)
          · exact hapart q (.tail _ hq)
        · exact dis5 _ (.head _) q hq
      have nsL : h6.Ns env.locals m := ⟨oL, esL, epL, N6.get (List.mem_append_left _ (.tail _ (.head _))), dL⟩
      have hCL : I + 1 + 1 ≠ env.locals := Nat.ne_of_gt (Nat.lt_of_lt_of_le hLI hI2)
      refine wpAny_assign_Name (wpAny_storeName_local hy nsL (fun h7 ns7 sb7 => ?_) hp)
      refine ⟨_, F6.ns.sameBut sb7 hCL, fun h8 sb8 => ?_⟩
      have bC : (hid b).get? (I + 1 + 1) = none := bI _ hI2
      have bL : (hid b).get? env.locals = none := Heap.get?_none_of_le F.above
      have notL : ∀ q ∈ ((I + 1, W.listOf acc.toArray ea) :: (D3, W.listOf vps.toArray e3) :: rest) ++ tail5, q.1 ≠ env.locals := fun q hq => by
        rcases List.mem_append.mp hq with hq | hq
        · rcases List.mem_cons.mp hq with rfl | hq
          · exact Nat.ne_of_gt (Nat.lt_succ_of_lt hLI)
          · exact (N q (List.mem_append_left _ hq)).2.1
        · exact dis5 (env.locals, oL) (.tail _ (.tail _ (.head _))) q hq
      have mem6 : ∀ q ∈ ((I + 1, W.listOf acc.toArray ea) :: (D3, W.listOf vps.toArray e3) :: rest) ++ tail5, q ∈ ((I + 1, W.listOf acc.toArray ea) :: (env.locals, oL) :: (D3, W.listOf vps.toArray e3) :: rest) ++ tail5 := fun q hq => by
        rcases List.mem_append.mp hq with hq | hq
        · rcases List.mem_cons.mp hq with rfl | hq
          · exact .head _
          · exact List.mem_append_left _ (.tail _ (.tail _ hq))
        · exact List.mem_append_right _ hq
      have hi : i = ns.length := by lia
      subst hi
      refine h h8 _ _ (I + 1) acc ea tail5 ⟨ns7.sameBut sb8 hCL.symm, fun a o e => ?_, F.above⟩ (fun q hq => ?_) TL5 (fun q hq => ?_) (by rwa [List.take_length] at I5) (Nat.lt_succ_of_lt hLI) (fun q hq => Nat.lt_succ_of_lt (hltI q (List.mem_append_left _ hq)))
      · refine (sb8.2 a ?_).trans ((sb7.2 a ?_).trans (F6.keep a o e))
        · intro q; rw [q, bC] at e; cases e
        · intro q; rw [q, bL] at e; cases e
      · have z := N6 q (mem6 q hq)
        exact ⟨(sb8.2 _ z.2.1).trans ((sb7.2 _ (notL q hq)).trans z.1), notL q hq, z.2.2⟩
      · rcases List.mem_cons.mp hq with rfl | hq
        · exact dis5 _ (.tail _ (.head _))
        · exact dis5 _ (.tail _ (.tail _ (.tail _ hq)))
    · have hi : i < ns.length := by lia
      have hxi : xs[i]? = some (xs[i]'(by lia)) := List.getElem?_eq_getElem _
      have hni : ns[i]? = some ns[i] := List.getElem?_eq_getElem _
      obtain ⟨tz, hz⟩ := hxs.at hxi
      have ok := hok i _ _ hxi hni
      generalize xs[i]'(by lia) = z at hxi hz ok
      refine wpAny_pyNext_list_item (i := i) (items := vps.toArray) ⟨_, N5.get (.head _), ci, di⟩ hlist (by simpa using hz) ?_
      intro h6 it6 sb6
      obtain ⟨oI6, g6, ci6, di6⟩ := it6
      dsimp only
      have F6 := F5.change sb6 (N5 _ (.head _)).2.1 (N5 _ (.head _)).2.2
      have N6 : News (hid b) (I + 1 + 1) h6 (((I, oI6) :: (I + 1, W.listOf acc.toArray ea) :: (env.locals, oL) :: (D3, W.listOf vps.toArray e3) :: rest) ++ tail5) := fun q hq => by
        rcases List.mem_append.mp hq with hq | hq
        · rcases List.mem_cons.mp hq with rfl | hq
          · exact ⟨g6, (N5 _ (.head _)).2⟩
          · have y := N5 q (List.mem_append_left _ (.tail _ hq))
            refine ⟨(sb6.2 _ ?_).trans y.1, y.2⟩
            rcases List.mem_cons.mp hq with rfl | hq
            · exact Nat.ne_of_gt (Nat.lt_succ_self _)
            · exact hapart q (.tail _ hq)
        · have y := N5 q (List.mem_append_right _ hq)
          exact ⟨(sb6.2 _ (dis5 _ (.head _) q hq)).trans y.1, y.2⟩
      have dis6 : Dis ((I, oI6) :: (I + 1, W.listOf acc.toArray ea) :: (env.locals, oL) :: (D3, W.listOf vps.toArray e3) :: rest) tail5 := fun q hq => by
        rcases List.mem_cons.mp hq with rfl | hq
        · exact dis5 (I, oI) (.head _)
        · exact dis5 q (.tail _ hq)
      clear F5 N5
      refine wpAny_assign_Name (wpAny_storeName_local (env := compEnvC scope cl (I + 1 + 1) env) (lookup_relabel_local hx) F6.ns (fun h7 ns7 sb7 => ?_) (by simp [compEnvC, relabel, hkind]))
      have bC : (hid b).get? (I + 1 + 1) = none := bI _ hI2
      have F7 : Fr (hid b) (I + 1 + 1) h7 _ := ⟨ns7, fun a o e => (sb7.2 a (fun q => by rw [q] at e; rw [show (compEnvC scope cl (I + 1 + 1) env).locals = I + 1 + 1 from rfl, bC] at e; cases e)).trans (F6.keep a o e), F6.above⟩
      have N7 : News (hid b) (I + 1 + 1) h7 (((I, oI6) :: (I + 1, W.listOf acc.toArray ea) :: (env.locals, oL) :: (D3, W.listOf vps.toArray e3) :: rest) ++ tail5) := fun q hq => ⟨(sb7.2 _ (N6 q hq).2.1).trans (N6 q hq).1, (N6 q hq).2⟩
      clear F6 N6 ns7
      refine helt (I + 1 + 1) _ _ tz z _ F7 (if_pos rfl) (fun t' => ?_)
      refine ifs_spec (G.after (TL5.after F7 N7 hbC)) (by lia) ok.len (.inl ok.occ) ok.len2 ok.val ?_
      intro u h9 tk9 dr9 A9
      have hr9 : ∀ q ∈ (I, oI6) :: (I + 1, W.listOf acc.toArray ea) :: (env.locals, oL) :: (D3, W.listOf vps.toArray e3) :: rest, @LT.lt Nat _ 59 q.1 := fun q hq => by
        rcases List.mem_cons.mp hq with rfl | hq
        · exact Nat.lt_trans h59 hLI
        rcases List.mem_cons.mp hq with rfl | hq
        · exact Nat.lt_succ_of_lt (Nat.lt_trans h59 hLI)
        rcases List.mem_cons.mp hq with rfl | hq
        · exact h59
        · exact hgt q hq
      obtain ⟨tail9, F9, N9, TL9, nt9⟩ := after_tail F7 N7 TL5 hr9 hC59 A9
      have hnc9 : ∀ q ∈ (I, oI6) :: (I + 1, W.listOf acc.toArray ea) :: (env.locals, oL) :: (D3, W.listOf vps.toArray e3) :: rest, NoCode q.2 := fun q hq => by
        rcases List.mem_cons.mp hq with rfl | hq
        · intro vs q t e e2
          have e3 : Data.fields #[.ref D3, .int ((i + 1 : Nat) : Int) 0] = .fields vs := di6.symm.trans e
          cases e3
          simp at e2
        rcases List.mem_cons.mp hq with rfl | hq
        · exact NoCode.seq
        rcases List.mem_cons.mp hq with rfl | hq
        · exact hncL
        rcases List.mem_cons.mp hq with rfl | hq
        · exact NoCode.seq
        · exact hnc q hq
      have dis9 : Dis ((I, oI6) :: (I + 1, W.listOf acc.toArray ea) :: (env.locals, oL) :: (D3, W.listOf vps.toArray e3) :: rest) tail9 := fun q hq => nt9 q hq (hnc9 q hq)
      clear F7 N7
      dsimp only
      refine append_K F9 N9 (.tail (Nat.ne_of_lt (Nat.lt_succ_self I)) (.head fun q hq => ?_)) ?_ ?_
      · rcases List.mem_append.mp hq with hq | hq
        · exact hapart2 q hq
        · exact dis9 _ (.tail _ (.head _)) q hq
      rotate_left
      · have := I5.length
        rw [sizeLine_eq]
        simp [castL] at this ⊢
        lia
      intro h10 F10 N10
      refine ⟨k - 1, by lia, h10, _, _, oI6, i + 1, ea + 1, acc ++ [.int (ns[i] : Int) u], tail9, some (.str z tz), rfl, frCongr F10 (fun y => ?_), ?_, ci6, di6, TL9, ?_, by lia, ?_⟩
      · by_cases hyx : y = x
        · simp only [if_pos hyx]
        · simp only [if_neg hyx]
      · have e9 : acc.toArray.push (Value.int (ns[i] : Int) u) = (acc ++ [Value.int (ns[i] : Int) u]).toArray := by simp
        rw [← e9]
        exact N10
      · intro q hq
        rcases List.mem_cons.mp hq with rfl | hq
        · exact dis9 _ (.head _)
        rcases List.mem_cons.mp hq with rfl | hq
        · exact fun t ht => dis9 (I + 1, W.listOf acc.toArray ea) (.tail _ (.head _)) t ht
        · exact dis9 q (.tail _ (.tail _ hq))
      · rw [List.take_add_one, hni]
        show IntsAre _ (castL (ns.take i ++ [ns[i]]))
        rw [castL, List.map_append]
        exact ints_snoc I5
end
end Mine
end
section
open PySem PySem.W PySem.Calls PyProof.Rows
set_option maxRecDepth 100000
set_option maxHeartbeats 8000000
namespace Mine
open NumText StrLaws Builtin.Str
/-! texts of figures, stripped and freed of their lines -/
abbrev uline : Str := Str.ofString "_"
theorem uline_eq : uline = txt [95] := by decide +kernel
theorem empS_eq : Str.ofString "" = txt [] := rfl
/-- where the lines of L stand, L beginning at i -/
def posF : Nat → List Nat → List Nat
  | _, [] => []
  | i, c :: r => if c = 95 then i :: posF (i + 1) r else posF (i + 1) r
theorem posF_cons (i c : Nat) (r : List Nat) : posF i (c :: r) = if c = 95 then i :: posF (i + 1) r else posF (i + 1) r := rfl
theorem subAt_line {L : List Nat} {i : Nat} (h : i < L.length) : subAt (txt L) uline i = decide (L[i] = 95) := by
  rw [uline_eq]
  unfold subAt
  have e1 : (txt [95]).length = 1 := rfl
  rw [e1]
  have e : (txt L).cps.extract i (i + 1) = #[L[i]] := by
    apply Array.ext'
    rw [Array.toList_extract]
    show List.extract L i (i + 1) = [L[i]]
    rw [List.extract_eq_take_drop]
    rw [show i + 1 - i = 1 by lia, List.take_one, List.head?_drop, List.getElem?_eq_getElem h]
    rfl
  rw [e]
  show (#[L[i]] == #[95]) = _
  by_cases h2 : L[i] = 95
  · rw [h2]; rfl
  · rw [decide_eq_false h2]
    simp [h2]
theorem occ_run (L : List Nat) : ∀ (k i : Nat) (found : Array Nat) (free : Nat), L.length - i = k → i ≤ L.length → free ≤ i → found.size ≤ i →
    (forIn (List.range' i (L.length + 1 - i)) (found, free) (occBody (txt L) uline L.length (L.length + 1))).run.fst.toList = found.toList ++ posF i (L.drop i) := by
  intro k
  induction k with
  | zero =>
    intro i found free hk hi hf hs
    have hin : i = L.length := by lia
    subst hin
    rw [show L.length + 1 - L.length = 1 by lia, List.drop_length]
    rw [show List.range' L.length 1 = [L.length] from rfl, List.forIn_cons]
    unfold occBody
    have e1 : uline.length = 1 := rfl
    rw [if_neg (by rw [e1]; lia)]
    simp [posF]
  | succ k ih =>
    intro i found free hk hi hf hs
    have hlt : i < L.length := by lia
    rw [show L.length + 1 - i = (L.length + 1 - (i + 1)) + 1 by lia, List.range'_succ, List.forIn_cons]
    have e1 : uline.length = 1 := rfl
    rw [List.drop_eq_getElem_cons hlt]
    by_cases h95 : L[i] = 95
    · have hsub : subAt (txt L) uline i = true := by rw [subAt_line hlt, h95]; rfl
      have hb : occBody (txt L) uline L.length (L.length + 1) i (found, free) = pure (ForInStep.yield (found.push i, i + 1)) := by
        unfold occBody
        rw [if_pos ⟨⟨⟨by show found.size < _; lia, hf⟩, by rw [e1]; lia⟩, hsub⟩, e1]
      rw [hb, pure_bind]
      dsimp only
      rw [ih (i + 1) _ _ (by lia) (by lia) (Nat.le_refl _) (by rw [Array.size_push]; lia)]
      rw [posF_cons, if_pos h95, Array.toList_push, List.append_assoc]
      rfl
    · have hsub : ¬ subAt (txt L) uline i = true := by rw [subAt_line hlt, decide_eq_false h95]; decide
      have hb : occBody (txt L) uline L.length (L.length + 1) i (found, free) = pure (ForInStep.yield (found, free)) := by
        unfold occBody
        rw [if_neg (fun q => hsub q.2)]
      rw [hb, pure_bind]
      dsimp only
      rw [ih (i + 1) _ _ (by lia) (by lia) (by lia) (by lia)]
      rw [posF_cons, if_neg h95]
theorem occ_line (L : List Nat) : occurrences (txt L) uline 0 (txt L).length ((txt L).length + 1) = posF 0 L := by
  rw [occ_eq, txt_len]
  have := occ_run L L.length 0 #[] 0 (by lia) (by lia) (Nat.le_refl _) (by simp)
  simpa using this
theorem posF_none : ∀ (L : List Nat) (i : Nat), (∀ c ∈ L, c ≠ 95) → posF i L = []
  | [], _, _ => rfl
  | c :: r, i, h => by
    rw [posF_cons, if_neg (h c (List.mem_cons_self ..))]
    exact posF_none r (i + 1) fun d hd => h d (List.mem_cons_of_mem _ hd)
def cat : List Str → List Nat
  | [] => []
  | x :: r => x.cps.toList ++ cat r
theorem cat_append (a b : List Str) : cat (a ++ b) = cat a ++ cat b := by
  induction a with
  | nil => rfl
  | cons x r ih => simp [cat, ih]
theorem sub_list (L : List Nat) (a b : Nat) : (strSub (txt L) a b).cps.toList = (L.drop a).take (b - a) := by
  unfold strSub
  rw [Array.toList_extract]
  first | done | (show List.extract L a b = _; rw [List.extract_eq_take_drop])
theorem parts_cat (L : List Nat) : ∀ (k i a : Nat), L.length - i = k → i ≤ L.length → a ≤ i → cat (partsFrom (txt L) 1 a (posF i (L.drop i))) = (L.drop a).take (i - a) ++ (L.drop i).filter (· ≠ 95) := by
  intro k
  induction k with
  | zero =>
    intro i a hk hi ha
    have hin : i = L.length := by lia
    subst hin
    rw [List.drop_length]
    show cat [strSub (txt L) a (txt L).length] = _
    simp [cat, sub_list, txt_len]
  | succ k ih =>
    intro i a hk hi ha
    have hlt : i < L.length := by lia
    rw [List.drop_eq_getElem_cons hlt, posF_cons]
    by_cases h95 : L[i] = 95
    · rw [if_pos h95]
      show cat (strSub (txt L) a i :: partsFrom (txt L) 1 (i + 1) (posF (i + 1) (L.drop (i + 1)))) = _
      show (strSub (txt L) a i).cps.toList ++ cat _ = _
      rw [ih (i + 1) (i + 1) (by lia) (by lia) (Nat.le_refl _), sub_list, Nat.sub_self, List.take_zero, List.nil_append, List.filter_cons, if_neg (by simp [h95])]
    · rw [if_neg h95, ih (i + 1) a (by lia) (by lia) (by lia), List.filter_cons, if_pos (by simp [h95])]
      rw [show i + 1 - a = (i - a) + 1 by lia, List.take_add_one, List.getElem?_drop, show a + (i - a) = i by lia, List.getElem?_eq_getElem hlt]
      simp
theorem glued_cat : ∀ (ps : List Str), glued (txt []) ps = txt (cat ps) := by
  have key : ∀ (ps : List Str) (acc : Array Nat), ps.foldl (fun acc p => acc ++ (txt []).cps ++ p.cps) acc = (acc.toList ++ cat ps).toArray := by
    intro ps
    induction ps with
    | nil => intro acc; simp [cat]
    | cons x r ih =>
      intro acc
      rw [List.foldl_cons, ih]
      simp [cat]
  intro ps
  unfold glued
  cases ps with
  | nil => rfl
  | cons x r =>
    rw [List.drop_one, List.tail_cons, List.headD_cons, key]
    simp [cat]
theorem replace_line (L : List Nat) : Txt.replace (txt L) uline (Str.ofString "") = txt (L.filter (· ≠ 95)) := by
  unfold Txt.replace
  rw [occ_line, empS_eq]
  have e1 : uline.length = 1 := rfl
  rw [e1]
  have hp := parts_cat L L.length 0 0 (by lia) (by lia) (Nat.le_refl _)
  rw [List.drop_zero, Nat.sub_self, List.take_zero, List.nil_append] at hp
  by_cases h : posF 0 L = []
  · rw [if_pos (by simp [h])]
    rw [h] at hp
    have : cat [strSub (txt L) 0 (txt L).length] = L.filter (· ≠ 95) := hp
    simp only [cat, List.append_nil, sub_list, txt_len, List.drop_zero, Nat.sub_zero, List.take_length] at this
    rw [← this]
  · rw [if_neg (by simp [h]), partsBetween_eq, glued_cat, hp]
theorem digit_plain : ∀ c : Nat, c < 58 → 48 ≤ c → Unicode.isSpace c = false ∧ c ≠ 95 := by decide +kernel
theorem space_32 : Unicode.isSpace 32 = true := by decide +kernel
theorem getD_txt (L : List Nat) (k : Nat) : (txt L).cps.getD k 0 = L.getD k 0 := by
  show L.toArray.getD k 0 = _
  rw [Array.getD_eq_getD_getElem?, List.getElem?_toArray, List.getD_eq_getElem?_getD]
theorem getD_appL (A B : List Nat) (k : Nat) (h : k < A.length) : (A ++ B).getD k 0 = A.getD k 0 := by
  rw [List.getD_eq_getElem?_getD, List.getElem?_append_left h, List.getD_eq_getElem?_getD]
theorem getD_appR (A B : List Nat) (k : Nat) (h : A.length ≤ k) : (A ++ B).getD k 0 = B.getD (k - A.length) 0 := by
  rw [List.getD_eq_getElem?_getD, List.getElem?_append_right h, List.getD_eq_getElem?_getD]
theorem rstrip_of {L T : List Nat} (hT : ∀ c ∈ T, Unicode.isSpace c = true) (hne : L ≠ []) (hlast : Unicode.isSpace (L.getD (L.length - 1) 0) = false) : Txt.rstrip (txt (L ++ T)) = txt L := by
  obtain ⟨_, h0, h1, h2⟩ := hi_facts Unicode.isSpace (txt (L ++ T)) 0 (Nat.zero_le _)
  have hl : 0 < L.length := List.length_pos_iff.mpr hne
  have e : Txt.rstrip (txt (L ++ T)) = strSub (txt (L ++ T)) 0 (stripHi Unicode.isSpace true (txt (L ++ T)) 0) := by unfold Txt.rstrip; rw [PyProof.Rows.stripBy_eq]; rfl
  rw [e]
  rw [txt_len] at h0 h1
  generalize stripHi Unicode.isSpace true (txt (L ++ T)) 0 = hi at *
  have hhi : hi = L.length := by
    rcases Nat.lt_trichotomy hi L.length with h | h | h
    · exfalso
      have := h1 (L.length - 1) (by lia) (by rw [List.length_append]; lia)
      rw [getD_txt, getD_appL _ _ _ (by lia), hlast] at this
      cases this
    · exact h
    · exfalso
      rcases h2 with h2 | h2
      · lia
      · rw [getD_txt, getD_appR _ _ _ (by lia)] at h2
        rw [List.length_append] at h0
        have hm : hi - 1 - L.length < T.length := by lia
        rw [List.getD_eq_getElem?_getD, List.getElem?_eq_getElem hm] at h2
        have := hT _ (List.getElem_mem hm)
        simp only [Option.getD_some] at h2
        rw [h2] at this; cases this
  rw [hhi]
  have := sub_list (L ++ T) 0 L.length
  rw [List.drop_zero, Nat.sub_zero, List.take_left] at this
  obtain ⟨M, hM⟩ := txt_of (strSub (txt (L ++ T)) 0 L.length)
  rw [hM] at this ⊢
  have h9 : M = L := by simpa using this
  rw [h9]
theorem digits_last {D : List Nat} (h : AllDigits D) (hne : D ≠ []) : Unicode.isSpace (D.getD (D.length - 1) 0) = false := by
  have hl : 0 < D.length := List.length_pos_iff.mpr hne
  rw [List.getD_eq_getElem?_getD, List.getElem?_eq_getElem (by lia)]
  have := h _ (List.getElem_mem (h := show D.length - 1 < D.length by lia))
  exact (digit_plain _ (by lia) this.1).1
theorem digits_noline {D : List Nat} (h : AllDigits D) : ∀ c ∈ D, c ≠ 95 := fun c hc => by have := h c hc; lia
theorem filter_noline {D : List Nat} (h : AllDigits D) : D.filter (· ≠ 95) = D := List.filter_eq_self.mpr fun c hc => by simpa using digits_noline h c hc
theorem txt_list (D : List Nat) : (txt D).cps.toList = D := rfl
theorem intText_txt {D : List Nat} (h : AllDigits D) (hne : D ≠ []) (hl : D.length ≤ 4300) : PySem.intText? (txt D) = some ((digitsVal D : Nat) : Int) :=
  intText_digits (x := txt D) h hne (by rw [txt_len]; exact hl)
theorem piece_ok {D : List Nat} (h : AllDigits D) (hne : D ≠ []) (hl : D.length ≤ 100) : PieceOk (txt D) (digitsVal D) := by
  have e : Txt.rstrip (txt D) = txt D := by
    have := rstrip_of (L := D) (T := []) (fun _ h => nomatch h) hne (digits_last h hne)
    rwa [List.append_nil] at this
  have e2 : Txt.replace (txt D) uline (Str.ofString "") = txt D := by rw [replace_line, filter_noline h]
  refine ⟨by rw [txt_len]; lia, ?_, ?_, ?_⟩
  · rw [e]
    have := occ_line D
    rw [posF_none D 0 (digits_noline h)] at this
    show (occurrences (txt D) uline 0 (txt D).length ((txt D).length + 1)).isEmpty = true
    rw [this]; rfl
  · rw [e]
    show (Txt.replace (txt D) uline (Str.ofString "")).length ≤ 600
    rw [e2, txt_len]; lia
  · rw [e]
    show PySem.intText? (Txt.replace (txt D) uline (Str.ofString "")) = _
    rw [e2]
    exact intText_txt h hne (by lia)
def joinL : List (List Nat) → List Nat
  | [] => []
  | D :: r => D ++ r.flatMap (95 :: ·)
theorem join_txt (Ds : List (List Nat)) : Txt.join uline (Ds.map txt) = txt (joinL Ds) := by
  have key : ∀ (r : List (List Nat)) (acc : Array Nat), (r.map txt).foldl (fun acc p => acc ++ uline.cps ++ p.cps) acc = (acc.toList ++ r.flatMap (95 :: ·)).toArray := by
    intro r
    induction r with
    | nil => intro acc; simp
    | cons x r ih =>
      intro acc
      rw [List.map_cons, List.foldl_cons, ih, uline_eq]
      simp
  unfold Txt.join glued
  cases Ds with
  | nil => rfl
  | cons D r =>
    rw [List.map_cons, List.drop_one, List.tail_cons, List.headD_cons, key]
    simp [joinL]
theorem flat_filter : ∀ (r : List (List Nat)), (∀ D ∈ r, AllDigits D) → (r.flatMap (95 :: ·)).filter (· ≠ 95) = r.flatten
  | [], _ => rfl
  | D :: r, h => by
    rw [List.flatMap_cons, List.filter_append, flat_filter r fun E hE => h E (List.mem_cons_of_mem _ hE), List.filter_cons, if_neg (by simp), filter_noline (h D (List.mem_cons_self ..)), List.flatten_cons]
theorem joinL_filter (Ds : List (List Nat)) (h : ∀ D ∈ Ds, AllDigits D) : (joinL Ds).filter (· ≠ 95) = Ds.flatten := by
  cases Ds with
  | nil => rfl
  | cons D r =>
    unfold joinL
    rw [List.filter_append, filter_noline (h D (List.mem_cons_self ..)), flat_filter r fun E hE => h E (List.mem_cons_of_mem _ hE), List.flatten_cons]
theorem joinL_snoc (Ds : List (List Nat)) (D : List Nat) : ∃ P, joinL (Ds ++ [D]) = P ++ D := by
  cases Ds with
  | nil => exact ⟨[], by simp [joinL]⟩
  | cons E r => exact ⟨E ++ (r.flatMap (95 :: ·) ++ [95]), by simp [joinL]⟩
theorem joinL_len : ∀ (Ds : List (List Nat)) (m : Nat), (∀ D ∈ Ds, D.length ≤ m) → (joinL Ds).length ≤ Ds.length * (m + 1) := by
  have key : ∀ (r : List (List Nat)) (m : Nat), (∀ D ∈ r, D.length ≤ m) → (r.flatMap (95 :: ·)).length ≤ r.length * (m + 1) := by
    intro r m
    induction r with
    | nil => intro _; simp
    | cons D r ih =>
      intro h
      have h1 := ih fun E hE => h E (List.mem_cons_of_mem _ hE)
      have h2 := h D (List.mem_cons_self ..)
      rw [List.flatMap_cons, List.length_append, List.length_cons, List.length_cons, Nat.add_mul, Nat.one_mul]
      lia
  intro Ds m h
  cases Ds with
  | nil => simp [joinL]
  | cons D r =>
    have h1 := key r m fun E hE => h E (List.mem_cons_of_mem _ hE)
    have h2 := h D (List.mem_cons_self ..)
    unfold joinL
    rw [List.length_append, List.length_cons, Nat.add_mul, Nat.one_mul]
    lia
/-- the text of all pieces, the highest first, a line between any two and a blank behind -/
theorem join_ok {Ds : List (List Nat)} {L vals : List Nat} (h : Pcs Ds L vals) (hne : Ds ≠ []) (hL : L ≠ []) (hLd : AllDigits L) (hl : L.length ≤ 22) (hn : Ds.length ≤ 22) :
    (Txt.join uline (Ds.map txt).reverse ++ Str.ofString " ").length ≤ 600 ∧
    (Txt.replace (Txt.rstrip (Txt.join uline (Ds.map txt).reverse ++ Str.ofString " ")) uline (Str.ofString "")).length ≤ 600 ∧
    PySem.intText? (Txt.replace (Txt.rstrip (Txt.join uline (Ds.map txt).reverse ++ Str.ofString " ")) uline (Str.ofString "")) = some ((digitsVal L : Nat) : Int) ∧ (Txt.join uline (Ds.map txt).reverse).length ≠ 0 ∧ (Txt.join uline (Ds.map txt).reverse).length ≤ 600 := by
  have hall : ∀ D ∈ Ds.reverse, AllDigits D := fun D hD => (h.all D (List.mem_reverse.mp hD)).1
  have e0 : Txt.join uline (Ds.map txt).reverse ++ Str.ofString " " = txt (joinL Ds.reverse ++ [32]) := by
    rw [← List.map_reverse, join_txt]
    have : Str.ofString " " = txt [32] := by decide +kernel
    rw [this]
    show Str.mk _ = Str.mk _
    simp
  have hlen : (joinL Ds.reverse).length ≤ 22 * 23 := by
    refine Nat.le_trans (joinL_len _ 22 fun D hD => Nat.le_trans (h.all D (List.mem_reverse.mp hD)).2.2 hl) ?_
    rw [List.length_reverse]
    exact Nat.mul_le_mul_right 23 hn
  obtain ⟨D, r, rfl⟩ := List.exists_cons_of_ne_nil hne
  have hD := h.all D (List.mem_cons_self ..)
  have hlast : Unicode.isSpace ((joinL (D :: r).reverse).getD ((joinL (D :: r).reverse).length - 1) 0) = false := by
    rw [List.reverse_cons]
    obtain ⟨P, hP⟩ := joinL_snoc r.reverse D
    have hd : 0 < D.length := List.length_pos_iff.mpr hD.2.1
    rw [hP, List.length_append, getD_appR _ _ _ (by lia), show P.length + D.length - 1 - P.length = D.length - 1 by lia]
    exact digits_last hD.1 hD.2.1
  have hne2 : joinL (D :: r).reverse ≠ [] := by
    rw [List.reverse_cons]
    obtain ⟨P, hP⟩ := joinL_snoc r.reverse D
    rw [hP]
    simp [hD.2.1]
  rw [e0, rstrip_of (T := [32]) (fun c hc => by rw [List.mem_singleton.mp hc]; exact space_32) hne2 hlast, replace_line, joinL_filter _ hall, h.whole]
  refine ⟨by rw [txt_len, List.length_append, List.length_singleton]; lia, by rw [txt_len]; lia, intText_txt hLd hL (by lia), ?_, ?_⟩
  · rw [← List.map_reverse, join_txt, txt_len]
    exact fun q => hne2 (List.length_eq_zero_iff.mp q)
  · rw [← List.map_reverse, join_txt, txt_len]; lia
theorem flat_len : ∀ (Ds : List (List Nat)), (∀ D ∈ Ds, D ≠ []) → Ds.length ≤ Ds.flatten.length
  | [], _ => Nat.le_refl _
  | D :: r, h => by
    have h1 := flat_len r fun E hE => h E (List.mem_cons_of_mem _ hE)
    have h2 : 0 < D.length := List.length_pos_iff.mpr (h D (List.mem_cons_self ..))
    rw [List.flatten_cons, List.length_append, List.length_cons]; lia
theorem pcs_len {Ds : List (List Nat)} {L vals : List Nat} (h : Pcs Ds L vals) : Ds.length ≤ L.length := by
  have := flat_len Ds.reverse fun D hD => (h.all D (List.mem_reverse.mp hD)).2.1
  rwa [List.length_reverse, h.whole] at this
theorem pcs_ok {Ds : List (List Nat)} {L vals : List Nat} (h : Pcs Ds L vals) (hl : L.length ≤ 100) : ∀ (i : Nat) (z : Str) (n : Nat), (Ds.map txt)[i]? = some z → vals[i]? = some n → PieceOk z n := by
  intro i z n hz hn
  rw [← h.vals, List.getElem?_map] at hn
  rw [List.getElem?_map] at hz
  cases hD : Ds[i]? with
  | none => rw [hD] at hz; cases hz
  | some D =>
    rw [hD] at hz hn
    cases hz; cases hn
    have hm := h.all D (List.mem_of_getElem? hD)
    exact piece_ok hm.1 hm.2.1 (Nat.le_trans hm.2.2 hl)
theorem sum_flat (Ds : List (List Nat)) : ((Ds.map txt).map (·.length)).sum = Ds.flatten.length := by
  induction Ds with
  | nil => rfl
  | cons D r ih => rw [List.map_cons, List.map_cons, List.sum_cons, ih, List.flatten_cons, List.length_append, txt_len]
theorem pcs_sum {Ds : List (List Nat)} {L vals : List Nat} (h : Pcs Ds L vals) (hl : L.length ≤ 21) : ((Ds.map txt).map (·.length)).sum + (Ds.map txt).length ≤ 1000 := by
  have h1 := pcs_len h
  have h2 : Ds.flatten.length = L.length := by
    rw [← sum_flat, ← h.whole, ← sum_flat, List.map_reverse, List.map_reverse, List.sum_reverse]
  rw [sum_flat, List.length_map, h2]; lia
theorem dis_of {base h : Heap} {L : Addr} {rest tail : List (Addr × Obj)} (TL : TailIs base tail) (N : News base L h (rest ++ tail)) (hgt : ∀ q ∈ rest, @LT.lt Nat _ 59 q.1) (hnc : ∀ q ∈ rest, NoCode q.2) : Dis rest tail := by
  intro q hq p hp e
  rcases TL.only p hp with h1 | ⟨vs, qn, t, h1, h2⟩
  · exact not_tab (hgt q hq) (e ▸ h1)
  · have g1 := (N q (List.mem_append_left _ hq)).1
    have g2 := (N p (List.mem_append_right _ hp)).1
    rw [e, g1] at g2
    exact hnc q hq vs qn t (by rw [Option.some.inj g2]; exact h1) h2
end Mine
end
section
open PySem PySem.W PySem.Calls PyProof.Rows
set_option maxRecDepth 100000
set_option maxHeartbeats 8000000
namespace Mine
theorem nolen_lri : typeLookup (.type "list_reverseiterator") "__len__" = pure none := by rw [typeLookup_type, builtinLookup_eq_fast]; kernel_rfl
theorem hint_lri : typeLookup (.type "list_reverseiterator") "__length_hint__" = pure (some (.builtin "list_reverseiterator.__length_hint__")) := by rw [typeLookup_type, builtinLookup_eq_fast]; kernel_rfl
section
variable {prog : Program} {w : World} {A : Around} {E : Value → Shared → Prop} {s : Shared}
theorem collect_rev {Q : List Value → Shared → Prop} {I l : Addr} {items : Array Value} (hh : A.handled = none) (hne : l ≠ I) (hit : s.heap.IsRevIter I l ((items.size : Int) - 1)) (hl : s.heap.IsList l items) (h0 : 0 < items.size) (hn : items.size ≤ 1000)
    (hQ : ∀ h' tk, (∀ b o, b ≠ I → s.heap.get? b = some o → h'.get? b = some o) → Q items.toList.reverse { s with heap := h', toks := tk }) : wpAny (model prog w) A (collect (.ref I)) Q E s := by
  have W := (Walks.listRev (prog := prog) (w := w) (A := A.in1) hh I l hne items).toS
  have hst : items.size ≤ 1000 := hn
  have hlt : ∀ b ∈ [I, l], b < s.heap.objs.size := fun b hb => by
    obtain ⟨o, ho, _⟩ := hit
    obtain ⟨o2, ho2, _⟩ := hl
    rcases List.mem_cons.mp hb with rfl | hb
    · exact Heap.lt_size ho
    · rw [List.mem_singleton.mp hb]; exact Heap.lt_size ho2
  have hSf : s.heap.objs.size ∉ [I, l] := fun hm => Nat.lt_irrefl _ (hlt _ hm)
  have hSI : s.heap.objs.size ≠ I := fun e => hSf (e ▸ List.mem_cons_self)
  unfold collect
  refine wpAny_bind (wpAny_runValue (codeAny_builtin F.entry_proto_collect ?_))
  rw [Around.under_plainId F.plain_proto_collect _]
  show wpAny _ A.in1 (newList [] >>= fun l => again (.builtin "list.__iadd__" ⟨[l, .ref I], []⟩)) _ _ s
  refine wpAny_bind (wpAny_newObj_type ?_)
  refine wpAny_pure ⟨plainId_quiet F.plain_list_iadd _, codeAny_builtin F.entry_list_iadd ?_⟩
  rw [Around.under_plainId F.plain_list_iadd _]
  have hit₁ : (s.heap.push { cls := .type "list", data := .seq ([] : List Value).toArray }).IsRevIter I l ((items.size : Int) - 1) := hit.at fun o e => Heap.get?_push_of_some _ e
  have hl₁ : (s.heap.push { cls := .type "list", data := .seq ([] : List Value).toArray }).IsList l items := hl.push _
  have hS₁ : (s.heap.push { cls := .type "list", data := .seq ([] : List Value).toArray }).get? s.heap.objs.size = some { cls := .type "list", data := .seq ([] : List Value).toArray } := Heap.get?_push_size _ rfl
  have h1 : Builtin.List.listSameRef (.ref s.heap.objs.size) (.ref I) = false := by simp [Builtin.List.listSameRef, hSI]
  show wpAny _ A.in1 (Builtin.List.listExtendWith (.ref s.heap.objs.size) (.ref I) (.ref s.heap.objs.size)) _ _ _
  unfold Builtin.List.listExtendWith
  refine wpAny_bind (wpAny_typeOf (T := "list_reverseiterator") hit₁.typeIs ?_)
  rw [if_neg (by rw [h1]; decide)]
  refine wpAny_bind (wpAny_pyIter_revIter hit₁ ?_)
  refine wpAny_bind (wpAny_holding ?_)
  unfold Builtin.List.listLengthHint
  refine wpAny_bind (wpAny_specialOf (T := "list_reverseiterator") hit₁.typeIs nolen_lri ?_)
  show wpAny _ A.in1 (specialOf (Value.ref I) (Str.ofString "__length_hint__") >>= _) _ _ _
  refine wpAny_bind (wpAny_specialOf (T := "list_reverseiterator") hit₁.typeIs hint_lri ?_)
  (generalize hid : ("list_reverseiterator.__length_hint__" : String) = id0; (fail_if_success (clear hid id0)); wp_delta; rw [show splitId id0 = some ("list_reverseiterator", "__length_hint__") from by subst hid; decide +kernel]; subst hid)
  refine wpAny_bind (wpAny_isInstance (T := "list_reverseiterator") (b := true) hit₁.typeIs (by rw [isSubtype_type]; kernel_rfl) ?_)
  refine wpAny_pure ?_
  rw [if_neg (by decide)]
  refine wpAny_pure ⟨plainId_quiet F.plain_extend_loop _, codeAny_extend_loopS W (by rw [sizeLine_eq]; lia) _ hSf _ items.size 0 _ _ _ rfl (Nat.zero_le _) ⟨Nat.zero_le _, by simpa using hit₁, hl₁⟩ hS₁ (ItemsOf.nil _) fun s' acc' c' hm hS' hacc => ?_⟩
  show wpAny _ A (load s.heap.objs.size >>= _) _ _ s'
  refine wpAny_bind (wpAny_load hS' ?_)
  have hlist : acc'.toList = items.toList.reverse := by
    obtain ⟨hz, hp⟩ := hacc
    apply List.ext_getElem?
    intro j
    rcases Nat.lt_or_ge j items.size with hj | hj
    · have e1 : acc'[j]? = some (acc'[j]'(by lia)) := Array.getElem?_eq_getElem _
      have e2 := hp j _ e1
      rw [Array.getElem?_toList, e1, List.getElem?_reverse (by simpa using hj), Array.getElem?_toList, Array.length_toList, ← e2]
    · rw [List.getElem?_eq_none (by simp; lia), List.getElem?_eq_none (by simp; lia)]
  have hm2 := Moved.drop_new (o := { cls := .type "list", data := .seq ([] : List Value).toArray }) (tk := s.toks) hm (Nat.le_refl _)
  refine wpAny_pure ?_
  show Q acc'.toList s'
  rw [hlist]
  have hs' : s' = { s with heap := s'.heap, toks := s'.toks } := by
    have a := hm2.gens
    have b := hm2.drawn
    have c := hm2.os
    cases s'; cases s; simp only at a b c ⊢; subst a b c; rfl
  rw [hs']
  exact hQ _ _ fun b o hb e => hm2.heap b o (fun h => hb (List.mem_singleton.mp h)) e
theorem strs_vals : ∀ {vs : List Value} {xs : List Str}, StrsAre vs xs → ∃ l : List (Str × Tok), strValues l = vs ∧ l.map (·.1) = xs
  | _, _, .nil => ⟨[], rfl, rfl⟩
  | _, _, .cons x t h => by
    obtain ⟨l, e1, e2⟩ := strs_vals h
    exact ⟨(x, t) :: l, by rw [← e1]; rfl, by rw [← e2]; rfl⟩
theorem strs_rev {vs : List Value} {xs : List Str} (h : StrsAre vs xs) : StrsAre vs.reverse xs.reverse := by
  induction h with
  | nil => exact .nil
  | cons x t h ih => rw [List.reverse_cons, List.reverse_cons]; exact strs_snoc ih
theorem join_rev {I l : Addr} {sep : Str} {t : Tok} {ws : List Value} {xs : List Str} {Q : Value → Shared → Prop} (hh : A.handled = none) (hne : l ≠ I) (hit : s.heap.IsRevIter I l ((ws.length : Int) - 1)) (hl : s.heap.IsList l ws.toArray) (hx : StrsAre ws xs) (h0 : 0 < xs.length)
    (hn : (xs.map (·.length)).sum + xs.length ≤ 1000) (hsep : sep.length ≤ 16)
    (h : ∀ h' tk t', (∀ b o, b ≠ I → s.heap.get? b = some o → h'.get? b = some o) → Q (.str (Txt.join sep xs.reverse) t') { s with heap := h', toks := tk }) :
    wpAny (model prog w) A (call (.builtin "str.join") [.str sep t, .ref I]) Q E s := by
  have hwl := hx.length
  refine wpAny_call (codeAny_call_builtin F.slot_str_join.plain F.entry_str_join (F.slot_str_join.check _ _ _ _ _ _ _ _ (typeIs_str _ _ _) (F.args_str_join_2 _ _) ?_))
  rw [join_tree_other]
  refine wpAny_bind (wpAny_typeOf (T := "list_reverseiterator") hit.typeIs ?_)
  show wpAny _ A.in1 ((pyIter (.ref I)).tryCatch _ >>= fun it => collect it >>= fun items => joinTail sep items) _ _ s
  refine wpAny_bind (wpAny_tryCatch (wpAny_pyIter_revIter hit ?_))
  refine wpAny_bind (collect_rev (items := ws.toArray) hh hne (by simpa using hit) hl (by simp; lia) (by simp; lia) fun h' tk k => ?_)
  obtain ⟨L, e1, e2⟩ := strs_vals (strs_rev hx)
  rw [show ws.toArray.toList.reverse = ws.reverse from rfl, ← e1]
  have hok : JoinOk sep (L.map (·.1)) = true := by
    rw [e2]
    refine joinOk_of_weight ?_ hsep
    rw [List.map_reverse, List.sum_reverse, List.length_reverse]; lia
  have hok' := hok
  unfold JoinOk at hok'
  rw [Bool.not_eq_true'] at hok'
  have g : Gives (joinTail sep (strValues L)) (joinMade sep L) := by
    have g0 := gives_joinTail sep L hok'
    cases L with
    | nil => exact g0
    | cons p r => cases r with
      | nil => exact g0
      | cons q r' => exact g0
  exact g prog w A (wants Q E) _ (post_join L ⟨joinFit_length hok', fun t' k' => by rw [e2]; exact h h' k' t' k⟩)
end
theorem addJ {prog : Program} {w : World} {A : Around} {E : Value → Shared → Prop} {s : Shared} {Q : Value → Shared → Prop} {x y : Str} {t u : Tok} (hx : x.length ≠ 0) (hy : y.length ≠ 0) (hz : x.length + y.length ≤ 1000)
    (h : ∀ t' k, 0 < k → Q (.str (x ++ y) t') { s with toks := k }) : wpAny (model prog w) A (binaryOp .Add (.str x t) (.str y u)) Q E s := by
  refine PySem.P.add_str ?_
  rw [if_neg (by simpa using hx), if_neg (by simpa using hy)]
  refine ⟨?_, h _ _ (Nat.succ_pos _)⟩
  have e : (x ++ y).length = x.length + y.length := by cases x; cases y; show (_ ++ _ : Array Nat).size = _; rw [Array.size_append]; rfl
  rw [e, sizeLine_eq]; lia
end Mine
end
section
open PySem PySem.W PySem.Calls PyProof.Rows
set_option maxRecDepth 100000
set_option maxHeartbeats 8000000
namespace Mine
/-- the mixes told so far -/
def MixAre (xs ys : Nat → Int) (acc : List Value) (tl : List (Addr × Obj)) (n : Nat) : Prop :=
  acc.length = n ∧ ∀ j, j < n → ∃ t u u', acc[j]? = some (.ref t) ∧ (t, tupO #[.int (xs j) u, .int (ys j) u']) ∈ tl
inductive McInv (b : Heap) (C I D : Addr) (x : Str) (restA : List (Addr × Obj)) (xs ys : Nat → Int) (S : Shared) (k : Nat) (s' : Shared) : Prop
  | mk (h' : Heap) (tk' : Nat) (i ea : Nat) (acc : List Value) (tl : List (Addr × Obj)) (up : Option Value)
    (h1 : s' = { S with heap := h', toks := tk' })
    (h2 : Fr (hid b) C h' (fun y => if y = x then up else none))
    (h3 : News (hid b) C h' ((I, rngIt (i : Int) (k : Int)) :: (D, W.listOf acc.toArray ea) :: (tl ++ restA)))
    (h4 : i + k = 4)
    (h5 : MixAre xs ys acc tl i)
    (h6 : (∀ q ∈ tl, @LT.lt Nat _ C q.1)) : McInv b C I D x restA xs ys S k s'
section
variable {w : World} {A : Around} {s₂ : Shared} {env : Env} {p : Program} {loose : List Str} {mean : ExcName → Option Value} {mg mb : Str → Option Value} {b : Heap} {L I l cC : Addr} {m : Str → Option Value}
theorem mixLoop {elt : PySem.Expr} {x y : Str} {px py : Pos} {scope : Scope} {cl : List (Str × Addr)} {Q : Flow → Shared → Prop} {ls : List Nat} {vs : List Value} {e : Nat} {oC : Obj} {rest : List (Addr × Obj)} {xs ys : Nat → Int} {h₄ : Heap} {tk : Nat}
    (X : (Mine.KK w.params).In (hid b)) (T : Top p loose mean mg mb (hid b)) (hd : A.depth + 30 < recursionLimit) (hA : A.handled = none)
    (F : Fr (hid b) L s₂.heap m) (N : News (hid b) L s₂.heap ((I, rngIt 0 4) :: rest)) (hneI : ∀ q ∈ rest, q.1 ≠ I) (hLI : L ≠ I)
    (hl : (l, W.listOf vs.toArray e) ∈ rest) (hcC : (cC, oC) ∈ rest) (hI : IntsAre vs (castL ls)) (hlen : ls.length ≤ 20) (h1000 : ∀ d ∈ ls, d < 1000) (hmix : ∀ k, k ≤ 3 → Hide (MixOk (mixF k ls ls.length) (xs k) (ys k)))
    (old : s₂.heap.StaysIn h₄) (gD : h₄.get? s₂.heap.objs.size = some (W.listOf #[] 0)) (ns4 : h₄.Ns (s₂.heap.objs.size + 1) (fun _ => none))
    (helt : ∀ (C : Addr) (s₁ : Shared) (m₁ : Str → Option Value) (t : Tok) (k : Int) (Q' : Value → Shared → Prop), Fr (hid b) C s₁.heap m₁ → m₁ x = some (.int k t) → News (hid b) C s₁.heap [(cC, oC)] →
      (∀ t', wpAny (model PySem.Challenge.rw_rl0106_01.row.prog w) A (call (.ref 118) [.ref l, .int k t']) Q' (fun _ _ => False) s₁) → wpAny (model PySem.Challenge.rw_rl0106_01.row.prog w) A (eval elt (compEnvC scope cl C env)) Q' (fun _ _ => False) s₁)
    (hloc : env.locals = L) (hy : env.kindOf y = some .local) (hp : (env.scope.kind == .class || (env.scope.kind == .module && env.locals != env.globals)) = false)
    (hkind : scope.kind = .function) (hx : scope.names.lookup x = some .local)
    (h : ∀ h' tk' D acc ea tl, D = s₂.heap.objs.size → Fr (hid b) L h' (fun z => if z = y then some (.ref D) else m z) → News (hid b) L h' ((D, W.listOf acc.toArray ea) :: (tl ++ rest)) → MixAre xs ys acc tl 4 → (∀ q ∈ tl, @LT.lt Nat _ D q.1) → Q .next { s₂ with heap := h', toks := tk' }) :
    ∃ (Inv : Nat → Shared → Prop) (n : Nat), Inv n { s₂ with heap := h₄, toks := tk } ∧
      (∀ s' (Q' : Value → Shared → Prop), Inv n s' → Q' (.ref I) s' → wpAny (model PySem.Challenge.rw_rl0106_01.row.prog w) A (pyIter (.ref I)) Q' (fun _ _ => False) s') ∧
      ∀ k s', Inv k s' → wpAny (model PySem.Challenge.rw_rl0106_01.row.prog w) A (pyNext (.ref I)) (fun r s₁ => match r with
        | none => wpAny (model PySem.Challenge.rw_rl0106_01.row.prog w) A (assign (.Name y py) env (.ref s₂.heap.objs.size)) (fun _ s'' => ∃ m, s''.heap.Ns (s₂.heap.objs.size + 1) m ∧ ∀ h', Heap.SameBut (s₂.heap.objs.size + 1) s''.heap h' → Q .next { s'' with heap := h' }) (fun _ _ => False) s₁
        | some v => wpAny (model PySem.Challenge.rw_rl0106_01.row.prog w) A (assign (.Name x px) (compEnvC scope cl (s₂.heap.objs.size + 1) env) v) (fun _ s₂' => wpAny (model PySem.Challenge.rw_rl0106_01.row.prog w) A (eval elt (compEnvC scope cl (s₂.heap.objs.size + 1) env)) (fun xv s₃ =>
            wpAny (model PySem.Challenge.rw_rl0106_01.row.prog w) A (call (.builtin "list.append") [.ref s₂.heap.objs.size, xv]) (fun _ s₄ => ∃ m, m < k ∧ Inv m s₄) (fun _ _ => False) s₃) (fun _ _ => False) s₂') (fun _ _ => False) s₁) (fun _ _ => False) s' := by
  subst hloc
  obtain ⟨D, hD⟩ : ∃ D, D = s₂.heap.objs.size := ⟨_, rfl⟩
  rw [← hD] at gD ns4 ⊢
  rw [← hD] at h
  have bD : ∀ a, D ≤ a → (hid b).get? a = none := fun a ha => Heap.get?_none_of_le (Nat.le_trans F.above (Nat.le_trans (Nat.le_of_lt F.ns.lt) (by rw [← hD]; exact ha)))
  obtain ⟨oL, esL, epL, hoL, dL⟩ := id F.ns
  have hLD : @LT.lt Nat _ env.locals D := by rw [hD]; exact F.ns.lt
  have hltD : ∀ q ∈ (I, rngIt 0 4) :: rest, @LT.lt Nat _ q.1 D := fun q hq => by rw [hD]; exact Heap.lt_size (N q hq).1
  have hF4 : Fr (hid b) (D + 1) h₄ (fun _ => none) := ⟨ns4, fun a o e => old _ _ (F.keep a o e), Nat.le_trans F.above (Nat.le_succ_of_le (Nat.le_of_lt hLD))⟩
  have hN4 : News (hid b) (D + 1) h₄ ((I, rngIt 0 4) :: (D, W.listOf (#[] : Array Value) 0) :: ([] ++ ((env.locals, oL) :: rest))) := by
    intro q hq
    rcases List.mem_cons.mp hq with rfl | hq
    · have z := N _ (.head _)
      exact ⟨old _ _ z.1, Nat.ne_of_lt (Nat.lt_succ_of_lt (hltD _ (.head _))), z.2.2⟩
    rcases List.mem_cons.mp hq with rfl | hq
    · exact ⟨gD, Nat.ne_of_lt (Nat.lt_succ_self _), bD _ (Nat.le_refl _)⟩
    rcases List.mem_cons.mp hq with rfl | hq
    · exact ⟨old _ _ hoL, Nat.ne_of_lt (Nat.lt_succ_of_lt hLD), Heap.get?_none_of_le F.above⟩
    · have z := N q (.tail _ hq)
      exact ⟨old _ _ z.1, Nat.ne_of_lt (Nat.lt_succ_of_lt (hltD q (.tail _ hq))), z.2.2⟩
  have hID : @LT.lt Nat _ I D := hltD _ (.head _)
  have apart : ∀ (tl : List (Addr × Obj)), (∀ q ∈ tl, @LT.lt Nat _ (D + 1) q.1) → ∀ q ∈ tl ++ ((env.locals, oL) :: rest), q.1 ≠ I ∧ q.1 ≠ D := by
    intro tl htl q hq
    rcases List.mem_append.mp hq with hq | hq
    · have := htl q hq
      exact ⟨Nat.ne_of_gt (Nat.lt_trans hID (Nat.lt_of_succ_lt this)), Nat.ne_of_gt (Nat.lt_of_succ_lt this)⟩
    · rcases List.mem_cons.mp hq with rfl | hq
      · exact ⟨hLI, Nat.ne_of_lt hLD⟩
      · exact ⟨hneI q hq, Nat.ne_of_lt (hltD q (.tail _ hq))⟩
  refine ⟨McInv b (D + 1) I D x ((env.locals, oL) :: rest) xs ys s₂, 4, ?_, ?_, ?_⟩
  · exact ⟨h₄, tk, 0, 0, [], [], none, rfl, frCongr hF4 (fun y => by split <;> rfl), hN4, rfl, ⟨rfl, fun j hj => absurd hj (Nat.not_lt_zero _)⟩, fun _ h => nomatch h⟩
  · rintro s' Q' ⟨h5, tk5, i, ea, acc, tl, up, rfl, F5, N5, _⟩ hq
    exact wpAny_pyIter_rangeiter (N5.get (.head _)) hq
  · rintro k s' ⟨h5, tk5, i, ea, acc, tl, up, rfl, F5, N5, hik, hmx, htl⟩
    have ap := apart tl htl
    have hne5 : ∀ q ∈ (D, W.listOf acc.toArray ea) :: (tl ++ ((env.locals, oL) :: rest)), q.1 ≠ I := List.forall_mem_cons.mpr ⟨Nat.ne_of_gt hID, fun q hq => (ap q hq).1⟩
    have bC : (hid b).get? (D + 1) = none := bD _ (Nat.le_succ _)
    have bL : (hid b).get? env.locals = none := Heap.get?_none_of_le F.above
    have hCL : D + 1 ≠ env.locals := Nat.ne_of_gt (Nat.lt_succ_of_lt hLD)
    rcases Nat.eq_zero_or_pos k with hk0 | hk0
    · subst hk0
      refine rngEnd hA F5 N5 hne5 (by lia) fun h6 F6 N6 => ?_
      dsimp only
      have nsL : h6.Ns env.locals m := ⟨oL, esL, epL, N6.get (.tail _ (List.mem_append_right _ (.head _))), dL⟩
      refine wpAny_assign_Name (wpAny_storeName_local hy nsL (fun h7 ns7 sb7 => ?_) hp)
      refine ⟨_, F6.ns.sameBut sb7 hCL, fun h8 sb8 => ?_⟩
      have notL : ∀ q ∈ (D, W.listOf acc.toArray ea) :: (tl ++ rest), q.1 ≠ env.locals := fun q hq => by
        rcases List.mem_cons.mp hq with rfl | hq
        · exact Nat.ne_of_gt hLD
        · rcases List.mem_append.mp hq with hq | hq
          · exact Nat.ne_of_gt (Nat.lt_trans (Nat.lt_succ_of_lt hLD) (htl q hq))
          · exact (N q (.tail _ hq)).2.1
      have mem6 : ∀ q ∈ (D, W.listOf acc.toArray ea) :: (tl ++ rest), q ∈ (D, W.listOf acc.toArray ea) :: (tl ++ ((env.locals, oL) :: rest)) := fun q hq => by
        rcases List.mem_cons.mp hq with rfl | hq
        · exact .head _
        · rcases List.mem_append.mp hq with hq | hq
          · exact .tail _ (List.mem_append_left _ hq)
          · exact .tail _ (List.mem_append_right _ (.tail _ hq))
      have hi : i = 4 := by lia
      subst hi
      refine h h8 _ D acc ea tl rfl ⟨ns7.sameBut sb8 hCL.symm, fun a o e => ?_, F.above⟩ (fun q hq => ?_) hmx (fun q hq => Nat.lt_of_succ_lt (htl q hq))
      · refine (sb8.2 a ?_).trans ((sb7.2 a ?_).trans (F6.keep a o e))
        · intro q; rw [q, bC] at e; cases e
        · intro q; rw [q, bL] at e; cases e
      · have z := N6 q (mem6 q hq)
        exact ⟨(sb8.2 _ z.2.1).trans ((sb7.2 _ (notL q hq)).trans z.1), notL q hq, z.2.2⟩
    · refine rngNext F5 N5 hne5 (by lia) fun h6 F6 N6 => ?_
      dsimp only
      refine wpAny_assign_Name (wpAny_storeName_local (env := compEnvC scope cl (D + 1) env) (lookup_relabel_local hx) F6.ns (fun h7 ns7 sb7 => ?_) (by simp [compEnvC, relabel, hkind]))
      have F7 : Fr (hid b) (D + 1) h7 _ := ⟨ns7, fun a o e => (sb7.2 a (fun q => by rw [q] at e; rw [show (compEnvC scope cl (D + 1) env).locals = D + 1 from rfl, bC] at e; cases e)).trans (F6.keep a o e), F6.above⟩
      have N7 : News (hid b) (D + 1) h7 _ := fun q hq => ⟨(sb7.2 _ (N6 q hq).2.1).trans (N6 q hq).1, (N6 q hq).2⟩
      clear F6 N6 ns7
      refine helt (D + 1) _ _ _ (i : Int) _ F7 (if_pos rfl) (fun q hq => ?_) (fun t' => ?_)
      · rcases List.mem_singleton.mp hq with rfl
        exact N7 _ (.tail _ (.tail _ (List.mem_append_right _ (.tail _ hcC))))
      refine lm_spec (X.keeps F7.keep) (T.keeps F7.keep) (by lia) hA (N7.get (.tail _ (.tail _ (List.mem_append_right _ (.tail _ hl))))) hI hlen h1000 (by lia) (hmix i (by lia)) ?_
      intro t h9 tk9 u1 u2 st9 ht9 gt9
      dsimp only at st9 ht9 gt9 ⊢
      have F9 := frStays F7 st9
      have N9 : News (hid b) (D + 1) h9 _ := newsAdd F7 (fun q hq => ⟨st9 _ _ (N7 q hq).1, (N7 q hq).2⟩) gt9 ht9
      have hCt : @LT.lt Nat _ (D + 1) t := Nat.lt_of_lt_of_le F7.ns.lt ht9
      clear F7 N7
      refine append_K F9 N9 (.tail (Nat.ne_of_gt (Nat.lt_of_succ_lt hCt)) (.tail (Nat.ne_of_lt hID) (.head fun q hq => (ap q hq).2))) ?_ ?_
      rotate_left
      · rw [sizeLine_eq]
        have := hmx.1
        simp
        lia
      intro h10 F10 N10
      refine ⟨k - 1, by lia, h10, _, i + 1, ea + 1, acc ++ [.ref t], (t, tupO #[.int (xs i) u1, .int (ys i) u2]) :: tl, some (.int (i : Int) tk5), rfl, frCongr F10 (fun y => ?_), ?_, by lia, ?_, ?_⟩
      · by_cases hyx : y = x
        · simp only [if_pos hyx]
        · simp only [if_neg hyx]
      · have e9 : acc.toArray.push (Value.ref t) = (acc ++ [Value.ref t]).toArray := by simp
        rw [← e9]
        intro q hq
        rcases List.mem_cons.mp hq with rfl | hq
        · have z := N10 _ (.tail _ (.head _))
          rw [show ((i : Int) + 1) = ((i + 1 : Nat) : Int) from rfl, show ((k : Int) - 1) = ((k - 1 : Nat) : Int) by lia] at z
          exact z
        rcases List.mem_cons.mp hq with rfl | hq
        · exact N10 _ (.tail _ (.tail _ (.head _)))
        rcases List.mem_cons.mp hq with rfl | hq
        · exact N10 _ (.head _)
        · exact N10 _ (.tail _ (.tail _ (.tail _ hq)))
      · refine ⟨by simp [hmx.1], fun j hj => ?_⟩
        rcases Nat.lt_or_ge j i with hji | hji
        · obtain ⟨t0, u0, u0', g0, m0⟩ := hmx.2 j hji
          exact ⟨t0, u0, u0', by rw [List.getElem?_append_left (by rw [hmx.1]; exact hji)]; exact g0, .tail _ m0⟩
        · have hj2 : j = i := by lia
          subst hj2
          exact ⟨t, u1, u2, by rw [List.getElem?_append_right (by rw [hmx.1]; exact Nat.le_refl _), hmx.1]; simp, .head _⟩
      · intro q hq
        rcases List.mem_cons.mp hq with rfl | hq
        · exact hCt
        · exact htl q hq
end
end Mine
end
section
open PySem PySem.W PySem.Calls PyProof.Rows
set_option maxRecDepth 100000
set_option maxHeartbeats 8000000
namespace Mine
/-- the law's body and names, as they lie in the given program -/
noncomputable def lawBody (P : Params) : List Stmt := match Mine.o123.data with | .func f => (match f.body with | .stmts b => b | _ => []) | _ => []
noncomputable def lawScope (P : Params) : Option Scope := match Mine.o123.data with | .func f => some f.scope | _ => none
section
variable {w : World} {A : Around} {s : Shared} {sc : Scope} {body : List Stmt} {p : Program} {loose : List Str} {mean : ExcName → Option Value} {mg mb : Str → Option Value} {b : Heap} {L : Addr} {m : Str → Option Value}
theorem absQ {α : Type} {M : Model} {A : Around} {c : Sem α} {Q : α → Shared → Prop} {E : Value → Shared → Prop} {s : Shared} (h : ∀ Q', Q' = Q → wpAny M A c Q' E s) : wpAny M A c Q E s := h Q rfl
theorem law_mixes {R : Flow → Shared → Prop} {D7 : Addr} {oC : Obj} {ls : List Nat} {ws : List Value} {e : Nat} {rest : List (Addr × Obj)} {xs ys : Nat → Int} (hsc : lawScope w.params = some sc)
    (G : Gr w p loose mean mg mb b) (hd : A.depth + 40 < recursionLimit) (hA : A.handled = none)
    (F : Fr (hid b) L s.heap m) (N : News (hid b) L s.heap ((D7, W.listOf ws.toArray e) :: rest)) (hcC : (L + 1, oC) ∈ rest) (dC : oC.data = .cell (some (.ref D7))) (hI : IntsAre ws (castL ls)) (hlen : ls.length ≤ 20) (h1000 : ∀ d ∈ ls, d < 1000)
    (hmix : ∀ k, k ≤ 3 → Hide (MixOk (mixF k ls ls.length) (xs k) (ys k)))
    (h : ∀ h' tk' D acc ea tl, Fr (hid b) L h' (fun z => if z = Str.ofString "mixes" then some (.ref D) else m z) → News (hid b) L h' ((D, W.listOf acc.toArray ea) :: (tl ++ (D7, W.listOf ws.toArray e) :: rest)) → MixAre xs ys acc tl 4 → (∀ q ∈ tl, @LT.lt Nat _ D q.1) → (∀ q ∈ (D7, W.listOf ws.toArray e) :: rest, @LT.lt Nat _ q.1 D) → @LT.lt Nat _ L D →
      wpAny (model PySem.Challenge.rw_rl0106_01.row.prog w) (A.deeper (envOfC (Str.ofString "law") sc L 123 (.ref 122))) (execs ((lawBody w.params).drop 15) (envOfC (Str.ofString "law") sc L 123 (.ref 122))) R (fun _ _ => False) { s with heap := h', toks := tk' }) :
    wpAny (model PySem.Challenge.rw_rl0106_01.row.prog w) (A.deeper (envOfC (Str.ofString "law") sc L 123 (.ref 122))) (execs ((lawBody w.params).drop 14) (envOfC (Str.ofString "law") sc L 123 (.ref 122))) R (fun _ _ => False) s := by
  cases hsc
  have X := G.X
  have T := G.T
  revert X; k_fill; intro X
  revert h
  generalize hR : (lawBody w.params).drop 15 = rs
  intro h
  have e14 : (lawBody w.params).drop 14 = ((lawBody w.params).drop 14).take 1 ++ rs := by rw [← hR]; rfl
  rw [e14]
  dsimp only [lawBody, Mine.o123, Mine.s123, List.drop_succ_cons, List.drop_zero, List.take_succ_cons, List.take_zero, List.cons_append, List.nil_append]
  replace h := Hide.mk h
  repeat' (first | (k_unfold; (try dsimp only)) | ((fail_if_success (with_reducible show wpAny _ _ (exec (Stmt.Assign _ (PySem.Expr.ListComp _ _ _ _) _) _) _ _ _)); (fail_if_success (with_reducible show Exists _)); first | (k_end; wrow_close) | walk1 | (dsimp only; walk1) | (leave1; walk_say "STEP leave1"; try dsimp only)))
  refine absQ fun Q9 hQ9 => ?_
  refine assignC (cl := [(Str.ofString "lamps", L + 1)]) ?_ rfl rfl (by decide) rfl (by decide)
  repeat' (first | (k_unfold; (try dsimp only)) | ((fail_if_success (with_reducible show wpAny _ _ (exec (Stmt.Assign _ (PySem.Expr.ListComp _ _ _ _) _) _) _ _ _)); (fail_if_success (with_reducible show wpAny _ _ (pyIter (Value.ref _)) _ _ _)); (fail_if_success (with_reducible show wpAny _ _ (call (Value.ref _) _) _ _ _)); (fail_if_success (with_reducible show Exists _)); first | (k_end; wrow_close) | walk1 | (dsimp only; walk1) | (leave1; walk_say "STEP leave1"; try dsimp only)))
  rename IsRange _ _ _ _ _ _ _ _ => hr
  rename Fr _ _ _ _ => F1
  rename News _ _ _ _ => N1
  rename Heap.StaysIn _ _ => old1
  refine rngIter (n := 4) F1 N1 hr (by decide) ?_
  intro I h2 F2 N2 lt2 hL2
  dsimp only at F2 N2 ⊢
  intro h₄ tk old gD ns4
  have hsz : ∀ q ∈ (D7, W.listOf ws.toArray e) :: rest, @LT.lt Nat _ q.1 h2.objs.size := fun q hq => Heap.lt_size (N2 q (.tail _ hq)).1
  refine mixLoop (s₂ := ⟨h2, s.gens, s.drawn, 0, s.os⟩) (cl := [(Str.ofString "lamps", L + 1)]) (l := D7) (cC := L + 1) (oC := oC) (rest := (D7, W.listOf ws.toArray e) :: rest) X T ?_ hA F2 N2 (fun q hq => Nat.ne_of_lt (lt2 q hq)) (Nat.ne_of_lt hL2) (.head _) (.tail _ hcC) hI hlen h1000 hmix old gD ns4 ?_ ?_ ?_ ?_ ?_ ?_ ?_
  · simp only [depth_deeper]; omega
  · intro C s₁ m₁ t k Q' F₁ hm N₁ hk
    clear F1 N1 F2 N2
    repeat' (first | (k_unfold; (try dsimp only)) | ((fail_if_success (with_reducible show wpAny _ _ (eval (PySem.Expr.Name (Str.ofString "leap") _) (compEnvC _ _ _ _)) _ _ _)); (fail_if_success (with_reducible show wpAny _ _ (call (Value.ref _) _) _ _ _)); (fail_if_success (with_reducible show Exists _)); first | (k_end; wrow_close) | walk1 | (dsimp only; walk1) | (leave1; walk_say "STEP leave1"; try dsimp only)))
    refine wpAny_Name (wpAny_loadName_local (by exact rfl) (by exact rfl) F₁.ns hm ?_) (by decide)
    repeat' (first | (k_unfold; (try dsimp only)) | ((fail_if_success (with_reducible show wpAny _ _ (call (Value.ref _) _) _ _ _)); first | (k_end; wrow_close) | walk1 | (dsimp only; walk1) | (leave1; walk_say "STEP leave1"; try dsimp only)))
    exact hk _
  · exact rfl
  · exact rfl
  · exact rfl
  · exact rfl
  · exact rfl
  · intro h' tk' D acc ea tl hD F' N' hmx htl
    rw [hQ9]
    exact h.out h' tk' D acc ea tl F' N' hmx htl (hD ▸ hsz) (hD ▸ F2.ns.lt)
end
end Mine
end
section
open PySem PySem.W PySem.Calls PyProof.Rows Mine
local macro_rules | `(tactic| walk_at "newList") => `(tactic| (k_here; k_dflt (refine' newList_B ?k1 ?k2 ?_; (case k1 => k_asm); (case k2 => k_asm); k_whole); intro l' h' F' N' l1 hLt'; (try k_lt l1); (try k_lt2 hLt'); (try k_sweep); (try dsimp only)))
local macro_rules | `(tactic| walk_at "execs cons") => `(tactic| (k_here; (with_reducible rename Fr _ _ _ _ => frZ); dsimp only at frZ))
local macro_rules | `(tactic| k_all) => `(tactic| assumption)
section
open PySem PySem.W PySem.Calls PyProof.Rows
set_option maxRecDepth 100000
set_option maxHeartbeats 8000000
namespace Mine
section
variable {prog : Program} {w : World} {A : Around} {E : Value → Shared → Prop} {s : Shared} {h₀ : Heap} {L : Addr} {m : Str → Option Value} {Q : Value → Shared → Prop}
theorem allLt_mem {a : Addr} : ∀ {l : List (Addr × Obj)}, AllLt a l → ∀ q ∈ l, @LT.lt Nat _ q.1 a
  | [], _, _, hq => nomatch hq
  | _ :: _, h, q, hq => by
    rcases List.mem_cons.mp hq with rfl | hq
    · exact h.1
    · exact allLt_mem h.2 q hq
theorem pickMix {value slice : PySem.Expr} {D : Addr} {acc : List Value} {ea j n : Nat} {k : Int} {u0 : Tok} {xs ys : Nat → Int} {tl : List (Addr × Obj)} (hm : MixAre xs ys acc tl n) (hD : s.heap.get? D = some (W.listOf acc.toArray ea)) (hk : k = (j : Int)) (hj : j < n) (hn : n ≤ 100)
    (h : ∀ t u u', (t, tupO #[.int (xs j) u, .int (ys j) u']) ∈ tl → Q (.ref t) s)
    (hs : subscripted slice false (.ref D) (.int k u0) = operate [.ref D, .int k u0] (getItem (.ref D) (.int k u0)) := by with_unfolding_all rfl) :
    wpAny (model prog w) A (subscriptTail value slice (.ref D) (.int k u0)) Q E s := by
  subst hk
  obtain ⟨t, u, u', g, me⟩ := hm.2 j hj
  exact tail_any (T := "list") ⟨_, hD, rfl⟩ slot_list_getitem.lookup (wpAny_getItem_list (items := acc.toArray) ⟨_, hD, rfl, _, rfl⟩ (Int.natCast_nonneg _) (by lia) (by simpa using g) (h t u u' me)) hs
theorem pickA {value slice : PySem.Expr} {t : Addr} {x y : Value} {u0 : Tok} (ht : s.heap.get? t = some (tupO #[x, y])) (h : Q x s)
    (hs : subscripted slice false (.ref t) (.int 0 u0) = operate [.ref t, .int 0 u0] (getItem (.ref t) (.int 0 u0)) := by with_unfolding_all rfl) :
    wpAny (model prog w) A (subscriptTail value slice (.ref t) (.int 0 u0)) Q E s :=
  item_tupleT (l := [x, y]) ⟨_, ht, rfl, _, rfl⟩ (by decide) (by decide) (by rfl) rfl h hs
theorem pickB {value slice : PySem.Expr} {t : Addr} {x y : Value} {u0 : Tok} (ht : s.heap.get? t = some (tupO #[x, y])) (h : Q y s)
    (hs : subscripted slice false (.ref t) (.int 1 u0) = operate [.ref t, .int 1 u0] (getItem (.ref t) (.int 1 u0)) := by with_unfolding_all rfl) :
    wpAny (model prog w) A (subscriptTail value slice (.ref t) (.int 1 u0)) Q E s :=
  item_tupleT (l := [x, y]) ⟨_, ht, rfl, _, rfl⟩ (by decide) (by decide) (by rfl) rfl h hs
theorem pickI {value slice : PySem.Expr} {D : Addr} {vs : List Value} {ns : List Int} {ea j : Nat} {k n : Int} {u0 : Tok} (hI : IntsAre vs ns) (hD : s.heap.get? D = some (W.listOf vs.toArray ea)) (hk : k = (j : Int)) (hj : j ≤ 100) (hn : ns[j]? = some n)
    (h : ∀ u, Q (.int n u) s)
    (hs : subscripted slice false (.ref D) (.int k u0) = operate [.ref D, .int k u0] (getItem (.ref D) (.int k u0)) := by with_unfolding_all rfl) :
    wpAny (model prog w) A (subscriptTail value slice (.ref D) (.int k u0)) Q E s := by
  subst hk
  obtain ⟨u, g⟩ := hI.get j n hn
  exact tail_any (T := "list") ⟨_, hD, rfl⟩ slot_list_getitem.lookup (wpAny_getItem_list (items := vs.toArray) ⟨_, hD, rfl, _, rfl⟩ (Int.natCast_nonneg _) (by lia) (by simpa using g) (h u)) hs
theorem powN {B : Nat} {k : Int} {t u : Tok} (j : Nat) (hk : k = (j : Int)) (hj : j ≤ 100) (hB : B ≤ 1000) (h : Q (.int ((B : Int) ^ j) s.toks) { s with toks := s.toks + 1 }) : wpAny (model prog w) A (binaryOp .Pow (.int (B : Int) t) (.int k u)) Q E s := by
  subst hk
  exact pow_int_small (Int.natCast_nonneg _) (by lia) (by simp; lia) (by simpa using h)
end
section
variable {w : World} {A : Around} {s : Shared} {sc : Scope} {p : Program} {loose : List Str} {mean : ExcName → Option Value} {mg mb : Str → Option Value} {b : Heap} {L : Addr} {m : Str → Option Value}
theorem law_units {R : Flow → Shared → Prop} {D8 : Addr} {B e8 : Nat} {tB : Tok} {acc : List Value} {tl rest : List (Addr × Obj)} {xs ys : Nat → Int} (hsc : lawScope w.params = some sc)
    (G : Gr w p loose mean mg mb b) (hd : A.depth + 40 < recursionLimit) (hA : A.handled = none) (hU : A.units + 1000 < cLine)
    (F : Fr (hid b) L s.heap (fun z => if z = Str.ofString "mixes" then some (.ref D8) else if z = Str.ofString "base" then some (.int (B : Int) tB) else m z))
    (N : News (hid b) L s.heap ((D8, W.listOf acc.toArray e8) :: (tl ++ rest))) (hmx : MixAre xs ys acc tl 4) (hy0 : ys 0 = 0) (hy3 : ys 3 = 0) (hB : 2 ≤ B ∧ B ≤ 1000)
    (h : ∀ h' tk' D9 D10 ds us e9 e10, Fr (hid b) L h' (fun z => if z = Str.ofString "units" then some (.ref D10) else if z = Str.ofString "divisors" then some (.ref D9) else if z = Str.ofString "mixes" then some (.ref D8) else if z = Str.ofString "base" then some (.int (B : Int) tB) else m z) →
      News (hid b) L h' ((D10, W.listOf us.toArray e10) :: (D9, W.listOf ds.toArray e9) :: (D8, W.listOf acc.toArray e8) :: (tl ++ rest)) → IntsAre ds [(B : Int) - 1, (B : Int) ^ 2 - B + 1, (B : Int) ^ 2 + B + 1, (B : Int) + 1] → IntsAre us [0, (B : Int), (B : Int) + 1, 0] →
      (∀ q ∈ (D8, W.listOf acc.toArray e8) :: (tl ++ rest), @LT.lt Nat _ q.1 D9) → @LT.lt Nat _ L D9 → @LT.lt Nat _ D9 D10 →
      wpAny (model PySem.Challenge.rw_rl0106_01.row.prog w) (A.deeper (envOfC (Str.ofString "law") sc L 123 (.ref 122))) (execs ((lawBody w.params).drop 18) (envOfC (Str.ofString "law") sc L 123 (.ref 122))) R (fun _ _ => False) { s with heap := h', toks := tk' }) :
    wpAny (model PySem.Challenge.rw_rl0106_01.row.prog w) (A.deeper (envOfC (Str.ofString "law") sc L 123 (.ref 122))) (execs ((lawBody w.params).drop 15) (envOfC (Str.ofString "law") sc L 123 (.ref 122))) R (fun _ _ => False) s := by
  cases hsc
  have X := G.X
  have T := G.T
  revert X; k_fill; intro X
  revert h
  generalize hR : (lawBody w.params).drop 18 = rs
  intro h
  have e0 : (lawBody w.params).drop 15 = ((lawBody w.params).drop 15).take 3 ++ rs := by rw [← hR]; rfl
  rw [e0]
  clear e0
  dsimp only [lawBody, Mine.o123, Mine.s123, List.drop_succ_cons, List.drop_zero, List.take_succ_cons, List.take_zero, List.cons_append, List.nil_append]
  replace h := Hide.mk h
  repeat' (first | (k_unfold; (try dsimp only)) | ((fail_if_success (with_reducible show wpAny _ _ (subscriptTail _ _ (Value.ref _) (Value.int _ _)) _ _ _)); (fail_if_success (with_reducible show wpAny _ _ (binaryOp Operator.Pow _ _) _ _ _)); (fail_if_success (with_reducible show Exists _)); first | (k_end; wrow_close) | ((with_reducible show wpAny _ _ (eval (PySem.Expr.Name _ _) _) _ _ _); (k_here; k_dflt (refine' nameX_L ?F ?v ?_ ?a ?b; (case F => k_asm); (case a => rfl); (case b => rfl); (case v => rfl); k_whole))) | walk1 | (dsimp only; first | ((with_reducible show wpAny _ _ (eval (PySem.Expr.Name _ _) _) _ _ _); (k_here; k_dflt (refine' nameX_L ?F ?v ?_ ?a ?b; (case F => k_asm); (case a => rfl); (case b => rfl); (case v => rfl); k_whole))) | walk1) | (leave1; walk_say "STEP leave1"; try dsimp only)))
  refine pickMix (j := 0) hmx (N.get (.head _)) rfl (by decide) (by decide) ?_
  intro t0 u0 v0 m0
  repeat' (first | (k_unfold; (try dsimp only)) | ((fail_if_success (with_reducible show wpAny _ _ (subscriptTail _ _ (Value.ref _) (Value.int _ _)) _ _ _)); (fail_if_success (with_reducible show wpAny _ _ (binaryOp Operator.Pow _ _) _ _ _)); (fail_if_success (with_reducible show Exists _)); first | (k_end; wrow_close) | ((with_reducible show wpAny _ _ (eval (PySem.Expr.Name _ _) _) _ _ _); (k_here; k_dflt (refine' nameX_L ?F ?v ?_ ?a ?b; (case F => k_asm); (case a => rfl); (case b => rfl); (case v => rfl); k_whole))) | walk1 | (dsimp only; first | ((with_reducible show wpAny _ _ (eval (PySem.Expr.Name _ _) _) _ _ _); (k_here; k_dflt (refine' nameX_L ?F ?v ?_ ?a ?b; (case F => k_asm); (case a => rfl); (case b => rfl); (case v => rfl); k_whole))) | walk1) | (leave1; walk_say "STEP leave1"; try dsimp only)))
  refine pickB (N.get (.tail _ (List.mem_append_left _ m0))) ?_
  rw [hy0]
  repeat' (first | (k_unfold; (try dsimp only)) | ((fail_if_success (with_reducible show wpAny _ _ (subscriptTail _ _ (Value.ref _) (Value.int _ _)) _ _ _)); (fail_if_success (with_reducible show wpAny _ _ (binaryOp Operator.Pow _ _) _ _ _)); (fail_if_success (with_reducible show Exists _)); first | (k_end; wrow_close) | ((with_reducible show wpAny _ _ (eval (PySem.Expr.Name _ _) _) _ _ _); (k_here; k_dflt (refine' nameX_L ?F ?v ?_ ?a ?b; (case F => k_asm); (case a => rfl); (case b => rfl); (case v => rfl); k_whole))) | walk1 | (dsimp only; first | ((with_reducible show wpAny _ _ (eval (PySem.Expr.Name _ _) _) _ _ _); (k_here; k_dflt (refine' nameX_L ?F ?v ?_ ?a ?b; (case F => k_asm); (case a => rfl); (case b => rfl); (case v => rfl); k_whole))) | walk1) | (leave1; walk_say "STEP leave1"; try dsimp only)))
  refine pickMix (j := 3) hmx (N.get (.head _)) rfl (by decide) (by decide) ?_
  intro t3 u3 v3 m3
  repeat' (first | (k_unfold; (try dsimp only)) | ((fail_if_success (with_reducible show wpAny _ _ (subscriptTail _ _ (Value.ref _) (Value.int _ _)) _ _ _)); (fail_if_success (with_reducible show wpAny _ _ (binaryOp Operator.Pow _ _) _ _ _)); (fail_if_success (with_reducible show Exists _)); first | (k_end; wrow_close) | ((with_reducible show wpAny _ _ (eval (PySem.Expr.Name _ _) _) _ _ _); (k_here; k_dflt (refine' nameX_L ?F ?v ?_ ?a ?b; (case F => k_asm); (case a => rfl); (case b => rfl); (case v => rfl); k_whole))) | walk1 | (dsimp only; first | ((with_reducible show wpAny _ _ (eval (PySem.Expr.Name _ _) _) _ _ _); (k_here; k_dflt (refine' nameX_L ?F ?v ?_ ?a ?b; (case F => k_asm); (case a => rfl); (case b => rfl); (case v => rfl); k_whole))) | walk1) | (leave1; walk_say "STEP leave1"; try dsimp only)))
  refine pickB (N.get (.tail _ (List.mem_append_left _ m3))) ?_
  rw [hy3]
  repeat' (first | (k_unfold; (try dsimp only)) | ((fail_if_success (with_reducible show wpAny _ _ (subscriptTail _ _ (Value.ref _) (Value.int _ _)) _ _ _)); (fail_if_success (with_reducible show wpAny _ _ (binaryOp Operator.Pow _ _) _ _ _)); (fail_if_success (with_reducible show Exists _)); first | (k_end; wrow_close) | ((with_reducible show wpAny _ _ (eval (PySem.Expr.Name _ _) _) _ _ _); (k_here; k_dflt (refine' nameX_L ?F ?v ?_ ?a ?b; (case F => k_asm); (case a => rfl); (case b => rfl); (case v => rfl); k_whole))) | walk1 | (dsimp only; first | ((with_reducible show wpAny _ _ (eval (PySem.Expr.Name _ _) _) _ _ _); (k_here; k_dflt (refine' nameX_L ?F ?v ?_ ?a ?b; (case F => k_asm); (case a => rfl); (case b => rfl); (case v => rfl); k_whole))) | walk1) | (leave1; walk_say "STEP leave1"; try dsimp only)))
  refine powN 2 rfl (by decide) hB.2 ?_
  repeat' (first | (k_unfold; (try dsimp only)) | ((fail_if_success (with_reducible show wpAny _ _ (subscriptTail _ _ (Value.ref _) (Value.int _ _)) _ _ _)); (fail_if_success (with_reducible show wpAny _ _ (binaryOp Operator.Pow _ _) _ _ _)); (fail_if_success (with_reducible show Exists _)); first | (k_end; wrow_close) | ((with_reducible show wpAny _ _ (eval (PySem.Expr.Name _ _) _) _ _ _); (k_here; k_dflt (refine' nameX_L ?F ?v ?_ ?a ?b; (case F => k_asm); (case a => rfl); (case b => rfl); (case v => rfl); k_whole))) | walk1 | (dsimp only; first | ((with_reducible show wpAny _ _ (eval (PySem.Expr.Name _ _) _) _ _ _); (k_here; k_dflt (refine' nameX_L ?F ?v ?_ ?a ?b; (case F => k_asm); (case a => rfl); (case b => rfl); (case v => rfl); k_whole))) | walk1) | (leave1; walk_say "STEP leave1"; try dsimp only)))
  refine powN 2 rfl (by decide) hB.2 ?_
  repeat' (first | (k_unfold; (try dsimp only)) | ((fail_if_success (with_reducible show wpAny _ _ (subscriptTail _ _ (Value.ref _) (Value.int _ _)) _ _ _)); (fail_if_success (with_reducible show wpAny _ _ (binaryOp Operator.Pow _ _) _ _ _)); (fail_if_success (with_reducible show Exists _)); first | (k_end; wrow_close) | ((with_reducible show wpAny _ _ (eval (PySem.Expr.Name _ _) _) _ _ _); (k_here; k_dflt (refine' nameX_L ?F ?v ?_ ?a ?b; (case F => k_asm); (case a => rfl); (case b => rfl); (case v => rfl); k_whole))) | walk1 | (dsimp only; first | ((with_reducible show wpAny _ _ (eval (PySem.Expr.Name _ _) _) _ _ _); (k_here; k_dflt (refine' nameX_L ?F ?v ?_ ?a ?b; (case F => k_asm); (case a => rfl); (case b => rfl); (case v => rfl); k_whole))) | walk1) | (leave1; walk_say "STEP leave1"; try dsimp only)))
  rename_i D9 _ l9 hL9 _ D10 _ l10 _ h18 F18 N18
  exact h.out h18 _ D9 D10 [_, _, _, _] [_, _, _, _] 0 0 F18 N18 (.cons _ _ (.cons _ _ (.cons _ _ (.cons _ _ .nil)))) (.cons _ _ (.cons _ _ (.cons _ _ (.cons _ _ .nil)))) (List.forall_mem_cons.mpr ⟨l9.1, allLt_mem l9.2⟩) hL9 l10.1
end
end Mine
end
section
open PySem PySem.W PySem.Calls PyProof.Rows PyProof.V PySem.Spec PySem.SeqAt PyProof
set_option maxRecDepth 100000
set_option maxHeartbeats 8000000
namespace Mine
section
variable {prog : Program} {w : World} {A : Around} {E : Value → Shared → Prop} {s : Shared} {Q : Value → Shared → Prop}
theorem reads2 {h : Heap} {t : Addr} {x y : Int} {u v : Tok} (ht : h.get? t = some (tupO #[.int x u, .int y v])) : Reads h (.ref t) (.tuple [.int x, .int y]) [] :=
  Reads.tuple (as := []) ht rfl rfl (by
    have := ReadsAll.cons (Reads.int (h := h) x u) (ReadsAll.cons (Reads.int (h := h) y v) .nil)
    simpa using this)
theorem shaped2 (x y : Int) : shaped (.tuple [.int x, .int y]) = true := by
  simp [shaped, PyData.canLay0, PyData.canLayAll0, PyData.depth, PyData.depthAll]
theorem neTup {a b : Addr} {x y x' y' : Int} {u1 u2 u3 u4 : Tok} (ha : s.heap.get? a = some (tupO #[.int x u1, .int y u2])) (hb : s.heap.get? b = some (tupO #[.int x' u3, .int y' u4])) (hu : A.units + 64 < cLine) (e1 : x = x') (e2 : y = y')
    (h : Q (.bool false) s) : wpAny (model prog w) A (compareOp .NotEq (.ref a) (.ref b)) Q E s :=
  ne_dataH_same (reads2 ha) (reads2 hb) (shaped2 _ _) (shaped2 _ _) hu (by simp [noMix, noMixAll]) (by subst e1 e2; simpa [PySem.Spec.same, PySem.Spec.sameAll] using h)
theorem eqTup {a b : Addr} {x y x' y' : Int} {u1 u2 u3 u4 : Tok} (ha : s.heap.get? a = some (tupO #[.int x u1, .int y u2])) (hb : s.heap.get? b = some (tupO #[.int x' u3, .int y' u4])) (hu : A.units + 64 < cLine) (e1 : x = x') (e2 : y = y')
    (h : Q (.bool true) s) : wpAny (model prog w) A (compareOp .Eq (.ref a) (.ref b)) Q E s :=
  eq_dataH_same (reads2 ha) (reads2 hb) (shaped2 _ _) (shaped2 _ _) hu (by simp [noMix, noMixAll]) (by subst e1 e2; simpa [PySem.Spec.same, PySem.Spec.sameAll] using h)
theorem fdivI {a b : Int} {t u : Tok} (hb : b ≠ 0) (hb2 : b.natAbs < 2 ^ 64) (h : Q (.int (a.fdiv b) s.toks) { s with toks := s.toks + 1 }) : wpAny (model prog w) A (binaryOp .FloorDiv (.int a t) (.int b u)) Q E s :=
  floordiv_int hb h (.inl (noPylong64 hb2))
end
section
variable {w : World} {A : Around} {s : Shared} {p : Program} {loose : List Str} {mean : ExcName → Option Value} {mg mb : Str → Option Value} {b : Heap} {L : Addr} {m : Str → Option Value} {rest tail : List (Addr × Obj)} {Q E : Value → Shared → Prop}
theorem idmLed {h' : Heap} {t : Addr} {o : Obj} (F : Fr (hid b) L s.heap m) (N : News (hid b) L s.heap (rest ++ tail)) (TL : TailIs (hid b) tail) (hgt : ∀ q ∈ rest, @LT.lt Nat _ 59 q.1) (h59 : @LT.lt Nat _ 59 L) (A9 : After s.heap h') (ht : @LE.le Nat _ s.heap.objs.size t) (g : h'.get? t = some o) :
    ∃ tail', Fr (hid b) L h' m ∧ News (hid b) L h' ((t, o) :: (rest ++ tail')) ∧ TailIs (hid b) tail' ∧ (∀ q ∈ rest, @LT.lt Nat _ q.1 t) ∧ @LT.lt Nat _ L t := by
  obtain ⟨tail', F', N', TL', _⟩ := after_tail F N TL hgt h59 A9
  have hLt : @LT.lt Nat _ L t := Nat.lt_of_lt_of_le F.ns.lt ht
  exact ⟨tail', F', List.forall_mem_cons.mpr ⟨⟨g, Nat.ne_of_gt hLt, Heap.get?_none_of_le (Nat.le_trans F.above (Nat.le_of_lt hLt))⟩, N'⟩, TL', fun q hq => Nat.lt_of_lt_of_le (Heap.lt_size (N q (List.mem_append_left _ hq)).1) ht, hLt⟩
theorem idmP {a : Int} {d : Nat} {t1 t2 : Tok} (G : Gr w p loose mean mg mb b) (hd : A.depth + 240 < recursionLimit) (hA : A.handled = none) (hb : 0 < d) (hb2 : d < 2 ^ 64) (ha : a.natAbs < 2 ^ 100)
    (F : Fr (hid b) L s.heap m) (N : News (hid b) L s.heap (rest ++ tail)) (TL : TailIs (hid b) tail) (hgt : ∀ q ∈ rest, @LT.lt Nat _ 59 q.1) (h59 : @LT.lt Nat _ 59 L) (hbL : b.objs.size ≤ L)
    (h : ∀ t h' tk' tail' u1 u2, Fr (hid b) L h' m → News (hid b) L h' ((t, tupO #[.int (a.fdiv d) u1, .int (a.fmod d) u2]) :: (rest ++ tail')) → TailIs (hid b) tail' → (∀ q ∈ rest, @LT.lt Nat _ q.1 t) → @LT.lt Nat _ L t → Q (.ref t) { s with heap := h', toks := tk' }) :
    wpAny (model PySem.Challenge.rw_rl0106_01.row.prog w) A (call (.ref 78) [.int a t1, .int (d : Int) t2]) Q E s := by
  refine idm_posB (G.after (TL.after F N hbL)) (by lia) hA hb hb2 ha ?_
  intro t h' tk' u1 u2 A9 ht g
  obtain ⟨tail', F', N', TL', l1, l2⟩ := idmLed F N TL hgt h59 A9 ht g
  exact h t h' tk' tail' u1 u2 F' N' TL' l1 l2
theorem idmM {a : Int} {d : Nat} {t1 t2 : Tok} (G : Gr w p loose mean mg mb b) (hd : A.depth + 240 < recursionLimit) (hA : A.handled = none) (hb : 0 < d) (hb2 : d < 2 ^ 64) (ha : a.natAbs < 2 ^ 100)
    (F : Fr (hid b) L s.heap m) (N : News (hid b) L s.heap (rest ++ tail)) (TL : TailIs (hid b) tail) (hgt : ∀ q ∈ rest, @LT.lt Nat _ 59 q.1) (h59 : @LT.lt Nat _ 59 L) (hbL : b.objs.size ≤ L)
    (h : ∀ t h' tk' tail' u1 u2, Fr (hid b) L h' m → News (hid b) L h' ((t, tupO #[.int (a.fdiv (-(d : Int))) u1, .int (a.fmod (-(d : Int))) u2]) :: (rest ++ tail')) → TailIs (hid b) tail' → (∀ q ∈ rest, @LT.lt Nat _ q.1 t) → @LT.lt Nat _ L t → Q (.ref t) { s with heap := h', toks := tk' }) :
    wpAny (model PySem.Challenge.rw_rl0106_01.row.prog w) A (call (.ref 78) [.int a t1, .int (-(d : Int)) t2]) Q E s := by
  refine idm_negB (G.after (TL.after F N hbL)) (by lia) hA hb hb2 ha ?_
  intro t h' tk' u1 u2 A9 ht g
  obtain ⟨tail', F', N', TL', l1, l2⟩ := idmLed F N TL hgt h59 A9 ht g
  exact h t h' tk' tail' u1 u2 F' N' TL' l1 l2
end
theorem over3d {a b c y : Str} {A B C A' B' C' M : Option Value} : (if y = a then A else if y = b then B else if y = c then C else if y = a then A' else if y = b then B' else if y = c then C' else M) = if y = a then A else if y = b then B else if y = c then C else M := by
  by_cases h1 : y = a
  · simp only [if_pos h1]
  · by_cases h2 : y = b
    · simp only [if_neg h1, if_pos h2]
    · by_cases h3 : y = c
      · simp only [if_neg h1, if_neg h2, if_pos h3]
      · simp only [if_neg h1, if_neg h2, if_neg h3]
end Mine
end
section
open PySem PySem.W PySem.Calls PyProof.Rows
set_option maxRecDepth 100000
set_option maxHeartbeats 8000000
namespace Mine

theorem inv3 (M : Str → Option Value) (a b c : Str) (y : Str) : M y = if y = a then M a else if y = b then M b else if y = c then M c else M y := by
  by_cases h1 : y = a
  · rw [if_pos h1, h1]
  · rw [if_neg h1]
    by_cases h2 : y = b
    · rw [if_pos h2, h2]
    · rw [if_neg h2]
      by_cases h3 : y = c
      · rw [if_pos h3, h3]
      · rw [if_neg h3]
/-- what holds between the turns of the law's second loop -/
inductive LeInv (b : Heap) (L I : Addr) (M : Str → Option Value) (rest : List (Addr × Obj)) (S : Shared) (k : Nat) (s' : Shared) : Prop
  | mk (h' : Heap) (tk' i : Nat) (tail : List (Addr × Obj)) (ut ud ul : Option Value)
    (h1 : s' = { S with heap := h', toks := tk' })
    (h2 : Fr (hid b) L h' (fun z => if z = Str.ofString "told" then ut else if z = Str.ofString "divisor" then ud else if z = Str.ofString "leap" then ul else M z))
    (h3 : News (hid b) L h' ((I, rngIt (i : Int) (k : Int)) :: (rest ++ tail)))
    (h4 : TailIs (hid b) tail)
    (h5 : i + k = 4) : LeInv b L I M rest S k s'
theorem NoCode.rng {x y : Int} : NoCode (rngIt x y) := fun vs q t e e2 => by
  cases e
  simp [rawInt] at e2
section
variable {prog : Program} {w : World} {A : Around} {E : Value → Shared → Prop} {s : Shared} {Q : Value → Shared → Prop} {a b : Int} {t u : Tok}
theorem bits64 {a : Int} (ha : a.natAbs < 2 ^ 64) : Builtin.Int.intBits a ≤ 64 := by
  by_cases h0 : a.natAbs = 0
  · rw [Int.natAbs_eq_zero.mp h0]; decide
  · have := (Nat.log2_lt h0 (k := 64)).mpr ha
    unfold Builtin.Int.intBits
    split <;> lia
theorem mulR (hb : b.natAbs < 2 ^ 64) (h : Q (.int (a * b) s.toks) { s with toks := s.toks + 1 }) : wpAny (model prog w) A (binaryOp .Mult (.int a t) (.int b u)) Q E s :=
  mul_int h (IntMulOk.of_right (bits64 hb))
theorem mulL (ha : a.natAbs < 2 ^ 64) (h : Q (.int (a * b) s.toks) { s with toks := s.toks + 1 }) : wpAny (model prog w) A (binaryOp .Mult (.int a t) (.int b u)) Q E s :=
  mul_int h (IntMulOk.of_left (bits64 ha))
end
section
variable {w : World} {A : Around} {s : Shared} {sc : Scope} {p : Program} {loose : List Str} {mean : ExcName → Option Value} {mg mb : Str → Option Value} {b : Heap} {L : Addr} {m : Str → Option Value}
theorem law_leap {R : Flow → Shared → Prop} {D4 D8 D9 D10 : Addr} {N low v0 B e4 e8 e9 e10 : Nat} {tN tL tB : Tok} {acc vals ds us : List Value} {vns dns uns : List Int} {rest tail : List (Addr × Obj)} {xs ys un : Nat → Int} {dn : Nat → Nat} (hsc : lawScope w.params = some sc)
    (G : Gr w p loose mean mg mb b) (hd : A.depth + 260 < recursionLimit) (hA : A.handled = none) (hU : A.units + 1000 < cLine)
    (F : Fr (hid b) L s.heap (fun z => if z = Str.ofString "units" then some (.ref D10) else if z = Str.ofString "divisors" then some (.ref D9) else if z = Str.ofString "mixes" then some (.ref D8) else if z = Str.ofString "values" then some (.ref D4) else if z = Str.ofString "base" then some (.int (B : Int) tB) else if z = Str.ofString "low" then some (.int (low : Int) tL) else if z = Str.ofString "number" then some (.int (N : Int) tN) else m z))
    (N0 : News (hid b) L s.heap (rest ++ tail)) (TL : TailIs (hid b) tail) (hgt : ∀ q ∈ rest, @LT.lt Nat _ 59 q.1) (hnc : ∀ q ∈ rest, NoCode q.2) (h59 : @LT.lt Nat _ 59 L) (hbL : b.objs.size ≤ L)
    (h4 : (D4, W.listOf vals.toArray e4) ∈ rest) (h8 : (D8, W.listOf acc.toArray e8) ∈ rest) (h9 : (D9, W.listOf ds.toArray e9) ∈ rest) (h10 : (D10, W.listOf us.toArray e10) ∈ rest)
    (hmx : MixAre xs ys acc rest 4) (hv : IntsAre vals vns) (hv0 : vns[0]? = some (v0 : Int)) (hds : IntsAre ds dns) (hus : IntsAre us uns)
    (hd4 : ∀ i, i < 4 → dns[i]? = some ((dn i : Nat) : Int) ∧ 0 < dn i ∧ dn i < 2 ^ 64) (hu4 : ∀ i, i < 4 → uns[i]? = some (un i) ∧ (un i).natAbs < 2 ^ 64) (hN : N < 2 ^ 100) (hlow : low ≤ 9)
    (hT : ∀ i, i < 4 → ((v0 : Int) + ((10 ^ low : Nat) : Int) * (xs i + ys i * un i)).natAbs < 2 ^ 100 ∧ ((v0 : Int) + ((10 ^ low : Nat) : Int) * (xs i + ys i * un i)).fmod (dn i) = (N : Int).fmod (dn i))
    (h : ∀ h' tk' tail' ut ud ul, Fr (hid b) L h' (fun z => if z = Str.ofString "told" then ut else if z = Str.ofString "divisor" then ud else if z = Str.ofString "leap" then ul else if z = Str.ofString "units" then some (.ref D10) else if z = Str.ofString "divisors" then some (.ref D9) else if z = Str.ofString "mixes" then some (.ref D8) else if z = Str.ofString "values" then some (.ref D4) else if z = Str.ofString "base" then some (.int (B : Int) tB) else if z = Str.ofString "low" then some (.int (low : Int) tL) else if z = Str.ofString "number" then some (.int (N : Int) tN) else m z) → News (hid b) L h' (rest ++ tail') → TailIs (hid b) tail' →
      wpAny (model PySem.Challenge.rw_rl0106_01.row.prog w) (A.deeper (envOfC (Str.ofString "law") sc L 123 (.ref 122))) (execs ((lawBody w.params).drop 19) (envOfC (Str.ofString "law") sc L 123 (.ref 122))) R (fun _ _ => False) { s with heap := h', toks := tk' }) :
    wpAny (model PySem.Challenge.rw_rl0106_01.row.prog w) (A.deeper (envOfC (Str.ofString "law") sc L 123 (.ref 122))) (execs ((lawBody w.params).drop 18) (envOfC (Str.ofString "law") sc L 123 (.ref 122))) R (fun _ _ => False) s := by
  cases hsc
  have X := G.X
  have T := G.T
  revert X; k_fill; intro X
  revert h
  generalize hR : (lawBody w.params).drop 19 = rs
  intro h
  have e0 : (lawBody w.params).drop 18 = ((lawBody w.params).drop 18).take 1 ++ rs := by rw [← hR]; rfl
  rw [e0]
  clear e0
  dsimp only [lawBody, Mine.o123, Mine.s123, List.drop_succ_cons, List.drop_zero, List.take_succ_cons, List.take_zero, List.cons_append, List.nil_append]
  replace h := Hide.mk h
  replace hT := Hide.mk hT
  replace hd4 := Hide.mk hd4
  (try dsimp only); repeat' (first | (k_unfold; (try dsimp only)) | ((fail_if_success (with_reducible show wpAny _ _ (exec (Stmt.For _ _ _ _ _) _) _ _ _)); (fail_if_success (with_reducible show Exists _)); first | (k_end; wrow_close) | ((with_reducible show wpAny _ _ (eval (PySem.Expr.Name _ _) _) _ _ _); (k_here; k_dflt (refine' nameX_L ?F ?v ?_ ?a ?b; (case F => k_asm); (case a => rfl); (case b => rfl); (case v => rfl); k_whole))) | walk1 | (dsimp only; first | ((with_reducible show wpAny _ _ (eval (PySem.Expr.Name _ _) _) _ _ _); (k_here; k_dflt (refine' nameX_L ?F ?v ?_ ?a ?b; (case F => k_asm); (case a => rfl); (case b => rfl); (case v => rfl); k_whole))) | walk1) | (leave1; walk_say "STEP leave1"; try dsimp only)))
  refine absQ fun Q9 hQ9 => ?_
  refine forF ?_
  (try dsimp only); repeat' (first | (k_unfold; (try dsimp only)) | ((fail_if_success (with_reducible show wpAny _ _ (pyIter (Value.ref _)) _ _ _)); (fail_if_success (with_reducible show Exists _)); first | (k_end; wrow_close) | ((with_reducible show wpAny _ _ (eval (PySem.Expr.Name _ _) _) _ _ _); (k_here; k_dflt (refine' nameX_L ?F ?v ?_ ?a ?b; (case F => k_asm); (case a => rfl); (case b => rfl); (case v => rfl); k_whole))) | walk1 | (dsimp only; first | ((with_reducible show wpAny _ _ (eval (PySem.Expr.Name _ _) _) _ _ _); (k_here; k_dflt (refine' nameX_L ?F ?v ?_ ?a ?b; (case F => k_asm); (case a => rfl); (case b => rfl); (case v => rfl); k_whole))) | walk1) | (leave1; walk_say "STEP leave1"; try dsimp only)))
  rename IsRange _ _ _ _ _ _ _ _ => hr
  rename Fr _ _ _ _ => F1
  rename News _ _ _ _ => N1
  refine rngIter (n := 4) F1 N1 hr (by decide) ?_
  intro I h2 F2 N2 lI hLI
  clear F1 N1 hr
  obtain ⟨m₀, hm₀, F2⟩ : ∃ m₀, m₀ = _ ∧ Fr (hid b) L h2 m₀ := ⟨_, rfl, F2⟩
  have hneI : ∀ q ∈ rest, q.1 ≠ I := fun q hq => Nat.ne_of_lt (lI q (List.mem_append_left _ hq))
  have hgtI : ∀ (o : Obj), ∀ q ∈ (I, o) :: rest, @LT.lt Nat _ 59 q.1 := fun o => List.forall_mem_cons.mpr ⟨Nat.lt_trans h59 hLI, hgt⟩
  refine ⟨LeInv b L I m₀ rest s, 4, ?_, ?_⟩
  · exact ⟨h2, _, 0, tail, m₀ (Str.ofString "told"), m₀ (Str.ofString "divisor"), m₀ (Str.ofString "leap"), rfl, frCongr F2 (fun y => inv3 m₀ _ _ _ y), N2, TL, rfl⟩
  · clear F2 N2 TL
    rintro k s' ⟨h5, tk5, i, tail, ut, ud, ul, rfl, F5, N5, TL, hik⟩
    have dis5 := dis_of (rest := (I, _) :: rest) TL N5 (hgtI _) (List.forall_mem_cons.mpr ⟨NoCode.rng, hnc⟩)
    have hne5 : ∀ q ∈ rest ++ tail, q.1 ≠ I := fun q hq => by
      rcases List.mem_append.mp hq with hq | hq
      · exact hneI q hq
      · exact dis5 _ (.head _) q hq
    clear dis5
    rcases Nat.eq_zero_or_pos k with hk0 | hk0
    · subst hk0
      refine rngEnd hA F5 N5 hne5 (by lia) ?_
      intro h6 F6 N6
      dsimp only
      rw [hQ9]
      subst hm₀
      exact h.out h6 _ tail ut ud ul F6 N6 TL
    · have hi : i < 4 := by lia
      have hT9 := hT.out i hi
      have hdp := hd4.out i hi
      clear hT hd4
      obtain ⟨hdi, hdp⟩ := hdp
      have hdp0 := hdp
      generalize hde : dn i = d at hdi hdp hdp0 hT9
      refine rngNext F5 N5 hne5 (by lia) ?_
      intro h6 F6 N6
      rw [show ((i : Int) + 1) = ((i + 1 : Nat) : Int) from rfl, show ((k : Int) - 1) = ((k - 1 : Nat) : Int) by lia] at N6
      clear F5 N5
      subst hm₀
      dsimp only
      (try dsimp only); repeat' (first | (k_unfold; (try dsimp only)) | ((fail_if_success (with_reducible show wpAny _ _ (subscriptTail _ _ (Value.ref _) (Value.int _ _)) _ _ _)); (fail_if_success (with_reducible show wpAny _ _ (binaryOp Operator.Mult (Value.int _ _) (Value.int _ _)) _ _ _)); (fail_if_success (with_reducible show wpAny _ _ (call (Value.ref _) _) _ _ _)); (fail_if_success (with_reducible show wpAny _ _ (binaryOp Operator.Pow _ _) _ _ _)); (fail_if_success (with_reducible show wpAny _ _ (binaryOp Operator.FloorDiv _ _) _ _ _)); (fail_if_success (with_reducible show wpAny _ _ (binaryOp Operator.Mod _ _) _ _ _)); (fail_if_success (with_reducible show wpAny _ _ (compareOp _ (Value.ref _) (Value.ref _)) _ _ _)); (fail_if_success (with_reducible show Exists _)); first | (k_end; wrow_close) | ((with_reducible show wpAny _ _ (eval (PySem.Expr.Name _ _) _) _ _ _); (k_here; k_dflt (refine' nameX_L ?F ?v ?_ ?a ?b; (case F => k_asm); (case a => rfl); (case b => rfl); (case v => rfl); k_whole))) | walk1 | (dsimp only; first | ((with_reducible show wpAny _ _ (eval (PySem.Expr.Name _ _) _) _ _ _); (k_here; k_dflt (refine' nameX_L ?F ?v ?_ ?a ?b; (case F => k_asm); (case a => rfl); (case b => rfl); (case v => rfl); k_whole))) | walk1) | (leave1; walk_say "STEP leave1"; try dsimp only)))
      refine pickI (j := i) hds (News.get (by assumption) (.tail _ (List.mem_append_left _ h9))) rfl (by lia) hdi ?_
      intro
      (try dsimp only); repeat' (first | (k_unfold; (try dsimp only)) | ((fail_if_success (with_reducible show wpAny _ _ (subscriptTail _ _ (Value.ref _) (Value.int _ _)) _ _ _)); (fail_if_success (with_reducible show wpAny _ _ (binaryOp Operator.Mult (Value.int _ _) (Value.int _ _)) _ _ _)); (fail_if_success (with_reducible show wpAny _ _ (call (Value.ref _) _) _ _ _)); (fail_if_success (with_reducible show wpAny _ _ (binaryOp Operator.Pow _ _) _ _ _)); (fail_if_success (with_reducible show wpAny _ _ (binaryOp Operator.FloorDiv _ _) _ _ _)); (fail_if_success (with_reducible show wpAny _ _ (binaryOp Operator.Mod _ _) _ _ _)); (fail_if_success (with_reducible show wpAny _ _ (compareOp _ (Value.ref _) (Value.ref _)) _ _ _)); (fail_if_success (with_reducible show Exists _)); first | (k_end; wrow_close) | ((with_reducible show wpAny _ _ (eval (PySem.Expr.Name _ _) _) _ _ _); (k_here; k_dflt (refine' nameX_L ?F ?v ?_ ?a ?b; (case F => k_asm); (case a => rfl); (case b => rfl); (case v => rfl); k_whole))) | walk1 | (dsimp only; first | ((with_reducible show wpAny _ _ (eval (PySem.Expr.Name _ _) _) _ _ _); (k_here; k_dflt (refine' nameX_L ?F ?v ?_ ?a ?b; (case F => k_asm); (case a => rfl); (case b => rfl); (case v => rfl); k_whole))) | walk1) | (leave1; walk_say "STEP leave1"; try dsimp only)))
      refine pickI (j := 0) hv (News.get (by assumption) (.tail _ (List.mem_append_left _ h4))) rfl (by lia) hv0 ?_
      intro
      (try dsimp only); repeat' (first | (k_unfold; (try dsimp only)) | ((fail_if_success (with_reducible show wpAny _ _ (subscriptTail _ _ (Value.ref _) (Value.int _ _)) _ _ _)); (fail_if_success (with_reducible show wpAny _ _ (binaryOp Operator.Mult (Value.int _ _) (Value.int _ _)) _ _ _)); (fail_if_success (with_reducible show wpAny _ _ (call (Value.ref _) _) _ _ _)); (fail_if_success (with_reducible show wpAny _ _ (binaryOp Operator.Pow _ _) _ _ _)); (fail_if_success (with_reducible show wpAny _ _ (binaryOp Operator.FloorDiv _ _) _ _ _)); (fail_if_success (with_reducible show wpAny _ _ (binaryOp Operator.Mod _ _) _ _ _)); (fail_if_success (with_reducible show wpAny _ _ (compareOp _ (Value.ref _) (Value.ref _)) _ _ _)); (fail_if_success (with_reducible show Exists _)); first | (k_end; wrow_close) | ((with_reducible show wpAny _ _ (eval (PySem.Expr.Name _ _) _) _ _ _); (k_here; k_dflt (refine' nameX_L ?F ?v ?_ ?a ?b; (case F => k_asm); (case a => rfl); (case b => rfl); (case v => rfl); k_whole))) | walk1 | (dsimp only; first | ((with_reducible show wpAny _ _ (eval (PySem.Expr.Name _ _) _) _ _ _); (k_here; k_dflt (refine' nameX_L ?F ?v ?_ ?a ?b; (case F => k_asm); (case a => rfl); (case b => rfl); (case v => rfl); k_whole))) | walk1) | (leave1; walk_say "STEP leave1"; try dsimp only)))
      refine pow10N hlow ?_
      (try dsimp only); repeat' (first | (k_unfold; (try dsimp only)) | ((fail_if_success (with_reducible show wpAny _ _ (subscriptTail _ _ (Value.ref _) (Value.int _ _)) _ _ _)); (fail_if_success (with_reducible show wpAny _ _ (binaryOp Operator.Mult (Value.int _ _) (Value.int _ _)) _ _ _)); (fail_if_success (with_reducible show wpAny _ _ (call (Value.ref _) _) _ _ _)); (fail_if_success (with_reducible show wpAny _ _ (binaryOp Operator.Pow _ _) _ _ _)); (fail_if_success (with_reducible show wpAny _ _ (binaryOp Operator.FloorDiv _ _) _ _ _)); (fail_if_success (with_reducible show wpAny _ _ (binaryOp Operator.Mod _ _) _ _ _)); (fail_if_success (with_reducible show wpAny _ _ (compareOp _ (Value.ref _) (Value.ref _)) _ _ _)); (fail_if_success (with_reducible show Exists _)); first | (k_end; wrow_close) | ((with_reducible show wpAny _ _ (eval (PySem.Expr.Name _ _) _) _ _ _); (k_here; k_dflt (refine' nameX_L ?F ?v ?_ ?a ?b; (case F => k_asm); (case a => rfl); (case b => rfl); (case v => rfl); k_whole))) | walk1 | (dsimp only; first | ((with_reducible show wpAny _ _ (eval (PySem.Expr.Name _ _) _) _ _ _); (k_here; k_dflt (refine' nameX_L ?F ?v ?_ ?a ?b; (case F => k_asm); (case a => rfl); (case b => rfl); (case v => rfl); k_whole))) | walk1) | (leave1; walk_say "STEP leave1"; try dsimp only)))
      refine pickMix (j := i) hmx (News.get (by assumption) (.tail _ (List.mem_append_left _ h8))) rfl hi (by decide) ?_
      intro ta _ _ ma
      (try dsimp only); repeat' (first | (k_unfold; (try dsimp only)) | ((fail_if_success (with_reducible show wpAny _ _ (subscriptTail _ _ (Value.ref _) (Value.int _ _)) _ _ _)); (fail_if_success (with_reducible show wpAny _ _ (binaryOp Operator.Mult (Value.int _ _) (Value.int _ _)) _ _ _)); (fail_if_success (with_reducible show wpAny _ _ (call (Value.ref _) _) _ _ _)); (fail_if_success (with_reducible show wpAny _ _ (binaryOp Operator.Pow _ _) _ _ _)); (fail_if_success (with_reducible show wpAny _ _ (binaryOp Operator.FloorDiv _ _) _ _ _)); (fail_if_success (with_reducible show wpAny _ _ (binaryOp Operator.Mod _ _) _ _ _)); (fail_if_success (with_reducible show wpAny _ _ (compareOp _ (Value.ref _) (Value.ref _)) _ _ _)); (fail_if_success (with_reducible show Exists _)); first | (k_end; wrow_close) | ((with_reducible show wpAny _ _ (eval (PySem.Expr.Name _ _) _) _ _ _); (k_here; k_dflt (refine' nameX_L ?F ?v ?_ ?a ?b; (case F => k_asm); (case a => rfl); (case b => rfl); (case v => rfl); k_whole))) | walk1 | (dsimp only; first | ((with_reducible show wpAny _ _ (eval (PySem.Expr.Name _ _) _) _ _ _); (k_here; k_dflt (refine' nameX_L ?F ?v ?_ ?a ?b; (case F => k_asm); (case a => rfl); (case b => rfl); (case v => rfl); k_whole))) | walk1) | (leave1; walk_say "STEP leave1"; try dsimp only)))
      refine pickA (News.get (by assumption) (.tail _ (List.mem_append_left _ ma))) ?_
      (try dsimp only); repeat' (first | (k_unfold; (try dsimp only)) | ((fail_if_success (with_reducible show wpAny _ _ (subscriptTail _ _ (Value.ref _) (Value.int _ _)) _ _ _)); (fail_if_success (with_reducible show wpAny _ _ (binaryOp Operator.Mult (Value.int _ _) (Value.int _ _)) _ _ _)); (fail_if_success (with_reducible show wpAny _ _ (call (Value.ref _) _) _ _ _)); (fail_if_success (with_reducible show wpAny _ _ (binaryOp Operator.Pow _ _) _ _ _)); (fail_if_success (with_reducible show wpAny _ _ (binaryOp Operator.FloorDiv _ _) _ _ _)); (fail_if_success (with_reducible show wpAny _ _ (binaryOp Operator.Mod _ _) _ _ _)); (fail_if_success (with_reducible show wpAny _ _ (compareOp _ (Value.ref _) (Value.ref _)) _ _ _)); (fail_if_success (with_reducible show Exists _)); first | (k_end; wrow_close) | ((with_reducible show wpAny _ _ (eval (PySem.Expr.Name _ _) _) _ _ _); (k_here; k_dflt (refine' nameX_L ?F ?v ?_ ?a ?b; (case F => k_asm); (case a => rfl); (case b => rfl); (case v => rfl); k_whole))) | walk1 | (dsimp only; first | ((with_reducible show wpAny _ _ (eval (PySem.Expr.Name _ _) _) _ _ _); (k_here; k_dflt (refine' nameX_L ?F ?v ?_ ?a ?b; (case F => k_asm); (case a => rfl); (case b => rfl); (case v => rfl); k_whole))) | walk1) | (leave1; walk_say "STEP leave1"; try dsimp only)))
      refine pickMix (j := i) hmx (News.get (by assumption) (.tail _ (List.mem_append_left _ h8))) rfl hi (by decide) ?_
      intro tb _ _ mb
      (try dsimp only); repeat' (first | (k_unfold; (try dsimp only)) | ((fail_if_success (with_reducible show wpAny _ _ (subscriptTail _ _ (Value.ref _) (Value.int _ _)) _ _ _)); (fail_if_success (with_reducible show wpAny _ _ (binaryOp Operator.Mult (Value.int _ _) (Value.int _ _)) _ _ _)); (fail_if_success (with_reducible show wpAny _ _ (call (Value.ref _) _) _ _ _)); (fail_if_success (with_reducible show wpAny _ _ (binaryOp Operator.Pow _ _) _ _ _)); (fail_if_success (with_reducible show wpAny _ _ (binaryOp Operator.FloorDiv _ _) _ _ _)); (fail_if_success (with_reducible show wpAny _ _ (binaryOp Operator.Mod _ _) _ _ _)); (fail_if_success (with_reducible show wpAny _ _ (compareOp _ (Value.ref _) (Value.ref _)) _ _ _)); (fail_if_success (with_reducible show Exists _)); first | (k_end; wrow_close) | ((with_reducible show wpAny _ _ (eval (PySem.Expr.Name _ _) _) _ _ _); (k_here; k_dflt (refine' nameX_L ?F ?v ?_ ?a ?b; (case F => k_asm); (case a => rfl); (case b => rfl); (case v => rfl); k_whole))) | walk1 | (dsimp only; first | ((with_reducible show wpAny _ _ (eval (PySem.Expr.Name _ _) _) _ _ _); (k_here; k_dflt (refine' nameX_L ?F ?v ?_ ?a ?b; (case F => k_asm); (case a => rfl); (case b => rfl); (case v => rfl); k_whole))) | walk1) | (leave1; walk_say "STEP leave1"; try dsimp only)))
      refine pickB (News.get (by assumption) (.tail _ (List.mem_append_left _ mb))) ?_
      (try dsimp only); repeat' (first | (k_unfold; (try dsimp only)) | ((fail_if_success (with_reducible show wpAny _ _ (subscriptTail _ _ (Value.ref _) (Value.int _ _)) _ _ _)); (fail_if_success (with_reducible show wpAny _ _ (binaryOp Operator.Mult (Value.int _ _) (Value.int _ _)) _ _ _)); (fail_if_success (with_reducible show wpAny _ _ (call (Value.ref _) _) _ _ _)); (fail_if_success (with_reducible show wpAny _ _ (binaryOp Operator.Pow _ _) _ _ _)); (fail_if_success (with_reducible show wpAny _ _ (binaryOp Operator.FloorDiv _ _) _ _ _)); (fail_if_success (with_reducible show wpAny _ _ (binaryOp Operator.Mod _ _) _ _ _)); (fail_if_success (with_reducible show wpAny _ _ (compareOp _ (Value.ref _) (Value.ref _)) _ _ _)); (fail_if_success (with_reducible show Exists _)); first | (k_end; wrow_close) | ((with_reducible show wpAny _ _ (eval (PySem.Expr.Name _ _) _) _ _ _); (k_here; k_dflt (refine' nameX_L ?F ?v ?_ ?a ?b; (case F => k_asm); (case a => rfl); (case b => rfl); (case v => rfl); k_whole))) | walk1 | (dsimp only; first | ((with_reducible show wpAny _ _ (eval (PySem.Expr.Name _ _) _) _ _ _); (k_here; k_dflt (refine' nameX_L ?F ?v ?_ ?a ?b; (case F => k_asm); (case a => rfl); (case b => rfl); (case v => rfl); k_whole))) | walk1) | (leave1; walk_say "STEP leave1"; try dsimp only)))
      refine pickI (j := i) hus (News.get (by assumption) (.tail _ (List.mem_append_left _ h10))) rfl (by lia) (hu4 i hi).1 ?_
      intro
      generalize hTe : (v0 : Int) + ((10 ^ low : Nat) : Int) * (xs i + ys i * un i) = T9 at hT9
      (try dsimp only); repeat' (first | (k_unfold; (try dsimp only)) | ((fail_if_success (with_reducible show wpAny _ _ (subscriptTail _ _ (Value.ref _) (Value.int _ _)) _ _ _)); (fail_if_success (with_reducible show wpAny _ _ (binaryOp Operator.Mult (Value.int _ _) (Value.int _ _)) _ _ _)); (fail_if_success (with_reducible show wpAny _ _ (call (Value.ref _) _) _ _ _)); (fail_if_success (with_reducible show wpAny _ _ (binaryOp Operator.Pow _ _) _ _ _)); (fail_if_success (with_reducible show wpAny _ _ (binaryOp Operator.FloorDiv _ _) _ _ _)); (fail_if_success (with_reducible show wpAny _ _ (binaryOp Operator.Mod _ _) _ _ _)); (fail_if_success (with_reducible show wpAny _ _ (compareOp _ (Value.ref _) (Value.ref _)) _ _ _)); (fail_if_success (with_reducible show Exists _)); first | (k_end; wrow_close) | ((with_reducible show wpAny _ _ (eval (PySem.Expr.Name _ _) _) _ _ _); (k_here; k_dflt (refine' nameX_L ?F ?v ?_ ?a ?b; (case F => k_asm); (case a => rfl); (case b => rfl); (case v => rfl); k_whole))) | walk1 | (dsimp only; first | ((with_reducible show wpAny _ _ (eval (PySem.Expr.Name _ _) _) _ _ _); (k_here; k_dflt (refine' nameX_L ?F ?v ?_ ?a ?b; (case F => k_asm); (case a => rfl); (case b => rfl); (case v => rfl); k_whole))) | walk1) | (leave1; walk_say "STEP leave1"; try dsimp only)))
      refine mulR (hu4 i hi).2 ?_
      (try dsimp only); repeat' (first | (k_unfold; (try dsimp only)) | ((fail_if_success (with_reducible show wpAny _ _ (subscriptTail _ _ (Value.ref _) (Value.int _ _)) _ _ _)); (fail_if_success (with_reducible show wpAny _ _ (binaryOp Operator.Mult (Value.int _ _) (Value.int _ _)) _ _ _)); (fail_if_success (with_reducible show wpAny _ _ (call (Value.ref _) _) _ _ _)); (fail_if_success (with_reducible show wpAny _ _ (binaryOp Operator.Pow _ _) _ _ _)); (fail_if_success (with_reducible show wpAny _ _ (binaryOp Operator.FloorDiv _ _) _ _ _)); (fail_if_success (with_reducible show wpAny _ _ (binaryOp Operator.Mod _ _) _ _ _)); (fail_if_success (with_reducible show wpAny _ _ (compareOp _ (Value.ref _) (Value.ref _)) _ _ _)); (fail_if_success (with_reducible show Exists _)); first | (k_end; wrow_close) | ((with_reducible show wpAny _ _ (eval (PySem.Expr.Name _ _) _) _ _ _); (k_here; k_dflt (refine' nameX_L ?F ?v ?_ ?a ?b; (case F => k_asm); (case a => rfl); (case b => rfl); (case v => rfl); k_whole))) | walk1 | (dsimp only; first | ((with_reducible show wpAny _ _ (eval (PySem.Expr.Name _ _) _) _ _ _); (k_here; k_dflt (refine' nameX_L ?F ?v ?_ ?a ?b; (case F => k_asm); (case a => rfl); (case b => rfl); (case v => rfl); k_whole))) | walk1) | (leave1; walk_say "STEP leave1"; try dsimp only)))
      refine mulL (by rw [Int.natAbs_natCast]; exact Nat.lt_of_le_of_lt (Nat.pow_le_pow_right (by decide) hlow) (by decide)) ?_
      refine PyProof.Rows.add_int ?_
      rw [hTe]
      (try dsimp only); repeat' (first | (k_unfold; (try dsimp only)) | ((fail_if_success (with_reducible show wpAny _ _ (subscriptTail _ _ (Value.ref _) (Value.int _ _)) _ _ _)); (fail_if_success (with_reducible show wpAny _ _ (binaryOp Operator.Mult (Value.int _ _) (Value.int _ _)) _ _ _)); (fail_if_success (with_reducible show wpAny _ _ (call (Value.ref _) _) _ _ _)); (fail_if_success (with_reducible show wpAny _ _ (binaryOp Operator.Pow _ _) _ _ _)); (fail_if_success (with_reducible show wpAny _ _ (binaryOp Operator.FloorDiv _ _) _ _ _)); (fail_if_success (with_reducible show wpAny _ _ (binaryOp Operator.Mod _ _) _ _ _)); (fail_if_success (with_reducible show wpAny _ _ (compareOp _ (Value.ref _) (Value.ref _)) _ _ _)); (fail_if_success (with_reducible show Exists _)); first | (k_end; wrow_close) | ((with_reducible show wpAny _ _ (eval (PySem.Expr.Name _ _) _) _ _ _); (k_here; k_dflt (refine' nameX_L ?F ?v ?_ ?a ?b; (case F => k_asm); (case a => rfl); (case b => rfl); (case v => rfl); k_whole))) | walk1 | (dsimp only; first | ((with_reducible show wpAny _ _ (eval (PySem.Expr.Name _ _) _) _ _ _); (k_here; k_dflt (refine' nameX_L ?F ?v ?_ ?a ?b; (case F => k_asm); (case a => rfl); (case b => rfl); (case v => rfl); k_whole))) | walk1) | (leave1; walk_say "STEP leave1"; try dsimp only)))
      rename Fr _ _ _ _ => Fa
      rename News _ _ _ _ => Na
      refine idmP (rest := (I, _) :: rest) (tail := tail) G ?_ hA hdp0.1 hdp0.2 (by rw [Int.natAbs_natCast]; exact hN) Fa Na TL (hgtI _) h59 hbL ?_
      · simp only [depth_deeper]; lia
      clear Fa Na
      intro t h7 tk7 tail1 u1 u2 F7 N7 TL1 l7 hL7
      clear TL
      (try dsimp only)
      (try dsimp only); repeat' (first | (k_unfold; (try dsimp only)) | ((fail_if_success (with_reducible show wpAny _ _ (subscriptTail _ _ (Value.ref _) (Value.int _ _)) _ _ _)); (fail_if_success (with_reducible show wpAny _ _ (binaryOp Operator.Mult (Value.int _ _) (Value.int _ _)) _ _ _)); (fail_if_success (with_reducible show wpAny _ _ (call (Value.ref _) _) _ _ _)); (fail_if_success (with_reducible show wpAny _ _ (binaryOp Operator.Pow _ _) _ _ _)); (fail_if_success (with_reducible show wpAny _ _ (binaryOp Operator.FloorDiv _ _) _ _ _)); (fail_if_success (with_reducible show wpAny _ _ (binaryOp Operator.Mod _ _) _ _ _)); (fail_if_success (with_reducible show wpAny _ _ (compareOp _ (Value.ref _) (Value.ref _)) _ _ _)); (fail_if_success (with_reducible show Exists _)); first | (k_end; wrow_close) | ((with_reducible show wpAny _ _ (eval (PySem.Expr.Name _ _) _) _ _ _); (k_here; k_dflt (refine' nameX_L ?F ?v ?_ ?a ?b; (case F => k_asm); (case a => rfl); (case b => rfl); (case v => rfl); k_whole))) | walk1 | (dsimp only; first | ((with_reducible show wpAny _ _ (eval (PySem.Expr.Name _ _) _) _ _ _); (k_here; k_dflt (refine' nameX_L ?F ?v ?_ ?a ?b; (case F => k_asm); (case a => rfl); (case b => rfl); (case v => rfl); k_whole))) | walk1) | (leave1; walk_say "STEP leave1"; try dsimp only)))
      refine fdivI (by lia) (by lia) ?_
      (try dsimp only); repeat' (first | (k_unfold; (try dsimp only)) | ((fail_if_success (with_reducible show wpAny _ _ (subscriptTail _ _ (Value.ref _) (Value.int _ _)) _ _ _)); (fail_if_success (with_reducible show wpAny _ _ (binaryOp Operator.Mult (Value.int _ _) (Value.int _ _)) _ _ _)); (fail_if_success (with_reducible show wpAny _ _ (call (Value.ref _) _) _ _ _)); (fail_if_success (with_reducible show wpAny _ _ (binaryOp Operator.Pow _ _) _ _ _)); (fail_if_success (with_reducible show wpAny _ _ (binaryOp Operator.FloorDiv _ _) _ _ _)); (fail_if_success (with_reducible show wpAny _ _ (binaryOp Operator.Mod _ _) _ _ _)); (fail_if_success (with_reducible show wpAny _ _ (compareOp _ (Value.ref _) (Value.ref _)) _ _ _)); (fail_if_success (with_reducible show Exists _)); first | (k_end; wrow_close) | ((with_reducible show wpAny _ _ (eval (PySem.Expr.Name _ _) _) _ _ _); (k_here; k_dflt (refine' nameX_L ?F ?v ?_ ?a ?b; (case F => k_asm); (case a => rfl); (case b => rfl); (case v => rfl); k_whole))) | walk1 | (dsimp only; first | ((with_reducible show wpAny _ _ (eval (PySem.Expr.Name _ _) _) _ _ _); (k_here; k_dflt (refine' nameX_L ?F ?v ?_ ?a ?b; (case F => k_asm); (case a => rfl); (case b => rfl); (case v => rfl); k_whole))) | walk1) | (leave1; walk_say "STEP leave1"; try dsimp only)))
      refine mod_int' (by lia) ?_
      (try dsimp only); repeat' (first | (k_unfold; (try dsimp only)) | ((fail_if_success (with_reducible show wpAny _ _ (subscriptTail _ _ (Value.ref _) (Value.int _ _)) _ _ _)); (fail_if_success (with_reducible show wpAny _ _ (binaryOp Operator.Mult (Value.int _ _) (Value.int _ _)) _ _ _)); (fail_if_success (with_reducible show wpAny _ _ (call (Value.ref _) _) _ _ _)); (fail_if_success (with_reducible show wpAny _ _ (binaryOp Operator.Pow _ _) _ _ _)); (fail_if_success (with_reducible show wpAny _ _ (binaryOp Operator.FloorDiv _ _) _ _ _)); (fail_if_success (with_reducible show wpAny _ _ (binaryOp Operator.Mod _ _) _ _ _)); (fail_if_success (with_reducible show wpAny _ _ (compareOp _ (Value.ref _) (Value.ref _)) _ _ _)); (fail_if_success (with_reducible show Exists _)); first | (k_end; wrow_close) | ((with_reducible show wpAny _ _ (eval (PySem.Expr.Name _ _) _) _ _ _); (k_here; k_dflt (refine' nameX_L ?F ?v ?_ ?a ?b; (case F => k_asm); (case a => rfl); (case b => rfl); (case v => rfl); k_whole))) | walk1 | (dsimp only; first | ((with_reducible show wpAny _ _ (eval (PySem.Expr.Name _ _) _) _ _ _); (k_here; k_dflt (refine' nameX_L ?F ?v ?_ ?a ?b; (case F => k_asm); (case a => rfl); (case b => rfl); (case v => rfl); k_whole))) | walk1) | (leave1; walk_say "STEP leave1"; try dsimp only)))
      rename Fr _ _ _ _ => Fa
      rename News _ _ _ _ => Na
      refine neTup (Na.get (.tail _ (.head _))) (Na.get (.head _)) (by show A.units + 3 + 64 < cLine; lia) rfl rfl ?_
      replace Na : News (hid b) L _ ((I, rngIt (i + 1 : Nat) (k - 1 : Nat)) :: (rest ++ tail1)) := fun q hq => Na q (.tail _ (.tail _ hq))
      repeat (rename (@LT.lt Nat _ L _) => hx9; clear hx9)
      (try dsimp only)
      (try dsimp only); repeat' (first | (k_unfold; (try dsimp only)) | ((fail_if_success (with_reducible show wpAny _ _ (subscriptTail _ _ (Value.ref _) (Value.int _ _)) _ _ _)); (fail_if_success (with_reducible show wpAny _ _ (binaryOp Operator.Mult (Value.int _ _) (Value.int _ _)) _ _ _)); (fail_if_success (with_reducible show wpAny _ _ (call (Value.ref _) _) _ _ _)); (fail_if_success (with_reducible show wpAny _ _ (binaryOp Operator.Pow _ _) _ _ _)); (fail_if_success (with_reducible show wpAny _ _ (binaryOp Operator.FloorDiv _ _) _ _ _)); (fail_if_success (with_reducible show wpAny _ _ (binaryOp Operator.Mod _ _) _ _ _)); (fail_if_success (with_reducible show wpAny _ _ (compareOp _ (Value.ref _) (Value.ref _)) _ _ _)); (fail_if_success (with_reducible show Exists _)); first | (k_end; wrow_close) | ((with_reducible show wpAny _ _ (eval (PySem.Expr.Name _ _) _) _ _ _); (k_here; k_dflt (refine' nameX_L ?F ?v ?_ ?a ?b; (case F => k_asm); (case a => rfl); (case b => rfl); (case v => rfl); k_whole))) | walk1 | (dsimp only; first | ((with_reducible show wpAny _ _ (eval (PySem.Expr.Name _ _) _) _ _ _); (k_here; k_dflt (refine' nameX_L ?F ?v ?_ ?a ?b; (case F => k_asm); (case a => rfl); (case b => rfl); (case v => rfl); k_whole))) | walk1) | (leave1; walk_say "STEP leave1"; try dsimp only)))
      rename Fr _ _ _ _ => Fa
      rename News _ _ _ _ => Na
      refine idmP (rest := (I, _) :: rest) (tail := tail1) G ?_ hA hdp0.1 hdp0.2 hT9.1 Fa Na TL1 (hgtI _) h59 hbL ?_
      · simp only [depth_deeper]; lia
      clear Fa Na
      intro t h7 tk7 tail2 u1 u2 F7 N7 TL2 l7 hL7
      clear TL1
      (try dsimp only)
      (try dsimp only); repeat' (first | (k_unfold; (try dsimp only)) | ((fail_if_success (with_reducible show wpAny _ _ (subscriptTail _ _ (Value.ref _) (Value.int _ _)) _ _ _)); (fail_if_success (with_reducible show wpAny _ _ (binaryOp Operator.Mult (Value.int _ _) (Value.int _ _)) _ _ _)); (fail_if_success (with_reducible show wpAny _ _ (call (Value.ref _) _) _ _ _)); (fail_if_success (with_reducible show wpAny _ _ (binaryOp Operator.Pow _ _) _ _ _)); (fail_if_success (with_reducible show wpAny _ _ (binaryOp Operator.FloorDiv _ _) _ _ _)); (fail_if_success (with_reducible show wpAny _ _ (binaryOp Operator.Mod _ _) _ _ _)); (fail_if_success (with_reducible show wpAny _ _ (compareOp _ (Value.ref _) (Value.ref _)) _ _ _)); (fail_if_success (with_reducible show Exists _)); first | (k_end; wrow_close) | ((with_reducible show wpAny _ _ (eval (PySem.Expr.Name _ _) _) _ _ _); (k_here; k_dflt (refine' nameX_L ?F ?v ?_ ?a ?b; (case F => k_asm); (case a => rfl); (case b => rfl); (case v => rfl); k_whole))) | walk1 | (dsimp only; first | ((with_reducible show wpAny _ _ (eval (PySem.Expr.Name _ _) _) _ _ _); (k_here; k_dflt (refine' nameX_L ?F ?v ?_ ?a ?b; (case F => k_asm); (case a => rfl); (case b => rfl); (case v => rfl); k_whole))) | walk1) | (leave1; walk_say "STEP leave1"; try dsimp only)))
      refine fdivI (by lia) (by lia) ?_
      (try dsimp only); repeat' (first | (k_unfold; (try dsimp only)) | ((fail_if_success (with_reducible show wpAny _ _ (subscriptTail _ _ (Value.ref _) (Value.int _ _)) _ _ _)); (fail_if_success (with_reducible show wpAny _ _ (binaryOp Operator.Mult (Value.int _ _) (Value.int _ _)) _ _ _)); (fail_if_success (with_reducible show wpAny _ _ (call (Value.ref _) _) _ _ _)); (fail_if_success (with_reducible show wpAny _ _ (binaryOp Operator.Pow _ _) _ _ _)); (fail_if_success (with_reducible show wpAny _ _ (binaryOp Operator.FloorDiv _ _) _ _ _)); (fail_if_success (with_reducible show wpAny _ _ (binaryOp Operator.Mod _ _) _ _ _)); (fail_if_success (with_reducible show wpAny _ _ (compareOp _ (Value.ref _) (Value.ref _)) _ _ _)); (fail_if_success (with_reducible show Exists _)); first | (k_end; wrow_close) | ((with_reducible show wpAny _ _ (eval (PySem.Expr.Name _ _) _) _ _ _); (k_here; k_dflt (refine' nameX_L ?F ?v ?_ ?a ?b; (case F => k_asm); (case a => rfl); (case b => rfl); (case v => rfl); k_whole))) | walk1 | (dsimp only; first | ((with_reducible show wpAny _ _ (eval (PySem.Expr.Name _ _) _) _ _ _); (k_here; k_dflt (refine' nameX_L ?F ?v ?_ ?a ?b; (case F => k_asm); (case a => rfl); (case b => rfl); (case v => rfl); k_whole))) | walk1) | (leave1; walk_say "STEP leave1"; try dsimp only)))
      refine mod_int' (by lia) ?_
      (try dsimp only); repeat' (first | (k_unfold; (try dsimp only)) | ((fail_if_success (with_reducible show wpAny _ _ (subscriptTail _ _ (Value.ref _) (Value.int _ _)) _ _ _)); (fail_if_success (with_reducible show wpAny _ _ (binaryOp Operator.Mult (Value.int _ _) (Value.int _ _)) _ _ _)); (fail_if_success (with_reducible show wpAny _ _ (call (Value.ref _) _) _ _ _)); (fail_if_success (with_reducible show wpAny _ _ (binaryOp Operator.Pow _ _) _ _ _)); (fail_if_success (with_reducible show wpAny _ _ (binaryOp Operator.FloorDiv _ _) _ _ _)); (fail_if_success (with_reducible show wpAny _ _ (binaryOp Operator.Mod _ _) _ _ _)); (fail_if_success (with_reducible show wpAny _ _ (compareOp _ (Value.ref _) (Value.ref _)) _ _ _)); (fail_if_success (with_reducible show Exists _)); first | (k_end; wrow_close) | ((with_reducible show wpAny _ _ (eval (PySem.Expr.Name _ _) _) _ _ _); (k_here; k_dflt (refine' nameX_L ?F ?v ?_ ?a ?b; (case F => k_asm); (case a => rfl); (case b => rfl); (case v => rfl); k_whole))) | walk1 | (dsimp only; first | ((with_reducible show wpAny _ _ (eval (PySem.Expr.Name _ _) _) _ _ _); (k_here; k_dflt (refine' nameX_L ?F ?v ?_ ?a ?b; (case F => k_asm); (case a => rfl); (case b => rfl); (case v => rfl); k_whole))) | walk1) | (leave1; walk_say "STEP leave1"; try dsimp only)))
      rename Fr _ _ _ _ => Fa
      rename News _ _ _ _ => Na
      refine neTup (Na.get (.tail _ (.head _))) (Na.get (.head _)) (by show A.units + 3 + 64 < cLine; lia) rfl hT9.2 ?_
      replace Na : News (hid b) L _ ((I, rngIt (i + 1 : Nat) (k - 1 : Nat)) :: (rest ++ tail2)) := fun q hq => Na q (.tail _ (.tail _ hq))
      repeat (rename (@LT.lt Nat _ L _) => hx9; clear hx9)
      (try dsimp only)
      (try dsimp only); repeat' (first | (k_unfold; (try dsimp only)) | ((fail_if_success (with_reducible show wpAny _ _ (subscriptTail _ _ (Value.ref _) (Value.int _ _)) _ _ _)); (fail_if_success (with_reducible show wpAny _ _ (binaryOp Operator.Mult (Value.int _ _) (Value.int _ _)) _ _ _)); (fail_if_success (with_reducible show wpAny _ _ (call (Value.ref _) _) _ _ _)); (fail_if_success (with_reducible show wpAny _ _ (binaryOp Operator.Pow _ _) _ _ _)); (fail_if_success (with_reducible show wpAny _ _ (binaryOp Operator.FloorDiv _ _) _ _ _)); (fail_if_success (with_reducible show wpAny _ _ (binaryOp Operator.Mod _ _) _ _ _)); (fail_if_success (with_reducible show wpAny _ _ (compareOp _ (Value.ref _) (Value.ref _)) _ _ _)); (fail_if_success (with_reducible show Exists _)); first | (k_end; wrow_close) | ((with_reducible show wpAny _ _ (eval (PySem.Expr.Name _ _) _) _ _ _); (k_here; k_dflt (refine' nameX_L ?F ?v ?_ ?a ?b; (case F => k_asm); (case a => rfl); (case b => rfl); (case v => rfl); k_whole))) | walk1 | (dsimp only; first | ((with_reducible show wpAny _ _ (eval (PySem.Expr.Name _ _) _) _ _ _); (k_here; k_dflt (refine' nameX_L ?F ?v ?_ ?a ?b; (case F => k_asm); (case a => rfl); (case b => rfl); (case v => rfl); k_whole))) | walk1) | (leave1; walk_say "STEP leave1"; try dsimp only)))
      rename Fr _ _ _ _ => Fa
      rename News _ _ _ _ => Na
      refine idmM (rest := (I, _) :: rest) (tail := tail2) G ?_ hA hdp0.1 hdp0.2 hT9.1 Fa Na TL2 (hgtI _) h59 hbL ?_
      · simp only [depth_deeper]; lia
      clear Fa Na
      intro t h7 tk7 tail3 u1 u2 F7 N7 TL3 l7 hL7
      clear TL2
      (try dsimp only)
      (try dsimp only); repeat' (first | (k_unfold; (try dsimp only)) | ((fail_if_success (with_reducible show wpAny _ _ (subscriptTail _ _ (Value.ref _) (Value.int _ _)) _ _ _)); (fail_if_success (with_reducible show wpAny _ _ (binaryOp Operator.Mult (Value.int _ _) (Value.int _ _)) _ _ _)); (fail_if_success (with_reducible show wpAny _ _ (call (Value.ref _) _) _ _ _)); (fail_if_success (with_reducible show wpAny _ _ (binaryOp Operator.Pow _ _) _ _ _)); (fail_if_success (with_reducible show wpAny _ _ (binaryOp Operator.FloorDiv _ _) _ _ _)); (fail_if_success (with_reducible show wpAny _ _ (binaryOp Operator.Mod _ _) _ _ _)); (fail_if_success (with_reducible show wpAny _ _ (compareOp _ (Value.ref _) (Value.ref _)) _ _ _)); (fail_if_success (with_reducible show Exists _)); first | (k_end; wrow_close) | ((with_reducible show wpAny _ _ (eval (PySem.Expr.Name _ _) _) _ _ _); (k_here; k_dflt (refine' nameX_L ?F ?v ?_ ?a ?b; (case F => k_asm); (case a => rfl); (case b => rfl); (case v => rfl); k_whole))) | walk1 | (dsimp only; first | ((with_reducible show wpAny _ _ (eval (PySem.Expr.Name _ _) _) _ _ _); (k_here; k_dflt (refine' nameX_L ?F ?v ?_ ?a ?b; (case F => k_asm); (case a => rfl); (case b => rfl); (case v => rfl); k_whole))) | walk1) | (leave1; walk_say "STEP leave1"; try dsimp only)))
      refine fdivI (by lia) (by lia) ?_
      (try dsimp only); repeat' (first | (k_unfold; (try dsimp only)) | ((fail_if_success (with_reducible show wpAny _ _ (subscriptTail _ _ (Value.ref _) (Value.int _ _)) _ _ _)); (fail_if_success (with_reducible show wpAny _ _ (binaryOp Operator.Mult (Value.int _ _) (Value.int _ _)) _ _ _)); (fail_if_success (with_reducible show wpAny _ _ (call (Value.ref _) _) _ _ _)); (fail_if_success (with_reducible show wpAny _ _ (binaryOp Operator.Pow _ _) _ _ _)); (fail_if_success (with_reducible show wpAny _ _ (binaryOp Operator.FloorDiv _ _) _ _ _)); (fail_if_success (with_reducible show wpAny _ _ (binaryOp Operator.Mod _ _) _ _ _)); (fail_if_success (with_reducible show wpAny _ _ (compareOp _ (Value.ref _) (Value.ref _)) _ _ _)); (fail_if_success (with_reducible show Exists _)); first | (k_end; wrow_close) | ((with_reducible show wpAny _ _ (eval (PySem.Expr.Name _ _) _) _ _ _); (k_here; k_dflt (refine' nameX_L ?F ?v ?_ ?a ?b; (case F => k_asm); (case a => rfl); (case b => rfl); (case v => rfl); k_whole))) | walk1 | (dsimp only; first | ((with_reducible show wpAny _ _ (eval (PySem.Expr.Name _ _) _) _ _ _); (k_here; k_dflt (refine' nameX_L ?F ?v ?_ ?a ?b; (case F => k_asm); (case a => rfl); (case b => rfl); (case v => rfl); k_whole))) | walk1) | (leave1; walk_say "STEP leave1"; try dsimp only)))
      refine mod_int' (by lia) ?_
      (try dsimp only); repeat' (first | (k_unfold; (try dsimp only)) | ((fail_if_success (with_reducible show wpAny _ _ (subscriptTail _ _ (Value.ref _) (Value.int _ _)) _ _ _)); (fail_if_success (with_reducible show wpAny _ _ (binaryOp Operator.Mult (Value.int _ _) (Value.int _ _)) _ _ _)); (fail_if_success (with_reducible show wpAny _ _ (call (Value.ref _) _) _ _ _)); (fail_if_success (with_reducible show wpAny _ _ (binaryOp Operator.Pow _ _) _ _ _)); (fail_if_success (with_reducible show wpAny _ _ (binaryOp Operator.FloorDiv _ _) _ _ _)); (fail_if_success (with_reducible show wpAny _ _ (binaryOp Operator.Mod _ _) _ _ _)); (fail_if_success (with_reducible show wpAny _ _ (compareOp _ (Value.ref _) (Value.ref _)) _ _ _)); (fail_if_success (with_reducible show Exists _)); first | (k_end; wrow_close) | ((with_reducible show wpAny _ _ (eval (PySem.Expr.Name _ _) _) _ _ _); (k_here; k_dflt (refine' nameX_L ?F ?v ?_ ?a ?b; (case F => k_asm); (case a => rfl); (case b => rfl); (case v => rfl); k_whole))) | walk1 | (dsimp only; first | ((with_reducible show wpAny _ _ (eval (PySem.Expr.Name _ _) _) _ _ _); (k_here; k_dflt (refine' nameX_L ?F ?v ?_ ?a ?b; (case F => k_asm); (case a => rfl); (case b => rfl); (case v => rfl); k_whole))) | walk1) | (leave1; walk_say "STEP leave1"; try dsimp only)))
      rename Fr _ _ _ _ => Fa
      rename News _ _ _ _ => Na
      refine neTup (Na.get (.tail _ (.head _))) (Na.get (.head _)) (by show A.units + 3 + 64 < cLine; lia) rfl rfl ?_
      replace Na : News (hid b) L _ ((I, rngIt (i + 1 : Nat) (k - 1 : Nat)) :: (rest ++ tail3)) := fun q hq => Na q (.tail _ (.tail _ hq))
      repeat (rename (@LT.lt Nat _ L _) => hx9; clear hx9)
      (try dsimp only)
      (try dsimp only); repeat' (first | (k_unfold; (try dsimp only)) | ((fail_if_success (with_reducible show wpAny _ _ (subscriptTail _ _ (Value.ref _) (Value.int _ _)) _ _ _)); (fail_if_success (with_reducible show wpAny _ _ (binaryOp Operator.Mult (Value.int _ _) (Value.int _ _)) _ _ _)); (fail_if_success (with_reducible show wpAny _ _ (call (Value.ref _) _) _ _ _)); (fail_if_success (with_reducible show wpAny _ _ (binaryOp Operator.Pow _ _) _ _ _)); (fail_if_success (with_reducible show wpAny _ _ (binaryOp Operator.FloorDiv _ _) _ _ _)); (fail_if_success (with_reducible show wpAny _ _ (binaryOp Operator.Mod _ _) _ _ _)); (fail_if_success (with_reducible show wpAny _ _ (compareOp _ (Value.ref _) (Value.ref _)) _ _ _)); (fail_if_success (with_reducible show Exists _)); first | (k_end; wrow_close) | ((with_reducible show wpAny _ _ (eval (PySem.Expr.Name _ _) _) _ _ _); (k_here; k_dflt (refine' nameX_L ?F ?v ?_ ?a ?b; (case F => k_asm); (case a => rfl); (case b => rfl); (case v => rfl); k_whole))) | walk1 | (dsimp only; first | ((with_reducible show wpAny _ _ (eval (PySem.Expr.Name _ _) _) _ _ _); (k_here; k_dflt (refine' nameX_L ?F ?v ?_ ?a ?b; (case F => k_asm); (case a => rfl); (case b => rfl); (case v => rfl); k_whole))) | walk1) | (leave1; walk_say "STEP leave1"; try dsimp only)))
      exact ⟨k - 1, by lia, _, _, i + 1, tail3, _, _, _, rfl, frCongr Fa (fun y => over3d), Na, TL3, by lia⟩
end
end Mine
end
section
open PySem PySem.W PySem.Calls PyProof.Rows
set_option maxRecDepth 100000
set_option maxHeartbeats 8000000
namespace Mine
section
variable {w : World} {A : Around} {E : Value → Shared → Prop} {s : Shared} {h₀ : Heap} {L I T : Addr} {m : Str → Option Value} {rest : List (Addr × Obj)} {items : Array Value} {oI : Obj} {i : Nat}
theorem tupIter {Q : Value → Shared → Prop} (F : Fr h₀ L s.heap m) (N : News h₀ L s.heap rest) (hT : (T, tupO items) ∈ rest)
    (h : ∀ I h' oI, Fr h₀ L h' m → News h₀ L h' ((I, oI) :: rest) → oI.cls = .type "tuple_iterator" → oI.data = .fields #[.ref T, .int ((0 : Nat) : Int) 0] → (∀ p ∈ rest, p.1 < I) → L < I → Q (.ref I) { s with heap := h' }) : wpAny (model PySem.Challenge.rw_rl0106_01.row.prog w) A (pyIter (.ref T)) Q E s := by
  refine iter_tuple (items := items) ⟨_, N.get hT, rfl, _, rfl⟩ ?_
  exact h _ _ _ (F.push _) (N.push F _) rfl rfl (fun p hp => Heap.lt_size (N p hp).1) F.ns.lt
theorem tupNext {x : Value} {Q : Option Value → Shared → Prop} (F : Fr h₀ L s.heap m) (N : News h₀ L s.heap ((I, oI) :: rest)) (hT : (T, tupO items) ∈ rest) (ci : oI.cls = .type "tuple_iterator") (di : oI.data = .fields #[.ref T, .int (i : Int) 0]) (hne : ∀ p ∈ rest, p.1 ≠ I) (hx : items[i]? = some x)
    (h : ∀ h' oI', Fr h₀ L h' m → News h₀ L h' ((I, oI') :: rest) → oI'.cls = .type "tuple_iterator" → oI'.data = .fields #[.ref T, .int ((i + 1 : Nat) : Int) 0] → Q (some x) { s with heap := h' }) : wpAny (model PySem.Challenge.rw_rl0106_01.row.prog w) A (pyNext (.ref I)) Q E s := by
  have z := N _ (.head _)
  refine next_tuple_item (i := i) (items := items) ⟨_, N.get (.head _), ci, di⟩ ⟨_, N.get (.tail _ hT), rfl, _, rfl⟩ hx fun h' it sb => ?_
  obtain ⟨o', g', c', d'⟩ := it
  refine h h' o' (F.change sb z.2.1 z.2.2) (fun q hq => ?_) c' d'
  rcases List.mem_cons.mp hq with rfl | hq
  · exact ⟨g', z.2⟩
  · have y := N q (.tail _ hq)
    exact ⟨(sb.2 _ (hne q hq)).trans y.1, y.2⟩
theorem tupEnd {Q : Option Value → Shared → Prop} (hA : A.handled = none) (F : Fr h₀ L s.heap m) (N : News h₀ L s.heap ((I, oI) :: rest)) (hT : (T, tupO items) ∈ rest) (ci : oI.cls = .type "tuple_iterator") (di : oI.data = .fields #[.ref T, .int (i : Int) 0]) (hne : ∀ p ∈ rest, p.1 ≠ I) (hx : items[i]? = none)
    (h : ∀ h', Fr h₀ L h' m → News h₀ L h' rest → Q none { s with heap := h' }) : wpAny (model PySem.Challenge.rw_rl0106_01.row.prog w) A (pyNext (.ref I)) Q E s := by
  have z := N _ (.head _)
  refine next_tuple_end (i := i) (items := items) hA ⟨_, N.get (.head _), ci, di⟩ ⟨_, N.get (.tail _ hT), rfl, _, rfl⟩ hx fun h' x => ?_
  refine h h' (frExtBut F x z.2) fun q hq => ?_
  have y := N q (.tail _ hq)
  exact ⟨x _ _ (hne q hq) y.1, y.2⟩
end
/-- the wave's list -/
def waveL : List Int := [2, 1, -1, -2, -1, 1]
def waveV (r : Nat) : Int := waveL[r]?.getD 0
theorem wave_get : ∀ r, r < 6 → waveL[r]? = some (waveV r) ∧ (waveV r).natAbs < 2 ^ 64 := by decide
theorem wave_at (r : Nat) : waveL[r % 6]? = some (waveV (r % 6)) := (wave_get _ (Nat.mod_lt _ (by decide))).1
theorem wave_fit (r : Nat) : (waveV (r % 6)).natAbs < 2 ^ 64 := (wave_get _ (Nat.mod_lt _ (by decide))).2
theorem wave_i1 (j i : Nat) : (((j : Int)) * (i : Int)).fmod 6 = ((j * i % 6 : Nat) : Int) := by
  rw [Int.fmod_eq_emod_of_nonneg _ (by decide)]; push_cast; rfl
theorem wave_i2 (j i : Nat) : (((j : Int)) * (i : Int) - 1).fmod 6 = (((j * i + 5) % 6 : Nat) : Int) := by
  rw [Int.fmod_eq_emod_of_nonneg _ (by decide), ← Int.natCast_mul]; lia
/-- the sum of every sixth lamp from the r-th on -/
def sixI (n r : Nat) : List Nat := (List.range n).filter (fun k => k % 6 == r)
def sixS (ls : List Nat) (r : Nat) : Int := ((sixI ls.length r).filterMap (fun k => (castL ls)[k]?)).sum
theorem six_idx : ∀ n : Nat, n ≤ 20 → ∀ r : Nat, r < 6 → sliceRange (sliceBounds (some (r : Int)) none (some 6) n).1 (sliceBounds (some (r : Int)) none (some 6) n).2.1 (sliceBounds (some (r : Int)) none (some 6) n).2.2 = sixI n r := by decide +kernel
theorem pick_at {vs : List Value} {ns : List Int} (hI : IntsAre vs ns) : ∀ idx : List Nat, IntsAre (idx.filterMap (vs.toArray[·]?)) (idx.filterMap (fun k => ns[k]?))
  | [] => .nil
  | k :: r => by
    have ih := pick_at hI r
    rcases Nat.lt_or_ge k ns.length with hk | hk
    · obtain ⟨t, e⟩ := hI.get k ns[k] (List.getElem?_eq_getElem hk)
      rw [List.filterMap_cons_some (b := ns[k]) (List.getElem?_eq_getElem hk), List.filterMap_cons_some (b := .int ns[k] t) (by simpa using e)]
      exact .cons _ _ ih
    · have hv : vs[k]? = none := by rw [List.getElem?_eq_none_iff, hI.length]; exact hk
      rw [List.filterMap_cons_none (f := fun k => ns[k]?) (by show ns[k]? = none; rw [List.getElem?_eq_none_iff]; exact hk), List.filterMap_cons_none (f := (vs.toArray[·]?)) (by show vs.toArray[k]? = none; rw [List.getElem?_toArray]; exact hv)]
      exact ih
theorem six_pick {vs : List Value} {ls : List Nat} {r : Nat} (hI : IntsAre vs (castL ls)) (hlen : ls.length ≤ 20) (hr : r < 6) :
    IntsAre (slicePick vs.toArray (some (r : Int)) none (some 6)).toList ((sixI ls.length r).filterMap (fun k => (castL ls)[k]?)) := by
  unfold slicePick
  have hz : vs.toArray.size = ls.length := by rw [List.size_toArray, hI.length, castL, List.length_map]
  rw [hz, six_idx _ hlen _ hr]
  exact pick_at hI _
def packF (S : Nat → Int) (B : Nat) : Nat → Int
  | 0 => 0
  | k + 1 => packF S B k + S k * (B : Int) ^ k
section
variable {prog : Program} {w : World} {A : Around} {E : Value → Shared → Prop} {s : Shared} {Q : Value → Shared → Prop}
theorem powM1 {k : Nat} {t u : Tok} (hk : k ≤ 100) (h : Q (.int ((-1) ^ k) s.toks) { s with toks := s.toks + 1 }) : wpAny (model prog w) A (binaryOp .Pow (.int (-1) t) (.int (k : Int) u)) Q E s :=
  pow_int_small (Int.natCast_nonneg _) (by lia) (by decide) (by simpa using h)
end
end Mine
end
section
open PySem PySem.W PySem.Calls PyProof.Rows
set_option maxRecDepth 100000
set_option maxHeartbeats 8000000
namespace Mine

def accS (a0 : Int) (a : Nat → Int) : Nat → Int
  | 0 => a0
  | k + 1 => accS a0 a k + a (k + 1)
theorem ov4 {m9 M : Str → Option Value} {a b c d : Str} {A : Option Value} (hA : m9 a = A) (hr : ∀ y, y ≠ a → y ≠ b → y ≠ c → y ≠ d → m9 y = M y) (y : Str) :
    m9 y = if y = a then A else if y = b then m9 b else if y = c then m9 c else if y = d then m9 d else M y := by
  by_cases a1 : y = a
  · rw [if_pos a1, a1, hA]
  by_cases a2 : y = b
  · rw [if_neg a1, if_pos a2, a2]
  by_cases a3 : y = c
  · rw [if_neg a1, if_neg a2, if_pos a3, a3]
  by_cases a4 : y = d
  · rw [if_neg a1, if_neg a2, if_neg a3, if_pos a4, a4]
  rw [if_neg a1, if_neg a2, if_neg a3, if_neg a4]
  exact hr y a1 a2 a3 a4
/-- what holds between the turns of the inner loop -/
inductive InInv (b : Heap) (L J T : Addr) (M : Str → Option Value) (a0 : Int) (a : Nat → Int) (news : List (Addr × Obj)) (S : Shared) (k : Nat) (s' : Shared) : Prop
  | mk (h' : Heap) (tk' j : Nat) (oJ : Obj) (t6 : Tok) (ul : Option Value)
    (h1 : s' = { S with heap := h', toks := tk' })
    (h2 : Fr (hid b) L h' (fun z => if z = Str.ofString "six" then some (.int (accS a0 a j) t6) else if z = Str.ofString "leap" then ul else M z))
    (h3 : News (hid b) L h' ((J, oJ) :: news))
    (h4 : oJ.cls = .type "tuple_iterator")
    (h5 : oJ.data = .fields #[.ref T, .int (j : Int) 0])
    (h6 : j + k = 2) : InInv b L J T M a0 a news S k s'
theorem inv1 (M : Str → Option Value) (a c : Str) {A : Option Value} (hA : M a = A) (y : Str) : M y = if y = a then A else if y = c then M c else M y := by
  by_cases h1 : y = a
  · rw [if_pos h1, h1, hA]
  · rw [if_neg h1]
    by_cases h2 : y = c
    · rw [if_pos h2, h2]
    · rw [if_neg h2]
theorem over2d {a b y : Str} {A B A' B' M : Option Value} : (if y = a then A else if y = b then B else if y = a then A' else if y = b then B' else M) = if y = a then A else if y = b then B else M := by
  by_cases h1 : y = a
  · simp only [if_pos h1]
  · by_cases h2 : y = b
    · simp only [if_neg h1, if_pos h2]
    · simp only [if_neg h1, if_neg h2]
/-- what holds between the turns of the law's third loop -/
inductive WvInv (b : Heap) (L I : Addr) (M : Str → Option Value) (Sx : Nat → Int) (B : Nat) (news : List (Addr × Obj)) (S : Shared) (k : Nat) (s' : Shared) : Prop
  | mk (h' : Heap) (tk' i : Nat) (P : Int) (tP : Tok) (us ul um : Option Value)
    (h1 : s' = { S with heap := h', toks := tk' })
    (h2 : Fr (hid b) L h' (fun z => if z = Str.ofString "packed" then some (.int P tP) else if z = Str.ofString "six" then us else if z = Str.ofString "leap" then ul else if z = Str.ofString "m" then um else M z))
    (h3 : News (hid b) L h' ((I, rngIt (i : Int) (k : Int)) :: news))
    (h4 : i + k = 6)
    (h5 : P = packF Sx B i) : WvInv b L I M Sx B news S k s'
section
variable {w : World} {A : Around} {s : Shared} {sc : Scope} {p : Program} {loose : List Str} {mean : ExcName → Option Value} {mg mb : Str → Option Value} {b : Heap} {L : Addr} {m : Str → Option Value}
theorem law_wave {R : Flow → Shared → Prop} {D4 D7 D8 : Addr} {oC : Obj} {N low B e7 e8 : Nat} {tN tL tB : Tok} {acc ws : List Value} {ls : List Nat} {news : List (Addr × Obj)} {xs ys : Nat → Int} (hsc : lawScope w.params = some sc)
    (G : Gr w p loose mean mg mb b) (hd : A.depth + 260 < recursionLimit) (hA : A.handled = none) (hU : A.units + 1000 < cLine)
    (F : Fr (hid b) L s.heap (fun z => if z = Str.ofString "mixes" then some (.ref D8) else if z = Str.ofString "values" then some (.ref D4) else if z = Str.ofString "base" then some (.int (B : Int) tB) else if z = Str.ofString "low" then some (.int (low : Int) tL) else if z = Str.ofString "number" then some (.int (N : Int) tN) else m z))
    (N0 : News (hid b) L s.heap news) (h7 : (D7, W.listOf ws.toArray e7) ∈ news) (h8 : (D8, W.listOf acc.toArray e8) ∈ news) (hcC : (L + 1, oC) ∈ news) (dC : oC.data = .cell (some (.ref D7)))
    (hmx : MixAre xs ys acc news 4) (hI : IntsAre ws (castL ls)) (hlen : ls.length ≤ 20) (hB : 2 ≤ B ∧ B ≤ 1000)
    (hS : ∀ i, i < 6 → accS (xs 0 + (-1) ^ i * xs 3) (fun l => xs l * waveV (l * i % 6) + ys l * waveV ((l * i + 5) % 6)) 2 = 6 * sixS ls i)
    (h : ∀ h' tk' tP us ul um Dw, Fr (hid b) L h' (fun z => if z = Str.ofString "packed" then some (.int (packF (sixS ls) B 6) tP) else if z = Str.ofString "six" then us else if z = Str.ofString "leap" then ul else if z = Str.ofString "m" then um else if z = Str.ofString "wave" then some (.ref Dw) else if z = Str.ofString "mixes" then some (.ref D8) else if z = Str.ofString "values" then some (.ref D4) else if z = Str.ofString "base" then some (.int (B : Int) tB) else if z = Str.ofString "low" then some (.int (low : Int) tL) else if z = Str.ofString "number" then some (.int (N : Int) tN) else m z) → News (hid b) L h' news →
      wpAny (model PySem.Challenge.rw_rl0106_01.row.prog w) (A.deeper (envOfC (Str.ofString "law") sc L 123 (.ref 122))) (execs ((lawBody w.params).drop 22) (envOfC (Str.ofString "law") sc L 123 (.ref 122))) R (fun _ _ => False) { s with heap := h', toks := tk' }) :
    wpAny (model PySem.Challenge.rw_rl0106_01.row.prog w) (A.deeper (envOfC (Str.ofString "law") sc L 123 (.ref 122))) (execs ((lawBody w.params).drop 19) (envOfC (Str.ofString "law") sc L 123 (.ref 122))) R (fun _ _ => False) s := by
  cases hsc
  have X := G.X
  have T := G.T
  revert X; k_fill; intro X
  revert h
  generalize hR : (lawBody w.params).drop 22 = rs
  intro h
  have e0 : (lawBody w.params).drop 19 = ((lawBody w.params).drop 19).take 3 ++ rs := by rw [← hR]; rfl
  rw [e0]
  clear e0
  dsimp only [lawBody, Mine.o123, Mine.s123, List.drop_succ_cons, List.drop_zero, List.take_succ_cons, List.take_zero, List.cons_append, List.nil_append]
  replace h := Hide.mk h
  replace hS := Hide.mk hS
  (try dsimp only); repeat' (first | (k_unfold; (try dsimp only)) | ((fail_if_success (with_reducible show wpAny _ _ (exec (Stmt.For _ _ _ _ _) _) _ _ _)); (fail_if_success (with_reducible show Exists _)); first | (k_end; wrow_close) | ((with_reducible show wpAny _ _ (eval (PySem.Expr.Name _ _) _) _ _ _); (k_here; k_dflt (refine' nameX_L ?F ?v ?_ ?a ?b; (case F => k_asm); (case a => rfl); (case b => rfl); (case v => rfl); k_whole))) | walk1 | (dsimp only; first | ((with_reducible show wpAny _ _ (eval (PySem.Expr.Name _ _) _) _ _ _); (k_here; k_dflt (refine' nameX_L ?F ?v ?_ ?a ?b; (case F => k_asm); (case a => rfl); (case b => rfl); (case v => rfl); k_whole))) | walk1) | (leave1; walk_say "STEP leave1"; try dsimp only)))
  refine absQ fun Q9 hQ9 => ?_
  refine forF ?_
  (try dsimp only); repeat' (first | (k_unfold; (try dsimp only)) | ((fail_if_success (with_reducible show wpAny _ _ (pyIter (Value.ref _)) _ _ _)); (fail_if_success (with_reducible show Exists _)); first | (k_end; wrow_close) | ((with_reducible show wpAny _ _ (eval (PySem.Expr.Name _ _) _) _ _ _); (k_here; k_dflt (refine' nameX_L ?F ?v ?_ ?a ?b; (case F => k_asm); (case a => rfl); (case b => rfl); (case v => rfl); k_whole))) | walk1 | (dsimp only; first | ((with_reducible show wpAny _ _ (eval (PySem.Expr.Name _ _) _) _ _ _); (k_here; k_dflt (refine' nameX_L ?F ?v ?_ ?a ?b; (case F => k_asm); (case a => rfl); (case b => rfl); (case v => rfl); k_whole))) | walk1) | (leave1; walk_say "STEP leave1"; try dsimp only)))
  rename IsRange _ _ _ _ _ _ _ _ => hr
  rename Fr _ _ _ _ => F1
  rename News _ _ _ _ => N1
  refine rngIter (n := 6) F1 N1 hr (by decide) ?_
  intro I h2 F2 N2 lI hLI
  clear F1 N1 hr
  obtain ⟨Dw, m₀, tP0, wv, hm₀, F2, hwv, N2, lI⟩ : ∃ Dw m₀ tP0 wv, m₀ = (fun z => if z = Str.ofString "wave" then some (.ref Dw) else if z = Str.ofString "mixes" then some (.ref D8) else if z = Str.ofString "values" then some (.ref D4) else if z = Str.ofString "base" then some (.int (B : Int) tB) else if z = Str.ofString "low" then some (.int (low : Int) tL) else if z = Str.ofString "number" then some (.int (N : Int) tN) else m z) ∧ Fr (hid b) L h2 (fun z => if z = Str.ofString "packed" then some (.int 0 tP0) else m₀ z) ∧
      IntsAre wv waveL ∧ News (hid b) L h2 ((I, rngIt 0 6) :: (Dw, W.listOf wv.toArray 0) :: news) ∧ ∀ q ∈ (Dw, W.listOf wv.toArray 0) :: news, @LT.lt Nat _ q.1 I :=
    ⟨_, _, _, [_, _, _, _, _, _], rfl, F2, .cons _ _ (.cons _ _ (.cons _ _ (.cons _ _ (.cons _ _ (.cons _ _ .nil))))), N2, lI⟩
  refine ⟨WvInv b L I m₀ (sixS ls) B ((Dw, W.listOf wv.toArray 0) :: news) s, 6, ?_, ?_⟩
  · exact ⟨h2, _, 0, 0, tP0, m₀ (Str.ofString "six"), m₀ (Str.ofString "leap"), m₀ (Str.ofString "m"), rfl, frCongr F2 (fun y => congrArg (fun z => if y = Str.ofString "packed" then some (.int 0 tP0) else z) (inv3 m₀ _ _ _ y)), N2, rfl, rfl⟩
  · clear F2 N2
    rintro k s' ⟨h5, tk5, i, P, tP, us, ul, um, rfl, F5, N5, hik, hP⟩
    have hne5 : ∀ q ∈ (Dw, W.listOf wv.toArray 0) :: news, q.1 ≠ I := fun q hq => Nat.ne_of_lt (lI q hq)
    rcases Nat.eq_zero_or_pos k with hk0 | hk0
    · subst hk0
      refine rngEnd hA F5 N5 hne5 (by lia) ?_
      intro h6 F6 N6
      dsimp only
      rw [hQ9]
      subst hm₀
      have hi6 : i = 6 := by lia
      subst hi6 hP
      exact h.out h6 _ tP us ul um Dw F6 (fun q hq => N6 q (.tail _ hq))
    · have hi : i < 6 := by lia
      have hS9 := hS.out i hi
      clear hS
      refine rngNext F5 N5 hne5 (by lia) ?_
      intro h6 F6 N6
      rw [show ((i : Int) + 1) = ((i + 1 : Nat) : Int) from rfl, show ((k : Int) - 1) = ((k - 1 : Nat) : Int) by lia] at N6
      clear F5 N5
      subst hm₀
      dsimp only
      (try dsimp only); repeat' (first | (k_unfold; (try dsimp only)) | ((fail_if_success (with_reducible show wpAny _ _ (subscriptTail _ _ (Value.ref _) (Value.int _ _)) _ _ _)); (fail_if_success (with_reducible show wpAny _ _ (binaryOp Operator.Mult (Value.int _ _) (Value.int _ _)) _ _ _)); (fail_if_success (with_reducible show wpAny _ _ (binaryOp Operator.Pow _ _) _ _ _)); (fail_if_success (with_reducible show wpAny _ _ (binaryOp Operator.FloorDiv _ _) _ _ _)); (fail_if_success (with_reducible show wpAny _ _ (binaryOp Operator.Mod _ _) _ _ _)); (fail_if_success (with_reducible show wpAny _ _ (compareOp _ (Value.ref _) (Value.ref _)) _ _ _)); (fail_if_success (with_reducible show wpAny _ _ (exec (Stmt.For _ _ _ _ _) _) _ _ _)); (fail_if_success (with_reducible show wpAny _ _ (subscriptTail _ _ (Value.ref _) (Value.ref _)) _ _ _)); (fail_if_success (with_reducible show wpAny _ _ (call (Value.builtin "sum") _) _ _ _)); (fail_if_success (with_reducible show Exists _)); first | (k_end; wrow_close) | ((with_reducible show wpAny _ _ (eval (PySem.Expr.Name _ _) _) _ _ _); (k_here; k_dflt (refine' nameX_L ?F ?v ?_ ?a ?b; (case F => k_asm); (case a => rfl); (case b => rfl); (case v => rfl); k_whole))) | walk1 | (dsimp only; first | ((with_reducible show wpAny _ _ (eval (PySem.Expr.Name _ _) _) _ _ _); (k_here; k_dflt (refine' nameX_L ?F ?v ?_ ?a ?b; (case F => k_asm); (case a => rfl); (case b => rfl); (case v => rfl); k_whole))) | walk1) | (leave1; walk_say "STEP leave1"; try dsimp only)))
      refine pickMix (j := 0) hmx (News.get (by assumption) (.tail _ (.tail _ h8))) rfl (by decide) (by decide) ?_
      intro t0 _ _ m0
      (try dsimp only); repeat' (first | (k_unfold; (try dsimp only)) | ((fail_if_success (with_reducible show wpAny _ _ (subscriptTail _ _ (Value.ref _) (Value.int _ _)) _ _ _)); (fail_if_success (with_reducible show wpAny _ _ (binaryOp Operator.Mult (Value.int _ _) (Value.int _ _)) _ _ _)); (fail_if_success (with_reducible show wpAny _ _ (binaryOp Operator.Pow _ _) _ _ _)); (fail_if_success (with_reducible show wpAny _ _ (binaryOp Operator.FloorDiv _ _) _ _ _)); (fail_if_success (with_reducible show wpAny _ _ (binaryOp Operator.Mod _ _) _ _ _)); (fail_if_success (with_reducible show wpAny _ _ (compareOp _ (Value.ref _) (Value.ref _)) _ _ _)); (fail_if_success (with_reducible show wpAny _ _ (exec (Stmt.For _ _ _ _ _) _) _ _ _)); (fail_if_success (with_reducible show wpAny _ _ (subscriptTail _ _ (Value.ref _) (Value.ref _)) _ _ _)); (fail_if_success (with_reducible show wpAny _ _ (call (Value.builtin "sum") _) _ _ _)); (fail_if_success (with_reducible show Exists _)); first | (k_end; wrow_close) | ((with_reducible show wpAny _ _ (eval (PySem.Expr.Name _ _) _) _ _ _); (k_here; k_dflt (refine' nameX_L ?F ?v ?_ ?a ?b; (case F => k_asm); (case a => rfl); (case b => rfl); (case v => rfl); k_whole))) | walk1 | (dsimp only; first | ((with_reducible show wpAny _ _ (eval (PySem.Expr.Name _ _) _) _ _ _); (k_here; k_dflt (refine' nameX_L ?F ?v ?_ ?a ?b; (case F => k_asm); (case a => rfl); (case b => rfl); (case v => rfl); k_whole))) | walk1) | (leave1; walk_say "STEP leave1"; try dsimp only)))
      refine pickA (News.get (by assumption) (.tail _ (.tail _ m0))) ?_
      (try dsimp only); repeat' (first | (k_unfold; (try dsimp only)) | ((fail_if_success (with_reducible show wpAny _ _ (subscriptTail _ _ (Value.ref _) (Value.int _ _)) _ _ _)); (fail_if_success (with_reducible show wpAny _ _ (binaryOp Operator.Mult (Value.int _ _) (Value.int _ _)) _ _ _)); (fail_if_success (with_reducible show wpAny _ _ (binaryOp Operator.Pow _ _) _ _ _)); (fail_if_success (with_reducible show wpAny _ _ (binaryOp Operator.FloorDiv _ _) _ _ _)); (fail_if_success (with_reducible show wpAny _ _ (binaryOp Operator.Mod _ _) _ _ _)); (fail_if_success (with_reducible show wpAny _ _ (compareOp _ (Value.ref _) (Value.ref _)) _ _ _)); (fail_if_success (with_reducible show wpAny _ _ (exec (Stmt.For _ _ _ _ _) _) _ _ _)); (fail_if_success (with_reducible show wpAny _ _ (subscriptTail _ _ (Value.ref _) (Value.ref _)) _ _ _)); (fail_if_success (with_reducible show wpAny _ _ (call (Value.builtin "sum") _) _ _ _)); (fail_if_success (with_reducible show Exists _)); first | (k_end; wrow_close) | ((with_reducible show wpAny _ _ (eval (PySem.Expr.Name _ _) _) _ _ _); (k_here; k_dflt (refine' nameX_L ?F ?v ?_ ?a ?b; (case F => k_asm); (case a => rfl); (case b => rfl); (case v => rfl); k_whole))) | walk1 | (dsimp only; first | ((with_reducible show wpAny _ _ (eval (PySem.Expr.Name _ _) _) _ _ _); (k_here; k_dflt (refine' nameX_L ?F ?v ?_ ?a ?b; (case F => k_asm); (case a => rfl); (case b => rfl); (case v => rfl); k_whole))) | walk1) | (leave1; walk_say "STEP leave1"; try dsimp only)))
      refine powM1 (by lia) ?_
      (try dsimp only); repeat' (first | (k_unfold; (try dsimp only)) | ((fail_if_success (with_reducible show wpAny _ _ (subscriptTail _ _ (Value.ref _) (Value.int _ _)) _ _ _)); (fail_if_success (with_reducible show wpAny _ _ (binaryOp Operator.Mult (Value.int _ _) (Value.int _ _)) _ _ _)); (fail_if_success (with_reducible show wpAny _ _ (binaryOp Operator.Pow _ _) _ _ _)); (fail_if_success (with_reducible show wpAny _ _ (binaryOp Operator.FloorDiv _ _) _ _ _)); (fail_if_success (with_reducible show wpAny _ _ (binaryOp Operator.Mod _ _) _ _ _)); (fail_if_success (with_reducible show wpAny _ _ (compareOp _ (Value.ref _) (Value.ref _)) _ _ _)); (fail_if_success (with_reducible show wpAny _ _ (exec (Stmt.For _ _ _ _ _) _) _ _ _)); (fail_if_success (with_reducible show wpAny _ _ (subscriptTail _ _ (Value.ref _) (Value.ref _)) _ _ _)); (fail_if_success (with_reducible show wpAny _ _ (call (Value.builtin "sum") _) _ _ _)); (fail_if_success (with_reducible show Exists _)); first | (k_end; wrow_close) | ((with_reducible show wpAny _ _ (eval (PySem.Expr.Name _ _) _) _ _ _); (k_here; k_dflt (refine' nameX_L ?F ?v ?_ ?a ?b; (case F => k_asm); (case a => rfl); (case b => rfl); (case v => rfl); k_whole))) | walk1 | (dsimp only; first | ((with_reducible show wpAny _ _ (eval (PySem.Expr.Name _ _) _) _ _ _); (k_here; k_dflt (refine' nameX_L ?F ?v ?_ ?a ?b; (case F => k_asm); (case a => rfl); (case b => rfl); (case v => rfl); k_whole))) | walk1) | (leave1; walk_say "STEP leave1"; try dsimp only)))
      refine pickMix (j := 3) hmx (News.get (by assumption) (.tail _ (.tail _ h8))) rfl (by decide) (by decide) ?_
      intro t3 _ _ m3
      (try dsimp only); repeat' (first | (k_unfold; (try dsimp only)) | ((fail_if_success (with_reducible show wpAny _ _ (subscriptTail _ _ (Value.ref _) (Value.int _ _)) _ _ _)); (fail_if_success (with_reducible show wpAny _ _ (binaryOp Operator.Mult (Value.int _ _) (Value.int _ _)) _ _ _)); (fail_if_success (with_reducible show wpAny _ _ (binaryOp Operator.Pow _ _) _ _ _)); (fail_if_success (with_reducible show wpAny _ _ (binaryOp Operator.FloorDiv _ _) _ _ _)); (fail_if_success (with_reducible show wpAny _ _ (binaryOp Operator.Mod _ _) _ _ _)); (fail_if_success (with_reducible show wpAny _ _ (compareOp _ (Value.ref _) (Value.ref _)) _ _ _)); (fail_if_success (with_reducible show wpAny _ _ (exec (Stmt.For _ _ _ _ _) _) _ _ _)); (fail_if_success (with_reducible show wpAny _ _ (subscriptTail _ _ (Value.ref _) (Value.ref _)) _ _ _)); (fail_if_success (with_reducible show wpAny _ _ (call (Value.builtin "sum") _) _ _ _)); (fail_if_success (with_reducible show Exists _)); first | (k_end; wrow_close) | ((with_reducible show wpAny _ _ (eval (PySem.Expr.Name _ _) _) _ _ _); (k_here; k_dflt (refine' nameX_L ?F ?v ?_ ?a ?b; (case F => k_asm); (case a => rfl); (case b => rfl); (case v => rfl); k_whole))) | walk1 | (dsimp only; first | ((with_reducible show wpAny _ _ (eval (PySem.Expr.Name _ _) _) _ _ _); (k_here; k_dflt (refine' nameX_L ?F ?v ?_ ?a ?b; (case F => k_asm); (case a => rfl); (case b => rfl); (case v => rfl); k_whole))) | walk1) | (leave1; walk_say "STEP leave1"; try dsimp only)))
      refine pickA (News.get (by assumption) (.tail _ (.tail _ m3))) ?_
      (try dsimp only); repeat' (first | (k_unfold; (try dsimp only)) | ((fail_if_success (with_reducible show wpAny _ _ (subscriptTail _ _ (Value.ref _) (Value.int _ _)) _ _ _)); (fail_if_success (with_reducible show wpAny _ _ (binaryOp Operator.Mult (Value.int _ _) (Value.int _ _)) _ _ _)); (fail_if_success (with_reducible show wpAny _ _ (binaryOp Operator.Pow _ _) _ _ _)); (fail_if_success (with_reducible show wpAny _ _ (binaryOp Operator.FloorDiv _ _) _ _ _)); (fail_if_success (with_reducible show wpAny _ _ (binaryOp Operator.Mod _ _) _ _ _)); (fail_if_success (with_reducible show wpAny _ _ (compareOp _ (Value.ref _) (Value.ref _)) _ _ _)); (fail_if_success (with_reducible show wpAny _ _ (exec (Stmt.For _ _ _ _ _) _) _ _ _)); (fail_if_success (with_reducible show wpAny _ _ (subscriptTail _ _ (Value.ref _) (Value.ref _)) _ _ _)); (fail_if_success (with_reducible show wpAny _ _ (call (Value.builtin "sum") _) _ _ _)); (fail_if_success (with_reducible show Exists _)); first | (k_end; wrow_close) | ((with_reducible show wpAny _ _ (eval (PySem.Expr.Name _ _) _) _ _ _); (k_here; k_dflt (refine' nameX_L ?F ?v ?_ ?a ?b; (case F => k_asm); (case a => rfl); (case b => rfl); (case v => rfl); k_whole))) | walk1 | (dsimp only; first | ((with_reducible show wpAny _ _ (eval (PySem.Expr.Name _ _) _) _ _ _); (k_here; k_dflt (refine' nameX_L ?F ?v ?_ ?a ?b; (case F => k_asm); (case a => rfl); (case b => rfl); (case v => rfl); k_whole))) | walk1) | (leave1; walk_say "STEP leave1"; try dsimp only)))
      refine mulL (by rw [Int.natAbs_pow]; simp) ?_
      (try dsimp only); repeat' (first | (k_unfold; (try dsimp only)) | ((fail_if_success (with_reducible show wpAny _ _ (subscriptTail _ _ (Value.ref _) (Value.int _ _)) _ _ _)); (fail_if_success (with_reducible show wpAny _ _ (binaryOp Operator.Mult (Value.int _ _) (Value.int _ _)) _ _ _)); (fail_if_success (with_reducible show wpAny _ _ (binaryOp Operator.Pow _ _) _ _ _)); (fail_if_success (with_reducible show wpAny _ _ (binaryOp Operator.FloorDiv _ _) _ _ _)); (fail_if_success (with_reducible show wpAny _ _ (binaryOp Operator.Mod _ _) _ _ _)); (fail_if_success (with_reducible show wpAny _ _ (compareOp _ (Value.ref _) (Value.ref _)) _ _ _)); (fail_if_success (with_reducible show wpAny _ _ (exec (Stmt.For _ _ _ _ _) _) _ _ _)); (fail_if_success (with_reducible show wpAny _ _ (subscriptTail _ _ (Value.ref _) (Value.ref _)) _ _ _)); (fail_if_success (with_reducible show wpAny _ _ (call (Value.builtin "sum") _) _ _ _)); (fail_if_success (with_reducible show Exists _)); first | (k_end; wrow_close) | ((with_reducible show wpAny _ _ (eval (PySem.Expr.Name _ _) _) _ _ _); (k_here; k_dflt (refine' nameX_L ?F ?v ?_ ?a ?b; (case F => k_asm); (case a => rfl); (case b => rfl); (case v => rfl); k_whole))) | walk1 | (dsimp only; first | ((with_reducible show wpAny _ _ (eval (PySem.Expr.Name _ _) _) _ _ _); (k_here; k_dflt (refine' nameX_L ?F ?v ?_ ?a ?b; (case F => k_asm); (case a => rfl); (case b => rfl); (case v => rfl); k_whole))) | walk1) | (leave1; walk_say "STEP leave1"; try dsimp only)))
      refine absQ fun Q8 hQ8 => ?_
      refine forF ?_
      (try dsimp only); repeat' (first | (k_unfold; (try dsimp only)) | ((fail_if_success (with_reducible show wpAny _ _ (subscriptTail _ _ (Value.ref _) (Value.int _ _)) _ _ _)); (fail_if_success (with_reducible show wpAny _ _ (binaryOp Operator.Mult (Value.int _ _) (Value.int _ _)) _ _ _)); (fail_if_success (with_reducible show wpAny _ _ (binaryOp Operator.Pow _ _) _ _ _)); (fail_if_success (with_reducible show wpAny _ _ (binaryOp Operator.FloorDiv _ _) _ _ _)); (fail_if_success (with_reducible show wpAny _ _ (binaryOp Operator.Mod _ _) _ _ _)); (fail_if_success (with_reducible show wpAny _ _ (compareOp _ (Value.ref _) (Value.ref _)) _ _ _)); (fail_if_success (with_reducible show wpAny _ _ (exec (Stmt.For _ _ _ _ _) _) _ _ _)); (fail_if_success (with_reducible show wpAny _ _ (subscriptTail _ _ (Value.ref _) (Value.ref _)) _ _ _)); (fail_if_success (with_reducible show wpAny _ _ (call (Value.builtin "sum") _) _ _ _)); (fail_if_success (with_reducible show wpAny _ _ (pyIter (Value.ref _)) _ _ _)); (fail_if_success (with_reducible show Exists _)); first | (k_end; wrow_close) | ((with_reducible show wpAny _ _ (eval (PySem.Expr.Name _ _) _) _ _ _); (k_here; k_dflt (refine' nameX_L ?F ?v ?_ ?a ?b; (case F => k_asm); (case a => rfl); (case b => rfl); (case v => rfl); k_whole))) | walk1 | (dsimp only; first | ((with_reducible show wpAny _ _ (eval (PySem.Expr.Name _ _) _) _ _ _); (k_here; k_dflt (refine' nameX_L ?F ?v ?_ ?a ?b; (case F => k_asm); (case a => rfl); (case b => rfl); (case v => rfl); k_whole))) | walk1) | (leave1; walk_say "STEP leave1"; try dsimp only)))
      rename Fr _ _ _ _ => F7
      rename News _ _ _ _ => N7
      rename_i T h9 lT
      have hneT : ∀ q ∈ (I, rngIt (i + 1 : Nat) (k - 1 : Nat)) :: (Dw, W.listOf wv.toArray 0) :: news, q.1 ≠ T := fun q hq => Nat.ne_of_lt (allLt_mem (l := (I, rngIt (i + 1 : Nat) (k - 1 : Nat)) :: (Dw, W.listOf wv.toArray 0) :: news) lT q hq)
      obtain ⟨t1, t2, N7⟩ : ∃ t1 t2, News (hid b) L h9 ((T, tupO #[.int 1 t1, .int 2 t2]) :: (I, rngIt (i + 1 : Nat) (k - 1 : Nat)) :: (Dw, W.listOf wv.toArray 0) :: news) := ⟨_, _, N7⟩
      refine tupIter (items := #[.int 1 t1, .int 2 t2]) F7 N7 (.head _) ?_
      intro J h10 oJ F10 N10 cJ dJ lJ hLJ
      clear F7 N7
      dsimp only
      obtain ⟨m8, hm8, F10⟩ : ∃ m8, m8 = _ ∧ Fr (hid b) L h10 m8 := ⟨_, rfl, F10⟩
      obtain ⟨tS, hS6⟩ : ∃ tS, m8 (Str.ofString "six") = some (.int (xs 0 + (-1) ^ i * xs 3) tS) := by subst hm8; exact ⟨_, rfl⟩
      refine ⟨InInv b L J T m8 (xs 0 + (-1) ^ i * xs 3) (fun l => xs l * waveV (l * i % 6) + ys l * waveV ((l * i + 5) % 6)) ((T, tupO #[.int 1 t1, .int 2 t2]) :: (I, rngIt (i + 1 : Nat) (k - 1 : Nat)) :: (Dw, W.listOf wv.toArray 0) :: news) s, 2, ?_, ?_⟩
      · exact ⟨h10, _, 0, oJ, tS, _, rfl, frCongr F10 (fun y => inv1 m8 _ _ hS6 y), N10, cJ, dJ, rfl⟩
      · clear F10 N10 cJ dJ
        rintro k2 s' ⟨h11, tk11, j, oJ1, t6, ul2, rfl, F11, N11, cJ, dJ, hjk⟩
        have hneJ := fun q hq => Nat.ne_of_lt (lJ q hq)
        rcases Nat.eq_zero_or_pos k2 with hk2 | hk2
        · subst hk2
          refine tupEnd hA F11 N11 (.head _) cJ dJ hneJ (by have : j = 2 := by lia
                                                            subst this; rfl) ?_
          intro h12 F12 N12
          have hj2 : j = 2 := by lia
          subst hj2
          rw [hS9] at F12
          replace N12 : News (hid b) L h12 ((I, rngIt (i + 1 : Nat) (k - 1 : Nat)) :: (Dw, W.listOf wv.toArray 0) :: news) := fun q hq => N12 q (.tail _ hq)
          clear F11 N11 lJ hneJ cJ dJ hneT lT hS6
          dsimp only
          rw [hQ8]
          clear hQ8
          subst hm8
          (try dsimp only); repeat' (first | (k_unfold; (try dsimp only)) | ((fail_if_success (with_reducible show wpAny _ _ (subscriptTail _ _ (Value.ref _) (Value.int _ _)) _ _ _)); (fail_if_success (with_reducible show wpAny _ _ (binaryOp Operator.Mult (Value.int _ _) (Value.int _ _)) _ _ _)); (fail_if_success (with_reducible show wpAny _ _ (binaryOp Operator.Pow _ _) _ _ _)); (fail_if_success (with_reducible show wpAny _ _ (binaryOp Operator.FloorDiv _ _) _ _ _)); (fail_if_success (with_reducible show wpAny _ _ (binaryOp Operator.Mod _ _) _ _ _)); (fail_if_success (with_reducible show wpAny _ _ (compareOp _ (Value.ref _) (Value.ref _)) _ _ _)); (fail_if_success (with_reducible show wpAny _ _ (exec (Stmt.For _ _ _ _ _) _) _ _ _)); (fail_if_success (with_reducible show wpAny _ _ (subscriptTail _ _ (Value.ref _) (Value.ref _)) _ _ _)); (fail_if_success (with_reducible show wpAny _ _ (call (Value.builtin "sum") _) _ _ _)); (fail_if_success (with_reducible show wpAny _ _ (eval (PySem.Expr.Name (Str.ofString "lamps") _) _) _ _ _)); (fail_if_success (with_reducible show Exists _)); first | (k_end; wrow_close) | ((with_reducible show wpAny _ _ (eval (PySem.Expr.Name _ _) _) _ _ _); (k_here; k_dflt (refine' nameX_L ?F ?v ?_ ?a ?b; (case F => k_asm); (case a => rfl); (case b => rfl); (case v => rfl); k_whole))) | walk1 | (dsimp only; first | ((with_reducible show wpAny _ _ (eval (PySem.Expr.Name _ _) _) _ _ _); (k_here; k_dflt (refine' nameX_L ?F ?v ?_ ?a ?b; (case F => k_asm); (case a => rfl); (case b => rfl); (case v => rfl); k_whole))) | walk1) | (leave1; walk_say "STEP leave1"; try dsimp only)))
          have N13 : News (hid b) L h12 ((L + 1, oC) :: (I, rngIt (i + 1 : Nat) (k - 1 : Nat)) :: (Dw, W.listOf wv.toArray 0) :: news) := fun q hq => by
            rcases List.mem_cons.mp hq with rfl | hq
            · exact N12 _ (.tail _ (.tail _ hcC))
            · exact N12 q hq
          k_dflt (refine' nameX_C N13 ?c (.head _) dC ?_ ?a ?b; (case a => rfl); (case b => rfl); (case c => rfl); k_whole)
          clear N13
          (try dsimp only); repeat' (first | (k_unfold; (try dsimp only)) | ((fail_if_success (with_reducible show wpAny _ _ (subscriptTail _ _ (Value.ref _) (Value.int _ _)) _ _ _)); (fail_if_success (with_reducible show wpAny _ _ (binaryOp Operator.Mult (Value.int _ _) (Value.int _ _)) _ _ _)); (fail_if_success (with_reducible show wpAny _ _ (binaryOp Operator.Pow _ _) _ _ _)); (fail_if_success (with_reducible show wpAny _ _ (binaryOp Operator.FloorDiv _ _) _ _ _)); (fail_if_success (with_reducible show wpAny _ _ (binaryOp Operator.Mod _ _) _ _ _)); (fail_if_success (with_reducible show wpAny _ _ (compareOp _ (Value.ref _) (Value.ref _)) _ _ _)); (fail_if_success (with_reducible show wpAny _ _ (exec (Stmt.For _ _ _ _ _) _) _ _ _)); (fail_if_success (with_reducible show wpAny _ _ (subscriptTail _ _ (Value.ref _) (Value.ref _)) _ _ _)); (fail_if_success (with_reducible show wpAny _ _ (call (Value.builtin "sum") _) _ _ _)); (fail_if_success (with_reducible show Exists _)); first | (k_end; wrow_close) | ((with_reducible show wpAny _ _ (eval (PySem.Expr.Name _ _) _) _ _ _); (k_here; k_dflt (refine' nameX_L ?F ?v ?_ ?a ?b; (case F => k_asm); (case a => rfl); (case b => rfl); (case v => rfl); k_whole))) | walk1 | (dsimp only; first | ((with_reducible show wpAny _ _ (eval (PySem.Expr.Name _ _) _) _ _ _); (k_here; k_dflt (refine' nameX_L ?F ?v ?_ ?a ?b; (case F => k_asm); (case a => rfl); (case b => rfl); (case v => rfl); k_whole))) | walk1) | (leave1; walk_say "STEP leave1"; try dsimp only)))
          rename Fr _ _ _ _ => F13
          have hp := six_pick hI hlen hi
          refine kmk_slice3_lit F13 N12 ⟨_, N12.get (.tail _ (.tail _ h7)), rfl, _, rfl⟩ (by kmk_part) (by kmk_part) (by kmk_part) (by decide) rfl ?_ (by with_unfolding_all rfl) (by intro _; with_unfolding_all rfl) ?_
          rotate_left
          · have := hI.length
            rw [sizeLine_eq, List.size_toArray, this, castL, List.length_map]; lia
          intro D13 h13 F14 N14 l14
          clear F13 N12 l14
          (try dsimp only); repeat' (first | (k_unfold; (try dsimp only)) | ((fail_if_success (with_reducible show wpAny _ _ (subscriptTail _ _ (Value.ref _) (Value.int _ _)) _ _ _)); (fail_if_success (with_reducible show wpAny _ _ (binaryOp Operator.Mult (Value.int _ _) (Value.int _ _)) _ _ _)); (fail_if_success (with_reducible show wpAny _ _ (binaryOp Operator.Pow _ _) _ _ _)); (fail_if_success (with_reducible show wpAny _ _ (binaryOp Operator.FloorDiv _ _) _ _ _)); (fail_if_success (with_reducible show wpAny _ _ (binaryOp Operator.Mod _ _) _ _ _)); (fail_if_success (with_reducible show wpAny _ _ (compareOp _ (Value.ref _) (Value.ref _)) _ _ _)); (fail_if_success (with_reducible show wpAny _ _ (exec (Stmt.For _ _ _ _ _) _) _ _ _)); (fail_if_success (with_reducible show wpAny _ _ (subscriptTail _ _ (Value.ref _) (Value.ref _)) _ _ _)); (fail_if_success (with_reducible show wpAny _ _ (call (Value.builtin "sum") _) _ _ _)); (fail_if_success (with_reducible show Exists _)); first | (k_end; wrow_close) | ((with_reducible show wpAny _ _ (eval (PySem.Expr.Name _ _) _) _ _ _); (k_here; k_dflt (refine' nameX_L ?F ?v ?_ ?a ?b; (case F => k_asm); (case a => rfl); (case b => rfl); (case v => rfl); k_whole))) | walk1 | (dsimp only; first | ((with_reducible show wpAny _ _ (eval (PySem.Expr.Name _ _) _) _ _ _); (k_here; k_dflt (refine' nameX_L ?F ?v ?_ ?a ?b; (case F => k_asm); (case a => rfl); (case b => rfl); (case v => rfl); k_whole))) | walk1) | (leave1; walk_say "STEP leave1"; try dsimp only)))
          refine sumK hA F14 N14 ⟨_, N14.get (.head _), rfl, _, rfl⟩ hp ?_
          intro h15 tk15 t15 F15 N15
          replace N15 : News (hid b) L h15 ((I, rngIt (i + 1 : Nat) (k - 1 : Nat)) :: (Dw, W.listOf wv.toArray 0) :: news) := fun q hq => N15 q (.tail _ hq)
          clear F14 N14 hp
          rw [show ((sixI ls.length i).filterMap (fun k => (castL ls)[k]?)).sum = sixS ls i from rfl]
          (try dsimp only); repeat' (first | (k_unfold; (try dsimp only)) | ((fail_if_success (with_reducible show wpAny _ _ (subscriptTail _ _ (Value.ref _) (Value.int _ _)) _ _ _)); (fail_if_success (with_reducible show wpAny _ _ (binaryOp Operator.Mult (Value.int _ _) (Value.int _ _)) _ _ _)); (fail_if_success (with_reducible show wpAny _ _ (binaryOp Operator.Pow _ _) _ _ _)); (fail_if_success (with_reducible show wpAny _ _ (binaryOp Operator.FloorDiv _ _) _ _ _)); (fail_if_success (with_reducible show wpAny _ _ (binaryOp Operator.Mod _ _) _ _ _)); (fail_if_success (with_reducible show wpAny _ _ (compareOp _ (Value.ref _) (Value.ref _)) _ _ _)); (fail_if_success (with_reducible show wpAny _ _ (exec (Stmt.For _ _ _ _ _) _) _ _ _)); (fail_if_success (with_reducible show wpAny _ _ (subscriptTail _ _ (Value.ref _) (Value.ref _)) _ _ _)); (fail_if_success (with_reducible show wpAny _ _ (call (Value.builtin "sum") _) _ _ _)); (fail_if_success (with_reducible show Exists _)); first | (k_end; wrow_close) | ((with_reducible show wpAny _ _ (eval (PySem.Expr.Name _ _) _) _ _ _); (k_here; k_dflt (refine' nameX_L ?F ?v ?_ ?a ?b; (case F => k_asm); (case a => rfl); (case b => rfl); (case v => rfl); k_whole))) | walk1 | (dsimp only; first | ((with_reducible show wpAny _ _ (eval (PySem.Expr.Name _ _) _) _ _ _); (k_here; k_dflt (refine' nameX_L ?F ?v ?_ ?a ?b; (case F => k_asm); (case a => rfl); (case b => rfl); (case v => rfl); k_whole))) | walk1) | (leave1; walk_say "STEP leave1"; try dsimp only)))
          refine mulL (by decide) ?_
          (try dsimp only); repeat' (first | (k_unfold; (try dsimp only)) | ((fail_if_success (with_reducible show wpAny _ _ (subscriptTail _ _ (Value.ref _) (Value.int _ _)) _ _ _)); (fail_if_success (with_reducible show wpAny _ _ (binaryOp Operator.Mult (Value.int _ _) (Value.int _ _)) _ _ _)); (fail_if_success (with_reducible show wpAny _ _ (binaryOp Operator.Pow _ _) _ _ _)); (fail_if_success (with_reducible show wpAny _ _ (binaryOp Operator.FloorDiv _ _) _ _ _)); (fail_if_success (with_reducible show wpAny _ _ (binaryOp Operator.Mod _ _) _ _ _)); (fail_if_success (with_reducible show wpAny _ _ (compareOp _ (Value.ref _) (Value.ref _)) _ _ _)); (fail_if_success (with_reducible show wpAny _ _ (exec (Stmt.For _ _ _ _ _) _) _ _ _)); (fail_if_success (with_reducible show wpAny _ _ (subscriptTail _ _ (Value.ref _) (Value.ref _)) _ _ _)); (fail_if_success (with_reducible show wpAny _ _ (call (Value.builtin "sum") _) _ _ _)); (fail_if_success (with_reducible show wpAny _ _ (compareOp CmpOp.NotEq (Value.int _ _) (Value.int _ _)) _ _ _)); (fail_if_success (with_reducible show Exists _)); first | (k_end; wrow_close) | ((with_reducible show wpAny _ _ (eval (PySem.Expr.Name _ _) _) _ _ _); (k_here; k_dflt (refine' nameX_L ?F ?v ?_ ?a ?b; (case F => k_asm); (case a => rfl); (case b => rfl); (case v => rfl); k_whole))) | walk1 | (dsimp only; first | ((with_reducible show wpAny _ _ (eval (PySem.Expr.Name _ _) _) _ _ _); (k_here; k_dflt (refine' nameX_L ?F ?v ?_ ?a ?b; (case F => k_asm); (case a => rfl); (case b => rfl); (case v => rfl); k_whole))) | walk1) | (leave1; walk_say "STEP leave1"; try dsimp only)))
          refine PyProof.Rows.ne_int ?_
          rw [bne_self_eq_false]
          (try dsimp only); repeat' (first | (k_unfold; (try dsimp only)) | ((fail_if_success (with_reducible show wpAny _ _ (subscriptTail _ _ (Value.ref _) (Value.int _ _)) _ _ _)); (fail_if_success (with_reducible show wpAny _ _ (binaryOp Operator.Mult (Value.int _ _) (Value.int _ _)) _ _ _)); (fail_if_success (with_reducible show wpAny _ _ (binaryOp Operator.Pow _ _) _ _ _)); (fail_if_success (with_reducible show wpAny _ _ (binaryOp Operator.FloorDiv _ _) _ _ _)); (fail_if_success (with_reducible show wpAny _ _ (binaryOp Operator.Mod _ _) _ _ _)); (fail_if_success (with_reducible show wpAny _ _ (compareOp _ (Value.ref _) (Value.ref _)) _ _ _)); (fail_if_success (with_reducible show wpAny _ _ (exec (Stmt.For _ _ _ _ _) _) _ _ _)); (fail_if_success (with_reducible show wpAny _ _ (subscriptTail _ _ (Value.ref _) (Value.ref _)) _ _ _)); (fail_if_success (with_reducible show wpAny _ _ (call (Value.builtin "sum") _) _ _ _)); (fail_if_success (with_reducible show Exists _)); first | (k_end; wrow_close) | ((with_reducible show wpAny _ _ (eval (PySem.Expr.Name _ _) _) _ _ _); (k_here; k_dflt (refine' nameX_L ?F ?v ?_ ?a ?b; (case F => k_asm); (case a => rfl); (case b => rfl); (case v => rfl); k_whole))) | walk1 | (dsimp only; first | ((with_reducible show wpAny _ _ (eval (PySem.Expr.Name _ _) _) _ _ _); (k_here; k_dflt (refine' nameX_L ?F ?v ?_ ?a ?b; (case F => k_asm); (case a => rfl); (case b => rfl); (case v => rfl); k_whole))) | walk1) | (leave1; walk_say "STEP leave1"; try dsimp only)))
          refine fdivI (by decide) (by decide) ?_
          rw [Int.mul_fdiv_cancel_left _ (by decide : (6 : Int) ≠ 0)]
          (try dsimp only); repeat' (first | (k_unfold; (try dsimp only)) | ((fail_if_success (with_reducible show wpAny _ _ (subscriptTail _ _ (Value.ref _) (Value.int _ _)) _ _ _)); (fail_if_success (with_reducible show wpAny _ _ (binaryOp Operator.Mult (Value.int _ _) (Value.int _ _)) _ _ _)); (fail_if_success (with_reducible show wpAny _ _ (binaryOp Operator.Pow _ _) _ _ _)); (fail_if_success (with_reducible show wpAny _ _ (binaryOp Operator.FloorDiv _ _) _ _ _)); (fail_if_success (with_reducible show wpAny _ _ (binaryOp Operator.Mod _ _) _ _ _)); (fail_if_success (with_reducible show wpAny _ _ (compareOp _ (Value.ref _) (Value.ref _)) _ _ _)); (fail_if_success (with_reducible show wpAny _ _ (exec (Stmt.For _ _ _ _ _) _) _ _ _)); (fail_if_success (with_reducible show wpAny _ _ (subscriptTail _ _ (Value.ref _) (Value.ref _)) _ _ _)); (fail_if_success (with_reducible show wpAny _ _ (call (Value.builtin "sum") _) _ _ _)); (fail_if_success (with_reducible show Exists _)); first | (k_end; wrow_close) | ((with_reducible show wpAny _ _ (eval (PySem.Expr.Name _ _) _) _ _ _); (k_here; k_dflt (refine' nameX_L ?F ?v ?_ ?a ?b; (case F => k_asm); (case a => rfl); (case b => rfl); (case v => rfl); k_whole))) | walk1 | (dsimp only; first | ((with_reducible show wpAny _ _ (eval (PySem.Expr.Name _ _) _) _ _ _); (k_here; k_dflt (refine' nameX_L ?F ?v ?_ ?a ?b; (case F => k_asm); (case a => rfl); (case b => rfl); (case v => rfl); k_whole))) | walk1) | (leave1; walk_say "STEP leave1"; try dsimp only)))
          refine powN i rfl (by lia) hB.2 ?_
          (try dsimp only); repeat' (first | (k_unfold; (try dsimp only)) | ((fail_if_success (with_reducible show wpAny _ _ (subscriptTail _ _ (Value.ref _) (Value.int _ _)) _ _ _)); (fail_if_success (with_reducible show wpAny _ _ (binaryOp Operator.Mult (Value.int _ _) (Value.int _ _)) _ _ _)); (fail_if_success (with_reducible show wpAny _ _ (binaryOp Operator.Pow _ _) _ _ _)); (fail_if_success (with_reducible show wpAny _ _ (binaryOp Operator.FloorDiv _ _) _ _ _)); (fail_if_success (with_reducible show wpAny _ _ (binaryOp Operator.Mod _ _) _ _ _)); (fail_if_success (with_reducible show wpAny _ _ (compareOp _ (Value.ref _) (Value.ref _)) _ _ _)); (fail_if_success (with_reducible show wpAny _ _ (exec (Stmt.For _ _ _ _ _) _) _ _ _)); (fail_if_success (with_reducible show wpAny _ _ (subscriptTail _ _ (Value.ref _) (Value.ref _)) _ _ _)); (fail_if_success (with_reducible show wpAny _ _ (call (Value.builtin "sum") _) _ _ _)); (fail_if_success (with_reducible show Exists _)); first | (k_end; wrow_close) | ((with_reducible show wpAny _ _ (eval (PySem.Expr.Name _ _) _) _ _ _); (k_here; k_dflt (refine' nameX_L ?F ?v ?_ ?a ?b; (case F => k_asm); (case a => rfl); (case b => rfl); (case v => rfl); k_whole))) | walk1 | (dsimp only; first | ((with_reducible show wpAny _ _ (eval (PySem.Expr.Name _ _) _) _ _ _); (k_here; k_dflt (refine' nameX_L ?F ?v ?_ ?a ?b; (case F => k_asm); (case a => rfl); (case b => rfl); (case v => rfl); k_whole))) | walk1) | (leave1; walk_say "STEP leave1"; try dsimp only)))
          refine mulR (by rw [Int.natAbs_pow, Int.natAbs_natCast]; exact Nat.lt_of_le_of_lt (Nat.le_trans (Nat.pow_le_pow_left hB.2 _) (Nat.pow_le_pow_right (by decide) (by lia : i ≤ 5))) (by decide)) ?_
          (try dsimp only); repeat' (first | (k_unfold; (try dsimp only)) | ((fail_if_success (with_reducible show wpAny _ _ (subscriptTail _ _ (Value.ref _) (Value.int _ _)) _ _ _)); (fail_if_success (with_reducible show wpAny _ _ (binaryOp Operator.Mult (Value.int _ _) (Value.int _ _)) _ _ _)); (fail_if_success (with_reducible show wpAny _ _ (binaryOp Operator.Pow _ _) _ _ _)); (fail_if_success (with_reducible show wpAny _ _ (binaryOp Operator.FloorDiv _ _) _ _ _)); (fail_if_success (with_reducible show wpAny _ _ (binaryOp Operator.Mod _ _) _ _ _)); (fail_if_success (with_reducible show wpAny _ _ (compareOp _ (Value.ref _) (Value.ref _)) _ _ _)); (fail_if_success (with_reducible show wpAny _ _ (exec (Stmt.For _ _ _ _ _) _) _ _ _)); (fail_if_success (with_reducible show wpAny _ _ (subscriptTail _ _ (Value.ref _) (Value.ref _)) _ _ _)); (fail_if_success (with_reducible show wpAny _ _ (call (Value.builtin "sum") _) _ _ _)); (fail_if_success (with_reducible show Exists _)); first | (k_end; wrow_close) | ((with_reducible show wpAny _ _ (eval (PySem.Expr.Name _ _) _) _ _ _); (k_here; k_dflt (refine' nameX_L ?F ?v ?_ ?a ?b; (case F => k_asm); (case a => rfl); (case b => rfl); (case v => rfl); k_whole))) | walk1 | (dsimp only; first | ((with_reducible show wpAny _ _ (eval (PySem.Expr.Name _ _) _) _ _ _); (k_here; k_dflt (refine' nameX_L ?F ?v ?_ ?a ?b; (case F => k_asm); (case a => rfl); (case b => rfl); (case v => rfl); k_whole))) | walk1) | (leave1; walk_say "STEP leave1"; try dsimp only)))
          rename Fr _ _ _ _ => F16
          rename News _ _ _ _ => N16
          obtain ⟨m9, hm9, F16⟩ : ∃ m9, m9 = _ ∧ Fr (hid b) L _ m9 := ⟨_, rfl, F16⟩
          obtain ⟨tq, hq⟩ : ∃ tq, m9 (Str.ofString "packed") = some (.int (P + sixS ls i * (B : Int) ^ i) tq) := by subst hm9; exact ⟨_, rfl⟩
          refine ⟨k - 1, by lia, _, _, i + 1, P + sixS ls i * (B : Int) ^ i, tq, m9 (Str.ofString "six"), m9 (Str.ofString "leap"), m9 (Str.ofString "m"), rfl, frCongr F16 (ov4 hq fun y a1 a2 a3 a4 => ?_), N16, by lia, by rw [hP]; rfl⟩
          subst hm9
          repeat (first | refine (if_neg a1).trans ?_ | refine (if_neg a2).trans ?_ | refine (if_neg a3).trans ?_ | refine (if_neg a4).trans ?_)
          rfl
        · have hj1 : j < 2 := by lia
          obtain ⟨tv, hv⟩ : ∃ tv, (#[.int 1 t1, .int 2 t2] : Array Value)[j]? = some (.int ((j + 1 : Nat) : Int) tv) := by
            rcases (by lia : j = 0 ∨ j = 1) with rfl | rfl
            · exact ⟨_, rfl⟩
            · exact ⟨_, rfl⟩
          refine tupNext F11 N11 (.head _) cJ dJ hneJ hv ?_
          intro h12 oJ2 F12 N12 cJ2 dJ2
          clear F11 N11 cJ dJ
          subst hm8
          dsimp only
          (try dsimp only); repeat' (first | (k_unfold; (try dsimp only)) | ((fail_if_success (with_reducible show wpAny _ _ (subscriptTail _ _ (Value.ref _) (Value.int _ _)) _ _ _)); (fail_if_success (with_reducible show wpAny _ _ (binaryOp Operator.Mult (Value.int _ _) (Value.int _ _)) _ _ _)); (fail_if_success (with_reducible show wpAny _ _ (binaryOp Operator.Pow _ _) _ _ _)); (fail_if_success (with_reducible show wpAny _ _ (binaryOp Operator.FloorDiv _ _) _ _ _)); (fail_if_success (with_reducible show wpAny _ _ (binaryOp Operator.Mod _ _) _ _ _)); (fail_if_success (with_reducible show wpAny _ _ (compareOp _ (Value.ref _) (Value.ref _)) _ _ _)); (fail_if_success (with_reducible show wpAny _ _ (exec (Stmt.For _ _ _ _ _) _) _ _ _)); (fail_if_success (with_reducible show wpAny _ _ (subscriptTail _ _ (Value.ref _) (Value.ref _)) _ _ _)); (fail_if_success (with_reducible show wpAny _ _ (call (Value.builtin "sum") _) _ _ _)); (fail_if_success (with_reducible show Exists _)); first | (k_end; wrow_close) | ((with_reducible show wpAny _ _ (eval (PySem.Expr.Name _ _) _) _ _ _); (k_here; k_dflt (refine' nameX_L ?F ?v ?_ ?a ?b; (case F => k_asm); (case a => rfl); (case b => rfl); (case v => rfl); k_whole))) | walk1 | (dsimp only; first | ((with_reducible show wpAny _ _ (eval (PySem.Expr.Name _ _) _) _ _ _); (k_here; k_dflt (refine' nameX_L ?F ?v ?_ ?a ?b; (case F => k_asm); (case a => rfl); (case b => rfl); (case v => rfl); k_whole))) | walk1) | (leave1; walk_say "STEP leave1"; try dsimp only)))
          refine pickMix (j := j + 1) hmx (News.get (by assumption) (.tail _ (.tail _ (.tail _ (.tail _ h8))))) rfl (by lia) (by decide) ?_
          intro ta _ _ ma
          (try dsimp only); repeat' (first | (k_unfold; (try dsimp only)) | ((fail_if_success (with_reducible show wpAny _ _ (subscriptTail _ _ (Value.ref _) (Value.int _ _)) _ _ _)); (fail_if_success (with_reducible show wpAny _ _ (binaryOp Operator.Mult (Value.int _ _) (Value.int _ _)) _ _ _)); (fail_if_success (with_reducible show wpAny _ _ (binaryOp Operator.Pow _ _) _ _ _)); (fail_if_success (with_reducible show wpAny _ _ (binaryOp Operator.FloorDiv _ _) _ _ _)); (fail_if_success (with_reducible show wpAny _ _ (binaryOp Operator.Mod _ _) _ _ _)); (fail_if_success (with_reducible show wpAny _ _ (compareOp _ (Value.ref _) (Value.ref _)) _ _ _)); (fail_if_success (with_reducible show wpAny _ _ (exec (Stmt.For _ _ _ _ _) _) _ _ _)); (fail_if_success (with_reducible show wpAny _ _ (subscriptTail _ _ (Value.ref _) (Value.ref _)) _ _ _)); (fail_if_success (with_reducible show wpAny _ _ (call (Value.builtin "sum") _) _ _ _)); (fail_if_success (with_reducible show Exists _)); first | (k_end; wrow_close) | ((with_reducible show wpAny _ _ (eval (PySem.Expr.Name _ _) _) _ _ _); (k_here; k_dflt (refine' nameX_L ?F ?v ?_ ?a ?b; (case F => k_asm); (case a => rfl); (case b => rfl); (case v => rfl); k_whole))) | walk1 | (dsimp only; first | ((with_reducible show wpAny _ _ (eval (PySem.Expr.Name _ _) _) _ _ _); (k_here; k_dflt (refine' nameX_L ?F ?v ?_ ?a ?b; (case F => k_asm); (case a => rfl); (case b => rfl); (case v => rfl); k_whole))) | walk1) | (leave1; walk_say "STEP leave1"; try dsimp only)))
          refine pickA (News.get (by assumption) (.tail _ (.tail _ (.tail _ (.tail _ ma))))) ?_
          (try dsimp only); repeat' (first | (k_unfold; (try dsimp only)) | ((fail_if_success (with_reducible show wpAny _ _ (subscriptTail _ _ (Value.ref _) (Value.int _ _)) _ _ _)); (fail_if_success (with_reducible show wpAny _ _ (binaryOp Operator.Mult (Value.int _ _) (Value.int _ _)) _ _ _)); (fail_if_success (with_reducible show wpAny _ _ (binaryOp Operator.Pow _ _) _ _ _)); (fail_if_success (with_reducible show wpAny _ _ (binaryOp Operator.FloorDiv _ _) _ _ _)); (fail_if_success (with_reducible show wpAny _ _ (binaryOp Operator.Mod _ _) _ _ _)); (fail_if_success (with_reducible show wpAny _ _ (compareOp _ (Value.ref _) (Value.ref _)) _ _ _)); (fail_if_success (with_reducible show wpAny _ _ (exec (Stmt.For _ _ _ _ _) _) _ _ _)); (fail_if_success (with_reducible show wpAny _ _ (subscriptTail _ _ (Value.ref _) (Value.ref _)) _ _ _)); (fail_if_success (with_reducible show wpAny _ _ (call (Value.builtin "sum") _) _ _ _)); (fail_if_success (with_reducible show Exists _)); first | (k_end; wrow_close) | ((with_reducible show wpAny _ _ (eval (PySem.Expr.Name _ _) _) _ _ _); (k_here; k_dflt (refine' nameX_L ?F ?v ?_ ?a ?b; (case F => k_asm); (case a => rfl); (case b => rfl); (case v => rfl); k_whole))) | walk1 | (dsimp only; first | ((with_reducible show wpAny _ _ (eval (PySem.Expr.Name _ _) _) _ _ _); (k_here; k_dflt (refine' nameX_L ?F ?v ?_ ?a ?b; (case F => k_asm); (case a => rfl); (case b => rfl); (case v => rfl); k_whole))) | walk1) | (leave1; walk_say "STEP leave1"; try dsimp only)))
          refine mulL (by lia) ?_
          (try dsimp only); repeat' (first | (k_unfold; (try dsimp only)) | ((fail_if_success (with_reducible show wpAny _ _ (subscriptTail _ _ (Value.ref _) (Value.int _ _)) _ _ _)); (fail_if_success (with_reducible show wpAny _ _ (binaryOp Operator.Mult (Value.int _ _) (Value.int _ _)) _ _ _)); (fail_if_success (with_reducible show wpAny _ _ (binaryOp Operator.Pow _ _) _ _ _)); (fail_if_success (with_reducible show wpAny _ _ (binaryOp Operator.FloorDiv _ _) _ _ _)); (fail_if_success (with_reducible show wpAny _ _ (binaryOp Operator.Mod _ _) _ _ _)); (fail_if_success (with_reducible show wpAny _ _ (compareOp _ (Value.ref _) (Value.ref _)) _ _ _)); (fail_if_success (with_reducible show wpAny _ _ (exec (Stmt.For _ _ _ _ _) _) _ _ _)); (fail_if_success (with_reducible show wpAny _ _ (subscriptTail _ _ (Value.ref _) (Value.ref _)) _ _ _)); (fail_if_success (with_reducible show wpAny _ _ (call (Value.builtin "sum") _) _ _ _)); (fail_if_success (with_reducible show Exists _)); first | (k_end; wrow_close) | ((with_reducible show wpAny _ _ (eval (PySem.Expr.Name _ _) _) _ _ _); (k_here; k_dflt (refine' nameX_L ?F ?v ?_ ?a ?b; (case F => k_asm); (case a => rfl); (case b => rfl); (case v => rfl); k_whole))) | walk1 | (dsimp only; first | ((with_reducible show wpAny _ _ (eval (PySem.Expr.Name _ _) _) _ _ _); (k_here; k_dflt (refine' nameX_L ?F ?v ?_ ?a ?b; (case F => k_asm); (case a => rfl); (case b => rfl); (case v => rfl); k_whole))) | walk1) | (leave1; walk_say "STEP leave1"; try dsimp only)))
          refine mod_int' (by decide) ?_
          rw [wave_i1]
          (try dsimp only); repeat' (first | (k_unfold; (try dsimp only)) | ((fail_if_success (with_reducible show wpAny _ _ (subscriptTail _ _ (Value.ref _) (Value.int _ _)) _ _ _)); (fail_if_success (with_reducible show wpAny _ _ (binaryOp Operator.Mult (Value.int _ _) (Value.int _ _)) _ _ _)); (fail_if_success (with_reducible show wpAny _ _ (binaryOp Operator.Pow _ _) _ _ _)); (fail_if_success (with_reducible show wpAny _ _ (binaryOp Operator.FloorDiv _ _) _ _ _)); (fail_if_success (with_reducible show wpAny _ _ (binaryOp Operator.Mod _ _) _ _ _)); (fail_if_success (with_reducible show wpAny _ _ (compareOp _ (Value.ref _) (Value.ref _)) _ _ _)); (fail_if_success (with_reducible show wpAny _ _ (exec (Stmt.For _ _ _ _ _) _) _ _ _)); (fail_if_success (with_reducible show wpAny _ _ (subscriptTail _ _ (Value.ref _) (Value.ref _)) _ _ _)); (fail_if_success (with_reducible show wpAny _ _ (call (Value.builtin "sum") _) _ _ _)); (fail_if_success (with_reducible show Exists _)); first | (k_end; wrow_close) | ((with_reducible show wpAny _ _ (eval (PySem.Expr.Name _ _) _) _ _ _); (k_here; k_dflt (refine' nameX_L ?F ?v ?_ ?a ?b; (case F => k_asm); (case a => rfl); (case b => rfl); (case v => rfl); k_whole))) | walk1 | (dsimp only; first | ((with_reducible show wpAny _ _ (eval (PySem.Expr.Name _ _) _) _ _ _); (k_here; k_dflt (refine' nameX_L ?F ?v ?_ ?a ?b; (case F => k_asm); (case a => rfl); (case b => rfl); (case v => rfl); k_whole))) | walk1) | (leave1; walk_say "STEP leave1"; try dsimp only)))
          refine pickI (j := (j + 1) * i % 6) hwv (News.get (by assumption) (.tail _ (.tail _ (.tail _ (.head _))))) rfl (by lia) (wave_at _) ?_
          intro
          (try dsimp only); repeat' (first | (k_unfold; (try dsimp only)) | ((fail_if_success (with_reducible show wpAny _ _ (subscriptTail _ _ (Value.ref _) (Value.int _ _)) _ _ _)); (fail_if_success (with_reducible show wpAny _ _ (binaryOp Operator.Mult (Value.int _ _) (Value.int _ _)) _ _ _)); (fail_if_success (with_reducible show wpAny _ _ (binaryOp Operator.Pow _ _) _ _ _)); (fail_if_success (with_reducible show wpAny _ _ (binaryOp Operator.FloorDiv _ _) _ _ _)); (fail_if_success (with_reducible show wpAny _ _ (binaryOp Operator.Mod _ _) _ _ _)); (fail_if_success (with_reducible show wpAny _ _ (compareOp _ (Value.ref _) (Value.ref _)) _ _ _)); (fail_if_success (with_reducible show wpAny _ _ (exec (Stmt.For _ _ _ _ _) _) _ _ _)); (fail_if_success (with_reducible show wpAny _ _ (subscriptTail _ _ (Value.ref _) (Value.ref _)) _ _ _)); (fail_if_success (with_reducible show wpAny _ _ (call (Value.builtin "sum") _) _ _ _)); (fail_if_success (with_reducible show Exists _)); first | (k_end; wrow_close) | ((with_reducible show wpAny _ _ (eval (PySem.Expr.Name _ _) _) _ _ _); (k_here; k_dflt (refine' nameX_L ?F ?v ?_ ?a ?b; (case F => k_asm); (case a => rfl); (case b => rfl); (case v => rfl); k_whole))) | walk1 | (dsimp only; first | ((with_reducible show wpAny _ _ (eval (PySem.Expr.Name _ _) _) _ _ _); (k_here; k_dflt (refine' nameX_L ?F ?v ?_ ?a ?b; (case F => k_asm); (case a => rfl); (case b => rfl); (case v => rfl); k_whole))) | walk1) | (leave1; walk_say "STEP leave1"; try dsimp only)))
          refine mulR (wave_fit _) ?_
          (try dsimp only); repeat' (first | (k_unfold; (try dsimp only)) | ((fail_if_success (with_reducible show wpAny _ _ (subscriptTail _ _ (Value.ref _) (Value.int _ _)) _ _ _)); (fail_if_success (with_reducible show wpAny _ _ (binaryOp Operator.Mult (Value.int _ _) (Value.int _ _)) _ _ _)); (fail_if_success (with_reducible show wpAny _ _ (binaryOp Operator.Pow _ _) _ _ _)); (fail_if_success (with_reducible show wpAny _ _ (binaryOp Operator.FloorDiv _ _) _ _ _)); (fail_if_success (with_reducible show wpAny _ _ (binaryOp Operator.Mod _ _) _ _ _)); (fail_if_success (with_reducible show wpAny _ _ (compareOp _ (Value.ref _) (Value.ref _)) _ _ _)); (fail_if_success (with_reducible show wpAny _ _ (exec (Stmt.For _ _ _ _ _) _) _ _ _)); (fail_if_success (with_reducible show wpAny _ _ (subscriptTail _ _ (Value.ref _) (Value.ref _)) _ _ _)); (fail_if_success (with_reducible show wpAny _ _ (call (Value.builtin "sum") _) _ _ _)); (fail_if_success (with_reducible show Exists _)); first | (k_end; wrow_close) | ((with_reducible show wpAny _ _ (eval (PySem.Expr.Name _ _) _) _ _ _); (k_here; k_dflt (refine' nameX_L ?F ?v ?_ ?a ?b; (case F => k_asm); (case a => rfl); (case b => rfl); (case v => rfl); k_whole))) | walk1 | (dsimp only; first | ((with_reducible show wpAny _ _ (eval (PySem.Expr.Name _ _) _) _ _ _); (k_here; k_dflt (refine' nameX_L ?F ?v ?_ ?a ?b; (case F => k_asm); (case a => rfl); (case b => rfl); (case v => rfl); k_whole))) | walk1) | (leave1; walk_say "STEP leave1"; try dsimp only)))
          refine pickMix (j := j + 1) hmx (News.get (by assumption) (.tail _ (.tail _ (.tail _ (.tail _ h8))))) rfl (by lia) (by decide) ?_
          intro tb _ _ mb
          (try dsimp only); repeat' (first | (k_unfold; (try dsimp only)) | ((fail_if_success (with_reducible show wpAny _ _ (subscriptTail _ _ (Value.ref _) (Value.int _ _)) _ _ _)); (fail_if_success (with_reducible show wpAny _ _ (binaryOp Operator.Mult (Value.int _ _) (Value.int _ _)) _ _ _)); (fail_if_success (with_reducible show wpAny _ _ (binaryOp Operator.Pow _ _) _ _ _)); (fail_if_success (with_reducible show wpAny _ _ (binaryOp Operator.FloorDiv _ _) _ _ _)); (fail_if_success (with_reducible show wpAny _ _ (binaryOp Operator.Mod _ _) _ _ _)); (fail_if_success (with_reducible show wpAny _ _ (compareOp _ (Value.ref _) (Value.ref _)) _ _ _)); (fail_if_success (with_reducible show wpAny _ _ (exec (Stmt.For _ _ _ _ _) _) _ _ _)); (fail_if_success (with_reducible show wpAny _ _ (subscriptTail _ _ (Value.ref _) (Value.ref _)) _ _ _)); (fail_if_success (with_reducible show wpAny _ _ (call (Value.builtin "sum") _) _ _ _)); (fail_if_success (with_reducible show Exists _)); first | (k_end; wrow_close) | ((with_reducible show wpAny _ _ (eval (PySem.Expr.Name _ _) _) _ _ _); (k_here; k_dflt (refine' nameX_L ?F ?v ?_ ?a ?b; (case F => k_asm); (case a => rfl); (case b => rfl); (case v => rfl); k_whole))) | walk1 | (dsimp only; first | ((with_reducible show wpAny _ _ (eval (PySem.Expr.Name _ _) _) _ _ _); (k_here; k_dflt (refine' nameX_L ?F ?v ?_ ?a ?b; (case F => k_asm); (case a => rfl); (case b => rfl); (case v => rfl); k_whole))) | walk1) | (leave1; walk_say "STEP leave1"; try dsimp only)))
          refine pickB (News.get (by assumption) (.tail _ (.tail _ (.tail _ (.tail _ mb))))) ?_
          (try dsimp only); repeat' (first | (k_unfold; (try dsimp only)) | ((fail_if_success (with_reducible show wpAny _ _ (subscriptTail _ _ (Value.ref _) (Value.int _ _)) _ _ _)); (fail_if_success (with_reducible show wpAny _ _ (binaryOp Operator.Mult (Value.int _ _) (Value.int _ _)) _ _ _)); (fail_if_success (with_reducible show wpAny _ _ (binaryOp Operator.Pow _ _) _ _ _)); (fail_if_success (with_reducible show wpAny _ _ (binaryOp Operator.FloorDiv _ _) _ _ _)); (fail_if_success (with_reducible show wpAny _ _ (binaryOp Operator.Mod _ _) _ _ _)); (fail_if_success (with_reducible show wpAny _ _ (compareOp _ (Value.ref _) (Value.ref _)) _ _ _)); (fail_if_success (with_reducible show wpAny _ _ (exec (Stmt.For _ _ _ _ _) _) _ _ _)); (fail_if_success (with_reducible show wpAny _ _ (subscriptTail _ _ (Value.ref _) (Value.ref _)) _ _ _)); (fail_if_success (with_reducible show wpAny _ _ (call (Value.builtin "sum") _) _ _ _)); (fail_if_success (with_reducible show Exists _)); first | (k_end; wrow_close) | ((with_reducible show wpAny _ _ (eval (PySem.Expr.Name _ _) _) _ _ _); (k_here; k_dflt (refine' nameX_L ?F ?v ?_ ?a ?b; (case F => k_asm); (case a => rfl); (case b => rfl); (case v => rfl); k_whole))) | walk1 | (dsimp only; first | ((with_reducible show wpAny _ _ (eval (PySem.Expr.Name _ _) _) _ _ _); (k_here; k_dflt (refine' nameX_L ?F ?v ?_ ?a ?b; (case F => k_asm); (case a => rfl); (case b => rfl); (case v => rfl); k_whole))) | walk1) | (leave1; walk_say "STEP leave1"; try dsimp only)))
          refine mulL (by lia) ?_
          (try dsimp only); repeat' (first | (k_unfold; (try dsimp only)) | ((fail_if_success (with_reducible show wpAny _ _ (subscriptTail _ _ (Value.ref _) (Value.int _ _)) _ _ _)); (fail_if_success (with_reducible show wpAny _ _ (binaryOp Operator.Mult (Value.int _ _) (Value.int _ _)) _ _ _)); (fail_if_success (with_reducible show wpAny _ _ (binaryOp Operator.Pow _ _) _ _ _)); (fail_if_success (with_reducible show wpAny _ _ (binaryOp Operator.FloorDiv _ _) _ _ _)); (fail_if_success (with_reducible show wpAny _ _ (binaryOp Operator.Mod _ _) _ _ _)); (fail_if_success (with_reducible show wpAny _ _ (compareOp _ (Value.ref _) (Value.ref _)) _ _ _)); (fail_if_success (with_reducible show wpAny _ _ (exec (Stmt.For _ _ _ _ _) _) _ _ _)); (fail_if_success (with_reducible show wpAny _ _ (subscriptTail _ _ (Value.ref _) (Value.ref _)) _ _ _)); (fail_if_success (with_reducible show wpAny _ _ (call (Value.builtin "sum") _) _ _ _)); (fail_if_success (with_reducible show Exists _)); first | (k_end; wrow_close) | ((with_reducible show wpAny _ _ (eval (PySem.Expr.Name _ _) _) _ _ _); (k_here; k_dflt (refine' nameX_L ?F ?v ?_ ?a ?b; (case F => k_asm); (case a => rfl); (case b => rfl); (case v => rfl); k_whole))) | walk1 | (dsimp only; first | ((with_reducible show wpAny _ _ (eval (PySem.Expr.Name _ _) _) _ _ _); (k_here; k_dflt (refine' nameX_L ?F ?v ?_ ?a ?b; (case F => k_asm); (case a => rfl); (case b => rfl); (case v => rfl); k_whole))) | walk1) | (leave1; walk_say "STEP leave1"; try dsimp only)))
          refine mod_int' (by decide) ?_
          rw [wave_i2]
          (try dsimp only); repeat' (first | (k_unfold; (try dsimp only)) | ((fail_if_success (with_reducible show wpAny _ _ (subscriptTail _ _ (Value.ref _) (Value.int _ _)) _ _ _)); (fail_if_success (with_reducible show wpAny _ _ (binaryOp Operator.Mult (Value.int _ _) (Value.int _ _)) _ _ _)); (fail_if_success (with_reducible show wpAny _ _ (binaryOp Operator.Pow _ _) _ _ _)); (fail_if_success (with_reducible show wpAny _ _ (binaryOp Operator.FloorDiv _ _) _ _ _)); (fail_if_success (with_reducible show wpAny _ _ (binaryOp Operator.Mod _ _) _ _ _)); (fail_if_success (with_reducible show wpAny _ _ (compareOp _ (Value.ref _) (Value.ref _)) _ _ _)); (fail_if_success (with_reducible show wpAny _ _ (exec (Stmt.For _ _ _ _ _) _) _ _ _)); (fail_if_success (with_reducible show wpAny _ _ (subscriptTail _ _ (Value.ref _) (Value.ref _)) _ _ _)); (fail_if_success (with_reducible show wpAny _ _ (call (Value.builtin "sum") _) _ _ _)); (fail_if_success (with_reducible show Exists _)); first | (k_end; wrow_close) | ((with_reducible show wpAny _ _ (eval (PySem.Expr.Name _ _) _) _ _ _); (k_here; k_dflt (refine' nameX_L ?F ?v ?_ ?a ?b; (case F => k_asm); (case a => rfl); (case b => rfl); (case v => rfl); k_whole))) | walk1 | (dsimp only; first | ((with_reducible show wpAny _ _ (eval (PySem.Expr.Name _ _) _) _ _ _); (k_here; k_dflt (refine' nameX_L ?F ?v ?_ ?a ?b; (case F => k_asm); (case a => rfl); (case b => rfl); (case v => rfl); k_whole))) | walk1) | (leave1; walk_say "STEP leave1"; try dsimp only)))
          refine pickI (j := ((j + 1) * i + 5) % 6) hwv (News.get (by assumption) (.tail _ (.tail _ (.tail _ (.head _))))) rfl (by lia) (wave_at _) ?_
          intro
          (try dsimp only); repeat' (first | (k_unfold; (try dsimp only)) | ((fail_if_success (with_reducible show wpAny _ _ (subscriptTail _ _ (Value.ref _) (Value.int _ _)) _ _ _)); (fail_if_success (with_reducible show wpAny _ _ (binaryOp Operator.Mult (Value.int _ _) (Value.int _ _)) _ _ _)); (fail_if_success (with_reducible show wpAny _ _ (binaryOp Operator.Pow _ _) _ _ _)); (fail_if_success (with_reducible show wpAny _ _ (binaryOp Operator.FloorDiv _ _) _ _ _)); (fail_if_success (with_reducible show wpAny _ _ (binaryOp Operator.Mod _ _) _ _ _)); (fail_if_success (with_reducible show wpAny _ _ (compareOp _ (Value.ref _) (Value.ref _)) _ _ _)); (fail_if_success (with_reducible show wpAny _ _ (exec (Stmt.For _ _ _ _ _) _) _ _ _)); (fail_if_success (with_reducible show wpAny _ _ (subscriptTail _ _ (Value.ref _) (Value.ref _)) _ _ _)); (fail_if_success (with_reducible show wpAny _ _ (call (Value.builtin "sum") _) _ _ _)); (fail_if_success (with_reducible show Exists _)); first | (k_end; wrow_close) | ((with_reducible show wpAny _ _ (eval (PySem.Expr.Name _ _) _) _ _ _); (k_here; k_dflt (refine' nameX_L ?F ?v ?_ ?a ?b; (case F => k_asm); (case a => rfl); (case b => rfl); (case v => rfl); k_whole))) | walk1 | (dsimp only; first | ((with_reducible show wpAny _ _ (eval (PySem.Expr.Name _ _) _) _ _ _); (k_here; k_dflt (refine' nameX_L ?F ?v ?_ ?a ?b; (case F => k_asm); (case a => rfl); (case b => rfl); (case v => rfl); k_whole))) | walk1) | (leave1; walk_say "STEP leave1"; try dsimp only)))
          refine mulR (wave_fit _) ?_
          (try dsimp only); repeat' (first | (k_unfold; (try dsimp only)) | ((fail_if_success (with_reducible show wpAny _ _ (subscriptTail _ _ (Value.ref _) (Value.int _ _)) _ _ _)); (fail_if_success (with_reducible show wpAny _ _ (binaryOp Operator.Mult (Value.int _ _) (Value.int _ _)) _ _ _)); (fail_if_success (with_reducible show wpAny _ _ (binaryOp Operator.Pow _ _) _ _ _)); (fail_if_success (with_reducible show wpAny _ _ (binaryOp Operator.FloorDiv _ _) _ _ _)); (fail_if_success (with_reducible show wpAny _ _ (binaryOp Operator.Mod _ _) _ _ _)); (fail_if_success (with_reducible show wpAny _ _ (compareOp _ (Value.ref _) (Value.ref _)) _ _ _)); (fail_if_success (with_reducible show wpAny _ _ (exec (Stmt.For _ _ _ _ _) _) _ _ _)); (fail_if_success (with_reducible show wpAny _ _ (subscriptTail _ _ (Value.ref _) (Value.ref _)) _ _ _)); (fail_if_success (with_reducible show wpAny _ _ (call (Value.builtin "sum") _) _ _ _)); (fail_if_success (with_reducible show Exists _)); first | (k_end; wrow_close) | ((with_reducible show wpAny _ _ (eval (PySem.Expr.Name _ _) _) _ _ _); (k_here; k_dflt (refine' nameX_L ?F ?v ?_ ?a ?b; (case F => k_asm); (case a => rfl); (case b => rfl); (case v => rfl); k_whole))) | walk1 | (dsimp only; first | ((with_reducible show wpAny _ _ (eval (PySem.Expr.Name _ _) _) _ _ _); (k_here; k_dflt (refine' nameX_L ?F ?v ?_ ?a ?b; (case F => k_asm); (case a => rfl); (case b => rfl); (case v => rfl); k_whole))) | walk1) | (leave1; walk_say "STEP leave1"; try dsimp only)))
          rename Fr _ _ _ _ => F13
          rename News _ _ _ _ => N13
          exact ⟨k2 - 1, by lia, _, _, j + 1, oJ2, _, _, rfl, frCongr F13 (fun y => over2d), N13, cJ2, dJ2, by lia⟩
end
end Mine
end
section
open PySem PySem.W PySem.Calls PyProof.Rows
set_option maxRecDepth 100000
set_option maxHeartbeats 8000000
namespace Mine
section
variable {w : World} {A : Around} {s : Shared} {sc : Scope} {p : Program} {loose : List Str} {mean : ExcName → Option Value} {mg mb : Str → Option Value} {b : Heap} {L : Addr} {m : Str → Option Value}
theorem law_end {R : Flow → Shared → Prop} {D4 : Addr} {N low B e4 v0 d : Nat} {P : Int} {tN tL tB tP : Tok} {vals : List Value} {vns : List Int} {rest tail : List (Addr × Obj)} (hsc : lawScope w.params = some sc)
    (G : Gr w p loose mean mg mb b) (hd : A.depth + 260 < recursionLimit) (hA : A.handled = none) (hU : A.units + 1000 < cLine)
    (F : Fr (hid b) L s.heap (fun z => if z = Str.ofString "packed" then some (.int P tP) else if z = Str.ofString "values" then some (.ref D4) else if z = Str.ofString "base" then some (.int (B : Int) tB) else if z = Str.ofString "low" then some (.int (low : Int) tL) else if z = Str.ofString "number" then some (.int (N : Int) tN) else m z))
    (N0 : News (hid b) L s.heap (rest ++ tail)) (TL : TailIs (hid b) tail) (hgt : ∀ q ∈ rest, @LT.lt Nat _ 59 q.1) (h59 : @LT.lt Nat _ 59 L) (hbL : b.objs.size ≤ L)
    (h4 : (D4, W.listOf vals.toArray e4) ∈ rest) (hv : IntsAre vals vns) (hv0 : vns[0]? = some (v0 : Int)) (hN : N < 2 ^ 100) (hlow : low ≤ 9) (hB : 2 ≤ B ∧ B ≤ 1000) (hde : (B : Int) ^ 6 - 1 = (d : Int)) (hdp : 0 < d ∧ d < 2 ^ 64)
    (hT : ((v0 : Int) + ((10 ^ low : Nat) : Int) * P).natAbs < 2 ^ 100 ∧ ((v0 : Int) + ((10 ^ low : Nat) : Int) * P).fmod d = (N : Int).fmod d)
    (h : ∀ h' tk' tail' m', Fr (hid b) L h' m' → News (hid b) L h' (rest ++ tail') → TailIs (hid b) tail' → R (.ret (.bool true)) { s with heap := h', toks := tk' }) :
    wpAny (model PySem.Challenge.rw_rl0106_01.row.prog w) (A.deeper (envOfC (Str.ofString "law") sc L 123 (.ref 122))) (execs ((lawBody w.params).drop 22) (envOfC (Str.ofString "law") sc L 123 (.ref 122))) R (fun _ _ => False) s := by
  cases hsc
  have X := G.X
  have T := G.T
  revert X; k_fill; intro X
  dsimp only [lawBody, Mine.o123, Mine.s123, List.drop_succ_cons, List.drop_zero]
  replace h := Hide.mk h
  (try dsimp only); repeat' (first | (k_unfold; (try dsimp only)) | ((fail_if_success (with_reducible show wpAny _ _ (subscriptTail _ _ (Value.ref _) (Value.int _ _)) _ _ _)); (fail_if_success (with_reducible show wpAny _ _ (call (Value.ref _) _) _ _ _)); (fail_if_success (with_reducible show wpAny _ _ (binaryOp Operator.Mult (Value.int _ _) (Value.int _ _)) _ _ _)); (fail_if_success (with_reducible show wpAny _ _ (binaryOp Operator.Pow _ _) _ _ _)); (fail_if_success (with_reducible show wpAny _ _ (binaryOp Operator.FloorDiv _ _) _ _ _)); (fail_if_success (with_reducible show wpAny _ _ (binaryOp Operator.Mod _ _) _ _ _)); (fail_if_success (with_reducible show wpAny _ _ (compareOp _ (Value.ref _) (Value.ref _)) _ _ _)); (fail_if_success (with_reducible show Exists _)); first | (k_end; wrow_close) | ((with_reducible show wpAny _ _ (eval (PySem.Expr.Name _ _) _) _ _ _); (k_here; k_dflt (refine' nameX_L ?F ?v ?_ ?a ?b; (case F => k_asm); (case a => rfl); (case b => rfl); (case v => rfl); k_whole))) | walk1 | (dsimp only; first | ((with_reducible show wpAny _ _ (eval (PySem.Expr.Name _ _) _) _ _ _); (k_here; k_dflt (refine' nameX_L ?F ?v ?_ ?a ?b; (case F => k_asm); (case a => rfl); (case b => rfl); (case v => rfl); k_whole))) | walk1) | (leave1; walk_say "STEP leave1"; try dsimp only)))
  refine pickI (j := 0) hv (News.get (by assumption) (List.mem_append_left _ h4)) rfl (by lia) hv0 ?_
  intro
  generalize hTe : (v0 : Int) + ((10 ^ low : Nat) : Int) * P = T9 at hT
  (try dsimp only); repeat' (first | (k_unfold; (try dsimp only)) | ((fail_if_success (with_reducible show wpAny _ _ (subscriptTail _ _ (Value.ref _) (Value.int _ _)) _ _ _)); (fail_if_success (with_reducible show wpAny _ _ (call (Value.ref _) _) _ _ _)); (fail_if_success (with_reducible show wpAny _ _ (binaryOp Operator.Mult (Value.int _ _) (Value.int _ _)) _ _ _)); (fail_if_success (with_reducible show wpAny _ _ (binaryOp Operator.Pow _ _) _ _ _)); (fail_if_success (with_reducible show wpAny _ _ (binaryOp Operator.FloorDiv _ _) _ _ _)); (fail_if_success (with_reducible show wpAny _ _ (binaryOp Operator.Mod _ _) _ _ _)); (fail_if_success (with_reducible show wpAny _ _ (compareOp _ (Value.ref _) (Value.ref _)) _ _ _)); (fail_if_success (with_reducible show Exists _)); first | (k_end; wrow_close) | ((with_reducible show wpAny _ _ (eval (PySem.Expr.Name _ _) _) _ _ _); (k_here; k_dflt (refine' nameX_L ?F ?v ?_ ?a ?b; (case F => k_asm); (case a => rfl); (case b => rfl); (case v => rfl); k_whole))) | walk1 | (dsimp only; first | ((with_reducible show wpAny _ _ (eval (PySem.Expr.Name _ _) _) _ _ _); (k_here; k_dflt (refine' nameX_L ?F ?v ?_ ?a ?b; (case F => k_asm); (case a => rfl); (case b => rfl); (case v => rfl); k_whole))) | walk1) | (leave1; walk_say "STEP leave1"; try dsimp only)))
  refine pow10N hlow ?_
  (try dsimp only); repeat' (first | (k_unfold; (try dsimp only)) | ((fail_if_success (with_reducible show wpAny _ _ (subscriptTail _ _ (Value.ref _) (Value.int _ _)) _ _ _)); (fail_if_success (with_reducible show wpAny _ _ (call (Value.ref _) _) _ _ _)); (fail_if_success (with_reducible show wpAny _ _ (binaryOp Operator.Mult (Value.int _ _) (Value.int _ _)) _ _ _)); (fail_if_success (with_reducible show wpAny _ _ (binaryOp Operator.Pow _ _) _ _ _)); (fail_if_success (with_reducible show wpAny _ _ (binaryOp Operator.FloorDiv _ _) _ _ _)); (fail_if_success (with_reducible show wpAny _ _ (binaryOp Operator.Mod _ _) _ _ _)); (fail_if_success (with_reducible show wpAny _ _ (compareOp _ (Value.ref _) (Value.ref _)) _ _ _)); (fail_if_success (with_reducible show Exists _)); first | (k_end; wrow_close) | ((with_reducible show wpAny _ _ (eval (PySem.Expr.Name _ _) _) _ _ _); (k_here; k_dflt (refine' nameX_L ?F ?v ?_ ?a ?b; (case F => k_asm); (case a => rfl); (case b => rfl); (case v => rfl); k_whole))) | walk1 | (dsimp only; first | ((with_reducible show wpAny _ _ (eval (PySem.Expr.Name _ _) _) _ _ _); (k_here; k_dflt (refine' nameX_L ?F ?v ?_ ?a ?b; (case F => k_asm); (case a => rfl); (case b => rfl); (case v => rfl); k_whole))) | walk1) | (leave1; walk_say "STEP leave1"; try dsimp only)))
  refine mulL (by rw [Int.natAbs_natCast]; exact Nat.lt_of_le_of_lt (Nat.pow_le_pow_right (by decide) hlow) (by decide)) ?_
  refine PyProof.Rows.add_int ?_
  rw [hTe]
  (try dsimp only); repeat' (first | (k_unfold; (try dsimp only)) | ((fail_if_success (with_reducible show wpAny _ _ (subscriptTail _ _ (Value.ref _) (Value.int _ _)) _ _ _)); (fail_if_success (with_reducible show wpAny _ _ (call (Value.ref _) _) _ _ _)); (fail_if_success (with_reducible show wpAny _ _ (binaryOp Operator.Mult (Value.int _ _) (Value.int _ _)) _ _ _)); (fail_if_success (with_reducible show wpAny _ _ (binaryOp Operator.Pow _ _) _ _ _)); (fail_if_success (with_reducible show wpAny _ _ (binaryOp Operator.FloorDiv _ _) _ _ _)); (fail_if_success (with_reducible show wpAny _ _ (binaryOp Operator.Mod _ _) _ _ _)); (fail_if_success (with_reducible show wpAny _ _ (compareOp _ (Value.ref _) (Value.ref _)) _ _ _)); (fail_if_success (with_reducible show Exists _)); first | (k_end; wrow_close) | ((with_reducible show wpAny _ _ (eval (PySem.Expr.Name _ _) _) _ _ _); (k_here; k_dflt (refine' nameX_L ?F ?v ?_ ?a ?b; (case F => k_asm); (case a => rfl); (case b => rfl); (case v => rfl); k_whole))) | walk1 | (dsimp only; first | ((with_reducible show wpAny _ _ (eval (PySem.Expr.Name _ _) _) _ _ _); (k_here; k_dflt (refine' nameX_L ?F ?v ?_ ?a ?b; (case F => k_asm); (case a => rfl); (case b => rfl); (case v => rfl); k_whole))) | walk1) | (leave1; walk_say "STEP leave1"; try dsimp only)))
  refine powN 6 rfl (by decide) hB.2 ?_
  (try dsimp only); repeat' (first | (k_unfold; (try dsimp only)) | ((fail_if_success (with_reducible show wpAny _ _ (subscriptTail _ _ (Value.ref _) (Value.int _ _)) _ _ _)); (fail_if_success (with_reducible show wpAny _ _ (call (Value.ref _) _) _ _ _)); (fail_if_success (with_reducible show wpAny _ _ (binaryOp Operator.Mult (Value.int _ _) (Value.int _ _)) _ _ _)); (fail_if_success (with_reducible show wpAny _ _ (binaryOp Operator.Pow _ _) _ _ _)); (fail_if_success (with_reducible show wpAny _ _ (binaryOp Operator.FloorDiv _ _) _ _ _)); (fail_if_success (with_reducible show wpAny _ _ (binaryOp Operator.Mod _ _) _ _ _)); (fail_if_success (with_reducible show wpAny _ _ (compareOp _ (Value.ref _) (Value.ref _)) _ _ _)); (fail_if_success (with_reducible show wpAny _ _ (binaryOp Operator.Sub (Value.int _ _) (Value.int _ _)) _ _ _)); (fail_if_success (with_reducible show Exists _)); first | (k_end; wrow_close) | ((with_reducible show wpAny _ _ (eval (PySem.Expr.Name _ _) _) _ _ _); (k_here; k_dflt (refine' nameX_L ?F ?v ?_ ?a ?b; (case F => k_asm); (case a => rfl); (case b => rfl); (case v => rfl); k_whole))) | walk1 | (dsimp only; first | ((with_reducible show wpAny _ _ (eval (PySem.Expr.Name _ _) _) _ _ _); (k_here; k_dflt (refine' nameX_L ?F ?v ?_ ?a ?b; (case F => k_asm); (case a => rfl); (case b => rfl); (case v => rfl); k_whole))) | walk1) | (leave1; walk_say "STEP leave1"; try dsimp only)))
  refine PyProof.Rows.sub_int ?_
  rw [hde]
  (try dsimp only); repeat' (first | (k_unfold; (try dsimp only)) | ((fail_if_success (with_reducible show wpAny _ _ (subscriptTail _ _ (Value.ref _) (Value.int _ _)) _ _ _)); (fail_if_success (with_reducible show wpAny _ _ (call (Value.ref _) _) _ _ _)); (fail_if_success (with_reducible show wpAny _ _ (binaryOp Operator.Mult (Value.int _ _) (Value.int _ _)) _ _ _)); (fail_if_success (with_reducible show wpAny _ _ (binaryOp Operator.Pow _ _) _ _ _)); (fail_if_success (with_reducible show wpAny _ _ (binaryOp Operator.FloorDiv _ _) _ _ _)); (fail_if_success (with_reducible show wpAny _ _ (binaryOp Operator.Mod _ _) _ _ _)); (fail_if_success (with_reducible show wpAny _ _ (compareOp _ (Value.ref _) (Value.ref _)) _ _ _)); (fail_if_success (with_reducible show Exists _)); first | (k_end; wrow_close) | ((with_reducible show wpAny _ _ (eval (PySem.Expr.Name _ _) _) _ _ _); (k_here; k_dflt (refine' nameX_L ?F ?v ?_ ?a ?b; (case F => k_asm); (case a => rfl); (case b => rfl); (case v => rfl); k_whole))) | walk1 | (dsimp only; first | ((with_reducible show wpAny _ _ (eval (PySem.Expr.Name _ _) _) _ _ _); (k_here; k_dflt (refine' nameX_L ?F ?v ?_ ?a ?b; (case F => k_asm); (case a => rfl); (case b => rfl); (case v => rfl); k_whole))) | walk1) | (leave1; walk_say "STEP leave1"; try dsimp only)))
  rename Fr _ _ _ _ => Fa
  rename News _ _ _ _ => Na
  refine idmP (rest := rest) (tail := tail) G ?_ hA hdp.1 hdp.2 (by rw [Int.natAbs_natCast]; exact hN) Fa Na TL hgt h59 hbL ?_
  · simp only [depth_deeper]; lia
  clear Fa Na
  intro t h7 tk7 tail1 u1 u2 F7 N7 TL1 l7 hL7
  clear TL
  (try dsimp only)
  (try dsimp only); repeat' (first | (k_unfold; (try dsimp only)) | ((fail_if_success (with_reducible show wpAny _ _ (subscriptTail _ _ (Value.ref _) (Value.int _ _)) _ _ _)); (fail_if_success (with_reducible show wpAny _ _ (call (Value.ref _) _) _ _ _)); (fail_if_success (with_reducible show wpAny _ _ (binaryOp Operator.Mult (Value.int _ _) (Value.int _ _)) _ _ _)); (fail_if_success (with_reducible show wpAny _ _ (binaryOp Operator.Pow _ _) _ _ _)); (fail_if_success (with_reducible show wpAny _ _ (binaryOp Operator.FloorDiv _ _) _ _ _)); (fail_if_success (with_reducible show wpAny _ _ (binaryOp Operator.Mod _ _) _ _ _)); (fail_if_success (with_reducible show wpAny _ _ (compareOp _ (Value.ref _) (Value.ref _)) _ _ _)); (fail_if_success (with_reducible show Exists _)); first | (k_end; wrow_close) | ((with_reducible show wpAny _ _ (eval (PySem.Expr.Name _ _) _) _ _ _); (k_here; k_dflt (refine' nameX_L ?F ?v ?_ ?a ?b; (case F => k_asm); (case a => rfl); (case b => rfl); (case v => rfl); k_whole))) | walk1 | (dsimp only; first | ((with_reducible show wpAny _ _ (eval (PySem.Expr.Name _ _) _) _ _ _); (k_here; k_dflt (refine' nameX_L ?F ?v ?_ ?a ?b; (case F => k_asm); (case a => rfl); (case b => rfl); (case v => rfl); k_whole))) | walk1) | (leave1; walk_say "STEP leave1"; try dsimp only)))
  refine fdivI (by lia) (by lia) ?_
  (try dsimp only); repeat' (first | (k_unfold; (try dsimp only)) | ((fail_if_success (with_reducible show wpAny _ _ (subscriptTail _ _ (Value.ref _) (Value.int _ _)) _ _ _)); (fail_if_success (with_reducible show wpAny _ _ (call (Value.ref _) _) _ _ _)); (fail_if_success (with_reducible show wpAny _ _ (binaryOp Operator.Mult (Value.int _ _) (Value.int _ _)) _ _ _)); (fail_if_success (with_reducible show wpAny _ _ (binaryOp Operator.Pow _ _) _ _ _)); (fail_if_success (with_reducible show wpAny _ _ (binaryOp Operator.FloorDiv _ _) _ _ _)); (fail_if_success (with_reducible show wpAny _ _ (binaryOp Operator.Mod _ _) _ _ _)); (fail_if_success (with_reducible show wpAny _ _ (compareOp _ (Value.ref _) (Value.ref _)) _ _ _)); (fail_if_success (with_reducible show Exists _)); first | (k_end; wrow_close) | ((with_reducible show wpAny _ _ (eval (PySem.Expr.Name _ _) _) _ _ _); (k_here; k_dflt (refine' nameX_L ?F ?v ?_ ?a ?b; (case F => k_asm); (case a => rfl); (case b => rfl); (case v => rfl); k_whole))) | walk1 | (dsimp only; first | ((with_reducible show wpAny _ _ (eval (PySem.Expr.Name _ _) _) _ _ _); (k_here; k_dflt (refine' nameX_L ?F ?v ?_ ?a ?b; (case F => k_asm); (case a => rfl); (case b => rfl); (case v => rfl); k_whole))) | walk1) | (leave1; walk_say "STEP leave1"; try dsimp only)))
  refine mod_int' (by lia) ?_
  (try dsimp only); repeat' (first | (k_unfold; (try dsimp only)) | ((fail_if_success (with_reducible show wpAny _ _ (subscriptTail _ _ (Value.ref _) (Value.int _ _)) _ _ _)); (fail_if_success (with_reducible show wpAny _ _ (call (Value.ref _) _) _ _ _)); (fail_if_success (with_reducible show wpAny _ _ (binaryOp Operator.Mult (Value.int _ _) (Value.int _ _)) _ _ _)); (fail_if_success (with_reducible show wpAny _ _ (binaryOp Operator.Pow _ _) _ _ _)); (fail_if_success (with_reducible show wpAny _ _ (binaryOp Operator.FloorDiv _ _) _ _ _)); (fail_if_success (with_reducible show wpAny _ _ (binaryOp Operator.Mod _ _) _ _ _)); (fail_if_success (with_reducible show wpAny _ _ (compareOp _ (Value.ref _) (Value.ref _)) _ _ _)); (fail_if_success (with_reducible show Exists _)); first | (k_end; wrow_close) | ((with_reducible show wpAny _ _ (eval (PySem.Expr.Name _ _) _) _ _ _); (k_here; k_dflt (refine' nameX_L ?F ?v ?_ ?a ?b; (case F => k_asm); (case a => rfl); (case b => rfl); (case v => rfl); k_whole))) | walk1 | (dsimp only; first | ((with_reducible show wpAny _ _ (eval (PySem.Expr.Name _ _) _) _ _ _); (k_here; k_dflt (refine' nameX_L ?F ?v ?_ ?a ?b; (case F => k_asm); (case a => rfl); (case b => rfl); (case v => rfl); k_whole))) | walk1) | (leave1; walk_say "STEP leave1"; try dsimp only)))
  rename Fr _ _ _ _ => Fa
  rename News _ _ _ _ => Na
  refine neTup (Na.get (.tail _ (.head _))) (Na.get (.head _)) (by show A.units + 3 + 64 < cLine; lia) rfl rfl ?_
  replace Na : News (hid b) L _ (rest ++ tail1) := fun q hq => Na q (.tail _ (.tail _ hq))
  repeat (rename (@LT.lt Nat _ L _) => hx9; clear hx9)
  (try dsimp only)
  (try dsimp only); repeat' (first | (k_unfold; (try dsimp only)) | ((fail_if_success (with_reducible show wpAny _ _ (subscriptTail _ _ (Value.ref _) (Value.int _ _)) _ _ _)); (fail_if_success (with_reducible show wpAny _ _ (call (Value.ref _) _) _ _ _)); (fail_if_success (with_reducible show wpAny _ _ (binaryOp Operator.Mult (Value.int _ _) (Value.int _ _)) _ _ _)); (fail_if_success (with_reducible show wpAny _ _ (binaryOp Operator.Pow _ _) _ _ _)); (fail_if_success (with_reducible show wpAny _ _ (binaryOp Operator.FloorDiv _ _) _ _ _)); (fail_if_success (with_reducible show wpAny _ _ (binaryOp Operator.Mod _ _) _ _ _)); (fail_if_success (with_reducible show wpAny _ _ (compareOp _ (Value.ref _) (Value.ref _)) _ _ _)); (fail_if_success (with_reducible show Exists _)); first | (k_end; wrow_close) | ((with_reducible show wpAny _ _ (eval (PySem.Expr.Name _ _) _) _ _ _); (k_here; k_dflt (refine' nameX_L ?F ?v ?_ ?a ?b; (case F => k_asm); (case a => rfl); (case b => rfl); (case v => rfl); k_whole))) | walk1 | (dsimp only; first | ((with_reducible show wpAny _ _ (eval (PySem.Expr.Name _ _) _) _ _ _); (k_here; k_dflt (refine' nameX_L ?F ?v ?_ ?a ?b; (case F => k_asm); (case a => rfl); (case b => rfl); (case v => rfl); k_whole))) | walk1) | (leave1; walk_say "STEP leave1"; try dsimp only)))
  rename Fr _ _ _ _ => Fa
  rename News _ _ _ _ => Na
  refine idmP (rest := rest) (tail := tail1) G ?_ hA hdp.1 hdp.2 hT.1 Fa Na TL1 hgt h59 hbL ?_
  · simp only [depth_deeper]; lia
  clear Fa Na
  intro t h7 tk7 tail2 u1 u2 F7 N7 TL2 l7 hL7
  clear TL1
  (try dsimp only)
  (try dsimp only); repeat' (first | (k_unfold; (try dsimp only)) | ((fail_if_success (with_reducible show wpAny _ _ (subscriptTail _ _ (Value.ref _) (Value.int _ _)) _ _ _)); (fail_if_success (with_reducible show wpAny _ _ (call (Value.ref _) _) _ _ _)); (fail_if_success (with_reducible show wpAny _ _ (binaryOp Operator.Mult (Value.int _ _) (Value.int _ _)) _ _ _)); (fail_if_success (with_reducible show wpAny _ _ (binaryOp Operator.Pow _ _) _ _ _)); (fail_if_success (with_reducible show wpAny _ _ (binaryOp Operator.FloorDiv _ _) _ _ _)); (fail_if_success (with_reducible show wpAny _ _ (binaryOp Operator.Mod _ _) _ _ _)); (fail_if_success (with_reducible show wpAny _ _ (compareOp _ (Value.ref _) (Value.ref _)) _ _ _)); (fail_if_success (with_reducible show Exists _)); first | (k_end; wrow_close) | ((with_reducible show wpAny _ _ (eval (PySem.Expr.Name _ _) _) _ _ _); (k_here; k_dflt (refine' nameX_L ?F ?v ?_ ?a ?b; (case F => k_asm); (case a => rfl); (case b => rfl); (case v => rfl); k_whole))) | walk1 | (dsimp only; first | ((with_reducible show wpAny _ _ (eval (PySem.Expr.Name _ _) _) _ _ _); (k_here; k_dflt (refine' nameX_L ?F ?v ?_ ?a ?b; (case F => k_asm); (case a => rfl); (case b => rfl); (case v => rfl); k_whole))) | walk1) | (leave1; walk_say "STEP leave1"; try dsimp only)))
  refine fdivI (by lia) (by lia) ?_
  (try dsimp only); repeat' (first | (k_unfold; (try dsimp only)) | ((fail_if_success (with_reducible show wpAny _ _ (subscriptTail _ _ (Value.ref _) (Value.int _ _)) _ _ _)); (fail_if_success (with_reducible show wpAny _ _ (call (Value.ref _) _) _ _ _)); (fail_if_success (with_reducible show wpAny _ _ (binaryOp Operator.Mult (Value.int _ _) (Value.int _ _)) _ _ _)); (fail_if_success (with_reducible show wpAny _ _ (binaryOp Operator.Pow _ _) _ _ _)); (fail_if_success (with_reducible show wpAny _ _ (binaryOp Operator.FloorDiv _ _) _ _ _)); (fail_if_success (with_reducible show wpAny _ _ (binaryOp Operator.Mod _ _) _ _ _)); (fail_if_success (with_reducible show wpAny _ _ (compareOp _ (Value.ref _) (Value.ref _)) _ _ _)); (fail_if_success (with_reducible show Exists _)); first | (k_end; wrow_close) | ((with_reducible show wpAny _ _ (eval (PySem.Expr.Name _ _) _) _ _ _); (k_here; k_dflt (refine' nameX_L ?F ?v ?_ ?a ?b; (case F => k_asm); (case a => rfl); (case b => rfl); (case v => rfl); k_whole))) | walk1 | (dsimp only; first | ((with_reducible show wpAny _ _ (eval (PySem.Expr.Name _ _) _) _ _ _); (k_here; k_dflt (refine' nameX_L ?F ?v ?_ ?a ?b; (case F => k_asm); (case a => rfl); (case b => rfl); (case v => rfl); k_whole))) | walk1) | (leave1; walk_say "STEP leave1"; try dsimp only)))
  refine mod_int' (by lia) ?_
  (try dsimp only); repeat' (first | (k_unfold; (try dsimp only)) | ((fail_if_success (with_reducible show wpAny _ _ (subscriptTail _ _ (Value.ref _) (Value.int _ _)) _ _ _)); (fail_if_success (with_reducible show wpAny _ _ (call (Value.ref _) _) _ _ _)); (fail_if_success (with_reducible show wpAny _ _ (binaryOp Operator.Mult (Value.int _ _) (Value.int _ _)) _ _ _)); (fail_if_success (with_reducible show wpAny _ _ (binaryOp Operator.Pow _ _) _ _ _)); (fail_if_success (with_reducible show wpAny _ _ (binaryOp Operator.FloorDiv _ _) _ _ _)); (fail_if_success (with_reducible show wpAny _ _ (binaryOp Operator.Mod _ _) _ _ _)); (fail_if_success (with_reducible show wpAny _ _ (compareOp _ (Value.ref _) (Value.ref _)) _ _ _)); (fail_if_success (with_reducible show Exists _)); first | (k_end; wrow_close) | ((with_reducible show wpAny _ _ (eval (PySem.Expr.Name _ _) _) _ _ _); (k_here; k_dflt (refine' nameX_L ?F ?v ?_ ?a ?b; (case F => k_asm); (case a => rfl); (case b => rfl); (case v => rfl); k_whole))) | walk1 | (dsimp only; first | ((with_reducible show wpAny _ _ (eval (PySem.Expr.Name _ _) _) _ _ _); (k_here; k_dflt (refine' nameX_L ?F ?v ?_ ?a ?b; (case F => k_asm); (case a => rfl); (case b => rfl); (case v => rfl); k_whole))) | walk1) | (leave1; walk_say "STEP leave1"; try dsimp only)))
  rename Fr _ _ _ _ => Fa
  rename News _ _ _ _ => Na
  refine eqTup (Na.get (.tail _ (.head _))) (Na.get (.head _)) (by show A.units + 3 + 64 < cLine; lia) rfl hT.2 ?_
  replace Na : News (hid b) L _ (rest ++ tail2) := fun q hq => Na q (.tail _ (.tail _ hq))
  (try dsimp only); repeat' (first | (k_unfold; (try dsimp only)) | ((fail_if_success (with_reducible show wpAny _ _ (subscriptTail _ _ (Value.ref _) (Value.int _ _)) _ _ _)); (fail_if_success (with_reducible show wpAny _ _ (call (Value.ref _) _) _ _ _)); (fail_if_success (with_reducible show wpAny _ _ (binaryOp Operator.Mult (Value.int _ _) (Value.int _ _)) _ _ _)); (fail_if_success (with_reducible show wpAny _ _ (binaryOp Operator.Pow _ _) _ _ _)); (fail_if_success (with_reducible show wpAny _ _ (binaryOp Operator.FloorDiv _ _) _ _ _)); (fail_if_success (with_reducible show wpAny _ _ (binaryOp Operator.Mod _ _) _ _ _)); (fail_if_success (with_reducible show wpAny _ _ (compareOp _ (Value.ref _) (Value.ref _)) _ _ _)); (fail_if_success (with_reducible show Exists _)); first | (k_end; wrow_close) | ((with_reducible show wpAny _ _ (eval (PySem.Expr.Name _ _) _) _ _ _); (k_here; k_dflt (refine' nameX_L ?F ?v ?_ ?a ?b; (case F => k_asm); (case a => rfl); (case b => rfl); (case v => rfl); k_whole))) | walk1 | (dsimp only; first | ((with_reducible show wpAny _ _ (eval (PySem.Expr.Name _ _) _) _ _ _); (k_here; k_dflt (refine' nameX_L ?F ?v ?_ ?a ?b; (case F => k_asm); (case a => rfl); (case b => rfl); (case v => rfl); k_whole))) | walk1) | (leave1; walk_say "STEP leave1"; try dsimp only)))
  exact h.out _ _ _ _ Fa Na TL2
end
end Mine
end
section
open PySem PySem.W PySem.Calls PyProof.Rows
set_option maxRecDepth 100000
set_option maxHeartbeats 8000000
namespace Mine

def unF (B i : Nat) : Int := if i = 1 then (B : Int) else if i = 2 then (B : Int) + 1 else 0
def dnF (B i : Nat) : Nat := if i = 0 then B - 1 else if i = 1 then B ^ 2 - B + 1 else if i = 2 then B ^ 2 + B + 1 else B + 1
/-- what the plain law must show -/
structure PlainOk (N low B v0 : Nat) (ls : List Nat) (xs ys : Nat → Int) : Prop where
  mix : ∀ k, k ≤ 3 → Hide (MixOk (mixF k ls ls.length) (xs k) (ys k))
  y0 : ys 0 = 0
  y3 : ys 3 = 0
  told : ∀ i, i < 4 → ((v0 : Int) + ((10 ^ low : Nat) : Int) * (xs i + ys i * unF B i)).natAbs < 2 ^ 100 ∧ ((v0 : Int) + ((10 ^ low : Nat) : Int) * (xs i + ys i * unF B i)).fmod (dnF B i) = (N : Int).fmod (dnF B i)
  six : ∀ i, i < 6 → accS (xs 0 + (-1) ^ i * xs 3) (fun l => xs l * waveV (l * i % 6) + ys l * waveV ((l * i + 5) % 6)) 2 = 6 * sixS ls i
  last : ((v0 : Int) + ((10 ^ low : Nat) : Int) * packF (sixS ls) B 6).natAbs < 2 ^ 100 ∧ ((v0 : Int) + ((10 ^ low : Nat) : Int) * packF (sixS ls) B 6).fmod ((B ^ 6 - 1 : Nat) : Int) = (N : Int).fmod ((B ^ 6 - 1 : Nat) : Int)
theorem fr1 {h₀ h : Heap} {L : Addr} {M : Str → Option Value} {v : Option Value} (a : Str) (F : Fr h₀ L h M) (e : M a = v) : Fr h₀ L h (fun y => if y = a then v else M y) :=
  frCongr F (fun y => by by_cases h1 : y = a
                         · rw [if_pos h1, h1, e]
                         · rw [if_neg h1])
theorem pow_bound {B : Nat} (hB : 2 ≤ B ∧ B ≤ 1000) : B ≤ B ^ 2 ∧ B ^ 2 ≤ 1000000 ∧ 1 ≤ B ^ 6 ∧ B ^ 6 ≤ 10 ^ 18 ∧ 2 ≤ B ^ 6 := by
  refine ⟨?_, ?_, ?_, ?_, ?_⟩
  · have := Nat.pow_le_pow_right (n := B) (by lia) (by decide : 1 ≤ 2)
    rwa [Nat.pow_one] at this
  · exact Nat.pow_le_pow_left hB.2 2
  · exact Nat.one_le_pow _ _ (by lia)
  · exact Nat.le_trans (Nat.pow_le_pow_left hB.2 6) (by decide)
  · exact Nat.le_trans hB.1 (by have := Nat.pow_le_pow_right (n := B) (by lia) (by decide : 1 ≤ 6); rwa [Nat.pow_one] at this)
theorem dn_ok {B : Nat} (hB : 2 ≤ B ∧ B ≤ 1000) : ∀ i, i < 4 → ([(B : Int) - 1, (B : Int) ^ 2 - B + 1, (B : Int) ^ 2 + B + 1, (B : Int) + 1])[i]? = some ((dnF B i : Nat) : Int) ∧ 0 < dnF B i ∧ dnF B i < 2 ^ 64 := by
  obtain ⟨b1, b2, _⟩ := pow_bound hB
  have e2 : ((B ^ 2 : Nat) : Int) = (B : Int) ^ 2 := by push_cast; rfl
  intro i hi
  rcases (by lia : i = 0 ∨ i = 1 ∨ i = 2 ∨ i = 3) with rfl | rfl | rfl | rfl
  · exact ⟨congrArg some (by show (B : Int) - 1 = ((B - 1 : Nat) : Int); lia), by show 0 < B - 1; lia, by show B - 1 < 2 ^ 64; lia⟩
  · exact ⟨congrArg some (by show (B : Int) ^ 2 - B + 1 = ((B ^ 2 - B + 1 : Nat) : Int); lia), by show 0 < B ^ 2 - B + 1; lia, by show B ^ 2 - B + 1 < 2 ^ 64; lia⟩
  · exact ⟨congrArg some (by show (B : Int) ^ 2 + B + 1 = ((B ^ 2 + B + 1 : Nat) : Int); lia), by show 0 < B ^ 2 + B + 1; lia, by show B ^ 2 + B + 1 < 2 ^ 64; lia⟩
  · exact ⟨congrArg some (by show (B : Int) + 1 = ((B + 1 : Nat) : Int); lia), by show 0 < B + 1; lia, by show B + 1 < 2 ^ 64; lia⟩
theorem un_ok {B : Nat} (hB : 2 ≤ B ∧ B ≤ 1000) : ∀ i, i < 4 → ([0, (B : Int), (B : Int) + 1, 0])[i]? = some (unF B i) ∧ (unF B i).natAbs < 2 ^ 64 := by
  intro i hi
  rcases (by lia : i = 0 ∨ i = 1 ∨ i = 2 ∨ i = 3) with rfl | rfl | rfl | rfl
  · exact ⟨rfl, by show (0 : Int).natAbs < 2 ^ 64; decide⟩
  · exact ⟨rfl, by show (B : Int).natAbs < 2 ^ 64; lia⟩
  · exact ⟨rfl, by show ((B : Int) + 1).natAbs < 2 ^ 64; lia⟩
  · exact ⟨rfl, by show (0 : Int).natAbs < 2 ^ 64; decide⟩
theorem MixAre.mono {xs ys : Nat → Int} {acc : List Value} {tl tl' : List (Addr × Obj)} {n : Nat} (h : MixAre xs ys acc tl n) (k : ∀ q ∈ tl, q ∈ tl') : MixAre xs ys acc tl' n :=
  ⟨h.1, fun j hj => let ⟨t, u, u', g, me⟩ := h.2 j hj; ⟨t, u, u', g, k _ me⟩⟩
/-- only the four tuples are kept -/
theorem MixAre.four {xs ys : Nat → Int} {acc : List Value} {tl : List (Addr × Obj)} {D : Addr} (h : MixAre xs ys acc tl 4) (hD : ∀ q ∈ tl, @LT.lt Nat _ D q.1) :
    ∃ tl', MixAre xs ys acc tl' 4 ∧ (∀ q ∈ tl', q ∈ tl) ∧ (∀ q ∈ tl', @LT.lt Nat _ D q.1) ∧ ∀ q ∈ tl', NoCode q.2 := by
  obtain ⟨t0, u0, v0, g0, m0⟩ := h.2 0 (by decide)
  obtain ⟨t1, u1, v1, g1, m1⟩ := h.2 1 (by decide)
  obtain ⟨t2, u2, v2, g2, m2⟩ := h.2 2 (by decide)
  obtain ⟨t3, u3, v3, g3, m3⟩ := h.2 3 (by decide)
  refine ⟨[_, _, _, _], ⟨h.1, fun j hj => ?_⟩, List.forall_mem_cons.mpr ⟨m0, List.forall_mem_cons.mpr ⟨m1, List.forall_mem_cons.mpr ⟨m2, List.forall_mem_cons.mpr ⟨m3, fun _ h => nomatch h⟩⟩⟩⟩,
    List.forall_mem_cons.mpr ⟨hD _ m0, List.forall_mem_cons.mpr ⟨hD _ m1, List.forall_mem_cons.mpr ⟨hD _ m2, List.forall_mem_cons.mpr ⟨hD _ m3, fun _ h => nomatch h⟩⟩⟩⟩,
    List.forall_mem_cons.mpr ⟨NoCode.seq, List.forall_mem_cons.mpr ⟨NoCode.seq, List.forall_mem_cons.mpr ⟨NoCode.seq, List.forall_mem_cons.mpr ⟨NoCode.seq, fun _ h => nomatch h⟩⟩⟩⟩⟩
  rcases (by lia : j = 0 ∨ j = 1 ∨ j = 2 ∨ j = 3) with rfl | rfl | rfl | rfl
  · exact ⟨_, _, _, g0, .head _⟩
  · exact ⟨_, _, _, g1, .tail _ (.head _)⟩
  · exact ⟨_, _, _, g2, .tail _ (.tail _ (.head _))⟩
  · exact ⟨_, _, _, g3, .tail _ (.tail _ (.tail _ (.head _)))⟩
section
variable {w : World} {A : Around} {s : Shared} {sc : Scope} {p : Program} {loose : List Str} {mean : ExcName → Option Value} {mg mb : Str → Option Value} {b : Heap} {L : Addr} {m : Str → Option Value}
theorem law_tail {R : Flow → Shared → Prop} {D4 D7 : Addr} {oC : Obj} {N low B v0 e4 e7 : Nat} {tN tL tB : Tok} {vals ws : List Value} {ls : List Nat} {rest tail : List (Addr × Obj)} {xs ys : Nat → Int} (hsc : lawScope w.params = some sc)
    (G : Gr w p loose mean mg mb b) (hd : A.depth + 260 < recursionLimit) (hA : A.handled = none) (hU : A.units + 1000 < cLine)
    (F : Fr (hid b) L s.heap (fun z => if z = Str.ofString "values" then some (.ref D4) else if z = Str.ofString "base" then some (.int (B : Int) tB) else if z = Str.ofString "low" then some (.int (low : Int) tL) else if z = Str.ofString "number" then some (.int (N : Int) tN) else m z))
    (N0 : News (hid b) L s.heap (rest ++ tail)) (TL : TailIs (hid b) tail) (hgt : ∀ q ∈ rest, @LT.lt Nat _ 59 q.1) (hnc : ∀ q ∈ rest, NoCode q.2) (h59 : @LT.lt Nat _ 59 L) (hbL : b.objs.size ≤ L)
    (h4 : (D4, W.listOf vals.toArray e4) ∈ rest) (h7 : (D7, W.listOf ws.toArray e7) ∈ rest) (hcC : (L + 1, oC) ∈ rest) (dC : oC.data = .cell (some (.ref D7)))
    (hv : IntsAre vals (castL (v0 :: ls))) (hI : IntsAre ws (castL ls)) (hlen : ls.length ≤ 20) (h1000 : ∀ d ∈ ls, d < 1000) (hN : N < 2 ^ 100) (hlow : low ≤ 9) (hB : 2 ≤ B ∧ B ≤ 1000) (hP : PlainOk N low B v0 ls xs ys)
    (h : ∀ h' tk' tail' m', Fr (hid b) L h' m' → News (hid b) L h' (rest ++ tail') → TailIs (hid b) tail' → R (.ret (.bool true)) { s with heap := h', toks := tk' }) :
    wpAny (model PySem.Challenge.rw_rl0106_01.row.prog w) (A.deeper (envOfC (Str.ofString "law") sc L 123 (.ref 122))) (execs ((lawBody w.params).drop 14) (envOfC (Str.ofString "law") sc L 123 (.ref 122))) R (fun _ _ => False) s := by
  have hbp := pow_bound hB
  refine law_mixes (ls := ls) (ws := ws) (e := e7) (D7 := D7) (oC := oC) (rest := rest ++ tail) hsc G (by lia) hA F (fun q hq => ?_) (List.mem_append_left _ hcC) dC hI hlen h1000 hP.mix ?_
  · rcases List.mem_cons.mp hq with rfl | hq
    · exact N0 _ (List.mem_append_left _ h7)
    · exact N0 q hq
  intro h1 tk1 D8 acc e8 tl0 F1 N1 hmx0 htl0 lD8 hL8
  clear F N0
  obtain ⟨tl, hmx, hin, htl, hnt⟩ := hmx0.four htl0
  replace N1 : News (hid b) L h1 ((D8, W.listOf acc.toArray e8) :: (tl ++ (rest ++ tail))) := fun q hq => by
    rcases List.mem_cons.mp hq with rfl | hq
    · exact N1 _ (.head _)
    rcases List.mem_append.mp hq with hq | hq
    · exact N1 q (.tail _ (List.mem_append_left _ (hin q hq)))
    · exact N1 q (.tail _ (List.mem_append_right _ (.tail _ hq)))
  clear hmx0 htl0 hin
  refine law_units (B := B) (tB := tB) (D8 := D8) hsc G (by lia) hA hU (s := ⟨h1, s.gens, s.drawn, tk1, s.os⟩) (fr1 (Str.ofString "mixes") (fr1 (Str.ofString "base") F1 (by rfl)) (by rfl)) N1 hmx hP.y0 hP.y3 hB ?_
  intro h2 tk2 D9 D10 ds us e9 e10 F2 N2 hds hus lD9 hL9 l10
  clear F1 N1
  have N3 : News (hid b) L h2 (((D10, W.listOf us.toArray e10) :: (D9, W.listOf ds.toArray e9) :: (D8, W.listOf acc.toArray e8) :: (tl ++ rest)) ++ tail) := fun q hq => by
    refine N2 q ?_
    simpa only [List.cons_append, List.append_assoc] using hq
  have h59a : @LT.lt Nat _ 59 D8 := Nat.lt_trans h59 hL8
  have h59b : @LT.lt Nat _ 59 D9 := Nat.lt_trans h59 hL9
  have gt3 : ∀ q ∈ (D10, W.listOf us.toArray e10) :: (D9, W.listOf ds.toArray e9) :: (D8, W.listOf acc.toArray e8) :: (tl ++ rest), @LT.lt Nat _ 59 q.1 :=
    List.forall_mem_cons.mpr ⟨Nat.lt_trans h59b l10, List.forall_mem_cons.mpr ⟨h59b, List.forall_mem_cons.mpr ⟨h59a, fun q hq => (List.mem_append.mp hq).elim (fun hq => Nat.lt_trans h59a (htl q hq)) (hgt q)⟩⟩⟩
  have nc3 : ∀ q ∈ (D10, W.listOf us.toArray e10) :: (D9, W.listOf ds.toArray e9) :: (D8, W.listOf acc.toArray e8) :: (tl ++ rest), NoCode q.2 :=
    List.forall_mem_cons.mpr ⟨NoCode.seq, List.forall_mem_cons.mpr ⟨NoCode.seq, List.forall_mem_cons.mpr ⟨NoCode.seq, fun q hq => (List.mem_append.mp hq).elim (hnt q) (hnc q)⟩⟩⟩
  have mem3 : ∀ q ∈ rest, q ∈ (D10, W.listOf us.toArray e10) :: (D9, W.listOf ds.toArray e9) :: (D8, W.listOf acc.toArray e8) :: (tl ++ rest) := fun q hq => .tail _ (.tail _ (.tail _ (List.mem_append_right _ hq)))
  refine law_leap (N := N) (low := low) (v0 := v0) (B := B) (tN := tN) (tL := tL) (tB := tB) (D4 := D4) (D8 := D8) (D9 := D9) (D10 := D10) (xs := xs) (ys := ys) (un := unF B) (dn := dnF B) (s := ⟨h2, s.gens, s.drawn, tk2, s.os⟩) hsc G hd hA hU
    (fr1 (Str.ofString "units") (fr1 (Str.ofString "divisors") (fr1 (Str.ofString "mixes") (fr1 (Str.ofString "values") (fr1 (Str.ofString "base") (fr1 (Str.ofString "low") (fr1 (Str.ofString "number") F2 (by rfl)) (by rfl)) (by rfl)) (by rfl)) (by rfl)) (by rfl)) (by rfl))
    N3 TL gt3 nc3 h59 hbL (mem3 _ h4) (.tail _ (.tail _ (.head _))) (.tail _ (.head _)) (.head _) (hmx.mono fun q hq => .tail _ (.tail _ (.tail _ (List.mem_append_left _ hq)))) hv rfl hds hus (dn_ok hB) (un_ok hB) hN hlow hP.told ?_
  intro h4' tk4 tail4 ut ud ul F4 N4 TL4
  clear F2 N2 N3 TL
  refine law_wave (N := N) (low := low) (B := B) (tN := tN) (tL := tL) (tB := tB) (D4 := D4) (D7 := D7) (D8 := D8) (xs := xs) (ys := ys) (ls := ls) (s := ⟨h4', s.gens, s.drawn, tk4, s.os⟩) hsc G hd hA hU
    (fr1 (Str.ofString "mixes") (fr1 (Str.ofString "values") (fr1 (Str.ofString "base") (fr1 (Str.ofString "low") (fr1 (Str.ofString "number") F4 (by rfl)) (by rfl)) (by rfl)) (by rfl)) (by rfl))
    N4 (List.mem_append_left _ (mem3 _ h7)) (List.mem_append_left _ (.tail _ (.tail _ (.head _)))) (List.mem_append_left _ (mem3 _ hcC)) dC (hmx.mono fun q hq => List.mem_append_left _ (.tail _ (.tail _ (.tail _ (List.mem_append_left _ hq))))) hI hlen hB hP.six ?_
  intro h5 tk5 tP us5 ul5 um5 Dw F5 N5
  clear F4 N4
  have e6 : ((B ^ 6 : Nat) : Int) = (B : Int) ^ 6 := by push_cast; rfl
  refine law_end (N := N) (low := low) (B := B) (tN := tN) (tL := tL) (tB := tB) (tP := tP) (D4 := D4) (v0 := v0) (d := B ^ 6 - 1) (P := packF (sixS ls) B 6) (s := ⟨h5, s.gens, s.drawn, tk5, s.os⟩) hsc G hd hA hU
    (fr1 (Str.ofString "packed") (fr1 (Str.ofString "values") (fr1 (Str.ofString "base") (fr1 (Str.ofString "low") (fr1 (Str.ofString "number") F5 (by rfl)) (by rfl)) (by rfl)) (by rfl)) (by rfl))
    N5 TL4 gt3 h59 hbL (mem3 _ h4) hv rfl hN hlow hB (by lia) (by lia) hP.last ?_
  intro h6 tk6 tail6 m6 F6 N6 TL6
  refine h h6 tk6 tail6 m6 F6 (fun q hq => N6 q ?_) TL6
  rcases List.mem_append.mp hq with hq | hq
  · exact List.mem_append_left _ (mem3 q hq)
  · exact List.mem_append_right _ hq
end
end Mine
end
section
open PySem PySem.W PySem.Calls PyProof.Rows
set_option maxRecDepth 100000
set_option maxHeartbeats 8000000
namespace Mine
section
variable {prog : Program} {w : World} {A : Around} {E : Value → Shared → Prop} {s : Shared} {Q : Value → Shared → Prop} {N : Nat} {t : Tok}
theorem strN (hN : N < 2 ^ 100) (h : Q (.str (numT N) s.toks) { s with toks := s.toks + 1 }) : wpAny (model prog w) A (call (.type "str") [.int (N : Int) t]) Q E s := by
  refine P.str_of_int ?_ h
  rw [show ((N : Int)).natAbs = N from by simp]
  rcases Nat.eq_zero_or_pos N with h0 | h0
  · subst h0; decide
  · exact Nat.lt_trans ((Nat.log2_lt (by lia)).mpr hN) (by decide)
theorem numT_len {N : Nat} (h1 : 31415926535897932384 ≤ N) (h2 : N ≤ 661415926535897932384) : 20 ≤ (numT N).length ∧ (numT N).length ≤ 21 := by
  rw [numT_txt, txt_len]
  have a := dig_len_gt (N := N) (k := 19) (Nat.le_trans (by decide) h1)
  have b := dig_len_le (N := N) (k := 21) (by decide) (Nat.lt_of_le_of_lt h2 (by decide))
  lia
end
section
variable {w : World} {A : Around} {s : Shared} {h₀ : Heap} {L : Addr} {m : Str → Option Value} {news : List (Addr × Obj)} {Q E : Value → Shared → Prop}
theorem mulOne {l : Addr} {k : Nat} {v : Value} {u : Tok} (F : Fr h₀ L s.heap m) (N : News h₀ L s.heap news) (hm : (l, W.listOf #[v] 0) ∈ news) (hk : k ≤ 1000)
    (h : ∀ D h', Fr h₀ L h' m → News h₀ L h' ((D, W.listOf (List.replicate k v).toArray 0) :: news) → (∀ p ∈ news, p.1 < D) → L < D → Q (.ref D) { s with heap := h' }) :
    wpAny (model PySem.Challenge.rw_rl0106_01.row.prog w) A (binaryOp .Mult (.ref l) (.int (k : Int) u)) Q E s := by
  refine mul_list F N (items := #[v]) (k := 0) (N.get hm) (by lia) (by lia) (by simp; lia) fun h' F' N' => ?_
  refine h _ h' F' ?_ (fun p hp => Heap.lt_size (N p hp).1) F.ns.lt
  have e : List.foldl (fun x1 x2 => x1 ++ x2) #[] (List.replicate (if (#[v] : Array Value).isEmpty = true then 0 else ((k : Int)).toNat) #[v]) = (List.replicate k v).toArray := by
    rw [if_neg (by simp), foldl_rep]; simp
  rw [e] at N'
  exact N'
theorem addL2 {l b : Addr} {vs ws : List Value} {e1 e2 : Nat} (F : Fr h₀ L s.heap m) (N : News h₀ L s.heap news) (hl : (l, W.listOf vs.toArray e1) ∈ news) (hb : (b, W.listOf ws.toArray e2) ∈ news) (hz : vs.length + ws.length ≤ 1000)
    (h : ∀ D h', Fr h₀ L h' m → News h₀ L h' ((D, W.listOf (vs ++ ws).toArray 0) :: news) → (∀ p ∈ news, p.1 < D) → L < D → Q (.ref D) { s with heap := h' }) :
    wpAny (model PySem.Challenge.rw_rl0106_01.row.prog w) A (binaryOp .Add (.ref l) (.ref b)) Q E s :=
  add_lists F N ⟨_, N.get hl, rfl, _, rfl⟩ ⟨_, N.get hb, rfl, _, rfl⟩ (fun h' F' N' => h _ h' F' N' (fun p hp => Heap.lt_size (N p hp).1) F.ns.lt) (by rw [sizeLine_eq]; lia)
end
def Cand (dl low high : Nat) (v : List Value) : Prop := ∃ row n tv fin, IntsAre v (castL row) ∧ RowOk row dl low high n tv fin ∧ v.length ≤ 100
section
variable {prog : Program} {w : World} {A : Around} {E : Value → Shared → Prop} {s : Shared} {h₀ : Heap} {L : Addr} {news : List (Addr × Obj)} {Q : Value → Shared → Prop}
theorem pickN {value slice : PySem.Expr} {l : Addr} {items : List Value} {e i : Nat} {u : Tok} {x : Value} (hl : s.heap.get? l = some (W.listOf items.toArray e)) (hx : items[i]? = some x) (hi : i ≤ 100000) (h : Q x s)
    (hs : subscripted slice false (.ref l) (.int (i : Int) u) = operate [.ref l, .int (i : Int) u] (getItem (.ref l) (.int (i : Int) u)) := by with_unfolding_all rfl) :
    wpAny (model prog w) A (subscriptTail value slice (.ref l) (.int (i : Int) u)) Q E s :=
  tail_any (T := "list") ⟨_, hl, rfl⟩ slot_list_getitem.lookup (wpAny_getItem_list (items := items.toArray) ⟨_, hl, rfl, _, rfl⟩ (Int.natCast_nonneg _) (by lia) (by simpa using hx) h) hs
theorem pickRow {value slice : PySem.Expr} {l l0 l1 l2 : Addr} {e e0 e1 e2 i dl low high : Nat} {v0 v1 v2 : List Value} {u : Tok} (N : News h₀ L s.heap news) (hm : (l, W.listOf #[.ref l0, .ref l1, .ref l2] e) ∈ news)
    (m0 : (l0, W.listOf v0.toArray e0) ∈ news) (m1 : (l1, W.listOf v1.toArray e1) ∈ news) (m2 : (l2, W.listOf v2.toArray e2) ∈ news) (c0 : Cand dl low high v0) (c1 : Cand dl low high v1) (c2 : Cand dl low high v2) (hi : i < 3) {b : Nat} (g0 : @LT.lt Nat _ b l0) (g1 : @LT.lt Nat _ b l1) (g2 : @LT.lt Nat _ b l2)
    (h : ∀ r vr er, (r, W.listOf vr.toArray er) ∈ news → Cand dl low high vr → @LT.lt Nat _ b r → Q (.ref r) s)
    (hs : subscripted slice false (.ref l) (.int (i : Int) u) = operate [.ref l, .int (i : Int) u] (getItem (.ref l) (.int (i : Int) u)) := by with_unfolding_all rfl) :
    wpAny (model prog w) A (subscriptTail value slice (.ref l) (.int (i : Int) u)) Q E s := by
  rcases (by lia : i = 0 ∨ i = 1 ∨ i = 2) with rfl | rfl | rfl
  · exact pickN (items := [.ref l0, .ref l1, .ref l2]) (N.get hm) rfl (by lia) (h _ _ _ m0 c0 g0) hs
  · exact pickN (items := [.ref l0, .ref l1, .ref l2]) (N.get hm) rfl (by lia) (h _ _ _ m1 c1 g1) hs
  · exact pickN (items := [.ref l0, .ref l1, .ref l2]) (N.get hm) rfl (by lia) (h _ _ _ m2 c2 g2) hs
end
theorem fdiv9 (b : Nat) : ((b : Int).fdiv 9).fmod 3 = ((b / 9 % 3 : Nat) : Int) := by
  rw [Int.fdiv_eq_ediv_of_nonneg _ (by decide), Int.fmod_eq_emod_of_nonneg _ (by decide)]; lia
theorem intsRep (x : Int) (t : Tok) : ∀ k : Nat, IntsAre (List.replicate k (.int x t)) (List.replicate k x)
  | 0 => .nil
  | k + 1 => .cons x t (intsRep x t k)
theorem castL_row (low high more : Nat) (tl : List Nat) : castL (low :: (List.replicate more high ++ tl)) = (low : Int) :: (List.replicate more (high : Int) ++ castL tl) := by simp [castL]
section
variable {dl low high more : Nat} {t1 t2 t3 t4 : Tok}
theorem cand0 (hl : 1 ≤ low ∧ low ≤ 3) (hh : 1 ≤ high ∧ high ≤ 3) (hd : dl ≤ 21) : Cand dl low high [.int (low : Int) t1, .int (high : Int) t2, .int 0 t3, .int 1 t4] :=
  ⟨[low, high, 0, 1], _, _, _, .cons _ _ (.cons _ _ (.cons _ _ (.cons _ _ .nil))), row_0 hl hh hd, by simp⟩
theorem cand1 (hl : 1 ≤ low ∧ low ≤ 3) (hh : 1 ≤ high ∧ high ≤ 3) (hd : dl ≤ 21) (hm : more = (dl - low - 1) / high) (hm2 : more ≤ 20) :
    Cand dl low high ([.int (low : Int) t1] ++ List.replicate more (.int (high : Int) t2) ++ [.int 127 t3, .int 1 t4]) :=
  ⟨low :: (List.replicate more high ++ [127, 1]), _, _, _, by
    rw [castL_row, List.append_assoc]
    exact .cons _ _ ((intsRep _ _ _).append (.cons _ _ (.cons _ _ .nil))), row_tail [127, 1] (.inr ⟨_, rfl⟩) hl hh hd hm, by simp; lia⟩
theorem cand2 (hl : 1 ≤ low ∧ low ≤ 3) (hh : 1 ≤ high ∧ high ≤ 3) (hd : dl ≤ 21) (hm : more = (dl - low - 1) / high) (hm2 : more ≤ 20) :
    Cand dl low high ([.int (low : Int) t1] ++ List.replicate more (.int (high : Int) t2)) :=
  ⟨low :: (List.replicate more high ++ []), _, _, _, by
    rw [castL_row, List.singleton_append]
    refine .cons _ _ ?_
    rw [castL, List.map_nil, List.append_nil]
    exact intsRep _ _ _, row_tail [] (.inl rfl) hl hh hd hm, by simp; lia⟩
end
theorem fmod3 (b : Nat) : 1 + (b : Int).fmod 3 = ((1 + b % 3 : Nat) : Int) := by
  rw [Int.fmod_eq_emod_of_nonneg _ (by decide)]; lia
theorem fdiv3 (b : Nat) : 1 + ((b : Int).fdiv 3).fmod 3 = ((1 + b / 3 % 3 : Nat) : Int) := by
  rw [Int.fdiv_eq_ediv_of_nonneg _ (by decide), Int.fmod_eq_emod_of_nonneg _ (by decide)]; lia
theorem over3c {a b c y : Str} {A B C A' B' C' M : Option Value} (hab : b ≠ a) (hac : c ≠ a) (hbc : c ≠ b) : (if y = b then B else if y = a then A else if y = c then C else if y = a then A' else if y = b then B' else if y = c then C' else M) = if y = a then A else if y = b then B else if y = c then C else M := by
  by_cases h1 : y = a
  · subst h1; simp only [if_neg hab.symm, if_true]
  · by_cases h2 : y = b
    · simp only [if_neg h1, if_pos h2]
    · by_cases h3 : y = c
      · simp only [if_neg h1, if_neg h2, if_pos h3]
      · simp only [if_neg h1, if_neg h2, if_neg h3]
/-- what holds between the turns of the law's first loop; k: the items to come -/
inductive L1Inv (base : Heap) (L : Addr) (m₀ : Str → Option Value) (I D : Addr) (ws : List Value) (e : Nat) (rest : List (Addr × Obj)) (S : Shared) (k : Nat) (s' : Shared) : Prop
  | mk (h' : Heap) (tk' : Nat) (oI : Obj) (i a b : Nat) (ta tb : Tok) (ux : Option Value)
    (h1 : s' = { S with heap := h', toks := tk' })
    (h2 : Fr base L h' (fun y => if y = Str.ofString "number" then some (.int (a : Int) ta) else if y = Str.ofString "heap" then some (.int (b : Int) tb) else if y = Str.ofString "x" then ux else m₀ y))
    (h3 : News base L h' ((I, oI) :: (D, W.listOf ws.toArray e) :: rest))
    (h4 : oI.cls = .type "list_iterator")
    (h5 : oI.data = .fields #[.ref D, .int (i : Int) 0])
    (h6 : i + k = ws.length)
    (h7 : k ≤ 63)
    (h8 : (31415926535897932384 ≤ a ∧ a + k * 10000000000000000000 ≤ 661415926535897932384))
    (h9 : (5 ≤ b ∧ b + k * 1000000 ≤ 63000005)) : L1Inv base L m₀ I D ws e rest S k s'
section
local macro_rules | `(tactic| walk_at "binaryOp Mult ref int") => `(tactic| (k_here; k_dflt (refine' mulOne ?F ?N ?m ?k ?_; (case F => k_asm); (case N => k_asm); (case m => k_mem); (case k => lia)); intro D' h' F' N' l1 hLt'; (try k_lt l1); (try k_lt2 hLt'); (try k_sweep); (try dsimp only)))
local macro_rules | `(tactic| walk_at "binaryOp Add ref ref") => `(tactic| (k_here; k_dflt (refine' addL2 ?F ?N ?a ?b ?z ?_; (case F => k_asm); (case N => k_asm); (case a => k_mem); (case b => k_mem); (case z => (simp only [List.length_cons, List.length_nil, List.length_replicate, List.length_append]; lia))); intro D' h' F' N' l1 hLt'; (try k_lt l1); (try k_lt2 hLt'); (try k_sweep); (try dsimp only)))
variable {w : World} {A : Around} {s : Shared} {p : Program} {loose : List Str} {mean : ExcName → Option Value} {mg mb : Str → Option Value} {Q E : Value → Shared → Prop}
/-- what the plain law gives -/
def HPlain : Prop := ∀ N low high : Nat, N < 2 ^ 100 → (1 ≤ low ∧ low ≤ 3) → (1 ≤ high ∧ high ≤ 3) → (figF 100 (10 ^ high) (N / 10 ^ low)).length ≤ 20 → ∃ xs ys, PlainOk N low (10 ^ high) (N % 10 ^ low) (figF 100 (10 ^ high) (N / 10 ^ low)) xs ys
theorem figF_lt {B : Nat} (hB : 0 < B) : ∀ k x, ∀ d ∈ figF k B x, d < B
  | 0, x, d, hd => by cases hd
  | k + 1, x, d, hd => by
    unfold figF at hd
    split at hd
    · cases hd
    · rcases List.mem_cons.mp hd with rfl | hd
      · exact Nat.mod_lt _ hB
      · exact figF_lt hB k _ d hd
theorem law_spec (hplain : HPlain) {l : Addr} {vs : List Value} {ns : List Int} (G : Gr w p loose mean mg mb s.heap) (hd : A.depth + 300 < recursionLimit) (hA : A.handled = none) (hU : A.units + 1000 < cLine) (hB : AllBare s.gens)
    (hIL : (hid s.heap).IsList l vs.toArray) (hI : IntsAre vs ns) (hlen : ns.length ≤ 63)
    (h : ∀ h' tk' dr' gens', After s.heap h' → AllBare gens' → Q (.bool true) { s with heap := h', toks := tk', drawn := dr', gens := gens' }) :
    wpAny (model PySem.Challenge.rw_rl0106_01.row.prog w) A (call (.ref 123) [.ref l]) Q E s := by
  have X := G.X
  have T := G.T
  obtain ⟨p24, T24⟩ := G.tabs.t24
  obtain ⟨p52, T52⟩ := G.tabs.t52
  obtain ⟨p59, T59⟩ := G.tabs.t59
  revert X; k_fill; intro X
  refine wpAny_call ?_
  k_dflt (refine' enterTC G T24 T52 T59 ?k8 ?k6 ?k7 ?k9 ?kB ?kD ?_ ?c2 ?c3 ?c4; (case k6 => k_is); (case k7 => k_is); (case k8 => lia); (case k9 => first | exact BindsTo.of_eq rfl | exact binds_K (by k_in) rfl (by k_is) rfl rfl rfl); (case kB => exact rfl); (case kD => decide +kernel); (case c2 => exact rfl); (case c3 => exact rfl); (case c4 => exact rfl); k_whole)
  intro L' h' tk' cells' F' N' Y' hL' l1
  k_cells Y'; (try simp only [List.cons_append, List.nil_append] at N')
  (try dsimp only)
  replace h := Hide.mk h
  repeat' (first | (k_unfold; (try dsimp only)) | ((fail_if_success (with_reducible show wpAny _ _ (exec (Stmt.For _ _ _ _ _) _) _ _ _)); first | (k_end; wrow_close) | ((with_reducible show wpAny _ _ (call (Value.type "str") _) _ _ _); (k_here; with_reducible refine strN (by assumption) ?_)) | ((with_reducible show wpAny _ _ (eval (PySem.Expr.Name _ _) _) _ _ _); (k_here; k_dflt (refine' nameX_L ?F ?v ?_ ?a ?b; (case F => k_asm); (case a => rfl); (case b => rfl); (case v => rfl); k_whole))) | walk1 | (dsimp only; first | ((with_reducible show wpAny _ _ (call (Value.type "str") _) _ _ _); (k_here; with_reducible refine strN (by assumption) ?_)) | ((with_reducible show wpAny _ _ (eval (PySem.Expr.Name _ _) _) _ _ _); (k_here; k_dflt (refine' nameX_L ?F ?v ?_ ?a ?b; (case F => k_asm); (case a => rfl); (case b => rfl); (case v => rfl); k_whole))) | walk1) | (leave1; walk_say "STEP leave1"; try dsimp only)))
  refine forF ?_
  repeat' (first | (k_unfold; (try dsimp only)) | ((fail_if_success (with_reducible show wpAny _ _ (pyIter _) _ _ _)); first | (k_end; wrow_close) | ((with_reducible show wpAny _ _ (call (Value.type "str") _) _ _ _); (k_here; with_reducible refine strN (by assumption) ?_)) | ((with_reducible show wpAny _ _ (eval (PySem.Expr.Name _ _) _) _ _ _); (k_here; k_dflt (refine' nameX_L ?F ?v ?_ ?a ?b; (case F => k_asm); (case a => rfl); (case b => rfl); (case v => rfl); k_whole))) | walk1 | (dsimp only; first | ((with_reducible show wpAny _ _ (call (Value.type "str") _) _ _ _); (k_here; with_reducible refine strN (by assumption) ?_)) | ((with_reducible show wpAny _ _ (eval (PySem.Expr.Name _ _) _) _ _ _); (k_here; k_dflt (refine' nameX_L ?F ?v ?_ ?a ?b; (case F => k_asm); (case a => rfl); (case b => rfl); (case v => rfl); k_whole))) | walk1) | (leave1; walk_say "STEP leave1"; try dsimp only)))
  rename_i D ws h1 F1 N1 hws hc1 hc2 hlD
  rename Obj => oC
  rename Obj.data _ = _ => dC
  replace dC : oC.data = Data.cell none := dC
  have TL := TailIs.of T24 T52 T59
  generalize [(59, tabObj p59), (52, tabObj p52), (24, tabObj p24)] = tail at N1 TL
  refine wpAny_pyIter_list (items := ws.toArray) ⟨_, N1.get (.head _), rfl, _, rfl⟩ ?_
  have F2 := F1.push (itO D 0)
  have N2 := N1.push F1 (itO D 0)
  have hI0 : ∀ q ∈ (D, W.listOf ws.toArray 0) :: (L' + 1, oC) :: tail, q.1 ≠ h1.objs.size := fun q hq => Nat.ne_of_lt (Heap.lt_size (N1 q hq).1)
  clear F1 N1
  obtain ⟨I, hIe⟩ : ∃ I, I = h1.objs.size := ⟨_, rfl⟩
  rw [← hIe] at hI0 N2
  obtain ⟨rest, hrest⟩ : ∃ rest, rest = (L' + 1, oC) :: tail := ⟨_, rfl⟩
  rw [← hrest] at hI0 N2
  dsimp only
  rw [← hIe]
  obtain ⟨m₀, hm₀, F2⟩ : ∃ m₀, m₀ = _ ∧ Fr (hid s.heap) L' _ m₀ := ⟨_, rfl, F2⟩
  have hwl : ws.length ≤ 63 := by have := hws.length; lia
  refine ⟨L1Inv (hid s.heap) L' m₀ I D ws 0 rest s, ws.length, ?_, ?_⟩
  · obtain ⟨ta, hta⟩ : ∃ ta, m₀ (Str.ofString "number") = some (.int ((31415926535897932384 : Nat) : Int) ta) := by subst hm₀; exact ⟨_, rfl⟩
    obtain ⟨tb, htb⟩ : ∃ tb, m₀ (Str.ofString "heap") = some (.int ((5 : Nat) : Int) tb) := by subst hm₀; exact ⟨_, rfl⟩
    refine ⟨_, _, itO D 0, 0, _, _, ta, tb, m₀ (Str.ofString "x"), rfl, frCongr F2 (fun y => ?_), N2, rfl, rfl, by lia, hwl, ⟨Nat.le_refl _, by lia⟩, ⟨Nat.le_refl _, by lia⟩⟩
    rw [← hta, ← htb]
    exact over3 m₀ _ _ _ y
  · rintro k s' ⟨h5, tk5, oI, i, a, b, ta, tb, ux, rfl, F5, N5, ci, di, hik, hk63, hab, hbb⟩
    clear F2 N2
    have hlist : h5.IsList D ws.toArray := ⟨_, N5.get (.tail _ (.head _)), rfl, _, rfl⟩
    rcases Nat.eq_zero_or_pos k with hk0 | hk0
    · subst hk0
      refine wpAny_pyNext_list_end (i := i) (items := ws.toArray) hA ⟨_, N5.get (.head _), ci, di⟩ hlist (by rw [List.getElem?_toArray, List.getElem?_eq_none_iff]; lia) ?_
      intro h6 x6
      dsimp only
      have F6 : Fr (hid s.heap) L' h6 _ := frExtBut F5 x6 (N5 _ (.head _)).2
      have N6 : News (hid s.heap) L' h6 rest := fun q hq => by
        have z := N5 q (.tail _ (.tail _ hq))
        exact ⟨x6 _ _ (hI0 q (.tail _ hq)) z.1, z.2⟩
      clear F5 N5 hlist
      subst hrest hm₀
      obtain ⟨N, hN⟩ : ∃ N : Nat, N = a := ⟨_, rfl⟩
      subst hN
      repeat' (first | (k_unfold; (try dsimp only)) | ((fail_if_success (with_reducible show wpAny _ _ (call (Value.ref _) _) _ _ _)); (fail_if_success (with_reducible show wpAny _ _ (binaryOp Operator.Pow _ _) _ _ _)); (fail_if_success (with_reducible show Exists _)); first | (k_end; wrow_close) | ((with_reducible show wpAny _ _ (call (Value.type "str") _) _ _ _); (k_here; with_reducible refine strN (by assumption) ?_)) | ((with_reducible show wpAny _ _ (eval (PySem.Expr.Name _ _) _) _ _ _); (k_here; k_dflt (refine' nameX_L ?F ?v ?_ ?a ?b; (case F => k_asm); (case a => rfl); (case b => rfl); (case v => rfl); k_whole))) | walk1 | (dsimp only; first | ((with_reducible show wpAny _ _ (call (Value.type "str") _) _ _ _); (k_here; with_reducible refine strN (by assumption) ?_)) | ((with_reducible show wpAny _ _ (eval (PySem.Expr.Name _ _) _) _ _ _); (k_here; k_dflt (refine' nameX_L ?F ?v ?_ ?a ?b; (case F => k_asm); (case a => rfl); (case b => rfl); (case v => rfl); k_whole))) | walk1) | (leave1; walk_say "STEP leave1"; try dsimp only)))
      rename_i h7 F7 N7
      rw [fmod3, fdiv3] at F7
      rw [fdiv3]
      obtain ⟨low, hlow⟩ : ∃ low, low = 1 + b % 3 := ⟨_, rfl⟩
      obtain ⟨high, hhigh⟩ : ∃ high, high = 1 + b / 3 % 3 := ⟨_, rfl⟩
      rw [← hlow, ← hhigh] at F7
      rw [← hhigh]
      have low1 : 1 ≤ low ∧ low ≤ 3 := by lia
      have high1 : 1 ≤ high ∧ high ≤ 3 := by lia
      refine pow10N (by lia) ?_
      obtain ⟨B, hBe⟩ : ∃ B, B = 10 ^ high := ⟨_, rfl⟩
      rw [← hBe]
      dsimp only
      have hN100 : N < 2 ^ 100 := Nat.lt_of_le_of_lt (Nat.le_trans (Nat.le_add_right _ _) hab.2) (by decide)
      have hdl := numT_len hab.1 (Nat.le_trans (Nat.le_add_right _ _) hab.2)
      repeat' (first | (k_unfold; (try dsimp only)) | ((fail_if_success (with_reducible show wpAny _ _ (call (Value.ref _) _) _ _ _)); (fail_if_success (with_reducible show wpAny _ _ (binaryOp Operator.FloorDiv _ _) _ _ _)); (fail_if_success (with_reducible show Exists _)); first | (k_end; wrow_close) | ((with_reducible show wpAny _ _ (call (Value.type "str") _) _ _ _); (k_here; with_reducible refine strN (by assumption) ?_)) | ((with_reducible show wpAny _ _ (eval (PySem.Expr.Name _ _) _) _ _ _); (k_here; k_dflt (refine' nameX_L ?F ?v ?_ ?a ?b; (case F => k_asm); (case a => rfl); (case b => rfl); (case v => rfl); k_whole))) | walk1 | (dsimp only; first | ((with_reducible show wpAny _ _ (call (Value.type "str") _) _ _ _); (k_here; with_reducible refine strN (by assumption) ?_)) | ((with_reducible show wpAny _ _ (eval (PySem.Expr.Name _ _) _) _ _ _); (k_here; k_dflt (refine' nameX_L ?F ?v ?_ ?a ?b; (case F => k_asm); (case a => rfl); (case b => rfl); (case v => rfl); k_whole))) | walk1) | (leave1; walk_say "STEP leave1"; try dsimp only)))
      have em : (((numT N).length : Int) - low - 1) = (((numT N).length - low - 1 : Nat) : Int) := by lia
      rw [em]
      refine divNN (by lia) (by lia) ?_
      obtain ⟨more, hmore⟩ : ∃ more, more = ((numT N).length - low - 1) / high := ⟨_, rfl⟩
      rw [← hmore]
      dsimp only
      have hmore2 : more ≤ 20 := by
        have : more ≤ (numT N).length - low - 1 := by rw [hmore]; exact Nat.div_le_self _ _
        lia
      repeat' (first | (k_unfold; (try dsimp only)) | ((fail_if_success (with_reducible show wpAny _ _ (call (Value.ref _) _) _ _ _)); (fail_if_success (with_reducible show wpAny _ _ (subscriptTail _ _ _ _) _ _ _)); (fail_if_success (with_reducible show Exists _)); first | (k_end; wrow_close) | ((with_reducible show wpAny _ _ (call (Value.type "str") _) _ _ _); (k_here; with_reducible refine strN (by assumption) ?_)) | ((with_reducible show wpAny _ _ (eval (PySem.Expr.Name _ _) _) _ _ _); (k_here; k_dflt (refine' nameX_L ?F ?v ?_ ?a ?b; (case F => k_asm); (case a => rfl); (case b => rfl); (case v => rfl); k_whole))) | walk1 | (dsimp only; first | ((with_reducible show wpAny _ _ (call (Value.type "str") _) _ _ _); (k_here; with_reducible refine strN (by assumption) ?_)) | ((with_reducible show wpAny _ _ (eval (PySem.Expr.Name _ _) _) _ _ _); (k_here; k_dflt (refine' nameX_L ?F ?v ?_ ?a ?b; (case F => k_asm); (case a => rfl); (case b => rfl); (case v => rfl); k_whole))) | walk1) | (leave1; walk_say "STEP leave1"; try dsimp only)))
      rw [fdiv9]
      dsimp only
      refine pickRow (by assumption) (.head _) (by k_mem) (by k_mem) (by k_mem) (cand0 low1 high1 hdl.2) (cand1 low1 high1 hdl.2 hmore hmore2) (cand2 low1 high1 hdl.2 hmore hmore2) (Nat.mod_lt _ (by decide)) (b := L' + 1) (by lia) (by lia) (by lia) ?_
      intro r vr er hr hcand hLr
      rename_i Nz _ _
      have N9 : News (hid s.heap) L' _ ((r, W.listOf vr.toArray er) :: (L' + 1, oC) :: tail) := fun q hq => by
        rcases List.mem_cons.mp hq with rfl | hq
        · exact Nz _ hr
        · exact Nz q (by first | (repeat (first | exact hq | refine List.mem_cons_of_mem _ ?_)))
      clear hr Nz
      replace l1 := Hide.mk l1
      replace low1 := Hide.mk low1
      replace high1 := Hide.mk high1
      replace hdl := Hide.mk hdl
      replace hab := Hide.mk hab
      repeat (rename (@LT.lt Nat _ _ _ ∧ _) => hx9; clear hx9)
      repeat (rename (@LT.lt Nat _ L' _) => hx9; clear hx9)
      replace l1 := l1.out
      replace low1 := low1.out
      replace high1 := high1.out
      replace hdl := hdl.out
      replace hab := hab.out
      obtain ⟨row, n, tv, fin, hrow, hok, hvr⟩ := hcand
      repeat' (first | (k_unfold; (try dsimp only)) | ((fail_if_success (with_reducible show wpAny _ _ (call (Value.ref _) _) _ _ _)); (fail_if_success (with_reducible show wpAny _ _ (eval (PySem.Expr.ListComp _ _ _ _) _) _ _ _)); (fail_if_success (with_reducible show Exists _)); first | (k_end; wrow_close) | ((with_reducible show wpAny _ _ (call (Value.type "str") _) _ _ _); (k_here; with_reducible refine strN (by assumption) ?_)) | ((with_reducible show wpAny _ _ (eval (PySem.Expr.Name _ _) _) _ _ _); (k_here; k_dflt (refine' nameX_L ?F ?v ?_ ?a ?b; (case F => k_asm); (case a => rfl); (case b => rfl); (case v => rfl); k_whole))) | walk1 | (dsimp only; first | ((with_reducible show wpAny _ _ (call (Value.type "str") _) _ _ _); (k_here; with_reducible refine strN (by assumption) ?_)) | ((with_reducible show wpAny _ _ (eval (PySem.Expr.Name _ _) _) _ _ _); (k_here; k_dflt (refine' nameX_L ?F ?v ?_ ?a ?b; (case F => k_asm); (case a => rfl); (case b => rfl); (case v => rfl); k_whole))) | walk1) | (leave1; walk_say "STEP leave1"; try dsimp only)))
      rename_i D2 c2 _ hD2 h8 F8 N8
      have hN0 : 0 < N := by lia
      obtain ⟨Ds, hcut, hDs⟩ := pcs_all hN0 low1.1 high1.1 hBe hok.first hok.rest (by have := hdl.1; rw [numT_txt, txt_len] at this; lia) (by have := hok.len; rwa [numT_txt, txt_len] at this) (by have := hdl.2; rw [numT_txt, txt_len] at this; lia)
      clear hI0 x6 ci di hik hk63 hws hc1 hc2 hwl em hlow hhigh hmore hmore2
      refine lp_spec (X.keeps F8.keep) (T.keeps F8.keep) (by simp only [depth_deeper]; lia) hA hB (N8.get (.tail _ (.head _))) hrow hok.path hok.n64 (by lia) hok.fits hok.size ?_
      intro D3 h9 tk9 gens9 vps e3 k9 hD3 g9 hsp B9
      rw [hcut] at hsp
      have F9 := frStays F8 k9
      have N9 := newsAdd F8 (newsStays N8 k9) g9 hD3
      have lt9 := newsLt N8 hD3
      have hL3 : @LT.lt Nat _ L' D3 := Nat.lt_of_lt_of_le F8.ns.lt hD3
      k_lt lt9
      clear F8 N8 k9 g9 hD3 hok hcut
      (try dsimp only)
      repeat' (first | (k_unfold; (try dsimp only)) | ((fail_if_success (with_reducible show wpAny _ _ (call (Value.ref _) _) _ _ _)); (fail_if_success (with_reducible show wpAny _ _ (exec (Stmt.Assign _ (PySem.Expr.ListComp _ _ _ _) _) _) _ _ _)); (fail_if_success (with_reducible show Exists _)); first | (k_end; wrow_close) | ((with_reducible show wpAny _ _ (call (Value.type "str") _) _ _ _); (k_here; with_reducible refine strN (by assumption) ?_)) | ((with_reducible show wpAny _ _ (eval (PySem.Expr.Name _ _) _) _ _ _); (k_here; k_dflt (refine' nameX_L ?F ?v ?_ ?a ?b; (case F => k_asm); (case a => rfl); (case b => rfl); (case v => rfl); k_whole))) | walk1 | (dsimp only; first | ((with_reducible show wpAny _ _ (call (Value.type "str") _) _ _ _); (k_here; with_reducible refine strN (by assumption) ?_)) | ((with_reducible show wpAny _ _ (eval (PySem.Expr.Name _ _) _) _ _ _); (k_here; k_dflt (refine' nameX_L ?F ?v ?_ ?a ?b; (case F => k_asm); (case a => rfl); (case b => rfl); (case v => rfl); k_whole))) | walk1) | (leave1; walk_say "STEP leave1"; try dsimp only)))
      rename_i h10 F10 N10
      have hvals : (Ds.map txt).length = (N % 10 ^ low :: figF 100 B (N / 10 ^ low)).length := by rw [← hDs.vals, List.length_map, List.length_map]
      have hgt10 : ∀ q ∈ [(D3, W.listOf vps.toArray e3), (D2, W.listOf vr.toArray c2), (r, W.listOf vr.toArray er), (L' + 1, oC)], @LT.lt Nat _ 59 q.1 := by
        intro q hq
        simp only [List.mem_cons, List.not_mem_nil, or_false] at hq
        rcases hq with rfl | rfl | rfl | rfl
        · exact Nat.lt_trans l1.1 hL3
        · exact Nat.lt_trans l1.1 (Nat.lt_of_succ_lt hD2.2.1)
        · exact Nat.lt_trans l1.1 (Nat.lt_of_succ_lt hLr)
        · exact Nat.lt_succ_of_lt l1.1
      have hnc10 : ∀ q ∈ [(D2, W.listOf vr.toArray c2), (r, W.listOf vr.toArray er), (L' + 1, oC)], NoCode q.2 := by
        intro q hq
        simp only [List.mem_cons, List.not_mem_nil, or_false] at hq
        rcases hq with rfl | rfl | rfl
        · exact NoCode.seq
        · exact NoCode.seq
        · exact fun vs qn t e => by rw [dC] at e; cases e
      have dis10 := dis_of (rest := [_, _, _, _]) TL N10 hgt10 (List.forall_mem_cons.mpr ⟨NoCode.seq, hnc10⟩)
      refine valC (cl := []) (D3 := D3) (rest := [_, _, _]) (tail := tail) G (by simp only [depth_deeper]; lia) hA F10 N10 TL dis10 hgt10 hnc10 hL' l1.1 hsp hvals ?_ ?_ ?_ ?_ rfl ?_ ?_ ?_ ?_ ?_ ?_ ?_ ?_ ?_
      · exact pcs_ok hDs (by have := hdl.2; rw [numT_txt, txt_len] at this; lia)
      · have h1 := pcs_len hDs
        have h2 := hdl.2
        rw [numT_txt, txt_len] at h2
        rw [← hvals, List.length_map]; lia
      · intro Q' hq
        repeat' (first | (k_unfold; (try dsimp only)) | (k_end; wrow_close) | ((with_reducible show wpAny _ _ (call (Value.type "str") _) _ _ _); (k_here; with_reducible refine strN (by assumption) ?_)) | ((with_reducible show wpAny _ _ (eval (PySem.Expr.Name _ _) _) _ _ _); (k_here; k_dflt (refine' nameX_L ?F ?v ?_ ?a ?b; (case F => k_asm); (case a => rfl); (case b => rfl); (case v => rfl); k_whole))) | walk1 | (dsimp only; first | ((with_reducible show wpAny _ _ (call (Value.type "str") _) _ _ _); (k_here; with_reducible refine strN (by assumption) ?_)) | ((with_reducible show wpAny _ _ (eval (PySem.Expr.Name _ _) _) _ _ _); (k_here; k_dflt (refine' nameX_L ?F ?v ?_ ?a ?b; (case F => k_asm); (case a => rfl); (case b => rfl); (case v => rfl); k_whole))) | walk1) | (leave1; walk_say "STEP leave1"; try dsimp only))
        exact hq
      · intro C s₁ m₁ t z Q' F₁ hm hk
        clear F10 N10
        repeat' (first | (k_unfold; (try dsimp only)) | ((fail_if_success (with_reducible show wpAny _ _ (call (Value.ref _) _) _ _ _)); first | (k_end; wrow_close) | ((with_reducible show wpAny _ _ (call (Value.type "str") _) _ _ _); (k_here; with_reducible refine strN (by assumption) ?_)) | ((with_reducible show wpAny _ _ (eval (PySem.Expr.Name _ _) _) _ _ _); (k_here; k_dflt (refine' nameX_L ?F ?v ?_ ?a ?b; (case F => k_asm); (case a => rfl); (case b => rfl); (case v => rfl); k_whole))) | walk1 | (dsimp only; first | ((with_reducible show wpAny _ _ (call (Value.type "str") _) _ _ _); (k_here; with_reducible refine strN (by assumption) ?_)) | ((with_reducible show wpAny _ _ (eval (PySem.Expr.Name _ _) _) _ _ _); (k_here; k_dflt (refine' nameX_L ?F ?v ?_ ?a ?b; (case F => k_asm); (case a => rfl); (case b => rfl); (case v => rfl); k_whole))) | walk1) | (leave1; walk_say "STEP leave1"; try dsimp only)))
        refine wpAny_Name (wpAny_loadName_local (by exact rfl) (by exact rfl) F₁.ns hm ?_) (by decide)
        repeat' (first | (k_unfold; (try dsimp only)) | ((fail_if_success (with_reducible show wpAny _ _ (call (Value.ref _) _) _ _ _)); (fail_if_success (with_reducible show wpAny _ _ (exec (Stmt.Assign _ (PySem.Expr.ListComp _ _ _ _) _) _) _ _ _)); (fail_if_success (with_reducible show Exists _)); first | (k_end; wrow_close) | ((with_reducible show wpAny _ _ (call (Value.type "str") _) _ _ _); (k_here; with_reducible refine strN (by assumption) ?_)) | ((with_reducible show wpAny _ _ (eval (PySem.Expr.Name _ _) _) _ _ _); (k_here; k_dflt (refine' nameX_L ?F ?v ?_ ?a ?b; (case F => k_asm); (case a => rfl); (case b => rfl); (case v => rfl); k_whole))) | walk1 | (dsimp only; first | ((with_reducible show wpAny _ _ (call (Value.type "str") _) _ _ _); (k_here; with_reducible refine strN (by assumption) ?_)) | ((with_reducible show wpAny _ _ (eval (PySem.Expr.Name _ _) _) _ _ _); (k_here; k_dflt (refine' nameX_L ?F ?v ?_ ?a ?b; (case F => k_asm); (case a => rfl); (case b => rfl); (case v => rfl); k_whole))) | walk1) | (leave1; walk_say "STEP leave1"; try dsimp only)))
        exact hk _
      · exact rfl
      · exact rfl
      · exact rfl
      rotate_left
      · exact rfl
      · exact rfl
      · decide
      · exact rfl
      · decide
      intro h11 tk11 dr11 D4 acc e4 tail2 F11 N11 TL2 dis11 hacc hD4 hltD4
      dsimp only
      have hlD3 : D2 < D3 ∧ r < D3 ∧ L' + 1 < D3 := ⟨lt9.1, lt9.2.1, lt9.2.2.1⟩
      clear F10 N10 TL dis10 lt9 hvals
      have hlD4 : D3 < D4 ∧ D2 < D4 ∧ r < D4 ∧ L' + 1 < D4 := ⟨hltD4 _ (.head _), hltD4 _ (.tail _ (.head _)), hltD4 _ (.tail _ (.tail _ (.head _))), hltD4 _ (.tail _ (.tail _ (.tail _ (.head _))))⟩
      clear hltD4
      simp only [List.cons_append, List.nil_append] at N11
      repeat' (first | (k_unfold; (try dsimp only)) | ((fail_if_success (with_reducible show wpAny _ _ (call (Value.ref _) _) _ _ _)); (fail_if_success (with_reducible show wpAny _ _ (compareOp _ (Value.ref _) (Value.ref _)) _ _ _)); (fail_if_success (with_reducible show wpAny _ _ (exec (Stmt.Assign _ (PySem.Expr.ListComp _ _ _ _) _) _) _ _ _)); (fail_if_success (with_reducible show wpAny _ _ (call (Value.builtin "str.join") _) _ _ _)); (fail_if_success (with_reducible show Exists _)); first | (k_end; wrow_close) | ((with_reducible show wpAny _ _ (call (Value.type "str") _) _ _ _); (k_here; with_reducible refine strN (by assumption) ?_)) | ((with_reducible show wpAny _ _ (eval (PySem.Expr.Name _ _) _) _ _ _); (k_here; k_dflt (refine' nameX_L ?F ?v ?_ ?a ?b; (case F => k_asm); (case a => rfl); (case b => rfl); (case v => rfl); k_whole))) | walk1 | (dsimp only; first | ((with_reducible show wpAny _ _ (call (Value.type "str") _) _ _ _); (k_here; with_reducible refine strN (by assumption) ?_)) | ((with_reducible show wpAny _ _ (eval (PySem.Expr.Name _ _) _) _ _ _); (k_here; k_dflt (refine' nameX_L ?F ?v ?_ ?a ?b; (case F => k_asm); (case a => rfl); (case b => rfl); (case v => rfl); k_whole))) | walk1) | (leave1; walk_say "STEP leave1"; try dsimp only)))
      refine ne_intsK ⟨_, News.get (by assumption) (.tail _ (.tail _ (.tail _ (.head _)))), rfl, _, rfl⟩ hrow ⟨_, News.get (by assumption) (.tail _ (.tail _ (.head _))), rfl, _, rfl⟩ hrow (by show A.units + 3 + 64 < cLine; lia) ?_
      rw [show (!decide (castL row = castL row)) = false from by simp]
      repeat' (first | (k_unfold; (try dsimp only)) | ((fail_if_success (with_reducible show wpAny _ _ (call (Value.ref _) _) _ _ _)); (fail_if_success (with_reducible show wpAny _ _ (compareOp _ (Value.ref _) (Value.ref _)) _ _ _)); (fail_if_success (with_reducible show wpAny _ _ (exec (Stmt.Assign _ (PySem.Expr.ListComp _ _ _ _) _) _) _ _ _)); (fail_if_success (with_reducible show wpAny _ _ (call (Value.builtin "str.join") _) _ _ _)); (fail_if_success (with_reducible show Exists _)); first | (k_end; wrow_close) | ((with_reducible show wpAny _ _ (call (Value.type "str") _) _ _ _); (k_here; with_reducible refine strN (by assumption) ?_)) | ((with_reducible show wpAny _ _ (eval (PySem.Expr.Name _ _) _) _ _ _); (k_here; k_dflt (refine' nameX_L ?F ?v ?_ ?a ?b; (case F => k_asm); (case a => rfl); (case b => rfl); (case v => rfl); k_whole))) | walk1 | (dsimp only; first | ((with_reducible show wpAny _ _ (call (Value.type "str") _) _ _ _); (k_here; with_reducible refine strN (by assumption) ?_)) | ((with_reducible show wpAny _ _ (eval (PySem.Expr.Name _ _) _) _ _ _); (k_here; k_dflt (refine' nameX_L ?F ?v ?_ ?a ?b; (case F => k_asm); (case a => rfl); (case b => rfl); (case v => rfl); k_whole))) | walk1) | (leave1; walk_say "STEP leave1"; try dsimp only)))
      have hB2 : 2 ≤ B ∧ B ≤ 1000 := by
        rw [hBe]
        rcases (by lia : high = 1 ∨ high = 2 ∨ high = 3) with h9 | h9 | h9 <;> rw [h9] <;> decide
      refine lf_spec (X.keeps F11.keep) (T.keeps F11.keep) (by simp only [depth_deeper]; lia) (by lia) hB2.1 (by lia) hN100 ?_
      intro D5 h12 tk12 vs5 e5 k12 hD5 g12 hi5
      refine ne_intsK ⟨_, k12 _ _ (N11.get (.head _)), rfl, _, rfl⟩ hacc ⟨_, g12, rfl, _, rfl⟩ hi5 (by show A.units + 3 + 64 < cLine; lia) ?_
      rw [show (!decide (castL (N % 10 ^ low :: figF 100 B (N / 10 ^ low)) = castL (N % 10 ^ low :: figF 100 B (N / 10 ^ low)))) = false from by simp]
      have F12 := frStays F11 k12
      have N12 := newsStays N11 k12
      clear F11 N11 g12 hi5
      (try dsimp only)
      repeat' (first | (k_unfold; (try dsimp only)) | ((fail_if_success (with_reducible show wpAny _ _ (call (Value.ref _) _) _ _ _)); (fail_if_success (with_reducible show wpAny _ _ (compareOp _ (Value.ref _) (Value.ref _)) _ _ _)); (fail_if_success (with_reducible show wpAny _ _ (exec (Stmt.Assign _ (PySem.Expr.ListComp _ _ _ _) _) _) _ _ _)); (fail_if_success (with_reducible show wpAny _ _ (call (Value.builtin "str.join") _) _ _ _)); (fail_if_success (with_reducible show Exists _)); first | (k_end; wrow_close) | ((with_reducible show wpAny _ _ (call (Value.type "str") _) _ _ _); (k_here; with_reducible refine strN (by assumption) ?_)) | ((with_reducible show wpAny _ _ (eval (PySem.Expr.Name _ _) _) _ _ _); (k_here; k_dflt (refine' nameX_L ?F ?v ?_ ?a ?b; (case F => k_asm); (case a => rfl); (case b => rfl); (case v => rfl); k_whole))) | walk1 | (dsimp only; first | ((with_reducible show wpAny _ _ (call (Value.type "str") _) _ _ _); (k_here; with_reducible refine strN (by assumption) ?_)) | ((with_reducible show wpAny _ _ (eval (PySem.Expr.Name _ _) _) _ _ _); (k_here; k_dflt (refine' nameX_L ?F ?v ?_ ?a ?b; (case F => k_asm); (case a => rfl); (case b => rfl); (case v => rfl); k_whole))) | walk1) | (leave1; walk_say "STEP leave1"; try dsimp only)))
      rename_i I6 h13 F13 N13 lt13
      have hLd : (digL N).length ≤ 21 := by have := hdl.2; rw [numT_txt, txt_len] at this; exact this
      have hDne : Ds ≠ [] := by
        intro q
        have := hDs.vals
        rw [q] at this
        cases this
      have hLne : digL N ≠ [] := by
        intro q
        have := hdl.1
        rw [numT_txt, txt_len, q] at this
        simp at this
      have hJ := join_ok hDs hDne hLne (dig_all N) (by lia) (by have := pcs_len hDs; lia)
      rw [dig_val] at hJ
      have hsum : ((Ds.map txt).map (·.length)).sum + (Ds.map txt).length ≤ 1000 := pcs_sum hDs hLd
      refine join_rev hA (Nat.ne_of_lt lt13.2.1) ⟨_, N13.get (.head _), rfl, rfl⟩ ⟨_, N13.get (.tail _ (.tail _ (.head _))), rfl, _, rfl⟩ hsp (by rw [List.length_map]; exact List.length_pos_iff.mpr hDne) hsum (by decide) ?_
      intro h14 tk14 t14 k14
      have F14 : Fr (hid s.heap) L' h14 _ := frExtBut F13 (fun b o hb e => k14 b o hb e) (N13 _ (.head _)).2
      have N14 : News (hid s.heap) L' h14 ((D4, W.listOf acc.toArray e4) :: (D3, W.listOf vps.toArray e3) :: (D2, W.listOf vr.toArray c2) :: (r, W.listOf vr.toArray er) :: (L' + 1, oC) :: tail2) := fun q hq => by
        have z := N13 q (.tail _ hq)
        refine ⟨k14 _ _ ?_ z.1, z.2⟩
        simp only [List.mem_cons] at hq
        rcases hq with rfl | rfl | rfl | rfl | rfl | hq
        · exact Nat.ne_of_lt lt13.1
        · exact Nat.ne_of_lt lt13.2.1
        · exact Nat.ne_of_lt lt13.2.2.1
        · exact Nat.ne_of_lt lt13.2.2.2.1
        · exact Nat.ne_of_lt lt13.2.2.2.2.1
        · exact allLt_ne lt13.2.2.2.2.2 q hq
      clear F13 N13 lt13 k14
      (try dsimp only)
      repeat' (first | (k_unfold; (try dsimp only)) | ((fail_if_success (with_reducible show wpAny _ _ (call (Value.ref _) _) _ _ _)); (fail_if_success (with_reducible show wpAny _ _ (compareOp _ (Value.ref _) (Value.ref _)) _ _ _)); (fail_if_success (with_reducible show wpAny _ _ (exec (Stmt.Assign _ (PySem.Expr.ListComp _ _ _ _) _) _) _ _ _)); (fail_if_success (with_reducible show wpAny _ _ (binaryOp Operator.Add (Value.str _ _) _) _ _ _)); (fail_if_success (with_reducible show Exists _)); first | (k_end; wrow_close) | ((with_reducible show wpAny _ _ (call (Value.type "str") _) _ _ _); (k_here; with_reducible refine strN (by assumption) ?_)) | ((with_reducible show wpAny _ _ (eval (PySem.Expr.Name _ _) _) _ _ _); (k_here; k_dflt (refine' nameX_L ?F ?v ?_ ?a ?b; (case F => k_asm); (case a => rfl); (case b => rfl); (case v => rfl); k_whole))) | walk1 | (dsimp only; first | ((with_reducible show wpAny _ _ (call (Value.type "str") _) _ _ _); (k_here; with_reducible refine strN (by assumption) ?_)) | ((with_reducible show wpAny _ _ (eval (PySem.Expr.Name _ _) _) _ _ _); (k_here; k_dflt (refine' nameX_L ?F ?v ?_ ?a ?b; (case F => k_asm); (case a => rfl); (case b => rfl); (case v => rfl); k_whole))) | walk1) | (leave1; walk_say "STEP leave1"; try dsimp only)))
      refine addJ hJ.2.2.2.1 (by decide) (Nat.le_trans (Nat.add_le_add_right hJ.2.2.2.2 1) (by decide)) ?_
      intro t15 k15 hk15
      (try dsimp only)
      repeat' (first | (k_unfold; (try dsimp only)) | ((fail_if_success (with_reducible show wpAny _ _ (call (Value.ref _) _) _ _ _)); (fail_if_success (with_reducible show wpAny _ _ (compareOp _ (Value.ref _) (Value.ref _)) _ _ _)); (fail_if_success (with_reducible show wpAny _ _ (exec (Stmt.Assign _ (PySem.Expr.ListComp _ _ _ _) _) _) _ _ _)); (fail_if_success (with_reducible show wpAny _ _ (binaryOp Operator.Add (Value.str _ _) _) _ _ _)); (fail_if_success (with_reducible show Exists _)); first | (k_end; wrow_close) | ((with_reducible show wpAny _ _ (call (Value.type "str") _) _ _ _); (k_here; with_reducible refine strN (by assumption) ?_)) | ((with_reducible show wpAny _ _ (eval (PySem.Expr.Name _ _) _) _ _ _); (k_here; k_dflt (refine' nameX_L ?F ?v ?_ ?a ?b; (case F => k_asm); (case a => rfl); (case b => rfl); (case v => rfl); k_whole))) | walk1 | (dsimp only; first | ((with_reducible show wpAny _ _ (call (Value.type "str") _) _ _ _); (k_here; with_reducible refine strN (by assumption) ?_)) | ((with_reducible show wpAny _ _ (eval (PySem.Expr.Name _ _) _) _ _ _); (k_here; k_dflt (refine' nameX_L ?F ?v ?_ ?a ?b; (case F => k_asm); (case a => rfl); (case b => rfl); (case v => rfl); k_whole))) | walk1) | (leave1; walk_say "STEP leave1"; try dsimp only)))
      have hgt14 : ∀ q ∈ [(D4, W.listOf acc.toArray e4), (D3, W.listOf vps.toArray e3), (D2, W.listOf vr.toArray c2), (r, W.listOf vr.toArray er), (L' + 1, oC)], @LT.lt Nat _ 59 q.1 :=
        List.forall_mem_cons.mpr ⟨Nat.lt_trans l1.1 hD4, hgt10⟩
      refine ifs_spec (G.after (TL2.after (rest := [_, _, _, _, _]) F14 N14 hL')) (by simp only [depth_deeper]; lia) hJ.1 (.inr hk15) hJ.2.1 hJ.2.2.1 ?_
      intro u16 h16 tk16 dr16 A16
      obtain ⟨tail3, F16, N16, TL3, nt16⟩ := after_tail (rest := [_, _, _, _, _]) F14 N14 TL2 hgt14 l1.1 A16
      have ntC : ∀ q ∈ tail3, q.1 ≠ L' + 1 := nt16 (L' + 1, oC) (.tail _ (.tail _ (.tail _ (.tail _ (.head _))))) (fun vs qn t e => by rw [dC] at e; cases e)
      simp only [List.cons_append, List.nil_append] at N16
      have hDs9 : (N % 10 ^ low :: figF 100 B (N / 10 ^ low)).length ≤ 21 := by rw [← hDs.vals, List.length_map]; exact Nat.le_trans (pcs_len hDs) hLd
      clear F14 N14 TL2 A16 nt16 hJ hsum hsp hDs hk15 dis11
      (try dsimp only)
      repeat' (first | (k_unfold; (try dsimp only)) | ((fail_if_success (with_reducible show wpAny _ _ (call (Value.ref _) _) _ _ _)); (fail_if_success (with_reducible show wpAny _ _ (compareOp _ (Value.ref _) (Value.ref _)) _ _ _)); (fail_if_success (with_reducible show wpAny _ _ (exec (Stmt.Assign _ (PySem.Expr.ListComp _ _ _ _) _) _) _ _ _)); (fail_if_success (with_reducible show wpAny _ _ (binaryOp Operator.Add (Value.str _ _) _) _ _ _)); (fail_if_success (with_reducible show wpAny _ _ (subscriptTail _ _ (Value.ref _) (Value.ref _)) _ _ _)); (fail_if_success (with_reducible show Exists _)); first | (k_end; wrow_close) | ((with_reducible show wpAny _ _ (call (Value.type "str") _) _ _ _); (k_here; with_reducible refine strN (by assumption) ?_)) | ((with_reducible show wpAny _ _ (eval (PySem.Expr.Name _ _) _) _ _ _); (k_here; k_dflt (refine' nameX_L ?F ?v ?_ ?a ?b; (case F => k_asm); (case a => rfl); (case b => rfl); (case v => rfl); k_whole))) | walk1 | (dsimp only; first | ((with_reducible show wpAny _ _ (call (Value.type "str") _) _ _ _); (k_here; with_reducible refine strN (by assumption) ?_)) | ((with_reducible show wpAny _ _ (eval (PySem.Expr.Name _ _) _) _ _ _); (k_here; k_dflt (refine' nameX_L ?F ?v ?_ ?a ?b; (case F => k_asm); (case a => rfl); (case b => rfl); (case v => rfl); k_whole))) | walk1) | (leave1; walk_say "STEP leave1"; try dsimp only)))
      · exact absurd rfl (by assumption)
      refine kmk_slice_ints F16 N16 ⟨_, N16.get (.head _), rfl, _, rfl⟩ (by kmk_part) (by kmk_part) hacc (kmk_from hacc (by decide)) rfl ?_ (by with_unfolding_all rfl) (by intro _; with_unfolding_all rfl) ?_
      rotate_left
      · have := hacc.length
        have h9 := hDs9
        rw [sizeLine_eq, List.size_toArray, this, castL, List.length_map]; lia
      intro D7 ws7 h17 F17 N17 l17 hi7 _ _
      k_lt l17
      have hD7 : @LT.lt Nat _ L' D7 := Nat.lt_trans hD4 l17.1
      clear F16 N16
      rw [show (castL (N % 10 ^ low :: figF 100 B (N / 10 ^ low))).drop (1 : Int).toNat = castL (figF 100 B (N / 10 ^ low)) from rfl] at hi7
      (try dsimp only)
      repeat' (first | (k_unfold; (try dsimp only)) | ((fail_if_success (with_reducible show wpAny _ _ (call (Value.ref _) _) _ _ _)); (fail_if_success (with_reducible show wpAny _ _ (compareOp _ (Value.ref _) (Value.ref _)) _ _ _)); (fail_if_success (with_reducible show wpAny _ _ (exec (Stmt.Assign _ (PySem.Expr.ListComp _ _ _ _) _) _) _ _ _)); (fail_if_success (with_reducible show wpAny _ _ (binaryOp Operator.Add (Value.str _ _) _) _ _ _)); (fail_if_success (with_reducible show wpAny _ _ (subscriptTail _ _ (Value.ref _) (Value.ref _)) _ _ _)); (fail_if_success (with_reducible show Exists _)); first | (k_end; wrow_close) | ((with_reducible show wpAny _ _ (call (Value.type "str") _) _ _ _); (k_here; with_reducible refine strN (by assumption) ?_)) | ((with_reducible show wpAny _ _ (eval (PySem.Expr.Name _ _) _) _ _ _); (k_here; k_dflt (refine' nameX_L ?F ?v ?_ ?a ?b; (case F => k_asm); (case a => rfl); (case b => rfl); (case v => rfl); k_whole))) | walk1 | (dsimp only; first | ((with_reducible show wpAny _ _ (call (Value.type "str") _) _ _ _); (k_here; with_reducible refine strN (by assumption) ?_)) | ((with_reducible show wpAny _ _ (eval (PySem.Expr.Name _ _) _) _ _ _); (k_here; k_dflt (refine' nameX_L ?F ?v ?_ ?a ?b; (case F => k_asm); (case a => rfl); (case b => rfl); (case v => rfl); k_whole))) | walk1) | (leave1; walk_say "STEP leave1"; try dsimp only)))
      have UC : UpdF (L' + 1) oC ((D7, W.listOf ws7.toArray 0) :: (D4, W.listOf acc.toArray e4) :: (D3, W.listOf vps.toArray e3) :: (D2, W.listOf vr.toArray c2) :: (r, W.listOf vr.toArray er) :: (L' + 1, oC) :: tail3) _ :=
        .tail (Nat.ne_of_gt l17.2.2.2.2.1) (.tail (Nat.ne_of_gt hlD4.2.2.2) (.tail (Nat.ne_of_gt hlD3.2.2) (.tail (Nat.ne_of_gt hD2.2.1) (.tail (Nat.ne_of_gt hLr) (.head ntC)))))
      k_dflt (refine' storeX_C F17 N17 ?c UC ?d ?_ ?a ?b; (case a => rfl); (case b => rfl); (case c => rfl); (case d => exact dC); k_whole)
      intro h18 oC2 F18 N18 dC2
      clear F17 N17 UC
      dsimp only at N18 ⊢
      obtain ⟨xs, ys, hP⟩ := hplain N low high hN100 low1 high1 (by rw [← hBe]; simp only [List.length_cons] at hDs9; lia)
      rw [← hBe] at hP
      have hgt18 : ∀ q ∈ [(D7, W.listOf ws7.toArray 0), (D4, W.listOf acc.toArray e4), (D3, W.listOf vps.toArray e3), (D2, W.listOf vr.toArray c2), (r, W.listOf vr.toArray er), (L' + 1, oC2)], @LT.lt Nat _ 59 q.1 := by
        intro q hq
        simp only [List.mem_cons, List.not_mem_nil, or_false] at hq
        rcases hq with rfl | rfl | rfl | rfl | rfl | rfl
        · exact Nat.lt_trans l1.1 hD7
        · exact Nat.lt_trans l1.1 hD4
        · exact Nat.lt_trans l1.1 hL3
        · exact Nat.lt_trans l1.1 (Nat.lt_of_succ_lt hD2.2.1)
        · exact Nat.lt_trans l1.1 (Nat.lt_of_succ_lt hLr)
        · exact Nat.lt_succ_of_lt l1.1
      have hnc18 : ∀ q ∈ [(D7, W.listOf ws7.toArray 0), (D4, W.listOf acc.toArray e4), (D3, W.listOf vps.toArray e3), (D2, W.listOf vr.toArray c2), (r, W.listOf vr.toArray er), (L' + 1, oC2)], NoCode q.2 := by
        intro q hq
        simp only [List.mem_cons, List.not_mem_nil, or_false] at hq
        rcases hq with rfl | rfl | rfl | rfl | rfl | rfl
        · exact NoCode.seq
        · exact NoCode.seq
        · exact NoCode.seq
        · exact NoCode.seq
        · exact NoCode.seq
        · exact fun vs qn t e => by rw [dC2] at e; cases e
      refine law_tail (N := N) (low := low) (B := B) (v0 := N % 10 ^ low) (ls := figF 100 B (N / 10 ^ low)) (vals := acc) (ws := ws7) (D4 := D4) (D7 := D7) (oC := oC2) (rest := [_, _, _, _, _, _]) (tail := tail3) rfl G (by lia) hA hU
        (fr1 (Str.ofString "values") (fr1 (Str.ofString "base") (fr1 (Str.ofString "low") (fr1 (Str.ofString "number") F18 (by rfl)) (by rfl)) (by rfl)) (by rfl))
        N18 TL3 hgt18 hnc18 l1.1 hL' (.tail _ (.head _)) (.head _) (.tail _ (.tail _ (.tail _ (.tail _ (.tail _ (.head _)))))) dC2 hacc hi7 (by simp only [List.length_cons] at hDs9; lia) (fun d hd9 => Nat.lt_of_lt_of_le (figF_lt (by lia) _ _ d hd9) hB2.2) hN100 (by lia) hB2 hP ?_
      intro h19 tk19 tail19 m19 F19 N19 TL19
      exact h.out h19 _ _ _ (TL19.after (rest := [_, _, _, _, _, _]) F19 N19 hL') B9
    · have hi : i < ws.length := by lia
      obtain ⟨x, tx, hx⟩ : ∃ x tx, ws.toArray[i]? = some (.int x tx) := by
        have := hws.length
        obtain ⟨tx, e⟩ := hws.get i ((ns.take 63)[i]'(by lia)) (List.getElem?_eq_getElem _)
        exact ⟨_, tx, by simpa using e⟩
      refine wpAny_pyNext_list_item (i := i) (items := ws.toArray) ⟨_, N5.get (.head _), ci, di⟩ hlist hx ?_
      intro h6 it6 sb6
      obtain ⟨oI6, g6, ci6, di6⟩ := it6
      have F6 := F5.change sb6 (N5 _ (.head _)).2.1 (N5 _ (.head _)).2.2
      have N6 : News (hid s.heap) L' h6 ((I, oI6) :: (D, W.listOf ws.toArray 0) :: rest) := fun q hq => by
        rcases List.mem_cons.mp hq with rfl | hq
        · exact ⟨g6, (N5 _ (.head _)).2⟩
        · have z := N5 q (.tail _ hq)
          exact ⟨(sb6.2 _ (hI0 q hq)).trans z.1, z.2⟩
      clear F5 N5 hlist g6 sb6
      dsimp only
      repeat' (first | (k_unfold; (try dsimp only)) | ((fail_if_success (with_reducible show wpAny _ _ (call (Value.ref _) _) _ _ _)); (fail_if_success (with_reducible show Exists _)); first | (k_end; wrow_close) | ((with_reducible show wpAny _ _ (call (Value.type "str") _) _ _ _); (k_here; with_reducible refine strN (by assumption) ?_)) | ((with_reducible show wpAny _ _ (eval (PySem.Expr.Name _ _) _) _ _ _); (k_here; k_dflt (refine' nameX_L ?F ?v ?_ ?a ?b; (case F => k_asm); (case a => rfl); (case b => rfl); (case v => rfl); k_whole))) | walk1 | (dsimp only; first | ((with_reducible show wpAny _ _ (call (Value.type "str") _) _ _ _); (k_here; with_reducible refine strN (by assumption) ?_)) | ((with_reducible show wpAny _ _ (eval (PySem.Expr.Name _ _) _) _ _ _); (k_here; k_dflt (refine' nameX_L ?F ?v ?_ ?a ?b; (case F => k_asm); (case a => rfl); (case b => rfl); (case v => rfl); k_whole))) | walk1) | (leave1; walk_say "STEP leave1"; try dsimp only)))
      rename_i Fz Nz
      dsimp only
      have p1 := Int.fmod_nonneg_of_pos x (b := 10000000000000000000) (by decide)
      have p2 := Int.fmod_lt_of_pos x (b := 10000000000000000000) (by decide)
      have p3 := Int.fmod_nonneg_of_pos x (b := 1000000) (by decide)
      have p4 := Int.fmod_lt_of_pos x (b := 1000000) (by decide)
      have e1 : (a : Int) + x.fmod 10000000000000000000 = ((a + (x.fmod 10000000000000000000).toNat : Nat) : Int) := by lia
      have e2 : (b : Int) + x.fmod 1000000 = ((b + (x.fmod 1000000).toNat : Nat) : Int) := by lia
      have q19 : (10 : Int) ^ Int.toNat 19 = 10000000000000000000 := by decide
      have q6 : (10 : Int) ^ Int.toNat 6 = 1000000 := by decide
      rw [q19, q6, e1, e2] at Fz
      refine ⟨k - 1, by lia, _, _, oI6, i + 1, _, _, _, _, _, rfl, frCongr Fz (fun y => over3c (by decide) (by decide) (by decide)), Nz, ci6, by rw [di6], by lia, by lia, ⟨by lia, by lia⟩, ⟨by lia, by lia⟩⟩
end
end Mine
end
end
section
open PySem PySem.W PySem.Calls PyProof.Rows
set_option maxRecDepth 100000
set_option maxHeartbeats 8000000
namespace Mine
theorem oldK_of {h h' : Heap} (hc : ∀ q ∈ ([(63, 59), (56, 52), (28, 24)] : List (Addr × Addr)), CodeHd h q.1 q.2 ∧ h.get? q.2 = some (tabObj #[])) (a : After h h') : OldK h h' := by
  have tb : ∀ c P ps, CodeHd h c P → h.get? P = some (tabObj #[]) → h'.get? P = some (tabObj ps) → ∀ o, h.get? P = some o → asItWas h h' P o := fun c P ps hcd h0 h1 o e => by
    rw [h0] at e
    cases e
    obtain ⟨oc, vs, file, tf, flags, tg, inF, text, tt, e1, e2, e3, e4, _⟩ := hcd
    refine .inr (.inl ⟨⟨c, oc, vs, e1, e2, e3, e4⟩, rfl, #[], ps, rfl, ?_⟩)
    rw [h1]
    simp [tabObj]
  have k : ∀ b o, h.get? b = some o → asItWas h h' b o ∧ ∃ o', h'.get? b = some o' := fun b o e => by
    by_cases hb : b ∈ ([59, 52, 24] : List Addr)
    · obtain ⟨⟨p24, t24⟩, ⟨p52, t52⟩, ⟨p59, t59⟩⟩ := a.tabs
      simp only [List.mem_cons, List.not_mem_nil, or_false] at hb
      rcases hb with rfl | rfl | rfl
      · have z := hc (63, 59) (by simp)
        exact ⟨tb 63 59 p59 z.1 z.2 t59.1 o e, _, t59.1⟩
      · have z := hc (56, 52) (by simp)
        exact ⟨tb 56 52 p52 z.1 z.2 t52.1 o e, _, t52.1⟩
      · have z := hc (28, 24) (by simp)
        exact ⟨tb 28 24 p24 z.1 z.2 t24.1 o e, _, t24.1⟩
    · have z := a.keep b o (hideAll_get _ e hb)
      exact ⟨.inl z, _, z⟩
  exact ⟨fun b o e => (k b o e).1, fun b o e => (k b o e).2⟩
theorem final (hp : HPlain) : PySem.Challenge.rw_rl0106_01.Holds := hd (by
  intro w s₀ s₁ mg mb G Y fa o pm cd doc dV kV ho hd hcd hD hmg hg args vals as hpre hlay hrd hwl hlo
  have X := km_in_of Y
  have hT8 := km_tabs_of Y
  have T := G.T
  have e1 := mg_of (n := Str.ofString "law") (v := .ref 123) X T.g (by kernel_rfl)
  have hfa : fa = 123 := by
    have := hmg.symm.trans e1
    cases this; rfl
  clear hd hcd hD hmg
  subst hfa
  have hT9 : TabsAt ([(63, 59), (56, 52), (28, 24)] : List (Addr × Addr)) s₁.heap :=
    List.forall_mem_cons.mpr ⟨⟨codeHd_of_K (c := 63) (P := 59) X (by kernel_rfl), hT8 59 (by simp)⟩,
      List.forall_mem_cons.mpr ⟨⟨codeHd_of_K (c := 56) (P := 52) X (by kernel_rfl), hT8 52 (by simp)⟩,
        List.forall_mem_cons.mpr ⟨⟨codeHd_of_K (c := 28) (P := 24) X (by kernel_rfl), hT8 24 (by simp)⟩, fun _ h => nomatch h⟩⟩⟩
  have hC := ghost_code hT9
  have TB : Tabs s₁.heap := ⟨⟨#[], hT8 24 (by simp), .inl rfl⟩, ⟨#[], hT8 52 (by simp), .inl rfl⟩, ⟨#[], hT8 59 (by simp), .inl rfl⟩⟩
  have GG : Gr w topProg _ _ mg mb s₁.heap := ⟨ghost_K hT9 X (by kernel_rfl), ghost_top hT9 T, hC.2.2.1, hC.2.1, hC.1, TB⟩
  clear hC TB hT8
  wrow_args hpre hlay hrd hwl hlo
  rename_i ns _ _ _ _ _ _ _ l vs _ hL _ _ _ hI _ hlen _
  refine law_spec hp GG (by decide) rfl (by decide) ?_ (ghost_list hT9 hL) hI (by omega) ?_
  · exact AllBare.of_eq hg
  · intro h' tk' dr' gens' hA9 hB9
    refine ⟨.inl ⟨.bool true, .bool true, [], rfl, fun _ => rfl, .bool true, ?_, fun _ => ⟨List.nodup_nil, fun _ h => nomatch h⟩⟩, oldK_of hT9 hA9, rfl, hB9⟩
    wrow_post)
end Mine
end
section
open PySem PySem.Float64
set_option maxRecDepth 100000
set_option maxHeartbeats 8000000
set_option exponentiation.threshold 5000
namespace Mine
/-! the numbers that floats stand for -/
/-- each number of 53 bits at any place is the size of a float -/
theorem V_ex : ∀ (k q : Nat), q ≤ 2 ^ 53 → ∃ t, V t = q * 2 ^ k
  | 0, q, h => ⟨0 * 2 ^ 52 + q, by rw [V_at h (.inr rfl)]⟩
  | k + 1, q, h => by
    rcases Nat.lt_or_ge q (2 ^ 52) with h1 | h1
    · obtain ⟨t, e⟩ := V_ex k (2 * q) (by omega)
      refine ⟨t, ?_⟩
      rw [e, Nat.pow_succ]; ac_rfl
    · exact ⟨(k + 1) * 2 ^ 52 + q, V_at h (.inl h1)⟩

theorem pack_fin {neg : Bool} {t : Nat} (h : t < infMag) : (∃ a m e, decode (pack neg t) = .fin a m e) ∧ val (pack neg t) = sgn neg (V t) := by
  obtain ⟨m, e, hd, _⟩ := decode_pack neg h
  exact ⟨⟨_, _, _, hd⟩, val_pack neg h⟩

theorem sgn_abs (z : Int) : sgn (decide (z < 0)) z.natAbs = z := by
  unfold sgn
  by_cases h : z < 0
  · simp only [h, decide_true, if_true]; omega
  · simp only [h, decide_false, Bool.false_eq_true, if_false]; omega

/-- the least that a rounding to nearest gives: no overflow, within 2^1041, and what is a float's size comes out as it is -/
theorem dist_bound {W X Y m P : Nat} (h1 : dist W X ≤ dist W Y) (h2 : Y + m = W) (h3 : m < P) : X ≤ W + P ∧ W ≤ X + P := by unfold dist at h1; omega
theorem dist_self (W : Nat) : dist W W = 0 := by unfold dist; omega
theorem dist_zero {W X : Nat} (h : dist W X ≤ 0) : W = X := by unfold dist at h; omega
theorem right_near {r : UInt64} {neg : Bool} {W D : Nat} (h : Right r neg W D) (hD : 0 < D) (hW : W ≤ D * 2 ^ 1094) :
    (∃ a m e, decode r = .fin a m e) ∧ (∃ v : Nat, val r = sgn neg v ∧ D * v ≤ W + D * 2 ^ 1041 ∧ W ≤ D * v + D * 2 ^ 1041 ∧ ∀ q k : Nat, q ≤ 2 ^ 53 → W = D * (q * 2 ^ k) → v = q * 2 ^ k) := by
  obtain ⟨t, hr, htm, hov, hn⟩ := h
  have hlt : t < infMag := by
    refine Nat.lt_of_le_of_ne htm fun e => ?_
    have h1 := hov.mp e
    have h2 : D * ((2 ^ 54 - 1) * 2 ^ 2045) ≤ D * (2 * 2 ^ 1094) := by
      have : D * (2 * 2 ^ 1094) = 2 * (D * 2 ^ 1094) := by ac_rfl
      omega
    have h3 := Nat.le_of_mul_le_mul_left h2 hD
    exact absurd h3 (by decide +kernel)
  obtain ⟨hf, hv⟩ := pack_fin (neg := neg) hlt
  rw [← hr] at hf hv
  refine ⟨hf, V t, hv, ?_⟩
  have hn := fun t' => (hn hlt t').1
  -- the floor at place 1041
  have hq : W / (D * 2 ^ 1041) ≤ 2 ^ 53 := by
    refine Nat.div_le_of_le_mul ?_
    have : D * 2 ^ 1041 * 2 ^ 53 = D * 2 ^ 1094 := by rw [Nat.mul_assoc, ← Nat.pow_add]
    exact Nat.le_trans hW (Nat.le_of_eq this.symm)
  obtain ⟨t', ht'⟩ := V_ex 1041 _ hq
  have h1 := hn t'
  rw [ht'] at h1
  have hP : 0 < D * 2 ^ 1041 := Nat.mul_pos hD (Nat.two_pow_pos _)
  have h2 := Nat.div_add_mod W (D * 2 ^ 1041)
  have h3 := Nat.mod_lt W hP
  have h4 : D * (W / (D * 2 ^ 1041) * 2 ^ 1041) = D * 2 ^ 1041 * (W / (D * 2 ^ 1041)) := by
    generalize W / (D * 2 ^ 1041) = z
    ac_rfl
  rw [h4] at h1
  have hb := dist_bound h1 h2 h3
  refine ⟨hb.1, hb.2, ?_⟩
  · intro q k hqk hW'
    obtain ⟨t2, ht2⟩ := V_ex k q hqk
    have h5 := hn t2
    rw [ht2, ← hW'] at h5
    have h6 := dist_self W
    rw [h6] at h5
    have h7 : W = D * V t := dist_zero h5
    rw [h7] at hW'
    exact Nat.eq_of_mul_eq_mul_left hD hW'

def S : Rat := ((2 ^ 1074 : Nat) : Rat)
theorem S_pos : 0 < S := by
  unfold S
  exact_mod_cast Nat.two_pow_pos 1074
/-- x is finite, and it stands for r -/
def Is (x : UInt64) (r : Rat) : Prop := (∃ a m e, decode x = .fin a m e) ∧ ((val x : Int) : Rat) = r * S
/-- a number with ten binary places, not large -/
def Dy (r : Rat) : Prop := ∃ k : Int, r * 1024 = (k : Rat) ∧ k.natAbs ≤ 2 ^ 40
theorem S_ne : S ≠ 0 := by have := S_pos; intro h; rw [h] at this; exact absurd this (by decide)
theorem Is.eq {x : UInt64} {r q : Rat} (a : Is x r) (b : Is x q) : r = q := by
  have h := a.2.symm.trans b.2
  have := S_ne
  grind
theorem negN (n : Nat) : ((-(n : Int) : Int) : Rat) = -((n : Nat) : Rat) := by rw [Rat.intCast_neg, Rat.intCast_natCast]
theorem natR {a b : Nat} (h : a ≤ b) : (a : Rat) ≤ (b : Rat) := by exact_mod_cast h
theorem eps_S : ((2 ^ 1041 : Nat) : Rat) * 1000000000 ≤ S := by
  unfold S
  have : 2 ^ 1041 * 1000000000 ≤ 2 ^ 1074 := by decide +kernel
  exact_mod_cast this
theorem top_S : ((2 ^ 1094 : Nat) : Rat) = 1048576 * S := by
  unfold S
  have : 2 ^ 1094 = 1048576 * 2 ^ 1074 := by decide +kernel
  exact_mod_cast this
theorem ten_S : ((2 ^ 1064 : Nat) : Rat) * 1024 = S := by
  unfold S
  have : 2 ^ 1064 * 1024 = 2 ^ 1074 := by decide +kernel
  exact_mod_cast this
/-- to nearest, in numbers: no overflow, near, exact where it can be -/
theorem right_is {r : UInt64} {neg : Bool} {W D : Nat} (h : Right r neg W D) (hD : 0 < D) {x : Rat} (hx : ((sgn neg W : Int) : Rat) = x * D * S) (h1 : x ≤ 1048576) (h2 : -1048576 ≤ x) :
    ∃ z, Is r z ∧ z - x ≤ 1 / 1000000000 ∧ x - z ≤ 1 / 1000000000 ∧ (Dy x → z = x) := by
  have hDR : (0 : Rat) < (D : Rat) := by exact_mod_cast hD
  have hSD : (0 : Rat) < (D : Rat) * S := Rat.mul_pos hDR S_pos
  have hSD0 : (D : Rat) * S ≠ 0 := by intro e; rw [e] at hSD; exact absurd hSD (by decide)
  have key : ∀ y : Rat, y ≤ 1048576 → ((W : Nat) : Rat) = y * (D * S) → W ≤ D * 2 ^ 1094 := by
    intro y hy e
    have h3 : y * (D * S) ≤ 1048576 * (D * S) := Rat.mul_le_mul_of_nonneg_right hy (Rat.le_of_lt hSD)
    have h4 : ((W : Nat) : Rat) ≤ ((D * 2 ^ 1094 : Nat) : Rat) := by
      rw [Rat.natCast_mul, top_S]
      grind
    exact_mod_cast h4
  have hs : ∃ y : Rat, y ≤ 1048576 ∧ ((W : Nat) : Rat) = y * (D * S) ∧ (x = if neg then -y else y) := by
    unfold sgn at hx
    cases neg
    · simp only [Bool.false_eq_true, if_false] at hx
      refine ⟨x, h1, ?_, rfl⟩
      have : ((W : Nat) : Rat) = x * D * S := by exact_mod_cast hx
      grind
    · simp only [if_true] at hx
      refine ⟨-x, by grind, ?_, by grind⟩
      rw [negN] at hx
      grind
  obtain ⟨y, hy1, hy2, hxy⟩ := hs
  obtain ⟨hf, v, hv, n1, n2, n3⟩ := right_near h hD (key y hy1 hy2)
  have m1 : (D : Rat) * v ≤ W + D * ((2 ^ 1041 : Nat) : Rat) := by exact_mod_cast n1
  have m2 : (W : Rat) ≤ D * v + D * ((2 ^ 1041 : Nat) : Rat) := by exact_mod_cast n2
  have hE := eps_S
  have hDE : (D : Rat) * (((2 ^ 1041 : Nat) : Rat) * 1000000000) ≤ D * S := Rat.mul_le_mul_of_nonneg_left hE (Rat.le_of_lt hDR)
  generalize hG : ((2 ^ 1041 : Nat) : Rat) = G at *
  have hS0 := S_ne
  have hSp := S_pos
  -- u: the size of the answer
  obtain ⟨u, hu⟩ : ∃ u : Rat, (v : Rat) = u * S := ⟨(v : Rat) / S, by grind⟩
  rw [hu] at m1 m2
  rw [hy2] at m1 m2
  have k1 : (u - y) * (D * S) ≤ (1 / 1000000000) * (D * S) := by grind
  have k2 : (y - u) * (D * S) ≤ (1 / 1000000000) * (D * S) := by grind
  have k1' := Rat.le_of_mul_le_mul_right k1 hSD
  have k2' := Rat.le_of_mul_le_mul_right k2 hSD
  have hd : Dy x → u = y := by
    rintro ⟨k, hk, hk2⟩
    have e1 : y * 1024 = ((k.natAbs : Nat) : Rat) := by
      have hy0 : 0 ≤ y := by
        have : (0 : Rat) * (D * S) ≤ y * (D * S) := by
          rw [← hy2]
          have : (0 : Rat) ≤ (W : Rat) := by exact_mod_cast Nat.zero_le W
          grind
        exact Rat.le_of_mul_le_mul_right this hSD
      rcases Int.natAbs_eq k with e | e
      · rw [e] at hk
        have hk' : x * 1024 = ((k.natAbs : Nat) : Rat) := by exact_mod_cast hk
        have hn : (0 : Rat) ≤ ((k.natAbs : Nat) : Rat) := by exact_mod_cast Nat.zero_le _
        cases neg <;> simp only [Bool.false_eq_true, if_false, if_true] at hxy <;> grind
      · rw [e] at hk
        have hk' : x * 1024 = -((k.natAbs : Nat) : Rat) := by
          rw [hk, negN]
        have hn : (0 : Rat) ≤ ((k.natAbs : Nat) : Rat) := by exact_mod_cast Nat.zero_le _
        cases neg <;> simp only [Bool.false_eq_true, if_false, if_true] at hxy <;> grind
    have e2 : W = D * (k.natAbs * 2 ^ 1064) := by
      have : ((W : Nat) : Rat) = ((D * (k.natAbs * 2 ^ 1064) : Nat) : Rat) := by
        rw [Rat.natCast_mul, Rat.natCast_mul, hy2, ← e1]
        have := ten_S
        grind
      exact_mod_cast this
    have e3 := n3 _ _ (Nat.le_trans hk2 (by decide)) e2
    have e4 : u * S = ((k.natAbs * 2 ^ 1064 : Nat) : Rat) := by rw [← hu, e3]
    rw [Rat.natCast_mul, ← e1] at e4
    have := ten_S
    grind
  refine ⟨if neg then -u else u, ⟨hf, ?_⟩, ?_, ?_, ?_⟩
  · rw [hv]
    unfold sgn
    cases neg
    · simp only [Bool.false_eq_true, if_false]
      exact_mod_cast hu
    · simp only [if_true]
      rw [negN, hu]; grind
  · cases neg <;> simp only [Bool.false_eq_true, if_false, if_true] at hxy ⊢ <;> grind
  · cases neg <;> simp only [Bool.false_eq_true, if_false, if_true] at hxy ⊢ <;> grind
  · intro hdy
    have := hd hdy
    cases neg <;> simp only [Bool.false_eq_true, if_false, if_true] at hxy ⊢ <;> grind
end Mine
end
section
open PySem PySem.Float64
set_option maxRecDepth 100000
set_option maxHeartbeats 8000000
set_option exponentiation.threshold 5000
namespace Mine
abbrev Near (x : UInt64) (r : Rat) : Prop := ∃ z, Is x z ∧ z - r ≤ 1 / 1000000000 ∧ r - z ≤ 1 / 1000000000 ∧ (Dy r → z = r)
section
variable {x y : UInt64} {r q : Rat}
theorem S_nat : ((2 ^ 1074 : Nat) : Rat) = S := rfl
theorem Is.zero (sg : Bool) : Is (Float64.zero sg) 0 := by
  obtain ⟨hf, hv⟩ := pack_fin (neg := sg) (t := 0) (by decide)
  refine ⟨hf, ?_⟩
  show ((val (pack sg 0) : Int) : Rat) = _
  rw [hv, V_zero]
  have : sgn sg 0 = 0 := by cases sg <;> rfl
  rw [this]; simp
theorem add_is (hx : Is x r) (hy : Is y q) (h1 : r + q ≤ 1048576) (h2 : -1048576 ≤ r + q) : Near (Float64.add x y) (r + q) := by
  obtain ⟨⟨a, m, e, dx⟩, vx⟩ := hx
  obtain ⟨⟨b, k, f, dy⟩, vy⟩ := hy
  have h := add_right dx dy
  have hs : ((val x + val y : Int) : Rat) = (r + q) * S := by rw [Rat.intCast_add, vx, vy]; grind
  by_cases h0 : val x + val y = 0
  · rw [h.1 h0]
    rw [h0] at hs
    have hz : r + q = 0 := by
      have := S_ne
      have h3 : (0 : Rat) = (r + q) * S := by exact_mod_cast hs
      grind
    rw [hz]
    exact ⟨0, Is.zero _, by decide +kernel, by decide +kernel, fun _ => rfl⟩
  · refine right_is (h.2 h0) (by decide) ?_ h1 h2
    rw [sgn_abs, hs]; grind
theorem neg_is (hy : Is y q) : Is (Float64.neg y) (-q) := by
  obtain ⟨⟨b, k, f, dy⟩, vy⟩ := hy
  refine ⟨⟨_, _, _, neg_decode dy⟩, ?_⟩
  rw [neg_val dy, Rat.intCast_neg, vy]; grind
theorem sub_is (hx : Is x r) (hy : Is y q) (h1 : r - q ≤ 1048576) (h2 : -1048576 ≤ r - q) : Near (Float64.sub x y) (r - q) := by
  have h := add_is hx (neg_is hy) (by grind) (by grind)
  unfold Float64.sub
  rw [show r - q = r + -q by grind]
  exact h
theorem sgn_bne (a b : Bool) (m k : Nat) : sgn (a != b) (m * k) = sgn a m * sgn b k := by
  unfold sgn
  cases a <;> cases b <;> simp [Int.neg_mul, Int.mul_neg]
theorem mul_is (hx : Is x r) (hy : Is y q) (h1 : r * q ≤ 1048576) (h2 : -1048576 ≤ r * q) : Near (Float64.mul x y) (r * q) := by
  obtain ⟨⟨a, m, e, dx⟩, vx⟩ := hx
  obtain ⟨⟨b, k, f, dy⟩, vy⟩ := hy
  refine right_is (mul_right dx dy) (Nat.two_pow_pos _) ?_ h1 h2
  have e1 : sgn (a != b) ((val x).natAbs * (val y).natAbs) = val x * val y := by
    rw [sgn_bne, val_natAbs dx, val_natAbs dy, ← val_eq dx, ← val_eq dy]
  rw [e1, Rat.intCast_mul, vx, vy, S_nat]; grind
theorem div_is (hx : Is x r) (hy : Is y q) (hq : q ≠ 0) (h1 : r / q ≤ 1048576) (h2 : -1048576 ≤ r / q) : Near (Float64.div x y) (r / q) := by
  obtain ⟨⟨a, m, e, dx⟩, vx⟩ := hx
  obtain ⟨⟨b, k, f, dy⟩, vy⟩ := hy
  have hS := S_ne
  have hv0 : val y ≠ 0 := by
    intro h0
    rw [h0] at vy
    have h3 : (0 : Rat) = q * S := by exact_mod_cast vy
    grind
  have hk : k ≠ 0 := by
    intro h0
    subst h0
    apply hv0
    rw [val_eq dy]; simp [sgn]
  have hpos : 0 < (val y).natAbs := by lia
  refine right_is (div_right dx dy hk) hpos ?_ h1 h2
  have e1 : sgn (a != b) ((val x).natAbs * 2 ^ 1074) * (val y).natAbs = val x * val y * ((2 ^ 1074 : Nat) : Int) * sgn b 1 * sgn b 1 * 1 := by
    have h1 : sgn (a != b) ((val x).natAbs * 2 ^ 1074) = val x * ((2 ^ 1074 : Nat) : Int) * sgn b 1 := by
      rw [sgn_mul, show (a != b) = (a != b) from rfl, show (val x).natAbs = (val x).natAbs * 1 by lia, sgn_bne, val_natAbs dx, ← val_eq dx]
      generalize ((2 ^ 1074 : Nat) : Int) = P
      ac_rfl
    have h2 : ((val y).natAbs : Int) = val y * sgn b 1 := by
      rw [val_natAbs dy, val_eq dy]
      unfold sgn
      cases b <;> simp
    rw [h1, h2]
    generalize ((2 ^ 1074 : Nat) : Int) = P
    rw [Int.mul_one]
    ac_rfl
  have e2 : sgn b 1 * sgn b 1 = 1 := by cases b <;> decide
  have e3 : sgn (a != b) ((val x).natAbs * 2 ^ 1074) * (val y).natAbs = val x * val y * ((2 ^ 1074 : Nat) : Int) := by
    rw [e1, Int.mul_one, Int.mul_assoc (val x * val y * _), e2, Int.mul_one]
  have e4 : ((sgn (a != b) ((val x).natAbs * 2 ^ 1074) : Int) : Rat) * (((val y).natAbs : Nat) : Rat) = (r * S) * (q * S) * S := by
    have h3 : ((sgn (a != b) ((val x).natAbs * 2 ^ 1074) * (val y).natAbs : Int) : Rat) = ((val x * val y * ((2 ^ 1074 : Nat) : Int) : Int) : Rat) := by rw [e3]
    rw [Rat.intCast_mul, Rat.intCast_mul, Rat.intCast_mul, Rat.intCast_natCast, Rat.intCast_natCast, vx, vy, S_nat] at h3
    exact h3
  have hA : ((((val y).natAbs : Nat) : Rat)) * (((val y).natAbs : Nat) : Rat) = (q * S) * (q * S) := by
    have h3 : (((val y).natAbs : Int) * ((val y).natAbs : Int)) = val y * val y := by
      have := Int.natAbs_mul_self (a := val y)
      exact_mod_cast this
    have h4 : ((((val y).natAbs : Int) * ((val y).natAbs : Int) : Int) : Rat) = ((val y * val y : Int) : Rat) := by rw [h3]
    rw [Rat.intCast_mul, Rat.intCast_mul, Rat.intCast_natCast, vy] at h4
    exact h4
  have hB : (((val y).natAbs : Nat) : Rat) ≠ 0 := by
    have : (0 : Rat) < (((val y).natAbs : Nat) : Rat) := by exact_mod_cast hpos
    intro h; rw [h] at this; exact absurd this (by decide)
  generalize (((val y).natAbs : Nat) : Rat) = D at *
  generalize ((sgn (a != b) ((val x).natAbs * 2 ^ 1074) : Int) : Rat) = W at *
  have e5 : W * D = (r / q * D * S) * D := by
    rw [e4]
    have : r / q * D * S * D = r / q * S * (D * D) := by grind
    rw [this, hA]
    grind
  grind
theorem cmp_lt (hx : Is x r) (hy : Is y q) : (Float64.cmp x y == some .lt) = decide (r < q) := by
  obtain ⟨⟨a, m, e, dx⟩, vx⟩ := hx
  obtain ⟨⟨b, k, f, dy⟩, vy⟩ := hy
  rw [cmp_right dx dy]
  have h1 : (val x < val y) ↔ r < q := by
    rw [← Rat.intCast_lt_intCast, vx, vy]
    exact ⟨fun h => Rat.lt_of_mul_lt_mul_right h (Rat.le_of_lt S_pos), fun h => Rat.mul_lt_mul_of_pos_right h S_pos⟩
  by_cases h : val x < val y
  · rw [Int.compare_eq_lt.mpr h, decide_eq_true (h1.mp h)]; rfl
  · rw [decide_eq_false (fun z => h (h1.mpr z))]
    cases hc : compare (val x) (val y)
    · exact absurd (Int.compare_eq_lt.mp hc) h
    · rfl
    · rfl
theorem cmp_eq (hx : Is x r) (hy : Is y q) : (Float64.cmp x y == some .eq) = decide (r = q) := by
  obtain ⟨⟨a, m, e, dx⟩, vx⟩ := hx
  obtain ⟨⟨b, k, f, dy⟩, vy⟩ := hy
  rw [cmp_right dx dy]
  have hS := S_ne
  have h1 : (val x = val y) ↔ r = q := by
    rw [← Rat.intCast_inj, vx, vy]
    exact ⟨fun h => by grind, fun h => by grind⟩
  by_cases h : val x = val y
  · rw [Int.compare_eq_eq.mpr h, decide_eq_true (h1.mp h)]; rfl
  · rw [decide_eq_false (fun z => h (h1.mpr z))]
    cases hc : compare (val x) (val y)
    · rfl
    · exact absurd (Int.compare_eq_eq.mp hc) h
    · rfl
theorem isZero_is (hx : Is x r) : Float64.isZero x = decide (r = 0) := by
  obtain ⟨⟨a, m, e, dx⟩, vx⟩ := hx
  have hS := S_ne
  have h1 : r = 0 ↔ m = 0 := by
    have h2 : r = 0 ↔ val x = 0 := by
      rw [← Rat.intCast_inj, vx]
      exact ⟨fun h => by rw [h]; simp, fun h => by have h3 : r * S = 0 := by exact_mod_cast h
                                                   grind⟩
    rw [h2, val_eq dx]
    have h3 : 0 < 2 ^ (e + 1074).toNat := Nat.two_pow_pos _
    unfold sgn
    constructor
    · intro h
      have : m * 2 ^ (e + 1074).toNat = 0 := by
        cases a
        · simp only [Bool.false_eq_true, if_false] at h; exact_mod_cast h
        · simp only [if_true] at h; lia
      rcases Nat.mul_eq_zero.mp this with h4 | h4
      · exact h4
      · lia
    · rintro rfl; cases a <;> simp
  unfold Float64.isZero
  rw [dx]
  cases m with
  | zero => simp [h1]
  | succ n => simp [h1]
theorem isFin_is (hx : Is x r) : Float64.isFinite x = true := by
  obtain ⟨⟨a, m, e, dx⟩, vx⟩ := hx
  unfold Float64.isFinite; rw [dx]
end
end Mine
end
section
open PySem PySem.W PySem.Calls PyProof.Rows
set_option maxRecDepth 100000
set_option maxHeartbeats 2000000
namespace Mine
/-- the lamp k -/
def lampI (ls : List Nat) (k : Nat) : Int := ((ls.getD k 0 : Nat) : Int)
/-- the sum of the lamps below j that stand at r -/
def sumR (ls : List Nat) (r : Nat) : Nat → Int
  | 0 => 0
  | j + 1 => sumR ls r j + if j % 6 = r then lampI ls j else 0
/-- the value of the lamps below j -/
def valB (ls : List Nat) (B : Nat) : Nat → Int
  | 0 => 0
  | j + 1 => valB ls B j + lampI ls j * (B : Int) ^ j
theorem sumR_succ (ls : List Nat) (r j : Nat) : sumR ls r (j + 1) = sumR ls r j + if j % 6 = r then lampI ls j else 0 := rfl
theorem sixS_go (ls : List Nat) (r : Nat) : ∀ j, j ≤ ls.length → ((sixI j r).filterMap (fun k => (castL ls)[k]?)).sum = sumR ls r j
  | 0, _ => rfl
  | j + 1, hj => by
    have ih := sixS_go ls r j (by lia)
    have hg : (castL ls)[j]? = some (lampI ls j) := by
      unfold castL lampI
      rw [List.getElem?_map, List.getElem?_eq_getElem (by lia : j < ls.length), List.getD_eq_getElem?_getD, List.getElem?_eq_getElem (by lia : j < ls.length)]
      rfl
    unfold sixI at ih ⊢
    rw [List.range_succ, List.filter_append, List.filterMap_append, List.sum_append, ih]
    rw [sumR_succ]
    by_cases h : j % 6 = r
    · rw [if_pos h, List.filter_cons_of_pos (by simpa using h), List.filter_nil, List.filterMap_cons_some (f := fun k => (castL ls)[k]?) hg]
      simp
    · rw [if_neg h, List.filter_cons_of_neg (by simpa using h)]
      simp
theorem sixS_eq (ls : List Nat) (r : Nat) : sixS ls r = sumR ls r ls.length := sixS_go ls r _ (Nat.le_refl _)
theorem sumR_bound (ls : List Nat) (h1000 : ∀ d ∈ ls, d < 1000) (r : Nat) : ∀ j, 0 ≤ sumR ls r j ∧ sumR ls r j ≤ 1000 * (j : Int)
  | 0 => by simp [sumR]
  | j + 1 => by
    have ih := sumR_bound ls h1000 r j
    have hl : 0 ≤ lampI ls j ∧ lampI ls j < 1000 := by
      unfold lampI
      rw [List.getD_eq_getElem?_getD]
      cases e : ls[j]? with
      | none => simp
      | some d => have := h1000 d (List.mem_of_getElem? e); simp; lia
    rw [sumR_succ]
    split <;> push_cast <;> lia
/-- the sum of s r times B to the r -/
def packS (ls : List Nat) (B : Int) (j : Nat) : Int := sumR ls 0 j + sumR ls 1 j * B + sumR ls 2 j * B ^ 2 + sumR ls 3 j * B ^ 3 + sumR ls 4 j * B ^ 4 + sumR ls 5 j * B ^ 5
theorem pow6 (B : Int) : ∀ a : Nat, ∃ t, B ^ (6 * a) = 1 + (B ^ 6 - 1) * t
  | 0 => ⟨0, by simp⟩
  | a + 1 => by
    obtain ⟨t, e⟩ := pow6 B a
    refine ⟨1 + B ^ 6 * t, ?_⟩
    rw [show 6 * (a + 1) = 6 * a + 6 by lia, Int.pow_add, e]
    grind
theorem val_pack (ls : List Nat) (B : Nat) : ∀ j, ∃ q, valB ls B j = packS ls B j + ((B : Int) ^ 6 - 1) * q
  | 0 => ⟨0, by simp [valB, packS, sumR]⟩
  | j + 1 => by
    obtain ⟨q, e⟩ := val_pack ls B j
    obtain ⟨t, et⟩ := pow6 (B : Int) (j / 6)
    refine ⟨q + lampI ls j * (B : Int) ^ (j % 6) * t, ?_⟩
    have ej : (B : Int) ^ j = (B : Int) ^ (6 * (j / 6)) * (B : Int) ^ (j % 6) := by rw [← Int.pow_add, Nat.div_add_mod]
    unfold valB
    rw [e, ej, et]
    unfold packS
    simp only [sumR_succ]
    have hm : j % 6 = 0 ∨ j % 6 = 1 ∨ j % 6 = 2 ∨ j % 6 = 3 ∨ j % 6 = 4 ∨ j % 6 = 5 := by lia
    generalize lampI ls j = c
    generalize sumR ls 0 j = s0
    generalize sumR ls 1 j = s1
    generalize sumR ls 2 j = s2
    generalize sumR ls 3 j = s3
    generalize sumR ls 4 j = s4
    generalize sumR ls 5 j = s5
    clear e et ej
    rcases hm with hm | hm | hm | hm | hm | hm <;> rw [hm] <;> simp <;> grind only
end Mine
end
section
open PySem PySem.W PySem.Calls PyProof.Rows
set_option maxRecDepth 100000
set_option maxHeartbeats 2000000
namespace Mine
/-- red less green, and green less blue, of the mix at the leap k -/
def xsF (ls : List Nat) (k : Nat) : Int :=
  let s := fun r => sumR ls r ls.length
  if k = 0 then s 0 + s 1 + s 2 + s 3 + s 4 + s 5 else if k = 1 then s 0 - s 2 - s 3 + s 5 else if k = 2 then (s 0 + s 3) - (s 1 + s 4) else s 0 - s 1 + s 2 - s 3 + s 4 - s 5
def ysF (ls : List Nat) (k : Nat) : Int :=
  let s := fun r => sumR ls r ls.length
  if k = 0 then 0 else if k = 1 then s 1 + s 2 - s 4 - s 5 else if k = 2 then (s 1 + s 4) - (s 2 + s 5) else 0
theorem valB_fig (B : Nat) (hB : 0 < B) : ∀ k x, x < B ^ k → valB (figF k B x) B (figF k B x).length = (x : Int) := by
  have shift : ∀ (d : Nat) (l : List Nat) (j : Nat), valB (d :: l) B (j + 1) = (d : Int) + (B : Int) * valB l B j := by
    intro d l j
    induction j with
    | zero => simp [valB, lampI]
    | succ j ih =>
      rw [show valB (d :: l) B (j + 1 + 1) = valB (d :: l) B (j + 1) + lampI (d :: l) (j + 1) * (B : Int) ^ (j + 1) from rfl, ih]
      rw [show valB l B (j + 1) = valB l B j + lampI l j * (B : Int) ^ j from rfl]
      rw [show lampI (d :: l) (j + 1) = lampI l j by simp [lampI], Int.pow_succ]
      grind only
  intro k
  induction k with
  | zero =>
    intro x hx
    have : x = 0 := by simpa using hx
    subst this
    rfl
  | succ k ih =>
    intro x hx
    unfold figF
    by_cases h0 : x = 0
    · rw [if_pos h0, h0]; rfl
    · rw [if_neg h0]
      have h1 : x / B < B ^ k := by
        rw [Nat.pow_succ] at hx
        exact (Nat.div_lt_iff_lt_mul hB).mpr hx
      rw [List.length_cons, shift, ih _ h1]
      have := Nat.mod_add_div x B
      lia
theorem fmod_of_dvd {a b d : Int} (hd : 0 < d) (h : ∃ q, a - b = d * q) : a.fmod d = b.fmod d := by
  obtain ⟨q, e⟩ := h
  rw [Int.fmod_eq_emod_of_nonneg _ (by lia), Int.fmod_eq_emod_of_nonneg _ (by lia), show a = b + d * q by lia, Int.add_mul_emod_self_left]
theorem told_dvd (s0 s1 s2 s3 s4 s5 B q M v t : Int) (hM : M = (s0 + s1 * B + s2 * B ^ 2 + s3 * B ^ 3 + s4 * B ^ 4 + s5 * B ^ 5) + (B ^ 6 - 1) * q) :
    (∃ z, (v + t * ((s0 + s1 + s2 + s3 + s4 + s5) + 0 * 0)) - (v + t * M) = (B - 1) * z) ∧
    (∃ z, (v + t * ((s0 - s2 - s3 + s5) + (s1 + s2 - s4 - s5) * B)) - (v + t * M) = (B ^ 2 - B + 1) * z) ∧
    (∃ z, (v + t * (((s0 + s3) - (s1 + s4)) + ((s1 + s4) - (s2 + s5)) * (B + 1))) - (v + t * M) = (B ^ 2 + B + 1) * z) ∧
    (∃ z, (v + t * ((s0 - s1 + s2 - s3 + s4 - s5) + 0 * 0)) - (v + t * M) = (B + 1) * z) := by
  subst hM
  refine ⟨⟨-t * (s1 + s2 * (B + 1) + s3 * (B ^ 2 + B + 1) + s4 * (B ^ 3 + B ^ 2 + B + 1) + s5 * (B ^ 4 + B ^ 3 + B ^ 2 + B + 1) + (B ^ 5 + B ^ 4 + B ^ 3 + B ^ 2 + B + 1) * q), by grind only⟩,
    ⟨-t * (s2 + s3 * (B + 1) + s4 * (B ^ 2 + B) + s5 * (B ^ 3 + B ^ 2 - 1) + (B ^ 4 + B ^ 3 - B - 1) * q), by grind only⟩,
    ⟨-t * (s2 + s3 * (B - 1) + s4 * (B ^ 2 - B) + s5 * (B ^ 3 - B ^ 2 + 1) + (B ^ 4 - B ^ 3 + B - 1) * q), by grind only⟩,
    ⟨-t * (s1 + s2 * (B - 1) + s3 * (B ^ 2 - B + 1) + s4 * (B ^ 3 - B ^ 2 + B - 1) + s5 * (B ^ 4 - B ^ 3 + B ^ 2 - B + 1) + (B ^ 5 - B ^ 4 + B ^ 3 - B ^ 2 + B - 1) * q), by grind only⟩⟩
theorem six_ok (s0 s1 s2 s3 s4 s5 : Int) : ∀ i, i < 6 →
    accS ((s0 + s1 + s2 + s3 + s4 + s5) + (-1) ^ i * (s0 - s1 + s2 - s3 + s4 - s5)) (fun l => (if l = 1 then (s0 - s2 - s3 + s5) else ((s0 + s3) - (s1 + s4))) * waveV (l * i % 6) + (if l = 1 then (s1 + s2 - s4 - s5) else ((s1 + s4) - (s2 + s5))) * waveV ((l * i + 5) % 6)) 2
      = 6 * (if i = 0 then s0 else if i = 1 then s1 else if i = 2 then s2 else if i = 3 then s3 else if i = 4 then s4 else s5) := by
  intro i hi
  have w0 : waveV 0 = 2 := rfl
  have w1 : waveV 1 = 1 := rfl
  have w2 : waveV 2 = -1 := rfl
  have w3 : waveV 3 = -2 := rfl
  have w4 : waveV 4 = -1 := rfl
  have w5 : waveV 5 = 1 := rfl
  rcases (by lia : i = 0 ∨ i = 1 ∨ i = 2 ∨ i = 3 ∨ i = 4 ∨ i = 5) with rfl | rfl | rfl | rfl | rfl | rfl <;> simp [accS, w0, w1, w2, w3, w4, w5] <;> lia
end Mine
end
section
open PySem PySem.Float64
set_option maxRecDepth 100000
set_option maxHeartbeats 8000000
set_option exponentiation.threshold 5000
namespace Mine
/-- finite, and its value as given -/
def finB (x : UInt64) (v : Int) : Bool := (match decode x with | .fin _ _ _ => true | _ => false) && val x == v
theorem is_of {x : UInt64} {v : Int} {r : Rat} (h : finB x v = true) (e : ((v : Int) : Rat) = r * S) : Is x r := by
  unfold finB at h
  rw [Bool.and_eq_true] at h
  refine ⟨?_, ?_⟩
  · have h1 := h.1
    split at h1
    · exact ⟨_, _, _, by assumption⟩
    · cases h1
  · rw [beq_iff_eq.mp h.2]; exact e
theorem frac_all : ∀ n : Nat, n < 1000 → finB (Float64.ofFrac false n 1024) ((n * 2 ^ 1064 : Nat) : Int) = true := by decide +kernel
theorem int_all : ∀ n : Nat, n < 64 → finB (Float64.ofInt (n : Int)) ((n * 2 ^ 1074 : Nat) : Int) = true := by decide +kernel
theorem is_frac {n : Nat} (h : n < 1000) : Is (Float64.ofFrac false n 1024) ((n : Rat) / 1024) := by
  refine is_of (frac_all n h) ?_
  rw [Rat.intCast_natCast, Rat.natCast_mul]
  have := ten_S
  grind
theorem is_int {n : Nat} (h : n < 64) : Is (Float64.ofInt (n : Int)) (n : Rat) := by
  refine is_of (int_all n h) ?_
  rw [Rat.intCast_natCast, Rat.natCast_mul]
  rfl
theorem is_1 : Is fl1 1 := is_of (v := ((2 ^ 1074 : Nat) : Int)) (by decide +kernel) (by rw [Rat.intCast_natCast]; show S = 1 * S; grind)
theorem is_2 : Is fl2 2 := is_of (v := ((2 * 2 ^ 1074 : Nat) : Int)) (by decide +kernel) (by rw [Rat.intCast_natCast, Rat.natCast_mul]; rfl)
theorem is_4 : Is fl4 4 := is_of (v := ((4 * 2 ^ 1074 : Nat) : Int)) (by decide +kernel) (by rw [Rat.intCast_natCast, Rat.natCast_mul]; rfl)
theorem is_6 : Is fl6 6 := is_of (v := ((6 * 2 ^ 1074 : Nat) : Int)) (by decide +kernel) (by rw [Rat.intCast_natCast, Rat.natCast_mul]; rfl)
theorem is_0 : Is fl0 0 := is_of (v := 0) (by decide +kernel) (by simp)
theorem is_1024 : Is (Float64.ofInt 1024) 1024 := is_of (v := ((1024 * 2 ^ 1074 : Nat) : Int)) (by decide +kernel) (by rw [Rat.intCast_natCast, Rat.natCast_mul]; rfl)
theorem dy_int (n : Int) (h : n.natAbs ≤ 2 ^ 30) : Dy (n : Rat) := ⟨n * 1024, by rw [Rat.intCast_mul]; rfl, by rw [Int.natAbs_mul]; exact Nat.le_trans (Nat.mul_le_mul_right _ h) (by decide)⟩
theorem dy_frac (n : Int) (h : n.natAbs ≤ 2 ^ 40) : Dy ((n : Rat) / 1024) := ⟨n, by grind, h⟩
theorem add_x {x y : UInt64} {r q : Rat} (hx : Is x r) (hy : Is y q) (d : Dy (r + q)) (h1 : r + q ≤ 1048576) (h2 : -1048576 ≤ r + q) : Is (Float64.add x y) (r + q) := by
  obtain ⟨z, hz, _, _, he⟩ := add_is hx hy h1 h2
  rw [← he d]; exact hz
theorem sub_x {x y : UInt64} {r q : Rat} (hx : Is x r) (hy : Is y q) (d : Dy (r - q)) (h1 : r - q ≤ 1048576) (h2 : -1048576 ≤ r - q) : Is (Float64.sub x y) (r - q) := by
  obtain ⟨z, hz, _, _, he⟩ := sub_is hx hy h1 h2
  rw [← he d]; exact hz
theorem mul_x {x y : UInt64} {r q : Rat} (hx : Is x r) (hy : Is y q) (d : Dy (r * q)) (h1 : r * q ≤ 1048576) (h2 : -1048576 ≤ r * q) : Is (Float64.mul x y) (r * q) := by
  obtain ⟨z, hz, _, _, he⟩ := mul_is hx hy h1 h2
  rw [← he d]; exact hz
theorem dy0 : Dy 0 := dy_int 0 (by decide)
theorem dy1 : Dy 1 := dy_int 1 (by decide)
theorem is_sub11 : Is (Float64.sub fl1 fl1) 0 := by
  have := sub_x is_1 is_1 (by rw [show (1 : Rat) - 1 = 0 by grind]; exact dy0) (by grind) (by grind)
  rwa [show (1 : Rat) - 1 = 0 by grind] at this
/-- the three colours at a whole hue -/
theorem paint_is {leap k lamp : Nat} (hn : leap * k < 64) (hl : lamp < 1000) :
    Is (paint leap k lamp).1 (if leap * k % 6 = 0 ∨ leap * k % 6 = 1 ∨ leap * k % 6 = 5 then (lamp : Rat) / 1024 else 0) ∧
    Is (paint leap k lamp).2.1 (if leap * k % 6 = 1 ∨ leap * k % 6 = 2 ∨ leap * k % 6 = 3 then (lamp : Rat) / 1024 else 0) ∧
    Is (paint leap k lamp).2.2 (if leap * k % 6 = 3 ∨ leap * k % 6 = 4 ∨ leap * k % 6 = 5 then (lamp : Rat) / 1024 else 0) := by
  unfold paint
  generalize leap * k = n at *
  have hv := is_frac hl
  have hdv : Dy ((lamp : Rat) / 1024) := dy_frac (lamp : Int) (by lia)
  have hv2 : (lamp : Rat) / 1024 ≤ 1 ∧ 0 ≤ (lamp : Rat) / 1024 := by
    have h1 : (lamp : Rat) ≤ 1000 := by exact_mod_cast (Nat.le_of_lt hl)
    have h2 : (0 : Rat) ≤ (lamp : Rat) := by exact_mod_cast Nat.zero_le _
    grind
  generalize (lamp : Rat) / 1024 = v at *
  generalize Float64.ofFrac false lamp 1024 = V at *
  have hf : Is (Float64.sub (Float64.mul (Float64.ofFrac false n 6) fl6) (Float64.ofInt (n : Int))) 0 := by
    rw [mul6 n hn]
    have := sub_x (is_int hn) (is_int hn) (by rw [show (n : Rat) - n = 0 by grind]; exact dy0) (by grind) (by grind)
    rwa [show (n : Rat) - n = 0 by grind] at this
  have h1f : Is (Float64.sub fl1 (Float64.sub (Float64.mul (Float64.ofFrac false n 6) fl6) (Float64.ofInt (n : Int)))) 1 := by
    have := sub_x is_1 hf (by rw [show (1 : Rat) - 0 = 1 by grind]; exact dy1) (by grind) (by grind)
    rwa [show (1 : Rat) - 0 = 1 by grind] at this
  have hp : Is (Float64.mul V (Float64.sub fl1 fl1)) 0 := by
    have := mul_x hv is_sub11 (by rw [show v * 0 = 0 by grind]; exact dy0) (by grind) (by grind)
    rwa [show v * 0 = 0 by grind] at this
  have hq : Is (Float64.mul V (Float64.sub fl1 (Float64.mul fl1 (Float64.sub (Float64.mul (Float64.ofFrac false n 6) fl6) (Float64.ofInt (n : Int)))))) v := by
    have a1 := mul_x is_1 hf (by rw [show (1 : Rat) * 0 = 0 by grind]; exact dy0) (by grind) (by grind)
    rw [show (1 : Rat) * 0 = 0 by grind] at a1
    have a2 := sub_x is_1 a1 (by rw [show (1 : Rat) - 0 = 1 by grind]; exact dy1) (by grind) (by grind)
    rw [show (1 : Rat) - 0 = 1 by grind] at a2
    have a3 := mul_x hv a2 (by rw [show v * 1 = v by grind]; exact hdv) (by grind) (by grind)
    rwa [show v * 1 = v by grind] at a3
  have ht : Is (Float64.mul V (Float64.sub fl1 (Float64.mul fl1 (Float64.sub fl1 (Float64.sub (Float64.mul (Float64.ofFrac false n 6) fl6) (Float64.ofInt (n : Int))))))) 0 := by
    have a1 := mul_x is_1 h1f (by rw [show (1 : Rat) * 1 = 1 by grind]; exact dy1) (by grind) (by grind)
    rw [show (1 : Rat) * 1 = 1 by grind] at a1
    have a2 := sub_x is_1 a1 (by rw [show (1 : Rat) - 1 = 0 by grind]; exact dy0) (by grind) (by grind)
    rw [show (1 : Rat) - 1 = 0 by grind] at a2
    have a3 := mul_x hv a2 (by rw [show v * 0 = 0 by grind]; exact dy0) (by grind) (by grind)
    rwa [show v * 0 = 0 by grind] at a3
  have hm : ((n : Int)).fmod 6 = ((n % 6 : Nat) : Int) := by
    rw [Int.fmod_eq_emod_of_nonneg _ (by decide)]; lia
  rcases (by lia : n % 6 = 0 ∨ n % 6 = 1 ∨ n % 6 = 2 ∨ n % 6 = 3 ∨ n % 6 = 4 ∨ n % 6 = 5) with h6 | h6 | h6 | h6 | h6 | h6
  · rw [hsvE0 (by rw [hm, h6]; rfl), h6]; simpa using ⟨hv, ht, hp⟩
  · rw [hsvE1 (by rw [hm, h6]; rfl), h6]; simpa using ⟨hq, hv, hp⟩
  · rw [hsvE2 (by rw [hm, h6]; rfl), h6]; simpa using ⟨hp, hv, ht⟩
  · rw [hsvE3 (by rw [hm, h6]; rfl), h6]; simpa using ⟨hp, hq, hv⟩
  · rw [hsvE4 (by rw [hm, h6]; rfl), h6]; simpa using ⟨ht, hp, hv⟩
  · rw [hsvE5 (by rw [hm, h6]; rfl), h6]; simpa using ⟨hv, hp, hq⟩
end Mine
end
section
open PySem PySem.Float64
set_option maxRecDepth 100000
set_option maxHeartbeats 8000000
set_option exponentiation.threshold 5000
namespace Mine
/-- the sum of the lamps whose hue shows the colour c (0 red, 1 green, 2 blue) -/
def shows (c h : Nat) : Bool := if c = 0 then h == 0 || h == 1 || h == 5 else if c = 1 then h == 1 || h == 2 || h == 3 else h == 3 || h == 4 || h == 5
def colS (c leap : Nat) (ls : List Nat) : Nat → Int
  | 0 => 0
  | j + 1 => colS c leap ls j + if shows c (leap * j % 6) = true then lampI ls j else 0
theorem colS_succ (c leap : Nat) (ls : List Nat) (j : Nat) : colS c leap ls (j + 1) = colS c leap ls j + if shows c (leap * j % 6) = true then lampI ls j else 0 := rfl
theorem lamp_bound {ls : List Nat} (h1000 : ∀ d ∈ ls, d < 1000) (j : Nat) : 0 ≤ lampI ls j ∧ lampI ls j < 1000 := by
  unfold lampI
  rw [List.getD_eq_getElem?_getD]
  cases e : ls[j]? with
  | none => simp
  | some d => have := h1000 d (List.mem_of_getElem? e); simp; lia
theorem colS_bound {ls : List Nat} (h1000 : ∀ d ∈ ls, d < 1000) (c leap : Nat) : ∀ j, 0 ≤ colS c leap ls j ∧ colS c leap ls j ≤ 1000 * (j : Int)
  | 0 => by simp [colS]
  | j + 1 => by
    have ih := colS_bound h1000 c leap j
    have hl := lamp_bound h1000 j
    rw [colS_succ]
    split <;> push_cast <;> lia
theorem add_step {x y : UInt64} {a b : Int} (ha : 0 ≤ a ∧ a ≤ 1000000) (hb : 0 ≤ b ∧ b ≤ 1000000) (hx : Is x ((a : Rat) / 1024)) (hy : Is y ((b : Rat) / 1024)) : Is (Float64.add x y) (((a + b : Int) : Rat) / 1024) := by
  have e : (a : Rat) / 1024 + (b : Rat) / 1024 = ((a + b : Int) : Rat) / 1024 := by rw [Rat.intCast_add]; grind
  have h1 : ((a + b : Int) : Rat) ≤ ((2000000 : Int) : Rat) := Rat.intCast_le_intCast.mpr (by lia)
  rw [show ((2000000 : Int) : Rat) = 2000000 from rfl] at h1
  have h2 : ((0 : Int) : Rat) ≤ ((a + b : Int) : Rat) := Rat.intCast_le_intCast.mpr (by lia)
  rw [show ((0 : Int) : Rat) = 0 from rfl] at h2
  have := add_x hx hy (by rw [e]; exact dy_frac _ (by lia)) (by rw [e]; grind) (by rw [e]; grind)
  rwa [e] at this
theorem mix_is {leap : Nat} {ls : List Nat} (hleap : leap ≤ 3) (hlen : ls.length ≤ 20) (h1000 : ∀ d ∈ ls, d < 1000) : ∀ j, j ≤ ls.length →
    Is (mixF leap ls j).1 ((colS 0 leap ls j : Rat) / 1024) ∧ Is (mixF leap ls j).2.1 ((colS 1 leap ls j : Rat) / 1024) ∧ Is (mixF leap ls j).2.2 ((colS 2 leap ls j : Rat) / 1024)
  | 0, _ => by
    have : Is (0 : UInt64) (((0 : Int) : Rat) / 1024) := by
      rw [show ((0 : Int) : Rat) / 1024 = 0 by grind]
      exact is_0
    exact ⟨this, this, this⟩
  | j + 1, hj => by
    obtain ⟨i0, i1, i2⟩ := mix_is hleap hlen h1000 j (by lia)
    have hb := lamp_bound h1000 j
    have hlj : (leap * j) < 64 := by
      have : leap * j ≤ 3 * 19 := Nat.mul_le_mul hleap (by lia)
      lia
    have hlN : ls.getD j 0 < 1000 := by unfold lampI at hb; lia
    obtain ⟨p0, p1, p2⟩ := paint_is (leap := leap) (k := j) hlj hlN
    have c0 := colS_bound h1000 0 leap j
    have c1 := colS_bound h1000 1 leap j
    have c2 := colS_bound h1000 2 leap j
    have cv : ∀ (P : Prop) [Decidable P], (if P then ((ls.getD j 0 : Nat) : Rat) / 1024 else 0) = ((if P then lampI ls j else 0 : Int) : Rat) / 1024 := by
      intro P _
      unfold lampI
      split
      · rw [Rat.intCast_natCast]
      · grind
    have bd : ∀ (P : Prop) [Decidable P], 0 ≤ (if P then lampI ls j else 0) ∧ (if P then lampI ls j else 0) ≤ 1000000 := by
      intro P _
      split <;> lia
    rw [cv] at p0 p1 p2
    have q0 := add_step (by lia) (bd _) i0 p0
    have q1 := add_step (by lia) (bd _) i1 p1
    have q2 := add_step (by lia) (bd _) i2 p2
    refine ⟨?_, ?_, ?_⟩
    · have e : colS 0 leap ls (j + 1) = colS 0 leap ls j + if leap * j % 6 = 0 ∨ leap * j % 6 = 1 ∨ leap * j % 6 = 5 then lampI ls j else 0 := by rw [colS_succ]; simp [shows, or_assoc]
      rw [e]; exact q0
    · have e : colS 1 leap ls (j + 1) = colS 1 leap ls j + if leap * j % 6 = 1 ∨ leap * j % 6 = 2 ∨ leap * j % 6 = 3 then lampI ls j else 0 := by rw [colS_succ]; simp [shows, or_assoc]
      rw [e]; exact q1
    · have e : colS 2 leap ls (j + 1) = colS 2 leap ls j + if leap * j % 6 = 3 ∨ leap * j % 6 = 4 ∨ leap * j % 6 = 5 then lampI ls j else 0 := by rw [colS_succ]; simp [shows, or_assoc]
      rw [e]; exact q2
/-- the sum of v r * g r for r below n -/
def dotF (v g : Nat → Int) : Nat → Int
  | 0 => 0
  | n + 1 => dotF v g n + v n * g n
theorem dot_step (v g : Nat → Int) (m : Nat) (x : Int) : ∀ n, dotF v (fun r => g r + if m = r then x else 0) n = dotF v g n + if m < n then v m * x else 0
  | 0 => by simp [dotF]
  | n + 1 => by
    show dotF v (fun r => g r + if m = r then x else 0) n + v n * (g n + if m = n then x else 0) = dotF v g n + v n * g n + _
    rw [dot_step v g m x n, Int.mul_add]
    by_cases e : m = n
    · rw [if_pos e, if_neg (by lia), if_pos (by lia), e, Int.add_zero, Int.add_assoc]
    · rw [if_neg e, Int.mul_zero, Int.add_zero]
      by_cases l : m < n
      · rw [if_pos l, if_pos (by lia), Int.add_right_comm]
      · rw [if_neg l, if_neg (by lia), Int.add_zero, Int.add_zero]
/-- one where the colour c shows at the leap k -/
def sees (c k r : Nat) : Int := if shows c (k * r % 6) = true then 1 else 0
theorem cols_dot (c k : Nat) (ls : List Nat) : ∀ j, colS c k ls j = dotF (sees c k) (fun r => sumR ls r j) 6
  | 0 => by simp [colS, dotF, sumR]
  | j + 1 => by
    rw [show (fun r => sumR ls r (j + 1)) = fun r => sumR ls r j + if j % 6 = r then lampI ls j else 0 from rfl, dot_step, if_pos (Nat.mod_lt _ (by decide)), ← cols_dot c k ls j, colS_succ]
    unfold sees
    rw [show k * (j % 6) % 6 = k * j % 6 by rw [Nat.mul_mod, Nat.mod_mod, ← Nat.mul_mod]]
    by_cases h : shows c (k * j % 6) = true
    · rw [if_pos h, if_pos h, Int.one_mul]
    · rw [if_neg h, if_neg h, Int.zero_mul]
theorem cols_all (ls : List Nat) {k : Nat} (hk : k ≤ 3) : colS 0 k ls ls.length - colS 1 k ls ls.length = xsF ls k ∧ colS 1 k ls ls.length - colS 2 k ls ls.length = ysF ls k := by
  simp only [cols_dot]
  unfold xsF ysF
  generalize (fun r => sumR ls r ls.length) = s
  rcases (by lia : k = 0 ∨ k = 1 ∨ k = 2 ∨ k = 3) with rfl | rfl | rfl | rfl
  · show (0 + 1 * s 0 + 1 * s 1 + 1 * s 2 + 1 * s 3 + 1 * s 4 + 1 * s 5) - (0 + 0 * s 0 + 0 * s 1 + 0 * s 2 + 0 * s 3 + 0 * s 4 + 0 * s 5) = s 0 + s 1 + s 2 + s 3 + s 4 + s 5 ∧ (0 + 0 * s 0 + 0 * s 1 + 0 * s 2 + 0 * s 3 + 0 * s 4 + 0 * s 5) - (0 + 0 * s 0 + 0 * s 1 + 0 * s 2 + 0 * s 3 + 0 * s 4 + 0 * s 5) = 0
    lia
  · show (0 + 1 * s 0 + 1 * s 1 + 0 * s 2 + 0 * s 3 + 0 * s 4 + 1 * s 5) - (0 + 0 * s 0 + 1 * s 1 + 1 * s 2 + 1 * s 3 + 0 * s 4 + 0 * s 5) = s 0 - s 2 - s 3 + s 5 ∧ (0 + 0 * s 0 + 1 * s 1 + 1 * s 2 + 1 * s 3 + 0 * s 4 + 0 * s 5) - (0 + 0 * s 0 + 0 * s 1 + 0 * s 2 + 1 * s 3 + 1 * s 4 + 1 * s 5) = s 1 + s 2 - s 4 - s 5
    lia
  · show (0 + 1 * s 0 + 0 * s 1 + 0 * s 2 + 1 * s 3 + 0 * s 4 + 0 * s 5) - (0 + 0 * s 0 + 1 * s 1 + 0 * s 2 + 0 * s 3 + 1 * s 4 + 0 * s 5) = (s 0 + s 3) - (s 1 + s 4) ∧ (0 + 0 * s 0 + 1 * s 1 + 0 * s 2 + 0 * s 3 + 1 * s 4 + 0 * s 5) - (0 + 0 * s 0 + 0 * s 1 + 1 * s 2 + 0 * s 3 + 0 * s 4 + 1 * s 5) = (s 1 + s 4) - (s 2 + s 5)
    lia
  · show (0 + 1 * s 0 + 0 * s 1 + 1 * s 2 + 0 * s 3 + 1 * s 4 + 0 * s 5) - (0 + 0 * s 0 + 1 * s 1 + 0 * s 2 + 1 * s 3 + 0 * s 4 + 1 * s 5) = s 0 - s 1 + s 2 - s 3 + s 4 - s 5 ∧ (0 + 0 * s 0 + 1 * s 1 + 0 * s 2 + 1 * s 3 + 0 * s 4 + 1 * s 5) - (0 + 0 * s 0 + 1 * s 1 + 0 * s 2 + 1 * s 3 + 0 * s 4 + 1 * s 5) = 0
    lia
end Mine
end
section
open PySem PySem.Float64
set_option maxRecDepth 100000
set_option maxHeartbeats 8000000
set_option exponentiation.threshold 5000
namespace Mine
theorem natCastR_lt {a b : Nat} : ((a : Rat) < (b : Rat)) ↔ a < b := by
  rw [← Rat.intCast_natCast, ← Rat.intCast_natCast, Rat.intCast_lt_intCast]; omega
theorem natCastR_le {a b : Nat} : ((a : Rat) ≤ (b : Rat)) ↔ a ≤ b := by
  rw [← Rat.intCast_natCast, ← Rat.intCast_natCast, Rat.intCast_le_intCast]; omega
/-- the size of a float as a fraction -/
theorem is_frac_of {x : UInt64} {r : Rat} {a : Bool} {m : Nat} {e : Int} (h : Is x r) (hd : decode x = .fin a m e) :
    0 < (shift m 1 e).2 ∧ (((shift m 1 e).1 : Nat) : Rat) = (if a = true then -r else r) * ((shift m 1 e).2 : Nat) := by
  have hp := shift_pos m 1 e (by decide)
  refine ⟨hp, ?_⟩
  have he := decode_ge hd
  have h1 := shift_one m e 1074 (by omega)
  have hv := h.2
  rw [val_eq hd] at hv
  have h2 : ((((shift m 1 e).1 : Nat) : Rat)) * S = ((m * 2 ^ (e + 1074).toNat : Nat) : Rat) * ((shift m 1 e).2 : Nat) := by
    rw [← S_nat, ← Rat.natCast_mul, ← Rat.natCast_mul]
    exact congrArg (Nat.cast : Nat → Rat) h1
  have h3 : ((m * 2 ^ (e + 1074).toNat : Nat) : Rat) = (if a = true then -r else r) * S := by
    generalize m * 2 ^ (e + 1074).toNat = W at hv
    unfold sgn at hv
    cases a
    · simp only [Bool.false_eq_true, if_false] at hv ⊢
      rw [← hv, Rat.intCast_natCast]
    · simp only [if_true] at hv ⊢
      rw [negN] at hv
      grind
  rw [h3] at h2
  have := S_ne
  grind
theorem floor_shift (m : Nat) (e : Int) : floorOf false m e = (((shift m 1 e).1 / (shift m 1 e).2 : Nat) : Int) := by
  unfold floorOf shift
  by_cases h : e ≥ 0
  · rw [if_pos h, if_pos h]
    simp [sgn]
  · rw [if_neg h, if_neg h]
    simp only [sgn, Bool.false_eq_true, if_false, Nat.one_mul]
    rw [Int.fdiv_eq_ediv_of_nonneg _ (by exact_mod_cast Nat.zero_le _)]
    push_cast
    rfl
/-- cutting a number that is not below nought -/
theorem trunc_is {x : UInt64} {r : Rat} (h : Is x r) (h0 : 0 ≤ r) : ∃ sg m e t, decode x = .fin sg m e ∧ truncOf sg m e = ((t : Nat) : Int) ∧ (t : Rat) ≤ r ∧ r < (t : Rat) + 1 := by
  obtain ⟨⟨a, m, e, hd⟩, _⟩ := id h
  obtain ⟨hp, hn⟩ := is_frac_of h hd
  have hf := floor_shift m e
  generalize (shift m 1 e).1 = n at *
  generalize (shift m 1 e).2 = d at *
  have hdR : (0 : Rat) < (d : Rat) := by
    have := natCastR_lt.mpr hp
    rwa [show ((0 : Nat) : Rat) = 0 from rfl] at this
  have key : ∀ q : Rat, (n : Rat) = q * d → ((n / d : Nat) : Rat) ≤ q ∧ q < ((n / d : Nat) : Rat) + 1 := by
    intro q hq
    have h1 := Nat.div_add_mod n d
    have h2 := Nat.mod_lt n hp
    have h3 : ((d * (n / d) + n % d : Nat) : Rat) = (n : Rat) := congrArg (Nat.cast : Nat → Rat) h1
    rw [Rat.natCast_add, Rat.natCast_mul] at h3
    have h4 : ((n % d : Nat) : Rat) < (d : Rat) := natCastR_lt.mpr h2
    have h5 : (0 : Rat) ≤ ((n % d : Nat) : Rat) := by
      have := natCastR_le.mpr (Nat.zero_le (n % d))
      rwa [show ((0 : Nat) : Rat) = 0 from rfl] at this
    generalize ((n % d : Nat) : Rat) = z at *
    generalize ((n / d : Nat) : Rat) = t at *
    constructor
    · refine Rat.le_of_mul_le_mul_right (c := (d : Rat)) ?_ hdR
      grind
    · refine Rat.lt_of_mul_lt_mul_right (c := (d : Rat)) ?_ (Rat.le_of_lt hdR)
      grind
  cases a
  · simp only [Bool.false_eq_true, if_false] at hn
    exact ⟨_, _, _, n / d, hd, by unfold truncOf; rw [if_neg (by decide), hf], (key r hn).1, (key r hn).2⟩
  · simp only [if_true] at hn
    have hn0 : (0 : Rat) ≤ (n : Rat) := by
      have := natCastR_le.mpr (Nat.zero_le n)
      rwa [show ((0 : Nat) : Rat) = 0 from rfl] at this
    have hm := Rat.mul_nonneg h0 (Rat.le_of_lt hdR)
    have hr : r = 0 := by
      have h1 : r * d = 0 := by grind
      rcases Rat.mul_eq_zero.mp h1 with h2 | h2
      · exact h2
      · grind
    have hz : (n : Rat) = 0 := by rw [hn, hr]; grind
    have hz2 : n = 0 := by
      have : n ≤ 0 := natCastR_le.mp (by rw [hz]; exact Rat.le_refl)
      omega
    refine ⟨_, _, _, 0, hd, ?_, by rw [hr]; exact Rat.le_refl, by rw [hr]; decide +kernel⟩
    unfold truncOf ceilOf
    rw [if_pos rfl, show (!true) = false from rfl, hf, hz2]
    simp
/-- to the nearest whole number -/
theorem near_int {x : UInt64} {r : Rat} {z : Int} (h : Is x r) (h1 : r - z < 1 / 2) (h2 : (z : Rat) - r < 1 / 2) : PySem.Flt.toInt nearestOf x = z := by
  obtain ⟨⟨a, m, e, hd⟩, _⟩ := id h
  obtain ⟨hp, hn⟩ := is_frac_of h hd
  unfold PySem.Flt.toInt
  rw [hd]
  show nearestOf a m e = z
  unfold nearestOf
  show sgn a (halfEven (shift m 1 e).1 (shift m 1 e).2) = z
  have hh := halfEven_nearest (shift m 1 e).1 (shift m 1 e).2 hp
  generalize (shift m 1 e).1 = n at *
  generalize (shift m 1 e).2 = d at *
  have hdR : (0 : Rat) < (d : Rat) := by
    have := natCastR_lt.mpr hp
    rwa [show ((0 : Nat) : Rat) = 0 from rfl] at this
  have hn0 : (0 : Rat) ≤ (n : Rat) := by
    have := natCastR_le.mpr (Nat.zero_le n)
    rwa [show ((0 : Nat) : Rat) = 0 from rfl] at this
  have key : ∀ (q : Rat) (j : Nat), (n : Rat) = q * d → q - j < 1 / 2 → (j : Rat) - q < 1 / 2 → halfEven n d = j := by
    intro q j hq g1 g2
    have e1 : (2 * n : Nat) < (2 * (d * j) + d : Nat) := by
      refine natCastR_lt.mp ?_
      rw [Rat.natCast_add, Rat.natCast_mul, Rat.natCast_mul, Rat.natCast_mul, hq]
      have := Rat.mul_lt_mul_of_pos_right g1 hdR
      rw [show ((2 : Nat) : Rat) = 2 from rfl]
      grind
    have e2 : (2 * (d * j) : Nat) < (2 * n + d : Nat) := by
      refine natCastR_lt.mp ?_
      rw [Rat.natCast_add, Rat.natCast_mul, Rat.natCast_mul, Rat.natCast_mul, hq]
      have := Rat.mul_lt_mul_of_pos_right g2 hdR
      rw [show ((2 : Nat) : Rat) = 2 from rfl]
      grind
    have e3 := hh j
    unfold dist at e3
    generalize halfEven n d = k at *
    rcases Nat.lt_trichotomy k j with hk | hk | hk
    · have : d * k + d ≤ d * j := by rw [← Nat.mul_succ]; exact Nat.mul_le_mul_left _ hk
      omega
    · exact hk
    · have : d * j + d ≤ d * k := by rw [← Nat.mul_succ]; exact Nat.mul_le_mul_left _ hk
      omega
  cases a
  · simp only [Bool.false_eq_true, if_false] at hn
    have hr : 0 ≤ r := by
      refine Rat.le_of_mul_le_mul_right (c := (d : Rat)) ?_ hdR
      rw [← hn]; grind
    have hz : 0 ≤ z := by
      have : ((-1 : Int) : Rat) < (z : Rat) := by rw [show ((-1 : Int) : Rat) = -1 from rfl]; grind
      have := Rat.intCast_lt_intCast.mp this
      omega
    obtain ⟨j, rfl⟩ := Int.eq_ofNat_of_zero_le hz
    rw [Rat.intCast_natCast] at h1 h2
    rw [key r j hn h1 h2]
    rfl
  · simp only [if_true] at hn
    have hr : 0 ≤ -r := by
      refine Rat.le_of_mul_le_mul_right (c := (d : Rat)) ?_ hdR
      rw [← hn]; grind
    have hz : z ≤ 0 := by
      have : (z : Rat) < ((1 : Int) : Rat) := by rw [show ((1 : Int) : Rat) = 1 from rfl]; grind
      have := Rat.intCast_lt_intCast.mp this
      omega
    obtain ⟨j, hj⟩ := Int.eq_ofNat_of_zero_le (show 0 ≤ -z by omega)
    have hzj : z = -(j : Int) := by omega
    subst hzj
    rw [negN] at h1 h2
    rw [key (-r) j hn (by grind) (by grind)]
    rfl
end Mine
end
section
open PySem PySem.Float64
set_option maxRecDepth 100000
set_option maxHeartbeats 8000000
set_option exponentiation.threshold 5000
namespace Mine
theorem divmod_snd (x y : UInt64) : (Float64.divmod x y).2 = if isZero (fmod x y) = true then copysign (zero false) y else if (lt y (zero false) != lt (fmod x y) (zero false)) = true then add (fmod x y) y else fmod x y := by
  unfold Float64.divmod
  dsimp only
  split <;> simp_all
  split <;> simp_all
theorem ofBin_right {a : Bool} {m : Nat} {g : Int} (hg : -1074 ≤ g) : Right (ofBin a m g) a (m * 2 ^ (g + 1074).toNat) 1 := by
  have h1 := shift_one m g 1074 (by lia)
  have hp := shift_pos m 1 g (by decide)
  unfold ofBin
  exact ofFrac_right hp (by rw [Nat.mul_one]; exact h1) (by decide)
theorem dec_1 : decode fl1 = .fin false (2 ^ 52) (-52) := by kernel_rfl
/-- what is left of a number less than one -/
theorem fmod_is {x : UInt64} {r : Rat} (h : Is x r) (h1 : r < 1) (h2 : -1 < r) : Near (fmod x fl1) r := by
  obtain ⟨⟨a, m, e, hd⟩, hv⟩ := id h
  have he := decode_ge hd
  rw [val_eq hd] at hv
  have hg : -1074 ≤ min e (-52) := by lia
  have hf : fmod x fl1 = ofBin a ((m * 2 ^ (e - min e (-52)).toNat) % (2 ^ 52 * 2 ^ (-52 - min e (-52)).toNat)) (min e (-52)) := by
    unfold fmod
    rw [hd, dec_1]
    show (if (2 ^ 52 == 0) = true then nan else _) = _
    rw [if_neg (by decide)]
    show ofBin a ((sgn false (m * 2 ^ (e - min e (-52)).toNat)).toNat % (sgn false (2 ^ 52 * 2 ^ (-52 - min e (-52)).toNat)).toNat) (min e (-52)) = _
    simp only [sgn, Bool.false_eq_true, if_false, Int.toNat_natCast]
  have hge : min e (-52) ≤ e ∧ min e (-52) ≤ -52 := by lia
  generalize min e (-52) = g at *
  have eW : m * 2 ^ (e - g).toNat * 2 ^ (g + 1074).toNat = m * 2 ^ (e + 1074).toNat := by
    rw [Nat.mul_assoc, ← Nat.pow_add, show (e - g).toNat + (g + 1074).toNat = (e + 1074).toNat by lia]
  have eQ : 2 ^ 52 * 2 ^ (-52 - g).toNat * 2 ^ (g + 1074).toNat = 2 ^ 1074 := by
    rw [← Nat.pow_add, ← Nat.pow_add, show 52 + (-52 - g).toNat + (g + 1074).toNat = 1074 by lia]
  have hW : m * 2 ^ (e + 1074).toNat < 2 ^ 1074 := by
    refine natCastR_lt.mp ?_
    rw [S_nat]
    generalize m * 2 ^ (e + 1074).toNat = W at hv
    unfold sgn at hv
    have hS := S_pos
    have g1 := Rat.mul_lt_mul_of_pos_right h1 hS
    have g2 := Rat.mul_lt_mul_of_pos_right h2 hS
    cases a
    · simp only [Bool.false_eq_true, if_false] at hv
      rw [Rat.intCast_natCast] at hv
      rw [hv]; grind
    · simp only [if_true] at hv
      rw [negN] at hv
      grind
  have hPQ : m * 2 ^ (e - g).toNat < 2 ^ 52 * 2 ^ (-52 - g).toNat := by
    refine Nat.lt_of_mul_lt_mul_right (a := 2 ^ (g + 1074).toNat) ?_
    rw [eW, eQ]; exact hW
  rw [hf, Nat.mod_eq_of_lt hPQ]
  have hR := ofBin_right (a := a) (m := m * 2 ^ (e - g).toNat) hg
  rw [eW] at hR
  refine right_is hR (by decide) ?_ (by grind) (by grind)
  rw [hv]
  rw [show ((1 : Nat) : Rat) = 1 from rfl]; grind
theorem is_zero_f : Is (zero false) 0 := Is.zero false
theorem lt_is {x y : UInt64} {r q : Rat} (hx : Is x r) (hy : Is y q) : lt x y = decide (r < q) := cmp_lt hx hy
theorem copy0 : Is (copysign (zero false) fl1) 0 := is_of (v := 0) (by decide +kernel) (by rw [show ((0 : Int) : Rat) = 0 from rfl]; grind)
/-- the remainder by one: the number itself, or one more where it is below nought -/
theorem mod1_is {x : UInt64} {r : Rat} (h : Is x r) (h1 : r ≤ 9 / 10) (h2 : -9 / 10 ≤ r) :
    ∃ z, Is (Float64.divmod x fl1).2 z ∧ 0 ≤ z ∧ ((z - r ≤ 1 / 1000000000 ∧ r - z ≤ 1 / 1000000000) ∨ (z - (r + 1) ≤ 1 / 100000000 ∧ (r + 1) - z ≤ 1 / 100000000 ∧ r ≤ 1 / 1000000000)) := by
  obtain ⟨m, hm, n1, n2, _⟩ := fmod_is h (by grind) (by grind)
  rw [divmod_snd]
  rw [isZero_is hm, lt_is is_1 is_zero_f, lt_is hm is_zero_f]
  by_cases h0 : m = 0
  · rw [if_pos (by simpa using h0)]
    exact ⟨0, copy0, Rat.le_refl, .inl ⟨by grind, by grind⟩⟩
  rw [if_neg (by simpa using h0)]
  by_cases hneg : m < 0
  · rw [if_pos (by rw [decide_eq_true hneg, decide_eq_false (by decide +kernel)]; rfl)]
    obtain ⟨z, hz, k1, k2, _⟩ := add_is hm is_1 (by grind) (by grind)
    refine ⟨z, hz, by grind, .inr ⟨by grind, by grind, by grind⟩⟩
  · rw [if_neg (by rw [decide_eq_false hneg, decide_eq_false (by decide +kernel)]; decide)]
    exact ⟨m, hm, by grind, .inl ⟨n1, n2⟩⟩
end Mine
end
section
open PySem PySem.Float64
set_option maxRecDepth 100000
set_option maxHeartbeats 8000000
set_option exponentiation.threshold 5000
namespace Mine
/-- within c -/
def Cl (c x y : Rat) : Prop := x - y ≤ c ∧ y - x ≤ c
theorem trunc2 {x : UInt64} {r : Rat} (h : Is x r) (h0 : -1 / 100 ≤ r) : ∃ sg m e t, decode x = .fin sg m e ∧ truncOf sg m e = ((t : Nat) : Int) ∧ ((t : Rat) ≤ r ∨ t = 0) ∧ r < (t : Rat) + 1 := by
  by_cases hr : 0 ≤ r
  · obtain ⟨sg, m, e, t, h1, h2, h3, h4⟩ := trunc_is h hr
    exact ⟨sg, m, e, t, h1, h2, .inl h3, h4⟩
  obtain ⟨⟨a, m, e, hd⟩, _⟩ := id h
  obtain ⟨hp, hn⟩ := is_frac_of h hd
  have hf := floor_shift m e
  generalize (shift m 1 e).1 = n at *
  generalize (shift m 1 e).2 = d at *
  have hdR : (0 : Rat) < (d : Rat) := by
    have := natCastR_lt.mpr hp
    rwa [show ((0 : Nat) : Rat) = 0 from rfl] at this
  have hn0 : (0 : Rat) ≤ (n : Rat) := by
    have := natCastR_le.mpr (Nat.zero_le n)
    rwa [show ((0 : Nat) : Rat) = 0 from rfl] at this
  cases a
  · simp only [Bool.false_eq_true, if_false] at hn
    exfalso
    apply hr
    refine Rat.le_of_mul_le_mul_right (c := (d : Rat)) ?_ hdR
    rw [← hn]; grind
  · simp only [if_true] at hn
    have hlt : n < d := by
      refine natCastR_lt.mp ?_
      rw [hn]
      have := Rat.mul_lt_mul_of_pos_right (show -r < 1 by grind) hdR
      grind
    refine ⟨_, _, _, 0, hd, ?_, .inr rfl, by rw [show ((0 : Nat) : Rat) = 0 from rfl]; grind⟩
    unfold truncOf ceilOf
    rw [if_pos rfl, show (!true) = false from rfl, hf, Nat.div_eq_of_lt hlt]
    simp
theorem mul_le {V E d : Rat} (hV : 0 ≤ V) (hV2 : V ≤ 25) (h1 : E ≤ d) (hd : 0 ≤ d) : V * E ≤ 25 * d := by
  have a := Rat.mul_le_mul_of_nonneg_left h1 hV
  have b := Rat.mul_le_mul_of_nonneg_right hV2 hd
  grind
theorem mul_cl {V E d : Rat} (hV : 0 ≤ V) (hV2 : V ≤ 25) (h1 : E ≤ d) (h2 : -E ≤ d) (hd : 0 ≤ d) : V * E ≤ 25 * d ∧ -(V * E) ≤ 25 * d := by
  have a := mul_le hV hV2 h1 hd
  have b := mul_le hV hV2 h2 hd
  exact ⟨a, by grind⟩
/-- the two mixed channels: V*(1-f) and V*f -/
theorem chan {v f : UInt64} {V F : Rat} (hv : Is v V) (hV : 0 ≤ V) (hV2 : V ≤ 25) (hf : Is f F) (h1 : F ≤ 2) (h2 : -2 ≤ F) :
    (∃ q, Is (Float64.mul v (Float64.sub fl1 (Float64.mul fl1 f))) q ∧ Cl (1 / 10000000) q (V - V * F)) ∧
    (∃ t, Is (Float64.mul v (Float64.sub fl1 (Float64.mul fl1 (Float64.sub fl1 f)))) t ∧ Cl (1 / 10000000) t (V * F)) ∧ Is (Float64.mul v (Float64.sub fl1 fl1)) 0 := by
  have bd : ∀ X : Rat, X ≤ 4 → -4 ≤ X → V * X ≤ 100 ∧ -(V * X) ≤ 100 := fun X a b => by
    have := mul_cl (E := X) (d := 4) hV hV2 a (by grind) (by grind)
    exact ⟨by grind, by grind⟩
  refine ⟨?_, ?_, ?_⟩
  · obtain ⟨z1, i1, a1, b1, _⟩ := mul_is is_1 hf (by grind) (by grind)
    obtain ⟨z2, i2, a2, b2, _⟩ := sub_is is_1 i1 (by grind) (by grind)
    have g := bd z2 (by grind) (by grind)
    obtain ⟨z3, i3, a3, b3, _⟩ := mul_is hv i2 (by grind) (by grind)
    refine ⟨z3, i3, ?_⟩
    have k := mul_cl (E := z2 - (1 - F)) (d := 2 / 1000000000) hV hV2 (by grind) (by grind) (by grind)
    constructor <;> grind
  · obtain ⟨z0, i0, a0, b0, _⟩ := sub_is is_1 hf (by grind) (by grind)
    obtain ⟨z1, i1, a1, b1, _⟩ := mul_is is_1 i0 (by grind) (by grind)
    obtain ⟨z2, i2, a2, b2, _⟩ := sub_is is_1 i1 (by grind) (by grind)
    have g := bd z2 (by grind) (by grind)
    obtain ⟨z3, i3, a3, b3, _⟩ := mul_is hv i2 (by grind) (by grind)
    refine ⟨z3, i3, ?_⟩
    have k := mul_cl (E := z2 - F) (d := 3 / 1000000000) hV hV2 (by grind) (by grind) (by grind)
    constructor <;> grind
  · have := mul_x hv is_sub11 (by rw [show V * 0 = 0 by grind]; exact dy0) (by grind) (by grind)
    rwa [show V * 0 = 0 by grind] at this
/-- how the six parts of the wheel are coloured -/
def Six (V q p R G B : Rat) (t : Nat) : Prop :=
  ((t = 0 ∨ t = 6) ∧ R = V ∧ G = p ∧ B = 0) ∨ (t = 1 ∧ R = q ∧ G = V ∧ B = 0) ∨ (t = 2 ∧ R = 0 ∧ G = V ∧ B = p) ∨ (t = 3 ∧ R = 0 ∧ G = q ∧ B = V) ∨ (t = 4 ∧ R = p ∧ G = 0 ∧ B = V) ∨ (t = 5 ∧ R = V ∧ G = 0 ∧ B = q)
/-- where the colour wheel's parts lie; W is V times six times the hue -/
inductive Wheel (V W R G B : Rat) (t : Nat) : Prop
  | mk (U q p : Rat) (hU : U = (t : Rat) * V) (low : U - 1 / 1000000 ≤ W) (upp : W ≤ U + V + 1 / 1000000) (hq : Cl (1 / 1000000) q (V + (U - W))) (hp : Cl (1 / 1000000) p (W - U)) (six : Six V q p R G B t) : Wheel V W R G B t
theorem hsv_near {h v : UInt64} {H V : Rat} (hh : Is h H) (hv : Is v V) (h0 : 0 ≤ H) (h1 : H ≤ 101 / 100) (hV : 0 ≤ V) (hV2 : V ≤ 25) :
    ∃ sg m e t, decode (Float64.mul h fl6) = .fin sg m e ∧ truncOf sg m e = ((t : Nat) : Int) ∧ t ≤ 6 ∧ ∃ R G B, Is (hsvOut h v ((t : Nat) : Int)).1 R ∧ Is (hsvOut h v ((t : Nat) : Int)).2.1 G ∧ Is (hsvOut h v ((t : Nat) : Int)).2.2 B ∧ Wheel V (V * (6 * H)) R G B t := by
  obtain ⟨Z, hZ, a1, b1, _⟩ := mul_is hh is_6 (by grind) (by grind)
  obtain ⟨sg, m, e, t, hd, ht, t1, t2⟩ := trunc2 hZ (by grind)
  have t6 : t ≤ 6 := by
    rcases t1 with t1 | t1
    · have : (t : Rat) < ((7 : Nat) : Rat) := by rw [show ((7 : Nat) : Rat) = 7 from rfl]; grind
      have := natCastR_lt.mp this
      lia
    · lia
  have ht0 : (0 : Rat) ≤ (t : Rat) := by
    have := natCastR_le.mpr (Nat.zero_le t)
    rwa [show ((0 : Nat) : Rat) = 0 from rfl] at this
  have ht6 : (t : Rat) ≤ 6 := by
    have := natCastR_le.mpr t6
    rwa [show ((6 : Nat) : Rat) = 6 from rfl] at this
  have tZ : (t : Rat) ≤ Z + 1 / 100 := by
    rcases t1 with t1 | t1
    · grind
    · rw [t1, show ((0 : Nat) : Rat) = 0 from rfl]; grind
  obtain ⟨F, hF, a2, b2, _⟩ := sub_is hZ (is_int (n := t) (by lia)) (by grind) (by grind)
  obtain ⟨⟨q, hq, cq⟩, ⟨p, hp, cp⟩, h00⟩ := chan hv hV hV2 hF (by grind) (by grind)
  refine ⟨sg, m, e, t, hd, ht, t6, ?_⟩
  -- V*F against V*(6H) - t*V
  have k := mul_cl (E := F - (6 * H - t)) (d := 2 / 1000000000) hV hV2 (by grind) (by grind) (by grind)
  have low : (t : Rat) * V - 1 / 1000000 ≤ V * (6 * H) := by
    rcases t1 with t1 | t1
    · have := mul_le (E := t - 6 * H) (d := 1 / 1000000000) hV hV2 (by grind) (by grind)
      grind
    · rw [t1, show ((0 : Nat) : Rat) = 0 from rfl]
      have := Rat.mul_nonneg hV (show 0 ≤ 6 * H by grind)
      grind
  have upp : V * (6 * H) ≤ (t : Rat) * V + V + 1 / 1000000 := by
    have := mul_le (E := 6 * H - t - 1) (d := 1 / 1000000000) hV hV2 (by grind) (by grind)
    grind
  have hm : ((t : Nat) : Int).fmod 6 = ((t % 6 : Nat) : Int) := by
    rw [Int.fmod_eq_emod_of_nonneg _ (by decide)]; lia
  have eF : V * (F - (6 * H - t)) = V * F - V * (6 * H) + t * V := by grind
  rw [eF] at k
  unfold Cl at cq cp
  have hq1 : Cl (1 / 1000000) q (V + ((t : Rat) * V - V * (6 * H))) := by exact ⟨by grind, by grind⟩
  have hp1 : Cl (1 / 1000000) p (V * (6 * H) - (t : Rat) * V) := by exact ⟨by grind, by grind⟩
  have six : ∃ R G B, Is (hsvOut h v ((t : Nat) : Int)).1 R ∧ Is (hsvOut h v ((t : Nat) : Int)).2.1 G ∧ Is (hsvOut h v ((t : Nat) : Int)).2.2 B ∧ Six V q p R G B t := by

    rcases (by lia : t = 0 ∨ t = 1 ∨ t = 2 ∨ t = 3 ∨ t = 4 ∨ t = 5 ∨ t = 6) with e | e | e | e | e | e | e <;> subst e
    · rw [hsvE0 (by rw [hm]; rfl)]
      exact ⟨_, _, _, hv, hp, h00, .inl ⟨.inl rfl, rfl, rfl, rfl⟩⟩
    · rw [hsvE1 (by rw [hm]; rfl)]
      exact ⟨_, _, _, hq, hv, h00, .inr (.inl ⟨rfl, rfl, rfl, rfl⟩)⟩
    · rw [hsvE2 (by rw [hm]; rfl)]
      exact ⟨_, _, _, h00, hv, hp, .inr (.inr (.inl ⟨rfl, rfl, rfl, rfl⟩))⟩
    · rw [hsvE3 (by rw [hm]; rfl)]
      exact ⟨_, _, _, h00, hq, hv, .inr (.inr (.inr (.inl ⟨rfl, rfl, rfl, rfl⟩)))⟩
    · rw [hsvE4 (by rw [hm]; rfl)]
      exact ⟨_, _, _, hp, h00, hv, .inr (.inr (.inr (.inr (.inl ⟨rfl, rfl, rfl, rfl⟩))))⟩
    · rw [hsvE5 (by rw [hm]; rfl)]
      exact ⟨_, _, _, hv, h00, hq, .inr (.inr (.inr (.inr (.inr ⟨rfl, rfl, rfl, rfl⟩))))⟩
    · rw [hsvE0 (by rw [hm]; rfl)]
      exact ⟨_, _, _, hv, hp, h00, .inl ⟨.inr rfl, rfl, rfl, rfl⟩⟩
  obtain ⟨R, G, B, i1, i2, i3, hs⟩ := six
  exact ⟨R, G, B, i1, i2, i3, ⟨_, q, p, rfl, low, upp, hq1, hp1, hs⟩⟩
end Mine
end
section
open PySem PySem.Float64
set_option maxRecDepth 100000
set_option maxHeartbeats 8000000
set_option exponentiation.threshold 5000
namespace Mine
theorem max2_is {x y : UInt64} {r q : Rat} (hx : Is x r) (hy : Is y q) : Is (max2 x y) (if r < q then q else r) := by
  unfold max2
  rw [cmp_lt hx hy]
  by_cases h : r < q
  · rw [if_pos (by simpa using h), if_pos h]; exact hy
  · rw [if_neg (by simpa using h), if_neg h]; exact hx
theorem min2_is {x y : UInt64} {r q : Rat} (hx : Is x r) (hy : Is y q) : Is (min2 x y) (if q < r then q else r) := by
  unfold min2
  rw [cmp_lt hy hx]
  by_cases h : q < r
  · rw [if_pos (by simpa using h), if_pos h]; exact hy
  · rw [if_neg (by simpa using h), if_neg h]; exact hx
theorem max3_is {x y z : UInt64} {r g b : Rat} (hx : Is x r) (hy : Is y g) (hz : Is z b) : ∃ M, Is (max3 x y z) M ∧ r ≤ M ∧ g ≤ M ∧ b ≤ M ∧ (M = r ∨ M = g ∨ M = b) := by
  refine ⟨_, max2_is (max2_is hx hy) hz, ?_⟩
  split <;> split <;> grind
theorem min3_is {x y z : UInt64} {r g b : Rat} (hx : Is x r) (hy : Is y g) (hz : Is z b) : ∃ M, Is (min3 x y z) M ∧ M ≤ r ∧ M ≤ g ∧ M ≤ b ∧ (M = r ∨ M = g ∨ M = b) := by
  refine ⟨_, min2_is (min2_is hx hy) hz, ?_⟩
  split <;> split <;> grind
theorem dy_sub {a b : Int} (ha : 0 ≤ a ∧ a ≤ 20000) (hb : 0 ≤ b ∧ b ≤ 20000) : Dy ((a : Rat) / 1024 - (b : Rat) / 1024) := by
  have := dy_frac (a - b) (by omega)
  rw [Rat.intCast_sub] at this
  rwa [show (a : Rat) / 1024 - (b : Rat) / 1024 = ((a : Rat) - b) / 1024 by grind]
/-- a quotient between nought and one -/
theorem quo {x d : UInt64} {X D : Rat} (hx : Is x X) (hd : Is d D) (hD : 0 < D) (h0 : 0 ≤ X) (h1 : X ≤ D) : ∃ z Q, Is (Float64.div x d) z ∧ Q * D = X ∧ 0 ≤ Q ∧ Q ≤ 1 ∧ Cl (1 / 1000000000) z Q := by
  have hne : D ≠ 0 := by grind
  have e : X / D * D = X := by grind
  have q0 : 0 ≤ X / D := by
    refine Rat.le_of_mul_le_mul_right (c := D) ?_ hD
    rw [e]; grind
  have q1 : X / D ≤ 1 := by
    refine Rat.le_of_mul_le_mul_right (c := D) ?_ hD
    rw [e]; grind
  obtain ⟨z, hz, a, b, _⟩ := div_is hx hd hne (by grind) (by grind)
  exact ⟨z, X / D, hz, e, q0, q1, a, b⟩
/-- small in size -/
def Sm (x : Rat) : Prop := -100 ≤ x ∧ x ≤ 100
theorem Sm.of {x : Rat} (h : 0 ≤ x ∧ x ≤ 20) : Sm x := by unfold Sm; grind
theorem Sm.one {z Q : Rat} (h0 : 0 ≤ Q) (h1 : Q ≤ 1) (h : Cl (1 / 1000000000) z Q) : Sm z := by unfold Sm; unfold Cl at h; grind
theorem Sm.sub {x y : Rat} (a : Sm x) (b : Sm y) : x - y ≤ 1048576 ∧ -1048576 ≤ x - y := by unfold Sm at *; grind
theorem Sm.add {x y : Rat} (a : Sm x) (b : Sm y) : x + y ≤ 1048576 ∧ -1048576 ≤ x + y := by unfold Sm at *; grind
theorem sub_sx {x y : UInt64} {r q : Rat} (hx : Is x r) (hy : Is y q) (d : Dy (r - q)) (a : Sm r) (b : Sm q) : Is (Float64.sub x y) (r - q) := sub_x hx hy d (Sm.sub a b).1 (Sm.sub a b).2
theorem sub_sm {x y : UInt64} {r q : Rat} (hx : Is x r) (hy : Is y q) (a : Sm r) (b : Sm q) : Near (Float64.sub x y) (r - q) := sub_is hx hy (Sm.sub a b).1 (Sm.sub a b).2
theorem add_sm {x y : UInt64} {r q : Rat} (hx : Is x r) (hy : Is y q) (a : Sm r) (b : Sm q) : Near (Float64.add x y) (r + q) := add_is hx hy (Sm.add a b).1 (Sm.add a b).2
end Mine
end
section
open PySem PySem.Float64
set_option maxRecDepth 100000
set_option maxHeartbeats 8000000
set_option exponentiation.threshold 5000
namespace Mine
theorem diff_ok {u v : UInt64} {U V : Rat} {n : Int} (hu : Is u U) (hv : Is v V) (hn : n.natAbs ≤ 20000) (h : Cl (1 / 10000) (U - V) ((n : Rat) / 1024)) :
    Float64.isFinite (Float64.mul (Float64.sub u v) (Float64.ofInt 1024)) = true ∧ PySem.Flt.toInt Float64.nearestOf (Float64.mul (Float64.sub u v) (Float64.ofInt 1024)) = n := by
  have n1 : (n : Rat) ≤ 20000 := by
    have := Rat.intCast_le_intCast.mpr (show n ≤ 20000 by lia)
    rwa [show ((20000 : Int) : Rat) = 20000 from rfl] at this
  have n2 : -20000 ≤ (n : Rat) := by
    have := Rat.intCast_le_intCast.mpr (show -20000 ≤ n by lia)
    rwa [show ((-20000 : Int) : Rat) = -20000 from rfl] at this
  unfold Cl at h
  obtain ⟨z, hz, a, b, _⟩ := sub_is hu hv (by grind) (by grind)
  obtain ⟨w, hw, c, d, _⟩ := mul_is hz is_1024 (by grind) (by grind)
  exact ⟨isFin_is hw, near_int hw (by grind) (by grind)⟩
/-- a whole number of 1024ths between 0 and 20 -/
theorem rng {a : Int} (ha : 0 ≤ a ∧ a ≤ 20000) : 0 ≤ (a : Rat) / 1024 ∧ (a : Rat) / 1024 ≤ 20 := by
  have n1 := Rat.intCast_le_intCast.mpr ha.2
  rw [show ((20000 : Int) : Rat) = 20000 from rfl] at n1
  have n2 := Rat.intCast_le_intCast.mpr ha.1
  rw [show ((0 : Int) : Rat) = 0 from rfl] at n2
  constructor <;> grind
/-- what is left to show, once the hue and the strength are near enough -/
theorem mix_of {x y z : UInt64} {a b c : Int} {H V D : Rat} (ha : 0 ≤ a ∧ a ≤ 20000) (hb : 0 ≤ b ∧ b ≤ 20000) (hc : 0 ≤ c ∧ c ≤ 20000)
    (hfirst : (Float64.cmp (min3 x y z) (max3 x y z) == some .eq) = false → ¬ Float64.isZero (Float64.sub (max3 x y z) (min3 x y z)) = true ∧ ¬ Float64.isZero (max3 x y z) = true)
    (hh : Is (rgbOut x y z).1 H) (hv : Is (Float64.mul (rgbOut x y z).2.1 (rgbOut x y z).2.2) V) (h0 : 0 ≤ H) (h1 : H ≤ 101 / 100) (hV : 0 ≤ V) (hV2 : V ≤ 25)
    (hw : ∀ R G B t, Wheel V (V * (6 * H)) R G B t → Cl (1 / 10000) (R - G) (((a - b : Int) : Rat) / 1024) ∧ Cl (1 / 10000) (G - B) (((b - c : Int) : Rat) / 1024)) : MixOk (x, y, z) (a - b) (b - c) := by
  obtain ⟨sg, m, e, t, hd, ht, t6, R, G, B, iR, iG, iB, hW⟩ := hsv_near hh hv h0 h1 hV hV2
  obtain ⟨d1, d2⟩ := hw R G B t hW
  refine ⟨hfirst, sg, m, e, hd, by rw [ht]; lia, by rw [ht]; lia, ?_⟩
  rw [ht]
  exact ⟨diff_ok iR iG (by lia) d1, diff_ok iG iB (by lia) d2⟩
end Mine
end
section
open PySem PySem.Float64
set_option maxRecDepth 100000
set_option maxHeartbeats 8000000
set_option exponentiation.threshold 5000
namespace Mine
theorem c0 (V : Rat) : ((0 : Nat) : Rat) * V = 0 := by rw [show ((0 : Nat) : Rat) = 0 from rfl]; grind
theorem c1 (V : Rat) : ((1 : Nat) : Rat) * V = V := by rw [show ((1 : Nat) : Rat) = 1 from rfl]; grind
theorem c2 (V : Rat) : ((2 : Nat) : Rat) * V = 2 * V := rfl
theorem c3 (V : Rat) : ((3 : Nat) : Rat) * V = 3 * V := rfl
theorem c4 (V : Rat) : ((4 : Nat) : Rat) * V = 4 * V := rfl
theorem c5 (V : Rat) : ((5 : Nat) : Rat) * V = 5 * V := rfl
theorem c6 (V : Rat) : ((6 : Nat) : Rat) * V = 6 * V := rfl
theorem Cl.sub {c d a b x y : Rat} (h : Cl c a b) (k : Cl d x y) : Cl (c + d) (a - x) (b - y) := by unfold Cl at *; exact ⟨by grind, by grind⟩
theorem Cl.tr {c d a b e : Rat} (h : Cl c a b) (k : Cl d b e) : Cl (c + d) a e := by unfold Cl at *; exact ⟨by grind, by grind⟩
theorem Cl.mono {c d x y : Rat} (h : Cl c x y) (e : c ≤ d) : Cl d x y := by unfold Cl at *; exact ⟨by grind, by grind⟩
theorem Cl.refl (x : Rat) : Cl 0 x x := by unfold Cl; exact ⟨by grind, by grind⟩
theorem sb0 (x : Rat) : x - 0 = x := by grind
theorem xA {T D X : Rat} (hX : (0 ≤ T ∧ X = D - T) ∨ (T ≤ 0 ∧ X = D)) (h : -1 / 100000 ≤ T) : Cl (1 / 100000) (D - T) X := by
  unfold Cl
  rcases hX with h | h <;> exact ⟨by grind, by grind⟩
theorem xB {T D X : Rat} (hX : (0 ≤ T ∧ X = D - T) ∨ (T ≤ 0 ∧ X = D)) (h : T ≤ 1 / 100000) : Cl (1 / 100000) D X := by
  unfold Cl
  rcases hX with h | h <;> exact ⟨by grind, by grind⟩
section
variable {V W D T X q p U : Rat}
theorem part0 (hT1 : T ≤ D) (hX : (0 ≤ T ∧ X = D - T) ∨ (T ≤ 0 ∧ X = D)) (hV : Cl (1 / 10000000) V D) (hW : Cl (1 / 200000) W T) (hU : U = 0) (low : U - 1 / 1000000 ≤ W) (hp : Cl (1 / 1000000) p (W - U)) :
    Cl (1 / 50000) (V - p) X ∧ Cl (1 / 50000) (p - 0) T := by
  subst hU
  rw [sb0] at hp
  have pT := hp.tr hW
  have x := xA hX (by unfold Cl at hW; grind)
  exact ⟨((hV.sub pT).tr x).mono (by decide +kernel), by rw [sb0]; exact pT.mono (by decide +kernel)⟩
theorem part1 (hT1 : T ≤ D) (hD0 : 0 ≤ D) (hX : (0 ≤ T ∧ X = D - T) ∨ (T ≤ 0 ∧ X = D)) (hV : Cl (1 / 10000000) V D) (hW : Cl (1 / 200000) W T) (hU : U = V) (low : U - 1 / 1000000 ≤ W) (hq : Cl (1 / 1000000) q (V + (U - W))) :
    Cl (1 / 50000) (q - V) X ∧ Cl (1 / 50000) (V - 0) T := by
  subst hU
  have VT : Cl (7 / 1000000) U T := by unfold Cl at *; exact ⟨by grind, by grind⟩
  have x := xA hX (by unfold Cl at *; grind)
  have y := hq.sub (Cl.refl U)
  rw [show U + (U - W) - U = U - W by grind] at y
  exact ⟨((y.tr (hV.sub hW)).tr x).mono (by decide +kernel), by rw [sb0]; exact VT.mono (by decide +kernel)⟩
theorem six6 (hV : Cl (1 / 10000000) V D) (hW : Cl (1 / 200000) W (T + 6 * D)) : Cl (6 / 1000000) (W - 6 * V) T := by unfold Cl at *; exact ⟨by grind, by grind⟩
theorem part6 (hX : (0 ≤ T ∧ X = D - T) ∨ (T ≤ 0 ∧ X = D)) (hV : Cl (1 / 10000000) V D) (hW : Cl (1 / 200000) W (T + 6 * D)) (hs : T ≤ 1 / 100000) (hU : U = 6 * V) (low : U - 1 / 1000000 ≤ W) (hp : Cl (1 / 1000000) p (W - U)) :
    Cl (1 / 50000) (V - p) X ∧ Cl (1 / 50000) (p - 0) T := by
  subst hU
  have s6 := six6 hV hW
  have pT := hp.tr s6
  have T0 : -1 / 100000 ≤ T := by unfold Cl at s6; grind
  exact ⟨((hV.sub pT).tr (xA hX T0)).mono (by decide +kernel), by rw [sb0]; exact pT.mono (by decide +kernel)⟩
theorem part5 (hX : (0 ≤ T ∧ X = D - T) ∨ (T ≤ 0 ∧ X = D)) (hV : Cl (1 / 10000000) V D) (hW : Cl (1 / 200000) W (T + 6 * D)) (hs : T ≤ 1 / 100000) (hU : U = 5 * V) (hq : Cl (1 / 1000000) q (V + (U - W))) :
    Cl (1 / 50000) (V - 0) X ∧ Cl (1 / 50000) (0 - q) T := by
  subst hU
  have y := (Cl.refl 0).sub hq
  rw [show 0 - (V + (5 * V - W)) = W - 6 * V by grind] at y
  exact ⟨by rw [sb0]; exact (hV.tr (xB hX hs)).mono (by decide +kernel), (y.tr (six6 hV hW)).mono (by decide +kernel)⟩
theorem part4 (hT2 : -D ≤ T) (hX : (0 ≤ T ∧ X = D - T) ∨ (T ≤ 0 ∧ X = D)) (hV : Cl (1 / 10000000) V D) (hW : Cl (1 / 200000) W (T + 6 * D)) (hs : T ≤ 1 / 100000) (hU : U = 4 * V) (upp : W ≤ U + V + 1 / 1000000) (hp : Cl (1 / 1000000) p (W - U)) :
    Cl (1 / 50000) (p - 0) X ∧ Cl (1 / 50000) (0 - V) T := by
  subst hU
  have TD : Cl (7 / 1000000) (0 - V) T := by unfold Cl at *; exact ⟨by grind, by grind⟩
  have pD : Cl (8 / 1000000) p D := by unfold Cl at *; exact ⟨by grind, by grind⟩
  exact ⟨by rw [sb0]; exact (pD.tr (xB hX hs)).mono (by decide +kernel), TD.mono (by decide +kernel)⟩
theorem far1 {k : Rat} (hk : 2 ≤ k) (hD0 : 1 / 1024 ≤ D) (hT1 : T ≤ D) (hV : Cl (1 / 10000000) V D) (hW : Cl (1 / 200000) W T) (hU : U = k * V) (low : U - 1 / 1000000 ≤ W) : False := by
  have hV0 : 0 ≤ V := by unfold Cl at hV; grind
  have g := Rat.mul_le_mul_of_nonneg_right hk hV0
  rw [← hU] at g
  unfold Cl at *; grind
theorem far2 {k : Rat} (hk : k ≤ 3) (hD0 : 1 / 1024 ≤ D) (hT2 : -D ≤ T) (hV : Cl (1 / 10000000) V D) (hW : Cl (1 / 200000) W (T + 6 * D)) (hU : U = k * V) (upp : W ≤ U + V + 1 / 1000000) : False := by
  have hV0 : 0 ≤ V := by unfold Cl at hV; grind
  have g := Rat.mul_le_mul_of_nonneg_right hk hV0
  rw [← hU] at g
  unfold Cl at *; grind
end
/-- the colours when the first is the greatest; T: the second less the third -/
theorem core {V W D T X a b c : Rat} {t : Nat} (hD0 : 1 / 1024 ≤ D) (hT1 : T ≤ D) (hT2 : -D ≤ T) (hX : (0 ≤ T ∧ X = D - T) ∨ (T ≤ 0 ∧ X = D)) (hV : Cl (1 / 10000000) V D)
    (hW : Cl (1 / 200000) W T ∨ (Cl (1 / 200000) W (T + 6 * D) ∧ T ≤ 1 / 100000)) (h : Wheel V W a b c t) : Cl (1 / 50000) (a - b) X ∧ Cl (1 / 50000) (b - c) T := by
  obtain ⟨U, q, p, hU, low, upp, hq, hp, six⟩ := h
  have hDn : 0 ≤ D := by grind
  rcases six with ⟨ht, rfl, rfl, rfl⟩ | ⟨rfl, rfl, rfl, rfl⟩ | ⟨rfl, rfl, rfl, rfl⟩ | ⟨rfl, rfl, rfl, rfl⟩ | ⟨rfl, rfl, rfl, rfl⟩ | ⟨rfl, rfl, rfl, rfl⟩
  · rcases ht with rfl | rfl
    · rcases hW with hW | ⟨hW, hs⟩
      · exact part0 hT1 hX hV hW (hU.trans (c0 _)) low hp
      · exact (far2 (k := ((0 : Nat) : Rat)) (by decide +kernel) hD0 hT2 hV hW hU upp).elim
    · rcases hW with hW | ⟨hW, hs⟩
      · exact (far1 (k := ((6 : Nat) : Rat)) (by decide +kernel) hD0 hT1 hV hW hU low).elim
      · exact part6 hX hV hW hs (hU.trans (c6 _)) low hp
  · rcases hW with hW | ⟨hW, hs⟩
    · exact part1 hT1 hDn hX hV hW (hU.trans (c1 _)) low hq
    · exact (far2 (k := ((1 : Nat) : Rat)) (by decide +kernel) hD0 hT2 hV hW hU upp).elim
  · rcases hW with hW | ⟨hW, hs⟩
    · exact (far1 (k := ((2 : Nat) : Rat)) (by decide +kernel) hD0 hT1 hV hW hU low).elim
    · exact (far2 (k := ((2 : Nat) : Rat)) (by decide +kernel) hD0 hT2 hV hW hU upp).elim
  · rcases hW with hW | ⟨hW, hs⟩
    · exact (far1 (k := ((3 : Nat) : Rat)) (by decide +kernel) hD0 hT1 hV hW hU low).elim
    · exact (far2 (k := ((3 : Nat) : Rat)) (by decide +kernel) hD0 hT2 hV hW hU upp).elim
  · rcases hW with hW | ⟨hW, hs⟩
    · exact (far1 (k := ((4 : Nat) : Rat)) (by decide +kernel) hD0 hT1 hV hW hU low).elim
    · exact part4 hT2 hX hV hW hs (hU.trans (c4 _)) upp hp
  · rcases hW with hW | ⟨hW, hs⟩
    · exact (far1 (k := ((5 : Nat) : Rat)) (by decide +kernel) hD0 hT1 hV hW hU low).elim
    · exact part5 hX hV hW hs (hU.trans (c5 _)) hq
theorem shiftW {V W U q p a b c : Rat} {t : Nat} (s : Rat) (hU : U + s = (t : Rat) * V) (low : U - 1 / 1000000 ≤ W) (upp : W ≤ U + V + 1 / 1000000) (hq : Cl (1 / 1000000) q (V + (U - W))) (hp : Cl (1 / 1000000) p (W - U)) (six : Six V q p a b c t) : Wheel V (W + s) a b c t := by
  refine ⟨U + s, q, p, hU, by grind, by grind, ?_, ?_, six⟩
  · rwa [show V + (U + s - (W + s)) = V + (U - W) by grind]
  · rwa [show W + s - (U + s) = W - U by grind]
/-- the wheel turned by a third -/
theorem rot {V W R G B : Rat} {t : Nat} (hV0 : 0 ≤ V) (h : Wheel V W R G B t) : ∃ t' s, Wheel V (W + s) G B R t' ∧ (s = -(2 * V) ∨ (s = 4 * V ∧ W ≤ 2 * V + 1 / 1000000)) := by
  obtain ⟨U, q, p, hU, low, upp, hq, hp, six⟩ := h
  rcases six with ⟨ht, rfl, rfl, rfl⟩ | ⟨rfl, rfl, rfl, rfl⟩ | ⟨rfl, rfl, rfl, rfl⟩ | ⟨rfl, rfl, rfl, rfl⟩ | ⟨rfl, rfl, rfl, rfl⟩ | ⟨rfl, rfl, rfl, rfl⟩
  · rcases ht with rfl | rfl
    · have e := hU.trans (c0 _)
      exact ⟨4, _, shiftW (4 * R) (by rw [c4, e]; grind) low upp hq hp (.inr (.inr (.inr (.inr (.inl ⟨rfl, rfl, rfl, rfl⟩))))), .inr ⟨rfl, by clear hq hp; grind⟩⟩
    · have e := hU.trans (c6 _)
      exact ⟨4, _, shiftW (-(2 * R)) (by rw [c4, e]; grind) low upp hq hp (.inr (.inr (.inr (.inr (.inl ⟨rfl, rfl, rfl, rfl⟩))))), .inl rfl⟩
  · have e := hU.trans (c1 _)
    exact ⟨5, _, shiftW (4 * G) (by rw [c5, e]; grind) low upp hq hp (.inr (.inr (.inr (.inr (.inr ⟨rfl, rfl, rfl, rfl⟩))))), .inr ⟨rfl, by clear hq hp; grind⟩⟩
  · have e := hU.trans (c2 _)
    exact ⟨0, _, shiftW (-(2 * G)) (by rw [c0, e]; grind) low upp hq hp (.inl ⟨.inl rfl, rfl, rfl, rfl⟩), .inl rfl⟩
  · have e := hU.trans (c3 _)
    exact ⟨1, _, shiftW (-(2 * B)) (by rw [c1, e]; grind) low upp hq hp (.inr (.inl ⟨rfl, rfl, rfl, rfl⟩)), .inl rfl⟩
  · have e := hU.trans (c4 _)
    exact ⟨2, _, shiftW (-(2 * B)) (by rw [c2, e]; grind) low upp hq hp (.inr (.inr (.inl ⟨rfl, rfl, rfl, rfl⟩))), .inl rfl⟩
  · have e := hU.trans (c5 _)
    exact ⟨3, _, shiftW (-(2 * R)) (by rw [c3, e]; grind) low upp hq hp (.inr (.inr (.inr (.inl ⟨rfl, rfl, rfl, rfl⟩)))), .inl rfl⟩
/-- what the least tells -/
theorem least {R G B D mn : Rat} (hD : D = R - mn) (hD0 : 1 / 1024 ≤ D) (m1 : mn ≤ R ∧ mn ≤ G ∧ mn ≤ B) (m2 : G ≤ R ∧ B ≤ R) (hm : mn = R ∨ mn = G ∨ mn = B) :
    ((0 ≤ G - B ∧ R - G = D - (G - B)) ∨ (G - B ≤ 0 ∧ R - G = D)) ∧ G - B ≤ D ∧ -D ≤ G - B := by
  refine ⟨?_, by grind, by grind⟩
  rcases hm with h | h | h
  · exfalso; grind
  · exact .inr ⟨by grind, by grind⟩
  · exact .inl ⟨by grind, by grind⟩
theorem coarse {x y : Rat} (h : Cl (1 / 50000) x y) : Cl (1 / 10000) x y := by unfold Cl at *; exact ⟨by grind, by grind⟩
theorem third {a b c x y z : Rat} (h : Cl (1 / 50000) (a - b) (x - y)) (k : Cl (1 / 50000) (b - c) (y - z)) : Cl (1 / 10000) (c - a) (z - x) := by unfold Cl at *; exact ⟨by grind, by grind⟩
theorem finer {W K : Rat} (h : Cl (35 / 10000000) W K) : Cl (1 / 200000) W K := by unfold Cl at *; exact ⟨by grind, by grind⟩
section
variable {R G B D mn V W R' G' B' : Rat} {t : Nat}
theorem wheel_r (hD : D = R - mn) (hD0 : 1 / 1024 ≤ D) (m1 : mn ≤ R ∧ mn ≤ G ∧ mn ≤ B) (m2 : G ≤ R ∧ B ≤ R) (hm : mn = R ∨ mn = G ∨ mn = B) (hV : Cl (1 / 10000000) V D)
    (hT : Cl (35 / 10000000) W (G - B) ∨ (Cl (35 / 10000000) W (G - B + 6 * D) ∧ G - B ≤ 1 / 100000)) (h : Wheel V W R' G' B' t) : Cl (1 / 10000) (R' - G') (R - G) ∧ Cl (1 / 10000) (G' - B') (G - B) := by
  obtain ⟨x, l1, l2⟩ := least hD hD0 m1 m2 hm
  have k := core hD0 l1 l2 x hV (hT.imp finer fun z => ⟨finer z.1, z.2⟩) h
  exact ⟨coarse k.1, coarse k.2⟩
theorem v0 (hD0 : 1 / 1024 ≤ D) (hV : Cl (1 / 10000000) V D) : 0 ≤ V := by unfold Cl at *; grind
/-- the turned wheel, the hue told from two thirds of D -/
theorem turn2 {T : Rat} (hV0 : 0 ≤ V) (hV : Cl (1 / 10000000) V D) (hT : Cl (4 / 1000000) W (2 * D + T)) (h : Wheel V W R' G' B' t) : ∃ t' W', Wheel V W' G' B' R' t' ∧ (Cl (1 / 200000) W' T ∨ (Cl (1 / 200000) W' (T + 6 * D) ∧ T ≤ 1 / 100000)) := by
  obtain ⟨t', s, hw, hs⟩ := rot hV0 h
  refine ⟨t', W + s, hw, ?_⟩
  unfold Cl at *
  clear h hw
  rcases hs with rfl | ⟨rfl, hs⟩
  · exact .inl ⟨by grind, by grind⟩
  · exact .inr ⟨⟨by grind, by grind⟩, by grind⟩
theorem turn4 {T : Rat} (hV0 : 0 ≤ V) (hD0 : 1 / 1024 ≤ D) (hT2 : -D ≤ T) (hV : Cl (1 / 10000000) V D) (hT : Cl (35 / 10000000) W (4 * D + T)) (h : Wheel V W R' G' B' t) : ∃ t' W', Wheel V W' G' B' R' t' ∧ Cl (4 / 1000000) W' (2 * D + T) := by
  obtain ⟨t', s, hw, hs⟩ := rot hV0 h
  refine ⟨t', W + s, hw, ?_⟩
  unfold Cl at *
  clear h hw
  rcases hs with rfl | ⟨rfl, hs⟩
  · exact ⟨by grind, by grind⟩
  · exfalso; grind
theorem wheel_g (hD : D = G - mn) (hD0 : 1 / 1024 ≤ D) (m1 : mn ≤ R ∧ mn ≤ G ∧ mn ≤ B) (m2 : R ≤ G ∧ B ≤ G) (hm : mn = R ∨ mn = G ∨ mn = B) (hV : Cl (1 / 10000000) V D)
    (hT : Cl (35 / 10000000) W (2 * D + (B - R))) (h : Wheel V W R' G' B' t) : Cl (1 / 10000) (R' - G') (R - G) ∧ Cl (1 / 10000) (G' - B') (G - B) := by
  obtain ⟨x, l1, l2⟩ := least (R := G) (G := B) (B := R) hD hD0 ⟨m1.2.1, m1.2.2, m1.1⟩ ⟨m2.2, m2.1⟩ (by rcases hm with h | h | h; exact .inr (.inr h); exact .inl h; exact .inr (.inl h))
  obtain ⟨t', W', hw, hW⟩ := turn2 (T := B - R) (v0 hD0 hV) hV (by unfold Cl at *; exact ⟨by grind, by grind⟩) h
  have k := core hD0 l1 l2 x hV hW hw
  exact ⟨third k.1 k.2, coarse k.1⟩
theorem wheel_b (hD : D = B - mn) (hD0 : 1 / 1024 ≤ D) (m1 : mn ≤ R ∧ mn ≤ G ∧ mn ≤ B) (m2 : R ≤ B ∧ G ≤ B) (hm : mn = R ∨ mn = G ∨ mn = B) (hV : Cl (1 / 10000000) V D)
    (hT : Cl (35 / 10000000) W (4 * D + (R - G))) (h : Wheel V W R' G' B' t) : Cl (1 / 10000) (R' - G') (R - G) ∧ Cl (1 / 10000) (G' - B') (G - B) := by
  obtain ⟨x, l1, l2⟩ := least (R := B) (G := R) (B := G) hD hD0 ⟨m1.2.2, m1.1, m1.2.1⟩ ⟨m2.1, m2.2⟩ (by rcases hm with h | h | h; exact .inr (.inl h); exact .inr (.inr h); exact .inl h)
  obtain ⟨t1, W1, hw1, hW1⟩ := turn4 (v0 hD0 hV) hD0 l2 hV hT h
  obtain ⟨t', W', hw, hW⟩ := turn2 (v0 hD0 hV) hV hW1 hw1
  have k := core hD0 l1 l2 x hV hW hw
  exact ⟨coarse k.2, third k.1 k.2⟩
end
/-- no colour at all -/
theorem wheel_0 {a b c : Rat} {t : Nat} (h : Wheel 0 0 a b c t) : Cl (1 / 10000) (a - b) 0 ∧ Cl (1 / 10000) (b - c) 0 := by
  obtain ⟨U, q, p, hU, low, upp, hq, hp, six⟩ := h
  unfold Cl at *
  have hq' : q ≤ 1 / 100000 ∧ -q ≤ 1 / 100000 := ⟨by grind, by grind⟩
  have hp' : p ≤ 1 / 100000 ∧ -p ≤ 1 / 100000 := ⟨by grind, by grind⟩
  clear hq hp hU low upp
  have sm : ∀ x ∈ [a, b, c], x ≤ 1 / 100000 ∧ -x ≤ 1 / 100000 := by
    have z : (0 : Rat) ≤ 1 / 100000 ∧ -(0 : Rat) ≤ 1 / 100000 := ⟨by decide +kernel, by decide +kernel⟩
    intro x hx
    simp only [List.mem_cons, List.not_mem_nil, or_false] at hx
    rcases six with ⟨_, rfl, rfl, rfl⟩ | ⟨_, rfl, rfl, rfl⟩ | ⟨_, rfl, rfl, rfl⟩ | ⟨_, rfl, rfl, rfl⟩ | ⟨_, rfl, rfl, rfl⟩ | ⟨_, rfl, rfl, rfl⟩ <;> rcases hx with rfl | rfl | rfl <;> assumption
  have ha := sm a (by simp)
  have hb := sm b (by simp)
  have hc := sm c (by simp)
  clear sm six
  exact ⟨⟨by grind, by grind⟩, ⟨by grind, by grind⟩⟩
end Mine
end
section
open PySem PySem.Float64
set_option maxRecDepth 100000
set_option maxHeartbeats 8000000
set_option exponentiation.threshold 5000
namespace Mine
/-- the hue put between nought and one -/
theorem hue_mod {x : UInt64} {X Q : Rat} (hx : Is x X) (h : Cl (5 / 1000000000) X Q) (q1 : Q ≤ 5) (q2 : -1 ≤ Q) :
    ∃ H, Is (Float64.divmod (Float64.div x fl6) fl1).2 H ∧ 0 ≤ H ∧ H ≤ 101 / 100 ∧ (Cl (1 / 10000000) (6 * H) Q ∨ (Cl (1 / 10000000) (6 * H) (Q + 6) ∧ Q ≤ 1 / 10000000)) := by
  unfold Cl at *
  have e : X / 6 * 6 = X := by grind
  obtain ⟨z, hz, a, b, _⟩ := div_is hx is_6 (by decide) (by grind) (by grind)
  obtain ⟨H, hH, h0, h1⟩ := mod1_is hz (by grind) (by grind)
  refine ⟨H, hH, h0, by grind, ?_⟩
  rcases h1 with h1 | h1
  · exact .inl ⟨by grind, by grind⟩
  · exact .inr ⟨⟨by grind, by grind⟩, by grind⟩
/-- from the hue to W -/
theorem w_near {V D H Q K : Rat} (hV : 0 ≤ V) (hV2 : V ≤ 21) (hVD : Cl (1 / 20000000) V D) (hq : Cl (1 / 10000000) (6 * H) Q) (q1 : Q ≤ 7) (q2 : -7 ≤ Q) (hk : D * Q = K) : Cl (35 / 10000000) (V * (6 * H)) K := by
  unfold Cl at *
  have a1 := mul_cl (E := 6 * H - Q) (d := 1 / 10000000) hV (by grind) (by grind) (by grind) (by grind)
  have b1 : (V - D) * Q ≤ 7 / 20000000 ∧ -((V - D) * Q) ≤ 7 / 20000000 := by
    have g : ∀ x : Rat, x ≤ 1 / 20000000 → -x ≤ 1 / 20000000 → x * Q ≤ 7 / 20000000 := by
      intro x x1 x2
      rcases (show 0 ≤ Q ∨ Q ≤ 0 by grind) with s | s
      · have := Rat.mul_le_mul_of_nonneg_right x1 s
        grind
      · have := Rat.mul_le_mul_of_nonneg_right x2 (show 0 ≤ -Q by grind)
        grind
    have g1 := g (V - D) (by grind) (by grind)
    have g2 := g (-(V - D)) (by grind) (by grind)
    constructor <;> grind
  constructor <;> grind
theorem sub0 {M R : Rat} (h : R ≤ M) : 0 ≤ M - R := by grind
theorem subD {M R mn D : Rat} (e : D = M - mn) (h : mn ≤ R) : M - R ≤ D := by grind
theorem near2 {a b z A B : Rat} (ca : Cl (1 / 1000000000) a A) (cb : Cl (1 / 1000000000) b B) (h : Cl (1 / 1000000000) z (a - b)) : Cl (5 / 1000000000) z (A - B) := by
  unfold Cl at *; exact ⟨by grind, by grind⟩
theorem near3 {k a b z z0 A B : Rat} (ca : Cl (1 / 1000000000) a A) (cb : Cl (1 / 1000000000) b B) (h0 : Cl (1 / 1000000000) z0 (k + a)) (h : Cl (1 / 1000000000) z (z0 - b)) : Cl (5 / 1000000000) z (k + A - B) := by
  unfold Cl at *; exact ⟨by grind, by grind⟩
theorem Sm.sum {k a z A : Rat} (hk : 0 ≤ k) (hk4 : k ≤ 4) (a0 : 0 ≤ A) (a1 : A ≤ 1) (ca : Cl (1 / 1000000000) a A) (h0 : Cl (1 / 1000000000) z (k + a)) : Sm z := by
  unfold Sm; unfold Cl at *; exact ⟨by grind, by grind⟩
theorem qbd {k A B : Rat} (hk : 0 ≤ k) (hk4 : k ≤ 4) (a0 : 0 ≤ A) (a1 : A ≤ 1) (b0 : 0 ≤ B) (b1 : B ≤ 1) : k + A - B ≤ 5 ∧ -1 ≤ k + A - B := ⟨by grind, by grind⟩
theorem qb2 {A B : Rat} (a0 : 0 ≤ A) (a1 : A ≤ 1) (b0 : 0 ≤ B) (b1 : B ≤ 1) : A - B ≤ 1 ∧ -1 ≤ A - B := ⟨by grind, by grind⟩
theorem dk {D A B M x y : Rat} (ea : A * D = M - x) (eb : B * D = M - y) : D * (A - B) = y - x := by grind
theorem dk6 {D A B M x y : Rat} (ea : A * D = M - x) (eb : B * D = M - y) : D * (A - B + 6) = y - x + 6 * D := by grind
theorem dkk {D A B M x y k : Rat} (ea : A * D = M - x) (eb : B * D = M - y) : D * (k + A - B) = k * D + (y - x) := by grind
theorem small_up {D q T : Rat} (hD : 0 ≤ D) (hD2 : D ≤ 20) (hq : q ≤ 1 / 10000000) (e : D * q = T) : T ≤ 1 / 100000 := by
  have g := Rat.mul_le_mul_of_nonneg_left hq hD
  grind
theorem up6 {x : Rat} (h : x ≤ 1) : x + 6 ≤ 7 := by grind
theorem dn6 {x : Rat} (h : -1 ≤ x) : -7 ≤ x + 6 := by grind
theorem up7 {x : Rat} (h : x ≤ 5) : x ≤ 7 := by grind
theorem up71 {x : Rat} (h : x ≤ 1) : x ≤ 5 ∧ x ≤ 7 := ⟨by grind, by grind⟩
theorem dn7 {x : Rat} (h : -1 ≤ x) : -7 ≤ x := by grind
theorem none0 {k A B : Rat} (hk : 2 ≤ k) (a0 : 0 ≤ A) (b1 : B ≤ 1) (h : k + A - B ≤ 1 / 10000000) : False := by grind
end Mine
end
section
open PySem PySem.Float64
set_option maxRecDepth 100000
set_option maxHeartbeats 8000000
set_option exponentiation.threshold 5000
namespace Mine
theorem pick_int {M R G B : Rat} {a b c : Int} (ha : 0 ≤ a ∧ a ≤ 20000) (hb : 0 ≤ b ∧ b ≤ 20000) (hc : 0 ≤ c ∧ c ≤ 20000) (eR : R = (a : Rat) / 1024) (eG : G = (b : Rat) / 1024) (eB : B = (c : Rat) / 1024) (h : M = R ∨ M = G ∨ M = B) : ∃ k : Int, (0 ≤ k ∧ k ≤ 20000) ∧ M = (k : Rat) / 1024 := by
  rcases h with h | h | h
  · exact ⟨a, ha, by rw [h, eR]⟩
  · exact ⟨b, hb, by rw [h, eG]⟩
  · exact ⟨c, hc, by rw [h, eB]⟩
theorem mix_ok {x y z : UInt64} {a b c : Int} (ha : 0 ≤ a ∧ a ≤ 20000) (hb : 0 ≤ b ∧ b ≤ 20000) (hc : 0 ≤ c ∧ c ≤ 20000)
    (hx : Is x ((a : Rat) / 1024)) (hy : Is y ((b : Rat) / 1024)) (hz : Is z ((c : Rat) / 1024)) : MixOk (x, y, z) (a - b) (b - c) := by
  obtain ⟨R, eR⟩ : ∃ R, R = (a : Rat) / 1024 := ⟨_, rfl⟩
  obtain ⟨G, eG⟩ : ∃ G, G = (b : Rat) / 1024 := ⟨_, rfl⟩
  obtain ⟨B, eB⟩ : ∃ B, B = (c : Rat) / 1024 := ⟨_, rfl⟩
  have eRG : ((a - b : Int) : Rat) / 1024 = R - G := by rw [Rat.intCast_sub, eR, eG]; grind
  have eGB : ((b - c : Int) : Rat) / 1024 = G - B := by rw [Rat.intCast_sub, eG, eB]; grind
  have rR := rng ha
  have rG := rng hb
  have rB := rng hc
  rw [← eR] at hx rR
  rw [← eG] at hy rG
  rw [← eB] at hz rB
  obtain ⟨M, hM, M1, M2, M3, M4⟩ := max3_is hx hy hz
  obtain ⟨mn, hm, m1, m2, m3, m4⟩ := min3_is hx hy hz
  obtain ⟨kM, bM, eM⟩ := pick_int ha hb hc eR eG eB M4
  obtain ⟨km, bm, em⟩ := pick_int ha hb hc eR eG eB m4
  have hcmp := cmp_eq hm hM
  have sR := Sm.of rR
  have sG := Sm.of rG
  have sB := Sm.of rB
  have rM := rng bM
  have rm := rng bm
  rw [← eM] at rM
  rw [← em] at rm
  have sM := Sm.of rM
  have sm := Sm.of rm
  by_cases hE : mn = M
  · rw [decide_eq_true hE] at hcmp
    have hv0 : Is (Float64.mul fl0 (max3 x y z)) 0 := by
      have := mul_x is_0 hM (by rw [show 0 * M = 0 by grind]; exact dy0) (by grind) (by grind)
      rwa [show 0 * M = 0 by grind] at this
    have e1 : R - G = 0 := by grind
    have e2 : G - B = 0 := by grind
    refine mix_of (H := 0) (V := 0) (D := 0) ha hb hc (fun h => by rw [hcmp] at h; cases h) (by rw [rgbE0 hcmp]; exact is_0) (by rw [rgbE0 hcmp]; exact hv0) (by decide +kernel) (by decide +kernel) (by decide +kernel) (by decide +kernel) ?_
    intro R' G' B' t hW
    rw [eRG, eGB, e1, e2]
    rw [show (0 : Rat) * (6 * 0) = 0 by decide +kernel] at hW
    exact wheel_0 hW
  · rw [decide_eq_false hE] at hcmp
    obtain ⟨D, eD⟩ : ∃ D, D = M - mn := ⟨_, rfl⟩
    have kpos : 1 ≤ kM - km := by

      rcases Int.lt_trichotomy km kM with h | h | h
      · lia
      · exact absurd (by rw [eM, em, h]) hE
      · exfalso
        have := Rat.intCast_lt_intCast.mpr h
        apply hE
        grind
    have hD0 : 1 / 1024 ≤ D := by
      have := Rat.intCast_le_intCast.mpr kpos
      rw [Rat.intCast_sub, show ((1 : Int) : Rat) = 1 from rfl] at this
      rw [eD, eM, em]; grind
    have hDp : 0 < D := by grind
    have hDn : 0 ≤ D := by grind
    have hD20 : D ≤ 20 := by grind
    have hMp : 0 < M := by grind
    have hMn : 0 ≤ M := rM.1
    have hDM : D ≤ M := by grind
    have hD : Is (Float64.sub (max3 x y z) (min3 x y z)) D := by
      rw [eD]
      exact sub_sx hM hm (by rw [eM, em]; exact dy_sub bM bm) sM sm
    have hdR : Is (Float64.sub (max3 x y z) x) (M - R) := sub_sx hM hx (by rw [eM, eR]; exact dy_sub bM ha) sM sR
    have hdG : Is (Float64.sub (max3 x y z) y) (M - G) := sub_sx hM hy (by rw [eM, eG]; exact dy_sub bM hb) sM sG
    have hdB : Is (Float64.sub (max3 x y z) z) (M - B) := sub_sx hM hz (by rw [eM, eB]; exact dy_sub bM hc) sM sB
    obtain ⟨zr, QR, ir, er, qr0, qr1, cr⟩ := quo hdR hD hDp (sub0 M1) (subD eD m1)
    obtain ⟨zg, QG, ig, eg, qg0, qg1, cg⟩ := quo hdG hD hDp (sub0 M2) (subD eD m2)
    obtain ⟨zb, QB, ib, eb, qb0, qb1, cb⟩ := quo hdB hD hDp (sub0 M3) (subD eD m3)
    obtain ⟨zs, QS, is, es, qs0, qs1, cs⟩ := quo hD hM hMp hDn hDM
    have hfirst : ¬ Float64.isZero (Float64.sub (max3 x y z) (min3 x y z)) = true ∧ ¬ Float64.isZero (max3 x y z) = true := by
      rw [isZero_is hD, isZero_is hM]
      exact ⟨by rw [decide_eq_false (fun h => by rw [h] at hDp; exact absurd hDp (by decide +kernel))]; decide, by rw [decide_eq_false (fun h => by rw [h] at hMp; exact absurd hMp (by decide +kernel))]; decide⟩
    have km1 := mul_cl (V := M) (E := zs - QS) (d := 1 / 1000000000) hMn (by grind) cs.1 (by have := cs.2; grind) (by decide +kernel)
    have eS : M * (zs - QS) = zs * M - D := by grind
    rw [eS] at km1
    obtain ⟨V, hV, v1, v2, _⟩ := mul_is is hM (by grind) (by grind)
    have hVD : Cl (1 / 20000000) V D := by exact ⟨by grind, by grind⟩
    have hVD7 : Cl (1 / 10000000) V D := by unfold Cl at *; exact ⟨by grind, by grind⟩
    have V0 : 0 ≤ V := by unfold Cl at hVD; grind
    have V1 : V ≤ 21 := by unfold Cl at hVD; grind
    have V25 : V ≤ 25 := by grind
    have cmpR := cmp_eq hx hM
    have cmpG := cmp_eq hy hM
    have s2 : (0 : Rat) ≤ 2 ∧ (2 : Rat) ≤ 4 ∧ (0 : Rat) ≤ 4 ∧ (4 : Rat) ≤ 4 ∧ (2 : Rat) ≤ 2 := by decide +kernel
    have sm2 : Sm 2 ∧ Sm 4 := by unfold Sm; decide +kernel
    by_cases hRM : R = M
    · rw [decide_eq_true hRM] at cmpR
      obtain ⟨h1, j1, p1, p2, _⟩ := sub_sm ib ig (Sm.one qb0 qb1 cb) (Sm.one qg0 qg1 cg)
      have bd := qb2 qb0 qb1 qg0 qg1
      obtain ⟨H, jH, H0, H1, hH⟩ := hue_mod (Q := QB - QG) j1 (near2 cb cg ⟨p1, p2⟩) (up71 bd.1).1 (by have := bd.2; grind)
      refine mix_of (D := D) ha hb hc (fun _ => hfirst) (by rw [rgbE1 hcmp cmpR]; exact jH) (by rw [rgbE1 hcmp cmpR]; exact hV) H0 H1 V0 V25 ?_
      intro R' G' B' t hW
      rw [eRG, eGB]
      refine wheel_r (D := D) (mn := mn) (by rw [eD, hRM]) hD0 ⟨m1, m2, m3⟩ ⟨by rw [hRM]; exact M2, by rw [hRM]; exact M3⟩ m4 hVD7 ?_ hW
      rcases hH with hH | ⟨hH, hq⟩
      · exact .inl (w_near V0 V1 hVD hH (up71 bd.1).2 (dn7 bd.2) (dk eb eg))
      · exact .inr ⟨w_near V0 V1 hVD hH (up6 bd.1) (dn6 bd.2) (dk6 eb eg), small_up hDn hD20 hq (dk eb eg)⟩
    · rw [decide_eq_false hRM] at cmpR
      by_cases hGM : G = M
      · rw [decide_eq_true hGM] at cmpG
        obtain ⟨h0, j0, p01, p02, _⟩ := add_sm is_2 ir sm2.1 (Sm.one qr0 qr1 cr)
        obtain ⟨h1, j1, p1, p2, _⟩ := sub_sm j0 ib (Sm.sum s2.1 s2.2.1 qr0 qr1 cr ⟨p01, p02⟩) (Sm.one qb0 qb1 cb)
        have bd := qbd s2.1 s2.2.1 qr0 qr1 qb0 qb1
        obtain ⟨H, jH, H0, H1, hH⟩ := hue_mod (Q := 2 + QR - QB) j1 (near3 cr cb ⟨p01, p02⟩ ⟨p1, p2⟩) bd.1 bd.2
        refine mix_of (D := D) ha hb hc (fun _ => hfirst) (by rw [rgbE2 hcmp cmpR cmpG]; exact jH) (by rw [rgbE2 hcmp cmpR cmpG]; exact hV) H0 H1 V0 V25 ?_
        intro R' G' B' t hW
        rw [eRG, eGB]
        refine wheel_g (D := D) (mn := mn) (by rw [eD, hGM]) hD0 ⟨m1, m2, m3⟩ ⟨by rw [hGM]; exact M1, by rw [hGM]; exact M3⟩ m4 hVD7 ?_ hW
        rcases hH with hH | ⟨hH, hq⟩
        · exact w_near V0 V1 hVD hH (up7 bd.1) (dn7 bd.2) (dkk er eb)
        · exact (none0 s2.2.2.2.2 qr0 qb1 hq).elim
      · rw [decide_eq_false hGM] at cmpG
        have hBM : B = M := by rcases M4 with h | h | h; exact absurd h.symm hRM; exact absurd h.symm hGM; exact h.symm
        obtain ⟨h0, j0, p01, p02, _⟩ := add_sm is_4 ig sm2.2 (Sm.one qg0 qg1 cg)
        obtain ⟨h1, j1, p1, p2, _⟩ := sub_sm j0 ir (Sm.sum s2.2.2.1 s2.2.2.2.1 qg0 qg1 cg ⟨p01, p02⟩) (Sm.one qr0 qr1 cr)
        have bd := qbd s2.2.2.1 s2.2.2.2.1 qg0 qg1 qr0 qr1
        obtain ⟨H, jH, H0, H1, hH⟩ := hue_mod (Q := 4 + QG - QR) j1 (near3 cg cr ⟨p01, p02⟩ ⟨p1, p2⟩) bd.1 bd.2
        refine mix_of (D := D) ha hb hc (fun _ => hfirst) (by rw [rgbE3 hcmp cmpR cmpG]; exact jH) (by rw [rgbE3 hcmp cmpR cmpG]; exact hV) H0 H1 V0 V25 ?_
        intro R' G' B' t hW
        rw [eRG, eGB]
        refine wheel_b (D := D) (mn := mn) (by rw [eD, hBM]) hD0 ⟨m1, m2, m3⟩ ⟨by rw [hBM]; exact M1, by rw [hBM]; exact M2⟩ m4 hVD7 ?_ hW
        rcases hH with hH | ⟨hH, hq⟩
        · exact w_near V0 V1 hVD hH (up7 bd.1) (dn7 bd.2) (dkk eg er)
        · exact (none0 s2.2.1 qg0 qr1 hq).elim
end Mine
end
section
open PySem PySem.W PySem.Calls PyProof.Rows
set_option maxRecDepth 100000
set_option maxHeartbeats 2000000
namespace Mine
def HMix : Prop := ∀ (ls : List Nat), ls.length ≤ 20 → (∀ d ∈ ls, d < 1000) → ∀ k, k ≤ 3 → MixOk (mixF k ls ls.length) (xsF ls k) (ysF ls k)
theorem packF_six (S : Nat → Int) (B : Nat) : packF S B 6 = S 0 + S 1 * (B : Int) + S 2 * (B : Int) ^ 2 + S 3 * (B : Int) ^ 3 + S 4 * (B : Int) ^ 4 + S 5 * (B : Int) ^ 5 := by
  simp only [packF]
  grind only
theorem xs_bound (ls : List Nat) (hl : ls.length ≤ 20) (h1000 : ∀ d ∈ ls, d < 1000) (k : Nat) : (xsF ls k).natAbs ≤ 120000 ∧ (ysF ls k).natAbs ≤ 120000 := by
  have b := fun r => sumR_bound ls h1000 r ls.length
  have b0 := b 0
  have b1 := b 1
  have b2 := b 2
  have b3 := b 3
  have b4 := b 4
  have b5 := b 5
  unfold xsF ysF
  dsimp only
  constructor <;> (repeat' split) <;> omega
theorem told_bound {v t x y u : Int} (hv : 0 ≤ v ∧ v < 1000) (ht : 1 ≤ t ∧ t ≤ 1000) (hx : x.natAbs ≤ 120000) (hy : y.natAbs ≤ 120000) (hu : 0 ≤ u ∧ u ≤ 1001) : (v + t * (x + y * u)).natAbs < 2 ^ 100 := by
  have h1 : (y * u).natAbs ≤ 120000 * 1001 := by
    rw [Int.natAbs_mul]
    exact Nat.mul_le_mul hy (by omega)
  have h2 : (x + y * u).natAbs ≤ 120000 + 120000 * 1001 := by omega
  have h3 : (t * (x + y * u)).natAbs ≤ 1000 * (120000 + 120000 * 1001) := by
    rw [Int.natAbs_mul]
    exact Nat.mul_le_mul (by omega) h2
  have h4 : (v + t * (x + y * u)).natAbs ≤ 1000 + 1000 * (120000 + 120000 * 1001) := by omega
  exact Nat.lt_of_le_of_lt h4 (by decide)
theorem plain_of (hmix : HMix) : HPlain := by
  intro N low high hN hlow hhigh hlen
  obtain ⟨B, hBe⟩ : ∃ B, B = 10 ^ high := ⟨_, rfl⟩
  rw [← hBe] at hlen ⊢
  have hB : 2 ≤ B ∧ B ≤ 1000 := by
    rw [hBe]
    rcases (by lia : high = 1 ∨ high = 2 ∨ high = 3) with h9 | h9 | h9 <;> rw [h9] <;> decide
  obtain ⟨ls, hls⟩ : ∃ ls, ls = figF 100 B (N / 10 ^ low) := ⟨_, rfl⟩
  rw [← hls] at hlen ⊢
  have h1000 : ∀ d ∈ ls, d < 1000 := fun d hd => by
    rw [hls] at hd
    exact Nat.lt_of_lt_of_le (figF_lt (by lia) _ _ d hd) hB.2
  have hM : valB ls B ls.length = ((N / 10 ^ low : Nat) : Int) := by
    rw [hls]
    exact valB_fig B (by lia) 100 _ (Nat.lt_of_le_of_lt (Nat.div_le_self _ _) (Nat.lt_of_lt_of_le hN (Nat.pow_le_pow_left hB.1 100)))
  obtain ⟨q, hq⟩ := val_pack ls B ls.length
  rw [hM] at hq
  have hb := pow_bound hB
  have e2 : ((B ^ 2 : Nat) : Int) = (B : Int) ^ 2 := by push_cast; rfl
  have e6 : ((B ^ 6 : Nat) : Int) = (B : Int) ^ 6 := by push_cast; rfl
  have hNv : (N : Int) = ((N % 10 ^ low : Nat) : Int) + ((10 ^ low : Nat) : Int) * ((N / 10 ^ low : Nat) : Int) := by
    rw [← Int.natCast_mul, ← Int.natCast_add, Nat.mod_add_div]
  have ht : 1 ≤ ((10 ^ low : Nat) : Int) ∧ ((10 ^ low : Nat) : Int) ≤ 1000 := by
    rcases (by lia : low = 1 ∨ low = 2 ∨ low = 3) with h9 | h9 | h9 <;> rw [h9] <;> decide
  have hv : 0 ≤ ((N % 10 ^ low : Nat) : Int) ∧ ((N % 10 ^ low : Nat) : Int) < 1000 := by
    have := Nat.mod_lt N (y := 10 ^ low) (by lia)
    lia
  obtain ⟨d0, d1, d2, d3⟩ := told_dvd (sumR ls 0 ls.length) (sumR ls 1 ls.length) (sumR ls 2 ls.length) (sumR ls 3 ls.length) (sumR ls 4 ls.length) (sumR ls 5 ls.length) (B : Int) q ((N / 10 ^ low : Nat) : Int) ((N % 10 ^ low : Nat) : Int) ((10 ^ low : Nat) : Int) hq
  have hbd := xs_bound ls hlen h1000
  refine ⟨xsF ls, ysF ls, ⟨fun k hk => ⟨hmix ls hlen h1000 k hk⟩, rfl, rfl, fun i hi => ⟨?_, ?_⟩, fun i hi => ?_, ?_, ?_⟩⟩
  · refine told_bound hv ht (hbd i).1 (hbd i).2 ?_
    unfold unF
    split
    · lia
    split <;> lia
  · rw [hNv]
    rcases (by lia : i = 0 ∨ i = 1 ∨ i = 2 ∨ i = 3) with rfl | rfl | rfl | rfl
    · refine fmod_of_dvd (by show (0 : Int) < ((B - 1 : Nat) : Int); lia) ?_
      rw [show ((dnF B 0 : Nat) : Int) = (B : Int) - 1 by show ((B - 1 : Nat) : Int) = _; lia]
      exact d0
    · refine fmod_of_dvd (by show (0 : Int) < ((B ^ 2 - B + 1 : Nat) : Int); lia) ?_
      rw [show ((dnF B 1 : Nat) : Int) = (B : Int) ^ 2 - B + 1 by show ((B ^ 2 - B + 1 : Nat) : Int) = _; lia]
      exact d1
    · refine fmod_of_dvd (by show (0 : Int) < ((B ^ 2 + B + 1 : Nat) : Int); lia) ?_
      rw [show ((dnF B 2 : Nat) : Int) = (B : Int) ^ 2 + B + 1 by show ((B ^ 2 + B + 1 : Nat) : Int) = _; lia]
      exact d2
    · refine fmod_of_dvd (by show (0 : Int) < ((B + 1 : Nat) : Int); lia) ?_
      rw [show ((dnF B 3 : Nat) : Int) = (B : Int) + 1 by show ((B + 1 : Nat) : Int) = _; lia]
      exact d3
  · have := six_ok (sumR ls 0 ls.length) (sumR ls 1 ls.length) (sumR ls 2 ls.length) (sumR ls 3 ls.length) (sumR ls 4 ls.length) (sumR ls 5 ls.length) i hi
    rw [sixS_eq]
    refine Eq.trans this ?_
    rcases (by lia : i = 0 ∨ i = 1 ∨ i = 2 ∨ i = 3 ∨ i = 4 ∨ i = 5) with rfl | rfl | rfl | rfl | rfl | rfl <;> rfl
  · have tm : ∀ r, r ≤ 5 → 0 ≤ sixS ls r * (B : Int) ^ r ∧ sixS ls r * (B : Int) ^ r ≤ 20000 * 1000000000000000 := fun r hr => by
      have b := sumR_bound ls h1000 r ls.length
      rw [sixS_eq]
      have p1 : ((B ^ r : Nat) : Int) = (B : Int) ^ r := by push_cast; rfl
      have p2 : B ^ r ≤ 1000000000000000 := Nat.le_trans (Nat.pow_le_pow_left hB.2 r) (Nat.le_trans (Nat.pow_le_pow_right (by decide) hr) (by decide))
      rw [← p1]
      exact ⟨Int.mul_nonneg b.1 (by lia), Int.mul_le_mul (by lia) (by lia) (by lia) (by lia)⟩
    have t0 := tm 0 (by decide)
    have t1 := tm 1 (by decide)
    have t2 := tm 2 (by decide)
    have t3 := tm 3 (by decide)
    have t4 := tm 4 (by decide)
    have t5 := tm 5 (by decide)
    have e : packF (sixS ls) B 6 = sixS ls 0 * (B : Int) ^ 0 + sixS ls 1 * (B : Int) ^ 1 + sixS ls 2 * (B : Int) ^ 2 + sixS ls 3 * (B : Int) ^ 3 + sixS ls 4 * (B : Int) ^ 4 + sixS ls 5 * (B : Int) ^ 5 := by
      simp only [packF]
      lia
    have hp : 0 ≤ packF (sixS ls) B 6 ∧ packF (sixS ls) B 6 ≤ 6 * (20000 * 1000000000000000) := by lia
    have hm : (((10 ^ low : Nat) : Int) * packF (sixS ls) B 6).natAbs ≤ 1000 * (6 * (20000 * 1000000000000000)) := by
      rw [Int.natAbs_mul]
      exact Nat.mul_le_mul (by lia) (by lia)
    have hz : (((N % 10 ^ low : Nat) : Int) + ((10 ^ low : Nat) : Int) * packF (sixS ls) B 6).natAbs ≤ 1000 + 1000 * (6 * (20000 * 1000000000000000)) := by omega
    exact Nat.lt_of_le_of_lt hz (by decide)
  · rw [hNv]
    refine fmod_of_dvd (by lia) ⟨-((10 ^ low : Nat) : Int) * q, ?_⟩
    rw [show ((B ^ 6 - 1 : Nat) : Int) = (B : Int) ^ 6 - 1 by lia, hq, packF_six]
    simp only [sixS_eq]
    unfold packS
    grind only
end Mine
end
section
open PySem PySem.Float64
set_option maxRecDepth 100000
set_option maxHeartbeats 8000000
namespace Mine
theorem hmix : HMix := by
  intro ls hl h1000 k hk
  obtain ⟨i0, i1, i2⟩ := mix_is hk hl h1000 ls.length (Nat.le_refl _)
  have b : ∀ c, 0 ≤ colS c k ls ls.length ∧ colS c k ls ls.length ≤ 20000 := fun c => by
    have := colS_bound h1000 c k ls.length
    lia
  obtain ⟨e1, e2⟩ := cols_all ls hk
  have h := mix_ok (b 0) (b 1) (b 2) i0 i1 i2
  rw [e1, e2] at h
  exact h
theorem hplain : HPlain := plain_of hmix
end Mine
end
theorem PySem.Challenge.cw_rl0106_01_holds : PySem.Challenge.rw_rl0106_01.Holds :=
  Mine.final Mine.hplain
