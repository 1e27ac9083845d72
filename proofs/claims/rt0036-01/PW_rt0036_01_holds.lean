import PyProof.Rows.All
import Wide.All
import OpenK.AllK
import Wide.FinOn
import PySem.Challenge.RW_rt0036_01
open PySem PySem.W PyProof.Rows PySem.Calls
set_option Elab.async false
set_option maxRecDepth 100000
set_option maxHeartbeats 4000000
set_option rowWalk.seconds 0
set_option linter.all false
namespace Mine
noncomputable abbrev pr : Program := PySem.Challenge.rw_rt0036_01.row.prog
noncomputable abbrev lo : List Str := [Str.ofString "b2a_base64", Str.ofString "b64encode", Str.ofString "_deduplicate"]
/-- the statements of the text that stand frozen -/
noncomputable def V0 : Program := { pr with main := { pr.main with body := [0, 2, 4, 6, 7, 9, 11, 13, 14, 15, 16, 18, 19, 20, 26, 27, 29, 30, 31, 32, 33, 34].filterMap fun i => pr.main.body[i]? } }
/-- a def of the text as an object -/
noncomputable def fo (i : Nat) (dV kV : Value) (md : Str) (mt cd : Nat) : Obj := match pr.main.body[i]? with
  | some (.FunctionDef n ps b _ _ _ sc _ _ _) => { cls := .type "function", data := .func { name := n, qualname := n, params := ps, body := .stmts b, scope := sc, globals := 3, closure := [], defaults := dV, kwdefaults := kV, pyModule := .str md mt, code := .ref cd } }
  | _ => { cls := .none, data := .dict #[] }
/-- its code -/
noncomputable def co (cells : Bool) (n : Str) (t : Nat) (line a b c d : Int) (r : Nat) (u : Int) : Obj :=
  let cv (k : Nat) : Value := if cells then .none else .ref k
  { cls := .type "code", data := .fields #[.str n t, .str n (t + 1), .str (Str.ofString "/claim/cut.py") (t + 2), .int line 0, .int a 0, .int b 0, .int c 0, .int d 0, .ref r, .bool true, .int 181 0, .ref (r + 1), .none, cv (r + 2), cv (r + 3), .ref (if cells then r + 2 else r + 4), .int u 0, .int line 0, .str (Str.ofString "/claim/cut.py") (u.toNat + 1)] }
noncomputable def en (P : Params) (k : String) (t : Nat) (v : Value) : DictEntry := { hash := PySem.PyData.keyHash P (Str.ofString k), key := .str (Str.ofString k) t, val := v }
/-- what stands frozen -/
noncomputable def K0 : Params → Frag := fun P => (nat_lit 3, { cls := .type "dict", data := .dict (Array.mk (en P "__name__" 165 (.str (Str.ofString "law_rt0036_01") 427) :: en P "__doc__" 166 .none :: en P "__package__" 167 .none :: en P "__loader__" 168 (.builtin "__main__.__loader__#opaque") :: en P "__spec__" 169 .none :: en P "__annotations__" 170 (.ref 6) :: en P "__builtins__" 171 (.ref 4) :: en P "__file__" 173 (.str (Str.ofString "/claim/cut.py") 172) :: en P "__cached__" 174 .none :: en P "_wall" 193 (.ref 21) :: en P "_plain_name" 204 (.ref 28) :: en P "ABCMeta" 230 (.ref 45) :: en P "_ABCLike" 273 (.ref 78) :: en P "_abc_plain_meta" 280 (.ref 87) :: en P "fspath" 292 (.ref 94) :: en P "_check_arg_types" 305 (.ref 101) :: en P "_get_sep" 314 (.ref 108) :: en P "join" 325 (.ref 115) :: en P "splitroot" 334 (.ref 122) :: en P "normpath" 349 (.ref 129) :: en P "_buffer" 359 (.ref 136) :: en P "_truth" 367 (.ref 143) :: en P "_B64" 369 (.bytes #[65, 66, 67, 68, 69, 70, 71, 72, 73, 74, 75, 76, 77, 78, 79, 80, 81, 82, 83, 84, 85, 86, 87, 88, 89, 90, 97, 98, 99, 100, 101, 102, 103, 104, 105, 106, 107, 108, 109, 110, 111, 112, 113, 114, 115, 116, 117, 118, 119, 120, 121, 122, 48, 49, 50, 51, 52, 53, 54, 55, 56, 57, 43, 47] 368) :: en P "b2a_base64" 383 (.ref 151) :: en P "b64encode" 394 (.ref 159) :: en P "_deduplicate" 405 (.ref 167) :: en P "_deduplicate_unhashable" 414 (.ref 174) :: en P "_compare_args_orderless" 426 (.ref 181) :: en P "_law_signs" 434 (.ref 188) :: en P "_law_chain" 440 (.ref 193) :: en P "_law_due" 446 (.ref 198) :: en P "_law_told" 452 (.ref 203) :: en P "_law_row" 458 (.ref 208) :: en P "law" 464 (.ref 213) :: [])) 34 }) ::
  (nat_lit 93, co false (Str.ofString "fspath") 283 35 1 0 0 3 88 290) ::
  (nat_lit 94, fo 9 .none .none (Str.ofString "os") 281 93) ::
  (nat_lit 100, co false (Str.ofString "_check_arg_types") 295 52 1 0 0 7 95 303) ::
  (nat_lit 101, fo 11 .none .none (Str.ofString "cpy313.genericpath") 293 100) ::
  (nat_lit 107, co false (Str.ofString "_get_sep") 308 64 1 0 0 3 102 312) ::
  (nat_lit 108, fo 13 .none .none (Str.ofString "cpy313.posixpath") 306 107) ::
  (nat_lit 114, co false (Str.ofString "join") 315 69 1 0 0 7 109 323) ::
  (nat_lit 115, fo 14 .none .none (Str.ofString "cpy313.posixpath") 306 114) ::
  (nat_lit 121, co false (Str.ofString "splitroot") 326 86 1 0 0 3 116 332) ::
  (nat_lit 122, fo 15 .none .none (Str.ofString "cpy313.posixpath") 306 121) ::
  (nat_lit 128, co false (Str.ofString "normpath") 335 100 1 0 0 3 123 347) ::
  (nat_lit 129, fo 16 .none .none (Str.ofString "cpy313.posixpath") 306 128) ::
  (nat_lit 135, co false (Str.ofString "_buffer") 352 126 1 0 0 3 130 357) ::
  (nat_lit 136, fo 18 .none .none (Str.ofString "binascii") 350 135) ::
  (nat_lit 142, co false (Str.ofString "_truth") 360 133 1 0 0 3 137 365) ::
  (nat_lit 143, fo 19 .none .none (Str.ofString "binascii") 350 142) ::
  (nat_lit 144, { cls := .type "dict", data := .dict #[en P "newline" 370 (.bool true)] 1 }) ::
  (nat_lit 150, co false (Str.ofString "b2a_base64") 371 139 1 1 1 3 145 381) ::
  (nat_lit 151, fo 21 .none (.ref 144) (Str.ofString "binascii") 350 150) ::
  (nat_lit 152, { cls := .type "tuple", data := .seq #[.none] }) ::
  (nat_lit 158, co false (Str.ofString "b64encode") 386 162 2 0 0 3 153 392) ::
  (nat_lit 159, fo 23 (.ref 152) .none (Str.ofString "cpy313.base64") 384 158) ::
  (nat_lit 160, { cls := .type "dict", data := .dict #[en P "unhashable_fallback" 397 (.bool false)] 1 }) ::
  (nat_lit 166, co false (Str.ofString "_deduplicate") 398 169 1 0 1 3 161 403) ::
  (nat_lit 167, fo 25 .none (.ref 160) (Str.ofString "cpy313.typing") 395 166) ::
  (nat_lit 173, co false (Str.ofString "_deduplicate_unhashable") 406 176 1 0 0 3 168 412) ::
  (nat_lit 174, fo 26 .none .none (Str.ofString "cpy313.typing") 395 173) ::
  (nat_lit 180, co false (Str.ofString "_compare_args_orderless") 415 182 2 0 0 3 175 424) ::
  (nat_lit 181, fo 27 .none .none (Str.ofString "cpy313.typing") 395 180) ::
  (nat_lit 187, co false (Str.ofString "_law_signs") 429 193 0 0 0 3 182 432) ::
  (nat_lit 188, fo 29 .none .none (Str.ofString "law_rt0036_01") 427 187) ::
  (nat_lit 192, co true (Str.ofString "_law_chain") 435 195 2 0 0 3 189 438) ::
  (nat_lit 193, fo 30 .none .none (Str.ofString "law_rt0036_01") 427 192) ::
  (nat_lit 197, co true (Str.ofString "_law_due") 441 206 3 0 0 3 194 444) ::
  (nat_lit 198, fo 31 .none .none (Str.ofString "law_rt0036_01") 427 197) ::
  (nat_lit 202, co true (Str.ofString "_law_told") 447 215 2 0 0 3 199 450) ::
  (nat_lit 203, fo 32 .none .none (Str.ofString "law_rt0036_01") 427 202) ::
  (nat_lit 207, co true (Str.ofString "_law_row") 453 223 3 0 0 3 204 456) ::
  (nat_lit 208, fo 33 .none .none (Str.ofString "law_rt0036_01") 427 207) ::
  (nat_lit 212, co true (Str.ofString "law") 459 232 1 0 0 3 209 462) ::
  (nat_lit 213, fo 34 .none .none (Str.ofString "law_rt0036_01") 427 212) :: []
noncomputable abbrev KA : List Addr := nat_lit 3 :: nat_lit 93 :: nat_lit 94 :: nat_lit 100 :: nat_lit 101 :: nat_lit 107 :: nat_lit 108 :: nat_lit 114 :: nat_lit 115 :: nat_lit 121 :: nat_lit 122 :: nat_lit 128 :: nat_lit 129 :: nat_lit 135 :: nat_lit 136 :: nat_lit 142 :: nat_lit 143 :: nat_lit 144 :: nat_lit 150 :: nat_lit 151 :: nat_lit 152 :: nat_lit 158 :: nat_lit 159 :: nat_lit 160 :: nat_lit 166 :: nat_lit 167 :: nat_lit 173 :: nat_lit 174 :: nat_lit 180 :: nat_lit 181 :: nat_lit 187 :: nat_lit 188 :: nat_lit 192 :: nat_lit 193 :: nat_lit 197 :: nat_lit 198 :: nat_lit 202 :: nat_lit 203 :: nat_lit 207 :: nat_lit 208 :: nat_lit 212 :: nat_lit 213 :: []
theorem hk : ∀ P, KA = (K0 P).map (·.1) := fun _ => by kernel_rfl
noncomputable abbrev HK : Hook := kHook K0 KA hk
noncomputable abbrev xt0 : Shared → Bool := fun s => xlAt V0 [] s && recOk PySem.Challenge.rw_rt0036_01.row.toRowW.records s
/-- the whole top, given what the opening leaves (its heap, whatever the system's state is) and the run from there -/
theorem left_of {p q : Program} {loose : List Str} {Xt : Shared → Bool} {α : Type} {f : Shared → α} {g : World → α} {N : Nat} {H : Params → Heap} {gs : Array GenState} {d : Drawn} {k : Nat}
    (o : ∀ w : World, (fencedOpening treeTable p w N).map (fun s => (s.heap, s.gens, s.drawn, s.toks)) = some (H w.params, gs, d, k))
    (r : ∀ w : World, (fun os => (topFrom treeTable p w N ⟨H w.params, gs, d, k, os⟩).map (fun s => (openSeen q loose (importedModules p.main.body) Xt true s, f s))) = fun _ => some (openGood q loose, g w)) :
    LeftO p q loose Xt f g N := fun w => by
  have ho := o w
  have hr := congrFun (r w)
  unfold openEnds
  generalize fencedOpening treeTable p w N = x at ho ⊢
  cases x with
  | none => cases ho
  | some s =>
    cases s with
    | mk a b c t os =>
      cases ho
      exact hr os
theorem left_boot : ∀ w : World, (fencedOpening treeTable pr w 2708).map (fun s => (s.heap, s.gens, s.drawn, s.toks)) = some (boot_heap w.params, Array.mk [], boot_drawn, boot_toks) :=
  boot_open (p := pr) (N := 2708) (by kernel_rfl) (by kernel_rfl) (fun _ => by kernel_rfl)
/-- in the library's twins of topRun and openSeen: half the kernel's work -/
theorem left_run : ∀ (w : World), (fun os => (topFrom treeTable pr w 2708 ⟨boot_heap w.params, Array.mk [], boot_drawn, boot_toks, os⟩).map (fun s => (openSeen V0 lo (importedModules pr.main.body) xt0 true s, HK.obs s))) = fun _ => some (openGood V0 lo, HK.val w) := by
  intro w
  delta topFrom
  rw [PySem.W.Fast.te14082659384304107361, PySem.W.Fast.te4187177175401517315]
  kernel_rfl
theorem left0 : LeftO pr V0 lo xt0 HK.obs HK.val 2708 := left_of left_boot left_run
/-- in the library's twins of wellSaid and what it is made of, each look a check of its own -/
theorem said0 : PySem.Challenge.rw_rt0036_01.wellSaid = true := by
  rw [PySem.W.Fast.te9446332074065402090]
  delta PySem.W.Fast.tw9446332074065402090 PySem.W.Fast.tw17960256430627541270 PySem.W.Fast.tw2436336058641802641 PySem.W.Fast.tw12908688711261696721
  repeat' (with_reducible refine look_both ?_ ?_)
  all_goals decide +kernel
theorem okay0 : (chainsOk V0 && opensWell pr && (frees PySem.Challenge.rw_rt0036_01.row.toRowW && PySem.Challenge.rw_rt0036_01.row.within.isEmpty)) = true := by kernel_rfl
theorem rm0 {a m R : Nat} (h : a + m < R) : a < R := Nat.lt_of_le_of_lt (Nat.le_add_right a m) h
theorem rm {a n m R : Nat} (h : a + m < R) (k : 1 + n ≤ m := by decide) : a + 1 + n < R := by rw [Nat.add_assoc]; exact Nat.lt_of_le_of_lt (Nat.add_le_add_left k a) h
theorem rm3 {a n m R : Nat} (h : a + m < R) (k : 3 + n ≤ m := by decide) : a + 3 + n < R := by rw [Nat.add_assoc]; exact Nat.lt_of_le_of_lt (Nat.add_le_add_left k a) h

/-- a call's contract: from state s it ends, raises nothing, leaves every object as it was -/
def Con (w : World) (f : Addr) (vs : List Value) (kw : List (Str × Value)) (n : Nat) (s : Shared) (Post : Heap → Value → Prop) : Prop :=
  ∀ (dp un : Nat) (gd : Option (List Code)) (outer : List Env) (base : Heap) (mean : ExcName → Option Value) (mg mb : Str → Option Value) (Q E : Value → Shared → Prop),
    Below { handled := none, depth := dp, frames := some outer, guards := gd, units := un } base outer s.heap → (K0 w.params).In s.heap →
    Top V0 (looseW V0 [Str.ofString "b2a_base64", Str.ofString "b64encode", Str.ofString "_deduplicate"]) mean mg mb s.heap →
    dp + n < recursionLimit → un + 8 * n < cLine →
    (∀ r h' tk', (∀ b o, s.heap.get? b = some o → h'.get? b = some o) → Post h' r → Q r { s with heap := h', toks := tk' }) →
    wpAny (model PySem.Challenge.rw_rt0036_01.row.prog w) { handled := none, depth := dp, frames := some outer, guards := gd, units := un } (call (.ref f) vs kw) Q E s

section
variable {prog : Program} {w : World} {A : Around} {s : Shared} {base : Heap} {outer : List Env} {K : Frag}
  {R : Result → Shared → Prop} {name qual : Str} {params : Arguments} {body : List Stmt} {scope : Scope} {dV kV doc pm cdv ct oc : Value} {an od : Option Addr} {osl : Array (Option Value)} {f : Addr} {args : Args} {binds : List (Str × Value)}

/-- into a def's body, all that stands frozen -/
theorem enter_def {p : Program} {loose : List Str} {mean : ExcName → Option Value} {mg mb : Str → Option Value} (B : Below A base outer s.heap) (X : K.In s.heap) (T : Top p loose mean mg mb s.heap)
    (ho : K.lookup f = some ⟨oc, od, .func (fnOf name qual params body scope dV kV doc pm an cdv ct), osl⟩) (hcd : codeIn K cdv qual = true) (hroom : A.depth < recursionLimit)
    (hbind : BindsTo s (fnOf name qual params body scope dV kV doc pm an cdv ct) args binds) (hloc : ∀ y ∈ binds, scope.names.lookup y.1 = some .local)
    (h : ∀ L h₁, L = s.heap.objs.size → Fr s.heap L h₁ (fun y => binds.reverse.lookup y) → News s.heap L h₁ [] →
      wpAny (model prog w) (A.deeper (envOf qual scope L f cdv)) (execs body (envOf qual scope L f cdv))
        (fun fl s' => R (.ok (.ret (match fl with | .ret v => v | _ => .none))) s')
        (fun e s' => wpAny (model prog w) (A.deeper (envOf qual scope L f cdv)) (leaving (envOf qual scope L f cdv) e) (fun _ s'' => R (.error e) s'') (fun e' s'' => R (.error e') s'') s')
        { s with heap := h₁, toks := s.toks + binds.length })
    (hco : scope.isCoroutine = false) (hgen : scope.isGenerator = false) (hk : scope.kind = .function)
    (hcell : ∀ x ∈ scope.names, x.2 ≠ .cell) : codeAny (model prog w) A (.call (.ref f) args) R s := by
  refine codeAny_call_def (fd := fnOf name qual params body scope dV kV doc pm an cdv ct) (body := body) (binds := binds) hroom (X _ _ ho) rfl T.nolimit (codeRec_of X hcd) rfl hbind hcell hloc (fun h₁ hns hk₁ => ?_) hco hgen hk
  exact h s.heap.objs.size h₁ rfl ⟨hns, hk₁, Nat.le_refl _⟩ News.nil

/-- a call by its contract, in a def's own frame -/
theorem con_use {w : World} {vs : List Value} {kw : List (Str × Value)} {n : Nat} {Post : Heap → Value → Prop} {h₀ : Heap} {L : Addr} {m : Str → Option Value} {env : Env} {news : List (Addr × Obj)}
    {dp un : Nat} {gd : Option (List Code)} {mean : ExcName → Option Value} {mg mb : Str → Option Value} {Q E : Value → Shared → Prop}
    (C : Con w f vs kw n s Post) (B : Below { handled := none, depth := dp, frames := some outer, guards := gd, units := un } base outer h₀) (F : Fr h₀ L s.heap m) (N : News h₀ L s.heap news) (X : (K0 w.params).In h₀)
    (T : Top V0 (looseW V0 [Str.ofString "b2a_base64", Str.ofString "b64encode", Str.ofString "_deduplicate"]) mean mg mb h₀)
    (hf : env.frame = some L) (hk : env.scope.kind = .function) (hd : dp + 1 + n < recursionLimit) (hu : un + 3 + 8 * n < cLine)
    (k : ∀ r h' tk', (∀ b o, s.heap.get? b = some o → h'.get? b = some o) → Post h' r → Fr h₀ L h' m → News h₀ L h' news → Q r { s with heap := h', toks := tk' }) :
    wpAny (model PySem.Challenge.rw_rt0036_01.row.prog w) (({ handled := none, depth := dp, frames := some outer, guards := gd, units := un } : Around).deeper env) (call (.ref f) vs kw) Q E s := by
  refine C (dp + 1) (un + 3) gd (env :: outer) base mean mg mb Q E (pushX B F hf hk) (X.keeps F.keep) (T.keeps F.keep) hd hu fun r h' tk' hkp hp => k r h' tk' hkp hp ?_ ?_
  · exact ⟨F.ns.keeps hkp, fun b o e => hkp b o (F.keep b o e), F.above⟩
  · exact fun p hp => ⟨hkp _ _ (N p hp).1, (N p hp).2⟩
end

theorem news_add {h₀ h h' : Heap} {L r : Addr} {o : Obj} {m : Str → Option Value} {news : List (Addr × Obj)} (F : Fr h₀ L h m) (N : News h₀ L h' news) (hr : h.get? r = none) (ho : h'.get? r = some o) : News h₀ L h' ((r, o) :: news) := by
  intro p hp
  rcases List.mem_cons.mp hp with rfl | hp
  · refine ⟨ho, fun e => ?_, ?_⟩
    · obtain ⟨oL, _, _, hL, _⟩ := F.ns
      dsimp only at e
      rw [e, hL] at hr; cases hr
    · cases q : h₀.get? r with
      | none => rfl
      | some o' => have := F.keep _ _ q; rw [hr] at this; cases this
  · exact N p hp
theorem news_ne {h₀ h : Heap} {L r : Addr} {news : List (Addr × Obj)} (N : News h₀ L h news) (hr : h.get? r = none) : ∀ p ∈ news, p.1 ≠ r := fun p hp e => by
  have := (N p hp).1; rw [e, hr] at this; cases this


/-- a place where the walk is to stand still -/
def Halt (P : Prop) : Prop := P
theorem Halt.out {P : Prop} (h : Halt P) : P := h
theorem Halt.go {P : Prop} (h : P) : Halt P := h
theorem fr_name {h₀ h : Heap} {L : Addr} {m : Str → Option Value} (F : Fr h₀ L h m) : ∃ m₀, m₀ = m ∧ Fr h₀ L h m₀ := ⟨m, rfl, F⟩
/-- the frame's map with one name put over it -/
abbrev over (m : Str → Option Value) (x : Str) (u : Option Value) : Str → Option Value := fun y => if y = x then u else m y
theorem over_self (m : Str → Option Value) (x : Str) : m = over m x (m x) := by
  funext y; by_cases h : y = x <;> simp [over, h]
theorem over_over (m : Str → Option Value) (x : Str) (u v : Option Value) : (fun y => if y = x then v else over m x u y) = over m x v := by
  funext y; by_cases h : y = x <;> simp [over, h]
/-- what stands behind a loop's turn -/
def ForPost (h₀ : Heap) (L : Addr) (I : Addr) (oI : Obj) (J : (Str → Option Value) → List (Addr × Obj) → Prop) (s : Shared) (Q : Flow → Shared → Prop) (f : Flow) (s₂ : Shared) : Prop :=
  match f with
  | .ret v => Q (.ret v) s₂
  | .brk => Q .next s₂
  | _ => ∃ h' tk' m' news', s₂ = { s with heap := h', toks := tk' } ∧ Fr h₀ L h' m' ∧ News h₀ L h' ((I, oI) :: news') ∧ (∀ p ∈ news', p.1 ≠ I) ∧ J m' news'

section
variable {prog : Program} {w : World} {A : Around} {E : Value → Shared → Prop} {s : Shared} {h₀ : Heap} {L l : Addr} {m : Str → Option Value} {news news' : List (Addr × Obj)} {n : Nat}
theorem own_list {its : Array Value} (N : News h₀ L s.heap news) (hm : (l, PySem.W.listOf its n) ∈ news) : s.heap.IsList l its := ⟨_, (N _ hm).1, rfl, _, rfl⟩
theorem truthy_nil {Q : Bool → Shared → Prop} (N : News h₀ L s.heap news) (hm : (l, PySem.W.listOf #[] n) ∈ news) (h : Q false { s with toks := s.toks + 1 + 1 }) : wpAny (model prog w) A (truthy (.ref l)) Q E s :=
  wpAny_truthy_list (own_list N hm) (by decide) h
theorem truthy_snoc {p : List Value} {y : Value} {Q : Bool → Shared → Prop} (N : News h₀ L s.heap news) (hm : (l, PySem.W.listOf (p ++ [y]).toArray n) ∈ news) (hz : p.length ≤ 1048576) (h : Q true { s with toks := s.toks + 1 + 1 }) : wpAny (model prog w) A (truthy (.ref l)) Q E s :=
  wpAny_truthy_list (own_list N hm) (by simp; omega) (by
    have e : (!(p ++ [y]).toArray.isEmpty) = true := by simp
    rw [e]; exact h)
theorem sub_snoc {value slice : PySem.Expr} {p : List Value} {y : Value} {u : Tok} {Q : Value → Shared → Prop} (N : News h₀ L s.heap news) (hm : (l, PySem.W.listOf (p ++ [y]).toArray n) ∈ news) (h : Q y s)
    (hs : subscripted slice false (.ref l) (.int (-1) u) = operate [.ref l, .int (-1) u] (getItem (.ref l) (.int (-1) u)) := by with_unfolding_all rfl) : wpAny (model prog w) A (subscriptTail value slice (.ref l) (.int (-1) u)) Q E s :=
  tail_any (own_list N hm).typeIs slot_list_getitem.lookup (wpAny_getItem_list_neg (own_list N hm) (by decide) (by simp; omega) (by decide) (x := y) (by
    have e : (-1 + (((p ++ [y]).toArray.size : Nat) : Int)).toNat = p.length := by simp; omega
    rw [e]; simp) h) hs
theorem kl_last_snoc : ∀ (p : List Value) (y : Value), PySem.W.kl_last (p ++ [y]) = some (p, y)
  | [], y => rfl
  | x :: p, y => by
    show (match PySem.W.kl_last (p ++ [y]) with | some (q, z) => some (x :: q, z) | none => some ([], x)) = _
    rw [kl_last_snoc p y]
theorem pop_snoc {p : List Value} {y : Value} {Q : Value → Shared → Prop} (F : Fr h₀ L s.heap m) (N : News h₀ L s.heap news) (U : Upd l (PySem.W.listOf (p ++ [y]).toArray n) (PySem.W.listOf p.toArray (n + 1)) news news') (hz : p.length ≤ 1048576)
    (h : ∀ h', Fr h₀ L h' m → News h₀ L h' news' → Q y { s with heap := h' }) : wpAny (model prog w) A (call (.builtin "list.pop") [.ref l]) Q E s :=
  PySem.W.kl_pop F N (kl_last_snoc p y) U (by rw [sizeLine_eq]; simp; omega) h
end
theorem strsAre_snoc : ∀ {p : List Value} {y : Value} {ss : List Str}, StrsAre (p ++ [y]) ss → ∃ q d td, y = .str d td ∧ ss = q ++ [d] ∧ StrsAre p q
  | [], y, ss, h => by cases h with | cons d td r => cases r; exact ⟨[], d, td, rfl, rfl, .nil⟩
  | _ :: p, y, ss, h => by
    cases h with
    | cons e te r =>
      obtain ⟨q, d, td, rfl, rfl, hq⟩ := strsAre_snoc r
      exact ⟨e :: q, d, td, rfl, rfl, .cons e te hq⟩
theorem strsAre_push {p : List Value} {ss : List Str} (h : StrsAre p ss) (d : Str) (td : Tok) : StrsAre (p ++ [.str d td]) (ss ++ [d]) := h.append' (.cons d td .nil)
theorem ne2 {a b I : Addr} {o o' : Obj} (h1 : a ≠ I) (h2 : b ≠ I) : ∀ p ∈ [(a, o), (b, o')], p.1 ≠ I := fun p hp => by
  rcases List.mem_cons.mp hp with rfl | hp
  · exact h1
  · rw [List.mem_singleton.mp hp]; exact h2
theorem fold_next {α β : Type} {f : β → α → β} {b : β} {xs : List α} {i : Nat} {c : α} (hc : xs[i]? = some c) : (xs.take (i + 1)).foldl f b = f ((xs.take i).foldl f b) c := by
  rw [List.take_add_one, hc]; simp
section
variable {prog : Program} {w : World} {A : Around} {E : Value → Shared → Prop} {s : Shared} {h₀ : Heap} {L l : Addr} {m : Str → Option Value} {news news' : List (Addr × Obj)} {n : Nat}
theorem truthy_nil2 {Q : Bool → Shared → Prop} (h : Q false { s with toks := s.toks + 1 + 1 }) (N : News h₀ L s.heap news := by k_asm) (hm : (l, PySem.W.listOf #[] n) ∈ news := by walk_at "mem") : wpAny (model prog w) A (truthy (.ref l)) Q E s := truthy_nil N hm h
theorem truthy_snoc2 {p : List Value} {y : Value} {Q : Bool → Shared → Prop} (h : Q true { s with toks := s.toks + 1 + 1 }) (N : News h₀ L s.heap news := by k_asm) (hm : (l, PySem.W.listOf (p ++ [y]).toArray n) ∈ news := by walk_at "mem") (hz : p.length ≤ 1048576 := by omega) : wpAny (model prog w) A (truthy (.ref l)) Q E s := truthy_snoc N hm hz h
theorem sub_snoc2 {value slice : PySem.Expr} {p : List Value} {y : Value} {u : Tok} {Q : Value → Shared → Prop} (h : Q y s) (N : News h₀ L s.heap news := by k_asm) (hm : (l, PySem.W.listOf (p ++ [y]).toArray n) ∈ news := by walk_at "mem")
    (hs : subscripted slice false (.ref l) (.int (-1) u) = operate [.ref l, .int (-1) u] (getItem (.ref l) (.int (-1) u)) := by with_unfolding_all rfl) : wpAny (model prog w) A (subscriptTail value slice (.ref l) (.int (-1) u)) Q E s := sub_snoc N hm h hs
theorem pop_snoc2 {p : List Value} {y : Value} {Q : Value → Shared → Prop} (h : ∀ h', Fr h₀ L h' m → News h₀ L h' news' → Q y { s with heap := h' }) (F : Fr h₀ L s.heap m := by k_asm) (N : News h₀ L s.heap news := by k_asm) (U : Upd l (PySem.W.listOf (p ++ [y]).toArray n) (PySem.W.listOf p.toArray (n + 1)) news news' := by k_upd) (hz : p.length ≤ 1048576 := by omega) :
    wpAny (model prog w) A (call (.builtin "list.pop") [.ref l]) Q E s := pop_snoc F N U hz h
theorem app2 {its : Array Value} {x : Value} {Q : Value → Shared → Prop} (h : ∀ h', Fr h₀ L h' m → News h₀ L h' news' → Q .none { s with heap := h' }) (F : Fr h₀ L s.heap m := by k_asm) (N : News h₀ L s.heap news := by k_asm) (U : Upd l (PySem.W.listOf its n) (PySem.W.listOf (its.push x) (n + 1)) news news' := by k_upd)
    (hsz : its.size ≤ sizeLine := by (rw [sizeLine_eq]; (try simp only [List.size_toArray, List.length_append, List.length_cons, List.length_nil]); omega)) : wpAny (model prog w) A (call (.builtin "list.append") [.ref l, x]) Q E s := PySem.W.append_K F N U h hsz
end
local macro_rules | `(tactic| walk_at $k:str) => if ["exec For Name Name cons nil", "exec For Name Call cons nil", "exec For Name ListComp cons nil", "exec Assign cons ListComp", "eval ListComp", "call type:range", "call ref", "subscriptTail Name BinOp bytes int"].contains k.getString then `(tactic| (with_reducible refine Mine.Halt.out ?_)) else Lean.Macro.throwUnsupported
local macro_rules | `(tactic| walk_at "mem") => `(tactic| first | exact List.Mem.head _ | (refine' List.Mem.tail _ ?_; walk_at "mem"))
local macro_rules | `(tactic| walk_at "truthy ref") => `(tactic| k_dflt (refine' Mine.truthy_nil2 ?_))
local macro_rules | `(tactic| walk_at "truthy ref") => `(tactic| k_dflt (refine' Mine.truthy_snoc2 ?_))
local macro_rules | `(tactic| walk_at "subscriptTail Name UnaryOp ref int") => `(tactic| k_dflt (refine' Mine.sub_snoc2 ?_))
local macro_rules | `(tactic| walk_at "call builtin:list.pop") => `(tactic| (k_dflt (refine' Mine.pop_snoc2 ?_); intro h' F' N'; (try k_sweep)))
local macro_rules | `(tactic| walk_at "call builtin:list.append") => `(tactic| (k_dflt (refine' Mine.app2 ?_); intro h' F' N'; (try k_sweep)))
local macro_rules | `(tactic| omega) => `(tactic| first | lia | omega (config := {}))
section
variable {prog : Program} {w : World} {A : Around} {E : Value → Shared → Prop} {s : Shared}
theorem kind_issub_nested : builtinKind "issubclass.nested" = none := by decide +kernel
theorem plain_issub_nested : plainId "issubclass.nested" = true := by decide +kernel
theorem args_issub_nested_3 (a b c : Value) : argsOk "issubclass.nested" ⟨[a, b, c], []⟩ := by unfold argsOk; kernel_rfl
theorem issub_str_str {k : Value} {dep : Int} {tk : Tok} {s : Shared} {Q : Fin → Shared → Prop} (hk : k = .int dep tk) (hq : Q (.done (.ret (.bool true))) s) : wpAny (model prog w) A (Builtin.«issubclass.nested» ⟨[.type "str", .type "str", k], []⟩) Q E s := by
  subst hk
  have h1 := sub_str_str
  have f2 : isSubtype (.type "type") (.type "type") = pure true := by rw [isSubtype_type]; kernel_rfl
  have h2 : typeOf (.type "str") = pure (.type "type") := by rfl
  have hm : (Value.type "type" == Value.type "type") = true := by decide
  repeat (any_goals (first | assumption | (rw [if_pos hm]) | (rw [h1]) | wp_step))
theorem issub_str_tuple {tp : Addr} {cs r : List Value} {tk : Tok} {s : Shared} {Q : Fin → Shared → Prop}
    (htp : s.heap.get? tp = some { cls := .type "tuple", data := .seq cs.toArray }) (hcs : cs = Value.type "str" :: r)
    (hq : ∀ tk', Q (.done (.ret (.bool true))) { s with toks := tk' }) : wpAny (model prog w) A (Builtin.«issubclass.nested» ⟨[.type "str", .ref tp, .int 0 tk], []⟩) Q E s := by
  cases s with
  | mk h g d t os =>
    have isT : (⟨h, g, d, t, os⟩ : Shared).TypeIs (.ref tp) "tuple" := ⟨_, htp, rfl⟩
    have sub := F.isi_sub_tuple
    repeat (any_goals (first | assumption | wp_step))
    refine wpAny_arrayLoop ?_
    simp only [Option.getD_some, List.toList_toArray, hcs, List.forIn_cons]
    refine wpAny_bind (wpAny_bind (call_function_meets kind_issub_nested plain_issub_nested F.entry_issubclass_nested (args_issub_nested_3 _ _ _) (S := fun _ R s => R (.ok (.ret (.bool true))) s) (fun prog w A R s hs => issub_str_str rfl hs) ?_))
    show wpAny _ _ (truthy (.bool true) >>= _) _ _ _
    refine wpAny_bind (wpAny_pure ?_)
    rw [if_pos rfl]
    repeat (any_goals (first | assumption | wp_step))
    exact hq _
theorem call_issub_str_tuple {tp : Addr} {r : List Value} {s : Shared} {Q : Value → Shared → Prop}
    (htp : s.heap.get? tp = some { cls := .type "tuple", data := .seq (Value.type "str" :: r).toArray })
    (hq : ∀ tk', Q (.bool true) { s with toks := tk' }) : wpAny (model prog w) A (call (.builtin "issubclass") [.type "str", .ref tp]) Q E s :=
  call_issubclass (S := fun A R s => s.heap.get? tp = some { cls := .type "tuple", data := .seq (Value.type "str" :: r).toArray } ∧ ∀ tk', R (.ok (.ret (.bool true))) { s with toks := tk' })
    (fun _ _ _ _ _ hs => issubclass_outer (issub_str_tuple hs.1 rfl hs.2)) ⟨htp, hq⟩
end
theorem get_sep_con {w : World} {s : Shared} {x : Str} {t : Tok} : Con w 108 [.str x t] [] 1 s (fun _ r => ∃ t', r = .str (Str.ofString "/") t') := by
  have hz : PySem.Challenge.rw_rt0036_01 = PySem.Challenge.rw_rt0036_01 := rfl
  unfold Con
  revert hz
  k_fill
  intro _ dp un gd outer base mean mg mb Q E B X T hd hu hQ
  refine wpAny_call ?_
  refine enter_def (binds := [(Str.ofString "path", .str x t)]) B X T (by k_is) (by k_is) (rm0 hd) (BindsTo.of_eq rfl) (locs rfl) (fun L h₁ hL F N => ?_) rfl rfl rfl (by decide)
  dsimp only
  k_fold
  k_steps
  exact hQ _ _ _ F.keep ⟨_, rfl⟩
theorem fspath_con {w : World} {s : Shared} {x : Str} {t : Tok} : Con w 94 [.str x t] [] 1 s (fun _ r => r = .str x t) := by
  have hz : PySem.Challenge.rw_rt0036_01 = PySem.Challenge.rw_rt0036_01 := rfl
  unfold Con
  revert hz
  k_fill
  intro _ dp un gd outer base mean mg mb Q E B X T hd hu hQ
  refine wpAny_call ?_
  refine enter_def (binds := [(Str.ofString "path", .str x t)]) B X T (by k_is) (by k_is) (rm0 hd) (BindsTo.of_eq rfl) (locs rfl) (fun L h₁ hL F N => ?_) rfl rfl rfl (by decide)
  dsimp only
  k_fold
  k_steps
  (rename News _ _ _ _ => N'); (rename Fr _ _ _ _ => F')
  refine call_issub_str_tuple (r := [.type "bytes"]) (N'.get (.head _)) fun tk' => ?_
  k_steps
  exact hQ _ _ _ F'.keep rfl
theorem splitroot_con {w : World} {s : Shared} {x : Str} {t : Tok} (hx : (Txt.slice x none (some 1) != Str.ofString "/") = true) (hlen : x.length ≤ 512) : Con w 122 [.str x t] [] 2 s (fun h r => ∃ p t1 t2, r = .ref p ∧ h.get? p = some { cls := .type "tuple", data := .seq #[.str (Str.ofString "") t1, .str (Str.ofString "") t2, .str x t] } ∧ s.heap.get? p = none) := by
  have hz : PySem.Challenge.rw_rt0036_01 = PySem.Challenge.rw_rt0036_01 := rfl
  unfold Con
  revert hz
  k_fill
  intro _ dp un gd outer base mean mg mb Q E B X T hd hu hQ
  refine wpAny_call ?_
  refine enter_def (binds := [(Str.ofString "p", .str x t)]) B X T (by k_is) (by k_is) (rm0 hd) (BindsTo.of_eq rfl) (locs rfl) (fun L h₁ hL F N => ?_) rfl rfl rfl (by decide)
  dsimp only
  k_fold
  k_steps
  refine con_use fspath_con B F N X T rfl rfl (rm hd) (rm3 hu) (fun r h' tk' hk hp F N => ?_)
  subst hp
  k_steps
  (rename News _ _ _ _ => N'); (rename Fr _ _ _ _ => F')
  exact hQ _ _ _ F'.keep ⟨_, _, _, rfl, N'.get (.head _), N'.fresh (.head _)⟩
/-- iterating xv from s₁ on gives xs -/
def SrcOk {α : Type} (prog : Program) (w : World) (A : Around) (h₀ : Heap) (L : Addr) (news : List (Addr × Obj)) (xv : Value) (s₁ : Shared) (xs : List α) (R : α → Value → Prop) : Prop :=
  ∀ (Q E : Value → Shared → Prop), (∀ (oI : Obj) (fp : List Addr) (St : Nat → Heap → Prop), oI.isFreed = false →
      Walks prog w A s₁.heap.objs.size fp [s₁.heap.objs.size] xs.length (fun i v => ∃ a, xs[i]? = some a ∧ R a v) St → (∀ b ∈ fp, b < s₁.heap.objs.size + 1) → St 0 (s₁.heap.push oI) →
      (∀ i h, St i h → ∃ o, h.get? s₁.heap.objs.size = some o) →
      (∀ i h h' o, St i h → h.get? s₁.heap.objs.size = some o → h'.get? s₁.heap.objs.size = some o → (∀ b o, h₀.get? b = some o → h'.get? b = some o) → News h₀ L h' news → St i h') →
      Q (.ref s₁.heap.objs.size) { s₁ with heap := s₁.heap.push oI }) → wpAny (model prog w) A (pyIter xv) Q E s₁

/-- what an element's or a test's walk leaves -/
def Kept {β : Type} (h₀ : Heap) (L : Addr) (m : Str → Option Value) (led : List (Addr × Obj)) (s₁ : Shared) (G : β → Prop) (y : β) (s₂ : Shared) : Prop :=
  ∃ h' tk, s₂ = { s₁ with heap := h', toks := tk } ∧ Fr h₀ L h' m ∧ News h₀ L h' led ∧ G y
theorem Kept.intro {β : Type} {h₀ h' : Heap} {L : Addr} {m : Str → Option Value} {led led' : List (Addr × Obj)} {s₁ : Shared} {G : β → Prop} {y : β} {tk : Nat} (F : Fr h₀ L h' m) (N : News h₀ L h' led') (hs : ∀ p ∈ led, p ∈ led') (g : G y) :
    Kept h₀ L m led s₁ G y { s₁ with heap := h', toks := tk } := ⟨h', tk, rfl, F, fun p hp => N p (hs p hp), g⟩

inductive Rel2 {α : Type} (R : α → Value → Prop) : List α → List Value → Prop
  | nil : Rel2 R [] []
  | cons {a v l vs} : R a v → Rel2 R l vs → Rel2 R (a :: l) (v :: vs)
theorem Rel2.snoc {α : Type} {R : α → Value → Prop} {a : α} {v : Value} : ∀ {l vs}, Rel2 R l vs → R a v → Rel2 R (l ++ [a]) (vs ++ [v])
  | _, _, .nil, h => .cons h .nil
  | _, _, .cons h₁ t, h => .cons h₁ (Rel2.snoc t h)
theorem Rel2.length {α : Type} {R : α → Value → Prop} : ∀ {l vs}, Rel2 R l vs → vs.length = l.length
  | _, _, .nil => rfl
  | _, _, .cons _ t => by simp [Rel2.length t]
theorem Rel2.get {α : Type} {R : α → Value → Prop} : ∀ {l vs}, Rel2 R l vs → ∀ {i : Nat} {v : Value}, vs[i]? = some v → ∃ a, l[i]? = some a ∧ R a v
  | _, _, .cons h _, 0, v, e => by cases e; exact ⟨_, rfl, h⟩
  | _, _, .cons _ t, i + 1, v, e => by simpa using Rel2.get t (by simpa using e)
theorem Rel2.get' {α : Type} {R : α → Value → Prop} : ∀ {l vs}, Rel2 R l vs → ∀ {i : Nat} {a : α}, l[i]? = some a → ∃ v, vs[i]? = some v ∧ R a v
  | _, _, .cons h _, 0, v, e => by cases e; exact ⟨_, rfl, h⟩
  | _, _, .cons _ t, i + 1, v, e => by simpa using Rel2.get' t (by simpa using e)
def RInt (n : Int) (v : Value) : Prop := ∃ t, v = .int n t
def RStr (x : Str) (v : Value) : Prop := ∃ t, v = .str x t
def RBool (b : Bool) (v : Value) : Prop := v = .bool b
theorem Rel2.ints : ∀ {ns : List Int} {vs}, Rel2 RInt ns vs → IntsAre vs ns
  | _, _, .nil => .nil
  | _, _, .cons ⟨_, e⟩ t => e ▸ .cons _ _ t.ints
theorem Rel2.strs : ∀ {xs : List Str} {vs}, Rel2 RStr xs vs → StrsAre vs xs
  | _, _, .nil => .nil
  | _, _, .cons ⟨_, e⟩ t => e ▸ .cons _ _ t.strs
theorem Rel2.ofInts : ∀ {ns : List Int} {vs}, IntsAre vs ns → Rel2 RInt ns vs
  | _, _, .nil => .nil
  | _, _, .cons _ t r => .cons ⟨t, rfl⟩ (Rel2.ofInts r)
theorem Rel2.ofStrs : ∀ {xs : List Str} {vs}, StrsAre vs xs → Rel2 RStr xs vs
  | _, _, .nil => .nil
  | _, _, .cons _ t r => .cons ⟨t, rfl⟩ (Rel2.ofStrs r)

section
variable {α : Type} {prog : Program} {w : World} {A : Around} {h₀ : Heap} {L : Addr} {m : Str → Option Value} {news : List (Addr × Obj)} {s₁ : Shared}

theorem walks_p {I : Addr} {fp wr : List Addr} {n : Nat} {P P' : Nat → Value → Prop} {St : Nat → Heap → Prop} (W : Walks prog w A I fp wr n P St) (h : ∀ i v, i < n → P i v → P' i v) : Walks prog w A I fp wr n P' St where
  sub := W.sub
  frame := W.frame
  done := W.done
  self := W.self
  item := fun i s Q E hi st hQ => W.item i s Q E hi st fun v h' tk hP => hQ v h' tk (h i v hi hP)

theorem src_list {l : Addr} {ol : Obj} {vs : List Value} {n : Nat} {xs : List α} {R : α → Value → Prop} (hh : A.handled = none) (F : Fr h₀ L s₁.heap m) (N : News h₀ L s₁.heap news) (ho : h₀.get? l = some ol ∨ (l, ol) ∈ news)
    (hc : ol.cls = .type "list") (hd : ol.data = .seq vs.toArray n) (hr : Rel2 R xs vs) : SrcOk prog w A h₀ L news (.ref l) s₁ xs R := fun Q E hQ => by
  have hlo : s₁.heap.get? l = some ol := ho.elim (fun e => F.keep _ _ e) fun hm => (N _ hm).1
  have hls : s₁.heap.IsList l vs.toArray := ⟨ol, hlo, hc, n, hd⟩
  have hlt : l < s₁.heap.objs.size := Heap.lt_size hlo
  refine wpAny_pyIter_list hls (hQ _ _ _ rfl ((show vs.toArray.size = xs.length by rw [List.size_toArray, hr.length]) ▸ walks_p (Walks.list hh s₁.heap.objs.size l (Nat.ne_of_lt hlt) vs.toArray) fun i v _ hv => hr.get (by simpa using hv)) (fun b hb => ?_) ⟨⟨_, Heap.get?_push_size _ rfl, rfl, rfl⟩, hls.push _⟩ (fun i h st => ?_) (fun i h h' o st e e' k N' => ?_))
  · rcases List.mem_cons.mp hb with rfl | hb
    · exact Nat.lt_succ_self _
    · rw [List.mem_singleton.mp hb]; exact Nat.lt_succ_of_lt hlt
  · obtain ⟨o, e, _⟩ := st.1; exact ⟨o, e⟩
  · obtain ⟨o', q, r⟩ := st.1
    rw [e] at q; cases q
    exact ⟨⟨o, e', r⟩, ⟨ol, ho.elim (fun e => k _ _ e) fun hm => (N' _ hm).1, hc, n, hd⟩⟩

theorem src_tuple {l : Addr} {ol : Obj} {vs : List Value} {n : Nat} {xs : List α} {R : α → Value → Prop} (hh : A.handled = none) (F : Fr h₀ L s₁.heap m) (N : News h₀ L s₁.heap news) (ho : h₀.get? l = some ol ∨ (l, ol) ∈ news)
    (hc : ol.cls = .type "tuple") (hd : ol.data = .seq vs.toArray n) (hr : Rel2 R xs vs) : SrcOk prog w A h₀ L news (.ref l) s₁ xs R := fun Q E hQ => by
  have hlo : s₁.heap.get? l = some ol := ho.elim (fun e => F.keep _ _ e) fun hm => (N _ hm).1
  have hls : s₁.heap.IsTuple l vs.toArray := ⟨ol, hlo, hc, n, hd⟩
  have hlt : l < s₁.heap.objs.size := Heap.lt_size hlo
  refine wpAny_pyIter_tuple hls (hQ _ _ _ rfl ((show vs.toArray.size = xs.length by rw [List.size_toArray, hr.length]) ▸ walks_p (Walks.tuple hh s₁.heap.objs.size l (Nat.ne_of_lt hlt) vs.toArray) fun i v _ hv => hr.get (by simpa using hv)) (fun b hb => ?_) ⟨⟨_, Heap.get?_push_size _ rfl, rfl, rfl⟩, ⟨ol, Heap.get?_push_of_some _ hlo, hc, n, hd⟩⟩ (fun i h q => ?_) (fun i h h' o q e e' k N' => ?_))
  · rcases List.mem_cons.mp hb with rfl | hb
    · exact Nat.lt_succ_self _
    · rw [List.mem_singleton.mp hb]; exact Nat.lt_succ_of_lt hlt
  · obtain ⟨o, e, _⟩ := q.1; exact ⟨o, e⟩
  · obtain ⟨o', q', r⟩ := q.1
    rw [e] at q'; cases q'
    exact ⟨⟨o, e', r⟩, ⟨ol, ho.elim (fun e => k _ _ e) fun hm => (N' _ hm).1, hc, n, hd⟩⟩

theorem src_range {r : Addr} {a b c : Int} {t u v : Tok} {n : Nat} (hh : A.handled = none) (hr : IsRange s₁.heap r a b c t u v) (hsm : Builtin.Range.small a b c = true) (hn : Builtin.Range.rangeSize a b c = ((n : Nat) : Int)) :
    SrcOk prog w A h₀ L news (.ref r) s₁ ((List.range n).map fun (i : Nat) => a + (i : Int) * c) RInt := fun Q E hQ => by
  have W : Walks prog w A s₁.heap.objs.size [s₁.heap.objs.size] [s₁.heap.objs.size] n (fun i v => ∃ x, ((List.range n).map fun (i : Nat) => a + (i : Int) * c)[i]? = some x ∧ RInt x v) (fun i h => IsRangeIter h s₁.heap.objs.size (a + (i : Nat) * c) ((n : Int) - (i : Nat)) c) :=
    walks_p (Walks.range hh s₁.heap.objs.size a c n) fun i v hi hv => by
      obtain ⟨t, rfl⟩ := hv
      exact ⟨_, by rw [List.getElem?_map, List.getElem?_range hi]; rfl, t, rfl⟩
  have e : n = ((List.range n).map fun (i : Nat) => a + (i : Int) * c).length := by simp
  refine wpAny_pyIter_range hr hsm (hQ _ [s₁.heap.objs.size] (fun i h => IsRangeIter h s₁.heap.objs.size (a + (i : Nat) * c) ((n : Int) - (i : Nat)) c) rfl (by rw [← e]; exact W) (fun b hb => by rw [List.mem_singleton.mp hb]; exact Nat.lt_succ_self _)
    (by show IsRangeIter _ _ _ _ _; rw [hn]; simpa using Heap.get?_push_size _ rfl) (fun i h q => ⟨_, q⟩) (fun i h h' o q e e' _ _ => by
      have q' : h.get? s₁.heap.objs.size = some _ := q
      show h'.get? _ = some _
      rw [e', ← e]; exact q'))

theorem src_str {x : Str} {t : Tok} (hh : A.handled = none) (ha : x.cps.all (· < 128) = true) : SrcOk prog w A h₀ L news (.str x t) s₁ (x.cps.toList.map fun c => (⟨#[c]⟩ : Str)) RStr := fun Q E hQ => by
  have e : x.cps.size = (x.cps.toList.map fun c => (⟨#[c]⟩ : Str)).length := by simp
  have W : Walks prog w A s₁.heap.objs.size [s₁.heap.objs.size] [s₁.heap.objs.size] x.cps.size (fun i v => ∃ y, (x.cps.toList.map fun c => (⟨#[c]⟩ : Str))[i]? = some y ∧ RStr y v) (fun i h => h.IsStrIter s₁.heap.objs.size "str_ascii_iterator" x t i) :=
    walks_p (Walks.strAscii hh s₁.heap.objs.size x t) fun i v hi hv => by
      obtain ⟨c, u, hc, rfl⟩ := hv
      exact ⟨⟨#[c]⟩, by rw [List.getElem?_map, Array.getElem?_toList, hc]; rfl, u, rfl⟩
  exact wpAny_pyIter_ascii ha (hQ _ [s₁.heap.objs.size] (fun i h => h.IsStrIter s₁.heap.objs.size "str_ascii_iterator" x t i) rfl (by rw [← e]; exact W) (fun b hb => by rw [List.mem_singleton.mp hb]; exact Nat.lt_succ_self _)
    ⟨_, Heap.get?_push_size _ rfl, rfl, rfl⟩ (fun i h q => by obtain ⟨o, e, _⟩ := q; exact ⟨o, e⟩) (fun i h h' o q e e' _ _ => by
      obtain ⟨o', q, r⟩ := q
      rw [e] at q; cases q
      exact ⟨o, e', r⟩))

theorem src_bytes {b : Array UInt8} {t : Tok} (hh : A.handled = none) : SrcOk prog w A h₀ L news (.bytes b t) s₁ (b.toList.map fun c => (c.toNat : Int)) RInt := fun Q E hQ => by
  have e : b.size = (b.toList.map fun c => (c.toNat : Int)).length := by simp
  have W : Walks prog w A s₁.heap.objs.size [s₁.heap.objs.size] [s₁.heap.objs.size] b.size (fun i v => ∃ y, (b.toList.map fun c => (c.toNat : Int))[i]? = some y ∧ RInt y v) (fun i h => PySem.W.KBw.IsBytesIter h s₁.heap.objs.size b t i) :=
    walks_p (PySem.W.KBw.walks hh s₁.heap.objs.size b t) fun i v hi hv => by
      obtain ⟨c, u, hc, rfl⟩ := hv
      exact ⟨_, by rw [List.getElem?_map, Array.getElem?_toList, hc]; rfl, u, rfl⟩
  exact PySem.W.KBw.pyIter_bytes (hQ _ [s₁.heap.objs.size] (fun i h => PySem.W.KBw.IsBytesIter h s₁.heap.objs.size b t i) rfl (by rw [← e]; exact W) (fun b hb => by rw [List.mem_singleton.mp hb]; exact Nat.lt_succ_self _)
    ⟨_, Heap.get?_push_size _ rfl, rfl, rfl⟩ (fun i h q => by obtain ⟨o, e, _⟩ := q; exact ⟨o, e⟩) (fun i h h' o q e e' _ _ => by
      obtain ⟨o', q, r⟩ := q
      rw [e] at q; cases q
      exact ⟨o, e', r⟩))
end

section
variable {α β : Type} {prog : Program} {w : World} {A : Around} {E : Value → Shared → Prop} {s : Shared} {h₀ : Heap} {L : Addr} {m : Str → Option Value} {env : Env}

/-- the state of a comprehension's turn -/
structure Turn (h₀ : Heap) (L : Addr) (m : Str → Option Value) (news : List (Addr × Obj)) (x : Str) (v : Value) (I C D : Addr) (oI oC : Obj) (ys : List Value) (m₂ : Str → Option Value) (h : Heap) : Prop where
  ns : LCg.NsObj oC m₂
  at_ : m₂ x = some v
  fr : Fr h₀ L h m
  led : News h₀ L h ((I, oI) :: (C, oC) :: (D, LCg.lst ys) :: news)
  off : LCg.Off3 I C D news
  ne : (@Ne Nat I C) ∧ (@Ne Nat I D) ∧ (@Ne Nat C D)

/-- the tests of a comprehension over xs, pure: none, or one -/
def Tests (prog : Program) (w : World) (A : Around) (h₀ : Heap) (L : Addr) (m : Str → Option Value) (news : List (Addr × Obj)) (env : Env) (scope : Scope) (cl : List (Str × Addr)) (x : Str) (s₁ : Shared) (xs : List α) (R : α → Value → Prop) (keep : α → Bool) : List PySem.Expr → Prop
  | [] => ∀ a, keep a = true
  | [c] => ∀ a v I C D oI oC ys m₂ h tk E', a ∈ xs → R a v → Turn h₀ L m news x v I C D oI oC ys m₂ h →
      wpAny (model prog w) A (isTrue c (compEnvC scope cl C env) (eval c (compEnvC scope cl C env)))
        (Kept h₀ L m ((I, oI) :: (C, oC) :: (D, LCg.lst ys) :: news) { s₁ with heap := h, toks := tk } (fun b => b = keep a)) E' { s₁ with heap := h, toks := tk }
  | _ => False
/-- tests and element of a comprehension over xs, all pure -/
structure Parts (prog : Program) (w : World) (A : Around) (h₀ : Heap) (L : Addr) (m : Str → Option Value) (news : List (Addr × Obj)) (env : Env) (scope : Scope) (cl : List (Str × Addr)) (x : Str) (ifs : List PySem.Expr) (elt : PySem.Expr) (s₁ : Shared)
    (xs : List α) (R : α → Value → Prop) (keep : α → Bool) (f : α → β) (R' : β → Value → Prop) : Prop where
  tests : Tests prog w A h₀ L m news env scope cl x s₁ xs R keep ifs
  elt : ∀ a v I C D oI oC ys m₂ h tk E', a ∈ xs → keep a = true → R a v → Turn h₀ L m news x v I C D oI oC ys m₂ h →
    wpAny (model prog w) A (eval elt (compEnvC scope cl C env))
      (Kept h₀ L m ((I, oI) :: (C, oC) :: (D, LCg.lst ys) :: news) { s₁ with heap := h, toks := tk } (R' (f a))) E' { s₁ with heap := h, toks := tk }

theorem taken_yes {xs : List α} {keep : α → Bool} {f : α → β} {R' : β → Value → Prop} {i : Nat} {a : α} {ys : List Value} {y : Value} (ha : xs[i]? = some a) (k : keep a = true) (r : Rel2 R' (((xs.take i).filter keep).map f) ys) (g : R' (f a) y) : Rel2 R' (((xs.take (i + 1)).filter keep).map f) (ys ++ [y]) := by
  rw [List.take_add_one, ha, List.filter_append]
  simpa [k] using r.snoc g
theorem taken_no {xs : List α} {keep : α → Bool} {f : α → β} {R' : β → Value → Prop} {i : Nat} {a : α} {ys : List Value} (ha : xs[i]? = some a) (k : keep a = false) (r : Rel2 R' (((xs.take i).filter keep).map f) ys) : Rel2 R' (((xs.take (i + 1)).filter keep).map f) ys := by
  rw [List.take_add_one, ha, List.filter_append]
  simpa [k] using r
/-- the turns of a comprehension without a test, as the kit asks for them -/
theorem turns_none {news : List (Addr × Obj)} {x : Str} {elt : PySem.Expr} {scope : Scope} {cl : List (Str × Addr)} {xs : List α} {R : α → Value → Prop} {keep : α → Bool} {f : α → β} {R' : β → Value → Prop} (hP : Parts prog w A h₀ L m news env scope cl x [] elt s xs R keep f R') :
    ∀ (k i : Nat) (ys : List Value), i + k = xs.length → Rel2 R' (((xs.take i).filter keep).map f) ys →
      LCg.CompRest prog w A h₀ L m env elt x scope cl s (· = news) (fun i v => ∃ a, xs[i]? = some a ∧ R a v) (fun ys nw => nw = news ∧ Rel2 R' ((xs.filter keep).map f) ys) k i ys news
  | 0, i, ys, e, r => by
    rw [show i = xs.length from e, List.take_length] at r
    exact ⟨rfl, r⟩
  | k + 1, i, ys, e, r => LCg.CompRest.succ fun v I oI C oC D m₂ h tk E' ⟨a, ha, ra⟩ o q F N d n =>
    wpAny_mono (hP.elt a v I C D oI oC ys m₂ h tk E' (List.mem_of_getElem? ha) (hP.tests a) ra ⟨o, q, F, N, d, n⟩)
      (fun _ _ ⟨h', tk', e1, F', N', g⟩ => ⟨h', tk', news, e1, F', N', d, rfl, turns_none hP k (i + 1) _ (by omega) (taken_yes ha (hP.tests a) r g)⟩) fun _ _ z => z
/-- the turns of a comprehension with one test -/
theorem turns_one {news : List (Addr × Obj)} {x : Str} {c elt : PySem.Expr} {scope : Scope} {cl : List (Str × Addr)} {xs : List α} {R : α → Value → Prop} {keep : α → Bool} {f : α → β} {R' : β → Value → Prop} (hP : Parts prog w A h₀ L m news env scope cl x [c] elt s xs R keep f R') :
    ∀ (k i : Nat) (ys : List Value), i + k = xs.length → Rel2 R' (((xs.take i).filter keep).map f) ys →
      LCt.CompRestT prog w A h₀ L m env c elt x scope cl s (· = news) (fun i v => ∃ a, xs[i]? = some a ∧ R a v) (fun ys nw => nw = news ∧ Rel2 R' ((xs.filter keep).map f) ys) k i ys news
  | 0, i, ys, e, r => by
    rw [show i = xs.length from e, List.take_length] at r
    exact ⟨rfl, r⟩
  | k + 1, i, ys, e, r => LCt.CompRestT.succ fun v I oI C oC D m₂ h tk E' ⟨a, ha, ra⟩ o q F N d n =>
    wpAny_mono (hP.tests a v I C D oI oC ys m₂ h tk E' (List.mem_of_getElem? ha) ra ⟨o, q, F, N, d, n⟩) (fun b s' hb => by
      obtain ⟨h', tk', rfl, F', N', g⟩ := hb
      cases hka : keep a with
      | false =>
        rw [if_neg (by rw [show b = keep a from g, hka]; exact Bool.false_ne_true)]
        exact ⟨h', tk', news, rfl, F', N', d, rfl, turns_one hP k (i + 1) ys (by omega) (taken_no ha hka r)⟩
      | true =>
        rw [if_pos (by rw [show b = keep a from g, hka])]
        exact wpAny_mono (hP.elt a v I C D oI oC ys m₂ h' tk' E' (List.mem_of_getElem? ha) hka ra ⟨o, q, F', N', d, n⟩)
          (fun _ _ ⟨h'', tk'', e1, F'', N'', g'⟩ => ⟨h'', tk'', news, e1, F'', N'', d, rfl, turns_one hP k (i + 1) _ (by omega) (taken_yes ha hka r g')⟩) fun _ _ z => z) fun _ _ z => z
/-- a comprehension's block over any source: the kit's blocks (no test, one test), the turns by induction -/
theorem lc_block {elt iter : PySem.Expr} {x : Str} {px : Pos} {ifs : List PySem.Expr} {scope : Scope} {cl : List (Str × Addr)} {pos : Pos} {I : Addr} {fp : List Addr} {xs : List α} {R : α → Value → Prop} {keep : α → Bool} {f : α → β} {R' : β → Value → Prop} {St : Nat → Heap → Prop} {news : List (Addr × Obj)}
    {RR : Value → Addr → Result → Shared → Prop}
    (W : Walks prog w A I fp [I] xs.length (fun i v => ∃ a, xs[i]? = some a ∧ R a v) St) (hsz : xs.length ≤ sizeLine) (hIo : ∀ i h, St i h → ∃ o, h.get? I = some o)
    (hSt : ∀ i h h' o, St i h → h.get? I = some o → h'.get? I = some o → (∀ b o, h₀.get? b = some o → h'.get? b = some o) → News h₀ L h' news → St i h')
    (hcell : ∀ y ∈ scope.names, y.2 ≠ .cell) (hkind : scope.kind = .function) (hx : scope.names.lookup x = some .local) (hst : St 0 s.heap) (hfp : ∀ b ∈ fp, b < s.heap.objs.size)
    (F : Fr h₀ L s.heap m) (N : News h₀ L s.heap news) (hIL : L ≠ I) (hI₀ : h₀.get? I = none) (off : ∀ p ∈ news, p.1 ≠ I)
    (hP : Parts prog w A h₀ L m news env scope cl x ifs elt s xs R keep f R')
    (hRR : ∀ D C h tk m' ys, Fr h₀ L h m → News h₀ L h ((D, LCg.lst ys) :: news) → LCg.Off1 D news → h.Ns C m' → h₀.get? C = none → h₀.get? D = none → C ≠ L → D ≠ L → C ≠ D → (∀ p ∈ news, p.1 ≠ C) → Rel2 R' ((xs.filter keep).map f) ys → RR (.ref D) C (.ok .next) { s with heap := h, toks := tk }) :
    wpAny (model prog w) A (newList []) (fun acc s₃ => wpAny (model prog w) A (newFunctionEnv scope env.globals cl [] env.qual none .none (some env)) (fun cenv s₄ =>
      codeAny (model prog w) A (.compStart (.ListComp elt [⟨.Name x px, iter, ifs, 0⟩] scope pos) 0 (.ref I) acc { cenv with scope := relabel scope env }) (RR acc cenv.locals) s₄) E s₃) E s := by
  have st : ∀ i h h' o nw, St i h → h.get? I = some o → h'.get? I = some o → (∀ b o, h₀.get? b = some o → h'.get? b = some o) → News h₀ L h' nw → nw = news → St i h' := fun i h h' o nw a b c d e z => hSt i h h' o a b c d (z ▸ e)
  have fin : ∀ D C h tk m' ys nw, Fr h₀ L h m → News h₀ L h ((D, LCg.lst ys) :: nw) → LCg.Off1 D nw → h.Ns C m' → h₀.get? C = none → h₀.get? D = none → C ≠ L → D ≠ L → C ≠ D → (∀ p ∈ nw, p.1 ≠ C) → (nw = news ∧ Rel2 R' ((xs.filter keep).map f) ys) → RR (.ref D) C (.ok .next) { s with heap := h, toks := tk } :=
    fun D C h tk m' ys nw a b c d e f' g h' i j ⟨z, r⟩ => by subst z; exact hRR D C h tk m' ys a b c d e f' g h' i j r
  match ifs, hP with
  | [], hP => exact LCg.block_U W hsz hIo st hcell hkind hx hst hfp F N hIL hI₀ off rfl (turns_none hP _ 0 [] (Nat.zero_add _) .nil) fin
  | [c], hP => exact LCt.block_T W hsz hIo st hcell hkind hx hst hfp F N hIL hI₀ off rfl (turns_one hP _ 0 [] (Nat.zero_add _) .nil) fin
  | _ :: _ :: _, hP => exact hP.tests.elim
end
section
variable {prog : Program} {w : World} {A : Around} {E : Value → Shared → Prop} {s : Shared} {h₀ : Heap} {L : Addr} {env : Env}

/-- the iterable stands: what is asked of a comprehension's parts and of what comes behind it -/
def CompAny (prog : Program) (w : World) (A : Around) (h₀ : Heap) (L : Addr) (env : Env) (scope : Scope) (cl : List (Str × Addr)) (x : Str) (ifs : List PySem.Expr) (elt : PySem.Expr)
    (Fin : (Str → Option Value) → List (Addr × Obj) → Shared → (List Value → Prop) → Prop) (xv : Value) (s₁ : Shared) : Prop :=
  ∃ (α β : Type) (xs : List α) (R : α → Value → Prop) (keep : α → Bool) (f : α → β) (R' : β → Value → Prop) (m : Str → Option Value) (news : List (Addr × Obj)),
    Fr h₀ L s₁.heap m ∧ News h₀ L s₁.heap news ∧ SrcOk prog w A h₀ L news xv s₁ xs R ∧ xs.length ≤ sizeLine ∧ Parts prog w A h₀ L m news env scope cl x ifs elt s₁ xs R keep f R' ∧ Fin m news s₁ (Rel2 R' ((xs.filter keep).map f))

def FinEv (h₀ : Heap) (L : Addr) (Q : Value → Shared → Prop) (m : Str → Option Value) (news : List (Addr × Obj)) (s₁ : Shared) (G : List Value → Prop) : Prop :=
  ∀ D h tk ys, Fr h₀ L h m → News h₀ L h ((D, LCg.lst ys) :: news) → LCg.Off1 D news → G ys → Q (.ref D) { s₁ with heap := h, toks := tk }
def FinAs (h₀ : Heap) (L : Addr) (y : Str) (Q : Flow → Shared → Prop) (m : Str → Option Value) (news : List (Addr × Obj)) (s₁ : Shared) (G : List Value → Prop) : Prop :=
  ∀ D h tk ys, Fr h₀ L h (fun z => if z = y then some (.ref D) else m z) → News h₀ L h ((D, LCg.lst ys) :: news) → LCg.Off1 D news → G ys → Q .next { s₁ with heap := h, toks := tk }

theorem Parts.other {α β : Type} {m : Str → Option Value} {news : List (Addr × Obj)} {scope : Scope} {cl : List (Str × Addr)} {x : Str} {ifs : List PySem.Expr} {elt : PySem.Expr} {s₁ : Shared} {xs : List α} {R : α → Value → Prop} {keep : α → Bool} {f : α → β} {R' : β → Value → Prop}
    (hP : Parts prog w A h₀ L m news env scope cl x ifs elt s₁ xs R keep f R') (g : Heap) : Parts prog w A h₀ L m news env scope cl x ifs elt { s₁ with heap := g } xs R keep f R' :=
  match ifs, hP with
  | [], hP => ⟨hP.tests, hP.elt⟩
  | [_], hP => ⟨hP.tests, hP.elt⟩
  | _ :: _ :: _, hP => ⟨hP.tests, hP.elt⟩
/-- a ledger where one other object alone has changed -/
theorem news_other {h h' : Heap} {C D : Addr} {o : Obj} {news : List (Addr × Obj)} (N : News h₀ L h ((D, o) :: news)) (sb : Heap.SameBut C h h') (hCD : C ≠ D) (off : ∀ p ∈ news, p.1 ≠ C) : News h₀ L h' ((D, o) :: news) := fun p hp =>
  ⟨sb.extBut _ _ ((List.mem_cons.mp hp).elim (fun e => e ▸ Ne.symm hCD) (off p)) (N p hp).1, (N p hp).2⟩
/-- from the iterable on: the iterator, the list, the frame and the turns -/
theorem comp_runs {elt iter : PySem.Expr} {x : Str} {px : Pos} {ifs : List PySem.Expr} {scope : Scope} {cl : List (Str × Addr)} {pos : Pos} {Fin : (Str → Option Value) → List (Addr × Obj) → Shared → (List Value → Prop) → Prop} {xv : Value} {RR : Value → Addr → Result → Shared → Prop}
    (c : CompAny prog w A h₀ L env scope cl x ifs elt Fin xv s) (hcell : ∀ y ∈ scope.names, y.2 ≠ .cell) (hkind : scope.kind = .function) (hx : scope.names.lookup x = some .local)
    (hRR : ∀ m news G D C h tk m' ys, Fin m news s G → G ys → Fr h₀ L h m → News h₀ L h ((D, LCg.lst ys) :: news) → LCg.Off1 D news → h.Ns C m' → h₀.get? C = none → C ≠ L → C ≠ D → (∀ p ∈ news, p.1 ≠ C) → RR (.ref D) C (.ok .next) { s with heap := h, toks := tk }) :
    wpAny (model prog w) A (pyIter xv) (fun it s₂ => wpAny (model prog w) A (newList []) (fun acc s₃ => wpAny (model prog w) A (newFunctionEnv scope env.globals cl [] env.qual none .none (some env)) (fun cenv s₄ =>
      codeAny (model prog w) A (.compStart (.ListComp elt [⟨.Name x px, iter, ifs, 0⟩] scope pos) 0 it acc { cenv with scope := relabel scope env }) (RR acc cenv.locals) s₄) E s₃) E s₂) E s := by
  obtain ⟨α, β, xs, R, keep, f, R', m, news, F, N, src, few, hP, fin⟩ := c
  refine src _ _ fun oI fp St _ W hfp st ho hSt => ?_
  have on : ∀ b o, s.heap.get? b = some o → (s.heap.push oI).get? b = some o := fun _ _ => Heap.get?_push_of_some _
  exact lc_block W few ho hSt hcell hkind hx st (fun b hb => Heap.size_push (h := s.heap) (o := oI) ▸ hfp b hb) (F.keeps on) (N.grown on) (Nat.ne_of_lt F.ns.lt) (next_is_new F) (fun p hp => Nat.ne_of_lt (Heap.lt_size (N p hp).1)) (hP.other _)
    fun D C h tk m' ys F' N' o1 hn c0 _ cL _ cD oc r => hRR m news _ D C h tk m' ys fin r F' N' o1 hn c0 cL cD oc

theorem lc_eval {elt iter : PySem.Expr} {x : Str} {px : Pos} {ifs : List PySem.Expr} {scope : Scope} {cl : List (Str × Addr)} {pos : Pos} {Q : Value → Shared → Prop}
    (hclos : closureFor scope env = pure cl) (hcell : ∀ y ∈ scope.names, y.2 ≠ .cell) (hkind : scope.kind = .function)
    (hnames : ∀ y ∈ scope.names, y.2 = .local → scope.names.lookup y.1 = some .local) (hx : scope.names.lookup x = some .local)
    (h : wpAny (model prog w) A (eval iter env) (CompAny prog w A h₀ L env scope cl x ifs elt (FinEv h₀ L Q)) E s)
    (hs : ∀ x, foldedSetIterable iter env x = pure x := by intro _; rfl) :
    wpAny (model prog w) A (eval (.ListComp elt [⟨.Name x px, iter, ifs, 0⟩] scope pos) env) Q E s := by
  rw [eval_ListComp]
  exact wpAny_comprehension_free (use := none) rfl hs hclos hkind hnames (wpAny_mono h (fun _ _ c => comp_runs c hcell hkind hx
    fun m news G D C g tk m' ys fin r F N o1 hn c0 cL cD oc => ⟨m', hn, fun g' sb => fin D g' tk ys (F.change sb cL c0) (news_other N sb cD oc) o1 r⟩) fun _ _ z => z)

theorem lc_assign {elt iter : PySem.Expr} {x y : Str} {px py : Pos} {ifs : List PySem.Expr} {scope : Scope} {cl : List (Str × Addr)} {pos spos : Pos} {Q : Flow → Shared → Prop}
    (hsw : swapsWith (.ListComp elt [⟨.Name x px, iter, ifs, 0⟩] scope pos) (some (.Name y py)) spos.line env = pure true)
    (hclos : closureFor scope env = pure cl) (hcell : ∀ z ∈ scope.names, z.2 ≠ .cell) (hkind : scope.kind = .function)
    (hnames : ∀ z ∈ scope.names, z.2 = .local → scope.names.lookup z.1 = some .local) (hx : scope.names.lookup x = some .local)
    (hy : env.kindOf y = some .local) (hp : (env.scope.kind == .class || (env.scope.kind == .module && env.locals != env.globals)) = false)
    (h : wpAny (model prog w) A (eval iter env) (CompAny prog w A h₀ env.locals env scope cl x ifs elt (FinAs h₀ env.locals y Q)) E s)
    (hs : ∀ x, foldedSetIterable iter env x = pure x := by intro _; rfl) :
    wpAny (model prog w) A (exec (.Assign [.Name y py] (.ListComp elt [⟨.Name x px, iter, ifs, 0⟩] scope pos) spos) env) Q E s := by
  have key : ∀ q, wpAny (model prog w) A (comprehension (.ListComp elt [⟨.Name x px, iter, ifs, 0⟩] scope pos) scope env q (newList []) false (eval iter env) (some (assign (.Name y py) env))) (fun _ s' => Q .next s') E s := fun _ =>
    wpAny_comprehension_free rfl hs hclos hkind hnames (wpAny_mono h (fun _ _ c => comp_runs c hcell hkind hx fun m news G D C g tk m' ys fin r F N o1 hn c0 cL cD oc =>
      wpAny_assign_Name (wpAny_storeName_local hy F.ns (fun g₂ hn₂ sb₂ => by
        have up : ∀ p ∈ (D, LCg.lst ys) :: news, g₂.get? p.1 = some p.2 := fun p hp => sb₂.extBut _ _ (N p hp).2.1 (N p hp).1
        have F₂ : Fr h₀ env.locals g₂ (fun z => if z = y then some (.ref D) else m z) := ⟨hn₂, fun b o e => sb₂.extBut b o (fun q => absurd (q ▸ e : h₀.get? env.locals = some o) (by rw [Heap.get?_none_of_le F.above]; exact nofun)) (F.keep b o e), F.above⟩
        exact ⟨m', hn.sameBut sb₂ cL, fun g' sb => fin D g' _ ys (F₂.change sb cL c0) (news_other (fun p hp => ⟨up p hp, (N p hp).2⟩) sb cD oc) o1 r⟩) hp)) fun _ _ z => z)
  rw [exec_Assign_Name_used _ _ _ _ hsw]
  exact wpAny_bind (wpAny_standAt (wpAny_bind (wpAny_bind (wpAny_mono (key _) (fun _ _ q => wpAny_pure (wpAny_pure q)) fun _ _ z => z))))

/-- no test -/
theorem Parts.plain {α β : Type} {m : Str → Option Value} {news : List (Addr × Obj)} {scope : Scope} {cl : List (Str × Addr)} {x : Str} {elt : PySem.Expr} {s₁ : Shared} {xs : List α} {R : α → Value → Prop} {f : α → β} {R' : β → Value → Prop}
    (helt : ∀ a v I C D oI oC ys m₂ h tk E', a ∈ xs → R a v → Turn h₀ L m news x v I C D oI oC ys m₂ h →
      wpAny (model prog w) A (eval elt (compEnvC scope cl C env))
        (Kept h₀ L m ((I, oI) :: (C, oC) :: (D, LCg.lst ys) :: news) { s₁ with heap := h, toks := tk } (R' (f a))) E' { s₁ with heap := h, toks := tk }) :
    Parts prog w A h₀ L m news env scope cl x [] elt s₁ xs R (fun _ => true) f R' where
  tests := fun _ => rfl
  elt := fun a v I C D oI oC ys m₂ h tk E' ha _ hR T => helt a v I C D oI oC ys m₂ h tk E' ha hR T

theorem CompAny.plain {α β : Type} {scope : Scope} {cl : List (Str × Addr)} {x : Str} {elt : PySem.Expr} {Fin : (Str → Option Value) → List (Addr × Obj) → Shared → (List Value → Prop) → Prop} {xv : Value} {s₁ : Shared}
    {m : Str → Option Value} {news : List (Addr × Obj)} {R : α → Value → Prop} (xs : List α) (f : α → β) (R' : β → Value → Prop)
    (F : Fr h₀ L s₁.heap m) (N : News h₀ L s₁.heap news) (hsrc : SrcOk prog w A h₀ L news xv s₁ xs R) (hsz : xs.length ≤ sizeLine)
    (helt : ∀ a v I C D oI oC ys m₂ h tk E', a ∈ xs → R a v → Turn h₀ L m news x v I C D oI oC ys m₂ h →
      wpAny (model prog w) A (eval elt (compEnvC scope cl C env))
        (Kept h₀ L m ((I, oI) :: (C, oC) :: (D, LCg.lst ys) :: news) { s₁ with heap := h, toks := tk } (R' (f a))) E' { s₁ with heap := h, toks := tk })
    (fin : Fin m news s₁ (Rel2 R' (xs.map f))) : CompAny prog w A h₀ L env scope cl x [] elt Fin xv s₁ :=
  ⟨α, β, xs, R, fun _ => true, f, R', m, news, F, N, hsrc, hsz, Parts.plain helt, by rw [List.filter_eq_self.mpr (fun _ _ => rfl)]; exact fin⟩
end
theorem news_put {h₀ h : Heap} {L : Addr} {p : Addr × Obj} {l : List (Addr × Obj)} (hp : h.get? p.1 = some p.2 ∧ p.1 ≠ L ∧ h₀.get? p.1 = none) (N : News h₀ L h l) : News h₀ L h (p :: l) := fun x hx => by
  cases hx with
  | head => exact hp
  | tail _ hx => exact N x hx
theorem news_moved {h₀ h h' : Heap} {L : Addr} {l : List (Addr × Obj)} (N : News h₀ L h l) (k : ∀ p ∈ l, h.get? p.1 = some p.2 → h'.get? p.1 = some p.2) : News h₀ L h' l := fun p hp => ⟨k p hp (N p hp).1, (N p hp).2⟩
theorem fr_new {h₀ h : Heap} {L a : Addr} {m : Str → Option Value} (F : Fr h₀ L h m) (ha : h.objs.size ≤ a) : h₀.get? a = none := Heap.get?_none_of_le (Nat.le_trans F.above (Nat.le_trans (Nat.le_of_lt F.ns.lt) ha))
section
variable {prog : Program} {w : World} {A : Around} {E : Value → Shared → Prop} {s : Shared} {env : Env}
/-- a comprehension's list and its frame, just made: the list where the heap ended, the frame right behind -/
theorem comp_begin {e : PySem.Expr} {scope : Scope} {cl : List (Str × Addr)} {it : Value} {RR : Value → Addr → Result → Shared → Prop} (hcell : ∀ y ∈ scope.names, y.2 ≠ .cell) (hkind : scope.kind = .function)
    (go : ∀ (h : Heap) (tk C : Nat) (mC : Str → Option Value), C = s.heap.objs.size + 1 → (∀ b o, s.heap.get? b = some o → h.get? b = some o) → h.get? s.heap.objs.size = some (LCg.lst []) → h.Ns C mC →
      codeAny (model prog w) A (.compStart e 0 it (.ref s.heap.objs.size) (compEnvC scope cl C env)) (RR (.ref s.heap.objs.size) C) { s with heap := h, toks := tk }) :
    wpAny (model prog w) A (newList []) (fun acc s₃ => wpAny (model prog w) A (newFunctionEnv scope env.globals cl [] env.qual none .none (some env)) (fun cenv s₄ =>
      codeAny (model prog w) A (.compStart e 0 it acc { cenv with scope := relabel scope env }) (RR acc cenv.locals) s₄) E s₃) E s :=
  wpAny_newObj_type (wpAny_newFunctionEnv hcell (fun y hy => by cases hy) (fun h hn hs => by
    have size : (s.heap.push { cls := .type "list", dict := none, data := .seq ([] : List Value).toArray }).objs.size = s.heap.objs.size + 1 := Heap.size_push ..
    have near : ∀ b, b < s.heap.objs.size + 1 → b ≠ (s.heap.push { cls := .type "list", dict := none, data := .seq ([] : List Value).toArray }).objs.size := fun b hb e => Nat.lt_irrefl _ (size ▸ e ▸ hb)
    exact go h _ _ _ size (fun b o e => hs.extBut b o (near b (Nat.lt_succ_of_lt (Heap.lt_size e))) (Heap.get?_push_of_some _ (Heap.get?_push_of_some _ e)))
      (hs.extBut _ _ (near _ (Nat.lt_succ_self _)) (Heap.get?_push_of_some _ (Heap.get?_push_size _ rfl))) hn) hkind)
end
section
variable {h₀ h h₂ h₃ : Heap} {L I C D : Addr} {m mC : Str → Option Value} {oI o : Obj} {news : List (Addr × Obj)}
/-- the ledger of a turn: the iterator has moved, then a name of the comprehension's frame was bound -/
theorem turn_led (F : Fr h₀ L h m) (N : News h₀ L h ((D, o) :: news)) (k : ∀ b o, b ∉ [I] → h.get? b = some o → h₂.get? b = some o) (sb : Heap.SameBut C h₂ h₃) (hn : h₃.Ns C mC) (hI : h₃.get? I = some oI)
    (nI : I ≠ L ∧ h₀.get? I = none) (nC : C ≠ L ∧ h₀.get? C = none) (far : ∀ p ∈ (D, o) :: news, p.1 ≠ I ∧ p.1 ≠ C) :
    ∃ oC, LCg.NsObj oC mC ∧ Fr h₀ L h₃ m ∧ News h₀ L h₃ ((I, oI) :: (C, oC) :: (D, o) :: news) := by
  obtain ⟨oC, eC, q⟩ := LCg.ns_obj hn
  exact ⟨oC, q, (LCg.fr_but F k (Ne.symm nI.1) nI.2).change sb nC.1 nC.2, news_put ⟨hI, nI⟩ (news_put ⟨eC, nC⟩ (news_moved N fun p hp e => sb.extBut _ _ (far p hp).2 (k _ _ (fun hm => (far p hp).1 (List.mem_singleton.mp hm)) e)))⟩
/-- the ledger behind an append -/
theorem led_snoc {ys : List Value} {y : Value} (N : News h₀ L h ((D, LCg.lst ys) :: news)) (sb : Heap.SameBut D h h₂) (hD : h₂.get? D = some { cls := .type "list", data := .seq (ys.toArray.push y) (ys.length + 1) }) (off : ∀ p ∈ news, p.1 ≠ D) :
    News h₀ L h₂ ((D, LCg.lst (ys ++ [y])) :: news) :=
  news_put ⟨hD.trans (congrArg some (LCg.lst_snoc ys y)), (N _ List.mem_cons_self).2⟩ (news_moved (fun p hp => N p (List.mem_cons_of_mem _ hp)) fun p hp e => sb.extBut _ _ (off p hp) e)
end
section
variable {prog : Program} {w : World} {A : Around} {E : Value → Shared → Prop} {s : Shared} {env : Env} {h₀ : Heap} {x : Str} {px pos : Pos} {iter : PySem.Expr} {body : List Stmt} {Q : Flow → Shared → Prop}

def ForAt (prog : Program) (w : World) (A : Around) (h₀ : Heap) (env : Env) (x : Str) (body : List Stmt) (Q : Flow → Shared → Prop) (E : Value → Shared → Prop) (xv : Value) (s₁ : Shared) : Prop :=
  ∃ (α : Type) (xs : List α) (R : α → Value → Prop) (m : Str → Option Value) (news news₀ : List (Addr × Obj)) (J : Nat → (Str → Option Value) → List (Addr × Obj) → Prop),
    Fr h₀ env.locals s₁.heap m ∧ News h₀ env.locals s₁.heap news ∧ SrcOk prog w A h₀ env.locals news₀ xv s₁ xs R ∧ (∀ i m₁ n₁, J i m₁ n₁ → ∀ p ∈ news₀, p ∈ n₁) ∧ J 0 m news ∧
    (∀ i a v m₁ news₁ h tk I oI, xs[i]? = some a → R a v → J i m₁ news₁ → Fr h₀ env.locals h (fun y => if y = x then some v else m₁ y) → News h₀ env.locals h ((I, oI) :: news₁) → (∀ p ∈ news₁, p.1 ≠ I) →
      wpAny (model prog w) A (execs body env) (ForPost h₀ env.locals I oI (J (i + 1)) s₁ Q) E { s₁ with heap := h, toks := tk }) ∧
    (∀ m₁ news₁ h tk, J xs.length m₁ news₁ → Fr h₀ env.locals h m₁ → News h₀ env.locals h news₁ → Q .next { s₁ with heap := h, toks := tk })

theorem ForAt.intro {α : Type} {xv : Value} {s₁ : Shared} {R : α → Value → Prop} {m : Str → Option Value} {news : List (Addr × Obj)} (xs : List α) (news₀ : List (Addr × Obj)) (J : Nat → (Str → Option Value) → List (Addr × Obj) → Prop)
    (F : Fr h₀ env.locals s₁.heap m) (N : News h₀ env.locals s₁.heap news) (hsrc : SrcOk prog w A h₀ env.locals news₀ xv s₁ xs R) (hfix : ∀ i m₁ n₁, J i m₁ n₁ → ∀ p ∈ news₀, p ∈ n₁) (hJ : J 0 m news)
    (turn : ∀ i a v m₁ news₁ h tk I oI, xs[i]? = some a → R a v → J i m₁ news₁ → Fr h₀ env.locals h (fun y => if y = x then some v else m₁ y) → News h₀ env.locals h ((I, oI) :: news₁) → (∀ p ∈ news₁, p.1 ≠ I) →
      wpAny (model prog w) A (execs body env) (ForPost h₀ env.locals I oI (J (i + 1)) s₁ Q) E { s₁ with heap := h, toks := tk })
    (done : ∀ m₁ news₁ h tk, J xs.length m₁ news₁ → Fr h₀ env.locals h m₁ → News h₀ env.locals h news₁ → Q .next { s₁ with heap := h, toks := tk }) : ForAt prog w A h₀ env x body Q E xv s₁ :=
  ⟨α, xs, R, m, news, news₀, J, F, N, hsrc, hfix, hJ, turn, done⟩

theorem for_src (hx : env.kindOf x = some .local) (hp : (env.scope.kind == .class || (env.scope.kind == .module && env.locals != env.globals)) = false)
    (h : wpAny (model prog w) A (eval iter env) (ForAt prog w A h₀ env x body Q E) E s)
    (hs : ∀ x, foldedSetIterable iter env x = pure x := by intro _; rfl)
    (hE : PassesOwn (model prog w) A env E := by passes_own) :
    wpAny (model prog w) A (exec (.For (.Name x px) iter body [] pos) env) Q E s := by
  refine wpAny_For (wpAny_mono h (fun xv s₁ h₁ => ?_) fun _ _ e => e) hs
  obtain ⟨α, xs, R, m, news, news₀, J, F, N, hsrc, hfix, hJ, turn, done⟩ := h₁
  refine hsrc _ _ fun oI fp St hfree W hfp hst hIo hSt => ?_
  have up : ∀ b o, s₁.heap.get? b = some o → (s₁.heap.push oI).get? b = some o := fun b o e => Heap.get?_push_of_some _ e
  have hI₀ : h₀.get? s₁.heap.objs.size = none := next_is_new F
  have hIL : env.locals ≠ s₁.heap.objs.size := Nat.ne_of_lt F.ns.lt
  have hIf : s₁.heap.objs.size ∈ fp := W.sub _ (List.mem_singleton.mpr rfl)
  refine codeAny_forLoop
    (fun k s' => ∃ h' tk i m' news', s' = { s₁ with heap := h', toks := tk } ∧ i ≤ xs.length ∧ k = xs.length + 1 - i ∧ St i h' ∧ Fr h₀ env.locals h' m' ∧ News h₀ env.locals h' news' ∧ (∀ p ∈ news', p.1 ≠ s₁.heap.objs.size) ∧ J i m' news') ?_ (xs.length + 1)
    ⟨s₁.heap.push oI, s₁.toks, 0, m, news, rfl, Nat.zero_le _, rfl, hst, F.keeps up, N.grown up, fun p hp => Nat.ne_of_lt (Heap.lt_size (N p hp).1), hJ⟩
  rintro k s' ⟨h', tk, i, m', news', rfl, hi, rfl, hst', F', N', hnI, hJ'⟩
  by_cases hlt : i < xs.length
  · refine W.item i _ _ _ hlt hst' fun v h₂ tk₂ hPv hst₂ hk₂ => ?_
    obtain ⟨a, ha, hRa⟩ := hPv
    have F₂ : Fr h₀ env.locals h₂ m' := LCg.fr_but F' hk₂ hIL hI₀
    have N₂ : News h₀ env.locals h₂ news' := LCg.news_but N' hk₂ hnI
    refine wpAny_assign_Name (wpAny_storeName_local hx F₂.ns (fun h₃ hn₃ hs₃ => ?_) hp)
    have hL₀ : h₀.get? env.locals = none := Heap.get?_none_of_le F'.above
    have F₃ : Fr h₀ env.locals h₃ (fun y => if y = x then some v else m' y) := F₂.set hn₃ hs₃
    have N₃ : News h₀ env.locals h₃ news' := N₂.set hs₃
    obtain ⟨oJ, heJ⟩ := hIo _ _ hst₂
    have heJ₃ : h₃.get? s₁.heap.objs.size = some oJ := hs₃.extBut _ _ (Ne.symm hIL) heJ
    have N₄ : News h₀ env.locals h₃ ((s₁.heap.objs.size, oJ) :: news') := fun p hp => by
      rcases List.mem_cons.mp hp with rfl | hp
      · exact ⟨heJ₃, Ne.symm hIL, hI₀⟩
      · exact N₃ p hp
    refine wpAny_mono (wpAny_passesOwn hE (turn i a v m' news' h₃ _ _ oJ ha hRa hJ' F₃ N₄ hnI)) (fun f s₃ p => ?_) fun _ _ e => e
    have fin : (∃ h' tk' m' news', s₃ = { s₁ with heap := h', toks := tk' } ∧ Fr h₀ env.locals h' m' ∧ News h₀ env.locals h' ((s₁.heap.objs.size, oJ) :: news') ∧ (∀ p ∈ news', p.1 ≠ s₁.heap.objs.size) ∧ J (i + 1) m' news') →
        ∃ m, m < xs.length + 1 - i ∧ ∃ h' tk i m' news', s₃ = { s₁ with heap := h', toks := tk } ∧ i ≤ xs.length ∧ m = xs.length + 1 - i ∧ St i h' ∧ Fr h₀ env.locals h' m' ∧ News h₀ env.locals h' news' ∧ (∀ p ∈ news', p.1 ≠ s₁.heap.objs.size) ∧ J i m' news' := by
      rintro ⟨h₅, tk₅, m₅, news₅, rfl, F₅, N₅, hn₅, hJ₅⟩
      refine ⟨xs.length + 1 - (i + 1), by omega, h₅, tk₅, i + 1, m₅, news₅, rfl, hlt, rfl, ?_, F₅, fun p hp => N₅ p (List.mem_cons_of_mem _ hp), hn₅, hJ₅⟩
      exact hSt _ _ _ _ hst₂ heJ (N₅ _ List.mem_cons_self).1 F₅.keep fun p hp => N₅ p (List.mem_cons_of_mem _ (hfix _ _ _ hJ₅ p hp))
    cases f with
    | ret v => exact p
    | brk => exact p
    | next => exact fin p
    | cont => exact fin p
  · obtain rfl : i = xs.length := Nat.le_antisymm hi (Nat.not_lt.mp hlt)
    refine W.done _ _ _ hst' fun h₂ tk₂ hk₂ => wpAny_execs_nil ?_
    exact done m' news' h₂ tk₂ hJ' (LCg.fr_but F' hk₂ hIL hI₀) (LCg.news_but N' hk₂ hnI)
end
/-- a name of the frame's that is known may be written out -/
theorem fr_over {h₀ h : Heap} {L : Addr} {m : Str → Option Value} {x : Str} {u : Option Value} (F : Fr h₀ L h m) (e : m x = u) : Fr h₀ L h (over m x u) := by
  rw [← e, ← over_self]; exact F
theorem over_eq {m : Str → Option Value} {x : Str} {u : Option Value} (h : m x = u) : over m x u = m := by rw [← h, ← over_self]
theorem over4 {m : Str → Option Value} {a b c d : Str} {u1 u2 u3 u4 : Option Value} (h1 : m a = u1) (h2 : m b = u2) (h3 : m c = u3) (h4 : m d = u4) : m = over (over (over (over m a u1) b u2) c u3) d u4 := by
  rw [over_eq h1, over_eq h2, over_eq h3, over_eq h4]
section
variable {prog : Program} {w : World} {A : Around} {E : Value → Shared → Prop} {s : Shared} {h₀ : Heap} {L l b : Addr} {m : Str → Option Value} {news : List (Addr × Obj)}
theorem add_own {vs ws : List Value} {n n2 : Nat} {Q : Value → Shared → Prop} (F : Fr h₀ L s.heap m) (N : News h₀ L s.heap news) (hl : (l, PySem.W.listOf vs.toArray n) ∈ news) (hb : (b, PySem.W.listOf ws.toArray n2) ∈ news) (hz : vs.length + ws.length ≤ 1048576)
    (h : ∀ r h', Fr h₀ L h' m → News h₀ L h' ((r, PySem.W.listOf (vs ++ ws).toArray 0) :: news) → (∀ p ∈ news, p.1 < r) → Q (.ref r) { s with heap := h' }) : wpAny (model prog w) A (binaryOp .Add (.ref l) (.ref b)) Q E s :=
  add_lists (hsz := by rw [sizeLine_eq]; omega) F N (own_list N hl) (own_list N hb) fun h' F' N' => h _ h' F' N' fun p hp => Heap.lt_size (N p hp).1
end
theorem news_one {h₀ h : Heap} {L : Addr} {l : List (Addr × Obj)} {p : Addr × Obj} (N : News h₀ L h l) (h1 : p ∈ l) : News h₀ L h [p] := fun x hx => by rw [List.mem_singleton.mp hx]; exact N _ h1
theorem news_two {h₀ h : Heap} {L : Addr} {l : List (Addr × Obj)} {p q : Addr × Obj} (N : News h₀ L h l) (h1 : p ∈ l) (h2 : q ∈ l) : News h₀ L h [p, q] := fun x hx => by
  rcases List.mem_cons.mp hx with rfl | hx
  · exact N _ h1
  · rw [List.mem_singleton.mp hx]; exact N _ h2
theorem ne1 {a I : Addr} {o : Obj} (h1 : @Ne Nat a I) : ∀ p ∈ [(a, o)], p.1 ≠ I := fun p hp => by rw [List.mem_singleton.mp hp]; exact h1
theorem ne_of_gt' {a b : Nat} (h : a < b) : b ≠ a := Nat.ne_of_gt h
theorem over1 {m : Str → Option Value} {a : Str} {u1 : Option Value} (h1 : m a = u1) : m = over m a u1 := by rw [over_eq h1]
theorem over2 {m : Str → Option Value} {a b : Str} {u1 u2 : Option Value} (h1 : m a = u1) (h2 : m b = u2) : m = over (over m a u1) b u2 := by rw [over_eq h1, over_eq h2]
theorem over3 {m : Str → Option Value} {a b c : Str} {u1 u2 u3 : Option Value} (h1 : m a = u1) (h2 : m b = u2) (h3 : m c = u3) : m = over (over (over m a u1) b u2) c u3 := by rw [over_eq h1, over_eq h2, over_eq h3]
def b64sign (n : Int) : Int := ("ABCDEFGHIJKLMNOPQRSTUVWXYZabcdefghijklmnopqrstuvwxyz0123456789+/".toList.map fun c => (c.toNat : Int)).getD n.toNat 0
def b64bytes : Array UInt8 := #[65, 66, 67, 68, 69, 70, 71, 72, 73, 74, 75, 76, 77, 78, 79, 80, 81, 82, 83, 84, 85, 86, 87, 88, 89, 90, 97, 98, 99, 100, 101, 102, 103, 104, 105, 106, 107, 108, 109, 110, 111, 112, 113, 114, 115, 116, 117, 118, 119, 120, 121, 122, 48, 49, 50, 51, 52, 53, 54, 55, 56, 57, 43, 47]
theorem size_of_list {α : Type} {vs : Array α} {ws : List α} {n : Nat} (h : vs.toList = ws) (e : ws.length = n) : vs.size = n := by rw [← e, ← h, Array.length_toList]
section
variable {prog : Program} {w : World} {A : Around} {E : Value → Shared → Prop} {s : Shared}
theorem b64_ints : PySem.W.KBw.bInts b64bytes = "ABCDEFGHIJKLMNOPQRSTUVWXYZabcdefghijklmnopqrstuvwxyz0123456789+/".toList.map fun c => (c.toNat : Int) := by decide +kernel
theorem b64_item {i j : Int} {t ui : Tok} {value slice : PySem.Expr} {Q : Value → Shared → Prop} (e : i = j) (h0 : 0 ≤ j) (h1 : j < 64) (h : ∀ t' k, Q (.int (b64sign j) t') { s with toks := k })
    (hs : subscripted slice false (.bytes b64bytes t) (.int i ui) = operate [.bytes b64bytes t, .int i ui] (getItem (.bytes b64bytes t) (.int i ui)) := by with_unfolding_all rfl)
    (ht : ∀ r, letTemporaryGo value (.bytes b64bytes t) r = pure () := by intro _; with_unfolding_all rfl) : wpAny (model prog w) A (subscriptTail value slice (.bytes b64bytes t) (.int i ui)) Q E s := by
  subst e
  exact PySem.W.KBw.item_K b64_ints (by decide) h0 (by rw [show (("ABCDEFGHIJKLMNOPQRSTUVWXYZabcdefghijklmnopqrstuvwxyz0123456789+/".toList.map fun c => (c.toNat : Int)).length : Int) = 64 by decide +kernel]; exact h1) (fun t' k _ _ => h t' k) hs ht
end
theorem b64sign_in (n : Int) : 0 ≤ b64sign n ∧ b64sign n < 256 := by
  have h : ∀ k ∈ ("ABCDEFGHIJKLMNOPQRSTUVWXYZabcdefghijklmnopqrstuvwxyz0123456789+/".toList.map fun c => (c.toNat : Int)), 0 ≤ k ∧ k < 256 := by decide +kernel
  exact PySem.W.KBw.getD_in (j := n.toNat) h
/-- the codes of the signs that a few octets are written in -/
def b64of : List Int → List Int
  | [a] => [b64sign (a / 4), b64sign (a % 4 * 16), 61, 61]
  | [a, b] => [b64sign (a / 4), b64sign (a % 4 * 16 + b / 16), b64sign (b % 16 * 4), 61]
  | [a, b, c] => [b64sign (a / 4), b64sign (a % 4 * 16 + b / 16), b64sign (b % 16 * 4 + c / 64), b64sign (c % 64)]
  | _ => []
theorem b64of_in {xs : List Int} : ∀ n ∈ b64of xs, 0 ≤ n ∧ n < 256 := fun n hn => by
  unfold b64of at hn
  split at hn
  · simp only [List.mem_cons, List.not_mem_nil, or_false] at hn
    rcases hn with rfl | rfl | rfl | rfl <;> first | exact b64sign_in _ | decide
  · simp only [List.mem_cons, List.not_mem_nil, or_false] at hn
    rcases hn with rfl | rfl | rfl | rfl <;> first | exact b64sign_in _ | decide
  · simp only [List.mem_cons, List.not_mem_nil, or_false] at hn
    rcases hn with rfl | rfl | rfl | rfl <;> first | exact b64sign_in _ | decide
  · cases hn
theorem b64of_len {xs : List Int} : (b64of xs).length ≤ 4 := by
  unfold b64of; split <;> simp
theorem bytes_own {prog : Program} {w : World} {A : Around} {E : Value → Shared → Prop} {s : Shared} {h₀ : Heap} {L l : Addr} {m : Str → Option Value} {news : List (Addr × Obj)} {vs : Array Value} {n : Nat} {ns : List Int} {Q : Value → Shared → Prop} (F : Fr h₀ L s.heap m) (N : News h₀ L s.heap news) (hm : (l, PySem.W.listOf vs n) ∈ news) (hi : IntsAre vs.toList ns) (hr : ∀ n ∈ ns, 0 ≤ n ∧ n < 256) (hz : ns.length ≤ 1048576) (hh : A.handled = none)
    (h : ∀ h' t k, Fr h₀ L h' m → News h₀ L h' news → Q (.bytes (ns.map fun n => n.toNat.toUInt8).toArray t) { s with heap := h', toks := k }) : wpAny (model prog w) A (call (.type "bytes") [.ref l]) Q E s :=
  PySem.W.bytes_K (vs := vs.toList) F N (by rw [Array.toArray_toList]; exact own_list N hm) hi hr (by rw [sizeLine_eq, hi.length]; omega) hh fun h' t k F N _ => h h' t k F N
theorem or_add {a b : Int} (k : Nat) (ha : 0 ≤ a) (hb : 0 ≤ b) (hb' : b < 2 ^ k) : PySem.Builtin.bitOr (a * 2 ^ k) b = a * 2 ^ k + b := by
  obtain ⟨a, rfl⟩ := Int.eq_ofNat_of_zero_le ha
  obtain ⟨b, rfl⟩ := Int.eq_ofNat_of_zero_le hb
  have hb2 : b < 2 ^ k := by
    have : ((2 : Int) ^ k) = ((2 ^ k : Nat) : Int) := by simp
    rw [this] at hb'
    exact Int.ofNat_lt.mp hb'
  have e : (a : Int) * 2 ^ k = ((a * 2 ^ k : Nat) : Int) := by simp
  rw [bitOr_and, e, bitAnd_pp (Int.natCast_nonneg _) (Int.natCast_nonneg _)]
  have : (a * 2 ^ k) &&& b = 0 := by
    apply Nat.eq_of_testBit_eq
    intro i
    simp only [Nat.testBit_and, Nat.zero_testBit, Nat.testBit_mul_two_pow]
    by_cases hi : k ≤ i
    · rw [Nat.testBit_lt_two_pow (Nat.lt_of_lt_of_le hb2 (Nat.pow_le_pow_right (by decide) hi))]; simp
    · simp [hi]
  rw [Int.toNat_natCast, Int.toNat_natCast, this]; simp
theorem ch_eq {c a : Int} (hc : 0 ≤ c) (ha : 0 ≤ a) (ha' : a < 256) : PySem.Builtin.bitAnd (PySem.Builtin.bitOr (c * 2 ^ Int.toNat 8) a) 65535 = (c * 256 + a) % 65536 := by
  rw [bitAnd_m16, or_add (k := Int.toNat 8) hc ha ha']
  rfl
theorem ix_eq {n d : Int} {k : Int} (e : (2 : Int) ^ k.toNat = d) (hd : 0 ≤ d) : PySem.Builtin.bitAnd (n.fdiv (2 ^ k.toNat)) 63 = n / d % 64 := by
  rw [bitAnd_m6, Int.fdiv_eq_ediv_of_nonneg _ (by rw [e]; exact hd), e]
theorem byte_in {b : Array UInt8} {i : Nat} {a : Int} (h : (b.toList.map fun c => (c.toNat : Int))[i]? = some a) : 0 ≤ a ∧ a < 256 := by
  rw [List.getElem?_map] at h
  cases hc : b.toList[i]? with
  | none => rw [hc] at h; cases h
  | some c => rw [hc] at h; cases h; have := c.toNat_lt; exact ⟨Int.natCast_nonneg _, Int.ofNat_lt.mpr this⟩
theorem b64_one {xs : List UInt8} {a : Int} (hK : xs.length = 1) (h0 : (xs.map fun c => (c.toNat : Int))[0]? = some a) : b64of (xs.map fun c => (c.toNat : Int)) = [b64sign (a / 4), b64sign (a % 4 * 16), 61, 61] := by
  match xs, hK with
  | [x], _ => cases h0; rfl
theorem b64_two {xs : List UInt8} {a b : Int} (hK : xs.length = 2) (h0 : (xs.map fun c => (c.toNat : Int))[0]? = some a) (h1 : (xs.map fun c => (c.toNat : Int))[1]? = some b) : b64of (xs.map fun c => (c.toNat : Int)) = [b64sign (a / 4), b64sign (a % 4 * 16 + b / 16), b64sign (b % 16 * 4), 61] := by
  match xs, hK with
  | [x, y], _ => cases h0; cases h1; rfl
theorem b64_three {xs : List UInt8} {a b c : Int} (hK : xs.length = 3) (h0 : (xs.map fun c => (c.toNat : Int))[0]? = some a) (h1 : (xs.map fun c => (c.toNat : Int))[1]? = some b) (h2 : (xs.map fun c => (c.toNat : Int))[2]? = some c) : b64of (xs.map fun c => (c.toNat : Int)) = [b64sign (a / 4), b64sign (a % 4 * 16 + b / 16), b64sign (b % 16 * 4 + c / 64), b64sign (c % 64)] := by
  match xs, hK with
  | [x, y, z], _ => cases h0; cases h1; cases h2; rfl
inductive B2J (xs : List Int) : Nat → List Value → Int → Int → Prop
  | zero : B2J xs 0 [] 0 0
  | one {vs a} : xs[0]? = some a → IntsAre vs [b64sign (a / 4)] → B2J xs 1 vs 2 a
  | two {vs a b} : xs[0]? = some a → xs[1]? = some b → IntsAre vs [b64sign (a / 4), b64sign (a % 4 * 16 + b / 16)] → B2J xs 2 vs 4 (a * 256 + b)
  | three {vs a b c} : xs[0]? = some a → xs[1]? = some b → xs[2]? = some c → IntsAre vs [b64sign (a / 4), b64sign (a % 4 * 16 + b / 16), b64sign (b % 16 * 4 + c / 64), b64sign (c % 64)] → B2J xs 3 vs 0 (b * 256 + c)
theorem buffer_con {w : World} {s : Shared} {b : Array UInt8} {t : Tok} : Con w 136 [.bytes b t] [] 1 s (fun _ r => r = .bytes b t) := by
  have hz : PySem.Challenge.rw_rt0036_01 = PySem.Challenge.rw_rt0036_01 := rfl
  unfold Con
  revert hz
  k_fill
  intro _ dp un gd outer base mean mg mb Q E B X T hd hu hQ
  refine wpAny_call ?_
  refine enter_def (binds := [(Str.ofString "data", .bytes b t)]) B X T (by k_is) (by k_is) (rm0 hd) (BindsTo.of_eq rfl) (locs rfl) (fun L h₁ hL F N => ?_) rfl rfl rfl (by decide)
  dsimp only
  k_fold
  k_steps
  refine call_type_of rfl rfl ?_
  k_steps
  (rename Fr _ _ _ _ => Fx)
  exact hQ _ _ _ Fx.keep rfl
theorem truth_con {w : World} {s : Shared} : Con w 143 [.bool false] [] 1 s (fun _ r => r = .bool false) := by
  have hz : PySem.Challenge.rw_rt0036_01 = PySem.Challenge.rw_rt0036_01 := rfl
  unfold Con
  revert hz
  k_fill
  intro _ dp un gd outer base mean mg mb Q E B X T hd hu hQ
  refine wpAny_call ?_
  refine enter_def (binds := [(Str.ofString "x", .bool false)]) B X T (by k_is) (by k_is) (rm0 hd) (BindsTo.of_eq rfl) (locs rfl) (fun L h₁ hL F N => ?_) rfl rfl rfl (by decide)
  dsimp only
  k_fold
  k_steps
  (rename Fr _ _ _ _ => Fx)
  exact hQ _ _ _ Fx.keep rfl

theorem ja {a : Int} (h : 0 ≤ a ∧ a < 256) : 0 ≤ a / 4 ∧ a / 4 < 64 := ⟨Int.ediv_nonneg h.1 (by decide), Int.ediv_lt_of_lt_mul (by decide) h.2⟩
theorem jm {a m : Int} (h : 0 < m) : 0 ≤ a % m ∧ a % m < m := ⟨Int.emod_nonneg _ (Int.ne_of_gt h), Int.emod_lt_of_pos _ h⟩
theorem jp {x y m k : Int} (hx : 0 ≤ x ∧ x < m) (hy : 0 ≤ y ∧ y < k) (hk : 0 < k) : 0 ≤ x * k + y ∧ x * k + y < m * k :=
  ⟨Int.add_nonneg (Int.mul_nonneg hx.1 (Int.le_of_lt hk)) hy.1, Int.lt_of_lt_of_le (Int.add_lt_add_left hy.2 _) (by
    have := Int.mul_le_mul_of_nonneg_right (Int.add_one_le_of_lt hx.2) (Int.le_of_lt hk)
    rw [Int.add_mul, Int.one_mul] at this
    exact this)⟩
theorem jq {x m k : Int} (hx : 0 ≤ x ∧ x < m) (hk : 0 < k) : 0 ≤ x * k ∧ x * k < m * k := ⟨Int.mul_nonneg hx.1 (Int.le_of_lt hk), Int.mul_lt_mul_of_pos_right hx.2 hk⟩
theorem jd {a k m : Int} (h : 0 ≤ a ∧ a < 256) (hk : 0 < k) (e : m * k = 256) : 0 ≤ a / k ∧ a / k < m := ⟨Int.ediv_nonneg h.1 (Int.le_of_lt hk), Int.ediv_lt_of_lt_mul hk (by rw [e]; exact h.2)⟩
theorem b2a_con {w : World} {s : Shared} {b : Array UInt8} {t : Tok} (hlen : b.toList.length ≤ 3) (hb0 : ¬ b.toList.length = 0) : Con w 151 [.bytes b t] [(Str.ofString "newline", .bool false)] 2 s (fun _ r => ∃ t', r = .bytes ((b64of (b.toList.map fun c => (c.toNat : Int))).map fun n => n.toNat.toUInt8).toArray t') := by
  have hz : PySem.Challenge.rw_rt0036_01 = PySem.Challenge.rw_rt0036_01 := rfl
  unfold Con
  revert hz
  k_fill
  intro _ dp un gd outer base mean mg mb Q E B X T hd hu hQ
  refine wpAny_call ?_
  refine enter_def (binds := [(Str.ofString "data", .bytes b t), (Str.ofString "newline", .bool false)]) B X T (by k_is) (by k_is) (rm0 hd) (PySem.W.kp_binds X (fun _ => rfl)) (locs rfl) (fun L h₁ hL F N => ?_) rfl rfl rfl (by decide)
  dsimp only
  k_fold
  k_steps
  refine Halt.go (con_use buffer_con B (by assumption) (by assumption) X T rfl rfl (rm hd) (rm3 hu) (fun r h' tk' hk hp F N => ?_))
  subst hp
  k_steps
  refine Halt.go (con_use truth_con B (by assumption) (by assumption) X T rfl rfl (rm hd) (rm3 hu) (fun r h' tk' hk hp F N => ?_))
  subst hp
  k_steps
  refine Halt.go (for_src (h₀ := s.heap) rfl rfl ?_)
  k_steps
  (rename News _ _ _ _ => N₁; rename Fr _ _ _ _ => F₁)
  refine ForAt.intro (R := RInt) (b.toList.map fun c => (c.toNat : Int)) [] (fun i m₁ news₁ => ∃ o vs n aI bI tA tB, m₁ (Str.ofString "out") = some (.ref o) ∧ m₁ (Str.ofString "leftbits") = some (.int aI tA) ∧ m₁ (Str.ofString "leftchar") = some (.int bI tB) ∧
      m₁ (Str.ofString "newline") = some (.bool false) ∧ news₁ = [(o, PySem.W.listOf vs n)] ∧ B2J (b.toList.map fun c => (c.toNat : Int)) i vs.toList aI bI)
    F₁ N₁ (src_bytes rfl) (fun _ _ _ _ _ h => nomatch h) ⟨_, #[], 0, _, _, _, _, rfl, rfl, rfl, rfl, rfl, .zero⟩ ?_ ?_
  · rintro i a v m₁ news₁ h tk2 I oI ha ⟨tv, rfl⟩ ⟨o, vs, n, _, _, tA, tB, e1, e2, e3, e4, rfl, hJ⟩ F N hI
    change Fr s.heap L h _ at F
    change News s.heap L h _ at N
    rw [over4 e1 e2 e3 e4] at F
    have hI1 : @Ne Nat o I := hI _ (.head _)
    obtain ⟨ha0, ha1⟩ := byte_in ha
    generalize hL : vs.toList = ws at hJ
    cases hJ with
    | zero =>
      have hvz : vs.size = 0 := size_of_list hL rfl
      show wpAny _ _ _ _ _ _
      k_fold
      k_steps
      refine Halt.go (b64_item (j := a / 4) ?_ (ja ⟨ha0, ha1⟩).1 (ja ⟨ha0, ha1⟩).2 fun t' k => ?_)
      · rw [ch_eq (by decide) ha0 ha1, ix_eq (k := 0 + 8 - 6) (d := 4) (by decide) (by decide)]; omega
      k_steps
      (rename News _ _ _ _ => Nx; rename Fr _ _ _ _ => Fx)
      refine ⟨_, _, _, [(_, PySem.W.listOf _ _)], rfl, Fx, news_two Nx (by walk_at "mem") (by walk_at "mem"), ne1 (by lia), _, _, _, _, _, _, _, rfl, rfl, rfl, rfl, rfl, ?_⟩
      rw [ch_eq (by decide) ha0 ha1, Array.toList_push, hL, show (0 * 256 + a) % 65536 = a by omega]
      exact .one ha (ksk_snoc .nil)
    | one h0 hv =>
      have hvz : vs.size = 1 := size_of_list hL hv.length
      obtain ⟨hb0, hb1⟩ := byte_in h0
      rename_i a0
      show wpAny _ _ _ _ _ _
      k_fold
      k_steps
      refine Halt.go (b64_item (j := a0 % 4 * 16 + a / 16) ?_ (jp (m := 4) (jm (by decide)) (jd ⟨ha0, ha1⟩ (by decide) (by decide)) (by decide)).1 (jp (m := 4) (jm (by decide)) (jd ⟨ha0, ha1⟩ (by decide) (by decide)) (by decide)).2 fun t' k => ?_)
      · rw [ch_eq hb0 ha0 ha1, ix_eq (k := 2 + 8 - 6) (d := 16) (by decide) (by decide)]; omega
      k_steps
      (rename News _ _ _ _ => Nx; rename Fr _ _ _ _ => Fx)
      refine ⟨_, _, _, [(_, PySem.W.listOf _ _)], rfl, Fx, news_two Nx (by walk_at "mem") (by walk_at "mem"), ne1 (by lia), _, _, _, _, _, _, _, rfl, rfl, rfl, rfl, rfl, ?_⟩
      rw [ch_eq hb0 ha0 ha1, Array.toList_push, hL, show (a0 * 256 + a) % 65536 = a0 * 256 + a by omega]
      exact .two h0 ha (ksk_snoc hv)
    | two h0 h1 hv =>
      have hvz : vs.size = 2 := size_of_list hL hv.length
      obtain ⟨hb0, hb1⟩ := byte_in h0
      obtain ⟨hc0, hc1⟩ := byte_in h1
      rename_i a0 a1
      show wpAny _ _ _ _ _ _
      k_fold
      k_steps
      refine Halt.go (b64_item (j := a1 % 16 * 4 + a / 64) ?_ (jp (m := 16) (jm (by decide)) (jd ⟨ha0, ha1⟩ (by decide) (by decide)) (by decide)).1 (jp (m := 16) (jm (by decide)) (jd ⟨ha0, ha1⟩ (by decide) (by decide)) (by decide)).2 fun t' k => ?_)
      · rw [ch_eq (by lia) ha0 ha1, ix_eq (k := 4 + 8 - 6) (d := 64) (by decide) (by decide)]; omega
      k_steps
      refine Halt.go (b64_item (j := a % 64) ?_ (jm (by decide)).1 (jm (by decide)).2 fun t' k => ?_)
      · rw [ch_eq (by lia) ha0 ha1, ix_eq (k := 4 + 8 - 6 - 6) (d := 1) (by decide) (by decide)]; omega
      k_steps
      (rename News _ _ _ _ => Nx; rename Fr _ _ _ _ => Fx)
      refine ⟨_, _, _, [(_, PySem.W.listOf _ _)], rfl, Fx, news_two Nx (by walk_at "mem") (by walk_at "mem"), ne1 (by lia), _, _, _, _, _, _, _, rfl, rfl, rfl, rfl, rfl, ?_⟩
      rw [ch_eq (by lia) ha0 ha1, Array.toList_push, Array.toList_push, hL, show ((a0 * 256 + a1) * 256 + a) % 65536 = a1 * 256 + a by omega]
      exact .three h0 h1 ha (ksk_snoc (ksk_snoc hv))
    | three h0 h1 h2 _ =>
      rw [List.getElem?_eq_none (by rw [List.length_map]; exact hlen)] at ha
      cases ha
  · rintro m₁ news₁ h tk2 ⟨o, vs, n, _, _, tA, tB, e1, e2, e3, e4, rfl, hJ⟩ F N
    rw [List.length_map] at hJ
    change Fr s.heap L h _ at F
    change News s.heap L h _ at N
    rw [over4 e1 e2 e3 e4] at F
    generalize hL : vs.toList = ws at hJ
    show wpAny _ _ _ _ _ _
    generalize hK : b.toList.length = kk at hJ
    cases hJ with
    | zero => exact absurd hK hb0
    | one h0 hv =>
      obtain ⟨hb0, hb1⟩ := byte_in h0
      rename_i a0
      have hm : PySem.Builtin.bitAnd a0 3 = a0 % 4 := bitAnd_m2 a0
      have hm1 : 0 ≤ PySem.Builtin.bitAnd a0 3 := by lia
      have hm2 : PySem.Builtin.bitAnd a0 3 < 4 := by lia
      have hvz : vs.size = 1 := size_of_list hL hv.length
      k_steps
      refine Halt.go (b64_item (j := a0 % 4 * 16) ?_ (jq (m := 4) (jm (by decide)) (by decide)).1 (jq (m := 4) (jm (by decide)) (by decide)).2 fun t' k => ?_)
      · rw [hm]; rfl
      k_steps
      (rename News _ _ _ _ => Nx; rename Fr _ _ _ _ => Fx)
      refine bytes_own (ns := b64of (b.toList.map fun c => (c.toNat : Int))) Fx Nx (by walk_at "mem") ?_ b64of_in (Nat.le_trans b64of_len (by decide)) rfl fun h' t k F N => ?_
      · simp only [Array.toList_push, hL, b64_one hK h0]
        exact ksk_snoc (ksk_snoc (ksk_snoc hv))
      k_steps
      (rename Fr _ _ _ _ => Fy)
      exact hQ _ _ _ Fy.keep ⟨_, rfl⟩
    | two h0 h1 hv =>
      obtain ⟨hb0, hb1⟩ := byte_in h0
      obtain ⟨hc0, hc1⟩ := byte_in h1
      rename_i a0 a1
      have hm : PySem.Builtin.bitAnd (a0 * 256 + a1) 15 = (a0 * 256 + a1) % 16 := bitAnd_m4 _
      have hm1 : 0 ≤ PySem.Builtin.bitAnd (a0 * 256 + a1) 15 := by lia
      have hm2 : PySem.Builtin.bitAnd (a0 * 256 + a1) 15 < 16 := by lia
      have hvz : vs.size = 2 := size_of_list hL hv.length
      k_steps
      refine Halt.go (b64_item (j := a1 % 16 * 4) ?_ (jq (m := 16) (jm (by decide)) (by decide)).1 (jq (m := 16) (jm (by decide)) (by decide)).2 fun t' k => ?_)
      · rw [hm]; show (a0 * 256 + a1) % 16 * 4 = _; omega
      k_steps
      (rename News _ _ _ _ => Nx; rename Fr _ _ _ _ => Fx)
      refine bytes_own (ns := b64of (b.toList.map fun c => (c.toNat : Int))) Fx Nx (by walk_at "mem") ?_ b64of_in (Nat.le_trans b64of_len (by decide)) rfl fun h' t k F N => ?_
      · simp only [Array.toList_push, hL, b64_two hK h0 h1]
        exact ksk_snoc (ksk_snoc hv)
      k_steps
      (rename Fr _ _ _ _ => Fy)
      exact hQ _ _ _ Fy.keep ⟨_, rfl⟩
    | three h0 h1 h2 hv => 
      have hvz : vs.size = 4 := size_of_list hL hv.length
      k_steps
      (rename News _ _ _ _ => Nx; rename Fr _ _ _ _ => Fx)
      refine bytes_own (ns := b64of (b.toList.map fun c => (c.toNat : Int))) Fx Nx (by walk_at "mem") ?_ b64of_in (Nat.le_trans b64of_len (by decide)) rfl fun h' t k F N => ?_
      · simp only [Array.toList_push, hL, b64_three hK h0 h1 h2]
        exact hv
      k_steps
      (rename Fr _ _ _ _ => Fy)
      exact hQ _ _ _ Fy.keep ⟨_, rfl⟩
theorem b64encode_con {w : World} {s : Shared} {b : Array UInt8} {t : Tok} (hlen : b.toList.length ≤ 3) (hb0 : ¬ b.toList.length = 0) : Con w 159 [.bytes b t] [] 3 s (fun _ r => ∃ t', r = .bytes ((b64of (b.toList.map fun c => (c.toNat : Int))).map fun n => n.toNat.toUInt8).toArray t') := by
  have hz : PySem.Challenge.rw_rt0036_01 = PySem.Challenge.rw_rt0036_01 := rfl
  unfold Con
  revert hz
  k_fill
  intro _ dp un gd outer base mean mg mb Q E B X T hd hu hQ
  refine wpAny_call ?_
  refine enter_def (binds := [(Str.ofString "s", .bytes b t), (Str.ofString "altchars", .none)]) B X T (by k_is) (by k_is) (rm0 hd) (PySem.W.kp_binds X (fun _ => rfl)) (locs rfl) (fun L h₁ hL F N => ?_) rfl rfl rfl (by decide)
  dsimp only
  k_fold
  k_steps
  refine Halt.go (con_use (b2a_con hlen hb0) B (by assumption) (by assumption) X T rfl rfl (rm hd) (rm3 hu) (fun r h' tk' hk hp F N => ?_))
  obtain ⟨t', rfl⟩ := hp
  k_steps
  (rename Fr _ _ _ _ => Fx)
  exact hQ _ _ _ Fx.keep ⟨_, rfl⟩
/-- one turn of normpath's loop -/
def nstep (acc : List Str) (c : Str) : List Str :=
  if c = Str.ofString "" ∨ c = Str.ofString "." then acc
  else if c ≠ Str.ofString ".." ∨ acc = [] ∨ acc.getLast? = some (Str.ofString "..") then acc ++ [c] else acc.dropLast
def normOf (comps : List Str) : Str :=
  let r := Txt.join (Str.ofString "/") (comps.foldl nstep [])
  if r.length = 0 then Str.ofString "." else r

theorem str_len0 {c : Str} : (c.length : Int) = 0 → c = Str.ofString "" := fun h => by
  obtain ⟨⟨l⟩⟩ := c
  have : l.length = 0 := by have h' : ((l.toArray.size : Nat) : Int) = 0 := h; simpa using h'
  have : l = [] := List.length_eq_zero_iff.mp this
  subst this
  decide
theorem str_ne0 {c : Str} (h : (c.length : Int) ≠ 0) : c ≠ Str.ofString "" := fun e => h (by rw [e]; decide)
theorem nstep_skip1 {acc : List Str} {c : Str} (h : (c.length : Int) = 0) : nstep acc c = acc := by unfold nstep; rw [if_pos (.inl (str_len0 h))]
theorem nstep_skip2 {acc : List Str} {c : Str} (h : (c == Str.ofString ".") = true) : nstep acc c = acc := by unfold nstep; rw [if_pos (.inr (eq_of_beq h))]
theorem nstep_not {c : Str} (h1 : (c.length : Int) ≠ 0) (h2 : (c == Str.ofString ".") = false) : ¬ (c = Str.ofString "" ∨ c = Str.ofString ".") := fun e => e.elim (str_ne0 h1) fun e => by rw [e] at h2; simp at h2
theorem nstep_app1 {acc : List Str} {c : Str} (h1 : (c.length : Int) ≠ 0) (h2 : (c == Str.ofString ".") = false) (h3 : (c != Str.ofString "..") = true) : nstep acc c = acc ++ [c] := by
  unfold nstep; rw [if_neg (nstep_not h1 h2), if_pos (.inl (bne_iff_ne.mp h3))]
theorem nstep_app2 {acc : List Str} {c : Str} (h1 : (c.length : Int) ≠ 0) (h2 : (c == Str.ofString ".") = false) (h3 : acc = []) : nstep acc c = [c] := by
  unfold nstep; rw [if_neg (nstep_not h1 h2), if_pos (.inr (.inl h3)), h3]; rfl
theorem nstep_app3 {acc q : List Str} {c d : Str} (h1 : (c.length : Int) ≠ 0) (h2 : (c == Str.ofString ".") = false) (h3 : acc = q ++ [d]) (h4 : (d == Str.ofString "..") = true) : nstep acc c = acc ++ [c] := by
  unfold nstep; rw [if_neg (nstep_not h1 h2), if_pos (.inr (.inr (by rw [h3, eq_of_beq h4]; simp)))]
theorem nstep_pop {acc q : List Str} {c d : Str} (h1 : (c.length : Int) ≠ 0) (h2 : (c == Str.ofString ".") = false) (h3 : acc = q ++ [d]) (h4 : (d == Str.ofString "..") = false) (h5 : (c != Str.ofString "..") = false) : nstep acc c = q := by
  have hd : d ≠ Str.ofString ".." := fun e => by rw [e] at h4; simp at h4
  have hc : c = Str.ofString ".." := by simpa using h5
  unfold nstep; rw [if_neg (nstep_not h1 h2), if_neg ?_, h3]
  · simp
  · rintro (e | e | e)
    · exact e hc
    · rw [h3] at e; simp at e
    · rw [h3] at e; simp at e; exact hd e
theorem sum_le {B : Nat} : ∀ {ys : List Str}, (∀ y ∈ ys, y.length ≤ B) → (ys.map (·.length)).sum ≤ ys.length * B
  | [], _ => by simp
  | y :: ys, h => by
    have h1 := h y (.head _)
    have h2 := sum_le (ys := ys) fun z hz => h z (.tail _ hz)
    simp only [List.map_cons, List.sum_cons, List.length_cons, Nat.succ_mul]
    omega
theorem nstep_mem {acc : List Str} {c y : Str} (h : y ∈ nstep acc c) : y ∈ acc ∨ y = c := by
  unfold nstep at h
  split at h
  · exact .inl h
  · split at h
    · rcases List.mem_append.mp h with h | h
      · exact .inl h
      · exact .inr (List.mem_singleton.mp h)
    · exact .inl (by rw [List.dropLast_eq_take] at h; exact List.mem_of_mem_take h)
theorem nfold_mem : ∀ (cs acc : List Str) {y : Str}, y ∈ cs.foldl nstep acc → y ∈ acc ∨ y ∈ cs
  | [], _, _, h => .inl h
  | c :: cs, acc, y, h => by
    rcases nfold_mem cs (nstep acc c) h with h | h
    · rcases nstep_mem h with h | h
      · exact .inl h
      · exact .inr (h ▸ .head _)
    · exact .inr (.tail _ h)
theorem normpath_con {w : World} {s : Shared} {x : Str} {t : Tok} (hx : (Txt.slice x none (some 1) != Str.ofString "/") = true) (hlen : x.length ≤ 512) (hne : x.length ≠ 0) : Con w 129 [.str x t] [] 3 s (fun h r => ∃ t', r = .str (normOf (Txt.split x (Str.ofString "/"))) t') := by
  have hz : PySem.Challenge.rw_rt0036_01 = PySem.Challenge.rw_rt0036_01 := rfl
  unfold Con
  revert hz
  k_fill
  intro _ dp un gd outer base mean mg mb Q E B X T hd hu hQ
  refine wpAny_call ?_
  refine enter_def (binds := [(Str.ofString "path", .str x t)]) B X T (by k_is) (by k_is) (rm0 hd) (BindsTo.of_eq rfl) (locs rfl) (fun L h₁ hL F N => ?_) rfl rfl rfl (by decide)
  dsimp only
  k_fold
  k_steps
  refine Halt.go (con_use fspath_con B F N X T rfl rfl (rm hd) (rm3 hu) (fun r h' tk' hk hp F N => ?_))
  subst hp
  k_steps
  refine Halt.go (con_use (splitroot_con hx hlen) B (by assumption) (by assumption) X T rfl rfl (rm hd) (rm3 hu) (fun r h' tk' hk hp F N => ?_))
  obtain ⟨p, t1, t2, rfl, hp1, hp2⟩ := hp
  replace N := news_add (by assumption) N hp2 hp1
  k_steps
  · rename_i h4 tkx l h5 k hl1 hl2 hl3 hl4 h6 nc h7 l1 h8 F' N'
    have hlc : ∃ lc, lc = h4.objs.size := ⟨_, rfl⟩
    obtain ⟨lc, hlc⟩ := hlc
    dsimp only at F' N' l1
    rw [← hlc] at F' N' l1
    obtain ⟨m₀, hm₀, F₀⟩ := fr_name F'
    replace N' : News s.heap L h8 [(nc, PySem.W.listOf #[] 0), (lc, { cls := .type "list", data := .seq (strValues l).toArray })] := fun p hp => N' p (by
      rcases List.mem_cons.mp hp with rfl | hp
      · exact .head _
      · rw [List.mem_singleton.mp hp]; exact .tail _ (.head _))
    refine Halt.go (for_src (h₀ := s.heap) rfl rfl (nameX_L F' rfl (ForAt.intro (R := RStr) (Txt.split x (Str.ofString "/")) [(lc, { cls := .type "list", data := .seq (strValues l).toArray })]
      (fun i m₁ news₁ => ∃ u vs n, m₁ = over m₀ (Str.ofString "comp") u ∧ news₁ = [(nc, PySem.W.listOf vs n), (lc, { cls := .type "list", data := .seq (strValues l).toArray })] ∧ StrsAre vs.toList (((Txt.split x (Str.ofString "/")).take i).foldl nstep []) ∧ vs.size ≤ i)
      F₀ N' (src_list rfl F₀ (news_one N' (.tail _ (.head _))) (.inr (.head _)) rfl rfl (Rel2.ofStrs (hl1 ▸ hl2))) ?_ ⟨_, #[], 0, over_self _ _, rfl, .nil, Nat.le_refl _⟩ ?_ ?_)))
    · rintro i m₁ news₁ ⟨u, vs, n, rfl, rfl, _, _⟩ p hp
      exact .tail _ hp
    · rintro i c v m₁ news₁ h tk I oI hc ⟨tc, rfl⟩ ⟨u, vs, n, rfl, rfl, hvs, hvn⟩ F₁ N₁ hI
      have hclen := hl3 c (hl1 ▸ List.mem_of_getElem? hc)
      rw [over_over] at F₁
      subst hm₀
      clear F' F₀ N' hl4
      have hI1 := neN (hI _ (.head _))
      have hI2 := neN (hI _ (.tail _ (.head _)))
      have hi : i < (Txt.split x (Str.ofString "/")).length := by
        rcases Nat.lt_or_ge i (Txt.split x (Str.ofString "/")).length with h | h
        · exact h
        · rw [List.getElem?_eq_none h] at hc; cases hc
      change Fr s.heap L h _ at F₁
      change News s.heap L h _ at N₁
      have hvz : vs.size ≤ 8192 := by
        have := split_le x (Str.ofString "/")
        omega
      rcases List.eq_nil_or_concat vs.toList with he | ⟨p', y, he⟩
      · have he' : vs = #[] := by simpa using he
        subst he'
        show wpAny _ _ _ _ _ _
        k_fold
        k_steps
        all_goals (rename News _ _ _ _ => Nx; rename Fr _ _ _ _ => Fx)
        all_goals (have hnil : List.foldl nstep [] (List.take i (Txt.split x (Str.ofString "/"))) = [] := List.length_eq_zero_iff.mp hvs.len_eq.symm)
        all_goals (refine ⟨_, _, _, _, rfl, Fx, Nx, ne2 hI1 hI2, _, _, _, rfl, rfl, ?_, ?_⟩)
        all_goals (try (simp only [List.size_toArray, List.push_toArray, List.length_append, List.length_cons, List.length_nil]; omega))
        all_goals (rw [fold_next hc])
        all_goals (first
          | (rw [nstep_skip1 (by assumption)]; exact hvs)
          | (rw [nstep_skip2 (by assumption)]; exact hvs)
          | (rw [nstep_app1 (by assumption) (by assumption) (by assumption)]; simpa using strsAre_push hvs _ _)
          | (rw [nstep_app2 (by assumption) (by assumption) hnil]; simpa using StrsAre.cons _ _ .nil)
          | skip)
      · have he' : vs = (p' ++ [y]).toArray := by rw [← Array.toArray_toList (xs := vs), he, List.concat_eq_append]
        subst he'
        obtain ⟨q, d, td, rfl, hq, hpq⟩ := strsAre_snoc hvs
        have hpz : p'.length ≤ 1048576 := by simp at hvz; omega
        show wpAny _ _ _ _ _ _
        k_fold
        k_steps
        all_goals (rename News _ _ _ _ => Nx; rename Fr _ _ _ _ => Fx)
        all_goals (refine ⟨_, _, _, _, rfl, Fx, Nx, ne2 hI1 hI2, _, _, _, rfl, rfl, ?_, ?_⟩)
        all_goals (try (simp only [List.size_toArray, List.push_toArray, List.length_append, List.length_cons, List.length_nil] at *; omega))
        all_goals (rw [fold_next hc])
        all_goals (first
          | (rw [nstep_skip1 (by assumption)]; exact hvs)
          | (rw [nstep_skip2 (by assumption)]; exact hvs)
          | (rw [nstep_app1 (by assumption) (by assumption) (by assumption)]; simpa using strsAre_push hvs _ _)
          | (rw [nstep_app3 (by assumption) (by assumption) hq (by assumption)]; simpa using strsAre_push hvs _ _)
          | (rw [nstep_pop (by assumption) (by assumption) hq (by assumption) (by assumption)]; exact hpq)
          | skip)
    · rintro m₁ news₁ h tk ⟨u, vs, n, rfl, rfl, hvs, hvn⟩ F₁ N₁
      rw [List.take_length] at hvs
      subst hm₀
      clear F' F₀ N' hl4
      change Fr s.heap L h _ at F₁
      change News s.heap L h _ at N₁
      show wpAny _ _ _ _ _ _
      try k_fold
      k_steps
      have hmax : ∀ y ∈ List.foldl nstep [] (Txt.split x (Str.ofString "/")), y.length ≤ 512 := fun y hy =>
        (nfold_mem _ _ hy).elim (fun h => nomatch h) fun h => Nat.le_trans (hl3 y (hl1 ▸ h)) hlen
      have hsum := sum_le hmax
      have hcnt : (List.foldl nstep [] (Txt.split x (Str.ofString "/"))).length ≤ 514 := by
        have h1 := hvs.len_eq
        have h2 := split_le x (Str.ofString "/")
        rw [Array.length_toList] at h1
        omega
      have hone : (Str.ofString "/").length = 1 := by decide
      (rename News _ _ _ _ => Nx; rename Fr _ _ _ _ => Fx)
      refine join_list (own_list Nx (.head _)) hvs (by rw [hone]; omega) fun t' k => ?_
      have hjl : (Txt.join (Str.ofString "/") (List.foldl nstep [] (Txt.split x (Str.ofString "/")))).length ≤ 1048576 := by
        show (PySem.Builtin.Str.glued _ _).length ≤ _
        rw [size_glued, hone]; omega
      k_steps
      (rename News _ _ _ _ => Nx; rename Fr _ _ _ _ => Fx)
      have hem : Str.ofString "" ++ Txt.join (Str.ofString "/") (List.foldl nstep [] (Txt.split x (Str.ofString "/"))) = Txt.join (Str.ofString "/") (List.foldl nstep [] (Txt.split x (Str.ofString "/"))) := by
        rw [show Str.ofString "" = Str.empty from by decide]; exact PySem.Str.empty_append _
      rw [hem] at Fx ⊢
      refine PySem.P.truthy_str (by omega) ?_
      k_steps
      · exact hQ _ _ _ Fx.keep ⟨_, by unfold normOf; rw [if_neg (by omega)]⟩
      · exact hQ _ _ _ Fx.keep ⟨_, by unfold normOf; rw [if_pos (by omega)]⟩
/-- one thing more: the chain that a set's chain becomes -/
def cstep (st : List Int × Nat) (b : Bool) : List Int × Nat :=
  if b then ((st.1.headD 0 * 2) :: st.1.map (fun one => one * 2 + 1), st.2 + 1)
  else if st.2 = 0 then ((st.1.headD 0 * 2) :: st.1.map (fun one => one * 2 + 1), 0)
  else (st.1.tail.map (fun one => one * 2), st.2 - 1)
def bitAt (number : Int) (k : Nat) : Bool := (number / 2 ^ k) % 2 == 1
def chainOf (number : Int) (size : Nat) : List Int × Nat := ((List.range size).map fun i => bitAt number (size - 1 - i)).foldl cstep ([0], 0)

def chainAt (number : Int) (size i : Nat) : List Int × Nat := (((List.range size).map fun i => bitAt number (size - 1 - i)).take i).foldl cstep ([0], 0)
theorem chainAt_succ {number : Int} {size i : Nat} (h : i < size) : chainAt number size (i + 1) = cstep (chainAt number size i) (bitAt number (size - 1 - i)) := by
  unfold chainAt
  rw [fold_next (c := bitAt number (size - 1 - i)) (by simp [h])]
theorem chainAt_all {number : Int} {size : Nat} : chainAt number size size = chainOf number size := by
  unfold chainAt chainOf; rw [List.take_of_length_le (by simp)]
/-- a chain's shape -/
def ChainOk (i : Nat) (st : List Int × Nat) : Prop := (∀ y ∈ st.1, 0 ≤ y ∧ y < 2 ^ i) ∧ st.1.length ≤ i + 1 ∧ st.2 < st.1.length
theorem cstep_ok {i : Nat} {st : List Int × Nat} {b : Bool} (h : ChainOk i st) : ChainOk (i + 1) (cstep st b) := by
  obtain ⟨h1, h2, h3⟩ := h
  have hp : (2 : Int) ^ (i + 1) = 2 ^ i * 2 := Int.pow_succ 2 i
  have hne : st.1 ≠ [] := fun e => by rw [e] at h3; simp at h3
  have hhd : 0 ≤ st.1.headD 0 ∧ st.1.headD 0 < 2 ^ i := by
    cases hc : st.1 with
    | nil => exact absurd hc hne
    | cons a l => exact h1 a (by rw [hc]; exact .head _)
  have hlong : ∀ y ∈ (st.1.headD 0 * 2) :: st.1.map (fun one => one * 2 + 1), 0 ≤ y ∧ y < 2 ^ (i + 1) := fun y hy => by
    rcases List.mem_cons.mp hy with rfl | hy
    · rw [hp]; omega
    · obtain ⟨z, hz, rfl⟩ := List.mem_map.mp hy
      have := h1 z hz
      rw [hp]; omega
  unfold cstep
  split
  · exact ⟨hlong, by simp; omega, by simp; omega⟩
  · split
    · exact ⟨hlong, by simp; omega, by simp⟩
    · refine ⟨fun y hy => ?_, by simp; omega, by simp; omega⟩
      obtain ⟨z, hz, rfl⟩ := List.mem_map.mp hy
      have := h1 z (List.mem_of_mem_tail hz)
      rw [hp]; omega
theorem chainAt_ok {number : Int} {size : Nat} : ∀ i, i ≤ size → ChainOk i (chainAt number size i)
  | 0, _ => ⟨by intro y hy; simp [chainAt] at hy; subst hy; decide, by simp [chainAt], by simp [chainAt]⟩
  | i + 1, h => by rw [chainAt_succ h]; exact cstep_ok (chainAt_ok i (Nat.le_of_succ_le h))

theorem bit_true {number : Int} {size i : Nat} (h0 : 0 ≤ number) (hi : i < size) (h : PySem.Builtin.bitAnd (number.fdiv (2 ^ ((size : Int) - 1 - i).toNat)) 1 = 1) : bitAt number (size - 1 - i) = true := by
  have e : ((size : Int) - 1 - i).toNat = size - 1 - i := by omega
  rw [e, bitAnd_m1, Int.fdiv_eq_ediv_of_nonneg _ (Int.le_of_lt (Int.pow_pos (by decide)))] at h
  unfold bitAt; rw [h]; rfl
theorem bit_false {number : Int} {size i : Nat} (h0 : 0 ≤ number) (hi : i < size) (h : PySem.Builtin.bitAnd (number.fdiv (2 ^ ((size : Int) - 1 - i).toNat)) 1 ≠ 1) : bitAt number (size - 1 - i) = false := by
  have e : ((size : Int) - 1 - i).toNat = size - 1 - i := by omega
  rw [e, bitAnd_m1, Int.fdiv_eq_ediv_of_nonneg _ (Int.le_of_lt (Int.pow_pos (by decide)))] at h
  unfold bitAt; exact beq_eq_false_iff_ne.mpr h
theorem range_down_size {size : Nat} (h : size ≤ 24) : PySem.Builtin.Range.rangeSize ((size : Int) - 1) (-1) (-1) = ((size : Nat) : Int) :=
  (by decide +kernel : ∀ n : Fin 25, PySem.Builtin.Range.rangeSize ((n.val : Int) - 1) (-1) (-1) = ((n.val : Nat) : Int)) ⟨size, by omega⟩
theorem range_down_small {size : Nat} (h : size ≤ 24) : PySem.Builtin.Range.small ((size : Int) - 1) (-1) (-1) = true :=
  (by decide +kernel : ∀ n : Fin 25, PySem.Builtin.Range.small ((n.val : Int) - 1) (-1) (-1) = true) ⟨size, by omega⟩
theorem chain_con {w : World} {s : Shared} {number : Int} {tn ts : Tok} {size : Nat} (hsz : size ≤ 24) (hn0 : 0 ≤ number) :
    Con w 193 [.int number tn, .int (size : Int) ts] [] 1 s (fun h r => ∃ p c vs n t, r = .ref p ∧ h.get? p = some { cls := .type "tuple", data := .seq #[.ref c, .int ((chainOf number size).2 : Int) t] } ∧ h.get? c = some (PySem.W.listOf vs n) ∧
      IntsAre vs.toList (chainOf number size).1 ∧ s.heap.get? p = none ∧ s.heap.get? c = none ∧ p ≠ c) := by
  have hz : PySem.Challenge.rw_rt0036_01 = PySem.Challenge.rw_rt0036_01 := rfl
  unfold Con
  revert hz
  k_fill
  intro _ dp un gd outer base mean mg mb Q E B X T hd hu hQ
  refine wpAny_call ?_
  refine enter_def (binds := [(Str.ofString "number", .int number tn), (Str.ofString "size", .int (size : Int) ts)]) B X T (by k_is) (by k_is) (rm0 hd) (BindsTo.of_eq rfl) (locs rfl) (fun L h₁ hL F N => ?_) rfl rfl rfl (by decide)
  dsimp only
  k_fold
  k_steps
  rename_i tk0 l0 h0 l1 D0 h2 l2 h3 h4 F₁ N₁
  refine Halt.go (for_src (h₀ := s.heap) rfl rfl ?_)
  k_steps
  refine Halt.go (call_range_3 (by decide) ?_ (.inl (PyProof.noPylong_small (by omega))))
  have hrs : Builtin.Range.rangeSize ((size : Int) - 1) (-1) (-1) = ((size : Nat) : Int) := range_down_size hsz
  have hrm : Builtin.Range.small ((size : Int) - 1) (-1) (-1) = true := range_down_small hsz
  refine ForAt.intro (R := RInt) _ [] (fun i m₁ news₁ => ∃ c vs n aI tA, m₁ (Str.ofString "number") = some (.int number tn) ∧ m₁ (Str.ofString "size") = some (.int (size : Int) ts) ∧ m₁ (Str.ofString "chain") = some (.ref c) ∧
      m₁ (Str.ofString "at") = some (.int aI tA) ∧ news₁ = [(c, PySem.W.listOf (List.toArray vs) n)] ∧ aI = ((chainAt number size i).2 : Int) ∧ IntsAre vs (chainAt number size i).1)
    (F₁.push _) (news := [(tk0, PySem.W.listOf #[Value.int 0 _] 0)]) (fun p hp => ⟨Heap.get?_push_of_some _ (N₁ p (.tail _ hp)).1, (N₁ p (.tail _ hp)).2⟩)
    (src_range rfl (IsRange.new ..) hrm hrs) (fun _ _ _ _ _ h => nomatch h) ⟨tk0, [.int 0 _], 0, _, _, rfl, rfl, rfl, rfl, rfl, rfl, .cons _ _ .nil⟩ ?_ ?_
  · rintro i a v m₁ news₁ h tk2 I oI ha ⟨tv, rfl⟩ ⟨c, vs, n, _, tA, e1, e2, e3, e4, rfl, rfl, hvs⟩ F N hI
    have hi : i < size := by
      rcases Nat.lt_or_ge i size with h | h
      · exact h
      · rw [List.getElem?_eq_none (by simpa using h)] at ha; cases ha
    have ha' : a = (size : Int) - 1 - i := by
      rw [List.getElem?_map, List.getElem?_range hi] at ha
      have := Option.some.inj ha
      dsimp only at this
      omega
    subst ha'
    have hok := chainAt_ok (number := number) i (Nat.le_of_lt hi)
    change Fr s.heap L h _ at F
    change News s.heap L h _ at N
    rw [over4 e1 e2 e3 e4] at F
    have hI1 : @Ne Nat c I := hI _ (.head _)
    obtain ⟨c0, cs, hcs⟩ : ∃ c0 cs, (chainAt number size i).1 = c0 :: cs := by
      cases hc : (chainAt number size i).1 with
      | nil => have := hok.2.2; rw [hc] at this; simp at this
      | cons a l => exact ⟨a, l, rfl⟩
    rw [hcs] at hvs
    cases hvs with
    | cons _ t0 r =>
    rename_i vr
    show wpAny _ _ _ _ _ _
    k_fold
    k_steps
    rename_i lx h5 F₂ N₂ l1x
    refine Halt.go (lc_eval (h₀ := s.heap) (L := L) rfl (by decide) rfl (by decide) rfl ?_)
    k_steps
    refine CompAny.plain (R := RInt) (c0 :: cs) (fun y => y * 2 + 1) RInt F₂ N₂ (src_list rfl F₂ N₂ (.inr (.tail _ (.tail _ (.head _)))) rfl rfl (.cons ⟨_, rfl⟩ (Rel2.ofInts r))) (by rw [sizeLine_eq]; have := hok.2.1; rw [hcs] at this; omega) ?_ ?_
    · rintro a v I' C D oI' oC ys m₂ h' tk' E' ha' ⟨ta, rfl⟩ T'
      obtain ⟨hns, hat, F₃, N₃, hoff, hne⟩ := T'
      show wpAny _ _ _ _ _ _
      k_fold
      k_steps
      exact Kept.intro F₃ N₃ (fun p hp => hp) ⟨_, rfl⟩
    · intro D h6 tk6 ys F₃ N₃ o1 hys
      clear F₂ N₂
      have hD := o1
      simp only [LCg.Off1, and_true] at hD
      have hys' := hys.ints
      have hyl := hys'.length
      have hvl := r.length
      have hcl : cs.length ≤ 24 := by have := hok.2.1; rw [hcs] at this; simp at this; omega
      simp only [List.length_map, List.length_cons] at hyl
      k_steps
      · (rename News _ _ _ _ => Nx; rename Fr _ _ _ _ => Fx; rename IntsAre _ _ => hIx)
        have hb := bit_true hn0 hi (by assumption)
        refine ⟨_, _, _, [(_, PySem.W.listOf (List.toArray _) 0)], rfl, Fx, news_two Nx (by walk_at "mem") (by walk_at "mem"), ne1 (by omega), _, _, 0, _, _, rfl, rfl, rfl, rfl, rfl, ?_, ?_⟩
        · rw [chainAt_succ hi, hb]; simp [cstep]
        · rw [chainAt_succ hi, hb]; simpa [cstep, hcs] using hIx
      · (rename News _ _ _ _ => Nx; rename Fr _ _ _ _ => Fx; rename IntsAre _ _ => hIx)
        have hb := bit_false hn0 hi (by assumption)
        have h0 : (chainAt number size i).2 = 0 := by omega
        refine ⟨_, _, _, [(_, PySem.W.listOf (List.toArray _) 0)], rfl, Fx, news_two Nx (by walk_at "mem") (by walk_at "mem"), ne1 (by omega), _, _, 0, _, _, rfl, rfl, rfl, rfl, rfl, ?_, ?_⟩
        · rw [chainAt_succ hi, hb]; simp [cstep, h0]
        · rw [chainAt_succ hi, hb]; simpa [cstep, h0, hcs] using hIx
      · (rename News _ _ _ _ => Nx; rename Fr _ _ _ _ => Fx)
        have hb := bit_false hn0 hi (by assumption)
        refine Halt.go (lc_eval (h₀ := s.heap) (L := L) rfl (by decide) rfl (by decide) rfl ?_)
        k_steps
        (rename News _ _ _ _ => N₅; rename Fr _ _ _ _ => F₅; rename IntsAre _ (List.drop _ _) => hI5)
        refine CompAny.plain (R := RInt) cs (fun y => y * 2) RInt F₅ N₅ (src_list rfl F₅ N₅ (.inr (.head _)) rfl rfl (Rel2.ofInts hI5)) (by rw [sizeLine_eq]; omega) ?_ ?_
        · rintro a v I' C D oI' oC ys m₂ h' tk' E' ha' ⟨ta, rfl⟩ ⟨hns, hat, F₃, N₃, hoff, hne⟩
          show wpAny _ _ _ _ _ _
          k_fold
          k_steps
          exact Kept.intro F₃ N₃ (fun p hp => hp) ⟨_, rfl⟩
        · intro D5 h8 tk8 ys5 F₃ N₃ o15 hys5
          clear F₅ N₅
          simp only [LCg.Off1, and_true] at o15
          have hys5' := hys5.ints
          k_steps
          (rename News _ _ _ _ => Nx; rename Fr _ _ _ _ => Fx)
          refine ⟨_, _, _, [(_, PySem.W.listOf (List.toArray _) _)], rfl, Fx, news_two Nx (by walk_at "mem") (by walk_at "mem"), ne1 (by omega), _, _, _, _, _, rfl, rfl, rfl, rfl, rfl, ?_, ?_⟩
          · rw [chainAt_succ hi, hb]; simp [cstep]; rw [if_neg (by omega)]; dsimp only; omega
          · rw [chainAt_succ hi, hb]; simp [cstep, hcs]; rw [if_neg (by omega)]; exact hys5'
  · rintro m₁ news₁ h tk2 ⟨c, vs, n, _, tA, e1, e2, e3, e4, rfl, rfl, hvs⟩ F N
    rw [List.length_map, List.length_range, chainAt_all] at *
    change Fr s.heap L h _ at F
    change News s.heap L h _ at N
    rw [over4 e1 e2 e3 e4] at F
    show wpAny _ _ _ _ _ _
    k_steps
    (rename News _ _ _ _ => Nx; rename Fr _ _ _ _ => Fx)
    exact hQ _ _ _ Fx.keep ⟨_, c, vs.toArray, n, _, rfl, Nx.get (.head _), Nx.get (.tail _ (.head _)), by simpa using hvs, Nx.fresh (.head _), Nx.fresh (.tail _ (.head _)), by have : @Ne Nat _ c := ne_of_gt' (by assumption); exact this⟩
section
variable {prog : Program} {w : World} {A : Around} {s : Shared} {base : Heap} {outer : List Env} {K : Frag}
  {R : Result → Shared → Prop} {name qual : Str} {params : Arguments} {body : List Stmt} {scope : Scope} {dV kV doc pm cdv ct oc : Value} {an od : Option Addr} {osl : Array (Option Value)} {f : Addr} {args : Args} {vs : List Value} {binds : Value → List (Str × Value)}

/-- into the body of a def with a star -/
theorem enter_rest {p : Program} {loose : List Str} {mean : ExcName → Option Value} {mg mb : Str → Option Value} (X : K.In s.heap) (T : Top p loose mean mg mb s.heap)
    (ho : K.lookup f = some ⟨oc, od, .func (fnOf name qual params body scope dV kV doc pm an cdv ct), osl⟩) (hcd : codeIn K cdv qual = true) (hroom : A.depth < recursionLimit)
    (hp : bindArgs (fnOf name qual params body scope dV kV doc pm an cdv ct) args = newTuple vs >>= fun v => pure (binds v)) (hsz : vs.length ≤ sizeLine) (hloc : ∀ D, ∀ y ∈ binds D, scope.names.lookup y.1 = some .local)
    (h : ∀ D L h₁, Fr s.heap L h₁ (fun y => (binds (.ref D)).reverse.lookup y) → News s.heap L h₁ [(D, ({ cls := .type "tuple", data := .seq vs.toArray } : Obj))] →
      wpAny (model prog w) (A.deeper (envOf qual scope L f cdv)) (execs body (envOf qual scope L f cdv))
        (fun fl s' => R (.ok (.ret (match fl with | .ret v => v | _ => .none))) s')
        (fun e s' => wpAny (model prog w) (A.deeper (envOf qual scope L f cdv)) (leaving (envOf qual scope L f cdv) e) (fun _ s'' => R (.error e) s'') (fun e' s'' => R (.error e') s'') s')
        { s with heap := h₁, toks := s.toks + (binds (.ref D)).length })
    (hco : scope.isCoroutine = false) (hgen : scope.isGenerator = false) (hk : scope.kind = .function)
    (hcell : ∀ x ∈ scope.names, x.2 ≠ .cell) : codeAny (model prog w) A (.call (.ref f) args) R s := by
  refine codeAny_call_function (fd := fnOf name qual params body scope dV kV doc pm an cdv ct) (body := body) hroom (X _ _ ho) rfl hco hgen rfl (codeRec_of X hcd) ?_
  rw [hp]
  refine wpAny_bind (wpAny_newObj_type ?_ (by show vs.toArray.size ≤ sizeLine; rw [List.size_toArray]; exact hsz))
  refine wpAny_pure ?_
  refine wpAny_newFunctionEnv hcell (hloc _) (fun h₁ hns hsb => ⟨(T.nolimit.keeps fun b o e => Heap.get?_push_of_some _ e).fresh _ hsb, codeAny_func ?_⟩) hk
  dsimp only at hns hsb
  have hsz' : (s.heap.push { cls := .type "tuple", data := .seq vs.toArray }).objs.size = s.heap.objs.size + 1 := Heap.size_push ..
  have hk₁ : ∀ b o, (s.heap.push { cls := .type "tuple", data := .seq vs.toArray }).get? b = some o → h₁.get? b = some o := fun b o e => hsb.extBut b o (Nat.ne_of_lt (Heap.lt_size e)) (Heap.get?_push_of_some _ e)
  have hD : (s.heap.push { cls := .type "tuple", data := .seq vs.toArray }).get? s.heap.objs.size = some { cls := .type "tuple", data := .seq vs.toArray } := Heap.get?_push_size _ rfl
  refine h s.heap.objs.size _ h₁ ⟨hns, fun b o e => hk₁ b o (Heap.get?_push_of_some _ e), by rw [hsz']; exact Nat.le_succ _⟩ (fun p hp => ?_)
  rw [List.mem_singleton.mp hp]
  refine ⟨hk₁ _ _ hD, fun e => ?_, ?_⟩
  · have : s.heap.objs.size = (s.heap.push { cls := .type "tuple", data := .seq vs.toArray }).objs.size := e
    omega
  · cases q : s.heap.get? s.heap.objs.size with
    | none => rfl
    | some o => exact absurd (Heap.lt_size q) (Nat.lt_irrefl _)
end

/-- join's loop -/
def jstep (path b : Str) : Str :=
  if Txt.startswith b (Str.ofString "/") = true ∨ path.length = 0 then b else if Txt.endswith path (Str.ofString "/") = true then path ++ b else path ++ (Str.ofString "/" ++ b)
theorem jstep1 {path b : Str} (h : Txt.startswith b (Str.ofString "/") = true) : b = jstep path b := by unfold jstep; rw [if_pos (.inl h)]
theorem jstep2 {path b : Str} (h : (path.length : Int) = 0) : b = jstep path b := by unfold jstep; rw [if_pos (.inr (by omega))]
theorem jstep3 {path b : Str} (h1 : Txt.startswith b (Str.ofString "/") = false) (h2 : (path.length : Int) ≠ 0) (h3 : Txt.endswith path (Str.ofString "/") = true) : path ++ b = jstep path b := by
  unfold jstep; rw [if_neg (fun h => h.elim (fun h => by rw [h1] at h; cases h) fun h => by omega), if_pos h3]
theorem jstep4 {path b : Str} (h1 : Txt.startswith b (Str.ofString "/") = false) (h2 : (path.length : Int) ≠ 0) (h3 : Txt.endswith path (Str.ofString "/") = false) : path ++ (Str.ofString "/" ++ b) = jstep path b := by
  unfold jstep; rw [if_neg (fun h => h.elim (fun h => by rw [h1] at h; cases h) fun h => by omega), if_neg (by rw [h3]; exact Bool.false_ne_true)]
theorem jstep_le {path b : Str} : (jstep path b).length ≤ path.length + b.length + 1 := by
  have h1 : (Str.ofString "/").length = 1 := by decide
  unfold jstep
  split
  · omega
  · split
    · rw [Str.length_append]; omega
    · rw [Str.length_append, Str.length_append, h1]; omega
theorem jfold_le {B : Nat} : ∀ {ps : List Str} {a : Str}, (∀ p ∈ ps, p.length ≤ B) → (ps.foldl jstep a).length ≤ a.length + ps.length * (B + 1)
  | [], _, _ => by simp
  | p :: ps, a, h => by
    have h1 := jfold_le (ps := ps) (a := jstep a p) fun q hq => h q (.tail _ hq)
    have h2 := jstep_le (path := a) (b := p)
    have h3 := h p (.head _)
    rw [List.foldl_cons, List.length_cons, Nat.succ_mul]
    omega
theorem join_con {w : World} {s : Shared} {a : Str} {ta : Tok} {vs : List Value} {ps : List Str} (hvs : StrsAre vs ps) (hlen : vs.length ≤ 100) (ha : a.length ≤ 64) (hps : ∀ p ∈ ps, p.length ≤ 64) :
    Con w 115 (.str a ta :: vs) [] 3 s (fun h r => ∃ t', r = .str (ps.foldl jstep a) t') := by
  have hz : PySem.Challenge.rw_rt0036_01 = PySem.Challenge.rw_rt0036_01 := rfl
  unfold Con
  revert hz
  k_fill
  intro _ dp un gd outer base mean mg mb Q E B X T hd hu hQ
  refine wpAny_call ?_
  refine enter_rest (vs := vs) (binds := fun D => [(Str.ofString "a", .str a ta), (Str.ofString "p", D)]) X T (by k_is) (by k_is) (rm0 hd) (by cases vs <;> rfl) (by rw [sizeLine_eq]; omega) (fun _ => locs rfl) (fun D L h₁ F N => ?_) rfl rfl rfl (by decide)
  dsimp only
  k_fold
  k_steps
  refine Halt.go (con_use fspath_con B (by assumption) (by assumption) X T rfl rfl (rm hd) (rm3 hu) (fun r h' tk' hk hp F N => ?_))
  subst hp
  k_steps
  refine Halt.go (con_use get_sep_con B (by assumption) (by assumption) X T rfl rfl (rm hd) (rm3 hu) (fun r h' tk' hk hp F N => ?_))
  obtain ⟨t', rfl⟩ := hp
  k_steps
  (rename News _ _ _ _ => N₁; rename Fr _ _ _ _ => F₁)
  refine Halt.go (for_src (h₀ := s.heap) rfl rfl ?_)
  k_steps
  refine ForAt.intro (R := RStr) ps [(D, { cls := .type "tuple", data := .seq vs.toArray })] (fun i m₁ news₁ => ∃ path tp, m₁ (Str.ofString "sep") = some (.str (Str.ofString "/") t') ∧ m₁ (Str.ofString "path") = some (.str path tp) ∧
      news₁ = [(D, { cls := .type "tuple", data := .seq vs.toArray })] ∧ path = (ps.take i).foldl jstep a)
    F₁ N₁ (src_tuple rfl F₁ N₁ (.inr (.head _)) rfl rfl (Rel2.ofStrs hvs)) (fun i m₁ n₁ hJ p hp => by obtain ⟨_, _, _, _, rfl, _⟩ := hJ; exact hp) ⟨a, ta, rfl, rfl, rfl, rfl⟩ ?_ ?_
  · rintro i b v m₁ news₁ h tk2 I oI hb ⟨tb, rfl⟩ ⟨path, tp, e1, e2, rfl, hpath⟩ F N hI
    change Fr s.heap L h _ at F
    change News s.heap L h _ at N
    rw [over2 e1 e2] at F
    have hI1 : @Ne Nat D I := hI _ (.head _)
    have hi : i < ps.length := by
      rcases Nat.lt_or_ge i ps.length with h | h
      · exact h
      · rw [List.getElem?_eq_none h] at hb; cases hb
    have hbl := hps b (List.mem_of_getElem? hb)
    have hpl : path.length ≤ 64 + 100 * 65 := by
      have h1 := jfold_le (B := 64) (a := a) (ps := ps.take i) fun p hp => hps p (List.mem_of_mem_take hp)
      have h2 := hvs.len_eq
      have h3 : (ps.take i).length ≤ 100 := by rw [List.length_take]; omega
      rw [← hpath] at h1
      have h4 : (ps.take i).length * (64 + 1) ≤ 100 * 65 := Nat.mul_le_mul h3 (Nat.le_refl _)
      omega
    clear F₁ N₁
    show wpAny _ _ _ _ _ _
    k_fold
    k_steps
    refine Halt.go (con_use fspath_con B (by assumption) (by assumption) X T rfl rfl (rm hd) (rm3 hu) (fun r h' tk' hk hp F N => ?_))
    subst hp
    k_steps
    all_goals (rename News _ _ _ _ => Nx; rename Fr _ _ _ _ => Fx)
    all_goals (refine ⟨_, _, _, _, rfl, Fx, Nx, ne1 hI1, _, _, rfl, rfl, rfl, ?_⟩; rw [fold_next hb, ← hpath])
    all_goals (first | exact jstep1 (by assumption) | exact jstep2 (by assumption) | exact jstep3 (by assumption) (by assumption) (by assumption) | exact jstep4 (by assumption) (by assumption) (by assumption) | skip)
  · rintro m₁ news₁ h tk2 ⟨path, tp, e1, e2, rfl, hpath⟩ F N
    rw [List.take_length] at hpath
    change Fr s.heap L h _ at F
    change News s.heap L h _ at N
    rw [over2 e1 e2] at F
    clear F₁ N₁
    show wpAny _ _ _ _ _ _
    k_steps
    (rename Fr _ _ _ _ => Fx)
    exact hQ _ _ _ Fx.keep ⟨_, by rw [hpath]⟩
/-- what is being handled, if anything, is an exception with at most one behind it -/
def HOk (hn : Option Value) (h : Heap) : Prop := hn = none ∨ ∃ x o vs, hn = some (.ref x) ∧ h.get? x = some o ∧ o.data = .fields vs ∧
  (vs[2]? = some Value.none ∨ ∃ y o' vs', y ≠ x ∧ vs[2]? = some (.ref y) ∧ h.get? y = some o' ∧ o'.data = .fields vs' ∧ vs'[2]? = some Value.none)
theorem HOk.none {h : Heap} : HOk .none h := .inl rfl
theorem HOk.wide {hn : Option Value} {h h' : Heap} (H : HOk hn h) (k : ∀ b o vs v, h.get? b = some o → o.data = .fields vs → vs[2]? = some v → h'.get? b = some o) : HOk hn h' := by
  rcases H with rfl | ⟨x, o, vs, rfl, e, d, q | ⟨y, o', vs', hne, q, e', d', q'⟩⟩
  · exact .inl rfl
  · exact .inr ⟨x, o, vs, rfl, k _ _ _ _ e d q, d, .inl q⟩
  · exact .inr ⟨x, o, vs, rfl, k _ _ _ _ e d q, d, .inr ⟨y, o', vs', hne, q, k _ _ _ _ e' d' q', d', q'⟩⟩
theorem HOk.keeps {hn : Option Value} {h h' : Heap} (H : HOk hn h) (k : ∀ b o, h.get? b = some o → h'.get? b = some o) : HOk hn h' := H.wide fun b o _ _ e _ _ => k b o e
theorem entry_unchain : entryFor table "proto.unchain" = some Builtin.«proto.unchain» := entryFor_of_tree (by kernel_rfl)
theorem plain_unchain : plainId "proto.unchain" = true := by decide +kernel
section
variable {prog : Program} {w : World} {A : Around} {E : Value → Shared → Prop} {s : Shared}
/-- what stands behind an exception that is raised now -/
def behind (hn : Option Value) (ve : Array Value) : Array Value := match hn with | none => ve | some c => ve.setIfInBounds 2 c
theorem raiseNew_over {α : Type} {a : Addr} {Q : α → Shared → Prop} {cl : Value} {ve : Array Value} {h1 : Heap} (H : HOk A.handled h1) (hk : ∀ b o vs v, h1.get? b = some o → o.data = .fields vs → vs[2]? = some v → s.heap.get? b = some o) (ha0 : h1.get? a = none)
    (ha : s.heap.get? a = some { cls := cl, data := .fields ve }) (hsz : ve.size = 6)
    (h : ∀ h', Heap.SameBut a s.heap h' → h'.get? a = some { cls := cl, data := .fields (behind A.handled ve) } → E (.ref a) { s with heap := h' }) : wpAny (model prog w) A (raiseNew (.ref a) : Sem α) Q E s := by
  have last : ∀ x, A.handled = some (.ref x) → wpAny (model prog w) A (do updateField a 2 (.ref x); throw (.ref a) : Sem α) Q E s := fun x hx => by
    show wpAny _ _ (setField (.ref a) 2 (Value.ref x) >>= _) _ _ _
    refine wpAny_bind (wpAny_setField ha rfl (by omega) ?_)
    have e1 : behind A.handled ve = ve.setIfInBounds 2 (.ref x) := by rw [hx]; rfl
    exact wpAny_throw (h _ (Heap.SameBut.update ..) (by rw [e1]; exact Heap.get?_update_self _ ha rfl))
  rcases H with hn | ⟨x, o, vs, hx, e, d, q⟩
  · exact wpAny_raiseNew_none hn (h _ (Heap.SameBut.refl ..) (by rw [hn]; exact ha))
  · have hne' : x ≠ a := fun e' => by rw [e', ha0] at e; cases e
    unfold raiseNew
    refine wpAny_bind (wpAny_handled ?_)
    rw [hx]
    have hb : ((Value.ref x) != (Value.ref a)) = true := by
      simp only [bne_iff_ne, ne_eq, Value.ref.injEq]; exact hne'
    show wpAny _ _ (if ((Value.ref x) != (Value.ref a)) = true then _ else _) _ _ _
    rw [if_pos hb]
    refine wpAny_bind (wpAny_holding (wpAny_runValue (codeAny_builtin entry_unchain ?_)))
    rw [Around.under_plainId plain_unchain]
    show wpAny _ _ (field (.ref x) 2 >>= _) _ _ _
    rcases q with q | ⟨y, o', vs', hyx, q, e', d', q'⟩
    · refine wpAny_bind (wpAny_field (hk _ _ _ _ e d q) d q ?_)
      show wpAny _ _ (if (Value.none == Value.none) = true then _ else _) _ _ _
      rw [if_pos (by decide)]
      exact wpAny_pure (last x hx)
    · have hya : y ≠ a := fun e2 => by rw [e2, ha0] at e'; cases e'
      refine wpAny_bind (wpAny_field (hk _ _ _ _ e d q) d q ?_)
      show wpAny _ _ (if (Value.ref y == Value.none) = true then _ else _) _ _ _
      rw [if_neg (show ¬ ((Value.ref y == Value.none) = true) from Bool.false_ne_true)]
      show wpAny _ _ (if (Value.ref y == Value.ref a) = true then _ else _) _ _ _
      rw [if_neg (fun e2 => hya (by have := eq_of_beq e2; injection this))]
      show wpAny _ _ (if (Value.ref y == Value.ref x) = true then _ else _) _ _ _
      rw [if_neg (fun e2 => hyx (by have := eq_of_beq e2; injection this))]
      refine wpAny_bind (m := pure (Value.ref x)) (wpAny_pure ?_)
      refine wpAny_pure ⟨plainId_quiet plain_unchain _, codeAny_builtin entry_unchain ?_⟩
      rw [Around.under_plainId plain_unchain]
      show wpAny _ _ (field (.ref y) 2 >>= _) _ _ _
      refine wpAny_bind (wpAny_field (hk _ _ _ _ e' d' q') d' q' ?_)
      show wpAny _ _ (if (Value.none == Value.none) = true then _ else _) _ _ _
      rw [if_pos (by decide)]
      exact wpAny_pure (last x hx)
/-- a StopIteration made and raised: two objects on top of the heap -/
theorem stop_now {α : Type} {g : Heap} {Q : α → Shared → Prop} (H : HOk A.handled g) (few : g.objs.size ≤ s.heap.objs.size) (up : ∀ b o vs v, g.get? b = some o → o.data = .fields vs → vs[2]? = some v → s.heap.get? b = some o)
    (h : ∀ h' x, (∃ o, h'.get? x = some o ∧ o.cls = .type "StopIteration") → (∀ b o, s.heap.get? b = some o → h'.get? b = some o) → E (.ref x) { s with heap := h' }) :
    wpAny (model prog w) A (newExc (.type "StopIteration") [] >>= fun x => raiseNew x) Q E s := by
  simp only [newExc, newTuple]
  refine wpAny_bind (wpAny_bind (wpAny_newObj_type (wpAny_bind (wpAny_of_eq (a := Value.none) (by first | rfl | (simp only [firstArgMember]; rfl)) (wpAny_newObj_type ?_ (by size_fits)))) (by size_fits)))
  refine raiseNew_over H (fun b o vs v e d q => Heap.get?_push_of_some _ (Heap.get?_push_of_some _ (up b o vs v e d q))) (Heap.get?_none_of_le (Nat.le_trans few (by rw [Heap.size_push]; exact Nat.le_succ _))) (Heap.get?_push_size _ rfl) rfl fun h' sb e => ?_
  exact h h' _ ⟨_, e, rfl⟩ fun b o q => sb.extBut b o (fun z => Nat.lt_irrefl b (by have := Heap.lt_size q; rw [z, Heap.size_push] at this ⊢; exact absurd this (Nat.not_lt.mpr (Nat.le_succ _)))) (Heap.get?_push_of_some _ (Heap.get?_push_of_some _ q))
/-- the end of a list's iterator while something may be handled -/
theorem list_endH {it l : Addr} {i : Nat} {items} {Q : Option Value → Shared → Prop} (hh : HOk A.handled s.heap) (hit : s.heap.IsListIter it l i) (hl : s.heap.IsList l items) (hx : items[i]? = none)
    (hQ : ∀ h', Heap.ExtBut it s.heap h' → Q none { s with heap := h' }) : wpAny (model prog w) A (pyNext (.ref it)) Q E s := by
  obtain ⟨_, ei, _, di⟩ := id hit
  obtain ⟨_, el, _, _, dl⟩ := hl
  have sb : Heap.SameBut it s.heap (s.heap.update it (Obj.mapFields (·.setIfInBounds 0 .none))) := Heap.SameBut.update ..
  have raised : ∀ {β : Type} (Q' : β → Shared → Prop) (E' : Value → Shared → Prop), (∀ h' x, (∃ o, h'.get? x = some o ∧ o.cls = .type "StopIteration") → Heap.ExtBut it s.heap h' → E' (.ref x) { s with heap := h' }) →
      wpAny (model prog w) A.in1 (newExc (.type "StopIteration") [] >>= fun x => raiseNew x) Q' E' { s with heap := s.heap.update it (Obj.mapFields (·.setIfInBounds 0 .none)) } := fun Q' E' k =>
    stop_now (g := s.heap) hh (Nat.le_of_eq sb.1.symm) (fun b o vs v e d q => sb.extBut b o (fun z => by
      rw [z, ei] at e
      cases e
      rw [di] at d
      cases d
      cases q) e) fun h' x hx up => k h' x hx fun b o hb e => up b o (sb.extBut b o hb e)
  unfold pyNext
  refine wpAny_bind (wpAny_attempt (wpAny_callSpecial?_slot (name := Str.ofString "__next__") hit.typeIs slot_listiter_next (wpAny_call_entry slot_listiter_next hit.typeIs entry_listiter_next ?_ (args_listiter_next _))))
  refine wpAny_bind (m := field (.ref it) 0) (wpAny_field ei di (x := .ref l) rfl ?_)
  rw [if_neg (by exact Bool.false_ne_true)]
  refine wpAny_bind (m := field (.ref it) 1) (wpAny_field ei di (x := .int i 0) rfl ?_)
  refine wpAny_bind (m := seqItems? (.ref l)) (wpAny_seqItems el dl ?_)
  simp only [Int.toNat_natCast, hx]
  refine wpAny_bind (wpAny_rule (wpAny_bind (wpAny_setField ei di (Nat.zero_lt_succ 1) (raised _ _ fun h' x ⟨_, e, c⟩ ext => ?_))))
  exact wpAny_bind (wpAny_isInstance (T := "StopIteration") (b := true) ⟨_, e, c⟩ isSubtype_stop (wpAny_pure (hQ h' ext)))
theorem src_listH {α : Type} {prog : Program} {w : World} {A : Around} {h₀ : Heap} {L : Addr} {m : Str → Option Value} {news : List (Addr × Obj)} {s₁ : Shared} {l : Addr} {ol : Obj} {vs : List Value} {n : Nat} {xs : List α} {R : α → Value → Prop} (hh : HOk A.handled h₀) (F : Fr h₀ L s₁.heap m) (N : News h₀ L s₁.heap news) (ho : h₀.get? l = some ol ∨ (l, ol) ∈ news)
    (hc : ol.cls = .type "list") (hd : ol.data = .seq vs.toArray n) (hr : Rel2 R xs vs) : SrcOk prog w A h₀ L news (.ref l) s₁ xs R := by
  by_cases hn : A.handled = none
  · exact src_list hn F N ho hc hd hr
  intro Q E hQ
  have hlo : s₁.heap.get? l = some ol := ho.elim (fun e => F.keep _ _ e) fun hm => (N _ hm).1
  have hls : s₁.heap.IsList l vs.toArray := ⟨ol, hlo, hc, n, hd⟩
  have hlt : l < s₁.heap.objs.size := Heap.lt_size hlo
  have two : ∃ x ox y oy, h₀.get? x = some ox ∧ h₀.get? y = some oy ∧ ∀ h : Heap, h.get? x = some ox → h.get? y = some oy → HOk A.handled h := by
    rcases hh with h0 | ⟨x, ox, vx, hx, e, d, q | ⟨y, oy, vy, hne, q, e', d', q'⟩⟩
    · exact absurd h0 hn
    · exact ⟨x, ox, x, ox, e, e, fun h a _ => .inr ⟨x, ox, vx, hx, a, d, .inl q⟩⟩
    · exact ⟨x, ox, y, oy, e, e', fun h a b => .inr ⟨x, ox, vx, hx, a, d, .inr ⟨y, oy, vy, hne, q, b, d', q'⟩⟩⟩
  obtain ⟨x, ox, y, oy, e, e', two⟩ := two
  have hxs := F.keep _ _ e
  have hys := F.keep _ _ e'
  have hlx : x < s₁.heap.objs.size := Heap.lt_size hxs
  have hly : y < s₁.heap.objs.size := Heap.lt_size hys
  have W : Walks prog w A s₁.heap.objs.size [s₁.heap.objs.size, l, x, y] [s₁.heap.objs.size] vs.toArray.size (fun i v => vs.toArray[i]? = some v) (fun i h => (h.IsListIter s₁.heap.objs.size l i ∧ h.IsList l vs.toArray) ∧ h.get? x = some ox ∧ h.get? y = some oy) :=
    { sub := fun b hb => by simp at hb; simp [hb]
      frame := fun _ _ _ st hk => ⟨⟨st.1.1.at fun o e => hk _ (by simp) o e, st.1.2.at fun o e => hk l (by simp) o e⟩, hk x (by simp) _ st.2.1, hk y (by simp) _ st.2.2⟩
      item := fun i s Q E hi st hQ => by
        refine wpAny_pyNext_list_item st.1.1 st.1.2 (x := vs.toArray[i]) (by simp at hi; simp [hi]) fun h' hit' hs' => ?_
        exact hQ _ h' s.toks (by simp at hi; simp [hi]) ⟨⟨hit', st.1.2.extBut hs'.extBut (Nat.ne_of_lt hlt)⟩, hs'.extBut _ _ (Nat.ne_of_lt hlx) st.2.1, hs'.extBut _ _ (Nat.ne_of_lt hly) st.2.2⟩ fun b o hb e => hs'.extBut b o (fun h => hb (by simp [h])) e
      done := fun s Q E st hQ => list_endH (two _ st.2.1 st.2.2) st.1.1 st.1.2 (by simp) fun h' he' => hQ h' s.toks fun b o hb e => he' b o (fun h => hb (by simp [h])) e
      self := fun _ _ _ _ st hQ => wpAny_pyIter_listiter st.1.1 hQ }
  refine wpAny_pyIter_list hls (hQ _ _ _ rfl ((show vs.toArray.size = xs.length by rw [List.size_toArray, hr.length]) ▸ walks_p W fun i v _ hv => hr.get (by simpa using hv)) (fun b hb => ?_) ⟨⟨⟨_, Heap.get?_push_size _ rfl, rfl, rfl⟩, hls.push _⟩, Heap.get?_push_of_some _ hxs, Heap.get?_push_of_some _ hys⟩ (fun i h st => ?_) (fun i h h' o st e1 e2 k N' => ?_))
  · rcases List.mem_cons.mp hb with rfl | hb
    · exact Nat.lt_succ_self _
    · rcases List.mem_cons.mp hb with rfl | hb
      · exact Nat.lt_succ_of_lt hlt
      · rcases List.mem_cons.mp hb with rfl | hb
        · exact Nat.lt_succ_of_lt hlx
        · rw [List.mem_singleton.mp hb]; exact Nat.lt_succ_of_lt hly
  · obtain ⟨o, e, _⟩ := st.1.1; exact ⟨o, e⟩
  · obtain ⟨o', q, r⟩ := st.1.1
    rw [e1] at q; cases q
    exact ⟨⟨⟨o, e2, r⟩, ⟨ol, ho.elim (fun e => k _ _ e) fun hm => (N' _ hm).1, hc, n, hd⟩⟩, k _ _ e, k _ _ e'⟩
end
/-- a call's contract where hn may be under way -/
def ConH (w : World) (hn : Option Value) (f : Addr) (vs : List Value) (kw : List (Str × Value)) (n : Nat) (s : Shared) (Post : Heap → Value → Prop) : Prop :=
  ∀ (dp un : Nat) (gd : Option (List Code)) (outer : List Env) (base : Heap) (mean : ExcName → Option Value) (mg mb : Str → Option Value) (Q E : Value → Shared → Prop),
    Below { handled := hn, depth := dp, frames := some outer, guards := gd, units := un } base outer s.heap → (K0 w.params).In s.heap →
    Top V0 (looseW V0 [Str.ofString "b2a_base64", Str.ofString "b64encode", Str.ofString "_deduplicate"]) mean mg mb s.heap →
    HOk hn s.heap → dp + n < recursionLimit → un + 8 * n < cLine →
    (∀ r h' tk', (∀ b o, s.heap.get? b = some o → h'.get? b = some o) → Post h' r → Q r { s with heap := h', toks := tk' }) →
    wpAny (model PySem.Challenge.rw_rt0036_01.row.prog w) { handled := hn, depth := dp, frames := some outer, guards := gd, units := un } (call (.ref f) vs kw) Q E s
theorem ConH.con {w : World} {f : Addr} {vs : List Value} {kw : List (Str × Value)} {n : Nat} {s : Shared} {Post : Heap → Value → Prop} (C : ConH w none f vs kw n s Post) : Con w f vs kw n s Post :=
  fun dp un gd outer base mean mg mb Q E B X T hd hu hQ => C dp un gd outer base mean mg mb Q E B X T .none hd hu hQ
/-- what == says of two things that stand for a and b -/
def EqOk {α : Type} [DecidableEq α] (h₀ : Heap) (R : α → Value → Prop) : Prop :=
  (∀ a b v, R a v → R b v → a = b) ∧ ∀ (A : Around) (s : Shared) (a b : α) (v x : Value), A.units + 70 < cLine → (∀ b o, h₀.get? b = some o → s.heap.get? b = some o) → R a v → R b x → SeqAt.EqAt A s v x (decide (a = b))
def dstep {α : Type} [DecidableEq α] (acc : List α) (x : α) : List α := if x ∈ acc then acc else acc ++ [x]
def dedup {α : Type} [DecidableEq α] (xs : List α) : List α := xs.foldl dstep []
theorem dstep_in {α : Type} [DecidableEq α] {acc : List α} {x : α} (h : x ∈ acc) : dstep acc x = acc := if_pos h
theorem dstep_out {α : Type} [DecidableEq α] {acc : List α} {x : α} (h : ¬ x ∈ acc) : dstep acc x = acc ++ [x] := if_neg h
theorem dedup_len {α : Type} [DecidableEq α] : ∀ (xs acc : List α), (xs.foldl dstep acc).length ≤ acc.length + xs.length
  | [], acc => Nat.le_refl _
  | x :: xs, acc => by
    refine Nat.le_trans (dedup_len xs (dstep acc x)) ?_
    unfold dstep; split <;> simp <;> omega
open Classical in
theorem any_rel {α : Type} [DecidableEq α] {R : α → Value → Prop} (hf : ∀ a b v, R a v → R b v → a = b) {a : α} : ∀ {acc : List α} {ws : List Value}, Rel2 R acc ws → ws.any (fun y => decide (R a y)) = decide (a ∈ acc)
  | _, _, .nil => by simp
  | _, _, .cons (a := b) (v := v) h t => by
    rw [List.any_cons, any_rel hf t]
    by_cases hb : a = b
    · subst hb; simp [h]
    · have : ¬ R a v := fun h' => hb (hf _ _ _ h' h)
      simp [this, hb]
theorem Rel2.mem {α : Type} {R : α → Value → Prop} {y : Value} : ∀ {l vs}, Rel2 R l vs → y ∈ vs → ∃ a, a ∈ l ∧ R a y
  | _, _, .cons h t, hy => by
    rcases List.mem_cons.mp hy with rfl | hy
    · exact ⟨_, .head _, h⟩
    · obtain ⟨a, ha, hr⟩ := Rel2.mem t hy
      exact ⟨a, .tail _ ha, hr⟩
open Classical in
theorem eq_rel {α : Type} [DecidableEq α] {R : α → Value → Prop} {h₀ : Heap} {A : Around} {s : Shared} {a : α} {v : Value} {acc : List α} {ws : List Value} (hR : EqOk h₀ R) (hk : ∀ b o, h₀.get? b = some o → s.heap.get? b = some o) (hu : A.units + 70 < cLine) (hav : R a v) (hws : Rel2 R acc ws) :
    ∀ y ∈ ws, SeqAt.EqAt A s y v (decide (R a y)) := fun y hy => by
  obtain ⟨b, hb, hby⟩ := hws.mem hy
  have := hR.2 A s b a y v hu hk hby hav
  have e : decide (b = a) = decide (R a y) := by
    by_cases h : b = a
    · subst h; simp [hby]
    · have : ¬ R a y := fun h' => h (hR.1 _ _ _ hby h')
      simp [h, this]
  rw [← e]; exact this
open Classical in
theorem notIn_rel {α : Type} [DecidableEq α] {prog : Program} {w : World} {A : Around} {E : Value → Shared → Prop} {s : Shared} {R : α → Value → Prop} {h₀ : Heap} {L c : Addr} {m : Str → Option Value} {news : List (Addr × Obj)} {ws : Array Value} {n : Nat} {acc : List α} {a : α} {v : Value} {Q : Value → Shared → Prop}
    (hR : EqOk h₀ R) (F : Fr h₀ L s.heap m) (N : News h₀ L s.heap news) (hm : (c, PySem.W.listOf ws n) ∈ news) (hu : A.units + 71 < cLine) (hav : R a v) (hws : Rel2 R acc ws.toList) (h : Q (.bool (!decide (a ∈ acc))) s) :
    wpAny (model prog w) A (compareOp .NotIn v (.ref c)) Q E s :=
  SeqAt.notIn_listAt (fun y => decide (R a y)) (own_list N hm) (fun y hy => eq_rel hR F.keep (by show A.units + 1 + 70 < cLine; omega) hav hws y (by simpa using hy)) (by rw [← Array.any_toList, any_rel hR.1 hws]; exact h)
theorem dedup_con {α : Type} [DecidableEq α] {w : World} {hn : Option Value} {s : Shared} {R : α → Value → Prop} {l : Addr} {vs : List Value} {n : Nat} {xs : List α} (hR : EqOk s.heap R) (hl : s.heap.get? l = some (PySem.W.listOf vs.toArray n)) (hr : Rel2 R xs vs) (hz : vs.length ≤ 200) :
    ConH w hn 174 [.ref l] [] 12 s (fun h r => ∃ c ws n, r = .ref c ∧ h.get? c = some (PySem.W.listOf ws n) ∧ s.heap.get? c = none ∧ Rel2 R (dedup xs) ws.toList) := by
  have hz : PySem.Challenge.rw_rt0036_01 = PySem.Challenge.rw_rt0036_01 := rfl
  unfold ConH
  revert hz
  k_fill
  intro _ dp un gd outer base mean mg mb Q E B X T H hd hu hQ
  refine wpAny_call ?_
  refine enter_def (binds := [(Str.ofString "unhashable_params", .ref l)]) B X T (by k_is) (by k_is) (rm0 hd) (BindsTo.of_eq rfl) (locs rfl) (fun L h₁ hL F N => ?_) rfl rfl rfl (by decide)
  dsimp only
  k_fold
  k_steps
  refine Halt.go (for_src (h₀ := s.heap) rfl rfl ?_)
  k_steps
  (rename News _ _ _ _ => N₁; rename Fr _ _ _ _ => F₁)
  refine ForAt.intro (R := R) xs [] (fun i m₁ news₁ => ∃ c ws n, m₁ (Str.ofString "new_unhashable") = some (.ref c) ∧ news₁ = [(c, PySem.W.listOf ws n)] ∧ Rel2 R ((xs.take i).foldl dstep []) ws.toList)
    F₁ N₁ (src_listH H F₁ News.nil (.inl hl) rfl rfl hr) (fun _ _ _ _ _ h => nomatch h) ⟨_, #[], 0, rfl, rfl, .nil⟩ ?_ ?_
  · rintro i a v m₁ news₁ h tk2 I oI ha hav ⟨c, ws, n', e1, rfl, hws⟩ F N hI
    change Fr s.heap L h _ at F
    change News s.heap L h _ at N
    rw [over1 e1] at F
    have hI1 : @Ne Nat c I := hI _ (.head _)
    have hwl : ws.size ≤ 200 := by
      have := hws.length
      have := dedup_len (xs.take i) []
      have := hr.length
      simp at *; omega
    show wpAny _ _ _ _ _ _
    k_fold
    k_steps
    refine notIn_rel hR (by assumption) (by assumption) (by walk_at "mem") (by show un + 3 + 71 < cLine; omega) hav hws ?_
    by_cases hin : a ∈ (xs.take i).foldl dstep []
    · have e : (!decide (a ∈ (xs.take i).foldl dstep [])) = false := by simp [hin]
      rw [e]
      k_steps
      (rename News _ _ _ _ => Nx; rename Fr _ _ _ _ => Fx)
      refine ⟨_, _, _, [(_, PySem.W.listOf _ _)], rfl, Fx, news_two Nx (by walk_at "mem") (by walk_at "mem"), ne1 (by omega), _, _, _, rfl, rfl, ?_⟩
      rw [fold_next ha, dstep_in hin]; exact hws
    · have e : (!decide (a ∈ (xs.take i).foldl dstep [])) = true := by simp [hin]
      rw [e]
      k_steps
      (rename News _ _ _ _ => Nx; rename Fr _ _ _ _ => Fx)
      refine ⟨_, _, _, [(_, PySem.W.listOf _ _)], rfl, Fx, news_two Nx (by walk_at "mem") (by walk_at "mem"), ne1 (by omega), _, _, _, rfl, rfl, ?_⟩
      rw [fold_next ha, dstep_out hin, Array.toList_push]; exact hws.snoc hav
  · rintro m₁ news₁ h tk2 ⟨c, ws, n', e1, rfl, hws⟩ F N
    change Fr s.heap L h _ at F
    change News s.heap L h _ at N
    rw [over1 e1] at F
    rw [List.take_length] at hws
    show wpAny _ _ _ _ _ _
    k_steps
    (rename News _ _ _ _ => Nx; rename Fr _ _ _ _ => Fx)
    exact hQ _ _ _ Fx.keep ⟨_, ws, n', rfl, Nx.get (.head _), Nx.fresh (.head _), hws⟩
theorem wpAny_loadOwn {prog : Program} {w : World} {A : Around} {E : Value → Shared → Prop} {hp : Heap} {g : Array GenState} {d : Drawn} {tk : Nat} {os : OsState} {a : Addr} {o : Obj} {wt : Option Value} {Q : Obj → Shared → Prop} (hl : hp.get? a = some o) (h : Q o ⟨hp, g, d, tk, os⟩) : wpAny (model prog w) A (loadPart a wt) Q E ⟨hp, g, d, tk, os⟩ := AutoSeq1.wpAny_loadPart' hl h
open MeetsSeq SeqAt in
theorem takeOut_loop (l : Addr) (items : Array Value) (n : Nat) (x : Value) (e : Value → Bool) (hs1 : items.size ≤ sizeLine) (k : Nat) :
    ∀ i : Nat, items.size - i = k → Meets (Builtin.«list.remove.loop» ⟨[.ref l, x, rawInt i], []⟩)
      (fun A R s => s.heap.get? l = some { cls := .type "list", dict := none, data := .seq items n, slots := #[] } ∧ (∀ y, y ∈ items → EqAt A.in1 s y x (e y)) ∧ A.handled = none ∧
        (∀ dd, (items.toList.drop i).findIdx? e = some dd → R (.ok (.ret .none)) { s with heap := s.heap.update l (Obj.mapSeq fun xs => xs.eraseIdxIfInBounds (i + dd)) }) ∧
        ((items.toList.drop i).findIdx? e = none → ∀ h' tk ex, Heap.NewExc s.heap h' ex "ValueError" → R (.error (.ref ex)) { s with heap := h', toks := tk })) := by
  have at_ : ∀ i : Nat, items[((i : Nat) : Int).toNat]? = items[i]? := fun i => by rw [Int.toNat_natCast]
  induction k with
  | zero =>
    intro i hk prog w A R ⟨hp, g, d, tk, os⟩ ⟨hl, _, hh, _, fails⟩
    have out : items.size ≤ i := Nat.le_of_sub_eq_zero hk
    wp_walk using wpAny_loadOwn hl
    rw [at_, Array.getElem?_eq_none out]
    wp_walk
    exact_raiseError plainExc_ValueError hh (fails (by rw [List.drop_of_length_le (by simpa using out)]; rfl))
  | succ k ih =>
    intro i hk prog w A R ⟨hp, g, d, tk, os⟩ ⟨hl, he, hh, gives, fails⟩
    have hlt : i < items.size := by omega
    have tl : (items.toList.drop i).findIdx? e = if e items[i] = true then some 0 else ((items.toList.drop (i + 1)).findIdx? e).map (· + 1) := by
      rw [List.drop_eq_getElem_cons (by simpa using hlt), List.findIdx?_cons, Array.getElem_toList]
    wp_walk using wpAny_loadOwn hl
    rw [at_, Array.getElem?_eq_getElem hlt]
    refine wpAny_bind (he _ (Array.getElem_mem hlt) prog w _ _ ?_)
    cases hb : e items[i]
    · have fewer : ∀ dd, (items.toList.drop (i + 1)).findIdx? e = some dd → (items.toList.drop i).findIdx? e = some (dd + 1) := fun dd q => by rw [tl, hb, q]; rfl
      have nowhere : (items.toList.drop (i + 1)).findIdx? e = none → (items.toList.drop i).findIdx? e = none := fun q => by rw [tl, hb, q]; rfl
      wp_walk
      rw [show ((i : Int) + 1) = ((i + 1 : Nat) : Int) from rfl]
      refine ⟨plainId_quiet plain_remove_loop _, codeAny_builtin entry_remove_loop ?_⟩
      rw [Around.under_plainId plain_remove_loop]
      exact ih (i + 1) (by omega) prog w _ R _ ⟨hl, he, hh, fun dd q => (show i + 1 + dd = i + (dd + 1) by omega) ▸ gives _ (fewer dd q), fun q => fails (nowhere q)⟩
    · have small : (items.eraseIdxIfInBounds i).size ≤ sizeLine + 1 := Nat.le_succ_of_le (Nat.le_trans (size_erased ..) hs1)
      have z := gives 0 (by rw [tl, hb]; rfl)
      wp_walk using (wpAny_updateSeq hl rfl (hz := hs1) (_hz' := small)), wpAny_loadOwn hl
      exact z
open MeetsSeq SeqAt in
theorem takeOut_meets (l : Addr) (items : Array Value) (n : Nat) (x : Value) (e : Value → Bool) (hs1 : items.size ≤ sizeLine) : Meets (Builtin.«list.remove» ⟨[.ref l, x], []⟩)
      (fun A R s => s.heap.get? l = some { cls := .type "list", dict := none, data := .seq items n, slots := #[] } ∧ (∀ y, y ∈ items → EqAt A.in1 s y x (e y)) ∧ A.handled = none ∧
        (∀ dd, items.toList.findIdx? e = some dd → R (.ok (.ret .none)) { s with heap := s.heap.update l (Obj.mapSeq fun xs => xs.eraseIdxIfInBounds dd) }) ∧
        (items.toList.findIdx? e = none → ∀ h' tk ex, Heap.NewExc s.heap h' ex "ValueError" → R (.error (.ref ex)) { s with heap := h', toks := tk })) := by
  intro prog w A R s h
  obtain ⟨hp, g, d, tk, os⟩ := s; obtain ⟨hl, he, hh, h1, h2⟩ := h
  wp_walk using wpAny_loadOwn hl
  exact ⟨plainId_quiet plain_remove_loop _, codeAny_builtin entry_remove_loop (by
    rw [Around.under_plainId plain_remove_loop _]
    exact takeOut_loop l items n x e hs1 _ 0 rfl prog w A R _ ⟨hl, he, hh, fun dd hdd => by simpa using h1 dd (by simpa using hdd), fun hn => h2 (by simpa using hn)⟩)⟩
open Classical in
theorem erase_rel {α : Type} [DecidableEq α] {R : α → Value → Prop} (hf : ∀ a b v, R a v → R b v → a = b) {a : α} : ∀ {acc : List α} {ws : List Value}, Rel2 R acc ws →
    ((ws.findIdx? (fun y => decide (R a y)) = none ∧ ¬ a ∈ acc) ∨ ∃ d, ws.findIdx? (fun y => decide (R a y)) = some d ∧ a ∈ acc ∧ d < ws.length ∧ Rel2 R (acc.erase a) (ws.eraseIdx d))
  | _, _, .nil => .inl ⟨rfl, fun h => nomatch h⟩
  | _, _, .cons (a := b) (v := v) (l := l) (vs := vs) h t => by
    by_cases hb : a = b
    · subst hb
      refine .inr ⟨0, by rw [List.findIdx?_cons, decide_eq_true h]; rfl, .head _, by simp, ?_⟩
      rw [List.erase_cons_head]; exact t
    · have hn : ¬ R a v := fun h' => hb (hf _ _ _ h' h)
      rcases erase_rel hf (a := a) t with ⟨e, hno⟩ | ⟨d, e, hin, hd, r⟩
      · refine .inl ⟨by rw [List.findIdx?_cons, decide_eq_false hn, e]; rfl, fun h' => ?_⟩
        rcases List.mem_cons.mp h' with h' | h'
        · exact hb h'
        · exact hno h'
      · refine .inr ⟨d + 1, by rw [List.findIdx?_cons, decide_eq_false hn, e]; rfl, .tail _ hin, by simp; omega, ?_⟩
        rw [List.erase_cons_tail (by simpa using fun h => hb h.symm), List.eraseIdx_cons_succ]
        exact .cons h r
open Classical in
theorem takeOut_rel {α : Type} [DecidableEq α] {prog : Program} {w : World} {A : Around} {E : Value → Shared → Prop} {s : Shared} {R : α → Value → Prop} {h₀ : Heap} {L t : Addr} {m : Str → Option Value} {news : List (Addr × Obj)} {news' : Array Value → List (Addr × Obj)} {ws : Array Value} {n : Nat} {acc : List α} {a : α} {v : Value} {Q : Value → Shared → Prop}
    (hR : EqOk h₀ R) (F : Fr h₀ L s.heap m) (N : News h₀ L s.heap news) (hws : Rel2 R acc ws.toList) (hav : R a v) (hz : ws.size ≤ 1048576) (hu : A.units + 71 < cLine) (hh : A.handled = none)
    (hU : ∀ ws', Upd t (PySem.W.listOf ws n) (PySem.W.listOf ws' (n + 1)) news (news' ws'))
    (hin : a ∈ acc → ∀ h' ws', Rel2 R (acc.erase a) ws'.toList → Fr h₀ L h' m → News h₀ L h' (news' ws') → Q .none { s with heap := h' })
    (hout : ¬ a ∈ acc → ∀ h' tk ex, Heap.NewExc s.heap h' ex "ValueError" → E (.ref ex) { s with heap := h', toks := tk }) :
    wpAny (model prog w) A (call (.builtin "list.remove") [.ref t, v]) Q E s := by
  have z : s.heap.get? t = some (PySem.W.listOf ws n) ∧ t ≠ L ∧ h₀.get? t = none := by
    obtain ⟨pre, post, e1, _, _, _⟩ := (hU #[]).split
    subst e1
    exact N (t, PySem.W.listOf ws n) (List.mem_append.mpr (.inr (.head _)))
  refine call_meets PySem.F.slot_list_remove ⟨_, z.1, rfl⟩ PySem.F.entry_list_remove (PySem.F.args_list_remove_2 _ _) (takeOut_meets t ws n v (fun y => decide (R a y)) (by rw [sizeLine_eq]; omega))
    ⟨z.1, fun y hy => eq_rel hR F.keep (by show A.units + 1 + 70 < cLine; omega) hav hws y (by simpa using hy), hh, fun d hd => ?_, fun hno => ?_⟩
  · rcases erase_rel hR.1 (a := a) hws with ⟨e, _⟩ | ⟨d', e, ha, hlt, r⟩
    · rw [e] at hd; cases hd
    · rw [e] at hd; cases hd
      obtain ⟨pre, post, e1, e2, e3, e4⟩ := (hU (ws.eraseIdxIfInBounds d)).split
      have hlt' : d < ws.size := by simpa using hlt
      have er : ws.eraseIdxIfInBounds d = ws.eraseIdx d hlt' := by simp [Array.eraseIdxIfInBounds, hlt']
      refine hin ha _ (ws.eraseIdxIfInBounds d) (by rw [er, Array.toList_eraseIdx]; exact r) (F.change (Heap.SameBut.update ..) z.2.1 z.2.2) ?_
      rw [e2]
      refine PySem.W.ki_turn _ (by rw [← e1]; exact N) e3 e4 rfl ?_
      rw [er, Array.size_eraseIdx, if_neg (by simp; omega)]
  · rcases erase_rel hR.1 (a := a) hws with ⟨_, hna⟩ | ⟨d', e, _⟩
    · exact hout hna
    · rw [e] at hno; cases hno
/-- an exception in flight: it and its newest entry stand outside B, c stands behind it -/
structure InFlight (B : Heap) (e T : Addr) (cls c fl : Value) (h : Heap) : Prop where
  stays : B.StaysIn h
  eOut : B.get? e = none
  tOut : B.get? T = none
  ne : T ≠ e
  there : ∃ oe vs oT ts, h.get? e = some oe ∧ oe.cls = cls ∧ oe.data = .fields vs ∧ vs[1]? = some (.ref T) ∧ vs[2]? = some c ∧ h.get? T = some oT ∧ oT.data = .fields ts ∧ ts[3]? = some fl
/-- an exception just made, c behind it -/
structure NewExcC (c : Value) (h h' : Heap) (e : Addr) (cls : String) : Prop where
  keeps : ∀ b o, h.get? b = some o → h'.get? b = some o
  new : h.get? e = none
  there : ∃ ob t, h'.get? e = some ob ∧ ob.cls = .type cls ∧ ob.data = .fields #[t, .none, c, .none, .bool false, .none]
theorem NewExcC.of {h h' : Heap} {e : Addr} {cls : String} (x : Heap.NewExc h h' e cls) : NewExcC .none h h' e cls := ⟨x.keeps, x.new, x.there⟩
section
variable {M : Model} {A : Around} {E : Value → Shared → Prop} {s : Shared}
/-- a field set: one object changed, all else as it was -/
theorem set_one {a : Addr} {o : Obj} {vs : Array Value} {i : Nat} {v : Value} {Q : Unit → Shared → Prop} (ha : s.heap.get? a = some o) (hd : o.data = .fields vs) (hi : i < vs.size)
    (k : ∀ h' o', h'.get? a = some o' → o'.cls = o.cls → o'.data = .fields (vs.setIfInBounds i v) → (∀ b, b ≠ a → h'.get? b = s.heap.get? b) → Q () { s with heap := h' }) : wpAny M A (setField (.ref a) i v) Q E s :=
  wpAny_setField ha hd hi (k _ _ (Heap.get?_update_self _ ha (Obj.isFreed_of_fields (Obj.data_mapFields hd _))) (Obj.cls_mapFields ..) (Obj.data_mapFields hd _) fun _ hb => Heap.get?_update_other _ _ (Ne.symm hb))
theorem other_of_none {B : Heap} {a b : Addr} {o : Obj} (hn : B.get? a = none) (e : B.get? b = some o) : b ≠ a := fun q => by rw [q, hn] at e; exact nomatch e
theorem other_of_fields {h : Heap} {a b : Addr} {o o' : Obj} {vs : Array Value} (ha : h.get? a = some o) (hd : o.data = .fields vs) (e : h.get? b = some o') (hn : ∀ vs, o'.data ≠ .fields vs) : b ≠ a := fun q => by
  rw [q, ha] at e
  exact hn vs (Option.some.inj e ▸ hd)
/-- the newest entry's mark, set -/
theorem InFlight.mark {B : Heap} {e T : Addr} {cls c fl v : Value} {Q : Unit → Shared → Prop} (H : InFlight B e T cls c fl s.heap) (k : ∀ h', InFlight B e T cls c v h' → s.heap.UpToSlots h' → Q () { s with heap := h' }) : wpAny M A (setField (.ref T) 3 v) Q E s := by
  obtain ⟨oe, vs, oT, ts, ee, ce, de, v1, v2, eT, dT, v3⟩ := H.there
  have room : 3 < ts.size := (Array.getElem?_eq_some_iff.mp v3).1
  refine set_one eT dT room fun h' o' e' _ d' rest => k h' ⟨fun b o q => (rest b (other_of_none H.tOut q)).trans (H.stays b o q), H.eOut, H.tOut, H.ne, oe, vs, o', _, (rest e (Ne.symm H.ne)).trans ee, ce, de, v1, v2, e', d', by simp [room]⟩ fun b o q hn => ⟨o.slots, ?_⟩
  exact (rest b (other_of_fields eT dT q hn)).trans q
theorem InFlight.set {B : Heap} {e T : Addr} {cls c fl : Value} {Q : Unit → Shared → Prop} (H : InFlight B e T cls c fl s.heap) (k : ∀ h', InFlight B e T cls c .none h' → s.heap.UpToSlots h' → Q () { s with heap := h' }) : wpAny M A (setFlight (.ref e) none) Q E s := by
  obtain ⟨oe, vs, _, _, ee, _, de, v1, _⟩ := H.there
  unfold setFlight
  refine wpAny_bind (wpAny_field ee de v1 ?_)
  rw [if_pos (by exact rfl)]
  exact H.mark k
theorem entry_own {base : Heap} {env : Env} {outer : List Env} {L e : Addr} {oe : Obj} {vs : Array Value} {c head : Value} {hadNext : Bool} {Q : Unit → Shared → Prop}
    (hfr : A.frames = some (env :: outer)) (hl : s.heap.FunFrames base (env :: outer)) (hf : env.frame = some L)
    (he : s.heap.get? e = some oe) (hkb : base.StaysIn s.heap) (hen : base.get? e = none) (hd : oe.data = .fields vs) (hsz : 1 < vs.size) (hv2 : vs[2]? = some c)
    (h : ∀ h' T, InFlight base e T oe.cls c (rawInt L) h' → s.heap.UpToSlots h' → Q () { s with heap := h' }) :
    wpAny M A (do let a ← frameOf env; let pl ← entryPlaceOf L hadNext; let b ← EntryCells.newEntry head a .none (rawInt L) .none pl; setField (.ref e) 1 b) Q E s := by
  refine wpAny_bind (wpAny_frameOf_fun hfr hl hf fun g up => wpAny_bind (wpAny_entryPlaceOf fun pl hpl => ?_))
  have eg : g.get? e = some oe := (up.2.1 e fun hm => by
    obtain ⟨_, q, eq, nf⟩ := hl.mem hm
    exact nf vs (Option.some.inj (he.symm.trans eq) ▸ hd)).trans he
  have bg : base.StaysIn g := fun b o q => (up.2.1 b fun hm => nomatch (hl.mem hm).1.symm.trans q).trans (hkb b o q)
  have ne : e ≠ g.objs.size := Nat.ne_of_lt (Heap.lt_size eg)
  unfold EntryCells.newEntry newFields
  refine wpAny_bind (wpAny_newObj_type (set_one (Heap.get?_push_of_some _ eg) hd hsz fun h' o' e' c' d' rest => h h' g.objs.size ?_ fun b o q hn => ?_) (hpl.sizeOk5 _ _ _ _ _))
  · exact ⟨fun b o q => (rest b (other_of_none hen q)).trans (Heap.get?_push_of_some _ (bg b o q)), hen, bg.fresh, Ne.symm ne, o', _, _, _, e', c', d', by simp [hsz], (Array.getElem?_setIfInBounds_ne (by decide)).trans hv2, (rest _ (Ne.symm ne)).trans (Heap.get?_push_size _ rfl), rfl, by simp⟩
  · obtain ⟨sl, eb⟩ := up.2.2 b o q
    exact ⟨sl, (rest b (other_of_fields he hd q hn)).trans (Heap.get?_push_of_some _ eb)⟩
theorem noted_own {base : Heap} {env : Env} {outer : List Env} {L e : Addr} {oe : Obj} {vs : Array Value} {c : Value} {Q : Unit → Shared → Prop}
    (hfr : A.frames = some (env :: outer)) (hl : s.heap.FunFrames base (env :: outer)) (hf : env.frame = some L)
    (he : s.heap.get? e = some oe) (hkb : base.StaysIn s.heap) (hen : base.get? e = none) (hd : oe.data = .fields vs) (hv1 : vs[1]? = some .none) (hv2 : vs[2]? = some c)
    (h : ∀ h' T, InFlight base e T oe.cls c (rawInt L) h' → s.heap.UpToSlots h' → Q () { s with heap := h' }) : wpAny M A (noteFrame (.ref e) env) Q E s := by
  unfold noteFrame
  simp only [hf]
  refine wpAny_bind (wpAny_field he hd hv1 ?_)
  rw [if_neg (by decide)]
  exact entry_own hfr hl hf he hkb hen hd (Array.getElem?_eq_some_iff.mp hv1).1 hv2 h
theorem noted_next {base : Heap} {env : Env} {outer : List Env} {L e T : Addr} {cls c : Value} {Q : Unit → Shared → Prop}
    (hfr : A.frames = some (env :: outer)) (hl : s.heap.FunFrames base (env :: outer)) (hf : env.frame = some L) (H : InFlight base e T cls c .none s.heap)
    (h : ∀ h' T, InFlight base e T cls c (rawInt L) h' → s.heap.UpToSlots h' → Q () { s with heap := h' }) : wpAny M A (noteFrame (.ref e) env) Q E s := by
  obtain ⟨oe, vs, oT, ts, ee, rfl, de, v1, v2, eT, dT, v3⟩ := H.there
  unfold noteFrame
  simp only [hf]
  refine wpAny_bind (wpAny_field ee de v1 ?_)
  rw [if_pos (by exact rfl)]
  refine wpAny_bind (wpAny_field eT dT v3 ?_)
  rw [if_neg (by simp [rawInt])]
  refine wpAny_bind (set_one eT dT (Array.getElem?_eq_some_iff.mp v3).1 fun g o' e' c' d' rest => ?_)
  have same : ∀ b o, s.heap.get? b = some o → (∀ vs, o.data ≠ .fields vs) → g.get? b = some o := fun b o q hn => (rest b (other_of_fields eT dT q hn)).trans q
  exact entry_own hfr (hl.of_keeps fun b o q hn => ⟨o, same b o q hn, rfl⟩) hf ((rest e (Ne.symm H.ne)).trans ee) (fun b o q => (rest b (other_of_none H.tOut q)).trans (H.stays b o q)) H.eOut de (Array.getElem?_eq_some_iff.mp v1).1 v2
    fun h' T' x u => h h' T' x fun b o q hn => u b o (same b o q hn) hn
theorem leaves_own {base : Heap} {env : Env} {outer : List Env} {L e T : Addr} {cls c : Value} {Q : Unit → Shared → Prop}
    (hfr : A.frames = some (env :: outer)) (hl : s.heap.FunFrames base (env :: outer)) (hf : env.frame = some L) (H : InFlight base e T cls c .none s.heap)
    (h : ∀ h' T, InFlight base e T cls c .none h' → s.heap.UpToSlots h' → Q () { s with heap := h' }) : wpAny M A (leaving env (.ref e)) Q E s := by
  unfold leaving
  exact wpAny_bind (noted_next hfr hl hf H fun h' T' x1 u1 => x1.set fun h2 x2 u2 => h h2 T' x2 (u1.trans u2))
theorem InFlight.setAt {B : Heap} {e T L : Addr} {cls c fl : Value} {Q : Unit → Shared → Prop} (H : InFlight B e T cls c fl s.heap) (k : ∀ h', InFlight B e T cls c (rawInt L) h' → s.heap.UpToSlots h' → Q () { s with heap := h' }) : wpAny M A (setFlight (.ref e) (some L)) Q E s := by
  obtain ⟨oe, vs, _, _, ee, _, de, v1, _⟩ := H.there
  unfold setFlight
  refine wpAny_bind (wpAny_field ee de v1 ?_)
  rw [if_pos (by exact rfl)]
  exact H.mark k
theorem raise_bare {B : Heap} {e T L : Addr} {env : Env} {cls c fl : Value} {pos : Pos} {Q : Flow → Shared → Prop} (hh : A.handled = some (.ref e)) (hf : env.frame = some L) (H : InFlight B e T cls c fl s.heap)
    (k : ∀ h', InFlight B e T cls c (rawInt L) h' → s.heap.UpToSlots h' → E (.ref e) { s with heap := h' }) : wpAny M A (exec (.Raise none none pos) env) Q E s := by
  rw [arm_exec_Raise]
  refine wpAny_bind (wpAny_standAt ?_)
  show wpAny _ _ (raiseStmt env none none) _ _ _
  unfold raiseStmt
  refine wpAny_bind (wpAny_handled ?_)
  rw [hh]
  obtain ⟨oe, vs, oT, ts, he, hcls, hd, h1, h2, hT, hdT, h3⟩ := H.there
  refine wpAny_bind (wpAny_rule (wpAny_bind (wpAny_field he hd h1 ?_)))
  rw [if_neg (by simp)]
  rw [hf]
  exact wpAny_bind (H.setAt fun h' H' u => wpAny_throw (k h' H' u))
theorem leaves_again {base : Heap} {env : Env} {L e T : Addr} {cls c : Value} {Q : Unit → Shared → Prop} (hf : env.frame = some L) (H : InFlight base e T cls c (rawInt L) s.heap)
    (h : ∀ h', InFlight base e T cls c .none h' → s.heap.UpToSlots h' → Q () { s with heap := h' }) : wpAny M A (leaving env (.ref e)) Q E s := by
  obtain ⟨oe, vs, oT, ts, he, hcls, hd, h1, h2, hT, hdT, h3⟩ := H.there
  unfold leaving noteFrame
  simp only [hf]
  refine wpAny_bind (wpAny_bind (wpAny_field he hd h1 ?_))
  rw [if_pos (by exact rfl)]
  refine wpAny_bind (wpAny_field hT hdT h3 ?_)
  rw [if_pos (by simp)]
  exact wpAny_pure (H.set h)
theorem FunFrames.up {base h h' : Heap} {l : List Env} (hl : h.FunFrames base l) (u : h.UpToSlots h') : h'.FunFrames base l := hl.of_keeps fun b o hb hnf => by
  obtain ⟨sl, hs⟩ := u b o hb hnf
  exact ⟨_, hs, rfl⟩
end
section
variable {prog : Program} {w : World} {A₀ : Around} {E : Value → Shared → Prop} {s' : Shared} {base h₀ h : Heap} {outer : List Env} {L e : Addr} {env : Env} {m : Str → Option Value}
  {b₀ : Stmt} {suite : List Stmt} {pos np : Pos} {rest : List ExceptHandler} {Q : Flow → Shared → Prop} {news : List (Addr × Obj)} {K : Frag}
  {p : Program} {loose : List Str} {mean : ExcName → Option Value} {mg mb : Str → Option Value} {x : Str} {X T' : String} {c : Value}
/-- the frames that wait, and the one that runs -/
abbrev frs (env : Env) (outer : List Env) : List Addr := (env :: outer).filterMap (·.frame)
theorem fr_mem {b : Addr} (hef : env.frame = some L) (hm : b ∈ (env :: outer).filterMap (·.frame)) : b = L ∨ b ∈ outer.filterMap (·.frame) := by
  obtain ⟨en, he, hf⟩ := List.mem_filterMap.mp hm
  rcases List.mem_cons.mp he with rfl | he
  · rw [hef] at hf; exact .inl (Option.some.inj hf).symm
  · exact .inr (List.mem_filterMap.mpr ⟨en, he, hf⟩)
theorem Fr.turns {g : Heap} {T : Addr} {cls c fl : Value} (hef : env.frame = some L) (B : Below A₀ base outer h₀) (F : Fr h₀ L h m) (N : News h₀ L h news) (H : InFlight (hideAll h (frs env outer)) e T cls c fl g) (u : h.UpToSlots g) :
    ∃ h₀', KtsTurn (outer.filterMap (·.frame)) h₀ h₀' ∧ Fr h₀' L g m ∧ News h₀' L g news ∧ Below A₀ base outer h₀' := by
  have nfr : ∀ b o, h₀.get? b = some o → b ∉ outer.filterMap (·.frame) → (hideAll h (frs env outer)).get? b = some o := fun b o e hm => hideAll_get _ (F.keep _ _ e) fun q => by
    rcases fr_mem hef q with rfl | q
    · rw [kts_self F] at e; cases e
    · exact hm q
  have hl : ∀ q ∈ news, (hideAll h (frs env outer)).get? q.1 = some q.2 := fun q hq => by
    refine hideAll_get _ (N q hq).1 fun hm => ?_
    rcases fr_mem hef hm with hm | hm
    · exact (N q hq).2.1 hm
    · obtain ⟨o, ho, _⟩ := (B.frames.mem hm).2
      rw [(N q hq).2.2] at ho; cases ho
  obtain ⟨T₁, S₁⟩ := kts_turn_at (h := g) (fs := outer.filterMap (·.frame)) (g := h₀)
    (fun b hb => by
      obtain ⟨_, o, ho', _⟩ := B.frames.mem hb
      exact ⟨o, ho'⟩)
    (fun b o e nmem => H.stays _ _ (nfr b o e nmem))
    (fun b o e hm => by
      obtain ⟨_, o', ho', hnf⟩ := B.frames.mem hm
      rw [e] at ho'; cases ho'
      exact u b o (F.keep _ _ e) hnf)
  refine ⟨_, T₁, ⟨u.ns F.ns, S₁, by rw [T₁.size]; exact F.above⟩, fun p hp => ⟨H.stays _ _ (hl p hp), (N p hp).2.1, T₁.none_ _ (N p hp).2.2⟩, B.stack, fun b o e => T₁.other b o (B.stays b o e) (fun hm => by
    rw [(B.frames.mem hm).1] at e
    cases e), B.frames.of_keeps fun b o e _ => by
    obtain ⟨sl', hs'⟩ := T₁.up e
    exact ⟨_, hs', rfl⟩⟩
/-- what the suite of a clause may lean on -/
def Suite (prog : Program) (w : World) (A₀ : Around) (base h₀ h : Heap) (outer : List Env) (L e : Addr) (env : Env) (m : Str → Option Value) (news : List (Addr × Obj)) (K : Frag) (p : Program) (loose : List Str) (mean : ExcName → Option Value) (mg mb : Str → Option Value) (cls c : Value) (body : List Stmt) (Q : Flow → Shared → Prop) (E : Value → Shared → Prop) (s' : Shared) : Prop :=
  ∀ h₀' h' oe vs T, KtsTurn (outer.filterMap (·.frame)) h₀ h₀' → oe.data = .fields vs → vs[2]? = some c → Fr h₀' L h' m → News h₀' L h' ((e, oe) :: news) → Below A₀ base outer h₀' → K.In h₀' → Top p loose mean mg mb h₀' →
    InFlight (hideAll h (frs env outer)) e T cls c .none h' → h'.FunFrames (hideAll h (frs env outer)) (env :: outer) → h.UpToSlots h' →
    wpAny (model prog w) ((A₀.deeper (env)).mark (some (.ref e))) (execs body (env)) Q E { s' with heap := h' }
theorem caught_core {T : Addr} {fl : Value} (B : Below A₀ base outer h₀) (F : Fr h₀ L h m) (N : News h₀ L h news) (XB : K.In base) (TB : Top p loose mean mg mb base) (H : InFlight (hideAll h (frs env outer)) e T (.type X) c fl s'.heap)
    (hl : s'.heap.FunFrames (hideAll h (frs env outer)) (env :: outer)) (u4 : h.UpToSlots s'.heap) (hnew : h₀.get? e = none)
    (hv : bootBuiltins x = some (.type T')) (hexc : isSubtype (.type T') (.type "BaseException") = pure true) (hnt : isSubtype (.type ((Manifest.find? T').elim "type" fun y => y.metatype)) (.type "tuple") = pure false) (hsub : isSubtype (.type X) (.type T') = pure true)
    (k : Suite prog w A₀ base h₀ h outer L e env m news K p loose mean mg mb (.type X) c (b₀ :: suite) Q E s')
    (h1 : x ∉ startupNames := by decide +kernel) (h2 : x ∉ loose := by decide +kernel) (h3 : x ∉ (recsOf p).map (·.name) := by decide +kernel) (h4 : x ∉ (litsOf p).map (·.1) := by decide +kernel) (h4c : x ∉ (clssOf p loose).map (·.name) := by decide +kernel) (hn : x ≠ "__name__" := by decide +kernel)
    (hk : env.scope.kind = .function := by rfl) (hef : env.frame = some L := by rfl) (heg : env.globals = mainGlobals := by rfl) (heb : env.builtins = builtinsNs := by rfl) (hxk : (env).kindOf x = some .globalImplicit := by rfl) (hd : (x == ("__debug__" : Str)) = false := by decide)
    (hE : PassesOwnAt (model prog w) ((A₀.deeper (env)).mark (some (.ref e))) (A₀.deeper (env)) (env) E := by passes_own) :
    wpAny (model prog w) (A₀.deeper (env)) (setFlight (.ref e) none) (fun _ s₃ =>
        wpAny (model prog w) (A₀.deeper (env)) (handleBy (.ref e) (env) (.ExceptHandler (some (.Name x np)) none (b₀ :: suite) pos :: rest)) Q E s₃) E s' := by
  refine H.set fun g5 H5 u5 => ?_
  obtain ⟨k5, T5, F5, N5, B5⟩ := Fr.turns hef B F N H5 (u4.trans u5)
  have R5 := TB.keeps B5.stays
  obtain ⟨oe5, vs5, oT5, ts5, he5, hcl5, hd5, h15, h25, hT5, hdT5, hs5⟩ := H5.there
  refine wpAny_handleBy_builtin (X := X) (T := T') (b := true) hexc hnt hsub (Calls.Name_function_global hk hxk (Calls.loadGlobal_builtin (heg.symm ▸ R5.g.keeps F5.keep) (R5.free x h1 h2 h3 h4 h4c) (heb.symm ▸ R5.b.keeps F5.keep) ((R5.builtins x hn).trans hv) ⟨rfl, ⟨oe5, he5, hcl5⟩, ?_⟩) hd)
  refine H5.set fun g6 H6 u6 => ?_
  obtain ⟨k6, T6, F6, N6, B6⟩ := Fr.turns hef B F N H6 ((u4.trans u5).trans u6)
  obtain ⟨oe6, vs6, oT6, ts6, he6, hcl6, hd6, h16, h26, hT6, hdT6, hs6⟩ := H6.there
  refine wpAny_passesOwnAt hE (k k6 g6 oe6 vs6 T T6 hd6 h26 F6 (fun p hp => ?_) B6 (XB.keeps B6.stays) (TB.keeps B6.stays) H6 (FunFrames.up hl (u5.trans u6)) ((u4.trans u5).trans u6))
  rcases List.mem_cons.mp hp with rfl | hp
  · refine ⟨he6, fun e' => ?_, T6.none_ _ hnew⟩
    obtain ⟨oL, es, ep, hL, hLd, _⟩ := F6.ns
    rw [← e', he6] at hL; cases hL; rw [hd6] at hLd; cases hLd
  · exact N6 p hp
/-- an exception just made, caught in its own frame -/
theorem caught_here (B : Below A₀ base outer h₀) (F : Fr h₀ L h m) (N : News h₀ L h news) (XB : K.In base) (TB : Top p loose mean mg mb base) (hx : NewExcC c h s'.heap e X)
    (hv : bootBuiltins x = some (.type T')) (hexc : isSubtype (.type T') (.type "BaseException") = pure true) (hnt : isSubtype (.type ((Manifest.find? T').elim "type" fun y => y.metatype)) (.type "tuple") = pure false) (hsub : isSubtype (.type X) (.type T') = pure true)
    (k : Suite prog w A₀ base h₀ h outer L e env m news K p loose mean mg mb (.type X) c (b₀ :: suite) Q E s')
    (h1 : x ∉ startupNames := by decide +kernel) (h2 : x ∉ loose := by decide +kernel) (h3 : x ∉ (recsOf p).map (·.name) := by decide +kernel) (h4 : x ∉ (litsOf p).map (·.1) := by decide +kernel) (h4c : x ∉ (clssOf p loose).map (·.name) := by decide +kernel) (hn : x ≠ "__name__" := by decide +kernel)
    (hk : env.scope.kind = .function := by rfl) (hef : env.frame = some L := by rfl) (heg : env.globals = mainGlobals := by rfl) (heb : env.builtins = builtinsNs := by rfl) (hxk : (env).kindOf x = some .globalImplicit := by rfl) (hd : (x == ("__debug__" : Str)) = false := by decide)
    (hE : PassesOwnAt (model prog w) ((A₀.deeper (env)).mark (some (.ref e))) (A₀.deeper (env)) (env) E := by passes_own) :
    wpAny (model prog w) (A₀.deeper (env)) (noteFrame (.ref e) (env))
      (fun _ s₂ => wpAny (model prog w) (A₀.deeper (env)) (setFlight (.ref e) none) (fun _ s₃ =>
        wpAny (model prog w) (A₀.deeper (env)) (handleBy (.ref e) (env) (.ExceptHandler (some (.Name x np)) none (b₀ :: suite) pos :: rest)) Q E s₃) E s₂) E s' := by
  have K' := pushX B F hef hk
  have hin : ∀ en ∈ (env :: outer), ∀ b, en.frame = some b → b ∈ frs env outer := fun en he b hb => List.mem_filterMap.mpr ⟨en, he, hb⟩
  obtain ⟨ob, tp, he, hcls, hdd⟩ := hx.there
  have hen : (hideAll h (frs env outer)).get? e = none := by
    cases q : (hideAll h (frs env outer)).get? e with
    | none => rfl
    | some o => have := of_hideAll _ q; rw [hx.new] at this; cases this
  have hff : s'.heap.FunFrames (hideAll h (frs env outer)) (env :: outer) := (funFrames_hide K'.frames hin).of_keeps fun b o hb _ => ⟨o, hx.keeps b o hb, rfl⟩
  refine noted_own K'.stack hff hef he (fun b o hb => hx.keeps b o (of_hideAll _ hb)) hen hdd rfl rfl fun g4 T H4 u4 => ?_
  rw [hcls] at H4
  have u : h.UpToSlots g4 := (Heap.UpToSlots.of_keeps hx.keeps).trans u4
  exact caught_core (s' := { s' with heap := g4 }) B F N XB TB H4 (FunFrames.up hff u4) u (kts_none F.keep hx.new) hv hexc hnt hsub k h1 h2 h3 h4 h4c hn hk hef heg heb hxk hd hE
/-- an exception that a call has let through, caught -/
theorem caught_next {T : Addr} (B : Below A₀ base outer h₀) (F : Fr h₀ L h m) (N : News h₀ L h news) (XB : K.In base) (TB : Top p loose mean mg mb base) (H : InFlight (hideAll h (frs env outer)) e T (.type X) c .none s'.heap)
    (hl : s'.heap.FunFrames (hideAll h (frs env outer)) (env :: outer)) (u : h.UpToSlots s'.heap) (hnew : h₀.get? e = none)
    (hv : bootBuiltins x = some (.type T')) (hexc : isSubtype (.type T') (.type "BaseException") = pure true) (hnt : isSubtype (.type ((Manifest.find? T').elim "type" fun y => y.metatype)) (.type "tuple") = pure false) (hsub : isSubtype (.type X) (.type T') = pure true)
    (k : Suite prog w A₀ base h₀ h outer L e env m news K p loose mean mg mb (.type X) c (b₀ :: suite) Q E s')
    (h1 : x ∉ startupNames := by decide +kernel) (h2 : x ∉ loose := by decide +kernel) (h3 : x ∉ (recsOf p).map (·.name) := by decide +kernel) (h4 : x ∉ (litsOf p).map (·.1) := by decide +kernel) (h4c : x ∉ (clssOf p loose).map (·.name) := by decide +kernel) (hn : x ≠ "__name__" := by decide +kernel)
    (hk : env.scope.kind = .function := by rfl) (hef : env.frame = some L := by rfl) (heg : env.globals = mainGlobals := by rfl) (heb : env.builtins = builtinsNs := by rfl) (hxk : (env).kindOf x = some .globalImplicit := by rfl) (hd : (x == ("__debug__" : Str)) = false := by decide)
    (hE : PassesOwnAt (model prog w) ((A₀.deeper (env)).mark (some (.ref e))) (A₀.deeper (env)) (env) E := by passes_own) :
    wpAny (model prog w) (A₀.deeper (env)) (noteFrame (.ref e) (env))
      (fun _ s₂ => wpAny (model prog w) (A₀.deeper (env)) (setFlight (.ref e) none) (fun _ s₃ =>
        wpAny (model prog w) (A₀.deeper (env)) (handleBy (.ref e) (env) (.ExceptHandler (some (.Name x np)) none (b₀ :: suite) pos :: rest)) Q E s₃) E s₂) E s' := by
  have K' := pushX B F hef hk
  refine noted_next K'.stack hl hef H fun g4 T H4 u4 => ?_
  exact caught_core (s' := { s' with heap := g4 }) B F N XB TB H4 (FunFrames.up hl u4) (u.trans u4) hnew hv hexc hnt hsub k h1 h2 h3 h4 h4c hn hk hef heg heb hxk hd hE
end
theorem InFlight.mono {B B' : Heap} {e T : Addr} {cls c fl : Value} {g : Heap} (H : InFlight B e T cls c fl g) (k : ∀ b o, B'.get? b = some o → B.get? b = some o) : InFlight B' e T cls c fl g :=
  ⟨fun b o q => H.stays _ _ (k b o q), kts_none k H.eOut, kts_none k H.tOut, H.ne, H.there⟩
/-- out of a frame -/
theorem InFlight.out {A₀ : Around} {base h₀ h g : Heap} {outer : List Env} {L e T : Addr} {env : Env} {m : Str → Option Value} {cls c fl : Value} (F : Fr h₀ L h m) (H : InFlight (hideAll h (frs env outer)) e T cls c fl g) (hef : env.frame = some L := by rfl) : InFlight (hideAll h₀ (outer.filterMap (·.frame))) e T cls c fl g :=
  H.mono fun b o q => by
    refine hideAll_get _ (F.keep _ _ (of_hideAll _ q)) fun hm => ?_
    rcases fr_mem hef hm with hm | hm
    · have := of_hideAll _ q; rw [hm, kts_self F] at this; cases this
    · rw [hideAll_none _ hm] at q; cases q
theorem frames_out {A₀ : Around} {base h₀ g : Heap} {outer : List Env} (B : Below A₀ base outer h₀) (u : h₀.UpToSlots g) : g.FunFrames (hideAll h₀ (outer.filterMap (·.frame))) outer :=
  FunFrames.up (funFrames_hide B.frames fun env he b hb => List.mem_filterMap.mpr ⟨env, he, hb⟩) u
/-- a call's contract where an exception may have been caught within: the frames that wait keep all but their slots -/
def ConS (w : World) (f : Addr) (vs : List Value) (kw : List (Str × Value)) (n : Nat) (s : Shared) (Post : Heap → Value → Prop) : Prop :=
  ∀ (dp un : Nat) (gd : Option (List Code)) (outer : List Env) (base : Heap) (mean : ExcName → Option Value) (mg mb : Str → Option Value) (Q E : Value → Shared → Prop),
    Below { handled := none, depth := dp, frames := some outer, guards := gd, units := un } base outer s.heap → (K0 w.params).In base →
    Top V0 (looseW V0 [Str.ofString "b2a_base64", Str.ofString "b64encode", Str.ofString "_deduplicate"]) mean mg mb base →
    dp + n < recursionLimit → un + 8 * n < cLine →
    (∀ r h' tk' h₀', KtsTurn (outer.filterMap (·.frame)) s.heap h₀' → (∀ b o, h₀'.get? b = some o → h'.get? b = some o) → Post h' r → Q r { s with heap := h', toks := tk' }) →
    wpAny (model PySem.Challenge.rw_rt0036_01.row.prog w) { handled := none, depth := dp, frames := some outer, guards := gd, units := un } (call (.ref f) vs kw) Q E s
theorem Con.conS {w : World} {f : Addr} {vs : List Value} {kw : List (Str × Value)} {n : Nat} {s : Shared} {Post : Heap → Value → Prop} (C : Con w f vs kw n s Post) : ConS w f vs kw n s Post :=
  fun dp un gd outer base mean mg mb Q E B XB TB hd hu hQ => C dp un gd outer base mean mg mb Q E B (XB.keeps B.stays) (TB.keeps B.stays) hd hu fun r h' tk' hk hp => hQ r h' tk' _ .refl hk hp
/-- such a call out of the outermost frame -/
theorem conS_use {w : World} {s : Shared} {f : Addr} {vs : List Value} {kw : List (Str × Value)} {n : Nat} {Post : Heap → Value → Prop} {h₀ : Heap} {L : Addr} {m : Str → Option Value} {env : Env} {news : List (Addr × Obj)}
    {dp un : Nat} {gd : Option (List Code)} {mean : ExcName → Option Value} {mg mb : Str → Option Value} {Q E : Value → Shared → Prop}
    (C : ConS w f vs kw n s Post) (B : Below { handled := none, depth := dp, frames := some [], guards := gd, units := un } h₀ [] h₀) (F : Fr h₀ L s.heap m) (N : News h₀ L s.heap news) (X : (K0 w.params).In h₀)
    (T : Top V0 (looseW V0 [Str.ofString "b2a_base64", Str.ofString "b64encode", Str.ofString "_deduplicate"]) mean mg mb h₀)
    (hf : env.frame = some L) (hk : env.scope.kind = .function) (hd : dp + 1 + n < recursionLimit) (hu : un + 3 + 8 * n < cLine)
    (k : ∀ r h' tk', Post h' r → Fr h₀ L h' m → News h₀ L h' news → Q r { s with heap := h', toks := tk' }) :
    wpAny (model PySem.Challenge.rw_rt0036_01.row.prog w) (({ handled := none, depth := dp, frames := some [], guards := gd, units := un } : Around).deeper env) (call (.ref f) vs kw) Q E s := by
  refine C (dp + 1) (un + 3) gd [env] h₀ mean mg mb Q E (pushX B F hf hk) X T hd hu fun r h' tk' h₁ K hkp hp => k r h' tk' hp ?_ ?_
  all_goals have e1 : [env].filterMap (·.frame) = [L] := by simp [hf]
  all_goals rw [e1] at K
  all_goals have keep : ∀ b o, b ≠ L → s.heap.get? b = some o → h'.get? b = some o := fun b o hb e => hkp b o (K.other b o e (by simpa using hb))
  · obtain ⟨oL, es, ep, hL, hLd, r⟩ := F.ns
    obtain ⟨sl, hs⟩ := K.frame _ _ hL (by simp)
    refine ⟨⟨_, es, ep, hkp _ _ hs, hLd, r⟩, fun b o e => keep b o (fun q => ?_) (F.keep b o e), F.above⟩
    rw [q, kts_self F] at e; cases e
  · exact fun p hp => ⟨keep _ _ (N p hp).2.1 (N p hp).1, (N p hp).2⟩
def takeAll {α : Type} [DecidableEq α] (t : List α) : List α → Option (List α)
  | [] => some t
  | x :: xs => if x ∈ t then takeAll (t.erase x) xs else none
theorem takeAll_in {α : Type} [DecidableEq α] {t xs : List α} {x : α} (h : x ∈ t) : takeAll t (x :: xs) = takeAll (t.erase x) xs := if_pos h
theorem takeAll_out {α : Type} [DecidableEq α] {t xs : List α} {x : α} (h : ¬ x ∈ t) : takeAll t (x :: xs) = none := if_neg h
def orderless {α : Type} [DecidableEq α] (xs ys : List α) : Bool := match takeAll (dedup ys) (dedup xs) with | some t => t.isEmpty | none => false
theorem drop_next {α : Type} {l : List α} {i : Nat} {a : α} (h : l[i]? = some a) : l.drop i = a :: l.drop (i + 1) := by
  obtain ⟨hi, rfl⟩ := List.getElem?_eq_some_iff.mp h
  exact List.drop_eq_getElem_cons hi
theorem EqOk.keeps {α : Type} [DecidableEq α] {R : α → Value → Prop} {h h' : Heap} (H : EqOk h R) (k : ∀ b o, h.get? b = some o → h'.get? b = some o) : EqOk h' R :=
  ⟨H.1, fun A s a b v x hu hk => H.2 A s a b v x hu fun b o e => hk b o (k b o e)⟩
theorem orderless_con {α : Type} [DecidableEq α] {w : World} {s : Shared} {R : α → Value → Prop} {l1 l2 : Addr} {vs us : List Value} {n1 n2 : Nat} {xs ys : List α} (hR : EqOk s.heap R) (hl : s.heap.get? l1 = some (PySem.W.listOf vs.toArray n1)) (hr : Rel2 R xs vs) (hzv : vs.length ≤ 200)
    (hl2 : s.heap.get? l2 = some (PySem.W.listOf us.toArray n2)) (hr2 : Rel2 R ys us) (hzu : us.length ≤ 200) : ConS w 181 [.ref l1, .ref l2] [] 14 s (fun _ r => r = .bool (orderless xs ys)) := by
  have hz : PySem.Challenge.rw_rt0036_01 = PySem.Challenge.rw_rt0036_01 := rfl
  unfold ConS
  revert hz
  k_fill
  intro _ dp un gd outer base mean mg mb Q E B XB TB hd hu hQ
  have X := XB.keeps B.stays
  have T := TB.keeps B.stays
  refine wpAny_call ?_
  refine enter_def (binds := [(Str.ofString "first_args", .ref l1), (Str.ofString "second_args", .ref l2)]) B X T (by k_is) (by k_is) (rm0 hd) (BindsTo.of_eq rfl) (locs rfl) (fun L h₁ hL F N => ?_) rfl rfl rfl (by decide)
  dsimp only
  k_fold
  k_steps
  (rename News _ _ _ _ => N₁; rename Fr _ _ _ _ => F₁)
  refine Halt.go (con_use (dedup_con (s := { s with heap := _, toks := _ }) (hn := none) (hR.keeps F₁.keep) (F₁.keep _ _ hl) hr hzv).con B F₁ N₁ X T rfl rfl (rm hd) (rm3 hu) (fun r h' tk' hk hp F N => ?_))
  obtain ⟨c1, ws1, m1, rfl, g1, f1, r1⟩ := hp
  have N := news_add F₁ N f1 g1
  clear N₁ F₁
  k_steps
  (rename News _ _ _ _ => N₁; rename Fr _ _ _ _ => F₁)
  refine Halt.go (con_use (dedup_con (s := { s with heap := _, toks := _ }) (hn := none) (hR.keeps F₁.keep) (F₁.keep _ _ hl2) hr2 hzu).con B F₁ N₁ X T rfl rfl (rm hd) (rm3 hu) (fun r h' tk' hk hp F N => ?_))
  obtain ⟨c2, ws2, m2, rfl, g2, f2, r2⟩ := hp
  have N := news_add F₁ N f2 g2
  have h12 : @Ne Nat c1 c2 := fun e => news_ne N₁ f2 _ (by walk_at "mem") e
  clear N₁ F₁
  have hw1 : ws1.size ≤ 200 := by
    have a := r1.length
    have b := dedup_len xs []
    have c := hr.length
    unfold dedup at a
    simp at *; omega
  have hw2 : ws2.size ≤ 200 := by
    have a := r2.length
    have b := dedup_len ys []
    have c := hr2.length
    unfold dedup at a
    simp at *; omega
  k_steps
  (rename News _ _ _ _ => N₁; rename Fr _ _ _ _ => F₁)
  rename _ ∧ _ => hlt
  obtain ⟨hlt2, hlt1⟩ := hlt
  have h1t := Nat.ne_of_lt hlt1
  refine Halt.go (for_src (h₀ := s.heap) rfl rfl ?_)
  k_steps
  refine ForAt.intro (R := R) (dedup xs) [(c1, PySem.W.listOf ws1 m1)] (fun i m₁ news₁ => ∃ t ws n T, m₁ (Str.ofString "t") = some (.ref t) ∧ news₁ = [(t, PySem.W.listOf ws n), (c1, PySem.W.listOf ws1 m1)] ∧ @Ne Nat t c1 ∧ Rel2 R T ws.toList ∧ ws.size ≤ 200 ∧ takeAll (dedup ys) (dedup xs) = takeAll T ((dedup xs).drop i))
    F₁ (news_two N₁ (by walk_at "mem") (by walk_at "mem")) (src_list (vs := ws1.toList) rfl F₁ (news_one N₁ (by walk_at "mem")) (.inr (.head _)) rfl rfl r1) (fun i m₁ n₁ ⟨t, ws, n, T, h⟩ p hp => by rw [h.2.1, List.mem_singleton.mp hp]; exact .tail _ (.head _)) ⟨_, ws2, _, _, rfl, rfl, Ne.symm h1t, r2, hw2, rfl⟩ ?_ ?_
  · rintro i a v m₁ news₁ h tk2 I oI ha hav ⟨t, ws, n', T, e1, rfl, htc, hws, hwz, hall⟩ F N hI
    change Fr s.heap L h _ at F
    change News s.heap L h _ at N
    rw [over1 e1] at F
    have hI1 : @Ne Nat t I := hI _ (.head _)
    have hI2 : @Ne Nat c1 I := hI _ (.tail _ (.head _))
    show wpAny _ _ _ _ _ _
    k_fold
    k_steps
    refine takeOut_rel hR (by assumption) (by assumption) hws hav (by omega) (by show un + 3 + 71 < cLine; omega) rfl (news' := fun ws' => [(I, oI), (t, PySem.W.listOf ws' (n' + 1)), (c1, PySem.W.listOf ws1 m1)]) (fun ws' => by k_upd) ?_ ?_
    · intro hin h' ws' hws' F N
      k_steps
      (rename News _ _ _ _ => Nx; rename Fr _ _ _ _ => Fx)
      refine ⟨_, _, _, [(_, PySem.W.listOf _ _), (_, PySem.W.listOf _ _)], rfl, Fx, Nx, ne2 hI1 hI2, _, _, _, T.erase a, rfl, rfl, htc, hws', ?_, ?_⟩
      · have a1 := hws'.length
        have a2 := hws.length
        have a3 := List.length_erase_of_mem hin
        simp at *; omega
      · rw [hall, drop_next ha, takeAll_in hin]
    · intro hout h' tk' ex hx
      k_steps
      refine caught_here (X := "ValueError") (T' := "ValueError") B (by assumption) (by assumption) XB TB (.of hx) (by decide +kernel) (isSubtype_of_subB (by decide +kernel)) (isSubtype_of_subB (by decide +kernel)) (isSubtype_of_subB (by decide +kernel)) ?_
      intro h₀' h7 oe ve TT KT hoe hve F7 N7 B7 X7 T7 _ _ _
      k_steps
      (rename News _ _ _ _ => Nx; rename Fr _ _ _ _ => Fx)
      refine hQ _ _ _ h₀' KT Fx.keep ?_
      unfold orderless
      rw [hall, drop_next ha, takeAll_out hout]
  · rintro m₁ news₁ h tk2 ⟨t, ws, n', T, e1, rfl, htc, hws, hwz, hall⟩ F N
    change Fr s.heap L h _ at F
    change News s.heap L h _ at N
    rw [over1 e1] at F
    rw [List.drop_length] at hall
    show wpAny _ _ _ _ _ _
    k_steps
    (rename News _ _ _ _ => Nx; rename Fr _ _ _ _ => Fx)
    refine hQ _ _ _ _ .refl Fx.keep ?_
    unfold orderless
    rw [hall, takeAll]
    have : ws.isEmpty = T.isEmpty := by
      have := hws.length
      rw [Array.isEmpty, ← Array.length_toList, this]
      cases T <;> simp
    rw [this]; simp
/-- what dict.fromkeys is, looked up -/
def fkBound : Obj := { cls := .type "builtin_function_or_method", data := .fields #[.builtin "dict.fromkeys", .type "dict"] }
theorem fk_type : typeOf (.builtin "dict.fromkeys") = pure (.type "classmethod_descriptor") := by show builtinType _ = _; rw [builtinType_eq_fast]; kernel_rfl
theorem fk_entry : entryFor table "dict.fromkeys" = some Builtin.«dict.fromkeys» := entryFor_of_tree (by kernel_rfl)
theorem fk_loop_entry : entryFor table "dict.fromkeys.loop" = some Builtin.«dict.fromkeys.loop» := entryFor_of_tree (by kernel_rfl)
theorem fk_loop_plain : plainId "dict.fromkeys.loop" = true := by decide +kernel
theorem fk_plain : plainId "dict.fromkeys" = true := by decide +kernel
theorem fk_owner : (kfb_private% "ownerAndName") "dict.fromkeys" = ("dict", "fromkeys") := by first | decide +kernel | kernel_rfl
theorem fk_isType : isType (.type "dict") = pure true := by first | rfl | kernel_rfl | (unfold isType; rw [isSubtype_type]; kernel_rfl)
theorem fk_check (a : Value) : checkBoundCall "dict.fromkeys" ⟨[.type "dict", a], []⟩ = pure () := by first | kernel_rfl | rfl
theorem fk_typeCall0 : checkTypeCall "dict" ⟨[], []⟩ = pure () := by kernel_rfl
theorem fk_newCall0 : checkBuiltinCall "dict.__new__" ⟨[.type "dict"], []⟩ = pure () := by kernel_rfl
section
variable {prog : Program} {w : World} {A : Around} {E : Value → Shared → Prop} {s : Shared} {K : Frag} {h₀ : Heap} {L : Addr} {m : PySem.Str → Option Value} {news : List (Addr × Obj)}
theorem fk_run {M : Model} {P : Fin → Shared → Prop} (h : P (.done (.ret (.ref s.heap.objs.size))) { s with heap := s.heap.push fkBound }) :
    wpAny M A (Builtin.«classmethod_descriptor.__get__» ⟨[.builtin "dict.fromkeys", .none, .type "dict"], []⟩) P E s := by
  unfold Builtin.«classmethod_descriptor.__get__»
  refine wpAny_bind (wpAny_of_eq (a := (.builtin "dict.fromkeys", none, some (.type "dict"))) (by first | rfl | kernel_rfl) ?_)
  simp only [fk_owner]
  refine wpAny_bind (wpAny_of_eq (a := .type "dict") rfl ?_)
  refine wpAny_bind (wpAny_of_eq (a := true) fk_isType ?_)
  refine PySem.W.KFB.if_not rfl ?_
  refine wpAny_bind (wpAny_of_eq (a := true) PySem.F.kt_sub_dict ?_)
  refine PySem.W.KFB.if_not rfl ?_
  exact wpAny_bind (wpAny_newObj_type (wpAny_pure h))
theorem fk_clear : opaqueClassAbove (.type "dict") = pure none := by
  have e : Manifest.isStub "dict" = false := by decide +kernel
  unfold opaqueClassAbove
  simp only [e]
  rfl
/-- the attribute fromkeys of dict: a new bound built-in -/
theorem fk_attr {Q : Value → Shared → Prop} (X : K.In s.heap)
    (e : findCls K (.type "dict") (.type "type") (PySem.Str.ofString "fromkeys") = some (.get (.builtin "classmethod_descriptor.__get__") (.builtin "dict.fromkeys") .none (.type "dict")))
    (h : Q (.ref s.heap.objs.size) { s with heap := s.heap.push fkBound, toks := s.toks + 1 }) : wpAny (model prog w) A (getAttr (.type "dict") (PySem.Str.ofString "fromkeys")) Q E s := by
  have got : ∀ {s' : Shared} {Q' : Value → Shared → Prop} {E' : Value → Shared → Prop}, Q' (.ref s'.heap.objs.size) { s' with heap := s'.heap.push fkBound } →
      wpAny (model prog w) A.in1 (call (.builtin "classmethod_descriptor.__get__") [.builtin "dict.fromkeys", .none, .type "dict"]) Q' E' s' := fun z =>
    wpAny_call_entry PySem.W.KFB.slot_get fk_type PySem.W.KFB.entry_get (fk_run ⟨_, rfl, z⟩) (PySem.W.KFB.args_get _ _ _)
  exact cls_open X (Looks.of_pure fk_clear) (Looks.of_pure PySem.F.isi_meta_dict) type_tga (looks_hook X (r := none) (by rfl)) (by show subIn K _ _ = _; rfl) e
    (wpAny_bind (m := holding [.builtin "dict.fromkeys"] _) (wpAny_holding (got (wpAny_pure (wpAny_pure h)))))
theorem fk_getm {pl : Sem Bool} {Q : Value × List Value → Shared → Prop} (F : Fr h₀ L s.heap m) (N : News h₀ L s.heap news) (X₀ : K.In h₀)
    (e : findCls K (.type "dict") (.type "type") (PySem.Str.ofString "fromkeys") = some (.get (.builtin "classmethod_descriptor.__get__") (.builtin "dict.fromkeys") .none (.type "dict")))
    (h : ∀ x h', Fr h₀ L h' m → News h₀ L h' ((x, fkBound) :: news) → (∀ p ∈ news, p.1 < x) → Q (.ref x, []) { s with heap := h', toks := s.toks + 1 }) :
    wpAny (model prog w) A (getMethod (.type "dict") (PySem.Str.ofString "fromkeys") pl) Q E s := by
  have X : K.In s.heap := X₀.keeps F.keep
  have own : Looks (model prog w) s.heap (specialOf (.type "dict") "__getattribute__") (some (.builtin "type.__getattribute__")) := (Looks.of_pure PySem.F.isi_meta_dict).andThen (looks_findIn X type_tga)
  have got : wpAny (model prog w) A (getAttr (.type "dict") (PySem.Str.ofString "fromkeys")) (fun v => Q (v, [])) E s := fk_attr X e (h _ _ (F.push _) (News.push F N _) fun p hp => Heap.lt_size (N p hp).1)
  unfold getMethod
  refine wpAny_bind (own.here ?_)
  simp only [canon_tga, if_true]
  exact wpAny_bind (wpAny_mono got (fun _ _ z => wpAny_pure z) fun _ _ z => z)
theorem fk_callOf {x : Addr} {v : Value} {Q : Value → Shared → Prop} (ho : s.heap.get? x = some fkBound)
    (tree : wpAny (model prog w) A.in1 (Builtin.«dict.fromkeys» ⟨[.type "dict", v], []⟩) (fun fin s' => match fin with | .done f => wants Q E (.ok f) s' | .again c' => c'.quiet = true ∧ codeAny (model prog w) A c' (wants Q E) s') (fun e s' => wants Q E (.error e) s') s) : wpAny (model prog w) A (call (.ref x) [v]) Q E s := by
  have kind : (Value.type "builtin_function_or_method" == Value.type "method" || Value.type "builtin_function_or_method" == Value.type "builtin_function_or_method" || Value.type "builtin_function_or_method" == Value.type "method-wrapper") = true := by decide
  have run : codeAny (model prog w) A (.builtin "dict.fromkeys" ⟨[.type "dict", v], []⟩) (wants Q E) s := codeAny_builtin fk_entry (by rw [Around.under_plainId fk_plain]; exact tree)
  refine wpAny_call (codeAny_of_tree (?_ : wpAny _ A.in1 (callAny (.ref x) ⟨[v], []⟩) _ _ s))
  unfold callAny
  refine wpAny_bind (wpAny_load ho ?_)
  simp only [fkBound, kind, if_true]
  exact PySem.W.KFB.if_so (by decide) (wpAny_bind (wpAny_of_eq (fk_check v) (wpAny_bind (wpAny_pure (wpAny_pure ⟨plainId_quiet fk_plain _, run⟩)))))
theorem fk_dict0 {Q : Value → Shared → Prop} (h : Q (.ref s.heap.objs.size) { s with heap := s.heap.push { cls := .type "dict", data := .dict #[] } }) : wpAny (model prog w) A (call (.type "dict")) Q E s := by
  generalize hs' : ({ s with heap := s.heap.push { cls := .type "dict", data := .dict #[] } } : Shared) = s' at h
  have born : codeAny (model prog w) A.in1 (.call (.builtin "dict.__new__") ⟨[.type "dict"], []⟩) (wants (fun v s₁ => v = .ref s.heap.objs.size ∧ s₁ = s') E) s := by
    have sub := PySem.F.kt_sub_dict
    have mro := F.kt_mro_dict
    refine codeAny_call_builtin F.kt_plain_dict_new F.kt_entry_dict_new (wpAny_of_eq fk_newCall0 ?_)
    cases s with
    | mk hp g d tk os =>
      unfold Builtin.«dict.__new__»
      wp_walk
      exact ⟨rfl, hs'⟩
  refine callType_codes (args := []) F.kt_called_dict fk_typeCall0 F.entry_dict_init born fun v s₁ ⟨hv, hs₁⟩ => ?_
  subst hv hs₁
  have isDict : s₁.TypeIs (.ref s.heap.objs.size) "dict" := by
    rw [← hs']
    exact ⟨_, Heap.get?_push_size _ rfl, rfl⟩
  refine ⟨isDict, F.args_dict_init_1 _, ?_⟩
  unfold Builtin.«dict.__init__» Builtin.Dict.selfAndRest
  refine wpAny_bind (wpAny_bind (wpAny_notOrdered_dict isDict (wpAny_pure ?_)))
  exact wpAny_bind (m := Builtin.Dict.addKeywords s.heap.objs.size []) (wpAny_pure (wpAny_pure ⟨rfl, h⟩))
end
section
variable {prog : Program} {w : World} {A : Around} {E : Value → Shared → Prop} {s : Shared}
/-- the pairs of a dict made of keys alone -/
def fkPairs (xs : List Int) : List (Int × Value) := xs.map fun k => (k, Value.none)
theorem fk_stored {xs : List Int} {k : Int} : stored (fkPairs xs) k Value.none = fkPairs (dstep xs k) := by
  unfold stored fkPairs dstep
  by_cases h : k ∈ xs
  · have e : (xs.map fun k => (k, Value.none)).any (fun kv => decide (kv.1 = k)) = true := by
      rw [List.any_eq_true]; exact ⟨(k, .none), List.mem_map.mpr ⟨k, h, rfl⟩, by simp⟩
    rw [if_pos e, if_pos h, List.map_map]
    refine List.map_congr_left fun x _ => ?_
    show (if x = k then (x, Value.none) else (x, Value.none)) = _
    split <;> rfl
  · have e : ¬ (xs.map fun k => (k, Value.none)).any (fun kv => decide (kv.1 = k)) = true := fun h' => by
      rw [List.any_eq_true] at h'
      obtain ⟨kv, hm, hk⟩ := h'
      obtain ⟨x, hx, rfl⟩ := List.mem_map.mp hm
      exact h (by have : x = k := of_decide_eq_true hk; rwa [this] at hx)
    rw [if_neg e, if_neg h, List.map_append]; rfl
theorem fk_pairs_len {xs : List Int} : (fkPairs xs).length = xs.length := by simp [fkPairs]
end
section
variable {prog : Program} {w : World}
theorem fk_loop_ints (d it l : Addr) (vs : List Value) (xs : List Int) (hi : IntsAre vs xs) (hz : vs.length ≤ 200) (hdi : d ≠ it) (hdl : d ≠ l) (hli : l ≠ it) (k : Nat) : ∀ (i : Nat) (acc : List Int) (A : Around) (R : Result → Shared → Prop) (s : Shared), vs.length - i = k → i ≤ vs.length → acc.length ≤ i → A.handled = none →
    s.heap.DictOf (intKind prog w) d (fkPairs acc) → s.heap.IsListIter it l i → s.heap.IsList l vs.toArray →
    (∀ h' tk, (∀ b o, b ≠ d → b ≠ it → s.heap.get? b = some o → h'.get? b = some o) → h'.DictOf (intKind prog w) d (fkPairs ((xs.drop i).foldl dstep acc)) → R (.ok (.ret (.ref d))) { s with heap := h', toks := tk }) →
    wpAny (model prog w) A.in1 (Builtin.«dict.fromkeys.loop» ⟨[.ref d, .ref it, .none], []⟩) (fun fin s' => match fin with | .done f => R (.ok f) s' | .again c' => c'.quiet = true ∧ codeAny (model prog w) A c' R s') (fun e s' => R (.error e) s') s := by
  induction k with
  | zero =>
    intro i acc A R s hk hile hacc hh hd hit hl hR
    have hi' : i = vs.length := by omega
    unfold Builtin.«dict.fromkeys.loop»
    show wpAny _ _ (pyNext (.ref it) >>= _) _ _ _
    refine wpAny_bind (wpAny_pyNext_list_end (show A.in1.handled = none from hh) hit hl (by simp; omega) fun h' he => ?_)
    refine wpAny_pure (hR h' s.toks (fun b o _ hb e => he b o hb e) ?_)
    rw [hi', hi.length, List.drop_length]
    obtain ⟨o, es, ep, ho, r⟩ := hd
    exact ⟨o, es, ep, he _ _ hdi ho, r⟩
  | succ k ih =>
    intro i acc A R s hk hile hacc hh hd hit hl hR
    have hlt : i < vs.length := by omega
    obtain ⟨x, t, hv, hx⟩ : ∃ x t, vs[i]? = some (.int x t) ∧ xs[i]? = some x := by
      obtain ⟨x, t, e, hx⟩ := hi.at i _ (List.getElem?_eq_getElem hlt)
      exact ⟨x, t, by rw [List.getElem?_eq_getElem hlt, e], hx⟩
    unfold Builtin.«dict.fromkeys.loop»
    show wpAny _ _ (pyNext (.ref it) >>= _) _ _ _
    refine wpAny_bind (wpAny_pyNext_list_item hit hl (x := .int x t) (by simpa using hv) fun h' hit' hs' => ?_)
    have hd' : h'.DictOf (intKind prog w) d (fkPairs acc) := by
      obtain ⟨o, es, ep, ho, r⟩ := hd
      exact ⟨o, es, ep, (hs'.2 d hdi).trans ho, r⟩
    show wpAny _ _ (typeOf (.ref d) >>= _) _ _ _
    refine wpAny_bind (wpAny_typeOf (T := "dict") hd'.typeIs ?_)
    rw [if_pos (by decide)]
    show wpAny _ _ (holding [Value.int x t] (dictSet d (Value.int x t) Value.none) >>= _) _ _ _
    refine wpAny_bind (wpAny_holding (wpAny_dictSet_pairs (knd := intKind prog w) (k := x) (by simp [intKind, Value.isInt]) hd' (fun h2 hd2 hs2 => ?_) (by rw [fk_pairs_len, sizeLine_eq]; omega)))
    rw [fk_stored] at hd2
    refine wpAny_pure ⟨plainId_quiet fk_loop_plain _, codeAny_builtin fk_loop_entry ?_⟩
    rw [Around.under_plainId fk_loop_plain]
    refine ih (i + 1) (dstep acc x) A R _ (by omega) (by omega) ?_ hh hd2 ?_ ?_ fun h3 tk hk3 hd3 => ?_
    · show (if x ∈ acc then acc else acc ++ [x]).length ≤ i + 1
      split
      · omega
      · simp; omega
    · obtain ⟨o, ho, r⟩ := hit'; exact ⟨o, (hs2.2 it (Ne.symm hdi)).trans ho, r⟩
    · obtain ⟨o, ho, r⟩ := hl; exact ⟨o, (hs2.2 l (Ne.symm hdl)).trans ((hs'.2 l hli).trans ho), r⟩
    · refine hR h3 tk (fun b o hbd hbi e => hk3 b o hbd hbi ((hs2.2 b hbd).trans ((hs'.2 b hbi).trans e))) ?_
      rw [drop_next hx]; exact hd3
end
theorem lk_list_hash : typeLookup (.type "list") "__hash__" = pure (some Value.none) := by rw [typeLookup_type, builtinLookup_eq_fast]; kernel_rfl
section
variable {prog : Program} {w : World} {A : Around} {E : Value → Shared → Prop} {s : Shared}
theorem raiseMadeH {α : Type} {cls msg : String} {Q : α → Shared → Prop} (hp : PlainExc cls) (hh : HOk A.handled s.heap) (h : ∀ h' tk e, NewExcC (A.handled.getD .none) s.heap h' e cls → E (.ref e) { s with heap := h', toks := tk }) (hm : (msg : Str).length ≤ sizeLine) :
    wpAny (model prog w) A (raiseErrorMade cls msg : Sem α) Q E s := by
  unfold raiseErrorMade
  refine wpAny_bind (wpAny_mkStr (wpAny_bind ?_) hm)
  unfold newExc newTuple
  refine wpAny_bind (wpAny_newObj_type ?_)
  refine wpAny_bind (m := firstArgMember _ _) (wpAny_of_eq (a := Value.none) (by simp only [firstArgMember, hp.first]; rfl) ?_)
  rw [hp.own]
  refine wpAny_newObj_type ?_
  refine raiseNew_over (h1 := s.heap) hh (fun b o vs v e _ _ => Heap.get?_push_of_some _ (Heap.get?_push_of_some _ e)) (Heap.get?_none_of_le (by simp)) (Heap.get?_push_size _ rfl) rfl fun h' hs he => ?_
  refine h _ _ _ ⟨fun b o hb => (hs.2 b ?_).trans (Heap.get?_push_of_some _ (Heap.get?_push_of_some _ hb)), Heap.get?_none_of_le (by simp), _, .ref s.heap.objs.size, he, rfl, ?_⟩
  · exact Nat.ne_of_lt (Nat.lt_of_lt_of_le (Heap.lt_size hb) (by simp))
  · cases hn : A.handled <;> rfl
theorem hash_list {a : Addr} {Q : Int → Shared → Prop} (hT : s.TypeIs (.ref a) "list") (hh : HOk A.handled s.heap) (hu : A.units + 8 < cLine) (h : ∀ h' tk e, NewExcC (A.handled.getD .none) s.heap h' e "TypeError" → E (.ref e) { s with heap := h', toks := tk }) :
    wpAny (model prog w) A (pyHash (.ref a)) Q E s := by
  have f1 := lk_list_hash
  unfold pyHash
  unfold pyHashByItsType
  refine wpAny_bind (wpAny_cRoomFor_or (.inr (by omega)) ?_)
  refine wpAny_bind (wpAny_specialOf hT lk_list_hash ?_)
  show wpAny _ _ (if (some Value.none == some Value.none) = true then _ else _) _ _ _
  rw [if_pos (by decide)]
  refine wpAny_bind (wpAny_rule ?_)
  obtain ⟨hp, g, d, tk, os⟩ := s
  unfold PySem.typeNameOf
  repeat (any_goals (first | assumption | wp_step))
  exact raiseMadeH plainExc_TypeError hh h (by decide +kernel)
/-- dict.fromkeys of a list, up to the loop -/
theorem fk_tree {l : Addr} {items : Array Value} {P : Fin → Shared → Prop} (hl : s.heap.IsList l items)
    (h : P (.again (.builtin "dict.fromkeys.loop" ⟨[.ref s.heap.objs.size, .ref (s.heap.objs.size + 1), .none], []⟩)) { s with heap := (s.heap.push { cls := .type "dict", data := .dict #[] }).push { cls := .type "list_iterator", data := .fields #[.ref l, .int 0 0] } }) :
    wpAny (model prog w) A (Builtin.«dict.fromkeys» ⟨[.type "dict", .ref l], []⟩) P E s := by
  have f1 := fk_isType
  have f2 := PySem.F.kt_sub_dict
  unfold Builtin.«dict.fromkeys»
  refine wpAny_bind (wpAny_of_eq (a := true) fk_isType ?_)
  refine PySem.W.KFB.if_not rfl ?_
  refine wpAny_bind (wpAny_of_eq (a := true) PySem.F.kt_sub_dict ?_)
  refine PySem.W.KFB.if_not rfl ?_
  refine PySem.W.KFB.if_not rfl ?_
  refine wpAny_bind (wpAny_bind (wpAny_rule (wpAny_pure ?_)))
  refine wpAny_bind (wpAny_pure ?_)
  refine wpAny_bind (fk_dict0 ?_)
  refine wpAny_holding ?_
  have hl' : (s.heap.push { cls := .type "dict", data := .dict #[] }).IsList l items := hl.push _
  have hT : ({ s with heap := s.heap.push { cls := .type "dict", data := .dict #[] } } : Shared).TypeIs (.ref s.heap.objs.size) "dict" := ⟨_, Heap.get?_push_size _ rfl, rfl⟩
  refine wpAny_bind (wpAny_typeOf (T := "list") hl'.typeIs ?_)
  refine wpAny_bind (wpAny_typeOf hT ?_)
  refine PySem.W.KFB.if_not (by decide) ?_
  refine wpAny_bind (wpAny_typeOf hT ?_)
  refine PySem.W.KFB.if_not (by decide) ?_
  have e : (s.heap.push { cls := .type "dict", data := .dict #[] }).objs.size = s.heap.objs.size + 1 := Heap.size_push ..
  refine wpAny_bind (wpAny_pyIter_list hl' ?_)
  rw [e]
  exact wpAny_pure h
/-- dict.fromkeys of a list of ints -/
theorem fk_call_ints {x l : Addr} {vs : List Value} {xs : List Int} {Q : Value → Shared → Prop} (ho : s.heap.get? x = some fkBound) (hl : s.heap.IsList l vs.toArray) (hi : IntsAre vs xs) (hz : vs.length ≤ 200) (hh : A.handled = none)
    (h : ∀ h' tk d, (∀ b o, s.heap.get? b = some o → h'.get? b = some o) → s.heap.objs.size ≤ d → h'.DictOf (intKind prog w) d (fkPairs (dedup xs)) → Q (.ref d) { s with heap := h', toks := tk }) : wpAny (model prog w) A (call (.ref x) [.ref l]) Q E s := by
  refine fk_callOf ho (fk_tree hl ⟨plainId_quiet fk_loop_plain _, codeAny_builtin fk_loop_entry ?_⟩)
  rw [Around.under_plainId fk_loop_plain]
  have e : (s.heap.push { cls := .type "dict", data := .dict #[] }).objs.size = s.heap.objs.size + 1 := Heap.size_push ..
  obtain ⟨ol, hol, hr⟩ := hl
  have hlt := Heap.lt_size hol
  have hd : ((s.heap.push { cls := .type "dict", data := .dict #[] }).push { cls := .type "list_iterator", data := .fields #[.ref l, .int 0 0] }).DictOf (intKind prog w) s.heap.objs.size (fkPairs []) := (Heap.DictOf.new s.heap).push _
  refine fk_loop_ints s.heap.objs.size (s.heap.objs.size + 1) l vs xs hi hz (Nat.ne_of_lt (Nat.lt_succ_self _)) (Nat.ne_of_gt hlt) (Nat.ne_of_lt (Nat.lt_succ_of_lt hlt)) _ 0 [] A (wants Q E) _ rfl (Nat.zero_le _) (Nat.zero_le _) hh hd ?_ ?_ fun h' tk hk hd' => ?_
  · refine ⟨{ cls := .type "list_iterator", data := .fields #[.ref l, .int 0 0] }, ?_, rfl, rfl⟩
    rw [← e]; exact Heap.get?_push_size _ rfl
  · exact ⟨ol, Heap.get?_push_of_some _ (Heap.get?_push_of_some _ hol), hr⟩
  · refine h h' tk _ (fun b o hb => ?_) (Nat.le_refl _) hd'
    have hlb := Heap.lt_size hb
    exact hk b o (Nat.ne_of_lt hlb) (Nat.ne_of_lt (Nat.lt_succ_of_lt hlb)) (Heap.get?_push_of_some _ (Heap.get?_push_of_some _ hb))
/-- dict.fromkeys of a list of lists -/
theorem fk_call_lists {x l a : Addr} {vs : List Value} {Q : Value → Shared → Prop} (ho : s.heap.get? x = some fkBound) (hl : s.heap.IsList l (Value.ref a :: vs).toArray) (ha : s.TypeIs (.ref a) "list") (hu : A.units + 16 < cLine) (hh : HOk A.handled s.heap)
    (h : ∀ h' tk e, NewExcC (A.handled.getD .none) s.heap h' e "TypeError" → E (.ref e) { s with heap := h', toks := tk }) : wpAny (model prog w) A (call (.ref x) [.ref l]) Q E s := by
  refine fk_callOf ho (fk_tree hl ⟨plainId_quiet fk_loop_plain _, codeAny_builtin fk_loop_entry ?_⟩)
  rw [Around.under_plainId fk_loop_plain]
  have e : (s.heap.push { cls := .type "dict", data := .dict #[] }).objs.size = s.heap.objs.size + 1 := Heap.size_push ..
  obtain ⟨ol, hol, hr⟩ := hl
  obtain ⟨oa, hoa, hca⟩ := ha
  have hlt := Heap.lt_size hol
  have hla := Heap.lt_size hoa
  have hit : ((s.heap.push { cls := .type "dict", data := .dict #[] }).push { cls := .type "list_iterator", data := .fields #[.ref l, .int 0 0] }).IsListIter (s.heap.objs.size + 1) l 0 := by
    refine ⟨{ cls := .type "list_iterator", data := .fields #[.ref l, .int 0 0] }, ?_, rfl, rfl⟩
    rw [← e]; exact Heap.get?_push_size _ rfl
  have hl2 : ((s.heap.push { cls := .type "dict", data := .dict #[] }).push { cls := .type "list_iterator", data := .fields #[.ref l, .int 0 0] }).IsList l (Value.ref a :: vs).toArray := ⟨ol, Heap.get?_push_of_some _ (Heap.get?_push_of_some _ hol), hr⟩
  unfold Builtin.«dict.fromkeys.loop»
  show wpAny _ _ (pyNext (.ref _) >>= _) _ _ _
  refine wpAny_bind (wpAny_pyNext_list_item hit hl2 (x := .ref a) rfl fun h' _ hs' => ?_)
  have k1 : ∀ b o, s.heap.get? b = some o → h'.get? b = some o := fun b o hb => (hs'.2 b (Nat.ne_of_lt (Nat.lt_succ_of_lt (Heap.lt_size hb)))).trans (Heap.get?_push_of_some _ (Heap.get?_push_of_some _ hb))
  have hdT : ({ s with heap := h' } : Shared).TypeIs (.ref s.heap.objs.size) "dict" := ⟨_, (hs'.2 _ (Nat.ne_of_lt (Nat.lt_succ_self _))).trans (Heap.get?_push_of_some _ (Heap.get?_push_size _ rfl)), rfl⟩
  show wpAny _ _ (typeOf (.ref s.heap.objs.size) >>= _) _ _ _
  refine wpAny_bind (wpAny_typeOf hdT ?_)
  rw [if_pos (by decide)]
  show wpAny _ _ (holding [Value.ref a] (dictSet s.heap.objs.size (Value.ref a) Value.none) >>= _) _ _ _
  refine wpAny_bind (wpAny_holding ?_)
  unfold dictSet
  refine wpAny_holding (wpAny_bind (hash_list ⟨oa, k1 _ _ hoa, hca⟩ (hh.keeps k1) (by show A.units + 1 + 8 < cLine; omega) fun h2 tk ex hx => ?_))
  exact h h2 tk ex ⟨fun b o hb => hx.keeps b o (k1 b o hb), kts_none k1 hx.new, hx.there⟩
end
theorem fk_callWith1 {M : Model} {A : Around} {E : Value → Shared → Prop} {s : Shared} {pos : Pos} {u : Addr} {env : Env} {e : PySem.Expr} {rest : List PySem.Expr} {Q : Value → Shared → Prop}
    (h : wpAny M A (spliced (backTo pos (starEach (e :: rest) env))) (fun vs s₁ => s₁.heap.get? u = some fkBound ∧ wpAny M A (call (.ref u) ([] ++ vs)) Q E s₁) E s)
    (he : starEach (e :: rest) env = (false, eval e env) :: starEach rest env := by rfl) (hplain : (backTo pos (starEach rest env)).any (·.1) = false := by rfl) :
    wpAny M A (callWith pos (.ref u) [] (backTo pos (starEach (e :: rest) env)) []) Q E s := by
  have keeper : ∀ g : Heap, g.get? u = some fkBound → ∃ k, (k = Keeper.frame ∨ k = Keeper.machine ∨ k = Keeper.boundFrame) ∧ Looks M g (keeperOf (.ref u)) k := fun g z => ⟨.machine, .inr (.inl rfl), (Looks.ld (part := none) z).andThen .now⟩
  rw [he] at h ⊢
  exact callWith_of (by show ((false || (backTo pos (starEach rest env)).any (·.1)) || false) = false; rw [hplain]; rfl) keeper (evalArgs_plain h)
/-- what a call of _deduplicate does up to dict.fromkeys -/
theorem kept_con {w : World} {s : Shared} {l : Addr} {vs : List Value} {n : Nat} {xs : List Int} (hl : s.heap.get? l = some (PySem.W.listOf vs.toArray n)) (hi : IntsAre vs xs) (hz : vs.length ≤ 200) :
    Con w 167 [.ref l] [] 4 s (fun h r => ∃ d, r = .ref d ∧ h.DictOf (intKind PySem.Challenge.rw_rt0036_01.row.prog w) d (fkPairs (dedup xs)) ∧ s.heap.objs.size ≤ d) := by
  have hz : PySem.Challenge.rw_rt0036_01 = PySem.Challenge.rw_rt0036_01 := rfl
  unfold Con
  revert hz
  k_fill
  intro _ dp un gd outer base mean mg mb Q E B X T hd hu hQ
  refine wpAny_call ?_
  refine enter_def (binds := [(Str.ofString "params", .ref l), (Str.ofString "unhashable_fallback", .bool false)]) B X T (by k_is) (by k_is) (rm0 hd) (PySem.W.kp_binds X (fun _ => rfl)) (locs rfl) (fun L h₁ hL F N => ?_) rfl rfl rfl (by decide)
  dsimp only
  k_fold
  k_steps
  refine fk_getm F N X (by k_is) fun x h2 F2 N2 hlt => ?_
  refine fk_callWith1 ?_
  k_steps
  · exact N2.get (.head _)
  show wpAny _ _ (call (.ref x) [.ref l]) _ _ _
  refine fk_call_ints (N2.get (.head _)) ⟨_, F2.keep _ _ hl, rfl, _, rfl⟩ hi hz rfl fun h3 tk d hk hn hd => ?_
  have F3 : Fr s.heap L h3 _ := ⟨F2.ns.keeps hk, fun b o e => hk b o (F2.keep b o e), F2.above⟩
  k_steps
  exact hQ _ _ _ F3.keep ⟨d, rfl, hd, Nat.le_trans F2.above (Nat.le_trans (Nat.le_of_lt F2.ns.lt) hn)⟩
/-- a call of _deduplicate that refuses its things -/
theorem refused_con {w : World} {s : Shared} {l a : Addr} {vs : List Value} {n : Nat} (hl : s.heap.get? l = some (PySem.W.listOf (Value.ref a :: vs).toArray n)) (ha : s.TypeIs (.ref a) "list")
    (dp un : Nat) (gd : Option (List Code)) (outer : List Env) (base : Heap) (mean : ExcName → Option Value) (mg mb : Str → Option Value) (Q E : Value → Shared → Prop)
    (B : Below { handled := none, depth := dp, frames := some outer, guards := gd, units := un } base outer s.heap) (XB : (K0 w.params).In base)
    (TB : Top V0 (looseW V0 [Str.ofString "b2a_base64", Str.ofString "b64encode", Str.ofString "_deduplicate"]) mean mg mb base) (hd : dp + 4 < recursionLimit) (hu : un + 64 < cLine)
    (hE : ∀ e h' tk' T, InFlight (hideAll s.heap (outer.filterMap (·.frame))) e T (.type "TypeError") .none .none h' → h'.FunFrames (hideAll s.heap (outer.filterMap (·.frame))) outer → s.heap.UpToSlots h' → s.heap.get? e = none → E (.ref e) { s with heap := h', toks := tk' }) :
    wpAny (model PySem.Challenge.rw_rt0036_01.row.prog w) { handled := none, depth := dp, frames := some outer, guards := gd, units := un } (call (.ref 167) [.ref l] []) Q E s := by
  have hz : PySem.Challenge.rw_rt0036_01 = PySem.Challenge.rw_rt0036_01 := rfl
  revert hz XB
  k_fill
  intro XB _
  have X := XB.keeps B.stays
  have T := TB.keeps B.stays
  refine wpAny_call ?_
  refine enter_def (binds := [(Str.ofString "params", .ref l), (Str.ofString "unhashable_fallback", .bool false)]) B X T (by k_is) (by k_is) (rm0 hd) (PySem.W.kp_binds X (fun _ => rfl)) (locs rfl) (fun L h₁ hL F N => ?_) rfl rfl rfl (by decide)
  dsimp only
  k_fold
  k_steps
  refine fk_getm F N X (by k_is) fun x h2 F2 N2 hlt => ?_
  refine fk_callWith1 ?_
  k_steps
  · exact N2.get (.head _)
  obtain ⟨oa, hoa, hca⟩ := ha
  refine fk_call_lists (N2.get (.head _)) ⟨_, F2.keep _ _ hl, rfl, _, rfl⟩ ⟨oa, F2.keep _ _ hoa, hca⟩ (by show un + 3 + 16 < cLine; omega) .none fun h3 tk e hx => ?_
  k_steps
  refine caught_here (X := "TypeError") (T' := "TypeError") B F2 N2 XB TB hx (by decide +kernel) (isSubtype_of_subB (by decide +kernel)) (isSubtype_of_subB (by decide +kernel)) (isSubtype_of_subB (by decide +kernel)) ?_
  intro h₀' h7 oe ve TT KT hoe hve F7 N7 B7 X7 T7 I7 J7 U7
  k_steps
  refine raise_bare (L := L) rfl rfl I7 fun h8 I8 u8 => ?_
  k_steps
  refine leaves_again rfl I8 fun h9 I9 u9 => ?_
  exact hE e h9 _ TT (InFlight.out (A₀ := { handled := none, depth := dp, frames := some outer, guards := gd, units := un }) (base := base) F2 I9) (frames_out B ((Heap.UpToSlots.of_keeps F2.keep).trans ((U7.trans u8).trans u9))) ((Heap.UpToSlots.of_keeps F2.keep).trans ((U7.trans u8).trans u9)) (kts_none F2.keep hx.new)
/-- nothing stands behind what is being handled -/
def HOk1 (hn : Option Value) (h : Heap) : Prop := hn = none ∨ ∃ x o vs, hn = some (.ref x) ∧ h.get? x = some o ∧ o.data = .fields vs ∧ vs[2]? = some Value.none
theorem HOk1.ok {hn : Option Value} {h : Heap} (H : HOk1 hn h) : HOk hn h := by
  rcases H with h | ⟨x, o, vs, a, b, c, d⟩
  · exact .inl h
  · exact .inr ⟨x, o, vs, a, b, c, .inl d⟩
theorem HOk1.next {hn : Option Value} {h h' : Heap} {e : Addr} {oe : Obj} {ve : Array Value} (H : HOk1 hn h) (k : ∀ b o vs, h.get? b = some o → o.data = .fields vs → h'.get? b = some o) (hne : h.get? e = none) (he : h'.get? e = some oe) (hd : oe.data = .fields ve) (hv : ve[2]? = some (hn.getD .none)) : HOk (some (.ref e)) h' := by
  rcases H with rfl | ⟨x, o, vs, rfl, b, c, d⟩
  · exact .inr ⟨e, oe, ve, rfl, he, hd, .inl hv⟩
  · exact .inr ⟨e, oe, ve, rfl, he, hd, .inr ⟨x, o, vs, (fun q => by rw [q, hne] at b; cases b), hv, k _ _ _ b c, c, d⟩⟩
/-- a call out of the suite of a clause -/
theorem conH_use {w : World} {s : Shared} {hn : Option Value} {e : Addr} {f : Addr} {vs : List Value} {kw : List (Str × Value)} {n : Nat} {Post : Heap → Value → Prop} {base h₀ : Heap} {L : Addr} {m : Str → Option Value} {env : Env} {outer : List Env} {news : List (Addr × Obj)}
    {dp un : Nat} {gd : Option (List Code)} {mean : ExcName → Option Value} {mg mb : Str → Option Value} {Q E : Value → Shared → Prop}
    (C : ConH w (some (.ref e)) f vs kw n s Post) (B : Below { handled := hn, depth := dp, frames := some outer, guards := gd, units := un } base outer h₀) (F : Fr h₀ L s.heap m) (N : News h₀ L s.heap news) (X : (K0 w.params).In h₀)
    (T : Top V0 (looseW V0 [Str.ofString "b2a_base64", Str.ofString "b64encode", Str.ofString "_deduplicate"]) mean mg mb h₀) (H : HOk (some (.ref e)) s.heap)
    (hf : env.frame = some L) (hk : env.scope.kind = .function) (hd : dp + 1 + n < recursionLimit) (hu : un + 3 + 8 * n < cLine)
    (k : ∀ r h' tk', (∀ b o, s.heap.get? b = some o → h'.get? b = some o) → Post h' r → Fr h₀ L h' m → News h₀ L h' news → Q r { s with heap := h', toks := tk' }) :
    wpAny (model PySem.Challenge.rw_rt0036_01.row.prog w) ((({ handled := hn, depth := dp, frames := some outer, guards := gd, units := un } : Around).deeper env).mark (some (.ref e))) (call (.ref f) vs kw) Q E s := by
  have B' := pushX B F hf hk
  refine C (dp + 1) (un + 3) gd (env :: outer) base mean mg mb Q E ⟨rfl, B'.stays, B'.frames⟩ (X.keeps F.keep) (T.keeps F.keep) H hd hu fun r h' tk' hkp hp => k r h' tk' hkp hp ?_ ?_
  · exact ⟨F.ns.keeps hkp, fun b o e => hkp b o (F.keep b o e), F.above⟩
  · exact fun p hp => ⟨hkp _ _ (N p hp).1, (N p hp).2⟩
/-- a call of _deduplicate with the fallback -/
theorem fallback_con {α : Type} [DecidableEq α] {w : World} {s : Shared} {hn : Option Value} {R : α → Value → Prop} {l a : Addr} {vs : List Value} {n : Nat} {xs : List α}
    (dp un : Nat) (gd : Option (List Code)) (outer : List Env) (base : Heap) (mean : ExcName → Option Value) (mg mb : Str → Option Value) (Q E : Value → Shared → Prop)
    (hR : EqOk (hideAll s.heap (outer.filterMap (·.frame))) R) (hl : (hideAll s.heap (outer.filterMap (·.frame))).get? l = some (PySem.W.listOf (Value.ref a :: vs).toArray n)) (ha : s.TypeIs (.ref a) "list") (hr : Rel2 R xs (Value.ref a :: vs)) (hzl : (Value.ref a :: vs).length ≤ 200)
    (B : Below { handled := hn, depth := dp, frames := some outer, guards := gd, units := un } base outer s.heap) (XB : (K0 w.params).In base)
    (TB : Top V0 (looseW V0 [Str.ofString "b2a_base64", Str.ofString "b64encode", Str.ofString "_deduplicate"]) mean mg mb base) (H : HOk1 hn s.heap) (hd : dp + 14 < recursionLimit) (hu : un + 128 < cLine)
    (hQ : ∀ c ws n h' tk' h₀', KtsTurn (outer.filterMap (·.frame)) s.heap h₀' → (∀ b o, h₀'.get? b = some o → h'.get? b = some o) → h'.get? c = some (PySem.W.listOf ws n) → s.heap.get? c = none → Rel2 R (dedup xs) ws.toList → Q (.ref c) { s with heap := h', toks := tk' }) :
    wpAny (model PySem.Challenge.rw_rt0036_01.row.prog w) { handled := hn, depth := dp, frames := some outer, guards := gd, units := un } (call (.ref 167) [.ref l] [(Str.ofString "unhashable_fallback", .bool true)]) Q E s := by
  have hz : PySem.Challenge.rw_rt0036_01 = PySem.Challenge.rw_rt0036_01 := rfl
  revert hz XB
  k_fill
  intro XB _
  have X := XB.keeps B.stays
  have T := TB.keeps B.stays
  have hl1 := of_hideAll _ hl
  refine wpAny_call ?_
  refine enter_def (binds := [(Str.ofString "params", .ref l), (Str.ofString "unhashable_fallback", .bool true)]) B X T (by k_is) (by k_is) (rm0 hd) (PySem.W.kp_binds X (fun _ => rfl)) (locs rfl) (fun L h₁ hL F N => ?_) rfl rfl rfl (by decide)
  dsimp only
  k_fold
  k_steps
  refine fk_getm F N X (by k_is) fun x h2 F2 N2 hlt => ?_
  refine fk_callWith1 ?_
  k_steps
  · exact N2.get (.head _)
  obtain ⟨oa, hoa, hca⟩ := ha
  refine fk_call_lists (N2.get (.head _)) ⟨_, F2.keep _ _ hl1, rfl, _, rfl⟩ ⟨oa, F2.keep _ _ hoa, hca⟩ (by show un + 3 + 16 < cLine; omega) (H.ok.keeps F2.keep) fun h3 tk e hx => ?_
  k_steps
  refine caught_here (X := "TypeError") (T' := "TypeError") B F2 N2 XB TB hx (by decide +kernel) (isSubtype_of_subB (by decide +kernel)) (isSubtype_of_subB (by decide +kernel)) (isSubtype_of_subB (by decide +kernel)) ?_
  intro h₀' h7 oe ve TT KT hoe hve F7 N7 B7 X7 T7 I7 J7 U7
  k_steps
  have keep7 : ∀ b o, (hideAll s.heap (outer.filterMap (·.frame))).get? b = some o → h7.get? b = some o := fun b o q => F7.keep _ _ (KT.other b o (of_hideAll _ q) (fun hm => by rw [hideAll_none _ hm] at q; cases q))
  have H2 : HOk (some (.ref e)) h7 := H.next (fun b o vs q hd => F7.keep _ _ (KT.other b o q fun hm => by
    obtain ⟨_, o', ho', hnf⟩ := B.frames.mem hm
    rw [q] at ho'; cases ho'; exact hnf _ hd)) (kts_none F2.keep hx.new) (N7.get (.head _)) hoe hve
  refine Halt.go (conH_use (dedup_con (hR.keeps keep7) (keep7 _ _ hl) hr hzl) B7 F7 N7 X7 T7 H2 rfl rfl (rm hd) (rm3 hu) (fun r h' tk' hk hp F N => ?_))
  obtain ⟨c, ws, m, rfl, g, f, r⟩ := hp
  refine hQ c ws m _ _ h₀' KT F.keep g ?_ r
  cases q : s.heap.get? c with
  | none => rfl
  | some o =>
    obtain ⟨sl, hs⟩ := KT.up q
    have := F7.keep _ _ hs
    rw [f] at this; cases this
section
variable {prog : Program} {w : World} {A : Around} {E : Value → Shared → Prop} {s : Shared} {h₀ : Heap} {L : Addr} {env : Env}
theorem CompAny.tested {α β : Type} {scope : Scope} {cl : List (Str × Addr)} {x : Str} {elt c : PySem.Expr} {Fin : (Str → Option Value) → List (Addr × Obj) → Shared → (List Value → Prop) → Prop} {xv : Value} {s₁ : Shared}
    {m : Str → Option Value} {news : List (Addr × Obj)} {R : α → Value → Prop} (xs : List α) (keep : α → Bool) (f : α → β) (R' : β → Value → Prop)
    (F : Fr h₀ L s₁.heap m) (N : News h₀ L s₁.heap news) (hsrc : SrcOk prog w A h₀ L news xv s₁ xs R) (hsz : xs.length ≤ sizeLine)
    (htest : ∀ a v I C D oI oC ys m₂ h tk E', a ∈ xs → R a v → Turn h₀ L m news x v I C D oI oC ys m₂ h →
      wpAny (model prog w) A (isTrue c (compEnvC scope cl C env) (eval c (compEnvC scope cl C env)))
        (Kept h₀ L m ((I, oI) :: (C, oC) :: (D, LCg.lst ys) :: news) { s₁ with heap := h, toks := tk } (fun b => b = keep a)) E' { s₁ with heap := h, toks := tk })
    (helt : ∀ a v I C D oI oC ys m₂ h tk E', a ∈ xs → keep a = true → R a v → Turn h₀ L m news x v I C D oI oC ys m₂ h →
      wpAny (model prog w) A (eval elt (compEnvC scope cl C env))
        (Kept h₀ L m ((I, oI) :: (C, oC) :: (D, LCg.lst ys) :: news) { s₁ with heap := h, toks := tk } (R' (f a))) E' { s₁ with heap := h, toks := tk })
    (fin : Fin m news s₁ (Rel2 R' ((xs.filter keep).map f))) : CompAny prog w A h₀ L env scope cl x [c] elt Fin xv s₁ :=
  ⟨α, β, xs, R, keep, f, R', m, news, F, N, hsrc, hsz, ⟨htest, helt⟩, fin⟩
end
theorem nameC_B {M : Model} {A : Around} {E : Value → Shared → Prop} {s : Shared} {env : Env} {h₀ : Heap} {L : Addr} {m : Str → Option Value} {K : Frag} {mg mb : Str → Option Value} {p : Program} {loose : List Str} {x : Str} {pos : Pos} {v : Value} {Q : Value → Shared → Prop} (F : Fr h₀ L s.heap m) (X : K.In h₀) (T : TopRead p loose mg mb h₀)
    (e : nsIn K mainGlobals x = some none) (hv : bootBuiltins x = some v) (hn : x ≠ "__name__") (h : Q v s) (hg : env.globals = mainGlobals) (hb : env.builtins = builtinsNs) (hk : env.scope.kind = .function) (hx : env.kindOf x = some .globalImplicit) (hd : (x == ("__debug__" : Str)) = false) :
    wpAny M A (eval (.Name x pos) env) Q E s :=
  Name_function_global hk hx (loadGlobal_builtin (env := env) (by rw [hg]; exact T.g.keeps F.keep) (mg_none_of X T.g e) (by rw [hb]; exact T.b.keeps F.keep) ((T.builtins x hn).trans hv) h) hd
theorem nameC_B2 {M : Model} {A : Around} {E : Value → Shared → Prop} {s : Shared} {env : Env} {h₀ : Heap} {L : Addr} {m : Str → Option Value} {K : Frag} {mg mb : Str → Option Value} {p : Program} {loose : List Str} {x : Str} {pos : Pos} {v : Value} {Q : Value → Shared → Prop} (h : Q v s)
    (hg : env.globals = mainGlobals := by rfl) (hb : env.builtins = builtinsNs := by rfl) (hk : env.scope.kind = .function := by rfl) (hx : env.kindOf x = some .globalImplicit := by rfl) (hd : (x == ("__debug__" : Str)) = false := by decide) (F : Fr h₀ L s.heap m := by k_asm) (X : K.In h₀ := by k_asm) (T : TopRead p loose mg mb h₀ := by k_asm)
    (e : nsIn K mainGlobals x = some none := by k_is) (hv : bootBuiltins x = some v := by boot_by_name) (hn : x ≠ "__name__" := by decide) : wpAny M A (eval (.Name x pos) env) Q E s := nameC_B F X T e hv hn h hg hb hk hx hd
section
variable {prog : Program} {w : World} {A : Around} {s : Shared} {base : Heap} {outer : List Env} {K : Frag}
  {R : Result → Shared → Prop} {name qual : Str} {params : Arguments} {body : List Stmt} {scope : Scope} {dV kV doc pm cdv ct oc : Value} {an od : Option Addr} {osl : Array (Option Value)} {f : Addr} {args : Args} {binds : List (Str × Value)}
/-- into a def whose names are held by comprehensions too -/
theorem enter_cells {p : Program} {loose : List Str} {mean : ExcName → Option Value} {mg mb : Str → Option Value} (B : Below A base outer s.heap) (X : K.In s.heap) (T : Top p loose mean mg mb s.heap)
    (ho : K.lookup f = some ⟨oc, od, .func (fnOf name qual params body scope dV kV doc pm an cdv ct), osl⟩) (hcd : codeIn K cdv qual = true) (hroom : A.depth < recursionLimit)
    (hbind : BindsTo s (fnOf name qual params body scope dV kV doc pm an cdv ct) args binds)
    (hkind : ∀ n, ∀ x ∈ binds, scope.names.lookup x.1 = some .local ∨ (scope.names.lookup x.1 = some .cell ∧ ((cellsFrom n scope.names []).lookup x.1).isSome = true))
    (hnd : ((cellsFrom 0 scope.names []).map (·.1)).Nodup)
    (h : ∀ L h₁ tk cells, L = s.heap.objs.size → Fr s.heap L h₁ (bindL (envOfC qual scope L f cdv).kindOf binds fun _ => none) → News s.heap L h₁ cells →
      CellsAre (bindC (envOfC qual scope L f cdv).kindOf binds fun _ => none) (cellsFrom (L + 1) scope.names []) cells →
      wpAny (model prog w) (A.deeper (envOfC qual scope L f cdv)) (execs body (envOfC qual scope L f cdv))
        (fun fl s' => R (.ok (.ret (match fl with | .ret v => v | _ => .none))) s')
        (fun e s' => wpAny (model prog w) (A.deeper (envOfC qual scope L f cdv)) (leaving (envOfC qual scope L f cdv) e) (fun _ s'' => R (.error e) s'') (fun e' s'' => R (.error e') s'') s')
        { s with heap := h₁, toks := tk })
    (hco : scope.isCoroutine = false) (hgen : scope.isGenerator = false) (hk : scope.kind = .function) : codeAny (model prog w) A (.call (.ref f) args) R s := by
  have unique : ∀ {l : List (Str × Addr)}, l.map (·.1) = (cellsFrom 0 scope.names []).map (·.1) → (l.map (·.1)).Nodup := fun e => e.symm ▸ hnd
  refine codeAny_call_function hroom (X _ _ ho) rfl hco hgen rfl (codeRec_of X hcd) (hbind _ _ _ _ (wpAny_newFunctionEnv_cells hk (hkind _) fun _ e _ c => ?_))
  cases e
  obtain ⟨g, tk, es, _⟩ := c.done
  obtain ⟨cells, NC, Y⟩ := Cl.news (h₀ := s.heap) (Nat.le_refl _) fun n a hm => ⟨c.cell n a (lookup_of_mem_nodup (unique (cellsFrom_names scope.names 0 _ [] [] rfl).symm) hm), c.above n a hm⟩
  have ic := c.toInCall
  subst es
  exact ⟨T.nolimit.keeps ic.keep, codeAny_func (h _ g tk cells rfl ⟨ic.ns, ic.keep, Nat.le_refl _⟩ NC Y)⟩
end
section
theorem compTurn_two0 (elt t1 i1 t2 i2 : PySem.Expr) (scope : Scope) (pos : Pos) (it acc : Value) (env : Env) :
    compTurn (.ListComp elt [⟨t1, i1, [], 0⟩, ⟨t2, i2, [], 0⟩] scope pos) 0 it acc env = (standAt i1.pos >>= fun _ => pyNext it >>= fun r => match r with
      | none => pure (.done .next)
      | some v => letOwnedTupleGo t1 it v >>= fun _ => assign t1 env v >>= fun _ =>
        eval i2 env >>= fun x => standAt i2.pos >>= fun _ => foldedSetIterable i2 env x >>= fun x => holding [x] (pyIter x) >>= fun it2 =>
          runOwn (.compStart (.ListComp elt [⟨t1, i1, [], 0⟩, ⟨t2, i2, [], 0⟩] scope pos) 1 it2 acc env) env >>= fun _ =>
          again (.compLoop (.ListComp elt [⟨t1, i1, [], 0⟩, ⟨t2, i2, [], 0⟩] scope pos) 0 it acc env)) := by rfl
theorem compTurn_two1 (elt t1 i1 t2 i2 : PySem.Expr) (scope : Scope) (pos : Pos) (it acc : Value) (env : Env) :
    compTurn (.ListComp elt [⟨t1, i1, [], 0⟩, ⟨t2, i2, [], 0⟩] scope pos) 1 it acc env = (standAt i2.pos >>= fun _ => pyNext it >>= fun r => match r with
      | none => pure (.done .next)
      | some v => letOwnedTupleGo t2 it v >>= fun _ => assign t2 env v >>= fun _ =>
        (eval elt env >>= fun x => call (.builtin "list.append") [acc, x] >>= fun _ => pure ()) >>= fun _ =>
          again (.compLoop (.ListComp elt [⟨t1, i1, [], 0⟩, ⟨t2, i2, [], 0⟩] scope pos) 1 it acc env)) := by rfl
variable {prog : Program} {w : World} {A : Around} {R : Result → Shared → Prop} {s : Shared}
/-- a comprehension's loop by its turn, when the turn's tree is known -/
theorem turns_by {elt : PySem.Expr} {gs : List Comprehension} {scope : Scope} {pos : Pos} {k : Nat} {it acc : Value} {env : Env} {tree : Sem Fin} (he : compTurn (.ListComp elt gs scope pos) k it acc env = tree) (I : Nat → Shared → Prop)
    (turn : ∀ n s', I n s' → wpAny (model prog w) A tree (fun fin s₁ => match fin with | .done f => R (.ok f) s₁ | .again c => c = .compLoop (.ListComp elt gs scope pos) k it acc env ∧ ∃ m, m < n ∧ I m s₁) (notedBy (model prog w) A env fun x s₁ => R (.error x) s₁) s')
    (n : Nat) (h : I n s) : codeAny (model prog w) A (.compLoop (.ListComp elt gs scope pos) k it acc env) R s :=
  codeAny_loop rfl I (fun n s' z => by
    have z := turn n s' z
    rw [← he] at z
    exact wpAny_noted z) n h
theorem two1_loop {elt t1 i1 t2 i2 : PySem.Expr} {scope : Scope} {pos : Pos} {it acc : Value} {env : Env} (I : Nat → Shared → Prop)
    (turn : ∀ n s, I n s → wpAny (model prog w) A (pyNext it) (fun r s₁ => match r with
      | none => R (.ok .next) s₁
      | some v => wpAny (model prog w) A (assign t2 env v) (fun _ s₂ => wpAny (model prog w) A (eval elt env) (fun x s₃ =>
          wpAny (model prog w) A (call (.builtin "list.append") [acc, x]) (fun _ s₄ => ∃ m, m < n ∧ I m s₄) (notedBy (model prog w) A env fun e s' => R (.error e) s') s₃) (notedBy (model prog w) A env fun e s' => R (.error e) s') s₂)
            (notedBy (model prog w) A env fun e s' => R (.error e) s') s₁) (notedBy (model prog w) A env fun e s' => R (.error e) s') s)
    (n : Nat) (h : I n s) (ht : ∀ v, letOwnedTupleGo t2 it v = pure () := by intro _; rfl) :
    codeAny (model prog w) A (.compLoop (.ListComp elt [⟨t1, i1, [], 0⟩, ⟨t2, i2, [], 0⟩] scope pos) 1 it acc env) R s := by
  refine turns_by (compTurn_two1 ..) I (fun n s₀ z => wpAny_bind (wpAny_standAt (wpAny_bind (wpAny_mono (turn n s₀ z) (fun next s₁ z₁ => ?_) fun _ _ y => y)))) n h
  match next, z₁ with
  | none, z₁ => exact wpAny_pure z₁
  | some v, z₁ => exact wpAny_bind (wpAny_of_eq (ht v) (wpAny_bind (wpAny_mono z₁ (fun _ s₂ z₂ => wpAny_bind (wpAny_bind (wpAny_mono z₂ (fun x s₃ z₃ =>
      wpAny_bind (wpAny_mono z₃ (fun _ s₄ z₄ => wpAny_pure (wpAny_pure ⟨rfl, z₄⟩)) fun _ _ y => y)) fun _ _ y => y))) fun _ _ y => y)))
theorem two0_loop {elt t1 i1 t2 i2 : PySem.Expr} {scope : Scope} {pos : Pos} {it acc : Value} {env : Env} (I : Nat → Shared → Prop)
    (turn : ∀ n s, I n s → wpAny (model prog w) A (pyNext it) (fun r s₁ => match r with
      | none => R (.ok .next) s₁
      | some v => wpAny (model prog w) A (assign t1 env v) (fun _ s₂ => wpAny (model prog w) A (eval i2 env) (fun x s₃ =>
          wpAny (model prog w) A (pyIter x) (fun it2 s₄ => codeAny (model prog w) (A.mark none) (.compStart (.ListComp elt [⟨t1, i1, [], 0⟩, ⟨t2, i2, [], 0⟩] scope pos) 1 it2 acc env)
            (fun r s₅ => match r with | .ok _ => ∃ m, m < n ∧ I m s₅ | .error e => cameBackBy (model prog w) A env (notedBy (model prog w) A env fun e s' => R (.error e) s') e s₅) s₄)
            (notedBy (model prog w) A env fun e s' => R (.error e) s') s₃) (notedBy (model prog w) A env fun e s' => R (.error e) s') s₂)
            (notedBy (model prog w) A env fun e s' => R (.error e) s') s₁) (notedBy (model prog w) A env fun e s' => R (.error e) s') s)
    (n : Nat) (h : I n s) (ht : ∀ v, letOwnedTupleGo t1 it v = pure () := by intro _; rfl) (hs : ∀ x, foldedSetIterable i2 env x = pure x := by intro _; rfl) :
    codeAny (model prog w) A (.compLoop (.ListComp elt [⟨t1, i1, [], 0⟩, ⟨t2, i2, [], 0⟩] scope pos) 0 it acc env) R s := by
  refine turns_by (compTurn_two0 ..) I (fun n s₀ z => wpAny_bind (wpAny_standAt (wpAny_bind (wpAny_mono (turn n s₀ z) (fun next s₁ z₁ => ?_) fun _ _ y => y)))) n h
  match next, z₁ with
  | none, z₁ => exact wpAny_pure z₁
  | some v, z₁ =>
    refine wpAny_bind (wpAny_of_eq (ht v) (wpAny_bind (wpAny_mono z₁ (fun _ s₂ z₂ => wpAny_bind (wpAny_mono z₂ (fun x s₃ z₃ =>
      wpAny_bind (wpAny_standAt (wpAny_bind (wpAny_of_eq (hs x) (wpAny_bind (wpAny_holding (wpAny_mono z₃ (fun it2 s₄ z₄ => ?_) fun _ _ y => y))))))) fun _ _ y => y)) fun _ _ y => y)))
    exact wpAny_bind (wpAny_runOwn (codeAny_mono z₄ fun r s₅ z₅ => match r, z₅ with
      | .ok _, z₅ => wpAny_pure ⟨rfl, z₅⟩
      | .error _, z₅ => z₅))
theorem compStart_one {elt t1 i1 t2 i2 : PySem.Expr} {scope : Scope} {pos : Pos} {it acc : Value} {env : Env}
    (h0 : codeAny (model prog w) A (.compLoop (.ListComp elt [⟨t1, i1, [], 0⟩, ⟨t2, i2, [], 0⟩] scope pos) 1 it acc env) R s)
    (h : wpAny (model prog w) A (pyIter it) (fun it' s' => codeAny (model prog w) A (.compLoop (.ListComp elt [⟨t1, i1, [], 0⟩, ⟨t2, i2, [], 0⟩] scope pos) 1 it' acc env) R s')
      (notedBy (model prog w) A env fun x s' => R (.error x) s') s) :
    codeAny (model prog w) A (.compStart (.ListComp elt [⟨t1, i1, [], 0⟩, ⟨t2, i2, [], 0⟩] scope pos) 1 it acc env) R s := by
  have start : wpAny (model prog w) A (compStart (.ListComp elt [⟨t1, i1, [], 0⟩, ⟨t2, i2, [], 0⟩] scope pos) 1 it acc env) (fun fin s' => match fin with | .done f => R (.ok f) s' | .again c => c.quiet = true ∧ codeAny (model prog w) A c R s') (notedBy (model prog w) A env fun x s' => R (.error x) s') s := by
    unfold compStart
    refine wpAny_bind (m := ask) (wpAny_askSetting (wpAny_ite ?_))
    split
    · exact wpAny_pure ⟨rfl, h0⟩
    · refine wpAny_bind (wpAny_rule ?_)
      exact wpAny_bind (m := standAt i2.pos) (wpAny_standAt (wpAny_bind (wpAny_mono h (fun _ _ z => wpAny_pure ⟨rfl, z⟩) fun _ _ z => z)))
  exact codeAny_of_tree (wpAny_notedAt start)
end
section
variable {α β γ : Type} {prog : Program} {w : World} {A : Around} {E : Value → Shared → Prop} {s : Shared} {h₀ : Heap} {L : Addr} {m : Str → Option Value} {env : Env}

/-- the inner loop of a comprehension over two sources -/
theorem lc2_inner {elt t1 i1 i2 : PySem.Expr} {x k : Str} {pk : Pos} {scope : Scope} {cl : List (Str × Addr)} {pos : Pos} {s₂ : Shared} {I C D : Addr} {fp : List Addr} {bs : List β} {R2 : β → Value → Prop} {f : β → γ} {R' : γ → Value → Prop} {St : Nat → Heap → Prop}
    {news : List (Addr × Obj)} {m₀ : Str → Option Value} {ys₀ : List Value} {v : Value} {RR : Result → Shared → Prop}
    (W : Walks prog w A I fp [I] bs.length (fun i v => ∃ b, bs[i]? = some b ∧ R2 b v) St) (hsz : ys₀.length + bs.length ≤ sizeLine) (hIo : ∀ i h, St i h → ∃ o, h.get? I = some o)
    (hSt : ∀ i h h' o, St i h → h.get? I = some o → h'.get? I = some o → (∀ b o, h₀.get? b = some o → h'.get? b = some o) → News h₀ L h' news → St i h')
    (hkind : scope.kind = .function) (hk : scope.names.lookup k = some .local) (hxk : x ≠ k) (hst : St 0 s₂.heap) (hCf : C ∉ fp) (hDf : D ∉ fp)
    (F : Fr h₀ L s₂.heap m) (hC : s₂.heap.Ns C m₀) (hx : m₀ x = some v) (N : News h₀ L s₂.heap ((D, LCg.lst ys₀) :: news))
    (hIL : L ≠ I) (hI₀ : h₀.get? I = none) (hC₀ : h₀.get? C = none) (hD₀ : h₀.get? D = none) (hCL : C ≠ L) (hDL : D ≠ L) (hCI : I ≠ C) (hDI : I ≠ D) (hDC : D ≠ C)
    (off3 : ∀ p ∈ news, p.1 ≠ I ∧ p.1 ≠ C ∧ p.1 ≠ D)
    (helt : ∀ b v2 oI oC ys m₂ h tk E', b ∈ bs → R2 b v2 → LCg.NsObj oC m₂ → m₂ x = some v → m₂ k = some v2 → Fr h₀ L h m → News h₀ L h ((I, oI) :: (C, oC) :: (D, LCg.lst ys) :: news) →
      wpAny (model prog w) A (eval elt (compEnvC scope cl C env)) (Kept h₀ L m ((I, oI) :: (C, oC) :: (D, LCg.lst ys) :: news) { s₂ with heap := h, toks := tk } (R' (f b))) E' { s₂ with heap := h, toks := tk })
    (hRR : ∀ h tk m₂ ys, Fr h₀ L h m → h.Ns C m₂ → m₂ x = some v → News h₀ L h ((D, LCg.lst (ys₀ ++ ys)) :: news) → Rel2 R' (bs.map f) ys → RR (.ok .next) { s₂ with heap := h, toks := tk }) :
    codeAny (model prog w) A (.compLoop (.ListComp elt [⟨t1, i1, [], 0⟩, ⟨.Name k pk, i2, [], 0⟩] scope pos) 1 (.ref I) (.ref D) (compEnvC scope cl C env)) RR s₂ := by
  have far : ∀ ys, ∀ p ∈ (D, LCg.lst ys) :: news, p.1 ≠ I ∧ p.1 ≠ C := fun ys p hp => by
    cases hp with
    | head => exact ⟨Ne.symm hDI, hDC⟩
    | tail _ hp => exact ⟨(off3 p hp).1, (off3 p hp).2.1⟩
  have stay : ∀ {h h' : Heap} {m' : Str → Option Value}, h.Ns C m' → (∀ b o, b ∉ [I] → h.get? b = some o → h'.get? b = some o) → h'.Ns C m' := fun hn k => hn.at' fun o e => k C o (fun q => hCI (List.mem_singleton.mp q).symm) e
  refine two1_loop
    (fun n s' => ∃ h' tk i ys m', s' = { s₂ with heap := h', toks := tk } ∧ i ≤ bs.length ∧ n = bs.length + 1 - i ∧ Rel2 R' ((bs.take i).map f) ys ∧ St i h' ∧ Fr h₀ L h' m ∧ h'.Ns C m' ∧ m' x = some v ∧ News h₀ L h' ((D, LCg.lst (ys₀ ++ ys)) :: news)) ?_ (bs.length + 1)
    ⟨s₂.heap, s₂.toks, 0, [], _, rfl, Nat.zero_le _, rfl, .nil, hst, F, hC, hx, (List.append_nil ys₀).symm ▸ N⟩
  rintro n s' ⟨h', tk, i, ys, m', rfl, hi, rfl, hys, hst', F', hn', hx', N'⟩
  rcases Nat.lt_or_eq_of_le hi with hlt | rfl
  · refine W.item i _ _ _ hlt hst' fun v2 h₂ tk₂ ⟨b, hb, hRb⟩ hst₂ hk₂ => wpAny_assign_Name (wpAny_storeName_local (lookup_relabel_local hk) (stay hn' hk₂) (fun h₃ hn₃ hs₃ => ?_) (by simp [compEnvC, relabel, hkind]))
    have hst₃ : St (i + 1) h₃ := W.frame _ _ _ hst₂ fun a ha o => hs₃.extBut a o (fun q => hCf (Eq.mp (congrArg (· ∈ fp) q) ha))
    obtain ⟨oI, heI⟩ := hIo _ _ hst₃
    obtain ⟨oC, hoC, F₃, N₃⟩ := turn_led F' N' hk₂ hs₃ hn₃ heI ⟨Ne.symm hIL, hI₀⟩ ⟨hCL, hC₀⟩ (far _)
    refine wpAny_mono (helt b v2 oI oC (ys₀ ++ ys) _ h₃ _ _ (List.mem_of_getElem? hb) hRb hoC (by simp [hxk, hx']) (by simp) F₃ N₃) (fun y _ ⟨h₅, tk₅, e₅, F₅, N₅, hy⟩ => ?_) fun _ _ z => z
    subst e₅
    have NI := N₅ (I, oI) List.mem_cons_self
    have NC := N₅ (C, oC) (.tail _ List.mem_cons_self)
    have ND : News h₀ L h₅ ((D, LCg.lst (ys₀ ++ ys)) :: news) := fun p hp => N₅ p (.tail _ (.tail _ hp))
    have short : (ys₀ ++ ys).length ≤ sizeLine := by
      have e := hys.length
      rw [List.length_map] at e
      have := List.length_take_le' i bs
      rw [List.length_append]; omega
    refine append_at (hsz := by rw [List.size_toArray]; exact short) (ND _ List.mem_cons_self).1 fun h₆ hs₆ hD₆ => ?_
    have hst₅ : St (i + 1) h₅ := hSt _ _ _ _ hst₃ heI NI.1 F₅.keep fun p hp => ND p (.tail _ hp)
    have N₆ := led_snoc ND hs₆ hD₆ fun p hp => (off3 p hp).2.2
    rw [List.append_assoc] at N₆
    refine ⟨bs.length + 1 - (i + 1), by omega, h₆, tk₅, i + 1, ys ++ [y], _, rfl, hlt, rfl, ?_, W.frame _ _ _ hst₅ fun a ha o => hs₆.extBut a o (fun q => hDf (Eq.mp (congrArg (· ∈ fp) q) ha)), F₅.change hs₆ hDL hD₀, (hoC.ns NC.1).sameBut hs₆ (Ne.symm hDC), by simp [hxk, hx'], N₆⟩
    rw [List.take_add_one, hb, List.map_append]
    exact hys.snoc hy
  · refine W.done _ _ _ hst' fun h₂ tk₂ hk₂ => ?_
    rw [List.take_length] at hys
    exact hRR h₂ tk₂ _ ys (LCg.fr_but F' hk₂ hIL hI₀) (stay hn' hk₂) hx' (news_moved N' fun p hp => hk₂ _ _ fun q => (far _ p hp).1 (List.mem_singleton.mp q)) hys
end
theorem Rel2.append {α : Type} {R : α → Value → Prop} : ∀ {l vs l' vs'}, Rel2 R l vs → Rel2 R l' vs' → Rel2 R (l ++ l') (vs ++ vs')
  | _, _, _, _, .nil, h => h
  | _, _, _, _, .cons h t, h' => .cons h (Rel2.append t h')
section
variable {α β γ : Type} {prog : Program} {w : World} {A : Around} {E : Value → Shared → Prop} {s : Shared} {h₀ : Heap} {L : Addr} {m : Str → Option Value} {env : Env}
/-- what the second source of a comprehension gives: a list just made -/
def Inner (h₀ : Heap) (L : Addr) (m : Str → Option Value) (led : List (Addr × Obj)) (s₁ : Shared) (bs : List β) (R2 : β → Value → Prop) (xv : Value) (s₂ : Shared) : Prop :=
  ∃ h' tk l vs n, xv = .ref l ∧ s₂ = { s₁ with heap := h', toks := tk } ∧ Fr h₀ L h' m ∧ News h₀ L h' ((l, PySem.W.listOf vs n) :: led) ∧ (∀ p ∈ led, p.1 ≠ l) ∧ Rel2 R2 bs vs.toList
/-- both sources and the element of a comprehension over two sources -/
structure Parts2 (prog : Program) (w : World) (A : Around) (h₀ : Heap) (L : Addr) (m : Str → Option Value) (news : List (Addr × Obj)) (env : Env) (scope : Scope) (cl : List (Str × Addr)) (x k : Str) (i2 elt : PySem.Expr) (s₁ : Shared)
    (xs : List α) (R : α → Value → Prop) (bs : List β) (R2 : β → Value → Prop) (f : α → β → γ) (R' : γ → Value → Prop) : Prop where
  inner : ∀ a v I C D oI oC ys m₂ h tk E', a ∈ xs → R a v → Turn h₀ L m news x v I C D oI oC ys m₂ h →
    wpAny (model prog w) A (eval i2 (compEnvC scope cl C env)) (Inner h₀ L m ((I, oI) :: (C, oC) :: (D, LCg.lst ys) :: news) { s₁ with heap := h, toks := tk } bs R2) E' { s₁ with heap := h, toks := tk }
  elt : ∀ a b v v2 I C D l I' oI oC ol oI' ys m₂ h tk E', a ∈ xs → b ∈ bs → R a v → R2 b v2 → LCg.NsObj oC m₂ → m₂ x = some v → m₂ k = some v2 → Fr h₀ L h m → News h₀ L h ((I, oI) :: (C, oC) :: (D, LCg.lst ys) :: (l, ol) :: (I', oI') :: news) →
    wpAny (model prog w) A (eval elt (compEnvC scope cl C env)) (Kept h₀ L m ((I, oI) :: (C, oC) :: (D, LCg.lst ys) :: (l, ol) :: (I', oI') :: news) { s₁ with heap := h, toks := tk } (R' (f a b))) E' { s₁ with heap := h, toks := tk }
theorem lc2_block {elt iter i2 : PySem.Expr} {x k : Str} {px pk : Pos} {scope : Scope} {cl : List (Str × Addr)} {pos : Pos} {s₂ : Shared} {I : Addr} {fp : List Addr} {xs : List α} {R : α → Value → Prop} {bs : List β} {R2 : β → Value → Prop} {f : α → β → γ} {R' : γ → Value → Prop} {St : Nat → Heap → Prop} {news : List (Addr × Obj)}
    {RR : Value → Addr → Result → Shared → Prop}
    (W : Walks prog w A I fp [I] xs.length (fun i v => ∃ a, xs[i]? = some a ∧ R a v) St) (hh : A.handled = none) (hsz : xs.length ≤ 64) (hszb : bs.length ≤ 64) (hxk : x ≠ k) (hk : scope.names.lookup k = some .local) (hs2 : ∀ e' x, foldedSetIterable i2 e' x = pure x) (hIo : ∀ i h, St i h → ∃ o, h.get? I = some o)
    (hSt : ∀ i h h' o, St i h → h.get? I = some o → h'.get? I = some o → (∀ b o, h₀.get? b = some o → h'.get? b = some o) → News h₀ L h' news → St i h')
    (hcell : ∀ y ∈ scope.names, y.2 ≠ .cell) (hkind : scope.kind = .function) (hx : scope.names.lookup x = some .local) (hst : St 0 s₂.heap) (hfp : ∀ b ∈ fp, b < s₂.heap.objs.size)
    (F : Fr h₀ L s₂.heap m) (N : News h₀ L s₂.heap news) (hIL : L ≠ I) (hI₀ : h₀.get? I = none) (off : ∀ p ∈ news, p.1 ≠ I)
    (hP : Parts2 prog w A h₀ L m news env scope cl x k i2 elt s₂ xs R bs R2 f R')
    (hRR : ∀ D C h tk m' ys, Fr h₀ L h m → News h₀ L h ((D, LCg.lst ys) :: news) → LCg.Off1 D news → h.Ns C m' → h₀.get? C = none → h₀.get? D = none → C ≠ L → D ≠ L → C ≠ D → (∀ p ∈ news, p.1 ≠ C) → Rel2 R' (xs.flatMap fun a => bs.map (f a)) ys → RR (.ref D) C (.ok .next) { s₂ with heap := h, toks := tk }) :
    wpAny (model prog w) A (newList []) (fun acc s₃ => wpAny (model prog w) A (newFunctionEnv scope env.globals cl [] env.qual none .none (some env)) (fun cenv s₄ =>
      codeAny (model prog w) A (.compStart (.ListComp elt [⟨.Name x px, iter, [], 0⟩, ⟨.Name k pk, i2, [], 0⟩] scope pos) 0 (.ref I) acc { cenv with scope := relabel scope env }) (RR acc cenv.locals) s₄) E s₃) E s₂ := by
  refine comp_begin hcell hkind fun h₁ tk₁ C mC eC old hacc hC => ?_
  have lo : ∀ {b : Nat}, b < s₂.heap.objs.size → b ≠ C ∧ b ≠ s₂.heap.objs.size := fun h => ⟨Nat.ne_of_lt (eC ▸ Nat.lt_succ_of_lt h), Nat.ne_of_lt h⟩
  have hDC : @Ne Nat s₂.heap.objs.size C := Nat.ne_of_lt (eC ▸ Nat.lt_succ_self _)
  have hDf : s₂.heap.objs.size ∉ fp := fun q => (lo (hfp _ q)).2 rfl
  have hCf : C ∉ fp := fun q => (lo (hfp _ q)).1 rfl
  obtain ⟨hIC, hID⟩ := lo (hfp I (W.sub I (List.mem_singleton.mpr rfl)))
  obtain ⟨hLC, hLD⟩ := lo F.ns.lt
  have hD₀ : h₀.get? s₂.heap.objs.size = none := fr_new F (Nat.le_refl _)
  have hC₀ : h₀.get? C = none := fr_new F (eC ▸ Nat.le_succ _)
  have off3 : ∀ p ∈ news, p.1 ≠ I ∧ p.1 ≠ C ∧ p.1 ≠ s₂.heap.objs.size := fun p hp => ⟨off p hp, lo (Heap.lt_size (N p hp).1)⟩
  have N₁ : News h₀ L h₁ ((s₂.heap.objs.size, LCg.lst []) :: news) := news_put ⟨hacc, Ne.symm hLD, hD₀⟩ (N.grown old)
  have hst₁ : St 0 h₁ := W.frame _ _ _ hst fun b _ => old b
  revert hDC hDf hID hLD hD₀ off3 N₁
  clear hacc
  generalize s₂.heap.objs.size = D at lo ⊢
  intro hDC hDf hID hLD hD₀ off3 N₁
  have far : ∀ ys, ∀ p ∈ (D, LCg.lst ys) :: news, p.1 ≠ I ∧ p.1 ≠ C := fun ys p hp => by
    cases hp with
    | head => exact ⟨Ne.symm hID, hDC⟩
    | tail _ hp => exact ⟨(off3 p hp).1, (off3 p hp).2.1⟩
  have stay : ∀ {h h' : Heap} {m' : Str → Option Value}, h.Ns C m' → (∀ b o, b ∉ [I] → h.get? b = some o → h'.get? b = some o) → h'.Ns C m' := fun hn k => hn.at' fun o e => k C o (fun q => hIC (List.mem_singleton.mp q).symm) e
  have loop : codeAny (model prog w) A (.compLoop (.ListComp elt [⟨.Name x px, iter, [], 0⟩, ⟨.Name k pk, i2, [], 0⟩] scope pos) 0 (.ref I) (.ref D) (compEnvC scope cl C env)) (RR (.ref D) C) { s₂ with heap := h₁, toks := tk₁ } := by
    refine two0_loop (hs := hs2 _)
      (fun k s' => ∃ h' tk i ys m', s' = { s₂ with heap := h', toks := tk } ∧ i ≤ xs.length ∧ k = xs.length + 1 - i ∧ Rel2 R' ((xs.take i).flatMap fun a => bs.map (f a)) ys ∧ St i h' ∧ Fr h₀ L h' m ∧ h'.Ns C m' ∧ News h₀ L h' ((D, LCg.lst ys) :: news)) ?_ (xs.length + 1)
      ⟨h₁, tk₁, 0, [], mC, rfl, Nat.zero_le _, rfl, .nil, hst₁, F.keeps old, hC, N₁⟩
    rintro k s' ⟨h', tk, i, ys, m', rfl, hi, rfl, hys, hst', F', hn', N'⟩
    rcases Nat.lt_or_eq_of_le hi with hlt | rfl
    · refine W.item i _ _ _ hlt hst' fun v h₂ tk₂ ⟨a, ha, hRa⟩ hst₂ hk₂ => wpAny_assign_Name (wpAny_storeName_local (lookup_relabel_local hx) (stay hn' hk₂) (fun h₃ hn₃ hs₃ => ?_) (by simp [compEnvC, relabel, hkind]))
      have hst₃ : St (i + 1) h₃ := W.frame _ _ _ hst₂ fun b hb o => hs₃.extBut b o (fun q => hCf (Eq.mp (congrArg (· ∈ fp) q) hb))
      obtain ⟨oI, heI⟩ := hIo _ _ hst₃
      obtain ⟨oC, hoC, F₃, N₃⟩ := turn_led F' N' hk₂ hs₃ hn₃ heI ⟨Ne.symm hIL, hI₀⟩ ⟨Ne.symm hLC, hC₀⟩ (far _)
      have ham : a ∈ xs := List.mem_of_getElem? ha
      have htake : xs.take (i + 1) = xs.take i ++ [a] := by rw [List.take_add_one, ha]; rfl
      refine wpAny_mono (hP.inner a v I C D oI oC ys _ h₃ _ _ ham hRa ⟨hoC, by simp, F₃, N₃, LCg.Off3.of off3, hIC, hID, Ne.symm hDC⟩) (fun xv s₄ h₄ => ?_) fun _ _ z => z
      obtain ⟨h₄, tk₄, l, vs, n, rfl, rfl, F₄, N₄, offl, hbs⟩ := h₄
      have zI := (N₄ (I, oI) (List.mem_cons_of_mem _ List.mem_cons_self)).1
      have zC := (N₄ (C, oC) (List.mem_cons_of_mem _ (List.mem_cons_of_mem _ List.mem_cons_self))).1
      have zl := (N₄ (l, PySem.W.listOf vs n) List.mem_cons_self)
      have hls : h₄.IsList l vs := ⟨_, zl.1, rfl, n, rfl⟩
      have hlt4 : l < h₄.objs.size := Heap.lt_size zl.1
      have hIlt4 : I < h₄.objs.size := Heap.lt_size zI
      have hClt4 : C < h₄.objs.size := Heap.lt_size zC
      have hDlt4 : D < h₄.objs.size := Heap.lt_size (N₄ (D, LCg.lst ys) (List.mem_cons_of_mem _ (List.mem_cons_of_mem _ (List.mem_cons_of_mem _ List.mem_cons_self)))).1
      have hlI : l ≠ I := Ne.symm (offl (I, oI) List.mem_cons_self)
      have hlC : l ≠ C := Ne.symm (offl (C, oC) (List.mem_cons_of_mem _ List.mem_cons_self))
      have hlD : l ≠ D := Ne.symm (offl (D, LCg.lst ys) (List.mem_cons_of_mem _ (List.mem_cons_of_mem _ List.mem_cons_self)))
      have hl0 : h₀.get? l = none := zl.2.2
      have hvl : vs.size = bs.length := by rw [← Array.length_toList]; exact hbs.length
      have hyl : ys.length ≤ 64 * 64 := by
        have e1 := hys.length
        have e2 : ∀ zs : List α, (zs.flatMap fun a => bs.map (f a)).length = zs.length * bs.length := fun zs => by
          induction zs with
          | nil => simp
          | cons z zs ih => rw [List.flatMap_cons, List.length_append, ih, List.length_map, List.length_cons, Nat.succ_mul]; omega
        have e3 : (xs.take i).length ≤ 64 := Nat.le_trans (List.length_take_le' _ _) hsz
        rw [e1, e2]
        exact Nat.mul_le_mul e3 hszb
      refine wpAny_pyIter_list hls ?_
      show codeAny (model prog w) A _ _ _
      have up₄ : ∀ b o, h₄.get? b = some o → (h₄.push { cls := .type "list_iterator", data := .fields #[.ref l, .int 0 0] }).get? b = some o := fun b o e => Heap.get?_push_of_some _ e
      have W₂ := Walks.list (prog := prog) (w := w) hh h₄.objs.size l (Nat.ne_of_lt hlt4) vs
      have st0 : (h₄.push { cls := .type "list_iterator", data := .fields #[.ref l, .int 0 0] }).IsListIter h₄.objs.size l 0 ∧ (h₄.push { cls := .type "list_iterator", data := .fields #[.ref l, .int 0 0] }).IsList l vs := ⟨⟨_, Heap.get?_push_size _ rfl, rfl, rfl⟩, hls.push _⟩
      have hI40 : h₀.get? h₄.objs.size = none := next_is_new F₄
      have N₅ : News h₀ L h₄ ((D, LCg.lst ys) :: (l, PySem.W.listOf vs n) :: (I, oI) :: news) := fun p hp => by
        refine N₄ p ?_
        simp only [List.mem_cons] at hp ⊢
        rcases hp with h | h | h | h
        · exact .inr (.inr (.inr (.inl h)))
        · exact .inl h
        · exact .inr (.inl h)
        · exact .inr (.inr (.inr (.inr h)))
      have key := lc2_inner (prog := prog) (w := w) (A := A) (s₂ := { s₂ with heap := h₄.push { cls := .type "list_iterator", data := .fields #[.ref l, .int 0 0] }, toks := tk₄ }) (h₀ := h₀) (L := L) (m := m) (elt := elt) (t1 := .Name x px) (i1 := iter) (i2 := i2) (x := x) (k := k) (pk := pk) (scope := scope) (cl := cl) (env := env) (pos := pos)
        (I := h₄.objs.size) (C := C) (D := D) (m₀ := fun y => if y = x then some v else m' y) (v := v) (news := (l, PySem.W.listOf vs n) :: (I, oI) :: news) (ys₀ := ys) (bs := bs) (R2 := R2) (f := f a) (R' := R')
        (RR := fun r s₅ => (match r with | .ok _ => (∃ k, k < xs.length + 1 - i ∧ ∃ h' tk i ys m', s₅ = { s₂ with heap := h', toks := tk } ∧ i ≤ xs.length ∧ k = xs.length + 1 - i ∧ Rel2 R' ((xs.take i).flatMap fun a => bs.map (f a)) ys ∧ St i h' ∧ Fr h₀ L h' m ∧ h'.Ns C m' ∧ News h₀ L h' ((D, LCg.lst ys) :: news)) | .error e => cameBackBy (model prog w) A (compEnvC scope cl C env) (notedBy (model prog w) A (compEnvC scope cl C env) fun e s' => RR (.ref D) C (.error e) s') e s₅))
        (hvl ▸ walks_p W₂ fun i v _ hv => hbs.get (by simpa using hv)) (by rw [sizeLine_eq]; omega) (fun i h st => by obtain ⟨o, e, _⟩ := st.1; exact ⟨o, e⟩)
        (fun i h h' o st e e' _ N' => by
          obtain ⟨o', q, r⟩ := st.1
          rw [e] at q; cases q
          exact ⟨⟨o, e', r⟩, ⟨_, (N' _ List.mem_cons_self).1, rfl, n, rfl⟩⟩)
        hkind hk hxk st0
        (fun hm => by rcases List.mem_cons.mp hm with e | hm; exact absurd hClt4 (by rw [e]; exact Nat.lt_irrefl _); exact hlC (List.mem_singleton.mp hm).symm)
        (fun hm => by rcases List.mem_cons.mp hm with e | hm; exact absurd hDlt4 (by rw [e]; exact Nat.lt_irrefl _); exact hlD (List.mem_singleton.mp hm).symm)
        (F₄.keeps up₄) (hoC.ns (up₄ _ _ zC)) (by simp) (N₅.grown up₄) (Nat.ne_of_lt F₄.ns.lt) hI40 hC₀ hD₀ (Ne.symm hLC) (Ne.symm hLD) (Nat.ne_of_gt hClt4) (Nat.ne_of_gt hDlt4) hDC
        (fun p hp => by
          rcases List.mem_cons.mp hp with rfl | hp
          · exact ⟨Nat.ne_of_lt hlt4, hlC, hlD⟩
          · rcases List.mem_cons.mp hp with rfl | hp
            · exact ⟨Nat.ne_of_lt hIlt4, hIC, hID⟩
            · exact ⟨Nat.ne_of_lt (Heap.lt_size (N₄ p (List.mem_cons_of_mem _ (List.mem_cons_of_mem _ (List.mem_cons_of_mem _ (List.mem_cons_of_mem _ hp))))).1), (off3 p hp).2⟩)
        (fun b v2 oI2 oC2 ys2 m₂ h tk E' hb hR2 hoC2 hx2 hk2 F N => hP.elt a b v v2 h₄.objs.size C D l I oI2 oC2 _ oI ys2 m₂ h tk E' ham hb hRa hR2 hoC2 hx2 hk2 F N)
        (fun h tk m₂ ys2 F hn _ N hys2 => by
          have zI2 := (N (I, oI) (List.mem_cons_of_mem _ (List.mem_cons_of_mem _ List.mem_cons_self))).1
          have N' : News h₀ L h ((D, LCg.lst (ys ++ ys2)) :: news) := fun p hp => by
            rcases List.mem_cons.mp hp with rfl | hp
            · exact N _ List.mem_cons_self
            · exact N p (List.mem_cons_of_mem _ (List.mem_cons_of_mem _ (List.mem_cons_of_mem _ hp)))
          refine ⟨xs.length + 1 - (i + 1), by omega, h, tk, i + 1, ys ++ ys2, m₂, rfl, hlt, rfl, ?_, hSt _ _ _ _ hst₃ heI zI2 F.keep fun p hp => N' p (List.mem_cons_of_mem _ hp), F, hn, N'⟩
          rw [htake, List.flatMap_append]
          simpa using hys.append hys2)
      exact compStart_one key (W₂.self 0 _ _ _ st0 key)
    · refine W.done _ _ _ hst' fun h₂ tk₂ hk₂ => ?_
      rw [List.take_length] at hys
      exact hRR _ _ h₂ tk₂ _ ys (LCg.fr_but F' hk₂ hIL hI₀) (news_moved N' fun p hp => hk₂ _ _ fun q => (far _ p hp).1 (List.mem_singleton.mp q)) (LCg.Off3.of off3).one (stay hn' hk₂) hC₀ hD₀ (Ne.symm hLC) (Ne.symm hLD) (Ne.symm hDC) (fun p hp => (off3 p hp).2.1) hys
  exact codeAny_compStart_list loop (W.self 0 _ _ _ hst₁ loop)

/-- a comprehension over two sources, as a value -/
def CompAny2 (prog : Program) (w : World) (A : Around) (h₀ : Heap) (L : Addr) (env : Env) (scope : Scope) (cl : List (Str × Addr)) (x k : Str) (i2 elt : PySem.Expr)
    (Fin : (Str → Option Value) → List (Addr × Obj) → Shared → (List Value → Prop) → Prop) (xv : Value) (s₁ : Shared) : Prop :=
  ∃ (α β γ : Type) (xs : List α) (R : α → Value → Prop) (bs : List β) (R2 : β → Value → Prop) (f : α → β → γ) (R' : γ → Value → Prop) (m : Str → Option Value) (news : List (Addr × Obj)),
    Fr h₀ L s₁.heap m ∧ News h₀ L s₁.heap news ∧ SrcOk prog w A h₀ L news xv s₁ xs R ∧ xs.length ≤ 64 ∧ bs.length ≤ 64 ∧ Parts2 prog w A h₀ L m news env scope cl x k i2 elt s₁ xs R bs R2 f R' ∧ Fin m news s₁ (Rel2 R' (xs.flatMap fun a => bs.map (f a)))
theorem lc2_eval {elt iter i2 : PySem.Expr} {x k : Str} {px pk : Pos} {scope : Scope} {cl : List (Str × Addr)} {pos : Pos} {Q : Value → Shared → Prop}
    (hclos : closureFor scope env = pure cl) (hcell : ∀ y ∈ scope.names, y.2 ≠ .cell) (hkind : scope.kind = .function)
    (hnames : ∀ y ∈ scope.names, y.2 = .local → scope.names.lookup y.1 = some .local) (hx : scope.names.lookup x = some .local) (hk : scope.names.lookup k = some .local) (hxk : x ≠ k) (hh : A.handled = none)
    (h : wpAny (model prog w) A (eval iter env) (CompAny2 prog w A h₀ L env scope cl x k i2 elt (FinEv h₀ L Q)) E s)
    (hs : ∀ x, foldedSetIterable iter env x = pure x := by intro _; rfl) (hs2 : ∀ e' x, foldedSetIterable i2 e' x = pure x := by intro _ _; rfl) :
    wpAny (model prog w) A (eval (.ListComp elt [⟨.Name x px, iter, [], 0⟩, ⟨.Name k pk, i2, [], 0⟩] scope pos) env) Q E s := by
  rw [eval_ListComp]
  refine wpAny_comprehension_free (use := none) rfl hs hclos hkind hnames (wpAny_mono h (fun xv s₁ h₁ => ?_) fun _ _ e => e)
  obtain ⟨α, β, γ, xs, R, bs, R2, f, R', m, news, F, N, hsrc, hsz, hszb, hP, fin⟩ := h₁
  refine hsrc _ _ fun oI fp St hfree W hfp hst hIo hSt => ?_
  have up : ∀ b o, s₁.heap.get? b = some o → (s₁.heap.push oI).get? b = some o := fun b o e => Heap.get?_push_of_some _ e
  refine lc2_block W hh hsz hszb hxk hk hs2 hIo hSt hcell hkind hx hst (fun b hb => by rw [Heap.size_push]; exact hfp b hb) (F.keeps up) (N.grown up) (Nat.ne_of_lt F.ns.lt) (next_is_new F) (fun p hp => Nat.ne_of_lt (Heap.lt_size (N p hp).1)) (bs := bs) (R2 := R2) (f := f) (R' := R') ⟨hP.inner, hP.elt⟩ ?_
  exact fun D C g tk m' ys F' N' o1 hn c0 _ cL _ cD oc r => ⟨m', hn, fun g' sb => fin D g' tk ys (F'.change sb cL c0) (news_other N' sb cD oc) o1 r⟩
end
theorem signs_con {w : World} {s : Shared} : Con w 188 [] [] 1 s (fun _ r => ∃ t, r = .str (Str.ofString "ABCDEFGHIJKLMNOPQRSTUVWXYZabcdefghijklmnopqrstuvwxyz0123456789+/") t) := by
  have hz : PySem.Challenge.rw_rt0036_01 = PySem.Challenge.rw_rt0036_01 := rfl
  unfold Con
  revert hz
  k_fill
  intro _ dp un gd outer base mean mg mb Q E B X T hd hu hQ
  refine wpAny_call ?_
  refine enter_def (binds := []) B X T (by k_is) (by k_is) (rm0 hd) (BindsTo.of_eq rfl) (locs rfl) (fun L h₁ hL F N => ?_) rfl rfl rfl (by decide)
  dsimp only
  k_fold
  k_steps
  (rename Fr _ _ _ _ => Fx)
  exact hQ _ _ _ Fx.keep ⟨_, rfl⟩
def natStr (k : Nat) : Str := Str.ofString (toString ((k : Nat) : Int))
def dots : Str := Str.ofString ".."
def dot : Str := Str.ofString "."
theorem tup_sub {prog : Program} {w : World} {A : Around} {E : Value → Shared → Prop} {s : Shared} {value slice : PySem.Expr} {t : Addr} {items : Array Value} {k : Int} {u : Tok} {j : Nat} {x : Value} {Q : Value → Shared → Prop} (ht : s.heap.get? t = some { cls := .type "tuple", data := .seq items }) (e : k = (j : Int)) (hj : j < 1000) (hx : items[j]? = some x) (h : Q x s)
    (hs : subscripted slice false (.ref t) (.int k u) = operate [.ref t, .int k u] (getItem (.ref t) (.int k u)) := by with_unfolding_all rfl) : wpAny (model prog w) A (subscriptTail value slice (.ref t) (.int k u)) Q E s := by
  subst e
  have hlt : j < items.size := (Array.getElem?_eq_some_iff.mp hx).1
  have ht' : IsTup s.heap t items := ⟨_, ht, rfl, _, rfl⟩
  exact tail_any ht'.typeIs slot_tuple_getitem.lookup (getItem_tuple ht' (by omega) (by omega) (j := j) (by simp [seqIndex?]; omega) hx h) hs
theorem over5 {m : Str → Option Value} {a b c d e : Str} {u1 u2 u3 u4 u5 : Option Value} (h1 : m a = u1) (h2 : m b = u2) (h3 : m c = u3) (h4 : m d = u4) (h5 : m e = u5) : m = over (over (over (over (over m a u1) b u2) c u3) d u4) e u5 := by
  rw [over_eq h1, over_eq h2, over_eq h3, over_eq h4, over_eq h5]
theorem two_names (a : Str) : (![Str.ofString "..", Str.ofString "."].any fun x => x == a) = !(a == dots || a == dot) := by
  rw [List.any_cons, List.any_cons, List.any_nil, Bool.or_false]
  show (!((dots == a) || (dot == a))) = _
  rw [Bool.beq_comm (a := dots), Bool.beq_comm (a := dot)]
def stepLess (size : Nat) (st : List Int × Int) (k : Nat) : List Int × Int := (st.1 ++ [st.2 - 2 ^ (size - 1 - k)], st.2 - 2 ^ (size - 1 - k))
def stepMore (size : Nat) (st : List Int × Int) (k : Nat) : List Int × Int := (st.1 ++ [st.2 + 2 ^ (size - 1 - k)], st.2 + 2 ^ (size - 1 - k))
/-- the row of a set: it, then those met as the things are taken out, then those met as the others are put in -/
def rowOf (number : Int) (size : Nat) (ks js : List Nat) : List Int := (js.foldl (stepMore size) ((ks.foldl (stepLess size) ([number], number)).1, number)).1
theorem stepMore_len (size : Nat) : ∀ (l : List Nat) (st : List Int × Int), (l.foldl (stepMore size) st).1.length = st.1.length + l.length
  | [], st => rfl
  | k :: l, st => by rw [List.foldl_cons, stepMore_len size l]; simp [stepMore]; omega
theorem stepLess_len (size : Nat) : ∀ (l : List Nat) (st : List Int × Int), (l.foldl (stepLess size) st).1.length = st.1.length + l.length
  | [], st => rfl
  | k :: l, st => by rw [List.foldl_cons, stepLess_len size l]; simp [stepLess]; omega
theorem row_con {w : World} {s : Shared} {number : Int} {tn ts t0 t1 t2 : Tok} {size : Nat} {p : Addr} {x0 x1 x2 : Str} (ht : s.heap.get? p = some { cls := .type "tuple", data := .seq #[.str x0 t0, .str x1 t1, .str x2 t2] }) (hsz : size ≤ 24) (hn0 : 0 ≤ number) (hb : number < 2 ^ 24) (hl1 : x1.length ≤ 512) (hl2 : x2.length ≤ 512) {ks js : List Nat} (hkl : ks.length ≤ 24) (hjl : js.length ≤ 24) (hks : ∀ k ∈ ks, k < size) (hjs : ∀ k ∈ js, k < size) (hk1 : (Txt.split x1 (Str.ofString "/")).filter (fun n => !(n == dots || n == dot)) = ks.map natStr)
    (hk2 : (Txt.split x2 (Str.ofString "/")).filter (fun n => !(n == dots || n == dot)) = js.map natStr) :
    Con w 208 [.int number tn, .ref p, .int (size : Int) ts] [] 1 s (fun h r => ∃ c vs n, r = .ref c ∧ h.get? c = some (PySem.W.listOf vs n) ∧ s.heap.get? c = none ∧ IntsAre vs.toList (rowOf number size ks js)) := by
  have hz : PySem.Challenge.rw_rt0036_01 = PySem.Challenge.rw_rt0036_01 := rfl
  unfold Con
  revert hz
  k_fill
  intro _ dp un gd outer base mean mg mb Q E B X T hd hu hQ
  refine wpAny_call ?_
  refine enter_def (binds := [(Str.ofString "number", .int number tn), (Str.ofString "told", .ref p), (Str.ofString "size", .int (size : Int) ts)]) B X T (by k_is) (by k_is) (rm0 hd) (BindsTo.of_eq rfl) (locs rfl) (fun L h₁ hL F N => ?_) rfl rfl rfl (by decide)
  dsimp only
  k_fold
  k_steps
  refine Halt.go (for_src (h₀ := s.heap) rfl rfl ?_)
  k_steps
  refine Halt.go (lc_eval (h₀ := s.heap) (L := L) rfl (by decide) rfl (by decide) rfl ?_)
  k_steps
  refine tup_sub (j := 1) (x := .str x1 t1) (by rename Fr _ _ _ _ => Fx; exact Fx.keep _ _ ht) rfl (by decide) rfl ?_
  k_steps
  (rename News _ _ _ _ => N₁; rename Fr _ _ _ _ => F₁)
  rename List.map _ _ = Txt.split x1 _ => hsp
  rename StrsAre _ _ => hst
  rw [hsp] at hst
  have hlen := split_le x1 (Str.ofString "/")
  refine CompAny.tested (R := RStr) (Txt.split x1 (Str.ofString "/")) (fun n => !(n == dots || n == dot)) id RStr F₁ N₁ (src_list rfl F₁ N₁ (.inr (.head _)) rfl rfl (Rel2.ofStrs hst)) (by rw [sizeLine_eq]; omega) ?_ ?_ ?_
  · rintro a v I' C D oI' oC ys m₂ h' tk' E' ha' ⟨ta, rfl⟩ ⟨hns, hat, F₃, N₃, hoff, hne⟩
    k_fold
    k_steps
    (rename News _ _ _ _ => Nx; rename Fr _ _ _ _ => Fx)
    refine Kept.intro Fx Nx ?_ ?_
    · exact fun p hp => .tail _ hp
    · exact two_names a
  · rintro a v I' C D oI' oC ys m₂ h' tk' E' ha' hka ⟨ta, rfl⟩ ⟨hns, hat, F₃, N₃, hoff, hne⟩
    show wpAny _ _ _ _ _ _
    k_fold
    k_steps
    exact Kept.intro F₃ N₃ (fun p hp => hp) ⟨_, rfl⟩
  · intro D h tk ys F N o1 hys
    simp only [LCg.Off1, and_true] at o1
    rw [List.map_id, hk1] at hys
    clear N₁ F₁
    refine ForAt.intro (R := RStr) (ks.map natStr) [(D, LCg.lst ys)] (fun i m₁ news₁ => ∃ r vs n aI tA, m₁ (Str.ofString "row") = some (.ref r) ∧ m₁ (Str.ofString "less") = some (.int aI tA) ∧ m₁ (Str.ofString "size") = some (.int (size : Int) ts) ∧ m₁ (Str.ofString "told") = some (.ref p) ∧ m₁ (Str.ofString "more") = some (.int number tn) ∧
      news₁ = [(r, PySem.W.listOf vs n), (D, LCg.lst ys)] ∧ @Ne Nat r D ∧ IntsAre vs.toList ((ks.take i).foldl (stepLess size) ([number], number)).1 ∧ aI = ((ks.take i).foldl (stepLess size) ([number], number)).2)
      F (news_two N (by walk_at "mem") (by walk_at "mem")) (src_list rfl F (news_one N (by walk_at "mem")) (.inr (.head _)) rfl rfl hys) (fun i m₁ n₁ ⟨r, vs, n, aI, tA, h⟩ p hp => by rw [h.2.2.2.2.2.1, List.mem_singleton.mp hp]; exact .tail _ (.head _)) ⟨_, #[.int number tn], 0, _, _, rfl, rfl, rfl, rfl, rfl, rfl, o1.2.2, .cons _ _ .nil, rfl⟩ ?_ ?_
    · rintro i a v m₁ news₁ h tk2 I oI ha ⟨tv, rfl⟩ ⟨r, vs, n, _, tA, e1, e2, e3, e4, e5, rfl, hrD, hvs, rfl⟩ F N hI
      rw [List.getElem?_map] at ha
      obtain ⟨k, hk, rfl⟩ := Option.map_eq_some_iff.mp ha
      have hk2 := hks k (List.mem_of_getElem? hk)
      change Fr s.heap L h _ at F
      change News s.heap L h _ at N
      rw [over5 e1 e2 e3 e4 e5] at F
      have hI1 : @Ne Nat r I := hI _ (.head _)
      have hI2 : @Ne Nat D I := hI _ (.tail _ (.head _))
      unfold natStr at F
      have hvz : vs.size ≤ 30 := by
        have a1 := hvs.length
        rw [stepLess_len] at a1
        simp at a1; omega
      show wpAny _ _ _ _ _ _
      k_fold
      k_steps
      (rename News _ _ _ _ => Nx; rename Fr _ _ _ _ => Fx)
      refine ⟨_, _, _, [(_, PySem.W.listOf _ _), (_, LCg.lst _)], rfl, Fx, Nx, ne2 hI1 hI2, _, _, _, _, _, rfl, rfl, rfl, rfl, rfl, rfl, hrD, ?_, ?_⟩
      · rw [fold_next hk, Array.toList_push]
        have e : ((size : Int) - 1 - k).toNat = size - 1 - k := by omega
        rw [Int.one_mul, e]
        exact hvs.append (.cons _ _ .nil)
      · rw [fold_next hk]
        have e : ((size : Int) - 1 - k).toNat = size - 1 - k := by omega
        rw [Int.one_mul, e]; rfl
    · rintro m₁ news₁ h tk2 ⟨r, vs, n, _, tA, e1, e2, e3, e4, e5, rfl, hrD, hvs, rfl⟩ F N
      rw [List.length_map, List.take_length] at hvs
      change Fr s.heap L h _ at F
      change News s.heap L h _ at N
      rw [over5 e1 e2 e3 e4 e5] at F
      show wpAny _ _ _ _ _ _
      k_steps
      refine Halt.go (for_src (h₀ := s.heap) rfl rfl ?_)
      k_steps
      refine Halt.go (lc_eval (h₀ := s.heap) (L := L) rfl (by decide) rfl (by decide) rfl ?_)
      k_steps
      refine tup_sub (j := 2) (x := .str x2 t2) (by rename Fr _ _ _ _ => Fx; exact Fx.keep _ _ ht) rfl (by decide) rfl ?_
      k_steps
      (rename News _ _ _ _ => N₁; rename Fr _ _ _ _ => F₁)
      rename List.map _ _ = Txt.split x2 _ => hsp2
      rename StrsAre _ (List.map _ _) => hst2
      rw [hsp2] at hst2
      have hlen2 := split_le x2 (Str.ofString "/")
      refine CompAny.tested (R := RStr) (Txt.split x2 (Str.ofString "/")) (fun n => !(n == dots || n == dot)) id RStr F₁ N₁ (src_list rfl F₁ N₁ (.inr (.head _)) rfl rfl (Rel2.ofStrs hst2)) (by rw [sizeLine_eq]; omega) ?_ ?_ ?_
      · rintro a v I' C D oI' oC ys m₂ h' tk' E' ha' ⟨ta, rfl⟩ ⟨hns, hat, F₃, N₃, hoff, hne⟩
        k_fold
        k_steps
        (rename News _ _ _ _ => Nx; rename Fr _ _ _ _ => Fx)
        exact Kept.intro Fx Nx (fun p hp => .tail _ hp) (two_names a)
      · rintro a v I' C D oI' oC ys m₂ h' tk' E' ha' hka ⟨ta, rfl⟩ ⟨hns, hat, F₃, N₃, hoff, hne⟩
        show wpAny _ _ _ _ _ _
        k_fold
        k_steps
        exact Kept.intro F₃ N₃ (fun p hp => hp) ⟨_, rfl⟩
      · intro D2 h tk ys2 F N o2 hys2
        simp only [LCg.Off1, and_true] at o2
        rw [List.map_id, hk2] at hys2
        clear N₁ F₁
        have hr2 : @Ne Nat r D2 := by first | exact o2.2.1 | exact o2.1 | exact o2.2.2 | (have := o2; omega)
        refine ForAt.intro (R := RStr) (js.map natStr) [(D2, LCg.lst ys2)] (fun i m₁ news₁ => ∃ r vs n aI tA, m₁ (Str.ofString "row") = some (.ref r) ∧ m₁ (Str.ofString "more") = some (.int aI tA) ∧ m₁ (Str.ofString "size") = some (.int (size : Int) ts) ∧
          news₁ = [(r, PySem.W.listOf vs n), (D2, LCg.lst ys2)] ∧ @Ne Nat r D2 ∧ IntsAre vs.toList ((js.take i).foldl (stepMore size) ((ks.foldl (stepLess size) ([number], number)).1, number)).1 ∧ aI = ((js.take i).foldl (stepMore size) ((ks.foldl (stepLess size) ([number], number)).1, number)).2)
          F (news_two N (by walk_at "mem") (by walk_at "mem")) (src_list rfl F (news_one N (by walk_at "mem")) (.inr (.head _)) rfl rfl hys2) (fun i m₁ n₁ ⟨r, vs, n, aI, tA, h⟩ p hp => by rw [h.2.2.2.1, List.mem_singleton.mp hp]; exact .tail _ (.head _)) ⟨r, vs, n, _, _, rfl, rfl, rfl, rfl, hr2, hvs, rfl⟩ ?_ ?_
        · rintro i a v m₁ news₁ h tk2 I oI ha ⟨tv, rfl⟩ ⟨r, vs, n, _, tA, e1, e2, e3, rfl, hrD, hvs, rfl⟩ F N hI
          rw [List.getElem?_map] at ha
          obtain ⟨k, hk, rfl⟩ := Option.map_eq_some_iff.mp ha
          have hkk := hjs k (List.mem_of_getElem? hk)
          change Fr s.heap L h _ at F
          change News s.heap L h _ at N
          rw [over3 e1 e2 e3] at F
          have hI1 : @Ne Nat r I := hI _ (.head _)
          have hI2 : @Ne Nat D2 I := hI _ (.tail _ (.head _))
          unfold natStr at F
          have hvz : vs.size ≤ 60 := by
            have a1 := hvs.length
            rw [stepMore_len, stepLess_len] at a1
            simp at a1; omega
          show wpAny _ _ _ _ _ _
          k_fold
          k_steps
          (rename News _ _ _ _ => Nx; rename Fr _ _ _ _ => Fx)
          refine ⟨_, _, _, [(_, PySem.W.listOf _ _), (_, LCg.lst _)], rfl, Fx, Nx, ne2 hI1 hI2, _, _, _, _, _, rfl, rfl, rfl, rfl, hrD, ?_, ?_⟩
          · rw [fold_next hk, Array.toList_push]
            have e : ((size : Int) - 1 - k).toNat = size - 1 - k := by omega
            rw [Int.one_mul, e]
            exact hvs.append (.cons _ _ .nil)
          · rw [fold_next hk]
            have e : ((size : Int) - 1 - k).toNat = size - 1 - k := by omega
            rw [Int.one_mul, e]; rfl
        · rintro m₁ news₁ h tk2 ⟨r, vs, n, _, tA, e1, e2, e3, rfl, hrD, hvs, rfl⟩ F N
          rw [List.length_map, List.take_length] at hvs
          change Fr s.heap L h _ at F
          change News s.heap L h _ at N
          rw [over3 e1 e2 e3] at F
          show wpAny _ _ _ _ _ _
          k_steps
          (rename News _ _ _ _ => Nx; rename Fr _ _ _ _ => Fx)
          exact hQ _ _ _ Fx.keep ⟨r, vs, n, rfl, Nx.get (.head _), Nx.fresh (.head _), hvs⟩
theorem fm_map {α β : Type} {f : α → Option β} {g : α → β} : ∀ (l : List α), (∀ k ∈ l, f k = some (g k)) → l.filterMap f = l.map g
  | [], _ => rfl
  | a :: l, h => by rw [List.filterMap_cons, h a (.head _), List.map_cons, fm_map l fun k hk => h k (.tail _ hk)]
theorem rep_fold {vs : List Value} (hne : vs ≠ []) : ∀ (k : Nat) (a : Array Value), List.foldl (fun x1 x2 => x1 ++ x2) a (List.replicate k vs.toArray) = a ++ (List.replicate k vs).flatten.toArray
  | 0, a => by simp
  | k + 1, a => by
    rw [List.replicate_succ, List.foldl_cons, rep_fold hne k, List.replicate_succ, List.flatten_cons]
    simp
theorem slicePick_rev (vs : List Value) : slicePick vs.toArray none none (some (-1)) = vs.reverse.toArray := by
  unfold slicePick
  congr 1
  have hb : sliceBounds none none (some (-1)) vs.toArray.size = ((vs.length : Int) - 1, -1, -1) := by
    simp [sliceBounds]
  rw [hb]
  unfold sliceRange
  have hc : (if (-1 : Int) > 0 then (if ((vs.length : Int) - 1) < -1 then ((-1 : Int) - ((vs.length : Int) - 1) + -1 - 1) / -1 else 0) else (if ((vs.length : Int) - 1) > -1 then (((vs.length : Int) - 1) - (-1) - (-1) - 1) / (-(-1)) else 0)) = (vs.length : Int) := by
    rw [if_neg (by decide)]
    split
    · rw [show (-(-1 : Int)) = 1 by decide, Int.ediv_one]; omega
    · omega
  show (List.map _ (List.range (Int.toNat (if (-1 : Int) > 0 then _ else _)))).filterMap _ = _
  rw [hc, Int.toNat_natCast]
  rw [List.filterMap_map]
  have hall : ∀ k ∈ List.range vs.length, ((fun x : Nat => vs.toArray[x]?) ∘ fun (k : Nat) => ((vs.length : Int) - 1 + -1 * (k : Int)).toNat) k = some ((fun k => vs.getD (vs.length - 1 - k) .none) k) := fun k hk => by
    have := List.mem_range.mp hk
    show vs.toArray[((vs.length : Int) - 1 + -1 * (k : Int)).toNat]? = some (vs.getD (vs.length - 1 - k) .none)
    rw [show ((vs.length : Int) - 1 + -1 * (k : Int)).toNat = vs.length - 1 - k by omega]
    rw [List.getD_eq_getElem?_getD]
    simp
    rw [List.getElem?_eq_getElem (by omega)]; rfl
  refine (fm_map _ hall).trans ?_
  apply List.ext_getElem
  · simp
  · intro i h1 h2
    have hi : i < vs.length := by simpa using h1
    rw [List.getElem_map, List.getElem_range, List.getElem_reverse, List.getD_eq_getElem?_getD, List.getElem?_eq_getElem (by omega)]; rfl
section
variable {prog : Program} {w : World} {A : Around} {E : Value → Shared → Prop} {s : Shared} {h₀ : Heap} {L l b : Addr} {m : Str → Option Value} {news : List (Addr × Obj)}
theorem mul_own {vs : List Value} {n : Nat} {x : Int} {u : Tok} {Q : Value → Shared → Prop} (F : Fr h₀ L s.heap m) (N : News h₀ L s.heap news) (hm : (l, PySem.W.listOf vs.toArray n) ∈ news) (hne : vs ≠ []) (h0 : 0 ≤ x) (hx : x ≤ 100) (hz : vs.length ≤ 1000)
    (h : ∀ r h', Fr h₀ L h' m → News h₀ L h' ((r, PySem.W.listOf (List.replicate x.toNat vs).flatten.toArray 0) :: news) → (∀ p ∈ news, p.1 < r) → Q (.ref r) { s with heap := h' }) : wpAny (model prog w) A (binaryOp .Mult (.ref l) (.int x u)) Q E s := by
  refine mul_list F N (N _ hm).1 (by omega) (by omega) ?_ fun h' F' N' => h _ h' F' ?_ fun p hp => Heap.lt_size (N p hp).1
  · rw [List.size_toArray]
    exact Nat.le_trans (Nat.mul_le_mul hz (show x.toNat ≤ 100 by omega)) (by decide)
  · have e : vs.toArray.isEmpty = false := by cases vs with | nil => exact absurd rfl hne | cons a r => rfl
    rw [e, if_neg (by decide), rep_fold hne] at N'
    simpa using N'
theorem slice_own {value slice : PySem.Expr} {vs ws : List Value} {n : Nat} {vl vu vk : Value} {lo hi st : Option Int} {ops : List Value} {Q : Value → Shared → Prop} (F : Fr h₀ L s.heap m) (N : News h₀ L s.heap news) (hm : (l, PySem.W.listOf vs.toArray n) ∈ news)
    (pl : IsPart vl lo) (pu : IsPart vu hi) (pk : IsPart vk st) (h0 : st ≠ some 0) (hv : slicePick vs.toArray lo hi st = ws.toArray) (hz : vs.length ≤ 1000)
    (h : ∀ r h', Fr h₀ L h' m → News h₀ L h' ((r, PySem.W.listOf ws.toArray 0) :: news) → (∀ p ∈ news, p.1 < r) → Q (.ref r) { s with heap := h' })
    (hs : subscripted slice false (.ref l) (.ref s.heap.objs.size) = operate ops (getItem (.ref l) (.ref s.heap.objs.size)) := by with_unfolding_all rfl)
    (ht : ∀ r, letTemporaryGo value (.ref l) r = pure () := by intro _; with_unfolding_all rfl) :
    wpAny (model prog w) A (subscriptTail value slice (.ref l) (.ref s.heap.objs.size)) Q E { s with heap := s.heap.push { cls := .type "slice", data := .fields #[vl, vu, vk] } } :=
  slice_list3 (hsz := by rw [sizeLine_eq, List.size_toArray]; omega) F N (own_list N hm) pl pu pk h0 (fun h' F' N' => h _ h' F' (hv ▸ N') fun p hp => Nat.lt_succ_of_lt (Heap.lt_size (N p hp).1)) hs ht
theorem slice_is {value slice : PySem.Expr} {vs ws : List Value} {vl vu vk : Value} {lo hi st : Option Int} {ops : List Value} {Q : Value → Shared → Prop} (F : Fr h₀ L s.heap m) (N : News h₀ L s.heap news) (hl : s.heap.IsList l vs.toArray)
    (pl : IsPart vl lo) (pu : IsPart vu hi) (pk : IsPart vk st) (h0 : st ≠ some 0) (hv : slicePick vs.toArray lo hi st = ws.toArray) (hz : vs.length ≤ 1000)
    (h : ∀ r h', Fr h₀ L h' m → News h₀ L h' ((r, PySem.W.listOf ws.toArray 0) :: news) → (∀ p ∈ news, p.1 < r) → Q (.ref r) { s with heap := h' })
    (hs : subscripted slice false (.ref l) (.ref s.heap.objs.size) = operate ops (getItem (.ref l) (.ref s.heap.objs.size)) := by with_unfolding_all rfl)
    (ht : ∀ r, letTemporaryGo value (.ref l) r = pure () := by intro _; with_unfolding_all rfl) :
    wpAny (model prog w) A (subscriptTail value slice (.ref l) (.ref s.heap.objs.size)) Q E { s with heap := s.heap.push { cls := .type "slice", data := .fields #[vl, vu, vk] } } :=
  slice_list3 (hsz := by rw [sizeLine_eq, List.size_toArray]; omega) F N hl pl pu pk h0 (fun h' F' N' => h _ h' F' (hv ▸ N') fun p hp => Nat.lt_succ_of_lt (Heap.lt_size (N p hp).1)) hs ht
end
section
open StrLaws Builtin Builtin.Str
/-- numbers cut at c -/
def cutL (c : Nat) : List Nat → List (List Nat)
  | [] => [[]]
  | a :: r => if a = c then [] :: cutL c r else match cutL c r with
    | p :: q => (a :: p) :: q
    | [] => [[a]]
theorem cutL_ne (c : Nat) : ∀ l : List Nat, cutL c l ≠ []
  | [] => by simp [cutL]
  | a :: r => by
    unfold cutL
    split
    · simp
    · split <;> simp
theorem occ_one (x : Str) (c limit : Nat) : ∀ (l : List Nat) (st : Array Nat × Nat), (∀ i ∈ l, st.2 ≤ i) → l.Pairwise (· < ·) → st.1.size + l.length ≤ limit →
    (forIn l st (occBody x ⟨#[c]⟩ x.length limit)).run.fst.toList = st.1.toList ++ l.filter (fun i => decide (x.cps.toList[i]? = some c))
  | [], st, _, _, _ => by simp
  | a :: l, st, h1, h2, h3 => by
    rw [List.forIn_cons]
    unfold occBody
    have hp := List.pairwise_cons.mp h2
    have h3' : st.1.size + l.length + 1 ≤ limit := by simpa [Nat.add_assoc] using h3
    by_cases hc : x.cps.toList[a]? = some c
    · have := (subAt_one x c a).mpr hc
      rw [if_pos ⟨⟨⟨by omega, h1 a (.head _)⟩, this.1⟩, this.2⟩]
      have ih := occ_one x c limit l (st.fst.push a, a + (⟨#[c]⟩ : Str).length) (fun i hi => hp.1 i hi) hp.2 (by simp; omega)
      unfold occBody at ih
      refine Eq.trans ih ?_
      rw [List.filter_cons_of_pos (by simpa using hc)]
      simp
    · rw [if_neg (fun h => hc ((subAt_one x c a).mp ⟨h.1.2, h.2⟩))]
      have ih := occ_one x c limit l st (fun i hi => h1 i (.tail _ hi)) hp.2 (by omega)
      unfold occBody at ih
      refine Eq.trans ih ?_
      rw [List.filter_cons_of_neg (by simpa using hc)]
def toS (l : List Nat) : Str := ⟨l.toArray⟩
theorem toS_toList (x : Str) : toS x.cps.toList = x := Str.ext' (by simp [toS])
theorem sub_toS (x : Str) (i j : Nat) : strSub x i j = toS ((x.cps.toList.drop i).take (j - i)) := by
  rw [← strSub_toList, toS_toList]
theorem parts_cut (x : Str) (c : Nat) : ∀ (k a : Nat), a + k = x.length → partsFrom x 1 a ((List.range' a (k + 1)).filter (fun i => decide (x.cps.toList[i]? = some c))) = (cutL c (x.cps.toList.drop a)).map toS
  | 0, a, h => by
    have hl : x.cps.toList.length = x.length := by simp [Str.length]
    have h0 : x.cps.toList[a]? = none := List.getElem?_eq_none (by omega)
    have h1 : x.cps.toList.drop a = [] := List.drop_eq_nil_of_le (by omega)
    simp only [List.range'_one, Nat.zero_add]
    rw [List.filter_cons_of_neg (by rw [h0]; simp)]
    simp only [List.filter_nil, partsFrom, sub_toS, h1, List.take_nil, cutL, List.map_cons, List.map_nil]
  | k + 1, a, h => by
    have hl : x.cps.toList.length = x.length := by simp [Str.length]
    have hlt : a < x.cps.toList.length := by omega
    have h1 : x.cps.toList.drop a = x.cps.toList[a] :: x.cps.toList.drop (a + 1) := List.drop_eq_getElem_cons hlt
    have ih := parts_cut x c k (a + 1) (by omega)
    rw [List.range'_succ, h1]
    by_cases hc : x.cps.toList[a] = c
    · rw [List.filter_cons_of_pos (by rw [List.getElem?_eq_getElem hlt, hc]; simp)]
      simp only [partsFrom, cutL, if_pos hc, List.map_cons]
      rw [ih, sub_toS, Nat.sub_self, List.take_zero]
    · rw [List.filter_cons_of_neg (by rw [List.getElem?_eq_getElem hlt]; simpa using hc)]
      simp only [cutL, if_neg hc]
      have hcut : ∀ cs : List Nat, (∀ i ∈ cs, a < i) → ∃ p q, partsFrom x 1 (a + 1) cs = toS p :: q ∧ partsFrom x 1 a cs = toS (x.cps.toList[a] :: p) :: q := by
        intro cs hcs
        match cs with
        | [] =>
          refine ⟨(x.cps.toList.drop (a + 1)).take (x.length - (a + 1)), [], by simp only [partsFrom, sub_toS], ?_⟩
          simp only [partsFrom, sub_toS, h1]
          rw [show x.length - a = (x.length - (a + 1)) + 1 by omega, List.take_succ_cons]
        | i :: r =>
          have := hcs i (.head _)
          refine ⟨(x.cps.toList.drop (a + 1)).take (i - (a + 1)), partsFrom x 1 (i + 1) r, by simp only [partsFrom, sub_toS], ?_⟩
          simp only [partsFrom, sub_toS, h1]
          rw [show i - a = (i - (a + 1)) + 1 by omega, List.take_succ_cons]
      obtain ⟨p, q, e1, e2⟩ := hcut ((List.range' (a + 1) (k + 1)).filter (fun i => decide (x.cps.toList[i]? = some c))) (fun i hi => by
        have := (List.mem_filter.mp hi).1
        have := List.mem_range'_1.mp this
        omega)
      rw [e2]
      rw [e1] at ih
      cases hcl : cutL c (x.cps.toList.drop (a + 1)) with
      | nil => exact absurd hcl (cutL_ne _ _)
      | cons p' q' =>
        rw [hcl, List.map_cons] at ih
        obtain ⟨ep, eq⟩ := List.cons.inj ih
        have ep' : p = p' := by simpa [toS] using ep
        subst ep' eq
        rfl
theorem split_cut (x : Str) {c : Nat} (hc : c < 256) : Txt.split x ⟨#[c]⟩ = (cutL c x.cps.toList).map toS := by
  have ho : occurrences x ⟨#[c]⟩ 0 x.length (x.length + 1) = (List.range' 0 (x.length + 1)).filter (fun i => decide (x.cps.toList[i]? = some c)) := by
    rw [occ_eq]
    refine (occ_one x c (x.length + 1) _ _ (fun i _ => Nat.zero_le _) ?_ (by simp)).trans (by simp)
    exact List.pairwise_lt_range'
  have hp := parts_cut x c x.length 0 (Nat.zero_add _)
  rw [← ho, List.drop_zero] at hp
  have hk : Builtin.Str.strKind x < Builtin.Str.strKind ⟨#[c]⟩ → False := by
    have : Builtin.Str.strKind ⟨#[c]⟩ = 1 := by simp [Builtin.Str.strKind, hc]
    rw [this]; unfold Builtin.Str.strKind; split <;> (try split) <;> omega
  unfold Txt.split
  split
  · rename_i h
    simp only [Bool.or_eq_true, decide_eq_true_eq] at h
    rcases h with h | h
    · have h0 : x.cps = #[] := Array.eq_empty_of_size_eq_zero (by have : x.cps.size < 1 := h; omega)
      rw [h0]
      show [x] = _
      rw [← toS_toList x, h0]; rfl
    · exact absurd h hk
  · split
    · rename_i h
      rw [List.isEmpty_iff.mp h] at hp
      simp only [partsFrom] at hp
      rw [← hp, sub_whole]
    · rw [partsBetween_eq]; exact hp
/-- numbers joined by c -/
def gumL (c : Nat) : List (List Nat) → List Nat
  | [] => []
  | [p] => p
  | p :: q :: r => p ++ c :: gumL c (q :: r)
theorem cut_app {c : Nat} : ∀ {p : List Nat}, c ∉ p → ∀ r, cutL c (p ++ c :: r) = p :: cutL c r
  | [], _, r => by simp [cutL]
  | a :: p, h, r => by
    have ha : a ≠ c := fun e => h (e ▸ .head _)
    have ih := cut_app (p := p) (fun e => h (.tail _ e)) r
    simp only [List.cons_append, cutL, if_neg ha, ih]
theorem cut_one {c : Nat} : ∀ {p : List Nat}, c ∉ p → cutL c p = [p]
  | [], _ => rfl
  | a :: p, h => by
    have ha : a ≠ c := fun e => h (e ▸ .head _)
    have ih := cut_one (p := p) (fun e => h (.tail _ e))
    simp only [cutL, if_neg ha, ih]
theorem cut_gum {c : Nat} : ∀ {ps : List (List Nat)}, ps ≠ [] → (∀ p ∈ ps, c ∉ p) → cutL c (gumL c ps) = ps
  | [], h, _ => absurd rfl h
  | [p], _, h => cut_one (h p (.head _))
  | p :: q :: r, _, h => by
    rw [gumL, cut_app (h p (.head _)), cut_gum (by simp) fun x hx => h x (.tail _ hx)]
theorem join_gum (c : Nat) : ∀ ps : List Str, Str.join ⟨#[c]⟩ ps = toS (gumL c (ps.map fun p => p.cps.toList))
  | [] => rfl
  | [p] => (toS_toList p).symm
  | p :: q :: r => by
    have ih := join_gum c (q :: r)
    show p ++ ⟨#[c]⟩ ++ Str.join ⟨#[c]⟩ (q :: r) = _
    rw [ih]
    apply Str.ext'
    simp [toS, gumL, Str.cps_append]
/-- what was joined is cut again -/
theorem split_join {c : Nat} (hc : c < 256) {ps : List Str} (h0 : ps ≠ []) (h : ∀ p ∈ ps, c ∉ p.cps.toList) : Txt.split (Txt.join ⟨#[c]⟩ ps) ⟨#[c]⟩ = ps := by
  have e : Txt.join ⟨#[c]⟩ ps = toS (gumL c (ps.map fun p => p.cps.toList)) := (glued_eq_join _ _).trans (join_gum c ps)
  rw [split_cut _ hc, e]
  have e2 : (toS (gumL c (ps.map fun p => p.cps.toList))).cps.toList = gumL c (ps.map fun p => p.cps.toList) := by simp [toS]
  rw [e2, cut_gum (by simpa using h0) (by
    intro p hp
    obtain ⟨q, hq, rfl⟩ := List.mem_map.mp hp
    exact h q hq), List.map_map]
  conv => rhs; rw [← List.map_id ps]
  exact List.map_congr_left fun p _ => toS_toList p
end
section
open StrLaws Builtin Builtin.Str
theorem slash_eq : Str.ofString "/" = ⟨#[47]⟩ := by decide +kernel
theorem empty_eq : Str.ofString "" = ⟨#[]⟩ := by decide +kernel
theorem dot_eq : Str.ofString "." = ⟨#[46]⟩ := by decide +kernel
theorem dots_eq : Str.ofString ".." = ⟨#[46, 46]⟩ := by decide +kernel
/-- a part of a path: not empty, no slash -/
def Part (p : Str) : Prop := p.cps.toList ≠ [] ∧ 47 ∉ p.cps.toList
theorem starts_no {b : Str} (h : 47 ∉ b.cps.toList) : Txt.startswith b (Str.ofString "/") = false := by
  rw [slash_eq, Bool.eq_false_iff]
  intro e
  unfold Txt.startswith at e
  simp only [Bool.and_eq_true, decide_eq_true_eq] at e
  exact h (List.mem_of_getElem? ((subAt_one b 47 0).mp e))
theorem ends_no {b : Str} {c : Nat} (hc : c ≠ 47) (h : b.cps.toList.getLast? = some c) : Txt.endswith b (Str.ofString "/") = false := by
  rw [slash_eq, Bool.eq_false_iff]
  intro e
  unfold Txt.endswith at e
  simp only [Bool.and_eq_true, decide_eq_true_eq] at e
  have e1 : b.cps.toList[b.length - 1]? = some 47 := (subAt_one b 47 (b.length - 1)).mp ⟨by have := e.1; have h1 : (⟨#[47]⟩ : Str).length = 1 := rfl; omega, e.2⟩
  rw [List.getLast?_eq_getElem?] at h
  have hl : b.cps.toList.length = b.length := by simp [Str.length]
  rw [hl, e1] at h
  exact hc (Option.some.inj h).symm
theorem jstep_plain {a b : Str} {c : Nat} (hc : c ≠ 47) (ha : a.cps.toList.getLast? = some c) (hb : 47 ∉ b.cps.toList) : jstep a b = a ++ (⟨#[47]⟩ : Str) ++ b := by
  have h0 : a.length ≠ 0 := fun e => by
    have : a.cps.toList = [] := List.length_eq_zero_iff.mp (by simpa [Str.length] using e)
    rw [this] at ha; cases ha
  rw [← jstep4 (starts_no hb) (by omega) (ends_no hc ha), slash_eq, Str.append_assoc]
theorem part_last {p : Str} (h : Part p) : ∃ c, c ≠ 47 ∧ p.cps.toList.getLast? = some c := by
  obtain ⟨h0, h1⟩ := h
  refine ⟨p.cps.toList.getLast h0, fun e => h1 (e ▸ List.getLast_mem h0), List.getLast?_eq_some_getLast h0⟩
theorem fold_join : ∀ {ps : List Str} {a : Str}, (∃ c, c ≠ 47 ∧ a.cps.toList.getLast? = some c) → (∀ p ∈ ps, Part p) → ps.foldl jstep a = Str.join ⟨#[47]⟩ (a :: ps) ∧ ∃ c, c ≠ 47 ∧ (ps.foldl jstep a).cps.toList.getLast? = some c
  | [], a, ha, _ => ⟨rfl, ha⟩
  | p :: ps, a, ⟨c, hc, ha⟩, h => by
    have hp := h p (.head _)
    obtain ⟨d, hd, hl⟩ := part_last hp
    have e := jstep_plain hc ha hp.2
    rw [List.foldl_cons, e]
    have ih := fold_join (ps := ps) (a := a ++ ⟨#[47]⟩ ++ p) ⟨d, hd, by
      rw [Str.cps_append, Array.toList_append, List.getLast?_append, hl]; rfl⟩ (fun q hq => h q (.tail _ hq))
    refine ⟨ih.1.trans ?_, ih.2⟩
    rw [join_shift]; rfl
theorem join_snoc (s : Str) : ∀ (ps : List Str) (a b : Str), Str.join s (a :: (ps ++ [b])) = Str.join s (a :: ps) ++ s ++ b
  | [], _, _ => rfl
  | p :: ps, a, b => by
    show a ++ s ++ Str.join s (p :: (ps ++ [b])) = (a ++ s ++ Str.join s (p :: ps)) ++ s ++ b
    rw [join_snoc s ps p b]; simp only [Str.append_assoc]
theorem first_ne {x : Str} {c : Nat} (hc : c ≠ 47) (h : x.cps.toList.head? = some c) : (Txt.slice x none (some 1) != Str.ofString "/") = true ∧ x.length ≠ 0 := by
  have hl : x.cps.toList.length = x.length := by simp [Str.length]
  have h1 : 1 ≤ x.length := by
    cases hx : x.cps.toList with
    | nil => rw [hx] at h; cases h
    | cons a r => rw [← hl, hx]; simp
  have e : Txt.slice x none (some 1) = ⟨((x.cps.toList.drop 0).take (1 - 0)).toArray⟩ := by
    refine Eq.trans ?_ (sliceText_nat x (a := 0) (b := 1) (by omega) h1)
    unfold Txt.slice sliceText
    rw [sliceIdx_none_lo]; rfl
  refine ⟨?_, by omega⟩
  rw [e, slash_eq, bne_iff_ne]
  intro hh
  have h2 : (x.cps.toList.drop 0).take (1 - 0) = [47] := by
    have := congrArg (fun s : Str => s.cps.toList) hh
    simpa using this
  cases hx : x.cps.toList with
  | nil => rw [hx] at h; cases h
  | cons a r => rw [hx] at h h2; cases h; simp at h2; exact hc h2
theorem join_head {s : Str} {a : Str} {c : Nat} (h : a.cps.toList.head? = some c) : ∀ ps : List Str, (Str.join s (a :: ps)).cps.toList.head? = some c
  | [] => h
  | p :: ps => by
    show (a ++ s ++ Str.join s (p :: ps)).cps.toList.head? = some c
    rw [Str.append_assoc, Str.cps_append, Array.toList_append, List.head?_append, h]; rfl
theorem part_head {p : Str} (h : Part p) : ∃ c, c ≠ 47 ∧ p.cps.toList.head? = some c := by
  obtain ⟨h0, h1⟩ := h
  cases hx : p.cps.toList with
  | nil => exact absurd hx h0
  | cons a r => exact ⟨a, fun e => h1 (by rw [hx, e]; exact .head _), rfl⟩
theorem part_dot : Part (Str.ofString ".") := by rw [dot_eq]; exact ⟨by simp, by simp⟩
theorem part_dots : Part (Str.ofString "..") := by rw [dots_eq]; exact ⟨by simp, by simp⟩
theorem part_nat24 : ∀ k : Fin 24, (Str.ofString (toString (k.val : Int))).cps.toList.length ≤ 2 ∧ (Str.ofString (toString (k.val : Int))).cps.toList ≠ [] ∧ 47 ∉ (Str.ofString (toString (k.val : Int))).cps.toList := by decide +kernel
theorem part_nat {a : Int} (h0 : 0 ≤ a) (h1 : a < 24) : Part (Str.ofString (toString a)) ∧ (Str.ofString (toString a)).length ≤ 2 := by
  have := part_nat24 ⟨a.toNat, by omega⟩
  rw [show ((a.toNat : Nat) : Int) = a by omega] at this
  exact ⟨this.2, by simpa [Str.length] using this.1⟩
end
/-- the octets of a set, the highest first -/
def octs (number : Int) (octets : Nat) : List Int := (List.range octets).map fun i => number / 2 ^ (8 * (octets - 1 - i)) % 256
theorem octs_eq (number : Int) (octets : Nat) : octs number octets = List.map (fun k => number / 2 ^ (8 * k).toNat % 256) (List.map (fun i : Nat => (octets : Int) - 1 + (i : Int) * -1) (List.range octets)) := by
  unfold octs
  rw [List.map_map]
  refine List.map_congr_left fun i hi => ?_
  have := List.mem_range.mp hi
  show _ = number / 2 ^ (8 * ((octets : Int) - 1 + (i : Int) * -1)).toNat % 256
  rw [show (8 * ((octets : Int) - 1 + (i : Int) * -1)).toNat = 8 * (octets - 1 - i) by omega]
theorem octs_in {number : Int} {octets : Nat} : ∀ n ∈ octs number octets, 0 ≤ n ∧ n < 256 := fun n hn => by
  obtain ⟨i, _, rfl⟩ := List.mem_map.mp hn
  omega
theorem octs_len {number : Int} {octets : Nat} : (octs number octets).length = octets := by simp [octs]
theorem bytes_back {xs : List Int} (h : ∀ n ∈ xs, 0 ≤ n ∧ n < 256) : ((xs.map fun n => n.toNat.toUInt8).toArray.toList.map fun c => (c.toNat : Int)) = xs := by
  rw [List.toList_toArray, List.map_map]
  conv => rhs; rw [← List.map_id xs]
  refine List.map_congr_left fun n hn => ?_
  have := h n hn
  show ((n.toNat.toUInt8).toNat : Int) = n
  rw [Nat.toUInt8, UInt8.toNat_ofNat']
  omega
/-- the codes of the signs of a set -/
def codes (number : Int) (octets : Nat) : List Int := b64of (octs number octets)
theorem codes_in {number : Int} {octets : Nat} : ∀ n ∈ codes number octets, 0 ≤ n ∧ n < 256 := b64of_in
theorem codes_len {number : Int} {octets : Nat} : (codes number octets).length ≤ 4 := b64of_len
theorem rint_of {m n : Int} {t : Tok} (e : m = n) : RInt n (.int m t) := ⟨t, e ▸ rfl⟩
theorem src_codes {prog : Program} {w : World} {A : Around} {h₀ : Heap} {L : Addr} {news : List (Addr × Obj)} {s₁ : Shared} {t : Tok} {xs : List Int} (hh : A.handled = none) (hx : ∀ n ∈ xs, 0 ≤ n ∧ n < 256) :
    SrcOk prog w A h₀ L news (.bytes (xs.map fun n => n.toNat.toUInt8).toArray t) s₁ xs RInt := by
  have := src_bytes (prog := prog) (w := w) (A := A) (h₀ := h₀) (L := L) (news := news) (s₁ := s₁) (b := (xs.map fun n => n.toNat.toUInt8).toArray) (t := t) hh
  rwa [bytes_back hx] at this
def chrS (n : Int) : Str := ⟨#[n.toNat]⟩
/-- the signs with these codes -/
def textOf (xs : List Int) : Str := ⟨(xs.map Int.toNat).toArray⟩
theorem chr_sum {xs : List Int} : ((xs.map chrS).map (·.length)).sum = xs.length := by
  induction xs with
  | nil => rfl
  | cons x xs ih => rw [List.map_cons, List.map_cons, List.sum_cons, ih, List.length_cons]; show 1 + _ = _; omega
theorem join_chr {xs : List Int} : Txt.join (Str.ofString "") (xs.map chrS) = textOf xs := by
  refine (StrLaws.glued_eq_join _ _).trans ?_
  rw [empty_eq]
  have : ∀ xs : List Int, Str.join ⟨#[]⟩ (xs.map chrS) = textOf xs := by
    intro xs
    induction xs with
    | nil => rfl
    | cons x r ih =>
      cases r with
      | nil => rfl
      | cons y r =>
        show chrS x ++ ⟨#[]⟩ ++ Str.join ⟨#[]⟩ ((y :: r).map chrS) = _
        rw [ih]
        apply Str.ext'
        simp [Str.cps_append, chrS, textOf]
  exact this xs
def RChr (n : Int) (v : Value) : Prop := ∃ t, v = .str (chrS n) t
abbrev sgns : Str := Str.ofString "ABCDEFGHIJKLMNOPQRSTUVWXYZabcdefghijklmnopqrstuvwxyz0123456789+/"
/-- a sign's place -/
def signAt (n : Int) : Int := Txt.find sgns (chrS n)
theorem sign_find (j : Int) (h0 : 0 ≤ j) (h1 : j < 64) : signAt (b64sign j) = j := by
  have h : ∀ k : Fin 64, signAt (b64sign (k.val : Int)) = (k.val : Int) := by decide +kernel
  have := h ⟨j.toNat, by omega⟩
  rwa [show ((j.toNat : Nat) : Int) = j by omega] at this
theorem b64of_sign {xs : List Int} (h : ∀ n ∈ xs, 0 ≤ n ∧ n < 256) : ∀ n ∈ b64of xs, n ≠ 61 → ∃ j, 0 ≤ j ∧ j < 64 ∧ n = b64sign j := fun n hn h61 => by
  have mk : ∀ j : Int, 0 ≤ j ∧ j < 64 → ∃ j', 0 ≤ j' ∧ j' < 64 ∧ b64sign j = b64sign j' := fun j hj => ⟨j, hj.1, hj.2, rfl⟩
  unfold b64of at hn
  split at hn
  · have a := h _ (.head _)
    simp only [List.mem_cons, List.not_mem_nil, or_false] at hn
    rcases hn with rfl | rfl | rfl | rfl
    · exact mk _ (ja a)
    · exact mk _ (jq (m := 4) (jm (by decide)) (by decide))
    · exact absurd rfl h61
    · exact absurd rfl h61
  · have a := h _ (.head _)
    have b := h _ (.tail _ (.head _))
    simp only [List.mem_cons, List.not_mem_nil, or_false] at hn
    rcases hn with rfl | rfl | rfl | rfl
    · exact mk _ (ja a)
    · exact mk _ (jp (m := 4) (jm (by decide)) (jd b (by decide) (by decide)) (by decide))
    · exact mk _ (jq (m := 16) (jm (by decide)) (by decide))
    · exact absurd rfl h61
  · have a := h _ (.head _)
    have b := h _ (.tail _ (.head _))
    have c := h _ (.tail _ (.tail _ (.head _)))
    simp only [List.mem_cons, List.not_mem_nil, or_false] at hn
    rcases hn with rfl | rfl | rfl | rfl
    · exact mk _ (ja a)
    · exact mk _ (jp (m := 4) (jm (by decide)) (jd b (by decide) (by decide)) (by decide))
    · exact mk _ (jp (m := 16) (jm (by decide)) (jd c (by decide) (by decide)) (by decide))
    · exact mk _ (jm (by decide))
  · cases hn
theorem codes_sign {number : Int} {octets : Nat} : ∀ n ∈ codes number octets, n ≠ 61 → ∃ j, 0 ≤ j ∧ j < 64 ∧ n = b64sign j := b64of_sign octs_in
/-- the places of a set's signs -/
def placesOf (number : Int) (octets : Nat) : List Int := ((codes number octets).filter fun n => n != 61).map signAt
theorem placesOf_in {number : Int} {octets : Nat} : ∀ p ∈ placesOf number octets, 0 ≤ p ∧ p < 64 := fun p hp => by
  obtain ⟨n, hn, rfl⟩ := List.mem_map.mp hp
  obtain ⟨hn, h61⟩ := List.mem_filter.mp hn
  obtain ⟨j, h0, h1, rfl⟩ := codes_sign n hn (by simpa using h61)
  rw [sign_find j h0 h1]; exact ⟨h0, h1⟩
theorem chr_ne {a : Int} (h : 0 ≤ a ∧ a < 256) : (chrS a != Str.ofString "=") = (a != 61) := by
  have h' : ∀ k : Fin 256, (chrS (k.val : Int) != Str.ofString "=") = ((k.val : Int) != 61) := by decide +kernel
  have := h' ⟨a.toNat, by omega⟩
  rwa [show ((a.toNat : Nat) : Int) = a by omega] at this
theorem src_text {prog : Program} {w : World} {A : Around} {h₀ : Heap} {L : Addr} {news : List (Addr × Obj)} {s₁ : Shared} {t : Tok} {xs : List Int} (hh : A.handled = none) (hx : ∀ n ∈ xs, 0 ≤ n ∧ n < 128) :
    SrcOk prog w A h₀ L news (.str (textOf xs) t) s₁ xs RChr := by
  have ha : (textOf xs).cps.all (· < 128) = true := by
    simp only [textOf, List.all_toArray, List.all_eq_true, decide_eq_true_eq, List.mem_map]
    rintro n ⟨m, hm, rfl⟩
    have := hx m hm; omega
  have this := src_str (prog := prog) (w := w) (A := A) (h₀ := h₀) (L := L) (news := news) (s₁ := s₁) (x := textOf xs) (t := t) hh ha
  have e : (textOf xs).cps.toList.map (fun c => (⟨#[c]⟩ : Str)) = xs.map chrS := by
    simp only [textOf, List.toList_toArray, List.map_map]; rfl
  rw [e] at this
  intro Q E hQ
  refine this Q E fun oI fp St h1 W h2 h3 h4 h5 => hQ oI fp St h1 ?_ h2 h3 h4 h5
  rw [List.length_map] at W
  refine walks_p W ?_
  rintro i v hi ⟨a, ha, t, rfl⟩
  rw [List.getElem?_map] at ha
  cases hxi : xs[i]? with
  | none => rw [hxi] at ha; cases ha
  | some y => rw [hxi] at ha; cases ha; exact ⟨y, rfl, t, rfl⟩
theorem codes_lt {number : Int} {octets : Nat} : ∀ n ∈ codes number octets, 0 ≤ n ∧ n < 128 := fun n hn => by
  by_cases h61 : n = 61
  · omega
  obtain ⟨j, h0, h1, rfl⟩ := codes_sign n hn h61
  have h : ∀ k : Fin 64, 0 ≤ b64sign (k.val : Int) ∧ b64sign (k.val : Int) < 128 := by decide +kernel
  have := h ⟨j.toNat, by omega⟩
  rwa [show ((j.toNat : Nat) : Int) = j by omega] at this
/-- what a set has -/
def hasOf (number : Int) (octets : Nat) : List Bool := (placesOf number octets).flatMap fun p => ([5, 4, 3, 2, 1, 0] : List Int).map fun k => p / 2 ^ k.toNat % 2 == 1
theorem range_up_size {octets : Nat} (h : octets ≤ 3) : PySem.Builtin.Range.rangeSize 0 (8 * (octets : Int)) 1 = ((8 * octets : Nat) : Int) :=
  (by decide +kernel : ∀ n : Fin 4, PySem.Builtin.Range.rangeSize 0 (8 * (n.val : Int)) 1 = ((8 * n.val : Nat) : Int)) ⟨octets, by omega⟩
theorem range_up_small {octets : Nat} (h : octets ≤ 3) : PySem.Builtin.Range.small 0 (8 * (octets : Int)) 1 = true :=
  (by decide +kernel : ∀ n : Fin 4, PySem.Builtin.Range.small 0 (8 * (n.val : Int)) 1 = true) ⟨octets, by omega⟩
/-- a thing's name on the path from the front -/
def frontF (has : List Bool) (a : Int) : Str := if has.getD a.toNat false then Str.ofString (toString a) else Str.ofString ".."
def behindF (has : List Bool) (a : Int) : Str := if has.getD a.toNat false then Str.ofString ".." else Str.ofString (toString a)
theorem sign_ne (j : Int) : b64sign j ≠ 61 := by
  by_cases h : j.toNat < 64
  · have h' : ∀ k : Fin 64, b64sign (k.val : Int) ≠ 61 := by decide +kernel
    have := h' ⟨j.toNat, h⟩
    have e : b64sign ((j.toNat : Nat) : Int) = b64sign j := by unfold b64sign; rw [Int.toNat_natCast]
    rwa [← e]
  · unfold b64sign
    rw [List.getD_eq_getElem?_getD, List.getElem?_eq_none (by
      rw [List.length_map]
      have : "ABCDEFGHIJKLMNOPQRSTUVWXYZabcdefghijklmnopqrstuvwxyz0123456789+/".toList.length = 64 := by decide +kernel
      omega)]
    decide
theorem hasOf_len {number : Int} {octets : Nat} (ho1 : 1 ≤ octets) (ho3 : octets ≤ 3) : 8 * octets ≤ (hasOf number octets).length := by
  have e : ∀ ps : List Int, (ps.flatMap fun p => ([5, 4, 3, 2, 1, 0] : List Int).map fun k => p / 2 ^ k.toNat % 2 == 1).length = 6 * ps.length := by
    intro ps
    induction ps with
    | nil => rfl
    | cons p r ih => rw [List.flatMap_cons, List.length_append, ih]; simp; omega
  unfold hasOf
  rw [e]
  unfold placesOf
  rw [List.length_map]
  have h3 : octets = 1 ∨ octets = 2 ∨ octets = 3 := by omega
  rcases h3 with rfl | rfl | rfl
  · have : codes number 1 = [b64sign (number / 2 ^ 0 % 256 / 4), b64sign (number / 2 ^ 0 % 256 % 4 * 16), 61, 61] := rfl
    rw [this]; simp [List.filter_cons, sign_ne]
  · have : codes number 2 = [b64sign (number / 2 ^ 8 % 256 / 4), b64sign (number / 2 ^ 8 % 256 % 4 * 16 + number / 2 ^ 0 % 256 / 16), b64sign (number / 2 ^ 0 % 256 % 16 * 4), 61] := rfl
    rw [this]; simp [List.filter_cons, sign_ne]
  · have : codes number 3 = [b64sign (number / 2 ^ 16 % 256 / 4), b64sign (number / 2 ^ 16 % 256 % 4 * 16 + number / 2 ^ 8 % 256 / 16), b64sign (number / 2 ^ 8 % 256 % 16 * 4 + number / 2 ^ 0 % 256 / 64), b64sign (number / 2 ^ 0 % 256 % 64)] := rfl
    rw [this]; simp [List.filter_cons, sign_ne]
theorem sub_list {prog : Program} {w : World} {A : Around} {E : Value → Shared → Prop} {s : Shared} {h₀ : Heap} {L l : Addr} {news : List (Addr × Obj)} {n : Nat} {value slice : PySem.Expr} {vs : List Value} {a : Int} {u : Tok} {y : Value} {Q : Value → Shared → Prop} (N : News h₀ L s.heap news) (hm : (l, PySem.W.listOf vs.toArray n) ∈ news) (h0 : 0 ≤ a) (h1 : a < 1000) (hx : vs[a.toNat]? = some y) (h : Q y s)
    (hs : subscripted slice false (.ref l) (.int a u) = operate [.ref l, .int a u] (getItem (.ref l) (.int a u)) := by with_unfolding_all rfl) : wpAny (model prog w) A (subscriptTail value slice (.ref l) (.int a u)) Q E s :=
  tail_any (own_list N hm).typeIs slot_list_getitem.lookup (wpAny_getItem_list (own_list N hm) h0 (by omega) (by simpa using hx) h) hs
def frontL (number : Int) (octets : Nat) : List Str := ((List.range (8 * octets)).map fun i : Nat => (0 : Int) + (i : Int) * 1).map (frontF (hasOf number octets))
def behindL (number : Int) (octets : Nat) : List Str := ((List.range (8 * octets)).map fun i : Nat => 8 * (octets : Int) - 1 + (i : Int) * -1).map (behindF (hasOf number octets))
def frontPath (number : Int) (octets : Nat) : Str := (frontL number octets).foldl jstep (Str.ofString ".")
def behindPath (number : Int) (octets : Nat) : Str := match behindL number octets with | b :: bs => (bs ++ [Str.ofString ""]).foldl jstep b | [] => Str.ofString ""
theorem front_parts {number : Int} {octets : Nat} (ho3 : octets ≤ 3) : ∀ p ∈ frontL number octets, Part p ∧ p.length ≤ 2 := fun p hp => by
  obtain ⟨a, ha, rfl⟩ := List.mem_map.mp hp
  obtain ⟨i, hi, rfl⟩ := List.mem_map.mp ha
  have := List.mem_range.mp hi
  unfold frontF
  split
  · exact part_nat (by omega) (by omega)
  · exact ⟨part_dots, by decide +kernel⟩
theorem behind_parts {number : Int} {octets : Nat} (ho3 : octets ≤ 3) : ∀ p ∈ behindL number octets, Part p ∧ p.length ≤ 2 := fun p hp => by
  obtain ⟨a, ha, rfl⟩ := List.mem_map.mp hp
  obtain ⟨i, hi, rfl⟩ := List.mem_map.mp ha
  have := List.mem_range.mp hi
  unfold behindF
  split
  · exact ⟨part_dots, by decide +kernel⟩
  · exact part_nat (by omega) (by omega)
theorem frontL_short {number : Int} {octets : Nat} (ho3 : octets ≤ 3) : ∀ p ∈ frontL number octets, p.length ≤ 64 := fun p hp => by
  have := (front_parts ho3 p hp).2; omega
theorem behindL_short {number : Int} {octets : Nat} (ho3 : octets ≤ 3) : ∀ p ∈ behindL number octets, p.length ≤ 64 := fun p hp => by
  have := (behind_parts ho3 p hp).2; omega
theorem front_path {number : Int} {octets : Nat} (ho3 : octets ≤ 3) : frontPath number octets = Str.join ⟨#[47]⟩ (Str.ofString "." :: frontL number octets) :=
  (fold_join (part_last part_dot) fun p hp => (front_parts ho3 p hp).1).1
theorem behindL_len (number : Int) (octets : Nat) : (behindL number octets).length = 8 * octets := by simp [behindL]
theorem frontL_len (number : Int) (octets : Nat) : (frontL number octets).length = 8 * octets := by simp [frontL]
theorem behind_path {number : Int} {octets : Nat} (ho1 : 1 ≤ octets) (ho3 : octets ≤ 3) : behindPath number octets = Str.join ⟨#[47]⟩ (behindL number octets ++ [Str.ofString ""]) := by
  have hb := behindL_len number octets
  have hp := behind_parts (number := number) ho3
  unfold behindPath
  cases h : behindL number octets with
  | nil => rw [h] at hb; simp at hb; omega
  | cons b bs =>
    rw [h] at hp
    have f := fold_join (ps := bs) (part_last (hp b (.head _)).1) fun p q => (hp p (.tail _ q)).1
    show (bs ++ [Str.ofString ""]).foldl jstep b = _
    obtain ⟨c, hc, hl⟩ := f.2
    rw [List.foldl_append, List.foldl_cons, List.foldl_nil, jstep_plain hc hl (by rw [empty_eq]; simp), f.1, List.cons_append, join_snoc]
theorem sum_lenB {B : Nat} : ∀ {ps : List Str}, (∀ p ∈ ps, p.length ≤ B) → (ps.map (·.length)).sum ≤ ps.length * B
  | [], _ => Nat.zero_le _
  | p :: ps, h => by
    have := sum_lenB (ps := ps) fun q hq => h q (.tail _ hq)
    have := h p (.head _)
    rw [List.map_cons, List.sum_cons, List.length_cons, Nat.succ_mul]; omega
theorem front_ok (number : Int) (octets : Nat) (ho1 : 1 ≤ octets) (ho3 : octets ≤ 3) : (Txt.slice (frontPath number octets) none (some 1) != Str.ofString "/") = true ∧ (frontPath number octets).length ≤ 512 ∧ (frontPath number octets).length ≠ 0 := by
  rw [front_path ho3]
  obtain ⟨c, hc, h⟩ := part_head part_dot
  obtain ⟨h1, h2⟩ := first_ne hc (join_head (s := ⟨#[47]⟩) h (frontL number octets))
  refine ⟨h1, Nat.le_trans (StrLaws.join_length_le _ _) ?_, h2⟩
  have h3 := sum_lenB (B := 2) (ps := Str.ofString "." :: frontL number octets) fun p hp => by
    rcases List.mem_cons.mp hp with rfl | hp
    · decide +kernel
    · exact (front_parts ho3 p hp).2
  have h4 : (⟨#[47]⟩ : Str).length = 1 := rfl
  rw [h4]
  rw [List.length_cons, frontL_len] at h3 ⊢
  omega
theorem behind_ok (number : Int) (octets : Nat) (ho1 : 1 ≤ octets) (ho3 : octets ≤ 3) : (Txt.slice (behindPath number octets) none (some 1) != Str.ofString "/") = true ∧ (behindPath number octets).length ≤ 512 ∧ (behindPath number octets).length ≠ 0 := by
  rw [behind_path ho1 ho3]
  have hb := behindL_len number octets
  have hp := behind_parts (number := number) ho3
  have hs := sum_lenB (B := 2) (ps := behindL number octets ++ [Str.ofString ""]) fun p h => by
    rcases List.mem_append.mp h with h | h
    · exact (hp p h).2
    · rw [List.mem_singleton.mp h]; decide +kernel
  rw [List.length_append, hb] at hs
  refine ⟨?_, Nat.le_trans (StrLaws.join_length_le _ _) ?_, ?_⟩
  rotate_left
  · have h4 : (⟨#[47]⟩ : Str).length = 1 := rfl
    rw [h4, List.length_append, hb]
    simp only [List.length_cons, List.length_nil] at hs ⊢
    omega
  all_goals
    cases h : behindL number octets with
    | nil => rw [h] at hb; simp at hb; omega
    | cons b bs =>
      rw [h] at hp
      obtain ⟨c, hc, hh⟩ := part_head (hp b (.head _)).1
      have := first_ne hc (join_head (s := ⟨#[47]⟩) hh (bs ++ [Str.ofString ""]))
      first | exact this.1 | exact this.2
theorem sub_at {prog : Program} {w : World} {A : Around} {E : Value → Shared → Prop} {s : Shared} {l : Addr} {n : Nat} {value slice : PySem.Expr} {vs : List Value} {a : Int} {u : Tok} {y : Value} {Q : Value → Shared → Prop} (hl : s.heap.get? l = some (PySem.W.listOf vs.toArray n)) (h0 : 0 ≤ a) (h1 : a < 1000) (hx : vs[a.toNat]? = some y) (h : Q y s)
    (hs : subscripted slice false (.ref l) (.int a u) = operate [.ref l, .int a u] (getItem (.ref l) (.int a u)) := by with_unfolding_all rfl) : wpAny (model prog w) A (subscriptTail value slice (.ref l) (.int a u)) Q E s :=
  have hL : s.heap.IsList l vs.toArray := ⟨_, hl, rfl, _, rfl⟩
  tail_any hL.typeIs slot_list_getitem.lookup (wpAny_getItem_list hL h0 (by omega) (by simpa using hx) h) hs
theorem ints_get : ∀ {cs : List Value} {xs : List Int}, IntsAre cs xs → ∀ {i : Nat}, i < xs.length → ∃ x tx, cs[i]? = some (.int x tx) ∧ xs[i]? = some x
  | _, _, .cons x t r, 0, _ => ⟨x, t, rfl, rfl⟩
  | _, _, .cons x t r, i + 1, h => by simpa using ints_get r (i := i) (by simpa using h)
theorem pow_le24 {k : Nat} (h : k ≤ 24) : (2 : Int) ^ k ≤ 2 ^ 24 := by
  have := Nat.pow_le_pow_right (n := 2) (by decide) h
  have e : ∀ j : Nat, (2 : Int) ^ j = ((2 ^ j : Nat) : Int) := fun j => by simp
  rw [e, e]; exact Int.ofNat_le.mpr this
theorem range_dn1 {octets : Nat} (h : octets ≤ 3) : PySem.Builtin.Range.rangeSize (octets : Int) (-1) (-1) = ((octets + 1 : Nat) : Int) ∧ PySem.Builtin.Range.small (octets : Int) (-1) (-1) = true :=
  (by decide +kernel : ∀ n : Fin 4, PySem.Builtin.Range.rangeSize (n.val : Int) (-1) (-1) = ((n.val + 1 : Nat) : Int) ∧ PySem.Builtin.Range.small (n.val : Int) (-1) (-1) = true) ⟨octets, by omega⟩
theorem sgn_item {prog : Program} {w : World} {A : Around} {E : Value → Shared → Prop} {s : Shared} {value slice : PySem.Expr} {i j : Int} {t u : Tok} {Q : Value → Shared → Prop} (e : i = j) (h0 : 0 ≤ j) (h1 : j < 64) (h : Q (.str (chrS (b64sign j)) s.toks) { s with toks := s.toks + 1 })
    (hs : subscripted slice false (.str sgns t) (.int i u) = operate [.str sgns t, .int i u] (getItem (.str sgns t) (.int i u)) := by with_unfolding_all rfl)
    (ht : ∀ r, letTemporaryGo value (.str sgns t) r = pure () := by intro _; with_unfolding_all rfl) : wpAny (model prog w) A (subscriptTail value slice (.str sgns t) (.int i u)) Q E s := by
  subst e
  have hh : ∀ k : Fin 64, fitsSsize (k.val : Int) = true ∧ Txt.item sgns (k.val : Int) = chrS (b64sign (k.val : Int)) ∧ (sgns.length : Int) = 64 := by decide +kernel
  have a := hh ⟨i.toNat, by omega⟩
  rw [show (((⟨i.toNat, by omega⟩ : Fin 64).val : Nat) : Int) = i by simp; omega] at a
  exact item_str a.1 (by rw [a.2.2]; omega) (by rw [a.2.2]; omega) (fun _ => by rw [a.2.1]; exact h) hs ht
/-- the sign of the six bits at k -/
def signF (sixes k : Int) : Str := chrS (b64sign (sixes / 2 ^ (6 * k).toNat % 64))
def bitF (octets : Nat) (a : Int) : Int := 2 ^ (8 * (octets : Int) - 1 - a).toNat
theorem range_up1 {n : Nat} (h : n ≤ 24) : PySem.Builtin.Range.rangeSize 0 (n : Int) 1 = ((n : Nat) : Int) ∧ PySem.Builtin.Range.small 0 (n : Int) 1 = true :=
  (by decide +kernel : ∀ k : Fin 25, PySem.Builtin.Range.rangeSize 0 (k.val : Int) 1 = ((k.val : Nat) : Int) ∧ PySem.Builtin.Range.small 0 (k.val : Int) 1 = true) ⟨n, by omega⟩
theorem ints_get' : ∀ {cs : List Value} {xs : List Int}, IntsAre cs xs → ∀ {i : Nat} {x : Int}, xs[i]? = some x → ∃ tx, cs[i]? = some (.int x tx)
  | _, _, .cons x t r, 0, _, h => by cases h; exact ⟨t, rfl⟩
  | _, _, .cons x t r, i + 1, _, h => by simpa using ints_get' r (i := i) (by simpa using h)
def bitsL (octets : Nat) : List Int := ((List.range (8 * octets)).map fun i : Nat => (0 : Int) + (i : Int) * 1).map (bitF octets)
theorem bits_facts {octets : Nat} (ho1 : 1 ≤ octets) (ho3 : octets ≤ 3) : PyData.layable0 (.list ((bitsL octets).map .int)) = true ∧ ∀ t, t < 8 * octets → (2 : Int) ^ (8 * octets - 1 - t) ∈ bitsL octets ∧ (bitsL octets).idxOf ((2 : Int) ^ (8 * octets - 1 - t)) = t := by
  have h1 : ∀ o : Fin 4, PyData.layable0 (.list ((bitsL o.val).map .int)) = true := by decide +kernel
  have h2 : ∀ o : Fin 4, ∀ t : Fin 24, t.val < 8 * o.val → (2 : Int) ^ (8 * o.val - 1 - t.val) ∈ bitsL o.val ∧ (bitsL o.val).idxOf ((2 : Int) ^ (8 * o.val - 1 - t.val)) = t.val := by decide +kernel
  exact ⟨h1 ⟨octets, by omega⟩, fun t ht => h2 ⟨octets, by omega⟩ ⟨t, by omega⟩ ht⟩
theorem things_eq (ts : List Nat) : (((List.range ts.length).map fun i : Nat => (0 : Int) + (i : Int) * 1).map fun a => natStr (ts.getD a.toNat 0)) = ts.map natStr := by
  apply List.ext_getElem
  · simp
  · intro i h1 h2
    have hi : i < ts.length := by simpa using h2
    simp only [List.getElem_map, List.getElem_range]
    rw [show ((0 : Int) + (i : Int) * 1).toNat = i by omega, List.getD_eq_getElem?_getD, List.getElem?_eq_getElem hi]; rfl
theorem strs_rep (k : Nat) (tv : Tok) : StrsAre (List.replicate k [Value.str (Str.ofString "..") tv]).flatten (List.replicate k (Str.ofString "..")) := by
  induction k with
  | zero => exact .nil
  | succ k ih => rw [List.replicate_succ, List.replicate_succ, List.flatten_cons]; exact .cons _ _ ih
theorem nat_short (ts : List Nat) (h : ∀ t ∈ ts, t < 24) : ∀ y ∈ ts.map natStr, y.length ≤ 8 := fun y hy => by
  obtain ⟨t, ht, rfl⟩ := List.mem_map.mp hy
  have h' : ∀ k : Fin 24, (natStr k.val).length ≤ 8 := by decide +kernel
  exact h' ⟨t, h t ht⟩
def dueFrontL (ts : List Nat) (at_ : Nat) : List Str := List.replicate (ts.length - at_) (Str.ofString "..") ++ ((ts.map natStr).take at_).reverse
def dueBehindL (ts : List Nat) (at_ : Nat) : List Str := List.replicate at_ (Str.ofString "..") ++ (ts.map natStr).drop at_
theorem strs_take : ∀ {vs : List Value} {xs : List Str}, StrsAre vs xs → ∀ k, StrsAre (vs.take k) (xs.take k)
  | _, _, _, 0 => .nil
  | _, _, .nil, _ + 1 => .nil
  | _, _, .cons _ _ r, k + 1 => .cons _ _ (strs_take r k)
theorem strs_drop : ∀ {vs : List Value} {xs : List Str}, StrsAre vs xs → ∀ k, StrsAre (vs.drop k) (xs.drop k)
  | _, _, h, 0 => h
  | _, _, .nil, _ + 1 => .nil
  | _, _, .cons _ _ r, k + 1 => strs_drop r k
theorem strs_rev : ∀ {vs : List Value} {xs : List Str}, StrsAre vs xs → StrsAre vs.reverse xs.reverse
  | _, _, .nil => .nil
  | _, _, .cons x t r => by rw [List.reverse_cons, List.reverse_cons]; exact (strs_rev r).append' (.cons _ _ .nil)
theorem due_sum1 {ts : List Nat} {at_ : Nat} (h : ∀ y ∈ ts.map natStr, y.length ≤ 8) (htl : ts.length ≤ 24) : ((dueFrontL ts at_).map (·.length)).sum + (dueFrontL ts at_).length ≤ 500 := by
  have hl : (dueFrontL ts at_).length ≤ 48 := by simp [dueFrontL]; omega
  have := sum_le (B := 8) (ys := dueFrontL ts at_) fun y hy => by
    unfold dueFrontL at hy
    rcases List.mem_append.mp hy with hy | hy
    · rw [List.eq_of_mem_replicate hy]; decide
    · exact h y (List.mem_of_mem_take (List.mem_reverse.mp hy))
  omega
theorem due_sum2 {ts : List Nat} {at_ : Nat} (h : ∀ y ∈ ts.map natStr, y.length ≤ 8) (htl : ts.length ≤ 24) (hat : at_ ≤ 24) : ((dueBehindL ts at_).map (·.length)).sum + (dueBehindL ts at_).length ≤ 500 := by
  have hl : (dueBehindL ts at_).length ≤ 48 := by simp [dueBehindL]; omega
  have := sum_le (B := 8) (ys := dueBehindL ts at_) fun y hy => by
    unfold dueBehindL at hy
    rcases List.mem_append.mp hy with hy | hy
    · rw [List.eq_of_mem_replicate hy]; decide
    · exact h y (List.mem_of_mem_drop hy)
  omega
def orDot (x : Str) : Str := if x.length = 0 then Str.ofString "." else x
def dueSigns (x : Int) (octets : Nat) : List Str := ((List.range (octets + 1)).map fun i : Nat => (octets : Int) + (i : Int) * -1).map (signF (x * 2 ^ (6 * (octets : Int) + 6 - 8 * (octets : Int)).toNat))
def dueText (x : Int) (octets : Nat) : Str := Txt.join (Str.ofString "") (dueSigns x octets) ++ Txt.mul (Str.ofString "=") (3 - (octets : Int))
theorem dueSigns_len {x : Int} {octets : Nat} (ho3 : octets ≤ 3) : ((dueSigns x octets).map (·.length)).sum ≤ 4 := by
  have h := sum_le (B := 1) (ys := dueSigns x octets) fun y hy => by
    obtain ⟨k, _, rfl⟩ := List.mem_map.mp hy
    exact Nat.le_refl 1
  have hl : (dueSigns x octets).length = octets + 1 := by simp [dueSigns]
  omega
theorem eqs_len {octets : Nat} (ho1 : 1 ≤ octets) (ho3 : octets ≤ 3) : (Txt.mul (Str.ofString "=") (3 - (octets : Int))).length ≤ 3 :=
  (by decide +kernel : ∀ o : Fin 4, (Txt.mul (Str.ofString "=") (3 - (o.val : Int))).length ≤ 3) ⟨octets, by omega⟩
theorem orDot_no {x : Str} (h : (x.length : Int) ≠ 0) : orDot x = x := if_neg (by omega)
theorem orDot_yes {x : Str} (h : (x.length : Int) = 0) : orDot x = Str.ofString "." := if_pos (by omega)
theorem chainOf_ok {number : Int} {size : Nat} : ChainOk size (chainOf number size) := by
  rw [← chainAt_all]; exact chainAt_ok size (Nat.le_refl _)
/-! the chain of a set in plain words: the things it lacks or has unmatched (`ts`), and how many of them it has (`at`) -/
def tstep (i : Nat) (st : List Nat × Nat) (b : Bool) : List Nat × Nat :=
  if b then (i :: st.1, st.2 + 1) else if st.2 = 0 then (i :: st.1, 0) else (st.1.tail, st.2 - 1)
def things (n : Int) : Nat → List Nat × Nat
  | 0 => ([], 0)
  | i + 1 => tstep i (things (n / 2) i) (n % 2 == 1)
theorem things_succ (n : Int) (i : Nat) : things n (i + 1) = tstep i (things (n / 2) i) (n % 2 == 1) := rfl
def climb (i : Nat) : Int → List Nat → List Int
  | v, [] => [v]
  | v, t :: ts => v :: climb i (v + 2 ^ (i - 1 - t)) ts
theorem bitAt_half (n : Int) (k : Nat) : bitAt (n / 2) k = bitAt n (k + 1) := by
  unfold bitAt
  rw [Int.ediv_ediv_of_nonneg (by decide : (0 : Int) ≤ 2), Int.pow_succ, Int.mul_comm]
theorem chainOf_succ (n : Int) (i : Nat) : chainOf n (i + 1) = cstep (chainOf (n / 2) i) (n % 2 == 1) := by
  unfold chainOf
  rw [List.range_succ, List.map_append, List.foldl_append]
  have e : (List.range i).map (fun j => bitAt n (i + 1 - 1 - j)) = (List.range i).map (fun j => bitAt (n / 2) (i - 1 - j)) := by
    refine List.map_congr_left fun j hj => ?_
    have := List.mem_range.mp hj
    rw [bitAt_half, show i - 1 - j + 1 = i + 1 - 1 - j by omega]
  rw [e]
  simp [bitAt]
theorem climb_ne (i : Nat) : ∀ v ts, climb i v ts ≠ []
  | _, [] => by simp [climb]
  | _, _ :: _ => by simp [climb]
theorem climb_head (i : Nat) : ∀ v ts, (climb i v ts).headD 0 = v
  | _, [] => rfl
  | _, _ :: _ => rfl
theorem climb_len (i : Nat) : ∀ v ts, (climb i v ts).length = ts.length + 1
  | _, [] => rfl
  | v, t :: ts => by rw [climb, List.length_cons, climb_len i _ ts]; rfl
theorem pow_two {i t : Nat} (h : t < i) : (2 : Int) ^ (i + 1 - 1 - t) = 2 ^ (i - 1 - t) * 2 := by
  rw [← Int.pow_succ, show i + 1 - 1 - t = i - 1 - t + 1 by omega]
theorem climb_odd (i : Nat) : ∀ (ts : List Nat) (v : Int), (∀ t ∈ ts, t < i) → (climb i v ts).map (fun one => one * 2 + 1) = climb (i + 1) (v * 2 + 1) ts
  | [], _, _ => rfl
  | t :: ts, v, h => by
    rw [climb, climb, List.map_cons, climb_odd i ts _ fun x hx => h x (.tail _ hx), pow_two (h t (.head _))]
    rw [show (v + 2 ^ (i - 1 - t)) * 2 + 1 = v * 2 + 1 + 2 ^ (i - 1 - t) * 2 by omega]
theorem climb_even (i : Nat) : ∀ (ts : List Nat) (v : Int), (∀ t ∈ ts, t < i) → (climb i v ts).map (fun one => one * 2) = climb (i + 1) (v * 2) ts
  | [], _, _ => rfl
  | t :: ts, v, h => by
    rw [climb, climb, List.map_cons, climb_even i ts _ fun x hx => h x (.tail _ hx), pow_two (h t (.head _))]
    rw [show (v + 2 ^ (i - 1 - t)) * 2 = v * 2 + 2 ^ (i - 1 - t) * 2 by omega]
def ThOk (i : Nat) (st : List Nat × Nat) : Prop := (∀ t ∈ st.1, t < i) ∧ st.2 ≤ st.1.length ∧ st.1.length ≤ i
theorem tstep_ok {i : Nat} {st : List Nat × Nat} {b : Bool} (h : ThOk i st) : ThOk (i + 1) (tstep i st b) := by
  obtain ⟨h1, h2, h3⟩ := h
  have hc : ∀ t ∈ i :: st.1, t < i + 1 := fun t ht => by
    rcases List.mem_cons.mp ht with rfl | ht
    · omega
    · have := h1 t ht; omega
  unfold tstep
  split
  · exact ⟨hc, by simp; omega, by simp; omega⟩
  · split
    · exact ⟨hc, by simp, by simp; omega⟩
    · exact ⟨fun t ht => by have := h1 t (List.mem_of_mem_tail ht); omega, by simp; omega, by simp; omega⟩
theorem things_ok : ∀ (i : Nat) (n : Int), ThOk i (things n i)
  | 0, _ => ⟨(fun t ht => by cases ht), Nat.le_refl _, Nat.le_refl _⟩
  | i + 1, n => by rw [things_succ]; exact tstep_ok (things_ok i (n / 2))
theorem chain_climb : ∀ (i : Nat) (n : Int), ∃ lo, chainOf n i = (climb i lo (things n i).1, (things n i).2)
  | 0, _ => ⟨0, rfl⟩
  | i + 1, n => by
    obtain ⟨lo, h⟩ := chain_climb i (n / 2)
    obtain ⟨k1, k2, k3⟩ := things_ok i (n / 2)
    rw [chainOf_succ, h, things_succ]
    generalize things (n / 2) i = st at h k1 k2 k3
    obtain ⟨ts, at_⟩ := st
    unfold cstep tstep
    dsimp only at k1 k2 k3 ⊢
    have hp0 : (2 : Int) ^ (i + 1 - 1 - i) = 1 := by rw [show i + 1 - 1 - i = 0 by omega]; rfl
    split
    · refine ⟨lo * 2, ?_⟩
      dsimp only
      rw [climb_head, climb, climb_odd i ts lo k1, hp0]
    · split
      · refine ⟨lo * 2, ?_⟩
        dsimp only
        rw [climb_head, climb, climb_odd i ts lo k1, hp0]
      · cases ts with
        | nil => simp at k2; omega
        | cons t ts =>
          refine ⟨(lo + 2 ^ (i - 1 - t)) * 2, ?_⟩
          simp only [climb, List.tail_cons]
          rw [climb_even i ts _ fun x hx => k1 x (.tail _ hx)]
theorem half_even (x : Int) : x * 2 / 2 = x ∧ (x * 2 % 2 == 1) = false := ⟨by omega, by rw [beq_eq_false_iff_ne]; omega⟩
theorem half_odd (x : Int) : (x * 2 + 1) / 2 = x ∧ ((x * 2 + 1) % 2 == 1) = true := ⟨by omega, by rw [beq_iff_eq]; omega⟩
/-- the members of a chain have the same chain, each its own place -/
theorem chain_member : ∀ (i : Nat) (n : Int) (k : Nat) (y : Int), (chainOf n i).1[k]? = some y → chainOf y i = ((chainOf n i).1, k)
  | 0, n, k, y, h => by
    have h' : ([0] : List Int)[k]? = some y := h
    cases k with
    | zero => rfl
    | succ k => simp at h'
  | i + 1, n, k, y, h => by
    have ih := chain_member i (n / 2)
    obtain ⟨c1, c2, c3⟩ := chainOf_ok (number := n / 2) (size := i)
    rw [chainOf_succ] at h ⊢
    rw [chainOf_succ]
    generalize chainOf (n / 2) i = st at h ih c1 c2 c3
    obtain ⟨xs, a⟩ := st
    dsimp only at h ih c3
    have hx0 : xs[0]? = some (xs.headD 0) := by
      cases xs with
      | nil => simp at c3
      | cons x xs => rfl
    have long : ∀ k y, ((xs.headD 0 * 2) :: xs.map (fun one => one * 2 + 1))[k]? = some y → cstep (chainOf (y / 2) i) (y % 2 == 1) = ((xs.headD 0 * 2) :: xs.map (fun one => one * 2 + 1), k) := by
      intro k y h
      cases k with
      | zero =>
        cases h
        rw [(half_even _).1, (half_even _).2, ih 0 _ hx0]
        rfl
      | succ k =>
        rw [List.getElem?_cons_succ, List.getElem?_map] at h
        cases hk : xs[k]? with
        | none => rw [hk] at h; cases h
        | some z =>
          rw [hk] at h; cases h
          rw [(half_odd _).1, (half_odd _).2, ih k z hk]
          rfl
    unfold cstep at h ⊢
    dsimp only at h ⊢
    split at h
    · rename_i hb
      have := long k y h
      unfold cstep at this
      simp only [hb, if_true]
      exact this
    · rename_i hb
      split at h
      · rename_i ha
        have := long k y h
        unfold cstep at this
        simp only [hb, ha, if_true]
        exact this
      · rename_i ha
        rw [List.getElem?_map] at h
        cases hk : xs.tail[k]? with
        | none => rw [hk] at h; cases h
        | some z =>
          rw [hk] at h; cases h
          have hk' : xs[k + 1]? = some z := by rw [← List.getElem?_tail]; exact hk
          rw [(half_even _).1, (half_even _).2, ih (k + 1) z hk']
          simp [hb, ha]

/-! what normpath leaves of the two paths -/
def fronts (n : Int) (i : Nat) : List Str := (List.range i).map fun t => if bitAt n (i - 1 - t) then natStr t else Str.ofString ".."
def behinds (n : Int) (i : Nat) : List Str := ((List.range i).map fun t => if bitAt n (i - 1 - t) then Str.ofString ".." else natStr t).reverse
theorem fronts_succ (n : Int) (i : Nat) : fronts n (i + 1) = fronts (n / 2) i ++ [if n % 2 == 1 then natStr i else Str.ofString ".."] := by
  unfold fronts
  rw [List.range_succ, List.map_append]
  congr 1
  · refine List.map_congr_left fun j hj => ?_
    have := List.mem_range.mp hj
    rw [bitAt_half, show i - 1 - j + 1 = i + 1 - 1 - j by omega]
  · simp [bitAt]
theorem behinds_succ (n : Int) (i : Nat) : behinds n (i + 1) = (if n % 2 == 1 then Str.ofString ".." else natStr i) :: behinds (n / 2) i := by
  unfold behinds
  rw [List.range_succ, List.map_append, List.reverse_append]
  have e : (List.range i).map (fun t => if bitAt n (i + 1 - 1 - t) then Str.ofString ".." else natStr t) = (List.range i).map (fun t => if bitAt (n / 2) (i - 1 - t) then Str.ofString ".." else natStr t) := by
    refine List.map_congr_left fun j hj => ?_
    have := List.mem_range.mp hj
    rw [bitAt_half, show i - 1 - j + 1 = i + 1 - 1 - j by omega]
  rw [e]
  simp [bitAt]
theorem nat_name {t : Nat} (h : t < 24) : natStr t ≠ Str.ofString "" ∧ natStr t ≠ Str.ofString "." ∧ natStr t ≠ Str.ofString ".." := by
  have h' : ∀ k : Fin 24, natStr k.val ≠ Str.ofString "" ∧ natStr k.val ≠ Str.ofString "." ∧ natStr k.val ≠ Str.ofString ".." := by decide +kernel
  exact h' ⟨t, h⟩
theorem dots_name : Str.ofString ".." ≠ Str.ofString "" ∧ Str.ofString ".." ≠ Str.ofString "." := by decide +kernel
theorem nst_name {acc : List Str} {t : Nat} (h : t < 24) : nstep acc (natStr t) = acc ++ [natStr t] := by
  obtain ⟨h1, h2, h3⟩ := nat_name h
  unfold nstep
  rw [if_neg (fun e => e.elim h1 h2), if_pos (.inl h3)]
theorem nst_dots (d : Nat) : nstep (List.replicate d (Str.ofString "..")) (Str.ofString "..") = List.replicate (d + 1) (Str.ofString "..") := by
  unfold nstep
  rw [if_neg (fun e => e.elim dots_name.1 dots_name.2)]
  cases d with
  | zero => rw [if_pos (.inr (.inl rfl))]; rfl
  | succ d => rw [if_pos (.inr (.inr (by rw [List.replicate_succ', List.getLast?_append]; rfl)))]; rw [← List.replicate_succ']
theorem nst_pop {acc : List Str} {t : Nat} (h : t < 24) : nstep (acc ++ [natStr t]) (Str.ofString "..") = acc := by
  unfold nstep
  rw [if_neg (fun e => e.elim dots_name.1 dots_name.2)]
  rw [if_neg (by
    rintro (e | e | e)
    · exact e rfl
    · simp at e
    · rw [List.getLast?_append] at e
      exact (nat_name h).2.2 (Option.some.inj e)), List.dropLast_concat]
theorem nst_empty (acc : List Str) : nstep acc (Str.ofString "") = acc := by unfold nstep; rw [if_pos (.inl rfl)]
theorem nst_dot (acc : List Str) : nstep acc (Str.ofString ".") = acc := by unfold nstep; rw [if_pos (.inr rfl)]
theorem front_fold : ∀ (i : Nat) (n : Int), i ≤ 24 → (fronts n i).foldl nstep [] = dueFrontL (things n i).1 (things n i).2
  | 0, _, _ => rfl
  | i + 1, n, hi => by
    have ih := front_fold i (n / 2) (by omega)
    obtain ⟨k1, k2, k3⟩ := things_ok i (n / 2)
    rw [fronts_succ, things_succ, List.foldl_append, ih, List.foldl_cons, List.foldl_nil]
    generalize things (n / 2) i = st at k1 k2 k3
    obtain ⟨ts, a⟩ := st
    dsimp only at k1 k2 k3
    unfold tstep dueFrontL
    split
    · dsimp only
      rw [nst_name (by omega), List.append_assoc, List.length_cons, List.map_cons, List.take_succ_cons, List.reverse_cons, show ts.length + 1 - (a + 1) = ts.length - a by omega]
    · dsimp only
      split
      · rename_i h0
        have h0' : a = 0 := h0
        subst h0'
        simp only [List.take_zero, List.reverse_nil, List.append_nil, Nat.sub_zero, List.length_cons]
        exact nst_dots _
      · rename_i h0
        cases ts with
        | nil => simp at k2; omega
        | cons t ts =>
          obtain ⟨a', rfl⟩ : ∃ a', a = a' + 1 := ⟨a - 1, by omega⟩
          simp only [List.length_cons, List.map_cons, List.take_succ_cons, List.reverse_cons, List.tail_cons, Nat.add_sub_cancel]
          have ht : t < 24 := by have := k1 t (.head _); omega
          rw [← List.append_assoc, nst_pop ht]
          try rw [show ts.length + 1 - (a' + 1) = ts.length - a' by omega]
theorem behind_fold : ∀ (i : Nat) (n : Int) (d : Nat) (ns : List Nat), i ≤ 24 → (∀ t ∈ ns, t < 24) → (behinds n i).foldl nstep (List.replicate d (Str.ofString "..") ++ ns.map natStr) =
      List.replicate (d + ((things n i).2 - ns.length)) (Str.ofString "..") ++ (ns.take (ns.length - (things n i).2)).map natStr ++ ((things n i).1.drop (things n i).2).map natStr
  | 0, n, d, ns, _, _ => by simp [behinds, things]
  | i + 1, n, d, ns, hi, hns => by
    obtain ⟨k1, k2, k3⟩ := things_ok i (n / 2)
    rw [behinds_succ, things_succ, List.foldl_cons]
    have ih := behind_fold i (n / 2)
    generalize things (n / 2) i = st at ih k1 k2 k3
    obtain ⟨ts, a⟩ := st
    dsimp only at ih k1 k2 k3
    unfold tstep
    split
    · dsimp only
      rcases List.eq_nil_or_concat ns with rfl | ⟨ns', x, rfl⟩
      · rw [List.map_nil, List.append_nil, nst_dots]
        have := ih (d + 1) [] (by omega) (fun t ht => by cases ht)
        rw [List.map_nil, List.append_nil] at this
        rw [this]
        simp only [List.length_nil, Nat.sub_zero, List.take_nil, List.map_nil, List.append_nil, List.drop_succ_cons]
        rw [show d + 1 + a = d + (a + 1) by omega]
      · rw [List.concat_eq_append] at hns ⊢
        rw [List.map_append, List.map_cons, List.map_nil, ← List.append_assoc, nst_pop (hns x (by simp)), ih d ns' (by omega) fun t ht => hns t (by simp [ht])]
        simp only [List.length_append, List.length_cons, List.length_nil, List.drop_succ_cons]
        rw [show a + 1 - (ns'.length + (0 + 1)) = a - ns'.length by omega, show ns'.length + (0 + 1) - (a + 1) = ns'.length - a by omega, List.take_append_of_le_length (by omega)]
    · rw [nst_name (by omega)]
      have := ih d (ns ++ [i]) (by omega) (fun t ht => by
        rcases List.mem_append.mp ht with ht | ht
        · exact hns t ht
        · rw [List.mem_singleton.mp ht]; omega)
      rw [List.map_append, List.map_cons, List.map_nil, ← List.append_assoc] at this
      rw [this]
      split
      · rename_i h0
        have h0' : a = 0 := h0
        subst h0'
        simp [List.take_of_length_le]
      · rename_i h0
        have h0' : a ≠ 0 := h0
        dsimp only
        simp only [List.length_append, List.length_cons, List.length_nil]
        rw [show a - (ns.length + (0 + 1)) = a - 1 - ns.length by omega, show ns.length + (0 + 1) - a = ns.length - (a - 1) by omega, List.take_append_of_le_length (by omega)]
        cases ts with
        | nil => simp at k2; omega
        | cons t ts =>
          rw [List.tail_cons, show (t :: ts).drop a = ts.drop (a - 1) by
            obtain ⟨a', rfl⟩ : ∃ a', a = a' + 1 := ⟨a - 1, by omega⟩
            rfl]
/-! the signs of a set and what is read off them -/
theorem flat6 (p : Int) (ps : List Int) : ((p :: ps).flatMap fun p => ([5, 4, 3, 2, 1, 0] : List Int).map fun k => p / 2 ^ k.toNat % 2 == 1) = (p / 32 % 2 == 1) :: (p / 16 % 2 == 1) :: (p / 8 % 2 == 1) :: (p / 4 % 2 == 1) :: (p / 2 % 2 == 1) :: (p / 1 % 2 == 1) :: (ps.flatMap fun p => ([5, 4, 3, 2, 1, 0] : List Int).map fun k => p / 2 ^ k.toNat % 2 == 1) := rfl
theorem q256 (z : Int) : 0 ≤ z % 256 ∧ z % 256 < 256 := ⟨Int.emod_nonneg _ (by decide), Int.emod_lt_of_pos _ (by decide)⟩
theorem q64 (z : Int) : 0 ≤ z % 64 ∧ z % 64 < 64 := ⟨Int.emod_nonneg _ (by decide), Int.emod_lt_of_pos _ (by decide)⟩
/-- a byte's upper six bits, two bits and four, four and two -/
theorem up6 (z : Int) : z % 256 / 4 = z / 4 % 64 := by omega
theorem two4 (z : Int) : z / 256 % 256 % 4 * 16 + z % 256 / 16 = z / 16 % 64 := by omega
theorem four2 (z : Int) : z / 256 % 256 % 16 * 4 + z % 256 / 64 = z / 64 % 64 := by omega
theorem lo6 (z : Int) : z % 256 % 64 = z % 64 := Int.emod_emod_of_dvd z (by decide)
theorem lo2 (z : Int) : z % 256 % 4 * 16 = z * 16 % 64 := by omega
theorem lo4 (z : Int) : z % 256 % 16 * 4 = z * 4 % 64 := by omega
theorem d1 (y : Int) : y / 2 ^ 0 = y := Int.ediv_one y
theorem dq (y : Int) {a c m : Int} (h : 0 ≤ a) (e : a * c = m) : y / m = y / a / c := by rw [Int.ediv_ediv_of_nonneg h, e]
theorem e3a (y : Int) : y / 2 ^ 16 % 256 / 4 = y / 262144 % 64 := by rw [up6, dq y (a := 2 ^ 16) (c := 4) (m := 262144) (by decide) (by decide)]
theorem e3b (y : Int) : y / 2 ^ 16 % 256 % 4 * 16 + y / 2 ^ 8 % 256 / 16 = y / 4096 % 64 := by rw [dq y (a := 2 ^ 8) (c := 256) (m := 2 ^ 16) (by decide) (by decide), two4, dq y (a := 2 ^ 8) (c := 16) (m := 4096) (by decide) (by decide)]
theorem e3c (y : Int) : y / 2 ^ 8 % 256 % 16 * 4 + y / 2 ^ 0 % 256 / 64 = y / 64 % 64 := by rw [d1]; exact four2 y
theorem e3d (y : Int) : y / 2 ^ 0 % 256 % 64 = y % 64 := by rw [d1, lo6]
theorem e2a (y : Int) : y / 2 ^ 8 % 256 / 4 = y / 1024 % 64 := by rw [up6, dq y (a := 2 ^ 8) (c := 4) (m := 1024) (by decide) (by decide)]
theorem e2b (y : Int) : y / 2 ^ 8 % 256 % 4 * 16 + y / 2 ^ 0 % 256 / 16 = y / 16 % 64 := by rw [d1]; exact two4 y
theorem e2c (y : Int) : y / 2 ^ 0 % 256 % 16 * 4 = y * 4 % 64 := by rw [d1, lo4]
theorem e1a (y : Int) : y / 2 ^ 0 % 256 / 4 = y / 4 % 64 := by rw [d1, up6]
theorem e1b (y : Int) : y / 2 ^ 0 % 256 % 4 * 16 = y * 16 % 64 := by rw [d1, lo2]
theorem codes1 (y : Int) : codes y 1 = [b64sign (y / 4 % 64), b64sign (y * 16 % 64), 61, 61] := by
  show [b64sign (y / 2 ^ 0 % 256 / 4), b64sign (y / 2 ^ 0 % 256 % 4 * 16), 61, 61] = _
  rw [e1a, e1b]
theorem codes2 (y : Int) : codes y 2 = [b64sign (y / 1024 % 64), b64sign (y / 16 % 64), b64sign (y * 4 % 64), 61] := by
  show [b64sign (y / 2 ^ 8 % 256 / 4), b64sign (y / 2 ^ 8 % 256 % 4 * 16 + y / 2 ^ 0 % 256 / 16), b64sign (y / 2 ^ 0 % 256 % 16 * 4), 61] = _
  rw [e2a, e2b, e2c]
theorem codes3 (y : Int) : codes y 3 = [b64sign (y / 262144 % 64), b64sign (y / 4096 % 64), b64sign (y / 64 % 64), b64sign (y % 64)] := by
  show [b64sign (y / 2 ^ 16 % 256 / 4), b64sign (y / 2 ^ 16 % 256 % 4 * 16 + y / 2 ^ 8 % 256 / 16), b64sign (y / 2 ^ 8 % 256 % 16 * 4 + y / 2 ^ 0 % 256 / 64), b64sign (y / 2 ^ 0 % 256 % 64)] = _
  rw [e3a, e3b, e3c, e3d]
theorem small64 {z m : Int} (h0 : 0 ≤ z) (hm : 0 < m) (h : z < m * 64) : z / m % 64 = z / m := Int.emod_eq_of_lt (Int.ediv_nonneg h0 (Int.le_of_lt hm)) (Int.ediv_lt_of_lt_mul hm (by rw [Int.mul_comm]; exact h))
theorem places1 {y : Int} (h0 : 0 ≤ y) (h1 : y < 256) : placesOf y 1 = [y / 4, y % 4 * 16] := by
  unfold placesOf
  rw [codes1]; simp [List.filter_cons, sign_ne]
  rw [sign_find _ (q64 _).1 (q64 _).2, sign_find _ (q64 _).1 (q64 _).2]
  exact ⟨small64 h0 (by decide) h1, by omega⟩
theorem places2 {y : Int} (h0 : 0 ≤ y) (h1 : y < 65536) : placesOf y 2 = [y / 1024, y / 16 % 64, y % 16 * 4] := by
  unfold placesOf
  rw [codes2]; simp [List.filter_cons, sign_ne]
  rw [sign_find _ (q64 _).1 (q64 _).2, sign_find _ (q64 _).1 (q64 _).2, sign_find _ (q64 _).1 (q64 _).2]
  exact ⟨small64 h0 (by decide) h1, rfl, by omega⟩
theorem places3 {y : Int} (h0 : 0 ≤ y) (h1 : y < 16777216) : placesOf y 3 = [y / 262144, y / 4096 % 64, y / 64 % 64, y % 64] := by
  unfold placesOf
  rw [codes3]; simp [List.filter_cons, sign_ne]
  rw [sign_find _ (q64 _).1 (q64 _).2, sign_find _ (q64 _).1 (q64 _).2, sign_find _ (q64 _).1 (q64 _).2, sign_find _ (q64 _).1 (q64 _).2]
  exact ⟨small64 h0 (by decide) h1, rfl, rfl, rfl⟩
theorem cons_bit {a b : Int} {l r : List Bool} (h : a = b) (t : l = r) : (a == 1) :: l = (b == 1) :: r := by rw [h, t]
theorem m64_32 (z : Int) : z % 64 / 32 % 2 = z / 32 % 2 := by omega
theorem m64_16 (z : Int) : z % 64 / 16 % 2 = z / 16 % 2 := by omega
theorem m64_8 (z : Int) : z % 64 / 8 % 2 = z / 8 % 2 := by omega
theorem m64_4 (z : Int) : z % 64 / 4 % 2 = z / 4 % 2 := by omega
theorem m64_2 (z : Int) : z % 64 / 2 % 2 = z / 2 % 2 := by omega
theorem m64_1 (z : Int) : z % 64 / 1 % 2 = z / 1 % 2 := by omega
theorem dd (y : Int) {a c m : Int} (h : 0 ≤ a) (e : a * c = m) : y / a / c % 2 = y / m % 2 := by rw [Int.ediv_ediv_of_nonneg h, e]
theorem t16_32 (y : Int) : y % 4 * 16 / 32 % 2 = y / 2 % 2 := by omega
theorem t16_16 (y : Int) : y % 4 * 16 / 16 % 2 = y / 1 % 2 := by omega
theorem t4_32 (y : Int) : y % 16 * 4 / 32 % 2 = y / 8 % 2 := by omega
theorem t4_16 (y : Int) : y % 16 * 4 / 16 % 2 = y / 4 % 2 := by omega
theorem t4_8 (y : Int) : y % 16 * 4 / 8 % 2 = y / 2 % 2 := by omega
theorem t4_4 (y : Int) : y % 16 * 4 / 4 % 2 = y / 1 % 2 := by omega
theorem has_bits {y : Int} {octets : Nat} (ho1 : 1 ≤ octets) (ho3 : octets ≤ 3) (h0 : 0 ≤ y) (h1 : y < 2 ^ (8 * octets)) : ∃ r, hasOf y octets = (List.range (8 * octets)).map (fun t => bitAt y (8 * octets - 1 - t)) ++ r := by
  have h3 : octets = 1 ∨ octets = 2 ∨ octets = 3 := by omega
  rcases h3 with rfl | rfl | rfl
  · unfold hasOf
    rw [places1 h0 h1, flat6, flat6]
    refine ⟨[y % 4 * 16 / 8 % 2 == 1, y % 4 * 16 / 4 % 2 == 1, y % 4 * 16 / 2 % 2 == 1, y % 4 * 16 / 1 % 2 == 1], ?_⟩
    show _ = (y / 2 ^ 7 % 2 == 1) :: (y / 2 ^ 6 % 2 == 1) :: (y / 2 ^ 5 % 2 == 1) :: (y / 2 ^ 4 % 2 == 1) :: (y / 2 ^ 3 % 2 == 1) :: (y / 2 ^ 2 % 2 == 1) :: (y / 2 ^ 1 % 2 == 1) :: (y / 2 ^ 0 % 2 == 1) :: _
    refine cons_bit (dd y (by decide) (by decide)) ?_
    refine cons_bit (dd y (by decide) (by decide)) ?_
    refine cons_bit (dd y (by decide) (by decide)) ?_
    refine cons_bit (dd y (by decide) (by decide)) ?_
    refine cons_bit (dd y (by decide) (by decide)) ?_
    refine cons_bit (dd y (by decide) (by decide)) ?_
    refine cons_bit (t16_32 y) ?_
    refine cons_bit (t16_16 y) ?_
    rfl
  · unfold hasOf
    rw [places2 h0 h1, flat6, flat6, flat6]
    refine ⟨[y % 16 * 4 / 2 % 2 == 1, y % 16 * 4 / 1 % 2 == 1], ?_⟩
    show _ = (y / 2 ^ 15 % 2 == 1) :: (y / 2 ^ 14 % 2 == 1) :: (y / 2 ^ 13 % 2 == 1) :: (y / 2 ^ 12 % 2 == 1) :: (y / 2 ^ 11 % 2 == 1) :: (y / 2 ^ 10 % 2 == 1) :: (y / 2 ^ 9 % 2 == 1) :: (y / 2 ^ 8 % 2 == 1) :: (y / 2 ^ 7 % 2 == 1) :: (y / 2 ^ 6 % 2 == 1) :: (y / 2 ^ 5 % 2 == 1) :: (y / 2 ^ 4 % 2 == 1) :: (y / 2 ^ 3 % 2 == 1) :: (y / 2 ^ 2 % 2 == 1) :: (y / 2 ^ 1 % 2 == 1) :: (y / 2 ^ 0 % 2 == 1) :: _
    refine cons_bit (dd y (by decide) (by decide)) ?_
    refine cons_bit (dd y (by decide) (by decide)) ?_
    refine cons_bit (dd y (by decide) (by decide)) ?_
    refine cons_bit (dd y (by decide) (by decide)) ?_
    refine cons_bit (dd y (by decide) (by decide)) ?_
    refine cons_bit (dd y (by decide) (by decide)) ?_
    refine cons_bit ((m64_32 _).trans (dd y (by decide) (by decide))) ?_
    refine cons_bit ((m64_16 _).trans (dd y (by decide) (by decide))) ?_
    refine cons_bit ((m64_8 _).trans (dd y (by decide) (by decide))) ?_
    refine cons_bit ((m64_4 _).trans (dd y (by decide) (by decide))) ?_
    refine cons_bit ((m64_2 _).trans (dd y (by decide) (by decide))) ?_
    refine cons_bit ((m64_1 _).trans (dd y (by decide) (by decide))) ?_
    refine cons_bit (t4_32 y) ?_
    refine cons_bit (t4_16 y) ?_
    refine cons_bit (t4_8 y) ?_
    refine cons_bit (t4_4 y) ?_
    rfl
  · unfold hasOf
    rw [places3 h0 h1, flat6, flat6, flat6, flat6]
    refine ⟨[], ?_⟩
    show _ = (y / 2 ^ 23 % 2 == 1) :: (y / 2 ^ 22 % 2 == 1) :: (y / 2 ^ 21 % 2 == 1) :: (y / 2 ^ 20 % 2 == 1) :: (y / 2 ^ 19 % 2 == 1) :: (y / 2 ^ 18 % 2 == 1) :: (y / 2 ^ 17 % 2 == 1) :: (y / 2 ^ 16 % 2 == 1) :: (y / 2 ^ 15 % 2 == 1) :: (y / 2 ^ 14 % 2 == 1) :: (y / 2 ^ 13 % 2 == 1) :: (y / 2 ^ 12 % 2 == 1) :: (y / 2 ^ 11 % 2 == 1) :: (y / 2 ^ 10 % 2 == 1) :: (y / 2 ^ 9 % 2 == 1) :: (y / 2 ^ 8 % 2 == 1) :: (y / 2 ^ 7 % 2 == 1) :: (y / 2 ^ 6 % 2 == 1) :: (y / 2 ^ 5 % 2 == 1) :: (y / 2 ^ 4 % 2 == 1) :: (y / 2 ^ 3 % 2 == 1) :: (y / 2 ^ 2 % 2 == 1) :: (y / 2 ^ 1 % 2 == 1) :: (y / 2 ^ 0 % 2 == 1) :: []
    refine cons_bit (dd y (by decide) (by decide)) ?_
    refine cons_bit (dd y (by decide) (by decide)) ?_
    refine cons_bit (dd y (by decide) (by decide)) ?_
    refine cons_bit (dd y (by decide) (by decide)) ?_
    refine cons_bit (dd y (by decide) (by decide)) ?_
    refine cons_bit (dd y (by decide) (by decide)) ?_
    refine cons_bit ((m64_32 _).trans (dd y (by decide) (by decide))) ?_
    refine cons_bit ((m64_16 _).trans (dd y (by decide) (by decide))) ?_
    refine cons_bit ((m64_8 _).trans (dd y (by decide) (by decide))) ?_
    refine cons_bit ((m64_4 _).trans (dd y (by decide) (by decide))) ?_
    refine cons_bit ((m64_2 _).trans (dd y (by decide) (by decide))) ?_
    refine cons_bit ((m64_1 _).trans (dd y (by decide) (by decide))) ?_
    refine cons_bit ((m64_32 _).trans (dd y (by decide) (by decide))) ?_
    refine cons_bit ((m64_16 _).trans (dd y (by decide) (by decide))) ?_
    refine cons_bit ((m64_8 _).trans (dd y (by decide) (by decide))) ?_
    refine cons_bit ((m64_4 _).trans (dd y (by decide) (by decide))) ?_
    refine cons_bit ((m64_2 _).trans (dd y (by decide) (by decide))) ?_
    refine cons_bit ((m64_1 _).trans (dd y (by decide) (by decide))) ?_
    refine cons_bit (m64_32 y) ?_
    refine cons_bit (m64_16 y) ?_
    refine cons_bit (m64_8 y) ?_
    refine cons_bit (m64_4 y) ?_
    refine cons_bit (m64_2 y) ?_
    refine cons_bit (m64_1 y) ?_
    rfl
theorem has_get {y : Int} {octets : Nat} (ho1 : 1 ≤ octets) (ho3 : octets ≤ 3) (h0 : 0 ≤ y) (h1 : y < 2 ^ (8 * octets)) {t : Nat} (ht : t < 8 * octets) : (hasOf y octets).getD t false = bitAt y (8 * octets - 1 - t) := by
  obtain ⟨r, e⟩ := has_bits ho1 ho3 h0 h1
  rw [e, List.getD_eq_getElem?_getD, List.getElem?_append_left (by simpa using ht), List.getElem?_map, List.getElem?_range ht]; rfl
theorem frontL_eq {y : Int} {octets : Nat} (ho1 : 1 ≤ octets) (ho3 : octets ≤ 3) (h0 : 0 ≤ y) (h1 : y < 2 ^ (8 * octets)) : frontL y octets = fronts y (8 * octets) := by
  unfold frontL fronts
  rw [List.map_map]
  refine List.map_congr_left fun t ht => ?_
  have ht := List.mem_range.mp ht
  show frontF _ ((0 : Int) + (t : Int) * 1) = _
  rw [show (0 : Int) + (t : Int) * 1 = (t : Int) by omega]
  unfold frontF natStr
  rw [Int.toNat_natCast, has_get ho1 ho3 h0 h1 ht]
theorem behindL_eq {y : Int} {octets : Nat} (ho1 : 1 ≤ octets) (ho3 : octets ≤ 3) (h0 : 0 ≤ y) (h1 : y < 2 ^ (8 * octets)) : behindL y octets = behinds y (8 * octets) := by
  unfold behindL behinds
  rw [List.map_map, ← List.map_reverse]
  apply List.ext_getElem
  · simp
  · intro t h2 h3
    have ht : t < 8 * octets := by simpa using h2
    simp only [List.getElem_map, List.getElem_range, List.getElem_reverse, List.length_range]
    show behindF _ (8 * (octets : Int) - 1 + (t : Int) * -1) = _
    rw [show 8 * (octets : Int) - 1 + (t : Int) * -1 = ((8 * octets - 1 - t : Nat) : Int) by omega]
    unfold behindF natStr
    rw [Int.toNat_natCast, has_get ho1 ho3 h0 h1 (by omega)]
theorem climb_get (i : Nat) : ∀ (ts : List Nat) (v : Int) (k t : Nat), ts[k]? = some t → ∃ p q, (climb i v ts)[k]? = some p ∧ (climb i v ts)[k + 1]? = some q ∧ q - p = 2 ^ (i - 1 - t)
  | t :: ts, v, 0, t', h => by
    cases h
    refine ⟨v, v + 2 ^ (i - 1 - t), rfl, ?_, by omega⟩
    cases ts <;> rfl
  | _ :: ts, v, k + 1, t, h => by
    obtain ⟨p, q, h1, h2, h3⟩ := climb_get i ts _ k t (by simpa using h)
    exact ⟨p, q, h1, h2, h3⟩
theorem spot_of {b : Int} {i a0 a : Nat} {xs : List Int} {y : Int} (hc : chainOf b i = (xs, a0)) (hy : xs[a]? = some y) :
    (∃ lo, xs = climb i lo (things y i).1) ∧ a = (things y i).2 ∧ 0 ≤ y ∧ y < 2 ^ i := by
  have h1 := chain_member i b a y (by rw [hc]; exact hy)
  rw [hc] at h1
  obtain ⟨lo, h2⟩ := chain_climb i y
  rw [h1] at h2
  obtain ⟨c1, _, _⟩ := chainOf_ok (number := b) (size := i)
  rw [hc] at c1
  exact ⟨⟨lo, congrArg Prod.fst h2⟩, congrArg Prod.snd h2, c1 y (List.mem_of_getElem? hy)⟩
theorem no_slash {p : Str} (h : p.cps.toList.all (fun c => c != 47) = true) : 47 ∉ p.cps.toList := fun hm => by
  have := List.all_eq_true.mp h 47 hm
  cases this
theorem split_front {y : Int} {octets : Nat} (ho3 : octets ≤ 3) : Txt.split (frontPath y octets) (Str.ofString "/") = Str.ofString "." :: frontL y octets := by
  rw [front_path ho3, slash_eq, ← StrLaws.glued_eq_join]
  refine split_join (by decide) (by simp) fun p hp => ?_
  rcases List.mem_cons.mp hp with rfl | hp
  · exact part_dot.2
  · exact (front_parts ho3 p hp).1.2
theorem split_behind {y : Int} {octets : Nat} (ho1 : 1 ≤ octets) (ho3 : octets ≤ 3) : Txt.split (behindPath y octets) (Str.ofString "/") = behindL y octets ++ [Str.ofString ""] := by
  rw [behind_path ho1 ho3, slash_eq, ← StrLaws.glued_eq_join]
  refine split_join (by decide) (by simp) fun p hp => ?_
  rcases List.mem_append.mp hp with hp | hp
  · exact (behind_parts ho3 p hp).1.2
  · rw [List.mem_singleton.mp hp, empty_eq]; simp
theorem normOf_dot (comps : List Str) : normOf comps = orDot (Txt.join (Str.ofString "/") (comps.foldl nstep [])) := rfl
theorem norm_front {y : Int} {octets : Nat} (ho1 : 1 ≤ octets) (ho3 : octets ≤ 3) (h0 : 0 ≤ y) (h1 : y < 2 ^ (8 * octets)) :
    normOf (Txt.split (frontPath y octets) (Str.ofString "/")) = orDot (Txt.join (Str.ofString "/") (dueFrontL (things y (8 * octets)).1 (things y (8 * octets)).2)) := by
  rw [split_front ho3, normOf_dot, List.foldl_cons, nst_dot, frontL_eq ho1 ho3 h0 h1, front_fold _ _ (by omega)]
theorem norm_behind {y : Int} {octets : Nat} (ho1 : 1 ≤ octets) (ho3 : octets ≤ 3) (h0 : 0 ≤ y) (h1 : y < 2 ^ (8 * octets)) :
    normOf (Txt.split (behindPath y octets) (Str.ofString "/")) = orDot (Txt.join (Str.ofString "/") (dueBehindL (things y (8 * octets)).1 (things y (8 * octets)).2)) := by
  have := behind_fold (8 * octets) y 0 [] (by omega) (fun t ht => by cases ht)
  simp only [List.replicate_zero, List.map_nil, List.append_nil, List.length_nil, Nat.sub_zero, Nat.zero_add, List.take_nil] at this
  rw [split_behind ho1 ho3, normOf_dot, List.foldl_append, behindL_eq ho1 ho3 h0 h1, this, List.foldl_cons, nst_empty, List.foldl_nil, dueBehindL, List.map_drop]
theorem text_app (xs ys : List Int) : textOf xs ++ textOf ys = textOf (xs ++ ys) := by
  apply Str.ext'
  simp [Str.cps_append, textOf]
theorem dt (y : Int) {a c m : Int} (h : 0 < c) (e : m * c = a) : y * c / a = y / m := by rw [← e]; exact Int.mul_ediv_mul_of_pos_left y m h
theorem due_text {y : Int} {octets : Nat} (ho1 : 1 ≤ octets) (ho3 : octets ≤ 3) (h0 : 0 ≤ y) (h1 : y < 2 ^ (8 * octets)) : dueText y octets = textOf (codes y octets) := by
  have hs : ∀ (z : Int) (l : List Int), Txt.join (Str.ofString "") (l.map (signF z)) = textOf (l.map fun k => b64sign (z / 2 ^ (6 * k).toNat % 64)) := by
    intro z l
    rw [← join_chr, List.map_map]; rfl
  have h3 : octets = 1 ∨ octets = 2 ∨ octets = 3 := by omega
  unfold dueText dueSigns
  rw [hs]
  rcases h3 with rfl | rfl | rfl
  · have e : Txt.mul (Str.ofString "=") (3 - ((1 : Nat) : Int)) = textOf [61, 61] := by decide +kernel
    rw [e, codes1, text_app]
    show textOf [b64sign (y * 16 / 64 % 64), b64sign (y * 16 / 1 % 64), 61, 61] = _
    rw [Int.ediv_one, dt y (m := 4) (by decide) (by decide)]
  · have e : Txt.mul (Str.ofString "=") (3 - ((2 : Nat) : Int)) = textOf [61] := by decide +kernel
    rw [e, codes2, text_app]
    show textOf [b64sign (y * 4 / 4096 % 64), b64sign (y * 4 / 64 % 64), b64sign (y * 4 / 1 % 64), 61] = _
    rw [Int.ediv_one, dt y (a := 4096) (m := 1024) (by decide) (by decide), dt y (a := 64) (m := 16) (by decide) (by decide)]
  · have e : Txt.mul (Str.ofString "=") (3 - ((3 : Nat) : Int)) = textOf [] := by decide +kernel
    rw [e, codes3, text_app]
    show textOf [b64sign (y * 1 / 262144 % 64), b64sign (y * 1 / 4096 % 64), b64sign (y * 1 / 64 % 64), b64sign (y * 1 / 1 % 64)] = _
    rw [Int.mul_one, Int.ediv_one]
theorem spot_due {b : Int} {octets a0 a : Nat} {xs : List Int} {y : Int} (ho1 : 1 ≤ octets) (ho3 : octets ≤ 3) (hc : chainOf b (8 * octets) = (xs, a0)) (hy : xs[a]? = some y) :
    ∃ ts : List Nat, xs.length = ts.length + 1 ∧ ts.length ≤ 24 ∧ (∀ t ∈ ts, t < 8 * octets) ∧ (∀ k t, ts[k]? = some t → ∃ p q, xs[k]? = some p ∧ xs[k + 1]? = some q ∧ q - p = 2 ^ (8 * octets - 1 - t)) ∧
      dueText y octets = textOf (codes y octets) ∧ orDot (Txt.join (Str.ofString "/") (dueFrontL ts a)) = normOf (Txt.split (frontPath y octets) (Str.ofString "/")) ∧ orDot (Txt.join (Str.ofString "/") (dueBehindL ts a)) = normOf (Txt.split (behindPath y octets) (Str.ofString "/")) := by
  obtain ⟨⟨lo, hx⟩, ha, h0, h1⟩ := spot_of hc hy
  obtain ⟨k1, k2, k3⟩ := things_ok (8 * octets) y
  refine ⟨(things y (8 * octets)).1, by rw [hx, climb_len], by omega, k1, fun k t hk => ?_, due_text ho1 ho3 h0 h1, ?_, ?_⟩
  · rw [hx]; exact climb_get _ _ _ _ _ hk
  · rw [norm_front ho1 ho3 h0 h1, ha]
  · rw [norm_behind ho1 ho3 h0 h1, ha]
theorem strOk_of {x : Str} (h : ∀ c ∈ x.cps.toList, c < 128) : PyData.strOk x = true := by
  unfold PyData.strOk
  rw [Array.all_eq_true']
  intro c hc
  have := h c (by simpa using hc)
  simp only [decide_eq_true_eq]; omega
theorem join_chars {s : Str} {P : Nat → Prop} (hs : ∀ c ∈ s.cps.toList, P c) : ∀ {ps : List Str}, (∀ p ∈ ps, ∀ c ∈ p.cps.toList, P c) → ∀ c ∈ (Str.join s ps).cps.toList, P c
  | [], _, c, hc => by simp [Str.join, Str.empty] at hc
  | [p], h, c, hc => h p (.head _) c hc
  | p :: q :: r, h, c, hc => by
    have ih := join_chars hs (ps := q :: r) fun x hx => h x (.tail _ hx)
    have hc' : c ∈ (p ++ s ++ Str.join s (q :: r)).cps.toList := hc
    rw [Str.cps_append, Str.cps_append, Array.toList_append, Array.toList_append, List.mem_append, List.mem_append] at hc'
    rcases hc' with (hc' | hc') | hc'
    · exact h p (.head _) c hc'
    · exact hs c hc'
    · exact ih c hc'
theorem nat_chars {t : Nat} (h : t < 24) : ∀ c ∈ (natStr t).cps.toList, c < 128 := by
  have h' : ∀ k : Fin 24, ∀ c ∈ (natStr k.val).cps.toList, c < 128 := by decide +kernel
  exact h' ⟨t, h⟩
theorem orDot_chars {x : Str} (h : ∀ c ∈ x.cps.toList, c < 128) : ∀ c ∈ (orDot x).cps.toList, c < 128 := by
  unfold orDot; split
  · rw [dot_eq]; intro c hc; simp at hc; omega
  · exact h
theorem stack_chars {d : Nat} {ks : List Nat} (h : ∀ k ∈ ks, k < 24) : ∀ c ∈ (orDot (Txt.join (Str.ofString "/") (List.replicate d (Str.ofString "..") ++ ks.map natStr))).cps.toList, c < 128 := by
  refine orDot_chars ?_
  rw [slash_eq, show Txt.join ⟨#[47]⟩ (List.replicate d (Str.ofString "..") ++ ks.map natStr) = Str.join ⟨#[47]⟩ (List.replicate d (Str.ofString "..") ++ ks.map natStr) from StrLaws.glued_eq_join _ _]
  refine join_chars (fun c hc => by simp at hc; omega) fun p hp => ?_
  rcases List.mem_append.mp hp with hp | hp
  · rw [List.eq_of_mem_replicate hp, dots_eq]; intro c hc; simp at hc; omega
  · obtain ⟨k, hk, rfl⟩ := List.mem_map.mp hp
    exact nat_chars (h k hk)
theorem front_form (ts : List Nat) (a : Nat) : dueFrontL ts a = List.replicate (ts.length - a) (Str.ofString "..") ++ ((ts.take a).reverse).map natStr := by
  unfold dueFrontL; rw [List.map_reverse, List.map_take]
theorem behind_form (ts : List Nat) (a : Nat) : dueBehindL ts a = List.replicate a (Str.ofString "..") ++ (ts.drop a).map natStr := by
  unfold dueBehindL; rw [List.map_drop]
theorem text_ok {y : Int} {octets : Nat} (ho1 : 1 ≤ octets) (ho3 : octets ≤ 3) (h0 : 0 ≤ y) (h1 : y < 2 ^ (8 * octets)) :
    PyData.strOk (textOf (codes y octets)) = true ∧ PyData.strOk (normOf (Txt.split (frontPath y octets) (Str.ofString "/"))) = true ∧ PyData.strOk (normOf (Txt.split (behindPath y octets) (Str.ofString "/"))) = true := by
  obtain ⟨k1, k2, k3⟩ := things_ok (8 * octets) y
  refine ⟨strOk_of fun c hc => ?_, strOk_of ?_, strOk_of ?_⟩
  · obtain ⟨n, hn, rfl⟩ := List.mem_map.mp (show c ∈ (codes y octets).map Int.toNat by simpa [textOf] using hc)
    have := codes_lt n hn; omega
  · rw [norm_front ho1 ho3 h0 h1, front_form]
    exact stack_chars fun k hk => by have := k1 k (List.mem_of_mem_take (List.mem_reverse.mp hk)); omega
  · rw [norm_behind ho1 ho3 h0 h1, behind_form]
    exact stack_chars fun k hk => by have := k1 k (List.mem_of_mem_drop hk); omega
/-- the row of the chain xs at a -/
def rowS (xs : List Int) (a : Nat) : List Int := (xs.take (a + 1)).reverse ++ xs.drop (a + 1)
theorem part_natStr {t : Nat} (h : t < 24) : Part (natStr t) := (part_nat (a := (t : Int)) (by omega) (by omega)).1
/-- the names that normpath leaves of a path -/
theorem names_left {d : Nat} {ks : List Nat} (h : ∀ k ∈ ks, k < 24) : (Txt.split (orDot (Txt.join (Str.ofString "/") (List.replicate d (Str.ofString "..") ++ ks.map natStr))) (Str.ofString "/")).filter (fun n => !(n == dots || n == dot)) = ks.map natStr := by
  have hf : ∀ L : List Str, L = List.replicate d (Str.ofString "..") ++ ks.map natStr → L.filter (fun n => !(n == dots || n == dot)) = ks.map natStr := by
    rintro L rfl
    rw [List.filter_append, List.filter_eq_nil_iff.mpr (fun p hp => by rw [List.eq_of_mem_replicate hp]; decide), List.nil_append, List.filter_eq_self.mpr]
    intro p hp
    obtain ⟨k, hk, rfl⟩ := List.mem_map.mp hp
    have := nat_name (h k hk)
    simp only [Bool.not_eq_true', Bool.or_eq_false_iff, beq_eq_false_iff_ne]
    exact ⟨this.2.2, this.2.1⟩
  have hp : ∀ p ∈ List.replicate d (Str.ofString "..") ++ ks.map natStr, Part p := fun p hp => by
    rcases List.mem_append.mp hp with hp | hp
    · rw [List.eq_of_mem_replicate hp]; exact part_dots
    · obtain ⟨k, hk, rfl⟩ := List.mem_map.mp hp
      exact part_natStr (h k hk)
  generalize hL : List.replicate d (Str.ofString "..") ++ ks.map natStr = L at hp
  have hf := hf L hL.symm
  cases L with
  | nil =>
    have hk : ks = [] := by
      have := (List.append_eq_nil_iff.mp hL).2
      simpa using this
    subst hk
    decide +kernel
  | cons p r =>
    have hj : Txt.join ⟨#[47]⟩ (p :: r) = Str.join ⟨#[47]⟩ (p :: r) := StrLaws.glued_eq_join _ _
    obtain ⟨c, hc, hh⟩ := part_head (hp p (.head _))
    have hne := (first_ne hc (join_head (s := ⟨#[47]⟩) hh r)).2
    rw [slash_eq, orDot_no (by rw [hj]; omega), split_join (by decide) (by simp) fun q hq => (hp q hq).2]
    exact hf
theorem short_left {L : List Str} (h : (L.map (·.length)).sum + L.length ≤ 500) : (orDot (Txt.join (Str.ofString "/") L)).length ≤ 512 := by
  have h1 : (Txt.join (Str.ofString "/") L).length ≤ 500 := by
    rw [slash_eq, show Txt.join ⟨#[47]⟩ L = Str.join ⟨#[47]⟩ L from StrLaws.glued_eq_join _ _]
    have := StrLaws.join_length_le ⟨#[47]⟩ L
    have h4 : (⟨#[47]⟩ : Str).length = 1 := rfl
    rw [h4] at this; omega
  unfold orDot; split
  · decide +kernel
  · omega
theorem row_down {i : Nat} {ts : List Nat} {lo : Int} : ∀ (k : Nat) (acc : List Int) (v : Int), (climb i lo ts)[k]? = some v → (((ts.take k).reverse.foldl (stepLess i) (acc, v)).1 = acc ++ ((climb i lo ts).take k).reverse)
  | 0, acc, v, _ => by simp
  | k + 1, acc, v, h => by
    have hl := (List.getElem?_eq_some_iff.mp h).1
    rw [climb_len] at hl
    have ht : ts[k]? = some (ts[k]'(by omega)) := List.getElem?_eq_getElem (by omega)
    obtain ⟨p, q, h1, h2, h3⟩ := climb_get i ts lo k _ ht
    rw [h] at h2; cases h2
    have e1 : ts.take (k + 1) = ts.take k ++ [ts[k]'(by omega)] := by rw [List.take_add_one, ht]; rfl
    have e2 : (climb i lo ts).take (k + 1) = (climb i lo ts).take k ++ [p] := by rw [List.take_add_one, h1]; rfl
    rw [e1, e2, List.reverse_append, List.reverse_append, List.reverse_singleton, List.reverse_singleton, List.singleton_append, List.singleton_append, List.foldl_cons]
    unfold stepLess
    dsimp only
    rw [show v - 2 ^ (i - 1 - ts[k]'(by omega)) = p by omega]
    have ih := row_down (i := i) (ts := ts) (lo := lo) k (acc ++ [p]) p h1
    unfold stepLess at ih
    rw [ih, List.append_assoc]; rfl
theorem row_up {i : Nat} : ∀ (ts : List Nat) (acc : List Int) (lo : Int), (ts.foldl (stepMore i) (acc, lo)).1 = acc ++ (climb i lo ts).tail
  | [], acc, lo => by simp [climb]
  | t :: ts, acc, lo => by
    rw [List.foldl_cons]
    have e : stepMore i (acc, lo) t = (acc ++ [lo + 2 ^ (i - 1 - t)], lo + 2 ^ (i - 1 - t)) := rfl
    rw [e, row_up ts, climb, List.tail_cons, List.append_assoc]
    congr 1
    cases ts <;> rfl
theorem climb_drop {i : Nat} : ∀ (ts : List Nat) (lo : Int) (k : Nat) (v : Int), (climb i lo ts)[k]? = some v → (climb i lo ts).drop k = climb i v (ts.drop k)
  | [], lo, 0, v, h => by cases h; rfl
  | t :: ts, lo, 0, v, h => by cases h; rfl
  | [], lo, k + 1, v, h => by simp [climb] at h
  | t :: ts, lo, k + 1, v, h => by
    rw [climb, List.drop_succ_cons, List.drop_succ_cons]
    exact climb_drop ts _ k v (by simpa [climb] using h)
theorem spot_row {b : Int} {octets a0 a : Nat} {xs : List Int} {y : Int} (ho1 : 1 ≤ octets) (ho3 : octets ≤ 3) (hc : chainOf b (8 * octets) = (xs, a0)) (hy : xs[a]? = some y) :
    ∃ ks js : List Nat, ks.length ≤ 24 ∧ js.length ≤ 24 ∧ (∀ k ∈ ks, k < 8 * octets) ∧ (∀ k ∈ js, k < 8 * octets) ∧
      (Txt.split (normOf (Txt.split (frontPath y octets) (Str.ofString "/"))) (Str.ofString "/")).filter (fun n => !(n == dots || n == dot)) = ks.map natStr ∧
      (Txt.split (normOf (Txt.split (behindPath y octets) (Str.ofString "/"))) (Str.ofString "/")).filter (fun n => !(n == dots || n == dot)) = js.map natStr ∧
      (normOf (Txt.split (frontPath y octets) (Str.ofString "/"))).length ≤ 512 ∧ (normOf (Txt.split (behindPath y octets) (Str.ofString "/"))).length ≤ 512 ∧ rowOf y (8 * octets) ks js = rowS xs a := by
  obtain ⟨⟨lo, hx⟩, ha, h0, h1⟩ := spot_of hc hy
  obtain ⟨k1, k2, k3⟩ := things_ok (8 * octets) y
  rw [norm_front ho1 ho3 h0 h1, norm_behind ho1 ho3 h0 h1, ← ha]
  rw [← ha] at k2
  generalize (things y (8 * octets)).1 = ts at hx k1 k2 k3
  have hn : ∀ z ∈ ts.map natStr, z.length ≤ 8 := nat_short ts fun t ht => by have := k1 t ht; omega
  refine ⟨(ts.take a).reverse, ts.drop a, by simp; omega, by simp; omega, fun k hk => k1 k (List.mem_of_mem_take (List.mem_reverse.mp hk)), fun k hk => k1 k (List.mem_of_mem_drop hk), ?_, ?_, short_left (due_sum1 hn (by omega)), short_left (due_sum2 hn (by omega) (by omega)), ?_⟩
  · rw [front_form]
    exact names_left fun k hk => by have := k1 k (List.mem_of_mem_take (List.mem_reverse.mp hk)); omega
  · rw [behind_form]
    exact names_left fun k hk => by have := k1 k (List.mem_of_mem_drop hk); omega
  · subst hx
    unfold rowOf rowS
    have e1 : ((climb (8 * octets) lo ts).take (a + 1)).reverse = [y] ++ ((climb (8 * octets) lo ts).take a).reverse := by
      rw [List.take_add_one, hy]; simp
    rw [row_down a [y] y hy, row_up, ← e1, ← climb_drop ts lo a y hy, List.tail_drop]
/-! rows without order -/
def noRest {α : Type} : Option (List α) → Bool
  | some r => r.isEmpty
  | none => false
theorem orderless_eq {α : Type} [DecidableEq α] (xs ys : List α) : orderless xs ys = noRest (takeAll (dedup ys) (dedup xs)) := by
  unfold orderless noRest
  cases takeAll (dedup ys) (dedup xs) <;> rfl
theorem takeAll_iff {α : Type} [DecidableEq α] : ∀ {xs t : List α}, t.Nodup → xs.Nodup → (noRest (takeAll t xs) = true ↔ ∀ z, z ∈ xs ↔ z ∈ t)
  | [], t, _, _ => by
    show t.isEmpty = true ↔ _
    cases t with
    | nil => simp
    | cons a t =>
      simp only [List.isEmpty_cons, Bool.false_eq_true, false_iff]
      intro h
      exact nomatch (h a).mpr (.head _)
  | x :: xs, t, ht, hx => by
    obtain ⟨hx1, hx2⟩ := List.nodup_cons.mp hx
    by_cases hin : x ∈ t
    · rw [takeAll_in hin, takeAll_iff (ht.erase x) hx2]
      constructor
      · intro h z
        by_cases hz : z = x
        · subst hz; simp [hin]
        · rw [List.mem_cons, h z, ht.mem_erase_iff]; simp [hz]
      · intro h z
        rw [ht.mem_erase_iff, ← h z, List.mem_cons]
        constructor
        · intro hm; exact ⟨fun e => hx1 (e ▸ hm), .inr hm⟩
        · rintro ⟨h1, h2 | h2⟩
          · exact absurd h2 h1
          · exact h2
    · rw [takeAll_out hin]
      simp only [noRest, Bool.false_eq_true, false_iff]
      intro h
      exact hin ((h x).mp (.head _))
theorem dstep_mem {α : Type} [DecidableEq α] {acc : List α} {x z : α} : z ∈ dstep acc x ↔ z ∈ acc ∨ z = x := by
  unfold dstep; split
  · constructor
    · exact .inl
    · rintro (h | rfl) <;> assumption
  · simp
theorem dedup_fold_mem {α : Type} [DecidableEq α] {z : α} : ∀ (xs acc : List α), z ∈ xs.foldl dstep acc ↔ z ∈ acc ∨ z ∈ xs
  | [], acc => by simp
  | x :: xs, acc => by rw [List.foldl_cons, dedup_fold_mem xs, dstep_mem, List.mem_cons, or_assoc]
theorem dedup_mem {α : Type} [DecidableEq α] {z : α} {xs : List α} : z ∈ dedup xs ↔ z ∈ xs := by unfold dedup; rw [dedup_fold_mem]; simp
theorem dstep_nodup {α : Type} [DecidableEq α] {acc : List α} {x : α} (h : acc.Nodup) : (dstep acc x).Nodup := by
  unfold dstep; split
  · exact h
  · rename_i hn
    rw [List.nodup_append]
    refine ⟨h, List.nodup_cons.mpr ⟨List.not_mem_nil, List.nodup_nil⟩, fun a ha b hb e => ?_⟩
    rw [List.mem_singleton.mp hb] at e
    exact hn (e ▸ ha)
theorem dedup_fold_nodup {α : Type} [DecidableEq α] : ∀ (xs acc : List α), acc.Nodup → (xs.foldl dstep acc).Nodup
  | [], _, h => h
  | x :: xs, acc, h => dedup_fold_nodup xs _ (dstep_nodup h)
theorem dedup_nodup {α : Type} [DecidableEq α] (xs : List α) : (dedup xs).Nodup := dedup_fold_nodup xs [] List.nodup_nil
/-- without order: the same members -/
theorem orderless_iff {α : Type} [DecidableEq α] {xs ys : List α} : orderless xs ys = true ↔ ∀ z, z ∈ xs ↔ z ∈ ys := by
  rw [orderless_eq, takeAll_iff (dedup_nodup ys) (dedup_nodup xs)]
  simp only [dedup_mem]
theorem orderless_of {α : Type} [DecidableEq α] {xs ys : List α} {b : Bool} (h : (∀ z, z ∈ xs ↔ z ∈ ys) ↔ b = true) : orderless xs ys = b := by
  rw [Bool.eq_iff_iff, orderless_iff, h]
theorem dedup_new {α : Type} [DecidableEq α] : ∀ (xs acc : List α), xs.Nodup → (∀ x ∈ xs, ¬ x ∈ acc) → xs.foldl dstep acc = acc ++ xs
  | [], acc, _, _ => by simp
  | x :: xs, acc, h, hn => by
    obtain ⟨h1, h2⟩ := List.nodup_cons.mp h
    rw [List.foldl_cons, dstep_out (hn x (.head _)), dedup_new xs _ h2 fun y hy hm => by
      rcases List.mem_append.mp hm with hm | hm
      · exact hn y (.tail _ hy) hm
      · rw [List.mem_singleton.mp hm] at hy; exact h1 hy, List.append_assoc]
    rfl
theorem dedup_old {α : Type} [DecidableEq α] : ∀ (xs acc : List α), (∀ x ∈ xs, x ∈ acc) → xs.foldl dstep acc = acc
  | [], _, _ => rfl
  | x :: xs, acc, h => by rw [List.foldl_cons, dstep_in (h x (.head _)), dedup_old xs acc fun y hy => h y (.tail _ hy)]
theorem rowS_mem {xs : List Int} {a : Nat} {z : Int} : z ∈ rowS xs a ↔ z ∈ xs := by
  unfold rowS
  rw [List.mem_append, List.mem_reverse, ← List.mem_append, List.take_append_drop]
/-- two chains are the same or have nothing in common -/
theorem chains_meet {b1 b2 z : Int} {i a1 a2 : Nat} {xs1 xs2 : List Int} (h1 : chainOf b1 i = (xs1, a1)) (h2 : chainOf b2 i = (xs2, a2)) (m1 : z ∈ xs1) (m2 : z ∈ xs2) : xs1 = xs2 := by
  obtain ⟨k1, e1⟩ := List.getElem?_of_mem m1
  obtain ⟨k2, e2⟩ := List.getElem?_of_mem m2
  have c1 := chain_member i b1 k1 z (by rw [h1]; exact e1)
  have c2 := chain_member i b2 k2 z (by rw [h2]; exact e2)
  rw [h1] at c1
  rw [h2, c1] at c2
  exact congrArg Prod.fst c2
theorem climb_lower (i : Nat) : ∀ (ts : List Nat) (v : Int), (∀ z ∈ (climb i v ts).tail, v < z) ∧ (climb i v ts).Pairwise (· < ·)
  | [], v => ⟨fun z hz => (by cases hz), by simp [climb]⟩
  | t :: ts, v => by
    obtain ⟨h1, h2⟩ := climb_lower i ts (v + 2 ^ (i - 1 - t))
    have hp : (0 : Int) < 2 ^ (i - 1 - t) := Int.pow_pos (by decide)
    have hz : ∀ z ∈ climb i (v + 2 ^ (i - 1 - t)) ts, v < z := fun z hz => by
      have e : climb i (v + 2 ^ (i - 1 - t)) ts = (v + 2 ^ (i - 1 - t)) :: (climb i (v + 2 ^ (i - 1 - t)) ts).tail := by cases ts <;> rfl
      rw [e] at hz
      rcases List.mem_cons.mp hz with rfl | hz
      · omega
      · have := h1 z hz; omega
    exact ⟨hz, List.pairwise_cons.mpr ⟨hz, h2⟩⟩
theorem chain_rising {b : Int} {i a : Nat} {xs : List Int} (h : chainOf b i = (xs, a)) : xs.Pairwise (· < ·) := by
  obtain ⟨lo, e⟩ := chain_climb i b
  rw [h] at e
  rw [show xs = _ from congrArg Prod.fst e]
  exact (climb_lower i _ _).2
theorem rising_nodup {xs : List Int} (h : xs.Pairwise (· < ·)) : xs.Nodup := h.imp fun h e => by omega
theorem rowS_nodup {xs : List Int} {a : Nat} (h : xs.Nodup) : (rowS xs a).Nodup := by
  have e : (rowS xs a).Perm xs := by
    unfold rowS
    conv => rhs; rw [← List.take_append_drop (a + 1) xs]
    exact (List.reverse_perm _).append_right _
  exact e.nodup_iff.mpr h
theorem rowS_perm {xs : List Int} {a : Nat} : (rowS xs a).Perm xs := by
  unfold rowS
  conv => rhs; rw [← List.take_append_drop (a + 1) xs]
  exact (List.reverse_perm _).append_right _
theorem sorted_same : ∀ {ns xs : List Int}, ns.Perm xs → ns.Pairwise (· ≤ ·) → xs.Pairwise (· < ·) → ns = xs
  | [], xs, p, _, _ => p.nil_eq
  | a :: ns, [], p, _, _ => absurd p.length_eq (by simp)
  | a :: ns, x :: xs, p, h1, h2 => by
    obtain ⟨h1a, h1b⟩ := List.pairwise_cons.mp h1
    obtain ⟨h2a, h2b⟩ := List.pairwise_cons.mp h2
    have e : a = x := by
      rcases List.mem_cons.mp (p.subset (List.mem_cons_self)) with e | ha
      · exact e
      · rcases List.mem_cons.mp (p.symm.subset (List.mem_cons_self)) with e | hx
        · exact e.symm
        · have := h1a x hx
          have := h2a a ha
          omega
    subst e
    rw [sorted_same (List.Perm.cons_inv p) h1b h2b]
/-! what the law asks of the three rows -/
section
variable {b1 b2 : Int} {i a1 a2 s0 s1 s2 : Nat} {xs1 xs2 : List Int}
theorem ask1 : orderless (rowS xs1 s0) (rowS xs1 s1) = true := orderless_of (by simp [rowS_mem])
theorem ask2 : orderless (rowS xs1 s1) ((rowS xs1 s0).reverse ++ (rowS xs1 s0).reverse) = true := orderless_of (by simp [rowS_mem])
theorem ask3 : orderless [xs1, xs2, xs1] [xs2, xs1] = true := orderless_of (by simp; try (intro z; constructor <;> (intro h; rcases h with h | h | h <;> simp_all)))
theorem meet_iff (h1 : chainOf b1 i = (xs1, a1)) (h2 : chainOf b2 i = (xs2, a2)) : (∀ z, z ∈ xs2 → z ∈ xs1) ↔ xs1 = xs2 := by
  constructor
  · intro h
    have := (chainOf_ok (number := b2) (size := i)).2.2
    rw [h2] at this
    have hm : xs2[a2]'this ∈ xs2 := List.getElem_mem this
    exact chains_meet h1 h2 (h _ hm) hm
  · rintro rfl z hz; exact hz
theorem ask4 (h1 : chainOf b1 i = (xs1, a1)) (h2 : chainOf b2 i = (xs2, a2)) : orderless (rowS xs1 s0) (rowS xs2 s2) = decide (xs1 = xs2) := orderless_of (by
  simp only [rowS_mem, decide_eq_true_eq]
  exact ⟨fun h => (meet_iff h1 h2).mp fun z hz => (h z).mpr hz, fun h => by subst h; simp⟩)
theorem ask5 (h1 : chainOf b1 i = (xs1, a1)) (h2 : chainOf b2 i = (xs2, a2)) : orderless (rowS xs1 s0 ++ rowS xs2 s2) (rowS xs1 s1) = decide (xs1 = xs2) := orderless_of (by
  simp only [List.mem_append, rowS_mem, decide_eq_true_eq]
  exact ⟨fun h => (meet_iff h1 h2).mp fun z hz => (h z).mp (.inr hz), fun h => by subst h; simp⟩)
theorem ask6 (h1 : chainOf b1 i = (xs1, a1)) (h2 : chainOf b2 i = (xs2, a2)) : orderless (rowS xs1 s1) (rowS xs2 s2 ++ rowS xs1 s0) = decide (xs1 = xs2) := orderless_of (by
  simp only [List.mem_append, rowS_mem, decide_eq_true_eq]
  exact ⟨fun h => (meet_iff h1 h2).mp fun z hz => (h z).mpr (.inl hz), fun h => by subst h; simp⟩)
theorem ask7 : orderless [xs1] [xs1, xs2, xs1] = decide (xs1 = xs2) := orderless_of (by
  simp only [List.mem_cons, List.not_mem_nil, or_false, decide_eq_true_eq]
  exact ⟨fun h => ((h xs2).mpr (.inr (.inl rfl))).symm, fun h => by subst h; simp⟩)
theorem kept_rows (h1 : chainOf b1 i = (xs1, a1)) (h2 : chainOf b2 i = (xs2, a2)) : dedup (rowS xs1 s1 ++ rowS xs2 s2 ++ rowS xs1 s0) = rowS xs1 s1 ++ (if xs1 = xs2 then [] else rowS xs2 s2) := by
  have n1 := rising_nodup (chain_rising h1)
  have n2 := rising_nodup (chain_rising h2)
  unfold dedup
  rw [List.foldl_append, List.foldl_append, dedup_new (rowS xs1 s1) [] (rowS_nodup n1) (fun x _ h => by cases h), List.nil_append]
  by_cases h : xs1 = xs2
  · subst h
    rw [if_pos rfl, List.append_nil, dedup_old (rowS xs1 s2) _ fun x hx => by rw [rowS_mem] at *; exact hx]
    exact dedup_old _ _ fun x hx => by rw [rowS_mem] at *; exact hx
  · rw [if_neg h, dedup_new (rowS xs2 s2) _ (rowS_nodup n2) fun x hx hm => h (chains_meet h1 h2 (rowS_mem.mp hm) (rowS_mem.mp hx))]
    exact dedup_old _ _ fun x hx => List.mem_append_left _ (by rw [rowS_mem] at *; exact hx)
theorem kept_lists : dedup [xs1, xs2, xs1] = [xs1] ++ (if xs1 = xs2 then [] else [xs2]) := by
  by_cases h : xs1 = xs2
  · subst h; simp [dedup, dstep]
  · simp [dedup, dstep, h, Ne.symm h]
end
section
open PyProof.Rows.LCp PyProof.Rows.LCg
variable {prog : Program} {w : World} {A : Around} {E : Value → Shared → Prop} {s : Shared} {h₀ : Heap} {L : Addr} {m : Str → Option Value} {env : Env}
/-- a comprehension over pairs, by what holds between its turns -/
theorem restP_ind {elt : PySem.Expr} {x x₂ : Str} {scope : Scope} {cl : List (Str × Addr)} {S : List (Addr × Obj) → Prop} {P : Nat → Value → Prop} {Fin : List Value → List (Addr × Obj) → Prop} {n : Nat} (J : Nat → List Value → List (Addr × Obj) → Prop)
    (hfin : ∀ ys nw, J n ys nw → Fin ys nw)
    (step : ∀ i ys nw v, i < n → J i ys nw → P i v → ∃ (t : Addr) (ot : Obj) (v₁ v₂ : Value) (nt : Nat), v = .ref t ∧ (t, ot) ∈ nw ∧ ot.cls = .type "tuple" ∧ ot.data = .seq #[v₁, v₂] nt ∧
      ∀ I oI C oC D m₂ h tk (E' : Value → Shared → Prop), NsObj oC m₂ → m₂ x = some v₁ → m₂ x₂ = some v₂ → Fr h₀ L h m → News h₀ L h ((I, oI) :: (C, oC) :: (D, lst ys) :: nw) → Off3 I C D nw → ((@Ne Nat I C) ∧ (@Ne Nat I D) ∧ (@Ne Nat C D)) →
      wpAny (model prog w) A (eval elt (compEnvC scope cl C env)) (CompEnd h₀ L m { s with heap := h, toks := tk } I oI C oC D (lst ys) S (fun y nw' => J (i + 1) (ys ++ [y]) nw')) E' { s with heap := h, toks := tk }) :
    ∀ k i ys nw, i + k = n → J i ys nw → CompRestP prog w A h₀ L m env elt x x₂ scope cl s S P Fin k i ys nw
  | 0, i, ys, nw, e, hJ => CompRestP.zero (hfin ys nw (by rw [← e]; simpa using hJ))
  | k + 1, i, ys, nw, e, hJ => CompRestP.succ fun v hv => by
    obtain ⟨t, ot, v₁, v₂, nt, h1, h2, h3, h4, h5⟩ := step i ys nw v (by omega) hJ hv
    refine ⟨t, ot, v₁, v₂, nt, h1, h2, h3, h4, fun I oI C oC D m₂ h tk E' a b c d e' f g => ?_⟩
    refine wpAny_mono (h5 I oI C oC D m₂ h tk E' a b c d e' f g) (fun y s₂ hy => ?_) fun _ _ z => z
    obtain ⟨h', tk', news', r1, r2, r3, r4, r5, r6⟩ := hy
    exact ⟨h', tk', news', r1, r2, r3, r4, r5, restP_ind J hfin step k (i + 1) _ _ (by omega) r6⟩
end
abbrev tup3 (a b c : Value) : Obj := { cls := .type "tuple", data := .seq #[a, b, c] }
def toldD (a b c : Str) : PyData := .tuple [.str a, .str b, .str c]
theorem reads_tup3 {h : Heap} {q : Addr} {a b c : Str} {t0 t1 t2 : Tok} (hq : h.get? q = some (tup3 (.str a t0) (.str b t1) (.str c t2))) : ∃ as, Reads h (.ref q) (toldD a b c) as :=
  ⟨_, .tuple hq rfl rfl (.cons (.str _ _) (.cons (.str _ _) (.cons (.str _ _) .nil)))⟩
theorem reads_list3 {h : Heap} {D q0 q1 q2 : Addr} {d0 d1 d2 : PyData} (hD : h.get? D = some (LCg.lst [Value.ref q0, .ref q1, .ref q2])) (h0 : ∃ as, Reads h (.ref q0) d0 as) (h1 : ∃ as, Reads h (.ref q1) d1 as) (h2 : ∃ as, Reads h (.ref q2) d2 as) : ∃ as, Reads h (.ref D) (.list [d0, d1, d2]) as := by
  obtain ⟨_, h0⟩ := h0; obtain ⟨_, h1⟩ := h1; obtain ⟨_, h2⟩ := h2
  exact ⟨_, .list hD rfl rfl (.cons h0 (.cons h1 (.cons h2 .nil)))⟩
theorem told_same {prog : Program} {w : World} {A : Around} {E : Value → Shared → Prop} {s : Shared} {D D2 : Addr} {a0 b0 c0 a1 b1 c1 a2 b2 c2 : Str} {Q : Value → Shared → Prop} (hD : ∃ as, Reads s.heap (.ref D) (.list [toldD a0 b0 c0, toldD a1 b1 c1, toldD a2 b2 c2]) as)
    (hD2 : ∃ as, Reads s.heap (.ref D2) (.list [toldD a0 b0 c0, toldD a1 b1 c1, toldD a2 b2 c2]) as) (hs : SeqAt.shaped (.list [toldD a0 b0 c0, toldD a1 b1 c1, toldD a2 b2 c2]) = true) (hu : A.units + 64 < cLine) (h : Q (.bool false) s) : wpAny (model prog w) A (compareOp .NotEq (.ref D) (.ref D2)) Q E s := by
  obtain ⟨_, r1⟩ := hD; obtain ⟨_, r2⟩ := hD2
  refine ne_dataH_same r1 r2 hs hs hu (SeqAt.noMix_of_shape (.list (.tuple [.str, .str, .str])) rfl _ _ (by rfl) (by rfl)) ?_
  rw [same_refl]; exact h
theorem shaped_told {a0 b0 c0 a1 b1 c1 a2 b2 c2 : Str} (h0 : PyData.strOk a0 = true ∧ PyData.strOk b0 = true ∧ PyData.strOk c0 = true) (h1 : PyData.strOk a1 = true ∧ PyData.strOk b1 = true ∧ PyData.strOk c1 = true) (h2 : PyData.strOk a2 = true ∧ PyData.strOk b2 = true ∧ PyData.strOk c2 = true) :
    SeqAt.shaped (.list [toldD a0 b0 c0, toldD a1 b1 c1, toldD a2 b2 c2]) = true := by
  simp [SeqAt.shaped, PyData.canLay0, PyData.canLayAll0, PyData.depth, PyData.depthAll, toldD, h0, h1, h2]
section
open PyProof.Rows.LCp PyProof.Rows.LCg
variable {prog : Program} {w : World} {A : Around} {E : Value → Shared → Prop} {s : Shared} {h₀ : Heap} {L : Addr} {m : Str → Option Value} {env : Env}
/-- a zip of two lists, i items on -/
def ZS (z TI TO i1 i2 l1 l2 : Addr) (xs ys : Array Value) (i : Nat) (h : Heap) : Prop :=
  IsZip h z TI TO .none ∧ IsPair h TI (.ref i1) (.ref i2) ∧ (∃ a b, IsPair h TO a b) ∧ h.IsListIter i1 l1 i ∧ h.IsListIter i2 l2 i ∧ h.IsList l1 xs ∧ h.IsList l2 ys
theorem ZS.objs {z TI TO i1 i2 l1 l2 : Addr} {xs ys : Array Value} {i : Nat} {h : Heap} (H : ZS z TI TO i1 i2 l1 l2 xs ys i h) : ∃ oz oT oO o1 o2, h.get? z = some oz ∧ h.get? TI = some oT ∧ h.get? TO = some oO ∧ h.get? i1 = some o1 ∧ h.get? i2 = some o2 ∧
    ∀ h' : Heap, h'.get? z = some oz → h'.get? TI = some oT → h'.get? TO = some oO → h'.get? i1 = some o1 → h'.get? i2 = some o2 → h'.IsList l1 xs → h'.IsList l2 ys → ZS z TI TO i1 i2 l1 l2 xs ys i h' := by
  obtain ⟨hz, hT, ⟨a, b, hO⟩, ⟨o1, e1, r1⟩, ⟨o2, e2, r2⟩, _, _⟩ := H
  exact ⟨_, _, _, o1, o2, hz, hT, hO, e1, e2, fun h' a1 a2 a3 a4 a5 a6 a7 => ⟨a1, a2, ⟨a, b, a3⟩, ⟨o1, a4, r1⟩, ⟨o2, a5, r2⟩, a6, a7⟩⟩
/-- a comprehension over a zip, the first of each pair a pair -/
theorem zip_loop {elt iter : PySem.Expr} {x x₂ x₃ : Str} {px px₂ px₃ tp1 tp2 : Pos} {k1 k2 : Nat} {scope : Scope} {cl : List (Str × Addr)} {pos : Pos} {s₃ : Shared} {z TI TO i1 i2 l1 l2 C D : Addr} {xs ys : Array Value} {n : Nat} {nw₀ : List (Addr × Obj)} {m₀ : Str → Option Value} {RR : Result → Shared → Prop}
    (J : Nat → List Value → List (Addr × Obj) → Prop) (hh : A.handled = none) (Dz : ZipApart z TI TO i1 i2 l1 l2) (hn : n = min xs.size ys.size) (hsz : n ≤ 1000)
    (hkind : scope.kind = .function) (hx : scope.names.lookup x = some .local) (hx₂ : scope.names.lookup x₂ = some .local) (hx₃ : scope.names.lookup x₃ = some .local) (h12 : x ≠ x₂) (h13 : x ≠ x₃) (h23 : x₂ ≠ x₃)
    (hst : ZS z TI TO i1 i2 l1 l2 xs ys 0 s₃.heap) (F : Fr h₀ L s₃.heap m) (hC : s₃.heap.Ns C m₀) (N : News h₀ L s₃.heap ((D, lst []) :: nw₀)) (hJ : J 0 [] nw₀)
    (hCD : D ≠ C) (hC₀ : h₀.get? C = none) (hD₀ : h₀.get? D = none) (hCL : C ≠ L) (hDL : D ≠ L)
    (own : ∀ a ∈ [z, TI, TO, i1, i2], h₀.get? a = none ∧ a ≠ L ∧ a ≠ C ∧ a ≠ D) (off : ∀ p ∈ nw₀, p.1 ∉ [z, TI, TO, i1, i2] ∧ p.1 ≠ C ∧ p.1 ≠ D)
    (hsrc : ∀ i vs nw h, J i vs nw → News h₀ L h nw → h.IsList l1 xs ∧ h.IsList l2 ys) (hl : l1 ≠ C ∧ l1 ≠ D ∧ l2 ≠ C ∧ l2 ≠ D)
    (step : ∀ i vs nw a b, i < n → J i vs nw → xs[i]? = some a → ys[i]? = some b → (∀ p ∈ nw, p.1 ∉ [z, TI, TO, i1, i2] ∧ p.1 ≠ C ∧ p.1 ≠ D) → ∃ (t : Addr) (v₁ v₂ : Value), a = .ref t ∧ (t, ({ cls := .type "tuple", data := .seq #[v₁, v₂] } : Obj)) ∈ nw ∧
      ∀ oz oT oO o1 o2 oC m₂ h tk (E' : Value → Shared → Prop), NsObj oC m₂ → m₂ x = some v₁ → m₂ x₂ = some v₂ → m₂ x₃ = some b → Fr h₀ L h m → News h₀ L h ((z, oz) :: (TI, oT) :: (TO, oO) :: (i1, o1) :: (i2, o2) :: (C, oC) :: (D, lst vs) :: nw) →
      wpAny (model prog w) A (eval elt (compEnvC scope cl C env)) (fun y s₂ => ∃ h' tk' nw', s₂ = { s₃ with heap := h', toks := tk' } ∧ Fr h₀ L h' m ∧ News h₀ L h' ((z, oz) :: (TI, oT) :: (TO, oO) :: (i1, o1) :: (i2, o2) :: (C, oC) :: (D, lst vs) :: nw') ∧ (∀ p ∈ nw', p.1 ∉ [z, TI, TO, i1, i2] ∧ p.1 ≠ C ∧ p.1 ≠ D) ∧ J (i + 1) (vs ++ [y]) nw') E' { s₃ with heap := h, toks := tk })
    (hRR : ∀ h tk m' vs nw, Fr h₀ L h m → h.Ns C m' → News h₀ L h ((D, lst vs) :: nw) → (∀ p ∈ nw, p.1 ≠ C ∧ p.1 ≠ D) → J n vs nw → RR (.ok .next) { s₃ with heap := h, toks := tk }) :
    codeAny (model prog w) A (.compLoop (.ListComp elt [⟨.Tuple [.Tuple [.Name x px, .Name x₂ px₂] k1 tp1, .Name x₃ px₃] k2 tp2, iter, [], 0⟩] scope pos) 0 (.ref z) (.ref D) (compEnvC scope cl C env)) RR s₃ := by
  have W := WalksT.zip2 (prog := prog) (w := w) hh z TI TO i1 i2 l1 l2 Dz xs ys
  rw [← hn] at W
  have hz := own z (by walk_at "mem"); have hTI := own TI (by walk_at "mem"); have hTO := own TO (by walk_at "mem"); have h1 := own i1 (by walk_at "mem"); have h2 := own i2 (by walk_at "mem")
  have wrN : ∀ {b : Addr}, b ≠ z → b ≠ TO → b ≠ i1 → b ≠ i2 → b ∉ [z, TO, i1, i2] := fun a b c d hm => by
    simp only [List.mem_cons, List.not_mem_nil, or_false] at hm
    rcases hm with h | h | h | h
    · exact a h
    · exact b h
    · exact c h
    · exact d h
  have Cwr : C ∉ [z, TO, i1, i2] := wrN (Ne.symm hz.2.2.1) (Ne.symm hTO.2.2.1) (Ne.symm h1.2.2.1) (Ne.symm h2.2.2.1)
  have Dwr : D ∉ [z, TO, i1, i2] := wrN (Ne.symm hz.2.2.2) (Ne.symm hTO.2.2.2) (Ne.symm h1.2.2.2) (Ne.symm h2.2.2.2)
  have Lwr : L ∉ [z, TO, i1, i2] := wrN (Ne.symm hz.2.1) (Ne.symm hTO.2.1) (Ne.symm h1.2.1) (Ne.symm h2.2.1)
  have h0wr : ∀ {b o}, h₀.get? b = some o → b ∉ [z, TO, i1, i2] := fun {b o} e => wrN (fun q => by rw [q, hz.1] at e; cases e) (fun q => by rw [q, hTO.1] at e; cases e) (fun q => by rw [q, h1.1] at e; cases e) (fun q => by rw [q, h2.1] at e; cases e)
  have frw : ∀ {h h' : Heap}, Fr h₀ L h m → (∀ b o, b ∉ [z, TO, i1, i2] → h.get? b = some o → h'.get? b = some o) → Fr h₀ L h' m := fun F k => ⟨F.ns.at' fun o e => k _ o Lwr e, fun b o e => k _ _ (h0wr e) (F.keep b o e), F.above⟩
  have offwr : ∀ {nw : List (Addr × Obj)}, (∀ p ∈ nw, p.1 ∉ [z, TI, TO, i1, i2] ∧ p.1 ≠ C ∧ p.1 ≠ D) → ∀ p ∈ nw, p.1 ∉ [z, TO, i1, i2] := fun ho p hp hm => (ho p hp).1 (by
    simp only [List.mem_cons, List.not_mem_nil, or_false] at hm ⊢
    rcases hm with h | h | h | h <;> simp [h])
  have nww : ∀ {h h' : Heap} {nw : List (Addr × Obj)}, News h₀ L h nw → (∀ p ∈ nw, p.1 ∉ [z, TO, i1, i2]) → (∀ b o, b ∉ [z, TO, i1, i2] → h.get? b = some o → h'.get? b = some o) → News h₀ L h' nw := fun N ho k p hp => ⟨k _ _ (ho p hp) (N p hp).1, (N p hp).2⟩
  refine codeAny_compLoop_pair
    (fun k s' => ∃ h' tk i vs m' nw, s' = { s₃ with heap := h', toks := tk } ∧ i ≤ n ∧ k = n + 1 - i ∧ vs.length = i ∧ ZS z TI TO i1 i2 l1 l2 xs ys i h' ∧ Fr h₀ L h' m ∧ h'.Ns C m' ∧ News h₀ L h' ((D, lst vs) :: nw) ∧ (∀ p ∈ nw, p.1 ∉ [z, TI, TO, i1, i2] ∧ p.1 ≠ C ∧ p.1 ≠ D) ∧ J i vs nw) ?_ (n + 1)
    ⟨s₃.heap, s₃.toks, 0, [], m₀, nw₀, rfl, Nat.zero_le _, rfl, rfl, hst, F, hC, N, off, hJ⟩
  rintro k s' ⟨h', tk, i, vs, m', nw, rfl, hi, rfl, hvl, hst', F', hn', N', off', hJ'⟩
  have offD : ∀ p ∈ (D, lst vs) :: nw, p.1 ∉ [z, TO, i1, i2] := fun p hp => by
    rcases List.mem_cons.mp hp with rfl | hp
    · exact Dwr
    · exact offwr off' p hp
  by_cases hlt : i < n
  · refine W.item i _ _ _ hlt hst' fun T vals h₂ tk₂ hPv hTge hTt hMid hk₂ => ?_
    obtain ⟨a, b, ha, hb, rfl⟩ := hPv
    obtain ⟨t, v₁, v₂, rfl, hmt, hstep⟩ := step i vs nw a b hlt hJ' ha hb off'
    have Twr := W.apart _ _ _ hMid
    refine W.go _ _ _ i T _ _ _ hMid fun h₃ hst₃ hk₃ => ?_
    have N₃ : News h₀ L h₃ ((D, lst vs) :: nw) := nww (nww N' offD hk₂) offD hk₃
    have F₃ := frw (frw F' hk₂) hk₃
    have hn₃ : h₃.Ns C m' := (hn'.at' fun o e => hk₂ _ o Cwr e).at' fun o e => hk₃ _ o Cwr e
    have hT₃ : IsTup h₃ T #[Value.ref t, b] := by
      obtain ⟨o, ho, r⟩ := hTt
      exact ⟨o, hk₃ _ _ Twr ho, r⟩
    have ht₃ : IsTup h₃ t #[v₁, v₂] := ⟨_, (N₃ _ (List.mem_cons_of_mem _ hmt)).1, rfl, _, rfl⟩
    refine assign_Tuple_tuple hh hT₃ rfl rfl fun h₄ he₄ => ?_
    have up₄ : ∀ b o, h₃.get? b = some o → h₄.get? b = some o := fun b o e => he₄ b o (Nat.ne_of_lt (Heap.lt_size e)) e
    have ht₄ : IsTup h₄ t #[v₁, v₂] := by
      obtain ⟨o, ho, r⟩ := ht₃
      exact ⟨o, up₄ _ _ ho, r⟩
    refine assignInOrder_cons (assign_Tuple_tuple (x1 := k1) (pos := tp1) hh ht₄ rfl rfl fun h₅ he₅ => ?_)
    have up₅ : ∀ b o, h₃.get? b = some o → h₅.get? b = some o := fun b o e => he₅ b o (Nat.ne_of_lt (Heap.lt_size (up₄ b o e))) (up₄ b o e)
    have hn₅ : h₅.Ns C m' := hn₃.at' fun o e => up₅ _ o e
    refine assignInOrder_cons (wpAny_assign_Name (wpAny_storeName_local (lookup_relabel_local hx) hn₅ (fun h₆ hn₆ hs₆ => ?_) (by simp [compEnvC, relabel, hkind])))
    refine assignInOrder_cons (wpAny_assign_Name (wpAny_storeName_local (lookup_relabel_local hx₂) hn₆ (fun h₇ hn₇ hs₇ => ?_) (by simp [compEnvC, relabel, hkind])))
    refine assignInOrder_nil ?_
    refine assignInOrder_cons (wpAny_assign_Name (wpAny_storeName_local (lookup_relabel_local hx₃) hn₇ (fun h₈ hn₈ hs₈ => ?_) (by simp [compEnvC, relabel, hkind])))
    refine assignInOrder_nil ?_
    have old : ∀ b o, b ≠ C → h₃.get? b = some o → h₈.get? b = some o := fun b o hb e => hs₈.extBut b o hb (hs₇.extBut b o hb (hs₆.extBut b o hb (up₅ b o e)))
    have F₈ : Fr h₀ L h₈ m := (((F₃.keeps up₅).change hs₆ hCL hC₀).change hs₇ hCL hC₀).change hs₈ hCL hC₀
    have N₈ : News h₀ L h₈ ((D, lst vs) :: nw) := fun p hp => ⟨old _ _ (by
      rcases List.mem_cons.mp hp with rfl | hp
      · exact hCD
      · exact (off' p hp).2.1) (N₃ p hp).1, (N₃ p hp).2⟩
    obtain ⟨hl1₈, hl2₈⟩ := hsrc i vs nw h₈ hJ' fun p hp => N₈ p (List.mem_cons_of_mem _ hp)
    obtain ⟨oz, oT, oO, o1, o2, e1, e2, e3, e4, e5, back⟩ := ZS.objs (xs := xs) (ys := ys) hst₃
    obtain ⟨oC, heC, hoC⟩ := ns_obj hn₈
    have N₉ : News h₀ L h₈ ((z, oz) :: (TI, oT) :: (TO, oO) :: (i1, o1) :: (i2, o2) :: (C, oC) :: (D, lst vs) :: nw) :=
      news_put ⟨old _ _ hz.2.2.1 e1, hz.2.1, hz.1⟩ (news_put ⟨old _ _ hTI.2.2.1 e2, hTI.2.1, hTI.1⟩ (news_put ⟨old _ _ hTO.2.2.1 e3, hTO.2.1, hTO.1⟩ (news_put ⟨old _ _ h1.2.2.1 e4, h1.2.1, h1.1⟩ (news_put ⟨old _ _ h2.2.2.1 e5, h2.2.1, h2.1⟩ (news_put ⟨heC, hCL, hC₀⟩ N₈)))))
    refine wpAny_mono (hstep oz oT oO o1 o2 oC _ h₈ _ _ hoC (by simp [h13, h12]) (by simp [h23]) (by simp) F₈ N₉) (fun y s₄ h₄' => ?_) fun _ _ e => e
    obtain ⟨h₉, tk₉, nw', rfl, F₉, N₁₀, off₉, hJ₉⟩ := h₄'
    have zC := (N₁₀ (C, oC) (by walk_at "mem")).1
    have zD := (N₁₀ (D, lst vs) (by walk_at "mem")).1
    have N₁₁ : News h₀ L h₉ nw' := fun p hp => N₁₀ p (by repeat (first | exact hp | refine List.Mem.tail _ ?_))
    obtain ⟨hl1₉, hl2₉⟩ := hsrc _ _ nw' h₉ hJ₉ N₁₁
    have hst₉ : ZS z TI TO i1 i2 l1 l2 xs ys (i + 1) h₉ := back h₉ (N₁₀ (z, oz) (by walk_at "mem")).1 (N₁₀ (TI, oT) (by walk_at "mem")).1 (N₁₀ (TO, oO) (by walk_at "mem")).1 (N₁₀ (i1, o1) (by walk_at "mem")).1 (N₁₀ (i2, o2) (by walk_at "mem")).1 hl1₉ hl2₉
    refine append_at (hsz := by show vs.toArray.size ≤ sizeLine; rw [List.size_toArray, sizeLine_eq]; omega) zD fun h₁₀ hs₁₀ hD₁₀ => ?_
    have oldD : ∀ b o, b ≠ D → h₉.get? b = some o → h₁₀.get? b = some o := fun b o hb e => hs₁₀.extBut b o hb e
    obtain ⟨oz', oT', oO', o1', o2', f1, f2, f3, f4, f5, back'⟩ := ZS.objs (xs := xs) (ys := ys) hst₉
    have N₁₂ : News h₀ L h₁₀ nw' := fun p hp => ⟨oldD _ _ (off₉ p hp).2.2 (N₁₁ p hp).1, (N₁₁ p hp).2⟩
    obtain ⟨hl1t, hl2t⟩ := hsrc _ _ nw' h₁₀ hJ₉ N₁₂
    refine ⟨n + 1 - (i + 1), by omega, h₁₀, tk₉, i + 1, vs ++ [y], _, nw', rfl, hlt, rfl, by simp [hvl], back' h₁₀ (oldD _ _ hz.2.2.2 f1) (oldD _ _ hTI.2.2.2 f2) (oldD _ _ hTO.2.2.2 f3) (oldD _ _ h1.2.2.2 f4) (oldD _ _ h2.2.2.2 f5) hl1t hl2t,
      F₉.change hs₁₀ hDL hD₀, (hoC.ns zC).sameBut hs₁₀ (Ne.symm hCD), fun p hp => ?_, off₉, hJ₉⟩
    rcases List.mem_cons.mp hp with rfl | hp
    · exact ⟨hD₁₀.trans (congrArg some (lst_snoc vs y)), hDL, hD₀⟩
    · exact N₁₂ p hp
  · obtain rfl : i = n := Nat.le_antisymm hi (Nat.not_lt.mp hlt)
    refine W.done _ _ _ hst' fun h₂ tk₂ hk₂ => ?_
    exact hRR h₂ tk₂ m' vs nw (frw F' hk₂) (hn'.at' fun o e => hk₂ _ o Cwr e) (nww N' offD hk₂) (fun p hp => (off' p hp).2) hJ'

def ZipAny (prog : Program) (w : World) (A : Around) (h₀ : Heap) (L : Addr) (env : Env) (scope : Scope) (cl : List (Str × Addr)) (x x₂ x₃ : Str) (elt : PySem.Expr) (Q : Value → Shared → Prop) (xv : Value) (s₁ : Shared) : Prop :=
  ∃ (z TI TO i1 i2 l1 l2 : Addr) (xs ys : Array Value) (n : Nat) (m : Str → Option Value) (nw₀ : List (Addr × Obj)) (J : Nat → List Value → List (Addr × Obj) → Prop),
    xv = .ref z ∧ A.handled = none ∧ ZipApart z TI TO i1 i2 l1 l2 ∧ n = min xs.size ys.size ∧ n ≤ 1000 ∧ ZS z TI TO i1 i2 l1 l2 xs ys 0 s₁.heap ∧ Fr h₀ L s₁.heap m ∧ News h₀ L s₁.heap nw₀ ∧ J 0 [] nw₀ ∧
    (∀ a ∈ [z, TI, TO, i1, i2], h₀.get? a = none ∧ a ≠ L) ∧ (∀ p ∈ nw₀, p.1 ∉ [z, TI, TO, i1, i2]) ∧ (∀ i vs nw h, J i vs nw → News h₀ L h nw → h.IsList l1 xs ∧ h.IsList l2 ys) ∧
    (∀ C D i vs nw a b, i < n → J i vs nw → xs[i]? = some a → ys[i]? = some b → (∀ p ∈ nw, p.1 ∉ [z, TI, TO, i1, i2] ∧ p.1 ≠ C ∧ p.1 ≠ D) → ∃ (t : Addr) (v₁ v₂ : Value), a = .ref t ∧ (t, ({ cls := .type "tuple", data := .seq #[v₁, v₂] } : Obj)) ∈ nw ∧
      ∀ oz oT oO o1 o2 oC m₂ h tk (E' : Value → Shared → Prop), NsObj oC m₂ → m₂ x = some v₁ → m₂ x₂ = some v₂ → m₂ x₃ = some b → Fr h₀ L h m → News h₀ L h ((z, oz) :: (TI, oT) :: (TO, oO) :: (i1, o1) :: (i2, o2) :: (C, oC) :: (D, lst vs) :: nw) →
      wpAny (model prog w) A (eval elt (compEnvC scope cl C env)) (fun y s₂ => ∃ h' tk' nw', s₂ = { s₁ with heap := h', toks := tk' } ∧ Fr h₀ L h' m ∧ News h₀ L h' ((z, oz) :: (TI, oT) :: (TO, oO) :: (i1, o1) :: (i2, o2) :: (C, oC) :: (D, lst vs) :: nw') ∧ (∀ p ∈ nw', p.1 ∉ [z, TI, TO, i1, i2] ∧ p.1 ≠ C ∧ p.1 ≠ D) ∧ J (i + 1) (vs ++ [y]) nw') E' { s₁ with heap := h, toks := tk }) ∧
    (∀ D h tk vs nw, Fr h₀ L h m → News h₀ L h ((D, lst vs) :: nw) → (∀ p ∈ nw, p.1 ≠ D) → J n vs nw → Q (.ref D) { s₁ with heap := h, toks := tk })
theorem zip_eval {elt iter : PySem.Expr} {x x₂ x₃ : Str} {px px₂ px₃ tp1 tp2 : Pos} {k1 k2 : Nat} {scope : Scope} {cl : List (Str × Addr)} {pos : Pos} {Q : Value → Shared → Prop}
    (hclos : closureFor scope env = pure cl) (hcell : ∀ y ∈ scope.names, y.2 ≠ .cell) (hkind : scope.kind = .function)
    (hnames : ∀ y ∈ scope.names, y.2 = .local → scope.names.lookup y.1 = some .local) (hx : scope.names.lookup x = some .local) (hx₂ : scope.names.lookup x₂ = some .local) (hx₃ : scope.names.lookup x₃ = some .local) (h12 : x ≠ x₂) (h13 : x ≠ x₃) (h23 : x₂ ≠ x₃)
    (h : wpAny (model prog w) A (eval iter env) (ZipAny prog w A h₀ L env scope cl x x₂ x₃ elt Q) E s)
    (hs : ∀ x, foldedSetIterable iter env x = pure x := by intro _; rfl) :
    wpAny (model prog w) A (eval (.ListComp elt [⟨.Tuple [.Tuple [.Name x px, .Name x₂ px₂] k1 tp1, .Name x₃ px₃] k2 tp2, iter, [], 0⟩] scope pos) env) Q E s := by
  rw [eval_ListComp]
  refine wpAny_comprehension_free (use := none) rfl hs hclos hkind hnames (wpAny_mono h (fun _ s₂ c => ?_) fun _ _ z => z)
  obtain ⟨z, TI, TO, i1, i2, l1, l2, xs, ys, n, m, nw₀, J, rfl, hh, Dz, hn, hsz, hst, F, N, hJ, own, off, hsrc, step, fin⟩ := c
  refine wpAny_pyIter_zip hst.1 (comp_begin hcell hkind fun h₁ tk₁ C mC eC old hacc hC => ?_)
  have lo : ∀ {b : Nat}, b < s₂.heap.objs.size → b ≠ C ∧ b ≠ s₂.heap.objs.size := fun h => ⟨Nat.ne_of_lt (eC ▸ Nat.lt_succ_of_lt h), Nat.ne_of_lt h⟩
  have hDC : @Ne Nat s₂.heap.objs.size C := Nat.ne_of_lt (eC ▸ Nat.lt_succ_self _)
  obtain ⟨hLC, hLD⟩ := lo F.ns.lt
  have hD₀ : h₀.get? s₂.heap.objs.size = none := fr_new F (Nat.le_refl _)
  have hC₀ : h₀.get? C = none := fr_new F (eC ▸ Nat.le_succ _)
  obtain ⟨oz, oT, oO, o1, o2, e1, e2, e3, e4, e5, back⟩ := hst.objs
  have src₁ := hsrc 0 [] nw₀ h₁ hJ (N.grown old)
  have hst₁ : ZS z TI TO i1 i2 l1 l2 xs ys 0 h₁ := back h₁ (old _ _ e1) (old _ _ e2) (old _ _ e3) (old _ _ e4) (old _ _ e5) src₁.1 src₁.2
  have five : ∀ {P : Addr → Prop} {a}, P z → P TI → P TO → P i1 → P i2 → a ∈ [z, TI, TO, i1, i2] → P a := fun p1 p2 p3 p4 p5 ha => by
    cases ha with
    | head => exact p1
    | tail _ ha => cases ha with
      | head => exact p2
      | tail _ ha => cases ha with
        | head => exact p3
        | tail _ ha => cases ha with
          | head => exact p4
          | tail _ ha => exact List.mem_singleton.mp ha ▸ p5
  have low : ∀ a ∈ [z, TI, TO, i1, i2], a ≠ C ∧ a ≠ s₂.heap.objs.size := fun a ha => lo (five (P := fun a => a < s₂.heap.objs.size) (Heap.lt_size e1) (Heap.lt_size e2) (Heap.lt_size e3) (Heap.lt_size e4) (Heap.lt_size e5) ha)
  have lists : (l1 ≠ C ∧ l1 ≠ s₂.heap.objs.size) ∧ l2 ≠ C ∧ l2 ≠ s₂.heap.objs.size := by
    obtain ⟨_, _, _, _, _, ⟨_, a, _⟩, _, b, _⟩ := hst
    exact ⟨lo (Heap.lt_size a), lo (Heap.lt_size b)⟩
  have loop : codeAny (model prog w) A (.compLoop (.ListComp elt [⟨.Tuple [.Tuple [.Name x px, .Name x₂ px₂] k1 tp1, .Name x₃ px₃] k2 tp2, iter, [], 0⟩] scope pos) 0 (.ref z) (.ref s₂.heap.objs.size) (compEnvC scope cl C env)) (compPost (model prog w) A E none Q (.ref s₂.heap.objs.size) C) { s₂ with heap := h₁, toks := tk₁ } :=
    zip_loop J hh Dz hn hsz hkind hx hx₂ hx₃ h12 h13 h23 hst₁ (F.keeps old) hC (news_put ⟨hacc, Ne.symm hLD, hD₀⟩ (N.grown old)) hJ hDC hC₀ hD₀ (Ne.symm hLC) (Ne.symm hLD) (fun a ha => ⟨(own a ha).1, (own a ha).2, low a ha⟩)
      (fun p hp => ⟨off p hp, lo (Heap.lt_size (N p hp).1)⟩) hsrc ⟨lists.1.1, lists.1.2, lists.2⟩ (fun i vs nw a b => step C s₂.heap.objs.size i vs nw a b)
      fun g tk m' vs nw F' hn' N' apart hJ' => ⟨m', hn', fun g' sb => fin _ g' tk vs nw (F'.change sb (Ne.symm hLC) hC₀) (news_other N' sb (Ne.symm hDC) fun p hp => (apart p hp).1) (fun p hp => (apart p hp).2) hJ'⟩
  exact codeAny_compStart_list loop (wpAny_pyIter_zip hst₁.1 loop)
theorem zip_apart {n l1 l2 : Nat} (h1 : l1 < n) (h2 : l2 < n) : ZipApart (n + 4) (n + 2) (n + 3) n (n + 1) l1 l2 := by
  constructor <;> (show @Ne Nat _ _; omega)
theorem zip_call {scope : Scope} {cl : List (Str × Addr)} {x x₂ x₃ : Str} {elt : PySem.Expr} {Q : Value → Shared → Prop} {l1 l2 : Addr} {xs ys : Array Value} {k1 k2 n : Nat} {nw₀ : List (Addr × Obj)} (J : Nat → List Value → List (Addr × Obj) → Prop)
    (F : Fr h₀ L s.heap m) (N : News h₀ L s.heap nw₀) (hh : A.handled = none) (hm1 : (l1, PySem.W.listOf xs k1) ∈ nw₀) (hm2 : (l2, PySem.W.listOf ys k2) ∈ nw₀) (hn : n = min xs.size ys.size) (hsz : n ≤ 1000) (hJ : J 0 [] nw₀)
    (hsrc : ∀ i vs nw, J i vs nw → (l1, PySem.W.listOf xs k1) ∈ nw ∧ (l2, PySem.W.listOf ys k2) ∈ nw)
    (step : ∀ (z TI TO i1 i2 C D : Addr) i vs nw a b, i < n → J i vs nw → xs[i]? = some a → ys[i]? = some b → (∀ p ∈ nw, p.1 ∉ [z, TI, TO, i1, i2] ∧ p.1 ≠ C ∧ p.1 ≠ D) → ∃ (t : Addr) (v₁ v₂ : Value), a = .ref t ∧ (t, ({ cls := .type "tuple", data := .seq #[v₁, v₂] } : Obj)) ∈ nw ∧
      ∀ oz oT oO o1 o2 oC m₂ h tk (E' : Value → Shared → Prop), NsObj oC m₂ → m₂ x = some v₁ → m₂ x₂ = some v₂ → m₂ x₃ = some b → Fr h₀ L h m → News h₀ L h ((z, oz) :: (TI, oT) :: (TO, oO) :: (i1, o1) :: (i2, o2) :: (C, oC) :: (D, lst vs) :: nw) →
      wpAny (model prog w) A (eval elt (compEnvC scope cl C env)) (fun y s₂ => ∃ h' tk' nw', s₂ = { s with heap := h', toks := tk' } ∧ Fr h₀ L h' m ∧ News h₀ L h' ((z, oz) :: (TI, oT) :: (TO, oO) :: (i1, o1) :: (i2, o2) :: (C, oC) :: (D, lst vs) :: nw') ∧ (∀ p ∈ nw', p.1 ∉ [z, TI, TO, i1, i2] ∧ p.1 ≠ C ∧ p.1 ≠ D) ∧ J (i + 1) (vs ++ [y]) nw') E' { s with heap := h, toks := tk })
    (fin : ∀ D h tk vs nw, Fr h₀ L h m → News h₀ L h ((D, lst vs) :: nw) → (∀ p ∈ nw, p.1 ≠ D) → J n vs nw → Q (.ref D) { s with heap := h, toks := tk }) :
    wpAny (model prog w) A (call (.type "zip") [.ref l1, .ref l2]) (ZipAny prog w A h₀ L env scope cl x x₂ x₃ elt Q) E s := by
  refine call_zip_2 (own_list N hm1) (own_list N hm2) fun h' z1 z2 z3 z4 z5 z6 z7 => ?_
  have hb1 : l1 < s.heap.objs.size := Heap.lt_size (N _ hm1).1
  have hb2 : l2 < s.heap.objs.size := Heap.lt_size (N _ hm2).1
  have N' : News h₀ L h' nw₀ := fun p hp => ⟨z7 _ _ (N p hp).1, (N p hp).2⟩
  have fresh₀ : ∀ a, s.heap.objs.size ≤ a → h₀.get? a = none := fun a ha => by
    cases e : h₀.get? a with
    | none => rfl
    | some o' => have := Heap.lt_size (F.keep a o' e); exact absurd this (Nat.not_lt.mpr ha)
  have mem5 : ∀ {a : Nat}, a ∈ [s.heap.objs.size + 4, s.heap.objs.size + 2, s.heap.objs.size + 3, s.heap.objs.size, s.heap.objs.size + 1] → s.heap.objs.size ≤ a := fun {a} ha => by
    simp only [List.mem_cons, List.not_mem_nil, or_false] at ha
    omega
  refine ⟨_, _, _, _, _, l1, l2, xs, ys, n, m, nw₀, J, rfl, hh, zip_apart hb1 hb2, hn, hsz, ⟨z1, z2, ⟨_, _, z3⟩, z4, z5, ⟨_, (N' _ hm1).1, rfl, _, rfl⟩, ⟨_, (N' _ hm2).1, rfl, _, rfl⟩⟩, F.keeps z7, N', hJ, fun a ha => ⟨fresh₀ a (mem5 ha), ?_⟩, fun p hp hm => ?_, fun i vs nw h hJ' N => ⟨⟨_, (N _ (hsrc i vs nw hJ').1).1, rfl, _, rfl⟩, ⟨_, (N _ (hsrc i vs nw hJ').2).1, rfl, _, rfl⟩⟩, fun C D i vs nw a b hi hJ' ha hb ho => step _ _ _ _ _ C D i vs nw a b hi hJ' ha hb ho, fin⟩
  · have h1 := mem5 ha
    have h2 : L < s.heap.objs.size := F.ns.lt
    exact Nat.ne_of_gt (Nat.lt_of_lt_of_le h2 h1)
  · have h1 := mem5 hm
    have h2 := Heap.lt_size (N p hp).1
    exact absurd h2 (Nat.not_lt.mpr h1)
end
/-! the law's body in pieces -/
noncomputable def lawBody : List Stmt := match (pr.main.body[34]? : Option Stmt) with | some (.FunctionDef _ _ b _ _ _ _ _ _ _) => b | _ => []
noncomputable def lawScope : Scope := match (pr.main.body[34]? : Option Stmt) with | some (.FunctionDef _ _ _ _ _ _ sc _ _ _) => sc | _ => default
noncomputable def lawAt (k : Nat) : Stmt := (lawBody[k]?).getD default
theorem law_cut0 : List.take 7 lawBody = [lawAt 0, lawAt 1, lawAt 2, lawAt 3, lawAt 4, lawAt 5, lawAt 6] := by kernel_rfl
theorem law_cut7 : List.take 1 (List.drop 7 lawBody) = [lawAt 7] := by kernel_rfl
theorem law_cut8 : List.take 1 (List.drop 8 lawBody) = [lawAt 8] := by kernel_rfl
theorem law_cut9 : List.take 1 (List.drop 9 lawBody) = [lawAt 9] := by kernel_rfl
theorem law_cut10 : List.take 4 (List.drop 10 lawBody) = [lawAt 10, lawAt 11, lawAt 12, lawAt 13] := by kernel_rfl
theorem law_cut14 : List.take 1 (List.drop 14 lawBody) = [lawAt 14] := by kernel_rfl
theorem law_cut15 : List.take 1 (List.drop 15 lawBody) = [lawAt 15] := by kernel_rfl
theorem law_cut16 : List.take 2 (List.drop 16 lawBody) = [lawAt 16, lawAt 17] := by kernel_rfl
theorem law_cut18 : List.drop 18 lawBody = [lawAt 18] := by kernel_rfl
noncomputable abbrev lawEnv (L : Addr) : Env := envOfC (Str.ofString "law") lawScope L 213 (.ref 212)
section
variable {M : Model} {A : Around} {E : Value → Shared → Prop} {s : Shared} {env : Env}
theorem execs_app : ∀ (b1 : List Stmt) {b2 : List Stmt} {Q : Flow → Shared → Prop} {s : Shared}, wpAny M A (execs b1 env) (fun f s' => match f with | .next => wpAny M A (execs b2 env) Q E s' | f => Q f s') E s → wpAny M A (execs (b1 ++ b2) env) Q E s := by
  intro b1 b2 Q s h Γ p hΓ
  have e : ∀ b1 : List Stmt, execs (b1 ++ b2) env = (do match ← execs b1 env with | .next => execs b2 env | f => pure f) := by
    intro b1
    induction b1 with
    | nil => rw [execs_nil]; rfl
    | cons a b1 ih =>
      rw [List.cons_append, execs_cons, execs_cons, bind_assoc, ih]
      congr 1; funext f
      cases f <;> rfl
  rw [e, Sem.wp_bind']
  refine Sem.wp_mono M Γ _ (fun f p' s' h' => ?_) (fun _ _ _ h' => h') _ _ (h Γ p hΓ)
  cases f <;> first | exact h' Γ p' hΓ | exact h'
/-- the body cut in two: what holds between -/
theorem execs_cut {b : List Stmt} (k : Nat) (I : Shared → Prop) {Q : Flow → Shared → Prop} (h1 : ∀ Q' : Flow → Shared → Prop, (∀ s', I s' → Q' .next s') → wpAny M A (execs (b.take k) env) Q' E s)
    (h2 : ∀ s', I s' → wpAny M A (execs (b.drop k) env) Q E s') : wpAny M A (execs b env) Q E s := by
  have e := List.take_append_drop k b
  rw [← e]
  exact execs_app _ (h1 _ h2)
end
local macro_rules | `(tactic| walk_at "eval Name") => `(tactic| (k_here; k_inBlock; k_dflt (refine' Mine.nameC_B2 ?_); k_whole))
local macro_rules | `(tactic| walk_at $k:str) => if ["subscriptTail Name Name ref int", "subscriptTail Name BinOp str int", "subscriptTail Call BinOp str int", "subscriptTail Name BinOp ref int", "call builtin:len", "call builtin:list.index", "binaryOp Mult ref int", "subscriptTail Name Slice ref ref", "binaryOp Add ref ref", "call builtin:str.join", "binaryOp Mult str int", "SrcLP ref", "SrcLP", "call type:zip", "call builtin:sorted", "eval DictComp", "compareOp NotEq ref ref", "call type:list"].contains k.getString then `(tactic| (with_reducible refine Mine.Halt.out ?_)) else Lean.Macro.throwUnsupported
section
variable {M : Model} {A : Around} {E : Value → Shared → Prop} {s : Shared} {K : Frag} {env : Env} {pos p : Pos} {f : Value} {first : List Value} {Q : Value → Shared → Prop} {h₀ : Heap} {e e2 : PySem.Expr} {rest : List PySem.Expr}
theorem evalArgs_two {f : Value} {x : Sem Value} {b : Bool × Sem Value} {rest : List (Bool × Sem Value)} {Q : Args → Shared → Prop}
    (h : wpAny M A (spliced ((true, x) :: b :: rest)) (fun vs s' => Q ⟨vs, []⟩ s') E s) : wpAny M A (evalArgs f true ((true, x) :: b :: rest) []) Q E s := by
  unfold evalArgs
  show wpAny M A (spliced ((true, x) :: b :: rest) >>= _) Q E s
  refine wpAny_bind (wpAny_mono h (fun vs s' h' => ?_) fun _ _ x => x)
  refine wpAny_holding ?_
  exact wpAny_bind (wpAny_pure (wpAny_bind (wpAny_pure (wpAny_pure h'))))
theorem callWith_star2 (_X : K.In h₀) (hk : keepIn K f = true) (h : wpAny M A (spliced (backTo pos (starEach (.Starred e p :: e2 :: rest) env))) (fun vs s₁ => K.In s₁.heap ∧ wpAny M A (call f (first ++ vs)) Q E s₁) E s)
    (he : starEach (.Starred e p :: e2 :: rest) env = (true, eval e env) :: starEach (e2 :: rest) env := by rfl) (he2 : ∃ b, starEach (e2 :: rest) env = b :: starEach rest env := by exact ⟨_, rfl⟩) :
    wpAny M A (callWith pos f first (backTo pos (starEach (.Starred e p :: e2 :: rest) env)) []) Q E s := by
  obtain ⟨b, hb⟩ := he2
  rw [he, hb] at h ⊢
  exact ks_call rfl (keeps_K hk) (evalArgs_two h)
end
theorem told_con {w : World} {s : Shared} {number : Int} {tn ts : Tok} {octets : Nat} (ho1 : 1 ≤ octets) (ho3 : octets ≤ 3) (hn0 : 0 ≤ number) (hb : number < 2 ^ (8 * octets)) : Con w 203 [.int number tn, .int (octets : Int) ts] [] 6 s (fun h r => ∃ p t0 t1 t2, r = .ref p ∧ h.get? p = some { cls := .type "tuple", data := .seq #[.str (textOf (codes number octets)) t0, .str (normOf (Txt.split (frontPath number octets) (Str.ofString "/"))) t1, .str (normOf (Txt.split (behindPath number octets) (Str.ofString "/"))) t2] } ∧ s.heap.get? p = none) := by
  have hz : PySem.Challenge.rw_rt0036_01 = PySem.Challenge.rw_rt0036_01 := rfl
  unfold Con
  revert hz
  k_fill
  intro _ dp un gd outer base mean mg mb Q E B X T hd hu hQ
  refine wpAny_call ?_
  refine enter_cells (binds := [(Str.ofString "number", .int number tn), (Str.ofString "octets", .int (octets : Int) ts)]) B X T (by k_is) (by k_is) (rm0 hd) (BindsTo.of_eq rfl) ?_ ?_ (fun L h₁ tk cells hL F N hc => ?_) rfl rfl rfl
  · intro n x hx
    rcases List.mem_cons.mp hx with rfl | hx
    · exact .inr ⟨rfl, rfl⟩
    · rw [List.mem_singleton.mp hx]; exact .inl rfl
  · decide
  k_cells hc
  (try simp only [List.cons_append, List.nil_append] at N)
  (try dsimp only)
  (try k_fold)
  k_steps
  refine Halt.go (lc_eval (h₀ := s.heap) (L := L) rfl (by decide) rfl (by decide) rfl ?_)
  k_steps
  refine Halt.go (call_range_3 (by decide) ?_ (.inl (PyProof.noPylong_small (by omega))))
  have hrs : Builtin.Range.rangeSize ((octets : Int) - 1) (-1) (-1) = ((octets : Nat) : Int) := range_down_size (by omega)
  have hrm : Builtin.Range.small ((octets : Int) - 1) (-1) (-1) = true := range_down_small (by omega)
  refine CompAny.plain (R := RInt) _ (fun k => number / 2 ^ (8 * k).toNat % 256) RInt (F.push _) (fun p hp => ⟨Heap.get?_push_of_some _ (N p hp).1, (N p hp).2⟩) (src_range rfl (IsRange.new ..) hrm hrs) (by rw [sizeLine_eq]; simp; omega) ?_ ?_
  · rintro a v I' C D oI' oC ys m₂ h' tk' E' ha' ⟨ta, rfl⟩ ⟨hns, hat, F₃, N₃, hoff, hne⟩
    have ha0 : 0 ≤ a ∧ a ≤ 2 := by
      obtain ⟨i, hi, rfl⟩ := List.mem_map.mp ha'
      have := List.mem_range.mp hi
      omega
    show wpAny _ _ _ _ _ _
    (try k_fold)
    k_steps
    refine Kept.intro (by assumption) (by assumption) (fun p hp => hp) (rint_of ?_)
    rw [bitAnd_m8, Int.fdiv_eq_ediv_of_nonneg _ (Int.le_of_lt (Int.pow_pos (by decide)))]
  · intro D h tk6 ys F N o1 hys
    simp only [LCg.Off1, and_true] at o1
    k_steps
    (rename News _ _ _ _ => Nx; rename Fr _ _ _ _ => Fx)
    refine bytes_own (ns := octs number octets) Fx Nx (by walk_at "mem") (by rw [octs_eq number octets]; exact hys.ints) octs_in (by rw [octs_len]; omega) rfl fun h' t k F N => ?_
    k_steps
    refine Halt.go (con_use (b64encode_con (by rw [List.toList_toArray, List.length_map, octs_len]; exact ho3) (by rw [List.toList_toArray, List.length_map, octs_len]; omega)) B (by assumption) (by assumption) X T rfl rfl (rm hd) (rm3 hu) (fun r h' tk' hk hp F N => ?_))
    rw [bytes_back octs_in] at hp
    obtain ⟨t', rfl⟩ := hp
    k_steps
    refine Halt.go (lc_eval (h₀ := s.heap) (L := L) rfl (by decide) rfl (by decide) rfl ?_)
    k_steps
    (rename News _ _ _ _ => N₁; rename Fr _ _ _ _ => F₁)
    refine CompAny.plain (R := RInt) (codes number octets) chrS RStr F₁ N₁ (src_codes rfl codes_in) (by rw [sizeLine_eq]; have := codes_len (number := number) (octets := octets); omega) ?_ ?_
    · rintro a v I' C D oI' oC ys m₂ h' tk' E' ha' ⟨ta, rfl⟩ ⟨hns, hat, F₃, N₃, hoff, hne⟩
      have ha0 := codes_in a ha'
      show wpAny _ _ _ _ _ _
      (try k_fold)
      k_steps
      exact Kept.intro (by assumption) (by assumption) (fun p hp => hp) ⟨_, rfl⟩
    · intro D' h tk6 ys' F N o1' hys'
      clear F₁ N₁
      simp only [LCg.Off1, and_true] at o1'
      k_steps
      (rename News _ _ _ _ => N₁; rename Fr _ _ _ _ => F₁)
      refine join_list (own_list N₁ (by walk_at "mem")) hys'.strs (by have := codes_len (number := number) (octets := octets); rw [chr_sum, List.length_map]; show _ + _ * 0 ≤ _; omega) fun t2 k2 => ?_
      rw [join_chr]
      have hcl := codes_len (number := number) (octets := octets)
      have htl : (textOf (codes number octets)).length ≤ 4 := by show (Array.size _) ≤ 4; simpa [textOf] using hcl
      k_steps
      refine Halt.go (lc_assign (h₀ := s.heap) rfl rfl (by decide) rfl (by decide) rfl rfl rfl ?_)
      k_steps
      (rename News _ _ _ _ => N₁; rename Fr _ _ _ _ => F₁)
      refine CompAny.tested (R := RChr) (codes number octets) (fun n => n != 61) signAt RInt F₁ N₁ (src_text rfl codes_lt) (by rw [sizeLine_eq]; omega) ?_ ?_ ?_
      · rintro a v I' C D oI' oC ys m₂ h' tk' E' ha' ⟨ta, rfl⟩ ⟨hns, hat, F₃, N₃, hoff, hne⟩
        have ha0 := codes_in a ha'
        (try dsimp only)
        (try k_fold)
        k_steps
        exact Kept.intro (by assumption) (by assumption) (fun p hp => hp) (chr_ne ha0)
      · rintro a v I' C D oI' oC ys m₂ h' tk' E' ha' hka ⟨ta, rfl⟩ ⟨hns, hat, F₃, N₃, hoff, hne⟩
        have hfa : 0 ≤ Txt.find sgns (chrS a) := by
          obtain ⟨j, h0, h1, rfl⟩ := codes_sign a ha' (by simpa using hka)
          have := sign_find j h0 h1
          unfold signAt at this; omega
        show wpAny _ _ _ _ _ _
        (try dsimp only)
        (try k_fold)
        k_steps
        refine Halt.go (con_use signs_con B F₃ N₃ X T rfl rfl (rm hd) (rm3 hu) (fun r h' tk' hk hp F N => ?_))
        obtain ⟨t3, rfl⟩ := hp
        clear F₃ N₃
        k_steps
        · exact absurd (by assumption : Txt.find _ _ = -1) (by unfold sgns at hfa; omega)
        · exact Kept.intro (by assumption) (by assumption) (fun p hp => hp) ⟨_, rfl⟩
      · intro D2 h tk7 ys2 F N o2 hys2
        clear F₁ N₁
        simp only [LCg.Off1, and_true] at o2
        have hpl := hys2.ints
        k_steps
        refine Halt.go (wpAny_Assign_Name ?_)
        (rename News _ _ _ _ => N₁; rename Fr _ _ _ _ => F₁)
        refine lc2_eval (h₀ := s.heap) (L := L) rfl (by decide) rfl (by decide) rfl rfl (by decide) rfl ?_
        k_steps
        refine ⟨Int, Int, Bool, placesOf number octets, RInt, [5, 4, 3, 2, 1, 0], RInt, fun p k => p / 2 ^ k.toNat % 2 == 1, RBool, _, _, F₁, N₁, src_list rfl F₁ N₁ (.inr (.head _)) rfl rfl (Rel2.ofInts hpl), ?_, by decide, ⟨?_, ?_⟩, ?_⟩
        · have h1 : (placesOf number octets).length ≤ (codes number octets).length := by unfold placesOf; rw [List.length_map]; exact List.length_filter_le _ _
          omega
        · rintro a v I C D3 oI oC ys m₂ h tk E' ha ⟨ta, rfl⟩ ⟨hns, hat, F₃, N₃, hoff, hne⟩
          (try dsimp only)
          (try k_fold)
          k_steps
          (rename News _ _ _ _ => Nx; rename Fr _ _ _ _ => Fx)
          refine ⟨_, _, _, _, _, rfl, rfl, Fx, Nx, ?_, .cons ⟨_, rfl⟩ (.cons ⟨_, rfl⟩ (.cons ⟨_, rfl⟩ (.cons ⟨_, rfl⟩ (.cons ⟨_, rfl⟩ (.cons ⟨_, rfl⟩ .nil)))))⟩
          rename _ ∧ _ => hlt
          intro p hp
          simp only [List.mem_cons, List.not_mem_nil, or_false] at hp
          rcases hp with rfl | rfl | rfl | rfl | rfl | rfl | rfl | rfl <;> exact Nat.ne_of_lt (by omega)
        · rintro a b v v2 I C D3 l I' oI oC ol oI' ys m₂ h tk E' ha hb ⟨ta, rfl⟩ ⟨tb, rfl⟩ hns hat hbt F₃ N₃
          have hp := placesOf_in a ha
          have hb' : 0 ≤ b ∧ b ≤ 5 := (by decide : ∀ b ∈ ([5, 4, 3, 2, 1, 0] : List Int), 0 ≤ b ∧ b ≤ 5) b hb
          (try dsimp only)
          (try k_fold)
          k_steps
          refine Kept.intro F₃ N₃ (fun p hp => hp) ?_
          show Value.bool _ = Value.bool _
          rw [bitAnd_m1, Int.fdiv_eq_ediv_of_nonneg _ (Int.le_of_lt (Int.pow_pos (by decide)))]
        · intro D3 h tk8 ys3 F N o3 hys3
          clear F₁ N₁
          simp only [LCg.Off1, and_true] at o3
          k_steps
          (rename News _ _ _ _ => N₁; rename Fr _ _ _ _ => F₁)
          have hhas : Rel2 RBool (hasOf number octets) ys3 := hys3
          have N₁ := news_two (p := (D3, LCg.lst ys3)) N₁ (by walk_at "mem") (List.Mem.tail _ (List.Mem.tail _ (List.Mem.tail _ (List.Mem.tail _ (List.Mem.head _)))))
          obtain ⟨m₀, e0, F₁⟩ := fr_name F₁
          have e1 : m₀ (Str.ofString "octets") = some (.int (octets : Int) ts) := by rw [e0]; rfl
          have e2 : m₀ (Str.ofString "text") = some (.str (textOf (codes number octets)) t2) := by rw [e0]; rfl
          clear e0
          rw [over2 e1 e2] at F₁
          clear hys hys' hk hys2 hpl hys3 o1 o1' o2 hrs hrm
          refine Halt.go (lc_assign (h₀ := s.heap) rfl rfl (by decide) rfl (by decide) rfl rfl rfl ?_)
          k_steps
          refine Halt.go (call_range_1 ?_)
          have hhl : 8 * octets ≤ (hasOf number octets).length := hasOf_len ho1 ho3
          have hrs : Builtin.Range.rangeSize 0 (8 * (octets : Int)) 1 = ((8 * octets : Nat) : Int) := range_up_size ho3
          have hrm : Builtin.Range.small 0 (8 * (octets : Int)) 1 = true := range_up_small ho3
          refine CompAny.plain (R := RInt) _ (frontF (hasOf number octets)) RStr (F₁.push _) (fun p hp => ⟨Heap.get?_push_of_some _ (N₁ p hp).1, (N₁ p hp).2⟩) (src_range rfl (IsRange.new ..) hrm hrs) (by rw [sizeLine_eq]; simp; omega) ?_ ?_
          · rintro a v I' C D oI' oC ys m₂ h' tk' E' ha' ⟨ta, rfl⟩ ⟨hns, hat, F₃, N₃, hoff, hne⟩
            have ha0 : 0 ≤ a ∧ a < 24 ∧ a.toNat < (hasOf number octets).length := by
              obtain ⟨i, hi, rfl⟩ := List.mem_map.mp ha'
              have := List.mem_range.mp hi
              omega
            obtain ⟨_, hget, rfl⟩ := hhas.get' (List.getElem?_eq_getElem ha0.2.2)
            have hfr : frontF (hasOf number octets) a = if (hasOf number octets)[a.toNat]'ha0.2.2 then Str.ofString (toString a) else Str.ofString ".." := by
              unfold frontF; rw [List.getD_eq_getElem?_getD, List.getElem?_eq_getElem ha0.2.2]; rfl
            rw [hfr]
            generalize (hasOf number octets)[a.toNat]'ha0.2.2 = bit at *
            show wpAny _ _ _ _ _ _
            (try dsimp only)
            (try k_fold)
            k_steps
            refine Halt.go (sub_list (vs := ys3) N₃ (by walk_at "mem") ha0.1 (by omega) hget ?_)
            cases bit
            · k_steps
              refine Kept.intro F₃ N₃ (fun p hp => hp) ?_
              exact ⟨_, rfl⟩
            · k_steps
              refine Kept.intro F₃ N₃ (fun p hp => hp) ?_
              exact ⟨_, rfl⟩
          · intro D4 h tk9 ys4 F N o4 hys4
            clear F₁ N₁
            simp only [LCg.Off1, and_true] at o4
            k_steps
            (rename News _ _ _ _ => N₁; rename Fr _ _ _ _ => F₁)
            refine Halt.go (lc_assign (h₀ := s.heap) rfl rfl (by decide) rfl (by decide) rfl rfl rfl ?_)
            k_steps
            refine Halt.go (call_range_3 (by decide) ?_ (.inl (PyProof.noPylong_small (by omega))))
            have hrs2 : Builtin.Range.rangeSize (8 * (octets : Int) - 1) (-1) (-1) = ((8 * octets : Nat) : Int) := by have := range_down_size (size := 8 * octets) (by omega); simpa using this
            have hrm2 : Builtin.Range.small (8 * (octets : Int) - 1) (-1) (-1) = true := by have := range_down_small (size := 8 * octets) (by omega); simpa using this
            refine CompAny.plain (R := RInt) _ (behindF (hasOf number octets)) RStr (F₁.push _) (fun p hp => ⟨Heap.get?_push_of_some _ (N₁ p hp).1, (N₁ p hp).2⟩) (src_range rfl (IsRange.new ..) hrm2 hrs2) (by rw [sizeLine_eq]; simp; omega) ?_ ?_
            · rintro a v I' C D oI' oC ys m₂ h' tk' E' ha' ⟨ta, rfl⟩ ⟨hns, hat, F₃, N₃, hoff, hne⟩
              have ha0 : 0 ≤ a ∧ a < 24 ∧ a.toNat < (hasOf number octets).length := by
                obtain ⟨i, hi, rfl⟩ := List.mem_map.mp ha'
                have := List.mem_range.mp hi
                omega
              obtain ⟨_, hget, rfl⟩ := hhas.get' (List.getElem?_eq_getElem ha0.2.2)
              have hfr : behindF (hasOf number octets) a = if (hasOf number octets)[a.toNat]'ha0.2.2 then Str.ofString ".." else Str.ofString (toString a) := by
                unfold behindF; rw [List.getD_eq_getElem?_getD, List.getElem?_eq_getElem ha0.2.2]; rfl
              rw [hfr]
              generalize (hasOf number octets)[a.toNat]'ha0.2.2 = bit at *
              show wpAny _ _ _ _ _ _
              (try dsimp only)
              (try k_fold)
              k_steps
              refine Halt.go (sub_list (vs := ys3) N₃ (by walk_at "mem") ha0.1 (by omega) hget ?_)
              cases bit
              · k_steps
                refine Kept.intro F₃ N₃ (fun p hp => hp) ?_
                exact ⟨_, rfl⟩
              · k_steps
                refine Kept.intro F₃ N₃ (fun p hp => hp) ?_
                exact ⟨_, rfl⟩
            · intro D5 h tk9 ys5 F N o5 hys5
              clear F₁ N₁
              simp only [LCg.Off1, and_true] at o5
              k_steps
              (rename News _ _ _ _ => N₁; rename Fr _ _ _ _ => F₁)
              have hl4 : ys4.length = 8 * octets := by rw [hys4.length]; simp
              have hl5 : ys5.length = 8 * octets := by rw [hys5.length]; simp
              refine star_seq (its := ys4.toArray) (n := ys4.length) (ws := ys4) F₁ N₁ (a := D4) (List.Mem.tail _ (List.Mem.head _)) rfl rfl (.inl rfl) (by simp) (by rw [sizeLine_eq, List.size_toArray]; omega) fun h' F N => ?_
              clear F₁ N₁
              k_steps
              (rename News _ _ _ _ => N₁; rename Fr _ _ _ _ => F₁)
              rw [List.append_nil]
              refine Halt.go (con_use (join_con (vs := ys4) hys4.strs (by omega) (by decide) (frontL_short ho3)) B F₁ N₁ X T rfl rfl (rm hd) (rm3 hu) (fun r h' tk' hk hp F N => ?_))
              obtain ⟨t3, rfl⟩ := hp
              clear F₁ N₁
              k_steps
              obtain ⟨f1, f2, f3⟩ := front_ok number octets ho1 ho3
              refine Halt.go (con_use (normpath_con f1 f2 f3) B (by assumption) (by assumption) X T rfl rfl (rm hd) (rm3 hu) (fun r h' tk' hk hp F N => ?_))
              obtain ⟨t4, rfl⟩ := hp
              k_steps
              (rename News _ _ _ _ => N₁; rename Fr _ _ _ _ => F₁)
              refine callWith_star2 (K := K0 w.params) X (by k_is) ?_
              k_steps
              (rename News _ _ _ _ => N₁; rename Fr _ _ _ _ => F₁)
              refine star_seq (its := ys5.toArray) (n := ys5.length) (ws := ys5) F₁ N₁ (a := D5) (List.Mem.head _) rfl rfl (.inl rfl) (by simp) (by rw [sizeLine_eq, List.size_toArray]; omega) fun h' F N => ?_
              clear F₁ N₁
              k_steps
              obtain ⟨b0, bs, hbl⟩ : ∃ b0 bs, behindL number octets = b0 :: bs := by
                cases hb : behindL number octets with
                | nil => have := congrArg List.length hb; simp [behindL] at this; omega
                | cons b0 bs => exact ⟨b0, bs, rfl⟩
              have hys5 : Rel2 RStr (behindL number octets) ys5 := hys5
              have hbsh := behindL_short (number := number) (octets := octets) ho3
              have hbp : behindPath number octets = (bs ++ [Str.ofString ""]).foldl jstep b0 := by unfold behindPath; rw [hbl]
              obtain ⟨g1, g2, g3⟩ := behind_ok number octets ho1 ho3
              rw [hbl] at hys5 hbsh
              obtain ⟨v0, vrest, rfl, ⟨t5, rfl⟩, hrest⟩ : ∃ v0 vrest, ys5 = v0 :: vrest ∧ RStr b0 v0 ∧ Rel2 RStr bs vrest := by cases hys5 with | cons h0 hr => exact ⟨_, _, rfl, h0, hr⟩
              have hvs5 : StrsAre (vrest ++ [Value.str (Str.ofString "") tk']) (bs ++ [Str.ofString ""]) := strsAre_push hrest.strs _ _
              simp only [List.length_cons] at hl5
              rw [List.cons_append]
              refine Halt.go (con_use (join_con (vs := vrest ++ [Value.str (Str.ofString "") tk']) hvs5 (by rw [List.length_append, List.length_singleton]; omega) (hbsh _ (.head _)) (fun p hp => by
                rcases List.mem_append.mp hp with hp | hp
                · exact hbsh p (.tail _ hp)
                · rw [List.mem_singleton.mp hp]; decide)) B (by assumption) (by assumption) X T rfl rfl (rm hd) (rm3 hu) (fun r h' tk' hk hp F N => ?_))
              rw [← hbp] at hp
              obtain ⟨t6, rfl⟩ := hp
              k_steps
              refine Halt.go (con_use (normpath_con g1 g2 g3) B (by assumption) (by assumption) X T rfl rfl (rm hd) (rm3 hu) (fun r h' tk' hk hp F N => ?_))
              obtain ⟨t7, rfl⟩ := hp
              k_steps
              (rename News _ _ _ _ => Nx; rename Fr _ _ _ _ => Fx)
              exact hQ _ _ _ Fx.keep ⟨_, _, _, _, rfl, Nx.get (.head _), Nx.fresh (.head _)⟩
theorem due_con {w : World} {s : Shared} {c : Addr} {cs : List Value} {n : Nat} {xs : List Int} {at_ : Nat} {ta to : Tok} {octets : Nat} {ts : List Nat} (ho1 : 1 ≤ octets) (ho3 : octets ≤ 3) (hc : s.heap.get? c = some (PySem.W.listOf cs.toArray n)) (hi : IntsAre cs xs) (hat : at_ < xs.length)
    (hts : xs.length = ts.length + 1) (htl : ts.length ≤ 24) (hx0 : ∀ x ∈ xs, 0 ≤ x ∧ x < 2 ^ (8 * octets)) (htb : ∀ t ∈ ts, t < 8 * octets) (hstep : ∀ k t, ts[k]? = some t → ∃ a b, xs[k]? = some a ∧ xs[k + 1]? = some b ∧ b - a = 2 ^ (8 * octets - 1 - t)) :
    Con w 198 [.ref c, .int (at_ : Int) ta, .int (octets : Int) to] [] 6 s (fun h r => ∃ p t0 t1 t2 x, xs[at_]? = some x ∧ r = .ref p ∧ h.get? p = some { cls := .type "tuple", data := .seq #[.str (dueText x octets) t0, .str (orDot (Txt.join (Str.ofString "/") (dueFrontL ts at_))) t1, .str (orDot (Txt.join (Str.ofString "/") (dueBehindL ts at_))) t2] } ∧ s.heap.get? p = none) := by
  have hz : PySem.Challenge.rw_rt0036_01 = PySem.Challenge.rw_rt0036_01 := rfl
  unfold Con
  revert hz
  k_fill
  intro _ dp un gd outer base mean mg mb Q E B X T hd hu hQ
  refine wpAny_call ?_
  refine enter_cells (binds := [(Str.ofString "chain", .ref c), (Str.ofString "at", .int (at_ : Int) ta), (Str.ofString "octets", .int (octets : Int) to)]) B X T (by k_is) (by k_is) (rm0 hd) (BindsTo.of_eq rfl) ?_ ?_ (fun L h₁ tk cells hL F N hcc => ?_) rfl rfl rfl
  · intro n x hx
    simp only [List.mem_cons, List.not_mem_nil, or_false] at hx
    rcases hx with rfl | rfl | rfl
    · exact .inr ⟨rfl, rfl⟩
    · exact .inl rfl
    · exact .inl rfl
  · decide
  k_cells hcc
  (try simp only [List.cons_append, List.nil_append] at N)
  (try dsimp only)
  (try k_fold)
  rename Obj.data _ = Data.cell (bindC _ _ _ (Str.ofString "chain")) => dch
  change _ = Data.cell (some (Value.ref c)) at dch
  k_steps
  have hcat : ∃ x tx, cs[at_]? = some (.int x tx) ∧ xs[at_]? = some x := ints_get hi hat
  obtain ⟨x, tx, hcx, hxx⟩ := hcat
  have hQ' := fun (p : Addr) (t0 t1 t2 : Tok) (h' : Heap) (tk' : Nat) hk hg hn => hQ (.ref p) h' tk' hk ⟨p, t0, t1, t2, x, hxx, rfl, hg, hn⟩
  clear hQ
  have hxb := hx0 x (List.mem_of_getElem? hxx)
  have hxb2 : x < 2 ^ 24 := Int.lt_of_lt_of_le hxb.2 (pow_le24 (by omega))
  refine Halt.go (sub_at (vs := cs) (by rename Fr _ _ _ _ => Fx; exact Fx.keep _ _ hc) (by omega) (by omega) (by simpa using hcx) ?_)
  k_steps
  (rename News _ _ _ _ => N₁; rename Fr _ _ _ _ => F₁)
  refine Halt.go (lc_assign (h₀ := s.heap) rfl rfl (by decide) rfl (by decide) rfl rfl rfl ?_)
  k_steps
  obtain ⟨hrs, hrm⟩ := range_dn1 ho3
  refine Halt.go (call_range_3 (by decide) ?_ (.inl (PyProof.noPylong_small (by omega))))
  refine CompAny.plain (R := RInt) _ (signF (x * 2 ^ (6 * (octets : Int) + 6 - 8 * (octets : Int)).toNat)) RStr (F₁.push _) (fun p hp => ⟨Heap.get?_push_of_some _ (N₁ p hp).1, (N₁ p hp).2⟩) (src_range rfl (IsRange.new ..) hrm hrs) (by rw [sizeLine_eq]; simp; omega) ?_ ?_
  · rintro a v I' C D oI' oC ys m₂ h' tk' E' ha' ⟨ta, rfl⟩ ⟨hns, hat, F₃, N₃, hoff, hne⟩
    have ha0 : 0 ≤ a ∧ a ≤ 3 := by
      obtain ⟨i, hi, rfl⟩ := List.mem_map.mp ha'
      have := List.mem_range.mp hi
      omega
    show wpAny _ _ _ _ _ _
    (try dsimp only)
    (try k_fold)
    k_steps
    (rename News _ _ _ _ => N₂; rename Fr _ _ _ _ => F₂)
    refine Halt.go (con_use signs_con B F₂ N₂ X T rfl rfl (rm hd) (rm3 hu) (fun r h' tk' hk hp F N => ?_))
    obtain ⟨t3, rfl⟩ := hp
    clear F₂ N₂
    k_steps
    refine Halt.go (sgn_item (j := x * 2 ^ (6 * (octets : Int) + 6 - 8 * (octets : Int)).toNat / 2 ^ (6 * a).toNat % 64) ?_ (by omega) (by omega) ?_)
    · rw [bitAnd_m6, Int.fdiv_eq_ediv_of_nonneg _ (Int.le_of_lt (Int.pow_pos (by decide)))]
    · k_steps
      exact Kept.intro (by assumption) (by assumption) (fun p hp => hp) ⟨_, rfl⟩
  · intro D2 h tk7 ys2 F N o2 hys2
    clear F₁ N₁
    simp only [LCg.Off1, and_true] at o2
    k_steps
    (rename News _ _ _ _ => N₁; rename Fr _ _ _ _ => F₁)
    refine Halt.go (wpAny_Assign_Name ?_)
    refine lc_eval (h₀ := s.heap) (L := L) rfl (by decide) rfl (by decide) rfl ?_
    k_steps
    refine Halt.go (call_range_1 ?_)
    refine CompAny.plain (R := RInt) _ (bitF octets) RInt (F₁.push _) (fun p hp => ⟨Heap.get?_push_of_some _ (N₁ p hp).1, (N₁ p hp).2⟩) (src_range rfl (IsRange.new ..) (range_up_small ho3) (range_up_size ho3)) (by rw [sizeLine_eq]; simp; omega) ?_ ?_
    · rintro a v I' C D oI' oC ys m₂ h' tk' E' ha' ⟨ta, rfl⟩ ⟨hns, hat, F₃, N₃, hoff, hne⟩
      have ha0 : 0 ≤ a ∧ a < 8 * (octets : Int) := by
        obtain ⟨i, hi, rfl⟩ := List.mem_map.mp ha'
        have := List.mem_range.mp hi
        omega
      show wpAny _ _ _ _ _ _
      (try dsimp only)
      (try k_fold)
      k_steps
      refine Kept.intro (by assumption) (by assumption) (fun p hp => hp) (rint_of ?_)
      unfold bitF; rw [Int.one_mul]
    · intro D3 h tk8 ys3 F N o3 hys3
      clear F₁ N₁
      simp only [LCg.Off1, and_true] at o3
      k_steps
      (rename News _ _ _ _ => N₁; rename Fr _ _ _ _ => F₁)
      have N₁ : News s.heap L _ _ := fun p (hp : p ∈ [(D3, LCg.lst ys3), (D2, LCg.lst ys2), (L + 1 + 1 + 1 + 1, _), (L + 1, _)]) => N₁ p (by
        simp only [List.mem_cons, List.not_mem_nil, or_false] at hp ⊢
        rcases hp with h | h | h | h
        · exact .inl h
        · exact .inr (.inl h)
        · exact .inr (.inr (.inl h))
        · exact .inr (.inr (.inr (.inr (.inr h)))))
      obtain ⟨m₀, e0, F₁⟩ := fr_name F₁
      have e1 : m₀ (Str.ofString "octets") = some (.int (octets : Int) to) := by rw [e0]; rfl
      have e2 : m₀ (Str.ofString "at") = some (.int (at_ : Int) ta) := by rw [e0]; rfl
      have e3 : m₀ (Str.ofString "signs") = some (.ref D2) := by rw [e0]; rfl
      clear e0
      rw [over3 e1 e2 e3] at F₁
      clear hrs hrm o2 o3
      refine Halt.go (lc_assign (h₀ := s.heap) rfl rfl (by decide) rfl (by decide) rfl rfl rfl ?_)
      k_steps
      have hcl : cs.length = ts.length + 1 := by rw [hi.length, hts]
      refine Halt.go (call_len_list (items := cs.toArray) ⟨_, F₁.keep _ _ hc, rfl, _, rfl⟩ (by rw [List.size_toArray]; omega) ?_)
      k_steps
      have hn : ((cs.toArray.size : Nat) : Int) - 1 = ((ts.length : Nat) : Int) := by rw [List.size_toArray]; omega
      rw [hn]
      refine Halt.go (call_range_1 ?_)
      obtain ⟨hrs, hrm⟩ := range_up1 htl
      refine CompAny.plain (R := RInt) _ (fun a => natStr (ts.getD a.toNat 0)) RStr (F₁.push _) (fun p hp => ⟨Heap.get?_push_of_some _ (N₁ p hp).1, (N₁ p hp).2⟩) (src_range rfl (IsRange.new ..) hrm hrs) (by rw [sizeLine_eq]; simp; omega) ?_ ?_
      · rintro a v I' C D oI' oC ys m₂ h' tk' E' ha' ⟨ta, rfl⟩ ⟨hns, hat, F₃, N₃, hoff, hne⟩
        obtain ⟨t, hta, ha0, ha1⟩ : ∃ t, ts[a.toNat]? = some t ∧ 0 ≤ a ∧ a < 24 := by
          obtain ⟨i, hi, rfl⟩ := List.mem_map.mp ha'
          have := List.mem_range.mp hi
          exact ⟨ts[i]'this, by rw [show ((0 : Int) + (i : Int) * 1).toNat = i by omega]; exact List.getElem?_eq_getElem this, by omega⟩
        obtain ⟨xa, xb, hxa, hxb', hd⟩ := hstep _ _ hta
        obtain ⟨txa, hca⟩ := ints_get' hi hxa
        obtain ⟨txb, hcb⟩ := ints_get' hi hxb'
        have htt := htb t (List.mem_of_getElem? hta)
        have hxa2 := hx0 xa (List.mem_of_getElem? hxa)
        have hxb2 := hx0 xb (List.mem_of_getElem? hxb')
        have hp24 := pow_le24 (k := 8 * octets) (by omega)
        obtain ⟨hlay, hidx⟩ := bits_facts ho1 ho3
        obtain ⟨hmem, hix⟩ := hidx t htt
        have hbits : IntsAre ys3 (bitsL octets) := hys3.ints
        rw [show natStr (ts.getD a.toNat 0) = natStr t by rw [List.getD_eq_getElem?_getD, hta]; rfl]
        clear hstep hx0 htb hys3
        show wpAny _ _ _ _ _ _
        (try dsimp only)
        (try k_fold)
        k_steps
        refine Halt.go (sub_at (vs := cs) (F₃.keep _ _ hc) (by omega) (by omega) (by rw [show (a + 1).toNat = a.toNat + 1 by omega]; exact hcb) ?_)
        k_steps
        refine Halt.go (sub_at (vs := cs) (F₃.keep _ _ hc) (by omega) (by omega) hca ?_)
        k_steps
        refine Halt.go (index_list_ints (ns := bitsL octets) (own_list N₃ (by walk_at "mem")) hbits hlay (by rw [hd]; exact hmem) ?_)
        rw [hd, hix]
        k_steps
        exact Kept.intro (by assumption) (by assumption) (fun p hp => hp) ⟨_, rfl⟩
      · intro D4 h tk9 ys4 F N o4 hys4
        have htb2 := htb
        have hatt : at_ ≤ ts.length := by omega
        clear F₁ N₁ hstep hx0 htb hys3 hrs hrm hn
        (try clear hcl)
        (try clear hat)
        (try clear hts)
        simp only [LCg.Off1, and_true] at o4
        k_steps
        have hl4 : ys4.length = ts.length := by rw [hys4.length]; simp
        (rename News _ _ _ _ => N₁; rename Fr _ _ _ _ => F₁)
        have hthings : Rel2 RStr (ts.map natStr) ys4 := by rw [← things_eq]; exact hys4
        refine Halt.go (call_len_list (items := ys4.toArray) (own_list N₁ (.tail _ (.head _))) (by rw [List.size_toArray]; omega) ?_)
        rw [List.size_toArray, hl4]
        k_steps
        have hdots : ∀ k : Nat, ∀ tv, StrsAre (List.replicate k [Value.str (Str.ofString "..") tv]).flatten (List.replicate k (Str.ofString "..")) := strs_rep
        have hsz4 : ∀ y ∈ ts.map natStr, y.length ≤ 8 := nat_short ts (fun t ht => by have := htb2 t ht; omega)
        refine Halt.go (mul_own (vs := [.str (Str.ofString "..") _]) (n := 0) (by assumption) (by assumption) (List.Mem.head _) (by simp) (by omega) (by omega) (by simp) fun r1 h1 F N hr1 => ?_)
        clear N₁ F₁
        k_steps
        (rename News _ _ _ _ => N₁; rename Fr _ _ _ _ => F₁)
        refine Halt.go (slice_own (vs := ys4) (ws := ys4.take at_) (lo := none) (hi := some (at_ : Int)) (st := none) F₁ N₁ (.tail _ (.tail _ (.head _))) .none (.int _ _) .none (by simp) (by rw [slicePick_upto']) (by omega) fun r2 h2 F N hr2 => ?_)
        clear N₁ F₁
        k_steps
        (rename News _ _ _ _ => N₁; rename Fr _ _ _ _ => F₁)
        refine Halt.go (slice_own (vs := ys4.take at_) (ws := (ys4.take at_).reverse) (lo := none) (hi := none) (st := some (-1)) F₁ N₁ (.head _) .none .none (.int _ _) (by decide) (slicePick_rev _) (by rw [List.length_take]; omega) fun r3 h3 F N hr3 => ?_)
        clear N₁ F₁
        k_steps
        (rename News _ _ _ _ => N₁; rename Fr _ _ _ _ => F₁)
        refine Halt.go (add_own F₁ N₁ (.tail _ (.tail _ (.head _))) (.head _) (by simp; omega) fun r4 h4 F N hr4 => ?_)
        clear N₁ F₁
        k_steps
        (rename News _ _ _ _ => N₁; rename Fr _ _ _ _ => F₁)
        have hst4 := hthings.strs
        have hfrl : StrsAre ((List.replicate ((ts.length : Int) - (at_ : Int)).toNat [Value.str (Str.ofString "..") (tk9 + 1)]).flatten ++ (ys4.take at_).reverse) (dueFrontL ts at_) := by
          unfold dueFrontL
          rw [show ((ts.length : Int) - (at_ : Int)).toNat = ts.length - at_ by omega]
          exact (strs_rep _ _).append' (strs_rev (strs_take hst4 _))
        refine Halt.go (join_list (ys := dueFrontL ts at_) (own_list N₁ (.head _)) hfrl (by rw [show (Str.ofString "/").length = 1 by decide]; have := due_sum1 hsz4 htl (at_ := at_); omega) fun t' k => ?_)
        have hFl : (Txt.join (Str.ofString "/") (dueFrontL ts at_)).length ≤ 512 := by
          show (PySem.Builtin.Str.glued _ _).length ≤ _
          rw [size_glued, show (Str.ofString "/").length = 1 by decide]; have := due_sum1 hsz4 htl (at_ := at_); omega
        generalize hFr : Txt.join (Str.ofString "/") (dueFrontL ts at_) = frS at hFl hQ' ⊢
        k_steps
        refine Halt.go (mul_own (vs := [.str (Str.ofString "..") _]) (n := 0) (by assumption) (by assumption) (List.Mem.head _) (by simp) (by omega) (by omega) (by simp) fun r5 h5 F N hr5 => ?_)
        clear N₁ F₁
        k_steps
        (rename News _ _ _ _ => N₁; rename Fr _ _ _ _ => F₁)
        refine Halt.go (slice_own (vs := ys4) (ws := ys4.drop at_) (lo := some (at_ : Int)) (hi := none) (st := none) F₁ N₁ (.tail _ (.tail _ (.tail _ (.tail _ (.tail _ (.tail _ (.tail _ (.head _)))))))) (.int _ _) .none .none (by simp) (by rw [slicePick_from']) (by omega) fun r6 h6 F N hr6 => ?_)
        clear N₁ F₁
        k_steps
        (rename News _ _ _ _ => N₁; rename Fr _ _ _ _ => F₁)
        refine Halt.go (add_own F₁ N₁ (.tail _ (.head _)) (.head _) (by simp; omega) fun r7 h7 F N hr7 => ?_)
        clear N₁ F₁
        k_steps
        (rename News _ _ _ _ => N₁; rename Fr _ _ _ _ => F₁)
        refine Halt.go (join_list (ys := dueBehindL ts at_) (own_list N₁ (.head _)) ((strs_rep _ _).append' (strs_drop hst4 _)) (by rw [show (Str.ofString "/").length = 1 by decide]; have := due_sum2 hsz4 htl (at_ := at_) (by omega); omega) fun t2 k2 => ?_)
        have hBl : (Txt.join (Str.ofString "/") (dueBehindL ts at_)).length ≤ 512 := by
          show (PySem.Builtin.Str.glued _ _).length ≤ _
          rw [size_glued, show (Str.ofString "/").length = 1 by decide]; have := due_sum2 hsz4 htl (at_ := at_) (by omega); omega
        generalize hBr : Txt.join (Str.ofString "/") (dueBehindL ts at_) = beS at hBl hQ' ⊢
        k_steps
        (rename News _ _ _ _ => N₁; rename Fr _ _ _ _ => F₁)
        have N₁ := news_one (p := (D2, LCg.lst ys2)) N₁ (by walk_at "mem")
        have hsg : StrsAre ys2 (dueSigns x octets) := hys2.strs
        refine Halt.go (join_list (ys := dueSigns x octets) (own_list N₁ (.head _)) hsg (by rw [show (Str.ofString "").length = 0 by decide]; have := dueSigns_len (x := x) ho3; omega) fun t3 k3 => ?_)
        have hSl : (Txt.join (Str.ofString "") (dueSigns x octets)).length ≤ 64 := by
          show (PySem.Builtin.Str.glued _ _).length ≤ _
          rw [size_glued, show (Str.ofString "").length = 0 by decide]; have := dueSigns_len (x := x) ho3; omega
        have hdt : dueText x octets = Txt.join (Str.ofString "") (dueSigns x octets) ++ Txt.mul (Str.ofString "=") (3 - (octets : Int)) := rfl
        rw [hdt] at hQ'
        generalize hSr : Txt.join (Str.ofString "") (dueSigns x octets) = sgS at hSl hQ' ⊢
        k_steps
        refine Halt.go (SB.mul (mulOk_of 16 1048576 (by decide) (by omega) (by omega) (by decide) (by decide)) fun t4 k4 => ?_)
        have hEl : (Txt.mul (Str.ofString "=") (3 - (octets : Int))).length ≤ 3 := eqs_len ho1 ho3
        generalize hEr : Txt.mul (Str.ofString "=") (3 - (octets : Int)) = eqS at hEl hQ' ⊢
        k_steps
        all_goals (rename News _ _ _ _ => Nx; rename Fr _ _ _ _ => Fx)
        all_goals (first | rw [orDot_no (x := frS) (by omega)] at hQ' | rw [orDot_yes (x := frS) (by omega)] at hQ')
        all_goals (first | rw [orDot_no (x := beS) (by omega)] at hQ' | rw [orDot_yes (x := beS) (by omega)] at hQ')
        all_goals exact hQ' _ _ _ _ _ _ Fx.keep (Nx.get (.head _)) (Nx.fresh (.head _))
theorem nk {h₀ h : Heap} {L : Addr} {l all : List (Addr × Obj)} {p : Addr × Obj} (N : News h₀ L h all) (hp : p ∈ all) (R : News h₀ L h l) : News h₀ L h (p :: l) := fun x hx => by
  rcases List.mem_cons.mp hx with rfl | hx
  · exact N _ hp
  · exact R _ hx
theorem mh {α : Type} {a : α} {l : List α} : a ∈ a :: l := .head _
theorem mt {α : Type} {a b : α} {l : List α} (h : a ∈ l) : a ∈ b :: l := .tail _ h
theorem rowS_len {xs : List Int} {a : Nat} : (rowS xs a).length = xs.length := rowS_perm.length_eq
section
variable {prog : Program} {w : World} {A : Around} {E : Value → Shared → Prop} {s : Shared} {h₀ : Heap} {L r : Addr} {m : Str → Option Value} {news : List (Addr × Obj)}
theorem sorted_row {ws : List Value} {n a : Nat} {xs : List Int} {Q : Value → Shared → Prop} (F : Fr h₀ L s.heap m) (N : News h₀ L s.heap news) (hm : (r, PySem.W.listOf ws.toArray n) ∈ news) (hr : IntsAre ws (rowS xs a)) (hx : xs.Pairwise (· < ·)) (hl : xs.length ≤ 25)
    (h : ∀ q h' vs e, Fr h₀ L h' m → News h₀ L h' ((q, PySem.W.listOf vs e) :: news) → IntsAre vs.toList xs → Q (.ref q) { s with heap := h' }) : wpAny (model prog w) A (call (.builtin "sorted") [.ref r]) Q E s := by
  refine sorted_N F N (own_list N hm) hr (by rw [hr.length, rowS_len]; omega) fun h1 ws1 ns1 k1 F N i1 p1 o1 => ?_
  have e := sorted_same (p1.trans rowS_perm) o1 hx
  rw [e] at i1
  exact h _ h1 ws1.toArray k1 F N i1
end
abbrev tup2 (a b : Value) : Obj := { cls := .type "tuple", data := .seq #[a, b] }
theorem law_two {w : World} {s : Shared} {mean : ExcName → Option Value} {mg mb : Str → Option Value} {dp un : Nat} {gd : Option (List Code)} {R : Result → Shared → Prop} {Q' : Flow → Shared → Prop} {L : Addr} {h : Heap} {tk : Nat} {m₀ : Str → Option Value}
    {c1 c2 r0 r1 r2 : Addr} {v1 v2 w0 w1 w2 : List Value} {m1 m2 n0 n1 n2 : Nat} {xs1 xs2 : List Int} {s0 s1 s2 : Nat}
    (X : (K0 w.params).In s.heap) (T : Top V0 (looseW V0 [Str.ofString "b2a_base64", Str.ofString "b64encode", Str.ofString "_deduplicate"]) mean mg mb s.heap)
    (hd : dp + 30 < recursionLimit) (hu : un + 240 < cLine)
    (F : Fr s.heap L h m₀) (e1 : m₀ (Str.ofString "first") = some (.ref c1)) (e2 : m₀ (Str.ofString "other") = some (.ref c2)) (e3 : m₀ (Str.ofString "one") = some (.ref r0)) (e4 : m₀ (Str.ofString "two") = some (.ref r1)) (e5 : m₀ (Str.ofString "three") = some (.ref r2))
    (N : News s.heap L h [(c1, PySem.W.listOf v1.toArray m1), (c2, PySem.W.listOf v2.toArray m2), (r0, PySem.W.listOf w0.toArray n0), (r1, PySem.W.listOf w1.toArray n1), (r2, PySem.W.listOf w2.toArray n2)])
    (hi1 : IntsAre v1 xs1) (hi2 : IntsAre v2 xs2) (hr0 : IntsAre w0 (rowS xs1 s0)) (hr1 : IntsAre w1 (rowS xs1 s1)) (hr2 : IntsAre w2 (rowS xs2 s2)) (hl1 : xs1.length ≤ 25) (hl2 : xs2.length ≤ 25) (hx1 : xs1.Pairwise (· < ·)) (hx2 : xs2.Pairwise (· < ·)) (hp1 : xs1 ≠ [])
    (hQ : ∀ h' tk' m' (ri al ap q1 q2 q3 t1 t2 t3 t4 t5 t6 t7 z y p5 p6 p7 : Addr) (u1 u2 u3 : Array Value) (k1 k2 k3 : Nat), Fr s.heap L h' m' → m' (Str.ofString "first") = some (.ref c1) → m' (Str.ofString "other") = some (.ref c2) → m' (Str.ofString "one") = some (.ref r0) → m' (Str.ofString "two") = some (.ref r1) → m' (Str.ofString "three") = some (.ref r2) →
      m' (Str.ofString "same") = some (.bool (decide (xs1 = xs2))) → m' (Str.ofString "rising") = some (.ref ri) → m' (Str.ofString "alike") = some (.ref al) → m' (Str.ofString "apart") = some (.ref ap) → IntsAre u1.toList xs1 → IntsAre u2.toList xs2 → IntsAre u3.toList xs1 →
      News s.heap L h' [(al, PySem.W.listOf #[.ref t1, .ref t2, .ref t3] 0), (ap, PySem.W.listOf #[.ref t4, .ref t5, .ref t6, .ref t7] 0), (t1, tup2 (.ref r0) (.ref r1)), (t2, tup2 (.ref r1) (.ref z)), (t3, tup2 (.ref ri) (.ref y)), (t4, tup2 (.ref r0) (.ref r2)), (t5, tup2 (.ref p5) (.ref r1)), (t6, tup2 (.ref r1) (.ref p6)), (t7, tup2 (.ref p7) (.ref ri)),
        (z, PySem.W.listOf (w0.reverse ++ w0.reverse).toArray 0), (y, PySem.W.listOf #[.ref c2, .ref c1] 0), (p5, PySem.W.listOf (w0 ++ w2).toArray 0), (p6, PySem.W.listOf (w2 ++ w0).toArray 0), (p7, PySem.W.listOf #[.ref c1] 0), (ri, PySem.W.listOf #[.ref q1, .ref q2, .ref q3] 0),
        (q1, PySem.W.listOf u1 k1), (q2, PySem.W.listOf u2 k2), (q3, PySem.W.listOf u3 k3), (c1, PySem.W.listOf v1.toArray m1), (c2, PySem.W.listOf v2.toArray m2), (r0, PySem.W.listOf w0.toArray n0), (r1, PySem.W.listOf w1.toArray n1), (r2, PySem.W.listOf w2.toArray n2)] → Q' .next { s with heap := h', toks := tk' }) :
    wpAny (model PySem.Challenge.rw_rt0036_01.row.prog w) (Around.deeper { handled := none, depth := dp, frames := some [], guards := gd, units := un } (lawEnv L)) (execs (List.take 4 (List.drop 10 lawBody)) (lawEnv L)) Q'
      (fun e s' => wpAny (model PySem.Challenge.rw_rt0036_01.row.prog w) (Around.deeper { handled := none, depth := dp, frames := some [], guards := gd, units := un } (lawEnv L)) (leaving (lawEnv L) e) (fun _ s'' => R (.error e) s'') (fun e' s'' => R (.error e') s'') s') { s with heap := h, toks := tk } := by
  have hz : PySem.Challenge.rw_rt0036_01 = PySem.Challenge.rw_rt0036_01 := rfl
  revert hz X
  k_fill
  intro X _
  rw [law_cut10]
  generalize hb : lawAt 10 = b
  conv at hb => lhs; whnf
  subst hb
  generalize hb : lawAt 11 = b
  conv at hb => lhs; whnf
  subst hb
  generalize hb : lawAt 12 = b
  conv at hb => lhs; whnf
  subst hb
  generalize hb : lawAt 13 = b
  conv at hb => lhs; whnf
  subst hb
  generalize hb : lawScope = b
  conv at hb => lhs; whnf
  subst hb
  rw [over5 e1 e2 e3 e4 e5] at F
  have B : Below { handled := none, depth := dp, frames := some [], guards := gd, units := un } s.heap [] s.heap := ⟨rfl, fun _ _ e => e, trivial⟩
  have hw0 : w0.length = xs1.length := by rw [hr0.length, rowS_len]
  have hw1 : w1.length = xs1.length := by rw [hr1.length, rowS_len]
  have hw2 : w2.length = xs2.length := by rw [hr2.length, rowS_len]
  have hn0 : w0 ≠ [] := fun e => hp1 (List.eq_nil_of_length_eq_zero (by rw [← hw0, e]; rfl))
  (try k_fold)
  k_steps
  (rename News _ _ _ _ => N₁; rename Fr _ _ _ _ => F₁)
  refine Halt.go (sorted_row F₁ N₁ (mt (mt mh)) hr0 hx1 hl1 fun q1 h1 ws1 k1 F N i1 => ?_)
  clear F₁ N₁
  k_steps
  (rename News _ _ _ _ => N₁; rename Fr _ _ _ _ => F₁)
  refine Halt.go (sorted_row F₁ N₁ (mt (mt (mt (mt (mt mh))))) hr2 hx2 hl2 fun q2 h2 ws2 k2 F N i2 => ?_)
  clear F₁ N₁
  k_steps
  (rename News _ _ _ _ => N₁; rename Fr _ _ _ _ => F₁)
  refine Halt.go (sorted_row F₁ N₁ (mt (mt (mt (mt (mt mh))))) hr1 hx1 hl1 fun q3 h3 ws3 k3 F N i3 => ?_)
  clear F₁ N₁
  k_steps
  (rename News _ _ _ _ => N₁; rename Fr _ _ _ _ => F₁)
  refine Halt.go (slice_own (vs := w0) (ws := w0.reverse) (lo := none) (hi := none) (st := some (-1)) F₁ N₁ (by walk_at "mem") .none .none (.int _ _) (by decide) (slicePick_rev _) (by omega) fun r3 h3 F N hr3 => ?_)
  clear F₁ N₁ hr3
  k_steps
  (rename News _ _ _ _ => N₁; rename Fr _ _ _ _ => F₁)
  refine Halt.go (mul_own (vs := w0.reverse) F₁ N₁ (by walk_at "mem") (fun e => hn0 (by simpa using e)) (by decide) (by decide) (by simp; omega) fun r4 h4 F N hr4 => ?_)
  clear F₁ N₁ hr4
  k_steps
  (rename News _ _ _ _ => N₁; rename Fr _ _ _ _ => F₁)
  refine Halt.go (add_own (vs := w0) (ws := w2) F₁ N₁ (by walk_at "mem") (by walk_at "mem") (by omega) fun r5 h5 F N hr5 => ?_)
  clear F₁ N₁ hr5
  k_steps
  (rename News _ _ _ _ => N₁; rename Fr _ _ _ _ => F₁)
  refine Halt.go (add_own (vs := w2) (ws := w0) F₁ N₁ (by walk_at "mem") (by walk_at "mem") (by omega) fun r6 h6 F N hr6 => ?_)
  clear F₁ N₁ hr6
  k_steps
  (rename News _ _ _ _ => N₁; rename Fr _ _ _ _ => F₁)
  have e2 : (List.replicate (Int.toNat 2) w0.reverse).flatten = w0.reverse ++ w0.reverse := by simp
  rw [e2] at N₁
  exact hQ _ _ _ _ _ _ _ _ _ _ _ _ _ _ _ _ _ _ _ _ _ _ _ _ _ _ _ F₁ rfl rfl rfl rfl rfl rfl rfl rfl rfl i1 i2 i3 (nk N₁ (by walk_at "mem") (nk N₁ (by walk_at "mem") (nk N₁ (by walk_at "mem") (nk N₁ (by walk_at "mem") (nk N₁ (by walk_at "mem") (nk N₁ (by walk_at "mem") (nk N₁ (by walk_at "mem") (nk N₁ (by walk_at "mem") (nk N₁ (by walk_at "mem") (nk N₁ (by walk_at "mem") (nk N₁ (by walk_at "mem") (nk N₁ (by walk_at "mem") (nk N₁ (by walk_at "mem") (nk N₁ (by walk_at "mem") (nk N₁ (by walk_at "mem") (nk N₁ (by walk_at "mem") (nk N₁ (by walk_at "mem") (nk N₁ (by walk_at "mem") (nk N₁ (by walk_at "mem") (nk N₁ (by walk_at "mem") (nk N₁ (by walk_at "mem") (nk N₁ (by walk_at "mem") (nk N₁ (by walk_at "mem") (News.nil))))))))))))))))))))))))
def own4 : List Int := [1, 25299, 51234, 2]
def fourOf (ns : List Int) : List Int := ns.take 4 ++ own4.drop ns.length
theorem fourOf_len (ns : List Int) : (fourOf ns).length = 4 := by unfold fourOf own4; simp; omega
theorem list_keeps {h h' : Heap} {l : Addr} {its : Array Value} (H : h.IsList l its) (k : ∀ b o, h.get? b = some o → h'.get? b = some o) : h'.IsList l its := by
  obtain ⟨o, ho, r⟩ := H
  exact ⟨o, k _ _ ho, r⟩
theorem news_three {h₀ h : Heap} {L : Addr} {l : List (Addr × Obj)} {p q r : Addr × Obj} (N : News h₀ L h l) (h1 : p ∈ l) (h2 : q ∈ l) (h3 : r ∈ l) : News h₀ L h [p, q, r] := fun x hx => by
  simp only [List.mem_cons, List.not_mem_nil, or_false] at hx
  rcases hx with rfl | rfl | rfl
  · exact N _ h1
  · exact N _ h2
  · exact N _ h3
theorem rel4 {xs : List Int} (h4 : xs.length = 4) {ys : List Value} (h : Rel2 RInt (xs.map fun x : Int => (x.natAbs : Int)) ys) : ∃ n0 n1 n2 n3 t0 t1 t2 t3, ys = [.int n0 t0, .int n1 t1, .int n2 t2, .int n3 t3] ∧ 0 ≤ n0 ∧ 0 ≤ n1 ∧ 0 ≤ n2 ∧ 0 ≤ n3 := by
  match xs, h4 with
  | [a, b, c, d], _ =>
    cases h with
    | cons h0 r => cases r with
      | cons h1 r => cases r with
        | cons h2 r => cases r with
          | cons h3 r =>
            cases r
            obtain ⟨_, rfl⟩ := h0; obtain ⟨_, rfl⟩ := h1; obtain ⟨_, rfl⟩ := h2; obtain ⟨_, rfl⟩ := h3
            exact ⟨_, _, _, _, _, _, _, _, rfl, Int.natCast_nonneg _, Int.natCast_nonneg _, Int.natCast_nonneg _, Int.natCast_nonneg _⟩
theorem oct_of (n0 : Int) {n1 n2 n3 : Int} : ∃ o : Nat, ([n0, n1, n2, n3].getD (Int.toNat 0) 0).fmod 3 + 1 = (o : Int) ∧ 1 ≤ o ∧ o ≤ 3 := by
  show ∃ o : Nat, n0.fmod 3 + 1 = (o : Int) ∧ 1 ≤ o ∧ o ≤ 3
  rw [Int.fmod_eq_emod_of_nonneg _ (by decide)]
  exact ⟨(n0 % 3 + 1).toNat, by omega, by omega, by omega⟩
abbrev toldObj (y : Int) (octets : Nat) (t0 t1 t2 : Tok) : Obj := tup3 (.str (textOf (codes y octets)) t0) (.str (normOf (Txt.split (frontPath y octets) (Str.ofString "/"))) t1) (.str (normOf (Txt.split (behindPath y octets) (Str.ofString "/"))) t2)
/-- what is told of a set, as it lies -/
def ToldIn (y : Int) (octets : Nat) (q : Addr) (tls : List (Addr × Obj)) : Prop := ∃ t0 t1 t2, (q, toldObj y octets t0 t1 t2) ∈ tls
theorem three_refs {ys : List Value} (h : ys.length = 3) (hr : ∀ (j : Nat) (y : Value), ys[j]? = some y → ∃ q, y = Value.ref q) : ∃ q0 q1 q2, ys = [Value.ref q0, .ref q1, .ref q2] := by
  match ys, h with
  | [a, b, c], _ =>
    obtain ⟨q0, rfl⟩ := hr 0 a rfl
    obtain ⟨q1, rfl⟩ := hr 1 b rfl
    obtain ⟨q2, rfl⟩ := hr 2 c rfl
    exact ⟨_, _, _, rfl⟩
def RowIn (ns : List Int) (q : Addr) (tls : List (Addr × Obj)) : Prop := ∃ vs n, (q, PySem.W.listOf vs n) ∈ tls ∧ IntsAre vs.toList ns
theorem row_snoc {row : Nat → List Int} {i n : Nat} {ys : List Value} {tls : List (Addr × Obj)} {q : Addr} {vs : Array Value} (hyl : ys.length = i) (hys : ∀ j y, ys[j]? = some y → ∃ q, y = .ref q ∧ RowIn (row j) q tls) (h : IntsAre vs.toList (row i)) :
    ∀ j y, (ys ++ [Value.ref q])[j]? = some y → ∃ q', y = .ref q' ∧ RowIn (row j) q' ((q, PySem.W.listOf vs n) :: tls) := by
  intro j y hj
  by_cases hlt : j < ys.length
  · rw [List.getElem?_append_left hlt] at hj
    obtain ⟨q', e, vs', n', hm, hi⟩ := hys j y hj
    exact ⟨q', e, vs', n', mt hm, hi⟩
  · have hj' : j = ys.length := by
      have := (List.getElem?_eq_some_iff.mp hj).1
      simp at this; omega
    subst hj'
    rw [List.getElem?_append_right (Nat.le_refl _)] at hj
    simp at hj
    subst hj
    exact ⟨q, rfl, vs, n, mh, by rw [hyl]; exact h⟩
theorem mem_ins {α : Type} {A B : List α} {x p : α} (h : p ∈ A ++ (x :: B)) : p ∈ x :: (A ++ B) := by
  rcases List.mem_append.mp h with h | h
  · exact .tail _ (List.mem_append_left _ h)
  · rcases List.mem_cons.mp h with rfl | h
    · exact .head _
    · exact .tail _ (List.mem_append_right _ h)
theorem told_snoc {num : Nat → Int} {octets i : Nat} {ys : List Value} {tls : List (Addr × Obj)} {q : Addr} {t0 t1 t2 : Tok} (hyl : ys.length = i) (hys : ∀ j y, ys[j]? = some y → ∃ q, y = .ref q ∧ ToldIn (num j) octets q tls) :
    ∀ j y, (ys ++ [Value.ref q])[j]? = some y → ∃ q', y = .ref q' ∧ ToldIn (num j) octets q' ((q, toldObj (num i) octets t0 t1 t2) :: tls) := by
  intro j y hj
  by_cases h : j < ys.length
  · rw [List.getElem?_append_left h] at hj
    obtain ⟨q', e, t0, t1, t2, hm⟩ := hys j y hj
    exact ⟨q', e, t0, t1, t2, mt hm⟩
  · have hj' : j = ys.length := by
      have := (List.getElem?_eq_some_iff.mp hj).1
      simp at this; omega
    subst hj'
    rw [List.getElem?_append_right (Nat.le_refl _)] at hj
    simp at hj
    subst hj
    rw [← hyl]
    exact ⟨q, rfl, t0, t1, t2, mh⟩
theorem law_chains {w : World} {s : Shared} {mean : ExcName → Option Value} {mg mb : Str → Option Value} {l : Addr} {vs : List Value} {ns : List Int} {dp un : Nat} {gd : Option (List Code)} {R : Result → Shared → Prop} {Q' : Flow → Shared → Prop} {L : Addr} {h₁ : Heap} {tk : Nat} {cells : List (Addr × Obj)}
    (X : (K0 w.params).In s.heap) (T : Top V0 (looseW V0 [Str.ofString "b2a_base64", Str.ofString "b64encode", Str.ofString "_deduplicate"]) mean mg mb s.heap) (hl : s.heap.IsList l vs.toArray) (hi : IntsAre vs ns) (hn : ns.length ≤ 63)
    (hd : dp + 30 < recursionLimit) (hu : un + 240 < cLine)
    (F : Fr s.heap L h₁ (bindL (lawEnv L).kindOf [(Str.ofString "script", .ref l)] fun _ => none)) (N : News s.heap L h₁ cells) (hcc : CellsAre (bindC (lawEnv L).kindOf [(Str.ofString "script", .ref l)] fun _ => none) (cellsFrom (L + 1) lawScope.names []) cells)
    (hQ : ∀ h' tk' m' (c1 c2 lsp d1 d2 d3 : Addr) (v1 v2 : Array Value) (m1 m2 : Nat) (xs1 xs2 : List Int) (at1 atm at2 size octets : Nat) (b1 b2 : Int) (u1 ua u2 zt ot : Tok) (oz oc : Obj), Fr s.heap L h' m' → m' (Str.ofString "spots") = some (.ref lsp) → m' (Str.ofString "first") = some (.ref c1) → m' (Str.ofString "other") = some (.ref c2) →
      News s.heap L h' [(L + 1 + 1, oz), (L + 1, oc), (lsp, PySem.W.listOf #[.ref d1, .ref d2, .ref d3] 0), (c1, PySem.W.listOf v1 m1), (c2, PySem.W.listOf v2 m2), (d1, tup2 (.ref c1) (.int (at1 : Int) u1)), (d2, tup2 (.ref c1) (.int (atm : Int) ua)), (d3, tup2 (.ref c2) (.int (at2 : Int) u2))] →
      oz.data = Data.cell (some (.int (size : Int) zt)) → oc.data = Data.cell (some (.int (octets : Int) ot)) → 1 ≤ octets → octets ≤ 3 → size = 8 * octets → IntsAre v1.toList xs1 → IntsAre v2.toList xs2 → xs1.length ≤ 25 → xs2.length ≤ 25 → at1 < xs1.length → atm < xs1.length → at2 < xs2.length →
      (∀ x ∈ xs1, 0 ≤ x ∧ x < 2 ^ size) → (∀ x ∈ xs2, 0 ≤ x ∧ x < 2 ^ size) → chainOf b1 size = (xs1, at1) → chainOf b2 size = (xs2, at2) → Q' .next { s with heap := h', toks := tk' }) :
    wpAny (model PySem.Challenge.rw_rt0036_01.row.prog w) (Around.deeper { handled := none, depth := dp, frames := some [], guards := gd, units := un } (lawEnv L)) (execs (List.take 7 lawBody) (lawEnv L)) Q'
      (fun e s' => wpAny (model PySem.Challenge.rw_rt0036_01.row.prog w) (Around.deeper { handled := none, depth := dp, frames := some [], guards := gd, units := un } (lawEnv L)) (leaving (lawEnv L) e) (fun _ s'' => R (.error e) s'') (fun e' s'' => R (.error e') s'') s') { s with heap := h₁, toks := tk } := by
  have hz : PySem.Challenge.rw_rt0036_01 = PySem.Challenge.rw_rt0036_01 := rfl
  revert hz X
  k_fill
  intro X _
  have B : Below { handled := none, depth := dp, frames := some [], guards := gd, units := un } s.heap [] s.heap := ⟨rfl, fun _ _ e => e, trivial⟩
  rw [law_cut0]
  generalize hb : lawAt 0 = b
  conv at hb => lhs; whnf
  subst hb
  generalize hb : lawAt 1 = b
  conv at hb => lhs; whnf
  subst hb
  generalize hb : lawAt 2 = b
  conv at hb => lhs; whnf
  subst hb
  generalize hb : lawAt 3 = b
  conv at hb => lhs; whnf
  subst hb
  generalize hb : lawAt 4 = b
  conv at hb => lhs; whnf
  subst hb
  generalize hb : lawAt 5 = b
  conv at hb => lhs; whnf
  subst hb
  generalize hb : lawAt 6 = b
  conv at hb => lhs; whnf
  subst hb
  unfold lawEnv at *
  generalize hb : lawScope = b at *
  conv at hb => lhs; whnf
  subst hb
  k_cells hcc
  (try simp only [List.cons_append, List.nil_append] at N)
  (try dsimp only)
  (try k_fold)
  k_steps
  have hvl : vs.length = ns.length := hi.length
  (rename News _ _ _ _ => N₁; rename Fr _ _ _ _ => F₁)
  obtain ⟨ow, hio, N₁⟩ : ∃ ow : List Value, IntsAre ow own4 ∧ News s.heap L _ ((_, PySem.W.listOf ow.toArray 0) :: _) := ⟨_, .cons _ _ (.cons _ _ (.cons _ _ (.cons _ _ .nil))), N₁⟩
  have how : ow.length = 4 := hio.length
  refine Halt.go (lc_assign (h₀ := s.heap) rfl rfl (by decide) rfl (by decide) rfl rfl rfl ?_)
  k_steps
  refine Halt.go (slice_is (vs := vs) (ws := vs.take 4) (lo := none) (hi := some 4) (st := none) F₁ N₁ (list_keeps hl F₁.keep) .none (.int _ _) .none (by simp) (by rw [show (4 : Int) = ((4 : Nat) : Int) by rfl, slicePick_upto']) (by omega) fun r2 h2 F N hr2 => ?_)
  clear F₁ N₁
  k_steps
  (rename News _ _ _ _ => N₁; rename Fr _ _ _ _ => F₁)
  refine Halt.go (call_len_list (list_keeps hl F₁.keep) (by rw [List.size_toArray]; omega) ?_)
  rw [List.size_toArray]
  k_steps
  (rename News _ _ _ _ => N₁; rename Fr _ _ _ _ => F₁)
  refine Halt.go (slice_own (vs := ow) (n := 0) (ws := ow.drop vs.length) (lo := some (vs.length : Int)) (hi := none) (st := none) F₁ N₁ (.tail _ (.head _)) (.int _ _) .none .none (by simp) (by rw [slicePick_from']) (by omega) fun r3 h3 F N hr3 => ?_)
  clear F₁ N₁
  k_steps
  (rename News _ _ _ _ => N₁; rename Fr _ _ _ _ => F₁)
  refine Halt.go (add_own F₁ N₁ (.tail _ (.head _)) (.head _) (by simp; omega) fun r4 h4 F N hr4 => ?_)
  have hi4 : IntsAre (vs.take 4 ++ ow.drop vs.length) (fourOf ns) := (hi.take 4).append (by rw [hvl]; exact IntsAre.drop hio _)
  have hlen4 := fourOf_len ns
  have N := news_three (p := (r4, PySem.W.listOf (vs.take 4 ++ ow.drop vs.length).toArray 0)) N (.head _) (.tail _ (.tail _ (.tail _ (.tail _ (.head _))))) (.tail _ (.tail _ (.tail _ (.tail _ (.tail _ (.head _))))))
  clear F₁ N₁
  refine CompAny.plain (R := RInt) (fourOf ns) (fun x => (x.natAbs : Int)) RInt F N (src_list rfl F N (.inr (.head _)) rfl rfl (Rel2.ofInts hi4)) (by rw [hlen4]; decide) ?_ ?_
  · rintro a v I' C D oI' oC ys m₂ h' tk' E' ha' ⟨ta, rfl⟩ ⟨hns, hat, F₃, N₃, hoff, hne⟩
    show wpAny _ _ _ _ _ _
    (try dsimp only)
    (try k_fold)
    k_steps
    exact Kept.intro (by assumption) (by assumption) (fun p hp => hp) (rint_of (by split <;> omega))
  · intro D h tk6 ys F N o1 hys
    simp only [LCg.Off1, and_true] at o1
    obtain ⟨n0, n1, n2, n3, t0, t1, t2, t3, rfl, hn0, hn1, hn2, hn3⟩ := rel4 hlen4 hys
    have N := news_three (p := (D, LCg.lst _)) N (.head _) (.tail _ (.tail _ (.head _))) (.tail _ (.tail _ (.tail _ (.head _))))
    clear hi4 hlen4 hr2 hr3 hr4 hio how hvl hi hl hys o1
    k_steps
    obtain ⟨octets, hoct, ho1, ho3⟩ : ∃ o : Nat, ([n0, n1, n2, n3].getD (Int.toNat 0) 0).fmod 3 + 1 = (o : Int) ∧ 1 ≤ o ∧ o ≤ 3 := oct_of n0
    obtain ⟨size, hsz, hs8⟩ : ∃ z : Nat, 8 * (octets : Int) = (z : Int) ∧ z = 8 * octets := ⟨8 * octets, by simp, rfl⟩
    (rename Obj.data _ = Data.cell (some (Value.int (8 * _) _)) => dsz)
    (rename Obj.data _ = Data.cell (some (Value.int (Int.fmod _ _ + 1) _)) => doc)
    rw [hoct, hsz] at dsz
    rw [hoct] at doc
    rw [hoct, hsz]
    (rename News _ _ _ _ => N₁; rename Fr _ _ _ _ => F₁)
    have hb1 : 0 ≤ ([n0, n1, n2, n3].getD (Int.toNat 1) 0).fmod (2 ^ ((size : Nat) : Int).toNat) := Int.fmod_nonneg_of_pos _ (Int.pow_pos (by decide))
    have hb1' : ([n0, n1, n2, n3].getD (Int.toNat 1) 0).fmod (2 ^ ((size : Nat) : Int).toNat) < 2 ^ size := Int.fmod_lt_of_pos _ (Int.pow_pos (by decide))
    generalize ([n0, n1, n2, n3].getD (Int.toNat 1) 0).fmod (2 ^ ((size : Nat) : Int).toNat) = b1 at hb1 hb1' ⊢
    refine Halt.go (con_use (chain_con (number := b1) (size := size) (by omega) hb1) B F₁ N₁ X T rfl rfl (rm hd) (rm3 hu) (fun r h' tk' hk hp F N => ?_))
    obtain ⟨p1, c1, v1, m1, u1, rfl, g1, g2, hi1, f1, f2, hne1⟩ := hp
    have N := news_add F₁ (news_add F₁ N f2 g2) f1 g1
    clear F₁ N₁
    obtain ⟨hb1a, hb1l, hb1n⟩ := chainOf_ok (number := b1) (size := size)
    obtain ⟨xs1, at1, hch1⟩ : ∃ xs1 at1, chainOf b1 size = (xs1, at1) := ⟨_, _, rfl⟩
    rw [hch1] at hi1 hb1a hb1l hb1n g1 N
    dsimp only at hi1 hb1a hb1l hb1n g1 N
    k_steps
    (rename News _ _ _ _ => N₁; rename Fr _ _ _ _ => F₁)
    have hb2 : 0 ≤ ([n0, n1, n2, n3].getD (Int.toNat 2) 0).fmod (2 ^ ((size : Nat) : Int).toNat) := Int.fmod_nonneg_of_pos _ (Int.pow_pos (by decide))
    have hb2' : ([n0, n1, n2, n3].getD (Int.toNat 2) 0).fmod (2 ^ ((size : Nat) : Int).toNat) < 2 ^ size := Int.fmod_lt_of_pos _ (Int.pow_pos (by decide))
    generalize ([n0, n1, n2, n3].getD (Int.toNat 2) 0).fmod (2 ^ ((size : Nat) : Int).toNat) = b2 at hb2 hb2' ⊢
    refine Halt.go (con_use (chain_con (number := b2) (size := size) (by omega) hb2) B F₁ N₁ X T rfl rfl (rm hd) (rm3 hu) (fun r h' tk' hk hp F N => ?_))
    obtain ⟨p2, c2, v2, m2, u2, rfl, g3, g4, hi2, f3, f4, hne2⟩ := hp
    have N := news_add F₁ (news_add F₁ N f4 g4) f3 g3
    clear F₁ N₁
    obtain ⟨hb2a, hb2l, hb2n⟩ := chainOf_ok (number := b2) (size := size)
    obtain ⟨xs2, at2, hch2⟩ : ∃ xs2 at2, chainOf b2 size = (xs2, at2) := ⟨_, _, rfl⟩
    rw [hch2] at hi2 hb2a hb2l hb2n g3 N
    dsimp only at hi2 hb2a hb2l hb2n g3 N
    k_steps
    (rename News _ _ _ _ => N₁; rename Fr _ _ _ _ => F₁)
    refine Halt.go (call_len_list (own_list N₁ (.tail _ (.tail _ (.tail _ (.tail _ (.head _)))))) (by rw [← Array.length_toList, hi1.length]; omega) ?_)
    rw [← Array.length_toList, hi1.length]
    have hpos1 : (0 : Int) < (xs1.length : Int) := by omega
    k_steps
    obtain ⟨atm, hatm, hatl⟩ : ∃ a : Nat, ((at1 : Int) + n3).fmod (xs1.length : Int) = (a : Int) ∧ a < xs1.length := by
      have h1 := Int.fmod_nonneg_of_pos ((at1 : Int) + n3) hpos1
      have h2 := Int.fmod_lt_of_pos ((at1 : Int) + n3) hpos1
      exact ⟨(((at1 : Int) + n3).fmod (xs1.length : Int)).toNat, by omega, by omega⟩
    (rename News _ _ _ _ => N₁; rename Fr _ _ _ _ => F₁)
    rw [hatm] at N₁
    exact hQ _ _ _ c1 c2 _ _ _ _ v1 v2 m1 m2 xs1 xs2 at1 atm at2 size octets b1 b2 _ _ _ _ _ _ _ F₁ rfl rfl rfl (nk N₁ (mt (mt (mt (mt (mt (mt (mt (mt (mt (mh)))))))))) (nk N₁ (mt (mt (mt (mt (mt (mt (mt (mt (mt (mt (mh))))))))))) (nk N₁ (mh) (nk N₁ (mt (mt (mt (mt (mt (mt (mt (mh)))))))) (nk N₁ (mt (mt (mt (mt (mt (mh)))))) (nk N₁ (mt (mt (mt (mh)))) (nk N₁ (mt (mt (mh))) (nk N₁ (mt (mh)) News.nil)))))))) dsz doc ho1 ho3 hs8 hi1 hi2 (by omega) (by omega) hb1n hatl hb2n hb1a hb2a hch1 hch2
/-- the three spots, as they lie -/
def SpotsOk (ds : Array Value) (nw : List (Addr × Obj)) (num : Nat → Int) (row : Nat → List Int) (size : Nat) : Prop :=
  ∀ i v, i < 3 → ds[i]? = some v → ∃ (d c : Addr) (a : Nat) (u : Tok) (cs : Array Value) (n : Nat) (xs : List Int), v = .ref d ∧ (d, tup2 (.ref c) (.int (a : Int) u)) ∈ nw ∧ (c, PySem.W.listOf cs n) ∈ nw ∧
    IntsAre cs.toList xs ∧ a < xs.length ∧ xs.length ≤ 25 ∧ xs[a]? = some (num i) ∧ (0 ≤ num i ∧ num i < 2 ^ size) ∧ (∀ x ∈ xs, 0 ≤ x ∧ x < 2 ^ size) ∧ (∃ b a0, chainOf b size = (xs, a0)) ∧ row i = rowS xs a
theorem law_told {w : World} {s : Shared} {mean : ExcName → Option Value} {mg mb : Str → Option Value} {dp un : Nat} {gd : Option (List Code)} {R : Result → Shared → Prop} {Q' : Flow → Shared → Prop} {L : Addr} {h : Heap} {tk : Nat} {m₀ : Str → Option Value}
    {lsp d1 d2 d3 : Addr} {nw : List (Addr × Obj)} {num : Nat → Int} {row : Nat → List Int} {size octets : Nat} {zt ot : Tok} {oz oc : Obj}
    (X : (K0 w.params).In s.heap) (T : Top V0 (looseW V0 [Str.ofString "b2a_base64", Str.ofString "b64encode", Str.ofString "_deduplicate"]) mean mg mb s.heap)
    (hd : dp + 30 < recursionLimit) (hu : un + 240 < cLine)
    (F : Fr s.heap L h m₀) (e1 : m₀ (Str.ofString "spots") = some (.ref lsp)) (N : News s.heap L h ((L + 1 + 1, oz) :: (L + 1, oc) :: (lsp, PySem.W.listOf #[.ref d1, .ref d2, .ref d3] 0) :: nw))
    (dsz : oz.data = Data.cell (some (.int (size : Int) zt))) (doc : oc.data = Data.cell (some (.int (octets : Int) ot))) (ho1 : 1 ≤ octets) (ho3 : octets ≤ 3) (hs8 : size = 8 * octets)
    (hsp : SpotsOk #[.ref d1, .ref d2, .ref d3] nw num row size)
    (hQ : ∀ h' tk' D' q0 q1 q2 tls, Fr s.heap L h' (fun y => if y = Str.ofString "told" then some (.ref D') else m₀ y) → News s.heap L h' ((D', LCg.lst [Value.ref q0, .ref q1, .ref q2]) :: (L + 1 + 1, oz) :: (L + 1, oc) :: (lsp, PySem.W.listOf #[.ref d1, .ref d2, .ref d3] 0) :: (tls ++ nw)) → ToldIn (num 0) octets q0 tls → ToldIn (num 1) octets q1 tls → ToldIn (num 2) octets q2 tls → Q' .next { s with heap := h', toks := tk' }) :
    wpAny (model PySem.Challenge.rw_rt0036_01.row.prog w) (Around.deeper { handled := none, depth := dp, frames := some [], guards := gd, units := un } (lawEnv L)) (execs (List.take 1 (List.drop 7 lawBody)) (lawEnv L)) Q'
      (fun e s' => wpAny (model PySem.Challenge.rw_rt0036_01.row.prog w) (Around.deeper { handled := none, depth := dp, frames := some [], guards := gd, units := un } (lawEnv L)) (leaving (lawEnv L) e) (fun _ s'' => R (.error e) s'') (fun e' s'' => R (.error e') s'') s') { s with heap := h, toks := tk } := by
  have hz : PySem.Challenge.rw_rt0036_01 = PySem.Challenge.rw_rt0036_01 := rfl
  revert hz X
  k_fill
  intro X _
  have B : Below { handled := none, depth := dp, frames := some [], guards := gd, units := un } s.heap [] s.heap := ⟨rfl, fun _ _ e => e, trivial⟩
  rw [law_cut7]
  generalize hb : lawAt 7 = b
  conv at hb => lhs; whnf
  subst hb
  generalize hb : lawScope = b
  conv at hb => lhs; whnf
  subst hb
  rw [over_self m₀ (Str.ofString "spots"), e1] at F
  (try k_fold)
  k_steps
  refine Halt.go (LCp.Assign_ListComp_P F rfl rfl rfl (by decide) rfl (by decide) rfl rfl (by decide) rfl rfl ?_)
  k_steps
  refine Halt.go ?_
  refine LCp.SrcLP.ledger (ax := lsp) (its := #[.ref d1, .ref d2, .ref d3]) (k := 0) rfl (by assumption) N (mt (mt mh)) (by rw [sizeLine_eq]; show 3 ≤ _; decide) fun g => ?_
  refine restP_ind (n := 3) (fun i ys nwx => ∃ tls, nwx = (L + 1 + 1, oz) :: (L + 1, oc) :: (lsp, PySem.W.listOf #[.ref d1, .ref d2, .ref d3] 0) :: (tls ++ nw) ∧ ys.length = i ∧ ∀ (j : Nat) (y : Value), ys[j]? = some y → ∃ q, y = Value.ref q ∧ ToldIn (num j) octets q tls) ?_ ?_ 3 0 [] _ rfl ⟨[], rfl, rfl, fun j y h => by simp at h⟩
  · rintro ys nwx ⟨tls, rfl, hyl, hys⟩
    intro D' h tk' F N o3
    obtain ⟨q0, q1, q2, rfl⟩ : ∃ q0 q1 q2, ys = [Value.ref q0, .ref q1, .ref q2] := three_refs hyl fun j y h => by obtain ⟨q, e, _⟩ := hys j y h; exact ⟨q, e⟩
    obtain ⟨_, e0, h0⟩ := hys 0 _ rfl
    obtain ⟨_, e1', h1⟩ := hys 1 _ rfl
    obtain ⟨_, e2', h2⟩ := hys 2 _ rfl
    cases e0; cases e1'; cases e2'
    clear hys hyl
    show wpAny _ _ _ _ _ _
    rw [← e1, ← over_self] at F
    k_steps
    exact hQ _ _ _ _ _ _ _ F N h0 h1 h2
  · rintro i ys nwx v hi ⟨tls, rfl, hyl, hys⟩ hv
    obtain ⟨d, c, a, u, cs, n, xs, rfl, hmd, hmc, hia, hal, hxl, hxa, ⟨hx0, hx1⟩, hxall, ⟨b0, a0, hch0⟩, hrow⟩ := hsp i v hi hv
    refine ⟨d, _, _, _, _, rfl, mt (mt (mt (List.mem_append_right _ hmd))), rfl, rfl, ?_⟩
    intro I oI C oC D' m₂ h tk' E' hns hat1 hat2 F₃ N₃ hoff hne
    (try dsimp only)
    (try k_fold)
    k_steps
    obtain ⟨tx, hct⟩ := ints_get' hia hxa
    refine Halt.go (sub_at (vs := cs.toList) (n := n) (by rw [Array.toArray_toList]; exact (N₃ _ (mt (mt (mt (mt (mt (mt (List.mem_append_right _ hmc)))))))).1) (by omega) (by omega) (by simpa using hct) ?_)
    k_steps
    refine Halt.go (con_use (told_con ho1 ho3 hx0 (by rw [← hs8]; exact hx1)) B (by assumption) N₃ X T rfl rfl (rm hd) (rm3 hu) (fun r h' tk' hk hp F N => ?_))
    obtain ⟨q, t0, t1, t2, rfl, g1, f1⟩ := hp
    have hq := news_ne N₃ f1
    refine LCg.CompEnd.intro (by assumption) (news_add (by assumption) N f1 g1) ((L + 1 + 1, oz) :: (L + 1, oc) :: (lsp, PySem.W.listOf #[.ref d1, .ref d2, .ref d3] 0) :: ((q, toldObj (num i) octets t0 t1 t2) :: (tls ++ nw))) (fun p hp => mem_ins (A := (I, oI) :: (C, oC) :: (D', LCg.lst ys) :: (L + 1 + 1, oz) :: (L + 1, oc) :: (lsp, PySem.W.listOf #[.ref d1, .ref d2, .ref d3] 0) :: []) hp) (LCg.Off3.of fun p hp => ?_) (.inr ⟨_, mt (mt mh), rfl, _, rfl⟩) ⟨(q, toldObj (num i) octets t0 t1 t2) :: tls, rfl, by simp [hyl], told_snoc hyl hys⟩
    rcases List.mem_cons.mp (mem_ins (A := (L + 1 + 1, oz) :: (L + 1, oc) :: (lsp, PySem.W.listOf #[.ref d1, .ref d2, .ref d3] 0) :: []) hp) with rfl | hp'
    · exact ⟨Ne.symm (hq _ mh), Ne.symm (hq _ (mt mh)), Ne.symm (hq _ (mt (mt mh)))⟩
    · exact hoff.mem p hp'
theorem law_same {w : World} {s : Shared} {mean : ExcName → Option Value} {mg mb : Str → Option Value} {dp un : Nat} {gd : Option (List Code)} {R : Result → Shared → Prop} {Q' : Flow → Shared → Prop} {L : Addr} {h : Heap} {tk : Nat} {m₀ : Str → Option Value}
    {lsp d1 d2 d3 : Addr} {nw : List (Addr × Obj)} {num : Nat → Int} {row : Nat → List Int} {size octets : Nat} {zt ot : Tok} {oz oc : Obj}
    {D' q0 q1 q2 : Addr}
    (X : (K0 w.params).In s.heap) (T : Top V0 (looseW V0 [Str.ofString "b2a_base64", Str.ofString "b64encode", Str.ofString "_deduplicate"]) mean mg mb s.heap)
    (hd : dp + 30 < recursionLimit) (hu : un + 240 < cLine)
    (F : Fr s.heap L h m₀) (e1 : m₀ (Str.ofString "spots") = some (.ref lsp)) (e2 : m₀ (Str.ofString "told") = some (.ref D')) (N : News s.heap L h ((D', LCg.lst [Value.ref q0, .ref q1, .ref q2]) :: (L + 1 + 1, oz) :: (L + 1, oc) :: (lsp, PySem.W.listOf #[.ref d1, .ref d2, .ref d3] 0) :: nw))
    (dsz : oz.data = Data.cell (some (.int (size : Int) zt))) (doc : oc.data = Data.cell (some (.int (octets : Int) ot))) (ho1 : 1 ≤ octets) (ho3 : octets ≤ 3) (hs8 : size = 8 * octets)
    (hsp : SpotsOk #[.ref d1, .ref d2, .ref d3] nw num row size)
    (h0 : ToldIn (num 0) octets q0 nw) (h1 : ToldIn (num 1) octets q1 nw) (h2 : ToldIn (num 2) octets q2 nw) (hnb : ∀ j, j < 3 → 0 ≤ num j ∧ num j < 2 ^ (8 * octets))
    (hQ : ∀ h' tk', Fr s.heap L h' m₀ → News s.heap L h' ((D', LCg.lst [Value.ref q0, .ref q1, .ref q2]) :: (L + 1 + 1, oz) :: (L + 1, oc) :: (lsp, PySem.W.listOf #[.ref d1, .ref d2, .ref d3] 0) :: nw) → Q' .next { s with heap := h', toks := tk' }) :
    wpAny (model PySem.Challenge.rw_rt0036_01.row.prog w) (Around.deeper { handled := none, depth := dp, frames := some [], guards := gd, units := un } (lawEnv L)) (execs (List.take 1 (List.drop 8 lawBody)) (lawEnv L)) Q'
      (fun e s' => wpAny (model PySem.Challenge.rw_rt0036_01.row.prog w) (Around.deeper { handled := none, depth := dp, frames := some [], guards := gd, units := un } (lawEnv L)) (leaving (lawEnv L) e) (fun _ s'' => R (.error e) s'') (fun e' s'' => R (.error e') s'') s') { s with heap := h, toks := tk } := by
  have hz : PySem.Challenge.rw_rt0036_01 = PySem.Challenge.rw_rt0036_01 := rfl
  revert hz X
  k_fill
  intro X _
  have B : Below { handled := none, depth := dp, frames := some [], guards := gd, units := un } s.heap [] s.heap := ⟨rfl, fun _ _ e => e, trivial⟩
  rw [law_cut8]
  generalize hb : lawAt 8 = b
  conv at hb => lhs; whnf
  subst hb
  generalize hb : lawScope = b
  conv at hb => lhs; whnf
  subst hb
  rw [over2 e1 e2] at F
  (try k_fold)
  k_steps
  refine Halt.go (LCp.ListComp_P (m := _) (by assumption) rfl (by decide) rfl (by decide) rfl rfl (by decide) ?_)
  k_steps
  refine Halt.go ?_
  refine LCp.SrcLP.ledger (ax := lsp) (its := #[.ref d1, .ref d2, .ref d3]) (k := 0) rfl (by assumption) N (mt (mt (mt mh))) (by rw [sizeLine_eq]; show 3 ≤ _; decide) fun g => ?_
  refine restP_ind (n := 3) (fun i ys nwx => ∃ tls2, nwx = (D', LCg.lst [Value.ref q0, .ref q1, .ref q2]) :: (L + 1 + 1, oz) :: (L + 1, oc) :: (lsp, PySem.W.listOf #[.ref d1, .ref d2, .ref d3] 0) :: (tls2 ++ nw) ∧ ys.length = i ∧ ∀ (j : Nat) (y : Value), ys[j]? = some y → ∃ q, y = Value.ref q ∧ ToldIn (num j) octets q tls2) ?_ ?_ 3 0 [] _ rfl ⟨[], rfl, rfl, fun j y h => by simp at h⟩
  · rintro ys nwx ⟨tls2, rfl, hyl, hys⟩
    intro D2 h tk' F N o4
    obtain ⟨r0, r1, r2, rfl⟩ : ∃ q0 q1 q2, ys = [Value.ref q0, .ref q1, .ref q2] := three_refs hyl fun j y h => by obtain ⟨q, e, _⟩ := hys j y h; exact ⟨q, e⟩
    obtain ⟨_, e0, g0⟩ := hys 0 _ rfl
    obtain ⟨_, e1', g1⟩ := hys 1 _ rfl
    obtain ⟨_, e2', g2⟩ := hys 2 _ rfl
    cases e0; cases e1'; cases e2'
    clear hys hyl
    show wpAny _ _ _ _ _ _
    obtain ⟨x00, x01, x02, hx0m⟩ := h0
    obtain ⟨x10, x11, x12, hx1m⟩ := h1
    obtain ⟨x20, x21, x22, hx2m⟩ := h2
    obtain ⟨z00, z01, z02, hz0m⟩ := g0
    obtain ⟨z10, z11, z12, hz1m⟩ := g1
    obtain ⟨z20, z21, z22, hz2m⟩ := g2
    have mR : ∀ {p : Addr × Obj}, p ∈ nw → p ∈ ((D2, LCg.lst [Value.ref r0, .ref r1, .ref r2]) :: (D', LCg.lst [Value.ref q0, .ref q1, .ref q2]) :: (L + 1 + 1, oz) :: (L + 1, oc) :: (lsp, PySem.W.listOf #[.ref d1, .ref d2, .ref d3] 0) :: (tls2 ++ nw)) := fun hp => mt (mt (mt (mt (mt (List.mem_append_right _ hp)))))
    have mL : ∀ {p : Addr × Obj}, p ∈ tls2 → p ∈ ((D2, LCg.lst [Value.ref r0, .ref r1, .ref r2]) :: (D', LCg.lst [Value.ref q0, .ref q1, .ref q2]) :: (L + 1 + 1, oz) :: (L + 1, oc) :: (lsp, PySem.W.listOf #[.ref d1, .ref d2, .ref d3] 0) :: (tls2 ++ nw)) := fun hp => mt (mt (mt (mt (mt (List.mem_append_left _ hp)))))
    refine told_same (reads_list3 (N _ (mt mh)).1 (reads_tup3 (N _ (mR hx0m)).1) (reads_tup3 (N _ (mR hx1m)).1) (reads_tup3 (N _ (mR hx2m)).1))
      (reads_list3 (N _ mh).1 (reads_tup3 (N _ (mL hz0m)).1) (reads_tup3 (N _ (mL hz1m)).1) (reads_tup3 (N _ (mL hz2m)).1))
      (shaped_told (text_ok ho1 ho3 (hnb 0 (by decide)).1 (hnb 0 (by decide)).2) (text_ok ho1 ho3 (hnb 1 (by decide)).1 (hnb 1 (by decide)).2) (text_ok ho1 ho3 (hnb 2 (by decide)).1 (hnb 2 (by decide)).2)) (by show un + 3 + 64 < cLine; omega) ?_
    rw [← over2 e1 e2] at F
    k_steps
    exact hQ _ _ F (nk N (mt mh) (nk N (mt (mt mh)) (nk N (mt (mt (mt mh))) (nk N (mt (mt (mt (mt mh)))) fun p hp => N p (mR hp)))))
  · rintro i ys nwx v hi ⟨tls2, rfl, hyl, hys⟩ hv
    obtain ⟨d, c, a, u, cs, n, xs, rfl, hmd, hmc, hia, hal, hxl, hxa, ⟨hx0, hx1⟩, hxall, ⟨b0, a0, hch0⟩, hrow⟩ := hsp i v hi hv
    refine ⟨d, _, _, _, _, rfl, mt (mt (mt (mt (List.mem_append_right _ hmd)))), rfl, rfl, ?_⟩
    intro I oI C oC D3 m₂ h tk' E' hns hat1 hat2 F₃ N₃ hoff hne
    (try dsimp only)
    (try k_fold)
    k_steps
    rw [hs8] at hch0 hxall
    obtain ⟨ts, k1, k2, k3, k4, k5, k6, k7⟩ := spot_due ho1 ho3 hch0 hxa
    refine Halt.go (con_use (due_con (cs := cs.toList) (n := n) (ts := ts) ho1 ho3 (by rw [Array.toArray_toList]; exact (N₃ _ (mt (mt (mt (mt (mt (mt (mt (List.mem_append_right _ hmc))))))))).1) hia hal k1 k2 hxall k3 k4) B (by assumption) N₃ X T rfl rfl (rm hd) (rm3 hu) (fun r h' tk' hk hp F N => ?_))
    obtain ⟨q, t0, t1, t2, x, hx, rfl, g1, f1⟩ := hp
    rw [hxa] at hx; cases hx
    rw [k5, k6, k7] at g1
    have hq := news_ne N₃ f1
    refine LCg.CompEnd.intro (by assumption) (news_add (by assumption) N f1 g1) ((D', LCg.lst [Value.ref q0, .ref q1, .ref q2]) :: (L + 1 + 1, oz) :: (L + 1, oc) :: (lsp, PySem.W.listOf #[.ref d1, .ref d2, .ref d3] 0) :: ((q, toldObj (num i) octets t0 t1 t2) :: (tls2 ++ nw))) (fun p hp => mem_ins (A := (I, oI) :: (C, oC) :: (D3, LCg.lst ys) :: (D', LCg.lst [Value.ref q0, .ref q1, .ref q2]) :: (L + 1 + 1, oz) :: (L + 1, oc) :: (lsp, PySem.W.listOf #[.ref d1, .ref d2, .ref d3] 0) :: []) hp) (LCg.Off3.of fun p hp => ?_) (.inr ⟨_, mt (mt (mt mh)), rfl, _, rfl⟩) ⟨(q, toldObj (num i) octets t0 t1 t2) :: tls2, rfl, by simp [hyl], told_snoc hyl hys⟩
    rcases List.mem_cons.mp (mem_ins (A := (D', LCg.lst [Value.ref q0, .ref q1, .ref q2]) :: (L + 1 + 1, oz) :: (L + 1, oc) :: (lsp, PySem.W.listOf #[.ref d1, .ref d2, .ref d3] 0) :: []) hp) with rfl | hp'
    · exact ⟨Ne.symm (hq _ mh), Ne.symm (hq _ (mt mh)), Ne.symm (hq _ (mt (mt mh)))⟩
    · exact hoff.mem p hp'
theorem law_rows {w : World} {s : Shared} {mean : ExcName → Option Value} {mg mb : Str → Option Value} {dp un : Nat} {gd : Option (List Code)} {R : Result → Shared → Prop} {Q' : Flow → Shared → Prop} {L : Addr} {h : Heap} {tk : Nat} {m₀ : Str → Option Value}
    {lsp d1 d2 d3 : Addr} {nw : List (Addr × Obj)} {num : Nat → Int} {row : Nat → List Int} {size octets : Nat} {zt ot : Tok} {oz oc : Obj}
    {D' q0 q1 q2 : Addr}
    (X : (K0 w.params).In s.heap) (T : Top V0 (looseW V0 [Str.ofString "b2a_base64", Str.ofString "b64encode", Str.ofString "_deduplicate"]) mean mg mb s.heap)
    (hd : dp + 30 < recursionLimit) (hu : un + 240 < cLine)
    (F : Fr s.heap L h m₀) (e1 : m₀ (Str.ofString "spots") = some (.ref lsp)) (e2 : m₀ (Str.ofString "told") = some (.ref D')) (N : News s.heap L h ((D', LCg.lst [Value.ref q0, .ref q1, .ref q2]) :: (L + 1 + 1, oz) :: (L + 1, oc) :: (lsp, PySem.W.listOf #[.ref d1, .ref d2, .ref d3] 0) :: nw))
    (dsz : oz.data = Data.cell (some (.int (size : Int) zt))) (doc : oc.data = Data.cell (some (.int (octets : Int) ot))) (ho1 : 1 ≤ octets) (ho3 : octets ≤ 3) (hs8 : size = 8 * octets)
    (hsp : SpotsOk #[.ref d1, .ref d2, .ref d3] nw num row size)
    (h0 : ToldIn (num 0) octets q0 nw) (h1 : ToldIn (num 1) octets q1 nw) (h2 : ToldIn (num 2) octets q2 nw)
    (hQ : ∀ h' tk' r0 r1 r2 (w0 w1 w2 : Array Value) (n0 n1 n2 : Nat), Fr s.heap L h' (fun y => if y = Str.ofString "three" then some (.ref r2) else if y = Str.ofString "two" then some (.ref r1) else if y = Str.ofString "one" then some (.ref r0) else m₀ y) →
      News s.heap L h' ((r0, PySem.W.listOf w0 n0) :: (r1, PySem.W.listOf w1 n1) :: (r2, PySem.W.listOf w2 n2) :: nw) → IntsAre w0.toList (row 0) → IntsAre w1.toList (row 1) → IntsAre w2.toList (row 2) → Q' .next { s with heap := h', toks := tk' }) :
    wpAny (model PySem.Challenge.rw_rt0036_01.row.prog w) (Around.deeper { handled := none, depth := dp, frames := some [], guards := gd, units := un } (lawEnv L)) (execs (List.take 1 (List.drop 9 lawBody)) (lawEnv L)) Q'
      (fun e s' => wpAny (model PySem.Challenge.rw_rt0036_01.row.prog w) (Around.deeper { handled := none, depth := dp, frames := some [], guards := gd, units := un } (lawEnv L)) (leaving (lawEnv L) e) (fun _ s'' => R (.error e) s'') (fun e' s'' => R (.error e') s'') s') { s with heap := h, toks := tk } := by
  have hz : PySem.Challenge.rw_rt0036_01 = PySem.Challenge.rw_rt0036_01 := rfl
  revert hz X
  k_fill
  intro X _
  have B : Below { handled := none, depth := dp, frames := some [], guards := gd, units := un } s.heap [] s.heap := ⟨rfl, fun _ _ e => e, trivial⟩
  rw [law_cut9]
  generalize hb : lawAt 9 = b
  conv at hb => lhs; whnf
  subst hb
  generalize hb : lawScope = b
  conv at hb => lhs; whnf
  subst hb
  have hq3 : ∀ i b, i < 3 → (#[Value.ref q0, Value.ref q1, Value.ref q2] : Array Value)[i]? = some b → ∃ q, b = .ref q ∧ ToldIn (num i) octets q nw := by
    intro i b hi hb
    have h3 : i = 0 ∨ i = 1 ∨ i = 2 := by omega
    rcases h3 with rfl | rfl | rfl <;> cases hb
    · exact ⟨q0, rfl, h0⟩
    · exact ⟨q1, rfl, h1⟩
    · exact ⟨q2, rfl, h2⟩
  rw [over2 e1 e2] at F
  (try k_fold)
  k_steps
  refine Halt.go (Assign_Tuple ?_)
  refine zip_eval (h₀ := s.heap) (L := L) rfl (by decide) rfl (by decide) rfl rfl rfl (by decide) (by decide) (by decide) ?_
  k_steps
  refine Halt.go (zip_call (n := 3) (l1 := lsp) (l2 := D') (xs := #[.ref d1, .ref d2, .ref d3]) (ys := #[.ref q0, .ref q1, .ref q2]) (k1 := 0) (k2 := 3) (fun i ys nwx => ∃ tls3, nwx = (D', LCg.lst [Value.ref q0, .ref q1, .ref q2]) :: (L + 1 + 1, oz) :: (L + 1, oc) :: (lsp, PySem.W.listOf #[.ref d1, .ref d2, .ref d3] 0) :: (tls3 ++ nw) ∧ ys.length = i ∧ ∀ (j : Nat) (y : Value), ys[j]? = some y → ∃ q, y = Value.ref q ∧ RowIn (row j) q tls3)
    (by assumption) N rfl (mt (mt (mt mh))) mh rfl (by decide) ⟨[], rfl, rfl, fun j y h => by simp at h⟩ ?_ ?_ ?_)
  · rintro i ys nwx ⟨tls3, rfl, _⟩
    exact ⟨mt (mt (mt mh)), mh⟩
  · rintro z TI TO i1 i2 C D3 i ys nwx a b hi ⟨tls3, rfl, hyl, hys⟩ ha hb ho
    obtain ⟨d, c, a, u, cs, n, xs, rfl, hmd, hmc, hia, hal, hxl, hxa, ⟨hx0, hx1⟩, hxall, ⟨b0, a0, hch0⟩, hrow⟩ := hsp i a hi ha
    refine ⟨d, _, _, rfl, mt (mt (mt (mt (List.mem_append_right _ hmd)))), ?_⟩
    intro oz' oT oO o1 o2 oC m₂ h tk' E' hns hat1 hat2 hat3 F₃ N₃
    obtain ⟨q, rfl, y0, y1, y2, hq⟩ := hq3 i b hi hb
    rw [hs8] at hch0
    obtain ⟨ks, js, k1, k2, k3, k4, k5, k6, k7, k8, k9⟩ := spot_row ho1 ho3 hch0 hxa
    rw [← hs8] at k3 k4 k9
    (try dsimp only)
    (try k_fold)
    k_steps
    obtain ⟨tx, hct⟩ := ints_get' hia hxa
    refine Halt.go (sub_at (vs := cs.toList) (n := n) (by rw [Array.toArray_toList]; exact (N₃ _ (mt (mt (mt (mt (mt (mt (mt (mt (mt (mt (mt (List.mem_append_right _ hmc))))))))))))).1) (by omega) (by omega) (by simpa using hct) ?_)
    k_steps
    refine Halt.go (con_use (row_con (p := q) (number := num i) (size := size) (ks := ks) (js := js) (N₃ _ (mt (mt (mt (mt (mt (mt (mt (mt (mt (mt (mt (List.mem_append_right _ hq))))))))))))).1 (by omega) hx0 (Int.lt_of_lt_of_le hx1 (pow_le24 (by omega))) k7 k8 k1 k2 k3 k4 k5 k6) B (by assumption) N₃ X T rfl rfl (rm hd) (rm3 hu) (fun r h' tk' hk hp F N => ?_))
    obtain ⟨rq, rv, rn, rfl, g1, f1, hrow'⟩ := hp
    rw [k9, ← hrow] at hrow'
    have hne := news_ne N₃ f1
    refine ⟨_, _, (D', LCg.lst [Value.ref q0, .ref q1, .ref q2]) :: (L + 1 + 1, oz) :: (L + 1, oc) :: (lsp, PySem.W.listOf #[.ref d1, .ref d2, .ref d3] 0) :: ((rq, PySem.W.listOf rv rn) :: (tls3 ++ nw)), rfl, by assumption, fun p hp => news_add (by assumption) N f1 g1 p (mem_ins (A := (z, oz') :: (TI, oT) :: (TO, oO) :: (i1, o1) :: (i2, o2) :: (C, oC) :: (D3, LCg.lst ys) :: (D', LCg.lst [Value.ref q0, .ref q1, .ref q2]) :: (L + 1 + 1, oz) :: (L + 1, oc) :: (lsp, PySem.W.listOf #[.ref d1, .ref d2, .ref d3] 0) :: []) hp), fun p hp => ?_, ⟨(rq, PySem.W.listOf rv rn) :: tls3, rfl, by simp [hyl], row_snoc hyl hys hrow'⟩⟩
    rcases List.mem_cons.mp (mem_ins (A := (D', LCg.lst [Value.ref q0, .ref q1, .ref q2]) :: (L + 1 + 1, oz) :: (L + 1, oc) :: (lsp, PySem.W.listOf #[.ref d1, .ref d2, .ref d3] 0) :: []) hp) with rfl | hp'
    · refine ⟨fun hm => ?_, Ne.symm (hne _ (mt (mt (mt (mt (mt mh)))))), Ne.symm (hne _ (mt (mt (mt (mt (mt (mt mh)))))))⟩
      simp only [List.mem_cons, List.not_mem_nil, or_false] at hm
      rcases hm with h | h | h | h | h
      · exact hne _ mh h.symm
      · exact hne _ (mt mh) h.symm
      · exact hne _ (mt (mt mh)) h.symm
      · exact hne _ (mt (mt (mt mh))) h.symm
      · exact hne _ (mt (mt (mt (mt mh)))) h.symm
    · exact ho p hp'
  · rintro D3 h tk' ys nwx F N o5 ⟨tls3, rfl, hyl, hys⟩
    obtain ⟨r0, r1, r2, rfl⟩ : ∃ q0 q1 q2, ys = [Value.ref q0, .ref q1, .ref q2] := three_refs hyl fun j y h => by obtain ⟨q, e, _⟩ := hys j y h; exact ⟨q, e⟩
    obtain ⟨_, e0, w0, n0, hm0, hi0⟩ := hys 0 _ rfl
    obtain ⟨_, e1', w1, n1, hm1, hi1⟩ := hys 1 _ rfl
    obtain ⟨_, e2', w2, n2, hm2, hi2⟩ := hys 2 _ rfl
    cases e0; cases e1'; cases e2'
    clear hys hyl
    show wpAny _ _ _ _ _ _
    rw [← over2 e1 e2] at F
    k_steps
    (rename News _ _ _ _ => N₁; rename Fr _ _ _ _ => F₁)
    have ml : ∀ {p : Addr × Obj}, p ∈ tls3 ++ nw → p ∈ ((D3, LCg.lst [Value.ref r0, .ref r1, .ref r2]) :: (D', LCg.lst [Value.ref q0, .ref q1, .ref q2]) :: (L + 1 + 1, oz) :: (L + 1, oc) :: (lsp, PySem.W.listOf #[.ref d1, .ref d2, .ref d3] 0) :: (tls3 ++ nw)) := fun hp => mt (mt (mt (mt (mt hp))))
    exact hQ _ _ r0 r1 r2 w0 w1 w2 n0 n1 n2 F₁ (nk N₁ (ml (List.mem_append_left _ hm0)) (nk N₁ (ml (List.mem_append_left _ hm1)) (nk N₁ (ml (List.mem_append_left _ hm2)) fun p hp => N₁ p (ml (List.mem_append_right _ hp))))) hi0 hi1 hi2
/-- what _compare_args_orderless says of two things in the ledger -/
def AskOk (w : World) (nw : List (Addr × Obj)) (a b : Addr) (ans : Bool) : Prop := ∀ s : Shared, (∀ p ∈ nw, s.heap.get? p.1 = some p.2) → ConS w 181 [.ref a, .ref b] [] 14 s (fun _ r => r = .bool ans)
theorem law_three {w : World} {s : Shared} {mean : ExcName → Option Value} {mg mb : Str → Option Value} {dp un : Nat} {gd : Option (List Code)} {R : Result → Shared → Prop} {Q' : Flow → Shared → Prop} {L : Addr} {h : Heap} {tk : Nat} {m₀ : Str → Option Value}
    {al ap t1 t2 t3 t4 t5 t6 t7 : Addr} {nw : List (Addr × Obj)} {ans : List Bool}
    (X : (K0 w.params).In s.heap) (T : Top V0 (looseW V0 [Str.ofString "b2a_base64", Str.ofString "b64encode", Str.ofString "_deduplicate"]) mean mg mb s.heap)
    (hd : dp + 30 < recursionLimit) (hu : un + 240 < cLine)
    (F : Fr s.heap L h m₀) (e1 : m₀ (Str.ofString "alike") = some (.ref al)) (e2 : m₀ (Str.ofString "apart") = some (.ref ap))
    (N : News s.heap L h ((al, PySem.W.listOf [Value.ref t1, .ref t2, .ref t3].toArray 0) :: (ap, PySem.W.listOf [Value.ref t4, .ref t5, .ref t6, .ref t7].toArray 0) :: nw)) (h7 : ans.length = 7)
    (ha : ∀ i v, i < 7 → (#[Value.ref t1, .ref t2, .ref t3, .ref t4, .ref t5, .ref t6, .ref t7] : Array Value)[i]? = some v → ∃ t a b an, v = .ref t ∧ (t, tup2 (.ref a) (.ref b)) ∈ nw ∧ ans[i]? = some an ∧ AskOk w nw a b an) 
    (hQ : ∀ D h' tk', Fr s.heap L h' (fun y => if y = Str.ofString "says" then some (.ref D) else m₀ y) → News s.heap L h' ((D, LCg.lst (ans.map Value.bool)) :: nw) → Q' .next { s with heap := h', toks := tk' }) :
    wpAny (model PySem.Challenge.rw_rt0036_01.row.prog w) (Around.deeper { handled := none, depth := dp, frames := some [], guards := gd, units := un } (lawEnv L)) (execs (List.take 1 (List.drop 14 lawBody)) (lawEnv L)) Q'
      (fun e s' => wpAny (model PySem.Challenge.rw_rt0036_01.row.prog w) (Around.deeper { handled := none, depth := dp, frames := some [], guards := gd, units := un } (lawEnv L)) (leaving (lawEnv L) e) (fun _ s'' => R (.error e) s'') (fun e' s'' => R (.error e') s'') s') { s with heap := h, toks := tk } := by
  have hz : PySem.Challenge.rw_rt0036_01 = PySem.Challenge.rw_rt0036_01 := rfl
  revert hz X
  k_fill
  intro X _
  rw [law_cut14]
  generalize hb : lawAt 14 = b
  conv at hb => lhs; whnf
  subst hb
  generalize hb : lawScope = b
  conv at hb => lhs; whnf
  subst hb
  rw [over2 e1 e2] at F
  have B : Below { handled := none, depth := dp, frames := some [], guards := gd, units := un } s.heap [] s.heap := ⟨rfl, fun _ _ e => e, trivial⟩
  (try k_fold)
  k_steps
  refine Halt.go (LCp.Assign_ListComp_P F rfl rfl rfl (by decide) rfl (by decide) rfl rfl (by decide) rfl rfl ?_)
  k_steps
  refine Halt.go (add_own (vs := [Value.ref t1, .ref t2, .ref t3]) (ws := [Value.ref t4, .ref t5, .ref t6, .ref t7]) (by assumption) N mh (mt mh) (by simp) fun r h1 F₁ N₁ hr => ?_)
  k_steps
  refine Halt.go ?_
  refine LCp.SrcLP.ledger (ax := r) (its := #[Value.ref t1, .ref t2, .ref t3, .ref t4, .ref t5, .ref t6, .ref t7]) (k := 0) rfl F₁ N₁ mh (by rw [sizeLine_eq]; show 7 ≤ _; decide) fun g => ?_
  refine restP_ind (n := 7) (fun i ys nwx => nwx = (r, PySem.W.listOf #[Value.ref t1, .ref t2, .ref t3, .ref t4, .ref t5, .ref t6, .ref t7] 0) :: (al, PySem.W.listOf #[Value.ref t1, .ref t2, .ref t3] 0) :: (ap, PySem.W.listOf #[Value.ref t4, .ref t5, .ref t6, .ref t7] 0) :: nw ∧ ys = (ans.take i).map Value.bool) ?_ ?_ 7 0 [] _ rfl ⟨rfl, rfl⟩
  · rintro ys nwx ⟨rfl, rfl⟩
    intro D' h tk' F N o3
    show wpAny _ _ _ _ _ _
    rw [← over2 e1 e2] at F
    rw [List.take_of_length_le (by rw [h7]; exact Nat.le_refl _)] at N
    k_steps
    exact hQ D' h tk' F (nk N mh fun p hp => N p (mt (mt (mt (mt hp)))))
  · rintro i ys nwx v hi ⟨rfl, rfl⟩ hv
    obtain ⟨t, a, b, an, rfl, hm, han, hask⟩ := ha i v hi hv
    refine ⟨t, _, _, _, _, rfl, mt (mt (mt hm)), rfl, rfl, ?_⟩
    intro I oI C oC D' m₂ h tk' E' hns hat1 hat2 F₃ N₃ hoff hne
    (try dsimp only)
    (try k_fold)
    k_steps
    refine Halt.go (conS_use (hask _ fun p hp => (N₃ p (mt (mt (mt (mt (mt (mt hp))))))).1) B (by assumption) N₃ X T rfl rfl (rm hd) (rm3 hu) (fun r' h' tk' hp F N => ?_))
    subst hp
    refine LCg.CompEnd.intro F N _ (fun p hp => hp) hoff (.inr ⟨_, mh, rfl, _, rfl⟩) ⟨rfl, ?_⟩
    rw [List.take_add_one, han]; simp
section
open PyProof.Rows.LCg
variable {prog : Program} {w : World} {A : Around} {E : Value → Shared → Prop} {s : Shared} {h₀ : Heap} {L : Addr} {m : Str → Option Value} {env : Env}
/-- a comprehension by what holds between its turns -/
theorem rest_ind {elt : PySem.Expr} {x : Str} {scope : Scope} {cl : List (Str × Addr)} {S : List (Addr × Obj) → Prop} {P : Nat → Value → Prop} {Fin : List Value → List (Addr × Obj) → Prop} {n : Nat} (J : Nat → List Value → List (Addr × Obj) → Prop)
    (hfin : ∀ ys nw, J n ys nw → Fin ys nw)
    (step : ∀ i ys nw v, i < n → J i ys nw → P i v →
      ∀ I oI C oC D m₂ h tk (E' : Value → Shared → Prop), NsObj oC m₂ → m₂ x = some v → Fr h₀ L h m → News h₀ L h ((I, oI) :: (C, oC) :: (D, lst ys) :: nw) → Off3 I C D nw → ((@Ne Nat I C) ∧ (@Ne Nat I D) ∧ (@Ne Nat C D)) →
      wpAny (model prog w) A (eval elt (compEnvC scope cl C env)) (CompEnd h₀ L m { s with heap := h, toks := tk } I oI C oC D (lst ys) S (fun y nw' => J (i + 1) (ys ++ [y]) nw')) E' { s with heap := h, toks := tk }) :
    ∀ k i ys nw, i + k = n → J i ys nw → CompRest prog w A h₀ L m env elt x scope cl s S P Fin k i ys nw
  | 0, i, ys, nw, e, hJ => CompRest.zero (hfin ys nw (by rw [← e]; simpa using hJ))
  | k + 1, i, ys, nw, e, hJ => CompRest.succ fun v I oI C oC D m₂ h tk E' hP a b c d e' f => by
    refine wpAny_mono (step i ys nw v (by omega) hJ hP I oI C oC D m₂ h tk E' a b c d e' f) (fun y s₂ hy => ?_) fun _ _ z => z
    obtain ⟨h', tk', news', r1, r2, r3, r4, r5, r6⟩ := hy
    exact ⟨h', tk', news', r1, r2, r3, r4, r5, rest_ind J hfin step k (i + 1) _ _ (by omega) r6⟩
end
def boolD (b c : Bool) : PyData := .tuple [.bool b, .bool c]
theorem reads_bools {h : Heap} : ∀ {ys : List Value} {bs : List Bool}, ys.length = bs.length → (∀ (j : Nat) (y : Value), ys[j]? = some y → ∃ (q : Addr) (b : Bool), y = Value.ref q ∧ bs[j]? = some b ∧ h.get? q = some (tup2 (.bool (b == true)) (.bool (b == false)))) → ∃ as, ReadsAll h ys (bs.map fun b => boolD (b == true) (b == false)) as
  | [], [], _, _ => ⟨_, .nil⟩
  | [], _ :: _, e, _ => by cases e
  | _ :: _, [], e, _ => by cases e
  | y :: ys, b :: bs, e, H => by
    obtain ⟨q, b', rfl, hb, hq⟩ := H 0 y rfl
    cases hb
    obtain ⟨as, ih⟩ := reads_bools (ys := ys) (bs := bs) (by simpa using e) fun j y hj => by
      obtain ⟨q, b, r1, r2, r3⟩ := H (j + 1) y (by simpa using hj)
      exact ⟨q, b, r1, by simpa using r2, r3⟩
    exact ⟨_, .cons (.tuple hq rfl rfl (.cons (.bool _) (.cons (.bool _) .nil))) ih⟩
theorem says_same {prog : Program} {w : World} {A : Around} {E : Value → Shared → Prop} {s : Shared} {D D2 : Addr} {b1 c1 b2 c2 b3 c3 b4 c4 b5 c5 b6 c6 b7 c7 : Bool} {Q : Value → Shared → Prop} (hD : ∃ as, Reads s.heap (.ref D) (.list [boolD b1 c1, boolD b2 c2, boolD b3 c3, boolD b4 c4, boolD b5 c5, boolD b6 c6, boolD b7 c7]) as)
    (hD2 : ∃ as, Reads s.heap (.ref D2) (.list [boolD b1 c1, boolD b2 c2, boolD b3 c3, boolD b4 c4, boolD b5 c5, boolD b6 c6, boolD b7 c7]) as) (hu : A.units + 64 < cLine) (h : Q (.bool false) s) : wpAny (model prog w) A (compareOp .NotEq (.ref D) (.ref D2)) Q E s := by
  obtain ⟨_, r1⟩ := hD; obtain ⟨_, r2⟩ := hD2
  have hs : SeqAt.shaped (.list [boolD b1 c1, boolD b2 c2, boolD b3 c3, boolD b4 c4, boolD b5 c5, boolD b6 c6, boolD b7 c7]) = true := by
    simp [SeqAt.shaped, PyData.canLay0, PyData.canLayAll0, PyData.depth, PyData.depthAll, boolD]
  refine ne_dataH_same r1 r2 hs hs hu (SeqAt.noMix_of_shape (.list (.tuple [.bool, .bool])) rfl _ _ (by rfl) (by rfl)) ?_
  rw [same_refl]; exact h
theorem comp_new {h₀ : Heap} {L I C D q : Addr} {m : Str → Option Value} {s₁ : Shared} {oI oC oD o : Obj} {S : List (Addr × Obj) → Prop} {rest : Value → List (Addr × Obj) → Prop} {h' : Heap} {tk : Nat} {nw : List (Addr × Obj)}
    (F : Fr h₀ L h' m) (N : News h₀ L h' ((q, o) :: (I, oI) :: (C, oC) :: (D, oD) :: nw)) (hl : @LT.lt Nat _ I q ∧ @LT.lt Nat _ C q ∧ @LT.lt Nat _ D q ∧ AllLt q nw) (off : LCg.Off3 I C D nw) (hS : S ((q, o) :: nw)) (r : rest (.ref q) ((q, o) :: nw)) :
    LCg.CompEnd h₀ L m s₁ I oI C oC D oD S rest (.ref q) { s₁ with heap := h', toks := tk } := by
  refine LCg.CompEnd.intro F N ((q, o) :: nw) (fun p hp => ?_) ⟨⟨Ne.symm (Nat.ne_of_lt hl.1), Ne.symm (Nat.ne_of_lt hl.2.1), Ne.symm (Nat.ne_of_lt hl.2.2.1)⟩, off⟩ hS r
  simp only [List.mem_cons] at hp ⊢
  rcases hp with h | h | h | h | h <;> simp [h]
theorem law_four {w : World} {s : Shared} {mean : ExcName → Option Value} {mg mb : Str → Option Value} {dp un : Nat} {gd : Option (List Code)} {R : Result → Shared → Prop} {Q' : Flow → Shared → Prop} {L : Addr} {h : Heap} {tk : Nat} {m₀ : Str → Option Value}
    {sy : Addr} {nw : List (Addr × Obj)} {d : Bool}
    (X : (K0 w.params).In s.heap) (T : Top V0 (looseW V0 [Str.ofString "b2a_base64", Str.ofString "b64encode", Str.ofString "_deduplicate"]) mean mg mb s.heap)
    (hd : dp + 30 < recursionLimit) (hu : un + 240 < cLine)
    (F : Fr s.heap L h m₀) (e1 : m₀ (Str.ofString "says") = some (.ref sy)) (e2 : m₀ (Str.ofString "same") = some (.bool d))
    (N : News s.heap L h ((sy, PySem.W.listOf [Value.bool true, .bool true, .bool true, .bool d, .bool d, .bool d, .bool d].toArray 7) :: nw))
    (hQ : ∀ h' tk', Fr s.heap L h' m₀ → News s.heap L h' nw → Q' .next { s with heap := h', toks := tk' }) :
    wpAny (model PySem.Challenge.rw_rt0036_01.row.prog w) (Around.deeper { handled := none, depth := dp, frames := some [], guards := gd, units := un } (lawEnv L)) (execs (List.take 1 (List.drop 15 lawBody)) (lawEnv L)) Q'
      (fun e s' => wpAny (model PySem.Challenge.rw_rt0036_01.row.prog w) (Around.deeper { handled := none, depth := dp, frames := some [], guards := gd, units := un } (lawEnv L)) (leaving (lawEnv L) e) (fun _ s'' => R (.error e) s'') (fun e' s'' => R (.error e') s'') s') { s with heap := h, toks := tk } := by
  have hz : PySem.Challenge.rw_rt0036_01 = PySem.Challenge.rw_rt0036_01 := rfl
  revert hz X
  k_fill
  intro X _
  rw [law_cut15]
  generalize hb : lawAt 15 = b
  conv at hb => lhs; whnf
  subst hb
  generalize hb : lawScope = b
  conv at hb => lhs; whnf
  subst hb
  rw [over2 e1 e2] at F
  have B : Below { handled := none, depth := dp, frames := some [], guards := gd, units := un } s.heap [] s.heap := ⟨rfl, fun _ _ e => e, trivial⟩
  (try k_fold)
  k_steps
  refine Halt.go (LCg.ListComp_U F rfl (by decide) rfl (by decide) rfl ?_)
  obtain ⟨its, hits⟩ : ∃ its, its = [Value.bool true, .bool true, .bool true, .bool d, .bool d, .bool d, .bool d] := ⟨_, rfl⟩
  obtain ⟨bs, hbs⟩ : ∃ bs, bs = [true, true, true, d, d, d, d] := ⟨_, rfl⟩
  have hib : its = bs.map Value.bool := by rw [hits, hbs]; rfl
  have h7 : bs.length = 7 := by rw [hbs]; rfl
  rw [← hits] at N
  k_steps
  refine LCg.CompSrc.ledger (its := its.toArray) (k := 7) rfl F N mh (by rw [List.size_toArray, hib, List.length_map, h7, sizeLine_eq]; decide) fun g => ?_
  refine rest_ind (n := 7) (fun i ys nwx => ∃ tls, nwx = tls ++ (sy, PySem.W.listOf its.toArray 7) :: nw ∧ ys.length = i ∧ ∀ (j : Nat) (y : Value), ys[j]? = some y → ∃ (q : Addr) (b : Bool), y = Value.ref q ∧ bs[j]? = some b ∧ (q, tup2 (.bool (b == true)) (.bool (b == false))) ∈ tls) ?_ ?_ its.toArray.size 0 [] _ (by rw [List.size_toArray, hib, List.length_map, h7]) ⟨[], rfl, rfl, fun j y h => by simp at h⟩
  · rintro ys nwx ⟨tls, rfl, hyl, hys⟩
    intro D' h tk' F N o3
    show wpAny _ _ _ _ _ _
    k_steps
    (rename News _ _ _ _ => N₁; rename Fr _ _ _ _ => F₁)
    refine Halt.go (mul_own (vs := [Value.ref _]) F₁ N₁ mh (by simp) (by decide) (by decide) (by simp) fun r3 h3 F N hr3 => ?_)
    change News _ _ _ ((r3, PySem.W.listOf [Value.ref _, .ref _, .ref _].toArray 0) :: _) at N
    clear F₁ N₁ hr3
    k_steps
    (rename News _ _ _ _ => N₁; rename Fr _ _ _ _ => F₁)
    refine Halt.go (mul_own (vs := [Value.ref _]) F₁ N₁ mh (by simp) (by decide) (by decide) (by simp) fun r4 h4 F N hr4 => ?_)
    change News _ _ _ ((r4, PySem.W.listOf [Value.ref _, .ref _, .ref _, .ref _].toArray 0) :: _) at N
    clear F₁ N₁ hr4
    k_steps
    (rename News _ _ _ _ => N₁; rename Fr _ _ _ _ => F₁)
    refine Halt.go (add_own F₁ N₁ (mt (mt (mt mh))) mh (by simp) fun r5 h5 F N hr5 => ?_)
    clear F₁ N₁ hr5
    show wpAny _ _ _ _ _ _
    obtain ⟨as, hr⟩ : ∃ as, ReadsAll h5 ys (bs.map fun b => boolD (b == true) (b == false)) as := reads_bools (by rw [hyl, h7]) fun j y hj => by
      obtain ⟨q, b, r1, r2, r3⟩ := hys j y hj
      exact ⟨q, b, r1, r2, (N _ (mt (mt (mt (mt (mt (mt (mt (mt (List.mem_append_left _ r3)))))))))).1⟩
    have e : (bs.map fun b => boolD (b == true) (b == false)) = [boolD true false, boolD true false, boolD true false, boolD d (!d), boolD d (!d), boolD d (!d), boolD d (!d)] := by rw [hbs]; cases d <;> rfl
    rw [e] at hr
    refine says_same ⟨_, .list (N _ (mt (mt (mt (mt (mt (mt (mt (mh))))))))).1 rfl rfl (by simpa using hr)⟩ ⟨_, .list (N _ mh).1 rfl rfl (.cons (.tuple (N _ (mt (mt (mt (mt (mt (mt (mh)))))))).1 rfl rfl (.cons (.bool _) (.cons (.bool _) .nil))) (.cons (.tuple (N _ (mt (mt (mt (mt (mt (mt (mh)))))))).1 rfl rfl (.cons (.bool _) (.cons (.bool _) .nil))) (.cons (.tuple (N _ (mt (mt (mt (mt (mt (mt (mh)))))))).1 rfl rfl (.cons (.bool _) (.cons (.bool _) .nil))) (.cons (.tuple (N _ (mt (mt (mt (mh))))).1 rfl rfl (.cons (.bool _) (.cons (.bool _) .nil))) (.cons (.tuple (N _ (mt (mt (mt (mh))))).1 rfl rfl (.cons (.bool _) (.cons (.bool _) .nil))) (.cons (.tuple (N _ (mt (mt (mt (mh))))).1 rfl rfl (.cons (.bool _) (.cons (.bool _) .nil))) (.cons (.tuple (N _ (mt (mt (mt (mh))))).1 rfl rfl (.cons (.bool _) (.cons (.bool _) .nil))) (.nil))))))))⟩ (by show un + 3 + 64 < cLine; omega) ?_
    show wpAny _ _ _ _ _ _
    k_steps
    rw [← over2 e1 e2] at F
    exact hQ _ _ F (fun p hp => N p (mt (mt (mt (mt (mt (mt (mt (mt (List.mem_append_right _ (mt hp)))))))))))
  · rintro i ys nwx v hi ⟨tls, rfl, hyl, hys⟩ hv
    intro I oI C oC D' m₂ h tk' E' hns hat1 F₃ N₃ hoff hne
    obtain ⟨b, hb⟩ : ∃ b, bs[i]? = some b := ⟨_, List.getElem?_eq_getElem (by omega)⟩
    have ev : v = .bool b := by
      rw [hib, List.getElem?_toArray, List.getElem?_map, hb] at hv
      exact (Option.some.inj hv).symm
    subst ev
    (try dsimp only)
    (try k_fold)
    k_steps
    (rename News _ _ _ _ => N₁; rename Fr _ _ _ _ => F₁; rename _ ∧ _ => hl)
    refine comp_new F₁ N₁ hl hoff (.inr ⟨_, mt (List.mem_append_right _ mh), rfl, _, rfl⟩) ⟨_ :: tls, rfl, by simp [hyl], fun j y hj => ?_⟩
    by_cases hlt : j < ys.length
    · rw [List.getElem?_append_left hlt] at hj
      obtain ⟨q, b, r1, r2, r3⟩ := hys j y hj
      exact ⟨q, b, r1, r2, mt r3⟩
    · have hj' : j = ys.length := by
        have := (List.getElem?_eq_some_iff.mp hj).1
        simp at this; omega
      subst hj'
      rw [List.getElem?_append_right (Nat.le_refl _)] at hj
      simp at hj
      exact ⟨_, b, hj.symm, by rw [hyl]; exact hb, mh⟩
theorem ints_last {v : Value} : ∀ {l : List Value} {xs : List Int}, IntsAre (l ++ [v]) xs → ∃ ys k t, v = .int k t ∧ xs = ys ++ [k] ∧ IntsAre l ys
  | [], xs, h => by
    change IntsAre [v] xs at h
    cases h with
    | cons k t r => cases r; exact ⟨[], k, t, rfl, rfl, .nil⟩
  | y :: l, xs, h => by
    change IntsAre (y :: (l ++ [v])) xs at h
    cases h with
    | cons n u r =>
      obtain ⟨ys, k, t, rfl, rfl, h⟩ := ints_last r
      exact ⟨n :: ys, k, t, rfl, rfl, .cons n u h⟩
theorem storedAll_none {vs : List Value} {kvs : List (Int × Value)} (x : StoredAll (fun v k => ∃ t, v = Value.int k t) (fun _ y => y = Value.none) vs kvs) : ∀ xs, IntsAre vs xs → kvs = fkPairs (dedup xs) := by
  induction x with
  | nil => intro xs h; cases h; rfl
  | snoc _ hk hy ih =>
    intro xs h
    obtain ⟨ys, k, t, rfl, rfl, h₀⟩ := ints_last h
    obtain ⟨u, e⟩ := hk
    cases e
    rw [hy, ih ys h₀, fk_stored]
    unfold dedup
    rw [List.foldl_append]; rfl
theorem ints_at {i : Nat} {v : Value} : ∀ {vs : List Value} {xs : List Int}, IntsAre vs xs → vs.toArray[i]? = some v → ∃ k t, v = Value.int k t := by
  intro vs xs h hv
  have hv : vs[i]? = some v := by simpa using hv
  obtain ⟨hlt, e⟩ := List.getElem?_eq_some_iff.mp hv
  obtain ⟨t, ht⟩ := ints_get' (i := i) h (List.getElem?_eq_getElem (by rw [← h.length]; exact hlt))
  rw [hv] at ht
  exact ⟨_, t, Option.some.inj ht⟩
section
variable {prog : Program} {w : World} {A : Around} {E : Value → Shared → Prop} {s : Shared} {h₀ : Heap} {L : Addr} {m : Str → Option Value} {news : List (Addr × Obj)} {env : Env}
/-- {x: None for x in a list of ints} -/
theorem dict_none {iter : PySem.Expr} {x : Str} {px kp vp : Pos} {vk : Nat} {scope : Scope} {cl : List (Str × Addr)} {pos : Pos} {Q : Value → Shared → Prop} {ax : Addr} {vs : List Value} {xs : List Int} {n : Nat}
    (hh : A.handled = none) (hclos : closureFor scope env = pure cl) (hcell : ∀ y ∈ scope.names, y.2 ≠ .cell) (hkind : scope.kind = .function)
    (hnames : ∀ y ∈ scope.names, y.2 = .local → scope.names.lookup y.1 = some .local) (hx : scope.names.lookup x = some .local)
    (hit : ∀ Q' : Value → Shared → Prop, Q' (.ref ax) s → wpAny (model prog w) A (eval iter env) Q' E s)
    (F : Fr h₀ L s.heap m) (N : News h₀ L s.heap news) (hm : (ax, PySem.W.listOf vs.toArray n) ∈ news) (hi : IntsAre vs xs) (hz : vs.length ≤ 200)
    (hQ : ∀ D o h' tk, Fr h₀ L h' m → News h₀ L h' ((D, o) :: news) → s.heap.objs.size ≤ D → h'.DictOf (intKind prog w) D (fkPairs (dedup xs)) → Q (.ref D) { s with heap := h', toks := tk })
    (hdb : (x == ("__debug__" : Str)) = false) (hs : ∀ x, foldedSetIterable iter env x = pure x := by intro _; rfl) :
    wpAny (model prog w) A (eval (.DictComp (.Name x kp) (.Constant .none vk vp) [⟨.Name x px, iter, [], 0⟩] scope pos) env) Q E s := by
  have hl := own_list N hm
  have hlt : ax < s.heap.objs.size := Heap.lt_size (N _ hm).1
  rw [arm_eval_DictComp]
  refine wpAny_comprehension_free (use := none) rfl hs hclos hkind hnames (hit _ (wpAny_pyIter_list hl ?_))
  have hit0 : (s.heap.push { cls := .type "list_iterator", data := .fields #[.ref ax, .int 0 0] }).IsListIter s.heap.objs.size ax 0 ∧ (s.heap.push { cls := .type "list_iterator", data := .fields #[.ref ax, .int 0 0] }).IsList ax vs.toArray := ⟨⟨_, Heap.get?_push_size _ rfl, rfl, rfl⟩, hl.push _⟩
  have z1 : (s.heap.push { cls := .type "list_iterator", data := .fields #[.ref ax, .int 0 0] }).objs.size = s.heap.objs.size + 1 := Heap.size_push ..
  have k1 : ∀ b o, s.heap.get? b = some o → (s.heap.push { cls := .type "list_iterator", data := .fields #[.ref ax, .int 0 0] }).get? b = some o := fun b o e => Heap.get?_push_of_some _ e
  generalize s.heap.push { cls := .type "list_iterator", data := .fields #[.ref ax, .int 0 0] } = H1 at hit0 z1 k1 ⊢
  refine wpAny_newObj_type (wpAny_newFunctionEnv hcell (by intro y hy; simp at hy) (fun h₁ hns₁ hsb₁ => ?_) hkind)
  dsimp only at hns₁ hsb₁ ⊢
  have hd0 : (H1.push { cls := .type "dict", dict := none, data := .dict #[] }).DictOf (intKind prog w) H1.objs.size [] := Heap.DictOf.new H1
  have z2 : (H1.push { cls := .type "dict", dict := none, data := .dict #[] }).objs.size = H1.objs.size + 1 := Heap.size_push ..
  have k2 : ∀ b o, H1.get? b = some o → (H1.push { cls := .type "dict", dict := none, data := .dict #[] }).get? b = some o := fun b o e => Heap.get?_push_of_some _ e
  generalize H1.push { cls := .type "dict", dict := none, data := .dict #[] } = H2 at hns₁ hsb₁ hd0 z2 k2 ⊢
  have hDC : H1.objs.size ≠ H2.objs.size := by omega
  have k3 : ∀ b o, H2.get? b = some o → h₁.get? b = some o := fun b o e => hsb₁.extBut b o (Nat.ne_of_lt (Heap.lt_size e)) (Heap.get?_push_of_some _ e)
  have W := Walks.list (prog := prog) (w := w) hh s.heap.objs.size ax (Nat.ne_of_lt hlt) vs.toArray
  have hst₁ : h₁.IsListIter s.heap.objs.size ax 0 ∧ h₁.IsList ax vs.toArray := W.frame _ _ _ hit0 fun b _ o e => k3 b o (k2 b o e)
  have hfp : ∀ b ∈ [s.heap.objs.size, ax], b < H1.objs.size := fun b hb => by
    have hlt' : @LT.lt Nat _ ax s.heap.objs.size := hlt
    rcases List.mem_cons.mp hb with rfl | hb
    · omega
    · rw [List.mem_singleton.mp hb]; show @LT.lt Nat _ ax H1.objs.size; omega
  have loop : ∀ s₃ : Shared, s₃ = { s with heap := h₁, toks := s.toks + ([] : List (Str × Value)).length } →
      codeAny (model prog w) A (.compLoop (.DictComp (.Name x kp) (.Constant .none vk vp) [⟨.Name x px, iter, [], 0⟩] scope pos) 0 (.ref s.heap.objs.size) (.ref H1.objs.size) (compEnvC scope cl H2.objs.size env))
        (compPost (model prog w) A E none Q (.ref H1.objs.size) H2.objs.size) s₃ := by
    rintro s₃ rfl
    refine codeAny_compLoop_walkD (hsz := by rw [List.size_toArray, sizeLine_eq]; omega) (knd := intKind prog w) (cenv := compEnvC scope cl H2.objs.size env) W (fun _ => true) (fun v k => ∃ t, v = Value.int k t) (fun _ y => y = Value.none)
      (lookup_relabel_local hx) (by simp [compEnvC, relabel, hkind]) hDC (fun hm => Nat.lt_irrefl _ (hfp _ hm)) (fun hm => by have : @LT.lt Nat _ H2.objs.size H1.objs.size := hfp _ hm; omega) hst₁ (hd0.at fun o e => k3 _ _ e) hns₁ ?_ ?_ ?_ ?_
    · intro i v s₂ m₂ hP hn hm hk
      exact wpAny_pure ⟨rfl, _, _, rfl, fun _ _ e => e⟩
    · intro i v s₂ m₂ hP hp hn hm hk
      obtain ⟨k, t, rfl⟩ : ∃ k t, v = Value.int k t := ints_at hi hP
      exact wpAny_Name (wpAny_loadName_local (by simp [compEnvC, relabel, hkind]) (lookup_relabel_local hx) hn hm ⟨⟨k, intKind_is _ _ _ _, t, rfl⟩, _, _, rfl, fun _ _ e => e⟩) hdb
    · intro i v s₂ m₂ hP hp hn hm hk
      exact wpAny_Constant_none ⟨rfl, _, _, rfl, fun _ _ e => e⟩
    · intro h' tk m' kvs vs' hn hlD hlen hP hF hk
      have e : vs' = vs := by simpa using list_of_places hlen hP
      subst e
      refine ⟨m', hn, fun h'' hs'' => ?_⟩
      have keep : ∀ b o, s.heap.get? b = some o → h''.get? b = some o := fun b o e => by
        have hb : @LT.lt Nat _ b s.heap.objs.size := Heap.lt_size e
        exact hs''.extBut b o (show @Ne Nat b H2.objs.size by omega) (hk b o (show @Ne Nat b H2.objs.size by omega) (fun hm => by have : @Eq Nat b s.heap.objs.size := List.mem_singleton.mp hm; omega) (show @Ne Nat b H1.objs.size by omega) (k3 _ _ (k2 _ _ (k1 _ _ e))))
      have hD := hlD.extBut hs''.extBut hDC
      have ek : kvs = fkPairs (dedup xs) := storedAll_none hF xs (by rw [List.filter_eq_self.mpr fun _ _ => rfl]; exact hi)
      rw [ek] at hD
      obtain ⟨o, r⟩ := id hD
      obtain ⟨es, ep, ho, r⟩ := r
      have hn0 : s.heap.get? H1.objs.size = none := Heap.get?_none_of_le (by omega)
      have N' : News h₀ L h'' news := fun p hp => ⟨keep _ _ (N p hp).1, (N p hp).2⟩
      exact hQ H1.objs.size o h'' tk (F.keeps keep) (news_add F N' hn0 ho) (by omega) hD
  exact codeAny_compStart_dict (loop _ rfl) (W.self 0 _ _ _ hst₁ (loop _ rfl))
end
theorem dedup_dedup {α : Type} [DecidableEq α] {xs : List α} : dedup (dedup xs) = dedup xs := by
  show (dedup xs).foldl dstep [] = dedup xs
  rw [dedup_new (dedup xs) [] (dedup_nodup xs) (fun _ _ h => by cases h)]; rfl
theorem fkPairs_value {k : Int} : ∀ {xs : List Int}, k ∈ xs → valueAt (fkPairs xs) k = some Value.none
  | x :: xs, h => by
    unfold valueAt fkPairs
    rw [List.map_cons, List.find?_cons]
    by_cases e : x = k
    · subst e; simp
    · simp only [e, decide_false]
      rcases List.mem_cons.mp h with h | h
      · exact absurd h.symm e
      · exact fkPairs_value h
section
open PySem.W
variable {prog : Program} {w : World} {A : Around} {E : Value → Shared → Prop} {s : Shared} {h₀ : Heap} {L d d2 a b : Addr} {m : Str → Option Value} {news : List (Addr × Obj)}
theorem hits_none {kb : List (Int × Value)} : ∀ l : List (Int × Value), (∀ p ∈ l, valueAt kb p.1 = some Value.none ∧ p.2 = Value.none) → KeqHits A s kb l true
  | [], _ => .nil
  | (k, v) :: r, h => by
    obtain ⟨h1, h2⟩ := h _ (.head _)
    dsimp only at h1 h2
    subst h2
    exact KeqHits.hit (e := true) (b := true) h1 (SeqAt.EqAt.same _) (hits_none r fun p hp => h p (.tail _ hp))
/-- two dicts of one list of keys, None behind each -/
theorem dicts_ne {xs : List Int} {Q : Value → Shared → Prop} (h1 : s.heap.DictOf (intKind prog w) d (fkPairs xs)) (h2 : s.heap.DictOf (intKind prog w) d2 (fkPairs xs)) (l1 : (d == sysModules) = false) (l2 : (d2 == sysModules) = false) (hu : A.units < cLine)
    (h : Q (.bool false) s) : wpAny (model prog w) A (compareOp .NotEq (.ref d) (.ref d2)) Q E s := by
  refine keq_ne l1 l2 h1 h2 hu (r := true) (fun _ => hits_none _ fun p hp => ?_) (by simpa using h)
  unfold fkPairs at hp
  obtain ⟨k, hk, rfl⟩ := List.mem_map.mp hp
  exact ⟨fkPairs_value hk, rfl⟩
theorem intsAre_of : ∀ {vs : List Value} {xs : List Int}, vs.length = xs.length → (∀ (j : Nat) (v : Value), vs[j]? = some v → ∃ k t, xs[j]? = some k ∧ v = Value.int k t) → IntsAre vs xs
  | [], [], _, _ => .nil
  | [], _ :: _, e, _ => by cases e
  | _ :: _, [], e, _ => by cases e
  | v :: vs, x :: xs, e, h => by
    obtain ⟨k, t, e1, rfl⟩ := h 0 v rfl
    cases e1
    exact .cons _ _ (intsAre_of (by simpa using e) fun j v hj => by
      obtain ⟨k, t, r1, r2⟩ := h (j + 1) v (by simpa using hj)
      exact ⟨k, t, by simpa using r1, r2⟩)
/-- list(a dict) -/
theorem list_keys {xs : List Int} {Q : Value → Shared → Prop} (hd : s.heap.DictOf (intKind prog w) d (fkPairs xs)) (lo : (d == sysModules) = false) (hh : A.handled = none) (F : Fr h₀ L s.heap m) (N : News h₀ L s.heap news) (hz : xs.length ≤ 200)
    (h : ∀ B c h' tk vs, Fr h₀ L h' m → News h₀ L h' ((B, PySem.W.listOf vs.toArray c) :: news) → IntsAre vs xs → Q (.ref B) { s with heap := h', toks := tk }) : wpAny (model prog w) A (call (.type "list") [.ref d]) Q E s := by
  obtain ⟨ep, hat⟩ := hd.dictAt
  refine kdl_N (kdl_dict (knd := intKind prog w) (kvs := fkPairs xs) (ep := ep) lo) hh F N hat (by rw [fk_pairs_len, sizeLine_eq]; omega) fun B c h' tk vs F' N' l1 hl hv => ?_
  refine h B c h' tk vs F' N' (intsAre_of (by rw [hl, fk_pairs_len]) fun j v hj => ?_)
  obtain ⟨k, x, hx, hk⟩ := hv j v hj
  obtain ⟨t, rfl⟩ := Value.isInt_shape hk
  unfold fkPairs at hx
  rw [List.getElem?_map] at hx
  cases e : xs[j]? with
  | none => rw [e] at hx; cases hx
  | some k' => rw [e] at hx; cases hx; exact ⟨_, t, rfl, rfl⟩
theorem ints_ne {vs us : List Value} {xs : List Int} {Q : Value → Shared → Prop} (hl : s.heap.IsList a vs.toArray) (hi : IntsAre vs xs) (hl' : s.heap.IsList b us.toArray) (hi' : IntsAre us xs) (hu : A.units + 64 < cLine) (h : Q (.bool false) s) :
    wpAny (model prog w) A (compareOp .NotEq (.ref a) (.ref b)) Q E s := by
  refine ne_dataH_same (reads_of_ints hl hi) (reads_of_ints hl' hi') (shaped_ints xs) (shaped_ints xs) hu (by simp only [SeqAt.noMix]; exact noMix_ints xs xs) ?_
  rw [same_refl]; exact h
end
theorem law_five {w : World} {s : Shared} {mean : ExcName → Option Value} {mg mb : Str → Option Value} {dp un : Nat} {gd : Option (List Code)} {R : Result → Shared → Prop} {Q' : Flow → Shared → Prop} {L : Addr} {h : Heap} {tk : Nat} {m₀ : Str → Option Value}
    {r0 r1 r2 : Addr} {w0 w1 w2 : List Value} {n0 n1 n2 : Nat} {x0 x1 x2 : List Int} {nw : List (Addr × Obj)} {d : Bool}
    (X : (K0 w.params).In s.heap) (T : Top V0 (looseW V0 [Str.ofString "b2a_base64", Str.ofString "b64encode", Str.ofString "_deduplicate"]) mean mg mb s.heap)
    (hd : dp + 30 < recursionLimit) (hu : un + 240 < cLine)
    (F : Fr s.heap L h m₀) (e1 : m₀ (Str.ofString "one") = some (.ref r0)) (e2 : m₀ (Str.ofString "two") = some (.ref r1)) (e3 : m₀ (Str.ofString "three") = some (.ref r2)) (e4 : m₀ (Str.ofString "same") = some (.bool d))
    (N : News s.heap L h ((r0, PySem.W.listOf w0.toArray n0) :: (r1, PySem.W.listOf w1.toArray n1) :: (r2, PySem.W.listOf w2.toArray n2) :: nw))
    (hi0 : IntsAre w0 x0) (hi1 : IntsAre w1 x1) (hi2 : IntsAre w2 x2) (hl0 : x0.length ≤ 25) (hl1 : x1.length ≤ 25) (hl2 : x2.length ≤ 25)
    (hk : dedup (x1 ++ x2 ++ x0) = x1 ++ (if d = true then [] else x2))
    (hQ : ∀ h' tk' m', Fr s.heap L h' m' → m' (Str.ofString "first") = m₀ (Str.ofString "first") → m' (Str.ofString "other") = m₀ (Str.ofString "other") → m' (Str.ofString "same") = m₀ (Str.ofString "same") → m' (Str.ofString "rising") = m₀ (Str.ofString "rising") → News s.heap L h' nw → Q' .next { s with heap := h', toks := tk' }) :
    wpAny (model PySem.Challenge.rw_rt0036_01.row.prog w) (Around.deeper { handled := none, depth := dp, frames := some [], guards := gd, units := un } (lawEnv L)) (execs (List.take 2 (List.drop 16 lawBody)) (lawEnv L)) Q'
      (fun e s' => wpAny (model PySem.Challenge.rw_rt0036_01.row.prog w) (Around.deeper { handled := none, depth := dp, frames := some [], guards := gd, units := un } (lawEnv L)) (leaving (lawEnv L) e) (fun _ s'' => R (.error e) s'') (fun e' s'' => R (.error e') s'') s') { s with heap := h, toks := tk } := by
  have hz : PySem.Challenge.rw_rt0036_01 = PySem.Challenge.rw_rt0036_01 := rfl
  revert hz X
  k_fill
  intro X _
  rw [law_cut16]
  generalize hb : lawAt 16 = b
  conv at hb => lhs; whnf
  subst hb
  generalize hb : lawAt 17 = b
  conv at hb => lhs; whnf
  subst hb
  generalize hb : lawScope = b
  conv at hb => lhs; whnf
  subst hb
  rw [over4 e1 e2 e3 e4] at F
  have B : Below { handled := none, depth := dp, frames := some [], guards := gd, units := un } s.heap [] s.heap := ⟨rfl, fun _ _ e => e, trivial⟩
  have hw0 := hi0.length
  have hw1 := hi1.length
  have hw2 := hi2.length
  (try k_fold)
  k_steps
  refine Halt.go (add_own (vs := w1) (ws := w2) (by assumption) N (mt mh) (mt (mt mh)) (by omega) fun q1 h1 F₁ N₁ hr1 => ?_)
  k_steps
  (rename News _ _ _ _ => N₁; rename Fr _ _ _ _ => F₁)
  refine Halt.go (add_own (vs := w1 ++ w2) (ws := w0) F₁ N₁ mh (mt mh) (by simp; omega) fun q2 h2 F N hr2 => ?_)
  clear F₁ N₁ hr1 hr2
  k_steps
  (rename News _ _ _ _ => N₁; rename Fr _ _ _ _ => F₁)
  have hS : @LT.lt Nat _ 3 s.heap.objs.size := by obtain ⟨o, _, _, ho, _⟩ := T.g; exact Heap.lt_size ho
  refine Halt.go (con_use (kept_con (vs := w1 ++ w2 ++ w0) (xs := x1 ++ x2 ++ x0) (N₁ _ mh).1 ((hi1.append hi2).append hi0) (by simp; omega)) B F₁ N₁ X T rfl rfl (rm hd) (rm3 hu) (fun r h' tk' hkk hp F N => ?_))
  obtain ⟨dd, rfl, hD, hge⟩ := hp
  rw [hk] at hD
  have hge3 : @LE.le Nat _ 3 dd := by
    have a1 : @LE.le Nat _ s.heap.objs.size L := F₁.above
    have a2 : @LT.lt Nat _ L h2.objs.size := F₁.ns.lt
    have a3 : @LE.le Nat _ h2.objs.size dd := hge
    omega
  obtain ⟨od, hod⟩ : ∃ o, h'.get? dd = some o := by obtain ⟨o, _, _, ho, _⟩ := hD; exact ⟨o, ho⟩
  have hDo : ∀ hh : Heap, hh.get? dd = some od → hh.DictOf (intKind _ w) dd _ := fun hh e => hD.at fun o e' => by rw [hod] at e'; cases e'; exact e
  have N := news_add F₁ N (Heap.get?_none_of_le hge) hod
  clear F₁ N₁ hD hod hge hkk
  cases d
  · k_steps
    (rename News _ _ _ _ => N₁; rename Fr _ _ _ _ => F₁)
    refine Halt.go (add_own (vs := w1) (ws := w2) F₁ N₁ (by walk_at "mem") (by walk_at "mem") (by (try simp); omega) fun q3 h3 F N hr3 => ?_)
    have hdue : IntsAre (w1 ++ w2) (x1 ++ if false = true then [] else x2) := hi1.append hi2
    clear F₁ N₁ hr3
    k_steps
    (rename News _ _ _ _ => N₁; rename Fr _ _ _ _ => F₁)
    refine Halt.go (list_keys (hDo _ (N₁ (dd, od) (by walk_at "mem")).1) (beq_eq_false_iff_ne.mpr (show @Ne Nat dd 1 by omega)) rfl F₁ N₁ (by simp; omega) fun B1 c1 h4 tk4 vs4 F N hi4 => ?_)
    clear F₁ N₁
    k_steps
    (rename News _ _ _ _ => N₁; rename Fr _ _ _ _ => F₁)
    refine Halt.go (ints_ne (own_list N₁ mh) hi4 (own_list N₁ (by walk_at "mem")) hdue (by show un + 3 + 64 < cLine; omega) ?_)
    k_steps
    (rename News _ _ _ _ => N₁; rename Fr _ _ _ _ => F₁)
    refine Halt.go (dict_none (vs := w1 ++ _) rfl rfl (by decide) rfl (by decide) rfl (fun Q'' hh => ?_) F₁ N₁ (by walk_at "mem") hdue (by simp; omega) (fun D o h5 tk5 F N hge hD5 => ?_) (by decide))
    · k_steps
      exact hh
    · rw [← hk, dedup_dedup, hk] at hD5
      have hge5 : @LE.le Nat _ 3 D := by
        have a1 : @LE.le Nat _ s.heap.objs.size L := F₁.above
        have a2 : @LT.lt Nat _ L h4.objs.size := F₁.ns.lt
        have a3 : @LE.le Nat _ h4.objs.size D := hge
        omega
      refine dicts_ne (hDo _ (N (dd, od) (by walk_at "mem")).1) hD5 (beq_eq_false_iff_ne.mpr (show @Ne Nat dd 1 by omega)) (beq_eq_false_iff_ne.mpr (show @Ne Nat D 1 by omega)) (by show un + 3 < cLine; omega) ?_
      clear F₁ N₁
      show wpAny _ _ _ _ _ _
      k_steps
      exact hQ _ _ _ F rfl rfl (by rw [e4]; rfl) rfl (fun p hp => N p (by (repeat (first | exact hp | refine List.Mem.tail _ ?_))))
  · k_steps
    (rename News _ _ _ _ => N₁; rename Fr _ _ _ _ => F₁)
    refine Halt.go (add_own (vs := w1) (ws := []) F₁ N₁ (by walk_at "mem") (by walk_at "mem") (by (try simp); omega) fun q3 h3 F N hr3 => ?_)
    have hdue : IntsAre (w1 ++ []) (x1 ++ if true = true then [] else x2) := hi1.append IntsAre.nil
    clear F₁ N₁ hr3
    k_steps
    (rename News _ _ _ _ => N₁; rename Fr _ _ _ _ => F₁)
    refine Halt.go (list_keys (hDo _ (N₁ (dd, od) (by walk_at "mem")).1) (beq_eq_false_iff_ne.mpr (show @Ne Nat dd 1 by omega)) rfl F₁ N₁ (by simp; omega) fun B1 c1 h4 tk4 vs4 F N hi4 => ?_)
    clear F₁ N₁
    k_steps
    (rename News _ _ _ _ => N₁; rename Fr _ _ _ _ => F₁)
    refine Halt.go (ints_ne (own_list N₁ mh) hi4 (own_list N₁ (by walk_at "mem")) hdue (by show un + 3 + 64 < cLine; omega) ?_)
    k_steps
    (rename News _ _ _ _ => N₁; rename Fr _ _ _ _ => F₁)
    refine Halt.go (dict_none (vs := w1 ++ _) rfl rfl (by decide) rfl (by decide) rfl (fun Q'' hh => ?_) F₁ N₁ (by walk_at "mem") hdue (by simp; omega) (fun D o h5 tk5 F N hge hD5 => ?_) (by decide))
    · k_steps
      exact hh
    · rw [← hk, dedup_dedup, hk] at hD5
      have hge5 : @LE.le Nat _ 3 D := by
        have a1 : @LE.le Nat _ s.heap.objs.size L := F₁.above
        have a2 : @LT.lt Nat _ L h4.objs.size := F₁.ns.lt
        have a3 : @LE.le Nat _ h4.objs.size D := hge
        omega
      refine dicts_ne (hDo _ (N (dd, od) (by walk_at "mem")).1) hD5 (beq_eq_false_iff_ne.mpr (show @Ne Nat dd 1 by omega)) (beq_eq_false_iff_ne.mpr (show @Ne Nat D 1 by omega)) (by show un + 3 < cLine; omega) ?_
      clear F₁ N₁
      show wpAny _ _ _ _ _ _
      k_steps
      exact hQ _ _ _ F rfl rfl (by rw [e4]; rfl) rfl (fun p hp => N p (by (repeat (first | exact hp | refine List.Mem.tail _ ?_))))
/-- a list of ints in the ledger -/
def RIn (nw : List (Addr × Obj)) (xs : List Int) (v : Value) : Prop := ∃ a vs n, v = .ref a ∧ (a, PySem.W.listOf vs n) ∈ nw ∧ IntsAre vs.toList xs
theorem intsAre_inj : ∀ {vs : List Value} {xs ys : List Int}, IntsAre vs xs → IntsAre vs ys → xs = ys
  | _, _, _, .nil, h => by cases h; rfl
  | _, _, _, .cons n t r, h => by cases h with | cons _ _ r' => rw [intsAre_inj r r']
theorem rin_ok {h₀ : Heap} {nw : List (Addr × Obj)} (hn : ∀ p ∈ nw, h₀.get? p.1 = some p.2) : EqOk h₀ (RIn nw) := by
  refine ⟨fun a b v ha hb => ?_, fun A s a b v x hu hk ha hb => ?_⟩
  · obtain ⟨p, vs, n, rfl, hm, hi⟩ := ha
    obtain ⟨q, us, n', e, hm', hi'⟩ := hb
    cases e
    have e1 := hn _ hm
    have e2 := hn _ hm'
    dsimp only at e1 e2
    rw [e1] at e2
    simp only [Option.some.injEq, PySem.W.listOf, Obj.mk.injEq, Data.seq.injEq, true_and] at e2
    rw [← e2.1.1] at hi'
    exact intsAre_inj hi hi'
  · obtain ⟨p, vs, n, rfl, hm, hi⟩ := ha
    obtain ⟨q, us, n', rfl, hm', hi'⟩ := hb
    exact SeqAt.EqAt.of_in1 (PySem.W.keq_ints ⟨_, hk _ _ (hn _ hm), rfl, _, by rw [Array.toArray_toList]⟩ hi ⟨_, hk _ _ (hn _ hm'), rfl, _, by rw [Array.toArray_toList]⟩ hi' (by show A.units + 1 + 64 < cLine; omega))
def intsD (xs : List Int) : PyData := .list (xs.map PyData.int)
theorem reads_rel {h : Heap} {nw : List (Addr × Obj)} (hn : ∀ p ∈ nw, h.get? p.1 = some p.2) : ∀ {zs : List (List Int)} {ws : List Value}, Rel2 (RIn nw) zs ws → ∃ as, ReadsAll h ws (zs.map intsD) as
  | _, _, .nil => ⟨_, .nil⟩
  | _, _, .cons hv r => by
    obtain ⟨p, vs, n, rfl, hm, hi⟩ := hv
    obtain ⟨as, ih⟩ := reads_rel hn r
    exact ⟨_, .cons (PySem.W.reads_of_ints (vs := vs.toList) ⟨_, hn _ hm, rfl, _, by rw [Array.toArray_toList]⟩ hi) ih⟩
theorem canLay_lists : ∀ zs : List (List Int), PyData.canLayAll0 (zs.map intsD) = true
  | [] => by simp [PyData.canLayAll0]
  | z :: r => by simp [PyData.canLayAll0, intsD, PyData.canLay0, PySem.W.canLayAll0_ints, canLay_lists r]
theorem depth_lists : ∀ zs : List (List Int), PyData.depthAll (zs.map intsD) ≤ 2
  | [] => by simp [PyData.depthAll]
  | z :: r => by
    have := depth_lists r
    have := PySem.W.depthAll_ints z
    simp only [List.map_cons, intsD, PyData.depthAll, PyData.depth]
    omega
theorem shaped_lists (zs : List (List Int)) : SeqAt.shaped (.list (zs.map intsD)) = true := by
  have h1 := depth_lists zs
  have h2 : PyData.depth (.list (zs.map intsD)) ≤ 64 := by simp only [PyData.depth]; omega
  show (PyData.canLay0 (.list (zs.map intsD)) && decide (PyData.depth (.list (zs.map intsD)) ≤ 64)) = true
  rw [Bool.and_eq_true]
  exact ⟨by simp only [PyData.canLay0]; exact canLay_lists zs, decide_eq_true h2⟩
theorem has_lists (zs : List (List Int)) : PySem.Spec.Shape.has (.list (.list .int)) (.list (zs.map intsD)) = true := by
  simp [PySem.Spec.Shape.has, intsD]
theorem eq_lists {prog : Program} {w : World} {A : Around} {E : Value → Shared → Prop} {s : Shared} {a b : Addr} {zs : List (List Int)} {Q : Value → Shared → Prop} (ra : ∃ as, Reads s.heap (.ref a) (.list (zs.map intsD)) as) (rb : ∃ as, Reads s.heap (.ref b) (.list (zs.map intsD)) as)
    (hu : A.units + 64 < cLine) (h : Q (.bool true) s) : wpAny (model prog w) A (compareOp .Eq (.ref a) (.ref b)) Q E s := by
  obtain ⟨_, ra⟩ := ra; obtain ⟨_, rb⟩ := rb
  refine eq_dataH_same ra rb (shaped_lists zs) (shaped_lists zs) hu (SeqAt.noMix_of_shape (.list (.list .int)) rfl _ _ (has_lists zs) (has_lists zs)) ?_
  rw [same_refl]; exact h
/-- _deduplicate with the fallback, out of the suite of a clause of the outermost frame -/
theorem fallback_use {w : World} {s : Shared} {e l a : Addr} {vs : List Value} {n : Nat} {zs : List (List Int)} {R : List Int → Value → Prop} {h₀ : Heap} {L : Addr} {m : Str → Option Value} {env : Env} {news : List (Addr × Obj)}
    {dp un : Nat} {gd : Option (List Code)} {mean : ExcName → Option Value} {mg mb : Str → Option Value} {Q E : Value → Shared → Prop}
    (hR : EqOk (hideAll s.heap [L]) R) (hm : (l, PySem.W.listOf (Value.ref a :: vs).toArray n) ∈ news) (ha : s.TypeIs (.ref a) "list") (hr : Rel2 R zs (Value.ref a :: vs)) (hzl : (Value.ref a :: vs).length ≤ 200)
    (B : Below { handled := none, depth := dp, frames := some [], guards := gd, units := un } h₀ [] h₀) (F : Fr h₀ L s.heap m) (N : News h₀ L s.heap news) (X : (K0 w.params).In h₀)
    (T : Top V0 (looseW V0 [Str.ofString "b2a_base64", Str.ofString "b64encode", Str.ofString "_deduplicate"]) mean mg mb h₀) (H : HOk1 (some (.ref e)) s.heap)
    (hf : env.frame = some L) (hk : env.scope.kind = .function) (hd : dp + 1 + 14 < recursionLimit) (hu : un + 3 + 128 < cLine)
    (k : ∀ c ws n h' tk', Fr h₀ L h' m → News h₀ L h' ((c, PySem.W.listOf ws n) :: news) → Rel2 R (dedup zs) ws.toList → Q (.ref c) { s with heap := h', toks := tk' }) :
    wpAny (model PySem.Challenge.rw_rt0036_01.row.prog w) ((({ handled := none, depth := dp, frames := some [], guards := gd, units := un } : Around).deeper env).mark (some (.ref e))) (call (.ref 167) [.ref l] [(Str.ofString "unhashable_fallback", .bool true)]) Q E s := by
  have B' := pushX B F hf hk
  have e1 : [env].filterMap (·.frame) = [L] := by simp [hf]
  refine fallback_con (dp + 1) (un + 3) gd [env] h₀ mean mg mb Q E (by rw [e1]; exact hR) (by rw [e1]; exact hideAll_get _ (N _ hm).1 fun q => (N _ hm).2.1 (List.mem_singleton.mp q)) ha hr hzl ⟨rfl, B'.stays, B'.frames⟩ X T H hd hu fun c ws n h' tk' h₁ K hkp hc hnew hrel => ?_
  rw [e1] at K
  have keep : ∀ b o, b ≠ L → s.heap.get? b = some o → h'.get? b = some o := fun b o hb e => hkp b o (K.other b o e (by simpa using hb))
  have F' : Fr h₀ L h' m := by
    obtain ⟨oL, es, ep, hL, hLd, r⟩ := F.ns
    obtain ⟨sl, hs⟩ := K.frame _ _ hL (by simp)
    refine ⟨⟨_, es, ep, hkp _ _ hs, hLd, r⟩, fun b o e => keep b o (fun q => ?_) (F.keep b o e), F.above⟩
    rw [q, kts_self F] at e; cases e
  exact k c ws n h' tk' F' (news_add F (fun p hp => ⟨keep _ _ (N p hp).2.1 (N p hp).1, (N p hp).2⟩) hnew hc) hrel
theorem law_six {w : World} {s : Shared} {mean : ExcName → Option Value} {mg mb : Str → Option Value} {dp un : Nat} {gd : Option (List Code)} {R : Result → Shared → Prop} {Q' : Flow → Shared → Prop} {L : Addr} {h : Heap} {tk : Nat} {m₀ : Str → Option Value}
    {ri q1 q2 q3 c1 c2 : Addr} {u1 u2 u3 : Array Value} {v1 v2 : List Value} {k1 k2 k3 m1 m2 : Nat} {xs1 xs2 : List Int} {d : Bool}
    (X : (K0 w.params).In s.heap) (T : Top V0 (looseW V0 [Str.ofString "b2a_base64", Str.ofString "b64encode", Str.ofString "_deduplicate"]) mean mg mb s.heap)
    (hd : dp + 30 < recursionLimit) (hu : un + 240 < cLine)
    (F : Fr s.heap L h m₀) (e1 : m₀ (Str.ofString "rising") = some (.ref ri)) (e2 : m₀ (Str.ofString "first") = some (.ref c1)) (e3 : m₀ (Str.ofString "other") = some (.ref c2)) (e4 : m₀ (Str.ofString "same") = some (.bool d))
    (N : News s.heap L h [(ri, PySem.W.listOf [Value.ref q1, .ref q2, .ref q3].toArray 0), (q1, PySem.W.listOf u1 k1), (q2, PySem.W.listOf u2 k2), (q3, PySem.W.listOf u3 k3), (c1, PySem.W.listOf v1.toArray m1), (c2, PySem.W.listOf v2.toArray m2)])
    (hu1 : IntsAre u1.toList xs1) (hu2 : IntsAre u2.toList xs2) (hu3 : IntsAre u3.toList xs1) (hi1 : IntsAre v1 xs1) (hi2 : IntsAre v2 xs2) (hdd : d = decide (xs1 = xs2))
    (hQ : ∀ h' tk', (∀ b o, s.heap.get? b = some o → h'.get? b = some o) → Q' (.ret (.bool true)) { s with heap := h', toks := tk' }) :
    wpAny (model PySem.Challenge.rw_rt0036_01.row.prog w) (Around.deeper { handled := none, depth := dp, frames := some [], guards := gd, units := un } (lawEnv L)) (execs (List.drop 18 lawBody) (lawEnv L)) Q'
      (fun e s' => wpAny (model PySem.Challenge.rw_rt0036_01.row.prog w) (Around.deeper { handled := none, depth := dp, frames := some [], guards := gd, units := un } (lawEnv L)) (leaving (lawEnv L) e) (fun _ s'' => R (.error e) s'') (fun e' s'' => R (.error e') s'') s') { s with heap := h, toks := tk } := by
  have hz : PySem.Challenge.rw_rt0036_01 = PySem.Challenge.rw_rt0036_01 := rfl
  revert hz X
  k_fill
  intro X _
  rw [law_cut18]
  generalize hb : lawAt 18 = b
  conv at hb => lhs; whnf
  subst hb
  generalize hb : lawScope = b
  conv at hb => lhs; whnf
  subst hb
  rw [over4 e1 e2 e3 e4] at F
  have B : Below { handled := none, depth := dp, frames := some [], guards := gd, units := un } s.heap [] s.heap := ⟨rfl, fun _ _ e => e, trivial⟩
  (try k_fold)
  k_steps
  refine wpAny_Try_except ?_
  k_steps
  refine Halt.go (refused_con (vs := [Value.ref q2, .ref q3]) (N _ mh).1 ⟨_, (N _ (mt mh)).1, rfl⟩ (dp + 1) (un + 3) gd [_] s.heap mean mg mb _ _ (pushX B F rfl rfl) X T (by omega) (by omega) fun e h' tk' T' H hff hup hnew => ?_)
  k_steps
  refine caught_next (X := "TypeError") (T' := "TypeError") B F N X T H hff hup (kts_none F.keep hnew) (by decide +kernel) (isSubtype_of_subB (by decide +kernel)) (isSubtype_of_subB (by decide +kernel)) (isSubtype_of_subB (by decide +kernel)) ?_
  intro h₀' h7 oe ve TT KT hoe hve F7 N7 B7 X7 T7 I7 J7 U7
  clear F N H hff hup hnew
  k_steps
  obtain ⟨nw, hnw⟩ : ∃ nw, nw = [(e, oe), (ri, PySem.W.listOf [Value.ref q1, .ref q2, .ref q3].toArray 0), (q1, PySem.W.listOf u1 k1), (q2, PySem.W.listOf u2 k2), (q3, PySem.W.listOf u3 k3), (c1, PySem.W.listOf v1.toArray m1), (c2, PySem.W.listOf v2.toArray m2)] := ⟨_, rfl⟩
  refine Halt.go (fallback_use (R := RIn nw) (zs := [xs1, xs2, xs1]) (vs := [Value.ref q2, .ref q3]) (rin_ok fun p hp => hideAll_get _ (N7 p (hnw ▸ hp)).1 fun q => (N7 p (hnw ▸ hp)).2.1 (List.mem_singleton.mp q)) (mt mh) ⟨_, (N7 _ (mt (mt mh))).1, rfl⟩
    (.cons ⟨q1, u1, k1, rfl, by rw [hnw]; exact mt (mt mh), hu1⟩ (.cons ⟨q2, u2, k2, rfl, by rw [hnw]; exact mt (mt (mt mh)), hu2⟩ (.cons ⟨q3, u3, k3, rfl, by rw [hnw]; exact mt (mt (mt (mt mh))), hu3⟩ .nil))) (by simp) ⟨rfl, fun _ _ e => e, trivial⟩ F7 N7 X7 T7 (.inr ⟨e, oe, ve, rfl, (N7 _ mh).1, hoe, hve⟩) rfl rfl (by omega) (by omega)
    fun c ws n h8 tk8 F N hrel => ?_)
  have keep : ∀ b o, s.heap.get? b = some o → h8.get? b = some o := fun b o q => F.keep _ _ (KT.other b o q (by simp))
  rw [kept_lists] at hrel
  clear F7 N7
  cases d
  · k_steps
    rw [if_neg (of_decide_eq_false hdd.symm)] at hrel
    (rename News _ _ _ _ => N₁; rename Fr _ _ _ _ => F₁)
    refine Halt.go (add_own (vs := [Value.ref c1]) (ws := [Value.ref c2]) F₁ N₁ (by walk_at "mem") (by walk_at "mem") (by simp) fun q9 h9 F N hr9 => ?_)
    have hn : ∀ p ∈ nw, h9.get? p.1 = some p.2 := fun p hp => (N p (by rw [hnw] at hp; exact mt (mt (mt (mt hp))))).1
    obtain ⟨as, ha⟩ := reads_rel hn hrel
    obtain ⟨bs, hb⟩ := reads_rel hn (zs := [xs1] ++ _) (ws := [Value.ref c1] ++ [Value.ref c2]) (.cons ⟨c1, _, m1, rfl, by rw [hnw]; exact mt (mt (mt (mt (mt mh)))), hi1⟩ (.cons ⟨c2, _, m2, rfl, by rw [hnw]; exact mt (mt (mt (mt (mt (mt mh))))), hi2⟩ .nil))
    refine eq_lists ⟨_, .list (N (c, PySem.W.listOf ws n) (by walk_at "mem")).1 rfl rfl ha⟩ ⟨_, .list (N _ mh).1 rfl rfl (by simpa using hb)⟩ (by show un + 3 + 64 < cLine; omega) ?_
    exact hQ _ _ fun b o q => F.keep _ _ (KT.other b o q (by simp))
  · k_steps
    rw [if_pos (of_decide_eq_true hdd.symm)] at hrel
    (rename News _ _ _ _ => N₁; rename Fr _ _ _ _ => F₁)
    refine Halt.go (add_own (vs := [Value.ref c1]) (ws := []) F₁ N₁ (by walk_at "mem") (by walk_at "mem") (by simp) fun q9 h9 F N hr9 => ?_)
    have hn : ∀ p ∈ nw, h9.get? p.1 = some p.2 := fun p hp => (N p (by rw [hnw] at hp; exact mt (mt (mt (mt hp))))).1
    obtain ⟨as, ha⟩ := reads_rel hn hrel
    obtain ⟨bs, hb⟩ := reads_rel hn (zs := [xs1] ++ _) (ws := [Value.ref c1] ++ []) (.cons ⟨c1, _, m1, rfl, by rw [hnw]; exact mt (mt (mt (mt (mt mh)))), hi1⟩ .nil)
    refine eq_lists ⟨_, .list (N (c, PySem.W.listOf ws n) (by walk_at "mem")).1 rfl rfl ha⟩ ⟨_, .list (N _ mh).1 rfl rfl (by simpa using hb)⟩ (by show un + 3 + 64 < cLine; omega) ?_
    exact hQ _ _ fun b o q => F.keep _ _ (KT.other b o q (by simp))
theorem rint_ok {h₀ : Heap} : EqOk h₀ RInt := by
  refine ⟨fun a b v ha hb => ?_, fun A s a b v x hu hk ha hb => ?_⟩
  · obtain ⟨t, rfl⟩ := ha
    obtain ⟨u, e⟩ := hb
    cases e; rfl
  · obtain ⟨t, rfl⟩ := ha
    obtain ⟨u, rfl⟩ := hb
    have := PySem.W.keq_flat (A := A) (s := s) (PyProof.V.Flat.int a t) (PyProof.V.Flat.int b u)
    have e : PyData.eqv (.int a) (.int b) = decide (a = b) := by
      simp [PyData.eqv]; rfl
    rw [e] at this
    exact this
theorem ConS.post {w : World} {f : Addr} {vs : List Value} {kw : List (Str × Value)} {n : Nat} {s : Shared} {P P' : Heap → Value → Prop} (C : ConS w f vs kw n s P) (h : ∀ h r, P h r → P' h r) : ConS w f vs kw n s P' :=
  fun dp un gd outer base mean mg mb Q E B XB TB hd hu hQ => C dp un gd outer base mean mg mb Q E B XB TB hd hu fun r h' tk' h₀' K hk hp => hQ r h' tk' h₀' K hk (h _ _ hp)
theorem ask_ints {w : World} {nw : List (Addr × Obj)} {a b : Addr} {vs us : List Value} {n m : Nat} {xs ys : List Int} {ans : Bool} (ha : (a, PySem.W.listOf vs.toArray n) ∈ nw) (hb : (b, PySem.W.listOf us.toArray m) ∈ nw) (hi : IntsAre vs xs) (hj : IntsAre us ys) (h1 : xs.length ≤ 200) (h2 : ys.length ≤ 200)
    (h : orderless xs ys = ans) : AskOk w nw a b ans := fun s hn =>
  (orderless_con rint_ok (hn _ ha) (Rel2.ofInts hi) (by rw [hi.length]; exact h1) (hn _ hb) (Rel2.ofInts hj) (by rw [hj.length]; exact h2)).post fun _ _ e => by rw [e, h]
theorem ask_lists {w : World} {nw : List (Addr × Obj)} {a b : Addr} {vs us : List Value} {n m : Nat} {xs ys : List (List Int)} {ans : Bool} (ha : (a, PySem.W.listOf vs.toArray n) ∈ nw) (hb : (b, PySem.W.listOf us.toArray m) ∈ nw) (hi : Rel2 (RIn nw) xs vs) (hj : Rel2 (RIn nw) ys us) (h1 : xs.length ≤ 200) (h2 : ys.length ≤ 200)
    (h : orderless xs ys = ans) : AskOk w nw a b ans := fun s hn =>
  (orderless_con (rin_ok hn) (hn _ ha) hi (by rw [hi.length]; exact h1) (hn _ hb) hj (by rw [hj.length]; exact h2)).post fun _ _ e => by rw [e, h]
theorem law_rest {w : World} {s : Shared} {mean : ExcName → Option Value} {mg mb : Str → Option Value} {dp un : Nat} {gd : Option (List Code)} {R : Result → Shared → Prop} {Q : Flow → Shared → Prop} {L : Addr} {h : Heap} {tk : Nat} {m₀ : Str → Option Value}
    {c1 c2 r0 r1 r2 : Addr} {v1 v2 w0 w1 w2 : List Value} {m1 m2 n0 n1 n2 : Nat} {xs1 xs2 : List Int} {s0 s1 s2 i a1 a2 : Nat} {b1 b2 : Int}
    (X : (K0 w.params).In s.heap) (T : Top V0 (looseW V0 [Str.ofString "b2a_base64", Str.ofString "b64encode", Str.ofString "_deduplicate"]) mean mg mb s.heap)
    (hd : dp + 30 < recursionLimit) (hu : un + 240 < cLine)
    (F : Fr s.heap L h m₀) (e1 : m₀ (Str.ofString "first") = some (.ref c1)) (e2 : m₀ (Str.ofString "other") = some (.ref c2)) (e3 : m₀ (Str.ofString "one") = some (.ref r0)) (e4 : m₀ (Str.ofString "two") = some (.ref r1)) (e5 : m₀ (Str.ofString "three") = some (.ref r2))
    (N : News s.heap L h [(c1, PySem.W.listOf v1.toArray m1), (c2, PySem.W.listOf v2.toArray m2), (r0, PySem.W.listOf w0.toArray n0), (r1, PySem.W.listOf w1.toArray n1), (r2, PySem.W.listOf w2.toArray n2)])
    (hi1 : IntsAre v1 xs1) (hi2 : IntsAre v2 xs2) (hr0 : IntsAre w0 (rowS xs1 s0)) (hr1 : IntsAre w1 (rowS xs1 s1)) (hr2 : IntsAre w2 (rowS xs2 s2)) (hl1 : xs1.length ≤ 25) (hl2 : xs2.length ≤ 25) (hp1 : xs1 ≠ [])
    (hch1 : chainOf b1 i = (xs1, a1)) (hch2 : chainOf b2 i = (xs2, a2))
    (hQ : ∀ h' tk', (∀ b o, s.heap.get? b = some o → h'.get? b = some o) → Q (.ret (.bool true)) { s with heap := h', toks := tk' }) :
    wpAny (model PySem.Challenge.rw_rt0036_01.row.prog w) (Around.deeper { handled := none, depth := dp, frames := some [], guards := gd, units := un } (lawEnv L)) (execs (List.drop 10 lawBody) (lawEnv L)) Q
      (fun e s' => wpAny (model PySem.Challenge.rw_rt0036_01.row.prog w) (Around.deeper { handled := none, depth := dp, frames := some [], guards := gd, units := un } (lawEnv L)) (leaving (lawEnv L) e) (fun _ s'' => R (.error e) s'') (fun e' s'' => R (.error e') s'') s') { s with heap := h, toks := tk } := by
  refine execs_cut 4 (fun s' => wpAny (model PySem.Challenge.rw_rt0036_01.row.prog w) (Around.deeper { handled := none, depth := dp, frames := some [], guards := gd, units := un } (lawEnv L)) (execs (List.drop 14 lawBody) (lawEnv L)) Q (fun e s' => wpAny (model PySem.Challenge.rw_rt0036_01.row.prog w) (Around.deeper { handled := none, depth := dp, frames := some [], guards := gd, units := un } (lawEnv L)) (leaving (lawEnv L) e) (fun _ s'' => R (.error e) s'') (fun e' s'' => R (.error e') s'') s') s') (fun Q₁ hI => law_two X T hd hu F e1 e2 e3 e4 e5 N hi1 hi2 hr0 hr1 hr2 hl1 hl2 (chain_rising hch1) (chain_rising hch2) hp1 fun h' tk' m' ri al ap q1 q2 q3 t1 t2 t3 t4 t5 t6 t7 z y p5 p6 p7 u1 u2 u3 k1 k2 k3 F e1 e2 e3 e4 e5 e6 e7 e8 e9 hu1 hu2 hu3 N => hI _ ?_) (fun s' h => by rw [List.drop_drop]; exact h)
  refine execs_cut 1 (fun s' => wpAny (model PySem.Challenge.rw_rt0036_01.row.prog w) (Around.deeper { handled := none, depth := dp, frames := some [], guards := gd, units := un } (lawEnv L)) (execs (List.drop 15 lawBody) (lawEnv L)) Q (fun e s' => wpAny (model PySem.Challenge.rw_rt0036_01.row.prog w) (Around.deeper { handled := none, depth := dp, frames := some [], guards := gd, units := un } (lawEnv L)) (leaving (lawEnv L) e) (fun _ s'' => R (.error e) s'') (fun e' s'' => R (.error e') s'') s') s') (fun Q₁ hI => law_three (ans := [true, true, true, decide (xs1 = xs2), decide (xs1 = xs2), decide (xs1 = xs2), decide (xs1 = xs2)]) X T hd hu F e8 e9 N rfl (fun i v hi hv => ?_) fun D h' tk' F N => hI _ ?_) (fun s' h => by rw [List.drop_drop]; exact h)
  · have h7 : i = 0 ∨ i = 1 ∨ i = 2 ∨ i = 3 ∨ i = 4 ∨ i = 5 ∨ i = 6 := by omega
    have hrev : IntsAre w0.reverse (rowS xs1 s0).reverse := IntsAre.reverse hr0
    rcases h7 with rfl | rfl | rfl | rfl | rfl | rfl | rfl
    · cases hv
      exact ⟨t1, r0, r1, true, rfl, mh, rfl, ask_ints (mt (mt (mt (mt (mt (mt (mt (mt (mt (mt (mt (mt (mt (mt (mt (mt (mt (mt (mh))))))))))))))))))) (mt (mt (mt (mt (mt (mt (mt (mt (mt (mt (mt (mt (mt (mt (mt (mt (mt (mt (mt (mh)))))))))))))))))))) hr0 hr1 (by rw [rowS_len]; omega) (by rw [rowS_len]; omega) ask1⟩
    · cases hv
      exact ⟨t2, r1, z, true, rfl, mt (mh), rfl, ask_ints (mt (mt (mt (mt (mt (mt (mt (mt (mt (mt (mt (mt (mt (mt (mt (mt (mt (mt (mt (mh)))))))))))))))))))) (mt (mt (mt (mt (mt (mt (mt (mh)))))))) hr1 (hrev.append hrev) (by rw [rowS_len]; omega) (by simp [rowS_len]; omega) ask2⟩
    · cases hv
      exact ⟨t3, ri, y, true, rfl, mt (mt (mh)), rfl, ask_lists (mt (mt (mt (mt (mt (mt (mt (mt (mt (mt (mt (mt (mh))))))))))))) (mt (mt (mt (mt (mt (mt (mt (mt (mh))))))))) (.cons ⟨q1, u1, k1, rfl, mt (mt (mt (mt (mt (mt (mt (mt (mt (mt (mt (mt (mt (mh))))))))))))), hu1⟩ (.cons ⟨q2, u2, k2, rfl, mt (mt (mt (mt (mt (mt (mt (mt (mt (mt (mt (mt (mt (mt (mh)))))))))))))), hu2⟩ (.cons ⟨q3, u3, k3, rfl, mt (mt (mt (mt (mt (mt (mt (mt (mt (mt (mt (mt (mt (mt (mt (mh))))))))))))))), hu3⟩ .nil))) (.cons ⟨c2, _, m2, rfl, mt (mt (mt (mt (mt (mt (mt (mt (mt (mt (mt (mt (mt (mt (mt (mt (mt (mh))))))))))))))))), hi2⟩ (.cons ⟨c1, _, m1, rfl, mt (mt (mt (mt (mt (mt (mt (mt (mt (mt (mt (mt (mt (mt (mt (mt (mh)))))))))))))))), hi1⟩ .nil)) (by simp) (by simp) ask3⟩
    · cases hv
      exact ⟨t4, r0, r2, decide (xs1 = xs2), rfl, mt (mt (mt (mh))), rfl, ask_ints (mt (mt (mt (mt (mt (mt (mt (mt (mt (mt (mt (mt (mt (mt (mt (mt (mt (mt (mh))))))))))))))))))) (mt (mt (mt (mt (mt (mt (mt (mt (mt (mt (mt (mt (mt (mt (mt (mt (mt (mt (mt (mt (mh))))))))))))))))))))) hr0 hr2 (by rw [rowS_len]; omega) (by rw [rowS_len]; omega) (ask4 hch1 hch2)⟩
    · cases hv
      exact ⟨t5, p5, r1, decide (xs1 = xs2), rfl, mt (mt (mt (mt (mh)))), rfl, ask_ints (mt (mt (mt (mt (mt (mt (mt (mt (mt (mh)))))))))) (mt (mt (mt (mt (mt (mt (mt (mt (mt (mt (mt (mt (mt (mt (mt (mt (mt (mt (mt (mh)))))))))))))))))))) (hr0.append hr2) hr1 (by simp [rowS_len]; omega) (by rw [rowS_len]; omega) (ask5 hch1 hch2)⟩
    · cases hv
      exact ⟨t6, r1, p6, decide (xs1 = xs2), rfl, mt (mt (mt (mt (mt (mh))))), rfl, ask_ints (mt (mt (mt (mt (mt (mt (mt (mt (mt (mt (mt (mt (mt (mt (mt (mt (mt (mt (mt (mh)))))))))))))))))))) (mt (mt (mt (mt (mt (mt (mt (mt (mt (mt (mh))))))))))) hr1 (hr2.append hr0) (by rw [rowS_len]; omega) (by simp [rowS_len]; omega) (ask6 hch1 hch2)⟩
    · cases hv
      exact ⟨t7, p7, ri, decide (xs1 = xs2), rfl, mt (mt (mt (mt (mt (mt (mh)))))), rfl, ask_lists (mt (mt (mt (mt (mt (mt (mt (mt (mt (mt (mt (mh)))))))))))) (mt (mt (mt (mt (mt (mt (mt (mt (mt (mt (mt (mt (mh))))))))))))) (.cons ⟨c1, _, m1, rfl, mt (mt (mt (mt (mt (mt (mt (mt (mt (mt (mt (mt (mt (mt (mt (mt (mh)))))))))))))))), hi1⟩ .nil) (.cons ⟨q1, u1, k1, rfl, mt (mt (mt (mt (mt (mt (mt (mt (mt (mt (mt (mt (mt (mh))))))))))))), hu1⟩ (.cons ⟨q2, u2, k2, rfl, mt (mt (mt (mt (mt (mt (mt (mt (mt (mt (mt (mt (mt (mt (mh)))))))))))))), hu2⟩ (.cons ⟨q3, u3, k3, rfl, mt (mt (mt (mt (mt (mt (mt (mt (mt (mt (mt (mt (mt (mt (mt (mh))))))))))))))), hu3⟩ .nil))) (by simp) (by simp) ask7⟩
  refine execs_cut 1 (fun s' => wpAny (model PySem.Challenge.rw_rt0036_01.row.prog w) (Around.deeper { handled := none, depth := dp, frames := some [], guards := gd, units := un } (lawEnv L)) (execs (List.drop 16 lawBody) (lawEnv L)) Q (fun e s' => wpAny (model PySem.Challenge.rw_rt0036_01.row.prog w) (Around.deeper { handled := none, depth := dp, frames := some [], guards := gd, units := un } (lawEnv L)) (leaving (lawEnv L) e) (fun _ s'' => R (.error e) s'') (fun e' s'' => R (.error e') s'') s') s') (fun Q₁ hI => law_four (d := decide (xs1 = xs2)) X T hd hu F rfl e6 N fun h' tk' F N => hI _ ?_) (fun s' h => by rw [List.drop_drop]; exact h)
  have N := nk N (mt (mt (mt (mt (mt (mt (mt (mt (mt (mt (mt (mt (mt (mt (mt (mt (mt (mt (mh))))))))))))))))))) (nk N (mt (mt (mt (mt (mt (mt (mt (mt (mt (mt (mt (mt (mt (mt (mt (mt (mt (mt (mt (mh)))))))))))))))))))) (nk N (mt (mt (mt (mt (mt (mt (mt (mt (mt (mt (mt (mt (mt (mt (mt (mt (mt (mt (mt (mt (mh))))))))))))))))))))) (nk N (mt (mt (mt (mt (mt (mt (mt (mt (mt (mt (mt (mt (mh))))))))))))) (nk N (mt (mt (mt (mt (mt (mt (mt (mt (mt (mt (mt (mt (mt (mh)))))))))))))) (nk N (mt (mt (mt (mt (mt (mt (mt (mt (mt (mt (mt (mt (mt (mt (mh))))))))))))))) (nk N (mt (mt (mt (mt (mt (mt (mt (mt (mt (mt (mt (mt (mt (mt (mt (mh)))))))))))))))) (nk N (mt (mt (mt (mt (mt (mt (mt (mt (mt (mt (mt (mt (mt (mt (mt (mt (mh))))))))))))))))) (nk N (mt (mt (mt (mt (mt (mt (mt (mt (mt (mt (mt (mt (mt (mt (mt (mt (mt (mh)))))))))))))))))) News.nil))))))))
  refine execs_cut 2 (fun s' => wpAny (model PySem.Challenge.rw_rt0036_01.row.prog w) (Around.deeper { handled := none, depth := dp, frames := some [], guards := gd, units := un } (lawEnv L)) (execs (List.drop 18 lawBody) (lawEnv L)) Q (fun e s' => wpAny (model PySem.Challenge.rw_rt0036_01.row.prog w) (Around.deeper { handled := none, depth := dp, frames := some [], guards := gd, units := un } (lawEnv L)) (leaving (lawEnv L) e) (fun _ s'' => R (.error e) s'') (fun e' s'' => R (.error e') s'') s') s') (fun Q₁ hI => law_five (d := decide (xs1 = xs2)) X T hd hu F e3 e4 e5 e6 N hr0 hr1 hr2 (by rw [rowS_len]; exact hl1) (by rw [rowS_len]; exact hl1) (by rw [rowS_len]; exact hl2) ?_ fun h' tk' m' F g1 g2 g3 g4 N => hI _ ?_) (fun s' h => by rw [List.drop_drop]; exact h)
  · rw [kept_rows hch1 hch2]
    by_cases h : xs1 = xs2 <;> simp [h]
  · exact law_six X T hd hu F (g4.trans e7) (g1.trans e1) (g2.trans e2) (g3.trans e6) N hu1 hu2 hu3 hi1 hi2 rfl hQ
theorem SpotsOk.mono {ds : Array Value} {nw nw' : List (Addr × Obj)} {num : Nat → Int} {row : Nat → List Int} {size : Nat} (H : SpotsOk ds nw num row size) (k : ∀ p ∈ nw, p ∈ nw') : SpotsOk ds nw' num row size := fun i v hi hv => by
  obtain ⟨d, c, a, u, cs, n, xs, e, hmd, hmc, r⟩ := H i v hi hv
  exact ⟨d, c, a, u, cs, n, xs, e, k _ hmd, k _ hmc, r⟩
theorem ToldIn.mono {y : Int} {octets : Nat} {q : Addr} {nw nw' : List (Addr × Obj)} (H : ToldIn y octets q nw) (k : ∀ p ∈ nw, p ∈ nw') : ToldIn y octets q nw' := by
  obtain ⟨a, b, c, h⟩ := H
  exact ⟨a, b, c, k _ h⟩
def pick {α : Type} (a b c : α) (j : Nat) : α := match j with | 0 => a | 1 => b | _ => c
theorem spots_ok {d1 d2 d3 c1 c2 : Addr} {v1 v2 : Array Value} {m1 m2 : Nat} {xs1 xs2 : List Int} {at1 atm at2 size : Nat} {b1 b2 : Int} {u1 ua u2 : Tok} {nw : List (Addr × Obj)}
    (k1 : (d1, tup2 (.ref c1) (.int (at1 : Int) u1)) ∈ nw) (k2 : (d2, tup2 (.ref c1) (.int (atm : Int) ua)) ∈ nw) (k3 : (d3, tup2 (.ref c2) (.int (at2 : Int) u2)) ∈ nw) (k4 : (c1, PySem.W.listOf v1 m1) ∈ nw) (k5 : (c2, PySem.W.listOf v2 m2) ∈ nw)
    (hi1 : IntsAre v1.toList xs1) (hi2 : IntsAre v2.toList xs2) (hl1 : xs1.length ≤ 25) (hl2 : xs2.length ≤ 25) (ha1 : at1 < xs1.length) (ham : atm < xs1.length) (ha2 : at2 < xs2.length)
    (hb1 : ∀ x ∈ xs1, 0 ≤ x ∧ x < 2 ^ size) (hb2 : ∀ x ∈ xs2, 0 ≤ x ∧ x < 2 ^ size) (hch1 : chainOf b1 size = (xs1, at1)) (hch2 : chainOf b2 size = (xs2, at2)) :
    SpotsOk #[.ref d1, .ref d2, .ref d3] nw (pick (xs1.getD at1 0) (xs1.getD atm 0) (xs2.getD at2 0)) (pick (rowS xs1 at1) (rowS xs1 atm) (rowS xs2 at2)) size := by
  have get : ∀ {xs : List Int} {a : Nat}, a < xs.length → xs[a]? = some (xs.getD a 0) ∧ xs.getD a 0 ∈ xs := fun {xs a} h => by
    have e := List.getElem?_eq_getElem h
    rw [List.getD_eq_getElem?_getD, e]
    exact ⟨rfl, List.getElem_mem _⟩
  intro i v hi hv
  have h3 : i = 0 ∨ i = 1 ∨ i = 2 := by omega
  rcases h3 with rfl | rfl | rfl
  · cases hv
    exact ⟨d1, c1, at1, u1, v1, m1, xs1, rfl, k1, k4, hi1, ha1, hl1, (get ha1).1, hb1 _ (get ha1).2, hb1, ⟨b1, at1, hch1⟩, rfl⟩
  · cases hv
    exact ⟨d2, c1, atm, ua, v1, m1, xs1, rfl, k2, k4, hi1, ham, hl1, (get ham).1, hb1 _ (get ham).2, hb1, ⟨b1, at1, hch1⟩, rfl⟩
  · cases hv
    exact ⟨d3, c2, at2, u2, v2, m2, xs2, rfl, k3, k5, hi2, ha2, hl2, (get ha2).1, hb2 _ (get ha2).2, hb2, ⟨b2, at2, hch2⟩, rfl⟩
theorem law_mid {w : World} {s : Shared} {mean : ExcName → Option Value} {mg mb : Str → Option Value} {dp un : Nat} {gd : Option (List Code)} {R : Result → Shared → Prop} {Q : Flow → Shared → Prop} {L : Addr} {h : Heap} {tk : Nat} {m₀ : Str → Option Value}
    {c1 c2 lsp d1 d2 d3 : Addr} {v1 v2 : Array Value} {m1 m2 : Nat} {xs1 xs2 : List Int} {at1 atm at2 size octets : Nat} {b1 b2 : Int} {u1 ua u2 zt ot : Tok} {oz oc : Obj}
    (X : (K0 w.params).In s.heap) (T : Top V0 (looseW V0 [Str.ofString "b2a_base64", Str.ofString "b64encode", Str.ofString "_deduplicate"]) mean mg mb s.heap)
    (hd : dp + 30 < recursionLimit) (hu : un + 240 < cLine)
    (F : Fr s.heap L h m₀) (e1 : m₀ (Str.ofString "spots") = some (.ref lsp)) (e2 : m₀ (Str.ofString "first") = some (.ref c1)) (e3 : m₀ (Str.ofString "other") = some (.ref c2))
    (N : News s.heap L h [(L + 1 + 1, oz), (L + 1, oc), (lsp, PySem.W.listOf #[.ref d1, .ref d2, .ref d3] 0), (c1, PySem.W.listOf v1 m1), (c2, PySem.W.listOf v2 m2), (d1, tup2 (.ref c1) (.int (at1 : Int) u1)), (d2, tup2 (.ref c1) (.int (atm : Int) ua)), (d3, tup2 (.ref c2) (.int (at2 : Int) u2))])
    (dsz : oz.data = Data.cell (some (.int (size : Int) zt))) (doc : oc.data = Data.cell (some (.int (octets : Int) ot))) (ho1 : 1 ≤ octets) (ho3 : octets ≤ 3) (hs8 : size = 8 * octets)
    (hi1 : IntsAre v1.toList xs1) (hi2 : IntsAre v2.toList xs2) (hl1 : xs1.length ≤ 25) (hl2 : xs2.length ≤ 25) (ha1 : at1 < xs1.length) (ham : atm < xs1.length) (ha2 : at2 < xs2.length)
    (hb1 : ∀ x ∈ xs1, 0 ≤ x ∧ x < 2 ^ size) (hb2 : ∀ x ∈ xs2, 0 ≤ x ∧ x < 2 ^ size) (hch1 : chainOf b1 size = (xs1, at1)) (hch2 : chainOf b2 size = (xs2, at2))
    (hQ : ∀ h' tk', (∀ b o, s.heap.get? b = some o → h'.get? b = some o) → Q (.ret (.bool true)) { s with heap := h', toks := tk' }) :
    wpAny (model PySem.Challenge.rw_rt0036_01.row.prog w) (Around.deeper { handled := none, depth := dp, frames := some [], guards := gd, units := un } (lawEnv L)) (execs (List.drop 7 lawBody) (lawEnv L)) Q
      (fun e s' => wpAny (model PySem.Challenge.rw_rt0036_01.row.prog w) (Around.deeper { handled := none, depth := dp, frames := some [], guards := gd, units := un } (lawEnv L)) (leaving (lawEnv L) e) (fun _ s'' => R (.error e) s'') (fun e' s'' => R (.error e') s'') s') { s with heap := h, toks := tk } := by
  have hsp := spots_ok (nw := [(c1, PySem.W.listOf v1 m1), (c2, PySem.W.listOf v2 m2), (d1, tup2 (.ref c1) (.int (at1 : Int) u1)), (d2, tup2 (.ref c1) (.int (atm : Int) ua)), (d3, tup2 (.ref c2) (.int (at2 : Int) u2))]) (mt (mt mh)) (mt (mt (mt mh))) (mt (mt (mt (mt mh)))) mh (mt mh) hi1 hi2 hl1 hl2 ha1 ham ha2 hb1 hb2 hch1 hch2
  have hnb : ∀ j, j < 3 → 0 ≤ pick (xs1.getD at1 0) (xs1.getD atm 0) (xs2.getD at2 0) j ∧ pick (xs1.getD at1 0) (xs1.getD atm 0) (xs2.getD at2 0) j < 2 ^ (8 * octets) := fun j hj => by
    obtain ⟨v, hv⟩ : ∃ v, (#[Value.ref d1, Value.ref d2, Value.ref d3] : Array Value)[j]? = some v := ⟨_, Array.getElem?_eq_getElem hj⟩
    obtain ⟨_, _, _, _, _, _, _, _, _, _, _, _, _, _, hb, _⟩ := hsp j v hj hv
    rw [← hs8]; exact hb
  have hp1 : xs1 ≠ [] := fun hx => by rw [hx] at ha1; exact absurd ha1 (Nat.not_lt_zero _)
  refine execs_cut 1 (fun s' => wpAny (model PySem.Challenge.rw_rt0036_01.row.prog w) (Around.deeper { handled := none, depth := dp, frames := some [], guards := gd, units := un } (lawEnv L)) (execs (List.drop 8 lawBody) (lawEnv L)) Q (fun e s' => wpAny (model PySem.Challenge.rw_rt0036_01.row.prog w) (Around.deeper { handled := none, depth := dp, frames := some [], guards := gd, units := un } (lawEnv L)) (leaving (lawEnv L) e) (fun _ s'' => R (.error e) s'') (fun e' s'' => R (.error e') s'') s') s') (fun Q₁ hI => law_told X T hd hu F e1 N dsz doc ho1 ho3 hs8 hsp fun h' tk' D' q0 q1 q2 tls F N h0 h1 h2 => hI _ ?_) (fun s' h => by rw [List.drop_drop]; exact h)
  refine execs_cut 1 (fun s' => wpAny (model PySem.Challenge.rw_rt0036_01.row.prog w) (Around.deeper { handled := none, depth := dp, frames := some [], guards := gd, units := un } (lawEnv L)) (execs (List.drop 9 lawBody) (lawEnv L)) Q (fun e s' => wpAny (model PySem.Challenge.rw_rt0036_01.row.prog w) (Around.deeper { handled := none, depth := dp, frames := some [], guards := gd, units := un } (lawEnv L)) (leaving (lawEnv L) e) (fun _ s'' => R (.error e) s'') (fun e' s'' => R (.error e') s'') s') s') (fun Q₁ hI => law_same X T hd hu F e1 rfl N dsz doc ho1 ho3 hs8 (hsp.mono fun p hp => List.mem_append_right _ hp) (h0.mono fun p hp => List.mem_append_left _ hp) (h1.mono fun p hp => List.mem_append_left _ hp) (h2.mono fun p hp => List.mem_append_left _ hp) hnb fun h' tk' F N => hI _ ?_) (fun s' h => by rw [List.drop_drop]; exact h)
  refine execs_cut 1 (fun s' => wpAny (model PySem.Challenge.rw_rt0036_01.row.prog w) (Around.deeper { handled := none, depth := dp, frames := some [], guards := gd, units := un } (lawEnv L)) (execs (List.drop 10 lawBody) (lawEnv L)) Q (fun e s' => wpAny (model PySem.Challenge.rw_rt0036_01.row.prog w) (Around.deeper { handled := none, depth := dp, frames := some [], guards := gd, units := un } (lawEnv L)) (leaving (lawEnv L) e) (fun _ s'' => R (.error e) s'') (fun e' s'' => R (.error e') s'') s') s') (fun Q₁ hI => law_rows X T hd hu F e1 rfl N dsz doc ho1 ho3 hs8 (hsp.mono fun p hp => List.mem_append_right _ hp) (h0.mono fun p hp => List.mem_append_left _ hp) (h1.mono fun p hp => List.mem_append_left _ hp) (h2.mono fun p hp => List.mem_append_left _ hp) fun h' tk' r0 r1 r2 w0 w1 w2 n0 n1 n2 F N hr0 hr1 hr2 => hI _ ?_) (fun s' h => by rw [List.drop_drop]; exact h)
  have N := nk N (mt (mt (mt (List.mem_append_right _ mh)))) (nk N (mt (mt (mt (List.mem_append_right _ (mt mh))))) (nk N mh (nk N (mt mh) (nk N (mt (mt mh)) News.nil))))
  exact law_rest (v1 := v1.toList) (v2 := v2.toList) (w0 := w0.toList) (w1 := w1.toList) (w2 := w2.toList) X T hd hu F e2 e3 rfl rfl rfl (by simpa only [Array.toArray_toList] using N) hi1 hi2 hr0 hr1 hr2 hl1 hl2 hp1 hch1 hch2 hQ
theorem law_call {w : World} {s : Shared} {mean : ExcName → Option Value} {mg mb : Str → Option Value} {l : Addr} {vs : List Value} {ns : List Int} {dp un : Nat} {gd : Option (List Code)} {Q E : Value → Shared → Prop}
    (X : (K0 w.params).In s.heap) (T : Top V0 (looseW V0 [Str.ofString "b2a_base64", Str.ofString "b64encode", Str.ofString "_deduplicate"]) mean mg mb s.heap) (hl : s.heap.IsList l vs.toArray) (hi : IntsAre vs ns) (hn : ns.length ≤ 63)
    (hd : dp + 30 < recursionLimit) (hu : un + 240 < cLine)
    (hQ : ∀ h' tk', (∀ b o, s.heap.get? b = some o → h'.get? b = some o) → Q (.bool true) { s with heap := h', toks := tk' }) :
    wpAny (model PySem.Challenge.rw_rt0036_01.row.prog w) { handled := none, depth := dp, frames := some [], guards := gd, units := un } (call (.ref 213) [.ref l]) Q E s := by
  have hz : PySem.Challenge.rw_rt0036_01 = PySem.Challenge.rw_rt0036_01 := rfl
  have X₀ := X
  revert hz X
  k_fill
  intro X _
  have B : Below { handled := none, depth := dp, frames := some [], guards := gd, units := un } s.heap [] s.heap := ⟨rfl, fun _ _ e => e, trivial⟩
  refine wpAny_call ?_
  refine enter_cells (binds := [(Str.ofString "script", .ref l)]) B X T (by k_is) (by k_is) (rm0 hd) (BindsTo.of_eq rfl) ?_ ?_ (fun L h₁ tk cells hL F N hcc => ?_) rfl rfl rfl
  · intro n x hx
    rw [List.mem_singleton.mp hx]; exact .inl rfl
  · decide
  refine execs_cut (b := lawBody) 7 (fun s' => wpAny (model PySem.Challenge.rw_rt0036_01.row.prog w) (Around.deeper { handled := none, depth := dp, frames := some [], guards := gd, units := un } (lawEnv L)) (execs (List.drop 7 lawBody) (lawEnv L)) _ _ s') (fun Q₁ hI => law_chains (R := fun r s' => match r with | .ok (.ret v) => Q v s' | .ok _ => False | .error e => E e s') X₀ T hl hi hn hd hu F N hcc fun h' tk' m' c1 c2 lsp d1 d2 d3 v1 v2 m1 m2 xs1 xs2 at1 atm at2 size octets b1 b2 u1 ua u2 zt ot oz oc F e1 e2 e3 N dsz doc ho1 ho3 hs8 hi1 hi2 hl1 hl2 ha1 ham ha2 hb1a hb2a hch1 hch2 => hI _ ?_) (fun s' h => h)
  exact law_mid (R := fun r s' => match r with | .ok (.ret v) => Q v s' | .ok _ => False | .error e => E e s') X₀ T hd hu F e1 e2 e3 N dsz doc ho1 ho3 hs8 hi1 hi2 hl1 hl2 ha1 ham ha2 hb1a hb2a hch1 hch2 hQ
set_option pp.deepTerms false
theorem law_addr {P : Params} {h : Heap} {mg : Str → Option Value} (KX : (K0 P).In h) (G : h.Ns mainGlobals mg) : mg (Str.ofString "law") = some (.ref 213) := by
  have hz : PySem.Challenge.rw_rt0036_01 = PySem.Challenge.rw_rt0036_01 := rfl
  revert hz KX
  k_fill
  intro KX _
  exact mg_of KX G (by k_is)
theorem law_holds : PySem.Challenge.rw_rt0036_01.Holds := by
  w_on
  refine holds_law said0 fun said => ?_
  refine holds_open (r := PySem.Challenge.rw_rt0036_01.row) (q := V0) (loose := lo) (Xt := xt0) (XP := XL V0 []) (Yf := HK.obs) (Ya := HK.val) (YP := HK.says) (N := 2708) left0 HK.of HK.keeps (fun s e => xl_of s (Bool.and_eq_true_iff.mp e).1) XL.keeps (by rfl) (by rfl) (by rfl) (fun s e => recFacts_of (Bool.and_eq_true_iff.mp e).2) (by rfl) said okay0 ⟨rfl, rfl, rfl, rfl, rfl, by decide +kernel⟩ ?hw ?hc
  case hw => w_witness2
  intro w s₀ s₁ mg mb G Y fa o pm cd doc dV kV ho hd hcd hD hmg hg args vals as hpre hlay hrd hwl hlo
  have KX := kIn_of Y
  refine Ground.open G ?_
  intro T B D TE TW
  clear D TE TW
  wrow_args hpre hlay hrd hwl hlo
  (rename Heap.IsList _ _ _ => hl)
  (rename IntsAre _ _ => hI')
  have hfa : fa = 213 := by
    have e := law_addr KX T.g
    have e' : mg (Str.ofString "law") = some (.ref fa) := hmg
    rw [e] at e'
    cases e'
    rfl
  subst hfa
  clear ho hcd hD hmg
  refine law_call (dp := 1 + claimMargin) (un := 4) (gd := some []) KX T hl hI' (by omega) (by decide) (by decide) fun h' tk' hk => ?_
  exact GoodW.toG ⟨.inl ⟨.bool true, .bool true, [], rfl, fun _ => rfl, .bool true, (by first | with_unfolding_all rfl | kernel_rfl), fun _ => ⟨List.nodup_nil, fun a ha => by cases ha⟩⟩, hk, rfl, hg⟩
end Mine
theorem PySem.Challenge.cw_rt0036_01_holds : PySem.Challenge.rw_rt0036_01.Holds :=
  Mine.law_holds
