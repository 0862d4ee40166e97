import PyProof.Rows.All
import Wide.All
import OpenK.AllK
import Wide.FinOn
import PySem.Challenge.RW_jb0014_01
open PySem PySem.W PySem.Spec PySem.Calls PyProof.Rows
set_option Elab.async false
set_option maxRecDepth 100000
set_option maxHeartbeats 4000000
set_option rowWalk.seconds 0
namespace JB
def vw : Program := view PySem.Challenge.pw_jb0014_01 [1, 2, 4, 5, 6, 7, 8, 9, 10, 11, 12, 14, 15, 17, 19, 22, 24, 26, 28, 30, 31, 32, 34, 36, 38, 40, 43, 45, 46, 47, 49, 50, 51, 52, 53, 54, 55, 56, 57, 58, 59, 60, 62, 63, 64, 65, 66, 67]
abbrev loose : List Str := [Str.ofString "legal_date_gregorian", Str.ofString "to_jd_gregorian", Str.ofString "from_jd_gregorian", Str.ofString "to_jd_ordinal", Str.ofString "from_jd_ordinal", Str.ofString "from_gregorian_ordinal", Str.ofString "to_gregorian_ordinal", Str.ofString "legal_date_julian", Str.ofString "from_jd_julian", Str.ofString "to_jd_julian", Str.ofString "to_gregorian_julianday", Str.ofString "from_gregorian_julianday", Str.ofString "legal_date_positivist", Str.ofString "to_jd_positivist", Str.ofString "from_jd_positivist", Str.ofString "from_gregorian_positivist", Str.ofString "to_gregorian_positivist"]
section
variable {p q : Program} {loose : List Str} {Xt : Shared → Bool} {α : Type} {Yf : Shared → α} {Ya : World → α} {N : Nat} {H₀ : Params → Heap} {gs₀ : Array GenState} {d₀ : Drawn} {k₀ m₀ : Nat} {ann : Option Value} {k1 k2 M K : Nat}
  {env : Env} {c : Code} {pos pos' pq : Pos} {b : List Stmt} {Sa : World → OsState → Shared} {St : World → OsState → SharedT}
/-- the head by one run over a tree: no state behind the boot is written out -/
theorem left_gen (open_ : ∀ w : World, (fencedOpening treeTable p w N).map (fun s => (s.heap, s.gens, s.drawn, s.toks)) = some (H₀ w.params, gs₀, d₀, k₀))
    (size : ∀ w : World, ((H₀ w.params).isNs mainGlobals && gs₀.size == 0, (H₀ w.params).objs.size, (H₀ w.params).nsMap mainGlobals "__annotations__") = (true, m₀, ann))
    (pre : ∀ (w : World) (os : OsState), topGo treeTable p w m₀ ann k1 ⟨H₀ w.params, gs₀, d₀, k₀, os⟩ (topStub p) = some (Sa w os, ⟨denote treeTable (.body b env), c, pos, [topFrame pq]⟩))
    (block : ∀ (w : World) (os : OsState), segRun treeTable p w m₀ ann 1 k2 (Sa w os) (blockOf b env c pos [topFrame pq]) = some (.next, (St w os).abs, c, pos'))
    (main : ∀ (w : World) (os : OsState), (segRunT treeTable p w m₀ ann 1 M (St w os) (piecesOf b env c pos' [topFrame pq])).bind (fun r => match r.1 with
      | .next => (topRun treeTable p w m₀ ann K r.2.1.abs ⟨doneF .next, r.2.2.1, r.2.2.2, [topFrame pq]⟩).map (fun s => (r.2.2.1, (staticsOk (importedModules p.main.body) (H₀ w.params) s.heap && namesBound p s.heap && gensDone s && laidKept (H₀ w.params) s.heap), openSeen q loose (importedModules p.main.body) Xt true s, Yf s))
      | _ => none) = some (c, true, openGood q loose, Ya w))
    (le : Nat.ble (k1 + (k2 + (M + K))) N = true) : LeftO p q loose Xt Yf Ya N := fun w => by
  obtain ⟨⟨h, gs, d, k, os⟩, e, e'⟩ := Option.map_eq_some_iff.mp (open_ w)
  obtain ⟨rfl, rfl, rfl, rfl⟩ : h = H₀ w.params ∧ gs = gs₀ ∧ d = d₀ ∧ k = k₀ := by simpa using e'
  obtain ⟨z1, z2, z3⟩ : _ ∧ _ ∧ _ := by simpa only [Prod.mk.injEq] using size w
  obtain ⟨⟨f, s', c₁, pos₁⟩, hr, h⟩ := Option.bind_eq_some_iff.mp (main w os)
  cases f <;> first | (cases h; done) | skip
  obtain ⟨s₁, h1, h2⟩ := Option.map_eq_some_iff.mp h
  obtain ⟨rfl, l1, l2, l3⟩ : c₁ = c ∧ _ ∧ _ ∧ _ := by simpa only [Prod.mk.injEq] using h2
  have t2 := piece_app (rest := []) (segRun_of hr) (piece_nil h1)
  rw [List.append_nil] at t2
  have t4 := go_top (pre w os) (piece_block (block w os) t2)
  have r := topRun_mono (N - (k1 + (k2 + (M + K)))) _ _ _ _ t4
  rw [show k1 + (k2 + (M + K)) + (N - (k1 + (k2 + (M + K)))) = N by have := Nat.le_of_ble_eq_true le; omega] at r
  have t : topFrom treeTable p w N ⟨H₀ w.params, gs, d, k, os⟩ = some s₁ := by
    unfold topFrom
    dsimp only
    rw [z1, z2, z3, r]
    show (match staticsOk (importedModules p.main.body) (H₀ w.params) s₁.heap && namesBound p s₁.heap && gensDone s₁ && laidKept (H₀ w.params) s₁.heap with | true => _ | false => _) = _
    rw [l1]
  unfold openEnds
  rw [e]
  show Option.map _ (topFrom treeTable p w N ⟨H₀ w.params, gs, d, k, os⟩) = _
  rw [t]
  show some (openSeen q loose (importedModules p.main.body) Xt true s₁, Yf s₁) = _
  rw [l2, l3]
end
def env0 : Env := { scope := PySem.Challenge.pw_jb0014_01.main.scope, locals := mainNs, globals := mainNs, cells := [], code := .ref 13, frame := some 14 }
def o11 : Obj := { cls := .type "tuple", data := .seq #[] }
def o12 : Obj := { cls := .none, data := .fields #[] }
def o13 : Obj := { cls := .type "code", data := .fields #[.str (Str.ofString "<module>") 182, .str (Str.ofString "<module>") 183, .str (Str.ofString "/claim/cut.py") 184, .int 1 0, .int 0 0, .int 0 0, .int 0 0, .int 0 0, .ref 11, .bool false, .int 181 0, .ref 12, .none, .none, .none, .none, .int 185 0, .int 1 0, .str (Str.ofString "/claim/cut.py") 186] }
def o14 : Obj := { cls := .type "frame", slots := #[some (.ref 13), some (.ref 3), some (.ref 3), none, some (.str (Str.ofString "__main__") 164), none, some (.ref 0)] }
noncomputable def tr0 (P : Params) : BT :=
  .node (boot_o_0 P)
    (.node (boot_o_1 P) (.node (boot_o_3 P) (.node (boot_o_7 P) .nil .nil) (.node o11 .nil .nil)) (.node (boot_o_5 P) (.node (boot_o_9 P) .nil .nil) (.node o13 .nil .nil)))
    (.node (boot_o_2 P) (.node (boot_o_4 P) (.node (boot_o_8 P) .nil .nil) (.node o12 .nil .nil)) (.node (boot_o_6 P) (.node (boot_o_10 P) .nil .nil) (.node o14 .nil .nil)))
def pos0 : Pos := { line := 0, col := 0, endLine := 0, endCol := 0 }
def code0 : Code := .body (behindTheImports PySem.Challenge.pw_jb0014_01) env0
noncomputable def sT0 (w : World) (os : OsState) : SharedT := ⟨tr0 w.params, 15, {}, #[], {}, 187, os⟩
theorem h_open (w : World) : (fencedOpening treeTable PySem.Challenge.pw_jb0014_01 w 3638).map (fun s => (s.heap, s.gens, s.drawn, s.toks)) = some (boot_heap w.params, Array.mk [], boot_drawn, boot_toks) :=
  boot_open (by kernel_rfl) (by decide) (fun _ => by kernel_rfl) w
theorem h_size (w : World) : ((boot_heap w.params).isNs mainGlobals && (Array.mk [] : Array GenState).size == 0, (boot_heap w.params).objs.size, (boot_heap w.params).nsMap mainGlobals "__annotations__") = (true, 11, some (.ref 6)) := by kernel_rfl
theorem h_pre (w : World) (os : OsState) : topGo treeTable PySem.Challenge.pw_jb0014_01 w 11 (some (.ref 6)) 12 ⟨boot_heap w.params, Array.mk [], boot_drawn, boot_toks, os⟩ (topStub PySem.Challenge.pw_jb0014_01) =
    some ((sT0 w os).abs, ⟨denote treeTable (.body (behindTheImports PySem.Challenge.pw_jb0014_01) env0), code0, pos0, [topFrame pos0]⟩) := by
  rw [PySem.W.Fast.te15667345088766844465, PySem.W.Fast.te14364793385576792824, PySem.W.Fast.te11892475500146522536]
  kernel_rfl
theorem h_block (w : World) (os : OsState) : segRun treeTable PySem.Challenge.pw_jb0014_01 w 11 (some (.ref 6)) 1 1 (sT0 w os).abs (blockOf (behindTheImports PySem.Challenge.pw_jb0014_01) env0 code0 pos0 [topFrame pos0]) =
    some (.next, (sT0 w os).abs, code0, pos0) := by
  rw [PySem.W.Fast.te14374325043358763698, PySem.W.Fast.te14364793385576792824]
  kernel_rfl
open Lean in
local macro_rules | `(tactic| o_head $H) => do
  let hw := mkIdent `hw
  let hc := mkIdent `hc
  `(tactic| (refine holds_open (r := PySem.Challenge.rw_jb0014_01.row) (q := vw) (loose := loose) (Xt := fun s => xlAt vw [] s && recOk (RowW.records (OpenRow.toRowW PySem.Challenge.rw_jb0014_01.row)) s) (XP := XL vw []) (Yf := Hook.obs $H) (Ya := Hook.val $H) (YP := Hook.says $H) (N := 3638) (left_gen (M := 1771) (K := 20) h_open h_size h_pre h_block (by intro w os; rw [PySem.W.Fast.te10110043849684766642, PySem.W.Fast.te14082659384304107361, PySem.W.Fast.te14364793385576792824, PySem.W.Fast.te4187177175401517315]; kernel_rfl) (by decide +kernel)) (Hook.of $H) (Hook.keeps $H) (fun s e => xl_of s (Bool.and_eq_true_iff.mp e).1) XL.keeps (by rfl) (by rfl) (by rfl) (fun s e => recFacts_of (Bool.and_eq_true_iff.mp e).2) (by rfl) (by first | assumption | decide +kernel) (by decide +kernel) ⟨rfl, rfl, rfl, rfl, rfl, by decide +kernel⟩ ?$hw ?$hc))
local macro_rules | `(tactic| o_law) => `(tactic| refine holds_law (by rw [PySem.W.Fast.te9446332074065402090]; decide +kernel) fun said => ?_)
open_top hd for PySem.Challenge.rw_jb0014_01
local macro_rules | `(tactic| walk_at "JG") => `(tactic| with_reducible assumption)
local macro_rules | `(tactic| walk_at "JJ") => `(tactic| with_reducible assumption)
local macro_rules | `(tactic| walk_at "JM") => `(tactic| (repeat (first | with_reducible exact List.mem_cons_self | with_reducible refine List.mem_cons_of_mem _ ?_)))
local macro_rules | `(tactic| walk_at "JIB") => `(tactic| (intro h9 tk9 F9 N9; (try dsimp only); (try k_fold)))
local macro_rules | `(tactic| walk_at "JII") => `(tactic| (intro t9 h9 tk9 F9 N9; (try dsimp only); (try k_fold)))
local macro_rules | `(tactic| walk_at "JIT3") => `(tactic| (intro D9 t9 u9 v9 c9 h9 tk9 F9 N9 l9; (try simp only [AllLt, and_true] at l9); (try dsimp only); (try k_fold)))
local macro_rules | `(tactic| walk_at "JIJ") => `(tactic| (intro y9 m9 d9 G9 D9 t9 u9 v9 c9 h9 tk9 F9 N9 l9; (try simp only [AllLt, and_true] at l9); (try dsimp only); (try k_fold)))
local macro_rules | `(tactic| walk_at "JIG") => `(tactic| (intro y9 m9 d9 G9 D9 t9 u9 v9 c9 h9 tk9 F9 N9 l9; (try simp only [AllLt, and_true] at l9); (try dsimp only); (try k_fold)))
local macro_rules | `(tactic| walk_at "JIT2") => `(tactic| (intro D9 t9 u9 c9 h9 tk9 F9 N9 l9; (try simp only [AllLt, and_true] at l9); (try dsimp only); (try k_fold)))
/-- what a call of the def at f gives back: from any frame, over any ledger -/
abbrev Clm (w : World) (loose : List Str) (mean : ExcName → Option Value) (mg mb : Str → Option Value) (k : Nat) (f : Addr) (vs : List Value)
    (Ret : Heap → Addr → (Str → Option Value) → List (Addr × Obj) → Shared → (Value → Shared → Prop) → Prop) : Prop :=
  ∀ (news : List (Addr × Obj)) (dp un : Nat) (gd : Option (List Code)) (cn : Str) (cs : Scope) (a : Addr) (ccd : Value) (cl : List (Str × Addr)) (outer : List Env) (A₀ : Around) (base h₀ : Heap) (L : Addr) (m : Str → Option Value) (s : Shared) (Q E : Value → Shared → Prop),
    Below A₀ base outer h₀ → Fr h₀ L s.heap m → (JB.hd.heap_1 w.params).In h₀ → News h₀ L s.heap news → Top JB.vw loose mean mg mb h₀ → cs.kind = .function →
    dp + k < recursionLimit → un + 8 * k < cLine → Ret h₀ L m news s Q →
      wpAny (model PySem.Challenge.rw_jb0014_01.row.prog w) (ktrTop dp un gd cn cs L a ccd cl outer) (call (.ref f) vs) Q E s

theorem Clm.go {w : World} {loose : List Str} {mean : ExcName → Option Value} {mg mb : Str → Option Value} {k : Nat} {f : Addr} {vs : List Value}
    {Ret : Heap → Addr → (Str → Option Value) → List (Addr × Obj) → Shared → (Value → Shared → Prop) → Prop}
    (C : Clm w loose mean mg mb k f vs Ret)
    {news : List (Addr × Obj)} {dp un : Nat} {gd : Option (List Code)} {cn : Str} {cs : Scope} {a : Addr} {ccd : Value} {cl : List (Str × Addr)} {outer : List Env} {A₀ : Around} {base h₀ : Heap} {L : Addr} {m : Str → Option Value} {s : Shared} {Q E : Value → Shared → Prop}
    (B : Below A₀ base outer h₀) (F : Fr h₀ L s.heap m) (X : (JB.hd.heap_1 w.params).In h₀) (N : News h₀ L s.heap news) (T : Top JB.vw loose mean mg mb h₀) (hk : cs.kind = .function)
    (hd : dp + k < recursionLimit) (hu : un + 8 * k < cLine) (ret : Ret h₀ L m news s Q) :
      wpAny (model PySem.Challenge.rw_jb0014_01.row.prog w) (ktrTop dp un gd cn cs L a ccd cl outer) (call (.ref f) vs) Q E s :=
  C news dp un gd cn cs a ccd cl outer A₀ base h₀ L m s Q E B F X N T hk hd hu ret

theorem Clm.go' {w : World} {loose : List Str} {mean : ExcName → Option Value} {mg mb : Str → Option Value} {k : Nat} {f : Addr} {vs : List Value}
    {Ret : Heap → Addr → (Str → Option Value) → List (Addr × Obj) → Shared → (Value → Shared → Prop) → Prop}
    (C : Clm w loose mean mg mb k f vs Ret)
    {news : List (Addr × Obj)} {dp un : Nat} {gd : Option (List Code)} {cn : Str} {cs : Scope} {a : Addr} {ccd : Value} {cl : List (Str × Addr)} {outer : List Env} {A₀ : Around} {base h₀ : Heap} {L : Addr} {m : Str → Option Value} {s : Shared} {Q E : Value → Shared → Prop}
    (ret : Ret h₀ L m news s Q) (B : Below A₀ base outer h₀ := by k_asm) (F : Fr h₀ L s.heap m := by k_asm) (X : (JB.hd.heap_1 w.params).In h₀ := by k_asm) (N : News h₀ L s.heap news := by k_asm) (T : Top JB.vw loose mean mg mb h₀ := by k_asm)
    (hk : cs.kind = .function := by first | exact rfl | assumption) (hd : dp + k < recursionLimit := by ktr_room) (hu : un + 8 * k < cLine := by ktr_units) :
      wpAny (model PySem.Challenge.rw_jb0014_01.row.prog w) (ktrTop dp un gd cn cs L a ccd cl outer) (call (.ref f) vs) Q E s :=
  C news dp un gd cn cs a ccd cl outer A₀ base h₀ L m s Q E B F X N T hk hd hu ret

abbrev RI (x : Int) (h₀ : Heap) (L : Addr) (m : Str → Option Value) (news : List (Addr × Obj)) (s : Shared) (Q : Value → Shared → Prop) : Prop :=
  ∀ (t : Tok) (h' : Heap) (tk' : Nat), Fr h₀ L h' m → News h₀ L h' news → Q (.int x t) { s with heap := h', toks := tk' }
abbrev RB (x : Bool) (h₀ : Heap) (L : Addr) (m : Str → Option Value) (news : List (Addr × Obj)) (s : Shared) (Q : Value → Shared → Prop) : Prop :=
  ∀ (h' : Heap) (tk' : Nat), Fr h₀ L h' m → News h₀ L h' news → Q (.bool x) { s with heap := h', toks := tk' }
theorem ri_end {x y : Int} {h₀ h' : Heap} {L : Addr} {m : Str → Option Value} {news news' : List (Addr × Obj)} {s : Shared} {Q : Value → Shared → Prop} {t : Tok} {tk' : Nat}
    (hret : RI x h₀ L m news s Q) (F : Fr h₀ L h' m) (N : News h₀ L h' news') (hs : ∀ p ∈ news, p ∈ news') (e : y = x) : Q (.int y t) { s with heap := h', toks := tk' } := by
  subst e
  exact hret t h' tk' F fun p hp => N p (hs p hp)
theorem rb_end {x y : Bool} {h₀ h' : Heap} {L : Addr} {m : Str → Option Value} {news news' : List (Addr × Obj)} {s : Shared} {Q : Value → Shared → Prop} {tk' : Nat}
    (hret : RB x h₀ L m news s Q) (F : Fr h₀ L h' m) (N : News h₀ L h' news') (hs : ∀ p ∈ news, p ∈ news') (e : y = x) : Q (.bool y) { s with heap := h', toks := tk' } := by
  subst e
  exact hret h' tk' F fun p hp => N p (hs p hp)

abbrev tup3 (x y z : Int) (t1 t2 t3 : Tok) (c : Nat) : Obj := { cls := .type "tuple", data := .seq #[.int x t1, .int y t2, .int z t3] c }
abbrev tup2 (x y : Int) (t1 t2 : Tok) (c : Nat) : Obj := { cls := .type "tuple", data := .seq #[.int x t1, .int y t2] c }
abbrev RT3 (x y z : Int) (h₀ : Heap) (L : Addr) (m : Str → Option Value) (news : List (Addr × Obj)) (s : Shared) (Q : Value → Shared → Prop) : Prop :=
  ∀ (D : Addr) (t1 t2 t3 : Tok) (c : Nat) (h' : Heap) (tk' : Nat), Fr h₀ L h' m → News h₀ L h' ((D, tup3 x y z t1 t2 t3 c) :: news) → AllLt D news → Q (.ref D) { s with heap := h', toks := tk' }
abbrev RT2 (x y : Int) (h₀ : Heap) (L : Addr) (m : Str → Option Value) (news : List (Addr × Obj)) (s : Shared) (Q : Value → Shared → Prop) : Prop :=
  ∀ (D : Addr) (t1 t2 : Tok) (c : Nat) (h' : Heap) (tk' : Nat), Fr h₀ L h' m → News h₀ L h' ((D, tup2 x y t1 t2 c) :: news) → AllLt D news → Q (.ref D) { s with heap := h', toks := tk' }
theorem rt3_end {x y z x' y' z' : Int} {h₀ h' : Heap} {L D : Addr} {m : Str → Option Value} {news news' : List (Addr × Obj)} {s : Shared} {Q : Value → Shared → Prop} {t1 t2 t3 : Tok} {c tk' : Nat}
    (hret : RT3 x y z h₀ L m news s Q) (F : Fr h₀ L h' m) (N : News h₀ L h' news') (hm : (D, tup3 x' y' z' t1 t2 t3 c) ∈ news') (hs : ∀ p ∈ news, p ∈ news') (hl : AllLt D news) (e1 : x' = x) (e2 : y' = y) (e3 : z' = z) : Q (.ref D) { s with heap := h', toks := tk' } := by
  subst e1; subst e2; subst e3
  refine hret D t1 t2 t3 c h' tk' F (fun p hp => ?_) hl
  rcases List.mem_cons.mp hp with rfl | hp
  · exact N _ hm
  · exact N p (hs p hp)
theorem rt2_end {x y x' y' : Int} {h₀ h' : Heap} {L D : Addr} {m : Str → Option Value} {news news' : List (Addr × Obj)} {s : Shared} {Q : Value → Shared → Prop} {t1 t2 : Tok} {c tk' : Nat}
    (hret : RT2 x y h₀ L m news s Q) (F : Fr h₀ L h' m) (N : News h₀ L h' news') (hm : (D, tup2 x' y' t1 t2 c) ∈ news') (hs : ∀ p ∈ news, p ∈ news') (hl : AllLt D news) (e1 : x' = x) (e2 : y' = y) : Q (.ref D) { s with heap := h', toks := tk' } := by
  subst e1; subst e2
  refine hret D t1 t2 c h' tk' F (fun p hp => ?_) hl
  rcases List.mem_cons.mp hp with rfl | hp
  · exact N _ hm
  · exact N p (hs p hp)

-- the arithmetic's words
def leapB (y : Int) : Bool := decide (y % 4 = 0) && (!decide (y % 100 = 0) || decide (y % 400 = 0))
def dim (y m : Int) : Int := if m = 2 then (if leapB y = true then 29 else 28) else if m = 4 ∨ m = 6 ∨ m = 9 ∨ m = 11 then 30 else 31
def adjF (y m : Int) : Int := if m ≤ 2 then 0 else if leapB y = true then -1 else -2
def toJdF (y m d : Int) : Int := 1721425 + 365 * (y - 1) + (y - 1) / 4 - (y - 1) / 100 + (y - 1) / 400 + ((367 * m - 362) / 12 + adjF y m + d)
def toJd2F (y m d : Int) : Int :=
  (2 - (if m ≤ 2 then y - 1 else y) / 100 + (if m ≤ 2 then y - 1 else y) / 100 / 4) + d + 1461 * ((if m ≤ 2 then y - 1 else y) + 4716) / 4 + 306001 * ((if m ≤ 2 then m + 12 else m) + 1) / 10000 - 1524

theorem fd_ed (a b : Int) (h : 0 ≤ b) : a.fdiv b = a / b := Int.fdiv_eq_ediv_of_nonneg a h
theorem fm_em (a b : Int) (h : 0 ≤ b) : a.fmod b = a % b := Int.fmod_eq_emod_of_nonneg a h

theorem dim_31 {y m d : Int} (h : d ≤ dim y m) : d ≤ 31 := by unfold dim at h; (repeat' split at h) <;> omega
theorem dim_30 {y m d : Int} (h : d ≤ dim y m) (hm : m = 4 ∨ m = 6 ∨ m = 9 ∨ m = 11) : d ≤ 30 := by unfold dim at h; (repeat' split at h) <;> omega
theorem dim_29 {y m d : Int} (h : d ≤ dim y m) (hm : m = 2) : d ≤ 29 := by unfold dim at h; (repeat' split at h) <;> omega
theorem dim_28 {y m d : Int} (h : d ≤ dim y m) (hm : m = 2) (hl : leapB y = false) : d ≤ 28 := by unfold dim at h; simp [hm, hl] at h; exact h
theorem dim_ge (y m : Int) : 28 ≤ dim y m := by unfold dim; (repeat' split) <;> omega


theorem any4 (k : Int) : [4, 6, 9, 11].any (· == k) = decide (k = 4 ∨ k = 6 ∨ k = 9 ∨ k = 11) := by
  rw [Bool.eq_iff_iff]
  simp only [List.any_cons, List.any_nil, Bool.or_false, Bool.or_eq_true, beq_iff_eq, decide_eq_true_eq]
  omega
theorem in_top4 {prog : Program} {w : World} {A : Around} {E : Value → Shared → Prop} {s : Shared} {h₀ : Heap} {L a : Addr} {m : Str → Option Value} {K : Frag} {l : List Value} {n : Nat} {k : Int} {u : Tok} {dd : Option Addr} {sl : Array (Option Value)} {Q : Value → Shared → Prop}
    (F : Fr h₀ L s.heap m) (X₀ : K.In h₀) (hl : K.lookup a = some ⟨.type "tuple", dd, .seq l.toArray n, sl⟩) (hi : IntsAre l [4, 6, 9, 11])
    (h : Q (.bool (decide (k = 4 ∨ k = 6 ∨ k = 9 ∨ k = 11))) s) : wpAny (model prog w) A (compareOp .In (.int k u) (.ref a)) Q E s :=
  in_tuple_ints (tupK (X₀.keeps F.keep) hl) hi (by rw [any4]; exact h)

abbrev fjY0 (n : Int) : Int := (n - 1721426).fdiv 146097 * 400 + ((n - 1721426).fmod 146097).fdiv 36524 * 100 + (((n - 1721426).fmod 146097).fmod 36524).fdiv 1461 * 4 + ((((n - 1721426).fmod 146097).fmod 36524).fmod 1461).fdiv 365
def fjY (n : Int) : Int := if ((n - 1721426).fmod 146097).fdiv 36524 = 4 ∨ ((((n - 1721426).fmod 146097).fmod 36524).fmod 1461).fdiv 365 = 4 then fjY0 n else fjY0 n + 1
def yadj (y p : Int) : Int := if p < 58 + (if leapB y = true then 1 else 0) then 0 else if leapB y = true then 1 else 2
def fjM (y p : Int) : Int := ((p + yadj y p) * 12 + 373) / 367
theorem fjY_c {n : Int} (h : ((n - 1721426).fmod 146097).fdiv 36524 = 4) : fjY0 n = fjY n := by unfold fjY; rw [if_pos (Or.inl h)]
theorem fjY_i {n : Int} (h : ((((n - 1721426).fmod 146097).fmod 36524).fmod 1461).fdiv 365 = 4) : fjY0 n = fjY n := by unfold fjY; rw [if_pos (Or.inr h)]
theorem fjY_n {n : Int} (h1 : ((n - 1721426).fmod 146097).fdiv 36524 ≠ 4) (h2 : ((((n - 1721426).fmod 146097).fmod 36524).fmod 1461).fdiv 365 ≠ 4) : fjY0 n + 1 = fjY n := by unfold fjY; rw [if_neg (fun h => h.elim h1 h2)]
theorem yadj_0 {y p : Int} (h : p < 58 + (if leapB y = true then 1 else 0)) : 0 = yadj y p := by unfold yadj; rw [if_pos h]
theorem yadj_1 {y p : Int} (h : ¬ p < 58 + (if leapB y = true then 1 else 0)) (hl : leapB y = true) : 1 = yadj y p := by unfold yadj; rw [if_neg h, if_pos hl]
theorem yadj_2 {y p : Int} (h : ¬ p < 58 + (if leapB y = true then 1 else 0)) (hl : leapB y = false) : 2 = yadj y p := by unfold yadj; rw [if_neg h, if_neg (by rw [hl]; decide)]
theorem fj_end {n Y a : Int} {h₀ h' : Heap} {L D : Addr} {m : Str → Option Value} {news news' : List (Addr × Obj)} {s : Shared} {Q : Value → Shared → Prop} {t1 t2 t3 : Tok} {c tk' : Nat}
    (hret : RT3 (fjY n) (fjM (fjY n) (n - toJdF (fjY n) 1 1)) (n - toJdF (fjY n) (fjM (fjY n) (n - toJdF (fjY n) 1 1)) 1 + 1) h₀ L m news s Q)
    (F : Fr h₀ L h' m) (N : News h₀ L h' news') (hm : (D, tup3 Y (((n - toJdF Y 1 1 + a) * 12 + 373).fdiv 367) (n - toJdF Y (((n - toJdF Y 1 1 + a) * 12 + 373).fdiv 367) 1 + 1) t1 t2 t3 c) ∈ news') (hs : ∀ p ∈ news, p ∈ news') (hl : AllLt D news)
    (e1 : Y = fjY n) (e2 : a = yadj Y (n - toJdF Y 1 1)) : Q (.ref D) { s with heap := h', toks := tk' } := by
  subst e1; subst e2
  exact rt3_end hret F N hm hs hl rfl (fd_ed _ _ (by decide)) (by rw [fd_ed _ _ (by decide)]; rfl)
def fgM (m : Int) : Int := if m + 1 ≤ 3 then m + 1 + 12 else m + 1
def fgT (y m d : Int) : Int := 306 * fgM m / 10 + d - 122 + 59 + (if leapB y = true then 1 else 0)
def fgR (y m d : Int) : Int := if fgT y m d > 365 + (if leapB y = true then 1 else 0) then fgT y m d - 365 - (if leapB y = true then 1 else 0) else fgT y m d
def tgadj (y p : Int) : Int := if p < 59 + (if leapB y = true then 1 else 0) then 0 else if leapB y = true then 1 else 2
def tgM (y p : Int) : Int := ((p - 1 + tgadj y p) * 12 + 373) / 367
def jdim (y m : Int) : Int := if m = 2 then (if y % 4 = 0 then 29 else 28) else if m = 4 ∨ m = 6 ∨ m = 9 ∨ m = 11 then 30 else 31
def toJulF (y m d : Int) : Int := 1461 * ((if m ≤ 2 then y - 1 else y) + 4716) / 4 + 306001 * ((if m ≤ 2 then m + 12 else m) + 1) / 10000 + d - 1524
abbrev juC (n : Int) : Int := (20 * (n + 1524) - 2442).fdiv 7305
abbrev juD0 (n : Int) : Int := (1461 * juC n).fdiv 4
abbrev juE (n : Int) : Int := ((n + 1524 - juD0 n) * 10000).fdiv 306001
def juM (n : Int) : Int := if juE n < 14 then juE n - 1 else juE n - 13
def juY (n : Int) : Int := if juM n > 2 then juC n - 4716 else juC n - 4715
abbrev juD (n : Int) : Int := n + 1524 - juD0 n - (306001 * juE n).fdiv 10000
theorem juM_a {n : Int} (h : juE n < 14) : juE n - 1 = juM n := by unfold juM; rw [if_pos h]
theorem juM_b {n : Int} (h : ¬ juE n < 14) : juE n - 13 = juM n := by unfold juM; rw [if_neg h]
theorem juY_aa {n : Int} (h : juE n < 14) (h2 : juE n - 1 > 2) : juC n - 4716 = juY n := by unfold juY; rw [← juM_a h, if_pos h2]
theorem juY_ab {n : Int} (h : juE n < 14) (h2 : ¬ juE n - 1 > 2) : juC n - 4715 = juY n := by unfold juY; rw [← juM_a h, if_neg h2]
theorem juY_ba {n : Int} (h : ¬ juE n < 14) (h2 : juE n - 13 > 2) : juC n - 4716 = juY n := by unfold juY; rw [← juM_b h, if_pos h2]
theorem juY_bb {n : Int} (h : ¬ juE n < 14) (h2 : ¬ juE n - 13 > 2) : juC n - 4715 = juY n := by unfold juY; rw [← juM_b h, if_neg h2]
theorem jdim_31 {y m d : Int} (h : d ≤ jdim y m) : d ≤ 31 := by unfold jdim at h; (repeat' split at h) <;> omega
theorem jdim_30 {y m d : Int} (h : d ≤ jdim y m) (hm : m = 4 ∨ m = 6 ∨ m = 9 ∨ m = 11) : d ≤ 30 := by unfold jdim at h; (repeat' split at h) <;> omega
theorem jdim_29 {y m d : Int} (h : d ≤ jdim y m) (hm : m = 2) : d ≤ 29 := by unfold jdim at h; (repeat' split at h) <;> omega
theorem jdim_28 {y m d : Int} (h : d ≤ jdim y m) (hm : m = 2) (hl : decide (y % 4 = 0) = false) : d ≤ 28 := by
  unfold jdim at h; rw [if_pos hm, if_neg (by simpa using hl)] at h; exact h
theorem jdim_ge1 (y m : Int) : 1 ≤ jdim y m := by unfold jdim; (repeat' split) <;> omega
/-- a Gregorian date and its day number -/
def GDate (n y m d : Int) : Prop := n = toJdF y m d ∧ 1 ≤ m ∧ m ≤ 12 ∧ 1 ≤ d ∧ d ≤ dim y m
/-- a Julian date and its day number -/
def JDate (n y m d : Int) : Prop := n = toJulF y m d ∧ 1 ≤ m ∧ m ≤ 12 ∧ 1 ≤ d ∧ d ≤ jdim y m
theorem gd_d1 {n y m d : Int} (h : GDate n y m d) : 1 ≤ d := h.2.2.2.1
theorem gd_d2 {n y m d : Int} (h : GDate n y m d) : d ≤ dim y m := h.2.2.2.2
theorem jd_d1 {n y m d : Int} (h : JDate n y m d) : 1 ≤ d := h.2.2.2.1
theorem jd_d2 {n y m d : Int} (h : JDate n y m d) : d ≤ jdim y m := h.2.2.2.2
theorem fgR_aa {y m d : Int} (h : m + 1 ≤ 3) (h2 : 365 + (if leapB y = true then 1 else 0) < 306 * (m + 1 + 12) / 10 + d - 122 + 59 + (if leapB y = true then 1 else 0)) : 306 * (m + 1 + 12) / 10 + d - 122 + 59 + (if leapB y = true then 1 else 0) - 365 - (if leapB y = true then 1 else 0) = fgR y m d := by
  unfold fgR fgT fgM; rw [if_pos h, if_pos h2]
theorem fgR_ab {y m d : Int} (h : m + 1 ≤ 3) (h2 : ¬ 365 + (if leapB y = true then 1 else 0) < 306 * (m + 1 + 12) / 10 + d - 122 + 59 + (if leapB y = true then 1 else 0)) : 306 * (m + 1 + 12) / 10 + d - 122 + 59 + (if leapB y = true then 1 else 0) = fgR y m d := by
  unfold fgR fgT fgM; rw [if_pos h, if_neg h2]
theorem fgR_ba {y m d : Int} (h : ¬ m + 1 ≤ 3) (h2 : 365 + (if leapB y = true then 1 else 0) < 306 * (m + 1) / 10 + d - 122 + 59 + (if leapB y = true then 1 else 0)) : 306 * (m + 1) / 10 + d - 122 + 59 + (if leapB y = true then 1 else 0) - 365 - (if leapB y = true then 1 else 0) = fgR y m d := by
  unfold fgR fgT fgM; rw [if_neg h, if_pos h2]
theorem fgR_bb {y m d : Int} (h : ¬ m + 1 ≤ 3) (h2 : ¬ 365 + (if leapB y = true then 1 else 0) < 306 * (m + 1) / 10 + d - 122 + 59 + (if leapB y = true then 1 else 0)) : 306 * (m + 1) / 10 + d - 122 + 59 + (if leapB y = true then 1 else 0) = fgR y m d := by
  unfold fgR fgT fgM; rw [if_neg h, if_neg h2]
theorem tgM_0 {y p : Int} (h : p < 59 + (if leapB y = true then 1 else 0)) : ((p - 1 + 0) * 12 + 373) / 367 = tgM y p := by unfold tgM tgadj; rw [if_pos h]
theorem tgM_1 {y p : Int} (h : ¬ p < 59 + (if leapB y = true then 1 else 0)) (hl : leapB y = true) : ((p - 1 + 1) * 12 + 373) / 367 = tgM y p := by unfold tgM tgadj; rw [if_neg h, if_pos hl]
theorem tgM_2 {y p : Int} (h : ¬ p < 59 + (if leapB y = true then 1 else 0)) (hl : leapB y = false) : ((p - 1 + 2) * 12 + 373) / 367 = tgM y p := by unfold tgM tgadj; rw [if_neg h, if_neg (by rw [hl]; decide)]
theorem tg_end {y p X : Int} {h₀ h' : Heap} {L D : Addr} {m : Str → Option Value} {news news' : List (Addr × Obj)} {s : Shared} {Q : Value → Shared → Prop} {t1 t2 t3 : Tok} {c tk' : Nat}
    (hret : RT3 y (tgM y p) (p - fgR y (tgM y p) 1 + 1) h₀ L m news s Q)
    (F : Fr h₀ L h' m) (N : News h₀ L h' news') (hm : (D, tup3 y X (p - fgR y X 1 + 1) t1 t2 t3 c) ∈ news') (hs : ∀ p ∈ news, p ∈ news') (hl : AllLt D news)
    (e : X = tgM y p) : Q (.ref D) { s with heap := h', toks := tk' } := by
  subst e
  exact rt3_end hret F N hm hs hl rfl rfl rfl
theorem jdim_a {y m : Int} (h : m = 2) (hl : y % 4 = 0) : 29 = jdim y m := by unfold jdim; rw [if_pos h, if_pos hl]
theorem jdim_b {y m : Int} (h : m = 2) (hl : ¬ y % 4 = 0) : 28 = jdim y m := by unfold jdim; rw [if_pos h, if_neg hl]
theorem jdim_c {y m : Int} (h : m ≠ 2) (hl : m = 4 ∨ m = 6 ∨ m = 9 ∨ m = 11) : 30 = jdim y m := by unfold jdim; rw [if_neg h, if_pos hl]
theorem jdim_d {y m : Int} (h : m ≠ 2) (hl : ¬ (m = 4 ∨ m = 6 ∨ m = 9 ∨ m = 11)) : 31 = jdim y m := by unfold jdim; rw [if_neg h, if_neg hl]
theorem allLt_cons1 {D : Addr} {q : Addr × Obj} {news : List (Addr × Obj)} (h : ∀ p ∈ q :: news, p.1 < D) : AllLt D news := (allLt_of h).2
theorem allLt_and {D : Addr} {P : Prop} {news : List (Addr × Obj)} (h : P ∧ AllLt D news) : AllLt D news := h.2
theorem allLt_and2 {D : Addr} {P P' : Prop} {news : List (Addr × Obj)} (h : P ∧ P' ∧ AllLt D news) : AllLt D news := h.2.2
theorem allLt_tr {D a : Nat} : ∀ {news : List (Addr × Obj)} (_ : AllLt a news) (_ : a < D), AllLt D news
  | [], _, _ => trivial
  | _ :: _, h, k => ⟨Nat.lt_trans h.1 k, allLt_tr h.2 k⟩
theorem juY_a {n : Int} (h : juE n < 14) : (if juE n - 1 > 2 then juC n - 4716 else juC n - 4715) = juY n := by unfold juY; rw [← juM_a h]
theorem juY_b {n : Int} (h : ¬ juE n < 14) : (if juE n - 13 > 2 then juC n - 4716 else juC n - 4715) = juY n := by unfold juY; rw [← juM_b h]
theorem juE_lo (n : Int) : 4 ≤ juE n := by
  unfold juE juD0 juC
  rw [fd_ed _ _ (by decide), fd_ed _ _ (by decide), fd_ed _ _ (by decide)]
  omega
theorem juE_hi (n : Int) : juE n ≤ 15 := by
  unfold juE juD0 juC
  rw [fd_ed _ _ (by decide), fd_ed _ _ (by decide), fd_ed _ _ (by decide)]
  omega
theorem juY_c {n : Int} (h : juE n < 14) : juC n - 4716 = juY n := juY_aa h (by have := juE_lo n; omega)
theorem juY_d {n : Int} (h : ¬ juE n < 14) : juC n - 4715 = juY n := juY_bb h (by have := juE_hi n; omega)
theorem dim_ge1 (y m : Int) : 1 ≤ dim y m := Int.le_trans (by decide) (dim_ge y m)
def FY (y : Int) : Int := 1721426 + 365 * (y - 1) + (y - 1) / 4 - (y - 1) / 100 + (y - 1) / 400
def b2i (b : Bool) : Int := if b = true then 1 else 0
/-- days of February -/
def fb (b : Bool) : Int := if b = true then 29 else 28
def lenf (f m : Int) : Int := if m = 2 then f else if m = 4 ∨ m = 6 ∨ m = 9 ∨ m = 11 then 30 else 31
def cumf (f m : Int) : Int := (367 * m - 362) / 12 + (if m ≤ 2 then 0 else f - 30)
/-- the month of the place p -/
def invf (f p : Int) : Int := ((p + (if p < 30 + f then 0 else 30 - f)) * 12 + 373) / 367
/-- the day at place p of a year whose February has f days -/
def WDate (f p m d : Int) : Prop := 28 ≤ f ∧ f ≤ 29 ∧ 1 ≤ m ∧ m ≤ 12 ∧ 1 ≤ d ∧ d ≤ lenf f m ∧ p = cumf f m + d - 1
def tabOk (P : Bool → Int → Int → Bool) : Bool :=
  (List.range 12).all fun k => (List.range 31).all fun j => P false ((k : Int) + 1) ((j : Int) + 1) && P true ((k : Int) + 1) ((j : Int) + 1)
theorem natAt {m : Int} {c : Nat} (h1 : 1 ≤ m) (h2 : m ≤ c) : ∃ k : Nat, k ∈ List.range c ∧ (k : Int) + 1 = m :=
  ⟨(m - 1).toNat, List.mem_range.mpr (by omega), by omega⟩
theorem tab {P : Bool → Int → Int → Bool} (h : tabOk P = true) (b : Bool) {m d : Int} (h1 : 1 ≤ m) (h2 : m ≤ 12) (h3 : 1 ≤ d) (h4 : d ≤ 31) : P b m d = true := by
  obtain ⟨k, hk, rfl⟩ := natAt (c := 12) h1 h2
  obtain ⟨j, hj, rfl⟩ := natAt (c := 31) h3 h4
  have t := (Bool.and_eq_true_iff.mp (List.all_eq_true.mp (List.all_eq_true.mp h k hk) j hj))
  cases b
  · exact t.1
  · exact t.2
theorem fb_of {f : Int} (h1 : 28 ≤ f) (h2 : f ≤ 29) : ∃ b, f = fb b := by
  by_cases h : f = 28
  · exact ⟨false, h⟩
  · exact ⟨true, by show f = 29; omega⟩
theorem len_31 (f m : Int) (h : f ≤ 29) : lenf f m ≤ 31 := by unfold lenf; (repeat' split) <;> omega
/-- a table of all days of a year -/
theorem wtab {P : Bool → Int → Int → Int → Bool} (h : tabOk (fun b m d => P b (fb b) m d) = true) {f p m d : Int} (hW : WDate f p m d) : ∃ b, f = fb b ∧ P b f m d = true := by
  obtain ⟨b, rfl⟩ := fb_of hW.1 hW.2.1
  exact ⟨b, rfl, tab h b hW.2.2.1 hW.2.2.2.1 hW.2.2.2.2.1 (Int.le_trans hW.2.2.2.2.2.1 (len_31 _ _ hW.2.1))⟩
theorem wd_lt {f p m d : Int} (h : WDate f p m d) : 0 ≤ p ∧ p < 337 + f ∧ 28 ≤ f ∧ f ≤ 29 := by
  obtain ⟨b, rfl, t⟩ := wtab (P := fun _ f m d => decide (d ≤ lenf f m → 0 ≤ cumf f m + d - 1 ∧ cumf f m + d - 1 < 337 + f)) (by decide +kernel) h
  have t := of_decide_eq_true t h.2.2.2.2.2.1
  rw [← h.2.2.2.2.2.2] at t
  exact ⟨t.1, t.2, h.1, h.2.1⟩
theorem wd_inv {f p m d : Int} (h : WDate f p m d) : invf f p = m := by
  obtain ⟨b, rfl, t⟩ := wtab (P := fun _ f m d => decide (d ≤ lenf f m → invf f (cumf f m + d - 1) = m)) (by decide +kernel) h
  have t := of_decide_eq_true t h.2.2.2.2.2.1
  rw [← h.2.2.2.2.2.2] at t
  exact t
theorem wd_exists {f p : Int} (h1 : f = 28 ∨ f = 29) (h2 : 0 ≤ p) (h3 : p < 337 + f) : ∃ m d, WDate f p m d := by
  obtain ⟨b, rfl⟩ : ∃ b, f = fb b := by cases h1 with | inl h => exact ⟨false, h⟩ | inr h => exact ⟨true, h⟩
  have t : ∀ b : Bool, ((List.range 366).all fun k => decide ((k : Int) < 337 + fb b → 28 ≤ fb b ∧ fb b ≤ 29 ∧ 1 ≤ invf (fb b) k ∧ invf (fb b) k ≤ 12 ∧ 1 ≤ k - cumf (fb b) (invf (fb b) k) + 1 ∧ k - cumf (fb b) (invf (fb b) k) + 1 ≤ lenf (fb b) (invf (fb b) k))) = true := by decide +kernel
  obtain ⟨k, rfl⟩ := Int.eq_ofNat_of_zero_le h2
  have hk : k ∈ List.range 366 := List.mem_range.mpr (by cases b <;> (first | (change _ < (337 + 28 : Int) at h3; omega) | (change _ < (337 + 29 : Int) at h3; omega)))
  have t := of_decide_eq_true (List.all_eq_true.mp (t b) k hk) h3
  exact ⟨_, _, t.1, t.2.1, t.2.2.1, t.2.2.2.1, t.2.2.2.2.1, t.2.2.2.2.2, by omega⟩
theorem wd_uniq {f p m d k : Int} (h : WDate f p m d) (k1 : 1 ≤ k) (k2 : k ≤ 12) (h1 : cumf f k ≤ p) (h2 : p < cumf f k + lenf f k) : k = m ∧ p - cumf f k + 1 = d := by
  have hk : WDate f p k (p - cumf f k + 1) := ⟨h.1, h.2.1, k1, k2, by omega, by omega, by omega⟩
  have e := (wd_inv hk).symm.trans (wd_inv h)
  subst e
  have e := h.2.2.2.2.2.2
  exact ⟨rfl, by omega⟩
theorem leap_iff (y : Int) : leapB y = true ↔ (y % 4 = 0 ∧ (y % 100 ≠ 0 ∨ y % 400 = 0)) := by
  unfold leapB; simp [Bool.and_eq_true, Bool.or_eq_true]
theorem FY_step (y : Int) : FY (y + 1) = FY y + 365 + b2i (leapB y) := by
  have h : (b2i (leapB y) = 1 ∧ (y % 4 = 0 ∧ (y % 100 ≠ 0 ∨ y % 400 = 0))) ∨ (b2i (leapB y) = 0 ∧ ¬ (y % 4 = 0 ∧ (y % 100 ≠ 0 ∨ y % 400 = 0))) := by
    cases h : leapB y with
    | true => exact Or.inl ⟨rfl, (leap_iff y).mp h⟩
    | false => exact Or.inr ⟨rfl, fun q => by rw [(leap_iff y).mpr q] at h; exact absurd h (by decide)⟩
  unfold FY
  omega
theorem b2i_le (b : Bool) : 0 ≤ b2i b ∧ b2i b ≤ 1 := by cases b <;> decide
theorem FY_mono {a b : Int} (h : a < b) : FY (a + 1) ≤ FY b := by unfold FY; omega
theorem FY_lt {a b : Int} (h : a < b) : FY a < FY b := by
  have h1 := FY_mono h
  have h2 := FY_step a
  have h3 := b2i_le (leapB a)
  omega
theorem FY_uniq {a b n : Int} (h1 : FY a ≤ n) (h2 : n < FY (a + 1)) (h3 : FY b ≤ n) (h4 : n < FY (b + 1)) : a = b := by
  rcases Int.lt_trichotomy a b with h | h | h
  · have := FY_mono h; omega
  · exact h
  · have := FY_mono h; omega
theorem toJdF_FY (y m d : Int) : toJdF y m d = FY y - 1 + ((367 * m - 362) / 12 + adjF y m + d) := by unfold toJdF FY; generalize (367 * m - 362) / 12 = A; omega
theorem toJdF_11 (y : Int) : toJdF y 1 1 = FY y := by rw [toJdF_FY]; show FY y - 1 + (0 + 0 + 1) = FY y; omega
theorem off_eq (y m : Int) : (367 * m - 362) / 12 + adjF y m = cumf (fb (leapB y)) m := by unfold adjF cumf; cases leapB y <;> rfl
theorem dim_eq (y m : Int) : dim y m = lenf (fb (leapB y)) m := by unfold dim lenf; cases leapB y <;> rfl
theorem fb_in (b : Bool) : 28 ≤ fb b ∧ fb b ≤ 29 := by cases b <;> decide
theorem fb_b (b : Bool) : fb b = 28 + b2i b := by cases b <;> rfl
theorem gd_wd {n y m d : Int} (h : GDate n y m d) : WDate (fb (leapB y)) (n - FY y) m d := by
  obtain ⟨h1, h2, h3, h4, h5⟩ := h
  rw [toJdF_FY, off_eq] at h1
  rw [dim_eq] at h5
  exact ⟨(fb_in _).1, (fb_in _).2, h2, h3, h4, h5, by omega⟩
theorem wd_gd {n y m d : Int} (h : WDate (fb (leapB y)) (n - FY y) m d) : GDate n y m d := by
  obtain ⟨_, _, h2, h3, h4, h5, h6⟩ := h
  rw [← dim_eq] at h5
  exact ⟨by rw [toJdF_FY, off_eq]; omega, h2, h3, h4, h5⟩
theorem gd_place {n y m d : Int} (h : GDate n y m d) : FY y ≤ n ∧ n < FY (y + 1) := by
  have t := wd_lt (gd_wd h)
  rw [FY_step]
  rw [fb_b] at t
  exact ⟨by omega, by omega⟩
/-- the first day of a year, by its place in the cycles -/
theorem FY_at {q c k i : Int} (c1 : 0 ≤ c) (c2 : c ≤ 3) (k1 : 0 ≤ k) (k2 : k ≤ 24) (i1 : 0 ≤ i) (i2 : i ≤ 3) : FY (q * 400 + c * 100 + k * 4 + i + 1) = 1721426 + 146097 * q + 36524 * c + 1461 * k + 365 * i := by
  unfold FY
  have e0 : q * 400 + c * 100 + k * 4 + i + 1 - 1 = q * 400 + c * 100 + k * 4 + i := by omega
  have e1 : (q * 400 + c * 100 + k * 4 + i) / 4 = 100 * q + 25 * c + k := by omega
  have e2 : (q * 400 + c * 100 + k * 4 + i) / 100 = 4 * q + c := by omega
  have e3 : (q * 400 + c * 100 + k * 4 + i) / 400 = q := by omega
  rw [e0, e1, e2, e3]; omega
theorem ed {a b q r : Int} (hb : 0 < b) (hq : a / b = q) (hr : a % b = r) : a = b * q + r ∧ 0 ≤ r ∧ r < b := by
  subst hq; subst hr
  exact ⟨(Int.mul_ediv_add_emod a b).symm, Int.emod_nonneg a (by omega), Int.emod_lt_of_pos a hb⟩
/-- the four cycles of a day number -/
theorem cyc {n q r c r2 k r3 i : Int} (hq : (n - 1721426) / 146097 = q) (hr : (n - 1721426) % 146097 = r) (hc : r / 36524 = c) (hr2 : r % 36524 = r2) (hk : r2 / 1461 = k) (hr3 : r2 % 1461 = r3) (hi : r3 / 365 = i) :
    n = 1721426 + 146097 * q + 36524 * c + 1461 * k + r3 ∧ 0 ≤ c ∧ c ≤ 4 ∧ 0 ≤ k ∧ k ≤ 24 ∧ 365 * i ≤ r3 ∧ r3 < 365 * i + 365 ∧ 0 ≤ i ∧ i ≤ 4 ∧ (c = 4 → k = 0 ∧ r3 = 0 ∧ i = 0) ∧ (i = 4 → r3 = 1460 ∧ k ≤ 23) := by
  obtain ⟨b1, b2, b3⟩ := ed (by decide) hq hr
  obtain ⟨c1, c2, c3⟩ := ed (by decide) hc hr2
  obtain ⟨d1, d2, d3⟩ := ed (by decide) hk hr3
  obtain ⟨g1, g2, g3⟩ := ed (by decide) hi rfl
  generalize r3 % 365 = z at g1 g2 g3
  clear hq hr hc hr2 hk hr3 hi
  have hc : 0 ≤ c ∧ c ≤ 4 := by omega
  have hk : 0 ≤ k ∧ k ≤ 24 := by omega
  have hi : 0 ≤ i ∧ i ≤ 4 := by omega
  exact ⟨by omega, hc.1, hc.2, hk.1, hk.2, by omega, by omega, hi.1, hi.2, fun h => by omega, fun h => by omega⟩
theorem fjY_FY (n : Int) : FY (fjY n) ≤ n ∧ n < FY (fjY n + 1) := by
  unfold fjY fjY0
  simp (discharger := decide) only [fd_ed, fm_em]
  generalize hq : (n - 1721426) / 146097 = q
  generalize hr : (n - 1721426) % 146097 = r
  generalize hc : r / 36524 = c
  generalize hr2 : r % 36524 = r2
  generalize hk : r2 / 1461 = k
  generalize hr3 : r2 % 1461 = r3
  generalize hi : r3 / 365 = i
  obtain ⟨e, c1, c2, k1, k2, g1, g2, i1, i2, hC, hI⟩ := cyc hq hr hc hr2 hk hr3 hi
  clear hq hr hc hr2 hk hr3 hi
  by_cases h4 : c = 4
  · rw [if_pos (Or.inl h4)]
    obtain ⟨rfl, rfl, rfl⟩ := hC h4
    subst h4
    have a := FY_at (q := q) (c := 3) (k := 24) (i := 3) (by decide) (by decide) (by decide) (by decide) (by decide) (by decide)
    have b := FY_at (q := q + 1) (c := 0) (k := 0) (i := 0) (by decide) (by decide) (by decide) (by decide) (by decide) (by decide)
    rw [show q * 400 + 3 * 100 + 24 * 4 + 3 + 1 = q * 400 + 4 * 100 + 0 * 4 + 0 by omega] at a
    rw [show (q + 1) * 400 + 0 * 100 + 0 * 4 + 0 + 1 = q * 400 + 4 * 100 + 0 * 4 + 0 + 1 by omega] at b
    exact ⟨by omega, by omega⟩
  · have c3 : c ≤ 3 := by omega
    by_cases h5 : i = 4
    · rw [if_pos (Or.inr h5)]
      obtain ⟨rfl, k3⟩ := hI h5
      subst h5
      have a := FY_at (q := q) (i := 3) c1 c3 k1 k2 (by decide) (by decide)
      have b := FY_at (q := q) (c := c) (k := k + 1) (i := 0) c1 c3 (by omega) (by omega) (by decide) (by decide)
      rw [show q * 400 + c * 100 + k * 4 + 3 + 1 = q * 400 + c * 100 + k * 4 + 4 by omega] at a
      rw [show q * 400 + c * 100 + (k + 1) * 4 + 0 + 1 = q * 400 + c * 100 + k * 4 + 4 + 1 by omega] at b
      exact ⟨by omega, by omega⟩
    · rw [if_neg (fun h => h.elim h4 h5), FY_step (q * 400 + c * 100 + k * 4 + i + 1), FY_at c1 c3 k1 k2 i1 (by omega)]
      have h3 := b2i_le (leapB (q * 400 + c * 100 + k * 4 + i + 1))
      exact ⟨by omega, by omega⟩
theorem gd_fjY {n y m d : Int} (h : GDate n y m d) : fjY n = y := FY_uniq (fjY_FY n).1 (fjY_FY n).2 (gd_place h).1 (gd_place h).2
theorem gd_exists (n : Int) : ∃ y m d, GDate n y m d := by
  have h := fjY_FY n
  rw [FY_step] at h
  have hb := fb_b (leapB (fjY n))
  have hi := fb_in (leapB (fjY n))
  obtain ⟨m, d, hW⟩ := wd_exists (f := fb (leapB (fjY n))) (p := n - FY (fjY n)) (by omega) (by omega) (by omega)
  exact ⟨_, m, d, wd_gd hW⟩
def fjMB (b : Bool) (p : Int) : Int := ((p + (if p < 58 + (if b = true then 1 else 0) then 0 else if b = true then 1 else 2)) * 12 + 373) / 367
def tgMB (b : Bool) (p : Int) : Int := ((p - 1 + (if p < 59 + (if b = true then 1 else 0) then 0 else if b = true then 1 else 2)) * 12 + 373) / 367
def fgTB (b : Bool) (m d : Int) : Int := 306 * fgM m / 10 + d - 122 + 59 + (if b = true then 1 else 0)
def fgRB (b : Bool) (m d : Int) : Int := if fgTB b m d > 365 + (if b = true then 1 else 0) then fgTB b m d - 365 - (if b = true then 1 else 0) else fgTB b m d
/-- a table of the days of a Gregorian year -/
theorem gtab {P : Bool → Int → Int → Bool} (h : tabOk (fun b m d => decide (d ≤ lenf (fb b) m → P b m d = true)) = true) {n y m d : Int} (hG : GDate n y m d) : P (leapB y) m d = true := by
  obtain ⟨f1, f2, h2, h3, h4, h5, h6⟩ := gd_wd hG
  exact of_decide_eq_true (tab h (leapB y) h2 h3 h4 (Int.le_trans h5 (len_31 _ _ f2))) h5
theorem gd_fjM {n y m d : Int} (h : GDate n y m d) : fjM y (n - FY y) = m := by
  rw [(gd_wd h).2.2.2.2.2.2]
  exact of_decide_eq_true (gtab (P := fun b m d => decide (fjMB b (cumf (fb b) m + d - 1) = m)) (by decide +kernel) h)
theorem gd_fjD {n y m d : Int} (h : GDate n y m d) : n - toJdF y m 1 + 1 = d := by
  have e := h.1
  rw [toJdF_FY] at e ⊢
  generalize (367 * m - 362) / 12 + adjF y m = A at e ⊢
  omega
theorem gd_p1e {n y m d : Int} (h : GDate n y m d) : n - FY y + 1 = cumf (fb (leapB y)) m + d := by
  have e := (gd_wd h).2.2.2.2.2.2
  omega
theorem gd_ord {n y m d : Int} (h : GDate n y m d) : fgR y m d = n - FY y + 1 := by
  rw [gd_p1e h]
  exact of_decide_eq_true (gtab (P := fun b m d => decide (fgRB b m d = cumf (fb b) m + d)) (by decide +kernel) h)
theorem gd_1 {n y m d : Int} (h : GDate n y m d) : GDate (n - d + 1) y m 1 := by
  have e := h.1
  rw [toJdF_FY] at e
  refine ⟨?_, h.2.1, h.2.2.1, by decide, dim_ge1 y m⟩
  rw [toJdF_FY]
  generalize (367 * m - 362) / 12 + adjF y m = A at e ⊢
  omega
theorem gd_tgM {n y m d : Int} (h : GDate n y m d) : tgM y (n - FY y + 1) = m := by
  rw [gd_p1e h]
  exact of_decide_eq_true (gtab (P := fun b m d => decide (tgMB b (cumf (fb b) m + d) = m)) (by decide +kernel) h)
theorem gd_tgD {n y m d : Int} (h : GDate n y m d) : n - FY y + 1 - fgR y m 1 + 1 = d := by
  rw [gd_ord (gd_1 h)]; omega
def mm (m : Int) : Int := 306001 * ((if m ≤ 2 then m + 12 else m) + 1) / 10000
theorem jd2_at (Y d c : Int) : (2 - Y / 100 + Y / 100 / 4) + d + 1461 * (Y + 4716) / 4 + c - 1524 = FY (Y + 1) - 429 + d + c := by
  unfold FY
  have e : Y + 1 - 1 = Y := by omega
  have e1 : Y / 100 / 4 = Y / 400 := by omega
  have e3 : 1461 * (Y + 4716) / 4 = 365 * Y + Y / 4 + 1722519 := by omega
  rw [e, e1, e3]
  omega
theorem gd_jd2 {n y m d : Int} (h : GDate n y m d) : toJd2F y m d = n := by
  have e : toJd2F y m d = FY ((if m ≤ 2 then y - 1 else y) + 1) - 429 + d + mm m := jd2_at _ d (mm m)
  have t := of_decide_eq_true (gtab (P := fun b m d => decide ((if m ≤ 2 then 0 else 365 + b2i b) + mm m - 428 = cumf (fb b) m)) (by decide +kernel) h)
  have w := (gd_wd h).2.2.2.2.2.2
  rw [e]
  by_cases hm : m ≤ 2
  · rw [if_pos hm] at t ⊢
    rw [show y - 1 + 1 = y by omega]
    omega
  · rw [if_neg hm] at t ⊢
    rw [FY_step]
    omega
theorem jdim_eq (y m : Int) : jdim y m = lenf (fb (decide (y % 4 = 0))) m := by
  unfold jdim lenf fb
  by_cases h : y % 4 = 0
  · rw [decide_eq_true h, if_pos h]; rfl
  · rw [decide_eq_false h, if_neg h]; rfl
theorem jtab {P : Bool → Int → Int → Bool} (h : tabOk (fun b m d => decide (d ≤ lenf (fb b) m → P b m d = true)) = true) {n y m d : Int} (hJ : JDate n y m d) : P (decide (y % 4 = 0)) m d = true := by
  obtain ⟨_, h2, h3, h4, h5⟩ := hJ
  rw [jdim_eq] at h5
  exact of_decide_eq_true (tab h _ h2 h3 h4 (Int.le_trans h5 (len_31 _ _ (fb_in _).2))) h5
theorem ju_0 {n y m d : Int} (h : JDate n y m d) : n = 1461 * ((if m ≤ 2 then y - 1 else y) + 4716) / 4 + mm m + d - 1524 := h.1
theorem ju_C {n y m d : Int} (h : JDate n y m d) : juC n = (if m ≤ 2 then y - 1 else y) + 4716 := by
  have t := of_decide_eq_true (jtab (P := fun b m d => decide (123 ≤ mm m + d ∧ (mm m + d ≤ 487 ∨ (mm m + d = 488 ∧ m ≤ 2 ∧ b = true)))) (by decide +kernel) h)
  have e := ju_0 h
  unfold juC
  rw [fd_ed _ _ (by decide)]
  have t2 : mm m + d ≤ 487 ∨ (mm m + d = 488 ∧ m ≤ 2 ∧ y % 4 = 0) := t.2.imp id fun x => ⟨x.1, x.2.1, of_decide_eq_true x.2.2⟩
  have t1 := t.1
  generalize mm m = A at *
  split at e <;> split <;> omega
theorem ju_D0 {n y m d : Int} (h : JDate n y m d) : n + 1524 - juD0 n = mm m + d := by
  have e := ju_0 h
  unfold juD0
  rw [ju_C h, fd_ed _ _ (by decide)]
  generalize 1461 * ((if m ≤ 2 then y - 1 else y) + 4716) / 4 = A at *
  omega
theorem ju_E {n y m d : Int} (h : JDate n y m d) : juE n = (if m ≤ 2 then m + 12 else m) + 1 := by
  unfold juE
  rw [ju_D0 h, fd_ed _ _ (by decide)]
  exact of_decide_eq_true (jtab (P := fun _ m d => decide ((mm m + d) * 10000 / 306001 = (if m ≤ 2 then m + 12 else m) + 1)) (by decide +kernel) h)
theorem ju_M {n y m d : Int} (h : JDate n y m d) : juM n = m := by
  unfold juM
  rw [ju_E h]
  have h2 := h.2.1
  have h3 := h.2.2.1
  by_cases hm : m ≤ 2
  · rw [if_pos hm, if_neg (by omega)]; omega
  · rw [if_neg hm, if_pos (by omega)]; omega
theorem ju_Y {n y m d : Int} (h : JDate n y m d) : juY n = y := by
  unfold juY
  rw [ju_M h, ju_C h]
  by_cases hm : m ≤ 2
  · rw [if_pos hm, if_neg (by omega)]; omega
  · rw [if_neg hm, if_pos (by omega)]; omega
theorem ju_D {n y m d : Int} (h : JDate n y m d) : juD n = d := by
  unfold juD
  rw [ju_E h, ju_D0 h, fd_ed _ _ (by decide)]
  show mm m + d - mm m = d
  omega
theorem gd_11 (y : Int) : GDate (FY y) y 1 1 := ⟨(toJdF_11 y).symm, by decide, by decide, by decide, dim_ge1 y 1⟩
theorem first_eq (y : Int) : 2451545 + 146097 * (y - 2000).fdiv 400 + 365 * (y - 2000).fmod 400 + ((y - 2000).fmod 400 + 3).fdiv 4 -
      (if (y - 2000).fmod 400 - 1 > 0 then (y - 2000).fmod 400 - 1 else 0).fdiv 100 = FY y := by
  simp (discharger := decide) only [fd_ed, fm_em]
  unfold FY
  split <;> omega
theorem less1 {y n : Int} (h : n < FY y) : (FY (y - 1) - n).toNat < (FY y - n).toNat := by
  have := FY_lt (a := y - 1) (b := y) (by omega); omega
theorem less2 {y n : Int} (h : FY (y + 1) ≤ n) : (n - FY (y + 1)).toNat < (n - FY y).toNat := by
  have := FY_lt (a := y) (b := y + 1) (by omega); omega
abbrev RG (n : Int) (h₀ : Heap) (L : Addr) (m : Str → Option Value) (news : List (Addr × Obj)) (s : Shared) (Q : Value → Shared → Prop) : Prop :=
  ∀ y m' d : Int, GDate n y m' d → RT3 y m' d h₀ L m news s Q
/-- the walk of the months -/
def WInv (f p day month : Int) : Prop := 1 ≤ month ∧ month ≤ 12 ∧ 0 ≤ day ∧ day = p - cumf f month
theorem wi_0 {f p m d : Int} (h : WDate f p m d) : WInv f p p 1 := ⟨by decide, by decide, (wd_lt h).1, by show p = p - (0 + 0); omega⟩
abbrev lenL (f month : Int) : Int := [31, f, 31, 30, 31, 30, 31, 31, 30, 31, 30, 31].getD (month - 1).toNat 0
theorem wi_tab {f p m d month : Int} (hW : WDate f p m d) (h1 : 1 ≤ month) (h2 : month ≤ 12) : lenL f month = lenf f month ∧ 28 ≤ lenf f month ∧ (month < 12 → cumf f (month + 1) = cumf f month + lenf f month) ∧ (month = 12 → cumf f month + lenf f month = 337 + f) := by
  obtain ⟨b, rfl⟩ := fb_of hW.1 hW.2.1
  exact of_decide_eq_true (tab (P := fun b m _ => decide (lenL (fb b) m = lenf (fb b) m ∧ 28 ≤ lenf (fb b) m ∧ (m < 12 → cumf (fb b) (m + 1) = cumf (fb b) m + lenf (fb b) m) ∧ (m = 12 → cumf (fb b) m + lenf (fb b) m = 337 + fb b))) (by decide +kernel) b h1 h2 (d := 1) (by decide) (by decide))
theorem wi_step {f p m d day month : Int} (hW : WDate f p m d) (h : WInv f p day month) (hl : lenL f month ≤ day) : WInv f p (day - lenL f month) (month + 1) := by
  obtain ⟨i1, i2, i3, i4⟩ := h
  obtain ⟨e, t1, t2, t3⟩ := wi_tab hW i1 i2
  have hp := (wd_lt hW).2.1
  rw [e] at hl ⊢
  have h12 : month < 12 := by omega
  exact ⟨by omega, by omega, by omega, by rw [t2 h12]; omega⟩
theorem wi_less {f p m d day month : Int} (hW : WDate f p m d) (h : WInv f p day month) (hl : lenL f month ≤ day) : (day - lenL f month).toNat < day.toNat := by
  obtain ⟨e, t1, -⟩ := wi_tab hW h.1 h.2.1
  rw [e] at hl ⊢
  omega
theorem wi_end {f p m d day month : Int} (hW : WDate f p m d) (h : WInv f p day month) (hl : ¬ lenL f month ≤ day) : month = m ∧ day + 1 = d := by
  obtain ⟨i1, i2, i3, i4⟩ := h
  rw [(wi_tab hW i1 i2).1] at hl
  have t := wd_uniq hW i1 i2 (by omega) (by omega)
  exact ⟨t.1, by rw [i4]; exact t.2⟩
abbrev ClmE (w : World) (loose : List Str) (mean : ExcName → Option Value) (mg mb : Str → Option Value) (k : Nat) (f : Addr) (vs : List Value) (e : Addr × Obj)
    (Ret : Heap → Addr → (Str → Option Value) → List (Addr × Obj) → Shared → (Value → Shared → Prop) → Prop) : Prop :=
  ∀ (news : List (Addr × Obj)) (dp un : Nat) (gd : Option (List Code)) (cn : Str) (cs : Scope) (a : Addr) (ccd : Value) (cl : List (Str × Addr)) (outer : List Env) (A₀ : Around) (base h₀ : Heap) (L : Addr) (m : Str → Option Value) (s : Shared) (Q E : Value → Shared → Prop),
    Below A₀ base outer h₀ → Fr h₀ L s.heap m → (JB.hd.heap_1 w.params).In h₀ → News h₀ L s.heap (e :: news) → Top JB.vw loose mean mg mb h₀ → cs.kind = .function →
    dp + k < recursionLimit → un + 8 * k < cLine → Ret h₀ L m (e :: news) s Q →
      wpAny (model PySem.Challenge.rw_jb0014_01.row.prog w) (ktrTop dp un gd cn cs L a ccd cl outer) (call (.ref f) vs) Q E s
theorem ClmE.go {w : World} {loose : List Str} {mean : ExcName → Option Value} {mg mb : Str → Option Value} {k : Nat} {f : Addr} {vs : List Value} {e : Addr × Obj}
    {Ret : Heap → Addr → (Str → Option Value) → List (Addr × Obj) → Shared → (Value → Shared → Prop) → Prop}
    (C : ClmE w loose mean mg mb k f vs e Ret)
    {news : List (Addr × Obj)} {dp un : Nat} {gd : Option (List Code)} {cn : Str} {cs : Scope} {a : Addr} {ccd : Value} {cl : List (Str × Addr)} {outer : List Env} {A₀ : Around} {base h₀ : Heap} {L : Addr} {m : Str → Option Value} {s : Shared} {Q E : Value → Shared → Prop}
    (B : Below A₀ base outer h₀) (F : Fr h₀ L s.heap m) (X : (JB.hd.heap_1 w.params).In h₀) (N : News h₀ L s.heap (e :: news)) (T : Top JB.vw loose mean mg mb h₀) (hk : cs.kind = .function)
    (hd : dp + k < recursionLimit) (hu : un + 8 * k < cLine) (ret : Ret h₀ L m (e :: news) s Q) :
      wpAny (model PySem.Challenge.rw_jb0014_01.row.prog w) (ktrTop dp un gd cn cs L a ccd cl outer) (call (.ref f) vs) Q E s :=
  C news dp un gd cn cs a ccd cl outer A₀ base h₀ L m s Q E B F X N T hk hd hu ret
abbrev lens (f : Int) (a1 a2 a3 a4 a5 a6 a7 a8 a9 a10 a11 a12 : Tok) (c : Nat) : Obj :=
  listOf #[.int 31 a1, .int f a2, .int 31 a3, .int 30 a4, .int 31 a5, .int 30 a6, .int 31 a7, .int 31 a8, .int 30 a9, .int 31 a10, .int 30 a11, .int 31 a12] c
theorem wd_of_gd {n y m d x : Int} (hG : GDate n y m d) (h1 : FY x ≤ n) (h2 : ¬ FY (x + 1) ≤ n) : x = y ∧ WDate (FY (x + 1) - FY x - 337) (n - FY x) m d := by
  have e : x = y := FY_uniq h1 (by omega) (gd_place hG).1 (gd_place hG).2
  subst e
  have e : FY (x + 1) - FY x - 337 = fb (leapB x) := by rw [FY_step, fb_b]; omega
  rw [e]
  exact ⟨rfl, gd_wd hG⟩
local macro_rules | `(tactic| walk_at "eval Call") => `(tactic| (k_here; k_dflt (refine Call_ ?_)))
theorem c_isleap {w : World} {loose : List Str} {mean : ExcName → Option Value} {mg mb : Str → Option Value} {y : Int} {t : Tok}  : Clm w loose mean mg mb 1 21 [.int y t] (RB (leapB y)) := by
  unfold Clm RB
  k_fill
  intro news dp un gd cn cs a ccd cl outer A₀ base h₀ L m s Q E B F X N T hk hd hu hret
  refine wpAny_call ?_
  k_dflt cell_enter
  k_steps
  all_goals (refine' rb_end hret ?jF ?jN ?js ?je; (case jF => k_asm); (case jN => k_asm); (case js => first | with_reducible exact fun _ h => h | with_reducible exact fun _ h => List.mem_cons_of_mem _ (h) | with_reducible exact fun _ h => List.mem_cons_of_mem _ (List.mem_cons_of_mem _ (h)) | with_reducible exact fun _ h => List.mem_cons_of_mem _ (List.mem_cons_of_mem _ (List.mem_cons_of_mem _ (h))) | with_reducible exact fun _ h => List.mem_cons_of_mem _ (List.mem_cons_of_mem _ (List.mem_cons_of_mem _ (List.mem_cons_of_mem _ (h)))) | with_reducible exact fun _ h => List.mem_cons_of_mem _ (List.mem_cons_of_mem _ (List.mem_cons_of_mem _ (List.mem_cons_of_mem _ (List.mem_cons_of_mem _ (h))))) | with_reducible exact fun _ h => List.mem_cons_of_mem _ (List.mem_cons_of_mem _ (List.mem_cons_of_mem _ (List.mem_cons_of_mem _ (List.mem_cons_of_mem _ (List.mem_cons_of_mem _ (h)))))) | with_reducible exact fun _ h => List.mem_cons_of_mem _ (List.mem_cons_of_mem _ (List.mem_cons_of_mem _ (List.mem_cons_of_mem _ (List.mem_cons_of_mem _ (List.mem_cons_of_mem _ (List.mem_cons_of_mem _ (h))))))) | kcj_all); (case je => (simp (discharger := decide) only [fm_em] at *; simp [leapB, *]; try rfl)))
local macro_rules | `(tactic| walk_at "call ref") => `(tactic| (k_here; k_dflt (refine' Clm.go' (c_isleap ) ?_; walk_at "JIB")))
theorem c_trunc10 {w : World} {loose : List Str} {mean : ExcName → Option Value} {mg mb : Str → Option Value} {x : Int} {t u : Tok} (hx : 0 ≤ x) : Clm w loose mean mg mb 1 28 [.int x t, .int 10 u] (RI (x / 10)) := by
  unfold Clm RI
  k_fill
  intro news dp un gd cn cs a ccd cl outer A₀ base h₀ L m s Q E B F X N T hk hd hu hret
  refine wpAny_call ?_
  k_dflt cell_enter
  k_steps
  all_goals (refine' ri_end hret ?jF ?jN ?js ?je; (case jF => k_asm); (case jN => k_asm); (case js => first | with_reducible exact fun _ h => h | with_reducible exact fun _ h => List.mem_cons_of_mem _ (h) | with_reducible exact fun _ h => List.mem_cons_of_mem _ (List.mem_cons_of_mem _ (h)) | with_reducible exact fun _ h => List.mem_cons_of_mem _ (List.mem_cons_of_mem _ (List.mem_cons_of_mem _ (h))) | with_reducible exact fun _ h => List.mem_cons_of_mem _ (List.mem_cons_of_mem _ (List.mem_cons_of_mem _ (List.mem_cons_of_mem _ (h)))) | with_reducible exact fun _ h => List.mem_cons_of_mem _ (List.mem_cons_of_mem _ (List.mem_cons_of_mem _ (List.mem_cons_of_mem _ (List.mem_cons_of_mem _ (h))))) | with_reducible exact fun _ h => List.mem_cons_of_mem _ (List.mem_cons_of_mem _ (List.mem_cons_of_mem _ (List.mem_cons_of_mem _ (List.mem_cons_of_mem _ (List.mem_cons_of_mem _ (h)))))) | with_reducible exact fun _ h => List.mem_cons_of_mem _ (List.mem_cons_of_mem _ (List.mem_cons_of_mem _ (List.mem_cons_of_mem _ (List.mem_cons_of_mem _ (List.mem_cons_of_mem _ (List.mem_cons_of_mem _ (h))))))) | kcj_all); (case je => (simp (discharger := decide) only [fd_ed] at *; simp [*] at *; try omega)))
local macro_rules | `(tactic| walk_at "call ref") => `(tactic| (k_here; k_dflt (refine' Clm.go' (c_trunc10 ?p0) ?_; (case p0 => first | assumption | omega); walk_at "JII")))
theorem c_trunc367 {w : World} {loose : List Str} {mean : ExcName → Option Value} {mg mb : Str → Option Value} {x : Int} {t u : Tok} (hx : 0 ≤ x) : Clm w loose mean mg mb 1 28 [.int x t, .int 367 u] (RI (x / 367)) := by
  unfold Clm RI
  k_fill
  intro news dp un gd cn cs a ccd cl outer A₀ base h₀ L m s Q E B F X N T hk hd hu hret
  refine wpAny_call ?_
  k_dflt cell_enter
  k_steps
  all_goals (refine' ri_end hret ?jF ?jN ?js ?je; (case jF => k_asm); (case jN => k_asm); (case js => first | with_reducible exact fun _ h => h | with_reducible exact fun _ h => List.mem_cons_of_mem _ (h) | with_reducible exact fun _ h => List.mem_cons_of_mem _ (List.mem_cons_of_mem _ (h)) | with_reducible exact fun _ h => List.mem_cons_of_mem _ (List.mem_cons_of_mem _ (List.mem_cons_of_mem _ (h))) | with_reducible exact fun _ h => List.mem_cons_of_mem _ (List.mem_cons_of_mem _ (List.mem_cons_of_mem _ (List.mem_cons_of_mem _ (h)))) | with_reducible exact fun _ h => List.mem_cons_of_mem _ (List.mem_cons_of_mem _ (List.mem_cons_of_mem _ (List.mem_cons_of_mem _ (List.mem_cons_of_mem _ (h))))) | with_reducible exact fun _ h => List.mem_cons_of_mem _ (List.mem_cons_of_mem _ (List.mem_cons_of_mem _ (List.mem_cons_of_mem _ (List.mem_cons_of_mem _ (List.mem_cons_of_mem _ (h)))))) | with_reducible exact fun _ h => List.mem_cons_of_mem _ (List.mem_cons_of_mem _ (List.mem_cons_of_mem _ (List.mem_cons_of_mem _ (List.mem_cons_of_mem _ (List.mem_cons_of_mem _ (List.mem_cons_of_mem _ (h))))))) | kcj_all); (case je => (simp (discharger := decide) only [fd_ed] at *; simp [*] at *; try omega)))
local macro_rules | `(tactic| walk_at "call ref") => `(tactic| (k_here; k_dflt (refine' Clm.go' (c_trunc367 ?p0) ?_; (case p0 => first | assumption | omega); walk_at "JII")))
local macro_rules | `(tactic| walk_at "compareOp In int ref") => `(tactic| (k_here; k_dflt (refine' in_top4 ?jF ?jX ?jl ?ji ?_; (case jF => k_asm); (case jX => k_asm); (case jl => k_is); (case ji => exact .cons _ _ (.cons _ _ (.cons _ _ (.cons _ _ .nil)))); k_whole)))
local macro_rules | `(tactic| walk_at "exec Raise some none") => `(tactic| first
  | (exfalso; (have hd9 := dim_31 (by assumption)); omega)
  | (exfalso; (have hd9 := dim_29 (by assumption) (by assumption)); omega)
  | (exfalso; (have hd9 := dim_28 (by assumption) (by assumption) (by assumption)); omega)
  | (exfalso; (have hd9 := dim_30 (by assumption) (by assumption)); omega))
theorem c_legal {w : World} {loose : List Str} {mean : ExcName → Option Value} {mg mb : Str → Option Value} {y m' d : Int} {t u v : Tok} (h1 : 1 ≤ d) (h2 : d ≤ dim y m') : Clm w loose mean mg mb 2 36 [.int y t, .int m' u, .int d v] (RB true) := by
  unfold Clm RB
  k_fill
  intro news dp un gd cn cs a ccd cl outer A₀ base h₀ L m s Q E B F X N T hk hd hu hret
  refine wpAny_call ?_
  k_dflt cell_enter
  k_steps
  all_goals (refine' rb_end hret ?jF ?jN ?js ?je; (case jF => k_asm); (case jN => k_asm); (case js => first | with_reducible exact fun _ h => h | with_reducible exact fun _ h => List.mem_cons_of_mem _ (h) | with_reducible exact fun _ h => List.mem_cons_of_mem _ (List.mem_cons_of_mem _ (h)) | with_reducible exact fun _ h => List.mem_cons_of_mem _ (List.mem_cons_of_mem _ (List.mem_cons_of_mem _ (h))) | with_reducible exact fun _ h => List.mem_cons_of_mem _ (List.mem_cons_of_mem _ (List.mem_cons_of_mem _ (List.mem_cons_of_mem _ (h)))) | with_reducible exact fun _ h => List.mem_cons_of_mem _ (List.mem_cons_of_mem _ (List.mem_cons_of_mem _ (List.mem_cons_of_mem _ (List.mem_cons_of_mem _ (h))))) | with_reducible exact fun _ h => List.mem_cons_of_mem _ (List.mem_cons_of_mem _ (List.mem_cons_of_mem _ (List.mem_cons_of_mem _ (List.mem_cons_of_mem _ (List.mem_cons_of_mem _ (h)))))) | with_reducible exact fun _ h => List.mem_cons_of_mem _ (List.mem_cons_of_mem _ (List.mem_cons_of_mem _ (List.mem_cons_of_mem _ (List.mem_cons_of_mem _ (List.mem_cons_of_mem _ (List.mem_cons_of_mem _ (h))))))) | kcj_all); (case je => (rfl)))
local macro_rules | `(tactic| walk_at "call ref") => `(tactic| (k_here; k_dflt (refine' Clm.go' (c_legal ?p0 ?p1) ?_; (case p0 => first | with_reducible assumption | omega | (refine' gd_d1 ?jq; (case jq => with_reducible assumption))); (case p1 => first | with_reducible assumption | exact dim_ge1 _ _ | (refine' gd_d2 ?jq; (case jq => with_reducible assumption))); walk_at "JIB")))
theorem c_to_jd2 {w : World} {loose : List Str} {mean : ExcName → Option Value} {mg mb : Str → Option Value} {y m' d : Int} {t u v : Tok} (h1 : 1 ≤ d) (h2 : d ≤ dim y m') : Clm w loose mean mg mb 3 43 [.int y t, .int m' u, .int d v] (RI (toJd2F y m' d)) := by
  unfold Clm RI
  k_fill
  intro news dp un gd cn cs a ccd cl outer A₀ base h₀ L m s Q E B F X N T hk hd hu hret
  refine wpAny_call ?_
  k_dflt cell_enter
  k_steps
  all_goals (refine' ri_end hret ?jF ?jN ?js ?je; (case jF => k_asm); (case jN => k_asm); (case js => first | with_reducible exact fun _ h => h | with_reducible exact fun _ h => List.mem_cons_of_mem _ (h) | with_reducible exact fun _ h => List.mem_cons_of_mem _ (List.mem_cons_of_mem _ (h)) | with_reducible exact fun _ h => List.mem_cons_of_mem _ (List.mem_cons_of_mem _ (List.mem_cons_of_mem _ (h))) | with_reducible exact fun _ h => List.mem_cons_of_mem _ (List.mem_cons_of_mem _ (List.mem_cons_of_mem _ (List.mem_cons_of_mem _ (h)))) | with_reducible exact fun _ h => List.mem_cons_of_mem _ (List.mem_cons_of_mem _ (List.mem_cons_of_mem _ (List.mem_cons_of_mem _ (List.mem_cons_of_mem _ (h))))) | with_reducible exact fun _ h => List.mem_cons_of_mem _ (List.mem_cons_of_mem _ (List.mem_cons_of_mem _ (List.mem_cons_of_mem _ (List.mem_cons_of_mem _ (List.mem_cons_of_mem _ (h)))))) | with_reducible exact fun _ h => List.mem_cons_of_mem _ (List.mem_cons_of_mem _ (List.mem_cons_of_mem _ (List.mem_cons_of_mem _ (List.mem_cons_of_mem _ (List.mem_cons_of_mem _ (List.mem_cons_of_mem _ (h))))))) | kcj_all); (case je => ((try simp (discharger := decide) only [fm_em, fd_ed] at *); simp [toJd2F, *])))
local macro_rules | `(tactic| walk_at "call ref") => `(tactic| (k_here; k_dflt (refine' Clm.go' (c_to_jd2 ?p0 ?p1) ?_; (case p0 => first | with_reducible assumption | omega | (refine' gd_d1 ?jq; (case jq => with_reducible assumption))); (case p1 => first | with_reducible assumption | exact dim_ge1 _ _ | (refine' gd_d2 ?jq; (case jq => with_reducible assumption))); walk_at "JII")))
theorem c_to_jd {w : World} {loose : List Str} {mean : ExcName → Option Value} {mg mb : Str → Option Value} {y m' d : Int} {t u v : Tok} (h1 : 1 ≤ d) (h2 : d ≤ dim y m') : Clm w loose mean mg mb 3 50 [.int y t, .int m' u, .int d v] (RI (toJdF y m' d)) := by
  unfold Clm RI
  k_fill
  intro news dp un gd cn cs a ccd cl outer A₀ base h₀ L m s Q E B F X N T hk hd hu hret
  refine wpAny_call ?_
  k_dflt cell_enter
  k_steps
  all_goals (refine' ri_end hret ?jF ?jN ?js ?je; (case jF => k_asm); (case jN => k_asm); (case js => first | with_reducible exact fun _ h => h | with_reducible exact fun _ h => List.mem_cons_of_mem _ (h) | with_reducible exact fun _ h => List.mem_cons_of_mem _ (List.mem_cons_of_mem _ (h)) | with_reducible exact fun _ h => List.mem_cons_of_mem _ (List.mem_cons_of_mem _ (List.mem_cons_of_mem _ (h))) | with_reducible exact fun _ h => List.mem_cons_of_mem _ (List.mem_cons_of_mem _ (List.mem_cons_of_mem _ (List.mem_cons_of_mem _ (h)))) | with_reducible exact fun _ h => List.mem_cons_of_mem _ (List.mem_cons_of_mem _ (List.mem_cons_of_mem _ (List.mem_cons_of_mem _ (List.mem_cons_of_mem _ (h))))) | with_reducible exact fun _ h => List.mem_cons_of_mem _ (List.mem_cons_of_mem _ (List.mem_cons_of_mem _ (List.mem_cons_of_mem _ (List.mem_cons_of_mem _ (List.mem_cons_of_mem _ (h)))))) | with_reducible exact fun _ h => List.mem_cons_of_mem _ (List.mem_cons_of_mem _ (List.mem_cons_of_mem _ (List.mem_cons_of_mem _ (List.mem_cons_of_mem _ (List.mem_cons_of_mem _ (List.mem_cons_of_mem _ (h))))))) | kcj_all); (case je => ((try simp (discharger := decide) only [fm_em, fd_ed] at *); simp [toJdF, adjF, *]; try omega)))
local macro_rules | `(tactic| walk_at "call ref") => `(tactic| (k_here; k_dflt (refine' Clm.go' (c_to_jd ?p0 ?p1) ?_; (case p0 => first | with_reducible assumption | omega | (refine' gd_d1 ?jq; (case jq => with_reducible assumption))); (case p1 => first | with_reducible assumption | exact dim_ge1 _ _ | (refine' gd_d2 ?jq; (case jq => with_reducible assumption))); walk_at "JII")))
theorem c_from_jd {w : World} {loose : List Str} {mean : ExcName → Option Value} {mg mb : Str → Option Value} {n : Int} {t : Tok}  : Clm w loose mean mg mb 4 57 [.int n t] (RT3 (fjY n) (fjM (fjY n) (n - toJdF (fjY n) 1 1)) (n - toJdF (fjY n) (fjM (fjY n) (n - toJdF (fjY n) 1 1)) 1 + 1)) := by
  unfold Clm RT3
  k_fill
  intro news dp un gd cn cs a ccd cl outer A₀ base h₀ L m s Q E B F X N T hk hd hu hret
  refine wpAny_call ?_
  k_dflt cell_enter
  k_steps
  all_goals (refine' fj_end hret ?jF ?jN ?jm ?js ?jl ?je1 ?je2; (case jF => k_asm); (case jN => k_asm); (case jm => k_mem); (case js => first | with_reducible exact fun _ h => h | with_reducible exact fun _ h => List.mem_cons_of_mem _ (h) | with_reducible exact fun _ h => List.mem_cons_of_mem _ (List.mem_cons_of_mem _ (h)) | with_reducible exact fun _ h => List.mem_cons_of_mem _ (List.mem_cons_of_mem _ (List.mem_cons_of_mem _ (h))) | with_reducible exact fun _ h => List.mem_cons_of_mem _ (List.mem_cons_of_mem _ (List.mem_cons_of_mem _ (List.mem_cons_of_mem _ (h)))) | with_reducible exact fun _ h => List.mem_cons_of_mem _ (List.mem_cons_of_mem _ (List.mem_cons_of_mem _ (List.mem_cons_of_mem _ (List.mem_cons_of_mem _ (h))))) | with_reducible exact fun _ h => List.mem_cons_of_mem _ (List.mem_cons_of_mem _ (List.mem_cons_of_mem _ (List.mem_cons_of_mem _ (List.mem_cons_of_mem _ (List.mem_cons_of_mem _ (h)))))) | with_reducible exact fun _ h => List.mem_cons_of_mem _ (List.mem_cons_of_mem _ (List.mem_cons_of_mem _ (List.mem_cons_of_mem _ (List.mem_cons_of_mem _ (List.mem_cons_of_mem _ (List.mem_cons_of_mem _ (h))))))) | kcj_all); (case jl => first | with_reducible assumption | (with_reducible refine' allLt_of ?jl; (case jl => with_reducible assumption)) | (with_reducible refine' allLt_cons1 ?jl; (case jl => with_reducible assumption)) | (with_reducible refine' allLt_and ?jl; (case jl => with_reducible assumption)) | (with_reducible refine' allLt_and2 ?jl; (case jl => with_reducible assumption)) | (with_reducible refine' allLt_tr ?jl ?jk; (case jl => with_reducible assumption); (case jk => with_reducible assumption))); (case je1 => (first | (with_reducible refine' fjY_c ?jx0; (case jx0 => with_reducible assumption)) | (with_reducible refine' fjY_i ?jx0; (case jx0 => with_reducible assumption)) | (with_reducible refine' fjY_n ?jx0 ?jx1; (case jx0 => with_reducible assumption); (case jx1 => with_reducible assumption)))); (case je2 => (first | (with_reducible refine' yadj_0 ?jx0; (case jx0 => with_reducible assumption)) | (with_reducible refine' yadj_1 ?jx0 ?jx1; (case jx0 => with_reducible assumption); (case jx1 => with_reducible assumption)) | (with_reducible refine' yadj_2 ?jx0 ?jx1; (case jx0 => with_reducible assumption); (case jx1 => with_reducible assumption)))))
local macro_rules | `(tactic| walk_at "call ref") => `(tactic| (k_here; k_dflt (refine' Clm.go' (c_from_jd ) ?_; walk_at "JIT3")))
theorem c_from_jd_G {w : World} {loose : List Str} {mean : ExcName → Option Value} {mg mb : Str → Option Value} {n y m' d : Int} {t : Tok} (hG : GDate n y m' d) : Clm w loose mean mg mb 4 57 [.int n t] (RT3 y m' d) := by
  have h := @c_from_jd w loose mean mg mb n t
  rw [gd_fjY hG, toJdF_11, gd_fjM hG, gd_fjD hG] at h
  exact h
local macro_rules | `(tactic| walk_at "call ref") => `(tactic| (k_here; k_dflt (refine' Clm.go' (c_from_jd_G ?p0) ?_; (case p0 => walk_at "JG"); walk_at "JIT3")))
theorem c_to_jd_ord {w : World} {loose : List Str} {mean : ExcName → Option Value} {mg mb : Str → Option Value} {y p : Int} {t u : Tok}  : Clm w loose mean mg mb 4 64 [.int y t, .int p u] (RI (FY y + p - 1)) := by
  unfold Clm RI
  k_fill
  intro news dp un gd cn cs a ccd cl outer A₀ base h₀ L m s Q E B F X N T hk hd hu hret
  refine wpAny_call ?_
  k_dflt cell_enter
  k_steps
  all_goals (refine' ri_end hret ?jF ?jN ?js ?je; (case jF => k_asm); (case jN => k_asm); (case js => first | with_reducible exact fun _ h => h | with_reducible exact fun _ h => List.mem_cons_of_mem _ (h) | with_reducible exact fun _ h => List.mem_cons_of_mem _ (List.mem_cons_of_mem _ (h)) | with_reducible exact fun _ h => List.mem_cons_of_mem _ (List.mem_cons_of_mem _ (List.mem_cons_of_mem _ (h))) | with_reducible exact fun _ h => List.mem_cons_of_mem _ (List.mem_cons_of_mem _ (List.mem_cons_of_mem _ (List.mem_cons_of_mem _ (h)))) | with_reducible exact fun _ h => List.mem_cons_of_mem _ (List.mem_cons_of_mem _ (List.mem_cons_of_mem _ (List.mem_cons_of_mem _ (List.mem_cons_of_mem _ (h))))) | with_reducible exact fun _ h => List.mem_cons_of_mem _ (List.mem_cons_of_mem _ (List.mem_cons_of_mem _ (List.mem_cons_of_mem _ (List.mem_cons_of_mem _ (List.mem_cons_of_mem _ (h)))))) | with_reducible exact fun _ h => List.mem_cons_of_mem _ (List.mem_cons_of_mem _ (List.mem_cons_of_mem _ (List.mem_cons_of_mem _ (List.mem_cons_of_mem _ (List.mem_cons_of_mem _ (List.mem_cons_of_mem _ (h))))))) | kcj_all); (case je => (rw [toJdF_11])))
local macro_rules | `(tactic| walk_at "call ref") => `(tactic| (k_here; k_dflt (refine' Clm.go' (c_to_jd_ord ) ?_; walk_at "JII")))
theorem c_from_jd_ord {w : World} {loose : List Str} {mean : ExcName → Option Value} {mg mb : Str → Option Value} {n y m' d : Int} {t : Tok} (hG : GDate n y m' d) : Clm w loose mean mg mb 5 71 [.int n t] (RT2 y (n - FY y + 1)) := by
  unfold Clm RT2
  k_fill
  intro news dp un gd cn cs a ccd cl outer A₀ base h₀ L m s Q E B F X N T hk hd hu hret
  refine wpAny_call ?_
  k_dflt cell_enter
  k_steps
  all_goals (refine' rt2_end hret ?jF ?jN ?jm ?js ?jl ?je1 ?je2; (case jF => k_asm); (case jN => k_asm); (case jm => k_mem); (case js => first | with_reducible exact fun _ h => h | with_reducible exact fun _ h => List.mem_cons_of_mem _ (h) | with_reducible exact fun _ h => List.mem_cons_of_mem _ (List.mem_cons_of_mem _ (h)) | with_reducible exact fun _ h => List.mem_cons_of_mem _ (List.mem_cons_of_mem _ (List.mem_cons_of_mem _ (h))) | with_reducible exact fun _ h => List.mem_cons_of_mem _ (List.mem_cons_of_mem _ (List.mem_cons_of_mem _ (List.mem_cons_of_mem _ (h)))) | with_reducible exact fun _ h => List.mem_cons_of_mem _ (List.mem_cons_of_mem _ (List.mem_cons_of_mem _ (List.mem_cons_of_mem _ (List.mem_cons_of_mem _ (h))))) | with_reducible exact fun _ h => List.mem_cons_of_mem _ (List.mem_cons_of_mem _ (List.mem_cons_of_mem _ (List.mem_cons_of_mem _ (List.mem_cons_of_mem _ (List.mem_cons_of_mem _ (h)))))) | with_reducible exact fun _ h => List.mem_cons_of_mem _ (List.mem_cons_of_mem _ (List.mem_cons_of_mem _ (List.mem_cons_of_mem _ (List.mem_cons_of_mem _ (List.mem_cons_of_mem _ (List.mem_cons_of_mem _ (h))))))) | kcj_all); (case jl => first | with_reducible assumption | (with_reducible refine' allLt_of ?jl; (case jl => with_reducible assumption)) | (with_reducible refine' allLt_cons1 ?jl; (case jl => with_reducible assumption)) | (with_reducible refine' allLt_and ?jl; (case jl => with_reducible assumption)) | (with_reducible refine' allLt_and2 ?jl; (case jl => with_reducible assumption)) | (with_reducible refine' allLt_tr ?jl ?jk; (case jl => with_reducible assumption); (case jk => with_reducible assumption))); (case je1 => (rfl)); (case je2 => (rw [toJdF_11, ← hG.1])))
local macro_rules | `(tactic| walk_at "call ref") => `(tactic| (k_here; k_dflt (refine' Clm.go' (c_from_jd_ord ?p0) ?_; (case p0 => first | assumption | omega); walk_at "JIT2")))
theorem c_from_greg_ord {w : World} {loose : List Str} {mean : ExcName → Option Value} {mg mb : Str → Option Value} {y m' d : Int} {t u v : Tok} (hm : 0 ≤ m') : Clm w loose mean mg mb 2 78 [.int y t, .int m' u, .int d v] (RT2 y (fgR y m' d)) := by
  unfold Clm RT2
  k_fill
  intro news dp un gd cn cs a ccd cl outer A₀ base h₀ L m s Q E B F X N T hk hd hu hret
  refine wpAny_call ?_
  k_dflt cell_enter
  k_steps
  all_goals (refine' rt2_end hret ?jF ?jN ?jm ?js ?jl ?je1 ?je2; (case jF => k_asm); (case jN => k_asm); (case jm => k_mem); (case js => first | with_reducible exact fun _ h => h | with_reducible exact fun _ h => List.mem_cons_of_mem _ (h) | with_reducible exact fun _ h => List.mem_cons_of_mem _ (List.mem_cons_of_mem _ (h)) | with_reducible exact fun _ h => List.mem_cons_of_mem _ (List.mem_cons_of_mem _ (List.mem_cons_of_mem _ (h))) | with_reducible exact fun _ h => List.mem_cons_of_mem _ (List.mem_cons_of_mem _ (List.mem_cons_of_mem _ (List.mem_cons_of_mem _ (h)))) | with_reducible exact fun _ h => List.mem_cons_of_mem _ (List.mem_cons_of_mem _ (List.mem_cons_of_mem _ (List.mem_cons_of_mem _ (List.mem_cons_of_mem _ (h))))) | with_reducible exact fun _ h => List.mem_cons_of_mem _ (List.mem_cons_of_mem _ (List.mem_cons_of_mem _ (List.mem_cons_of_mem _ (List.mem_cons_of_mem _ (List.mem_cons_of_mem _ (h)))))) | with_reducible exact fun _ h => List.mem_cons_of_mem _ (List.mem_cons_of_mem _ (List.mem_cons_of_mem _ (List.mem_cons_of_mem _ (List.mem_cons_of_mem _ (List.mem_cons_of_mem _ (List.mem_cons_of_mem _ (h))))))) | kcj_all); (case jl => first | with_reducible assumption | (with_reducible refine' allLt_of ?jl; (case jl => with_reducible assumption)) | (with_reducible refine' allLt_cons1 ?jl; (case jl => with_reducible assumption)) | (with_reducible refine' allLt_and ?jl; (case jl => with_reducible assumption)) | (with_reducible refine' allLt_and2 ?jl; (case jl => with_reducible assumption)) | (with_reducible refine' allLt_tr ?jl ?jk; (case jl => with_reducible assumption); (case jk => with_reducible assumption))); (case je1 => (rfl)); (case je2 => (first | (with_reducible refine' fgR_aa ?jx0 ?jx1; (case jx0 => with_reducible assumption); (case jx1 => with_reducible assumption)) | (with_reducible refine' fgR_ab ?jx0 ?jx1; (case jx0 => with_reducible assumption); (case jx1 => with_reducible assumption)) | (with_reducible refine' fgR_ba ?jx0 ?jx1; (case jx0 => with_reducible assumption); (case jx1 => with_reducible assumption)) | (with_reducible refine' fgR_bb ?jx0 ?jx1; (case jx0 => with_reducible assumption); (case jx1 => with_reducible assumption)))))
local macro_rules | `(tactic| walk_at "call ref") => `(tactic| (k_here; k_dflt (refine' Clm.go' (c_from_greg_ord ?p0) ?_; (case p0 => first | assumption | omega); walk_at "JIT2")))
theorem c_to_greg_ord {w : World} {loose : List Str} {mean : ExcName → Option Value} {mg mb : Str → Option Value} {y p : Int} {t u : Tok} (hp : 1 ≤ p) : Clm w loose mean mg mb 3 85 [.int y t, .int p u] (RT3 y (tgM y p) (p - fgR y (tgM y p) 1 + 1)) := by
  unfold Clm RT3
  k_fill
  intro news dp un gd cn cs a ccd cl outer A₀ base h₀ L m s Q E B F X N T hk hd hu hret
  refine wpAny_call ?_
  k_dflt cell_enter
  k_steps
  all_goals (refine' tg_end hret ?jF ?jN ?jm ?js ?jl ?je; (case jF => k_asm); (case jN => k_asm); (case jm => k_mem); (case js => first | with_reducible exact fun _ h => h | with_reducible exact fun _ h => List.mem_cons_of_mem _ (h) | with_reducible exact fun _ h => List.mem_cons_of_mem _ (List.mem_cons_of_mem _ (h)) | with_reducible exact fun _ h => List.mem_cons_of_mem _ (List.mem_cons_of_mem _ (List.mem_cons_of_mem _ (h))) | with_reducible exact fun _ h => List.mem_cons_of_mem _ (List.mem_cons_of_mem _ (List.mem_cons_of_mem _ (List.mem_cons_of_mem _ (h)))) | with_reducible exact fun _ h => List.mem_cons_of_mem _ (List.mem_cons_of_mem _ (List.mem_cons_of_mem _ (List.mem_cons_of_mem _ (List.mem_cons_of_mem _ (h))))) | with_reducible exact fun _ h => List.mem_cons_of_mem _ (List.mem_cons_of_mem _ (List.mem_cons_of_mem _ (List.mem_cons_of_mem _ (List.mem_cons_of_mem _ (List.mem_cons_of_mem _ (h)))))) | with_reducible exact fun _ h => List.mem_cons_of_mem _ (List.mem_cons_of_mem _ (List.mem_cons_of_mem _ (List.mem_cons_of_mem _ (List.mem_cons_of_mem _ (List.mem_cons_of_mem _ (List.mem_cons_of_mem _ (h))))))) | kcj_all); (case jl => first | with_reducible assumption | (with_reducible refine' allLt_of ?jl; (case jl => with_reducible assumption)) | (with_reducible refine' allLt_cons1 ?jl; (case jl => with_reducible assumption)) | (with_reducible refine' allLt_and ?jl; (case jl => with_reducible assumption)) | (with_reducible refine' allLt_and2 ?jl; (case jl => with_reducible assumption)) | (with_reducible refine' allLt_tr ?jl ?jk; (case jl => with_reducible assumption); (case jk => with_reducible assumption))); (case je => (first | (with_reducible refine' tgM_0 ?jx0; (case jx0 => with_reducible assumption)) | (with_reducible refine' tgM_1 ?jx0 ?jx1; (case jx0 => with_reducible assumption); (case jx1 => with_reducible assumption)) | (with_reducible refine' tgM_2 ?jx0 ?jx1; (case jx0 => with_reducible assumption); (case jx1 => with_reducible assumption)))))
local macro_rules | `(tactic| walk_at "call ref") => `(tactic| (k_here; k_dflt (refine' Clm.go' (c_to_greg_ord ?p0) ?_; (case p0 => first | assumption | omega); walk_at "JIT3")))
theorem c_leap {w : World} {loose : List Str} {mean : ExcName → Option Value} {mg mb : Str → Option Value} {y : Int} {t : Tok}  : Clm w loose mean mg mb 1 93 [.int y t] (RB (decide (y % 4 = 0))) := by
  unfold Clm RB
  k_fill
  intro news dp un gd cn cs a ccd cl outer A₀ base h₀ L m s Q E B F X N T hk hd hu hret
  refine wpAny_call ?_
  k_dflt cell_enter
  k_steps
  all_goals (refine' rb_end hret ?jF ?jN ?js ?je; (case jF => k_asm); (case jN => k_asm); (case js => first | with_reducible exact fun _ h => h | with_reducible exact fun _ h => List.mem_cons_of_mem _ (h) | with_reducible exact fun _ h => List.mem_cons_of_mem _ (List.mem_cons_of_mem _ (h)) | with_reducible exact fun _ h => List.mem_cons_of_mem _ (List.mem_cons_of_mem _ (List.mem_cons_of_mem _ (h))) | with_reducible exact fun _ h => List.mem_cons_of_mem _ (List.mem_cons_of_mem _ (List.mem_cons_of_mem _ (List.mem_cons_of_mem _ (h)))) | with_reducible exact fun _ h => List.mem_cons_of_mem _ (List.mem_cons_of_mem _ (List.mem_cons_of_mem _ (List.mem_cons_of_mem _ (List.mem_cons_of_mem _ (h))))) | with_reducible exact fun _ h => List.mem_cons_of_mem _ (List.mem_cons_of_mem _ (List.mem_cons_of_mem _ (List.mem_cons_of_mem _ (List.mem_cons_of_mem _ (List.mem_cons_of_mem _ (h)))))) | with_reducible exact fun _ h => List.mem_cons_of_mem _ (List.mem_cons_of_mem _ (List.mem_cons_of_mem _ (List.mem_cons_of_mem _ (List.mem_cons_of_mem _ (List.mem_cons_of_mem _ (List.mem_cons_of_mem _ (h))))))) | kcj_all); (case je => (rw [fm_em _ _ (by decide)]; rfl)))
local macro_rules | `(tactic| walk_at "call ref") => `(tactic| (k_here; k_dflt (refine' Clm.go' (c_leap ) ?_; walk_at "JIB")))
local macro_rules | `(tactic| walk_at "exec Raise some none") => `(tactic| first
  | (exfalso; (have hd9 := jdim_31 (by assumption)); omega)
  | (exfalso; (have hd9 := jdim_29 (by assumption) (by assumption)); omega)
  | (exfalso; (have hd9 := jdim_28 (by assumption) (by assumption) (by assumption)); omega)
  | (exfalso; (have hd9 := jdim_30 (by assumption) (by assumption)); omega))
theorem c_mlen {w : World} {loose : List Str} {mean : ExcName → Option Value} {mg mb : Str → Option Value} {y m' : Int} {t u : Tok}  : Clm w loose mean mg mb 2 100 [.int y t, .int m' u] (RI (jdim y m')) := by
  unfold Clm RI
  k_fill
  intro news dp un gd cn cs a ccd cl outer A₀ base h₀ L m s Q E B F X N T hk hd hu hret
  refine wpAny_call ?_
  k_dflt cell_enter
  k_steps
  all_goals (refine' ri_end hret ?jF ?jN ?js ?je; (case jF => k_asm); (case jN => k_asm); (case js => first | with_reducible exact fun _ h => h | with_reducible exact fun _ h => List.mem_cons_of_mem _ (h) | with_reducible exact fun _ h => List.mem_cons_of_mem _ (List.mem_cons_of_mem _ (h)) | with_reducible exact fun _ h => List.mem_cons_of_mem _ (List.mem_cons_of_mem _ (List.mem_cons_of_mem _ (h))) | with_reducible exact fun _ h => List.mem_cons_of_mem _ (List.mem_cons_of_mem _ (List.mem_cons_of_mem _ (List.mem_cons_of_mem _ (h)))) | with_reducible exact fun _ h => List.mem_cons_of_mem _ (List.mem_cons_of_mem _ (List.mem_cons_of_mem _ (List.mem_cons_of_mem _ (List.mem_cons_of_mem _ (h))))) | with_reducible exact fun _ h => List.mem_cons_of_mem _ (List.mem_cons_of_mem _ (List.mem_cons_of_mem _ (List.mem_cons_of_mem _ (List.mem_cons_of_mem _ (List.mem_cons_of_mem _ (h)))))) | with_reducible exact fun _ h => List.mem_cons_of_mem _ (List.mem_cons_of_mem _ (List.mem_cons_of_mem _ (List.mem_cons_of_mem _ (List.mem_cons_of_mem _ (List.mem_cons_of_mem _ (List.mem_cons_of_mem _ (h))))))) | kcj_all); (case je => (first | (with_reducible refine' jdim_a ?jx0 ?jx1; (case jx0 => with_reducible assumption); (case jx1 => with_reducible assumption)) | (with_reducible refine' jdim_b ?jx0 ?jx1; (case jx0 => with_reducible assumption); (case jx1 => with_reducible assumption)) | (with_reducible refine' jdim_c ?jx0 ?jx1; (case jx0 => with_reducible assumption); (case jx1 => with_reducible assumption)) | (with_reducible refine' jdim_d ?jx0 ?jx1; (case jx0 => with_reducible assumption); (case jx1 => with_reducible assumption)))))
local macro_rules | `(tactic| walk_at "call ref") => `(tactic| (k_here; k_dflt (refine' Clm.go' (c_mlen ) ?_; walk_at "JII")))
theorem c_jlegal {w : World} {loose : List Str} {mean : ExcName → Option Value} {mg mb : Str → Option Value} {y m' d : Int} {t u v : Tok} (h1 : 1 ≤ d) (h2 : d ≤ jdim y m') : Clm w loose mean mg mb 3 107 [.int y t, .int m' u, .int d v] (RB true) := by
  unfold Clm RB
  k_fill
  intro news dp un gd cn cs a ccd cl outer A₀ base h₀ L m s Q E B F X N T hk hd hu hret
  refine wpAny_call ?_
  k_dflt cell_enter
  k_steps
  all_goals (refine' rb_end hret ?jF ?jN ?js ?je; (case jF => k_asm); (case jN => k_asm); (case js => first | with_reducible exact fun _ h => h | with_reducible exact fun _ h => List.mem_cons_of_mem _ (h) | with_reducible exact fun _ h => List.mem_cons_of_mem _ (List.mem_cons_of_mem _ (h)) | with_reducible exact fun _ h => List.mem_cons_of_mem _ (List.mem_cons_of_mem _ (List.mem_cons_of_mem _ (h))) | with_reducible exact fun _ h => List.mem_cons_of_mem _ (List.mem_cons_of_mem _ (List.mem_cons_of_mem _ (List.mem_cons_of_mem _ (h)))) | with_reducible exact fun _ h => List.mem_cons_of_mem _ (List.mem_cons_of_mem _ (List.mem_cons_of_mem _ (List.mem_cons_of_mem _ (List.mem_cons_of_mem _ (h))))) | with_reducible exact fun _ h => List.mem_cons_of_mem _ (List.mem_cons_of_mem _ (List.mem_cons_of_mem _ (List.mem_cons_of_mem _ (List.mem_cons_of_mem _ (List.mem_cons_of_mem _ (h)))))) | with_reducible exact fun _ h => List.mem_cons_of_mem _ (List.mem_cons_of_mem _ (List.mem_cons_of_mem _ (List.mem_cons_of_mem _ (List.mem_cons_of_mem _ (List.mem_cons_of_mem _ (List.mem_cons_of_mem _ (h))))))) | kcj_all); (case je => (rfl)))
local macro_rules | `(tactic| walk_at "call ref") => `(tactic| (k_here; k_dflt (refine' Clm.go' (c_jlegal ?p0 ?p1) ?_; (case p0 => first | with_reducible assumption | omega | (refine' jd_d1 ?jq; (case jq => with_reducible assumption))); (case p1 => first | with_reducible assumption | exact jdim_ge1 _ _ | (refine' jd_d2 ?jq; (case jq => with_reducible assumption))); walk_at "JIB")))
theorem c_from_jul {w : World} {loose : List Str} {mean : ExcName → Option Value} {mg mb : Str → Option Value} {n : Int} {t : Tok}  : Clm w loose mean mg mb 1 114 [.int n t] (RT3 (juY n) (juM n) (juD n)) := by
  unfold Clm RT3
  k_fill
  intro news dp un gd cn cs a ccd cl outer A₀ base h₀ L m s Q E B F X N T hk hd hu hret
  refine wpAny_call ?_
  k_dflt cell_enter
  k_steps
  all_goals (refine' rt3_end hret ?jF ?jN ?jm ?js ?jl ?je1 ?je2 ?je3; (case jF => k_asm); (case jN => k_asm); (case jm => k_mem); (case js => first | with_reducible exact fun _ h => h | with_reducible exact fun _ h => List.mem_cons_of_mem _ (h) | with_reducible exact fun _ h => List.mem_cons_of_mem _ (List.mem_cons_of_mem _ (h)) | with_reducible exact fun _ h => List.mem_cons_of_mem _ (List.mem_cons_of_mem _ (List.mem_cons_of_mem _ (h))) | with_reducible exact fun _ h => List.mem_cons_of_mem _ (List.mem_cons_of_mem _ (List.mem_cons_of_mem _ (List.mem_cons_of_mem _ (h)))) | with_reducible exact fun _ h => List.mem_cons_of_mem _ (List.mem_cons_of_mem _ (List.mem_cons_of_mem _ (List.mem_cons_of_mem _ (List.mem_cons_of_mem _ (h))))) | with_reducible exact fun _ h => List.mem_cons_of_mem _ (List.mem_cons_of_mem _ (List.mem_cons_of_mem _ (List.mem_cons_of_mem _ (List.mem_cons_of_mem _ (List.mem_cons_of_mem _ (h)))))) | with_reducible exact fun _ h => List.mem_cons_of_mem _ (List.mem_cons_of_mem _ (List.mem_cons_of_mem _ (List.mem_cons_of_mem _ (List.mem_cons_of_mem _ (List.mem_cons_of_mem _ (List.mem_cons_of_mem _ (h))))))) | kcj_all); (case jl => first | with_reducible assumption | (with_reducible refine' allLt_of ?jl; (case jl => with_reducible assumption)) | (with_reducible refine' allLt_cons1 ?jl; (case jl => with_reducible assumption)) | (with_reducible refine' allLt_and ?jl; (case jl => with_reducible assumption)) | (with_reducible refine' allLt_and2 ?jl; (case jl => with_reducible assumption)) | (with_reducible refine' allLt_tr ?jl ?jk; (case jl => with_reducible assumption); (case jk => with_reducible assumption))); (case je1 => (first | (with_reducible refine' juY_c ?jx0; (case jx0 => with_reducible assumption)) | (with_reducible refine' juY_d ?jx0; (case jx0 => with_reducible assumption)))); (case je2 => (first | (with_reducible refine' juM_a ?jx0; (case jx0 => with_reducible assumption)) | (with_reducible refine' juM_b ?jx0; (case jx0 => with_reducible assumption)))); (case je3 => (rfl)))
local macro_rules | `(tactic| walk_at "call ref") => `(tactic| (k_here; k_dflt (refine' Clm.go' (c_from_jul ) ?_; walk_at "JIT3")))
theorem c_to_jul {w : World} {loose : List Str} {mean : ExcName → Option Value} {mg mb : Str → Option Value} {y m' d : Int} {t u v : Tok} (h1 : 1 ≤ d) (h2 : d ≤ jdim y m') : Clm w loose mean mg mb 4 121 [.int y t, .int m' u, .int d v] (RI (toJulF y m' d)) := by
  unfold Clm RI
  k_fill
  intro news dp un gd cn cs a ccd cl outer A₀ base h₀ L m s Q E B F X N T hk hd hu hret
  refine wpAny_call ?_
  k_dflt cell_enter
  k_steps
  all_goals (refine' ri_end hret ?jF ?jN ?js ?je; (case jF => k_asm); (case jN => k_asm); (case js => first | with_reducible exact fun _ h => h | with_reducible exact fun _ h => List.mem_cons_of_mem _ (h) | with_reducible exact fun _ h => List.mem_cons_of_mem _ (List.mem_cons_of_mem _ (h)) | with_reducible exact fun _ h => List.mem_cons_of_mem _ (List.mem_cons_of_mem _ (List.mem_cons_of_mem _ (h))) | with_reducible exact fun _ h => List.mem_cons_of_mem _ (List.mem_cons_of_mem _ (List.mem_cons_of_mem _ (List.mem_cons_of_mem _ (h)))) | with_reducible exact fun _ h => List.mem_cons_of_mem _ (List.mem_cons_of_mem _ (List.mem_cons_of_mem _ (List.mem_cons_of_mem _ (List.mem_cons_of_mem _ (h))))) | with_reducible exact fun _ h => List.mem_cons_of_mem _ (List.mem_cons_of_mem _ (List.mem_cons_of_mem _ (List.mem_cons_of_mem _ (List.mem_cons_of_mem _ (List.mem_cons_of_mem _ (h)))))) | with_reducible exact fun _ h => List.mem_cons_of_mem _ (List.mem_cons_of_mem _ (List.mem_cons_of_mem _ (List.mem_cons_of_mem _ (List.mem_cons_of_mem _ (List.mem_cons_of_mem _ (List.mem_cons_of_mem _ (h))))))) | kcj_all); (case je => ((try simp (discharger := decide) only [fm_em, fd_ed] at *); simp [toJulF, *])))
local macro_rules | `(tactic| walk_at "call ref") => `(tactic| (k_here; k_dflt (refine' Clm.go' (c_to_jul ?p0 ?p1) ?_; (case p0 => first | with_reducible assumption | omega | (refine' jd_d1 ?jq; (case jq => with_reducible assumption))); (case p1 => first | with_reducible assumption | exact jdim_ge1 _ _ | (refine' jd_d2 ?jq; (case jq => with_reducible assumption))); walk_at "JII")))
theorem c_first {w : World} {loose : List Str} {mean : ExcName → Option Value} {mg mb : Str → Option Value} {y : Int} {t : Tok}  : Clm w loose mean mg mb 1 254 [.int y t] (RI (FY y)) := by
  unfold Clm RI
  k_fill
  intro news dp un gd cn cs a ccd cl outer A₀ base h₀ L m s Q E B F X N T hk hd hu hret
  refine wpAny_call ?_
  k_dflt cell_enter
  k_steps
  all_goals (refine' ri_end hret ?jF ?jN ?js ?je; (case jF => k_asm); (case jN => k_asm); (case js => first | with_reducible exact fun _ h => h | with_reducible exact fun _ h => List.mem_cons_of_mem _ (h) | with_reducible exact fun _ h => List.mem_cons_of_mem _ (List.mem_cons_of_mem _ (h)) | with_reducible exact fun _ h => List.mem_cons_of_mem _ (List.mem_cons_of_mem _ (List.mem_cons_of_mem _ (h))) | with_reducible exact fun _ h => List.mem_cons_of_mem _ (List.mem_cons_of_mem _ (List.mem_cons_of_mem _ (List.mem_cons_of_mem _ (h)))) | with_reducible exact fun _ h => List.mem_cons_of_mem _ (List.mem_cons_of_mem _ (List.mem_cons_of_mem _ (List.mem_cons_of_mem _ (List.mem_cons_of_mem _ (h))))) | with_reducible exact fun _ h => List.mem_cons_of_mem _ (List.mem_cons_of_mem _ (List.mem_cons_of_mem _ (List.mem_cons_of_mem _ (List.mem_cons_of_mem _ (List.mem_cons_of_mem _ (h)))))) | with_reducible exact fun _ h => List.mem_cons_of_mem _ (List.mem_cons_of_mem _ (List.mem_cons_of_mem _ (List.mem_cons_of_mem _ (List.mem_cons_of_mem _ (List.mem_cons_of_mem _ (List.mem_cons_of_mem _ (h))))))) | kcj_all); (case je => (exact first_eq y)))
local macro_rules | `(tactic| walk_at "call ref") => `(tactic| (k_here; k_dflt (refine' Clm.go' (c_first ) ?_; walk_at "JII")))
local macro_rules | `(tactic| kst_p) => `(tactic| ((try dsimp only); first | (refine' wi_0 ?jq; (case jq => with_reducible assumption)) | (with_reducible refine' wi_step ?jq ?jr ?js; (case jq => with_reducible assumption); (case jr => with_reducible assumption); (case js => with_reducible assumption))))
local macro_rules | `(tactic| ksw_less) => `(tactic| ((try dsimp only); (with_reducible refine' wi_less ?jq ?jr ?js; (case jq => with_reducible assumption); (case jr => with_reducible assumption); (case js => with_reducible assumption))))
theorem c_law_walk (w : World) (loose : List Str) (mean : ExcName → Option Value) (mg mb : Str → Option Value) (y p f : Int) (t u : Tok) (l : Addr) (a1 a2 a3 a4 a5 a6 a7 a8 a9 a10 a11 a12 : Tok) (c : Nat) (m' d : Int) (hW : WDate f p m' d) :
    ClmE w loose mean mg mb 1 261 [.int y t, .int p u, .ref l] (l, lens f a1 a2 a3 a4 a5 a6 a7 a8 a9 a10 a11 a12 c) (RT3 y m' d) := by
  unfold ClmE RT3
  k_fill
  intro news dp un gd cn cs a ccd cl outer A₀ base h₀ L m s Q E B F X N T hk hd hu hret
  refine wpAny_call ?_
  k_dflt cell_enter
  iterate 6 (first | (k_unfold; (try dsimp only)) | (k_end; wrow_close) | walk1 | (dsimp only; walk1) | (leave1; walk_say "STEP leave1"; try dsimp only) | fail "no step")
  (k_while_given [] (fun (_ : List Int) day month => WInv f p day month) (fun _ day _ => day.toNat) "day" "month")
  rename WInv _ _ _ _ => kI
  obtain ⟨i1, i2, i3, -⟩ := id kI
  k_steps
  all_goals (refine' rt3_end hret ?jF ?jN ?jm ?js ?jl ?je1 ?je2 ?je3; (case jF => k_asm); (case jN => k_asm); (case jm => k_mem); (case js => first | with_reducible exact fun _ h => h | with_reducible exact fun _ h => List.mem_cons_of_mem _ (h) | with_reducible exact fun _ h => List.mem_cons_of_mem _ (List.mem_cons_of_mem _ (h)) | with_reducible exact fun _ h => List.mem_cons_of_mem _ (List.mem_cons_of_mem _ (List.mem_cons_of_mem _ (h))) | with_reducible exact fun _ h => List.mem_cons_of_mem _ (List.mem_cons_of_mem _ (List.mem_cons_of_mem _ (List.mem_cons_of_mem _ (h)))) | with_reducible exact fun _ h => List.mem_cons_of_mem _ (List.mem_cons_of_mem _ (List.mem_cons_of_mem _ (List.mem_cons_of_mem _ (List.mem_cons_of_mem _ (h))))) | with_reducible exact fun _ h => List.mem_cons_of_mem _ (List.mem_cons_of_mem _ (List.mem_cons_of_mem _ (List.mem_cons_of_mem _ (List.mem_cons_of_mem _ (List.mem_cons_of_mem _ (h)))))) | with_reducible exact fun _ h => List.mem_cons_of_mem _ (List.mem_cons_of_mem _ (List.mem_cons_of_mem _ (List.mem_cons_of_mem _ (List.mem_cons_of_mem _ (List.mem_cons_of_mem _ (List.mem_cons_of_mem _ (h))))))) | kcj_all); (case jl => assumption); (case je1 => (rfl)); (case je2 => ((with_reducible refine' (wi_end ?jq ?jr ?js).1; (case jq => with_reducible assumption); (case jr => with_reducible assumption); (case js => with_reducible assumption)))); (case je3 => ((with_reducible refine' (wi_end ?jq ?jr ?js).2; (case jq => with_reducible assumption); (case jr => with_reducible assumption); (case js => with_reducible assumption)))))
local macro_rules | `(tactic| ksw_less) => `(tactic| first | (refine' less1 ?jh; (case jh => assumption)) | (refine' less2 ?jh; (case jh => assumption)))
local macro_rules | `(tactic| walk_at "exec While Compare cons nil") => `(tactic| first
  | (k_while_given ["number"] (fun n (_ : List Int) y => FY y ≤ n) (fun n _ y => (n - FY y).toNat) "year")
  | (k_while_given ["number"] (fun _ (_ : List Int) _ => True) (fun n _ y => (FY y - n).toNat) "year"))
local macro_rules | `(tactic| walk_at "call ref") => `(tactic| (k_here; k_dflt (refine' ClmE.go (c_law_walk _ _ _ _ _ _ _ _ _ _ _ _ _ _ _ _ _ _ _ _ _ _ _ _ _ _  ?p0) ?jB ?jF ?jX ?jN ?jT ?jK ?jd ?ju ?_; (case jF => k_asm); (case jN => k_asm); (case p0 => (with_reducible refine' (wd_of_gd ?jq ?jr ?js).2; (case jq => with_reducible assumption); (case jr => with_reducible assumption); (case js => with_reducible assumption))); (case jB => k_asm); (case jX => k_asm); (case jT => k_asm); (case jK => first | exact rfl | assumption); (case jd => ktr_room); (case ju => ktr_units); intro D9 t9 u9 v9 c9 h9 tk9 F9 N9 l9; (try simp only [AllLt, and_true] at l9); (try dsimp only); (try k_fold))))
theorem c_law_greg {w : World} {loose : List Str} {mean : ExcName → Option Value} {mg mb : Str → Option Value} {n : Int} {t : Tok}  : Clm w loose mean mg mb 3 268 [.int n t] (RG n) := by
  unfold Clm RG
  k_fill
  obtain ⟨y0, m0, d0, hG⟩ := gd_exists n
  intro news dp un gd cn cs a ccd cl outer A₀ base h₀ L m s Q E B F X N T hk hd hu hret
  refine wpAny_call ?_
  k_dflt cell_enter
  k_steps
  all_goals (refine' rt3_end (hret _ _ _ hG) ?jF ?jN ?jm ?js ?jl ?je1 ?je2 ?je3; (case jF => k_asm); (case jN => k_asm); (case jm => k_mem); (case js => first | with_reducible exact fun _ h => h | with_reducible exact fun _ h => List.mem_cons_of_mem _ (h) | with_reducible exact fun _ h => List.mem_cons_of_mem _ (List.mem_cons_of_mem _ (h)) | with_reducible exact fun _ h => List.mem_cons_of_mem _ (List.mem_cons_of_mem _ (List.mem_cons_of_mem _ (h))) | with_reducible exact fun _ h => List.mem_cons_of_mem _ (List.mem_cons_of_mem _ (List.mem_cons_of_mem _ (List.mem_cons_of_mem _ (h)))) | with_reducible exact fun _ h => List.mem_cons_of_mem _ (List.mem_cons_of_mem _ (List.mem_cons_of_mem _ (List.mem_cons_of_mem _ (List.mem_cons_of_mem _ (h))))) | with_reducible exact fun _ h => List.mem_cons_of_mem _ (List.mem_cons_of_mem _ (List.mem_cons_of_mem _ (List.mem_cons_of_mem _ (List.mem_cons_of_mem _ (List.mem_cons_of_mem _ (h)))))) | with_reducible exact fun _ h => List.mem_cons_of_mem _ (List.mem_cons_of_mem _ (List.mem_cons_of_mem _ (List.mem_cons_of_mem _ (List.mem_cons_of_mem _ (List.mem_cons_of_mem _ (List.mem_cons_of_mem _ (h))))))) | kcj_all); (case jl => first | with_reducible assumption | (with_reducible refine' allLt_of ?jl; (case jl => with_reducible assumption)) | (with_reducible refine' allLt_cons1 ?jl; (case jl => with_reducible assumption)) | (with_reducible refine' allLt_and ?jl; (case jl => with_reducible assumption)) | (with_reducible refine' allLt_and2 ?jl; (case jl => with_reducible assumption)) | (with_reducible refine' allLt_tr ?jl ?jk; (case jl => with_reducible assumption); (case jk => with_reducible assumption))); (case je1 => (with_reducible refine' (wd_of_gd hG ?jr ?js).1; (case jr => with_reducible assumption); (case js => with_reducible assumption))); (case je2 => (rfl)); (case je3 => (rfl)))
local macro_rules | `(tactic| walk_at "call ref") => `(tactic| (k_here; k_dflt (refine' Clm.go' (c_law_greg ) ?_; walk_at "JIG")))
/-- the first day of a Julian year -/
def JY (y : Int) : Int := 365 * (y + 4712) + (y + 4715) / 4
/-- the leap mark of a Julian year -/
abbrev jb (y : Int) : Bool := decide (y % 4 = 0)
theorem jb_b (y : Int) : (b2i (jb y) = 1 ∧ y % 4 = 0) ∨ (b2i (jb y) = 0 ∧ y % 4 ≠ 0) := by
  by_cases h : y % 4 = 0
  · exact Or.inl ⟨by rw [show jb y = true from decide_eq_true h]; rfl, h⟩
  · exact Or.inr ⟨by rw [show jb y = false from decide_eq_false h]; rfl, h⟩
theorem q1461 (x : Int) : 1461 * x / 4 = 365 * x + x / 4 := by omega
theorem jul_off {y m d : Int} (h1 : 1 ≤ m) (h2 : m ≤ 12) : toJulF y m d = JY y + cumf (fb (jb y)) m + d - 1 := by
  have t := of_decide_eq_true (tab (P := fun b m _ => decide (cumf (fb b) m = if m ≤ 2 then mm m - 428 else mm m + b2i b - 63)) (by decide +kernel) (jb y) h1 h2 (d := 1) (by decide) (by decide))
  have e : toJulF y m d = 1461 * ((if m ≤ 2 then y - 1 else y) + 4716) / 4 + mm m + d - 1524 := rfl
  have k := jb_b y
  rw [t, e, q1461]
  clear e t
  unfold JY
  generalize mm m = A
  by_cases hm : m ≤ 2
  · simp only [if_pos hm]
    rw [show y - 1 + 4716 = y + 4715 by omega]; omega
  · simp only [if_neg hm]; omega
theorem jd_wd {n y m d : Int} (h : JDate n y m d) : WDate (fb (jb y)) (n - JY y) m d := by
  obtain ⟨h1, h2, h3, h4, h5⟩ := h
  rw [jul_off h2 h3] at h1
  rw [jdim_eq] at h5
  exact ⟨(fb_in _).1, (fb_in _).2, h2, h3, h4, h5, by omega⟩
theorem jd_of_wd {n y m d : Int} (h : WDate (fb (jb y)) (n - JY y) m d) : JDate n y m d := by
  obtain ⟨_, _, h2, h3, h4, h5, h6⟩ := h
  rw [← jdim_eq] at h5
  exact ⟨by rw [jul_off h2 h3]; omega, h2, h3, h4, h5⟩
theorem JY_step (y : Int) : JY (y + 1) = JY y + 337 + fb (jb y) := by
  have k := jb_b y
  rw [fb_b]
  unfold JY
  omega
theorem jd_place {n y m d : Int} (h : JDate n y m d) : JY y ≤ n ∧ n < JY (y + 1) := by
  have t := wd_lt (jd_wd h)
  rw [JY_step]
  exact ⟨by omega, by omega⟩
theorem JY_uniq {a b n : Int} (h1 : JY a ≤ n) (h2 : n < JY (a + 1)) (h3 : JY b ≤ n) (h4 : n < JY (b + 1)) : a = b := by
  unfold JY at *; omega
/-- the walk of the Julian years -/
def JInv (n r y day len : Int) : Prop := 1461 * r ≤ n ∧ n < 1461 * r + 1461 ∧ 4 * r - 4712 ≤ y ∧ y ≤ 4 * r - 4709 ∧ 0 ≤ day ∧ JY y + day = n ∧ ((y = 4 * r - 4712 ∧ len = 366) ∨ (4 * r - 4712 < y ∧ len = 365))
theorem ji_0 (n : Int) : JInv n (n.fdiv 1461) (4 * n.fdiv 1461 - 4712) (n.fmod 1461) 366 := by
  rw [fd_ed _ _ (by decide), fm_em _ _ (by decide)]
  unfold JInv JY; omega
theorem ji_step {n r y day len : Int} (h : JInv n r y day len) (hl : len ≤ day) : JInv n r (y + 1) (day - len) 365 := by
  unfold JInv JY at *; omega
theorem ji_less {n r y day len : Int} (h : JInv n r y day len) (hl : len ≤ day) : (day - len).toNat < day.toNat := by
  unfold JInv at h; omega
theorem ji_end {n r y day len : Int} (h : JInv n r y day len) (hl : ¬ len ≤ day) : JY y ≤ n ∧ n < JY (y + 1) ∧ day = n - JY y := by
  unfold JInv JY at *; omega
theorem jd_exists (n : Int) : ∃ y m d, JDate n y m d := by
  have : ∃ y, JY y ≤ n ∧ n < JY (y + 1) := by
    have h := ji_0 n
    by_cases h0 : 366 ≤ n.fmod 1461
    · have h1 := ji_step h h0
      by_cases k1 : 365 ≤ n.fmod 1461 - 366
      · have h2 := ji_step h1 k1
        by_cases k2 : 365 ≤ n.fmod 1461 - 366 - 365
        · have h3 := ji_step h2 k2
          have k3 : ¬ 365 ≤ n.fmod 1461 - 366 - 365 - 365 := by rw [fm_em _ _ (by decide)]; omega
          exact ⟨_, (ji_end h3 k3).1, (ji_end h3 k3).2.1⟩
        · exact ⟨_, (ji_end h2 k2).1, (ji_end h2 k2).2.1⟩
      · exact ⟨_, (ji_end h1 k1).1, (ji_end h1 k1).2.1⟩
    · exact ⟨_, (ji_end h h0).1, (ji_end h h0).2.1⟩
  obtain ⟨y, h1, h2⟩ := this
  rw [JY_step] at h2
  have hi := fb_in (jb y)
  obtain ⟨m, d, hw⟩ := wd_exists (f := fb (jb y)) (p := n - JY y) (by omega) (by omega) (by omega)
  exact ⟨y, m, d, jd_of_wd hw⟩
theorem wd_of_jd {n r y m d x day len : Int} (hJ : JDate n y m d) (h : JInv n r x day len) (hl : ¬ len ≤ day) : x = y ∧ WDate (fb (jb x)) day m d := by
  obtain ⟨e1, e2, e3⟩ := ji_end h hl
  have e : x = y := JY_uniq e1 e2 (jd_place hJ).1 (jd_place hJ).2
  subst e
  rw [e3]
  exact ⟨rfl, jd_wd hJ⟩
theorem wd_of_jd29 {n r y m d x day len : Int} (hJ : JDate n y m d) (h : JInv n r x day len) (hl : ¬ len ≤ day) (h4 : x.fmod 4 = 0) : x = y ∧ WDate 29 day m d := by
  have t := wd_of_jd hJ h hl
  rw [fm_em _ _ (by decide)] at h4
  rw [show jb x = true from decide_eq_true h4] at t
  exact t
theorem wd_of_jd28 {n r y m d x day len : Int} (hJ : JDate n y m d) (h : JInv n r x day len) (hl : ¬ len ≤ day) (h4 : x.fmod 4 ≠ 0) : x = y ∧ WDate 28 day m d := by
  have t := wd_of_jd hJ h hl
  rw [fm_em _ _ (by decide)] at h4
  rw [show jb x = false from decide_eq_false h4] at t
  exact t
abbrev RJ (n : Int) (h₀ : Heap) (L : Addr) (m : Str → Option Value) (news : List (Addr × Obj)) (s : Shared) (Q : Value → Shared → Prop) : Prop :=
  ∀ y m' d : Int, JDate n y m' d → RT3 y m' d h₀ L m news s Q
local macro_rules | `(tactic| kst_p) => `(tactic| ((try dsimp only); first | exact ji_0 _ | (refine' ji_step ?jh ?jk; (case jh => assumption); (case jk => assumption))))
local macro_rules | `(tactic| ksw_less) => `(tactic| ((try dsimp only); refine' ji_less ?jh ?jk; (case jh => assumption); (case jk => assumption)))
local macro_rules | `(tactic| walk_at "exec While Compare cons nil") => `(tactic| (k_while_given ["number", "rounds"] (fun n r (_ : List Int) y day len => JInv n r y day len) (fun _ _ _ _ day _ => day.toNat) "year" "day" "length"))
local macro_rules | `(tactic| walk_at "call ref") => `(tactic| (k_here; k_dflt (refine' ClmE.go (c_law_walk _ _ _ _ _ _ _ _ _ _ _ _ _ _ _ _ _ _ _ _ _ _ _ _ _ _  ?p0) ?jB ?jF ?jX ?jN ?jT ?jK ?jd ?ju ?_; (case jF => k_asm); (case jN => k_asm); (case p0 => (first | (with_reducible refine' (wd_of_jd29 ?jq ?jr ?js ?jt).2; (case jq => with_reducible assumption); (case jr => with_reducible assumption); (case js => with_reducible assumption); (case jt => with_reducible assumption)) | (with_reducible refine' (wd_of_jd28 ?jq ?jr ?js ?jt).2; (case jq => with_reducible assumption); (case jr => with_reducible assumption); (case js => with_reducible assumption); (case jt => with_reducible assumption)))); (case jB => k_asm); (case jX => k_asm); (case jT => k_asm); (case jK => first | exact rfl | assumption); (case jd => ktr_room); (case ju => ktr_units); intro D9 t9 u9 v9 c9 h9 tk9 F9 N9 l9; (try simp only [AllLt, and_true] at l9); (try dsimp only); (try k_fold))))
theorem c_law_jul {w : World} {loose : List Str} {mean : ExcName → Option Value} {mg mb : Str → Option Value} {n : Int} {t : Tok}  : Clm w loose mean mg mb 3 275 [.int n t] (RJ n) := by
  unfold Clm RJ
  k_fill
  obtain ⟨y0, m0, d0, hJ⟩ := jd_exists n
  intro news dp un gd cn cs a ccd cl outer A₀ base h₀ L m s Q E B F X N T hk hd hu hret
  refine wpAny_call ?_
  k_dflt cell_enter
  k_steps
  all_goals (refine' rt3_end (hret _ _ _ hJ) ?jF ?jN ?jm ?js ?jl ?je1 ?je2 ?je3; (case jF => k_asm); (case jN => k_asm); (case jm => k_mem); (case js => first | with_reducible exact fun _ h => h | with_reducible exact fun _ h => List.mem_cons_of_mem _ (h) | with_reducible exact fun _ h => List.mem_cons_of_mem _ (List.mem_cons_of_mem _ (h)) | with_reducible exact fun _ h => List.mem_cons_of_mem _ (List.mem_cons_of_mem _ (List.mem_cons_of_mem _ (h))) | with_reducible exact fun _ h => List.mem_cons_of_mem _ (List.mem_cons_of_mem _ (List.mem_cons_of_mem _ (List.mem_cons_of_mem _ (h)))) | with_reducible exact fun _ h => List.mem_cons_of_mem _ (List.mem_cons_of_mem _ (List.mem_cons_of_mem _ (List.mem_cons_of_mem _ (List.mem_cons_of_mem _ (h))))) | with_reducible exact fun _ h => List.mem_cons_of_mem _ (List.mem_cons_of_mem _ (List.mem_cons_of_mem _ (List.mem_cons_of_mem _ (List.mem_cons_of_mem _ (List.mem_cons_of_mem _ (h)))))) | with_reducible exact fun _ h => List.mem_cons_of_mem _ (List.mem_cons_of_mem _ (List.mem_cons_of_mem _ (List.mem_cons_of_mem _ (List.mem_cons_of_mem _ (List.mem_cons_of_mem _ (List.mem_cons_of_mem _ (h))))))) | kcj_all); (case jl => first | with_reducible assumption | (with_reducible refine' allLt_of ?jl; (case jl => with_reducible assumption)) | (with_reducible refine' allLt_cons1 ?jl; (case jl => with_reducible assumption)) | (with_reducible refine' allLt_and ?jl; (case jl => with_reducible assumption)) | (with_reducible refine' allLt_and2 ?jl; (case jl => with_reducible assumption)) | (with_reducible refine' allLt_tr ?jl ?jk; (case jl => with_reducible assumption); (case jk => with_reducible assumption))); (case je1 => (first | (with_reducible refine' (wd_of_jd29 ?jq ?jr ?js ?jt).1; (case jq => with_reducible assumption); (case jr => with_reducible assumption); (case js => with_reducible assumption); (case jt => with_reducible assumption)) | (with_reducible refine' (wd_of_jd28 ?jq ?jr ?js ?jt).1; (case jq => with_reducible assumption); (case jr => with_reducible assumption); (case js => with_reducible assumption); (case jt => with_reducible assumption)))); (case je2 => (rfl)); (case je3 => (rfl)))
local macro_rules | `(tactic| walk_at "call ref") => `(tactic| (k_here; k_dflt (refine' Clm.go' (c_law_jul ) ?_; walk_at "JIJ")))
theorem gd_cast {n x y m d : Int} (h : GDate n y m d) (e : x = n) : GDate x y m d := e ▸ h
theorem jd_cast {n x y m d : Int} (h : JDate n y m d) (e : x = n) : JDate x y m d := e ▸ h
theorem gd_p1 {n y m d : Int} (h : GDate n y m d) : 1 ≤ n - FY y + 1 := by have := (gd_place h).1; omega
theorem gd_m0 {n y m d : Int} (h : GDate n y m d) : 0 ≤ m := by have := h.2.1; omega
/-- a Positivist date that is there -/
def PLegal (y m d : Int) : Prop := 1 ≤ y ∧ 1 ≤ m ∧ m ≤ 14 ∧ 1 ≤ d ∧ d ≤ 28 ∧ (m ≤ 13 ∨ d ≤ (if leapB (y + 1789 - 1) = true then 2 else 1))
theorem pj_i {n y m d : Int} (hG : GDate n y m d) (hi : ((((n - 1721426).fmod 146097).fmod 36524).fmod 1461).fdiv 365 = 4) : fjY0 n - 1 + 1 = y ∧ 365 = n - FY y := by
  have e2 : fjY0 n = y := (fjY_i hi).trans (gd_fjY hG)
  rw [← e2, Int.sub_add_cancel]
  refine ⟨rfl, ?_⟩
  clear e2 hG
  unfold fjY0
  simp (discharger := decide) only [fd_ed, fm_em] at hi ⊢
  generalize hq : (n - 1721426) / 146097 = q
  generalize hr : (n - 1721426) % 146097 = r at *
  generalize hc : r / 36524 = c
  generalize hr2 : r % 36524 = r2 at *
  generalize hk : r2 / 1461 = k
  generalize hr3 : r2 % 1461 = r3 at *
  generalize hI : r3 / 365 = i at *
  obtain ⟨e, c1, c2, k1, k2, g1, g2, i1, i2, hC, hI⟩ := cyc hq hr hc hr2 hk hr3 hI
  clear hq hr hc hr2 hk hr3
  have a := FY_at (q := q) (i := 3) c1 (by omega) k1 k2 (by decide) (by decide)
  rw [show q * 400 + c * 100 + k * 4 + 3 + 1 = q * 400 + c * 100 + k * 4 + i by omega] at a
  omega
theorem pj_n {n y m d : Int} (hG : GDate n y m d) (hC : y.fmod 400 ≠ 0 ∨ n - FY y < 365) (hi : ((((n - 1721426).fmod 146097).fmod 36524).fmod 1461).fdiv 365 ≠ 4) :
    fjY0 n + 1 = y ∧ n - 1721426 - (n - 1721426).fdiv 146097 * 146097 - ((n - 1721426).fmod 146097).fdiv 36524 * 36524 - (((n - 1721426).fmod 146097).fmod 36524).fdiv 1461 * 1461 - ((((n - 1721426).fmod 146097).fmod 36524).fmod 1461).fdiv 365 * 365 = n - FY y := by
  have e := gd_fjY hG
  have x4 : ((n - 1721426).fmod 146097).fdiv 36524 = 4 → fjY0 n = y := fun h => (fjY_c h).trans e
  have xn : ((n - 1721426).fmod 146097).fdiv 36524 ≠ 4 → fjY0 n + 1 = y := fun h => (fjY_n h hi).trans e
  clear e hG
  unfold fjY0 at *
  simp (discharger := decide) only [fd_ed, fm_em] at *
  generalize hq : (n - 1721426) / 146097 = q at *
  generalize hr : (n - 1721426) % 146097 = r at *
  generalize hc : r / 36524 = c at *
  generalize hr2 : r % 36524 = r2 at *
  generalize hk : r2 / 1461 = k at *
  generalize hr3 : r2 % 1461 = r3 at *
  generalize hI : r3 / 365 = i at *
  obtain ⟨e, c1, c2, k1, k2, g1, g2, i1, i2, h4, hI⟩ := cyc hq hr hc hr2 hk hr3 hI
  clear hq hr hc hr2 hk hr3
  by_cases hc4 : c = 4
  · exfalso
    obtain ⟨rfl, rfl, rfl⟩ := h4 hc4
    have e2 := x4 hc4
    subst hc4
    subst e2
    have a := FY_at (q := q) (c := 3) (k := 24) (i := 3) (by decide) (by decide) (by decide) (by decide) (by decide) (by decide)
    rw [show q * 400 + 3 * 100 + 24 * 4 + 3 + 1 = q * 400 + 4 * 100 + 0 * 4 + 0 by omega] at a
    omega
  · have e2 := xn hc4
    subst e2
    have a := FY_at (q := q) c1 (by omega) k1 k2 i1 (by omega)
    rw [a]
    exact ⟨rfl, by omega⟩
theorem pj_end {n y Y P : Int} {h₀ h' : Heap} {L D : Addr} {m : Str → Option Value} {news news' : List (Addr × Obj)} {s : Shared} {Q : Value → Shared → Prop} {t1 t2 t3 : Tok} {c tk' : Nat}
    (hret : RT3 (y - 1788) ((n - FY y).fdiv 28 + 1) ((n - FY y).fmod 28 + 1) h₀ L m news s Q)
    (F : Fr h₀ L h' m) (N : News h₀ L h' news') (hm : (D, tup3 (Y - 1789 + 2) (P.fdiv 28 + 1) (P - P.fdiv 28 * 28 + 1) t1 t2 t3 c) ∈ news') (hs : ∀ p ∈ news, p ∈ news') (hl : AllLt D news)
    (e : Y + 1 = y ∧ P = n - FY y) : Q (.ref D) { s with heap := h', toks := tk' } := by
  obtain ⟨e1, e2⟩ := e
  subst e1; subst e2
  refine rt3_end hret F N hm hs hl (by omega) rfl ?_
  rw [fm_em _ _ (by decide), fd_ed _ _ (by decide)]
  omega
theorem pos_legal {n y m d : Int} (hG : GDate n y m d) (hN : 2374480 ≤ n) : PLegal (y - 1788) ((n - FY y).fdiv 28 + 1) ((n - FY y).fmod 28 + 1) := by
  have hp := gd_place hG
  rw [FY_step] at hp
  have hy : 1789 ≤ y := by
    rcases (by omega : y < 1789 ∨ 1789 ≤ y) with h | h
    · exfalso
      have := FY_mono h
      rw [FY_step] at this
      have e : FY 1789 = 2374480 := by decide
      omega
    · exact h
  have e : y - 1788 + 1789 - 1 = y := by omega
  unfold PLegal
  rw [e, fm_em _ _ (by decide), fd_ed _ _ (by decide)]
  unfold b2i at hp
  cases hl : leapB y <;> simp only [hl, Bool.false_eq_true, if_false, if_true] at hp ⊢ <;> omega
theorem pos_val (n y : Int) : FY (y - 1788 + 1788) + 28 * ((n - FY y).fdiv 28 + 1 - 1) + ((n - FY y).fmod 28 + 1) - 1 = n := by
  have e : y - 1788 + 1788 = y := by omega
  rw [e, fm_em _ _ (by decide), fd_ed _ _ (by decide)]
  omega
theorem pl_1 {y m d : Int} (h : PLegal y m d) : 1 ≤ y ∧ 1 ≤ m ∧ m ≤ 14 ∧ 1 ≤ d ∧ d ≤ 28 := ⟨h.1, h.2.1, h.2.2.1, h.2.2.2.1, h.2.2.2.2.1⟩
theorem pl_2 {y m d : Int} (h : PLegal y m d) (hm : m = 14) (hl : leapB (y + 1789 - 1) = true) : d ≤ 2 := by
  have := h.2.2.2.2.2; rw [if_pos hl] at this; omega
theorem pl_3 {y m d : Int} (h : PLegal y m d) (hm : m = 14) (hl : leapB (y + 1789 - 1) = false) : d = 1 := by
  have := h.2.2.2.2.2; have := h.2.2.2.1; rw [if_neg (by rw [hl]; decide)] at *; omega
theorem pos_expr (y m d : Int) : 1721426 - 1 + 365 * (y + 1789 - 1 - 1) + (y + 1789 - 1 - 1).fdiv 4 + -(y + 1789 - 1 - 1).fdiv 100 + (y + 1789 - 1 - 1).fdiv 400 + (m - 1) * 28 + d = FY (y + 1788) + 28 * (m - 1) + d - 1 := by
  simp (discharger := decide) only [fd_ed]
  unfold FY
  have e : y + 1789 - 1 - 1 = y + 1788 - 1 := by omega
  rw [e]
  omega
local macro_rules | `(tactic| walk_at "JG") => `(tactic| first | with_reducible assumption | (refine' gd_cast ?jq ?jr; (case jq => with_reducible assumption); (case jr => omega)))
local macro_rules | `(tactic| walk_at "JJ") => `(tactic| first | with_reducible assumption | (refine' jd_cast ?jq ?jr; (case jq => with_reducible assumption); (case jr => omega)))
theorem c_to_jd_G {w : World} {loose : List Str} {mean : ExcName → Option Value} {mg mb : Str → Option Value} {n y m' d : Int} {t u v : Tok} (hG : GDate n y m' d) : Clm w loose mean mg mb 3 50 [.int y t, .int m' u, .int d v] (RI n) := by
  have h := @c_to_jd w loose mean mg mb y m' d t u v (gd_d1 hG) (gd_d2 hG)
  rw [← hG.1] at h
  exact h
local macro_rules | `(tactic| walk_at "call ref") => `(tactic| (k_here; k_dflt (refine' Clm.go' (c_to_jd_G ?p0) ?_; (case p0 => walk_at "JG"); walk_at "JII")))
theorem c_to_jd2_G {w : World} {loose : List Str} {mean : ExcName → Option Value} {mg mb : Str → Option Value} {n y m' d : Int} {t u v : Tok} (hG : GDate n y m' d) : Clm w loose mean mg mb 3 43 [.int y t, .int m' u, .int d v] (RI n) := by
  have h := @c_to_jd2 w loose mean mg mb y m' d t u v (gd_d1 hG) (gd_d2 hG)
  rw [gd_jd2 hG] at h
  exact h
local macro_rules | `(tactic| walk_at "call ref") => `(tactic| (k_here; k_dflt (refine' Clm.go' (c_to_jd2_G ?p0) ?_; (case p0 => walk_at "JG"); walk_at "JII")))
theorem c_from_greg_ord_G {w : World} {loose : List Str} {mean : ExcName → Option Value} {mg mb : Str → Option Value} {n y m' d : Int} {t u v : Tok} (hG : GDate n y m' d) : Clm w loose mean mg mb 2 78 [.int y t, .int m' u, .int d v] (RT2 y (n - FY y + 1)) := by
  have h := @c_from_greg_ord w loose mean mg mb y m' d t u v (gd_m0 hG)
  rw [gd_ord hG] at h
  exact h
local macro_rules | `(tactic| walk_at "call ref") => `(tactic| (k_here; k_dflt (refine' Clm.go' (c_from_greg_ord_G ?p0) ?_; (case p0 => walk_at "JG"); walk_at "JIT2")))
theorem c_to_greg_ord_G {w : World} {loose : List Str} {mean : ExcName → Option Value} {mg mb : Str → Option Value} {n y m' d : Int} {t u : Tok} (hG : GDate n y m' d) : Clm w loose mean mg mb 3 85 [.int y t, .int (n - FY y + 1) u] (RT3 y m' d) := by
  have h := @c_to_greg_ord w loose mean mg mb y (n - FY y + 1) t u (gd_p1 hG)
  rw [gd_tgM hG, gd_tgD hG] at h
  exact h
local macro_rules | `(tactic| walk_at "call ref") => `(tactic| (k_here; k_dflt (refine' Clm.go' (c_to_greg_ord_G ?p0) ?_; (case p0 => walk_at "JG"); walk_at "JIT3")))
theorem c_tgj {w : World} {loose : List Str} {mean : ExcName → Option Value} {mg mb : Str → Option Value} {n y m' d : Int} {t : Tok} (hG : GDate n y m' d) : Clm w loose mean mg mb 5 191 [.int n t] (RT3 y m' d) := by
  unfold Clm RT3
  k_fill
  intro news dp un gd cn cs a ccd cl outer A₀ base h₀ L m s Q E B F X N T hk hd hu hret
  refine wpAny_call ?_
  k_dflt cell_enter
  k_steps
  all_goals (refine' rt3_end hret ?jF ?jN ?jm ?js ?jl ?je1 ?je2 ?je3; (case jF => k_asm); (case jN => k_asm); (case jm => k_mem); (case js => first | with_reducible exact fun _ h => h | with_reducible exact fun _ h => List.mem_cons_of_mem _ (h) | with_reducible exact fun _ h => List.mem_cons_of_mem _ (List.mem_cons_of_mem _ (h)) | with_reducible exact fun _ h => List.mem_cons_of_mem _ (List.mem_cons_of_mem _ (List.mem_cons_of_mem _ (h))) | with_reducible exact fun _ h => List.mem_cons_of_mem _ (List.mem_cons_of_mem _ (List.mem_cons_of_mem _ (List.mem_cons_of_mem _ (h)))) | with_reducible exact fun _ h => List.mem_cons_of_mem _ (List.mem_cons_of_mem _ (List.mem_cons_of_mem _ (List.mem_cons_of_mem _ (List.mem_cons_of_mem _ (h))))) | with_reducible exact fun _ h => List.mem_cons_of_mem _ (List.mem_cons_of_mem _ (List.mem_cons_of_mem _ (List.mem_cons_of_mem _ (List.mem_cons_of_mem _ (List.mem_cons_of_mem _ (h)))))) | with_reducible exact fun _ h => List.mem_cons_of_mem _ (List.mem_cons_of_mem _ (List.mem_cons_of_mem _ (List.mem_cons_of_mem _ (List.mem_cons_of_mem _ (List.mem_cons_of_mem _ (List.mem_cons_of_mem _ (h))))))) | kcj_all); (case jl => first | with_reducible assumption | (with_reducible refine' allLt_of ?jl; (case jl => with_reducible assumption)) | (with_reducible refine' allLt_cons1 ?jl; (case jl => with_reducible assumption)) | (with_reducible refine' allLt_and ?jl; (case jl => with_reducible assumption)) | (with_reducible refine' allLt_and2 ?jl; (case jl => with_reducible assumption)) | (with_reducible refine' allLt_tr ?jl ?jk; (case jl => with_reducible assumption); (case jk => with_reducible assumption))); (case je1 => (rfl)); (case je2 => (rfl)); (case je3 => (rfl)))
local macro_rules | `(tactic| walk_at "call ref") => `(tactic| (k_here; k_dflt (refine' Clm.go' (c_tgj ?p0) ?_; (case p0 => walk_at "JG"); walk_at "JIT3")))
theorem c_fgj {w : World} {loose : List Str} {mean : ExcName → Option Value} {mg mb : Str → Option Value} {n y m' d : Int} {t u v : Tok} (hG : GDate n y m' d) : Clm w loose mean mg mb 4 198 [.int y t, .int m' u, .int d v] (RI n) := by
  unfold Clm RI
  k_fill
  intro news dp un gd cn cs a ccd cl outer A₀ base h₀ L m s Q E B F X N T hk hd hu hret
  refine wpAny_call ?_
  k_dflt cell_enter
  k_steps
  all_goals (refine' ri_end hret ?jF ?jN ?js ?je; (case jF => k_asm); (case jN => k_asm); (case js => first | with_reducible exact fun _ h => h | with_reducible exact fun _ h => List.mem_cons_of_mem _ (h) | with_reducible exact fun _ h => List.mem_cons_of_mem _ (List.mem_cons_of_mem _ (h)) | with_reducible exact fun _ h => List.mem_cons_of_mem _ (List.mem_cons_of_mem _ (List.mem_cons_of_mem _ (h))) | with_reducible exact fun _ h => List.mem_cons_of_mem _ (List.mem_cons_of_mem _ (List.mem_cons_of_mem _ (List.mem_cons_of_mem _ (h)))) | with_reducible exact fun _ h => List.mem_cons_of_mem _ (List.mem_cons_of_mem _ (List.mem_cons_of_mem _ (List.mem_cons_of_mem _ (List.mem_cons_of_mem _ (h))))) | with_reducible exact fun _ h => List.mem_cons_of_mem _ (List.mem_cons_of_mem _ (List.mem_cons_of_mem _ (List.mem_cons_of_mem _ (List.mem_cons_of_mem _ (List.mem_cons_of_mem _ (h)))))) | with_reducible exact fun _ h => List.mem_cons_of_mem _ (List.mem_cons_of_mem _ (List.mem_cons_of_mem _ (List.mem_cons_of_mem _ (List.mem_cons_of_mem _ (List.mem_cons_of_mem _ (List.mem_cons_of_mem _ (h))))))) | kcj_all); (case je => (rfl)))
local macro_rules | `(tactic| walk_at "call ref") => `(tactic| (k_here; k_dflt (refine' Clm.go' (c_fgj ?p0) ?_; (case p0 => walk_at "JG"); walk_at "JII")))
theorem c_from_jul_J {w : World} {loose : List Str} {mean : ExcName → Option Value} {mg mb : Str → Option Value} {n y m' d : Int} {t : Tok} (hJ : JDate n y m' d) : Clm w loose mean mg mb 1 114 [.int n t] (RT3 y m' d) := by
  have h := @c_from_jul w loose mean mg mb n t
  rw [ju_Y hJ, ju_M hJ, ju_D hJ] at h
  exact h
local macro_rules | `(tactic| walk_at "call ref") => `(tactic| (k_here; k_dflt (refine' Clm.go' (c_from_jul_J ?p0) ?_; (case p0 => walk_at "JJ"); walk_at "JIT3")))
theorem c_to_jul_J {w : World} {loose : List Str} {mean : ExcName → Option Value} {mg mb : Str → Option Value} {n y m' d : Int} {t u v : Tok} (hJ : JDate n y m' d) : Clm w loose mean mg mb 4 121 [.int y t, .int m' u, .int d v] (RI n) := by
  have h := @c_to_jul w loose mean mg mb y m' d t u v (jd_d1 hJ) (jd_d2 hJ)
  rw [← hJ.1] at h
  exact h
local macro_rules | `(tactic| walk_at "call ref") => `(tactic| (k_here; k_dflt (refine' Clm.go' (c_to_jul_J ?p0) ?_; (case p0 => walk_at "JJ"); walk_at "JII")))
theorem c_tj {w : World} {loose : List Str} {mean : ExcName → Option Value} {mg mb : Str → Option Value} {n y m' d : Int} {t : Tok} (hJ : JDate n y m' d) : Clm w loose mean mg mb 2 205 [.int n t] (RT3 y m' d) := by
  unfold Clm RT3
  k_fill
  intro news dp un gd cn cs a ccd cl outer A₀ base h₀ L m s Q E B F X N T hk hd hu hret
  refine wpAny_call ?_
  k_dflt cell_enter
  k_steps
  all_goals (refine' rt3_end hret ?jF ?jN ?jm ?js ?jl ?je1 ?je2 ?je3; (case jF => k_asm); (case jN => k_asm); (case jm => k_mem); (case js => first | with_reducible exact fun _ h => h | with_reducible exact fun _ h => List.mem_cons_of_mem _ (h) | with_reducible exact fun _ h => List.mem_cons_of_mem _ (List.mem_cons_of_mem _ (h)) | with_reducible exact fun _ h => List.mem_cons_of_mem _ (List.mem_cons_of_mem _ (List.mem_cons_of_mem _ (h))) | with_reducible exact fun _ h => List.mem_cons_of_mem _ (List.mem_cons_of_mem _ (List.mem_cons_of_mem _ (List.mem_cons_of_mem _ (h)))) | with_reducible exact fun _ h => List.mem_cons_of_mem _ (List.mem_cons_of_mem _ (List.mem_cons_of_mem _ (List.mem_cons_of_mem _ (List.mem_cons_of_mem _ (h))))) | with_reducible exact fun _ h => List.mem_cons_of_mem _ (List.mem_cons_of_mem _ (List.mem_cons_of_mem _ (List.mem_cons_of_mem _ (List.mem_cons_of_mem _ (List.mem_cons_of_mem _ (h)))))) | with_reducible exact fun _ h => List.mem_cons_of_mem _ (List.mem_cons_of_mem _ (List.mem_cons_of_mem _ (List.mem_cons_of_mem _ (List.mem_cons_of_mem _ (List.mem_cons_of_mem _ (List.mem_cons_of_mem _ (h))))))) | kcj_all); (case jl => first | with_reducible assumption | (with_reducible refine' allLt_of ?jl; (case jl => with_reducible assumption)) | (with_reducible refine' allLt_cons1 ?jl; (case jl => with_reducible assumption)) | (with_reducible refine' allLt_and ?jl; (case jl => with_reducible assumption)) | (with_reducible refine' allLt_and2 ?jl; (case jl => with_reducible assumption)) | (with_reducible refine' allLt_tr ?jl ?jk; (case jl => with_reducible assumption); (case jk => with_reducible assumption))); (case je1 => (rfl)); (case je2 => (rfl)); (case je3 => (rfl)))
local macro_rules | `(tactic| walk_at "call ref") => `(tactic| (k_here; k_dflt (refine' Clm.go' (c_tj ?p0) ?_; (case p0 => walk_at "JJ"); walk_at "JIT3")))
theorem c_fj {w : World} {loose : List Str} {mean : ExcName → Option Value} {mg mb : Str → Option Value} {n y m' d : Int} {t u v : Tok} (hJ : JDate n y m' d) : Clm w loose mean mg mb 5 212 [.int y t, .int m' u, .int d v] (RI n) := by
  unfold Clm RI
  k_fill
  intro news dp un gd cn cs a ccd cl outer A₀ base h₀ L m s Q E B F X N T hk hd hu hret
  refine wpAny_call ?_
  k_dflt cell_enter
  k_steps
  all_goals (refine' ri_end hret ?jF ?jN ?js ?je; (case jF => k_asm); (case jN => k_asm); (case js => first | with_reducible exact fun _ h => h | with_reducible exact fun _ h => List.mem_cons_of_mem _ (h) | with_reducible exact fun _ h => List.mem_cons_of_mem _ (List.mem_cons_of_mem _ (h)) | with_reducible exact fun _ h => List.mem_cons_of_mem _ (List.mem_cons_of_mem _ (List.mem_cons_of_mem _ (h))) | with_reducible exact fun _ h => List.mem_cons_of_mem _ (List.mem_cons_of_mem _ (List.mem_cons_of_mem _ (List.mem_cons_of_mem _ (h)))) | with_reducible exact fun _ h => List.mem_cons_of_mem _ (List.mem_cons_of_mem _ (List.mem_cons_of_mem _ (List.mem_cons_of_mem _ (List.mem_cons_of_mem _ (h))))) | with_reducible exact fun _ h => List.mem_cons_of_mem _ (List.mem_cons_of_mem _ (List.mem_cons_of_mem _ (List.mem_cons_of_mem _ (List.mem_cons_of_mem _ (List.mem_cons_of_mem _ (h)))))) | with_reducible exact fun _ h => List.mem_cons_of_mem _ (List.mem_cons_of_mem _ (List.mem_cons_of_mem _ (List.mem_cons_of_mem _ (List.mem_cons_of_mem _ (List.mem_cons_of_mem _ (List.mem_cons_of_mem _ (h))))))) | kcj_all); (case je => (rfl)))
local macro_rules | `(tactic| walk_at "call ref") => `(tactic| (k_here; k_dflt (refine' Clm.go' (c_fj ?p0) ?_; (case p0 => walk_at "JJ"); walk_at "JII")))
theorem six_of (ns : List Int) : ∃ (a b c d e f : Int) (r : List Int), List.take 6 ns ++ [0, 0, 0, 0, 0, 0] = a :: b :: c :: d :: e :: f :: r := by
  rcases ns with _ | ⟨a, _ | ⟨b, _ | ⟨c, _ | ⟨d, _ | ⟨e, _ | ⟨f, r⟩⟩⟩⟩⟩⟩
  · exact ⟨0, 0, 0, 0, 0, 0, [], rfl⟩
  · exact ⟨a, 0, 0, 0, 0, 0, [0], rfl⟩
  · exact ⟨a, b, 0, 0, 0, 0, [0, 0], rfl⟩
  · exact ⟨a, b, c, 0, 0, 0, [0, 0, 0], rfl⟩
  · exact ⟨a, b, c, d, 0, 0, [0, 0, 0, 0], rfl⟩
  · exact ⟨a, b, c, d, e, 0, [0, 0, 0, 0, 0], rfl⟩
  · exact ⟨a, b, c, d, e, f, [0, 0, 0, 0, 0, 0], by simp⟩
theorem item_lit {prog : Program} {w : World} {A : Around} {E : Value → Shared → Prop} {s : Shared} {value slice : PySem.Expr} {l : Addr} {items : Array Value} {k : Int} {u : Tok} {v : Value} {Q : Value → Shared → Prop}
    (hl : s.heap.IsList l items) (h0 : 0 ≤ k) (hhi : k < 2 ^ 63) (hx : items[k.toNat]? = some v) (h : Q v s)
    (hs : subscripted slice false (.ref l) (.int k u) = operate [.ref l, .int k u] (getItem (.ref l) (.int k u)) := by with_unfolding_all rfl) :
    wpAny (model prog w) A (subscriptTail value slice (.ref l) (.int k u)) Q E s :=
  tail_any hl.typeIs slot_list_getitem.lookup (wpAny_getItem_list hl h0 hhi hx h) hs
theorem item_0 {prog : Program} {w : World} {A : Around} {E : Value → Shared → Prop} {s : Shared} {value slice : PySem.Expr} {l : Addr} {v0 v1 v2 v3 v4 v5 : Value} {r : List Value} {u : Tok} {Q : Value → Shared → Prop}
    (hl : s.heap.IsList l (v0 :: v1 :: v2 :: v3 :: v4 :: v5 :: r).toArray) (h : Q v0 s)
    (hs : subscripted slice false (.ref l) (.int 0 u) = operate [.ref l, .int 0 u] (getItem (.ref l) (.int 0 u)) := by with_unfolding_all rfl) :
    wpAny (model prog w) A (subscriptTail value slice (.ref l) (.int 0 u)) Q E s := item_lit hl (by decide) (by decide) rfl h hs
theorem item_1 {prog : Program} {w : World} {A : Around} {E : Value → Shared → Prop} {s : Shared} {value slice : PySem.Expr} {l : Addr} {v0 v1 v2 v3 v4 v5 : Value} {r : List Value} {u : Tok} {Q : Value → Shared → Prop}
    (hl : s.heap.IsList l (v0 :: v1 :: v2 :: v3 :: v4 :: v5 :: r).toArray) (h : Q v1 s)
    (hs : subscripted slice false (.ref l) (.int 1 u) = operate [.ref l, .int 1 u] (getItem (.ref l) (.int 1 u)) := by with_unfolding_all rfl) :
    wpAny (model prog w) A (subscriptTail value slice (.ref l) (.int 1 u)) Q E s := item_lit hl (by decide) (by decide) rfl h hs
theorem item_2 {prog : Program} {w : World} {A : Around} {E : Value → Shared → Prop} {s : Shared} {value slice : PySem.Expr} {l : Addr} {v0 v1 v2 v3 v4 v5 : Value} {r : List Value} {u : Tok} {Q : Value → Shared → Prop}
    (hl : s.heap.IsList l (v0 :: v1 :: v2 :: v3 :: v4 :: v5 :: r).toArray) (h : Q v2 s)
    (hs : subscripted slice false (.ref l) (.int 2 u) = operate [.ref l, .int 2 u] (getItem (.ref l) (.int 2 u)) := by with_unfolding_all rfl) :
    wpAny (model prog w) A (subscriptTail value slice (.ref l) (.int 2 u)) Q E s := item_lit hl (by decide) (by decide) rfl h hs
theorem item_3 {prog : Program} {w : World} {A : Around} {E : Value → Shared → Prop} {s : Shared} {value slice : PySem.Expr} {l : Addr} {v0 v1 v2 v3 v4 v5 : Value} {r : List Value} {u : Tok} {Q : Value → Shared → Prop}
    (hl : s.heap.IsList l (v0 :: v1 :: v2 :: v3 :: v4 :: v5 :: r).toArray) (h : Q v3 s)
    (hs : subscripted slice false (.ref l) (.int 3 u) = operate [.ref l, .int 3 u] (getItem (.ref l) (.int 3 u)) := by with_unfolding_all rfl) :
    wpAny (model prog w) A (subscriptTail value slice (.ref l) (.int 3 u)) Q E s := item_lit hl (by decide) (by decide) rfl h hs
theorem item_4 {prog : Program} {w : World} {A : Around} {E : Value → Shared → Prop} {s : Shared} {value slice : PySem.Expr} {l : Addr} {v0 v1 v2 v3 v4 v5 : Value} {r : List Value} {u : Tok} {Q : Value → Shared → Prop}
    (hl : s.heap.IsList l (v0 :: v1 :: v2 :: v3 :: v4 :: v5 :: r).toArray) (h : Q v4 s)
    (hs : subscripted slice false (.ref l) (.int 4 u) = operate [.ref l, .int 4 u] (getItem (.ref l) (.int 4 u)) := by with_unfolding_all rfl) :
    wpAny (model prog w) A (subscriptTail value slice (.ref l) (.int 4 u)) Q E s := item_lit hl (by decide) (by decide) rfl h hs
theorem item_5 {prog : Program} {w : World} {A : Around} {E : Value → Shared → Prop} {s : Shared} {value slice : PySem.Expr} {l : Addr} {v0 v1 v2 v3 v4 v5 : Value} {r : List Value} {u : Tok} {Q : Value → Shared → Prop}
    (hl : s.heap.IsList l (v0 :: v1 :: v2 :: v3 :: v4 :: v5 :: r).toArray) (h : Q v5 s)
    (hs : subscripted slice false (.ref l) (.int 5 u) = operate [.ref l, .int 5 u] (getItem (.ref l) (.int 5 u)) := by with_unfolding_all rfl) :
    wpAny (model prog w) A (subscriptTail value slice (.ref l) (.int 5 u)) Q E s := item_lit hl (by decide) (by decide) rfl h hs
theorem news_erase {h₀ h : Heap} {L : Addr} {news : List (Addr × Obj)} (N : News h₀ L h news) (n : Nat) : News h₀ L h (news.eraseIdx n) := fun p hp => N p (List.mem_of_mem_eraseIdx hp)
theorem news_one {h₀ h : Heap} {L : Addr} {news : List (Addr × Obj)} {e : Addr × Obj} (N : News h₀ L h news) (hm : e ∈ news) : News h₀ L h [e] := fun p hp => by
  rw [List.mem_singleton.mp hp]; exact N e hm
/-- the end of a statement that is cut out of the law's walk: it goes on, the frame and the script's list as they were -/
def CutEnd (h₀ : Heap) (L : Addr) (m : Str → Option Value) (e : Addr × Obj) (s : Shared) (f : Flow) (s' : Shared) : Prop :=
  f = .next ∧ ∃ h' tk', s' = { s with heap := h', toks := tk' } ∧ Fr h₀ L h' m ∧ News h₀ L h' [e]
theorem cutEnd_ {h₀ : Heap} {L : Addr} {m : Str → Option Value} {e : Addr × Obj} {s : Shared} {h' : Heap} {tk' : Nat} {news : List (Addr × Obj)} (F : Fr h₀ L h' m) (N : News h₀ L h' news) (hm : e ∈ news) :
    CutEnd h₀ L m e s .next { s with heap := h', toks := tk' } := ⟨rfl, h', tk', rfl, F, news_one N hm⟩
theorem cut_ {M : Model} {A : Around} {E : Value → Shared → Prop} {s : Shared} {T : Sem Flow} {Q : Flow → Shared → Prop} {h₀ : Heap} {L : Addr} {m : Str → Option Value} {e : Addr × Obj}
    (_ : Fr h₀ L s.heap m) (_ : News h₀ L s.heap [e])
    (h1 : wpAny M A T (fun f s' => CutEnd h₀ L m e s f s') E s) (h2 : ∀ h' tk', Fr h₀ L h' m → News h₀ L h' [e] → Q .next { s with heap := h', toks := tk' }) : wpAny M A T Q E s :=
  wpAny_mono h1 (fun f s' hc => by
    obtain ⟨rfl, h', tk', rfl, F, N⟩ := hc
    exact h2 h' tk' F N) fun _ _ x => x
/-- the same where the statement stores one int -/
def CutInt (h₀ : Heap) (L : Addr) (m : Str → Option Value) (e : Addr × Obj) (s : Shared) (x : Str) (v : Int) (f : Flow) (s' : Shared) : Prop :=
  f = .next ∧ ∃ h' tk' t, s' = { s with heap := h', toks := tk' } ∧ Fr h₀ L h' (fun y => if y = x then some (.int v t) else m y) ∧ News h₀ L h' [e]
theorem cutInt_ {h₀ : Heap} {L : Addr} {m : Str → Option Value} {e : Addr × Obj} {s : Shared} {x : Str} {v : Int} {t : Tok} {h' : Heap} {tk' : Nat} {news : List (Addr × Obj)} (F : Fr h₀ L h' (fun y => if y = x then some (.int v t) else m y)) (N : News h₀ L h' news) (hm : e ∈ news) :
    CutInt h₀ L m e s x v .next { s with heap := h', toks := tk' } := ⟨rfl, h', tk', t, rfl, F, news_one N hm⟩
theorem cutI_ {M : Model} {A : Around} {E : Value → Shared → Prop} {s : Shared} {T : Sem Flow} {Q : Flow → Shared → Prop} {h₀ : Heap} {L : Addr} {m : Str → Option Value} {e : Addr × Obj} {x : Str} {v : Int}
    (_ : Fr h₀ L s.heap m) (_ : News h₀ L s.heap [e])
    (h1 : wpAny M A T (fun f s' => CutInt h₀ L m e s x v f s') E s) (h2 : ∀ h' tk' t, Fr h₀ L h' (fun y => if y = x then some (.int v t) else m y) → News h₀ L h' [e] → Q .next { s with heap := h', toks := tk' }) : wpAny M A T Q E s :=
  wpAny_mono h1 (fun f s' hc => by
    obtain ⟨rfl, h', tk', t, rfl, F, N⟩ := hc
    exact h2 h' tk' t F N) fun _ _ x => x
theorem pl_fy (y : Int) : FY (y + 1789) - FY (y + 1788) - 364 = 1 + b2i (leapB (y + 1789 - 1)) := by
  have h := FY_step (y + 1788)
  have e : y + 1788 + 1 = y + 1789 := by omega
  have e2 : y + 1789 - 1 = y + 1788 := by omega
  rw [e] at h
  rw [e2]
  omega
theorem pl_yes {y m d : Int} (h : PLegal y m d) : 1 ≤ y ∧ 1 ≤ m ∧ m ≤ 14 ∧ 1 ≤ d ∧ d ≤ 28 ∧ (m ≤ 13 ∨ d ≤ FY (y + 1789) - FY (y + 1788) - 364) := by
  refine ⟨h.1, h.2.1, h.2.2.1, h.2.2.2.1, h.2.2.2.2.1, ?_⟩
  rw [pl_fy]
  have := h.2.2.2.2.2
  unfold b2i
  cases hl : leapB (y + 1789 - 1) <;> simp [hl] at this ⊢ <;> omega
theorem pl_not {y m d : Int} (h : ¬ PLegal y m d) : y < 1 ∨ m < 1 ∨ 14 < m ∨ d < 1 ∨ (m < 14 ∧ 28 < d) ∨ (m = 14 ∧ FY (y + 1789) - FY (y + 1788) - 364 < d) := by
  rw [pl_fy]
  by_cases hc : y < 1 ∨ m < 1 ∨ 14 < m ∨ d < 1 ∨ (m < 14 ∧ 28 < d) ∨ (m = 14 ∧ 1 + b2i (leapB (y + 1789 - 1)) < d)
  · exact hc
  · exfalso
    refine h ⟨by omega, by omega, by omega, by omega, ?_, ?_⟩
    · unfold b2i at hc
      cases hl : leapB (y + 1789 - 1) <;> simp [hl] at hc <;> omega
    · unfold b2i at hc
      cases hl : leapB (y + 1789 - 1) <;> simp [hl] at hc ⊢ <;> omega
/-- a fact laid aside while the stale ones are cleared -/
structure Keep (p : Prop) : Prop where
  out : p
theorem post_ok (ns : List Int) : PySem.Challenge.rw_jb0014_01.row.claim.post [ofPy (PyData.list (ns.map PyData.int))] (WData.bool true) [ofPy (PyData.list (ns.map PyData.int))] = true := by kernel_rfl
theorem c_from_jd_pos {w : World} {loose : List Str} {mean : ExcName → Option Value} {mg mb : Str → Option Value} {n y m' d : Int} {t : Tok} (hG : GDate n y m' d) (hN : 2374480 ≤ n) (hC : y.fmod 400 ≠ 0 ∨ n - FY y < 365) : Clm w loose mean mg mb 1 233 [.int n t] (RT3 (y - 1788) ((n - FY y).fdiv 28 + 1) ((n - FY y).fmod 28 + 1)) := by
  unfold Clm RT3
  k_fill
  intro news dp un gd cn cs a ccd cl outer A₀ base h₀ L m s Q E B F X N T hk hd hu hret
  refine wpAny_call ?_
  k_dflt cell_enter
  k_steps
  all_goals (refine' pj_end hret ?jF ?jN ?jm ?js ?jl ?je; (case jF => k_asm); (case jN => k_asm); (case jm => k_mem); (case js => first | with_reducible exact fun _ h => h | with_reducible exact fun _ h => List.mem_cons_of_mem _ (h) | with_reducible exact fun _ h => List.mem_cons_of_mem _ (List.mem_cons_of_mem _ (h)) | with_reducible exact fun _ h => List.mem_cons_of_mem _ (List.mem_cons_of_mem _ (List.mem_cons_of_mem _ (h))) | with_reducible exact fun _ h => List.mem_cons_of_mem _ (List.mem_cons_of_mem _ (List.mem_cons_of_mem _ (List.mem_cons_of_mem _ (h)))) | with_reducible exact fun _ h => List.mem_cons_of_mem _ (List.mem_cons_of_mem _ (List.mem_cons_of_mem _ (List.mem_cons_of_mem _ (List.mem_cons_of_mem _ (h))))) | with_reducible exact fun _ h => List.mem_cons_of_mem _ (List.mem_cons_of_mem _ (List.mem_cons_of_mem _ (List.mem_cons_of_mem _ (List.mem_cons_of_mem _ (List.mem_cons_of_mem _ (h)))))) | with_reducible exact fun _ h => List.mem_cons_of_mem _ (List.mem_cons_of_mem _ (List.mem_cons_of_mem _ (List.mem_cons_of_mem _ (List.mem_cons_of_mem _ (List.mem_cons_of_mem _ (List.mem_cons_of_mem _ (h))))))) | kcj_all); (case jl => first | with_reducible assumption | (with_reducible refine' allLt_of ?jl; (case jl => with_reducible assumption)) | (with_reducible refine' allLt_cons1 ?jl; (case jl => with_reducible assumption)) | (with_reducible refine' allLt_and ?jl; (case jl => with_reducible assumption)) | (with_reducible refine' allLt_and2 ?jl; (case jl => with_reducible assumption)) | (with_reducible refine' allLt_tr ?jl ?jk; (case jl => with_reducible assumption); (case jk => with_reducible assumption))); (case je => (first | (with_reducible refine' pj_i hG ?jq; (case jq => with_reducible assumption)) | (with_reducible refine' pj_n hG hC ?jq; (case jq => with_reducible assumption)))))
local macro_rules | `(tactic| walk_at "call ref") => `(tactic| (k_here; k_dflt (refine' Clm.go' (c_from_jd_pos ?p0 ?p1 ?p2) ?_; (case p0 => walk_at "JG"); (case p1 => first | with_reducible assumption | omega); (case p2 => first | with_reducible assumption | (refine' Or.inl ?jq; (case jq => with_reducible assumption)) | (refine' Or.inr ?jq; (case jq => with_reducible assumption))); walk_at "JIT3")))
local macro_rules | `(tactic| walk_at "noteFrame ref") => `(tactic| (exfalso; first | ((have hz9 := pl_2 (by with_reducible assumption) (by with_reducible assumption) (by with_reducible assumption)); omega) | ((have hz9 := pl_3 (by with_reducible assumption) (by with_reducible assumption) (by with_reducible assumption)); omega)))
theorem c_legal_pos {w : World} {loose : List Str} {mean : ExcName → Option Value} {mg mb : Str → Option Value} {y m' d : Int} {t u v : Tok} (hP : PLegal y m' d) : Clm w loose mean mg mb 2 219 [.int y t, .int m' u, .int d v] (RB true) := by
  unfold Clm RB
  k_fill
  have hp1 := pl_1 hP
  intro news dp un gd cn cs a ccd cl outer A₀ base h₀ L m s Q E B F X N T hk hd hu hret
  refine wpAny_call ?_
  k_dflt cell_enter
  k_steps
  all_goals (refine' rb_end hret ?jF ?jN ?js ?je; (case jF => k_asm); (case jN => k_asm); (case js => first | with_reducible exact fun _ h => h | with_reducible exact fun _ h => List.mem_cons_of_mem _ (h) | with_reducible exact fun _ h => List.mem_cons_of_mem _ (List.mem_cons_of_mem _ (h)) | with_reducible exact fun _ h => List.mem_cons_of_mem _ (List.mem_cons_of_mem _ (List.mem_cons_of_mem _ (h))) | with_reducible exact fun _ h => List.mem_cons_of_mem _ (List.mem_cons_of_mem _ (List.mem_cons_of_mem _ (List.mem_cons_of_mem _ (h)))) | with_reducible exact fun _ h => List.mem_cons_of_mem _ (List.mem_cons_of_mem _ (List.mem_cons_of_mem _ (List.mem_cons_of_mem _ (List.mem_cons_of_mem _ (h))))) | with_reducible exact fun _ h => List.mem_cons_of_mem _ (List.mem_cons_of_mem _ (List.mem_cons_of_mem _ (List.mem_cons_of_mem _ (List.mem_cons_of_mem _ (List.mem_cons_of_mem _ (h)))))) | with_reducible exact fun _ h => List.mem_cons_of_mem _ (List.mem_cons_of_mem _ (List.mem_cons_of_mem _ (List.mem_cons_of_mem _ (List.mem_cons_of_mem _ (List.mem_cons_of_mem _ (List.mem_cons_of_mem _ (h))))))) | kcj_all); (case je => (rfl)))
local macro_rules | `(tactic| walk_at "call ref") => `(tactic| (k_here; k_dflt (refine' Clm.go' (c_legal_pos ?p0) ?_; (case p0 => first | assumption | omega); walk_at "JIB")))
theorem c_to_jd_pos {w : World} {loose : List Str} {mean : ExcName → Option Value} {mg mb : Str → Option Value} {y m' d : Int} {t u v : Tok} (hP : PLegal y m' d) : Clm w loose mean mg mb 3 226 [.int y t, .int m' u, .int d v] (RI (FY (y + 1788) + 28 * (m' - 1) + d - 1)) := by
  unfold Clm RI
  k_fill
  intro news dp un gd cn cs a ccd cl outer A₀ base h₀ L m s Q E B F X N T hk hd hu hret
  refine wpAny_call ?_
  k_dflt cell_enter
  k_steps
  all_goals (refine' ri_end hret ?jF ?jN ?js ?je; (case jF => k_asm); (case jN => k_asm); (case js => first | with_reducible exact fun _ h => h | with_reducible exact fun _ h => List.mem_cons_of_mem _ (h) | with_reducible exact fun _ h => List.mem_cons_of_mem _ (List.mem_cons_of_mem _ (h)) | with_reducible exact fun _ h => List.mem_cons_of_mem _ (List.mem_cons_of_mem _ (List.mem_cons_of_mem _ (h))) | with_reducible exact fun _ h => List.mem_cons_of_mem _ (List.mem_cons_of_mem _ (List.mem_cons_of_mem _ (List.mem_cons_of_mem _ (h)))) | with_reducible exact fun _ h => List.mem_cons_of_mem _ (List.mem_cons_of_mem _ (List.mem_cons_of_mem _ (List.mem_cons_of_mem _ (List.mem_cons_of_mem _ (h))))) | with_reducible exact fun _ h => List.mem_cons_of_mem _ (List.mem_cons_of_mem _ (List.mem_cons_of_mem _ (List.mem_cons_of_mem _ (List.mem_cons_of_mem _ (List.mem_cons_of_mem _ (h)))))) | with_reducible exact fun _ h => List.mem_cons_of_mem _ (List.mem_cons_of_mem _ (List.mem_cons_of_mem _ (List.mem_cons_of_mem _ (List.mem_cons_of_mem _ (List.mem_cons_of_mem _ (List.mem_cons_of_mem _ (h))))))) | kcj_all); (case je => (exact pos_expr y m' d)))
local macro_rules | `(tactic| walk_at "call ref") => `(tactic| (k_here; k_dflt (refine' Clm.go' (c_to_jd_pos ?p0) ?_; (case p0 => first | assumption | omega); walk_at "JII")))
theorem c_to_jd_pos_due {w : World} {loose : List Str} {mean : ExcName → Option Value} {mg mb : Str → Option Value} {n y m' d : Int} {t u v : Tok} (hG : GDate n y m' d) (hN : 2374480 ≤ n) : Clm w loose mean mg mb 3 226 [.int (y - 1788) t, .int ((n - FY y).fdiv 28 + 1) u, .int ((n - FY y).fmod 28 + 1) v] (RI n) := by
  have h := @c_to_jd_pos w loose mean mg mb (y - 1788) ((n - FY y).fdiv 28 + 1) ((n - FY y).fmod 28 + 1) t u v (pos_legal hG hN)
  rw [pos_val n y] at h
  exact h
local macro_rules | `(tactic| walk_at "call ref") => `(tactic| (k_here; k_dflt (refine' Clm.go' (c_to_jd_pos_due ?p0 ?p1) ?_; (case p0 => walk_at "JG"); (case p1 => first | with_reducible assumption | omega); walk_at "JII")))
theorem c_to_greg_pos {w : World} {loose : List Str} {mean : ExcName → Option Value} {mg mb : Str → Option Value} {n y m' d : Int} {t u v : Tok} (hG : GDate n y m' d) (hN : 2374480 ≤ n) : Clm w loose mean mg mb 5 247 [.int (y - 1788) t, .int ((n - FY y).fdiv 28 + 1) u, .int ((n - FY y).fmod 28 + 1) v] (RT3 y m' d) := by
  unfold Clm RT3
  k_fill
  intro news dp un gd cn cs a ccd cl outer A₀ base h₀ L m s Q E B F X N T hk hd hu hret
  refine wpAny_call ?_
  k_dflt cell_enter
  k_steps
  all_goals (refine' rt3_end hret ?jF ?jN ?jm ?js ?jl ?je1 ?je2 ?je3; (case jF => k_asm); (case jN => k_asm); (case jm => k_mem); (case js => first | with_reducible exact fun _ h => h | with_reducible exact fun _ h => List.mem_cons_of_mem _ (h) | with_reducible exact fun _ h => List.mem_cons_of_mem _ (List.mem_cons_of_mem _ (h)) | with_reducible exact fun _ h => List.mem_cons_of_mem _ (List.mem_cons_of_mem _ (List.mem_cons_of_mem _ (h))) | with_reducible exact fun _ h => List.mem_cons_of_mem _ (List.mem_cons_of_mem _ (List.mem_cons_of_mem _ (List.mem_cons_of_mem _ (h)))) | with_reducible exact fun _ h => List.mem_cons_of_mem _ (List.mem_cons_of_mem _ (List.mem_cons_of_mem _ (List.mem_cons_of_mem _ (List.mem_cons_of_mem _ (h))))) | with_reducible exact fun _ h => List.mem_cons_of_mem _ (List.mem_cons_of_mem _ (List.mem_cons_of_mem _ (List.mem_cons_of_mem _ (List.mem_cons_of_mem _ (List.mem_cons_of_mem _ (h)))))) | with_reducible exact fun _ h => List.mem_cons_of_mem _ (List.mem_cons_of_mem _ (List.mem_cons_of_mem _ (List.mem_cons_of_mem _ (List.mem_cons_of_mem _ (List.mem_cons_of_mem _ (List.mem_cons_of_mem _ (h))))))) | kcj_all); (case jl => first | with_reducible assumption | (with_reducible refine' allLt_of ?jl; (case jl => with_reducible assumption)) | (with_reducible refine' allLt_cons1 ?jl; (case jl => with_reducible assumption)) | (with_reducible refine' allLt_and ?jl; (case jl => with_reducible assumption)) | (with_reducible refine' allLt_and2 ?jl; (case jl => with_reducible assumption)) | (with_reducible refine' allLt_tr ?jl ?jk; (case jl => with_reducible assumption); (case jk => with_reducible assumption))); (case je1 => (rfl)); (case je2 => (rfl)); (case je3 => (rfl)))
local macro_rules | `(tactic| walk_at "call ref") => `(tactic| (k_here; k_dflt (refine' Clm.go' (c_to_greg_pos ?p0 ?p1) ?_; (case p0 => walk_at "JG"); (case p1 => first | with_reducible assumption | omega); walk_at "JIT3")))
theorem c_from_greg_pos {w : World} {loose : List Str} {mean : ExcName → Option Value} {mg mb : Str → Option Value} {n y m' d : Int} {t u v : Tok} (hG : GDate n y m' d) (hN : 2374480 ≤ n) (hC : y.fmod 400 ≠ 0 ∨ n - FY y < 365) : Clm w loose mean mg mb 4 240 [.int y t, .int m' u, .int d v] (RT3 (y - 1788) ((n - FY y).fdiv 28 + 1) ((n - FY y).fmod 28 + 1)) := by
  unfold Clm RT3
  k_fill
  intro news dp un gd cn cs a ccd cl outer A₀ base h₀ L m s Q E B F X N T hk hd hu hret
  refine wpAny_call ?_
  k_dflt cell_enter
  k_steps
  all_goals (refine' rt3_end hret ?jF ?jN ?jm ?js ?jl ?je1 ?je2 ?je3; (case jF => k_asm); (case jN => k_asm); (case jm => k_mem); (case js => first | with_reducible exact fun _ h => h | with_reducible exact fun _ h => List.mem_cons_of_mem _ (h) | with_reducible exact fun _ h => List.mem_cons_of_mem _ (List.mem_cons_of_mem _ (h)) | with_reducible exact fun _ h => List.mem_cons_of_mem _ (List.mem_cons_of_mem _ (List.mem_cons_of_mem _ (h))) | with_reducible exact fun _ h => List.mem_cons_of_mem _ (List.mem_cons_of_mem _ (List.mem_cons_of_mem _ (List.mem_cons_of_mem _ (h)))) | with_reducible exact fun _ h => List.mem_cons_of_mem _ (List.mem_cons_of_mem _ (List.mem_cons_of_mem _ (List.mem_cons_of_mem _ (List.mem_cons_of_mem _ (h))))) | with_reducible exact fun _ h => List.mem_cons_of_mem _ (List.mem_cons_of_mem _ (List.mem_cons_of_mem _ (List.mem_cons_of_mem _ (List.mem_cons_of_mem _ (List.mem_cons_of_mem _ (h)))))) | with_reducible exact fun _ h => List.mem_cons_of_mem _ (List.mem_cons_of_mem _ (List.mem_cons_of_mem _ (List.mem_cons_of_mem _ (List.mem_cons_of_mem _ (List.mem_cons_of_mem _ (List.mem_cons_of_mem _ (h))))))) | kcj_all); (case jl => first | with_reducible assumption | (with_reducible refine' allLt_of ?jl; (case jl => with_reducible assumption)) | (with_reducible refine' allLt_cons1 ?jl; (case jl => with_reducible assumption)) | (with_reducible refine' allLt_and ?jl; (case jl => with_reducible assumption)) | (with_reducible refine' allLt_and2 ?jl; (case jl => with_reducible assumption)) | (with_reducible refine' allLt_tr ?jl ?jk; (case jl => with_reducible assumption); (case jk => with_reducible assumption))); (case je1 => (rfl)); (case je2 => (rfl)); (case je3 => (rfl)))
local macro_rules | `(tactic| walk_at "call ref") => `(tactic| (k_here; k_dflt (refine' Clm.go' (c_from_greg_pos ?p0 ?p1 ?p2) ?_; (case p0 => walk_at "JG"); (case p1 => first | with_reducible assumption | omega); (case p2 => first | with_reducible assumption | (refine' Or.inl ?jq; (case jq => with_reducible assumption)) | (refine' Or.inr ?jq; (case jq => with_reducible assumption))); walk_at "JIT3")))
/-- where a ValueError that leaves a call arrives -/
def RzCond (h₀ : Heap) (L : Addr) (m : Str → Option Value) (base : Heap) (l : List Env) (news : List (Addr × Obj)) (s : Shared) (E : Value → Shared → Prop) : Prop :=
  ∀ g e h' tk', Fr h₀ L g m → RaisedSN base g l e (.type "ValueError") news h' → g.UpToSlots h' → E (.ref e) { s with heap := h', toks := tk' }
theorem RzCond.use {h₀ : Heap} {L : Addr} {m : Str → Option Value} {base : Heap} {l : List Env} {news : List (Addr × Obj)} {s : Shared} {E : Value → Shared → Prop} {g : Heap} {e : Addr} {h' : Heap} {tk' : Nat}
    (C : RzCond h₀ L m base l news s E) (FG : Fr h₀ L g m) (R : RaisedSN base g l e (.type "ValueError") news h') (U : g.UpToSlots h') : E (.ref e) { s with heap := h', toks := tk' } := C g e h' tk' FG R U
/-- a call of the def at f that ends in a ValueError: from any frame, over any ledger -/
abbrev ClmR (w : World) (loose : List Str) (mean : ExcName → Option Value) (mg mb : Str → Option Value) (k : Nat) (f : Addr) (vs : List Value) : Prop :=
  ∀ (news : List (Addr × Obj)) (dp un : Nat) (gd : Option (List Code)) (cn : Str) (cs : Scope) (a : Addr) (ccd : Value) (outer : List Env) (A₀ : Around) (base h₀ : Heap) (L : Addr) (m : Str → Option Value) (s : Shared) (Q E : Value → Shared → Prop),
    Below A₀ base outer h₀ → Fr h₀ L s.heap m → (JB.hd.heap_1 w.params).In h₀ → News h₀ L s.heap news → Top JB.vw loose mean mg mb h₀ → (JB.hd.heap_1 w.params).In base → Top JB.vw loose mean mg mb base → cs.kind = .function →
    dp + k < recursionLimit → un + 8 * k < cLine →
    RzCond h₀ L m base (envOf cn cs L a ccd :: outer) news s E →
      wpAny (model PySem.Challenge.rw_jb0014_01.row.prog w) (ktrTop dp un gd cn cs L a ccd [] outer) (call (.ref f) vs) Q E s
theorem ClmR.go {w : World} {loose : List Str} {mean : ExcName → Option Value} {mg mb : Str → Option Value} {k : Nat} {f : Addr} {vs : List Value} (C : ClmR w loose mean mg mb k f vs)
    {news : List (Addr × Obj)} {dp un : Nat} {gd : Option (List Code)} {cn : Str} {cs : Scope} {a : Addr} {ccd : Value} {outer : List Env} {A₀ : Around} {base h₀ : Heap} {L : Addr} {m : Str → Option Value} {s : Shared} {Q E : Value → Shared → Prop}
    (B : Below A₀ base outer h₀) (F : Fr h₀ L s.heap m) (X : (JB.hd.heap_1 w.params).In h₀) (N : News h₀ L s.heap news) (T : Top JB.vw loose mean mg mb h₀) (XB : (JB.hd.heap_1 w.params).In base) (TB : Top JB.vw loose mean mg mb base) (hk : cs.kind = .function)
    (hd : dp + k < recursionLimit) (hu : un + 8 * k < cLine)
    (ret : ∀ g e h' tk', Fr h₀ L g m → RaisedSN base g (envOf cn cs L a ccd :: outer) e (.type "ValueError") news h' → g.UpToSlots h' → E (.ref e) { s with heap := h', toks := tk' }) :
      wpAny (model PySem.Challenge.rw_jb0014_01.row.prog w) (ktrTop dp un gd cn cs L a ccd [] outer) (call (.ref f) vs) Q E s :=
  C news dp un gd cn cs a ccd outer A₀ base h₀ L m s Q E B F X N T XB TB hk hd hu ret
theorem pl_of13 {y m d : Int} (h1 : 1 ≤ y) (h2 : 0 < m) (h3 : m ≤ 14) (h4 : 0 < d) (h5 : d ≤ 28) (h6 : m ≠ 14) : PLegal y m d := ⟨h1, h2, h3, h4, h5, .inl (by omega)⟩
theorem pl_of14L {y m d : Int} (h1 : 1 ≤ y) (h2 : 0 < m) (h3 : m ≤ 14) (h4 : 0 < d) (h5 : d ≤ 28) (hl : leapB (y + 1789 - 1) = true) (h6 : d ≤ 2) : PLegal y m d := ⟨h1, h2, h3, h4, h5, .inr (by rw [if_pos hl]; exact h6)⟩
theorem pl_of14N {y m d : Int} (h1 : 1 ≤ y) (h2 : 0 < m) (h3 : m ≤ 14) (h4 : 0 < d) (h5 : d ≤ 28) (hl : leapB (y + 1789 - 1) = false) (h6 : d = 1) : PLegal y m d := ⟨h1, h2, h3, h4, h5, .inr (by rw [if_neg (by rw [hl]; decide)]; omega)⟩
/-- a call of _law_asked by the law itself that gives 'refused' -/
abbrev ClmS (w : World) (loose : List Str) (mean : ExcName → Option Value) (mg mb : Str → Option Value) (k : Nat) (f : Addr) (vs : List Value) : Prop :=
  ∀ (news : List (Addr × Obj)) (dp un : Nat) (gd : Option (List Code)) (cn : Str) (cs : Scope) (a : Addr) (ccd : Value) (A₀ : Around) (base h₀ : Heap) (L : Addr) (m : Str → Option Value) (s : Shared) (Q E : Value → Shared → Prop),
    Below A₀ base [] h₀ → Fr h₀ L s.heap m → (JB.hd.heap_1 w.params).In h₀ → News h₀ L s.heap news → Top JB.vw loose mean mg mb h₀ → (JB.hd.heap_1 w.params).In base → Top JB.vw loose mean mg mb base → cs.kind = .function →
    dp + k < recursionLimit → un + 8 * k < cLine →
    (∀ t h' tk', Fr h₀ L h' m → News h₀ L h' news → Q (.str (Str.ofString "refused") t) { s with heap := h', toks := tk' }) →
      wpAny (model PySem.Challenge.rw_jb0014_01.row.prog w) (ktrTop dp un gd cn cs L a ccd [] []) (call (.ref f) vs) Q E s
theorem ClmS.go {w : World} {loose : List Str} {mean : ExcName → Option Value} {mg mb : Str → Option Value} {k : Nat} {f : Addr} {vs : List Value} (C : ClmS w loose mean mg mb k f vs)
    {news : List (Addr × Obj)} {dp un : Nat} {gd : Option (List Code)} {cn : Str} {cs : Scope} {a : Addr} {ccd : Value} {A₀ : Around} {base h₀ : Heap} {L : Addr} {m : Str → Option Value} {s : Shared} {Q E : Value → Shared → Prop}
    (B : Below A₀ base [] h₀) (F : Fr h₀ L s.heap m) (X : (JB.hd.heap_1 w.params).In h₀) (N : News h₀ L s.heap news) (T : Top JB.vw loose mean mg mb h₀) (XB : (JB.hd.heap_1 w.params).In base) (TB : Top JB.vw loose mean mg mb base) (hk : cs.kind = .function)
    (hd : dp + k < recursionLimit) (hu : un + 8 * k < cLine)
    (ret : ∀ t h' tk', Fr h₀ L h' m → News h₀ L h' news → Q (.str (Str.ofString "refused") t) { s with heap := h', toks := tk' }) :
      wpAny (model PySem.Challenge.rw_jb0014_01.row.prog w) (ktrTop dp un gd cn cs L a ccd [] []) (call (.ref f) vs) Q E s :=
  C news dp un gd cn cs a ccd A₀ base h₀ L m s Q E B F X N T XB TB hk hd hu ret
theorem s_end {x : PySem.Str} {h₀ h' : Heap} {L : Addr} {m : Str → Option Value} {news news' : List (Addr × Obj)} {s : Shared} {Q : Value → Shared → Prop} {t : Tok} {tk' : Nat}
    (hret : ∀ t h' tk', Fr h₀ L h' m → News h₀ L h' news → Q (.str x t) { s with heap := h', toks := tk' }) (F : Fr h₀ L h' m) (N : News h₀ L h' news') (hs : ∀ p ∈ news, p ∈ news') : Q (.str x t) { s with heap := h', toks := tk' } :=
  hret t h' tk' F fun p hp => N p (hs p hp)
section
variable {M : Model} {A : Around} {E : Value → Shared → Prop} {s : Shared}
/-- the first look at a new exception in a frame: one entry of a traceback; all else stays, frames up to their slots -/
theorem rz_note {base : Heap} {env : Env} {outer : List Env} {L e : Addr} {oe : Obj} {vs : Array Value} {Q : Unit → Shared → Prop}
    (hfr : A.frames = some (env :: outer)) (hl : s.heap.FunFrames base (env :: outer)) (hf : env.frame = some L)
    (he : s.heap.get? e = some oe) (hd : oe.data = .fields vs) (h1 : vs[1]? = some .none)
    (h : ∀ h' T oT ts, (∀ b o, b ≠ e → b ∉ (env :: outer).filterMap (·.frame) → s.heap.get? b = some o → h'.get? b = some o) →
        (∀ b o, b ≠ e → s.heap.get? b = some o → ∃ sl, h'.get? b = some { o with slots := sl }) →
        h'.get? e = some (Obj.mapFields (·.setIfInBounds 1 (.ref T)) oe) → h'.get? T = some oT → oT.data = .fields ts → ts[3]? = some (rawInt L) → s.heap.get? T = none →
        Q () { s with heap := h' }) : wpAny M A (noteFrame (.ref e) env) Q E s := by
  have hne : e ∉ (env :: outer).filterMap (·.frame) := fun hm => by
    obtain ⟨_, o, ho, hnf⟩ := hl.mem hm
    rw [he] at ho
    cases ho
    exact hnf vs hd
  have hsz : 1 < vs.size := (Array.getElem?_eq_some_iff.mp h1).1
  unfold noteFrame
  simp only [hf]
  refine wpAny_bind (wpAny_field he hd h1 ?_)
  rw [if_neg (by decide)]
  refine wpAny_bind (wpAny_frameOf_fun hfr hl hf fun g hg => ?_)
  refine wpAny_bind (wpAny_entryPlaceOf fun pl hpl => ?_)
  unfold EntryCells.newEntry newFields
  refine wpAny_bind (wpAny_newObj_type ?_ (hpl.sizeOk5 _ _ _ _ _))
  have heg : g.get? e = some oe := (hg.2.1 e hne).trans he
  have new : ∀ b o, g.get? b = some o → b ≠ g.objs.size := fun b o q => Nat.ne_of_lt (Heap.lt_size q)
  refine wpAny_setField (Heap.get?_push_of_some _ heg) hd hsz ?_
  have hT : (Heap.update (g.push { cls := .type "traceback", dict := none, data := .fields ([Value.none, .ref L, .none, rawInt L, .none] ++ (if pl.isEmpty then List.replicate 6 Value.none else pl)).toArray }) e (Obj.mapFields (·.setIfInBounds 1 (.ref g.objs.size)))).get? g.objs.size = some _ :=
    (Heap.get?_update_other _ _ (new e _ heg)).trans (Heap.get?_push_size _ rfl)
  refine h _ g.objs.size _ _ (fun b o nb nm q => ?_) (fun b o nb q => ?_) ?_ hT rfl ?_ ?_
  · rw [Heap.get?_update_other _ _ (Ne.symm nb)]
    exact Heap.get?_push_of_some _ ((hg.2.1 b nm).trans q)
  · obtain ⟨sl, hs⟩ := hg.2.2 b o q
    exact ⟨sl, by rw [Heap.get?_update_other _ _ (Ne.symm nb)]; exact Heap.get?_push_of_some _ hs⟩
  · exact Heap.get?_update_self _ (Heap.get?_push_of_some _ heg) (Obj.isFreed_of_fields (Obj.data_mapFields hd _))
  · simp
  · exact Heap.get?_none_of_le (Nat.le_of_eq hg.1.symm)

/-- the exception and its traceback's first entry, both in the ledger -/
def RzPair (X : String) (e T : Addr) (t : Value) (oe oT : Obj) (fl : Value) : Prop :=
  T ≠ e ∧ oe.cls = .type X ∧ oe.data = .fields #[t, .ref T, .none, .none, .bool false, .none] ∧ ∃ ts, oT.data = .fields ts ∧ ts[3]? = some fl

theorem below_turn {A₀ : Around} {base g g' : Heap} {outer : List Env} (K : Below A₀ base outer g) (T : KtsTurn (outer.filterMap (·.frame)) g g') : Below A₀ base outer g' :=
  have h1 : base.StaysIn g' := fun b o e => T.other b o (K.stays b o e) fun hm => by
    rw [(K.frames.mem hm).1] at e
    cases e
  have h2 : g'.FunFrames base outer := K.frames.of_keeps fun b o e _ => by
    obtain ⟨sl, hs⟩ := T.up e
    exact ⟨_, hs, rfl⟩
  ⟨K.stack, h1, h2⟩

theorem rz_noted {A₀ : Around} {s' : Shared} {base g h : Heap} {outer : List Env} {L a e : Addr} {m : Str → Option Value} {name : Str} {scope : Scope} {cd : Value} {Q : Unit → Shared → Prop} {news : List (Addr × Obj)} {X : String}
    (K : Below A₀ base outer g) (F : Fr g L h m) (N : News g L h news) (hx : Heap.NewExc h s'.heap e X)
    (k : ∀ h' g' T t oe oT, KtsTurn (outer.filterMap (·.frame)) g g' → Fr g' L h' m → News g' L h' ((e, oe) :: (T, oT) :: news) → RzPair X e T t oe oT (rawInt L) → (∀ p ∈ news, p.1 ≠ T) →
      Q () { s' with heap := h' }) (hk : scope.kind = .function := by rfl) :
    wpAny M (A₀.deeper (envOf name scope L a cd)) (noteFrame (.ref e) (envOf name scope L a cd)) Q E s' := by
  have K' := K.push (name := name) (a := a) (cd := cd) F hk
  obtain ⟨oe, t, he, hcls, hd⟩ := hx.there
  refine rz_note K'.stack (K'.frames.of_keeps fun b o hb _ => ⟨o, hx.keeps b o hb, rfl⟩) rfl he hd rfl fun h' T oT ts h1 h2 h3 h4 h5 h6 h7 => ?_
  have ne : ∀ b o, h.get? b = some o → b ≠ e := fun b o q z => by rw [z, hx.new] at q; cases q
  have nT : ∀ b o, h.get? b = some o → b ≠ T := fun b o q z => by have := hx.keeps b o q; rw [z, h7] at this; cases this
  have up : ∀ b o, h.get? b = some o → ∃ sl, h'.get? b = some { o with slots := sl } := fun b o q => h2 b o (ne b o q) (hx.keeps b o q)
  have st : ∀ b o, h.get? b = some o → b ≠ L → b ∉ outer.filterMap (·.frame) → h'.get? b = some o := fun b o q n1 n2 => h1 b o (ne b o q) (fun hm => by
    rcases kts_mem hm with z | z
    · exact n1 z
    · exact n2 z) (hx.keeps b o q)
  have gL : ∀ b o, g.get? b = some o → b ≠ L := fun b o q z => by rw [z, kts_self F] at q; cases q
  obtain ⟨Tn, S⟩ := kts_turn_at (h := h') (fs := outer.filterMap (·.frame)) (g := g)
    (fun b hb => by
      obtain ⟨_, o, ho, _⟩ := K.frames.mem hb
      exact ⟨o, ho⟩)
    (fun b o q nm => st b o (F.keep b o q) (gL b o q) nm)
    (fun b o q _ => up b o (F.keep b o q))
  obtain ⟨oL, es, ep, hL, hLd, hLk, hLf⟩ := F.ns
  obtain ⟨sl, hs⟩ := up L oL hL
  have F' : Fr (ktsHeap h' (outer.filterMap (·.frame)) g) L h' m := ⟨⟨_, es, ep, hs, hLd, hLk, hLf⟩, S, by rw [Tn.size]; exact F.above⟩
  have fresh : ∀ b, h.get? b = none → (ktsHeap h' (outer.filterMap (·.frame)) g).get? b = none := fun b q => Tn.none_ _ (kts_none F.keep q)
  have Tnone : h.get? T = none := by
    cases q : h.get? T with
    | none => rfl
    | some o => exact absurd rfl (nT T o q)
  refine k h' _ T t _ oT Tn F' (fun p hp => ?_) ⟨fun z => ?_, (Obj.cls_mapFields _ _).trans hcls, (Obj.data_mapFields hd (·.setIfInBounds 1 (Value.ref T))).trans rfl, ts, h5, h6⟩ fun p hp z => ?_
  · rcases List.mem_cons.mp hp with rfl | hp
    · exact ⟨h3, Ne.symm (ne L oL hL), fresh _ hx.new⟩
    · rcases List.mem_cons.mp hp with rfl | hp
      · exact ⟨h4, Ne.symm (nT L oL hL), fresh _ Tnone⟩
      · have P := N p hp
        exact ⟨st p.1 p.2 P.1 P.2.1 fun hm => (by
          obtain ⟨_, o, ho, _⟩ := K.frames.mem hm
          rw [P.2.2] at ho
          cases ho), P.2.1, Tn.none_ _ P.2.2⟩
  · rw [z, he] at h7
    cases h7
  · exact nT p.1 p.2 (N p hp).1 z

/-- the mark of the flight goes -/
theorem rz_lands {g : Heap} {L e T : Addr} {m : Str → Option Value} {Q : Unit → Shared → Prop} {news : List (Addr × Obj)} {X : String} {t fl : Value} {oe oT : Obj}
    (F : Fr g L s.heap m) (N : News g L s.heap ((e, oe) :: (T, oT) :: news)) (P : RzPair X e T t oe oT fl) (hn : ∀ p ∈ news, p.1 ≠ T)
    (k : ∀ h' oT', Fr g L h' m → News g L h' ((e, oe) :: (T, oT') :: news) → RzPair X e T t oe oT' .none → Q () { s with heap := h' }) :
    wpAny M A (setFlight (.ref e) none) Q E s := by
  obtain ⟨hTe, hc, hd, ts, htd, h3⟩ := P
  have hsz : 3 < ts.size := (Array.getElem?_eq_some_iff.mp h3).1
  unfold setFlight
  refine wpAny_bind (wpAny_field (N (e, oe) (by simp)).1 hd (x := .ref T) (by simp) ?_)
  rw [if_pos (show (Value.ref T != Value.none) = true from by simp)]
  refine wpAny_setField (N (T, oT) (by simp)).1 htd hsz ?_
  obtain ⟨F', N'⟩ := news_upd (pre := [(e, oe)]) (post := news) (f := Obj.mapFields (·.setIfInBounds 3 ((none : Option Addr).elim Value.none fun f => rawInt f))) F N (fun p hp => by rw [List.mem_singleton.mp hp]; exact Ne.symm hTe) hn rfl
    (Obj.isFreed_of_fields (Obj.data_mapFields htd _))
  exact k _ _ F' N' ⟨hTe, hc, hd, _, Obj.data_mapFields htd _, by simp [hsz]⟩
end
section
variable {prog : Program} {w : World} {A₀ : Around} {E : Value → Shared → Prop} {s' : Shared} {base g h : Heap} {outer : List Env} {L a e : Addr} {m : Str → Option Value} {name : Str} {scope : Scope} {cd : Value}
  {n : Str} {b₀ : Stmt} {suite : List Stmt} {pos np : Pos} {rest : List ExceptHandler} {Q : Flow → Shared → Prop} {news : List (Addr × Obj)} {KF : Frag}
  {p : Program} {loose : List Str} {mean : ExcName → Option Value} {mg mb : Str → Option Value} {x : Str} {X T' : String}
/-- a new exception of this frame meets this frame's own clause `except T as n` -/
theorem rz_caught_as (K : Below A₀ base outer g) (F : Fr g L h m) (N : News g L h news) (hx : Heap.NewExc h s'.heap e X) (XB : KF.In base) (TB : Top p loose mean mg mb base)
    (ex : nsIn KF mainGlobals x = some none) (hv : bootBuiltins x = some (.type T')) (hn' : x ≠ "__name__")
    (hexc : isSubtype (.type T') (.type "BaseException") = pure true) (hnt : isSubtype (.type ((Manifest.find? T').elim "type" fun y => y.metatype)) (.type "tuple") = pure false) (hsub : isSubtype (.type X) (.type T') = pure true)
    (k : ∀ h' g' tk T t oe oT, KtsTurn (outer.filterMap (·.frame)) g g' → Fr g' L h' (fun y => if y = n then some (.ref e) else m y) → News g' L h' ((e, oe) :: (T, oT) :: news) → RzPair X e T t oe oT .none →
      Below A₀ base outer g' → KF.In g' → Top p loose mean mg mb g' →
      wpAny (model prog w) ((A₀.deeper (envOf name scope L a cd)).mark (some (.ref e))) (execs (b₀ :: suite) (envOf name scope L a cd))
        (fun f s₄ => wpAny (model prog w) (A₀.deeper (envOf name scope L a cd)) (do bindName (envOf name scope L a cd) n .none; unbindBehindTheSuite (envOf name scope L a cd) n pos) (fun _ s₅ => Q f s₅) E s₄)
        (AsSuiteRaised (model prog w) ((A₀.deeper (envOf name scope L a cd)).mark (some (.ref e))) (envOf name scope L a cd) n pos (notedBy (model prog w) ((A₀.deeper (envOf name scope L a cd)).mark (some (.ref e))) (envOf name scope L a cd) (cameBackBy (model prog w) (A₀.deeper (envOf name scope L a cd)) (envOf name scope L a cd) E)))
        { s' with heap := h', toks := tk })
    (hk : scope.kind = .function := by rfl) (hlo : (envOf name scope L a cd).kindOf n = some .local := by rfl) (hxk : (envOf name scope L a cd).kindOf x = some .globalImplicit := by rfl) (hd : (x == ("__debug__" : Str)) = false := by decide) :
    wpAny (model prog w) (A₀.deeper (envOf name scope L a cd)) (noteFrame (.ref e) (envOf name scope L a cd))
      (fun _ s₂ => wpAny (model prog w) (A₀.deeper (envOf name scope L a cd)) (setFlight (.ref e) none) (fun _ s₃ =>
        wpAny (model prog w) (A₀.deeper (envOf name scope L a cd)) (handleBy (.ref e) (envOf name scope L a cd) (.ExceptHandler (some (.Name x np)) (some n) (b₀ :: suite) pos :: rest)) Q E s₃) E s₂) E s' := by
  refine rz_noted K F N hx (fun h₁ g' T t oe oT Tn F₁ N₁ P₁ hne => ?_) hk
  have K' := below_turn K Tn
  have X' : KF.In g' := XB.keeps K'.stays
  have P' : Top p loose mean mg mb g' := TB.keeps K'.stays
  refine rz_lands F₁ N₁ P₁ hne fun h₂ oT₂ F₂ N₂ P₂ => ?_
  refine wpAny_handleBy_builtin_as (X := X) (T := T') (b := true) hexc hnt hsub (name_B F₂ X' (topRead_of P') ex hv hn' ⟨rfl, ⟨oe, (N₂ (e, oe) (by simp)).1, P₂.2.1⟩, ?_⟩ hk hxk hd)
  refine rz_lands F₂ N₂ P₂ hne fun h₃ oT₃ F₃ N₃ P₃ => ?_
  exact stN F₃ N₃ (fun h₄ F₄ N₄ => k h₄ g' _ T t oe oT₃ Tn F₄ N₄ P₃ K' X' P') hk hlo
end
/-- the exception that is being handled, whose own context is none -/
def RzHeld (e : Addr) (h : Heap) : Prop := ∃ oe vs X, h.get? e = some oe ∧ oe.cls = .type X ∧ isSubtype (.type X) (.type "BaseException") = pure true ∧ oe.data = .fields vs ∧ vs[2]? = some .none
theorem RzHeld.keeps {e : Addr} {h h' : Heap} (x : RzHeld e h) (k : ∀ b o, h.get? b = some o → h'.get? b = some o) : RzHeld e h' := by
  obtain ⟨oe, vs, X, a, r⟩ := x
  exact ⟨oe, vs, X, k _ _ a, r⟩
/-- a new exception on the heap, not raised through any frame yet -/
structure RzNew (h h' : Heap) (e : Addr) (X : String) : Prop where
  keeps : ∀ b o, h.get? b = some o → h'.get? b = some o
  new : h.get? e = none
  there : ∃ ob vs, h'.get? e = some ob ∧ ob.cls = .type X ∧ ob.data = .fields vs ∧ vs[1]? = some .none ∧ 2 < vs.size
theorem entry_unchain : entryFor table "proto.unchain" = some Builtin.«proto.unchain» := entryFor_of_fast (by kernel_rfl)
section
variable {prog : Program} {w : World} {A : Around} {E : Value → Shared → Prop} {s : Shared}
theorem rz_unchain {e : Addr} {v : Value} {Q : Value → Shared → Prop} (hH : RzHeld e s.heap) (h : Q .none s) :
    wpAny (model prog w) A (runValue (.builtin "proto.unchain" ⟨[v, .ref e, .ref e, .bool false], []⟩)) Q E s := by
  obtain ⟨oe, vs, X, he, _, _, hd, h2⟩ := hH
  refine wpAny_runValue (codeAny_builtin entry_unchain ?_)
  unfold Builtin.«proto.unchain»
  refine wpAny_bind (wpAny_field he hd h2 ?_)
  rw [if_pos (by decide)]
  exact wpAny_bind (show wpAny _ _ (ret .none) _ _ _ from wpAny_pure (wpAny_pure h))
theorem rz_raiseNew {α : Type} {e e2 : Addr} {o2 : Obj} {vs : Array Value} {Q : α → Shared → Prop} (hh : A.handled = some (.ref e)) (hH : RzHeld e s.heap) (hne : e ≠ e2)
    (he : s.heap.get? e2 = some o2) (hd : o2.data = .fields vs) (hsz : 2 < vs.size)
    (h : E (.ref e2) { s with heap := s.heap.update e2 (Obj.mapFields (·.setIfInBounds 2 (.ref e))) }) : wpAny (model prog w) A (raiseNew (.ref e2) : Sem α) Q E s := by
  unfold raiseNew
  refine wpAny_bind (wpAny_handled ?_)
  rw [hh]
  dsimp only
  rw [if_pos (show (Value.ref e != Value.ref e2) = true from by simp [hne])]
  refine wpAny_bind (wpAny_holding (rz_unchain hH ?_))
  unfold updateField
  refine wpAny_bind (wpAny_bind (wpAny_load he ?_))
  rw [hd]
  show wpAny _ _ (if 2 < vs.size then _ else _) _ _ _
  rw [if_pos hsz]
  exact wpAny_update he (wpAny_throw h)
theorem rz_raiseError {α : Type} {e : Addr} {X N I : String} (hc : ExcClass X N I) {msg : String} {Q : α → Shared → Prop} (hh : A.handled = some (.ref e)) (hH : RzHeld e s.heap)
    (h : ∀ h' tk e2, RzNew s.heap h' e2 X → E (.ref e2) { s with heap := h', toks := tk }) (hm : (msg : Str).length ≤ sizeLine := by size_fits) :
    wpAny (model prog w) A (raiseError X msg : Sem α) Q E s := by
  unfold raiseErrorMade
  refine wpAny_bind (wpAny_mkStr (wpAny_bind ?_) hm)
  refine wpAny_newExc_plain ⟨hc.noOwn, hc.noFirst⟩ (fun h' e2 hx => ?_)
  obtain ⟨t, h1, h2, h3⟩ := hx.there
  have hne : e ≠ e2 := fun z => by
    obtain ⟨oe, _, _, he, _⟩ := hH
    have := hx.new
    rw [← z] at this
    exact absurd (this.symm.trans he) (by simp)
  refine rz_raiseNew hh (hH.keeps hx.keeps) hne h1 rfl (by simp) ?_
  refine h _ _ _ ⟨fun b o q => ?_, hx.new, _, _, Heap.get?_update_self _ h1 (Obj.isFreed_of_fields (Obj.data_mapFields rfl _)), rfl, rfl, by simp, by simp⟩
  have hb : e2 ≠ b := fun z => by
    have := hx.new
    rw [z] at this
    exact absurd (this.symm.trans q) (by simp)
  exact (Heap.get?_update_other _ _ hb).trans (hx.keeps b o q)
theorem rz_code_repr {e : Addr} {a : Int} {t : Tok} {R : Result → Shared → Prop} (hh : A.handled = some (.ref e)) (hH : RzHeld e s.heap) (hn : s.heap.NoDigits)
    (h1 : a.natAbs < 10 ^ 4300 → R (.ok (.ret (.str (toString a) s.toks))) { s with toks := s.toks + 1 })
    (h2 : ∀ h' tk e2, RzNew s.heap h' e2 "ValueError" → R (.error (.ref e2)) { s with heap := h', toks := tk }) :
    codeAny (model prog w) A (.builtin "int.__repr__" ⟨[.int a t], []⟩) R s := by
  refine codeAny_builtin PySem.entry_int_repr ?_
  rw [Around.under_plainId PyProof.Rows.plain_int_repr _]
  unfold Builtin.«int.__repr__»
  show wpAny _ _ (do let r ← Builtin.overDigitLimit? a; _) _ _ s
  refine wpAny_bind (overDigitLimit_any hn (fun hlt => ?_) (fun hge => ?_))
  · exact wpAny_bind (wpAny_mkStr (wpAny_pure (h1 hlt)) (int_text_fits10 hlt))
  · clear hge h1
    first
      | exact wpAny_bind (wpAny_rule (rz_raiseError (A := A.in1) excClass_ValueError hh hH h2 (by rw [PySem.ofString_length, sizeLine_eq]; decide +kernel)))
      | exact wpAny_bind (wpAny_rule (wpAny_bind (rz_raiseError (A := A.in1) excClass_ValueError hh hH h2 (by rw [PySem.ofString_length, sizeLine_eq]; decide +kernel))))
theorem rz_formatOf {e : Addr} {n : Int} {u : Tok} {Q : Value → Shared → Prop} (hh : A.handled = some (.ref e)) (hH : RzHeld e s.heap) (hn : s.heap.NoDigits)
    (h1 : ∀ t' k, (PySem.Str.ofString (toString n)).length ≤ 4301 → Q (.str (PySem.Str.ofString (toString n)) t') { s with toks := k })
    (h2 : ∀ h' tk e2, RzNew s.heap h' e2 "ValueError" → E (.ref e2) { s with heap := h', toks := tk }) : wpAny (model prog w) A (PySem.Builtin.Str.formatOf (.int n u) PySem.Str.empty) Q E s := by
  unfold PySem.Builtin.Str.formatOf
  refine wpAny_ite (KPc.ite_no Bool.false_ne_true ?_)
  refine wpAny_bind (wpAny_mkStr ?_ (by decide))
  refine wpAny_bind (m := callSpecial? (.int n u) (PySem.Str.ofString "__format__") [.str PySem.Str.empty s.toks]) (wpAny_callSpecial?_slot (name := PySem.Str.ofString "__format__") (typeIs_int _ n u) F.slot_int_format ?_)
  refine wpAny_call (codeAny_call_builtin F.slot_int_format.plain F.entry_int_format (F.slot_int_format.check _ _ _ _ _ _ _ _ (typeIs_int _ n u) (F.args_int_format_2 _ _) ?_))
  show wpAny _ _ (do let _kind ← typeNameOf (.str PySem.Str.empty s.toks); (do rule "int.format.empty"; again (.builtin "int.__repr__" ⟨[.int n u], []⟩))) _ _ _
  refine wpAny_bind (wpAny_typeNameOf (T := "str") (typeIs_str _ _ _) (by decide) fun _ => wpAny_bind (wpAny_rule (wpAny_pure ⟨plainId_quiet PyProof.Rows.plain_int_repr _, rz_code_repr hh hH hn (fun hlt => ?_) h2⟩)))
  have hl : (PySem.Str.ofString (toString n)).length ≤ 4301 := by
    rw [PySem.ofString_length]
    exact int_text_length_le10 (k := 4300) (by decide) hlt
  clear hlt
  refine wpAny_bind (wpAny_of_eq (a := some (PySem.Str.ofString (toString n))) rfl ?_)
  refine wpAny_ite (KPc.ite_no Bool.false_ne_true ?_)
  exact wpAny_pure (h1 _ _ hl)
end
/-- what `raise X from err` wants of its two values -/
def RzRaise (E : Value → Shared → Prop) (e : Addr) (v cv : Value) (s : Shared) : Prop :=
  ∃ e2 oe, v = .ref e2 ∧ cv = .ref e ∧ RzHeld e s.heap ∧ e ≠ e2 ∧ s.heap.get? e2 = some oe ∧ oe.cls = .type "ValueError" ∧ (∃ t, oe.data = .fields #[t, .none, .none, .none, .bool false, .none]) ∧
    ∀ h', (∀ b, e2 ≠ b → h'.get? b = s.heap.get? b) → (∃ ob vs, h'.get? e2 = some ob ∧ ob.cls = .type "ValueError" ∧ ob.data = .fields vs ∧ vs[1]? = some .none ∧ 2 < vs.size) → E (.ref e2) { s with heap := h' }
section
variable {prog : Program} {w : World} {A : Around} {E : Value → Shared → Prop} {s : Shared} {env : Env}
theorem rz_notType {a : Addr} {o : Obj} {vs : Array Value} {Q : Bool → Shared → Prop} (ho : s.heap.get? a = some o) (hd : o.data = .fields vs) (h : Q false s) : wpAny (model prog w) A (isType (.ref a)) Q E s := by
  simp only [isType, loadHead]
  refine wpAny_bind (wpAny_loadPart ho ?_)
  rw [hd]
  exact wpAny_pure h
theorem rz_excFrom {a : Addr} {o : Obj} {vs : Array Value} {X msg : String} {Q : Value → Shared → Prop} (ho : s.heap.get? a = some o) (hc : o.cls = .type X) (hd : o.data = .fields vs)
    (hb : isSubtype (.type X) (.type "BaseException") = pure true) (h : Q (.ref a) s) : wpAny (model prog w) A (excFromValue (.ref a) msg) Q E s := by
  unfold excFromValue isExcClass
  refine wpAny_bind (wpAny_bind (rz_notType ho hd ?_))
  simp only [Bool.false_eq_true, if_false]
  refine wpAny_pure ?_
  simp only [Bool.false_eq_true, if_false]
  refine wpAny_bind (wpAny_isInstance (T := X) ⟨o, ho, hc⟩ hb ?_)
  simp only [if_true]
  exact wpAny_pure h
theorem rz_raise_from {e : Addr} {x c : PySem.Expr} {pos : Pos} {Q : Flow → Shared → Prop} (hh : A.handled = some (.ref e))
    (h : wpAny (model prog w) A (eval x env) (fun v s₁ => wpAny (model prog w) A (eval c env) (fun cv s₂ => RzRaise E e v cv s₂) E s₁) E s) :
    wpAny (model prog w) A (exec (.Raise (some x) (some c) pos) env) Q E s := by
  show wpAny (model prog w) A (do standAt pos; raiseStmt env (some (do let v ← eval x env; standAt pos; pure v)) (some (do let v ← eval c env; standAt pos; pure v))) Q E s
  refine wpAny_bind (wpAny_standAt ?_)
  unfold raiseStmt
  dsimp only
  refine wpAny_bind (wpAny_bind (wpAny_mono h (fun v s₁ h₁ => wpAny_bind (wpAny_standAt (wpAny_pure ?_))) fun _ _ x => x))
  refine wpAny_bind (wpAny_holding (wpAny_bind (wpAny_mono h₁ (fun cv s₂ h₂ => wpAny_bind (wpAny_standAt (wpAny_pure (wpAny_bind (wpAny_pure ?_))))) fun _ _ x => x)))
  obtain ⟨e2, o2, rfl, rfl, hH, hne, he2, hc2, ⟨t, hd2⟩, hE⟩ := h₂
  have hH' := hH
  obtain ⟨oe, vs, X, he, hc, hb, hd, _⟩ := hH
  have hb2 : isSubtype (.type "ValueError") (.type "BaseException") = pure true := excClass_ValueError.base
  refine wpAny_bind (wpAny_holding (rz_excFrom he2 hc2 hd2 hb2 ?_))
  dsimp only
  rw [if_neg (show ¬ ((Value.ref e == Value.none) = true) from by simp)]
  refine wpAny_bind (wpAny_holding (rz_excFrom he hc hd hb ?_))
  have d3 := Obj.data_mapFields hd2 (·.setIfInBounds 3 (Value.ref e))
  have g3 := Heap.get?_update_self (Obj.mapFields (·.setIfInBounds 3 (Value.ref e))) he2 (Obj.isFreed_of_fields d3)
  have d4 := Obj.data_mapFields d3 (·.setIfInBounds 4 (Value.bool true))
  have g4 := Heap.get?_update_self (Obj.mapFields (·.setIfInBounds 4 (Value.bool true))) g3 (Obj.isFreed_of_fields d4)
  have c4 : (Obj.mapFields (·.setIfInBounds 4 (Value.bool true)) (Obj.mapFields (·.setIfInBounds 3 (Value.ref e)) o2)).cls = .type "ValueError" := (Obj.cls_mapFields _ _).trans ((Obj.cls_mapFields _ _).trans hc2)
  refine wpAny_bind (wpAny_setField he2 hd2 (by simp) ?_)
  refine wpAny_bind (wpAny_setField g3 d3 (by simp) ?_)
  refine wpAny_bind (rz_notType g4 d4 ?_)
  simp only [Bool.false_eq_true, if_false]
  unfold raisedInstance
  refine wpAny_bind (wpAny_bind (wpAny_typeOf (T := "ValueError") ⟨_, g4, c4⟩ (wpAny_bind (m := typeOf (.type "ValueError")) (wpAny_pure ?_))))
  rw [if_pos excClass_ValueError.metaType]
  refine wpAny_pure ?_
  unfold setFlight
  refine wpAny_bind (wpAny_bind (wpAny_field g4 d4 (x := .none) (by simp) ?_))
  rw [if_neg (by decide)]
  refine wpAny_pure ?_
  have st : ∀ b, e2 ≠ b → (((s₂.heap.update e2 (Obj.mapFields (·.setIfInBounds 3 (Value.ref e)))).update e2 (Obj.mapFields (·.setIfInBounds 4 (Value.bool true))))).get? b = s₂.heap.get? b := fun b nb =>
    (Heap.get?_update_other _ _ nb).trans (Heap.get?_update_other _ _ nb)
  have hHm : RzHeld e (((s₂.heap.update e2 (Obj.mapFields (·.setIfInBounds 3 (Value.ref e)))).update e2 (Obj.mapFields (·.setIfInBounds 4 (Value.bool true))))) := by
    obtain ⟨oe', vs', X', a, r⟩ := hH'
    exact ⟨oe', vs', X', (st e (Ne.symm hne)).trans a, r⟩
  refine rz_raiseNew hh hHm hne g4 d4 (by simp) ?_
  refine hE _ (fun b nb => (Heap.get?_update_other _ _ nb).trans (st b nb)) ⟨_, _, Heap.get?_update_self _ g4 (Obj.isFreed_of_fields (Obj.data_mapFields d4 _)), (Obj.cls_mapFields _ _).trans c4, Obj.data_mapFields d4 _, by simp, by simp⟩
end
theorem funFrames_imp {x y base : Heap} : ∀ {l : List Env}, x.FunFrames base l → (∀ b o, x.get? b = some o → (∀ vs, o.data ≠ .fields vs) → ∃ o', y.get? b = some o' ∧ ∀ vs, o'.data ≠ .fields vs) → y.FunFrames base l
  | [], _, _ => trivial
  | _ :: _, ⟨hk, ⟨L, o, hf, hn, ho, hd⟩, hr⟩, k => by
    obtain ⟨o', ho', hd'⟩ := k L o ho hd
    exact ⟨hk, ⟨L, o', hf, hn, ho', hd'⟩, funFrames_imp hr k⟩
section
variable {prog : Program} {w : World} {A₀ : Around} {s : Shared} {base g g' h : Heap} {outer : List Env} {L a e : Addr} {m : Str → Option Value} {name : Str} {scope : Scope} {cd : Value} {hd : Option Value}
  {n : Str} {pos : Pos} {news news' : List (Addr × Obj)} {Q₁ : Value → Shared → Prop} {E₁ : Value → Shared → Prop}
/-- the clause's suite raised a new ValueError: it leaves the frame -/
theorem rz_out (K : Below A₀ base outer g') (Tn : KtsTurn (outer.filterMap (·.frame)) g g') (F : Fr g' L h m) (N : News g' L h news') (hs : ∀ p ∈ news, p ∈ news') (hx : RzNew h s.heap e "ValueError")
    (hQ : ∀ h' tk, RaisedSN base g outer e (.type "ValueError") news h' → g.UpToSlots h' → Q₁ (.ref e) { s with heap := h', toks := tk })
    (hk : scope.kind = .function := by rfl) (hlo : (envOf name scope L a cd).kindOf n = some .local := by rfl) :
    AsSuiteRaised (model prog w) ((A₀.deeper (envOf name scope L a cd)).mark hd) (envOf name scope L a cd) n pos
      (notedBy (model prog w) ((A₀.deeper (envOf name scope L a cd)).mark hd) (envOf name scope L a cd) (cameBackBy (model prog w) (A₀.deeper (envOf name scope L a cd)) (envOf name scope L a cd)
        (fun x s' => wpAny (model prog w) (A₀.deeper (envOf name scope L a cd)) (leaving (envOf name scope L a cd) x) (fun _ s'' => Q₁ x s'') E₁ s'))) (.ref e) s := by
  have K' := K.push (name := name) (a := a) (cd := cd) F hk
  generalize hB : hideAll h ((envOf name scope L a cd :: outer).filterMap (·.frame)) = B
  have hBof : ∀ b o, B.get? b = some o → h.get? b = some o ∧ b ∉ (envOf name scope L a cd :: outer).filterMap (·.frame) := fun b o q => by
    rw [← hB] at q
    refine ⟨of_hideAll _ q, fun hm => ?_⟩
    rw [hideAll_none _ hm] at q
    cases q
  have hBto : ∀ b o, h.get? b = some o → b ∉ (envOf name scope L a cd :: outer).filterMap (·.frame) → B.get? b = some o := fun b o q nm => by
    rw [← hB]
    exact hideAll_get _ q nm
  have nL : L ∈ (envOf name scope L a cd :: outer).filterMap (·.frame) := List.mem_filterMap.mpr ⟨_, List.mem_cons_self, rfl⟩
  have BL : B.get? L = none := by rw [← hB]; exact hideAll_none _ nL
  have frB : ∀ {l : List Env} {x : Heap}, x.FunFrames base l → (∀ b ∈ l.filterMap (·.frame), b ∈ (envOf name scope L a cd :: outer).filterMap (·.frame)) → x.FunFrames B l := by
    intro l
    induction l with
    | nil => intro x _ _; trivial
    | cons v r ih =>
      intro x hf hin
      obtain ⟨hk', ⟨L', o, hf', _, ho, hd'⟩, hr⟩ := hf
      refine ⟨hk', ⟨L', o, hf', ?_, ho, hd'⟩, ih hr fun b hb => hin b ?_⟩
      · rw [← hB]
        exact hideAll_none _ (hin L' (by rw [List.filterMap_cons, hf']; exact List.mem_cons_self))
      · rw [List.filterMap_cons, hf']
        exact List.mem_cons_of_mem _ hb
  obtain ⟨oe, vs, he, hcls, hdat, h1, hsz⟩ := hx.there
  have ne : ∀ b o, h.get? b = some o → b ≠ e := fun b o q z => by rw [z, hx.new] at q; cases q
  have FF0 : s.heap.FunFrames B (envOf name scope L a cd :: outer) := (frB K'.frames fun b hb => hb).of_keeps fun b o q _ => ⟨o, hx.keeps b o q, rfl⟩
  show wpAny _ _ (noteFrame (.ref e) (envOf name scope L a cd)) _ _ s
  refine rz_note (A := (A₀.deeper (envOf name scope L a cd)).mark hd) K'.stack FF0 rfl he hdat h1 fun h₁ T oT ts p1 p2 p3 p4 p5 p6 p7 => ?_
  have up1 : ∀ b o, h.get? b = some o → ∃ sl, h₁.get? b = some { o with slots := sl } := fun b o q => p2 b o (ne b o q) (hx.keeps b o q)
  have st1 : ∀ b o, B.get? b = some o → h₁.get? b = some o := fun b o q => p1 b o (ne b o (hBof b o q).1) (hBof b o q).2 (hx.keeps b o (hBof b o q).1)
  obtain ⟨oL, es, ep, hL, hLd, hLk, hLf⟩ := F.ns
  have TL : T ≠ L := fun z => by
    have := hx.keeps L oL hL
    rw [← z, p7] at this
    cases this
  have eL : e ≠ L := Ne.symm (ne L oL hL)
  have Te : T ≠ e := fun z => by
    rw [z, he] at p7
    cases p7
  have hd1 : (Obj.mapFields (·.setIfInBounds 1 (Value.ref T)) oe).data = .fields (vs.setIfInBounds 1 (.ref T)) := Obj.data_mapFields hdat _
  obtain ⟨slL, hL1⟩ := up1 L oL hL
  have FF1 : h₁.FunFrames B (envOf name scope L a cd :: outer) := FF0.of_keeps fun b o q hnf => by
    obtain ⟨sl, q'⟩ := p2 b o (fun z => by rw [z, he] at q; cases q; exact hnf _ hdat) q
    exact ⟨_, q', rfl⟩
  refine wpAny_nameGoes (s := { s with heap := h₁ }) (m := m) hlo ⟨_, es, ep, hL1, hLd, hLk, hLf⟩ (by show (scope.kind == .class || (scope.kind == .module && L != mainGlobals)) = false; rw [hk]; rfl) fun h₂ m' hn₂ hs₂ => ?_
  have p3' : h₂.get? e = some _ := (hs₂.2 e eL).trans p3
  have p4' : h₂.get? T = some oT := (hs₂.2 T TL).trans p4
  have v1 : (vs.setIfInBounds 1 (Value.ref T))[1]? = some (.ref T) := by rw [Array.getElem?_setIfInBounds_self, if_pos (by omega)]
  have hsz3 : 3 < ts.size := (Array.getElem?_eq_some_iff.mp p6).1
  unfold PySem.passOn
  refine wpAny_bind (wpAny_field (s := { s with heap := h₂, toks := s.toks + 1 }) p3' hd1 v1 ?_)
  rw [if_neg (show ¬ ((Value.ref T == Value.none) = true) from by simp)]
  have FF2 : h₂.FunFrames B (envOf name scope L a cd :: outer) := funFrames_imp FF1 fun b o q hnf => by
    by_cases hb : b = L
    · obtain ⟨oL', es', ep', hL', hLd', _⟩ := hn₂
      exact ⟨oL', hb ▸ hL', fun vs z => by rw [hLd'] at z; cases z⟩
    · exact ⟨o, (hs₂.2 b hb).trans q, hnf⟩
  have st2 : B.StaysIn h₂ := fun b o q => (hs₂.2 b fun (z : b = L) => by rw [z, BL] at q; cases q).trans (st1 b o q)
  have Be : B.get? e = none := by
    cases q : B.get? e with
    | none => rfl
    | some o => exact absurd rfl (ne e o (hBof e o q).1)
  have BT : B.get? T = none := by
    cases q : B.get? T with
    | none => rfl
    | some o => have := hx.keeps T o (hBof T o q).1; rw [p7] at this; cases this
  have held : Heap.HeldW B (envOf name scope L a cd :: outer) e (.type "ValueError") vs[0] L h₂ :=
    ⟨st2, Be, FF2, _, _, T, oT, ts, p3', ⟨(Obj.cls_mapFields _ _).trans hcls, by rw [Array.getElem?_setIfInBounds_ne (by decide)]; exact Array.getElem?_eq_getElem (by omega)⟩, hd1, v1, BT, Te, p4', p5, p6⟩
  have smug : g.UpToSlots h₂ := fun b o q _ => by
    obtain ⟨sl, q1⟩ := Tn.up q
    obtain ⟨sl2, q2⟩ := up1 b _ (F.keep b _ q1)
    have hb : b ≠ L := fun z => by rw [z, kts_self F] at q1; cases q1
    exact ⟨sl2, (hs₂.2 b hb).trans q2⟩
  have hBG : ∀ b o, g.get? b = some o → b ∉ outer.filterMap (·.frame) → B.get? b = some o := fun b o q nm => by
    have q1 := Tn.other b o q nm
    refine hBto b o (F.keep b o q1) fun hm => ?_
    rcases kts_mem hm with z | z
    · rw [z, kts_self F] at q1
      cases q1
    · exact nm z
  have hBb : base.StaysIn B := fun b o q => hBto b o (F.keep b o (K.stays b o q)) fun hm => by
    rw [(K'.frames.mem hm).1] at q
    cases q
  have hBn : ∀ q ∈ news, B.get? q.1 = some q.2 ∧ g.get? q.1 = none ∧ base.get? q.1 = none := fun q hq => by
    have P := N q (hs q hq)
    refine ⟨hBto q.1 q.2 P.1 fun hm => ?_, ?_, fresh_of_stays K.stays P.2.2⟩
    · rcases kts_mem hm with z | z
      · exact P.2.1 z
      · obtain ⟨_, o, ho, _⟩ := K.frames.mem z
        rw [P.2.2] at ho
        cases ho
    · cases z : g.get? q.1 with
      | none => rfl
      | some o =>
        obtain ⟨sl, z'⟩ := Tn.up z
        rw [P.2.2] at z'
        cases z'
  have last : ∀ tk, wpAny (model prog w) (A₀.deeper (envOf name scope L a cd)) (leaving (envOf name scope L a cd) (.ref e)) (fun _ s'' => Q₁ (.ref e) s'') E₁ { s with heap := h₂, toks := tk } := fun tk => by
    unfold leaving
    refine wpAny_bind (wpAny_noteFrame_againW rfl held.2.2.2 ?_)
    refine wpAny_landsW held fun h₃ hfl hup => ?_
    obtain ⟨k1, k2, ⟨_, _, k3⟩, k4⟩ := hfl
    exact hQ h₃ tk ⟨B, _, hBb, hBG, hBn, k1, k2, k3, k4⟩ (smug.trans hup)
  have step : wpAny (model prog w) ((A₀.deeper (envOf name scope L a cd)).mark hd) (setFlight (.ref e) (some L)) (fun _ s₃ => notedBy (model prog w) ((A₀.deeper (envOf name scope L a cd)).mark hd) (envOf name scope L a cd) (cameBackBy (model prog w) (A₀.deeper (envOf name scope L a cd)) (envOf name scope L a cd)
        (fun x s' => wpAny (model prog w) (A₀.deeper (envOf name scope L a cd)) (leaving (envOf name scope L a cd) x) (fun _ s'' => Q₁ x s'') E₁ s')) (.ref e) s₃)
      (notedBy (model prog w) ((A₀.deeper (envOf name scope L a cd)).mark hd) (envOf name scope L a cd) (cameBackBy (model prog w) (A₀.deeper (envOf name scope L a cd)) (envOf name scope L a cd)
        (fun x s' => wpAny (model prog w) (A₀.deeper (envOf name scope L a cd)) (leaving (envOf name scope L a cd) x) (fun _ s'' => Q₁ x s'') E₁ s'))) { s with heap := h₂, toks := s.toks + 1 } := by
    unfold setFlight
    refine wpAny_bind (wpAny_field p3' hd1 v1 ?_)
    rw [if_pos (show (Value.ref T != Value.none) = true from by simp)]
    refine wpAny_setField p4' p5 hsz3 ?_
    have same : h₂.update T (Obj.mapFields (·.setIfInBounds 3 ((some L : Option Addr).elim Value.none fun f => rawInt f))) = h₂ := Heap.update_setField_same h₂ T oT ts 3 (rawInt L) p4' p5 p6
    dsimp only
    rw [same]
    exact PassesOwnAt.leaving _ _ (last _)
  first
    | exact wpAny_bind (wpAny_mono step (fun _ _ x => wpAny_throw x) fun _ _ x => x)
    | exact wpAny_bind (wpAny_pure (wpAny_bind (wpAny_mono step (fun _ _ x => wpAny_throw x) fun _ _ x => x)))
end
local macro_rules | `(tactic| kfm_val) => `(tactic| (refine wpAny_bind (wpAny_holding (rz_formatOf (by assumption) (by assumption) (by assumption) ?_ (by assumption))); intro _ _ _))
local macro_rules | `(tactic| kfm_len) => `(tactic| assumption)
abbrev rzFmt : PySem.Str := ⟨#[73, 110, 118, 97, 108, 105, 100, 32, 80, 111, 115, 105, 116, 105, 118, 105, 115, 116, 32, 100, 97, 116, 101, 58, 32, 40, 123, 125, 44, 32, 123, 125, 44, 32, 123, 125, 41]⟩
theorem rz_format {prog : Program} {w : World} {A : Around} {E : Value → Shared → Prop} {s : Shared} {e : Addr} {X : PySem.Str} {t u v x : Tok} {a b c : Int} {Q : Value → Shared → Prop} (hX : X = rzFmt) (hh : A.handled = some (.ref e)) (hH : RzHeld e s.heap) (hn : s.heap.NoDigits)
    (h1 : ∀ y t k, Q (.str y t) { s with toks := k }) (h2 : ∀ h' tk e2, RzNew s.heap h' e2 "ValueError" → E (.ref e2) { s with heap := h', toks := tk }) :
    wpAny (model prog w) A (call (.builtin "str.format") [.str X t, .int a u, .int b v, .int c x]) Q E s := by
  subst hX
  have hh' : A.in1.handled = some (.ref e) := hh
  refine wpAny_call (codeAny_call_builtin F.slot_str_format_m.plain F.entry_str_format_m (F.slot_str_format_m.check _ _ _ _ _ _ _ _ (typeIs_str s _ t) (KFm.args_4 _ _ _ _) ?_))
  unfold Builtin.«str.format»
  refine wpAny_bind (wpAny_of_eq (a := (_, _, _)) rfl ?_)
  refine wpAny_bind ?_
  unfold Builtin.Str.buildString
  refine wpAny_bind ?_
  rw [KPc.range_list]
  refine KFm.start ?_
  intro _ _
  have h3 : ∀ y t k, (fun fin s' => match fin with | .done f => (fun r s' => match r with | .ok (.ret v) => Q v s' | .ok _ => False | .error e => E e s') (Except.ok f) s' | .again c' => c'.quiet = true ∧ codeAny (model prog w) A c' (fun r s' => match r with | .ok (.ret v) => Q v s' | .ok _ => False | .error e => E e s') s') (Fin.done (.ret (.str y t))) { s with toks := k } := h1
  clear h1
  (refine KPc.turn ?_; kpc_if; kpc_check; kfm_field)
  (refine KPc.turn ?_; kpc_if; kpc_check; kfm_field)
  (refine KPc.turn ?_; kpc_if; kpc_check; kfm_field)
  (refine KPc.turn ?_; kpc_if; kpc_check; kfm_lit)
  refine KPc.turn ?_
  kpc_if
  refine wpAny_pure ?_
  refine wpAny_pure ?_
  refine KPc.finish_ok (by kpc_g) (by decide +kernel) rfl ?_
  exact fun t k => h3 _ t k
def RzOld (g : Heap) (L : Addr) (h : Heap) (m : Str → Option Value) (news : List (Addr × Obj)) (h' : Heap) (e2 : Addr) : Prop := Fr g L h m ∧ News g L h news ∧ Heap.NewExc h h' e2 "ValueError"
theorem rz_held {X : String} {e T L : Addr} {t fl : Value} {oe oT : Obj} {g h : Heap} {news : List (Addr × Obj)} (P : RzPair X e T t oe oT fl) (N : News g L h ((e, oe) :: (T, oT) :: news)) (hb : isSubtype (.type X) (.type "BaseException") = pure true) : RzHeld e h :=
  ⟨oe, _, X, (N (e, oe) (by simp)).1, P.2.1, hb, P.2.2.1, rfl⟩
theorem rz_nodig {p : Program} {loose : List Str} {mean : ExcName → Option Value} {mg mb : Str → Option Value} {g h : Heap} {L : Addr} {m : Str → Option Value} (F : Fr g L h m) (T : Top p loose mean mg mb g) : h.NoDigits := by
  obtain ⟨mc, a, b⟩ := T.nodigits
  exact ⟨mc, a.keeps F.keep, b⟩
section
variable {prog : Program} {w : World} {A A₀ : Around} {E : Value → Shared → Prop} {s : Shared} {base g g' h : Heap} {outer : List Env} {L a e T e2 : Addr} {m : Str → Option Value} {name : Str} {scope : Scope} {cd t fl v : Value} {hd : Option Value}
  {n : Str} {pos : Pos} {news news' : List (Addr × Obj)} {Q₁ : Value → Shared → Prop} {E₁ : Value → Shared → Prop} {oe oT : Obj} {X : String}
theorem rz_newVE {Q : Value → Shared → Prop} (F : Fr g L s.heap m) (N : News g L s.heap news) (h : ∀ h' e2, RzOld g L s.heap m news h' e2 → Fr g L h' m → News g L h' news → Q (.ref e2) { s with heap := h' }) :
    wpAny (model prog w) A (call (.type "ValueError") [v]) Q E s :=
  call_exc excClass_ValueError (fun h' e2 hx => h h' e2 ⟨F, N, hx⟩ ⟨F.ns.keeps hx.keeps, fun b o q => hx.keeps b o (F.keep b o q), F.above⟩ fun p hp => ⟨hx.keeps _ _ (N p hp).1, (N p hp).2⟩) (by rw [sizeLine_eq]; show 1 ≤ 16777216; decide)
theorem rz_raise_end (O : RzOld g' L h m ((e, oe) :: (T, oT) :: news) s.heap e2) (P : RzPair X e T t oe oT fl) (hb : isSubtype (.type X) (.type "BaseException") = pure true) (K : Below A₀ base outer g') (Tn : KtsTurn (outer.filterMap (·.frame)) g g')
    (hQ : ∀ h' tk, RaisedSN base g outer e2 (.type "ValueError") news h' → g.UpToSlots h' → Q₁ (.ref e2) { s with heap := h', toks := tk })
    (hk : scope.kind = .function := by rfl) (hlo : (envOf name scope L a cd).kindOf n = some .local := by rfl) :
    RzRaise (AsSuiteRaised (model prog w) ((A₀.deeper (envOf name scope L a cd)).mark hd) (envOf name scope L a cd) n pos
      (notedBy (model prog w) ((A₀.deeper (envOf name scope L a cd)).mark hd) (envOf name scope L a cd) (cameBackBy (model prog w) (A₀.deeper (envOf name scope L a cd)) (envOf name scope L a cd)
        (fun x s' => wpAny (model prog w) (A₀.deeper (envOf name scope L a cd)) (leaving (envOf name scope L a cd) x) (fun _ s'' => Q₁ x s'') E₁ s')))) e (.ref e2) (.ref e) s := by
  obtain ⟨F, N, hx⟩ := O
  obtain ⟨o2, t2, h2, c2, d2⟩ := hx.there
  have ne : ∀ b o, h.get? b = some o → e2 ≠ b := fun b o q z => by rw [← z, hx.new] at q; cases q
  refine ⟨e2, o2, rfl, rfl, (rz_held P N hb).keeps hx.keeps, fun z => ne e oe (N (e, oe) (by simp)).1 z.symm, h2, c2, ⟨t2, d2⟩, fun h' hs he => ?_⟩
  exact rz_out (s := { s with heap := h' }) K Tn F N (fun p hp => List.mem_cons_of_mem _ (List.mem_cons_of_mem _ hp)) ⟨fun b o q => (hs b (ne b o q)).trans (hx.keeps b o q), hx.new, he⟩ hQ hk hlo
theorem rz_out2 (K : Below A₀ base outer g') (Tn : KtsTurn (outer.filterMap (·.frame)) g g') (F : Fr g' L h m) (N : News g' L h ((e, oe) :: (T, oT) :: news)) (hx : RzNew h s.heap e2 "ValueError")
    (hQ : ∀ h' tk, RaisedSN base g outer e2 (.type "ValueError") news h' → g.UpToSlots h' → Q₁ (.ref e2) { s with heap := h', toks := tk })
    (hk : scope.kind = .function := by rfl) (hlo : (envOf name scope L a cd).kindOf n = some .local := by rfl) :
    AsSuiteRaised (model prog w) ((A₀.deeper (envOf name scope L a cd)).mark hd) (envOf name scope L a cd) n pos
      (notedBy (model prog w) ((A₀.deeper (envOf name scope L a cd)).mark hd) (envOf name scope L a cd) (cameBackBy (model prog w) (A₀.deeper (envOf name scope L a cd)) (envOf name scope L a cd)
        (fun x s' => wpAny (model prog w) (A₀.deeper (envOf name scope L a cd)) (leaving (envOf name scope L a cd) x) (fun _ s'' => Q₁ x s'') E₁ s'))) (.ref e2) s :=
  rz_out K Tn F N (fun p hp => List.mem_cons_of_mem _ (List.mem_cons_of_mem _ hp)) hx hQ hk hlo
end
local macro_rules | `(tactic| walk_at "noteFrame ref") => `(tactic| (k_here; k_dflt (refine' rz_caught_as (X := "AssertionError") (T' := "AssertionError") ?K ?F ?N ?hx ?XB ?TB ?ex (by decide +kernel) ?hn (isSubtype_of_subB (by decide +kernel)) (isSubtype_of_subB (by decide +kernel)) (isSubtype_of_subB (by decide +kernel)) ?_; (case K => assumption); (case F => k_asm); (case N => k_asm); (case hx => assumption); (case XB => assumption); (case TB => assumption); (case ex => k_is); (case hn => decide)); intro h' g' tk9 T9 t9 oe9 oT9 Tn9 F' N' P9 K' X' P'; (try k_lift K')))
local macro_rules | `(tactic| walk_at "exec Raise some some") => `(tactic| (k_here; k_dflt (refine' rz_raise_from ?hh ?_; (case hh => exact rfl))))
local macro_rules | `(tactic| walk_at "call builtin:str.format") => `(tactic| (k_here; k_dflt (refine' rz_format ?hX ?hh ?hH ?hn ?_ ?hE; (case hX => (kfm_signs; decide +kernel)); (case hh => exact rfl); (case hH => (refine' rz_held (X := "AssertionError") ?P ?N (isSubtype_of_subB (by decide +kernel)); (case P => assumption); (case N => k_asm))); (case hn => (refine' rz_nodig ?F ?T; (case F => k_asm); (case T => assumption))); (case hE => (intro h9 tk9 e9 hx9; k_dflt (refine' rz_out2 ?K ?Tn ?F ?N hx9 ?hQ; (case Tn => assumption); (case K => assumption); (case F => k_asm); (case N => k_asm); (case hQ => (intro h9 tk9 R9 U9; (refine' RzCond.use ?kC ?kFG R9 U9; (case kC => assumption); (case kFG => assumption)))))))); intro y9 t8 k9; (try dsimp only)))
local macro_rules | `(tactic| walk_at "call type:ValueError") => `(tactic| (k_here; k_dflt (refine' rz_newVE ?F ?N ?_; (case F => k_asm); (case N => k_asm)); intro h' e9 O9 F' N'; (try dsimp only)))
local macro_rules | `(tactic| walk_at "RzRaise") => `(tactic| (k_dflt (refine' rz_raise_end (X := "AssertionError") ?O ?P (isSubtype_of_subB (by decide +kernel)) ?K ?Tn ?hQ; (case Tn => assumption); (case O => assumption); (case P => assumption); (case K => assumption); (case hQ => (intro h9 tk9 R9 U9; (refine' RzCond.use ?kC ?kFG R9 U9; (case kC => assumption); (case kFG => assumption)))))))
theorem r_legal_pos (w : World) (loose : List Str) (mean : ExcName → Option Value) (mg mb : Str → Option Value) (y m' d : Int) (t u v : Tok) (hP : ¬ PLegal y m' d) :
    ClmR w loose mean mg mb 2 219 [.int y t, .int m' u, .int d v] := by
  unfold ClmR
  k_fill
  intro news dp un gd cn cs a ccd outer A₀ base h₀ L m s Q E B F X N T XB TB hk hd hu hE
  refine wpAny_call ?_
  k_dflt cell_enter
  k_steps
  all_goals (exfalso; first | exact hP (pl_of13 (by assumption) (by assumption) (by assumption) (by assumption) (by assumption) (by assumption)) | exact hP (pl_of14L (by assumption) (by assumption) (by assumption) (by assumption) (by assumption) (by assumption) (by assumption)) | exact hP (pl_of14N (by assumption) (by assumption) (by assumption) (by assumption) (by assumption) (by assumption) (by assumption)))
theorem r_from_jd_pos (w : World) (loose : List Str) (mean : ExcName → Option Value) (mg mb : Str → Option Value) (n : Int) (t : Tok) (hn : n < 2374480) :
    ClmR w loose mean mg mb 1 233 [.int n t] := by
  unfold ClmR
  k_fill
  intro news dp un gd cn cs a ccd outer A₀ base h₀ L m s Q E B F X N T XB TB hk hd hu hE
  refine wpAny_call ?_
  k_dflt cell_enter
  k_steps
  all_goals (exfalso; omega)
local macro_rules | `(tactic| walk_at "leaving ref") => `(tactic| (k_here; (rename RaisedSN _ _ _ _ _ _ _ => rsX); k_dflt (refine' leave_onSN ?jK ?jF rsX ?jU ?_; (case jK => assumption); (case jF => assumption); (case jU => assumption)); (intro h9 R9 _ U9); (refine' RzCond.use ?kC ?kFG R9 U9; (case kC => assumption); (case kFG => assumption))))
local macro_rules | `(tactic| walk_at "call ref") => `(tactic| (k_here; k_dflt (refine' ClmR.go (r_legal_pos _ _ _ _ _ _ _ _ _ _ _  ?p0) ?jB ?jF ?jX ?jN ?jT ?jXB ?jTB ?jK ?jd ?ju ?_; (case p0 => (with_reducible assumption)); (case jB => k_asm); (case jF => k_asm); (case jX => k_asm); (case jN => k_asm); (case jT => k_asm); (case jXB => assumption); (case jTB => assumption); (case jK => first | exact rfl | assumption); (case jd => ktr_room); (case ju => ktr_units); intro g9 e9 h9 tk9 FG9 R9 U9; (try dsimp only))))
theorem r_to_jd_pos (w : World) (loose : List Str) (mean : ExcName → Option Value) (mg mb : Str → Option Value) (y m' d : Int) (t u v : Tok) (hP : ¬ PLegal y m' d) :
    ClmR w loose mean mg mb 3 226 [.int y t, .int m' u, .int d v] := by
  unfold ClmR
  k_fill
  intro news dp un gd cn cs a ccd outer A₀ base h₀ L m s Q E B F X N T XB TB hk hd hu hE
  refine wpAny_call ?_
  k_dflt cell_enter
  k_steps
local macro_rules | `(tactic| walk_at "noteFrame ref") => `(tactic| (k_here; (rename RaisedSN _ _ _ _ _ _ _ => rsX); (rename Fr _ _ _ _ => fr9); (rename Below _ _ _ _ => kB9); (rename KtsDicts _ _ => kD9); (rename Heap.UpToSlots _ _ => kU9); k_dflt (refine' caught_SN0 (X := "ValueError") (T' := "ValueError") rsX fr9 kB9 kU9 ?XB ?TB kD9 KtsTurn.refl ?ex PyProof.Rows.Boot.«ValueError» ?hn PySem.F.isExc_ValueError PySem.F.notTuple_ValueError (isSubtype_of_subB (by decide +kernel)) ?_; (case XB => with_reducible assumption); (case TB => with_reducible assumption); (case ex => k_is); (case hn => decide)); intro h' g' T' F' N' K' X' P' D'; (try k_lift K')))
local macro_rules | `(tactic| k_room) => `(tactic| ktr_room)
local macro_rules | `(tactic| walk_at "call ref") => `(tactic| (k_here; k_dflt (refine' ClmR.go (r_to_jd_pos _ _ _ _ _ _ _ _ _ _ _  ?p0) ?jB ?jF ?jX ?jN ?jT ?jXB ?jTB ?jK ?jd ?ju ?_; (case p0 => (with_reducible assumption)); (case jB => k_asm); (case jF => k_asm); (case jX => k_asm); (case jN => k_asm); (case jT => k_asm); (case jXB => assumption); (case jTB => assumption); (case jK => first | exact rfl | assumption); (case jd => ktr_room); (case ju => ktr_units); intro g9 e9 h9 tk9 FG9 R9 U9; (try dsimp only))))
local macro_rules | `(tactic| walk_at "call ref") => `(tactic| (k_here; k_dflt (refine' ClmR.go (r_from_jd_pos _ _ _ _ _ _ _  ?p0) ?jB ?jF ?jX ?jN ?jT ?jXB ?jTB ?jK ?jd ?ju ?_; (case p0 => (with_reducible assumption)); (case jB => k_asm); (case jF => k_asm); (case jX => k_asm); (case jN => k_asm); (case jT => k_asm); (case jXB => assumption); (case jTB => assumption); (case jK => first | exact rfl | assumption); (case jd => ktr_room); (case ju => ktr_units); intro g9 e9 h9 tk9 FG9 R9 U9; (try dsimp only))))
theorem s_asked0 (w : World) (loose : List Str) (mean : ExcName → Option Value) (mg mb : Str → Option Value) (n : Int) (t u v x : Tok) (hn : n < 2374480) :
    ClmS w loose mean mg mb 8 282 [.int 0 t, .int n u, .int 0 v, .int 0 x] := by
  unfold ClmS
  k_fill
  intro news dp un gd cn cs a ccd A₀ base h₀ L m s Q E B F X N T XB TB hk hd hu hret
  refine wpAny_call ?_
  k_dflt (refine' code_defS0 ?k1 ?k2 ?k3 ?k4 ?k5 ?kA ?k6 ?k7 ?k8 ?k9 ?kB ?_ ?cK ?c2 ?c3 ?c4 ?c5; (case kA => exact rfl); (case k2 => k_asm); (case k1 => k_asm); (case k3 => k_asm); (case k4 => k_asm); (case k5 => k_asm); (case k6 => k_is); (case k7 => k_is); (case k8 => ktr_room); (case k9 => exact BindsTo.of_eq rfl); (case kB => exact locs rfl); (case cK => exact hk); (case c2 => exact rfl); (case c3 => exact rfl); (case c4 => exact rfl); (case c5 => decide); k_whole)
  intro g' L' h' FG' F' N' B' X' T' D'
  (try dsimp only)
  (try k_lift B')
  (try k_fold)
  k_steps
  all_goals (refine' s_end hret ?jF ?jN ?js; (case jF => k_asm); (case jN => k_asm); (case js => exact fun _ h => h))
theorem s_asked1 (w : World) (loose : List Str) (mean : ExcName → Option Value) (mg mb : Str → Option Value) (y m' d : Int) (t u v x : Tok) (hP : ¬ PLegal y m' d) :
    ClmS w loose mean mg mb 8 282 [.int 1 t, .int y u, .int m' v, .int d x] := by
  unfold ClmS
  k_fill
  intro news dp un gd cn cs a ccd A₀ base h₀ L m s Q E B F X N T XB TB hk hd hu hret
  refine wpAny_call ?_
  k_dflt (refine' code_defS0 ?k1 ?k2 ?k3 ?k4 ?k5 ?kA ?k6 ?k7 ?k8 ?k9 ?kB ?_ ?cK ?c2 ?c3 ?c4 ?c5; (case kA => exact rfl); (case k2 => k_asm); (case k1 => k_asm); (case k3 => k_asm); (case k4 => k_asm); (case k5 => k_asm); (case k6 => k_is); (case k7 => k_is); (case k8 => ktr_room); (case k9 => exact BindsTo.of_eq rfl); (case kB => exact locs rfl); (case cK => exact hk); (case c2 => exact rfl); (case c3 => exact rfl); (case c4 => exact rfl); (case c5 => decide); k_whole)
  intro g' L' h' FG' F' N' B' X' T' D'
  (try dsimp only)
  (try k_lift B')
  (try k_fold)
  k_steps
  all_goals (refine' s_end hret ?jF ?jN ?js; (case jF => k_asm); (case jN => k_asm); (case js => exact fun _ h => h))
theorem c_asked1 {w : World} {loose : List Str} {mean : ExcName → Option Value} {mg mb : Str → Option Value} {y m' d : Int} {t u v x : Tok} (hP : PLegal y m' d) : Clm w loose mean mg mb 5 282 [.int 1 t, .int y u, .int m' v, .int d x] (RI (FY (y + 1788) + 28 * (m' - 1) + d - 1)) := by
  unfold Clm RI
  k_fill
  intro news dp un gd cn cs a ccd cl outer A₀ base h₀ L m s Q E B F X N T hk hd hu hret
  refine wpAny_call ?_
  k_dflt cell_enter
  k_steps
  all_goals (refine' ri_end hret ?jF ?jN ?js ?je; (case jF => k_asm); (case jN => k_asm); (case js => first | with_reducible exact fun _ h => h | with_reducible exact fun _ h => List.mem_cons_of_mem _ (h) | with_reducible exact fun _ h => List.mem_cons_of_mem _ (List.mem_cons_of_mem _ (h)) | with_reducible exact fun _ h => List.mem_cons_of_mem _ (List.mem_cons_of_mem _ (List.mem_cons_of_mem _ (h))) | with_reducible exact fun _ h => List.mem_cons_of_mem _ (List.mem_cons_of_mem _ (List.mem_cons_of_mem _ (List.mem_cons_of_mem _ (h)))) | with_reducible exact fun _ h => List.mem_cons_of_mem _ (List.mem_cons_of_mem _ (List.mem_cons_of_mem _ (List.mem_cons_of_mem _ (List.mem_cons_of_mem _ (h))))) | with_reducible exact fun _ h => List.mem_cons_of_mem _ (List.mem_cons_of_mem _ (List.mem_cons_of_mem _ (List.mem_cons_of_mem _ (List.mem_cons_of_mem _ (List.mem_cons_of_mem _ (h)))))) | with_reducible exact fun _ h => List.mem_cons_of_mem _ (List.mem_cons_of_mem _ (List.mem_cons_of_mem _ (List.mem_cons_of_mem _ (List.mem_cons_of_mem _ (List.mem_cons_of_mem _ (List.mem_cons_of_mem _ (h))))))) | kcj_all); (case je => (rfl)))
local macro_rules | `(tactic| walk_at "call ref") => `(tactic| (k_here; k_dflt (refine' Clm.go' (c_asked1 ?p0) ?_; (case p0 => with_reducible assumption); walk_at "JII")))
local macro_rules | `(tactic| k_qdec) => `(tactic| decide +kernel)
local macro_rules | `(tactic| walk_at "execs cons") => `(tactic| ((with_reducible refine wpAny_execs_cons ?_); try dsimp only))
local macro_rules | `(tactic| walk_at "execs nil") => `(tactic| refine wpAny_execs_nil ?_)
local macro_rules | `(tactic| wrow_close) => `(tactic| ((with_reducible show GoodW _ _ _ _ _ _ _); k_dflt (refine' goodW_bool ?jF ?jg ?jn ?jp; (case jF => k_asm); (case jg => assumption); (case jn => (intro _; rfl)); (case jp => first | with_reducible exact post_ok _ | ((simp only [beq_self_eq_true]); with_reducible exact post_ok _)))))
local macro_rules | `(tactic| walk_at "subscriptTail Name Constant ref int") => `(tactic| (k_here; (with_reducible show wpAny _ _ (subscriptTail (PySem.Expr.Name (Str.ofString "numbers") _) _ (Value.ref _) (Value.int _ _)) _ _ _); first | ((with_reducible show wpAny _ _ (subscriptTail _ _ (Value.ref _) (Value.int 0 _)) _ _ _); with_unfolding_all refine' item_0 ?k1 ?_ ?k6; (case k1 => (refine' News.isList ?jN ?jm; (case jN => k_asm); (case jm => (walk_at "JM")))); (case k6 => with_unfolding_all rfl); k_whole) | ((with_reducible show wpAny _ _ (subscriptTail _ _ (Value.ref _) (Value.int 1 _)) _ _ _); with_unfolding_all refine' item_1 ?k1 ?_ ?k6; (case k1 => (refine' News.isList ?jN ?jm; (case jN => k_asm); (case jm => (walk_at "JM")))); (case k6 => with_unfolding_all rfl); k_whole) | ((with_reducible show wpAny _ _ (subscriptTail _ _ (Value.ref _) (Value.int 2 _)) _ _ _); with_unfolding_all refine' item_2 ?k1 ?_ ?k6; (case k1 => (refine' News.isList ?jN ?jm; (case jN => k_asm); (case jm => (walk_at "JM")))); (case k6 => with_unfolding_all rfl); k_whole) | ((with_reducible show wpAny _ _ (subscriptTail _ _ (Value.ref _) (Value.int 3 _)) _ _ _); with_unfolding_all refine' item_3 ?k1 ?_ ?k6; (case k1 => (refine' News.isList ?jN ?jm; (case jN => k_asm); (case jm => (walk_at "JM")))); (case k6 => with_unfolding_all rfl); k_whole) | ((with_reducible show wpAny _ _ (subscriptTail _ _ (Value.ref _) (Value.int 4 _)) _ _ _); with_unfolding_all refine' item_4 ?k1 ?_ ?k6; (case k1 => (refine' News.isList ?jN ?jm; (case jN => k_asm); (case jm => (walk_at "JM")))); (case k6 => with_unfolding_all rfl); k_whole) | ((with_reducible show wpAny _ _ (subscriptTail _ _ (Value.ref _) (Value.int 5 _)) _ _ _); with_unfolding_all refine' item_5 ?k1 ?_ ?k6; (case k1 => (refine' News.isList ?jN ?jm; (case jN => k_asm); (case jm => (walk_at "JM")))); (case k6 => with_unfolding_all rfl); k_whole)))
local macro_rules | `(tactic| walk_at "exec Return some") => `(tactic| (exfalso; omega))
local macro_rules | `(tactic| walk_at "CutInt") => `(tactic| (k_dflt (refine' cutInt_ ?jF ?jN ?jm; (case jF => k_asm); (case jN => k_asm); (case jm => (walk_at "JM")))))
local macro_rules | `(tactic| walk_at "CutEnd") => `(tactic| (k_dflt (refine' cutEnd_ ?jF ?jN ?jm; (case jF => k_asm); (case jN => k_asm); (case jm => (walk_at "JM")))))
local macro_rules | `(tactic| walk_at "call ref") => `(tactic| (k_here; k_dflt ((first
  | (refine' ClmS.go (s_asked0 _ _ _ _ _ _ _ _ _ _ ?p0) ?jB ?jF ?jX ?jN ?jT ?jXB ?jTB ?jK ?jd ?ju ?_; (case p0 => omega))
  | (refine' ClmS.go (s_asked1 _ _ _ _ _ _ _ _ _ _ _ _ ?p0) ?jB ?jF ?jX ?jN ?jT ?jXB ?jTB ?jK ?jd ?ju ?_; (case p0 => with_reducible assumption))); (case jB => k_asm); (case jF => k_asm); (case jX => k_asm); (case jN => k_asm); (case jT => k_asm); (case jXB => k_asm); (case jTB => k_asm); (case jK => first | exact rfl | assumption); (case jd => ktr_room); (case ju => ktr_units); intro t9 h' tk9 F' N'; (try dsimp only))))
set_option maxHeartbeats 0 in
theorem t0 : PySem.Challenge.rw_jb0014_01.Holds := JB.hd (by
  k_go0
  (all_goals try k_fold)
  try (rename Tables _ _ _ _ => zz; clear zz)
  try (rename TopE _ _ _ _ => zz; clear zz)
  try (rename TopW _ _ _ => zz; clear zz)
  try (rename BMod _ _ _ _ _ => zz; clear zz)
  try (rename Flt.MathXP _ _ _ => zz; clear zz)
  try (rename LooseAre _ _ _ => zz; clear zz)
  try (rename Glob _ _ _ _ _ _ _ _ => zz; clear zz)
  try (rename Heap.CodeRec _ _ _ => zz; clear zz)
  try (rename Dflts _ _ _ _ _ => zz; clear zz)
  try (rename ReadsAll _ _ _ _ => zz; clear zz)
  try (rename Well _ _ _ _ => zz; clear zz)
  try (rename Reads _ _ _ _ => zz; clear zz)
  try (rename ReadsAllW _ _ _ _ _ _ => zz; clear zz)
  try (rename Ground _ _ _ _ _ _ _ _ => zz; clear zz)
  iterate 28 (first | (k_unfold; (try dsimp only)) | (k_end; wrow_close) | walk1 | (dsimp only; walk1) | (leave1; walk_say "STEP leave1"; try dsimp only) | fail "no step")
  obtain ⟨n0, n1, n2, n3, n4, n5, nr, hnr⟩ := six_of ‹List Int›
  rename IntsAre _ (_ ++ _) => hI9
  rw [hnr] at hI9
  clear hnr
  obtain _ | ⟨_, a0, hI9⟩ := hI9
  obtain _ | ⟨_, a1, hI9⟩ := hI9
  obtain _ | ⟨_, a2, hI9⟩ := hI9
  obtain _ | ⟨_, a3, hI9⟩ := hI9
  obtain _ | ⟨_, a4, hI9⟩ := hI9
  obtain _ | ⟨_, a5, hI9⟩ := hI9
  clear hI9
  rename Frag.In _ _ => X0
  have kpX := Keep.mk X0
  rename Below _ _ _ _ => B0
  have kpB := Keep.mk B0
  rename Top _ _ _ _ _ _ => T0
  have kpT := Keep.mk T0
  rename Heap.IsList _ _ _ => L0
  have kpL := Keep.mk L0
  iterate 48 (first | (k_unfold; (try dsimp only)) | (k_end; wrow_close) | walk1 | (dsimp only; walk1) | (leave1; walk_say "STEP leave1"; try dsimp only) | fail "no step")
  rename Fr _ _ _ _ => fZ
  have kfZ := Keep.mk fZ
  rename News _ _ _ _ => nZ
  have knZ := Keep.mk nZ
  repeat (rename Fr _ _ _ _ => zz; clear zz)
  repeat (rename News _ _ _ _ => zz; clear zz)
  repeat (rename Frag.In _ _ => zz; clear zz)
  repeat (rename Below _ _ _ _ => zz; clear zz)
  repeat (rename Top _ _ _ _ _ _ => zz; clear zz)
  repeat (rename Heap.IsList _ _ _ => zz; clear zz)
  repeat (rename KtsTurn _ _ _ => zz; clear zz)
  have X0 := kpX.out
  have B0 := kpB.out
  have T0 := kpT.out
  have L0 := kpL.out
  have fZ := kfZ.out
  clear kfZ
  have nZ := knZ.out
  clear knZ
  iterate 45 (first | (k_unfold; (try dsimp only)) | (k_end; wrow_close) | walk1 | (dsimp only; walk1) | (leave1; walk_say "STEP leave1"; try dsimp only) | fail "no step")
  rename Fr _ _ _ _ => fZ
  have kfZ := Keep.mk fZ
  rename News _ _ _ _ => nZ
  have knZ := Keep.mk nZ
  repeat (rename Fr _ _ _ _ => zz; clear zz)
  repeat (rename News _ _ _ _ => zz; clear zz)
  repeat (rename Frag.In _ _ => zz; clear zz)
  repeat (rename Below _ _ _ _ => zz; clear zz)
  repeat (rename Top _ _ _ _ _ _ => zz; clear zz)
  repeat (rename Heap.IsList _ _ _ => zz; clear zz)
  repeat (rename KtsTurn _ _ _ => zz; clear zz)
  have X0 := kpX.out
  have B0 := kpB.out
  have T0 := kpT.out
  have L0 := kpL.out
  have fZ := kfZ.out
  clear kfZ
  have nZ := knZ.out
  clear knZ
  iterate 53 (first | (k_unfold; (try dsimp only)) | (k_end; wrow_close) | walk1 | (dsimp only; walk1) | (leave1; walk_say "STEP leave1"; try dsimp only) | fail "no step")
  rename Fr _ _ _ _ => fZ
  have kfZ := Keep.mk fZ
  rename News _ _ _ _ => nZ
  replace nZ := news_one (e := (_, W.listOf (Value.int n0 a0 :: Value.int n1 a1 :: Value.int n2 a2 :: Value.int n3 a3 :: Value.int n4 a4 :: Value.int n5 a5 :: _).toArray _)) nZ (by walk_at "JM")
  have knZ := Keep.mk nZ
  repeat (rename Fr _ _ _ _ => zz; clear zz)
  repeat (rename News _ _ _ _ => zz; clear zz)
  repeat (rename Frag.In _ _ => zz; clear zz)
  repeat (rename Below _ _ _ _ => zz; clear zz)
  repeat (rename Top _ _ _ _ _ _ => zz; clear zz)
  repeat (rename Heap.IsList _ _ _ => zz; clear zz)
  repeat (rename KtsTurn _ _ _ => zz; clear zz)
  have X0 := kpX.out
  have B0 := kpB.out
  have T0 := kpT.out
  have L0 := kpL.out
  have fZ := kfZ.out
  clear kfZ
  have nZ := knZ.out
  clear knZ
  repeat (rename ((_ : Nat) < _ ∧ _) => zz; clear zz)
  repeat (rename ((_ : Int) = _) => zz; clear zz)
  repeat (rename ((_ : Nat) < _) => zz; clear zz)
  k_sweep
  iterate 12 (first | (k_unfold; (try dsimp only)) | (k_end; wrow_close) | walk1 | (dsimp only; walk1) | (leave1; walk_say "STEP leave1"; try dsimp only) | fail "no step")
  rename Fr _ _ _ _ => fZ
  have kfZ := Keep.mk fZ
  rename News _ _ _ _ => nZ
  have knZ := Keep.mk nZ
  repeat (rename Fr _ _ _ _ => zz; clear zz)
  repeat (rename News _ _ _ _ => zz; clear zz)
  repeat (rename Frag.In _ _ => zz; clear zz)
  repeat (rename Below _ _ _ _ => zz; clear zz)
  repeat (rename Top _ _ _ _ _ _ => zz; clear zz)
  repeat (rename Heap.IsList _ _ _ => zz; clear zz)
  repeat (rename KtsTurn _ _ _ => zz; clear zz)
  have X0 := kpX.out
  have B0 := kpB.out
  have T0 := kpT.out
  have L0 := kpL.out
  have fZ := kfZ.out
  clear kfZ
  have nZ := knZ.out
  clear knZ
  iterate 80 (first | (k_unfold; (try dsimp only)) | (k_end; wrow_close) | walk1 | (dsimp only; walk1) | (leave1; walk_say "STEP leave1"; try dsimp only) | fail "no step")
  rename Fr _ _ _ _ => fZ
  have kfZ := Keep.mk fZ
  rename News _ _ _ _ => nZ
  have knZ := Keep.mk nZ
  repeat (rename Fr _ _ _ _ => zz; clear zz)
  repeat (rename News _ _ _ _ => zz; clear zz)
  repeat (rename Frag.In _ _ => zz; clear zz)
  repeat (rename Below _ _ _ _ => zz; clear zz)
  repeat (rename Top _ _ _ _ _ _ => zz; clear zz)
  repeat (rename Heap.IsList _ _ _ => zz; clear zz)
  repeat (rename KtsTurn _ _ _ => zz; clear zz)
  have X0 := kpX.out
  have B0 := kpB.out
  have T0 := kpT.out
  have L0 := kpL.out
  have fZ := kfZ.out
  clear kfZ
  have nZ := knZ.out
  clear knZ
  iterate 68 (first | (k_unfold; (try dsimp only)) | (k_end; wrow_close) | walk1 | (dsimp only; walk1) | (leave1; walk_say "STEP leave1"; try dsimp only) | fail "no step")
  rename Fr _ _ _ _ => fZ
  have kfZ := Keep.mk fZ
  rename News _ _ _ _ => nZ
  have knZ := Keep.mk nZ
  repeat (rename Fr _ _ _ _ => zz; clear zz)
  repeat (rename News _ _ _ _ => zz; clear zz)
  repeat (rename Frag.In _ _ => zz; clear zz)
  repeat (rename Below _ _ _ _ => zz; clear zz)
  repeat (rename Top _ _ _ _ _ _ => zz; clear zz)
  repeat (rename Heap.IsList _ _ _ => zz; clear zz)
  repeat (rename KtsTurn _ _ _ => zz; clear zz)
  have X0 := kpX.out
  have B0 := kpB.out
  have T0 := kpT.out
  have L0 := kpL.out
  have fZ := kfZ.out
  clear kfZ
  have nZ := knZ.out
  clear knZ
  iterate 65 (first | (k_unfold; (try dsimp only)) | (k_end; wrow_close) | walk1 | (dsimp only; walk1) | (leave1; walk_say "STEP leave1"; try dsimp only) | fail "no step")
  rename Fr _ _ _ _ => fZ
  have kfZ := Keep.mk fZ
  rename News _ _ _ _ => nZ
  have knZ := Keep.mk nZ
  repeat (rename Fr _ _ _ _ => zz; clear zz)
  repeat (rename News _ _ _ _ => zz; clear zz)
  repeat (rename Frag.In _ _ => zz; clear zz)
  repeat (rename Below _ _ _ _ => zz; clear zz)
  repeat (rename Top _ _ _ _ _ _ => zz; clear zz)
  repeat (rename Heap.IsList _ _ _ => zz; clear zz)
  repeat (rename KtsTurn _ _ _ => zz; clear zz)
  have X0 := kpX.out
  have B0 := kpB.out
  have T0 := kpT.out
  have L0 := kpL.out
  have fZ := kfZ.out
  clear kfZ
  have nZ := knZ.out
  clear knZ
  iterate 118 (first | (k_unfold; (try dsimp only)) | (k_end; wrow_close) | walk1 | (dsimp only; walk1) | (leave1; walk_say "STEP leave1"; try dsimp only) | fail "no step")
  rename Fr _ _ _ _ => fZ
  have kfZ := Keep.mk fZ
  rename News _ _ _ _ => nZ
  have knZ := Keep.mk nZ
  repeat (rename Fr _ _ _ _ => zz; clear zz)
  repeat (rename News _ _ _ _ => zz; clear zz)
  repeat (rename Frag.In _ _ => zz; clear zz)
  repeat (rename Below _ _ _ _ => zz; clear zz)
  repeat (rename Top _ _ _ _ _ _ => zz; clear zz)
  repeat (rename Heap.IsList _ _ _ => zz; clear zz)
  repeat (rename KtsTurn _ _ _ => zz; clear zz)
  have X0 := kpX.out
  have B0 := kpB.out
  have T0 := kpT.out
  have L0 := kpL.out
  have fZ := kfZ.out
  clear kfZ
  have nZ := knZ.out
  clear knZ
  iterate 119 (first | (k_unfold; (try dsimp only)) | (k_end; wrow_close) | walk1 | (dsimp only; walk1) | (leave1; walk_say "STEP leave1"; try dsimp only) | fail "no step")
  rename Fr _ _ _ _ => fZ
  have kfZ := Keep.mk fZ
  rename News _ _ _ _ => nZ
  replace nZ := news_one (e := (_, W.listOf (Value.int n0 a0 :: Value.int n1 a1 :: Value.int n2 a2 :: Value.int n3 a3 :: Value.int n4 a4 :: Value.int n5 a5 :: _).toArray _)) nZ (by walk_at "JM")
  have knZ := Keep.mk nZ
  repeat (rename Fr _ _ _ _ => zz; clear zz)
  repeat (rename News _ _ _ _ => zz; clear zz)
  repeat (rename Frag.In _ _ => zz; clear zz)
  repeat (rename Below _ _ _ _ => zz; clear zz)
  repeat (rename Top _ _ _ _ _ _ => zz; clear zz)
  repeat (rename Heap.IsList _ _ _ => zz; clear zz)
  repeat (rename KtsTurn _ _ _ => zz; clear zz)
  have X0 := kpX.out
  have B0 := kpB.out
  have T0 := kpT.out
  have L0 := kpL.out
  have fZ := kfZ.out
  clear kfZ
  have nZ := knZ.out
  clear knZ
  repeat (rename ((_ : Nat) < _ ∧ _) => zz; clear zz)
  repeat (rename ((_ : Int) = _) => zz; clear zz)
  repeat (rename ((_ : Nat) < _) => zz; clear zz)
  k_sweep
  iterate 80 (first | (k_unfold; (try dsimp only)) | (k_end; wrow_close) | walk1 | (dsimp only; walk1) | (leave1; walk_say "STEP leave1"; try dsimp only) | fail "no step")
  rename Fr _ _ _ _ => fZ
  have kfZ := Keep.mk fZ
  rename News _ _ _ _ => nZ
  have knZ := Keep.mk nZ
  repeat (rename Fr _ _ _ _ => zz; clear zz)
  repeat (rename News _ _ _ _ => zz; clear zz)
  repeat (rename Frag.In _ _ => zz; clear zz)
  repeat (rename Below _ _ _ _ => zz; clear zz)
  repeat (rename Top _ _ _ _ _ _ => zz; clear zz)
  repeat (rename Heap.IsList _ _ _ => zz; clear zz)
  repeat (rename KtsTurn _ _ _ => zz; clear zz)
  have X0 := kpX.out
  have B0 := kpB.out
  have T0 := kpT.out
  have L0 := kpL.out
  have fZ := kfZ.out
  clear kfZ
  have nZ := knZ.out
  clear knZ
  iterate 71 (first | (k_unfold; (try dsimp only)) | (k_end; wrow_close) | walk1 | (dsimp only; walk1) | (leave1; walk_say "STEP leave1"; try dsimp only) | fail "no step")
  rename Fr _ _ _ _ => fZ
  have kfZ := Keep.mk fZ
  rename News _ _ _ _ => nZ
  have knZ := Keep.mk nZ
  repeat (rename Fr _ _ _ _ => zz; clear zz)
  repeat (rename News _ _ _ _ => zz; clear zz)
  repeat (rename Frag.In _ _ => zz; clear zz)
  repeat (rename Below _ _ _ _ => zz; clear zz)
  repeat (rename Top _ _ _ _ _ _ => zz; clear zz)
  repeat (rename Heap.IsList _ _ _ => zz; clear zz)
  repeat (rename KtsTurn _ _ _ => zz; clear zz)
  have X0 := kpX.out
  have B0 := kpB.out
  have T0 := kpT.out
  have L0 := kpL.out
  have fZ := kfZ.out
  clear kfZ
  have nZ := knZ.out
  clear knZ
  rename News _ _ _ _ => nZ
  rename Fr _ _ _ _ => fZ
  refine cut_ fZ (news_one (e := (_, W.listOf (Value.int n0 a0 :: Value.int n1 a1 :: Value.int n2 a2 :: Value.int n3 a3 :: Value.int n4 a4 :: Value.int n5 a5 :: _).toArray _)) nZ (by walk_at "JM")) ?_ ?_
  · k_steps
  intro h' tk9 F' N'
  iterate 41 (first | (k_unfold; (try dsimp only)) | (k_end; wrow_close) | walk1 | (dsimp only; walk1) | (leave1; walk_say "STEP leave1"; try dsimp only) | fail "no step")
  rename Fr _ _ _ _ => fZ
  have kfZ := Keep.mk fZ
  rename News _ _ _ _ => nZ
  replace nZ := news_one (e := (_, W.listOf (Value.int n0 a0 :: Value.int n1 a1 :: Value.int n2 a2 :: Value.int n3 a3 :: Value.int n4 a4 :: Value.int n5 a5 :: _).toArray _)) nZ (by walk_at "JM")
  have knZ := Keep.mk nZ
  repeat (rename Fr _ _ _ _ => zz; clear zz)
  repeat (rename News _ _ _ _ => zz; clear zz)
  repeat (rename Frag.In _ _ => zz; clear zz)
  repeat (rename Below _ _ _ _ => zz; clear zz)
  repeat (rename Top _ _ _ _ _ _ => zz; clear zz)
  repeat (rename Heap.IsList _ _ _ => zz; clear zz)
  repeat (rename KtsTurn _ _ _ => zz; clear zz)
  have X0 := kpX.out
  have B0 := kpB.out
  have T0 := kpT.out
  have L0 := kpL.out
  have fZ := kfZ.out
  clear kfZ
  have nZ := knZ.out
  clear knZ
  repeat (rename ((_ : Nat) < _ ∧ _) => zz; clear zz)
  repeat (rename ((_ : Int) = _) => zz; clear zz)
  repeat (rename ((_ : Nat) < _) => zz; clear zz)
  k_sweep
  repeat (rename GDate _ _ _ _ => zz; clear zz)
  by_cases hP : PLegal (n3 + 1) (n4.fmod 17 - 1) (n5.fmod 31 - 1)
  · obtain ⟨hp1, hp2, hp3, hp4, hp5, hp6⟩ := pl_yes hP
    refine cutI_ (x := Str.ofString "due") (v := FY (n3 + 1 + 1788) + 28 * (n4.fmod 17 - 1 - 1) + (n5.fmod 31 - 1) - 1) fZ nZ ?_ ?_
    · k_steps
    intro h' tk9 t9 F' N'
    clear hp1 hp2 hp3 hp4 hp5 hp6
    k_steps
  · have hp1 := pl_not hP
    refine cut_ fZ nZ ?_ ?_
    · k_steps
    intro h' tk9 F' N'
    clear hp1
    k_steps)
end JB
theorem PySem.Challenge.cw_jb0014_01_holds : PySem.Challenge.rw_jb0014_01.Holds :=
  JB.t0
