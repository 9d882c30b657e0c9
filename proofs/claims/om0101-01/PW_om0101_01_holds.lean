import PyProof.Rows.All
import Wide.All
import OpenK.AllK
import Wide.FinOn
import Lean
import PySem.Challenge.RW_om0101_01
open PySem PySem.W PyProof.Rows PySem.Calls PySem.Spec
set_option Elab.async false
set_option maxRecDepth 100000
set_option maxHeartbeats 8000000
set_option linter.unusedVariables false
namespace Mine
local macro_rules | `(tactic| walk_at $s:str) => `(tactic| k_extra $s)
local macro_rules | `(tactic| omega) => `(tactic| k_extra "omega")
local macro_rules | `(tactic| k_ne) => `(tactic| k_extra "kne")
local macro_rules | `(tactic| ktr_room) => `(tactic| k_extra "room")
local macro_rules | `(tactic| ktr_units) => `(tactic| k_extra "room")
local macro_rules | `(tactic| k_lt $h:ident) => `(tactic| (replace $h := allLt_of $h; dsimp only [AllLt] at $h:ident; try replace $h := And.left (b := True) $h))
section
theorem wd01x1 : True := by
  k_with_none
  k_with "omega" => (omega (splitDisjunctions := true))
  k_with "om2" => (first | lia | omega (splitDisjunctions := true))
  trivial
abbrev rowI : OpenRow := { PySem.Challenge.rw_om0101_01.row with name := Str.ofString "law2", args := [.int], returns := .int, pre := .eq (.lit (.bool true)) (.lit (.bool true)), post := .eq .res .res, prog := { PySem.Challenge.pw_om0101_01 with main := { PySem.Challenge.pw_om0101_01.main with body := PySem.Challenge.pw_om0101_01.main.body ++ [Stmt.Assign [Expr.Name (Str.ofString "_w") ⟨900, 0, 900, 11⟩] (Expr.Call (Expr.Name (Str.ofString "hash") ⟨900, 0, 900, 11⟩) [Expr.Constant (Const.str (Str.ofString "zq")) 0 ⟨900, 0, 900, 11⟩] [] ⟨900, 0, 900, 11⟩) ⟨900, 0, 900, 11⟩, Stmt.FunctionDef (name := "law2") (args := { posonlyargs := [], args := [{ arg := "x", annotation := none, pos := ⟨900, 0, 900, 11⟩ : PySem.Arg }], vararg := none, kwonlyargs := [], kw_defaults := [], kwarg := none, defaults := [] : PySem.Arguments }) (body := [Stmt.Return (some (Expr.Constant (Const.int 1) 0 ⟨900, 0, 900, 11⟩)) ⟨900, 0, 900, 11⟩, Stmt.Expr (Expr.Call (Expr.Name (Str.ofString "law") ⟨900, 0, 900, 11⟩) [Expr.Name (Str.ofString "x") ⟨900, 0, 900, 11⟩] [] ⟨900, 0, 900, 11⟩) ⟨900, 0, 900, 11⟩]) (decorator_list := []) (returns := none) (type_params := []) (scope := { kind := ScopeKind.function, names := [(Str.ofString "x", NameKind.local), (Str.ofString "law", NameKind.globalImplicit)], isGenerator := false, isCoroutine := false, more := [] : PySem.Scope }) (tscope := none) (bind := "law2") (pos := ⟨900, 0, 900, 11⟩)], scope := { PySem.Challenge.pw_om0101_01.main.scope with names := PySem.Challenge.pw_om0101_01.main.scope.names ++ [(Str.ofString "_w", NameKind.local), (Str.ofString "hash", NameKind.globalImplicit), (Str.ofString "law2", NameKind.local)] } } } }
theorem seed : rowI.Holds := by
  w_on
  k_head
  (case hw => exact ⟨[.int 0], by decide +kernel, by decide +kernel⟩)
  w_strict (
    k_fill
    intro w s₀ s₁ mg mb G Y fa o pm cd doc dV kV ho hdd hcd hD hmg hg args vals as hpre hlay hrd hwl hlo
    have KX := kIn_of Y
    have X := (Ground.X G).1
    have V := (Ground.X G).2
    refine Ground.open G ?_
    intro T B D TE TW
    try (refine guard_noD D (by decide +kernel) ?_; clear D)
    obtain ⟨_, _, M⟩ := bmod_of_top T
    have TA := at_of_top T
    try (obtain ⟨_, _, he, B0⟩ := based_of_top T rfl hmg ho hdd; have he' : cd = _ := he; subst he'; clear he)
    clear hmg
    wrow_args hpre hlay hrd hwl hlo
    all_goals (
      first | refine callC_kw (enter_call ?_) | refine enter_call ?_ | refine callC_kw (enter_callW ?_) | refine enter_callW ?_ | w_how
      w_top off
      try refine codeAny_mono ?_ (fun _ _ g => GoodW.toG g)
      have K0 := below_caller (Top.heap T)
      w_call any ho hdd hcd hD T F
      clear hdd TA
      k_drop
      skip)
    all_goals try k_fold
    k_steps
    all_goals (try k_data)
    all_goals w_report)
def insMain (m : Addr × Obj) (n : Nat) : Frag → Frag
  | [] => []
  | x :: l => x :: m :: l.take n
theorem insMain_cons {m x : Addr × Obj} {n : Nat} {l : Frag} : insMain m n (x :: l) = x :: m :: l.take n := rfl
noncomputable def Kt : Params → Frag := by
  refine' (?g : (x : Params → Frag) → (∀ P, x P = insMain (nat_lit 3, { cls := Value.type "dict", data := Data.dict #[
    { hash := PyData.keyHash P (Str.ofString "__name__"), key := Value.str (Str.ofString "__name__") 165, val := Value.str (Str.ofString "law_om0101_01") 425 },
    { hash := PyData.keyHash P (Str.ofString "__doc__"), key := Value.str (Str.ofString "__doc__") 166, val := Value.none },
    { hash := PyData.keyHash P (Str.ofString "__package__"), key := Value.str (Str.ofString "__package__") 167, val := Value.none },
    { hash := PyData.keyHash P (Str.ofString "__loader__"), key := Value.str (Str.ofString "__loader__") 168, val := Value.builtin "__main__.__loader__#opaque" },
    { hash := PyData.keyHash P (Str.ofString "__spec__"), key := Value.str (Str.ofString "__spec__") 169, val := Value.none },
    { hash := PyData.keyHash P (Str.ofString "__annotations__"), key := Value.str (Str.ofString "__annotations__") 170, val := Value.ref 6 },
    { hash := PyData.keyHash P (Str.ofString "__builtins__"), key := Value.str (Str.ofString "__builtins__") 171, val := Value.ref 4 },
    { hash := PyData.keyHash P (Str.ofString "__file__"), key := Value.str (Str.ofString "__file__") 173, val := Value.str (Str.ofString "/claim/cut.py") 172 },
    { hash := PyData.keyHash P (Str.ofString "__cached__"), key := Value.str (Str.ofString "__cached__") 174, val := Value.none },
    { hash := PyData.keyHash P (Str.ofString "_iter_escaped_chars"), key := Value.str (Str.ofString "_iter_escaped_chars") 198, val := Value.ref 21 },
    { hash := PyData.keyHash P (Str.ofString "_strip_quoted_realnames"), key := Value.str (Str.ofString "_strip_quoted_realnames") 210, val := Value.ref 28 },
    { hash := PyData.keyHash P (Str.ofString "_check_parenthesis"), key := Value.str (Str.ofString "_check_parenthesis") 220, val := Value.ref 35 },
    { hash := PyData.keyHash P (Str.ofString "_pre_parse_validation"), key := Value.str (Str.ofString "_pre_parse_validation") 229, val := Value.ref 42 },
    { hash := PyData.keyHash P (Str.ofString "heappush"), key := Value.str (Str.ofString "heappush") 239, val := Value.ref 49 },
    { hash := PyData.keyHash P (Str.ofString "heappop"), key := Value.str (Str.ofString "heappop") 248, val := Value.ref 56 },
    { hash := PyData.keyHash P (Str.ofString "heapreplace"), key := Value.str (Str.ofString "heapreplace") 257, val := Value.ref 63 },
    { hash := PyData.keyHash P (Str.ofString "heappushpop"), key := Value.str (Str.ofString "heappushpop") 265, val := Value.ref 70 },
    { hash := PyData.keyHash P (Str.ofString "_heapreplace_max"), key := Value.str (Str.ofString "_heapreplace_max") 274, val := Value.ref 77 },
    { hash := PyData.keyHash P (Str.ofString "_heapify_max"), key := Value.str (Str.ofString "_heapify_max") 283, val := Value.ref 84 },
    { hash := PyData.keyHash P (Str.ofString "_siftdown"), key := Value.str (Str.ofString "_siftdown") 295, val := Value.ref 91 },
    { hash := PyData.keyHash P (Str.ofString "_siftup"), key := Value.str (Str.ofString "_siftup") 308, val := Value.ref 98 },
    { hash := PyData.keyHash P (Str.ofString "_siftdown_max"), key := Value.str (Str.ofString "_siftdown_max") 320, val := Value.ref 105 },
    { hash := PyData.keyHash P (Str.ofString "_siftup_max"), key := Value.str (Str.ofString "_siftup_max") 333, val := Value.ref 112 },
    { hash := PyData.keyHash P (Str.ofString "nsmallest"), key := Value.str (Str.ofString "nsmallest") 339, val := Value.ref 118 },
    { hash := PyData.keyHash P (Str.ofString "S_IFMT"), key := Value.str (Str.ofString "S_IFMT") 348, val := Value.ref 125 },
    { hash := PyData.keyHash P (Str.ofString "S_IFDIR"), key := Value.str (Str.ofString "S_IFDIR") 350, val := Value.int 16384 349 },
    { hash := PyData.keyHash P (Str.ofString "S_IFCHR"), key := Value.str (Str.ofString "S_IFCHR") 352, val := Value.int 8192 351 },
    { hash := PyData.keyHash P (Str.ofString "S_IFBLK"), key := Value.str (Str.ofString "S_IFBLK") 354, val := Value.int 24576 353 },
    { hash := PyData.keyHash P (Str.ofString "S_IFREG"), key := Value.str (Str.ofString "S_IFREG") 356, val := Value.int 32768 355 },
    { hash := PyData.keyHash P (Str.ofString "S_IFIFO"), key := Value.str (Str.ofString "S_IFIFO") 358, val := Value.int 4096 357 },
    { hash := PyData.keyHash P (Str.ofString "S_IFLNK"), key := Value.str (Str.ofString "S_IFLNK") 360, val := Value.int 40960 359 },
    { hash := PyData.keyHash P (Str.ofString "S_IFSOCK"), key := Value.str (Str.ofString "S_IFSOCK") 362, val := Value.int 49152 361 },
    { hash := PyData.keyHash P (Str.ofString "S_ISUID"), key := Value.str (Str.ofString "S_ISUID") 364, val := Value.int 2048 363 },
    { hash := PyData.keyHash P (Str.ofString "S_ISGID"), key := Value.str (Str.ofString "S_ISGID") 366, val := Value.int 1024 365 },
    { hash := PyData.keyHash P (Str.ofString "S_ISVTX"), key := Value.str (Str.ofString "S_ISVTX") 368, val := Value.int 512 367 },
    { hash := PyData.keyHash P (Str.ofString "S_IRUSR"), key := Value.str (Str.ofString "S_IRUSR") 370, val := Value.int 256 369 },
    { hash := PyData.keyHash P (Str.ofString "S_IWUSR"), key := Value.str (Str.ofString "S_IWUSR") 372, val := Value.int 128 371 },
    { hash := PyData.keyHash P (Str.ofString "S_IXUSR"), key := Value.str (Str.ofString "S_IXUSR") 374, val := Value.int 64 373 },
    { hash := PyData.keyHash P (Str.ofString "S_IRGRP"), key := Value.str (Str.ofString "S_IRGRP") 376, val := Value.int 32 375 },
    { hash := PyData.keyHash P (Str.ofString "S_IWGRP"), key := Value.str (Str.ofString "S_IWGRP") 378, val := Value.int 16 377 },
    { hash := PyData.keyHash P (Str.ofString "S_IXGRP"), key := Value.str (Str.ofString "S_IXGRP") 380, val := Value.int 8 379 },
    { hash := PyData.keyHash P (Str.ofString "S_IROTH"), key := Value.str (Str.ofString "S_IROTH") 382, val := Value.int 4 381 },
    { hash := PyData.keyHash P (Str.ofString "S_IWOTH"), key := Value.str (Str.ofString "S_IWOTH") 384, val := Value.int 2 383 },
    { hash := PyData.keyHash P (Str.ofString "S_IXOTH"), key := Value.str (Str.ofString "S_IXOTH") 386, val := Value.int 1 385 },
    { hash := PyData.keyHash P (Str.ofString "_filemode_table"), key := Value.str (Str.ofString "_filemode_table") 412, val := Value.ref 158 },
    { hash := PyData.keyHash P (Str.ofString "filemode"), key := Value.str (Str.ofString "filemode") 424, val := Value.ref 165 },
    { hash := PyData.keyHash P (Str.ofString "_law_mode"), key := Value.str (Str.ofString "_law_mode") 433, val := Value.ref 172 },
    { hash := PyData.keyHash P (Str.ofString "_law_read"), key := Value.str (Str.ofString "_law_read") 443, val := Value.ref 179 },
    { hash := PyData.keyHash P (Str.ofString "_law_call"), key := Value.str (Str.ofString "_law_call") 452, val := Value.ref 186 },
    { hash := PyData.keyHash P (Str.ofString "_law_refused"), key := Value.str (Str.ofString "_law_refused") 461, val := Value.ref 193 },
    { hash := PyData.keyHash P (Str.ofString "_law_due"), key := Value.str (Str.ofString "_law_due") 471, val := Value.ref 200 },
    { hash := PyData.keyHash P (Str.ofString "_law_text"), key := Value.str (Str.ofString "_law_text") 482, val := Value.ref 207 },
    { hash := PyData.keyHash P (Str.ofString "_law_tree"), key := Value.str (Str.ofString "_law_tree") 491, val := Value.ref 214 },
    { hash := PyData.keyHash P (Str.ofString "_law_parsed"), key := Value.str (Str.ofString "_law_parsed") 497, val := Value.ref 219 },
    { hash := PyData.keyHash P (Str.ofString "law"), key := Value.str (Str.ofString "law") 503, val := Value.ref 224 }] 55 }) 158 (Mine.seed.heap_1 P)) → Params → Frag) _ (fun P => ?h)
  case h =>
    unfold Mine.seed.heap_1
    rewrite [insMain_cons]
    iterate 158 rewrite [List.take_succ_cons]
    rewrite [List.take_zero]
    rfl
  case g => exact fun x _ => x
noncomputable def vwB : List Stmt := by
  refine' (?g : (x : List Stmt) → (x = Mine.seed.view_1.main.body.take 45) → List Stmt) _ ?h
  case h =>
    unfold Mine.seed.view_1
    dsimp -zeta only
    iterate 45 rewrite [List.take_succ_cons]
    rewrite [List.take_zero]
    rfl
  case g => exact fun x _ => x
noncomputable def vw : Program := { PySem.Challenge.rw_om0101_01.row.toRowW.prog with main := { PySem.Challenge.rw_om0101_01.row.toRowW.prog.main with body := vwB } }
noncomputable abbrev looseN : List Str := [Str.ofString "nsmallest", Str.ofString "_filemode_table"]
noncomputable abbrev lvT : List (Str × WData) :=
  [(PySem.Str.ofString "_filemode_table",
      PySem.W.WData.tuple
        [PySem.W.WData.tuple
            [PySem.W.WData.tuple [PySem.W.WData.int 40960, PySem.W.WData.str { cps := #[108] }],
              PySem.W.WData.tuple [PySem.W.WData.int 49152, PySem.W.WData.str { cps := #[115] }],
              PySem.W.WData.tuple [PySem.W.WData.int 32768, PySem.W.WData.str { cps := #[45] }],
              PySem.W.WData.tuple [PySem.W.WData.int 24576, PySem.W.WData.str { cps := #[98] }],
              PySem.W.WData.tuple [PySem.W.WData.int 16384, PySem.W.WData.str { cps := #[100] }],
              PySem.W.WData.tuple [PySem.W.WData.int 8192, PySem.W.WData.str { cps := #[99] }],
              PySem.W.WData.tuple [PySem.W.WData.int 4096, PySem.W.WData.str { cps := #[112] }]],
          PySem.W.WData.tuple [PySem.W.WData.tuple [PySem.W.WData.int 256, PySem.W.WData.str { cps := #[114] }]],
          PySem.W.WData.tuple [PySem.W.WData.tuple [PySem.W.WData.int 128, PySem.W.WData.str { cps := #[119] }]],
          PySem.W.WData.tuple
            [PySem.W.WData.tuple [PySem.W.WData.int 2112, PySem.W.WData.str { cps := #[115] }],
              PySem.W.WData.tuple [PySem.W.WData.int 2048, PySem.W.WData.str { cps := #[83] }],
              PySem.W.WData.tuple [PySem.W.WData.int 64, PySem.W.WData.str { cps := #[120] }]],
          PySem.W.WData.tuple [PySem.W.WData.tuple [PySem.W.WData.int 32, PySem.W.WData.str { cps := #[114] }]],
          PySem.W.WData.tuple [PySem.W.WData.tuple [PySem.W.WData.int 16, PySem.W.WData.str { cps := #[119] }]],
          PySem.W.WData.tuple
            [PySem.W.WData.tuple [PySem.W.WData.int 1032, PySem.W.WData.str { cps := #[115] }],
              PySem.W.WData.tuple [PySem.W.WData.int 1024, PySem.W.WData.str { cps := #[83] }],
              PySem.W.WData.tuple [PySem.W.WData.int 8, PySem.W.WData.str { cps := #[120] }]],
          PySem.W.WData.tuple [PySem.W.WData.tuple [PySem.W.WData.int 4, PySem.W.WData.str { cps := #[114] }]],
          PySem.W.WData.tuple [PySem.W.WData.tuple [PySem.W.WData.int 2, PySem.W.WData.str { cps := #[119] }]],
          PySem.W.WData.tuple
            [PySem.W.WData.tuple [PySem.W.WData.int 513, PySem.W.WData.str { cps := #[116] }],
              PySem.W.WData.tuple [PySem.W.WData.int 512, PySem.W.WData.str { cps := #[84] }],
              PySem.W.WData.tuple [PySem.W.WData.int 1, PySem.W.WData.str { cps := #[120] }]]])]
noncomputable abbrev asK : List Addr := [2, 3, 15, 17, 18, 20, 21, 22, 24, 25, 27, 28, 29, 31, 32, 34, 35, 36, 38, 39, 41, 42, 43, 45, 46, 48, 49, 50, 52, 53, 55, 56, 57, 59, 60, 62, 63, 64, 66, 67, 69, 70, 71, 73, 74, 76, 77, 78, 80, 81, 83, 84, 85, 87, 88, 90, 91, 92, 94, 95, 97, 98, 99, 101, 102, 104, 105, 106, 108, 109, 111, 112, 113, 114, 117, 118, 119, 121, 122, 124, 125, 126, 127, 128, 129, 130, 131, 132, 133, 134, 135, 136, 137, 138, 139, 140, 141, 142, 143, 144, 145, 146, 147, 148, 149, 150, 151, 152, 153, 154, 155, 156, 157, 158, 159, 161, 162, 164, 165, 166, 168, 169, 171, 172, 173, 175, 176, 178, 179, 180, 182, 183, 185, 186, 187, 189, 190, 192, 193, 194, 196, 197, 199, 200, 201, 203, 204, 206, 207, 208, 210, 211, 213, 214, 215, 218, 219, 220, 223, 224]
theorem asK_eq (P : Params) : asK = (Kt P).map (·.1) := by kernel_rfl
theorem left_hd : LeftO PySem.Challenge.rw_om0101_01.row.prog vw looseN (fun s => xlAt vw lvT s && recOk (RowW.records PySem.Challenge.rw_om0101_01.row.toRowW) s) (Hook.obs (kHook Kt asK asK_eq)) (Hook.val (kHook Kt asK asK_eq)) 2486 := by
  intro w
  kernel_rfl
theorem hd {d : DefRec} {kwd : List (Str × PySem.Expr)} (h1 : defOf vw PySem.Challenge.rw_om0101_01.row.name = some (d, kwd)) (h2 : PySem.Challenge.rw_om0101_01.row.prog.theDef PySem.Challenge.rw_om0101_01.row.name = some (d.params, d.body, d.scope)) (h3 : kwWritten? d.params.kwonlyargs d.params.kw_defaults = some kwd)
    (walk : WalkO vw looseN (XL vw lvT) (Hook.says (kHook Kt asK asK_eq)) PySem.Challenge.rw_om0101_01.row.toRowW d kwd fun f vs => PySem.call f vs) : PySem.Challenge.rw_om0101_01.Holds := by
  refine holds_law (by decide +kernel) fun said => ?_
  exact PySem.W.holds_open left_hd (Hook.of _) (Hook.keeps _) (fun s e => xl_of s (Bool.and_eq_true_iff.mp e).1) XL.keeps h1 h2 h3 (fun s e => recFacts_of (Bool.and_eq_true_iff.mp e).2) (by rfl) said (by decide +kernel) ⟨rfl, rfl, rfl, rfl, rfl, by decide +kernel⟩ ⟨[.list []], by decide +kernel, by decide +kernel⟩ walk
end
section
theorem wd02x2 : True := by
  k_with_none
  k_with "omega" => (omega (splitDisjunctions := true))
  k_with "om2" => (first | lia | omega (splitDisjunctions := true))
  trivial
theorem top_off : True := by
  w_top off
  trivial
noncomputable abbrev loo : List Str := looseW vw looseN
abbrev top (dp un : Nat) (gd : Option (List Code)) (outer : List Env) : Around := { handled := none, depth := dp, frames := some outer, guards := gd, units := un }

structure Ext (D : List Addr) (s s' : Shared) : Prop where
  keep : ∀ b o, b ∉ D → s.heap.get? b = some o → s'.heap.get? b = some o
  os : s'.os = s.os
  bare : AllBare s.gens → AllBare s'.gens

def Has (base : Heap) (outer : List Env) (h : Heap) (news : List (Addr × Obj)) : Prop :=
  ∀ p ∈ news, h.get? p.1 = some p.2 ∧ base.get? p.1 = none ∧ ∀ e ∈ outer, e.frame ≠ some p.1

theorem Has.nil {base : Heap} {outer : List Env} {h : Heap} : Has base outer h [] := fun _ hp => nomatch hp

section
variable {prog : Program} {w : World} {A A₀ : Around} {s s' : Shared} {K : Frag} {L : Addr} {h₀ base : Heap} {m mg mb : Str → Option Value} {news : List (Addr × Obj)} {p : Program} {loose : List Str} {mean : ExcName → Option Value}
  {outer : List Env} {env : Env}

theorem hidden (B : Below A base outer s.heap) (H : Has base outer s.heap news) : Below A base outer (hideAll s.heap (news.map (·.1))) := by
  refine ⟨B.stack, fun b o e => hideAll_get _ (B.stays b o e) fun q => ?_, funFrames_hideAll B.frames fun env he a ha => ?_⟩
  · obtain ⟨p, hp, rfl⟩ := List.mem_map.mp q
    rw [(H p hp).2.1] at e; cases e
  · obtain ⟨p, hp, rfl⟩ := List.mem_map.mp ha
    exact (H p hp).2.2 env he

theorem enter {R : Result → Shared → Prop} {name qual : Str} {params : Arguments} {body : List Stmt} {scope : Scope} {dV kV doc pm cdv ct oc : Value} {an od : Option Addr} {osl : Array (Option Value)} {f : Addr} {args : Args} {binds : List (Str × Value)}
    (B : Below A base outer s.heap) (X : K.In base) (T : Top p loose mean mg mb base) (H : Has base outer s.heap news)
    (ho : K.lookup f = some ⟨oc, od, .func (fnOf name qual params body scope dV kV doc pm an cdv ct), osl⟩) (hcd : codeIn K cdv qual = true) (hroom : A.depth < recursionLimit)
    (hbind : BindsTo s (fnOf name qual params body scope dV kV doc pm an cdv ct) args binds) (hloc : ∀ y ∈ binds, scope.names.lookup y.1 = some .local)
    (h : ∀ g L' h₁, (∀ b o, b ∉ news.map (·.1) → s.heap.get? b = some o → g.get? b = some o) → Fr g L' h₁ (fun y => binds.reverse.lookup y) → News g L' h₁ news → Below A base outer g → K.In g → Top p loose mean mg mb g → (∀ p ∈ news, p.1 < L') →
      wpAny (model prog w) (A.deeper (envOf qual scope L' f cdv)) (execs body (envOf qual scope L' f cdv))
        (fun fl s' => R (.ok (.ret (match fl with | .ret v => v | _ => .none))) s')
        (fun e s' => wpAny (model prog w) (A.deeper (envOf qual scope L' f cdv)) (leaving (envOf qual scope L' f cdv) e) (fun _ s'' => R (.error e) s'') (fun e' s'' => R (.error e') s'') s')
        { s with heap := h₁, toks := s.toks + binds.length })
    (hco : scope.isCoroutine = false) (hgen : scope.isGenerator = false) (hk : scope.kind = .function)
    (hcell : ∀ x ∈ scope.names, x.2 ≠ .cell) : codeAny (model prog w) A (.call (.ref f) args) R s := by
  have B' := hidden B H
  refine codeAny_call_def (fd := fnOf name qual params body scope dV kV doc pm an cdv ct) (body := body) (binds := binds) hroom (X.keeps B.stays _ _ ho) rfl ((T.keeps B.stays).nolimit) (codeRec_of (X.keeps B.stays) hcd) rfl hbind hcell hloc (fun h₁ hns hk₁ => ?_) hco hgen hk
  generalize hN : news.map (·.1) = as at B'
  refine h (hideAll s.heap as) s.heap.objs.size h₁ (fun b o hb e => hideAll_get _ e (hN ▸ hb))
    ⟨hns, fun b o e => hk₁ b o (of_hideAll _ e), Nat.le_of_eq (hideAll_size _ _)⟩
    (fun p hp => ⟨hk₁ _ _ (H p hp).1, Nat.ne_of_lt (Heap.lt_size (H p hp).1), hideAll_none _ (hN ▸ List.mem_map_of_mem hp)⟩) B' (X.keeps B'.stays) (T.keeps B'.stays) (fun p hp => Heap.lt_size (H p hp).1)

def AtF (Q : Flow → Shared → Prop) (fl : Flow) (s : Shared) : Prop := Q fl s
theorem AtF.go {P : Shared → Prop} {Q : Flow → Shared → Prop} {s : Shared} (h : ∀ s', P s' → AtF Q .next s') (k : P s) : AtF Q .next s := h _ k
theorem AtF.out {P Q : Flow → Shared → Prop} {fl : Flow} {s : Shared} (h : ∀ fl s', fl ≠ .next → P fl s' → AtF Q fl s') (hn : fl ≠ .next) (k : P fl s) : AtF Q fl s := h _ _ hn k
theorem AtF.fin {P Q : Flow → Shared → Prop} {fl : Flow} {s : Shared} (h : ∀ fl s', P fl s' → AtF Q fl s') (k : P fl s) : AtF Q fl s := h _ _ k
theorem execs_gen {M : Model} {A : Around} {st : Stmt} {rest : List Stmt} {env : Env} {Q : Flow → Shared → Prop} {E : Value → Shared → Prop} {h : Heap} {g : Array GenState} {d : Drawn} {tk : Nat} {os : OsState}
    (H : ∀ Qs tk', (∀ s', wpAny M A (execs rest env) Q E s' → AtF Qs .next s') → (∀ fl s', fl ≠ .next → Q fl s' → AtF Qs fl s') → wpAny M A (exec st env) (AtF Qs) E ⟨h, g, d, tk', os⟩) : wpAny M A (execs (st :: rest) env) Q E ⟨h, g, d, tk, os⟩ :=
  wpAny_execs_cons (H _ tk (fun _ k => k) (fun fl s' hne k => by cases fl <;> first | exact absurd rfl hne | exact k))
theorem execs_abs {M : Model} {A : Around} {b : List Stmt} {env : Env} {Q : Flow → Shared → Prop} {E : Value → Shared → Prop} {s : Shared}
    (H : ∀ Q0, (∀ fl s', Q fl s' → AtF Q0 fl s') → wpAny M A (execs b env) (AtF Q0) E s) : wpAny M A (execs b env) Q E s := H Q (fun _ _ k => k)
theorem nmL {name : Str} {scope : Scope} {a : Addr} {cd v : Value} {x : Str} {pos : Pos} {Q E : Value → Shared → Prop} (F : Fr h₀ L s.heap m) (hv : some v = m x) (hx : scope.names.lookup x = some .local) (hk : scope.kind = .function) (hd : (x == ("__debug__" : Str)) = false) (h : Q v s) :
    wpAny (model prog w) A (eval (.Name x pos) (envOf name scope L a cd)) Q E s := nameX_L F hv.symm h hk hx hd
theorem stoL {name : Str} {scope : Scope} {a : Addr} {cd v : Value} {x : Str} {Q : Unit → Shared → Prop} {E : Value → Shared → Prop} (F : Fr h₀ L s.heap m) (N : News h₀ L s.heap news) (hx : scope.names.lookup x = some .local) (hk : scope.kind = .function)
    (h : ∀ h', Fr h₀ L h' (fun y => if y = x then some v else m y) → News h₀ L h' news → Q () { s with heap := h', toks := s.toks + 1 }) : wpAny (model prog w) A (storeName (envOf name scope L a cd) x v) Q E s := storeX_L F N h hk hx
theorem stoLe {name : Str} {scope : Scope} {a : Addr} {cd v : Value} {x : Str} {Q : Unit → Shared → Prop} {E : Value → Shared → Prop} (F : Fr h₀ L s.heap m) (N : News h₀ L s.heap news) (hx : scope.names.lookup x = some .local) (hk : scope.kind = .function)
    (h : let m' := (fun y => if y = x then some v else m y); ∀ h', Fr h₀ L h' m' → News h₀ L h' news → Q () { s with heap := h', toks := s.toks + 1 }) : wpAny (model prog w) A (storeName (envOf name scope L a cd) x v) Q E s := storeX_L F N h hk hx
theorem nmLC {name : Str} {scope : Scope} {a : Addr} {cd v : Value} {x : Str} {pos : Pos} {Q E : Value → Shared → Prop} (F : Fr h₀ L s.heap m) (hv : some v = m x) (hk : scope.kind = .function) (hx : (envOfC name scope L a cd).kindOf x = some .local) (hd : (x == ("__debug__" : Str)) = false) (h : Q v s) :
    wpAny (model prog w) A (eval (.Name x pos) (envOfC name scope L a cd)) Q E s := nameX_L F hv.symm h hk hx hd
theorem stoLC {name : Str} {scope : Scope} {a : Addr} {cd v : Value} {x : Str} {Q : Unit → Shared → Prop} {E : Value → Shared → Prop} (F : Fr h₀ L s.heap m) (N : News h₀ L s.heap news) (hk : scope.kind = .function) (hx : (envOfC name scope L a cd).kindOf x = some .local)
    (h : ∀ h', Fr h₀ L h' (fun y => if y = x then some v else m y) → News h₀ L h' news → Q () { s with heap := h', toks := s.toks + 1 }) : wpAny (model prog w) A (storeName (envOfC name scope L a cd) x v) Q E s := storeX_L F N h hk hx
theorem stoLCe {name : Str} {scope : Scope} {a : Addr} {cd v : Value} {x : Str} {Q : Unit → Shared → Prop} {E : Value → Shared → Prop} (F : Fr h₀ L s.heap m) (N : News h₀ L s.heap news) (hk : scope.kind = .function) (hx : (envOfC name scope L a cd).kindOf x = some .local)
    (h : let m' := (fun y => if y = x then some v else m y); ∀ h', Fr h₀ L h' m' → News h₀ L h' news → Q () { s with heap := h', toks := s.toks + 1 }) : wpAny (model prog w) A (storeName (envOfC name scope L a cd) x v) Q E s := storeX_L F N h hk hx
theorem enterN {R : Result → Shared → Prop} {name qual : Str} {params : Arguments} {body : List Stmt} {scope : Scope} {dV kV doc pm cdv ct oc : Value} {an od : Option Addr} {osl : Array (Option Value)} {f : Addr} {args : Args} {binds : List (Str × Value)}
    (B : Below A base outer s.heap) (X : K.In base) (T : Top p loose mean mg mb base) (H : Has base outer s.heap news)
    (ho : K.lookup f = some ⟨oc, od, .func (fnOf name qual params body scope dV kV doc pm an cdv ct), osl⟩) (hcd : codeIn K cdv qual = true) (hroom : A.depth < recursionLimit)
    (hbind : BindsTo s (fnOf name qual params body scope dV kV doc pm an cdv ct) args binds) (hloc : ∀ y ∈ binds, scope.names.lookup y.1 = some .local)
    (h : ∀ g L' h₁ Q1 tk, (∀ fl s', R (.ok (.ret (match fl with | .ret v => v | _ => .none))) s' → AtF Q1 fl s') → (∀ b o, b ∉ news.map (·.1) → s.heap.get? b = some o → g.get? b = some o) → Fr g L' h₁ (fun y => binds.reverse.lookup y) → News g L' h₁ news → Below A base outer g → K.In g → Top p loose mean mg mb g → (∀ p ∈ news, p.1 < L') →
      wpAny (model prog w) (A.deeper (envOf qual scope L' f cdv)) (execs body (envOf qual scope L' f cdv)) (AtF Q1) (fun _ _ => False) ⟨h₁, s.gens, s.drawn, tk, s.os⟩)
    (hco : scope.isCoroutine = false) (hgen : scope.isGenerator = false) (hk : scope.kind = .function)
    (hcell : ∀ x ∈ scope.names, x.2 ≠ .cell) : codeAny (model prog w) A (.call (.ref f) args) R s :=
  enter B X T H ho hcd hroom hbind hloc (fun g L' h₁ a b c d e f' g' => wpAny_mono (h g L' h₁ _ _ (fun _ _ k => k) a b c d e f' g') (fun _ _ k => k) (fun _ _ k => k.elim)) hco hgen hk hcell

/-- what a K frame knows, as a contract asks it -/
theorem has_of {sub : List (Addr × Obj)} (B : Below A₀ base outer h₀) (N : News h₀ L s.heap news) (hf : env.frame = some L) (hs : ∀ p ∈ sub, p ∈ news) : Has base (env :: outer) s.heap sub := by
  intro p hp
  have n := N p (hs p hp)
  refine ⟨n.1, ?_, fun e he => ?_⟩
  · cases q : base.get? p.1 with
    | none => rfl
    | some o => rw [B.stays _ _ q] at n; exact absurd n.2.2 (by simp)
  · cases he with
    | head => rw [hf]; exact fun q => n.2.1 (Option.some.inj q).symm
    | tail _ he =>
      obtain ⟨L₁, o₁, hf₁, ho₁⟩ := funFrames_in B.frames e he
      rw [hf₁]
      intro q
      rw [Option.some.inj q] at ho₁
      rw [ho₁] at n; exact absurd n.2.2 (by simp)

theorem back_fr {D : List Addr} (F : Fr h₀ L s.heap m) (N : News h₀ L s.heap news) (x : Ext D s s') (hD : ∀ d ∈ D, ∃ o, (d, o) ∈ news) : Fr h₀ L s'.heap m := by
  obtain ⟨oL, es, ep, hL, hLd, hLk, hLf⟩ := F.ns
  refine ⟨⟨oL, es, ep, x.keep _ _ (fun q => ?_) hL, hLd, hLk, hLf⟩, fun b o e => x.keep _ _ (fun q => ?_) (F.keep b o e), F.above⟩
  · obtain ⟨o, ho⟩ := hD _ q; exact (N _ ho).2.1 rfl
  · obtain ⟨o', ho⟩ := hD _ q
    rw [(N _ ho).2.2] at e; cases e

theorem back_news0 (N : News h₀ L s.heap news) (x : Ext [] s s') : News h₀ L s'.heap news := fun p hp => ⟨x.keep _ _ (fun q => nomatch q) (N p hp).1, (N p hp).2.1, (N p hp).2.2⟩

theorem back_news1 {l : Addr} {o o' : Obj} {news' : List (Addr × Obj)} (N : News h₀ L s.heap news) (x : Ext [l] s s') (U : Upd l o o' news news') (ho : s'.heap.get? l = some o') : News h₀ L s'.heap news' := by
  obtain ⟨pre, post, rfl, rfl, a, b⟩ := U.split
  intro p hp
  rcases List.mem_append.mp hp with hp | hp
  · have n := N p (List.mem_append_left _ hp)
    exact ⟨x.keep _ _ (fun q => a p hp (List.mem_singleton.mp q)) n.1, n.2.1, n.2.2⟩
  · rcases List.mem_cons.mp hp with rfl | hp
    · have n := N (l, o) (List.mem_append_right _ (.head _))
      exact ⟨ho, n.2.1, n.2.2⟩
    · have n := N p (List.mem_append_right _ (.tail _ hp))
      exact ⟨x.keep _ _ (fun q => b p hp (List.mem_singleton.mp q)) n.1, n.2.1, n.2.2⟩

theorem news_cons {r : Addr} {o : Obj} (F : Fr h₀ L s.heap m) (N : News h₀ L s'.heap news) (hr : s'.heap.get? r = some o) (hf : s.heap.get? r = none) : News h₀ L s'.heap ((r, o) :: news) := by
  intro p hp
  rcases List.mem_cons.mp hp with rfl | hp
  · refine ⟨hr, fun q => ?_, ?_⟩
    · obtain ⟨oL, es, ep, hL, _⟩ := F.ns
      have q : r = L := q
      rw [q] at hf; rw [hf] at hL; cases hL
    · cases q : h₀.get? r with
      | none => rfl
      | some o' => rw [F.keep _ _ q] at hf; cases hf
  · exact N p hp
end
section
variable {prog : Program} {w : World} {A A₀ : Around} {s s' : Shared} {L : Addr} {g : Heap} {m : Str → Option Value}
theorem ext_of {D : List Addr} (FG : ∀ b o, b ∉ D → s.heap.get? b = some o → g.get? b = some o) (F : Fr g L s'.heap m) (hos : s'.os = s.os) (hb : AllBare s.gens → AllBare s'.gens) : Ext D s s' :=
  ⟨fun b o hd e => F.keep _ _ (FG b o hd e), hos, hb⟩
theorem rshift1 {a : Int} {t u : Tok} {E : Value → Shared → Prop} {Q : Value → Shared → Prop} (h : Q (.int (a / 2) s.toks) { s with toks := s.toks + 1 }) : wpAny (model prog w) A (binaryOp .RShift (.int a t) (.int 1 u)) Q E s := by
  refine rshift_int (by decide) ?_
  have e : a.fdiv (2 ^ (1 : Int).toNat) = a / 2 := by
    show a.fdiv 2 = a / 2
    rw [Int.fdiv_eq_ediv_of_nonneg]; decide
  rw [e]; exact h
end
theorem pushT {dp un : Nat} {gd : Option (List Code)} {outer : List Env} {base h₀ h : Heap} {L : Addr} {m : Str → Option Value} {env : Env} (B : Below (top dp un gd outer) base outer h₀) (F : Fr h₀ L h m) (hf : env.frame = some L) (hk : env.scope.kind = .function) :
    Below (top (dp + 1) (un + 3) gd (env :: outer)) base (env :: outer) h := pushX B F hf hk
theorem ext_after {s s₁ s₂ s' : Shared} {D D' : List Addr} {g : Heap} {L : Addr} {m : Str → Option Value} (FG : ∀ b o, b ∉ D → s.heap.get? b = some o → g.get? b = some o) (F : Fr g L s'.heap m) (x : Ext D' s₁ s₂) (hos : s₁.os = s.os) (hb : AllBare s.gens → AllBare s₁.gens) (e1 : s'.os = s₂.os := by exact rfl) (e2 : s'.gens = s₂.gens := by exact rfl) : Ext D s s' :=
  ⟨fun b o hd e => F.keep _ _ (FG b o hd e), e1.trans (x.os.trans hos), fun y => e2 ▸ x.bare (hb y)⟩
theorem ex39 {p0 p1 p2 p3 p4 p5 p6 p7 p8 : Nat → (Str → Option Value) → (List (Addr × Obj)) → Prop} {C : Prop} (h : ∃ x0 x1 x2, p0 x0 x1 x2 ∧ p1 x0 x1 x2 ∧ p2 x0 x1 x2 ∧ p3 x0 x1 x2 ∧ p4 x0 x1 x2 ∧ p5 x0 x1 x2 ∧ p6 x0 x1 x2 ∧ p7 x0 x1 x2 ∧ p8 x0 x1 x2) (k : ∀ x0 x1 x2, p0 x0 x1 x2 → p1 x0 x1 x2 → p2 x0 x1 x2 → p3 x0 x1 x2 → p4 x0 x1 x2 → p5 x0 x1 x2 → p6 x0 x1 x2 → p7 x0 x1 x2 → p8 x0 x1 x2 → C) : C := by
  obtain ⟨x0, x1, x2, h0, h1, h2, h3, h4, h5, h6, h7, h8⟩ := h
  exact k _ _ _ h0 h1 h2 h3 h4 h5 h6 h7 h8
theorem rm0 {d n N : Nat} (h : d + n < N) : d < N := Nat.lt_of_le_of_lt (Nat.le_add_right d n) h
theorem rm1 {d a n N : Nat} (h : d + n < N) (k : Nat.ble a n = true) : d + a < N := Nat.lt_of_le_of_lt (Nat.add_le_add_left (Nat.le_of_ble_eq_true k) d) h
theorem rm2 {d a b n N : Nat} (h : d + n < N) (k : Nat.ble (a + b) n = true) : d + a + b < N := by rw [Nat.add_assoc]; exact rm1 h k
theorem rm3 {d a b c n N : Nat} (h : d + n < N) (k : Nat.ble (a + (b + c)) n = true) : d + a + b + c < N := by rw [Nat.add_assoc (d + a), Nat.add_assoc]; exact rm1 h k
theorem rm4 {d a b c e n N : Nat} (h : d + n < N) (k : Nat.ble (a + (b + (c + e))) n = true) : d + a + b + c + e < N := by rw [Nat.add_assoc (d + a + b), Nat.add_assoc (d + a), Nat.add_assoc]; exact rm1 h k
theorem ltc {a b x : Nat} {P : Prop} (h : x < b ∧ P) (k : x < b ∧ P → a < b) : a ≠ b := Nat.ne_of_lt (k h)
theorem gtc {a b x : Nat} {P : Prop} (h : x < a ∧ P) (k : x < a ∧ P → b < a) : a ≠ b := Nat.ne_of_gt (k h)
theorem nec {a b x : Nat} {P : Prop} (h : x ≠ b ∧ P) (k : x ≠ b ∧ P → a ≠ b) : a ≠ b := k h
theorem nfc {a b x : Nat} {P : Prop} (h : x ≠ a ∧ P) (k : x ≠ a ∧ P → b ≠ a) : a ≠ b := (k h).symm
theorem cjs {P G x : Prop} (k : P → G) (h : x ∧ P) : G := k h.2
theorem lne {a b : Nat} (h : a < b) : a ≠ b := Nat.ne_of_lt h
theorem gne {a b : Nat} (h : b < a) : a ≠ b := Nat.ne_of_gt h
theorem sne {a b : Nat} (h : b ≠ a) : a ≠ b := h.symm
theorem suc {a : Nat} : a ≠ a + 1 := Nat.ne_of_lt (Nat.lt_succ_self a)
theorem suc2 {a : Nat} : a ≠ a + 1 + 1 := Nat.ne_of_lt (Nat.lt_succ_of_lt (Nat.lt_succ_self a))
theorem wd02x3 : True := by
  k_with "eval Name" => ((k_here; (with_reducible show wpAny _ _ (eval _ (envOf _ _ _ _ _)) _ _ _); k_dflt (refine' nmL ?yF ?yv ?yx ?yk ?yd ?_; (case yF => k_asm); (case yk => exact rfl); (case yx => exact rfl); (case yd => exact rfl); (case yv => exact rfl); k_whole)))
  k_with "storeName" => ((k_here; (with_reducible show wpAny _ _ (storeName (envOf _ _ _ _ _) _ _) _ _ _); k_dflt (refine' stoLe ?yF ?yN ?yx ?yk ?_; (case yF => k_asm); (case yN => k_asm); (case yk => exact rfl); (case yx => exact rfl); k_whole; intro m'ω h'ω F'ω N'ω; (try k_sweep))))
  k_with "eval Name" => ((k_here; (with_reducible show wpAny _ _ (eval _ (envOfC _ _ _ _ _)) _ _ _); k_dflt (refine' nmLC ?yF ?yv ?yk ?yx ?yd ?_; (case yF => k_asm); (case yk => exact rfl); (case yx => exact rfl); (case yd => exact rfl); (case yv => exact rfl); k_whole)))
  k_with "storeName" => ((k_here; (with_reducible show wpAny _ _ (storeName (envOfC _ _ _ _ _) _ _) _ _ _); k_dflt (refine' stoLCe ?yF ?yN ?yk ?yx ?_; (case yF => k_asm); (case yN => k_asm); (case yk => exact rfl); (case yx => exact rfl); k_whole; intro m'ω h'ω F'ω N'ω; (try k_sweep))))
  k_with "execs cons" => ((k_here; (first | (with_reducible show wpAny _ _ (execs _ _) (AtF _) _ _) | (refine execs_abs ?_; intro Q8ω q8ω)); k_dflt (refine execs_gen ?_); intro Q7ω t7ω g7ω o7ω; (try dsimp only)))
  k_with "AtF" => ((with_reducible first | refine AtF.go (by assumption) ?_ | (refine AtF.out (by assumption) (fun z => Flow.noConfusion z) ?_) | (refine AtF.fin (by assumption) ?_; (try dsimp only))))
  k_with "room" => (k_dflt (first | exact rm2 (by assumption) rfl | exact rm1 (by assumption) rfl | exact rm3 (by assumption) rfl | exact rm4 (by assumption) rfl | exact rm0 (by assumption)))
  k_with "kne" => ((refine neN ?_; (try dsimp only); k_extra "ne"))
  k_with "cj" => (first | exact And.left | exact id | (refine cjs ?_; k_extra "cj"))
  k_with "ne" => (with_reducible first | assumption | exact lne (by assumption) | exact gne (by assumption) | exact sne (by assumption) | exact suc | exact suc2 | exact sne suc | exact sne suc2 | (refine ltc (by assumption) ?_; k_extra "cj") | (refine gtc (by assumption) ?_; k_extra "cj") | (refine nec (by assumption) ?_; k_extra "cj") | (refine nfc (by assumption) ?_; k_extra "cj"))
  trivial
end
section
theorem wd03x4 : True := by
  k_with_none
  k_with "omega" => (omega (splitDisjunctions := true))
  k_with "om2" => (first | lia | omega (splitDisjunctions := true))
  k_with "eval Name" => ((k_here; (with_reducible show wpAny _ _ (eval _ (envOf _ _ _ _ _)) _ _ _); k_dflt (refine' nmL ?yF ?yv ?yx ?yk ?yd ?_; (case yF => k_asm); (case yk => exact rfl); (case yx => exact rfl); (case yd => exact rfl); (case yv => exact rfl); k_whole)))
  k_with "storeName" => ((k_here; (with_reducible show wpAny _ _ (storeName (envOf _ _ _ _ _) _ _) _ _ _); k_dflt (refine' stoLe ?yF ?yN ?yx ?yk ?_; (case yF => k_asm); (case yN => k_asm); (case yk => exact rfl); (case yx => exact rfl); k_whole; intro m'ω h'ω F'ω N'ω; (try k_sweep))))
  k_with "eval Name" => ((k_here; (with_reducible show wpAny _ _ (eval _ (envOfC _ _ _ _ _)) _ _ _); k_dflt (refine' nmLC ?yF ?yv ?yk ?yx ?yd ?_; (case yF => k_asm); (case yk => exact rfl); (case yx => exact rfl); (case yd => exact rfl); (case yv => exact rfl); k_whole)))
  k_with "storeName" => ((k_here; (with_reducible show wpAny _ _ (storeName (envOfC _ _ _ _ _) _ _) _ _ _); k_dflt (refine' stoLCe ?yF ?yN ?yk ?yx ?_; (case yF => k_asm); (case yN => k_asm); (case yk => exact rfl); (case yx => exact rfl); k_whole; intro m'ω h'ω F'ω N'ω; (try k_sweep))))
  k_with "execs cons" => ((k_here; (first | (with_reducible show wpAny _ _ (execs _ _) (AtF _) _ _) | (refine execs_abs ?_; intro Q8ω q8ω)); k_dflt (refine execs_gen ?_); intro Q7ω t7ω g7ω o7ω; (try dsimp only)))
  k_with "AtF" => ((with_reducible first | refine AtF.go (by assumption) ?_ | (refine AtF.out (by assumption) (fun z => Flow.noConfusion z) ?_) | (refine AtF.fin (by assumption) ?_; (try dsimp only))))
  k_with "room" => (k_dflt (first | exact rm2 (by assumption) rfl | exact rm1 (by assumption) rfl | exact rm3 (by assumption) rfl | exact rm4 (by assumption) rfl | exact rm0 (by assumption)))
  k_with "kne" => ((refine neN ?_; (try dsimp only); k_extra "ne"))
  k_with "cj" => (first | exact And.left | exact id | (refine cjs ?_; k_extra "cj"))
  k_with "ne" => (with_reducible first | assumption | exact lne (by assumption) | exact gne (by assumption) | exact sne (by assumption) | exact suc | exact suc2 | exact sne suc | exact sne suc2 | (refine ltc (by assumption) ?_; k_extra "cj") | (refine gtc (by assumption) ?_; k_extra "cj") | (refine nec (by assumption) ?_; k_extra "cj") | (refine nfc (by assumption) ?_; k_extra "cj"))
  k_with "binaryOp RShift int int" => ((k_here; (with_reducible refine rshift1 ?_)))
  k_with "storeName" => ((k_here; (with_reducible show wpAny _ _ (storeName (envOf _ _ _ _ _) _ _) _ _ _); k_dflt (refine' stoL ?yF ?yN ?yx ?yk ?_; (case yF => k_asm); (case yN => k_asm); (case yk => exact rfl); (case yx => exact rfl); k_whole; intro h'ω F'ω N'ω; (try k_sweep))))
  trivial
def sdG (new : Int) : Nat → List Int → Nat → List Int
  | 0, xs, p => xs.set p new
  | _ + 1, xs, 0 => xs.set 0 new
  | f + 1, xs, p + 1 => if new < xs.getD (p / 2) 0 then sdG new f (xs.set (p + 1) (xs.getD (p / 2) 0)) (p / 2) else xs.set (p + 1) new
def sdL (new : Int) (xs : List Int) (p : Nat) : List Int := sdG new p xs p
theorem sdG_fuel (new : Int) : ∀ (f g : Nat) (xs : List Int) (p : Nat), p ≤ f → p ≤ g → sdG new f xs p = sdG new g xs p
  | 0, 0, _, _, _, _ => rfl
  | 0, _ + 1, _, 0, _, _ => rfl
  | _ + 1, 0, _, 0, _, _ => rfl
  | _ + 1, _ + 1, _, 0, _, _ => rfl
  | f + 1, g + 1, xs, p + 1, h1, h2 => by
    have e := sdG_fuel new f g (xs.set (p + 1) (xs.getD (p / 2) 0)) (p / 2) (Nat.le_trans (Nat.div_le_self p 2) (Nat.le_of_succ_le_succ h1)) (Nat.le_trans (Nat.div_le_self p 2) (Nat.le_of_succ_le_succ h2))
    show (if new < xs.getD (p / 2) 0 then sdG new f (xs.set (p + 1) (xs.getD (p / 2) 0)) (p / 2) else xs.set (p + 1) new) = (if new < xs.getD (p / 2) 0 then sdG new g (xs.set (p + 1) (xs.getD (p / 2) 0)) (p / 2) else xs.set (p + 1) new)
    rw [e]
theorem sd0 (x : Int) (l : List Int) : sdL x l 0 = l.set 0 x := rfl
theorem sd1 (x : Int) (l : List Int) (p : Nat) : sdL x l (p + 1) = if x < l.getD (p / 2) 0 then sdL x (l.set (p + 1) (l.getD (p / 2) 0)) (p / 2) else l.set (p + 1) x := by
  show (if x < l.getD (p / 2) 0 then sdG x p (l.set (p + 1) (l.getD (p / 2) 0)) (p / 2) else l.set (p + 1) x) = _
  rw [sdG_fuel x p (p / 2) _ _ (Nat.div_le_self p 2) (Nat.le_refl _)]; rfl

theorem ia_cast {vs : List Value} {a b : List Int} (h : IntsAre vs a) (e : a = b) : IntsAre vs b := e ▸ h
theorem sdL_step {new : Int} {xs : List Int} {p : Int} (h : 0 < p) (hlt : new < xs.getD ((p - 1) / 2).toNat 0) : sdL new (xs.set p.toNat (xs.getD ((p - 1) / 2).toNat 0)) ((p - 1) / 2).toNat = sdL new xs p.toNat := by
  obtain ⟨q, rfl⟩ : ∃ q : Nat, p = q + 1 := ⟨(p - 1).toNat, by omega⟩
  have e1 : (((q : Int) + 1) - 1) / 2 = ((q / 2 : Nat) : Int) := by omega
  have e2 : ((q : Int) + 1).toNat = q + 1 := by omega
  rw [e1] at hlt ⊢; rw [e2]
  simp only [Int.toNat_natCast] at hlt ⊢
  conv => rhs; rw [sd1]
  rw [if_pos hlt]
theorem sdL_stop {new : Int} {xs : List Int} {p : Int} (h : 0 < p) (hlt : ¬ new < xs.getD ((p - 1) / 2).toNat 0) : xs.set p.toNat new = sdL new xs p.toNat := by
  obtain ⟨q, rfl⟩ : ∃ q : Nat, p = q + 1 := ⟨(p - 1).toNat, by omega⟩
  have e1 : (((q : Int) + 1) - 1) / 2 = ((q / 2 : Nat) : Int) := by omega
  have e2 : ((q : Int) + 1).toNat = q + 1 := by omega
  rw [e1] at hlt; rw [e2]
  simp only [Int.toNat_natCast] at hlt
  conv => rhs; rw [sd1]
  rw [if_neg hlt]
theorem sdL_zero {new : Int} {xs : List Int} {p : Int} (h : ¬ 0 < p) (h0 : 0 ≤ p) : xs.set p.toNat new = sdL new xs p.toNat := by
  obtain rfl : p = 0 := by omega
  show _ = sdL new xs 0
  rfl

theorem half_lt {p : Int} (h : 0 < p) : ((p - 1) / 2).toNat < p.toNat := by omega
theorem c_siftdown {w : World} {mean : ExcName → Option Value} {mg mb : Str → Option Value} {dp un : Nat} {gd : Option (List Code)} {outer : List Env} {base : Heap} {s : Shared} {Q E : Value → Shared → Prop} {l : Addr} {vs : List Value} {ns : List Int} {n : Nat} {pos : Int} {t0 t1 : Tok}
  (B : Below (top dp un gd outer) base outer s.heap) (X : (Kt w.params).In base) (T : Top vw loo mean mg mb base) (H : Has base outer s.heap [(l, listOf vs.toArray n)])
  (hi : IntsAre vs ns) (h0 : 0 ≤ pos) (h1 : pos < ns.length) (hlen : ns.length < 100) (hdp : dp + 1 < recursionLimit) (hun : un + 8 < cLine)
  (hret : ∀ s' vs' n', Ext [l] s s' → s'.heap.get? l = some (listOf vs'.toArray n') → IntsAre vs' (sdL (ns.getD pos.toNat 0) ns pos.toNat) → Q .none s') :
  wpAny (model PySem.Challenge.rw_om0101_01.row.prog w) (top dp un gd outer) (call (.ref 91) [.ref l, .int 0 t0, .int pos t1]) Q E s := by
  revert X; k_fill; intro X
  k_with "state" => exact ⟨by omega, by omega, by omega, (sdL_step (by assumption) (by assumption)).trans (by assumption)⟩
  k_with "measure" => exact half_lt (by assumption)
  k_with "state" => exact ⟨h0, h1, rfl, rfl⟩
  k_with "exec While Compare cons nil" => k_while (fun _ p heap => 0 ≤ p ∧ p < heap.length ∧ heap.length = ns.length ∧ sdL (ns.getD pos.toNat 0) heap p.toNat = sdL (ns.getD pos.toNat 0) ns pos.toNat) (fun _ p _ => p.toNat) "pos" "heap"
  w_strict (
   (refine wpAny_call ?_; (k_dflt (refine' enterN ?k1 ?k2 ?k3 ?k4 ?k6 ?k7 ?k8 ?k9 ?kB ?_ ?c2 ?c3 ?c4 ?c5; (case k1 => k_asm); (case k2 => k_asm); (case k3 => k_asm); (case k4 => first | k_asm | exact Has.nil); (case k6 => k_is); (case k7 => k_is); (case k8 => ktr_room); (case k9 => exact BindsTo.of_eq rfl); (case c5 => decide); (case kB => exact locs rfl); (case c2 => exact rfl); (case c3 => exact rfl); (case c4 => exact rfl); k_whole; intro g' L' h' Q9 t9 q9 FG' F' N' B' X' T' l1; (try k_lt l1); (try dsimp only); (try k_lift B'); (try k_fold))))
   k_steps
   all_goals (refine hret _ _ _ (ext_of FG' (by assumption) rfl id) (News.get (by assumption) (.head _)) (ia_cast (by assumption) (Eq.trans ?_ (by assumption))); first | exact sdL_zero (by omega) (by assumption) | exact sdL_stop (by assumption) (by omega)))
end
section
theorem wd04x5 : True := by
  k_with_none
  k_with "omega" => (first | lia | omega (splitDisjunctions := true))
  k_with "om2" => (first | lia | omega (splitDisjunctions := true))
  k_with "eval Name" => ((k_here; (with_reducible show wpAny _ _ (eval _ (envOf _ _ _ _ _)) _ _ _); k_dflt (refine' nmL ?yF ?yv ?yx ?yk ?yd ?_; (case yF => k_asm); (case yk => exact rfl); (case yx => exact rfl); (case yd => exact rfl); (case yv => exact rfl); k_whole)))
  k_with "storeName" => ((k_here; (with_reducible show wpAny _ _ (storeName (envOf _ _ _ _ _) _ _) _ _ _); k_dflt (refine' stoLe ?yF ?yN ?yx ?yk ?_; (case yF => k_asm); (case yN => k_asm); (case yk => exact rfl); (case yx => exact rfl); k_whole; intro m'ω h'ω F'ω N'ω; (try k_sweep))))
  k_with "eval Name" => ((k_here; (with_reducible show wpAny _ _ (eval _ (envOfC _ _ _ _ _)) _ _ _); k_dflt (refine' nmLC ?yF ?yv ?yk ?yx ?yd ?_; (case yF => k_asm); (case yk => exact rfl); (case yx => exact rfl); (case yd => exact rfl); (case yv => exact rfl); k_whole)))
  k_with "storeName" => ((k_here; (with_reducible show wpAny _ _ (storeName (envOfC _ _ _ _ _) _ _) _ _ _); k_dflt (refine' stoLCe ?yF ?yN ?yk ?yx ?_; (case yF => k_asm); (case yN => k_asm); (case yk => exact rfl); (case yx => exact rfl); k_whole; intro m'ω h'ω F'ω N'ω; (try k_sweep))))
  k_with "execs cons" => ((k_here; (first | (with_reducible show wpAny _ _ (execs _ _) (AtF _) _ _) | (refine execs_abs ?_; intro Q8ω q8ω)); k_dflt (refine execs_gen ?_); intro Q7ω t7ω g7ω o7ω; (try dsimp only)))
  k_with "AtF" => ((with_reducible first | refine AtF.go (by assumption) ?_ | (refine AtF.out (by assumption) (fun z => Flow.noConfusion z) ?_) | (refine AtF.fin (by assumption) ?_; (try dsimp only))))
  k_with "room" => (k_dflt (first | exact rm2 (by assumption) rfl | exact rm1 (by assumption) rfl | exact rm3 (by assumption) rfl | exact rm4 (by assumption) rfl | exact rm0 (by assumption)))
  k_with "kne" => ((refine neN ?_; (try dsimp only); k_extra "ne"))
  k_with "cj" => (first | exact And.left | exact id | (refine cjs ?_; k_extra "cj"))
  k_with "ne" => (with_reducible first | assumption | exact lne (by assumption) | exact gne (by assumption) | exact sne (by assumption) | exact suc | exact suc2 | exact sne suc | exact sne suc2 | (refine ltc (by assumption) ?_; k_extra "cj") | (refine gtc (by assumption) ?_; k_extra "cj") | (refine nec (by assumption) ?_; k_extra "cj") | (refine nfc (by assumption) ?_; k_extra "cj"))
  k_with "binaryOp RShift int int" => ((k_here; (with_reducible refine rshift1 ?_)))
  k_with "call ref" => ((k_here; (with_reducible show wpAny _ _ (call (Value.ref 91) _) _ _ _); k_dflt (refine' c_siftdown ?k1 ?k2 ?k3 ?k4 ?k5 ?k6 ?k7 ?k8 ?k9 ?k10 ?_; (case k1 => refine' pushT ?p1 ?p2 ?p3 ?p4; (case p1 => k_asm); (case p2 => k_asm); (case p3 => exact rfl); (case p4 => exact rfl)); (case k2 => k_asm); (case k3 => k_asm); (case k4 => refine has_of (by k_asm) (by k_asm) rfl (List.forall_mem_singleton.mpr ?m); (case m => k_mem)); (case k5 => l_ints); (case k6 => omega); (case k7 => first | omega | (simp only [List.length_set, List.length_append, List.length_cons, List.length_nil]; omega)); (case k8 => first | omega | (simp only [List.length_set, List.length_append, List.length_cons, List.length_nil]; omega)); (case k9 => ktr_room); (case k10 => ktr_units); k_whole; (intro s'ω vs'ω n'ω hEω hgω hi'ω; have F9ω := back_fr (by k_asm) (by k_asm) hEω (List.forall_mem_singleton.mpr ⟨_, by k_mem⟩); have N9ω := back_news1 (by k_asm) hEω (by k_upd) hgω; (try k_sweep); (try dsimp only)))))
  k_with "storeName" => ((k_here; (with_reducible show wpAny _ _ (storeName (envOf _ _ _ _ _) _ _) _ _ _); k_dflt (refine' stoL ?yF ?yN ?yx ?yk ?_; (case yF => k_asm); (case yN => k_asm); (case yk => exact rfl); (case yx => exact rfl); k_whole; intro h'ω F'ω N'ω; (try k_sweep))))
  trivial
def suG : Nat → List Int → Nat → List Int × Nat
  | 0, xs, p => (xs, p)
  | f + 1, xs, p =>
    if 2 * p + 1 < xs.length then
      if 2 * p + 2 < xs.length ∧ ¬ xs.getD (2 * p + 1) 0 < xs.getD (2 * p + 2) 0 then suG f (xs.set p (xs.getD (2 * p + 2) 0)) (2 * p + 2)
      else suG f (xs.set p (xs.getD (2 * p + 1) 0)) (2 * p + 1)
    else (xs, p)
def suL (xs : List Int) (p : Nat) : List Int × Nat := suG (xs.length - p) xs p
theorem suG_end {f : Nat} {xs : List Int} {p : Nat} (h : ¬ 2 * p + 1 < xs.length) : suG f xs p = (xs, p) := by
  cases f with
  | zero => rfl
  | succ f => exact if_neg h
theorem suG_fuel : ∀ (f g : Nat) (xs : List Int) (p : Nat), xs.length - p ≤ f → xs.length - p ≤ g → suG f xs p = suG g xs p
  | 0, g, xs, p, h, _ => by rw [suG_end (by omega), suG_end (by omega)]
  | f + 1, 0, xs, p, _, h => by rw [suG_end (by omega), suG_end (by omega)]
  | f + 1, g + 1, xs, p, h1, h2 => by
    by_cases q : 2 * p + 1 < xs.length
    · have e1 := suG_fuel f g (xs.set p (xs.getD (2 * p + 2) 0)) (2 * p + 2) (by rw [List.length_set]; omega) (by rw [List.length_set]; omega)
      have e2 := suG_fuel f g (xs.set p (xs.getD (2 * p + 1) 0)) (2 * p + 1) (by rw [List.length_set]; omega) (by rw [List.length_set]; omega)
      simp only [suG, e1, e2]
    · rw [suG_end q, suG_end q]
theorem suL_eq (xs : List Int) (p : Nat) : suL xs p = if 2 * p + 1 < xs.length then (if 2 * p + 2 < xs.length ∧ ¬ xs.getD (2 * p + 1) 0 < xs.getD (2 * p + 2) 0 then suL (xs.set p (xs.getD (2 * p + 2) 0)) (2 * p + 2) else suL (xs.set p (xs.getD (2 * p + 1) 0)) (2 * p + 1)) else (xs, p) := by
  by_cases q : 2 * p + 1 < xs.length
  · obtain ⟨k, hk⟩ : ∃ k, xs.length - p = k + 1 := ⟨xs.length - p - 1, by omega⟩
    have e1 := suG_fuel k (xs.length - (2 * p + 2)) (xs.set p (xs.getD (2 * p + 2) 0)) (2 * p + 2) (by rw [List.length_set]; omega) (by rw [List.length_set]; omega)
    have e2 := suG_fuel k (xs.length - (2 * p + 1)) (xs.set p (xs.getD (2 * p + 1) 0)) (2 * p + 1) (by rw [List.length_set]; omega) (by rw [List.length_set]; omega)
    simp only [suL, hk, suG, List.length_set, e1, e2]
  · rw [suL, suG_end q, if_neg q]

theorem su_0 {xs : List Int} {p c : Int} (h0 : 0 ≤ p) (e : c = 2 * p + 1) (hl : ¬ c < xs.length) : suL xs p.toNat = (xs, p.toNat) := by
  obtain ⟨q, rfl⟩ : ∃ q : Nat, p = q := ⟨p.toNat, by omega⟩
  rw [suL_eq, if_neg (by simp only [Int.toNat_natCast]; omega)]
theorem su_a {xs : List Int} {p c : Int} (h0 : 0 ≤ p) (e : c = 2 * p + 1) (hl : c < xs.length) (hr : ¬ c + 1 < xs.length) : suL (xs.set p.toNat (xs.getD c.toNat 0)) c.toNat = suL xs p.toNat := by
  obtain ⟨q, rfl⟩ : ∃ q : Nat, p = q := ⟨p.toNat, by omega⟩
  obtain rfl : c = ((2 * q + 1 : Nat) : Int) := by omega
  simp only [Int.toNat_natCast]
  conv => rhs; rw [suL_eq, if_pos (by omega), if_neg (by omega)]
theorem su_b {xs : List Int} {p c : Int} (h0 : 0 ≤ p) (e : c = 2 * p + 1) (hr : c + 1 < xs.length) (hn : ¬ xs.getD c.toNat 0 < xs.getD (c + 1).toNat 0) : suL (xs.set p.toNat (xs.getD (c + 1).toNat 0)) (c + 1).toNat = suL xs p.toNat := by
  obtain ⟨q, rfl⟩ : ∃ q : Nat, p = q := ⟨p.toNat, by omega⟩
  obtain rfl : c = ((2 * q + 1 : Nat) : Int) := by omega
  have e2 : (((2 * q + 1 : Nat) : Int) + 1).toNat = 2 * q + 2 := by omega
  rw [e2] at hn ⊢
  simp only [Int.toNat_natCast] at hn ⊢
  conv => rhs; rw [suL_eq, if_pos (by omega), if_pos ⟨by omega, hn⟩]
theorem su_c {xs : List Int} {p c : Int} (h0 : 0 ≤ p) (e : c = 2 * p + 1) (hl : c < xs.length) (hn : xs.getD c.toNat 0 < xs.getD (c + 1).toNat 0) : suL (xs.set p.toNat (xs.getD c.toNat 0)) c.toNat = suL xs p.toNat := by
  obtain ⟨q, rfl⟩ : ∃ q : Nat, p = q := ⟨p.toNat, by omega⟩
  obtain rfl : c = ((2 * q + 1 : Nat) : Int) := by omega
  have e2 : (((2 * q + 1 : Nat) : Int) + 1).toNat = 2 * q + 2 := by omega
  rw [e2] at hn
  simp only [Int.toNat_natCast] at hn ⊢
  conv => rhs; rw [suL_eq, if_pos (by omega), if_neg (fun h => h.2 hn)]

def suF (ns : List Int) : List Int := sdL (ns.getD 0 0) ((suL ns 0).1.set (suL ns 0).2 (ns.getD 0 0)) (suL ns 0).2

theorem su_end {xs ns : List Int} {p c : Int} (h0 : 0 ≤ p) (hp : p < xs.length) (e : c = 2 * p + 1) (hl : ¬ c < xs.length) (r : suL xs p.toNat = suL ns 0) :
    sdL ((xs.set p.toNat (ns.getD 0 0)).getD p.toNat 0) (xs.set p.toNat (ns.getD 0 0)) p.toNat = suF ns := by
  rw [su_0 h0 e hl] at r
  unfold suF
  rw [← r]
  have : (xs.set p.toNat (ns.getD 0 0)).getD p.toNat 0 = ns.getD 0 0 := by
    rw [List.getD_eq_getElem?_getD, List.getElem?_set_self (by omega)]; rfl
  rw [this]

theorem left_lt {n : Nat} {p c : Int} (h0 : 0 ≤ p) (hp : p < n) (hc : p < c) : n - c.toNat < n - p.toNat := by omega
theorem c_siftup {w : World} {mean : ExcName → Option Value} {mg mb : Str → Option Value} {dp un : Nat} {gd : Option (List Code)} {outer : List Env} {base : Heap} {s : Shared} {Q E : Value → Shared → Prop} {l : Addr} {vs : List Value} {ns : List Int} {n : Nat} {t0 : Tok}
  (B : Below (top dp un gd outer) base outer s.heap) (X : (Kt w.params).In base) (T : Top vw loo mean mg mb base) (H : Has base outer s.heap [(l, listOf vs.toArray n)])
  (hi : IntsAre vs ns) (h1 : 0 < ns.length) (hlen : ns.length < 100) (hdp : dp + 2 < recursionLimit) (hun : un + 16 < cLine)
  (hret : ∀ s' vs' n', Ext [l] s s' → s'.heap.get? l = some (listOf vs'.toArray n') → IntsAre vs' (suF ns) → Q .none s') :
  wpAny (model PySem.Challenge.rw_om0101_01.row.prog w) (top dp un gd outer) (call (.ref 98) [.ref l, .int 0 t0]) Q E s := by
  revert X; k_fill; intro X
  k_with "state" => exact ⟨by omega, by omega, by omega, by omega, (su_a (by assumption) (by assumption) (by omega) (by omega)).trans (by assumption)⟩
  k_with "state" => exact ⟨by omega, by omega, by omega, by omega, (su_b (by assumption) (by assumption) (by omega) (by omega)).trans (by assumption)⟩
  k_with "state" => exact ⟨by omega, by omega, by omega, by omega, (su_c (by assumption) (by assumption) (by omega) (by omega)).trans (by assumption)⟩
  k_with "measure" => exact left_lt (by assumption) (by omega) (by omega)
  k_with "state" => exact ⟨by decide, by omega, rfl, rfl, rfl⟩
  k_with "exec While Compare cons nil" => k_while (fun _ p c heap => 0 ≤ p ∧ p < heap.length ∧ heap.length = ns.length ∧ c = 2 * p + 1 ∧ suL heap p.toNat = suL ns 0) (fun _ p _ _ => ns.length - p.toNat) "pos" "childpos" "heap"
  w_strict (
   (refine wpAny_call ?_; (k_dflt (refine' enterN ?k1 ?k2 ?k3 ?k4 ?k6 ?k7 ?k8 ?k9 ?kB ?_ ?c2 ?c3 ?c4 ?c5; (case k1 => k_asm); (case k2 => k_asm); (case k3 => k_asm); (case k4 => first | k_asm | exact Has.nil); (case k6 => k_is); (case k7 => k_is); (case k8 => ktr_room); (case k9 => exact BindsTo.of_eq rfl); (case c5 => decide); (case kB => exact locs rfl); (case c2 => exact rfl); (case c3 => exact rfl); (case c4 => exact rfl); k_whole; intro g' L' h' Q9 t9 q9 FG' F' N' B' X' T' l1; (try k_lt l1); (try dsimp only); (try k_lift B'); (try k_fold))))
   k_steps
   all_goals (refine hret _ _ _ (ext_after FG' (by assumption) (by assumption) (by exact rfl) (by exact id)) (by assumption) (ia_cast (by assumption) (su_end (by assumption) (by assumption) (by assumption) (by omega) (by assumption)))))
end
section
theorem wd05x6 : True := by
  k_with_none
  k_with "omega" => (first | lia | omega (splitDisjunctions := true))
  k_with "om2" => (first | lia | omega (splitDisjunctions := true))
  k_with "eval Name" => ((k_here; (with_reducible show wpAny _ _ (eval _ (envOf _ _ _ _ _)) _ _ _); k_dflt (refine' nmL ?yF ?yv ?yx ?yk ?yd ?_; (case yF => k_asm); (case yk => exact rfl); (case yx => exact rfl); (case yd => exact rfl); (case yv => exact rfl); k_whole)))
  k_with "storeName" => ((k_here; (with_reducible show wpAny _ _ (storeName (envOf _ _ _ _ _) _ _) _ _ _); k_dflt (refine' stoLe ?yF ?yN ?yx ?yk ?_; (case yF => k_asm); (case yN => k_asm); (case yk => exact rfl); (case yx => exact rfl); k_whole; intro m'ω h'ω F'ω N'ω; (try k_sweep))))
  k_with "eval Name" => ((k_here; (with_reducible show wpAny _ _ (eval _ (envOfC _ _ _ _ _)) _ _ _); k_dflt (refine' nmLC ?yF ?yv ?yk ?yx ?yd ?_; (case yF => k_asm); (case yk => exact rfl); (case yx => exact rfl); (case yd => exact rfl); (case yv => exact rfl); k_whole)))
  k_with "storeName" => ((k_here; (with_reducible show wpAny _ _ (storeName (envOfC _ _ _ _ _) _ _) _ _ _); k_dflt (refine' stoLCe ?yF ?yN ?yk ?yx ?_; (case yF => k_asm); (case yN => k_asm); (case yk => exact rfl); (case yx => exact rfl); k_whole; intro m'ω h'ω F'ω N'ω; (try k_sweep))))
  k_with "execs cons" => ((k_here; (first | (with_reducible show wpAny _ _ (execs _ _) (AtF _) _ _) | (refine execs_abs ?_; intro Q8ω q8ω)); k_dflt (refine execs_gen ?_); intro Q7ω t7ω g7ω o7ω; (try dsimp only)))
  k_with "AtF" => ((with_reducible first | refine AtF.go (by assumption) ?_ | (refine AtF.out (by assumption) (fun z => Flow.noConfusion z) ?_) | (refine AtF.fin (by assumption) ?_; (try dsimp only))))
  k_with "room" => (k_dflt (first | exact rm2 (by assumption) rfl | exact rm1 (by assumption) rfl | exact rm3 (by assumption) rfl | exact rm4 (by assumption) rfl | exact rm0 (by assumption)))
  k_with "kne" => ((refine neN ?_; (try dsimp only); k_extra "ne"))
  k_with "cj" => (first | exact And.left | exact id | (refine cjs ?_; k_extra "cj"))
  k_with "ne" => (with_reducible first | assumption | exact lne (by assumption) | exact gne (by assumption) | exact sne (by assumption) | exact suc | exact suc2 | exact sne suc | exact sne suc2 | (refine ltc (by assumption) ?_; k_extra "cj") | (refine gtc (by assumption) ?_; k_extra "cj") | (refine nec (by assumption) ?_; k_extra "cj") | (refine nfc (by assumption) ?_; k_extra "cj"))
  k_with "binaryOp RShift int int" => ((k_here; (with_reducible refine rshift1 ?_)))
  k_with "call ref" => ((k_here; (with_reducible show wpAny _ _ (call (Value.ref 91) _) _ _ _); k_dflt (refine' c_siftdown ?k1 ?k2 ?k3 ?k4 ?k5 ?k6 ?k7 ?k8 ?k9 ?k10 ?_; (case k1 => refine' pushT ?p1 ?p2 ?p3 ?p4; (case p1 => k_asm); (case p2 => k_asm); (case p3 => exact rfl); (case p4 => exact rfl)); (case k2 => k_asm); (case k3 => k_asm); (case k4 => refine has_of (by k_asm) (by k_asm) rfl (List.forall_mem_singleton.mpr ?m); (case m => k_mem)); (case k5 => l_ints); (case k6 => omega); (case k7 => first | omega | (simp only [List.length_set, List.length_append, List.length_cons, List.length_nil]; omega)); (case k8 => first | omega | (simp only [List.length_set, List.length_append, List.length_cons, List.length_nil]; omega)); (case k9 => ktr_room); (case k10 => ktr_units); k_whole; (intro s'ω vs'ω n'ω hEω hgω hi'ω; have F9ω := back_fr (by k_asm) (by k_asm) hEω (List.forall_mem_singleton.mpr ⟨_, by k_mem⟩); have N9ω := back_news1 (by k_asm) hEω (by k_upd) hgω; (try k_sweep); (try dsimp only)))))
  trivial
theorem truthy_ints {prog : Program} {w : World} {A : Around} {E : Value → Shared → Prop} {s : Shared} {h₀ : Heap} {L : Addr} {news : List (Addr × Obj)} {a : Addr} {vs : List Value} {ns : List Int} {n : Nat} {Q : Bool → Shared → Prop}
    (N : News h₀ L s.heap news) (hm : (a, listOf vs.toArray n) ∈ news) (hi : IntsAre vs ns) (hfit : ns.length < 2 ^ 62)
    (h : Q (decide (0 < ns.length)) { s with toks := s.toks + 1 + 1 }) : wpAny (model prog w) A (truthy (.ref a)) Q E s := by
  refine kgr_truthy N hm rfl rfl (by rw [IntsAre.length hi]; exact hfit) ?_
  have e : (!vs.isEmpty) = decide (0 < ns.length) := by
    rw [← IntsAre.length hi]; cases vs <;> simp
  rw [e]; exact h
theorem wd05x7 : True := by
  k_with "truthy ref" => ((k_here; (with_reducible show wpAny _ _ (truthy (Value.ref _)) _ _ _); k_dflt (refine' truthy_ints ?k1 ?k2 ?k3 ?k4 ?_; (case k1 => k_asm); (case k2 => k_mem); (case k3 => l_ints); (case k4 => first | omega | (simp only [List.length_set, List.length_dropLast, List.length_append, List.length_cons, List.length_nil]; omega)); k_whole)))
  k_with "call ref" => ((k_here; (with_reducible show wpAny _ _ (call (Value.ref 98) _) _ _ _); k_dflt (refine' c_siftup ?k1 ?k2 ?k3 ?k4 ?k5 ?k6 ?k7 ?k8 ?k9 ?_; (case k1 => refine' pushT ?p1 ?p2 ?p3 ?p4; (case p1 => k_asm); (case p2 => k_asm); (case p3 => exact rfl); (case p4 => exact rfl)); (case k2 => k_asm); (case k3 => k_asm); (case k4 => refine has_of (by k_asm) (by k_asm) rfl (List.forall_mem_singleton.mpr ?m); (case m => k_mem)); (case k5 => l_ints); (case k6 => first | omega | (simp only [List.length_set, List.length_dropLast]; omega)); (case k7 => first | omega | (simp only [List.length_set, List.length_dropLast]; omega)); (case k8 => ktr_room); (case k9 => ktr_units); k_whole; (intro s'ω vs'ω n'ω hEω hgω hi'ω; have F9ω := back_fr (by k_asm) (by k_asm) hEω (List.forall_mem_singleton.mpr ⟨_, by k_mem⟩); have N9ω := back_news1 (by k_asm) hEω (by k_upd) hgω; (try k_sweep); (try dsimp only)))))
  trivial
theorem c_heappush {w : World} {mean : ExcName → Option Value} {mg mb : Str → Option Value} {dp un : Nat} {gd : Option (List Code)} {outer : List Env} {base : Heap} {s : Shared} {Q E : Value → Shared → Prop} {l : Addr} {vs : List Value} {ns : List Int} {n : Nat} {x : Int} {t : Tok} (B : Below (top dp un gd outer) base outer s.heap) (X : (Kt w.params).In base) (T : Top vw loo mean mg mb base) (H : Has base outer s.heap [(l, listOf vs.toArray n)])
  (hi : IntsAre vs ns) (hlen : ns.length < 50) (hdp : dp + 3 < recursionLimit) (hun : un + 24 < cLine)
  (hret : ∀ s' vs' n', Ext [l] s s' → s'.heap.get? l = some (listOf vs'.toArray n') → IntsAre vs' (sdL x (ns ++ [x]) ns.length) → Q .none s') :
  wpAny (model PySem.Challenge.rw_om0101_01.row.prog w) (top dp un gd outer) (call (.ref 49) [.ref l, .int x t]) Q E s := by
  revert X; k_fill; intro X
  have hvl := IntsAre.length hi
  w_strict (
   (refine wpAny_call ?_; (k_dflt (refine' enterN ?k1 ?k2 ?k3 ?k4 ?k6 ?k7 ?k8 ?k9 ?kB ?_ ?c2 ?c3 ?c4 ?c5; (case k1 => k_asm); (case k2 => k_asm); (case k3 => k_asm); (case k4 => first | k_asm | exact Has.nil); (case k6 => k_is); (case k7 => k_is); (case k8 => ktr_room); (case k9 => exact BindsTo.of_eq rfl); (case c5 => decide); (case kB => exact locs rfl); (case c2 => exact rfl); (case c3 => exact rfl); (case c4 => exact rfl); k_whole; intro g' L' h' Q9 t9 q9 FG' F' N' B' X' T' l1; (try k_lt l1); (try dsimp only); (try k_lift B'); (try k_fold))))
   k_steps
   all_goals (refine hret _ _ _ (ext_after FG' (by assumption) (by assumption) (by exact rfl) (by exact id)) (by assumption) (ia_cast (by assumption) ?_); rw [show ((((ns.length + 1 : Nat) : Int)) - 1).toNat = ns.length from by omega]; simp))
theorem c_heapreplace {w : World} {mean : ExcName → Option Value} {mg mb : Str → Option Value} {dp un : Nat} {gd : Option (List Code)} {outer : List Env} {base : Heap} {s : Shared} {Q E : Value → Shared → Prop} {l : Addr} {vs : List Value} {ns : List Int} {n : Nat} {x : Int} {t : Tok} (B : Below (top dp un gd outer) base outer s.heap) (X : (Kt w.params).In base) (T : Top vw loo mean mg mb base) (H : Has base outer s.heap [(l, listOf vs.toArray n)])
  (hi : IntsAre vs ns) (h0 : 0 < ns.length) (hlen : ns.length < 50) (hdp : dp + 3 < recursionLimit) (hun : un + 24 < cLine)
  (hret : ∀ s' vs' n' t', Ext [l] s s' → s'.heap.get? l = some (listOf vs'.toArray n') → IntsAre vs' (suF (ns.set 0 x)) → Q (.int (ns.getD 0 0) t') s') :
  wpAny (model PySem.Challenge.rw_om0101_01.row.prog w) (top dp un gd outer) (call (.ref 63) [.ref l, .int x t]) Q E s := by
  revert X; k_fill; intro X
  have hvl := IntsAre.length hi
  w_strict (
   (refine wpAny_call ?_; (k_dflt (refine' enterN ?k1 ?k2 ?k3 ?k4 ?k6 ?k7 ?k8 ?k9 ?kB ?_ ?c2 ?c3 ?c4 ?c5; (case k1 => k_asm); (case k2 => k_asm); (case k3 => k_asm); (case k4 => first | k_asm | exact Has.nil); (case k6 => k_is); (case k7 => k_is); (case k8 => ktr_room); (case k9 => exact BindsTo.of_eq rfl); (case c5 => decide); (case kB => exact locs rfl); (case c2 => exact rfl); (case c3 => exact rfl); (case c4 => exact rfl); k_whole; intro g' L' h' Q9 t9 q9 FG' F' N' B' X' T' l1; (try k_lt l1); (try dsimp only); (try k_lift B'); (try k_fold))))
   k_steps
   all_goals ((try dsimp only); exact hret _ _ _ _ (ext_after FG' (by assumption) (by assumption) (by exact rfl) (by exact id)) (by assumption) (by assumption)))
theorem c_heappushpop {w : World} {mean : ExcName → Option Value} {mg mb : Str → Option Value} {dp un : Nat} {gd : Option (List Code)} {outer : List Env} {base : Heap} {s : Shared} {Q E : Value → Shared → Prop} {l : Addr} {vs : List Value} {ns : List Int} {n : Nat} {x : Int} {t : Tok} (B : Below (top dp un gd outer) base outer s.heap) (X : (Kt w.params).In base) (T : Top vw loo mean mg mb base) (H : Has base outer s.heap [(l, listOf vs.toArray n)])
  (hi : IntsAre vs ns) (hlen : ns.length < 50) (hdp : dp + 3 < recursionLimit) (hun : un + 24 < cLine)
  (hret : ∀ s' vs' n' t', Ext [l] s s' → s'.heap.get? l = some (listOf vs'.toArray n') → IntsAre vs' (if 0 < ns.length ∧ ns.getD 0 0 < x then suF (ns.set 0 x) else ns) → Q (.int (if 0 < ns.length ∧ ns.getD 0 0 < x then ns.getD 0 0 else x) t') s') :
  wpAny (model PySem.Challenge.rw_om0101_01.row.prog w) (top dp un gd outer) (call (.ref 70) [.ref l, .int x t]) Q E s := by
  revert X; k_fill; intro X
  have hvl := IntsAre.length hi
  w_strict (
   (refine wpAny_call ?_; (k_dflt (refine' enterN ?k1 ?k2 ?k3 ?k4 ?k6 ?k7 ?k8 ?k9 ?kB ?_ ?c2 ?c3 ?c4 ?c5; (case k1 => k_asm); (case k2 => k_asm); (case k3 => k_asm); (case k4 => first | k_asm | exact Has.nil); (case k6 => k_is); (case k7 => k_is); (case k8 => ktr_room); (case k9 => exact BindsTo.of_eq rfl); (case c5 => decide); (case kB => exact locs rfl); (case c2 => exact rfl); (case c3 => exact rfl); (case c4 => exact rfl); k_whole; intro g' L' h' Q9 t9 q9 FG' F' N' B' X' T' l1; (try k_lt l1); (try dsimp only); (try k_lift B'); (try k_fold))))
   k_steps
   all_goals (try dsimp only)
   · have hc : 0 < ns.length ∧ ns.getD 0 0 < x := ⟨by omega, by assumption⟩
     simp only [hc, and_self, if_true] at hret
     exact hret _ _ _ _ (ext_after FG' (by assumption) (by assumption) (by exact rfl) (by exact id)) (by assumption) (by assumption)
   all_goals (
     have hc : ¬ (0 < ns.length ∧ ns.getD 0 0 < x) := fun q => by first | exact absurd q.2 (by assumption) | omega
     simp only [hc, if_false] at hret
     exact hret _ _ _ _ (ext_of FG' (by assumption) (by exact rfl) (by exact id)) (News.get (by assumption) (.head _)) (by assumption)))
theorem c_heappop {w : World} {mean : ExcName → Option Value} {mg mb : Str → Option Value} {dp un : Nat} {gd : Option (List Code)} {outer : List Env} {base : Heap} {s : Shared} {Q E : Value → Shared → Prop} {l : Addr} {vs : List Value} {ns : List Int} {n : Nat} (B : Below (top dp un gd outer) base outer s.heap) (X : (Kt w.params).In base) (T : Top vw loo mean mg mb base) (H : Has base outer s.heap [(l, listOf vs.toArray n)])
  (hi : IntsAre vs ns) (h0 : 0 < ns.length) (hlen : ns.length < 50) (hdp : dp + 3 < recursionLimit) (hun : un + 24 < cLine)
  (hret : ∀ s' vs' n' t', Ext [l] s s' → s'.heap.get? l = some (listOf vs'.toArray n') → IntsAre vs' (if 1 < ns.length then suF (ns.dropLast.set 0 (ns.getLastD 0)) else []) → Q (.int (if 1 < ns.length then ns.getD 0 0 else ns.getLastD 0) t') s') :
  wpAny (model PySem.Challenge.rw_om0101_01.row.prog w) (top dp un gd outer) (call (.ref 56) [.ref l]) Q E s := by
  revert X; k_fill; intro X
  have hvl := IntsAre.length hi
  w_strict (
   (refine wpAny_call ?_; (k_dflt (refine' enterN ?k1 ?k2 ?k3 ?k4 ?k6 ?k7 ?k8 ?k9 ?kB ?_ ?c2 ?c3 ?c4 ?c5; (case k1 => k_asm); (case k2 => k_asm); (case k3 => k_asm); (case k4 => first | k_asm | exact Has.nil); (case k6 => k_is); (case k7 => k_is); (case k8 => ktr_room); (case k9 => exact BindsTo.of_eq rfl); (case c5 => decide); (case kB => exact locs rfl); (case c2 => exact rfl); (case c3 => exact rfl); (case c4 => exact rfl); k_whole; intro g' L' h' Q9 t9 q9 FG' F' N' B' X' T' l1; (try k_lt l1); (try dsimp only); (try k_lift B'); (try k_fold))))
   k_steps
   all_goals (try dsimp only)
   · have hc : 1 < ns.length := by simp only [List.length_dropLast] at *; omega
     simp only [hc, if_true] at hret
     have e : ns.dropLast.getD 0 0 = ns.getD 0 0 := by
       match ns, hc with
       | _ :: _ :: _, _ => rfl
     exact e ▸ hret _ _ _ _ (ext_after FG' (by assumption) (by assumption) (by exact rfl) (by exact id)) (by assumption) (by assumption)
   · have hc : ¬ 1 < ns.length := by simp only [List.length_dropLast] at *; omega
     simp only [hc, if_false] at hret
     refine hret _ _ _ _ (ext_of FG' (by assumption) (by exact rfl) (by exact id)) (News.get (by assumption) (.head _)) (ia_cast (by assumption) ?_)
     match ns, h0, hc with
     | [_], _, _ => rfl
     | _ :: _ :: _, _, hc => exact absurd (by simp) hc)
end
section
theorem wd06x8 : True := by
  k_with_none
  k_with "omega" => (first | lia | omega (splitDisjunctions := true))
  k_with "om2" => (first | lia | omega (splitDisjunctions := true))
  k_with "eval Name" => ((k_here; (with_reducible show wpAny _ _ (eval _ (envOf _ _ _ _ _)) _ _ _); k_dflt (refine' nmL ?yF ?yv ?yx ?yk ?yd ?_; (case yF => k_asm); (case yk => exact rfl); (case yx => exact rfl); (case yd => exact rfl); (case yv => exact rfl); k_whole)))
  k_with "storeName" => ((k_here; (with_reducible show wpAny _ _ (storeName (envOf _ _ _ _ _) _ _) _ _ _); k_dflt (refine' stoLe ?yF ?yN ?yx ?yk ?_; (case yF => k_asm); (case yN => k_asm); (case yk => exact rfl); (case yx => exact rfl); k_whole; intro m'ω h'ω F'ω N'ω; (try k_sweep))))
  k_with "eval Name" => ((k_here; (with_reducible show wpAny _ _ (eval _ (envOfC _ _ _ _ _)) _ _ _); k_dflt (refine' nmLC ?yF ?yv ?yk ?yx ?yd ?_; (case yF => k_asm); (case yk => exact rfl); (case yx => exact rfl); (case yd => exact rfl); (case yv => exact rfl); k_whole)))
  k_with "storeName" => ((k_here; (with_reducible show wpAny _ _ (storeName (envOfC _ _ _ _ _) _ _) _ _ _); k_dflt (refine' stoLCe ?yF ?yN ?yk ?yx ?_; (case yF => k_asm); (case yN => k_asm); (case yk => exact rfl); (case yx => exact rfl); k_whole; intro m'ω h'ω F'ω N'ω; (try k_sweep))))
  k_with "execs cons" => ((k_here; (first | (with_reducible show wpAny _ _ (execs _ _) (AtF _) _ _) | (refine execs_abs ?_; intro Q8ω q8ω)); k_dflt (refine execs_gen ?_); intro Q7ω t7ω g7ω o7ω; (try dsimp only)))
  k_with "AtF" => ((with_reducible first | refine AtF.go (by assumption) ?_ | (refine AtF.out (by assumption) (fun z => Flow.noConfusion z) ?_) | (refine AtF.fin (by assumption) ?_; (try dsimp only))))
  k_with "room" => (k_dflt (first | exact rm2 (by assumption) rfl | exact rm1 (by assumption) rfl | exact rm3 (by assumption) rfl | exact rm4 (by assumption) rfl | exact rm0 (by assumption)))
  k_with "kne" => ((refine neN ?_; (try dsimp only); k_extra "ne"))
  k_with "cj" => (first | exact And.left | exact id | (refine cjs ?_; k_extra "cj"))
  k_with "ne" => (with_reducible first | assumption | exact lne (by assumption) | exact gne (by assumption) | exact sne (by assumption) | exact suc | exact suc2 | exact sne suc | exact sne suc2 | (refine ltc (by assumption) ?_; k_extra "cj") | (refine gtc (by assumption) ?_; k_extra "cj") | (refine nec (by assumption) ?_; k_extra "cj") | (refine nfc (by assumption) ?_; k_extra "cj"))
  k_with "binaryOp RShift int int" => ((k_here; (with_reducible refine rshift1 ?_)))
  k_with "call ref" => ((k_here; (with_reducible show wpAny _ _ (call (Value.ref 91) _) _ _ _); k_dflt (refine' c_siftdown ?k1 ?k2 ?k3 ?k4 ?k5 ?k6 ?k7 ?k8 ?k9 ?k10 ?_; (case k1 => refine' pushT ?p1 ?p2 ?p3 ?p4; (case p1 => k_asm); (case p2 => k_asm); (case p3 => exact rfl); (case p4 => exact rfl)); (case k2 => k_asm); (case k3 => k_asm); (case k4 => refine has_of (by k_asm) (by k_asm) rfl (List.forall_mem_singleton.mpr ?m); (case m => k_mem)); (case k5 => l_ints); (case k6 => omega); (case k7 => first | omega | (simp only [List.length_set, List.length_append, List.length_cons, List.length_nil]; omega)); (case k8 => first | omega | (simp only [List.length_set, List.length_append, List.length_cons, List.length_nil]; omega)); (case k9 => ktr_room); (case k10 => ktr_units); k_whole; (intro s'ω vs'ω n'ω hEω hgω hi'ω; have F9ω := back_fr (by k_asm) (by k_asm) hEω (List.forall_mem_singleton.mpr ⟨_, by k_mem⟩); have N9ω := back_news1 (by k_asm) hEω (by k_upd) hgω; (try k_sweep); (try dsimp only)))))
  k_with "truthy ref" => ((k_here; (with_reducible show wpAny _ _ (truthy (Value.ref _)) _ _ _); k_dflt (refine' truthy_ints ?k1 ?k2 ?k3 ?k4 ?_; (case k1 => k_asm); (case k2 => k_mem); (case k3 => l_ints); (case k4 => first | omega | (simp only [List.length_set, List.length_dropLast, List.length_append, List.length_cons, List.length_nil]; omega)); k_whole)))
  k_with "call ref" => ((k_here; (with_reducible show wpAny _ _ (call (Value.ref 98) _) _ _ _); k_dflt (refine' c_siftup ?k1 ?k2 ?k3 ?k4 ?k5 ?k6 ?k7 ?k8 ?k9 ?_; (case k1 => refine' pushT ?p1 ?p2 ?p3 ?p4; (case p1 => k_asm); (case p2 => k_asm); (case p3 => exact rfl); (case p4 => exact rfl)); (case k2 => k_asm); (case k3 => k_asm); (case k4 => refine has_of (by k_asm) (by k_asm) rfl (List.forall_mem_singleton.mpr ?m); (case m => k_mem)); (case k5 => l_ints); (case k6 => first | omega | (simp only [List.length_set, List.length_dropLast]; omega)); (case k7 => first | omega | (simp only [List.length_set, List.length_dropLast]; omega)); (case k8 => ktr_room); (case k9 => ktr_units); k_whole; (intro s'ω vs'ω n'ω hEω hgω hi'ω; have F9ω := back_fr (by k_asm) (by k_asm) hEω (List.forall_mem_singleton.mpr ⟨_, by k_mem⟩); have N9ω := back_news1 (by k_asm) hEω (by k_upd) hgω; (try k_sweep); (try dsimp only)))))
  trivial
def IsOpt (v : Value) : Option Int → Prop
  | none => v = .none
  | some i => ∃ t, v = .int i t
def callL (d : Int) (ns : List Int) (x : Int) : List Int :=
  if d < 2 then sdL x (ns ++ [x]) ns.length else if d = 2 then suF (ns.set 0 x)
  else if d = 3 then (if 0 < ns.length ∧ ns.getD 0 0 < x then suF (ns.set 0 x) else ns)
  else (if 1 < ns.length then suF (ns.dropLast.set 0 (ns.getLastD 0)) else [])
def callR (d : Int) (ns : List Int) (x : Int) : Option Int :=
  if d < 2 then none else if d = 2 then some (ns.getD 0 0)
  else if d = 3 then some (if 0 < ns.length ∧ ns.getD 0 0 < x then ns.getD 0 0 else x)
  else some (if 1 < ns.length then ns.getD 0 0 else ns.getLastD 0)
theorem call0 {d : Int} {ns : List Int} {x : Int} (h : d < 2) : callL d ns x = sdL x (ns ++ [x]) ns.length ∧ callR d ns x = none := by simp [callL, callR, h]
theorem call2 {d : Int} {ns : List Int} {x : Int} (h : d = 2) : callL d ns x = suF (ns.set 0 x) ∧ callR d ns x = some (ns.getD 0 0) := by subst h; exact ⟨rfl, rfl⟩
theorem call3 {d : Int} {ns : List Int} {x : Int} (h : d = 3) : callL d ns x = (if 0 < ns.length ∧ ns.getD 0 0 < x then suF (ns.set 0 x) else ns) ∧ callR d ns x = some (if 0 < ns.length ∧ ns.getD 0 0 < x then ns.getD 0 0 else x) := by subst h; exact ⟨rfl, rfl⟩
theorem call4 {d : Int} {ns : List Int} {x : Int} (h : ¬ d < 2) (h2 : ¬ d = 2) (h3 : ¬ d = 3) : callL d ns x = (if 1 < ns.length then suF (ns.dropLast.set 0 (ns.getLastD 0)) else []) ∧ callR d ns x = some (if 1 < ns.length then ns.getD 0 0 else ns.getLastD 0) := by
  simp only [callL, callR, h, h2, h3, if_false, and_self]
theorem wd06x9 : True := by
  k_with "call ref" => ((k_here; (with_reducible show wpAny _ _ (call (Value.ref 49) _) _ _ _); k_dflt (refine' c_heappush ?k1 ?k2 ?k3 ?k4 ?k5 ?k6 ?k7 ?k8 ?_; (case k1 => refine' pushT ?p1 ?p2 ?p3 ?p4; (case p1 => k_asm); (case p2 => k_asm); (case p3 => exact rfl); (case p4 => exact rfl)); (case k2 => k_asm); (case k3 => k_asm); (case k4 => refine has_of (by k_asm) (by k_asm) rfl (List.forall_mem_singleton.mpr ?m); (case m => k_mem)); (case k5 => l_ints); (case k6 => omega); (case k7 => ktr_room); (case k8 => ktr_units); k_whole; (intro s'ω vs'ω n'ω hEω hgω hi'ω; have F9ω := back_fr (by k_asm) (by k_asm) hEω (List.forall_mem_singleton.mpr ⟨_, by k_mem⟩); have N9ω := back_news1 (by k_asm) hEω (by k_upd) hgω; (try k_sweep); (try dsimp only)))))
  k_with "call ref" => ((k_here; (with_reducible show wpAny _ _ (call (Value.ref 63) _) _ _ _); k_dflt (refine' c_heapreplace ?k1 ?k2 ?k3 ?k4 ?k5 ?k6 ?k7 ?k8 ?k9 ?_; (case k1 => refine' pushT ?p1 ?p2 ?p3 ?p4; (case p1 => k_asm); (case p2 => k_asm); (case p3 => exact rfl); (case p4 => exact rfl)); (case k2 => k_asm); (case k3 => k_asm); (case k4 => refine has_of (by k_asm) (by k_asm) rfl (List.forall_mem_singleton.mpr ?m); (case m => k_mem)); (case k5 => l_ints); (case k6 => omega); (case k7 => omega); (case k8 => ktr_room); (case k9 => ktr_units); k_whole; (intro s'ω vs'ω n'ω t'ω hEω hgω hi'ω; have F9ω := back_fr (by k_asm) (by k_asm) hEω (List.forall_mem_singleton.mpr ⟨_, by k_mem⟩); have N9ω := back_news1 (by k_asm) hEω (by k_upd) hgω; (try k_sweep); (try dsimp only)))))
  k_with "call ref" => ((k_here; (with_reducible show wpAny _ _ (call (Value.ref 70) _) _ _ _); k_dflt (refine' c_heappushpop ?k1 ?k2 ?k3 ?k4 ?k5 ?k6 ?k7 ?k8 ?_; (case k1 => refine' pushT ?p1 ?p2 ?p3 ?p4; (case p1 => k_asm); (case p2 => k_asm); (case p3 => exact rfl); (case p4 => exact rfl)); (case k2 => k_asm); (case k3 => k_asm); (case k4 => refine has_of (by k_asm) (by k_asm) rfl (List.forall_mem_singleton.mpr ?m); (case m => k_mem)); (case k5 => l_ints); (case k6 => omega); (case k7 => ktr_room); (case k8 => ktr_units); k_whole; (intro s'ω vs'ω n'ω t'ω hEω hgω hi'ω; have F9ω := back_fr (by k_asm) (by k_asm) hEω (List.forall_mem_singleton.mpr ⟨_, by k_mem⟩); have N9ω := back_news1 (by k_asm) hEω (by k_upd) hgω; (try k_sweep); (try dsimp only)))))
  k_with "call ref" => ((k_here; (with_reducible show wpAny _ _ (call (Value.ref 56) _) _ _ _); k_dflt (refine' c_heappop ?k1 ?k2 ?k3 ?k4 ?k5 ?k6 ?k7 ?k8 ?k9 ?_; (case k1 => refine' pushT ?p1 ?p2 ?p3 ?p4; (case p1 => k_asm); (case p2 => k_asm); (case p3 => exact rfl); (case p4 => exact rfl)); (case k2 => k_asm); (case k3 => k_asm); (case k4 => refine has_of (by k_asm) (by k_asm) rfl (List.forall_mem_singleton.mpr ?m); (case m => k_mem)); (case k5 => l_ints); (case k6 => omega); (case k7 => omega); (case k8 => ktr_room); (case k9 => ktr_units); k_whole; (intro s'ω vs'ω n'ω t'ω hEω hgω hi'ω; have F9ω := back_fr (by k_asm) (by k_asm) hEω (List.forall_mem_singleton.mpr ⟨_, by k_mem⟩); have N9ω := back_news1 (by k_asm) hEω (by k_upd) hgω; (try k_sweep); (try dsimp only)))))
  trivial
local macro_rules | `(tactic| k_room) => `(tactic| ktr_room)
theorem c_law_call {w : World} {mean : ExcName → Option Value} {mg mb : Str → Option Value} {dp un : Nat} {gd : Option (List Code)} {outer : List Env} {base : Heap} {s : Shared} {Q E : Value → Shared → Prop} {l : Addr} {vs : List Value} {ns : List Int} {n : Nat} {d x : Int} {t t0 : Tok} (B : Below (top dp un gd outer) base outer s.heap) (X : (Kt w.params).In base) (T : Top vw loo mean mg mb base) (H : Has base outer s.heap [(l, listOf vs.toArray n)])
  (hi : IntsAre vs ns) (hlen : ns.length < 50) (hne : 2 ≤ d → d ≠ 3 → 0 < ns.length) (hdp : dp + 4 < recursionLimit) (hun : un + 32 < cLine)
  (hret : ∀ s' vs' n' v, Ext [l] s s' → s'.heap.get? l = some (listOf vs'.toArray n') → IntsAre vs' (callL d ns x) → IsOpt v (callR d ns x) → Q v s') :
  wpAny (model PySem.Challenge.rw_om0101_01.row.prog w) (top dp un gd outer) (call (.ref 186) [.int d t0, .ref l, .int x t]) Q E s := by
  revert X; k_fill; intro X
  have hvl := IntsAre.length hi
  w_strict (
   (refine wpAny_call ?_; (k_dflt (refine' enterN ?k1 ?k2 ?k3 ?k4 ?k6 ?k7 ?k8 ?k9 ?kB ?_ ?c2 ?c3 ?c4 ?c5; (case k1 => k_asm); (case k2 => k_asm); (case k3 => k_asm); (case k4 => first | k_asm | exact Has.nil); (case k6 => k_is); (case k7 => k_is); (case k8 => ktr_room); (case k9 => exact BindsTo.of_eq rfl); (case c5 => decide); (case kB => exact locs rfl); (case c2 => exact rfl); (case c3 => exact rfl); (case c4 => exact rfl); k_whole; intro g' L' h' Q9 t9 q9 FG' F' N' B' X' T' l1; (try k_lt l1); (try dsimp only); (try k_lift B'); (try k_fold))))
   k_steps
   · have e := call0 (ns := ns) (x := x) (show d < 2 by assumption)
     rw [e.1, e.2] at hret
     exact hret _ _ _ _ (ext_after FG' (by assumption) (by assumption) (by exact rfl) (by exact id)) (by assumption) (by assumption) rfl
   · have e := call2 (ns := ns) (x := x) (show d = 2 by assumption)
     rw [e.1, e.2] at hret
     exact hret _ _ _ _ (ext_after FG' (by assumption) (by assumption) (by exact rfl) (by exact id)) (by assumption) (by assumption) ⟨_, rfl⟩
   · have e := call3 (ns := ns) (x := x) (show d = 3 by assumption)
     rw [e.1, e.2] at hret
     exact hret _ _ _ _ (ext_after FG' (by assumption) (by assumption) (by exact rfl) (by exact id)) (by assumption) (by assumption) ⟨_, rfl⟩
   · have e := call4 (ns := ns) (x := x) (show ¬ d < 2 by assumption) (show ¬ d = 2 by assumption) (show ¬ d = 3 by assumption)
     rw [e.1, e.2] at hret
     exact hret _ _ _ _ (ext_after FG' (by assumption) (by assumption) (by exact rfl) (by exact id)) (by assumption) (by assumption) ⟨_, rfl⟩)

theorem pop0_ints {prog : Program} {w : World} {A : Around} {E : Value → Shared → Prop} {s : Shared} {h₀ : Heap} {L D : Addr} {m : Str → Option Value} {news news' : List (Addr × Obj)} {n : Nat} {u : Tok} {us : List Value} {l : List Int} {Q : Value → Shared → Prop}
    (F : Fr h₀ L s.heap m) (N : News h₀ L s.heap news) (U : Upd D (listOf us.toArray n) (listOf us.tail.toArray (n + 1)) news news') (hi : IntsAre us l) (hne : 0 < l.length)
    (hz : l.length < 1000) (h : ∀ h' t, Fr h₀ L h' m → News h₀ L h' news' → IntsAre us.tail l.tail → Q (.int (l.getD 0 0) t) { s with heap := h' }) : wpAny (model prog w) A (call (.builtin "list.pop") [.ref D, .int 0 u]) Q E s := by
  cases hi with
  | nil => simp at hne
  | cons x t hr =>
    rename_i vs ns
    refine kl_popAt (k := 0) (p := []) (y := .int x t) (q := vs) F N rfl ?_ rfl U ?_ fun h' F' N' => h h' t F' N' hr
    · simp [seqIndex?]
    · show (Value.int x t :: vs).length ≤ sizeLine
      rw [IntsAre.length (IntsAre.cons x t hr), sizeLine_eq]; omega
theorem append_ints {prog : Program} {w : World} {A : Around} {E : Value → Shared → Prop} {s : Shared} {h₀ : Heap} {L D : Addr} {m : Str → Option Value} {news news' : List (Addr × Obj)} {n : Nat} {u : Tok} {x : Int} {us : List Value} {l : List Int} {Q : Value → Shared → Prop}
    (F : Fr h₀ L s.heap m) (N : News h₀ L s.heap news) (U : Upd D (listOf us.toArray n) (listOf (us ++ [Value.int x u]).toArray (n + 1)) news news') (hi : IntsAre us l)
    (hz : l.length < 1000) (h : ∀ h', Fr h₀ L h' m → News h₀ L h' news' → IntsAre (us ++ [.int x u]) (l ++ [x]) → Q .none { s with heap := h' }) : wpAny (model prog w) A (call (.builtin "list.append") [.ref D, .int x u]) Q E s := by
  refine append_K (its := us.toArray) (n := n) F N (by rw [List.push_toArray]; exact U) (fun h' F' N' => h h' F' N' (IntsAre.append hi (.cons x u .nil))) ?_
  show us.length ≤ sizeLine
  rw [IntsAre.length hi, sizeLine_eq]; omega
theorem asc_of : ∀ {l : List Int}, l.Pairwise (· ≤ ·) → lks_asc l = true
  | [], _ => rfl
  | a :: r, h => by
    cases h with
    | cons h1 h2 =>
      simp only [lks_asc, Bool.and_eq_true, List.all_eq_true, decide_eq_true_eq]
      exact ⟨h1, asc_of h2⟩
theorem vals_ints : ∀ (l : List Int) (i : Nat) (t : Nat → Tok), IntsAre (lks_vals l i t) l
  | [], _, _ => .nil
  | a :: r, i, t => .cons a (t i) (vals_ints r (i + 1) t)
theorem ints_kf : ∀ {vs : List Value} {ns : List Int}, IntsAre vs ns → kf_ints vs = true ∧ lks_nums vs = ns
  | _, _, .nil => ⟨rfl, rfl⟩
  | _, _, .cons a u r => ⟨(ints_kf r).1, by show a :: _ = a :: _; rw [(ints_kf r).2]⟩
abbrev srt (l : List Int) : List Int := l.mergeSort (fun a b => decide (a ≤ b))
theorem srt_sorted (l : List Int) : (srt l).Pairwise (· ≤ ·) := by
  have := List.pairwise_mergeSort (le := fun (a b : Int) => decide (a ≤ b)) (fun a b c => by simp only [decide_eq_true_eq]; omega) (fun a b => by simp only [Bool.or_eq_true, decide_eq_true_eq]; omega) l
  simpa using this
theorem srt_perm (l : List Int) : (srt l).Perm l := List.mergeSort_perm _ _
theorem sort_ints {prog : Program} {w : World} {A : Around} {E : Value → Shared → Prop} {s : Shared} {h₀ : Heap} {L D : Addr} {m : Str → Option Value} {news : List (Addr × Obj)} {n : Nat} {us : List Value} {l : List Int} {Q : Value → Shared → Prop} {news' : List Value → List (Addr × Obj)}
    (F : Fr h₀ L s.heap m) (N : News h₀ L s.heap news) (U : ∀ vs : List Value, Upd D (listOf us.toArray n) (listOf vs.toArray (n + 2)) news (news' vs)) (hi : IntsAre us l) (hne : 0 < l.length)
    (hz : l.length < 64) (h : ∀ h' vs, Fr h₀ L h' m → News h₀ L h' (news' vs) → IntsAre vs (srt l) → Q .none { s with heap := h' }) : wpAny (model prog w) A (call (.builtin "list.sort") [.ref D]) Q E s := by
  have k := ints_kf hi
  refine lks_sort (q := srt l) F N (fun t => U (lks_vals (srt l) 0 t)) k.1 ?_ ?_ ?_ fun t h' F' N' => h h' _ F' N' (vals_ints _ _ _)
  · simp only [lks_ok, Bool.and_eq_true]
    refine ⟨?_, asc_of (srt_sorted l)⟩
    show (lks_nums us).isPerm _ = true
    rw [List.isPerm_iff, k.2]
    exact (srt_perm l).symm
  · cases hi with
    | nil => simp at hne
    | cons => rfl
  · show us.length < 64
    rw [IntsAre.length hi]; exact hz
theorem wd06x10 : True := by
  k_with "call builtin:list.append" => ((k_here; (with_reducible show wpAny _ _ (call (Value.builtin _) [Value.ref _, Value.int _ _]) _ _ _); k_dflt (refine' append_ints ?k1 ?k2 ?k3 ?k4 ?k5 ?_; (case k1 => k_asm); (case k2 => k_asm); (case k3 => k_upd); (case k4 => l_ints); (case k5 => first | omega | (simp only [srt, List.length_mergeSort, List.length_append, List.length_tail, List.length_cons, List.length_nil]; omega)); k_whole; (intro h'ω F'ω N'ω hI'ω; (try k_sweep)))))
  k_with "call builtin:list.pop" => ((k_here; (with_reducible show wpAny _ _ (call (Value.builtin _) [Value.ref _, Value.int 0 _]) _ _ _); k_dflt (refine' pop0_ints ?k1 ?k2 ?k3 ?k4 ?k5 ?k6 ?_; (case k1 => k_asm); (case k2 => k_asm); (case k3 => k_upd); (case k4 => l_ints); (case k5 => first | omega | (simp only [srt, List.length_mergeSort, List.length_append, List.length_tail, List.length_cons, List.length_nil]; omega)); (case k6 => first | omega | (simp only [srt, List.length_mergeSort, List.length_append, List.length_tail, List.length_cons, List.length_nil]; omega)); k_whole; (intro h'ω t'ω F'ω N'ω hI'ω; (try k_sweep)))))
  k_with "call builtin:list.sort" => ((k_here; (with_reducible show wpAny _ _ (call (Value.builtin _) [Value.ref _]) _ _ _); k_dflt (refine' sort_ints ?k1 ?k2 ?k3 ?k4 ?k5 ?k6 ?_; (case k1 => k_asm); (case k2 => k_asm); (case k3 => (intro vs9ω; k_upd)); (case k4 => l_ints); (case k5 => first | omega | (simp only [srt, List.length_mergeSort, List.length_append, List.length_tail, List.length_cons, List.length_nil]; omega)); (case k6 => first | omega | (simp only [srt, List.length_mergeSort, List.length_append, List.length_tail, List.length_cons, List.length_nil]; omega)); k_whole; (intro h'ω vs'ω F'ω N'ω hI'ω; (try k_sweep)))))
  trivial
def dueL (d : Int) (row : List Int) (x : Int) : List Int :=
  if d = 4 then row.tail else
  let r := srt ((if d = 2 then row.tail else row) ++ [x])
  if d = 3 then r.tail else r
def dueR (d : Int) (row : List Int) (x : Int) : Option Int :=
  if d = 2 then some (row.getD 0 0) else if d = 4 then some (row.getD 0 0) else if d = 3 then some ((srt (row ++ [x])).getD 0 0) else none
theorem c_law_due {w : World} {mean : ExcName → Option Value} {mg mb : Str → Option Value} {dp un : Nat} {gd : Option (List Code)} {outer : List Env} {base : Heap} {s : Shared} {Q E : Value → Shared → Prop} {l : Addr} {vs : List Value} {ns : List Int} {n : Nat} {d x : Int} {t t0 : Tok} (B : Below (top dp un gd outer) base outer s.heap) (X : (Kt w.params).In base) (T : Top vw loo mean mg mb base) (H : Has base outer s.heap [(l, listOf vs.toArray n)])
  (hi : IntsAre vs ns) (hlen : ns.length < 50) (hd : 0 ≤ d ∧ d ≤ 4) (hne : d = 2 ∨ d = 4 → 0 < ns.length) (hdp : dp + 4 < recursionLimit) (hun : un + 32 < cLine)
  (hret : ∀ s' vs' n' v, Ext [l] s s' → s'.heap.get? l = some (listOf vs'.toArray n') → IntsAre vs' (dueL d ns x) → IsOpt v (dueR d ns x) → Q v s') :
  wpAny (model PySem.Challenge.rw_om0101_01.row.prog w) (top dp un gd outer) (call (.ref 200) [.int d t0, .ref l, .int x t]) Q E s := by
  revert X; k_fill; intro X
  have hvl := IntsAre.length hi
  obtain rfl | rfl | rfl | rfl | rfl : d = 0 ∨ d = 1 ∨ d = 2 ∨ d = 3 ∨ d = 4 := by omega
  all_goals (w_strict (
   (refine wpAny_call ?_; (k_dflt (refine' enterN ?k1 ?k2 ?k3 ?k4 ?k6 ?k7 ?k8 ?k9 ?kB ?_ ?c2 ?c3 ?c4 ?c5; (case k1 => k_asm); (case k2 => k_asm); (case k3 => k_asm); (case k4 => first | k_asm | exact Has.nil); (case k6 => k_is); (case k7 => k_is); (case k8 => ktr_room); (case k9 => exact BindsTo.of_eq rfl); (case c5 => decide); (case kB => exact locs rfl); (case c2 => exact rfl); (case c3 => exact rfl); (case c4 => exact rfl); k_whole; intro g' L' h' Q9 t9 q9 FG' F' N' B' X' T' l1; (try k_lt l1); (try dsimp only); (try k_lift B'); (try k_fold))))
   k_steps))
  all_goals ((try dsimp only); refine hret _ _ _ _ (ext_of FG' (by assumption) (by exact rfl) (by exact id)) (News.get (by assumption) (.head _)) (ia_cast (by assumption) ?_) ?_; (first | rfl | decide); (first | exact rfl | exact ⟨_, rfl⟩))
end
section
theorem wd07x11 : True := by
  k_with_none
  k_with "omega" => (omega (splitDisjunctions := true))
  k_with "om2" => (first | lia | omega (splitDisjunctions := true))
  k_with "eval Name" => ((k_here; (with_reducible show wpAny _ _ (eval _ (envOf _ _ _ _ _)) _ _ _); k_dflt (refine' nmL ?yF ?yv ?yx ?yk ?yd ?_; (case yF => k_asm); (case yk => exact rfl); (case yx => exact rfl); (case yd => exact rfl); (case yv => exact rfl); k_whole)))
  k_with "storeName" => ((k_here; (with_reducible show wpAny _ _ (storeName (envOf _ _ _ _ _) _ _) _ _ _); k_dflt (refine' stoLe ?yF ?yN ?yx ?yk ?_; (case yF => k_asm); (case yN => k_asm); (case yk => exact rfl); (case yx => exact rfl); k_whole; intro m'ω h'ω F'ω N'ω; (try k_sweep))))
  k_with "eval Name" => ((k_here; (with_reducible show wpAny _ _ (eval _ (envOfC _ _ _ _ _)) _ _ _); k_dflt (refine' nmLC ?yF ?yv ?yk ?yx ?yd ?_; (case yF => k_asm); (case yk => exact rfl); (case yx => exact rfl); (case yd => exact rfl); (case yv => exact rfl); k_whole)))
  k_with "storeName" => ((k_here; (with_reducible show wpAny _ _ (storeName (envOfC _ _ _ _ _) _ _) _ _ _); k_dflt (refine' stoLCe ?yF ?yN ?yk ?yx ?_; (case yF => k_asm); (case yN => k_asm); (case yk => exact rfl); (case yx => exact rfl); k_whole; intro m'ω h'ω F'ω N'ω; (try k_sweep))))
  k_with "execs cons" => ((k_here; (first | (with_reducible show wpAny _ _ (execs _ _) (AtF _) _ _) | (refine execs_abs ?_; intro Q8ω q8ω)); k_dflt (refine execs_gen ?_); intro Q7ω t7ω g7ω o7ω; (try dsimp only)))
  k_with "AtF" => ((with_reducible first | refine AtF.go (by assumption) ?_ | (refine AtF.out (by assumption) (fun z => Flow.noConfusion z) ?_) | (refine AtF.fin (by assumption) ?_; (try dsimp only))))
  k_with "room" => (k_dflt (first | exact rm2 (by assumption) rfl | exact rm1 (by assumption) rfl | exact rm3 (by assumption) rfl | exact rm4 (by assumption) rfl | exact rm0 (by assumption)))
  k_with "kne" => ((refine neN ?_; (try dsimp only); k_extra "ne"))
  k_with "cj" => (first | exact And.left | exact id | (refine cjs ?_; k_extra "cj"))
  k_with "ne" => (with_reducible first | assumption | exact lne (by assumption) | exact gne (by assumption) | exact sne (by assumption) | exact suc | exact suc2 | exact sne suc | exact sne suc2 | (refine ltc (by assumption) ?_; k_extra "cj") | (refine gtc (by assumption) ?_; k_extra "cj") | (refine nec (by assumption) ?_; k_extra "cj") | (refine nfc (by assumption) ?_; k_extra "cj"))
  trivial
section
variable {prog : Program} {w : World} {A : Around} {s : Shared} {K : Frag} {base : Heap} {mg mb : Str → Option Value} {p : Program} {loose : List Str} {mean : ExcName → Option Value} {outer : List Env}

/-- a call of a generator def: the frame is laid, nothing of the body runs -/
theorem enter_gen {R : Result → Shared → Prop} {name qual : Str} {params : Arguments} {body : List Stmt} {scope : Scope} {dV kV doc pm cdv ct oc : Value} {an od : Option Addr} {osl : Array (Option Value)} {f : Addr} {args : Args} {binds : List (Str × Value)}
    (hst : base.StaysIn s.heap) (X : K.In base) (T : Top p loose mean mg mb base)
    (ho : K.lookup f = some ⟨oc, od, .func (fnOf name qual params body scope dV kV doc pm an cdv ct), osl⟩) (hcd : codeIn K cdv qual = true) (hroom : A.depth < recursionLimit)
    (hbind : BindsTo s (fnOf name qual params body scope dV kV doc pm an cdv ct) args binds) (hloc : ∀ y ∈ binds, scope.names.lookup y.1 = some .local)
    (h : ∀ h₁ a tk, h₁.Ns s.heap.objs.size (fun y => binds.reverse.lookup y) → (∀ b o, s.heap.get? b = some o → h₁.get? b = some o) → h₁.IsGen a s.gens.size → s.heap.objs.size < a →
      R (.ok (.ret (.ref a))) { s with heap := h₁, gens := s.gens.push (.fresh (.func body (envOf qual scope s.heap.objs.size f cdv))), toks := tk })
    (hco : scope.isCoroutine = false) (hgen : scope.isGenerator = true) (hk : scope.kind = .function)
    (hcell : ∀ x ∈ scope.names, x.2 ≠ .cell) : codeAny (model prog w) A (.call (.ref f) args) R s := by
  refine codeAny_call_generator (fd := fnOf name qual params body scope dV kV doc pm an cdv ct) (body := body) hroom (X.keeps hst _ _ ho) rfl hco hgen rfl (codeRec_of (X.keeps hst) hcd) (hbind _ _ _ _ ?_)
  refine wpAny_newFunctionEnv hcell hloc (fun h₀ hns₀ hsb₀ => ?_) hk
  have hk₀ : ∀ b o, s.heap.get? b = some o → h₀.get? b = some o := fun b o e => hsb₀.extBut b o (Nat.ne_of_lt (Heap.lt_size e)) (Heap.get?_push_of_some _ e)
  refine ⟨((T.keeps hst).nolimit).keeps hk₀, ?_⟩
  have hsz : s.heap.objs.size < h₀.objs.size := by
    obtain ⟨o, _, _, ho, _⟩ := hns₀
    exact Heap.lt_size ho
  refine h _ _ _ ?_ (fun b o e => Heap.get?_push_of_some _ (hk₀ b o e)) ⟨_, _, _, Heap.get?_push_size _ rfl, rfl, rfl, rfl⟩ hsz
  obtain ⟨o, es, ep, ho, r⟩ := hns₀
  exact ⟨o, es, ep, Heap.get?_push_of_some _ ho, r⟩
end
section
variable {M : Model} {A : Around} {R : GenEnd} {Y : Protocol} {n : Nat} {s₀ : Shared} {c : Code} {fs : List Frame} {s : Shared} {env : Env}
  {K : Flow → Sem Fin} {H : Value → Sem Fin} {gd : Bool → Bool} {lv : List Value → List Value}

theorem seg_If {test : PySem.Expr} {body orelse : List Stmt} {pos : Pos}
    (h : wpAny M (A.over c fs) (isTrue test env (eval test env)) (fun b s' =>
        if b = true then Seg M A R Y n s₀ c ((execs body env).wrap K H gd lv) fs s' else Seg M A R Y n s₀ c ((execs orelse env).wrap K H gd lv) fs s')
      (fun _ _ => False) s) :
    Seg M A R Y n s₀ c ((exec (.If test body orelse pos) env).wrap K H gd lv) fs s := by
  show Seg M A R Y n s₀ c (.at pos fun _ => (((isTrue test env (eval test env)) >>= fun b => if b = true then execs body env else execs orelse env)).wrap K H gd lv) fs s
  refine seg_at ?_
  rw [Sem.bind_eq_wrap', Sem.wrap_wrap]
  refine seg_wrap (wpAny_mono h (fun b s' hb => ?_) fun _ _ x => x.elim)
  cases b with
  | true => simpa using hb
  | false => simpa using hb

theorem seg_For {target iter : PySem.Expr} {body orelse : List Stmt} {pos : Pos}
    (h : wpAny M (A.over c fs) (eval iter env) (fun x s₁ => wpAny M (A.over c fs) (pyIter x) (fun it s₂ =>
      ∀ p, Seg M A R Y n s₀ (.forLoop target it body orelse env) (M.den (.forLoop target it body orelse env))
      (.ret (fun r => ((match r with | .ok f => (.pure f : Sem Flow) | .error e => .raise e).onRaise fun (x : Value) => do
        if (← field x 1) == Value.none then unsupported "frame.own-activation:exception-without-traceback"
        setFlight x env.frame).wrap K H gd lv) none (gd false) (lv []) c p [] :: fs) s₂) (fun _ _ => False) s₁) (fun _ _ => False) s)
    (hs : ∀ x, foldedSetIterable iter env x = pure x := by intro _; rfl) :
    Seg M A R Y n s₀ c ((exec (.For target iter body orelse pos) env).wrap K H gd lv) fs s := by
  rw [exec_For]
  show Seg M A R Y n s₀ c (.at pos fun _ => (eval iter env >>= fun x => (foldedSetIterable iter env x >>= fun x => (standAt iter.pos >>= fun _ => (holding [x] (pyIter x) >>= fun it => runOwn (.forLoop target it body orelse env) env)))).wrap K H gd lv) fs s
  refine seg_at ?_
  rw [Sem.bind_eq_wrap', Sem.wrap_wrap]
  refine seg_wrap (wpAny_mono h (fun x s₁ h₁ => ?_) fun _ _ x => x.elim)
  rw [hs x]
  show Seg M A R Y n s₀ c (.at iter.pos fun _ => (holding [x] (pyIter x) >>= fun it => runOwn (.forLoop target it body orelse env) env).wrap K H gd lv) fs s₁
  refine seg_at ?_
  rw [Sem.bind_eq_wrap', Sem.wrap_wrap]
  refine seg_wrap (wpAny_holding (wpAny_mono h₁ (fun it s₂ h₂ => ?_) fun _ _ x => x.elim))
  exact seg_call h₂
end

section
variable {prog : Program} {w : World} {A : Around} {R : GenEnd} {Y : Protocol} {n : Nat} {s₀ : Shared} {fs : List Frame} {s : Shared} {env : Env}

theorem seg_block_nil {k h g l c₁ p₁ kp} (hk : Seg (model prog w) A R Y n s₀ c₁ (k (.ok .next)) fs s) :
    Seg (model prog w) A R Y n s₀ (.block [] env) ((model prog w).den (.block [] env)) (.ret k h g l c₁ p₁ kp :: fs) s := by
  show Seg (model prog w) A R Y n s₀ _ (leafOf (.ok .next)) _ s
  exact seg_leaf (.ok .next) hk

theorem seg_forLoop {target : PySem.Expr} {it : Value} {body orelse : List Stmt}
    (h : wpAny (model prog w) (A.over (.forLoop target it body orelse env) fs) (pyNext it) (fun r s₁ => match r with
      | none => Seg (model prog w) A R Y n s₀ (.block orelse env) ((model prog w).den (.block orelse env)) fs s₁
      | some v => wpAny (model prog w) (A.over (.forLoop target it body orelse env) fs) (letOwnedTupleGo target it v) (fun _ s₂ =>
          wpAny (model prog w) (A.over (.forLoop target it body orelse env) fs) (assign target env v) (fun _ s₃ =>
            Seg (model prog w) A R Y n s₀ (.forLoop target it body orelse env) ((execs body env).wrap (fun f => match f with
              | .next | .cont => .pure (.again (.forLoop target it body orelse env))
              | .brk => .pure (.done .next)
              | .ret v => .pure (.done (.ret v))) (fun e => (do noteFrame e env; theTreesLotGoes e : Sem Unit).wrap (fun _ => .raise e) .raise id id) id id) fs s₃) (fun _ _ => False) s₂) (fun _ _ => False) s₁) (fun _ _ => False) s) :
    Seg (model prog w) A R Y n s₀ (.forLoop target it body orelse env) ((model prog w).den (.forLoop target it body orelse env)) fs s := by
  show Seg _ A R Y n s₀ _ ((forTurn target it body orelse env).onRaise (fun x => do noteFrame x env; theTreesLotGoes x)) fs s
  unfold forTurn
  rw [Sem.onRaise_eq_wrap]
  show Seg _ A R Y n s₀ _ (.at target.pos fun _ => ((pyNext it).onRaise (fun _ => standAt { target.pos with line := 0 }) >>= _).wrap _ _ _ _) fs s
  refine seg_at ?_
  rw [Sem.bind_eq_wrap', Sem.wrap_wrap]
  refine seg_wrap (wpAny_onRaise (wpAny_mono h (fun r s₁ h₁ => ?_) fun _ _ x => x.elim))
  cases r with
  | none => exact seg_again rfl h₁
  | some v =>
    show Seg _ A R Y n s₀ _ ((letOwnedTupleGo target it v >>= _).wrap _ _ _ _) fs s₁
    rw [Sem.bind_eq_wrap', Sem.wrap_wrap]
    refine seg_wrap (wpAny_mono h₁ (fun _ s₂ h₂ => ?_) fun _ _ x => x.elim)
    show Seg _ A R Y n s₀ _ ((assign target env v >>= _).wrap _ _ _ _) fs s₂
    rw [Sem.bind_eq_wrap', Sem.wrap_wrap]
    refine seg_wrap (wpAny_mono h₂ (fun _ s₃ h₃ => ?_) fun _ _ x => x.elim)
    show Seg _ A R Y n s₀ _ ((execs body env >>= _).wrap _ _ _ _) fs s₃
    rw [Sem.bind_eq_wrap', Sem.wrap_wrap]
    rw [Sem.wrap_congr (execs body env) _ _ (K' := fun f => match f with
            | .next | .cont => .pure (.again (.forLoop target it body orelse env))
            | .brk => .pure (.done .next)
            | .ret v => .pure (.done (.ret v))) (H' := (fun e => (do noteFrame e env; theTreesLotGoes e : Sem Unit).wrap (fun _ => .raise e) .raise id id))
        (fun f => by cases f <;> rfl)
        (fun e => by first | exact Sem.bind_eq_wrap _ _ | (show (do noteFrame e env; theTreesLotGoes e : Sem Unit).bind (fun _ => .raise e) = _; rw [Sem.bind_eq_wrap]))]
    exact h₃
end
end
section
theorem wd08x12 : True := by
  k_with_none
  k_with "omega" => (omega (splitDisjunctions := true))
  k_with "om2" => (first | lia | omega (splitDisjunctions := true))
  k_with "eval Name" => ((k_here; (with_reducible show wpAny _ _ (eval _ (envOf _ _ _ _ _)) _ _ _); k_dflt (refine' nmL ?yF ?yv ?yx ?yk ?yd ?_; (case yF => k_asm); (case yk => exact rfl); (case yx => exact rfl); (case yd => exact rfl); (case yv => exact rfl); k_whole)))
  k_with "storeName" => ((k_here; (with_reducible show wpAny _ _ (storeName (envOf _ _ _ _ _) _ _) _ _ _); k_dflt (refine' stoLe ?yF ?yN ?yx ?yk ?_; (case yF => k_asm); (case yN => k_asm); (case yk => exact rfl); (case yx => exact rfl); k_whole; intro m'ω h'ω F'ω N'ω; (try k_sweep))))
  k_with "eval Name" => ((k_here; (with_reducible show wpAny _ _ (eval _ (envOfC _ _ _ _ _)) _ _ _); k_dflt (refine' nmLC ?yF ?yv ?yk ?yx ?yd ?_; (case yF => k_asm); (case yk => exact rfl); (case yx => exact rfl); (case yd => exact rfl); (case yv => exact rfl); k_whole)))
  k_with "storeName" => ((k_here; (with_reducible show wpAny _ _ (storeName (envOfC _ _ _ _ _) _ _) _ _ _); k_dflt (refine' stoLCe ?yF ?yN ?yk ?yx ?_; (case yF => k_asm); (case yN => k_asm); (case yk => exact rfl); (case yx => exact rfl); k_whole; intro m'ω h'ω F'ω N'ω; (try k_sweep))))
  k_with "execs cons" => ((k_here; (first | (with_reducible show wpAny _ _ (execs _ _) (AtF _) _ _) | (refine execs_abs ?_; intro Q8ω q8ω)); k_dflt (refine execs_gen ?_); intro Q7ω t7ω g7ω o7ω; (try dsimp only)))
  k_with "AtF" => ((with_reducible first | refine AtF.go (by assumption) ?_ | (refine AtF.out (by assumption) (fun z => Flow.noConfusion z) ?_) | (refine AtF.fin (by assumption) ?_; (try dsimp only))))
  k_with "room" => (k_dflt (first | exact rm2 (by assumption) rfl | exact rm1 (by assumption) rfl | exact rm3 (by assumption) rfl | exact rm4 (by assumption) rfl | exact rm0 (by assumption)))
  k_with "kne" => ((refine neN ?_; (try dsimp only); k_extra "ne"))
  k_with "cj" => (first | exact And.left | exact id | (refine cjs ?_; k_extra "cj"))
  k_with "ne" => (with_reducible first | assumption | exact lne (by assumption) | exact gne (by assumption) | exact sne (by assumption) | exact suc | exact suc2 | exact sne suc | exact sne suc2 | (refine ltc (by assumption) ?_; k_extra "cj") | (refine gtc (by assumption) ?_; k_extra "cj") | (refine nec (by assumption) ?_; k_extra "cj") | (refine nfc (by assumption) ?_; k_extra "cj"))
  trivial
def Keep (D : List Addr) (h h' : Heap) : Prop := ∀ b o, b ∉ D → h.get? b = some o → h'.get? b = some o
theorem Keep.refl {D : List Addr} {h : Heap} : Keep D h h := fun _ _ _ e => e
theorem Keep.trans {D : List Addr} {h h' h'' : Heap} (x : Keep D h h') (y : Keep D h' h'') : Keep D h h'' := fun b o hb e => y b o hb (x b o hb e)

/-- the generator behind i signs: its frame, its enumerate, its iterator -/
def GI (base : Heap) (x : Str) (t : Tok) (Lg e it : Addr) (i : Nat) (h : Heap) : Prop :=
  base.StaysIn h ∧ (∃ u : Str → Option Value, h.Ns Lg (fun y => if y = Str.ofString "escape" then some (.bool false) else u y)) ∧ (∃ old, IsEnum h e it i old) ∧ h.IsStrIter it (strIterType x) x t i

def GY (base : Heap) (x : Str) (t : Tok) (Lg e it : Addr) : Protocol := fun n s₀ v s₁ kap =>
  ∃ i c u1 u2 T, i + 1 + n = x.cps.size ∧ x.cps[i]? = some c ∧ v = .ref T ∧ s₀.heap.get? T = none ∧ T ∉ [Lg, e, it] ∧
    s₁.heap.get? T = some { cls := .type "tuple", data := .seq #[.int i u1, .str ⟨#[c]⟩ u2] } ∧
    Keep [Lg, e, it] s₀.heap s₁.heap ∧ s₁.gens = s₀.gens ∧ s₁.os = s₀.os ∧ GI base x t Lg e it (i + 1) s₁.heap ∧
    ∀ s'', GI base x t Lg e it (i + 1) s''.heap → kap (.send .none) s''
def GP (Lg e it : Addr) : Nat → Shared → Shared → Prop := fun n s₀ s₁ => n = 0 ∧ Keep [Lg, e, it] s₀.heap s₁.heap ∧ s₁.gens = s₀.gens ∧ s₁.os = s₀.os
def GR (Lg e it : Addr) : GenEnd := fun n s₀ r s₁ => r = .ok (.ret .none) ∧ GP Lg e it n s₀ s₁

theorem draws_str {prog : Program} {w : World} {A : Around} (hh : A.handled = none) (it : Addr) (x : Str) (t : Tok) :
    Draws prog w A it [it] x.cps.size (SignAt x) (fun i h => h.IsStrIter it (strIterType x) x t i) := by
  unfold strIterType
  split
  · exact Draws.strAscii hh it x t
  · exact Draws.strWide hh it x t

def GenFresh (w : World) (base : Heap) (x : Str) (t : Tok) (Lg : Addr) (gs : GenState) : Prop :=
  ∀ (A : Around) (s : Shared), A.handled = none → A.depth + 2 < recursionLimit → A.units + 8 < cLine → base.StaysIn s.heap → base.objs.size ≤ Lg → s.heap.Ns Lg (fun y => [((Str.ofString "addr"), Value.str x t)].reverse.lookup y) →
    gs.Goes (model PySem.Challenge.rw_om0101_01.row.prog w) A (GR Lg (s.heap.objs.size + 1) s.heap.objs.size) (GY base x t Lg (s.heap.objs.size + 1) s.heap.objs.size) x.cps.size (.send .none) s

theorem c_iter {w : World} {mean : ExcName → Option Value} {mg mb : Str → Option Value} {dp un : Nat} {gd : Option (List Code)} {outer : List Env} {base : Heap} {s : Shared} {Q E : Value → Shared → Prop} {x : Str} {t : Tok} (hst : base.StaysIn s.heap) (X : (Kt w.params).In base) (T : Top vw loo mean mg mb base) (hx : ∀ c ∈ x.cps, c ≠ 92) (hdp : dp + 1 < recursionLimit) (hun : un + 8 < cLine)
  (hret : ∀ h₁ a tk gs, GenFresh w base x t s.heap.objs.size gs → gs.bare = true → h₁.Ns s.heap.objs.size (fun y => [((Str.ofString "addr"), Value.str x t)].reverse.lookup y) → (∀ b o, s.heap.get? b = some o → h₁.get? b = some o) → h₁.IsGen a s.gens.size → s.heap.objs.size < a →
      Q (.ref a) { s with heap := h₁, gens := s.gens.push gs, toks := tk }) :
  wpAny (model PySem.Challenge.rw_om0101_01.row.prog w) (top dp un gd outer) (call (.ref 21) [.str x t]) Q E s := by
  revert X; k_fill; intro X
  refine wpAny_call ?_
  k_dflt (refine' enter_gen ?k1 ?k2 ?k3 ?k6 ?k7 ?k8 ?k9 ?kB ?_ ?c2 ?c3 ?c4 ?c5)
  (case k1 => k_asm)
  (case k2 => k_asm)
  (case k3 => k_asm)
  (case k6 => k_is)
  (case k7 => k_is)
  (case k8 => ktr_room)
  (case k9 => exact BindsTo.of_eq rfl)
  (case kB => exact locs rfl)
  (case c2 => exact rfl)
  (case c3 => exact rfl)
  (case c4 => exact rfl)
  (case c5 => decide)
  intro h₁ a tk hns hk hg hlt
  refine hret h₁ a tk _ ?_ rfl hns hk hg hlt
  clear hret hns hk hg hlt
  generalize s.heap.objs.size = Lg
  intro A s hA hd hu hb hL hns
  refine ⟨rfl, ?_⟩
  have F : Fr base Lg s.heap _ := ⟨hns, hb, hL⟩
  have N : News base Lg s.heap [] := News.nil
  have hLo : ∃ o, s.heap.get? Lg = some o := by obtain ⟨o, _, _, ho, _⟩ := hns; exact ⟨o, ho⟩
  have hLb : base.get? Lg = none := by
    cases q : base.get? Lg with
    | none => rfl
    | some o => exact absurd (Nat.lt_of_lt_of_le (Heap.lt_size q) hL) (Nat.lt_irrefl _)
  refine seg_func (seg_execs_cons (seg_wrap (wpAny_Assign_Name (wpAny_Constant_int (wpAny_storeName_local rfl hns (fun h₁ hn₁ hs₁ => ?_))))))
  refine seg_execs_cons (seg_wrap (wpAny_Assign_Name (wpAny_Constant_bool (wpAny_storeName_local rfl hn₁ (fun h₂ hn₂ hs₂ => ?_)))))
  have F₂ := (F.set hn₁ hs₁).set hn₂ hs₂
  have N₂ : News base Lg h₂ [] := News.nil
  have z₂ : h₂.objs.size = s.heap.objs.size := hs₂.1.trans hs₁.1
  have k₂ : ∀ it e, Keep [Lg, e, it] s.heap h₂ := fun it e b o hb q => hs₂.extBut b o (fun q => hb (List.mem_cons.mpr (.inl q))) (hs₁.extBut b o (fun q => hb (List.mem_cons.mpr (.inl q))) q)
  clear F N hns hn₁ hs₁ hn₂ hs₂
  refine seg_execs_cons (seg_For ?_)
  k_steps
  refine call_enumerate_str (fun h₃ hE hI hz hk₃ => ?_)
  dsimp only at hE hI hz hk₃ ⊢
  rw [z₂] at hE hI hz ⊢
  obtain ⟨oL, hoL⟩ : ∃ o, s.heap.get? Lg = some o := hLo
  have hLs : Lg < s.heap.objs.size := Heap.lt_size hoL
  have hbs : base.objs.size ≤ s.heap.objs.size := Nat.le_trans hL (Nat.le_of_lt hLs)
  have hns₃ : h₃.Ns Lg _ := F₂.ns.keeps hk₃
  have G₀ : GI base x t Lg (s.heap.objs.size + 1) s.heap.objs.size 0 h₃ := ⟨fun b o q => hk₃ b o (F₂.keep b o q), ⟨_, hns₃⟩, ⟨_, hE⟩, hI⟩
  have K₀ : Keep [Lg, s.heap.objs.size + 1, s.heap.objs.size] s.heap h₃ := fun b o hb q => hk₃ b o (k₂ _ _ b o hb q)
  refine wpAny_pyIter_enum hE ?_
  intro p
  clear hE hI hz hk₃ hns₃ F₂ N₂ z₂ k₂ hoL oL
  generalize s.heap.objs.size = it at *
  refine (?_ : ∀ (n i : Nat) (s₀ s₁ : Shared), i + n = x.cps.size → GI base x t Lg (it + 1) it i s₁.heap → Keep [Lg, it + 1, it] s₀.heap s₁.heap → s₁.gens = s₀.gens → s₁.os = s₀.os → Seg (model _ w) A (GR Lg (it + 1) it) (GY base x t Lg (it + 1) it) n s₀ _ _ _ s₁) x.cps.size 0 s _ (Nat.zero_add _) G₀ K₀ rfl rfl
  clear G₀ K₀
  intro n
  induction n with
  | zero =>
    intro i s₀ s₁ hi G Kp hg ho
    obtain rfl : i = x.cps.size := by omega
    refine seg_forLoop ?_
    obtain ⟨Gb, ⟨u, Gn⟩, GE, GS⟩ := G
    have W := fun (A' : Around) (h' : A'.handled = none) => WalksT.enumerateD (A := A') (draws_str (prog := PySem.Challenge.rw_om0101_01.row.prog) (w := w) (show A'.in1.handled = none from h') it x t) (it + 1) (Nat.succ_ne_self it) (fun q => Nat.succ_ne_self it (List.mem_singleton.mp q)) (List.mem_singleton.mpr rfl)
    refine (W _ (by exact hA)).done _ _ _ ⟨GE, GS⟩ fun h₄ tk₄ hk₄ => ?_
    try dsimp only
    refine seg_block_nil ?_
    have hLe : Lg ≠ it + 1 := Nat.ne_of_lt (Nat.lt_succ_of_lt hLs)
    have hLi : Lg ≠ it := Nat.ne_of_lt hLs
    have K₄ : Keep [Lg, it + 1, it] s₁.heap h₄ := fun b o hb q => hk₄ b o (fun q => hb (List.mem_cons.mpr (.inr q))) q
    have hn₄ : h₄.Ns Lg _ := Gn.at' fun o q => hk₄ _ _ (by simp [hLe, hLi]) q
    have hbe : base.get? (it + 1) = none := by
      cases q : base.get? (it + 1) with
      | none => rfl
      | some o => exact absurd (Nat.lt_of_lt_of_le (Heap.lt_size q) hbs) (by omega)
    have hbi : base.get? it = none := by
      cases q : base.get? it with
      | none => rfl
      | some o => exact absurd (Nat.lt_of_lt_of_le (Heap.lt_size q) hbs) (by omega)
    have Gb₄ : base.StaysIn h₄ := fun b o q => K₄ b o (by
      intro hb
      simp only [List.mem_cons, List.not_mem_nil, or_false] at hb
      rcases hb with rfl | rfl | rfl
      · rw [hLb] at q; cases q
      · rw [hbe] at q; cases q
      · rw [hbi] at q; cases q) (Gb b o q)
    have F₄ : Fr base Lg h₄ _ := ⟨hn₄, Gb₄, hL⟩
    have N₄ : News base Lg h₄ [] := News.nil
    refine seg_execs_cons (seg_If ?_)
    k_steps
    refine seg_end (.ok (.ret .none)) ⟨rfl, rfl, Kp.trans K₄, hg, ho⟩
  | succ n ih =>
    intro i s₀ s₁ hi G Kp hg ho
    refine seg_forLoop ?_
    obtain ⟨Gb, ⟨u, Gn⟩, GE, GS⟩ := G
    have W := fun (A' : Around) (h' : A'.handled = none) => WalksT.enumerateD (A := A') (draws_str (prog := PySem.Challenge.rw_om0101_01.row.prog) (w := w) (show A'.in1.handled = none from h') it x t) (it + 1) (Nat.succ_ne_self it) (fun q => Nat.succ_ne_self it (List.mem_singleton.mp q)) (List.mem_singleton.mpr rfl)
    refine (W _ (by exact hA)).item i _ _ _ (by omega) ⟨GE, GS⟩ fun T' vals h₄ tk₄ hPt hT' hT hMid hk₄ => ?_
    obtain ⟨u1, v, ⟨c, u2, hc, rfl⟩, rfl⟩ := hPt
    try dsimp only
    refine (W _ (by exact hA)).go _ _ _ i T' _ _ _ hMid fun h₅ hst₅ hk₅ => ?_
    have ht₅ : h₅.IsTuple T' _ := hT.at fun o q => hk₅ T' o ((W A hA).apart i T' h₄ hMid) q
    refine wpAny_assign_Tuple (by exact hA) ht₅ rfl rfl fun h₆ hx₆ => ?_
    dsimp only at hx₆ hk₅ hk₄ hT' ⊢
    have up₆ : ∀ b o, h₅.get? b = some o → h₆.get? b = some o := fun b o q => hx₆ b o (Nat.ne_of_lt (Heap.lt_size q)) q
    have hLe : Lg ≠ it + 1 := Nat.ne_of_lt (Nat.lt_succ_of_lt hLs)
    have hLi : Lg ≠ it := Nat.ne_of_lt hLs
    have K₆ : Keep [it + 1, it] s₁.heap h₆ := fun b o hb q => up₆ b o (hk₅ b o hb (hk₄ b o hb q))
    have hn₆ : h₆.Ns Lg _ := Gn.at' fun o q => K₆ _ _ (by simp [hLe, hLi]) q
    show wpAny _ _ (do holding [_] (assign (.Name _ _) _ _); do holding [] (assign (.Name _ _) _ _); pure ()) _ _ _
    refine wpAny_bind (wpAny_holding (wpAny_assign_Name (wpAny_storeName_local rfl hn₆ (fun h₇ hn₇ hs₇ => ?_))))
    refine wpAny_bind (wpAny_holding (wpAny_assign_Name (wpAny_storeName_local rfl hn₇ (fun h₈ hn₈ hs₈ => wpAny_pure ?_))))
    dsimp only at hs₇ hs₈ hn₇ hn₈ ⊢
    have hbe : base.get? (it + 1) = none := by
      cases q : base.get? (it + 1) with
      | none => rfl
      | some o => exact absurd (Nat.lt_of_lt_of_le (Heap.lt_size q) hbs) (by omega)
    have hbi : base.get? it = none := by
      cases q : base.get? it with
      | none => rfl
      | some o => exact absurd (Nat.lt_of_lt_of_le (Heap.lt_size q) hbs) (by omega)
    have K₈ : Keep [Lg, it + 1, it] s₁.heap h₈ := fun b o hb q => hs₈.extBut b o (fun q => hb (List.mem_cons.mpr (.inl q))) (hs₇.extBut b o (fun q => hb (List.mem_cons.mpr (.inl q))) (K₆ b o (fun q => hb (List.mem_cons.mpr (.inr q))) q))
    have Gb₈ : base.StaysIn h₈ := fun b o q => K₈ b o (by
      intro hb
      simp only [List.mem_cons, List.not_mem_nil, or_false] at hb
      rcases hb with rfl | rfl | rfl
      · rw [hLb] at q; cases q
      · rw [hbe] at q; cases q
      · rw [hbi] at q; cases q) (Gb b o q)
    have hst₈ := (W A hA).frame _ _ h₈ hst₅ fun b hb o q => hs₈.extBut b o (fun r => by subst r; simp at hb; rcases hb with hb | hb; exact hLe hb; exact hLi hb) (hs₇.extBut b o (fun r => by subst r; simp at hb; rcases hb with hb | hb; exact hLe hb; exact hLi hb) (up₆ b o q))
    obtain ⟨⟨old, hE₈⟩, hS₈⟩ := hst₈
    have F₈ : Fr base Lg h₈ _ := ⟨hn₈, Gb₈, hL⟩
    have N₈ : News base Lg h₈ [(it + 1, _)] := List.forall_mem_singleton.mpr ⟨hE₈, Ne.symm hLe, hbe⟩
    clear hs₇ hn₇ hs₈ hn₆ up₆ ht₅ hk₅ hk₄ hT hMid
    refine seg_execs_cons (seg_If ?_)
    k_steps
    refine seg_execs_cons (seg_If ?_)
    k_steps
    · rename_i a
      have e1 : (⟨#[c]⟩ : Str) = Str.ofString "\\" := by simpa using a
      have e2 : (Str.ofString "\\") = ⟨#[92]⟩ := by decide +kernel
      rw [e2] at e1
      have : c = 92 := by injection e1 with e3; simpa using e3
      exact absurd this (hx c (Array.mem_of_getElem? hc))
    refine seg_execs_cons (seg_Expr_Yield rfl rfl rfl ?_)
    refine Tuple_ ?_
    iterate 5 (first | walk1 | ((try dsimp only); walk1))
    refine wpAny_newTuple ?_
    intro kap hkap
    have hLz : Lg < h₈.objs.size := by obtain ⟨o, _, _, q, _⟩ := hn₈; exact Heap.lt_size q
    have hez : it + 1 < h₈.objs.size := Heap.lt_size hE₈
    have hnm : h₈.objs.size ∉ [Lg, it + 1, it] := by
      simp only [List.mem_cons, List.not_mem_nil, or_false, not_or]
      exact ⟨by omega, by omega, by omega⟩
    have K₉ : Keep [Lg, it + 1, it] s₀.heap h₈ := Kp.trans K₈
    refine ⟨i, c, u1, u2, h₈.objs.size, by omega, hc, rfl, ?_, hnm, Heap.get?_push_size _ rfl, fun b o hb q => Heap.get?_push_of_some _ (K₉ b o hb q), hg, ho, ⟨fun b o q => Heap.get?_push_of_some _ (Gb₈ b o q), ⟨fun y => if y = Str.ofString "ch" then some (.str ⟨#[c]⟩ u2) else if y = Str.ofString "pos" then some (.int i u1) else u y, ?_⟩, ⟨old, Heap.get?_push_of_some _ hE₈⟩, ?_⟩, fun s'' G'' => hkap .none s'' ?_⟩
    · cases q : s₀.heap.get? h₈.objs.size with
      | none => rfl
      | some o => exact absurd (Heap.lt_size (K₉ _ _ hnm q)) (Nat.lt_irrefl _)
    · obtain ⟨o, es, ep, q, r⟩ := hn₈
      have e : (fun y => if y = Str.ofString "ch" then some (Value.str ⟨#[c]⟩ u2) else if y = Str.ofString "pos" then some (Value.int i u1) else if y = Str.ofString "escape" then some (Value.bool false) else u y) =
          (fun y => if y = Str.ofString "escape" then some (Value.bool false) else if y = Str.ofString "ch" then some (Value.str ⟨#[c]⟩ u2) else if y = Str.ofString "pos" then some (Value.int i u1) else u y) := by
        funext y
        by_cases h1 : y = Str.ofString "escape"
        · subst h1
          rw [if_neg (by decide +kernel), if_neg (by decide +kernel), if_pos rfl, if_pos rfl]
        · rw [if_neg h1]
          split
          · rfl
          · split
            · rfl
            · first | rfl | rw [if_neg h1]
      rw [← e]
      exact ⟨o, es, ep, Heap.get?_push_of_some _ q, r⟩
    · obtain ⟨o, q, r⟩ := hS₈
      exact ⟨o, Heap.get?_push_of_some _ q, r⟩
    · exact seg_again rfl (ih (i + 1) s'' s'' (by omega) G'' Keep.refl rfl rfl)
end
section
theorem wd09x13 : True := by
  k_with_none
  k_with "omega" => (omega (splitDisjunctions := true))
  k_with "om2" => (first | lia | omega (splitDisjunctions := true))
  k_with "eval Name" => ((k_here; (with_reducible show wpAny _ _ (eval _ (envOf _ _ _ _ _)) _ _ _); k_dflt (refine' nmL ?yF ?yv ?yx ?yk ?yd ?_; (case yF => k_asm); (case yk => exact rfl); (case yx => exact rfl); (case yd => exact rfl); (case yv => exact rfl); k_whole)))
  k_with "storeName" => ((k_here; (with_reducible show wpAny _ _ (storeName (envOf _ _ _ _ _) _ _) _ _ _); k_dflt (refine' stoLe ?yF ?yN ?yx ?yk ?_; (case yF => k_asm); (case yN => k_asm); (case yk => exact rfl); (case yx => exact rfl); k_whole; intro m'ω h'ω F'ω N'ω; (try k_sweep))))
  k_with "eval Name" => ((k_here; (with_reducible show wpAny _ _ (eval _ (envOfC _ _ _ _ _)) _ _ _); k_dflt (refine' nmLC ?yF ?yv ?yk ?yx ?yd ?_; (case yF => k_asm); (case yk => exact rfl); (case yx => exact rfl); (case yd => exact rfl); (case yv => exact rfl); k_whole)))
  k_with "storeName" => ((k_here; (with_reducible show wpAny _ _ (storeName (envOfC _ _ _ _ _) _ _) _ _ _); k_dflt (refine' stoLCe ?yF ?yN ?yk ?yx ?_; (case yF => k_asm); (case yN => k_asm); (case yk => exact rfl); (case yx => exact rfl); k_whole; intro m'ω h'ω F'ω N'ω; (try k_sweep))))
  k_with "execs cons" => ((k_here; (first | (with_reducible show wpAny _ _ (execs _ _) (AtF _) _ _) | (refine execs_abs ?_; intro Q8ω q8ω)); k_dflt (refine execs_gen ?_); intro Q7ω t7ω g7ω o7ω; (try dsimp only)))
  k_with "AtF" => ((with_reducible first | refine AtF.go (by assumption) ?_ | (refine AtF.out (by assumption) (fun z => Flow.noConfusion z) ?_) | (refine AtF.fin (by assumption) ?_; (try dsimp only))))
  k_with "room" => (k_dflt (first | exact rm2 (by assumption) rfl | exact rm1 (by assumption) rfl | exact rm3 (by assumption) rfl | exact rm4 (by assumption) rfl | exact rm0 (by assumption)))
  k_with "kne" => ((refine neN ?_; (try dsimp only); k_extra "ne"))
  k_with "cj" => (first | exact And.left | exact id | (refine cjs ?_; k_extra "cj"))
  k_with "ne" => (with_reducible first | assumption | exact lne (by assumption) | exact gne (by assumption) | exact sne (by assumption) | exact suc | exact suc2 | exact sne suc | exact sne suc2 | (refine ltc (by assumption) ?_; k_extra "cj") | (refine gtc (by assumption) ?_; k_extra "cj") | (refine nec (by assumption) ?_; k_extra "cj") | (refine nfc (by assumption) ?_; k_extra "cj"))
  trivial
section
variable {w : World} {A : Around} {E : Value → Shared → Prop} {s : Shared} {base : Heap} {x : Str} {t : Tok} {Lg e it a : Addr} {g i : Nat} {gs : GenState}

def GenAt (w : World) (A : Around) (base : Heap) (x : Str) (t : Tok) (Lg e it : Addr) (i : Nat) (gs : GenState) : Prop :=
  ∀ s, GI base x t Lg e it i s.heap → gs.Goes (model PySem.Challenge.rw_om0101_01.row.prog w) A (GR Lg e it) (GY base x t Lg e it) (x.cps.size - i) (.send .none) s

theorem bare_set {gens : Array GenState} {g : Nat} {gs : GenState} (h : AllBare gens) (hb : gs.bare = true) : AllBare (gens.setIfInBounds g gs) := fun y hy => by
  rcases Array.mem_or_eq_of_mem_setIfInBounds hy with q | rfl
  · exact h y q
  · exact hb

/-- the next of a generator at i: a pair, or the end -/
theorem next_gen {Q : Option Value → Shared → Prop} (hA : A.handled = none) (hl : s.heap.NoLimit) (hroom : A.depth < recursionLimit) (hg : s.heap.IsGen a g) (hgs : s.gens[g]? = some gs) (hi : i ≤ x.cps.size)
    (hgo : gs.Goes (model PySem.Challenge.rw_om0101_01.row.prog w) A.in1 (GR Lg e it) (GY base x t Lg e it) (x.cps.size - i) (.send .none) (s.setGen g .running))
    (hY : ∀ s' gs' T c u1 u2, i < x.cps.size → x.cps[i]? = some c → GenAt w A.in1 base x t Lg e it (i + 1) gs' → s.heap.get? T = none → T ∉ [Lg, e, it] →
      s'.heap.get? T = some { cls := .type "tuple", data := .seq #[.int i u1, .str ⟨#[c]⟩ u2] } → Keep [Lg, e, it] s.heap s'.heap → s'.gens[g]? = some gs' → (AllBare s.gens → AllBare s'.gens) → s'.os = s.os → GI base x t Lg e it (i + 1) s'.heap → Q (some (.ref T)) s')
    (hP : ∀ s', i = x.cps.size → Keep [Lg, e, it] s.heap s'.heap → (AllBare s.gens → AllBare s'.gens) → s'.os = s.os → Q none s') :
    wpAny (model PySem.Challenge.rw_om0101_01.row.prog w) A (pyNext (.ref a)) Q E s := by
  have hlt : g < s.gens.size := by
    rcases Nat.lt_or_ge g s.gens.size with q | q
    · exact q
    · rw [Array.getElem?_eq_none q] at hgs; cases hgs
  have fin : ∀ (s₁ : Shared) h', GP Lg e it (x.cps.size - i) (s.setGen g .running) s₁ → (∀ b o, s₁.heap.get? b = some o → h'.get? b = some o) → Q none { s₁.setGen g .finished with heap := h' } := by
    intro s₁ h' hp hk
    obtain ⟨hn, hK, hgn, hos⟩ := hp
    refine hP _ (by omega) (fun b o hb q => hk b o (hK b o hb q)) (fun hb => ?_) hos
    show AllBare (s₁.gens.setIfInBounds g .finished)
    rw [hgn]
    exact bare_set (bare_set hb rfl) rfl
  have go : ∀ v s₁ gs', gs'.bare = true → GY base x t Lg e it (x.cps.size - i - 1) (s.setGen g .running) v s₁ (fun r' s'' => match x.cps.size - i with
        | 0 => False
        | m + 1 => gs'.Goes (model PySem.Challenge.rw_om0101_01.row.prog w) A.in1 (GR Lg e it) (GY base x t Lg e it) m r' s'') → Q (some v) (s₁.setGen g gs') := by
    rintro v s₁ gs' hb ⟨j, c, u1, u2, T, hj, hc, rfl, hf, hT, hget, hK, hgn, hos, G, kap⟩
    have hpos : i < x.cps.size := by
      rcases Nat.lt_or_ge i x.cps.size with q | q
      · exact q
      · have z : x.cps.size - i = 0 := by omega
        have := kap s₁ G
        rw [z] at this
        exact this.elim
    obtain rfl : j = i := by omega
    refine hY _ gs' T c u1 u2 hpos hc (fun s'' G'' => ?_) hf hT hget hK ?_ (fun hb' => ?_) hos G
    · have := kap s'' G''
      rw [show x.cps.size - j = (x.cps.size - (j + 1)) + 1 from by omega] at this
      exact this
    · show (s₁.gens.setIfInBounds g gs')[g]? = some gs'
      rw [hgn]
      show ((s.gens.setIfInBounds g .running).setIfInBounds g gs')[g]? = some gs'
      rw [Array.getElem?_setIfInBounds_self_of_lt]
      simpa using hlt
    · show AllBare (s₁.gens.setIfInBounds g gs')
      rw [hgn]
      exact bare_set (bare_set hb' rfl) hb
  unfold pyNext
  refine wpAny_bind (wpAny_attempt (wpAny_callSpecial?_slot (name := Str.ofString "__next__") hg.typeIs slot_gen_next (wpAny_call_entry slot_gen_next hg.typeIs entry_gen_next ?_ (args_gen_next _))))
  show wpAny _ A.in1 (Builtin.Generator.genWake (.ref a) (.send .none)) _ _ s
  unfold Builtin.Generator.genWake
  refine wpAny_bind (wpAny_holding (wpAny_genNumber hg (wpAny_bind (wpAny_genState hgs ?_))))
  have wake : ∀ (k : GenResult → Sem Fin) (Q' : Fin → Shared → Prop) (E' : Value → Shared → Prop),
      (∀ s₁, GP Lg e it (x.cps.size - i) (s.setGen g .running) s₁ → wpAny (model PySem.Challenge.rw_om0101_01.row.prog w) A.in1 (k (.returned .none)) Q' E' (s₁.setGen g .finished)) →
      (∀ (v : Value) (s₁ : Shared) (gs' : GenState), Q (some v) (s₁.setGen g gs') → wpAny (model PySem.Challenge.rw_om0101_01.row.prog w) A.in1 (k (.yielded v)) Q' E' (s₁.setGen g gs')) → wpAny (model PySem.Challenge.rw_om0101_01.row.prog w) A.in1 (.resume g (.send .none) [] k) Q' E' s := by
    intro k Q' E' h1 h2
    refine wpAny_resumeQ hgs hgo (fun r s₁ hr => ?_) (fun v s₁ gs' hb hv => h2 v s₁ gs' (go v s₁ gs' hb hv))
    obtain ⟨rfl, hp⟩ := hr
    exact h1 s₁ hp
  cases gs with
  | running => exact hgo.elim
  | finished => exact hgo.elim
  | _ =>
    refine wpAny_bind (wpAny_roomToWake hl hroom ?_)
    show wpAny _ A.in1 (.resume g (.send .none) [] _) _ _ s
    refine wake _ _ _ (fun s₁ hp => ?_) (fun v s₁ gs' hq => wpAny_pure ⟨v, rfl, wpAny_pure hq⟩)
    show wpAny _ A.in1 (newExc (.type "StopIteration") [] >>= _) _ _ _
    refine wpAny_bind ?_
    simp only [newExc, newTuple]
    refine wpAny_bind (wpAny_newObj_type ?_ (by size_fits))
    refine wpAny_bind (m := firstArgMember _ _) (wpAny_of_eq (a := Value.none) (by first | rfl | (simp only [firstArgMember]; rfl)) ?_)
    refine wpAny_newObj_type ?_ (by size_fits)
    simp only [raiseNew]
    refine wpAny_bind (wpAny_bind (wpAny_handled ?_))
    rw [show A.in1.handled = none from hA]
    refine wpAny_throw (wpAny_bind (wpAny_isInstance (T := "StopIteration") (b := true) ⟨_, Heap.get?_push_size _ rfl, rfl⟩ isSubtype_stop (wpAny_pure ?_)))
    exact fin s₁ _ hp fun b o hb => Heap.get?_push_of_some _ (Heap.get?_push_of_some _ hb)
end
end
section
theorem wd10x14 : True := by
  k_with_none
  k_with "omega" => (omega (splitDisjunctions := true))
  k_with "om2" => (first | lia | omega (splitDisjunctions := true))
  k_with "eval Name" => ((k_here; (with_reducible show wpAny _ _ (eval _ (envOf _ _ _ _ _)) _ _ _); k_dflt (refine' nmL ?yF ?yv ?yx ?yk ?yd ?_; (case yF => k_asm); (case yk => exact rfl); (case yx => exact rfl); (case yd => exact rfl); (case yv => exact rfl); k_whole)))
  k_with "storeName" => ((k_here; (with_reducible show wpAny _ _ (storeName (envOf _ _ _ _ _) _ _) _ _ _); k_dflt (refine' stoLe ?yF ?yN ?yx ?yk ?_; (case yF => k_asm); (case yN => k_asm); (case yk => exact rfl); (case yx => exact rfl); k_whole; intro m'ω h'ω F'ω N'ω; (try k_sweep))))
  k_with "eval Name" => ((k_here; (with_reducible show wpAny _ _ (eval _ (envOfC _ _ _ _ _)) _ _ _); k_dflt (refine' nmLC ?yF ?yv ?yk ?yx ?yd ?_; (case yF => k_asm); (case yk => exact rfl); (case yx => exact rfl); (case yd => exact rfl); (case yv => exact rfl); k_whole)))
  k_with "storeName" => ((k_here; (with_reducible show wpAny _ _ (storeName (envOfC _ _ _ _ _) _ _) _ _ _); k_dflt (refine' stoLCe ?yF ?yN ?yk ?yx ?_; (case yF => k_asm); (case yN => k_asm); (case yk => exact rfl); (case yx => exact rfl); k_whole; intro m'ω h'ω F'ω N'ω; (try k_sweep))))
  k_with "execs cons" => ((k_here; (first | (with_reducible show wpAny _ _ (execs _ _) (AtF _) _ _) | (refine execs_abs ?_; intro Q8ω q8ω)); k_dflt (refine execs_gen ?_); intro Q7ω t7ω g7ω o7ω; (try dsimp only)))
  k_with "AtF" => ((with_reducible first | refine AtF.go (by assumption) ?_ | (refine AtF.out (by assumption) (fun z => Flow.noConfusion z) ?_) | (refine AtF.fin (by assumption) ?_; (try dsimp only))))
  k_with "room" => (k_dflt (first | exact rm2 (by assumption) rfl | exact rm1 (by assumption) rfl | exact rm3 (by assumption) rfl | exact rm4 (by assumption) rfl | exact rm0 (by assumption)))
  k_with "kne" => ((refine neN ?_; (try dsimp only); k_extra "ne"))
  k_with "cj" => (first | exact And.left | exact id | (refine cjs ?_; k_extra "cj"))
  k_with "ne" => (with_reducible first | assumption | exact lne (by assumption) | exact gne (by assumption) | exact sne (by assumption) | exact suc | exact suc2 | exact sne suc | exact sne suc2 | (refine ltc (by assumption) ?_; k_extra "cj") | (refine gtc (by assumption) ?_; k_extra "cj") | (refine nec (by assumption) ?_; k_extra "cj") | (refine nfc (by assumption) ?_; k_extra "cj"))
  trivial
section
variable {w : World} {A : Around} {E : Value → Shared → Prop} {s : Shared} {base h₀ : Heap} {x : Str} {t : Tok} {Lg a g : Nat} {gs : GenState} {env : Env}

theorem go_gen {M : Model} {elts : List PySem.Expr} {k : Nat} {pos : Pos} {T : Addr} {Q : Unit → Shared → Prop} (hg : s.heap.IsGen a g) (h : Q () s) :
    wpAny M A (letOwnedTupleGo (.Tuple elts k pos) (.ref a) (.ref T)) Q E s := by
  obtain ⟨o, nm, qn, ho, hc, hd, _⟩ := hg
  unfold letOwnedTupleGo
  refine wpAny_bind (wpAny_load ho ?_)
  rw [hc, hd]
  exact wpAny_pure h

inductive GOk (h₀ : Heap) (L : Addr) (own : List (Addr × Obj)) (D : List Addr) (Jn : (Str → Option Value) → List (Addr × Obj) → Prop) (s₁ s₂ : Shared) : Prop
  | mk (h' : Heap) (tk : Nat) (m₂ : Str → Option Value) (news₂ : List (Addr × Obj)) (e : s₂ = { s₁ with heap := h', toks := tk }) (f : Fr h₀ L h' m₂) (n : News h₀ L h' (own ++ news₂)) (a : ∀ p ∈ news₂, p.1 ∉ D) (j : Jn m₂ news₂) : GOk h₀ L own D Jn s₁ s₂
def GStep (h₀ : Heap) (L : Addr) (own : List (Addr × Obj)) (D : List Addr) (Jn : (Str → Option Value) → List (Addr × Obj) → Prop) (R : Result → Shared → Prop) (s₁ : Shared) (f : Flow) (s₂ : Shared) : Prop :=
  match f with
  | .ret v => R (.ok (.ret v)) s₂
  | .brk => R (.ok .next) s₂
  | _ => GOk h₀ L own D Jn s₁ s₂

theorem ex4b {p0 p1 p2 p3 p4 p5 p6 p7 p8 p9 p10 : Nat → (Str → Option Value) → (List (Addr × Obj)) → GenState → Prop} {C : Prop} (h : ∃ x0 x1 x2 x3, p0 x0 x1 x2 x3 ∧ p1 x0 x1 x2 x3 ∧ p2 x0 x1 x2 x3 ∧ p3 x0 x1 x2 x3 ∧ p4 x0 x1 x2 x3 ∧ p5 x0 x1 x2 x3 ∧ p6 x0 x1 x2 x3 ∧ p7 x0 x1 x2 x3 ∧ p8 x0 x1 x2 x3 ∧ p9 x0 x1 x2 x3 ∧ p10 x0 x1 x2 x3) (k : ∀ x0 x1 x2 x3, p0 x0 x1 x2 x3 → p1 x0 x1 x2 x3 → p2 x0 x1 x2 x3 → p3 x0 x1 x2 x3 → p4 x0 x1 x2 x3 → p5 x0 x1 x2 x3 → p6 x0 x1 x2 x3 → p7 x0 x1 x2 x3 → p8 x0 x1 x2 x3 → p9 x0 x1 x2 x3 → p10 x0 x1 x2 x3 → C) : C := by
  obtain ⟨x0, x1, x2, x3, h0, h1, h2, h3, h4, h5, h6, h7, h8, h9, h10⟩ := h
  exact k _ _ _ _ h0 h1 h2 h3 h4 h5 h6 h7 h8 h9 h10
theorem for_gen {R : Result → Shared → Prop} {xi xc : Str} {pk pv pt : Pos} {x1 : Nat} {body : List Stmt} {m : Str → Option Value} {news : List (Addr × Obj)}
    (hA : A.handled = none) (hd : A.depth + 3 < recursionLimit) (hu : A.units + 10 < cLine) (hlim : base.NoLimit) (hbL : base.objs.size ≤ Lg) (hbh : base.StaysIn h₀)
    (hxi : env.kindOf xi = some .local) (hxc : env.kindOf xc = some .local) (hp : (env.scope.kind == .class || (env.scope.kind == .module && env.locals != env.globals)) = false)
    (F : Fr h₀ env.locals s.heap m) (N : News h₀ env.locals s.heap news)
    (hg : s.heap.IsGen a g) (hgs : s.gens[g]? = some gs) (hfresh : GenFresh w base x t Lg gs) (hns : s.heap.Ns Lg (fun y => [((Str.ofString "addr"), Value.str x t)].reverse.lookup y))
    (hLa : Lg < a) (hL₀ : h₀.get? Lg = none) (ha₀ : h₀.get? a = none) (hLL : Lg ≠ env.locals) (haL : a ≠ env.locals) (hnL : ∀ p ∈ news, p.1 ≠ Lg)
    (J : Nat → (Str → Option Value) → List (Addr × Obj) → Prop) (h0 : J 0 m news)
    (step : ∀ i c u1 u2 m₁ news₁ s₁ oa oL oe oi, i < x.cps.size → x.cps[i]? = some c → J i m₁ news₁ → (AllBare s.gens → AllBare s₁.gens) → s₁.os = s.os →
      Fr h₀ env.locals s₁.heap (fun y => if y = xc then some (.str ⟨#[c]⟩ u2) else if y = xi then some (.int i u1) else m₁ y) →
      News h₀ env.locals s₁.heap ([(s.heap.objs.size + 1, oe), (s.heap.objs.size, oi), (a, oa), (Lg, oL)] ++ news₁) →
      wpAny (model PySem.Challenge.rw_om0101_01.row.prog w) A (execs body env) (GStep h₀ env.locals [(s.heap.objs.size + 1, oe), (s.heap.objs.size, oi), (a, oa), (Lg, oL)] [Lg, s.heap.objs.size + 1, s.heap.objs.size] (J (i + 1)) R s₁) (fun _ _ => False) s₁)
    (hR : ∀ s' m' news', Fr h₀ env.locals s'.heap m' → News h₀ env.locals s'.heap news' → J x.cps.size m' news' → (AllBare s.gens → AllBare s'.gens) → s'.os = s.os → R (.ok .next) s') :
    codeAny (model PySem.Challenge.rw_om0101_01.row.prog w) A (.forLoop (.Tuple [.Name xi pk, .Name xc pv] x1 pt) (.ref a) body [] env) R s := by
  have hag : @LT.lt Nat _ a s.heap.objs.size := by obtain ⟨o, _, _, q, _⟩ := hg; exact Heap.lt_size q
  have hLs : @LT.lt Nat _ env.locals s.heap.objs.size := by obtain ⟨o, _, _, q, _⟩ := F.ns; exact Heap.lt_size q
  have hnz : ∀ p ∈ news, @LT.lt Nat _ p.1 s.heap.objs.size := fun p hp => Heap.lt_size (N p hp).1
  have h₀z : ∀ (b : Nat) o, h₀.get? b = some o → b < s.heap.objs.size := fun b o q => Heap.lt_size (F.keep b o q)
  generalize hit : s.heap.objs.size = it at *
  have hfr := fun (s' : Shared) b' l' => hfresh A.in1 (s'.setGen g .running) hA (by show A.depth + 2 < recursionLimit; omega) (by show A.units + 1 + 8 < cLine; omega) b' hbL l'
  have hD₀ : ∀ b o, h₀.get? b = some o → b ∉ [Lg, it + 1, it] := fun b o q hb => by
    simp only [List.mem_cons, List.not_mem_nil, or_false] at hb
    rcases hb with rfl | rfl | rfl
    · rw [hL₀] at q; cases q
    · have := h₀z _ _ q; omega
    · have := h₀z _ _ q; omega
  have hDL : env.locals ∉ [Lg, it + 1, it] := by
    simp only [List.mem_cons, List.not_mem_nil, or_false, not_or]
    exact ⟨Ne.symm hLL, neN (by first | k_extra "ne" | omega), neN (by first | k_extra "ne" | omega)⟩
  have hDa : a ∉ [Lg, it + 1, it] := by
    simp only [List.mem_cons, List.not_mem_nil, or_false, not_or]
    exact ⟨by omega, by omega, by omega⟩
  have hDn : ∀ p ∈ news, p.1 ∉ [Lg, it + 1, it] := fun p hp => by
    have := hnz p hp
    simp only [List.mem_cons, List.not_mem_nil, or_false, not_or]
    exact ⟨hnL p hp, neN (by first | k_extra "ne" | omega), neN (by first | k_extra "ne" | omega)⟩
  refine codeAny_forLoop_any (fun k s' => ∃ i m' news' gs', k = x.cps.size + 1 - i ∧ i ≤ x.cps.size ∧ Fr h₀ env.locals s'.heap m' ∧ News h₀ env.locals s'.heap news' ∧ (∀ p ∈ news', p.1 ∉ [Lg, it + 1, it]) ∧ J i m' news' ∧ s'.heap.IsGen a g ∧ s'.gens[g]? = some gs' ∧
      (AllBare s.gens → AllBare s'.gens) ∧ s'.os = s.os ∧ gs'.Goes (model PySem.Challenge.rw_om0101_01.row.prog w) A.in1 (GR Lg (it + 1) it) (GY base x t Lg (it + 1) it) (x.cps.size - i) (.send .none) (s'.setGen g .running)) ?_ (x.cps.size + 1)
    ⟨0, m, news, gs, rfl, Nat.zero_le _, F, N, hDn, h0, hg, hgs, id, rfl, ?_⟩
  · intro k s' hk
    refine ex4b hk ?_
    clear hk
    intro i m' news' gs' ek hi F' N' hn' hJ hg' hgs' hb' ho' hgo
    subst ek
    refine next_gen hA ((hlim.keeps hbh).keeps F'.keep) (by omega) hg' hgs' hi hgo ?_ ?_
    · intro s₁ gs₁ T c u1 u2 hlt hc hat hT0 hTn hTg hK hgs₁ hb₁ ho₁ G₁
      try dsimp only
      have hg₁ : s₁.heap.IsGen a g := by
        obtain ⟨o, nm, qn, q, r⟩ := hg'
        exact ⟨o, nm, qn, hK _ _ hDa q, r⟩
      refine go_gen hg₁ ?_
      have F₁ : Fr h₀ env.locals s₁.heap m' := by
        obtain ⟨o, es, ep, q, r⟩ := F'.ns
        exact ⟨⟨o, es, ep, hK _ _ hDL q, r⟩, fun b o q => hK _ _ (hD₀ b o q) (F'.keep b o q), F'.above⟩
      have N₁ : News h₀ env.locals s₁.heap news' := fun p hp => ⟨hK _ _ (hn' p hp) (N' p hp).1, (N' p hp).2⟩
      refine wpAny_assign_Tuple hA (t := T) ⟨_, hTg, rfl, ⟨0, rfl⟩⟩ rfl rfl fun h₃ hx₃ => ?_
      have up₃ : ∀ b o, s₁.heap.get? b = some o → h₃.get? b = some o := fun b o q => hx₃ b o (Nat.ne_of_lt (Heap.lt_size q)) q
      have F₃ : Fr h₀ env.locals h₃ m' := by
        obtain ⟨o, es, ep, q, r⟩ := F₁.ns
        exact ⟨⟨o, es, ep, up₃ _ _ q, r⟩, fun b o q => up₃ _ _ (F₁.keep b o q), F₁.above⟩
      have N₃ : News h₀ env.locals h₃ news' := fun p hp => ⟨up₃ _ _ (N₁ p hp).1, (N₁ p hp).2⟩
      show wpAny _ A (do holding [_] (assign (.Name xi pk) env _); do holding [] (assign (.Name xc pv) env _); pure ()) _ _ _
      refine wpAny_bind (wpAny_holding (wpAny_assign_Name (wpAny_storeName_local hxi F₃.ns (fun h₄ hn₄ hs₄ => ?_) hp)))
      have F₄ := F₃.set hn₄ hs₄
      refine wpAny_bind (wpAny_holding (wpAny_assign_Name (wpAny_storeName_local hxc F₄.ns (fun h₅ hn₅ hs₅ => wpAny_pure ?_) hp)))
      have F₅ := F₄.set hn₅ hs₅
      have N₅ : News h₀ env.locals h₅ news' := (N₃.set hs₄).set hs₅
      have up₅ : ∀ b o, b ≠ env.locals → s₁.heap.get? b = some o → h₅.get? b = some o := fun b o hb q => hs₅.extBut b o hb (hs₄.extBut b o hb (up₃ b o q))
      have G₅ : GI base x t Lg (it + 1) it (i + 1) h₅ := by
        obtain ⟨Gb, ⟨u, Gn⟩, ⟨old, GE⟩, GS⟩ := G₁
        refine ⟨fun b o q => F₅.keep _ _ (hbh b o q), ⟨u, ?_⟩, ⟨old, up₅ _ _ (neN (by first | k_extra "ne" | omega)) GE⟩, ?_⟩
        · obtain ⟨o, es, ep, q, r⟩ := Gn
          exact ⟨o, es, ep, up₅ _ _ hLL q, r⟩
        · obtain ⟨o, q, r⟩ := GS
          exact ⟨o, up₅ _ _ (neN (by first | k_extra "ne" | omega)) q, r⟩
      obtain ⟨oL, hoL⟩ : ∃ o, h₅.get? Lg = some o := by obtain ⟨_, ⟨u, Gn⟩, _⟩ := G₅; obtain ⟨o, _, _, q, _⟩ := Gn; exact ⟨o, q⟩
      obtain ⟨oe, hoe⟩ : ∃ o, h₅.get? (it + 1) = some o := by obtain ⟨_, _, ⟨old, GE⟩, _⟩ := G₅; exact ⟨_, GE⟩
      obtain ⟨oi, hoi⟩ : ∃ o, h₅.get? it = some o := by obtain ⟨_, _, _, GS⟩ := G₅; obtain ⟨o, q, _⟩ := GS; exact ⟨o, q⟩
      obtain ⟨oa, nma, qna, hoa, hra⟩ := hg₁
      have h₀e : h₀.get? (it + 1) = none := by
        cases q : h₀.get? (it + 1) with
        | none => rfl
        | some o => have := h₀z _ _ q; omega
      have h₀i : h₀.get? it = none := by
        cases q : h₀.get? it with
        | none => rfl
        | some o => have := h₀z _ _ q; omega
      have N₆ : News h₀ env.locals h₅ ([(it + 1, oe), (it, oi), (a, oa), (Lg, oL)] ++ news') := by
        intro p hp
        rcases List.mem_append.mp hp with hp | hp
        · simp only [List.mem_cons, List.not_mem_nil, or_false] at hp
          rcases hp with rfl | rfl | rfl | rfl
          · exact ⟨hoe, neN (by first | k_extra "ne" | omega), h₀e⟩
          · exact ⟨hoi, neN (by first | k_extra "ne" | omega), h₀i⟩
          · exact ⟨up₅ _ _ haL hoa, haL, ha₀⟩
          · exact ⟨hoL, hLL, hL₀⟩
        · exact N₅ p hp
      refine wpAny_mono (step i c u1 u2 m' news' { s₁ with heap := h₅, toks := _ } oa oL oe oi hlt hc hJ (fun z => hb₁ (hb' z)) (ho₁.trans ho') F₅ N₆) (fun f s₃ hf => ?_) fun _ _ z => z.elim
      have again : ∀ T, GOk h₀ env.locals [(it + 1, oe), (it, oi), (a, oa), (Lg, oL)] [Lg, it + 1, it] (J (i + 1)) ⟨h₅, s₁.gens, s₁.drawn, T, s₁.os⟩ s₃ → ∃ k', k' < x.cps.size + 1 - i ∧ ∃ i m' news' gs', k' = x.cps.size + 1 - i ∧ i ≤ x.cps.size ∧ Fr h₀ env.locals s₃.heap m' ∧ News h₀ env.locals s₃.heap news' ∧ (∀ p ∈ news', p.1 ∉ [Lg, it + 1, it]) ∧ J i m' news' ∧ s₃.heap.IsGen a g ∧ s₃.gens[g]? = some gs' ∧
          (AllBare s.gens → AllBare s₃.gens) ∧ s₃.os = s.os ∧ gs'.Goes (model PySem.Challenge.rw_om0101_01.row.prog w) A.in1 (GR Lg (it + 1) it) (GY base x t Lg (it + 1) it) (x.cps.size - i) (.send .none) (s₃.setGen g .running) := by
        rintro T ⟨h', tk, m₂, news₂, rfl, F₇, N₇, hn₇, hJ₇⟩
        have k1 := (N₇ (it + 1, oe) (by simp)).1
        have k2 := (N₇ (it, oi) (by simp)).1
        have k3 := (N₇ (a, oa) (by simp)).1
        have k4 := (N₇ (Lg, oL) (by simp)).1
        refine ⟨x.cps.size + 1 - (i + 1), by omega, i + 1, m₂, news₂, gs₁, rfl, hlt, F₇, fun p hp => N₇ p (List.mem_append_right _ hp), hn₇, hJ₇, ⟨oa, nma, qna, k3, hra⟩, hgs₁, fun z => hb₁ (hb' z), ho₁.trans ho', hat _ ?_⟩
        obtain ⟨Gb, ⟨u, Gn⟩, ⟨old, GE⟩, GS⟩ := G₅
        refine ⟨fun b o q => F₇.keep _ _ (hbh b o q), ⟨u, ?_⟩, ⟨old, ?_⟩, ?_⟩
        · obtain ⟨o, es, ep, q, r⟩ := Gn
          rw [hoL] at q; cases q
          exact ⟨_, es, ep, k4, r⟩
        · have q := hoe.symm.trans GE
          cases q
          exact k1
        · obtain ⟨o, q, r⟩ := GS
          rw [hoi] at q; cases q
          exact ⟨_, k2, r⟩
      cases f with
      | ret v => exact hf
      | brk => exact hf
      | next => exact again _ hf
      | cont => exact again _ hf
    · intro s₁ hi' hK hb₁ ho₁
      try dsimp only
      subst hi'
      refine wpAny_execs_nil (hR s₁ m' news' ?_ (fun p hp => ⟨hK _ _ (hn' p hp) (N' p hp).1, (N' p hp).2⟩) hJ (fun z => hb₁ (hb' z)) (ho₁.trans ho'))
      obtain ⟨o, es, ep, q, r⟩ := F'.ns
      exact ⟨⟨o, es, ep, hK _ _ hDL q, r⟩, fun b o q => hK _ _ (hD₀ b o q) (F'.keep b o q), F'.above⟩
  · have := hfr s (fun b o q => F.keep _ _ (hbh b o q)) hns
    rw [show (s.setGen g .running).heap.objs.size = it from hit] at this
    exact this
end
section
variable {w : World} {A : Around} {g h h₁ : Heap} {gens : Array GenState} {drawn : Drawn} {tk : Nat} {os : OsState} {x : Str} {t : Tok} {a : Nat} {gs : GenState} {env : Env}

theorem iter_loop {mean : ExcName → Option Value} {mg mb : Str → Option Value} {R : Result → Shared → Prop} {xi xc : Str} {pk pv pt : Pos} {x1 : Nat} {body : List Stmt} {m : Str → Option Value} {news : List (Addr × Obj)}
    (T : Top vw loo mean mg mb g) (F : Fr g env.locals h m) (N : News g env.locals h news) (hfresh : GenFresh w g x t h.objs.size gs)
    (hns : h₁.Ns h.objs.size (fun y => [((Str.ofString "addr"), Value.str x t)].reverse.lookup y)) (hk : ∀ b o, h.get? b = some o → h₁.get? b = some o) (hg : h₁.IsGen a gens.size) (hlt : h.objs.size < a) (hbare : gs.bare = true)
    (hA : A.handled = none) (hd : A.depth + 3 < recursionLimit) (hu : A.units + 10 < cLine)
    (hxi : env.kindOf xi = some .local) (hxc : env.kindOf xc = some .local) (hp : (env.scope.kind == .class || (env.scope.kind == .module && env.locals != env.globals)) = false)
    (J : Nat → (Str → Option Value) → List (Addr × Obj) → Prop) (h0 : J 0 m news)
    (step : ∀ i c u1 u2 m₁ news₁ s₁ oa oL oe oi (Lg it : Nat), i < x.cps.size → x.cps[i]? = some c → J i m₁ news₁ → (AllBare gens → AllBare s₁.gens) → s₁.os = os → (∀ p ∈ news, p.1 < Lg) → Lg < a → a < it →
      Fr g env.locals s₁.heap (fun y => if y = xc then some (.str ⟨#[c]⟩ u2) else if y = xi then some (.int i u1) else m₁ y) →
      News g env.locals s₁.heap ([(it + 1, oe), (it, oi), (a, oa), (Lg, oL)] ++ news₁) →
      wpAny (model PySem.Challenge.rw_om0101_01.row.prog w) A (execs body env) (GStep g env.locals [(it + 1, oe), (it, oi), (a, oa), (Lg, oL)] [Lg, it + 1, it] (J (i + 1)) R s₁) (fun _ _ => False) s₁)
    (hR : ∀ s' m' news', Fr g env.locals s'.heap m' → News g env.locals s'.heap news' → J x.cps.size m' news' → (AllBare gens → AllBare s'.gens) → s'.os = os → R (.ok .next) s') :
    codeAny (model PySem.Challenge.rw_om0101_01.row.prog w) A (.forLoop (.Tuple [.Name xi pk, .Name xc pv] x1 pt) (.ref a) body [] env) R ⟨h₁, gens.push gs, drawn, tk, os⟩ := by
  have hLz : @LT.lt Nat _ env.locals h.objs.size := by obtain ⟨o, _, _, q, _⟩ := F.ns; exact Heap.lt_size q
  have gz : ∀ (b : Nat) o, g.get? b = some o → b < h.objs.size := fun b o q => Heap.lt_size (F.keep b o q)
  have nz : ∀ p ∈ news, @LT.lt Nat _ p.1 h.objs.size := fun p hp => Heap.lt_size (N p hp).1
  have F2 : Fr g env.locals h₁ m := ⟨F.ns.keeps hk, fun b o q => hk b o (F.keep b o q), F.above⟩
  have N2 : News g env.locals h₁ news := fun p hp => ⟨hk _ _ (N p hp).1, (N p hp).2⟩
  have haz : a < h₁.objs.size := by obtain ⟨o, _, _, q, _⟩ := hg; exact Heap.lt_size q
  have bp : AllBare gens → AllBare (gens.push gs) := fun q => q.push hbare
  refine for_gen (s := ⟨h₁, gens.push gs, drawn, tk, os⟩) (base := g) (Lg := h.objs.size) (a := a) hA hd hu T.nolimit (Nat.le_trans F.above (Nat.le_of_lt hLz)) (fun b o q => q) hxi hxc hp F2 N2 hg (by simp) hfresh hns hlt ?_ ?_ (neN (by first | k_extra "ne" | omega)) (neN (by first | k_extra "ne" | omega)) (fun p hp => neN (by have := nz p hp; omega)) J h0 ?_ ?_
  · cases q : g.get? h.objs.size with
    | none => rfl
    | some o => have := gz _ _ q; omega
  · cases q : g.get? a with
    | none => rfl
    | some o => have := gz _ _ q; omega
  · intro i c u1 u2 m₁ news₁ s₁ oa oL oe oi h1 h2 h3 h4 h5 h6 h7
    exact step i c u1 u2 m₁ news₁ s₁ oa oL oe oi _ _ h1 h2 h3 (fun z => h4 (bp z)) h5 nz hlt haz h6 h7
  · intro s' m' news' h1 h2 h3 h4 h5
    exact hR s' m' news' h1 h2 h3 (fun z => h4 (bp z)) h5
end
end
section
theorem wd11x15 : True := by
  k_with_none
  k_with "omega" => (omega (splitDisjunctions := true))
  k_with "om2" => (first | lia | omega (splitDisjunctions := true))
  k_with "eval Name" => ((k_here; (with_reducible show wpAny _ _ (eval _ (envOf _ _ _ _ _)) _ _ _); k_dflt (refine' nmL ?yF ?yv ?yx ?yk ?yd ?_; (case yF => k_asm); (case yk => exact rfl); (case yx => exact rfl); (case yd => exact rfl); (case yv => exact rfl); k_whole)))
  k_with "storeName" => ((k_here; (with_reducible show wpAny _ _ (storeName (envOf _ _ _ _ _) _ _) _ _ _); k_dflt (refine' stoLe ?yF ?yN ?yx ?yk ?_; (case yF => k_asm); (case yN => k_asm); (case yk => exact rfl); (case yx => exact rfl); k_whole; intro m'ω h'ω F'ω N'ω; (try k_sweep))))
  k_with "eval Name" => ((k_here; (with_reducible show wpAny _ _ (eval _ (envOfC _ _ _ _ _)) _ _ _); k_dflt (refine' nmLC ?yF ?yv ?yk ?yx ?yd ?_; (case yF => k_asm); (case yk => exact rfl); (case yx => exact rfl); (case yd => exact rfl); (case yv => exact rfl); k_whole)))
  k_with "storeName" => ((k_here; (with_reducible show wpAny _ _ (storeName (envOfC _ _ _ _ _) _ _) _ _ _); k_dflt (refine' stoLCe ?yF ?yN ?yk ?yx ?_; (case yF => k_asm); (case yN => k_asm); (case yk => exact rfl); (case yx => exact rfl); k_whole; intro m'ω h'ω F'ω N'ω; (try k_sweep))))
  k_with "execs cons" => ((k_here; (first | (with_reducible show wpAny _ _ (execs _ _) (AtF _) _ _) | (refine execs_abs ?_; intro Q8ω q8ω)); k_dflt (refine execs_gen ?_); intro Q7ω t7ω g7ω o7ω; (try dsimp only)))
  k_with "AtF" => ((with_reducible first | refine AtF.go (by assumption) ?_ | (refine AtF.out (by assumption) (fun z => Flow.noConfusion z) ?_) | (refine AtF.fin (by assumption) ?_; (try dsimp only))))
  k_with "room" => (k_dflt (first | exact rm2 (by assumption) rfl | exact rm1 (by assumption) rfl | exact rm3 (by assumption) rfl | exact rm4 (by assumption) rfl | exact rm0 (by assumption)))
  k_with "kne" => ((refine neN ?_; (try dsimp only); k_extra "ne"))
  k_with "cj" => (first | exact And.left | exact id | (refine cjs ?_; k_extra "cj"))
  k_with "ne" => (with_reducible first | assumption | exact lne (by assumption) | exact gne (by assumption) | exact sne (by assumption) | exact suc | exact suc2 | exact sne suc | exact sne suc2 | (refine ltc (by assumption) ?_; k_extra "cj") | (refine gtc (by assumption) ?_; k_extra "cj") | (refine nec (by assumption) ?_; k_extra "cj") | (refine nfc (by assumption) ?_; k_extra "cj"))
  trivial
theorem filterMap_run (l : List Nat) (a n : Nat) (h : a + n ≤ l.length) : ((List.range n).map (a + ·)).filterMap (l[·]?) = (l.drop a).take n := by
  induction n with
  | zero => simp
  | succ n ih =>
    rw [List.range_succ, List.map_append, List.filterMap_append, ih (by omega)]
    have hlt : a + n < l.length := by omega
    simp only [List.map_cons, List.map_nil, List.filterMap_cons, List.filterMap_nil, List.getElem?_eq_getElem hlt]
    rw [List.take_add_one, List.getElem?_drop, List.getElem?_eq_getElem hlt]
    rfl
theorem slice_idx {x : Str} {l u : Option Int} {a n : Nat} (h : Builtin.Str.strSliceIndices l u 1 x.length = (List.range n).map (a + ·)) (hn : a + n ≤ x.cps.size) :
    (Txt.slice x l u).cps.toList = (x.cps.toList.drop a).take n := by
  unfold Txt.slice
  rw [h]
  split
  · rename_i q
    simp only [beq_self_eq_true, Bool.true_and, beq_iff_eq, List.length_map, List.length_range] at q
    have hx : x.length = x.cps.size := rfl
    obtain rfl : a = 0 := by omega
    rw [List.drop_zero, List.take_of_length_le]
    rw [Array.length_toList]; omega
  · show (List.filterMap (x.cps[·]?) _) = _
    rw [← filterMap_run _ _ _ (by rw [Array.length_toList]; exact hn)]
    simp only [Array.getElem?_toList]
theorem idx_empty {a b len : Nat} (h : b < a) : Builtin.Str.strSliceIndices (some (a : Int)) (some (b : Int)) 1 len = [] := by
  have h1 : ¬ ((a : Int) < 0) := by omega
  have h2 : ¬ ((b : Int) < 0) := by omega
  have h3 : ¬ (max (0 : Int) (min (a : Int) (len : Int)) < max (0 : Int) (min (b : Int) (len : Int))) := by omega
  simp only [Builtin.Str.strSliceIndices, sliceRange, h1, h2, if_false, show ((1 : Int) > 0) = True from by simp, if_true, h3]
  rfl
theorem slice_ab (x : Str) (a b : Nat) (hb : b ≤ x.cps.size) : (Txt.slice x (some a) (some b)).cps.toList = (x.cps.toList.take b).drop a := by
  by_cases h : a ≤ b
  · rw [slice_idx (a := a) (n := b - a) (StrLaws.strSliceIndices_plain h hb) (by omega), List.drop_take]
  · rw [slice_idx (a := 0) (n := 0) (by rw [idx_empty (by omega)]; rfl) (by omega)]
    simp only [List.take_zero]
    rw [List.drop_eq_nil_of_le]
    rw [List.length_take]; omega
theorem slice_a (x : Str) (a : Nat) : (Txt.slice x (some a) none).cps.toList = x.cps.toList.drop a := by
  have e : Txt.slice x (some a) none = Txt.slice x (some a) (some (x.cps.size : Int)) := by
    unfold Txt.slice
    rw [show Builtin.Str.strSliceIndices (some (a : Int)) none 1 x.length = Builtin.Str.strSliceIndices (some (a : Int)) (some (x.cps.size : Int)) 1 x.length from StrLaws.sliceIdx_none_hi _ _]
  rw [e, slice_ab x a x.cps.size (Nat.le_refl _), List.take_of_length_le (by rw [Array.length_toList]; exact Nat.le_refl _)]
theorem slice_b (x : Str) (b : Nat) (hb : b ≤ x.cps.size) : (Txt.slice x none (some b)).cps.toList = x.cps.toList.take b := by
  have e : Txt.slice x none (some b) = Txt.slice x (some ((0 : Nat) : Int)) (some (b : Int)) := by
    unfold Txt.slice
    rw [show Builtin.Str.strSliceIndices none (some (b : Int)) 1 x.length = Builtin.Str.strSliceIndices (some ((0 : Nat) : Int)) (some (b : Int)) 1 x.length from StrLaws.sliceIdx_none_lo _ _]
  rw [e, slice_ab x 0 b hb, List.drop_zero]
theorem slice_an (x : Str) (a : Nat) (k : Nat) (hk : 0 < k) (hl : k ≤ x.cps.size) : (Txt.slice x (some a) (some (-(k : Int)))).cps.toList = (x.cps.toList.take (x.cps.size - k)).drop a := by
  have hx : x.length = x.cps.size := rfl
  have e : Txt.slice x (some a) (some (-(k : Int))) = Txt.slice x (some a) (some ((x.cps.size - k : Nat) : Int)) := by
    unfold Txt.slice
    rw [StrLaws.sliceIdx_neg_hi _ _ (by omega) (by omega), show (-(k : Int) + (x.length : Int)) = ((x.cps.size - k : Nat) : Int) from by omega]
  rw [e, slice_ab x a _ (by omega)]
theorem one_sign {c d : Nat} {w : String} (h : Str.ofString w = ⟨#[d]⟩) : ((⟨#[c]⟩ : Str) == Str.ofString w) = decide (c = d) := by
  rw [h]
  by_cases q : c = d
  · subst q; simp
  · rw [decide_eq_false q]
    simpa using q
theorem getD_of {x : Str} {i c : Nat} (h : x.cps[i]? = some c) : x.cps.toList.getD i 0 = c := by
  rw [List.getD_eq_getElem?_getD, Array.getElem?_toList, h]; rfl
theorem is34 {c : Nat} (h : ((⟨#[c]⟩ : Str) == Str.ofString "\"") = true) : c = 34 := by
  rw [one_sign (d := 34) (by decide +kernel), decide_eq_true_eq] at h; exact h
theorem no34 {c : Nat} (h : ((⟨#[c]⟩ : Str) == Str.ofString "\"") = false) : ¬ c = 34 := by
  rw [one_sign (d := 34) (by decide +kernel), decide_eq_false_iff_not] at h; exact h
theorem is40 {c : Nat} (h : ((⟨#[c]⟩ : Str) == Str.ofString "(") = true) : c = 40 := by
  rw [one_sign (d := 40) (by decide +kernel), decide_eq_true_eq] at h; exact h
theorem no40 {c : Nat} (h : ((⟨#[c]⟩ : Str) == Str.ofString "(") = false) : ¬ c = 40 := by
  rw [one_sign (d := 40) (by decide +kernel), decide_eq_false_iff_not] at h; exact h
theorem is41 {c : Nat} (h : ((⟨#[c]⟩ : Str) == Str.ofString ")") = true) : c = 41 := by
  rw [one_sign (d := 41) (by decide +kernel), decide_eq_true_eq] at h; exact h
theorem no41 {c : Nat} (h : ((⟨#[c]⟩ : Str) == Str.ofString ")") = false) : ¬ c = 41 := by
  rw [one_sign (d := 41) (by decide +kernel), decide_eq_false_iff_not] at h; exact h
theorem off3 {r Lg a it : Nat} (h1 : r < Lg) (h2 : Lg < a) (h3 : a < it) : r ∉ [Lg, it + 1, it] := by
  simp only [List.mem_cons, List.not_mem_nil, or_false, not_or]
  exact ⟨by omega, by omega, by omega⟩
theorem strT {x : Str} {l : List Nat} (h : x.cps.toList = l) : x = ⟨l.toArray⟩ := by
  obtain ⟨a⟩ := x
  subst h; rfl

theorem fresh_of {h g h' : Heap} {L r : Addr} {o : Obj} {D : List Addr} {news : List (Addr × Obj)} (FG : ∀ b o, b ∉ D → h.get? b = some o → g.get? b = some o) (N : News g L h' news) (hm : (r, o) ∈ news) (hr : r ∉ D) : h.get? r = none := by
  cases q : h.get? r with
  | none => rfl
  | some o' => have := FG r o' hr q; rw [(N _ hm).2.2] at this; cases this
theorem addr_of {h₀ h : Heap} {L r : Addr} {o : Obj} {news : List (Addr × Obj)} (_N : News h₀ L h ((r, o) :: news)) : ∃ r' : Nat, r' = r := ⟨r, rfl⟩
/-- a list of texts, by their signs -/
inductive TextsAre : List Value → List (List Nat) → Prop
  | nil : TextsAre [] []
  | cons (c : List Nat) (t : Tok) {vs cs} : TextsAre vs cs → TextsAre (.str ⟨c.toArray⟩ t :: vs) (c :: cs)
theorem TextsAre.snoc {vs : List Value} {cs : List (List Nat)} (h : TextsAre vs cs) (c : List Nat) (t : Tok) : TextsAre (vs ++ [.str ⟨c.toArray⟩ t]) (cs ++ [c]) := by
  induction h with
  | nil => exact .cons c t .nil
  | cons d u _ ih => exact .cons d u ih

theorem TextsAre.length {vs : List Value} {cs : List (List Nat)} (h : TextsAre vs cs) : vs.length = cs.length := by
  induction h with
  | nil => rfl
  | cons _ _ _ ih => simp [ih]
theorem TextsAre.strs {vs : List Value} {cs : List (List Nat)} (h : TextsAre vs cs) : StrsAre vs (cs.map fun c => ⟨c.toArray⟩) := by
  induction h with
  | nil => exact .nil
  | cons c t _ ih => exact .cons _ t ih
theorem join_nil_cps (cs : List (List Nat)) : Str.join ⟨#[]⟩ (cs.map fun c => (⟨c.toArray⟩ : Str)) = ⟨cs.flatten.toArray⟩ := by
  induction cs with
  | nil => rfl
  | cons c r ih =>
    cases r with
    | nil => simp [Str.join]
    | cons d r =>
      show (⟨c.toArray⟩ : Str) ++ ⟨#[]⟩ ++ Str.join ⟨#[]⟩ ((d :: r).map fun c => (⟨c.toArray⟩ : Str)) = _
      rw [ih]
      refine congrArg Str.mk ?_
      show c.toArray ++ #[] ++ (d :: r).flatten.toArray = _
      simp
section
variable {prog : Program} {w : World} {A : Around} {E : Value → Shared → Prop} {s : Shared} {h₀ : Heap} {L D : Addr} {news : List (Addr × Obj)} {Q : Value → Shared → Prop}
theorem len_text {x : Str} {t : Tok} (hz : x.cps.size < 1000000) (h : Q (.int (x.cps.size : Int) (s.toks + 1)) { s with toks := s.toks + 1 + 1 }) : wpAny (model prog w) A (call (.builtin "len") [.str x t]) Q E s :=
  PyProof.Rows.len_str (by show ¬ ((x.cps.size : Int) ≥ 2 ^ 63); omega) h
theorem join_texts {vs : List Value} {n : Nat} {cs : List (List Nat)} {t : Tok} (N : News h₀ L s.heap news) (hm : (D, listOf vs.toArray n) ∈ news) (hts : TextsAre vs cs) (hw : cs.flatten.length + cs.length < 100000)
    (h : ∀ t' k, Q (.str ⟨cs.flatten.toArray⟩ t') { s with toks := k }) : wpAny (model prog w) A (call (.builtin "str.join") [.str (Str.ofString "") t, .ref D]) Q E s := by
  have e0 : Str.ofString "" = ⟨#[]⟩ := by decide +kernel
  rw [e0]
  refine join_listW (items := vs.toArray) ⟨_, (N _ hm).1, rfl, n, rfl⟩ hts.strs (by decide) ?_ fun t' k => ?_
  · have : ((cs.map fun c => (⟨c.toArray⟩ : Str)).map (·.length)).sum = cs.flatten.length := by
      rw [List.map_map, List.length_flatten]
      congr 1
    rw [this, List.length_map]; omega
  · have := h t' k
    rw [← join_nil_cps, ← StrLaws.glued_eq_join] at this
    exact this
end
theorem wd11x16 : True := by
  k_with "call builtin:len" => ((k_here; (with_reducible show wpAny _ _ (call (Value.builtin "len") [Value.str _ _]) _ _ _); k_dflt (refine' len_text ?k1 ?_; (case k1 => omega); k_whole)))
  k_with "call builtin:str.join" => ((k_here; (with_reducible show wpAny _ _ (call (Value.builtin "str.join") [Value.str _ _, Value.ref _]) _ _ _); k_dflt (refine' join_texts ?k1 ?k2 ?k3 ?k4 ?_; (case k1 => k_asm); (case k2 => k_mem); (case k3 => assumption); (case k4 => first | assumption | omega); k_whole; intro t'ω k'ω)))
  trivial
end
section
theorem wd12x17 : True := by
  k_with_none
  k_with "omega" => (omega (splitDisjunctions := true))
  k_with "om2" => (first | lia | omega (splitDisjunctions := true))
  k_with "eval Name" => ((k_here; (with_reducible show wpAny _ _ (eval _ (envOf _ _ _ _ _)) _ _ _); k_dflt (refine' nmL ?yF ?yv ?yx ?yk ?yd ?_; (case yF => k_asm); (case yk => exact rfl); (case yx => exact rfl); (case yd => exact rfl); (case yv => exact rfl); k_whole)))
  k_with "storeName" => ((k_here; (with_reducible show wpAny _ _ (storeName (envOf _ _ _ _ _) _ _) _ _ _); k_dflt (refine' stoLe ?yF ?yN ?yx ?yk ?_; (case yF => k_asm); (case yN => k_asm); (case yk => exact rfl); (case yx => exact rfl); k_whole; intro m'ω h'ω F'ω N'ω; (try k_sweep))))
  k_with "eval Name" => ((k_here; (with_reducible show wpAny _ _ (eval _ (envOfC _ _ _ _ _)) _ _ _); k_dflt (refine' nmLC ?yF ?yv ?yk ?yx ?yd ?_; (case yF => k_asm); (case yk => exact rfl); (case yx => exact rfl); (case yd => exact rfl); (case yv => exact rfl); k_whole)))
  k_with "storeName" => ((k_here; (with_reducible show wpAny _ _ (storeName (envOfC _ _ _ _ _) _ _) _ _ _); k_dflt (refine' stoLCe ?yF ?yN ?yk ?yx ?_; (case yF => k_asm); (case yN => k_asm); (case yk => exact rfl); (case yx => exact rfl); k_whole; intro m'ω h'ω F'ω N'ω; (try k_sweep))))
  k_with "execs cons" => ((k_here; (first | (with_reducible show wpAny _ _ (execs _ _) (AtF _) _ _) | (refine execs_abs ?_; intro Q8ω q8ω)); k_dflt (refine execs_gen ?_); intro Q7ω t7ω g7ω o7ω; (try dsimp only)))
  k_with "AtF" => ((with_reducible first | refine AtF.go (by assumption) ?_ | (refine AtF.out (by assumption) (fun z => Flow.noConfusion z) ?_) | (refine AtF.fin (by assumption) ?_; (try dsimp only))))
  k_with "room" => (k_dflt (first | exact rm2 (by assumption) rfl | exact rm1 (by assumption) rfl | exact rm3 (by assumption) rfl | exact rm4 (by assumption) rfl | exact rm0 (by assumption)))
  k_with "kne" => ((refine neN ?_; (try dsimp only); k_extra "ne"))
  k_with "cj" => (first | exact And.left | exact id | (refine cjs ?_; k_extra "cj"))
  k_with "ne" => (with_reducible first | assumption | exact lne (by assumption) | exact gne (by assumption) | exact sne (by assumption) | exact suc | exact suc2 | exact sne suc | exact sne suc2 | (refine ltc (by assumption) ?_; k_extra "cj") | (refine gtc (by assumption) ?_; k_extra "cj") | (refine nec (by assumption) ?_; k_extra "cj") | (refine nfc (by assumption) ?_; k_extra "cj"))
  k_with "call builtin:len" => ((k_here; (with_reducible show wpAny _ _ (call (Value.builtin "len") [Value.str _ _]) _ _ _); k_dflt (refine' len_text ?k1 ?_; (case k1 => omega); k_whole)))
  k_with "call builtin:str.join" => ((k_here; (with_reducible show wpAny _ _ (call (Value.builtin "str.join") [Value.str _ _, Value.ref _]) _ _ _); k_dflt (refine' join_texts ?k1 ?k2 ?k3 ?k4 ?_; (case k1 => k_asm); (case k2 => k_mem); (case k3 => assumption); (case k4 => first | assumption | omega); k_whole; intro t'ω k'ω)))
  trivial
def stp (cs : List Nat) (st : Nat × Option Nat × List Nat) (i : Nat) : Nat × Option Nat × List Nat :=
  if cs.getD i 0 = 34 then (match st.2.1 with
    | none => (st.1, some i, st.2.2)
    | some o => (i + 1, none, st.2.2 ++ (cs.take o).drop st.1)) else st
def stL (cs : List Nat) (i : Nat) : Nat × Option Nat × List Nat := (List.range i).foldl (stp cs) (0, none, [])
def stripL (cs : List Nat) : List Nat := (stL cs cs.length).2.2 ++ cs.drop (stL cs cs.length).1
def stripT (x : Str) : Str := ⟨(stripL x.cps.toList).toArray⟩

theorem stL_succ (cs : List Nat) (i : Nat) : stL cs (i + 1) = stp cs (stL cs i) i := by
  unfold stL
  rw [List.range_succ, List.foldl_append]; rfl
theorem stL_no {cs : List Nat} {i : Nat} (h : ¬ cs.getD i 0 = 34) : stL cs (i + 1) = stL cs i := by rw [stL_succ, stp, if_neg h]
theorem stL_open {cs : List Nat} {i : Nat} (h : cs.getD i 0 = 34) (ho : (stL cs i).2.1 = none) : stL cs (i + 1) = ((stL cs i).1, some i, (stL cs i).2.2) := by rw [stL_succ, stp, if_pos h, ho]
theorem stL_shut {cs : List Nat} {i o : Nat} (h : cs.getD i 0 = 34) (ho : (stL cs i).2.1 = some o) : stL cs (i + 1) = (i + 1, none, (stL cs i).2.2 ++ (cs.take o).drop (stL cs i).1) := by rw [stL_succ, stp, if_pos h, ho]
theorem stL_free {cs : List Nat} (h : ¬ 34 ∈ cs) (i : Nat) : stL cs i = (0, none, []) := by
  induction i with
  | zero => rfl
  | succ i ih =>
    rw [stL_no, ih]
    intro q
    rw [List.getD_eq_getElem?_getD] at q
    cases e : cs[i]? with
    | none => rw [e] at q; cases q
    | some c => rw [e] at q; exact h (by rw [show c = 34 from q] at e; exact List.mem_of_getElem? e)
theorem stL_inv (cs : List Nat) (i : Nat) : (stL cs i).1 ≤ i ∧ ∀ o, (stL cs i).2.1 = some o → o < i := by
  induction i with
  | zero => exact ⟨Nat.le_refl _, fun o h => by cases h⟩
  | succ i ih =>
    by_cases h : cs.getD i 0 = 34
    · cases ho : (stL cs i).2.1 with
      | none => rw [stL_open h ho]; exact ⟨by simpa using Nat.le_succ_of_le ih.1, fun o q => by cases q; omega⟩
      | some o => rw [stL_shut h ho]; exact ⟨Nat.le_refl _, fun o q => by cases q⟩
    · rw [stL_no h]; exact ⟨Nat.le_succ_of_le ih.1, fun o q => Nat.lt_succ_of_lt (ih.2 o q)⟩
theorem stL_len (cs : List Nat) (i : Nat) : (stL cs i).2.2.length ≤ (stL cs i).1 := by
  induction i with
  | zero => exact Nat.le_refl _
  | succ i ih =>
    by_cases h : cs.getD i 0 = 34
    · cases ho : (stL cs i).2.1 with
      | none => rw [stL_open h ho]; exact ih
      | some o =>
        have := (stL_inv cs i).2 o ho
        have := (stL_inv cs i).1
        rw [stL_shut h ho]
        simp only [List.length_append, List.length_drop, List.length_take]
        omega
    · rw [stL_no h]; exact ih
theorem form4 {m : Str → Option Value} {n1 n2 n3 n4 : Str} {v1 v2 v3 v4 : Value} (h1 : m n1 = some v1) (h2 : m n2 = some v2) (h3 : m n3 = some v3) (h4 : m n4 = some v4) :
    m = fun y => if y = n1 then some v1 else if y = n2 then some v2 else if y = n3 then some v3 else if y = n4 then some v4 else m y := by
  funext y
  split
  · rename_i q; rw [q, h1]
  split
  · rename_i q; rw [q, h2]
  split
  · rename_i q; rw [q, h3]
  split
  · rename_i q; rw [q, h4]
  rfl

def OpenIs (v : Value) : Option Nat → Prop
  | none => v = .none
  | some o => ∃ t, v = .int o t
inductive SJ0 (S : Nat × Option Nat × List Nat) (x : Str) (t : Tok) (r : Addr) (i : Nat) (m : Str → Option Value) (news : List (Addr × Obj)) : Prop
  | mk (t1 : Tok) (ov : Value) (vs : List Value) (cs : List (List Nat)) (n : Nat) (a1 : m (Str.ofString "start") = some (.int S.1 t1)) (a2 : m (Str.ofString "open_pos") = some ov) (a3 : m (Str.ofString "result") = some (.ref r)) (a4 : m (Str.ofString "addr") = some (.str x t))
    (a5 : OpenIs ov S.2.1) (a6 : news = [(r, listOf vs.toArray n)]) (a7 : TextsAre vs cs) (a8 : cs.flatten = S.2.2) (a9 : vs.length ≤ i) : SJ0 S x t r i m news
def SJ (x : Str) (t : Tok) (r : Addr) (i : Nat) (m : Str → Option Value) (news : List (Addr × Obj)) : Prop := SJ0 (stL x.cps.toList i) x t r i m news

theorem c_strip {w : World} {mean : ExcName → Option Value} {mg mb : Str → Option Value} {dp un : Nat} {gd : Option (List Code)} {outer : List Env} {base : Heap} {s : Shared} {Q E : Value → Shared → Prop} {x : Str} {t : Tok} (B : Below (top dp un gd outer) base outer s.heap) (X : (Kt w.params).In base) (T : Top vw loo mean mg mb base) (hx : ∀ c ∈ x.cps, c ≠ 92) (hsz : x.cps.size < 1000) (hdp : dp + 5 < recursionLimit) (hun : un + 32 < cLine)
  (hret : ∀ s' t', Ext [] s s' → Q (.str (stripT x) t') s') :
  wpAny (model PySem.Challenge.rw_om0101_01.row.prog w) (top dp un gd outer) (call (.ref 28) [.str x t]) Q E s := by
  revert X; k_fill; intro X
  w_strict (
   (refine wpAny_call ?_; (k_dflt (refine' enterN ?k1 ?k2 ?k3 ?k4 ?k6 ?k7 ?k8 ?k9 ?kB ?_ ?c2 ?c3 ?c4 ?c5; (case k1 => k_asm); (case k2 => k_asm); (case k3 => k_asm); (case k4 => first | k_asm | exact Has.nil); (case k6 => k_is); (case k7 => k_is); (case k8 => ktr_room); (case k9 => exact BindsTo.of_eq rfl); (case c5 => decide); (case kB => exact locs rfl); (case c2 => exact rfl); (case c3 => exact rfl); (case c4 => exact rfl); k_whole; intro g' L' h' Q9 t9 q9 FG' F' N' B' X' T' l1; (try k_lt l1); (try dsimp only); (try k_lift B'); (try k_fold))))
   k_steps)
  · try dsimp only
    have e : stripT x = x := by
      have q : (Builtin.Str.occurrences x (Str.ofString "\"") 0 x.length 1).isEmpty = true := by assumption
      have e34 : Str.ofString "\"" = ⟨#[34]⟩ := by decide +kernel
      rw [e34] at q
      have f := StrLaws.found_one x 34
      rw [q] at f
      have f : ¬ 34 ∈ x.cps.toList := by simpa using f
      unfold stripT stripL
      rw [stL_free f]
      simp
    exact e ▸ hret _ _ (ext_of FG' (by assumption) (by exact rfl) (by exact id))
  · refine wpAny_For ?_
    k_steps
    rename Fr _ _ _ _ => F1
    rename News _ _ _ _ => N1
    obtain ⟨r, hr⟩ := addr_of N1
    subst hr
    refine c_iter (base := g') F1.keep X' T' hx ?_ ?_ ?_
    · ktr_room
    · ktr_units
    · intro h₁ a tk gs hfr hbare hns hk hg hlt
      dsimp only at hfr hns hk hg hlt ⊢
      refine wpAny_pyIter_gen hg ?_
      refine iter_loop T' F1 N1 hfr hns hk hg hlt hbare rfl ?_ ?_ rfl rfl rfl (SJ x t r) ?_ ?_ ?_
      · ktr_room
      · ktr_units
      · exact ⟨_, _, [], [], 0, rfl, rfl, rfl, rfl, rfl, rfl, .nil, rfl, Nat.le_refl _⟩
      · intro i c u1 u2 m₁ news₁ s₁ oa oL oe oi Lg it hi hc hJ hb₁ ho₁ hnz hz1 hz2 F3 N3
        obtain ⟨t1, ov, vs, cs, n, e1, e2, e3, e4, ho, rfl, hts, hfl, hvn⟩ := hJ
        have hrL : r < Lg := hnz _ (List.Mem.head _)
        rw [form4 e1 e2 e3 e4] at F3
        simp only [List.cons_append, List.nil_append] at N3
        clear F1 N1 hns hk hg hfr hlt hret
        obtain ⟨h4, gens4, dr4, tk4, os4⟩ := s₁
        dsimp only at F3 N3 hb₁ ho₁ ⊢
        cases hop : (stL x.cps.toList i).2.1 with
        | none =>
          rw [hop] at ho
          obtain rfl : ov = .none := ho
          k_steps
          · have q : c = 34 := is34 (by assumption)
            have e := stL_open ((getD_of hc).trans q) hop
            refine ⟨_, _, _, [(r, _)], rfl, by assumption, by assumption, List.forall_mem_singleton.mpr (off3 hrL hz1 hz2), ?_⟩
            unfold SJ
            rw [e]
            exact ⟨_, _, vs, cs, n, rfl, rfl, rfl, rfl, ⟨_, rfl⟩, rfl, hts, hfl, by omega⟩
          · have q : ¬ c = 34 := no34 (by assumption)
            have e := stL_no (fun z => q ((getD_of hc).symm.trans z))
            refine ⟨_, _, _, [(r, _)], rfl, by assumption, by assumption, List.forall_mem_singleton.mpr (off3 hrL hz1 hz2), ?_⟩
            unfold SJ
            rw [e]
            exact ⟨_, _, vs, cs, n, rfl, rfl, rfl, rfl, by rw [hop]; rfl, rfl, hts, hfl, by omega⟩
        | some o =>
          rw [hop] at ho
          obtain ⟨t2, rfl⟩ := ho
          have hoi : o < i := (stL_inv _ _).2 o hop
          k_steps
          · have q : c = 34 := is34 (by assumption)
            have e := stL_shut ((getD_of hc).trans q) hop
            refine ⟨_, _, _, [(r, _)], rfl, by assumption, by assumption, List.forall_mem_singleton.mpr (off3 hrL hz1 hz2), ?_⟩
            unfold SJ
            rw [e]
            refine ⟨_, _, _, cs ++ [(x.cps.toList.take o).drop (stL x.cps.toList i).1], _, rfl, rfl, rfl, rfl, rfl, by rw [List.push_toArray], ?_, ?_, ?_⟩
            · rw [strT (slice_ab x _ _ (by omega))]
              exact hts.snoc _ _
            · simp [hfl]
            · simp; omega
          · have q : c = 34 := is34 (by assumption)
            have e := stL_shut ((getD_of hc).trans q) hop
            have z : (stL x.cps.toList i).1 = o := by rename_i z _ _ _ _; omega
            refine ⟨_, _, _, [(r, _)], rfl, by assumption, by assumption, List.forall_mem_singleton.mpr (off3 hrL hz1 hz2), ?_⟩
            unfold SJ
            rw [e]
            refine ⟨_, _, vs, cs, n, rfl, rfl, rfl, rfl, rfl, rfl, hts, ?_, by omega⟩
            rw [z, hfl, List.drop_eq_nil_of_le (by rw [List.length_take]; omega), List.append_nil]
          · have q : ¬ c = 34 := no34 (by assumption)
            have e := stL_no (fun z => q ((getD_of hc).symm.trans z))
            refine ⟨_, _, _, [(r, _)], rfl, by assumption, by assumption, List.forall_mem_singleton.mpr (off3 hrL hz1 hz2), ?_⟩
            unfold SJ
            rw [e]
            exact ⟨_, _, vs, cs, n, rfl, rfl, rfl, rfl, by rw [hop]; exact ⟨_, rfl⟩, rfl, hts, hfl, by omega⟩
      · intro s' m' news' F4 N4 hJ hb4 ho4
        obtain ⟨t1, ov, vs, cs, n, e1, e2, e3, e4, ho, rfl, hts, hfl, hvn⟩ := hJ
        rw [form4 e1 e2 e3 e4] at F4
        clear F1 N1 hns hk hg hfr hlt
        obtain ⟨h4, gens4, dr4, tk4, os4⟩ := s'
        dsimp only at F4 N4 hb4 ho4 ⊢
        have hlen := stL_len x.cps.toList x.cps.size
        have hinv := (stL_inv x.cps.toList x.cps.size).1
        have hcl : cs.length = vs.length := hts.length.symm
        have hsl : stripL x.cps.toList = (stL x.cps.toList x.cps.size).2.2 ++ x.cps.toList.drop (stL x.cps.toList x.cps.size).1 := by unfold stripL; rw [Array.length_toList]
        have fin : ∀ (h5 : Heap) (tk5 : Nat) (m5 : Str → Option Value) (t5 : Tok), Fr g' L' h5 m5 → Q (.str (stripT x) t5) ⟨h5, gens4, dr4, tk5, os4⟩ := fun h5 tk5 m5 t5 F5 => hret _ _ (ext_of FG' F5 ho4 hb4)
        k_steps
        · rename News _ _ _ _ => N5
          rename Fr _ _ _ _ => F5
          rw [List.push_toArray] at N5
          refine join_texts (cs := cs ++ [x.cps.toList.drop (stL x.cps.toList x.cps.size).1]) N5 (.head _) (by rw [strT (slice_a x _)]; exact hts.snoc _ _) ?_ fun t' k' => ?_
          · simp only [List.flatten_append, hfl, List.length_append, List.flatten_cons, List.flatten_nil, List.length_drop, Array.length_toList, List.length_cons, List.length_nil, List.append_nil]
            omega
          · have e : (⟨(cs ++ [x.cps.toList.drop (stL x.cps.toList x.cps.size).1]).flatten.toArray⟩ : Str) = stripT x := by
              unfold stripT
              rw [hsl]; simp [hfl]
            rw [e]
            (repeat (k_extra "AtF"))
            exact fin _ _ _ _ F5
        · rename News _ _ _ _ => N5
          rename Fr _ _ _ _ => F5
          refine join_texts N5 (.head _) hts (by rw [hfl]; omega) fun t' k' => ?_
          have e : (⟨cs.flatten.toArray⟩ : Str) = stripT x := by
            unfold stripT
            rw [hsl, hfl, List.drop_eq_nil_of_le, List.append_nil]
            rw [Array.length_toList]; omega
          rw [e]
          (repeat (k_extra "AtF"))
          exact fin _ _ _ _ F5
end
section
theorem wd13x18 : True := by
  k_with_none
  k_with "omega" => (omega (splitDisjunctions := true))
  k_with "om2" => (first | lia | omega (splitDisjunctions := true))
  k_with "eval Name" => ((k_here; (with_reducible show wpAny _ _ (eval _ (envOf _ _ _ _ _)) _ _ _); k_dflt (refine' nmL ?yF ?yv ?yx ?yk ?yd ?_; (case yF => k_asm); (case yk => exact rfl); (case yx => exact rfl); (case yd => exact rfl); (case yv => exact rfl); k_whole)))
  k_with "storeName" => ((k_here; (with_reducible show wpAny _ _ (storeName (envOf _ _ _ _ _) _ _) _ _ _); k_dflt (refine' stoLe ?yF ?yN ?yx ?yk ?_; (case yF => k_asm); (case yN => k_asm); (case yk => exact rfl); (case yx => exact rfl); k_whole; intro m'ω h'ω F'ω N'ω; (try k_sweep))))
  k_with "eval Name" => ((k_here; (with_reducible show wpAny _ _ (eval _ (envOfC _ _ _ _ _)) _ _ _); k_dflt (refine' nmLC ?yF ?yv ?yk ?yx ?yd ?_; (case yF => k_asm); (case yk => exact rfl); (case yx => exact rfl); (case yd => exact rfl); (case yv => exact rfl); k_whole)))
  k_with "storeName" => ((k_here; (with_reducible show wpAny _ _ (storeName (envOfC _ _ _ _ _) _ _) _ _ _); k_dflt (refine' stoLCe ?yF ?yN ?yk ?yx ?_; (case yF => k_asm); (case yN => k_asm); (case yk => exact rfl); (case yx => exact rfl); k_whole; intro m'ω h'ω F'ω N'ω; (try k_sweep))))
  k_with "execs cons" => ((k_here; (first | (with_reducible show wpAny _ _ (execs _ _) (AtF _) _ _) | (refine execs_abs ?_; intro Q8ω q8ω)); k_dflt (refine execs_gen ?_); intro Q7ω t7ω g7ω o7ω; (try dsimp only)))
  k_with "AtF" => ((with_reducible first | refine AtF.go (by assumption) ?_ | (refine AtF.out (by assumption) (fun z => Flow.noConfusion z) ?_) | (refine AtF.fin (by assumption) ?_; (try dsimp only))))
  k_with "room" => (k_dflt (first | exact rm2 (by assumption) rfl | exact rm1 (by assumption) rfl | exact rm3 (by assumption) rfl | exact rm4 (by assumption) rfl | exact rm0 (by assumption)))
  k_with "kne" => ((refine neN ?_; (try dsimp only); k_extra "ne"))
  k_with "cj" => (first | exact And.left | exact id | (refine cjs ?_; k_extra "cj"))
  k_with "ne" => (with_reducible first | assumption | exact lne (by assumption) | exact gne (by assumption) | exact sne (by assumption) | exact suc | exact suc2 | exact sne suc | exact sne suc2 | (refine ltc (by assumption) ?_; k_extra "cj") | (refine gtc (by assumption) ?_; k_extra "cj") | (refine nec (by assumption) ?_; k_extra "cj") | (refine nfc (by assumption) ?_; k_extra "cj"))
  k_with "call builtin:len" => ((k_here; (with_reducible show wpAny _ _ (call (Value.builtin "len") [Value.str _ _]) _ _ _); k_dflt (refine' len_text ?k1 ?_; (case k1 => omega); k_whole)))
  k_with "call builtin:str.join" => ((k_here; (with_reducible show wpAny _ _ (call (Value.builtin "str.join") [Value.str _ _, Value.ref _]) _ _ _); k_dflt (refine' join_texts ?k1 ?k2 ?k3 ?k4 ?_; (case k1 => k_asm); (case k2 => k_mem); (case k3 => assumption); (case k4 => first | assumption | omega); k_whole; intro t'ω k'ω)))
  k_with "call ref" => ((k_here; (with_reducible show wpAny _ _ (call (Value.ref 28) _) _ _ _); k_dflt (refine' c_strip ?k1 ?k2 ?k3 ?k4 ?k5 ?k6 ?k7 ?_; (case k1 => refine' pushT ?p1 ?p2 ?p3 ?p4; (case p1 => k_asm); (case p2 => k_asm); (case p3 => exact rfl); (case p4 => exact rfl)); (case k2 => k_asm); (case k3 => k_asm); (case k4 => assumption); (case k5 => omega); (case k6 => ktr_room); (case k7 => ktr_units); k_whole; (intro s'ω t'ω hEω; have F9ω := back_fr (by k_asm) (by k_asm) hEω (fun _ hq => nomatch hq); have N9ω := back_news0 (by k_asm) hEω; (try k_sweep); (try dsimp only)))))
  trivial
def ck : List Nat → Int → Bool
  | [], n => decide (n = 0)
  | c :: r, n => if c = 40 then ck r (n + 1) else if c = 41 then (if n - 1 < 0 then false else ck r (n - 1)) else ck r n
def checkL (cs : List Nat) : Bool := ck (stripL cs) 0

def CJ (x : Str) (i : Nat) (m : Str → Option Value) (news : List (Addr × Obj)) : Prop :=
  ∃ n t, m (Str.ofString "opens") = some (.int n t) ∧ news = [] ∧ ck (x.cps.toList.drop i) n = ck x.cps.toList 0
theorem form1 {m : Str → Option Value} {n1 : Str} {v1 : Value} (h1 : m n1 = some v1) : m = fun y => if y = n1 then some v1 else m y := by
  funext y
  split
  · rename_i q; rw [q, h1]
  rfl
theorem drop_at {x : Str} {i c : Nat} (h : x.cps[i]? = some c) : x.cps.toList.drop i = c :: x.cps.toList.drop (i + 1) := by
  rw [← Array.getElem?_toList] at h
  obtain ⟨hl, rfl⟩ := List.getElem?_eq_some_iff.mp h
  exact List.drop_eq_getElem_cons hl
theorem strip_mem {cs : List Nat} {c : Nat} (h : c ∈ stripL cs) : c ∈ cs := by
  have acc : ∀ i, ∀ c ∈ (stL cs i).2.2, c ∈ cs := by
    intro i
    induction i with
    | zero => intro c h; cases h
    | succ i ih =>
      by_cases q : cs.getD i 0 = 34
      · cases ho : (stL cs i).2.1 with
        | none => rw [stL_open q ho]; exact ih
        | some o =>
          rw [stL_shut q ho]
          intro c hc
          rcases List.mem_append.mp hc with hc | hc
          · exact ih c hc
          · exact List.mem_of_mem_take (List.mem_of_mem_drop hc)
      · rw [stL_no q]; exact ih
  unfold stripL at h
  rcases List.mem_append.mp h with h | h
  · exact acc _ c h
  · exact List.mem_of_mem_drop h
theorem strip_len (cs : List Nat) : (stripL cs).length ≤ cs.length := by
  have h1 := stL_len cs cs.length
  have h2 := (stL_inv cs cs.length).1
  unfold stripL
  rw [List.length_append, List.length_drop]; omega

theorem c_check {w : World} {mean : ExcName → Option Value} {mg mb : Str → Option Value} {dp un : Nat} {gd : Option (List Code)} {outer : List Env} {base : Heap} {s : Shared} {Q E : Value → Shared → Prop} {x : Str} {t : Tok} (B : Below (top dp un gd outer) base outer s.heap) (X : (Kt w.params).In base) (T : Top vw loo mean mg mb base) (hx : ∀ c ∈ x.cps, c ≠ 92) (hsz : x.cps.size < 1000) (hdp : dp + 6 < recursionLimit) (hun : un + 40 < cLine)
  (hret : ∀ s', Ext [] s s' → Q (.bool (checkL x.cps.toList)) s') :
  wpAny (model PySem.Challenge.rw_om0101_01.row.prog w) (top dp un gd outer) (call (.ref 35) [.str x t]) Q E s := by
  revert X; k_fill; intro X
  have hx' : ∀ c ∈ (stripT x).cps, c ≠ 92 := fun c hc => hx c (by
    have : c ∈ stripL x.cps.toList := by simpa [stripT] using hc
    simpa using strip_mem this)
  have hsz' : (stripT x).cps.size < 1000 := by
    have := strip_len x.cps.toList
    rw [Array.length_toList] at this
    show (stripL x.cps.toList).toArray.size < 1000
    rw [List.size_toArray]; exact Nat.lt_of_le_of_lt this hsz
  w_strict (
   (refine wpAny_call ?_; (k_dflt (refine' enterN ?k1 ?k2 ?k3 ?k4 ?k6 ?k7 ?k8 ?k9 ?kB ?_ ?c2 ?c3 ?c4 ?c5; (case k1 => k_asm); (case k2 => k_asm); (case k3 => k_asm); (case k4 => first | k_asm | exact Has.nil); (case k6 => k_is); (case k7 => k_is); (case k8 => ktr_room); (case k9 => exact BindsTo.of_eq rfl); (case c5 => decide); (case kB => exact locs rfl); (case c2 => exact rfl); (case c3 => exact rfl); (case c4 => exact rfl); k_whole; intro g' L' h' Q9 t9 q9 FG' F' N' B' X' T' l1; (try k_lt l1); (try dsimp only); (try k_lift B'); (try k_fold))))
   k_steps)
  refine wpAny_For ?_
  k_steps
  rename Fr _ _ _ _ => F1
  rename News _ _ _ _ => N1
  rename Ext _ _ _ => hE
  have eT : (stripT x).cps.toList = stripL x.cps.toList := by simp [stripT]
  refine c_iter (base := g') F1.keep X' T' hx' ?_ ?_ ?_
  · ktr_room
  · ktr_units
  intro h₁ a tk gs hfr hbare hns hk hg hlt
  dsimp only at hfr hns hk hg hlt ⊢
  refine wpAny_pyIter_gen hg ?_
  refine iter_loop T' F1 N1 hfr hns hk hg hlt hbare rfl ?_ ?_ rfl rfl rfl (CJ (stripT x)) ?_ ?_ ?_
  · ktr_room
  · ktr_units
  · exact ⟨_, _, rfl, rfl, rfl⟩
  · intro i c u1 u2 m₁ news₁ s₁ oa oL oe oi Lg it hi hc hJ hb₁ ho₁ hnz hz1 hz2 F3 N3
    obtain ⟨n, t1, e1, rfl, hck⟩ := hJ
    rw [form1 e1] at F3
    rw [drop_at hc, ck] at hck
    simp only [List.append_nil] at N3
    clear F1 N1 hns hk hg hfr hlt
    obtain ⟨h4, gens4, dr4, tk4, os4⟩ := s₁
    dsimp only at F3 N3 hb₁ ho₁ ⊢
    have fin : ∀ (h5 : Heap) (tk5 : Nat) (m5 : Str → Option Value), ck (stripT x).cps.toList 0 = false → Fr g' L' h5 m5 → Q (.bool false) ⟨h5, gens4, dr4, tk5, os4⟩ := fun h5 tk5 m5 e F5 => by
      have e' : checkL x.cps.toList = false := by unfold checkL; rw [← eT]; exact e
      exact e' ▸ hret _ (ext_of FG' F5 (ho₁.trans hE.os) fun y => hb₁ (hE.bare y))
    k_steps
    · have q : c = 40 := is40 (by assumption)
      rw [if_pos q] at hck
      exact ⟨_, _, _, [], rfl, by assumption, by assumption, List.forall_mem_nil _, ⟨_, _, rfl, rfl, hck⟩⟩
    · have q : ¬ c = 40 := no40 (by assumption)
      have q' : c = 41 := is41 (by assumption)
      rw [if_neg q, if_pos q', if_pos (by assumption)] at hck
      (repeat (k_extra "AtF"))
      dsimp only [GStep]
      (repeat (k_extra "AtF"))
      exact fin _ _ _ hck.symm (by assumption)
    · have q : ¬ c = 40 := no40 (by assumption)
      have q' : c = 41 := is41 (by assumption)
      rw [if_neg q, if_pos q', if_neg (by assumption)] at hck
      exact ⟨_, _, _, [], rfl, by assumption, by assumption, List.forall_mem_nil _, ⟨_, _, rfl, rfl, hck⟩⟩
    · have q : ¬ c = 40 := no40 (by assumption)
      have q' : ¬ c = 41 := no41 (by assumption)
      rw [if_neg q, if_neg q'] at hck
      exact ⟨_, _, _, [], rfl, by assumption, by assumption, List.forall_mem_nil _, ⟨_, _, rfl, rfl, hck⟩⟩
  · intro s' m' news' F4 N4 hJ hb4 ho4
    obtain ⟨n, t1, e1, rfl, hck⟩ := hJ
    rw [form1 e1] at F4
    clear F1 N1 hns hk hg hfr hlt
    obtain ⟨h4, gens4, dr4, tk4, os4⟩ := s'
    dsimp only at F4 N4 hb4 ho4 ⊢
    k_steps
    try dsimp only
    have e' : checkL x.cps.toList = (n == 0) := by
      unfold checkL
      rw [← eT, ← hck, List.drop_eq_nil_of_le (by rw [Array.length_toList]; exact Nat.le_refl _)]
      rfl
    exact e' ▸ hret _ (ext_of FG' F4 (ho4.trans hE.os) fun y => hb4 (hE.bare y))
end
section
theorem wd14x19 : True := by
  k_with_none
  k_with "omega" => (omega (splitDisjunctions := true))
  k_with "om2" => (first | lia | omega (splitDisjunctions := true))
  k_with "eval Name" => ((k_here; (with_reducible show wpAny _ _ (eval _ (envOf _ _ _ _ _)) _ _ _); k_dflt (refine' nmL ?yF ?yv ?yx ?yk ?yd ?_; (case yF => k_asm); (case yk => exact rfl); (case yx => exact rfl); (case yd => exact rfl); (case yv => exact rfl); k_whole)))
  k_with "storeName" => ((k_here; (with_reducible show wpAny _ _ (storeName (envOf _ _ _ _ _) _ _) _ _ _); k_dflt (refine' stoLe ?yF ?yN ?yx ?yk ?_; (case yF => k_asm); (case yN => k_asm); (case yk => exact rfl); (case yx => exact rfl); k_whole; intro m'ω h'ω F'ω N'ω; (try k_sweep))))
  k_with "eval Name" => ((k_here; (with_reducible show wpAny _ _ (eval _ (envOfC _ _ _ _ _)) _ _ _); k_dflt (refine' nmLC ?yF ?yv ?yk ?yx ?yd ?_; (case yF => k_asm); (case yk => exact rfl); (case yx => exact rfl); (case yd => exact rfl); (case yv => exact rfl); k_whole)))
  k_with "storeName" => ((k_here; (with_reducible show wpAny _ _ (storeName (envOfC _ _ _ _ _) _ _) _ _ _); k_dflt (refine' stoLCe ?yF ?yN ?yk ?yx ?_; (case yF => k_asm); (case yN => k_asm); (case yk => exact rfl); (case yx => exact rfl); k_whole; intro m'ω h'ω F'ω N'ω; (try k_sweep))))
  k_with "execs cons" => ((k_here; (first | (with_reducible show wpAny _ _ (execs _ _) (AtF _) _ _) | (refine execs_abs ?_; intro Q8ω q8ω)); k_dflt (refine execs_gen ?_); intro Q7ω t7ω g7ω o7ω; (try dsimp only)))
  k_with "AtF" => ((with_reducible first | refine AtF.go (by assumption) ?_ | (refine AtF.out (by assumption) (fun z => Flow.noConfusion z) ?_) | (refine AtF.fin (by assumption) ?_; (try dsimp only))))
  k_with "room" => (k_dflt (first | exact rm2 (by assumption) rfl | exact rm1 (by assumption) rfl | exact rm3 (by assumption) rfl | exact rm4 (by assumption) rfl | exact rm0 (by assumption)))
  k_with "kne" => ((refine neN ?_; (try dsimp only); k_extra "ne"))
  k_with "cj" => (first | exact And.left | exact id | (refine cjs ?_; k_extra "cj"))
  k_with "ne" => (with_reducible first | assumption | exact lne (by assumption) | exact gne (by assumption) | exact sne (by assumption) | exact suc | exact suc2 | exact sne suc | exact sne suc2 | (refine ltc (by assumption) ?_; k_extra "cj") | (refine gtc (by assumption) ?_; k_extra "cj") | (refine nec (by assumption) ?_; k_extra "cj") | (refine nfc (by assumption) ?_; k_extra "cj"))
  trivial
section
variable {prog : Program} {w : World} {A : Around} {s : Shared} {h₀ : Heap} {env : Env}

inductive WOk (h₀ : Heap) (L I : Addr) (oI : Obj) (Jn : (Str → Option Value) → List (Addr × Obj) → Prop) (s s₂ : Shared) : Prop
  | mk (m₂ : Str → Option Value) (news₂ : List (Addr × Obj)) (f : Fr h₀ L s₂.heap m₂) (n : News h₀ L s₂.heap ((I, oI) :: news₂)) (a : ∀ p ∈ news₂, p.1 ≠ I) (j : Jn m₂ news₂) (b : AllBare s.gens → AllBare s₂.gens) (o : s₂.os = s.os) : WOk h₀ L I oI Jn s s₂
def WStep (h₀ : Heap) (L I : Addr) (oI : Obj) (Jn : (Str → Option Value) → List (Addr × Obj) → Prop) (R : Result → Shared → Prop) (s : Shared) (f : Flow) (s₂ : Shared) : Prop :=
  match f with
  | .ret v => R (.ok (.ret v)) s₂
  | .brk => R (.ok .next) s₂
  | _ => WOk h₀ L I oI Jn s s₂

theorem list_loop {R : Result → Shared → Prop} {x : Str} {px : Pos} {body : List Stmt} {m : Str → Option Value} {news : List (Addr × Obj)} {vs : List Value} {nE : Nat} {l : Addr}
    (hA : A.handled = none) (hx : env.kindOf x = some .local) (hp : (env.scope.kind == .class || (env.scope.kind == .module && env.locals != env.globals)) = false)
    (F : Fr h₀ env.locals s.heap m) (N : News h₀ env.locals s.heap news) (hl : (l, listOf vs.toArray nE) ∈ news)
    (J : Nat → (Str → Option Value) → List (Addr × Obj) → Prop) (h0 : J 0 m news) (hJl : ∀ i m news, J i m news → (l, listOf vs.toArray nE) ∈ news)
    (step : ∀ i v m₁ news₁ s₁ oI (I : Nat), i < vs.length → vs[i]? = some v → J i m₁ news₁ → (AllBare s.gens → AllBare s₁.gens) → s₁.os = s.os → (∀ p ∈ news, p.1 < I) →
      Fr h₀ env.locals s₁.heap (fun y => if y = x then some v else m₁ y) → News h₀ env.locals s₁.heap ((I, oI) :: news₁) →
      wpAny (model prog w) A (execs body env) (WStep h₀ env.locals I oI (J (i + 1)) R s) (fun _ _ => False) s₁)
    (hR : ∀ s' m' news', Fr h₀ env.locals s'.heap m' → News h₀ env.locals s'.heap news' → J vs.length m' news' → (AllBare s.gens → AllBare s'.gens) → s'.os = s.os → R (.ok .next) s') :
    codeAny (model prog w) A (.forLoop (.Name x px) (.ref s.heap.objs.size) body [] env) R { s with heap := s.heap.push { cls := .type "list_iterator", data := .fields #[.ref l, .int 0 0] } } := by
  have hLs : @LT.lt Nat _ env.locals s.heap.objs.size := by obtain ⟨o, _, _, q, _⟩ := F.ns; exact Heap.lt_size q
  have nz : ∀ p ∈ news, @LT.lt Nat _ p.1 s.heap.objs.size := fun p hp => Heap.lt_size (N p hp).1
  have hI₀ : h₀.get? s.heap.objs.size = none := by
    cases q : h₀.get? s.heap.objs.size with
    | none => rfl
    | some o => exact absurd (Heap.lt_size (F.keep _ _ q)) (Nat.lt_irrefl _)
  have F1 : Fr h₀ env.locals (s.heap.push { cls := .type "list_iterator", data := .fields #[.ref l, .int 0 0] }) m := F.push _
  have N1 : News h₀ env.locals (s.heap.push { cls := .type "list_iterator", data := .fields #[.ref l, .int 0 0] }) news := fun p hp => ⟨Heap.get?_push_of_some _ (N p hp).1, (N p hp).2⟩
  have It : (s.heap.push { cls := .type "list_iterator", data := .fields #[.ref l, .int 0 0] }).IsListIter s.heap.objs.size l 0 := ⟨_, Heap.get?_push_size _ rfl, rfl, rfl⟩
  generalize s.heap.push { cls := .type "list_iterator", data := .fields #[.ref l, .int 0 0] } = h₁ at F1 N1 It ⊢
  generalize s.heap.objs.size = I at *
  refine codeAny_forLoop (fun k s' => ∃ i m' news', k = vs.length + 1 - i ∧ i ≤ vs.length ∧ Fr h₀ env.locals s'.heap m' ∧ News h₀ env.locals s'.heap news' ∧ (∀ p ∈ news', p.1 ≠ I) ∧ J i m' news' ∧ s'.heap.IsListIter I l i ∧ (AllBare s.gens → AllBare s'.gens) ∧ s'.os = s.os) ?_ (vs.length + 1)
    ⟨0, m, news, rfl, Nat.zero_le _, F1, N1, fun p hp => neN (Nat.ne_of_lt (nz p hp)), h0, It, id, rfl⟩
  intro k s' hk
  refine ex39 hk ?_
  clear hk
  intro i m' news' ek hi F' N' hn' hJ It' hb' ho'
  subst ek
  have hl' := (N' _ (hJl i m' news' hJ)).1
  have L' : s'.heap.IsList l vs.toArray := ⟨_, hl', rfl, nE, rfl⟩
  have hLI : env.locals ≠ I := neN (Nat.ne_of_lt hLs)
  rcases Nat.lt_or_ge i vs.length with hlt | hge
  · refine wpAny_pyNext_list_item (x := vs[i]) It' L' (by simp [hlt]) fun h₂ It₂ hs₂ => ?_
    try dsimp only
    have F₂ : Fr h₀ env.locals h₂ m' := by
      obtain ⟨o, es, ep, q, r⟩ := F'.ns
      exact ⟨⟨o, es, ep, hs₂.extBut _ _ hLI q, r⟩, fun b o q => hs₂.extBut _ _ (fun e => by rw [e, hI₀] at q; cases q) (F'.keep b o q), F'.above⟩
    have N₂ : News h₀ env.locals h₂ news' := fun p hp => ⟨hs₂.extBut _ _ (hn' p hp) (N' p hp).1, (N' p hp).2⟩
    refine wpAny_assign_Name (wpAny_storeName_local hx F₂.ns (fun h₃ hn₃ hs₃ => ?_) hp)
    have F₃ := F₂.set hn₃ hs₃
    have N₃ : News h₀ env.locals h₃ news' := N₂.set hs₃
    obtain ⟨oI, hoI, hIc, hId⟩ := It₂
    have hoI₃ : h₃.get? I = some oI := hs₃.extBut _ _ (Ne.symm hLI) hoI
    have N₄ : News h₀ env.locals h₃ ((I, oI) :: news') := fun p hp => by
      rcases List.mem_cons.mp hp with rfl | hp
      · exact ⟨hoI₃, Ne.symm hLI, hI₀⟩
      · exact N₃ p hp
    refine wpAny_mono (step i vs[i] m' news' { s' with heap := h₃, toks := _ } oI I hlt (by simp [hlt]) hJ hb' ho' nz F₃ N₄) (fun f s₃ hf => ?_) fun _ _ z => z.elim
    have again : WOk h₀ env.locals I oI (J (i + 1)) s s₃ →
        ∃ k', k' < vs.length + 1 - i ∧ ∃ i m' news', k' = vs.length + 1 - i ∧ i ≤ vs.length ∧ Fr h₀ env.locals s₃.heap m' ∧ News h₀ env.locals s₃.heap news' ∧ (∀ p ∈ news', p.1 ≠ I) ∧ J i m' news' ∧ s₃.heap.IsListIter I l i ∧ (AllBare s.gens → AllBare s₃.gens) ∧ s₃.os = s.os := by
      rintro ⟨m₂, news₂, F₅, N₅, hn₅, hJ₅, hb₅, ho₅⟩
      exact ⟨vs.length + 1 - (i + 1), by omega, i + 1, m₂, news₂, rfl, hlt, F₅, fun p hp => N₅ p (List.mem_cons_of_mem _ hp), hn₅, hJ₅, ⟨oI, (N₅ (I, oI) (List.mem_cons_self ..)).1, hIc, hId⟩, hb₅, ho₅⟩
    cases f with
    | ret v => exact hf
    | brk => exact hf
    | next => exact again hf
    | cont => exact again hf
  · obtain rfl : i = vs.length := by omega
    refine wpAny_pyNext_list_end hA It' L' (by simp) fun h₂ hs₂ => ?_
    try dsimp only
    refine wpAny_execs_nil (hR _ m' news' ?_ (fun p hp => ⟨hs₂ _ _ (hn' p hp) (N' p hp).1, (N' p hp).2⟩) hJ hb' ho')
    obtain ⟨o, es, ep, q, r⟩ := F'.ns
    exact ⟨⟨o, es, ep, hs₂ _ _ hLI q, r⟩, fun b o q => hs₂ _ _ (fun e => by rw [e, hI₀] at q; cases q) (F'.keep b o q), F'.above⟩
end
end
section
theorem wd15x20 : True := by
  k_with_none
  k_with "omega" => (omega (splitDisjunctions := true))
  k_with "om2" => (first | lia | omega (splitDisjunctions := true))
  k_with "eval Name" => ((k_here; (with_reducible show wpAny _ _ (eval _ (envOf _ _ _ _ _)) _ _ _); k_dflt (refine' nmL ?yF ?yv ?yx ?yk ?yd ?_; (case yF => k_asm); (case yk => exact rfl); (case yx => exact rfl); (case yd => exact rfl); (case yv => exact rfl); k_whole)))
  k_with "storeName" => ((k_here; (with_reducible show wpAny _ _ (storeName (envOf _ _ _ _ _) _ _) _ _ _); k_dflt (refine' stoLe ?yF ?yN ?yx ?yk ?_; (case yF => k_asm); (case yN => k_asm); (case yk => exact rfl); (case yx => exact rfl); k_whole; intro m'ω h'ω F'ω N'ω; (try k_sweep))))
  k_with "eval Name" => ((k_here; (with_reducible show wpAny _ _ (eval _ (envOfC _ _ _ _ _)) _ _ _); k_dflt (refine' nmLC ?yF ?yv ?yk ?yx ?yd ?_; (case yF => k_asm); (case yk => exact rfl); (case yx => exact rfl); (case yd => exact rfl); (case yv => exact rfl); k_whole)))
  k_with "storeName" => ((k_here; (with_reducible show wpAny _ _ (storeName (envOfC _ _ _ _ _) _ _) _ _ _); k_dflt (refine' stoLCe ?yF ?yN ?yk ?yx ?_; (case yF => k_asm); (case yN => k_asm); (case yk => exact rfl); (case yx => exact rfl); k_whole; intro m'ω h'ω F'ω N'ω; (try k_sweep))))
  k_with "execs cons" => ((k_here; (first | (with_reducible show wpAny _ _ (execs _ _) (AtF _) _ _) | (refine execs_abs ?_; intro Q8ω q8ω)); k_dflt (refine execs_gen ?_); intro Q7ω t7ω g7ω o7ω; (try dsimp only)))
  k_with "AtF" => ((with_reducible first | refine AtF.go (by assumption) ?_ | (refine AtF.out (by assumption) (fun z => Flow.noConfusion z) ?_) | (refine AtF.fin (by assumption) ?_; (try dsimp only))))
  k_with "room" => (k_dflt (first | exact rm2 (by assumption) rfl | exact rm1 (by assumption) rfl | exact rm3 (by assumption) rfl | exact rm4 (by assumption) rfl | exact rm0 (by assumption)))
  k_with "kne" => ((refine neN ?_; (try dsimp only); k_extra "ne"))
  k_with "cj" => (first | exact And.left | exact id | (refine cjs ?_; k_extra "cj"))
  k_with "ne" => (with_reducible first | assumption | exact lne (by assumption) | exact gne (by assumption) | exact sne (by assumption) | exact suc | exact suc2 | exact sne suc | exact sne suc2 | (refine ltc (by assumption) ?_; k_extra "cj") | (refine gtc (by assumption) ?_; k_extra "cj") | (refine nec (by assumption) ?_; k_extra "cj") | (refine nfc (by assumption) ?_; k_extra "cj"))
  k_with "call builtin:len" => ((k_here; (with_reducible show wpAny _ _ (call (Value.builtin "len") [Value.str _ _]) _ _ _); k_dflt (refine' len_text ?k1 ?_; (case k1 => omega); k_whole)))
  k_with "call builtin:str.join" => ((k_here; (with_reducible show wpAny _ _ (call (Value.builtin "str.join") [Value.str _ _, Value.ref _]) _ _ _); k_dflt (refine' join_texts ?k1 ?k2 ?k3 ?k4 ?_; (case k1 => k_asm); (case k2 => k_mem); (case k3 => assumption); (case k4 => first | assumption | omega); k_whole; intro t'ω k'ω)))
  k_with "call ref" => ((k_here; (with_reducible show wpAny _ _ (call (Value.ref 28) _) _ _ _); k_dflt (refine' c_strip ?k1 ?k2 ?k3 ?k4 ?k5 ?k6 ?k7 ?_; (case k1 => refine' pushT ?p1 ?p2 ?p3 ?p4; (case p1 => k_asm); (case p2 => k_asm); (case p3 => exact rfl); (case p4 => exact rfl)); (case k2 => k_asm); (case k3 => k_asm); (case k4 => assumption); (case k5 => omega); (case k6 => ktr_room); (case k7 => ktr_units); k_whole; (intro s'ω t'ω hEω; have F9ω := back_fr (by k_asm) (by k_asm) hEω (fun _ hq => nomatch hq); have N9ω := back_news0 (by k_asm) hEω; (try k_sweep); (try dsimp only)))))
  k_with "exec For Name Name cons nil" => ((k_here; k_dflt (refine wpAny_For ?_)))
  k_with "call ref" => ((k_here; (with_reducible show wpAny _ _ (call (Value.ref 35) _) _ _ _); k_dflt (refine' c_check ?k1 ?k2 ?k3 ?k4 ?k5 ?k6 ?k7 ?_; (case k1 => refine' pushT ?p1 ?p2 ?p3 ?p4; (case p1 => k_asm); (case p2 => k_asm); (case p3 => exact rfl); (case p4 => exact rfl)); (case k2 => k_asm); (case k3 => k_asm); (case k4 => assumption); (case k5 => first | assumption | omega); (case k6 => ktr_room); (case k7 => ktr_units); k_whole; (intro s'ω hEω; have F9ω := back_fr (by k_asm) (by k_asm) hEω (fun _ hq => nomatch hq); have N9ω := back_news0 (by k_asm) hEω; (try k_sweep); (try dsimp only)))))
  trivial
theorem TextsAre.get {vs : List Value} {cs : List (List Nat)} (h : TextsAre vs cs) : ∀ {i : Nat} {v : Value}, vs[i]? = some v → ∃ c t, cs[i]? = some c ∧ v = .str ⟨c.toArray⟩ t := by
  induction h with
  | nil => intro i v q; simp at q
  | cons c t _ ih =>
    intro i v q
    cases i with
    | zero => simp at q; exact ⟨c, t, rfl, q.symm⟩
    | succ i => exact ih (by simpa using q)
def tornL : List Nat := [40, 39, 39, 44, 32, 39, 39, 41]
def valL (c : List Nat) : List Nat := if checkL c then c else tornL
theorem form_pre {m : Str → Option Value} {n1 : Str} {v1 : Value} (h1 : m n1 = some v1) : m = fun y => if y = n1 then some v1 else m y := form1 h1
inductive PJ (l r : Addr) (vs : List Value) (n : Nat) (cs : List (List Nat)) (i : Nat) (m : Str → Option Value) (news : List (Addr × Obj)) : Prop
  | mk (ws : List Value) (k : Nat) (a1 : m (Str.ofString "accepted_values") = some (.ref r)) (a2 : news = [(r, listOf ws.toArray k), (l, listOf vs.toArray n)]) (a3 : TextsAre ws ((cs.take i).map valL)) (a4 : ws.length = i) : PJ l r vs n cs i m news

theorem c_prep {w : World} {mean : ExcName → Option Value} {mg mb : Str → Option Value} {dp un : Nat} {gd : Option (List Code)} {outer : List Env} {base : Heap} {s : Shared} {Q E : Value → Shared → Prop} {l : Addr} {vs : List Value} {cs : List (List Nat)} {n : Nat} (B : Below (top dp un gd outer) base outer s.heap) (X : (Kt w.params).In base) (T : Top vw loo mean mg mb base) (H : Has base outer s.heap [(l, listOf vs.toArray n)]) (ht : TextsAre vs cs)
  (hx : ∀ c ∈ cs, (∀ d ∈ c, d ≠ 92) ∧ c.length < 1000) (hn : cs.length < 1000) (hdp : dp + 8 < recursionLimit) (hun : un + 48 < cLine)
  (hret : ∀ s' r vs' n', Ext [] s s' → s.heap.get? r = none → s'.heap.get? r = some (listOf vs'.toArray n') → TextsAre vs' (cs.map valL) → Q (.ref r) s') :
  wpAny (model PySem.Challenge.rw_om0101_01.row.prog w) (top dp un gd outer) (call (.ref 42) [.ref l]) Q E s := by
  revert X; k_fill; intro X
  have hvl := ht.length
  w_strict (
   (refine wpAny_call ?_; (k_dflt (refine' enterN ?k1 ?k2 ?k3 ?k4 ?k6 ?k7 ?k8 ?k9 ?kB ?_ ?c2 ?c3 ?c4 ?c5; (case k1 => k_asm); (case k2 => k_asm); (case k3 => k_asm); (case k4 => first | k_asm | exact Has.nil); (case k6 => k_is); (case k7 => k_is); (case k8 => ktr_room); (case k9 => exact BindsTo.of_eq rfl); (case c5 => decide); (case kB => exact locs rfl); (case c2 => exact rfl); (case c3 => exact rfl); (case c4 => exact rfl); k_whole; intro g' L' h' Q9 t9 q9 FG' F' N' B' X' T' l1; (try k_lt l1); (try dsimp only); (try k_lift B'); (try k_fold))))
   k_steps)
  rename Fr _ _ _ _ => F1
  rename News _ _ _ _ => N1
  obtain ⟨r, hr⟩ := addr_of N1
  subst hr
  refine wpAny_pyIter_list (items := vs.toArray) ⟨_, (N1 (l, listOf vs.toArray n) (.tail _ (.head _))).1, rfl, n, rfl⟩ ?_
  have hlr : @LT.lt Nat _ l r := by assumption
  have hrl : s.heap.get? r = none := fresh_of FG' N1 (.head _) (by simp only [List.map_cons, List.map_nil, List.mem_singleton]; exact neN (by first | k_extra "ne" | omega))
  refine list_loop (vs := vs) (nE := n) (l := l) rfl rfl rfl F1 N1 (.tail _ (.head _)) (PJ l r vs n cs) ?_ ?_ ?_ ?_
  · exact ⟨[], 0, rfl, rfl, .nil, rfl⟩
  · rintro i m news ⟨ws, k, _, rfl, _⟩
    exact .tail _ (.head _)
  · intro i v m₁ news₁ s₁ oI I hi hv hJ hb₁ ho₁ hnz F3 N3
    obtain ⟨ws, k, e1, rfl, hts, hwl⟩ := hJ
    obtain ⟨c, tc, hc, rfl⟩ := ht.get hv
    have hcx := hx c (List.mem_of_getElem? hc)
    have hx1 : ∀ d ∈ (⟨c.toArray⟩ : Str).cps, d ≠ 92 := fun d hd => hcx.1 d (by simpa using hd)
    have hx2 : (⟨c.toArray⟩ : Str).cps.size < 1000 := by simpa using hcx.2
    have hrI : r < I := hnz _ (.head _)
    have hlI : @LT.lt Nat _ l I := hnz _ (.tail _ (.head _))
    rw [form1 e1] at F3
    clear F1 N1
    obtain ⟨h4, gens4, dr4, tk4, os4⟩ := s₁
    dsimp only at F3 N3 hb₁ ho₁ ⊢
    have htk : (cs.take (i + 1)).map valL = (cs.take i).map valL ++ [valL c] := by rw [List.take_add_one, hc]; simp
    have hne : ∀ o o' : Obj, ∀ p ∈ [(r, o), (l, o')], p.1 ≠ I := fun o o' p hp => by
      simp only [List.mem_cons, List.not_mem_nil, or_false] at hp
      rcases hp with rfl | rfl
      · exact neN (by first | k_extra "ne" | omega)
      · exact neN (by first | k_extra "ne" | omega)
    k_steps
    · have q : checkL c = true := by assumption
      rename Ext _ _ _ => hE
      rename News _ _ _ _ => N5
      rw [List.push_toArray] at N5
      refine ⟨_, [(r, _), (l, _)], by assumption, N5, hne _ _, ⟨_, _, rfl, rfl, ?_, ?_⟩, fun z => hE.bare (hb₁ z), hE.os.trans ho₁⟩
      · rw [htk, valL, if_pos q]; exact hts.snoc _ _
      · simp [hwl]
    · have q : checkL c = false := by assumption
      rename Ext _ _ _ => hE
      rename News _ _ _ _ => N5
      rw [List.push_toArray] at N5
      refine ⟨_, [(r, _), (l, _)], by assumption, N5, hne _ _, ⟨_, _, rfl, rfl, ?_, ?_⟩, fun z => hE.bare (hb₁ z), hE.os.trans ho₁⟩
      · rw [htk, valL, if_neg (by rw [q]; decide), show Str.ofString "('', '')" = ⟨tornL.toArray⟩ from by decide +kernel]; exact hts.snoc _ _
      · simp [hwl]
  · intro s' m' news' F4 N4 hJ hb4 ho4
    obtain ⟨ws, k, e1, rfl, hts, hwl⟩ := hJ
    rw [form1 e1] at F4
    clear F1 N1
    obtain ⟨h4, gens4, dr4, tk4, os4⟩ := s'
    dsimp only at F4 N4 hb4 ho4 ⊢
    k_steps
    try dsimp only
    refine hret _ _ _ _ ⟨fun b o hb q => ?_, ho4, hb4⟩ hrl (N4 _ (.head _)).1 ?_
    · by_cases e : b = l
      · subst e
        have q' := (H _ (.head _)).1
        rw [q'] at q; cases q
        exact (N4 _ (.tail _ (.head _))).1
      · exact F4.keep _ _ (FG' b o (by simpa using e) q)
    · rw [hvl, List.take_length] at hts; exact hts
end
section
theorem wd16x21 : True := by
  k_with_none
  k_with "omega" => (omega (splitDisjunctions := true))
  k_with "om2" => (first | lia | omega (splitDisjunctions := true))
  k_with "eval Name" => ((k_here; (with_reducible show wpAny _ _ (eval _ (envOf _ _ _ _ _)) _ _ _); k_dflt (refine' nmL ?yF ?yv ?yx ?yk ?yd ?_; (case yF => k_asm); (case yk => exact rfl); (case yx => exact rfl); (case yd => exact rfl); (case yv => exact rfl); k_whole)))
  k_with "storeName" => ((k_here; (with_reducible show wpAny _ _ (storeName (envOf _ _ _ _ _) _ _) _ _ _); k_dflt (refine' stoLe ?yF ?yN ?yx ?yk ?_; (case yF => k_asm); (case yN => k_asm); (case yk => exact rfl); (case yx => exact rfl); k_whole; intro m'ω h'ω F'ω N'ω; (try k_sweep))))
  k_with "eval Name" => ((k_here; (with_reducible show wpAny _ _ (eval _ (envOfC _ _ _ _ _)) _ _ _); k_dflt (refine' nmLC ?yF ?yv ?yk ?yx ?yd ?_; (case yF => k_asm); (case yk => exact rfl); (case yx => exact rfl); (case yd => exact rfl); (case yv => exact rfl); k_whole)))
  k_with "storeName" => ((k_here; (with_reducible show wpAny _ _ (storeName (envOfC _ _ _ _ _) _ _) _ _ _); k_dflt (refine' stoLCe ?yF ?yN ?yk ?yx ?_; (case yF => k_asm); (case yN => k_asm); (case yk => exact rfl); (case yx => exact rfl); k_whole; intro m'ω h'ω F'ω N'ω; (try k_sweep))))
  k_with "execs cons" => ((k_here; (first | (with_reducible show wpAny _ _ (execs _ _) (AtF _) _ _) | (refine execs_abs ?_; intro Q8ω q8ω)); k_dflt (refine execs_gen ?_); intro Q7ω t7ω g7ω o7ω; (try dsimp only)))
  k_with "AtF" => ((with_reducible first | refine AtF.go (by assumption) ?_ | (refine AtF.out (by assumption) (fun z => Flow.noConfusion z) ?_) | (refine AtF.fin (by assumption) ?_; (try dsimp only))))
  k_with "room" => (k_dflt (first | exact rm2 (by assumption) rfl | exact rm1 (by assumption) rfl | exact rm3 (by assumption) rfl | exact rm4 (by assumption) rfl | exact rm0 (by assumption)))
  k_with "kne" => ((refine neN ?_; (try dsimp only); k_extra "ne"))
  k_with "cj" => (first | exact And.left | exact id | (refine cjs ?_; k_extra "cj"))
  k_with "ne" => (with_reducible first | assumption | exact lne (by assumption) | exact gne (by assumption) | exact sne (by assumption) | exact suc | exact suc2 | exact sne suc | exact sne suc2 | (refine ltc (by assumption) ?_; k_extra "cj") | (refine gtc (by assumption) ?_; k_extra "cj") | (refine nec (by assumption) ?_; k_extra "cj") | (refine nfc (by assumption) ?_; k_extra "cj"))
  trivial
section
variable {prog : Program} {w : World} {A : Around} {E : Value → Shared → Prop} {s : Shared}

theorem next_tup_item {it t : Addr} {i : Nat} {items : Array Value} {x : Value} {Q : Value → Shared → Prop} (hit : s.heap.IsTupleIter it t i) (ht : s.heap.IsTuple t items) (hx : items[i]? = some x)
    (hQ : ∀ h', h'.IsTupleIter it t (i + 1) → Heap.SameBut it s.heap h' → Q x { s with heap := h' }) : wpAny (model prog w) A (Builtin.SmallTypes.nextOf (.ref it)) Q E s := by
  obtain ⟨o, ho, hc, hd⟩ := id hit
  obtain ⟨ol, hol, _, nl, hdl⟩ := ht
  unfold Builtin.SmallTypes.nextOf
  refine wpAny_bind (wpAny_callSpecial?_slot (name := Str.ofString "__next__") hit.typeIs F.slot_tuple_iterator_next (wpAny_call_entry F.slot_tuple_iterator_next hit.typeIs F.entry_tuple_iterator_next ?_ (F.args_tuple_iterator_next_1 _)))
  show wpAny _ _ (field (.ref it) 0 >>= _) _ _ s
  refine wpAny_bind (wpAny_field ho hd (x := .ref t) rfl ?_)
  show wpAny _ _ (if (Value.ref t == Value.none) = true then _ else _) _ _ s
  rw [if_neg (show ¬ ((Value.ref t == Value.none) = true) from Bool.false_ne_true)]
  show wpAny _ _ (field (.ref it) 1 >>= _) _ _ s
  refine wpAny_bind (wpAny_field ho hd (x := .int i 0) rfl ?_)
  show wpAny _ _ (seqItems? (.ref t) >>= _) _ _ s
  refine wpAny_bind (wpAny_seqItems hol hdl ?_)
  simp only [Int.toNat_natCast, hx]
  refine wpAny_bind (wpAny_setField ho hd (by simp) (wpAny_pure ⟨x, rfl, wpAny_pure (hQ _ ?_ (Heap.SameBut.update ..))⟩))
  exact ⟨_, Heap.get?_update_self _ ho (Obj.isFreed_of_fields (Obj.data_mapFields hd _)), (Obj.cls_mapFields ..).trans hc, by rw [Obj.data_mapFields hd]; simp [rawInt]⟩

theorem next_tup_end {it t : Addr} {i : Nat} {items : Array Value} {Q : Value → Shared → Prop} (hh : A.handled = none) (hit : s.heap.IsTupleIter it t i) (ht : s.heap.IsTuple t items) (hx : items[i]? = none)
    (hE : ∀ h' e, Heap.ExtBut it s.heap h' → (∃ o, h'.get? e = some o ∧ o.cls = .type "StopIteration") → E (.ref e) { s with heap := h' }) : wpAny (model prog w) A (Builtin.SmallTypes.nextOf (.ref it)) Q E s := by
  obtain ⟨o, ho, hc, hd⟩ := id hit
  obtain ⟨ol, hol, _, nl, hdl⟩ := ht
  unfold Builtin.SmallTypes.nextOf
  refine wpAny_bind (wpAny_callSpecial?_slot (name := Str.ofString "__next__") hit.typeIs F.slot_tuple_iterator_next (wpAny_call_entry F.slot_tuple_iterator_next hit.typeIs F.entry_tuple_iterator_next ?_ (F.args_tuple_iterator_next_1 _)))
  show wpAny _ _ (field (.ref it) 0 >>= _) _ _ s
  refine wpAny_bind (wpAny_field ho hd (x := .ref t) rfl ?_)
  show wpAny _ _ (if (Value.ref t == Value.none) = true then _ else _) _ _ s
  rw [if_neg (show ¬ ((Value.ref t == Value.none) = true) from Bool.false_ne_true)]
  show wpAny _ _ (field (.ref it) 1 >>= _) _ _ s
  refine wpAny_bind (wpAny_field ho hd (x := .int i 0) rfl ?_)
  show wpAny _ _ (seqItems? (.ref t) >>= _) _ _ s
  refine wpAny_bind (wpAny_seqItems hol hdl ?_)
  simp only [Int.toNat_natCast, hx]
  refine wpAny_bind (wpAny_rule (wpAny_bind (wpAny_setField ho hd (by simp) ?_)))
  show wpAny _ _ (newExc (.type "StopIteration") [] >>= _) _ _ _
  refine wpAny_bind ?_
  simp only [newExc, newTuple]
  refine wpAny_bind (wpAny_newObj_type ?_ (by size_fits))
  refine wpAny_bind (m := firstArgMember _ _) (wpAny_of_eq (a := Value.none) (by first | rfl | (simp only [firstArgMember]; rfl)) ?_)
  refine wpAny_newObj_type ?_ (by size_fits)
  simp only [raiseNew]
  refine wpAny_bind (wpAny_handled ?_)
  first | rw [show A.in1.handled = none from hh] | rw [hh]
  refine wpAny_bind (wpAny_pure (wpAny_throw ?_))
  exact hE _ _ (((Heap.SameBut.update ..).extBut.push _).push _) ⟨_, Heap.get?_push_size _ rfl, rfl⟩

theorem draws_tup (hh : A.handled = none) (it t : Addr) (hne : t ≠ it) (items : Array Value) :
    Draws prog w A it [it, t] items.size (fun i v => items[i]? = some v) (fun i h => h.IsTupleIter it t i ∧ h.IsTuple t items) where
  live := fun _ _ st => let ⟨o, ho, _⟩ := st.1; ⟨o, ho⟩
  frame := fun _ _ _ st hk => ⟨let ⟨o, ho, r⟩ := st.1; ⟨o, hk it (by simp) o ho, r⟩, let ⟨o, ho, r⟩ := st.2; ⟨o, hk t (by simp) o ho, r⟩⟩
  item := fun i s Q E hi st hQ => by
    refine next_tup_item st.1 st.2 (x := items[i]) (by simp [hi]) fun h' hit' hs' => ?_
    exact hQ _ h' s.toks (by simp [hi]) ⟨hit', let ⟨o, ho, r⟩ := st.2; ⟨o, hs'.extBut _ _ hne ho, r⟩⟩ hs'
  done := fun s Q E st hE => next_tup_end hh st.1 st.2 (by simp) hE

open AutoSeq1 (wpAny_loadPart') in
theorem enum_new_tup (l : Addr) (items : Array Value) (n : Nat) (dct : Option Addr) (sl : Array (Option Value)) :
    Meets (Builtin.«enumerate.__new__» ⟨[.type "enumerate", .ref l], []⟩) (fun _ R s => s.heap.get? l = some { cls := .type "tuple", dict := dct, data := .seq items n, slots := sl } ∧
      R (.ok (.ret (.ref (s.heap.push { cls := .type "tuple_iterator", data := .fields #[.ref l, .int 0 0] }).objs.size)))
        { s with heap := (s.heap.push { cls := .type "tuple_iterator", data := .fields #[.ref l, .int 0 0] }).push { cls := .type "enumerate", data := .fields #[.none, .bool false, .ref s.heap.objs.size, rawInt 0, .none, .none] } }) :=
  .of_wp fun prog w A R s h => by
    obtain ⟨hp, g, d, tk, os⟩ := s; obtain ⟨hl, h⟩ := h
    have hsub := sub_enumerate
    have hL : Heap.IsTuple (Shared.heap ⟨hp, g, d, tk, os⟩) l items := ⟨_, hl, rfl, n, rfl⟩
    wp_walk using wpAny_loadPart' hl
    refine wpAny_stack_any fun st => wpAny_pure ?_
    split
    · rename_i c _ _ _ _ _
      cases (c == Value.type "enumerate")
      · wp_walk using wpAny_loadPart' hl, wpAny_pyIter_tuple hL
        exact ⟨_, rfl, h⟩
      · wp_walk using wpAny_loadPart' hl, wpAny_pyIter_tuple hL
        exact ⟨_, rfl, h⟩
    · wp_walk using wpAny_loadPart' hl, wpAny_pyIter_tuple hL
      exact ⟨_, rfl, h⟩

theorem enum_call_tup {l : Addr} {items : Array Value} {Q : Value → Shared → Prop} (hL : s.heap.IsTuple l items)
    (h : ∀ h', IsEnum h' (s.heap.objs.size + 1) s.heap.objs.size 0 .none → h'.IsTupleIter s.heap.objs.size l 0 → (∀ b o, s.heap.get? b = some o → h'.get? b = some o) → Q (.ref (s.heap.objs.size + 1)) { s with heap := h' }) :
    wpAny (model prog w) A (call (.type "enumerate") [.ref l]) Q E s := by
  obtain ⟨⟨c, dct, dt, sl⟩, hl, hc, n, hd⟩ := hL
  replace hc : c = .type "tuple" := hc
  replace hd : dt = .seq items n := hd
  subst hc hd
  refine callType_new F.called_enumerate (by decide) (F.typeCall_enumerate_1 _) (F.newCall_enumerate_1 _) (fun obj => F.args_object_init_2 obj _) F.entry_enumerate_new (enum_new_tup l items n dct sl) ⟨hl, ?_⟩
  have hz : (s.heap.push { cls := .type "tuple_iterator", data := .fields #[.ref l, .int 0 0] }).objs.size = s.heap.objs.size + 1 := Heap.size_push ..
  show _ ∧ _
  rw [hz]
  have he : IsEnum ((s.heap.push { cls := .type "tuple_iterator", data := .fields #[.ref l, .int 0 0] }).push { cls := .type "enumerate", data := .fields #[.none, .bool false, .ref s.heap.objs.size, rawInt 0, .none, .none] }) (s.heap.objs.size + 1) s.heap.objs.size 0 .none := by
    have := Heap.get?_push_size (s.heap.push { cls := .type "tuple_iterator", data := .fields #[.ref l, .int 0 0] }) (o := { cls := .type "enumerate", data := .fields #[.none, .bool false, .ref s.heap.objs.size, rawInt 0, .none, .none] }) rfl
    rw [hz] at this; exact this
  exact ⟨⟨_, he, rfl⟩, h _ he ⟨_, Heap.get?_push_of_some _ (Heap.get?_push_size _ rfl), rfl, rfl⟩ fun b o x => Heap.get?_push_of_some _ (Heap.get?_push_of_some _ x)⟩
end
def EStep (h₀ : Heap) (L : Addr) (own : List (Addr × Obj)) (D : List Addr) (Jn : (Str → Option Value) → List (Addr × Obj) → Prop) (R : Result → Shared → Prop) (s : Shared) (f : Flow) (s₂ : Shared) : Prop :=
  match f with
  | .ret v => R (.ok (.ret v)) s₂
  | .brk => R (.ok .next) s₂
  | _ => ∃ m₂ news₂, Fr h₀ L s₂.heap m₂ ∧ News h₀ L s₂.heap (own ++ news₂) ∧ (∀ p ∈ news₂, p.1 ∉ D) ∧ Jn m₂ news₂ ∧ (AllBare s.gens → AllBare s₂.gens) ∧ s₂.os = s.os
section
variable {prog : Program} {w : World} {A : Around} {s : Shared} {h₀ h₁ : Heap} {env : Env}
theorem enum_loop {R : Result → Shared → Prop} {xi xc : Str} {pk pv pt : Pos} {x1 : Nat} {body : List Stmt} {m : Str → Option Value} {news : List (Addr × Obj)} {l : Nat} {items : Array Value}
    (hA : A.handled = none) (hxi : env.kindOf xi = some .local) (hxc : env.kindOf xc = some .local) (hp : (env.scope.kind == .class || (env.scope.kind == .module && env.locals != env.globals)) = false)
    (F : Fr h₀ env.locals s.heap m) (N : News h₀ env.locals s.heap news) (hT : h₀.IsTuple l items)
    (hE : IsEnum h₁ (s.heap.objs.size + 1) s.heap.objs.size 0 .none) (hI : h₁.IsTupleIter s.heap.objs.size l 0) (hk : ∀ b o, s.heap.get? b = some o → h₁.get? b = some o)
    (J : Nat → (Str → Option Value) → List (Addr × Obj) → Prop) (h0 : J 0 m news)
    (step : ∀ i v u1 m₁ news₁ s₁ oe oi (it : Nat), i < items.size → items[i]? = some v → J i m₁ news₁ → (AllBare s.gens → AllBare s₁.gens) → s₁.os = s.os → (∀ p ∈ news, p.1 < it) →
      Fr h₀ env.locals s₁.heap (fun y => if y = xc then some v else if y = xi then some (.int i u1) else m₁ y) → News h₀ env.locals s₁.heap ([(it + 1, oe), (it, oi)] ++ news₁) →
      wpAny (model prog w) A (execs body env) (EStep h₀ env.locals [(it + 1, oe), (it, oi)] [it + 1, it] (J (i + 1)) R s) (fun _ _ => False) s₁)
    (hR : ∀ s' m' news', Fr h₀ env.locals s'.heap m' → News h₀ env.locals s'.heap news' → J items.size m' news' → (AllBare s.gens → AllBare s'.gens) → s'.os = s.os → R (.ok .next) s') :
    codeAny (model prog w) A (.forLoop (.Tuple [.Name xi pk, .Name xc pv] x1 pt) (.ref (s.heap.objs.size + 1)) body [] env) R { s with heap := h₁ } := by
  have hLs : @LT.lt Nat _ env.locals s.heap.objs.size := by obtain ⟨o, _, _, q, _⟩ := F.ns; exact Heap.lt_size q
  have nz : ∀ p ∈ news, @LT.lt Nat _ p.1 s.heap.objs.size := fun p hp => Heap.lt_size (N p hp).1
  have h₀z : ∀ (b : Nat) o, h₀.get? b = some o → b < s.heap.objs.size := fun b o q => Heap.lt_size (F.keep b o q)
  have hls : l < s.heap.objs.size := by obtain ⟨o, q, _⟩ := hT; exact h₀z _ _ q
  have F1 : Fr h₀ env.locals h₁ m := ⟨F.ns.keeps hk, fun b o q => hk b o (F.keep b o q), F.above⟩
  have N1 : News h₀ env.locals h₁ news := fun p hp => ⟨hk _ _ (N p hp).1, (N p hp).2⟩
  generalize s.heap.objs.size = it at *
  have W := WalksT.enumerateD (draws_tup (prog := prog) (w := w) (show A.in1.handled = none from hA) it l (neN (by first | k_extra "ne" | omega)) items) (it + 1) (Nat.succ_ne_self it) (by simp only [List.mem_cons, List.not_mem_nil, or_false, not_or]; exact ⟨Nat.succ_ne_self it, neN (by first | k_extra "ne" | omega)⟩) (by simp)
  have hD₀ : ∀ b o, h₀.get? b = some o → b ∉ [it + 1, it] := fun b o q hb => by
    have := h₀z b o q
    simp only [List.mem_cons, List.not_mem_nil, or_false] at hb
    rcases hb with rfl | rfl <;> omega
  have hDL : env.locals ∉ [it + 1, it] := by
    simp only [List.mem_cons, List.not_mem_nil, or_false, not_or]
    exact ⟨neN (by first | k_extra "ne" | omega), neN (by first | k_extra "ne" | omega)⟩
  have hn0 : ∀ (b : Nat), it ≤ b → h₀.get? b = none := fun b hb => by
    cases q : h₀.get? b with
    | none => rfl
    | some o => have := h₀z b o q; omega
  refine codeAny_forLoop_any (fun k s' => ∃ i m' news', k = items.size + 1 - i ∧ i ≤ items.size ∧ Fr h₀ env.locals s'.heap m' ∧ News h₀ env.locals s'.heap news' ∧ (∀ p ∈ news', p.1 ∉ [it + 1, it]) ∧ J i m' news' ∧ ((∃ old, IsEnum s'.heap (it + 1) it i old) ∧ s'.heap.IsTupleIter it l i ∧ s'.heap.IsTuple l items) ∧ (AllBare s.gens → AllBare s'.gens) ∧ s'.os = s.os) ?_ (items.size + 1)
    ⟨0, m, news, rfl, Nat.zero_le _, F1, N1, fun p hp => by have := nz p hp; simp only [List.mem_cons, List.not_mem_nil, or_false, not_or]; exact ⟨neN (by first | k_extra "ne" | omega), neN (by first | k_extra "ne" | omega)⟩, h0, ⟨⟨_, hE⟩, hI, let ⟨o, q, r⟩ := hT; ⟨o, F1.keep _ _ q, r⟩⟩, id, rfl⟩
  intro k s' hk
  refine ex39 hk ?_
  clear hk
  intro i m' news' ek hi F' N' hn' hJ hst hb' ho'
  subst ek
  have next : ∀ h₂ : Heap, (∀ b o, b ∉ [it + 1, it] → s'.heap.get? b = some o → h₂.get? b = some o) → Fr h₀ env.locals h₂ m' ∧ News h₀ env.locals h₂ news' := fun h₂ hk₂ => by
    obtain ⟨o, es, ep, q, r⟩ := F'.ns
    exact ⟨⟨⟨o, es, ep, hk₂ _ _ hDL q, r⟩, fun b o q => hk₂ _ _ (hD₀ b o q) (F'.keep b o q), F'.above⟩, fun p hp => ⟨hk₂ _ _ (hn' p hp) (N' p hp).1, (N' p hp).2⟩⟩
  rcases Nat.lt_or_ge i items.size with hlt | hge
  · refine W.item i _ _ _ hlt hst fun T' vals h₂ tk₂ hPt hT' hTt hMid hk₂ => ?_
    obtain ⟨u1, v, hv, rfl⟩ := hPt
    try dsimp only
    refine W.go _ _ _ i T' _ _ _ hMid fun h₃ hst₃ hk₃ => ?_
    have ht₃ : h₃.IsTuple T' _ := hTt.at fun o q => hk₃ T' o (W.apart i T' h₂ hMid) q
    refine wpAny_assign_Tuple hA ht₃ rfl rfl fun h₄ hx₄ => ?_
    have up₄ : ∀ b o, h₃.get? b = some o → h₄.get? b = some o := fun b o q => hx₄ b o (Nat.ne_of_lt (Heap.lt_size q)) q
    obtain ⟨F₄, N₄⟩ := next h₄ fun b o hb q => up₄ b o (hk₃ b o hb (hk₂ b o hb q))
    show wpAny _ A (do holding [_] (assign (.Name xi pk) env _); do holding [] (assign (.Name xc pv) env _); pure ()) _ _ _
    refine wpAny_bind (wpAny_holding (wpAny_assign_Name (wpAny_storeName_local hxi F₄.ns (fun h₅ hn₅ hs₅ => ?_) hp)))
    have F₅ := F₄.set hn₅ hs₅
    refine wpAny_bind (wpAny_holding (wpAny_assign_Name (wpAny_storeName_local hxc F₅.ns (fun h₆ hn₆ hs₆ => wpAny_pure ?_) hp)))
    have F₆ := F₅.set hn₆ hs₆
    have N₆ : News h₀ env.locals h₆ news' := (N₄.set hs₅).set hs₆
    have hLl : (l : Nat) ≠ env.locals := fun q => by
      obtain ⟨o, z, _⟩ := hT
      have y := Nat.lt_of_lt_of_le (Heap.lt_size z) F.above
      rw [q] at y
      exact Nat.lt_irrefl _ y
    have hst₆ := W.frame _ _ h₆ hst₃ fun b hb o q => by
      have hbL : b ≠ env.locals := by
        simp only [List.mem_cons, List.not_mem_nil, or_false] at hb
        rcases hb with rfl | rfl | rfl
        · exact neN (by first | k_extra "ne" | omega)
        · exact neN (by first | k_extra "ne" | omega)
        · exact hLl
      exact hs₆.extBut b o hbL (hs₅.extBut b o hbL (up₄ b o q))
    obtain ⟨⟨old, hE₆⟩, hI₆, hT₆⟩ := hst₆
    obtain ⟨oi, hoi, hri⟩ := hI₆
    obtain ⟨oe, hoe⟩ : ∃ o, h₆.get? (it + 1) = some o := ⟨_, hE₆⟩
    have eoe := Option.some.inj (hoe.symm.trans hE₆)
    have N₇ : News h₀ env.locals h₆ ([(it + 1, oe), (it, oi)] ++ news') := by
      intro p hp
      rcases List.mem_append.mp hp with hp | hp
      · simp only [List.mem_cons, List.not_mem_nil, or_false] at hp
        rcases hp with rfl | rfl
        · exact ⟨hoe, neN (by first | k_extra "ne" | omega), hn0 _ (by omega)⟩
        · exact ⟨hoi, neN (by first | k_extra "ne" | omega), hn0 _ (by omega)⟩
      · exact N₆ p hp
    refine wpAny_mono (step i v u1 m' news' { s' with heap := h₆, toks := _ } oe oi it hlt hv hJ hb' ho' nz F₆ N₇) (fun f s₃ hf => ?_) fun _ _ z => z.elim
    have again : (∃ m₂ news₂, Fr h₀ env.locals s₃.heap m₂ ∧ News h₀ env.locals s₃.heap ([(it + 1, oe), (it, oi)] ++ news₂) ∧ (∀ p ∈ news₂, p.1 ∉ [it + 1, it]) ∧ J (i + 1) m₂ news₂ ∧ (AllBare s.gens → AllBare s₃.gens) ∧ s₃.os = s.os) →
        ∃ k', k' < items.size + 1 - i ∧ ∃ i m' news', k' = items.size + 1 - i ∧ i ≤ items.size ∧ Fr h₀ env.locals s₃.heap m' ∧ News h₀ env.locals s₃.heap news' ∧ (∀ p ∈ news', p.1 ∉ [it + 1, it]) ∧ J i m' news' ∧ ((∃ old, IsEnum s₃.heap (it + 1) it i old) ∧ s₃.heap.IsTupleIter it l i ∧ s₃.heap.IsTuple l items) ∧ (AllBare s.gens → AllBare s₃.gens) ∧ s₃.os = s.os := by
      rintro ⟨m₂, news₂, F₈, N₈, hn₈, hJ₈, hb₈, ho₈⟩
      refine ⟨items.size + 1 - (i + 1), by omega, i + 1, m₂, news₂, rfl, hlt, F₈, fun p hp => N₈ p (List.mem_append_right _ hp), hn₈, hJ₈, ⟨⟨old, by have k := (N₈ (it + 1, oe) (.head _)).1; rw [eoe] at k; exact k⟩, ⟨oi, (N₈ (it, oi) (.tail _ (.head _))).1, hri⟩, let ⟨o, q, r⟩ := hT; ⟨o, F₈.keep _ _ q, r⟩⟩, hb₈, ho₈⟩
    cases f with
    | ret v => exact hf
    | brk => exact hf
    | next => exact again hf
    | cont => exact again hf
  · obtain rfl : i = items.size := by omega
    refine W.done _ _ _ hst fun h₂ tk₂ hk₂ => ?_
    try dsimp only
    obtain ⟨F₂, N₂⟩ := next h₂ hk₂
    exact wpAny_execs_nil (hR _ m' news' F₂ N₂ hJ hb' ho')
end
/-- refs to pairs that stand in h₀ -/
inductive PairsIn (h₀ : Heap) : List Value → List (Value × Value) → Prop
  | nil : PairsIn h₀ [] []
  | cons {r : Addr} {b c : Value} {vs ps} : h₀.IsTuple r #[b, c] → PairsIn h₀ vs ps → PairsIn h₀ (.ref r :: vs) ((b, c) :: ps)
def TPost (h₀ : Heap) (L I : Addr) (oI : Obj) (s : Shared) (Q : Flow → Shared → Prop) (rest : (Str → Option Value) → List (Addr × Obj) → Prop) (f : Flow) (s₂ : Shared) : Prop :=
  match f with
  | .ret v => Q (.ret v) s₂
  | .brk => Q .next s₂
  | _ => ∃ h' tk m' news', s₂ = { s with heap := h', toks := tk } ∧ Fr h₀ L h' m' ∧ News h₀ L h' ((I, oI) :: news') ∧ (∀ p ∈ news', p.1 ≠ I) ∧ rest m' news'
def TRest (prog : Program) (w : World) (A : Around) (h₀ : Heap) (env : Env) (xi xc : Str) (body orelse : List Stmt) (Q : Flow → Shared → Prop) (s : Shared) (I : Addr) : List (Value × Value) → (Str → Option Value) → List (Addr × Obj) → Prop
  | [], m, news => ∀ h tk, Fr h₀ env.locals h m → News h₀ env.locals h news → wpAny (model prog w) A (execs orelse env) Q (fun _ _ => False) { s with heap := h, toks := tk }
  | (b, c) :: ps, m, news => ∀ h tk oI, Fr h₀ env.locals h (fun y => if y = xc then some c else if y = xi then some b else m y) → News h₀ env.locals h ((I, oI) :: news) →
      wpAny (model prog w) A (execs body env) (TPost h₀ env.locals I oI s Q (TRest prog w A h₀ env xi xc body orelse Q s I ps)) (fun _ _ => False) { s with heap := h, toks := tk }
section
variable {prog : Program} {w : World} {A : Around} {s : Shared} {h₀ : Heap} {env : Env} {E : Value → Shared → Prop} {Q : Flow → Shared → Prop}
theorem go_tupit {M : Model} {elts : List PySem.Expr} {k : Nat} {pos : Pos} {it l i T : Nat} {E : Value → Shared → Prop} {Q : Unit → Shared → Prop} (hI : s.heap.IsTupleIter it l i) (h : Q () s) :
    wpAny M A (letOwnedTupleGo (.Tuple elts k pos) (.ref it) (.ref T)) Q E s := by
  obtain ⟨o, ho, hc, hd⟩ := hI
  unfold letOwnedTupleGo
  refine wpAny_bind (wpAny_load ho ?_)
  rw [hc, hd]
  exact wpAny_pure h
theorem PairsIn.get {vs : List Value} {ps : List (Value × Value)} (h : PairsIn h₀ vs ps) : ∀ {i : Nat}, i < vs.length → ∃ r b c, vs[i]? = some (.ref r) ∧ ps.drop i = (b, c) :: ps.drop (i + 1) ∧ h₀.IsTuple r #[b, c] := by
  induction h with
  | nil => intro i hi; simp at hi
  | cons hr _ ih =>
    intro i hi
    cases i with
    | zero => exact ⟨_, _, _, rfl, rfl, hr⟩
    | succ i =>
      obtain ⟨r, b, c, e1, e2, e3⟩ := ih (i := i) (by simpa using hi)
      exact ⟨r, b, c, by simpa using e1, by simpa using e2, e3⟩
theorem PairsIn.len {vs : List Value} {ps : List (Value × Value)} (h : PairsIn h₀ vs ps) : vs.length = ps.length := by
  induction h with
  | nil => rfl
  | cons _ _ ih => simp [ih]

theorem ex58 {p0 p1 p2 p3 p4 p5 p6 p7 : Nat → (Str → Option Value) → (List (Addr × Obj)) → Heap → Nat → Prop} {C : Prop} (h : ∃ x0 x1 x2 x3 x4, p0 x0 x1 x2 x3 x4 ∧ p1 x0 x1 x2 x3 x4 ∧ p2 x0 x1 x2 x3 x4 ∧ p3 x0 x1 x2 x3 x4 ∧ p4 x0 x1 x2 x3 x4 ∧ p5 x0 x1 x2 x3 x4 ∧ p6 x0 x1 x2 x3 x4 ∧ p7 x0 x1 x2 x3 x4) (k : ∀ x0 x1 x2 x3 x4, p0 x0 x1 x2 x3 x4 → p1 x0 x1 x2 x3 x4 → p2 x0 x1 x2 x3 x4 → p3 x0 x1 x2 x3 x4 → p4 x0 x1 x2 x3 x4 → p5 x0 x1 x2 x3 x4 → p6 x0 x1 x2 x3 x4 → p7 x0 x1 x2 x3 x4 → C) : C := by
  obtain ⟨x0, x1, x2, x3, x4, h0, h1, h2, h3, h4, h5, h6, h7⟩ := h
  exact k _ _ _ _ _ h0 h1 h2 h3 h4 h5 h6 h7
theorem tup_for {iter : PySem.Expr} {xi xc : Str} {pk pv pt pos : Pos} {x1 : Nat} {body orelse : List Stmt} {m : Str → Option Value} {news : List (Addr × Obj)} {l : Nat} {vs : List Value} {ps : List (Value × Value)}
    (hA : A.handled = none) (hxi : env.kindOf xi = some .local) (hxc : env.kindOf xc = some .local) (hp : (env.scope.kind == .class || (env.scope.kind == .module && env.locals != env.globals)) = false)
    (F : Fr h₀ env.locals s.heap m) (N : News h₀ env.locals s.heap news) (hT : h₀.IsTuple l vs.toArray) (hP : PairsIn h₀ vs ps)
    (hiter : ∀ Q' : Value → Shared → Prop, Q' (.ref l) s → wpAny (model prog w) A (eval iter env) Q' E s)
    (rest : ∀ I : Nat, (∀ p ∈ news, p.1 < I) → TRest prog w A h₀ env xi xc body orelse Q s I ps m news)
    (hs : ∀ x, foldedSetIterable iter env x = pure x := by intro _; rfl) :
    wpAny (model prog w) A (exec (.For (.Tuple [.Name xi pk, .Name xc pv] x1 pt) iter body orelse pos) env) Q E s := by
  refine wpAny_For ?_ hs
  refine hiter _ ?_
  have hLs : @LT.lt Nat _ env.locals s.heap.objs.size := by obtain ⟨o, _, _, q, _⟩ := F.ns; exact Heap.lt_size q
  have nz : ∀ p ∈ news, @LT.lt Nat _ p.1 s.heap.objs.size := fun p hp => Heap.lt_size (N p hp).1
  have h₀z : ∀ (b : Nat) o, h₀.get? b = some o → b < s.heap.objs.size := fun b o q => Heap.lt_size (F.keep b o q)
  refine wpAny_pyIter_tuple (let ⟨o, q, z⟩ := hT; ⟨o, F.keep _ _ q, z⟩) ?_
  have rest' := rest s.heap.objs.size nz
  have hI₀ : h₀.get? s.heap.objs.size = none := by
    cases q : h₀.get? s.heap.objs.size with
    | none => rfl
    | some o => have := h₀z _ _ q; omega
  have F1 : Fr h₀ env.locals (s.heap.push { cls := .type "tuple_iterator", data := .fields #[.ref l, .int 0 0] }) m := F.push _
  have N1 : News h₀ env.locals (s.heap.push { cls := .type "tuple_iterator", data := .fields #[.ref l, .int 0 0] }) news := fun p hp => ⟨Heap.get?_push_of_some _ (N p hp).1, (N p hp).2⟩
  have It : (s.heap.push { cls := .type "tuple_iterator", data := .fields #[.ref l, .int 0 0] }).IsTupleIter s.heap.objs.size l 0 := ⟨_, Heap.get?_push_size _ rfl, rfl, rfl⟩
  generalize s.heap.push { cls := .type "tuple_iterator", data := .fields #[.ref l, .int 0 0] } = h₁ at F1 N1 It ⊢
  generalize s.heap.objs.size = I at *
  have hLI : env.locals ≠ I := neN (Nat.ne_of_lt hLs)
  refine codeAny_forLoop_any (fun k s' => ∃ i m' news' h' tk', s' = { s with heap := h', toks := tk' } ∧ k = vs.length + 1 - i ∧ i ≤ vs.length ∧ Fr h₀ env.locals h' m' ∧ News h₀ env.locals h' news' ∧ (∀ p ∈ news', p.1 ≠ I) ∧ h'.IsTupleIter I l i ∧ TRest prog w A h₀ env xi xc body orelse Q s I (ps.drop i) m' news') ?_ (vs.length + 1)
    ⟨0, m, news, h₁, s.toks, rfl, rfl, Nat.zero_le _, F1, N1, fun p hp => neN (Nat.ne_of_lt (nz p hp)), It, rest'⟩
  intro k s' hk
  refine ex58 hk ?_
  clear hk
  intro i m' news' h' tk' es ek hi F' N' hn' It' hr'
  subst es
  subst ek
  have T' : h'.IsTuple l vs.toArray := let ⟨o, q, z⟩ := hT; ⟨o, F'.keep _ _ q, z⟩
  have iterNews : ∀ {h₂ : Heap} {j : Nat}, h₂.IsTupleIter I l j → News h₀ env.locals h₂ news' → ∃ oI, News h₀ env.locals h₂ ((I, oI) :: news') ∧ oI.cls = .type "tuple_iterator" ∧ oI.data = .fields #[.ref l, .int j 0] := fun hit hn => by
    obtain ⟨oI, hoI, hc, hd⟩ := hit
    refine ⟨oI, fun p hp => ?_, hc, hd⟩
    rcases List.mem_cons.mp hp with rfl | hp
    · exact ⟨hoI, Ne.symm hLI, hI₀⟩
    · exact hn p hp
  rcases Nat.lt_or_ge i vs.length with hlt | hge
  · obtain ⟨r, b, c, e1, e2, e3⟩ := hP.get hlt
    refine wpAny_pyNext_tuple_item (x := .ref r) It' T' (by simpa using e1) fun h₂ It₂ hs₂ => ?_
    try dsimp only
    refine go_tupit It₂ ?_
    have F₂ : Fr h₀ env.locals h₂ m' := by
      obtain ⟨o, es, ep, q, z⟩ := F'.ns
      exact ⟨⟨o, es, ep, hs₂.extBut _ _ hLI q, z⟩, fun b o q => hs₂.extBut _ _ (fun e => by rw [e, hI₀] at q; cases q) (F'.keep b o q), F'.above⟩
    have N₂ : News h₀ env.locals h₂ news' := fun p hp => ⟨hs₂.extBut _ _ (hn' p hp) (N' p hp).1, (N' p hp).2⟩
    refine wpAny_assign_Tuple hA (t := r) (items := #[b, c]) (let ⟨o, q, z⟩ := e3; ⟨o, F₂.keep _ _ q, z⟩) rfl rfl fun h₃ hx₃ => ?_
    have up₃ : ∀ b o, h₂.get? b = some o → h₃.get? b = some o := fun b o q => hx₃ b o (Nat.ne_of_lt (Heap.lt_size q)) q
    have F₃ : Fr h₀ env.locals h₃ m' := by
      obtain ⟨o, es, ep, q, z⟩ := F₂.ns
      exact ⟨⟨o, es, ep, up₃ _ _ q, z⟩, fun b o q => up₃ _ _ (F₂.keep b o q), F₂.above⟩
    have N₃ : News h₀ env.locals h₃ news' := fun p hp => ⟨up₃ _ _ (N₂ p hp).1, (N₂ p hp).2⟩
    show wpAny _ A (do holding [_] (assign (.Name xi pk) env _); do holding [] (assign (.Name xc pv) env _); pure ()) _ _ _
    refine wpAny_bind (wpAny_holding (wpAny_assign_Name (wpAny_storeName_local hxi F₃.ns (fun h₄ hn₄ hs₄ => ?_) hp)))
    have F₄ := F₃.set hn₄ hs₄
    refine wpAny_bind (wpAny_holding (wpAny_assign_Name (wpAny_storeName_local hxc F₄.ns (fun h₅ hn₅ hs₅ => wpAny_pure ?_) hp)))
    have F₅ := F₄.set hn₅ hs₅
    have N₅ : News h₀ env.locals h₅ news' := (N₃.set hs₄).set hs₅
    have It₅ : h₅.IsTupleIter I l (i + 1) := by
      obtain ⟨o, q, z⟩ := It₂
      exact ⟨o, hs₅.extBut _ _ (Ne.symm hLI) (hs₄.extBut _ _ (Ne.symm hLI) (up₃ _ _ q)), z⟩
    obtain ⟨oI, N₆, hc6, hd6⟩ := iterNews It₅ N₅
    rw [e2] at hr'
    refine wpAny_mono (hr' h₅ _ oI F₅ N₆) (fun f s₃ hf => ?_) fun _ _ z => z.elim
    have again : (∃ h' tk m' news', s₃ = { s with heap := h', toks := tk } ∧ Fr h₀ env.locals h' m' ∧ News h₀ env.locals h' ((I, oI) :: news') ∧ (∀ p ∈ news', p.1 ≠ I) ∧ TRest prog w A h₀ env xi xc body orelse Q s I (ps.drop (i + 1)) m' news') →
        ∃ k', k' < vs.length + 1 - i ∧ ∃ i m' news' h' tk', s₃ = { s with heap := h', toks := tk' } ∧ k' = vs.length + 1 - i ∧ i ≤ vs.length ∧ Fr h₀ env.locals h' m' ∧ News h₀ env.locals h' news' ∧ (∀ p ∈ news', p.1 ≠ I) ∧ h'.IsTupleIter I l i ∧ TRest prog w A h₀ env xi xc body orelse Q s I (ps.drop i) m' news' := by
      rintro ⟨h8, tk8, m8, news8, rfl, F8, N8, hn8, r8⟩
      exact ⟨vs.length + 1 - (i + 1), by omega, i + 1, m8, news8, h8, tk8, rfl, rfl, hlt, F8, fun p hp => N8 p (.tail _ hp), hn8, ⟨oI, (N8 _ (.head _)).1, hc6, hd6⟩, r8⟩
    cases f with
    | ret v => exact hf
    | brk => exact hf
    | next => exact again hf
    | cont => exact again hf
  · obtain rfl : i = vs.length := by omega
    refine wpAny_pyNext_tuple_end hA It' T' (by simp) fun h₂ hs₂ => ?_
    try dsimp only
    have F₂ : Fr h₀ env.locals h₂ m' := by
      obtain ⟨o, es, ep, q, z⟩ := F'.ns
      exact ⟨⟨o, es, ep, hs₂ _ _ hLI q, z⟩, fun b o q => hs₂ _ _ (fun e => by rw [e, hI₀] at q; cases q) (F'.keep b o q), F'.above⟩
    rw [hP.len, List.drop_length] at hr'
    exact wpAny_mono (hr' h₂ _ F₂ fun p hp => ⟨hs₂ _ _ (hn' p hp) (N' p hp).1, (N' p hp).2⟩) (fun _ _ z => z) fun _ _ z => z.elim
end
end
section
theorem wd17x22 : True := by
  k_with_none
  k_with "omega" => (first | lia | omega (splitDisjunctions := true))
  k_with "om2" => (first | lia | omega (splitDisjunctions := true))
  k_with "eval Name" => ((k_here; (with_reducible show wpAny _ _ (eval _ (envOf _ _ _ _ _)) _ _ _); k_dflt (refine' nmL ?yF ?yv ?yx ?yk ?yd ?_; (case yF => k_asm); (case yk => exact rfl); (case yx => exact rfl); (case yd => exact rfl); (case yv => exact rfl); k_whole)))
  k_with "storeName" => ((k_here; (with_reducible show wpAny _ _ (storeName (envOf _ _ _ _ _) _ _) _ _ _); k_dflt (refine' stoLe ?yF ?yN ?yx ?yk ?_; (case yF => k_asm); (case yN => k_asm); (case yk => exact rfl); (case yx => exact rfl); k_whole; intro m'ω h'ω F'ω N'ω; (try k_sweep))))
  k_with "eval Name" => ((k_here; (with_reducible show wpAny _ _ (eval _ (envOfC _ _ _ _ _)) _ _ _); k_dflt (refine' nmLC ?yF ?yv ?yk ?yx ?yd ?_; (case yF => k_asm); (case yk => exact rfl); (case yx => exact rfl); (case yd => exact rfl); (case yv => exact rfl); k_whole)))
  k_with "storeName" => ((k_here; (with_reducible show wpAny _ _ (storeName (envOfC _ _ _ _ _) _ _) _ _ _); k_dflt (refine' stoLCe ?yF ?yN ?yk ?yx ?_; (case yF => k_asm); (case yN => k_asm); (case yk => exact rfl); (case yx => exact rfl); k_whole; intro m'ω h'ω F'ω N'ω; (try k_sweep))))
  k_with "execs cons" => ((k_here; (first | (with_reducible show wpAny _ _ (execs _ _) (AtF _) _ _) | (refine execs_abs ?_; intro Q8ω q8ω)); k_dflt (refine execs_gen ?_); intro Q7ω t7ω g7ω o7ω; (try dsimp only)))
  k_with "AtF" => ((with_reducible first | refine AtF.go (by assumption) ?_ | (refine AtF.out (by assumption) (fun z => Flow.noConfusion z) ?_) | (refine AtF.fin (by assumption) ?_; (try dsimp only))))
  k_with "room" => (k_dflt (first | exact rm2 (by assumption) rfl | exact rm1 (by assumption) rfl | exact rm3 (by assumption) rfl | exact rm4 (by assumption) rfl | exact rm0 (by assumption)))
  k_with "kne" => ((refine neN ?_; (try dsimp only); k_extra "ne"))
  k_with "cj" => (first | exact And.left | exact id | (refine cjs ?_; k_extra "cj"))
  k_with "ne" => (with_reducible first | assumption | exact lne (by assumption) | exact gne (by assumption) | exact sne (by assumption) | exact suc | exact suc2 | exact sne suc | exact sne suc2 | (refine ltc (by assumption) ?_; k_extra "cj") | (refine gtc (by assumption) ?_; k_extra "cj") | (refine nec (by assumption) ?_; k_extra "cj") | (refine nfc (by assumption) ?_; k_extra "cj"))
  k_with "call builtin:len" => ((k_here; (with_reducible show wpAny _ _ (call (Value.builtin "len") [Value.str _ _]) _ _ _); k_dflt (refine' len_text ?k1 ?_; (case k1 => omega); k_whole)))
  k_with "call builtin:str.join" => ((k_here; (with_reducible show wpAny _ _ (call (Value.builtin "str.join") [Value.str _ _, Value.ref _]) _ _ _); k_dflt (refine' join_texts ?k1 ?k2 ?k3 ?k4 ?_; (case k1 => k_asm); (case k2 => k_mem); (case k3 => assumption); (case k4 => first | assumption | omega); k_whole; intro t'ω k'ω)))
  trivial
theorem fr_keep {h₀ h h' : Heap} {L : Addr} {m : Str → Option Value} (F : Fr h₀ L h m) (hk : ∀ b o, h.get? b = some o → h'.get? b = some o) : Fr h₀ L h' m := ⟨F.ns.keeps hk, fun b o q => hk b o (F.keep b o q), F.above⟩
theorem news_keep {h₀ h h' : Heap} {L : Addr} {news : List (Addr × Obj)} (N : News h₀ L h news) (hk : ∀ b o, h.get? b = some o → h'.get? b = some o) : News h₀ L h' news := fun p hp => ⟨hk _ _ (N p hp).1, (N p hp).2⟩
theorem wd17x23 : True := by
  k_with "exec For Tuple Call cons nil" => ((k_here; k_dflt (refine wpAny_For ?_)))
  trivial
local macro_rules | `(tactic| k_room) => `(tactic| ktr_room)
theorem c_ifmt {w : World} {mean : ExcName → Option Value} {mg mb : Str → Option Value} {dp un : Nat} {gd : Option (List Code)} {outer : List Env} {base : Heap} {s : Shared} {Q E : Value → Shared → Prop} {mode : Int} {t : Tok} (B : Below (top dp un gd outer) base outer s.heap) (X : (Kt w.params).In base) (T : Top vw loo mean mg mb base) (hdp : dp + 1 < recursionLimit) (hun : un + 8 < cLine)
  (hret : ∀ h' tk' t', (∀ b o, s.heap.get? b = some o → h'.get? b = some o) → Q (.int (Builtin.bitAnd mode 61440) t') { s with heap := h', toks := tk' }) :
  wpAny (model PySem.Challenge.rw_om0101_01.row.prog w) (top dp un gd outer) (call (.ref 125) [.int mode t]) Q E s := by
  revert X; k_fill; intro X
  w_strict (
   (refine wpAny_call ?_; (k_dflt (refine' enterN ?k1 ?k2 ?k3 ?k4 ?k6 ?k7 ?k8 ?k9 ?kB ?_ ?c2 ?c3 ?c4 ?c5; (case k1 => k_asm); (case k2 => k_asm); (case k3 => k_asm); (case k4 => first | k_asm | exact Has.nil); (case k6 => k_is); (case k7 => k_is); (case k8 => ktr_room); (case k9 => exact BindsTo.of_eq rfl); (case c5 => decide); (case kB => exact locs rfl); (case c2 => exact rfl); (case c3 => exact rfl); (case c4 => exact rfl); k_whole; intro g' L' h' Q9 t9 q9 FG' F' N' B' X' T' l1; (try k_lt l1); (try dsimp only); (try k_lift B'); (try k_fold))))
   k_steps)
  try dsimp only
  rename Fr _ _ _ _ => F1
  exact hret _ _ _ fun b o q => F1.keep _ _ (FG' b o (fun z => nomatch z) q)
theorem wd17x24 : True := by
  k_with "call ref" => ((k_here; (with_reducible show wpAny _ _ (call (Value.ref 125) _) _ _ _); k_dflt (refine' c_ifmt ?k1 ?k2 ?k3 ?k4 ?k5 ?_; (case k1 => refine' pushT ?p1 ?p2 ?p3 ?p4; (case p1 => k_asm); (case p2 => k_asm); (case p3 => exact rfl); (case p4 => exact rfl)); (case k2 => k_asm); (case k3 => k_asm); (case k4 => ktr_room); (case k5 => ktr_units); k_whole; (intro h'ω tk'ω t'ω hEω; have F9ω := fr_keep (by k_asm) hEω; have N9ω := news_keep (by k_asm) hEω; (try k_sweep); (try dsimp only)))))
  trivial
theorem form2 {m : Str → Option Value} {n1 n2 : Str} {v1 v2 : Value} (h1 : m n1 = some v1) (h2 : m n2 = some v2) :
    m = fun y => if y = n1 then some v1 else if y = n2 then some v2 else m y := by
  funext y
  split
  · rename_i q; rw [q, h1]
  split
  · rename_i q; rw [q, h2]
  rfl
def chL (mode : Int) : Nat → Nat
  | 0 => if Builtin.bitAnd mode 61440 = 40960 then 108 else if Builtin.bitAnd mode 61440 = 49152 then 115 else if Builtin.bitAnd mode 61440 = 32768 then 45 else if Builtin.bitAnd mode 61440 = 24576 then 98 else if Builtin.bitAnd mode 61440 = 16384 then 100 else if Builtin.bitAnd mode 61440 = 8192 then 99 else if Builtin.bitAnd mode 61440 = 4096 then 112 else 63
  | 1 => if Builtin.bitAnd mode 256 = 256 then 114 else 45
  | 2 => if Builtin.bitAnd mode 128 = 128 then 119 else 45
  | 3 => if Builtin.bitAnd mode 2112 = 2112 then 115 else if Builtin.bitAnd mode 2048 = 2048 then 83 else if Builtin.bitAnd mode 64 = 64 then 120 else 45
  | 4 => if Builtin.bitAnd mode 32 = 32 then 114 else 45
  | 5 => if Builtin.bitAnd mode 16 = 16 then 119 else 45
  | 6 => if Builtin.bitAnd mode 1032 = 1032 then 115 else if Builtin.bitAnd mode 1024 = 1024 then 83 else if Builtin.bitAnd mode 8 = 8 then 120 else 45
  | 7 => if Builtin.bitAnd mode 4 = 4 then 114 else 45
  | 8 => if Builtin.bitAnd mode 2 = 2 then 119 else 45
  | 9 => if Builtin.bitAnd mode 513 = 513 then 116 else if Builtin.bitAnd mode 512 = 512 then 84 else if Builtin.bitAnd mode 1 = 1 then 120 else 45
  | _ => 0
inductive FJ (mode : Int) (t : Tok) (r : Addr) (i : Nat) (m : Str → Option Value) (news : List (Addr × Obj)) : Prop
  | mk (ws : List Value) (k : Nat) (a1 : m (Str.ofString "perm") = some (.ref r)) (a2 : m (Str.ofString "mode") = some (.int mode t)) (a3 : news = [(r, listOf ws.toArray k)]) (a4 : TextsAre ws ((List.range i).map fun j => [chL mode j])) (a5 : ws.length = i) : FJ mode t r i m news
theorem fj_snoc {mode : Int} {i c : Nat} {ws : List Value} {v : Value} {t : Tok} (h : TextsAre ws ((List.range i).map fun j => [chL mode j])) (e : chL mode i = c) (hv : v = .str ⟨[c].toArray⟩ t) : TextsAre (ws ++ [v]) ((List.range (i + 1)).map fun j => [chL mode j]) := by
  subst hv e
  rw [List.range_succ, List.map_append]
  exact h.snoc _ _
def fmL (mode : Int) : List Nat := (List.range 10).map fun j => chL mode j
def pk0 (mode : Int) : List (Int × Nat) → Nat
  | [] => 63
  | (b, c) :: r => if Builtin.bitAnd mode 61440 = b then c else pk0 mode r
def pkB (mode : Int) : List (Int × Nat) → Nat
  | [] => 45
  | (b, c) :: r => if Builtin.bitAnd mode b = b then c else pkB mode r
inductive Bits : List (Value × Value) → List (Int × Nat) → Prop
  | nil : Bits [] []
  | cons {b : Int} {c : Nat} {x : Str} {t u : Tok} {ps : List (Value × Value)} {bs : List (Int × Nat)} : x = ⟨[c].toArray⟩ → Bits ps bs → Bits ((.int b t, .str x u) :: ps) ((b, c) :: bs)
theorem fj_snocx {mode : Int} {i c : Nat} {ws : List Value} {x : Str} {u : Tok} (h : TextsAre ws ((List.range i).map fun j => [chL mode j])) (e : chL mode i = c) (hx : x = ⟨[c].toArray⟩) : TextsAre (ws ++ [.str x u]) ((List.range (i + 1)).map fun j => [chL mode j]) :=
  fj_snoc h e (by rw [hx])
theorem trest_ind {prog : Program} {w : World} {A : Around} {h₀ : Heap} {env : Env} {xi xc : Str} {body orelse : List Stmt} {Q : Flow → Shared → Prop} {s : Shared} {I : Addr} (J : (Str → Option Value) → List (Addr × Obj) → List (Int × Nat) → Prop)
    (hnil : ∀ m news, J m news [] → TRest prog w A h₀ env xi xc body orelse Q s I [] m news)
    (hcons : ∀ b t c x u ps bs m news, x = ⟨[c].toArray⟩ → J m news ((b, c) :: bs) → (∀ m' news', J m' news' bs → TRest prog w A h₀ env xi xc body orelse Q s I ps m' news') → TRest prog w A h₀ env xi xc body orelse Q s I ((.int b t, .str x u) :: ps) m news)
    {ps : List (Value × Value)} {bs : List (Int × Nat)} (hb : Bits ps bs) : ∀ m news, J m news bs → TRest prog w A h₀ env xi xc body orelse Q s I ps m news := by
  induction hb with
  | nil => exact hnil
  | cons hx _ ih => exact fun m news hj => hcons _ _ _ _ _ _ _ m news hx hj ih
theorem formC {m : Str → Option Value} {n1 n2 n3 : Str} {v1 v2 v3 : Value} (h1 : m n1 = some v1) (h2 : m n2 = some v2) (h3 : m n3 = some v3) :
    m = fun y => if y = n1 then some v1 else if y = n2 then some v2 else if y = n3 then some v3 else m y := by
  funext y
  split
  · rename_i q; rw [q, h1]
  split
  · rename_i q; rw [q, h2]
  split
  · rename_i q; rw [q, h3]
  rfl
theorem eq_no {prog : Program} {w : World} {A : Around} {E : Value → Shared → Prop} {s : Shared} {Q : Value → Shared → Prop} {a b : Int} {t u : Tok} (hn : ¬ a = b) (h : Q (.bool false) s) : wpAny (model prog w) A (compareOp .Eq (.int a t) (.int b u)) Q E s :=
  PyProof.Rows.eq_int (by rw [show (a == b) = false from by simpa using hn]; exact h)
theorem wd17x25 : True := by
  k_with "compareOp Eq int int" => ((k_here; k_dflt (refine eq_no (by with_reducible assumption) ?_)))
  trivial
theorem c_filemode {w : World} {mean : ExcName → Option Value} {mg mb : Str → Option Value} {dp un : Nat} {gd : Option (List Code)} {outer : List Env} {base : Heap} {s : Shared} {Q E : Value → Shared → Prop} {mode : Int} {t : Tok} (B : Below (top dp un gd outer) base outer s.heap) (X : (Kt w.params).In base) (T : Top vw loo mean mg mb base) (hdp : dp + 4 < recursionLimit) (hun : un + 32 < cLine)
  (hret : ∀ s' t', Ext [] s s' → Q (.str ⟨(fmL mode).toArray⟩ t') s') :
  wpAny (model PySem.Challenge.rw_om0101_01.row.prog w) (top dp un gd outer) (call (.ref 165) [.int mode t]) Q E s := by
  revert X; k_fill; intro X
  w_strict (
   (refine wpAny_call ?_; (k_dflt (refine' enterN ?k1 ?k2 ?k3 ?k4 ?k6 ?k7 ?k8 ?k9 ?kB ?_ ?c2 ?c3 ?c4 ?c5; (case k1 => k_asm); (case k2 => k_asm); (case k3 => k_asm); (case k4 => first | k_asm | exact Has.nil); (case k6 => k_is); (case k7 => k_is); (case k8 => ktr_room); (case k9 => exact BindsTo.of_eq rfl); (case c5 => decide); (case kB => exact locs rfl); (case c2 => exact rfl); (case c3 => exact rfl); (case c4 => exact rfl); k_whole; intro g' L' h' Q9 t9 q9 FG' F' N' B' X' T' l1; (try k_lt l1); (try dsimp only); (try k_lift B'); (try k_fold))))
   k_steps)
  rename Fr _ _ _ _ => F1
  rename News _ _ _ _ => N1
  obtain ⟨r, hr⟩ := addr_of N1
  subst hr
  obtain ⟨items, hitems, hT⟩ : ∃ items : Array Value, items = #[.ref 133, .ref 135, .ref 137, .ref 141, .ref 143, .ref 145, .ref 149, .ref 151, .ref 153, .ref 157] ∧ g'.IsTuple 158 items := by
    refine ⟨_, rfl, ?_⟩
    have := X' 158 ⟨.type "tuple", none, .seq #[.ref 133, .ref 135, .ref 137, .ref 141, .ref 143, .ref 145, .ref 149, .ref 151, .ref 153, .ref 157] 0, #[]⟩ (by k_is)
    exact ⟨_, this, rfl, 0, rfl⟩
  refine enum_call_tup (l := 158) (items := items) (let ⟨o, q, z⟩ := hT; ⟨o, F1.keep _ _ q, z⟩) fun h₁ hE hI hk => ?_
  try dsimp only
  refine wpAny_pyIter_enum hE ?_
  refine enum_loop rfl rfl rfl rfl F1 N1 hT hE hI hk (FJ mode t r) ?_ ?_ ?_
  · exact ⟨[], 0, rfl, rfl, rfl, .nil, rfl⟩
  · intro i v u1 m₁ news₁ s₁ oe oi it hi hv hJ hb₁ ho₁ hnz F3 N3
    obtain ⟨ws, k, e1, e2, rfl, hts, hwl⟩ := hJ
    have hri : r < it := hnz _ (.head _)
    rw [form2 e1 e2] at F3
    simp only [List.cons_append, List.nil_append] at N3
    clear F1 N1 hret hE hI hk hT
    obtain ⟨h4, gens4, dr4, tk4, os4⟩ := s₁
    dsimp only at F3 N3 hb₁ ho₁ ⊢
    subst hitems
    have hi9 : i < 10 := hi
    clear hi
    have off : r ∉ [it + 1, it] := by
      simp only [List.mem_cons, List.not_mem_nil, or_false, not_or]
      exact ⟨by omega, by omega⟩
    have hfact : ∃ (a : Nat) (vs : List Value) (ps : List (Value × Value)) (bs : List (Int × Nat)), v = .ref a ∧ g'.IsTuple a vs.toArray ∧ PairsIn g' vs ps ∧ Bits ps bs ∧ (i = 0 → pk0 mode bs = chL mode 0) ∧ (¬ i = 0 → pkB mode bs = chL mode i) := by
      clear N3 F3 hb₁ ho₁ hts hwl e1 e2
      obtain rfl | rfl | rfl | rfl | rfl | rfl | rfl | rfl | rfl | rfl : i = 0 ∨ i = 1 ∨ i = 2 ∨ i = 3 ∨ i = 4 ∨ i = 5 ∨ i = 6 ∨ i = 7 ∨ i = 8 ∨ i = 9 := by omega
      · exact ⟨133, _, _, _, by simpa using hv.symm, ⟨_, X' _ _ (by k_is), rfl, _, rfl⟩, by repeat' (first | exact PairsIn.nil | refine' PairsIn.cons ⟨_, X' _ _ (by k_is), rfl, _, rfl⟩ ?_), Bits.cons (b := 40960) (c := 108) (by kernel_rfl) (Bits.cons (b := 49152) (c := 115) (by kernel_rfl) (Bits.cons (b := 32768) (c := 45) (by kernel_rfl) (Bits.cons (b := 24576) (c := 98) (by kernel_rfl) (Bits.cons (b := 16384) (c := 100) (by kernel_rfl) (Bits.cons (b := 8192) (c := 99) (by kernel_rfl) (Bits.cons (b := 4096) (c := 112) (by kernel_rfl) Bits.nil)))))), fun _ => rfl, fun q => absurd rfl q⟩
      · exact ⟨135, _, _, _, by simpa using hv.symm, ⟨_, X' _ _ (by k_is), rfl, _, rfl⟩, by repeat' (first | exact PairsIn.nil | refine' PairsIn.cons ⟨_, X' _ _ (by k_is), rfl, _, rfl⟩ ?_), Bits.cons (b := 256) (c := 114) (by kernel_rfl) Bits.nil, fun q => absurd q (by decide), fun _ => rfl⟩
      · exact ⟨137, _, _, _, by simpa using hv.symm, ⟨_, X' _ _ (by k_is), rfl, _, rfl⟩, by repeat' (first | exact PairsIn.nil | refine' PairsIn.cons ⟨_, X' _ _ (by k_is), rfl, _, rfl⟩ ?_), Bits.cons (b := 128) (c := 119) (by kernel_rfl) Bits.nil, fun q => absurd q (by decide), fun _ => rfl⟩
      · exact ⟨141, _, _, _, by simpa using hv.symm, ⟨_, X' _ _ (by k_is), rfl, _, rfl⟩, by repeat' (first | exact PairsIn.nil | refine' PairsIn.cons ⟨_, X' _ _ (by k_is), rfl, _, rfl⟩ ?_), Bits.cons (b := 2112) (c := 115) (by kernel_rfl) (Bits.cons (b := 2048) (c := 83) (by kernel_rfl) (Bits.cons (b := 64) (c := 120) (by kernel_rfl) Bits.nil)), fun q => absurd q (by decide), fun _ => rfl⟩
      · exact ⟨143, _, _, _, by simpa using hv.symm, ⟨_, X' _ _ (by k_is), rfl, _, rfl⟩, by repeat' (first | exact PairsIn.nil | refine' PairsIn.cons ⟨_, X' _ _ (by k_is), rfl, _, rfl⟩ ?_), Bits.cons (b := 32) (c := 114) (by kernel_rfl) Bits.nil, fun q => absurd q (by decide), fun _ => rfl⟩
      · exact ⟨145, _, _, _, by simpa using hv.symm, ⟨_, X' _ _ (by k_is), rfl, _, rfl⟩, by repeat' (first | exact PairsIn.nil | refine' PairsIn.cons ⟨_, X' _ _ (by k_is), rfl, _, rfl⟩ ?_), Bits.cons (b := 16) (c := 119) (by kernel_rfl) Bits.nil, fun q => absurd q (by decide), fun _ => rfl⟩
      · exact ⟨149, _, _, _, by simpa using hv.symm, ⟨_, X' _ _ (by k_is), rfl, _, rfl⟩, by repeat' (first | exact PairsIn.nil | refine' PairsIn.cons ⟨_, X' _ _ (by k_is), rfl, _, rfl⟩ ?_), Bits.cons (b := 1032) (c := 115) (by kernel_rfl) (Bits.cons (b := 1024) (c := 83) (by kernel_rfl) (Bits.cons (b := 8) (c := 120) (by kernel_rfl) Bits.nil)), fun q => absurd q (by decide), fun _ => rfl⟩
      · exact ⟨151, _, _, _, by simpa using hv.symm, ⟨_, X' _ _ (by k_is), rfl, _, rfl⟩, by repeat' (first | exact PairsIn.nil | refine' PairsIn.cons ⟨_, X' _ _ (by k_is), rfl, _, rfl⟩ ?_), Bits.cons (b := 4) (c := 114) (by kernel_rfl) Bits.nil, fun q => absurd q (by decide), fun _ => rfl⟩
      · exact ⟨153, _, _, _, by simpa using hv.symm, ⟨_, X' _ _ (by k_is), rfl, _, rfl⟩, by repeat' (first | exact PairsIn.nil | refine' PairsIn.cons ⟨_, X' _ _ (by k_is), rfl, _, rfl⟩ ?_), Bits.cons (b := 2) (c := 119) (by kernel_rfl) Bits.nil, fun q => absurd q (by decide), fun _ => rfl⟩
      · exact ⟨157, _, _, _, by simpa using hv.symm, ⟨_, X' _ _ (by k_is), rfl, _, rfl⟩, by repeat' (first | exact PairsIn.nil | refine' PairsIn.cons ⟨_, X' _ _ (by k_is), rfl, _, rfl⟩ ?_), Bits.cons (b := 513) (c := 116) (by kernel_rfl) (Bits.cons (b := 512) (c := 84) (by kernel_rfl) (Bits.cons (b := 1) (c := 120) (by kernel_rfl) Bits.nil)), fun q => absurd q (by decide), fun _ => rfl⟩
    obtain ⟨a0, vs0, ps0, bs0, rfl, hT0, hP0, hB0, hp0, hp1⟩ := hfact
    clear hv
    by_cases hi0 : i = 0
    · subst hi0
      k_steps
      refine' tup_for (l := a0) rfl rfl rfl rfl F3 N3 hT0 hP0 ?hiter ?rest
      case hiter => intro Q' h; k_steps; exact h
      case rest =>
        intro I hI
        have hrI : r < I := hI _ (.tail _ (.tail _ (.head _)))
        have hiI : it + 1 < I := hI _ (.head _)
        have hneI : ∀ o1 o2 o3 : Obj, ∀ p ∈ [(it + 1, o1), (it, o2), (r, o3)], p.1 ≠ I := fun o1 o2 o3 p hp => by
          simp only [List.mem_cons, List.not_mem_nil, or_false] at hp
          rcases hp with rfl | rfl | rfl
          · exact neN (by first | k_extra "ne" | omega)
          · exact neN (by first | k_extra "ne" | omega)
          · exact neN (by first | k_extra "ne" | omega)
        refine trest_ind (fun m news bs => m (Str.ofString "perm") = some (.ref r) ∧ m (Str.ofString "mode") = some (.int mode t) ∧ m (Str.ofString "index") = some (.int (0 : Int) u1) ∧ news = [(it + 1, oe), (it, oi), (r, listOf ws.toArray k)] ∧ pk0 mode bs = chL mode 0) ?_ ?_ hB0 _ _ ⟨by kernel_rfl, by kernel_rfl, by kernel_rfl, rfl, hp0 rfl⟩
        · rintro m5 news5 ⟨m1, m2, m3, rfl, hpk⟩
          dsimp only [TRest]
          intro h tk F5 N5
          clear F3 N3
          rw [formC m1 m2 m3] at F5
          k_steps
          rename News _ _ _ _ => N7
          rw [List.push_toArray] at N7
          refine ⟨_, [(r, _)], by assumption, N7, List.forall_mem_singleton.mpr off, ⟨_, _, by kernel_rfl, by kernel_rfl, rfl, fj_snocx (c := 63) hts hpk.symm (by kernel_rfl), by simp [hwl]⟩, hb₁, ho₁⟩
        · rintro b t5 c x u5 ps bs m5 news5 hx ⟨m1, m2, m3, rfl, hpk⟩ ih
          dsimp only [TRest]
          intro h tk oI F5 N5
          clear F3 N3
          rw [formC m1 m2 m3] at F5
          k_steps
          · skip
            dsimp only [TPost]
            k_steps
            rename News _ _ _ _ => N7
            rw [List.push_toArray] at N7
            refine ⟨_, [(r, _)], by assumption, fun p hp => N7 p (.tail _ hp), List.forall_mem_singleton.mpr off, ⟨_, _, by kernel_rfl, by kernel_rfl, rfl, fj_snocx (c := c) hts ?_ hx, by simp [hwl]⟩, hb₁, ho₁⟩
            rw [← hpk, pk0, if_pos (by assumption)]
          · refine ⟨_, _, _, [(it + 1, oe), (it, oi), (r, _)], rfl, by assumption, by assumption, hneI _ _ _, ih _ _ ⟨by kernel_rfl, by kernel_rfl, by kernel_rfl, rfl, ?_⟩⟩
            rw [← hpk, pk0, if_neg (by assumption)]
    · have hn0 : ¬ ((i : Nat) : Int) = 0 := by omega
      k_steps
      refine' tup_for (l := a0) rfl rfl rfl rfl F3 N3 hT0 hP0 ?hiter ?rest
      case hiter => intro Q' h; k_steps; exact h
      case rest =>
        intro I hI
        have hrI : r < I := hI _ (.tail _ (.tail _ (.head _)))
        have hiI : it + 1 < I := hI _ (.head _)
        have hneI : ∀ o1 o2 o3 : Obj, ∀ p ∈ [(it + 1, o1), (it, o2), (r, o3)], p.1 ≠ I := fun o1 o2 o3 p hp => by
          simp only [List.mem_cons, List.not_mem_nil, or_false] at hp
          rcases hp with rfl | rfl | rfl
          · exact neN (by first | k_extra "ne" | omega)
          · exact neN (by first | k_extra "ne" | omega)
          · exact neN (by first | k_extra "ne" | omega)
        refine trest_ind (fun m news bs => m (Str.ofString "perm") = some (.ref r) ∧ m (Str.ofString "mode") = some (.int mode t) ∧ m (Str.ofString "index") = some (.int ((i : Nat) : Int) u1) ∧ news = [(it + 1, oe), (it, oi), (r, listOf ws.toArray k)] ∧ pkB mode bs = chL mode i) ?_ ?_ hB0 _ _ ⟨by kernel_rfl, by kernel_rfl, by kernel_rfl, rfl, hp1 hi0⟩
        · rintro m5 news5 ⟨m1, m2, m3, rfl, hpk⟩
          dsimp only [TRest]
          intro h tk F5 N5
          clear F3 N3
          rw [formC m1 m2 m3] at F5
          k_steps
          rename News _ _ _ _ => N7
          rw [List.push_toArray] at N7
          refine ⟨_, [(r, _)], by assumption, N7, List.forall_mem_singleton.mpr off, ⟨_, _, by kernel_rfl, by kernel_rfl, rfl, fj_snocx (c := 45) hts hpk.symm (by kernel_rfl), by simp [hwl]⟩, hb₁, ho₁⟩
        · rintro b t5 c x u5 ps bs m5 news5 hx ⟨m1, m2, m3, rfl, hpk⟩ ih
          dsimp only [TRest]
          intro h tk oI F5 N5
          clear F3 N3
          rw [formC m1 m2 m3] at F5
          k_steps
          · skip
            dsimp only [TPost]
            k_steps
            rename News _ _ _ _ => N7
            rw [List.push_toArray] at N7
            refine ⟨_, [(r, _)], by assumption, fun p hp => N7 p (.tail _ hp), List.forall_mem_singleton.mpr off, ⟨_, _, by kernel_rfl, by kernel_rfl, rfl, fj_snocx (c := c) hts ?_ hx, by simp [hwl]⟩, hb₁, ho₁⟩
            rw [← hpk, pkB, if_pos (by assumption)]
          · refine ⟨_, _, _, [(it + 1, oe), (it, oi), (r, _)], rfl, by assumption, by assumption, hneI _ _ _, ih _ _ ⟨by kernel_rfl, by kernel_rfl, by kernel_rfl, rfl, ?_⟩⟩
            rw [← hpk, pkB, if_neg (by assumption)]
  · intro s' m' news' F4 N4 hJ hb4 ho4
    obtain ⟨ws, k, e1, e2, rfl, hts, hwl⟩ := hJ
    rw [form2 e1 e2] at F4
    clear F1 N1
    obtain ⟨h4, gens4, dr4, tk4, os4⟩ := s'
    dsimp only at F4 N4 hb4 ho4 ⊢
    subst hitems
    have e10 : ((List.range 10).map fun j => [chL mode j]).flatten = fmL mode := rfl
    k_steps
    refine join_texts N4 (.head _) hts ?_ fun t' k' => ?_
    · show 10 + 10 < 100000; decide
    · (repeat (k_extra "AtF"))
      exact hret _ _ (ext_of FG' F4 ho4 hb4)
end
section
theorem wd18x26 : True := by
  k_with_none
  k_with "omega" => (omega (splitDisjunctions := true))
  k_with "om2" => (first | lia | omega (splitDisjunctions := true))
  k_with "eval Name" => ((k_here; (with_reducible show wpAny _ _ (eval _ (envOf _ _ _ _ _)) _ _ _); k_dflt (refine' nmL ?yF ?yv ?yx ?yk ?yd ?_; (case yF => k_asm); (case yk => exact rfl); (case yx => exact rfl); (case yd => exact rfl); (case yv => exact rfl); k_whole)))
  k_with "storeName" => ((k_here; (with_reducible show wpAny _ _ (storeName (envOf _ _ _ _ _) _ _) _ _ _); k_dflt (refine' stoLe ?yF ?yN ?yx ?yk ?_; (case yF => k_asm); (case yN => k_asm); (case yk => exact rfl); (case yx => exact rfl); k_whole; intro m'ω h'ω F'ω N'ω; (try k_sweep))))
  k_with "eval Name" => ((k_here; (with_reducible show wpAny _ _ (eval _ (envOfC _ _ _ _ _)) _ _ _); k_dflt (refine' nmLC ?yF ?yv ?yk ?yx ?yd ?_; (case yF => k_asm); (case yk => exact rfl); (case yx => exact rfl); (case yd => exact rfl); (case yv => exact rfl); k_whole)))
  k_with "storeName" => ((k_here; (with_reducible show wpAny _ _ (storeName (envOfC _ _ _ _ _) _ _) _ _ _); k_dflt (refine' stoLCe ?yF ?yN ?yk ?yx ?_; (case yF => k_asm); (case yN => k_asm); (case yk => exact rfl); (case yx => exact rfl); k_whole; intro m'ω h'ω F'ω N'ω; (try k_sweep))))
  k_with "execs cons" => ((k_here; (first | (with_reducible show wpAny _ _ (execs _ _) (AtF _) _ _) | (refine execs_abs ?_; intro Q8ω q8ω)); k_dflt (refine execs_gen ?_); intro Q7ω t7ω g7ω o7ω; (try dsimp only)))
  k_with "AtF" => ((with_reducible first | refine AtF.go (by assumption) ?_ | (refine AtF.out (by assumption) (fun z => Flow.noConfusion z) ?_) | (refine AtF.fin (by assumption) ?_; (try dsimp only))))
  k_with "room" => (k_dflt (first | exact rm2 (by assumption) rfl | exact rm1 (by assumption) rfl | exact rm3 (by assumption) rfl | exact rm4 (by assumption) rfl | exact rm0 (by assumption)))
  k_with "kne" => ((refine neN ?_; (try dsimp only); k_extra "ne"))
  k_with "cj" => (first | exact And.left | exact id | (refine cjs ?_; k_extra "cj"))
  k_with "ne" => (with_reducible first | assumption | exact lne (by assumption) | exact gne (by assumption) | exact sne (by assumption) | exact suc | exact suc2 | exact sne suc | exact sne suc2 | (refine ltc (by assumption) ?_; k_extra "cj") | (refine gtc (by assumption) ?_; k_extra "cj") | (refine nec (by assumption) ?_; k_extra "cj") | (refine nfc (by assumption) ?_; k_extra "cj"))
  trivial
section
variable {prog : Program} {w : World} {A : Around} {s : Shared} {h₀ : Heap} {env : Env}
def WStepS (h₀ : Heap) (L I : Addr) (oI : Obj) (Jn : (Str → Option Value) → List (Addr × Obj) → Prop) (R : Result → Shared → Prop) (s : Shared) (f : Flow) (s₂ : Shared) : Prop :=
  match f with
  | .ret v => R (.ok (.ret v)) s₂
  | .brk => R (.ok .next) s₂
  | _ => ∃ m₂ news₂, Fr h₀ L s₂.heap m₂ ∧ News h₀ L s₂.heap ((I, oI) :: news₂) ∧ (∀ p ∈ news₂, p.1 ≠ I) ∧ Jn m₂ news₂ ∧ (s₂.gens = s.gens ∧ s₂.drawn = s.drawn) ∧ s₂.os = s.os
/-- for x in range(0, n) -/
theorem range_loop {R : Result → Shared → Prop} {x : Str} {px : Pos} {body : List Stmt} {m : Str → Option Value} {news : List (Addr × Obj)} {n : Nat}
    (hA : A.handled = none) (hx : env.kindOf x = some .local) (hp : (env.scope.kind == .class || (env.scope.kind == .module && env.locals != env.globals)) = false)
    (F : Fr h₀ env.locals s.heap m) (N : News h₀ env.locals s.heap news)
    (J : Nat → (Str → Option Value) → List (Addr × Obj) → Prop) (h0 : J 0 m news)
    (step : ∀ i t m₁ news₁ s₁ oI (I : Nat), i < n → J i m₁ news₁ → (s₁.gens = s.gens ∧ s₁.drawn = s.drawn) → s₁.os = s.os → (∀ p ∈ news, p.1 < I) →
      Fr h₀ env.locals s₁.heap (fun y => if y = x then some (.int i t) else m₁ y) → News h₀ env.locals s₁.heap ((I, oI) :: news₁) →
      wpAny (model prog w) A (execs body env) (WStepS h₀ env.locals I oI (J (i + 1)) R s) (fun _ _ => False) s₁)
    (hR : ∀ s' m' news', Fr h₀ env.locals s'.heap m' → News h₀ env.locals s'.heap news' → J n m' news' → (s'.gens = s.gens ∧ s'.drawn = s.drawn) → s'.os = s.os → R (.ok .next) s') :
    codeAny (model prog w) A (.forLoop (.Name x px) (.ref s.heap.objs.size) body [] env) R { s with heap := s.heap.push { cls := .type "range_iterator", data := .fields #[rawInt 0, rawInt (n : Int), rawInt 1] } } := by
  have hLs : @LT.lt Nat _ env.locals s.heap.objs.size := by obtain ⟨o, _, _, q, _⟩ := F.ns; exact Heap.lt_size q
  have nz : ∀ p ∈ news, @LT.lt Nat _ p.1 s.heap.objs.size := fun p hp => Heap.lt_size (N p hp).1
  have hI₀ : h₀.get? s.heap.objs.size = none := by
    cases q : h₀.get? s.heap.objs.size with
    | none => rfl
    | some o => exact absurd (Heap.lt_size (F.keep _ _ q)) (Nat.lt_irrefl _)
  have F1 : Fr h₀ env.locals (s.heap.push { cls := .type "range_iterator", data := .fields #[rawInt 0, rawInt (n : Int), rawInt 1] }) m := F.push _
  have N1 : News h₀ env.locals (s.heap.push { cls := .type "range_iterator", data := .fields #[rawInt 0, rawInt (n : Int), rawInt 1] }) news := fun p hp => ⟨Heap.get?_push_of_some _ (N p hp).1, (N p hp).2⟩
  have It : IsRangeIter (s.heap.push { cls := .type "range_iterator", data := .fields #[rawInt 0, rawInt (n : Int), rawInt 1] }) s.heap.objs.size ((0 : Nat) : Int) ((n : Int) - (0 : Nat)) 1 := by
    have := Heap.get?_push_size s.heap (o := { cls := .type "range_iterator", data := .fields #[rawInt 0, rawInt (n : Int), rawInt 1] }) rfl
    simpa using this
  generalize s.heap.push { cls := .type "range_iterator", data := .fields #[rawInt 0, rawInt (n : Int), rawInt 1] } = h₁ at F1 N1 It ⊢
  generalize s.heap.objs.size = I at *
  refine codeAny_forLoop (fun k s' => ∃ i m' news', k = n + 1 - i ∧ i ≤ n ∧ Fr h₀ env.locals s'.heap m' ∧ News h₀ env.locals s'.heap news' ∧ (∀ p ∈ news', p.1 ≠ I) ∧ J i m' news' ∧ IsRangeIter s'.heap I (i : Int) ((n : Int) - i) 1 ∧ (s'.gens = s.gens ∧ s'.drawn = s.drawn) ∧ s'.os = s.os) ?_ (n + 1)
    ⟨0, m, news, rfl, Nat.zero_le _, F1, N1, fun p hp => neN (Nat.ne_of_lt (nz p hp)), h0, It, ⟨rfl, rfl⟩, rfl⟩
  intro k s' hk
  refine ex39 hk ?_
  clear hk
  intro i m' news' ek hi F' N' hn' hJ It' hb' ho'
  subst ek
  have hLI : env.locals ≠ I := neN (Nat.ne_of_lt hLs)
  rcases Nat.lt_or_ge i n with hlt | hge
  · refine wpAny_pyNext_range_item It' (by omega) fun h₂ It₂ hs₂ => ?_
    try dsimp only
    have F₂ : Fr h₀ env.locals h₂ m' := by
      obtain ⟨o, es, ep, q, r⟩ := F'.ns
      exact ⟨⟨o, es, ep, hs₂.extBut _ _ hLI q, r⟩, fun b o q => hs₂.extBut _ _ (fun e => by rw [e, hI₀] at q; cases q) (F'.keep b o q), F'.above⟩
    have N₂ : News h₀ env.locals h₂ news' := fun p hp => ⟨hs₂.extBut _ _ (hn' p hp) (N' p hp).1, (N' p hp).2⟩
    refine wpAny_assign_Name (wpAny_storeName_local hx F₂.ns (fun h₃ hn₃ hs₃ => ?_) hp)
    have F₃ := F₂.set hn₃ hs₃
    have N₃ : News h₀ env.locals h₃ news' := N₂.set hs₃
    have It₂' : IsRangeIter h₂ I ((i + 1 : Nat) : Int) ((n : Int) - (i + 1 : Nat)) 1 := by
      have e1 : (i : Int) + 1 = ((i + 1 : Nat) : Int) := by omega
      have e2 : (n : Int) - i - 1 = (n : Int) - (i + 1 : Nat) := by omega
      rw [e1, e2] at It₂; exact It₂
    obtain ⟨oI, hoI⟩ : ∃ o, h₃.get? I = some o := ⟨_, hs₃.extBut _ _ (Ne.symm hLI) It₂'⟩
    have eoI := Option.some.inj (hoI.symm.trans (hs₃.extBut _ _ (Ne.symm hLI) It₂'))
    have N₄ : News h₀ env.locals h₃ ((I, oI) :: news') := fun p hp => by
      rcases List.mem_cons.mp hp with rfl | hp
      · exact ⟨hoI, Ne.symm hLI, hI₀⟩
      · exact N₃ p hp
    refine wpAny_mono (step i _ m' news' { s' with heap := h₃, toks := _ } oI I hlt hJ hb' ho' nz F₃ N₄) (fun f s₃ hf => ?_) fun _ _ z => z.elim
    have again : (∃ m₂ news₂, Fr h₀ env.locals s₃.heap m₂ ∧ News h₀ env.locals s₃.heap ((I, oI) :: news₂) ∧ (∀ p ∈ news₂, p.1 ≠ I) ∧ J (i + 1) m₂ news₂ ∧ (s₃.gens = s.gens ∧ s₃.drawn = s.drawn) ∧ s₃.os = s.os) →
        ∃ k', k' < n + 1 - i ∧ ∃ i m' news', k' = n + 1 - i ∧ i ≤ n ∧ Fr h₀ env.locals s₃.heap m' ∧ News h₀ env.locals s₃.heap news' ∧ (∀ p ∈ news', p.1 ≠ I) ∧ J i m' news' ∧ IsRangeIter s₃.heap I (i : Int) ((n : Int) - i) 1 ∧ (s₃.gens = s.gens ∧ s₃.drawn = s.drawn) ∧ s₃.os = s.os := by
      rintro ⟨m₂, news₂, F₅, N₅, hn₅, hJ₅, hb₅, ho₅⟩
      exact ⟨n + 1 - (i + 1), by omega, i + 1, m₂, news₂, rfl, hlt, F₅, fun p hp => N₅ p (List.mem_cons_of_mem _ hp), hn₅, hJ₅, by have k := (N₅ (I, oI) (List.mem_cons_self ..)).1; rw [eoI] at k; exact k, hb₅, ho₅⟩
    cases f with
    | ret v => exact hf
    | brk => exact hf
    | next => exact again hf
    | cont => exact again hf
  · obtain rfl : i = n := by omega
    refine wpAny_pyNext_range_end hA It' (by omega) fun h₂ hs₂ => ?_
    try dsimp only
    refine wpAny_execs_nil (hR _ m' news' ?_ (fun p hp => ⟨hs₂ _ _ (hn' p hp) (N' p hp).1, (N' p hp).2⟩) hJ hb' ho')
    obtain ⟨o, es, ep, q, r⟩ := F'.ns
    exact ⟨⟨o, es, ep, hs₂ _ _ hLI q, r⟩, fun b o q => hs₂ _ _ (fun e => by rw [e, hI₀] at q; cases q) (F'.keep b o q), F'.above⟩
end
end
section
theorem wd19x27 : True := by
  k_with_none
  k_with "omega" => (omega (splitDisjunctions := true))
  k_with "om2" => (first | lia | omega (splitDisjunctions := true))
  k_with "eval Name" => ((k_here; (with_reducible show wpAny _ _ (eval _ (envOf _ _ _ _ _)) _ _ _); k_dflt (refine' nmL ?yF ?yv ?yx ?yk ?yd ?_; (case yF => k_asm); (case yk => exact rfl); (case yx => exact rfl); (case yd => exact rfl); (case yv => exact rfl); k_whole)))
  k_with "storeName" => ((k_here; (with_reducible show wpAny _ _ (storeName (envOf _ _ _ _ _) _ _) _ _ _); k_dflt (refine' stoLe ?yF ?yN ?yx ?yk ?_; (case yF => k_asm); (case yN => k_asm); (case yk => exact rfl); (case yx => exact rfl); k_whole; intro m'ω h'ω F'ω N'ω; (try k_sweep))))
  k_with "eval Name" => ((k_here; (with_reducible show wpAny _ _ (eval _ (envOfC _ _ _ _ _)) _ _ _); k_dflt (refine' nmLC ?yF ?yv ?yk ?yx ?yd ?_; (case yF => k_asm); (case yk => exact rfl); (case yx => exact rfl); (case yd => exact rfl); (case yv => exact rfl); k_whole)))
  k_with "storeName" => ((k_here; (with_reducible show wpAny _ _ (storeName (envOfC _ _ _ _ _) _ _) _ _ _); k_dflt (refine' stoLCe ?yF ?yN ?yk ?yx ?_; (case yF => k_asm); (case yN => k_asm); (case yk => exact rfl); (case yx => exact rfl); k_whole; intro m'ω h'ω F'ω N'ω; (try k_sweep))))
  k_with "execs cons" => ((k_here; (first | (with_reducible show wpAny _ _ (execs _ _) (AtF _) _ _) | (refine execs_abs ?_; intro Q8ω q8ω)); k_dflt (refine execs_gen ?_); intro Q7ω t7ω g7ω o7ω; (try dsimp only)))
  k_with "AtF" => ((with_reducible first | refine AtF.go (by assumption) ?_ | (refine AtF.out (by assumption) (fun z => Flow.noConfusion z) ?_) | (refine AtF.fin (by assumption) ?_; (try dsimp only))))
  k_with "room" => (k_dflt (first | exact rm2 (by assumption) rfl | exact rm1 (by assumption) rfl | exact rm3 (by assumption) rfl | exact rm4 (by assumption) rfl | exact rm0 (by assumption)))
  k_with "kne" => ((refine neN ?_; (try dsimp only); k_extra "ne"))
  k_with "cj" => (first | exact And.left | exact id | (refine cjs ?_; k_extra "cj"))
  k_with "ne" => (with_reducible first | assumption | exact lne (by assumption) | exact gne (by assumption) | exact sne (by assumption) | exact suc | exact suc2 | exact sne suc | exact sne suc2 | (refine ltc (by assumption) ?_; k_extra "cj") | (refine gtc (by assumption) ?_; k_extra "cj") | (refine nec (by assumption) ?_; k_extra "cj") | (refine nfc (by assumption) ?_; k_extra "cj"))
  k_with "call builtin:len" => ((k_here; (with_reducible show wpAny _ _ (call (Value.builtin "len") [Value.str _ _]) _ _ _); k_dflt (refine' len_text ?k1 ?_; (case k1 => omega); k_whole)))
  k_with "call builtin:str.join" => ((k_here; (with_reducible show wpAny _ _ (call (Value.builtin "str.join") [Value.str _ _, Value.ref _]) _ _ _); k_dflt (refine' join_texts ?k1 ?k2 ?k3 ?k4 ?_; (case k1 => k_asm); (case k2 => k_mem); (case k3 => assumption); (case k4 => first | assumption | omega); k_whole; intro t'ω k'ω)))
  k_with "exec For Name Call cons nil" => ((k_here; k_dflt (refine wpAny_For ?_)))
  trivial
def pw8 (b : Int) : Int := if b = 0 then 1 else if b = 1 then 8 else 64
def pw2 (b : Int) : Int := if b = 0 then 1 else if b = 1 then 2 else 4
section
variable {prog : Program} {w : World} {A : Around} {E : Value → Shared → Prop} {s : Shared} {Q : Value → Shared → Prop} {b : Int} {t u : Tok}
theorem pow80 {a : Int} (ha : a = 8) (hb : b = 0) (h : ∀ t' tk, Q (.int 1 t') { s with toks := tk }) : wpAny (model prog w) A (binaryOp .Pow (.int a t) (.int b u)) Q E s := by subst ha hb; exact AutoIntOps.pow_0 (by decide) (by decide) (h _ _)
theorem pow81 {a : Int} (ha : a = 8) (hb : b = 1) (h : ∀ t' tk, Q (.int 8 t') { s with toks := tk }) : wpAny (model prog w) A (binaryOp .Pow (.int a t) (.int b u)) Q E s := by subst ha hb; exact AutoIntOps.pow_4 (by decide) (by decide) (by decide) (by decide) (by decide) (h _ _)
theorem pow82 {a : Int} (ha : a = 8) (hb : b = 2) (h : ∀ t' tk, Q (.int 64 t') { s with toks := tk }) : wpAny (model prog w) A (binaryOp .Pow (.int a t) (.int b u)) Q E s := by subst ha hb; exact AutoIntOps.pow_4 (by decide) (by decide) (by decide) (by decide) (by decide) (h _ _)
theorem pow20 {a : Int} (ha : a = 2) (hb : b = 0) (h : ∀ t' tk, Q (.int 1 t') { s with toks := tk }) : wpAny (model prog w) A (binaryOp .Pow (.int a t) (.int b u)) Q E s := by subst ha hb; exact AutoIntOps.pow_0 (by decide) (by decide) (h _ _)
theorem pow21 {a : Int} (ha : a = 2) (hb : b = 1) (h : ∀ t' tk, Q (.int 2 t') { s with toks := tk }) : wpAny (model prog w) A (binaryOp .Pow (.int a t) (.int b u)) Q E s := by subst ha hb; exact AutoIntOps.pow_4 (by decide) (by decide) (by decide) (by decide) (by decide) (h _ _)
theorem pow22 {a : Int} (ha : a = 2) (hb : b = 2) (h : ∀ t' tk, Q (.int 4 t') { s with toks := tk }) : wpAny (model prog w) A (binaryOp .Pow (.int a t) (.int b u)) Q E s := by subst ha hb; exact AutoIntOps.pow_4 (by decide) (by decide) (by decide) (by decide) (by decide) (h _ _)
theorem pow8 {a : Int} (ha : a = 8) (hb : 0 ≤ b ∧ b ≤ 2) (h : ∀ t' tk, Q (.int (pw8 b) t') { s with toks := tk }) : wpAny (model prog w) A (binaryOp .Pow (.int a t) (.int b u)) Q E s := by
  obtain rfl | rfl | rfl : b = 0 ∨ b = 1 ∨ b = 2 := by omega
  · exact pow80 ha rfl h
  · exact pow81 ha rfl h
  · exact pow82 ha rfl h
theorem pow2 {a : Int} (ha : a = 2) (hb : 0 ≤ b ∧ b ≤ 2) (h : ∀ t' tk, Q (.int (pw2 b) t') { s with toks := tk }) : wpAny (model prog w) A (binaryOp .Pow (.int a t) (.int b u)) Q E s := by
  obtain rfl | rfl | rfl : b = 0 ∨ b = 1 ∨ b = 2 := by omega
  · exact pow20 ha rfl h
  · exact pow21 ha rfl h
  · exact pow22 ha rfl h
theorem mul8 {a : Int} (hb : 0 ≤ b ∧ b ≤ 2) (h : ∀ tk, Q (.int (a * pw8 b) s.toks) { s with toks := tk }) : wpAny (model prog w) A (binaryOp .Mult (.int a t) (.int (pw8 b) u)) Q E s := by
  refine PyProof.Rows.mul_int (h _) ?_
  obtain rfl | rfl | rfl : b = 0 ∨ b = 1 ∨ b = 2 := by omega
  · show IntMulOk a 1; mul_fits
  · show IntMulOk a 8; mul_fits
  · show IntMulOk a 64; mul_fits
theorem mul2 {a : Int} (hb : 0 ≤ b ∧ b ≤ 2) (h : ∀ tk, Q (.int (a * pw2 b) s.toks) { s with toks := tk }) : wpAny (model prog w) A (binaryOp .Mult (.int a t) (.int (pw2 b) u)) Q E s := by
  refine PyProof.Rows.mul_int (h _) ?_
  obtain rfl | rfl | rfl : b = 0 ∨ b = 1 ∨ b = 2 := by omega
  · show IntMulOk a 1; mul_fits
  · show IntMulOk a 2; mul_fits
  · show IntMulOk a 4; mul_fits
theorem iadd_any {a c : Int} (h : ∀ t' tk, Q (.int (a + c) t') { s with toks := tk }) : wpAny (model prog w) A (inplaceOp .Add (.int a t) (.int c u)) Q E s := PyProof.Rows.iadd_int (h _ _)
end
theorem wd19x28 : True := by
  k_with "inplaceOp Add int int" => ((k_here; k_dflt (refine iadd_any ?_; intro t'ω k'ω)))
  k_with "binaryOp Mult int int" => ((k_here; k_dflt (with_reducible first | (refine' mul8 ?k0 ?_; (case k0 => omega); intro k'ω) | (refine' mul2 ?k0 ?_; (case k0 => omega); intro k'ω))))
  k_with "binaryOp Pow int int" => ((k_here; k_dflt (first | (refine' pow8 ?k0 ?k1 ?_; (case k0 => decide); (case k1 => omega); intro t'ω k'ω) | (refine' pow2 ?k0 ?k1 ?_; (case k0 => decide); (case k1 => omega); intro t'ω k'ω))))
  trivial
def rdT (x : Str) (k : Nat) : Int := Txt.find (Str.ofString (if k < 2 then "-xSs" else "-xTt")) (Txt.item x (3 * (k : Int) + 3))
def rdA (x : Str) (k : Nat) : Int := Txt.find (Str.ofString "-r") (Txt.item x (3 * (k : Int) + 1)) * 4 + Txt.find (Str.ofString "-w") (Txt.item x (3 * (k : Int) + 2)) * 2 + (rdT x k).fmod 2
def rd0 (x : Str) : Int := Txt.find (Str.ofString "?pc?d?b?-?l?s") (Txt.item x 0) * 4096
def rd1 (x : Str) : Int := rd0 x + rdA x 0 * 64 + (rdT x 0).fdiv 2 * 512 * 4
def rd2 (x : Str) : Int := rd1 x + rdA x 1 * 8 + (rdT x 1).fdiv 2 * 512 * 2
def rd3 (x : Str) : Int := rd2 x + rdA x 2 * 1 + (rdT x 2).fdiv 2 * 512 * 1
def rd (x : Str) : Nat → Int
  | 0 => rd0 x
  | 1 => rd1 x
  | 2 => rd2 x
  | _ => rd3 x
theorem wd19x29 : True := by
  k_with "execs nil" => ((k_here; (try dsimp only); k_dflt (refine wpAny_execs_nil ?_); (try dsimp only)))
  trivial
theorem rd_step {x : Str} {i : Nat} {v l : Int} (h : rd x i = v) (hi : i < 3) (hl : rdT x i = l) : v + (Txt.find (Str.ofString "-r") (Txt.item x (3 * (i : Int) + 1)) * 4 + Txt.find (Str.ofString "-w") (Txt.item x (3 * (i : Int) + 2)) * 2 + l.fmod 2) * pw8 (2 - (i : Int)) + l.fdiv 2 * 512 * pw2 (2 - (i : Int)) = rd x (i + 1) := by
  subst h hl
  obtain rfl | rfl | rfl : i = 0 ∨ i = 1 ∨ i = 2 := by omega
  · rfl
  · rfl
  · rfl
theorem c_read {w : World} {mean : ExcName → Option Value} {mg mb : Str → Option Value} {dp un : Nat} {gd : Option (List Code)} {outer : List Env} {base : Heap} {s : Shared} {Q E : Value → Shared → Prop} {x : Str} {t : Tok} (B : Below (top dp un gd outer) base outer s.heap) (X : (Kt w.params).In base) (T : Top vw loo mean mg mb base) (hx : x.cps.size = 10) (hdp : dp + 4 < recursionLimit) (hun : un + 32 < cLine)
  (hret : ∀ h' tk' t', Ext [] s { s with heap := h', toks := tk' } → Q (.int (rd x 3) t') { s with heap := h', toks := tk' }) :
  wpAny (model PySem.Challenge.rw_om0101_01.row.prog w) (top dp un gd outer) (call (.ref 179) [.str x t]) Q E s := by
  revert X; k_fill; intro X
  have hxl : x.length = 10 := hx
  w_strict (
   (refine wpAny_call ?_; (k_dflt (refine' enterN ?k1 ?k2 ?k3 ?k4 ?k6 ?k7 ?k8 ?k9 ?kB ?_ ?c2 ?c3 ?c4 ?c5; (case k1 => k_asm); (case k2 => k_asm); (case k3 => k_asm); (case k4 => first | k_asm | exact Has.nil); (case k6 => k_is); (case k7 => k_is); (case k8 => ktr_room); (case k9 => exact BindsTo.of_eq rfl); (case c5 => decide); (case kB => exact locs rfl); (case c2 => exact rfl); (case c3 => exact rfl); (case c4 => exact rfl); k_whole; intro g' L' h' Q9 t9 q9 FG' F' N' B' X' T' l1; (try k_lt l1); (try dsimp only); (try k_lift B'); (try k_fold))))
   k_steps)
  rename Fr _ _ _ _ => F1
  rename News _ _ _ _ => N1
  rename IsRange _ _ _ _ _ _ _ _ => R1
  refine wpAny_pyIter_range R1 (by decide) ?_
  rw [show Builtin.Range.rangeSize 0 3 1 = ((3 : Nat) : Int) from by decide]
  refine range_loop (n := 3) rfl rfl rfl F1 N1 (fun i m news => ∃ t1, m (Str.ofString "mode") = some (.int (rd x i) t1) ∧ m (Str.ofString "signs") = some (.str x t) ∧ news = []) ?_ ?_ ?_
  · exact ⟨_, rfl, rfl, rfl⟩
  · intro i u m₁ news₁ s₁ oI I hi hJ hb₁ ho₁ hnz F3 N3
    obtain ⟨t1, e1, e2, rfl⟩ := hJ
    rw [form2 e1 e2] at F3
    clear F1 N1
    obtain ⟨h4, gens4, dr4, tk4, os4⟩ := s₁
    dsimp only at F3 N3 hb₁ ho₁ ⊢
    generalize hv : rd x i = v at F3
    by_cases hi2 : (i : Int) < 2
    · k_steps
      exact ⟨_, [], by assumption, by assumption, List.forall_mem_nil _, ⟨_, congrArg (fun z => some (Value.int z _)) (rd_step hv hi (by unfold rdT; rw [if_pos (by omega)])), rfl, rfl⟩, hb₁, ho₁⟩
    · k_steps
      exact ⟨_, [], by assumption, by assumption, List.forall_mem_nil _, ⟨_, congrArg (fun z => some (Value.int z _)) (rd_step hv hi (by unfold rdT; rw [if_neg (by omega)])), rfl, rfl⟩, hb₁, ho₁⟩
  · intro s' m' news' F4 N4 hJ hb4 ho4
    obtain ⟨t1, e1, e2, rfl⟩ := hJ
    rw [form2 e1 e2] at F4
    clear F1 N1
    obtain ⟨h4, gens4, dr4, tk4, os4⟩ := s'
    dsimp only at F4 N4 hb4 ho4 ⊢
    obtain ⟨rfl, rfl⟩ := hb4
    subst ho4
    k_steps
    try dsimp only
    exact hret _ _ _ (ext_of FG' F4 rfl id)
end
section
theorem wd20x30 : True := by
  k_with_none
  k_with "omega" => (omega (splitDisjunctions := true))
  k_with "om2" => (first | lia | omega (splitDisjunctions := true))
  k_with "eval Name" => ((k_here; (with_reducible show wpAny _ _ (eval _ (envOf _ _ _ _ _)) _ _ _); k_dflt (refine' nmL ?yF ?yv ?yx ?yk ?yd ?_; (case yF => k_asm); (case yk => exact rfl); (case yx => exact rfl); (case yd => exact rfl); (case yv => exact rfl); k_whole)))
  k_with "storeName" => ((k_here; (with_reducible show wpAny _ _ (storeName (envOf _ _ _ _ _) _ _) _ _ _); k_dflt (refine' stoLe ?yF ?yN ?yx ?yk ?_; (case yF => k_asm); (case yN => k_asm); (case yk => exact rfl); (case yx => exact rfl); k_whole; intro m'ω h'ω F'ω N'ω; (try k_sweep))))
  k_with "eval Name" => ((k_here; (with_reducible show wpAny _ _ (eval _ (envOfC _ _ _ _ _)) _ _ _); k_dflt (refine' nmLC ?yF ?yv ?yk ?yx ?yd ?_; (case yF => k_asm); (case yk => exact rfl); (case yx => exact rfl); (case yd => exact rfl); (case yv => exact rfl); k_whole)))
  k_with "storeName" => ((k_here; (with_reducible show wpAny _ _ (storeName (envOfC _ _ _ _ _) _ _) _ _ _); k_dflt (refine' stoLCe ?yF ?yN ?yk ?yx ?_; (case yF => k_asm); (case yN => k_asm); (case yk => exact rfl); (case yx => exact rfl); k_whole; intro m'ω h'ω F'ω N'ω; (try k_sweep))))
  k_with "execs cons" => ((k_here; (first | (with_reducible show wpAny _ _ (execs _ _) (AtF _) _ _) | (refine execs_abs ?_; intro Q8ω q8ω)); k_dflt (refine execs_gen ?_); intro Q7ω t7ω g7ω o7ω; (try dsimp only)))
  k_with "AtF" => ((with_reducible first | refine AtF.go (by assumption) ?_ | (refine AtF.out (by assumption) (fun z => Flow.noConfusion z) ?_) | (refine AtF.fin (by assumption) ?_; (try dsimp only))))
  k_with "room" => (k_dflt (first | exact rm2 (by assumption) rfl | exact rm1 (by assumption) rfl | exact rm3 (by assumption) rfl | exact rm4 (by assumption) rfl | exact rm0 (by assumption)))
  k_with "kne" => ((refine neN ?_; (try dsimp only); k_extra "ne"))
  k_with "cj" => (first | exact And.left | exact id | (refine cjs ?_; k_extra "cj"))
  k_with "ne" => (with_reducible first | assumption | exact lne (by assumption) | exact gne (by assumption) | exact sne (by assumption) | exact suc | exact suc2 | exact sne suc | exact sne suc2 | (refine ltc (by assumption) ?_; k_extra "cj") | (refine gtc (by assumption) ?_; k_extra "cj") | (refine nec (by assumption) ?_; k_extra "cj") | (refine nfc (by assumption) ?_; k_extra "cj"))
  trivial
def modeL (n : Int) : Int := [1, 2, 4, 6, 8, 10, 12].getD (n.fmod 7).toNat 0 * 4096 + (n.fdiv 7).fmod 4096
theorem c_mode {w : World} {mean : ExcName → Option Value} {mg mb : Str → Option Value} {dp un : Nat} {gd : Option (List Code)} {outer : List Env} {base : Heap} {s : Shared} {Q E : Value → Shared → Prop} {n : Int} {t : Tok} (B : Below (top dp un gd outer) base outer s.heap) (X : (Kt w.params).In base) (T : Top vw loo mean mg mb base) (hdp : dp + 4 < recursionLimit) (hun : un + 32 < cLine)
  (hret : ∀ s' t', Ext [] s s' → Q (.int (modeL n) t') s') :
  wpAny (model PySem.Challenge.rw_om0101_01.row.prog w) (top dp un gd outer) (call (.ref 172) [.int n t]) Q E s := by
  revert X; k_fill; intro X
  w_strict (
   (refine wpAny_call ?_; (k_dflt (refine' enterN ?k1 ?k2 ?k3 ?k4 ?k6 ?k7 ?k8 ?k9 ?kB ?_ ?c2 ?c3 ?c4 ?c5; (case k1 => k_asm); (case k2 => k_asm); (case k3 => k_asm); (case k4 => first | k_asm | exact Has.nil); (case k6 => k_is); (case k7 => k_is); (case k8 => ktr_room); (case k9 => exact BindsTo.of_eq rfl); (case c5 => decide); (case kB => exact locs rfl); (case c2 => exact rfl); (case c3 => exact rfl); (case c4 => exact rfl); k_whole; intro g' L' h' Q9 t9 q9 FG' F' N' B' X' T' l1; (try k_lt l1); (try dsimp only); (try k_lift B'); (try k_fold))))
   k_steps)
  all_goals (try dsimp only)
  all_goals (
    rename n.fmod 7 = _ => hq
    unfold modeL at hret
    rw [hq] at hret
    exact hret _ _ (ext_of FG' (by assumption) (by exact rfl) (by exact id)))
end
section
theorem wd21x31 : True := by
  k_with_none
  k_with "omega" => (first | lia | omega (splitDisjunctions := true))
  k_with "om2" => (first | lia | omega (splitDisjunctions := true))
  k_with "eval Name" => ((k_here; (with_reducible show wpAny _ _ (eval _ (envOf _ _ _ _ _)) _ _ _); k_dflt (refine' nmL ?yF ?yv ?yx ?yk ?yd ?_; (case yF => k_asm); (case yk => exact rfl); (case yx => exact rfl); (case yd => exact rfl); (case yv => exact rfl); k_whole)))
  k_with "storeName" => ((k_here; (with_reducible show wpAny _ _ (storeName (envOf _ _ _ _ _) _ _) _ _ _); k_dflt (refine' stoLe ?yF ?yN ?yx ?yk ?_; (case yF => k_asm); (case yN => k_asm); (case yk => exact rfl); (case yx => exact rfl); k_whole; intro m'ω h'ω F'ω N'ω; (try k_sweep))))
  k_with "eval Name" => ((k_here; (with_reducible show wpAny _ _ (eval _ (envOfC _ _ _ _ _)) _ _ _); k_dflt (refine' nmLC ?yF ?yv ?yk ?yx ?yd ?_; (case yF => k_asm); (case yk => exact rfl); (case yx => exact rfl); (case yd => exact rfl); (case yv => exact rfl); k_whole)))
  k_with "storeName" => ((k_here; (with_reducible show wpAny _ _ (storeName (envOfC _ _ _ _ _) _ _) _ _ _); k_dflt (refine' stoLCe ?yF ?yN ?yk ?yx ?_; (case yF => k_asm); (case yN => k_asm); (case yk => exact rfl); (case yx => exact rfl); k_whole; intro m'ω h'ω F'ω N'ω; (try k_sweep))))
  k_with "execs cons" => ((k_here; (first | (with_reducible show wpAny _ _ (execs _ _) (AtF _) _ _) | (refine execs_abs ?_; intro Q8ω q8ω)); k_dflt (refine execs_gen ?_); intro Q7ω t7ω g7ω o7ω; (try dsimp only)))
  k_with "AtF" => ((with_reducible first | refine AtF.go (by assumption) ?_ | (refine AtF.out (by assumption) (fun z => Flow.noConfusion z) ?_) | (refine AtF.fin (by assumption) ?_; (try dsimp only))))
  k_with "room" => (k_dflt (first | exact rm2 (by assumption) rfl | exact rm1 (by assumption) rfl | exact rm3 (by assumption) rfl | exact rm4 (by assumption) rfl | exact rm0 (by assumption)))
  k_with "kne" => ((refine neN ?_; (try dsimp only); k_extra "ne"))
  k_with "cj" => (first | exact And.left | exact id | (refine cjs ?_; k_extra "cj"))
  k_with "ne" => (with_reducible first | assumption | exact lne (by assumption) | exact gne (by assumption) | exact sne (by assumption) | exact suc | exact suc2 | exact sne suc | exact sne suc2 | (refine ltc (by assumption) ?_; k_extra "cj") | (refine gtc (by assumption) ?_; k_extra "cj") | (refine nec (by assumption) ?_; k_extra "cj") | (refine nfc (by assumption) ?_; k_extra "cj"))
  k_with "call builtin:len" => ((k_here; (with_reducible show wpAny _ _ (call (Value.builtin "len") [Value.str _ _]) _ _ _); k_dflt (refine' len_text ?k1 ?_; (case k1 => omega); k_whole)))
  k_with "call builtin:str.join" => ((k_here; (with_reducible show wpAny _ _ (call (Value.builtin "str.join") [Value.str _ _, Value.ref _]) _ _ _); k_dflt (refine' join_texts ?k1 ?k2 ?k3 ?k4 ?_; (case k1 => k_asm); (case k2 => k_mem); (case k3 => assumption); (case k4 => first | assumption | omega); k_whole; intro t'ω k'ω)))
  k_with "mine os_go" => (first | exact rfl | assumption | (refine Eq.trans (Ext.os (by assumption)) ?_; (try dsimp only) <;> walk_at "mine os_go"))
  k_with "mine bare_go" => (first | assumption | (refine Ext.bare (by assumption) ?_; (try dsimp only); walk_at "mine bare_go"))
  trivial
theorem ext_same {s s' : Shared} {g base : Heap} {outer : List Env} {L l : Addr} {o : Obj} {m : Str → Option Value} {news : List (Addr × Obj)} (FG : ∀ b o', b ∉ List.map (·.1) [(l, o)] → s.heap.get? b = some o' → g.get? b = some o') (F : Fr g L s'.heap m)
    (H : Has base outer s.heap [(l, o)]) (N : News g L s'.heap news) (hm : (l, o) ∈ news) (hos : s'.os = s.os) (hb : AllBare s.gens → AllBare s'.gens) : Ext [] s s' :=
  ⟨fun b o' _ e => by
    by_cases q : b = l
    · subst q
      rw [(H _ (.head _)).1] at e
      rw [← Option.some.inj e]; exact (N _ hm).1
    · exact F.keep _ _ (FG b o' (by simpa using q) e), hos, hb⟩
def tx (hs : List Int) (stray : List Nat) : Nat → Nat → Int → List Nat
  | 0, _, _ => []
  | f + 1, k, b => if hs.length ≤ k then [] else if b < hs.getD k 0 then [34] ++ stray ++ tx hs stray f k 65535 ++ [34]
     else [40] ++ fmL (hs.getD k 0) ++ (tx hs stray f (2 * k + 1) b ++ tx hs stray f (2 * k + 2) b) ++ [41]
theorem fmL_len (m : Int) : (fmL m).length = 10 := by simp [fmL]
theorem tx_len (hs : List Int) (stray : List Nat) : ∀ f k b, (tx hs stray f k b).length ≤ (stray.length + 14) * (2 ^ f - 1)
  | 0, _, _ => by simp [tx]
  | f + 1, k, b => by
    have h1 := tx_len hs stray f k 65535
    have h2 := tx_len hs stray f (2 * k + 1) b
    have h3 := tx_len hs stray f (2 * k + 2) b
    have e : (stray.length + 14) * (2 ^ (f + 1) - 1) = 2 * ((stray.length + 14) * (2 ^ f - 1)) + (stray.length + 14) := by
      obtain ⟨p, hp⟩ : ∃ p, 2 ^ f = p + 1 := ⟨2 ^ f - 1, by have := Nat.two_pow_pos f; omega⟩
      rw [Nat.pow_succ, hp, show (p + 1) * 2 - 1 = p * 2 + 1 from by omega, Nat.add_sub_cancel, Nat.mul_add, Nat.mul_one, ← Nat.mul_assoc, Nat.mul_comm 2, Nat.mul_assoc]
    rw [e, tx]
    split
    · simp
    split
    · simp only [List.length_append, List.length_cons, List.length_nil]; omega
    · simp only [List.length_append, List.length_cons, List.length_nil, fmL_len]; omega
theorem tx_le {hs : List Int} {stray : List Nat} {f k : Nat} {b : Int} (hf : f ≤ 14) (hst : stray.length ≤ 2) : (tx hs stray f k b).length ≤ 300000 := by
  refine Nat.le_trans (tx_len hs stray f k b) (Nat.le_trans (Nat.mul_le_mul (show stray.length + 14 ≤ 16 by omega) (Nat.sub_le_sub_right (Nat.pow_le_pow_right (by decide) hf) 1)) (by decide))
section
variable {prog : Program} {w : World} {A : Around} {E : Value → Shared → Prop} {s : Shared} {Q : Value → Shared → Prop}
theorem add_text {a b : List Nat} {t u : Tok} (hz : a.length + b.length ≤ 16000000) (h : ∀ t' tk, Q (.str ⟨(a ++ b).toArray⟩ t') { s with toks := tk }) : wpAny (model prog w) A (binaryOp .Add (.str ⟨a.toArray⟩ t) (.str ⟨b.toArray⟩ u)) Q E s := by
  refine PyProof.Rows.add_str (fun t' tk => ?_) ?_
  · have e : (⟨a.toArray⟩ : Str) ++ (⟨b.toArray⟩ : Str) = ⟨(a ++ b).toArray⟩ := by
      refine congrArg Str.mk ?_
      simp
    rw [e]; exact h t' tk
  · show a.toArray.size + b.toArray.size ≤ sizeLine
    rw [sizeLine_eq, List.size_toArray, List.size_toArray]; omega
theorem add_text' {x y : Str} {a b : List Nat} {t u : Tok} (hx : x = ⟨a.toArray⟩) (hy : y = ⟨b.toArray⟩) (hz : a.length + b.length ≤ 16000000) (h : ∀ t' tk, Q (.str ⟨(a ++ b).toArray⟩ t') { s with toks := tk }) : wpAny (model prog w) A (binaryOp .Add (.str x t) (.str y u)) Q E s := by
  subst hx hy; exact add_text hz h
end
theorem of40 : Str.ofString "(" = ⟨[40].toArray⟩ := by decide +kernel
theorem of41 : Str.ofString ")" = ⟨[41].toArray⟩ := by decide +kernel
theorem of34 : Str.ofString "\"" = ⟨[34].toArray⟩ := by decide +kernel
theorem of0 : Str.ofString "" = ⟨([] : List Nat).toArray⟩ := by decide +kernel
theorem wd21x32 : True := by
  k_with "binaryOp Add str str" => ((k_here; k_dflt (refine' add_text' ?k1 ?k2 ?k3 ?_; (case k1 => first | exact of40 | exact of41 | exact of34 | exact rfl); (case k2 => first | exact of40 | exact of41 | exact of34 | exact rfl); (case k3 => first | omega | (simp only [List.length_append, List.length_cons, List.length_nil, fmL_len]; omega)); k_whole; intro t'ω k'ω)))
  trivial
def TextC (f : Nat) : Prop := ∀ {w : World} {mean : ExcName → Option Value} {mg mb : Str → Option Value} {dp un : Nat} {gd : Option (List Code)} {outer : List Env} {base : Heap} {s : Shared} {Q E : Value → Shared → Prop} {l : Addr} {vs : List Value} {hs : List Int} {n : Nat} {k b : Int} {t0 t1 t2 : Tok} {stray : List Nat} (B : Below (top dp un gd outer) base outer s.heap) (X : (Kt w.params).In base) (T : Top vw loo mean mg mb base) (H : Has base outer s.heap [(l, listOf vs.toArray n)])
  (hi : IntsAre vs hs) (hlen : hs.length < 50) (h0 : 0 ≤ k) (hf : f < 14) (hst : stray.length ≤ 2) (hm : ∀ m ∈ hs, m ≤ 65535) (hb : 2 * ((hs.length : Int) - k) + 1 ≤ f ∨ (b = 65535 ∧ 2 * ((hs.length : Int) - k) ≤ f)) (hdp : dp + f + 6 < recursionLimit) (hun : un + 8 * f + 48 < cLine)
  (hret : ∀ s' t', Ext [] s s' → (tx hs stray (f + 1) k.toNat b).length ≤ 300000 → Q (.str ⟨(tx hs stray (f + 1) k.toNat b).toArray⟩ t') s'),
  wpAny (model PySem.Challenge.rw_om0101_01.row.prog w) (top dp un gd outer) (call (.ref 207) [.ref l, .int k t0, .int b t1, .str ⟨stray.toArray⟩ t2]) Q E s
def TextBelow (f : Nat) : Prop := ∀ f' < f, TextC f'
theorem text_use {f : Nat} (hB : TextBelow f) {w : World} {mean : ExcName → Option Value} {mg mb : Str → Option Value} {dp un : Nat} {gd : Option (List Code)} {outer : List Env} {base : Heap} {s : Shared} {Q E : Value → Shared → Prop} {l : Addr} {vs : List Value} {hs : List Int} {n : Nat} {k b : Int} {t0 t1 t2 : Tok} {stray : List Nat} (B : Below (top dp un gd outer) base outer s.heap) (X : (Kt w.params).In base) (T : Top vw loo mean mg mb base) (H : Has base outer s.heap [(l, listOf vs.toArray n)])
  (hi : IntsAre vs hs) (hlen : hs.length < 50) (h0 : 0 ≤ k) (hf : f ≤ 14) (hst : stray.length ≤ 2) (hm : ∀ m ∈ hs, m ≤ 65535) (hp : 0 < f) (hb : 2 * ((hs.length : Int) - k) + 1 < f ∨ (b = 65535 ∧ 2 * ((hs.length : Int) - k) < f)) (hdp : dp + f + 5 < recursionLimit) (hun : un + 8 * f + 40 < cLine)
  (hret : ∀ s' t', Ext [] s s' → (tx hs stray f k.toNat b).length ≤ 300000 → Q (.str ⟨(tx hs stray f k.toNat b).toArray⟩ t') s') :
  wpAny (model PySem.Challenge.rw_om0101_01.row.prog w) (top dp un gd outer) (call (.ref 207) [.ref l, .int k t0, .int b t1, .str ⟨stray.toArray⟩ t2]) Q E s := by
  obtain ⟨f', rfl⟩ : ∃ f', f = f' + 1 := ⟨f - 1, by omega⟩
  exact hB f' (by omega) B X T H hi hlen h0 (by omega) hst hm (by omega) (by omega) (by omega) hret
theorem wd21x33 : True := by
  k_with "call ref" => ((k_here; (with_reducible show wpAny _ _ (call (Value.ref 165) _) _ _ _); k_dflt (refine' c_filemode ?k1 ?k2 ?k3 ?k4 ?k5 ?_; (case k1 => refine' pushT ?p1 ?p2 ?p3 ?p4; (case p1 => k_asm); (case p2 => k_asm); (case p3 => exact rfl); (case p4 => exact rfl)); (case k2 => k_asm); (case k3 => k_asm); (case k4 => ktr_room); (case k5 => ktr_units); k_whole; (intro s'ω t'ω hEω; have F9ω := back_fr (by k_asm) (by k_asm) hEω (fun _ hq => nomatch hq); have N9ω := back_news0 (by k_asm) hEω; (try k_sweep); (try dsimp only)))))
  k_with "call ref" => ((k_here; (with_reducible show wpAny _ _ (call (Value.ref 207) _) _ _ _); k_dflt (refine' text_use ?k0 ?k1 ?k2 ?k3 ?k4 ?k5 ?k6 ?k7 ?k8 ?k9 ?ka ?kb ?kc ?kd ?ke ?_; (case k0 => assumption); (case k1 => refine' pushT ?p1 ?p2 ?p3 ?p4; (case p1 => k_asm); (case p2 => k_asm); (case p3 => exact rfl); (case p4 => exact rfl)); (case k2 => k_asm); (case k3 => k_asm); (case k4 => refine has_of (by k_asm) (by k_asm) rfl (List.forall_mem_singleton.mpr ?m); (case m => k_mem)); (case k5 => l_ints); (case k6 => omega); (case k7 => omega); (case k8 => omega); (case k9 => omega); (case ka => assumption); (case kb => omega); (case kc => omega); (case kd => ktr_room); (case ke => ktr_units); k_whole; (intro s'ω t'ω hEω hlω; have F9ω := back_fr (by k_asm) (by k_asm) hEω (fun _ hq => nomatch hq); have N9ω := back_news0 (by k_asm) hEω; (try k_sweep); (try dsimp only)))))
  trivial
theorem text_step {f : Nat} (hB : TextBelow f) : TextC f := by
  intro w mean mg mb dp un gd outer base s Q E l vs hs n k b t0 t1 t2 stray B X T H hi hlen h0 hf hst hm hb hdp hun hret
  revert X; k_fill; intro X
  have hvl := IntsAre.length hi
  have hmk : hs.getD k.toNat 0 ≤ 65535 := by
    by_cases q : k.toNat < hs.length
    · rw [List.getD_eq_getElem?_getD, List.getElem?_eq_getElem q]; exact hm _ (List.getElem_mem q)
    · rw [List.getD_eq_getElem?_getD, List.getElem?_eq_none (by omega)]; decide
  have hl1 : (tx hs stray (f + 1) k.toNat b).length ≤ 300000 := tx_le (by omega) hst
  w_strict (
   (refine wpAny_call ?_; (k_dflt (refine' enterN ?k1 ?k2 ?k3 ?k4 ?k6 ?k7 ?k8 ?k9 ?kB ?_ ?c2 ?c3 ?c4 ?c5; (case k1 => k_asm); (case k2 => k_asm); (case k3 => k_asm); (case k4 => first | k_asm | exact Has.nil); (case k6 => k_is); (case k7 => k_is); (case k8 => ktr_room); (case k9 => exact BindsTo.of_eq rfl); (case c5 => decide); (case kB => exact locs rfl); (case c2 => exact rfl); (case c3 => exact rfl); (case c4 => exact rfl); k_whole; intro g' L' h' Q9 t9 q9 FG' F' N' B' X' T' l1; (try k_lt l1); (try dsimp only); (try k_lift B'); (try k_fold))))
   k_steps)
  all_goals (try dsimp only)
  · have e : tx hs stray (f + 1) k.toNat b = [] := by rw [tx, if_pos (by omega)]
    rw [e, ← of0] at hret
    exact hret _ _ (ext_same FG' (by assumption) H (by assumption) (.head _) (by ((try dsimp only) <;> (walk_at "mine os_go"))) (by (intro y; (try dsimp only) <;> (walk_at "mine bare_go")))) (by simp)
  · have e : tx hs stray (f + 1) k.toNat b = 34 :: stray ++ tx hs stray f k.toNat 65535 ++ [34] := by rw [tx, if_neg (by omega), if_pos (by assumption)]; rfl
    rw [e] at hret hl1
    exact hret _ _ (ext_same FG' (by assumption) H (by assumption) (.head _) (by ((try dsimp only) <;> (walk_at "mine os_go"))) (by (intro y; (try dsimp only) <;> (walk_at "mine bare_go")))) hl1
  · have e : tx hs stray (f + 1) k.toNat b = [40] ++ fmL (hs.getD k.toNat 0) ++ (tx hs stray f (2 * k + 1).toNat b ++ tx hs stray f (2 * k + 2).toNat b) ++ [41] := by
      rw [tx, if_neg (by omega), if_neg (by assumption), show (2 * k + 1).toNat = 2 * k.toNat + 1 from by omega, show (2 * k + 2).toNat = 2 * k.toNat + 2 from by omega]
    rw [e] at hret hl1
    exact hret _ _ (ext_same FG' (by assumption) H (by assumption) (.head _) (by ((try dsimp only) <;> (walk_at "mine os_go"))) (by (intro y; (try dsimp only) <;> (walk_at "mine bare_go")))) hl1
theorem text_all (f : Nat) : TextC f := by
  induction f using Nat.strongRecOn with
  | ind f ih => exact text_step ih
theorem c_text {w : World} {mean : ExcName → Option Value} {mg mb : Str → Option Value} {dp un : Nat} {gd : Option (List Code)} {outer : List Env} {base : Heap} {s : Shared} {Q E : Value → Shared → Prop} {l : Addr} {vs : List Value} {hs : List Int} {n : Nat} {b : Int} {t0 t1 t2 : Tok} {stray : List Nat} (B : Below (top dp un gd outer) base outer s.heap) (X : (Kt w.params).In base) (T : Top vw loo mean mg mb base) (H : Has base outer s.heap [(l, listOf vs.toArray n)])
  (hi : IntsAre vs hs) (hlen : hs.length ≤ 5) (hst : stray.length ≤ 2) (hm : ∀ m ∈ hs, m ≤ 65535) (hdp : dp + 20 < recursionLimit) (hun : un + 160 < cLine)
  (hret : ∀ s' t', Ext [] s s' → Q (.str ⟨(tx hs stray 12 0 b).toArray⟩ t') s') :
  wpAny (model PySem.Challenge.rw_om0101_01.row.prog w) (top dp un gd outer) (call (.ref 207) [.ref l, .int 0 t0, .int b t1, .str ⟨stray.toArray⟩ t2]) Q E s :=
  text_all 11 B X T H hi (by omega) (by decide) (by decide) hst hm (by omega) (by omega) (by omega) (fun s' t' hE _ => hret s' t' hE)
end
section
theorem wd22x34 : True := by
  k_with_none
  k_with "omega" => (first | lia | omega (splitDisjunctions := true))
  k_with "om2" => (first | lia | omega (splitDisjunctions := true))
  k_with "eval Name" => ((k_here; (with_reducible show wpAny _ _ (eval _ (envOf _ _ _ _ _)) _ _ _); k_dflt (refine' nmL ?yF ?yv ?yx ?yk ?yd ?_; (case yF => k_asm); (case yk => exact rfl); (case yx => exact rfl); (case yd => exact rfl); (case yv => exact rfl); k_whole)))
  k_with "storeName" => ((k_here; (with_reducible show wpAny _ _ (storeName (envOf _ _ _ _ _) _ _) _ _ _); k_dflt (refine' stoLe ?yF ?yN ?yx ?yk ?_; (case yF => k_asm); (case yN => k_asm); (case yk => exact rfl); (case yx => exact rfl); k_whole; intro m'ω h'ω F'ω N'ω; (try k_sweep))))
  k_with "eval Name" => ((k_here; (with_reducible show wpAny _ _ (eval _ (envOfC _ _ _ _ _)) _ _ _); k_dflt (refine' nmLC ?yF ?yv ?yk ?yx ?yd ?_; (case yF => k_asm); (case yk => exact rfl); (case yx => exact rfl); (case yd => exact rfl); (case yv => exact rfl); k_whole)))
  k_with "storeName" => ((k_here; (with_reducible show wpAny _ _ (storeName (envOfC _ _ _ _ _) _ _) _ _ _); k_dflt (refine' stoLCe ?yF ?yN ?yk ?yx ?_; (case yF => k_asm); (case yN => k_asm); (case yk => exact rfl); (case yx => exact rfl); k_whole; intro m'ω h'ω F'ω N'ω; (try k_sweep))))
  k_with "execs cons" => ((k_here; (first | (with_reducible show wpAny _ _ (execs _ _) (AtF _) _ _) | (refine execs_abs ?_; intro Q8ω q8ω)); k_dflt (refine execs_gen ?_); intro Q7ω t7ω g7ω o7ω; (try dsimp only)))
  k_with "AtF" => ((with_reducible first | refine AtF.go (by assumption) ?_ | (refine AtF.out (by assumption) (fun z => Flow.noConfusion z) ?_) | (refine AtF.fin (by assumption) ?_; (try dsimp only))))
  k_with "room" => (k_dflt (first | exact rm2 (by assumption) rfl | exact rm1 (by assumption) rfl | exact rm3 (by assumption) rfl | exact rm4 (by assumption) rfl | exact rm0 (by assumption)))
  k_with "kne" => ((refine neN ?_; (try dsimp only); k_extra "ne"))
  k_with "cj" => (first | exact And.left | exact id | (refine cjs ?_; k_extra "cj"))
  k_with "ne" => (with_reducible first | assumption | exact lne (by assumption) | exact gne (by assumption) | exact sne (by assumption) | exact suc | exact suc2 | exact sne suc | exact sne suc2 | (refine ltc (by assumption) ?_; k_extra "cj") | (refine gtc (by assumption) ?_; k_extra "cj") | (refine nec (by assumption) ?_; k_extra "cj") | (refine nfc (by assumption) ?_; k_extra "cj"))
  k_with "mine os_go" => (first | exact rfl | assumption | (refine Eq.trans (Ext.os (by assumption)) ?_; (try dsimp only) <;> walk_at "mine os_go"))
  k_with "mine bare_go" => (first | assumption | (refine Ext.bare (by assumption) ?_; (try dsimp only); walk_at "mine bare_go"))
  k_with "binaryOp Add str str" => ((k_here; k_dflt (refine' add_text' ?k1 ?k2 ?k3 ?_; (case k1 => first | exact of40 | exact of41 | exact of34 | exact rfl); (case k2 => first | exact of40 | exact of41 | exact of34 | exact rfl); (case k3 => first | omega | (simp only [List.length_append, List.length_cons, List.length_nil, fmL_len]; omega)); k_whole; intro t'ω k'ω)))
  k_with "call ref" => ((k_here; (with_reducible show wpAny _ _ (call (Value.ref 165) _) _ _ _); k_dflt (refine' c_filemode ?k1 ?k2 ?k3 ?k4 ?k5 ?_; (case k1 => refine' pushT ?p1 ?p2 ?p3 ?p4; (case p1 => k_asm); (case p2 => k_asm); (case p3 => exact rfl); (case p4 => exact rfl)); (case k2 => k_asm); (case k3 => k_asm); (case k4 => ktr_room); (case k5 => ktr_units); k_whole; (intro s'ω t'ω hEω; have F9ω := back_fr (by k_asm) (by k_asm) hEω (fun _ hq => nomatch hq); have N9ω := back_news0 (by k_asm) hEω; (try k_sweep); (try dsimp only)))))
  trivial
/-- a forest: first child, next sibling -/
inductive Fo
  | nil : Fo
  | cons (m : Int) (ch rest : Fo) : Fo
def Fo.app : Fo → Fo → Fo
  | .nil, b => b
  | .cons m c r, b => .cons m c (r.app b)
abbrev News' := List (Addr × Obj)
inductive RepF (D : News') : List Value → Fo → Prop
  | nil : RepF D [] .nil
  | cons {a : Addr} {m : Int} {t : Tok} {cs vs : List Value} {n : Nat} {ch rest : Fo} : (a, listOf (Value.int m t :: cs).toArray n) ∈ D → RepF D cs ch → RepF D vs rest → RepF D (.ref a :: vs) (.cons m ch rest)
theorem RepF.mono {D D' : News'} (k : ∀ p ∈ D, p ∈ D') {vs : List Value} {f : Fo} (h : RepF D vs f) : RepF D' vs f := by
  induction h with
  | nil => exact .nil
  | cons h1 _ _ i1 i2 => exact .cons (k _ h1) i1 i2
theorem RepF.app {D : News'} {vs ws : List Value} {f g : Fo} (h : RepF D vs f) (h' : RepF D ws g) : RepF D (vs ++ ws) (f.app g) := by
  induction h with
  | nil => exact h'
  | cons h1 h2 _ _ i2 => exact .cons h1 h2 i2
/-- what was made between two states -/
def Fresh (s s' : Shared) (D : News') : Prop := ∀ p ∈ D, s.heap.get? p.1 = none ∧ s'.heap.get? p.1 = some p.2
theorem back_deep {s s' : Shared} {h₀ : Heap} {L r : Addr} {o : Obj} {m : Str → Option Value} {news D : News'} (F : Fr h₀ L s.heap m) (N : News h₀ L s.heap news) (x : Ext [] s s') (hr : s.heap.get? r = none) (hg : s'.heap.get? r = some o) (hD : Fresh s s' D) : News h₀ L s'.heap ((r, o) :: (news ++ D)) := by
  refine news_cons F ?_ hg hr
  intro p hp
  rcases List.mem_append.mp hp with hp | hp
  · exact back_news0 N x p hp
  · exact news_cons (o := p.2) (news := []) F (fun _ q => nomatch q) (hD p hp).2 (hD p hp).1 p (.head _)
section
variable {prog : Program} {w : World} {A : Around} {E : Value → Shared → Prop} {s : Shared} {h₀ : Heap} {L a b : Addr} {m : Str → Option Value} {news : News'} {Q : Value → Shared → Prop}
theorem add_vals {vs ws : List Value} {n n2 : Nat} (F : Fr h₀ L s.heap m) (N : News h₀ L s.heap news) (ha : (a, listOf vs.toArray n) ∈ news) (hb : (b, listOf ws.toArray n2) ∈ news) (hz : vs.length + ws.length ≤ 100000)
    (h : ∀ D h', Fr h₀ L h' m → News h₀ L h' ((D, listOf (vs ++ ws).toArray 0) :: news) → (∀ p ∈ news, p.1 < D) → Q (.ref D) { s with heap := h' }) : wpAny (model prog w) A (binaryOp .Add (.ref a) (.ref b)) Q E s :=
  PyProof.Rows.add_lists F N ⟨_, (N _ ha).1, rfl, n, rfl⟩ ⟨_, (N _ hb).1, rfl, n2, rfl⟩ (fun h' F' N' => h _ h' F' N' fun p hp => Heap.lt_size (N p hp).1) (by rw [sizeLine_eq]; omega)
end
theorem fresh_all {s s' : Shared} {g : Heap} {L l : Addr} {o : Obj} {news D : News'} (FG : ∀ b o', b ∉ List.map (·.1) [(l, o)] → s.heap.get? b = some o' → g.get? b = some o') (N : News g L s'.heap news) (hs : ∀ p ∈ D, p ∈ news) (hne : ∀ p ∈ D, p.1 ≠ l) : Fresh s s' D := by
  intro p hp
  refine ⟨?_, (N p (hs p hp)).1⟩
  cases q : s.heap.get? p.1 with
  | none => rfl
  | some o' =>
    have := FG _ _ (by simpa using hne p hp) q
    rw [(N p (hs p hp)).2.2] at this; cases this
theorem wd22x35 : True := by
  k_with "binaryOp Add ref ref" => ((k_here; (with_reducible show wpAny _ _ (binaryOp _ (Value.ref _) (Value.ref _)) _ _ _); k_dflt (refine' add_vals ?F ?N ?a ?b ?z ?_; (case F => k_asm); (case N => k_asm); (case a => k_mem); (case b => k_mem); (case z => (simp only [List.length_append, List.length_cons, List.length_nil]; omega))); intro D'ω h'ω F'ω N'ω l1ω; (try k_lt l1ω); (try k_sweep)))
  trivial
def trF (hs : List Int) (b : Int) : Nat → Nat → Fo
  | 0, _ => .nil
  | f + 1, k => if hs.length ≤ k ∨ b < hs.getD k 0 then .nil else .cons (hs.getD k 0) ((trF hs b f (2 * k + 1)).app (trF hs b f (2 * k + 2))) .nil
def TreeC (f : Nat) : Prop := ∀ {w : World} {mean : ExcName → Option Value} {mg mb : Str → Option Value} {dp un : Nat} {gd : Option (List Code)} {outer : List Env} {base : Heap} {s : Shared} {Q E : Value → Shared → Prop} {l : Addr} {vs : List Value} {hs : List Int} {n : Nat} {k b : Int} {t0 t1 : Tok} (B : Below (top dp un gd outer) base outer s.heap) (X : (Kt w.params).In base) (T : Top vw loo mean mg mb base) (H : Has base outer s.heap [(l, listOf vs.toArray n)])
  (hi : IntsAre vs hs) (hlen : hs.length < 50) (h0 : 0 ≤ k) (hf : f < 14) (hb : (hs.length : Int) - k ≤ f) (hdp : dp + f + 6 < recursionLimit) (hun : un + 8 * f + 48 < cLine)
  (hret : ∀ s' r vs' n' D, Ext [] s s' → s.heap.get? r = none → s'.heap.get? r = some (listOf vs'.toArray n') → Fresh s s' D → RepF D vs' (trF hs b (f + 1) k.toNat) → vs'.length ≤ 1 → Q (.ref r) s'),
  wpAny (model PySem.Challenge.rw_om0101_01.row.prog w) (top dp un gd outer) (call (.ref 214) [.ref l, .int k t0, .int b t1]) Q E s
def TreeBelow (f : Nat) : Prop := ∀ f' < f, TreeC f'
theorem tree_use {f : Nat} (hB : TreeBelow f) {w : World} {mean : ExcName → Option Value} {mg mb : Str → Option Value} {dp un : Nat} {gd : Option (List Code)} {outer : List Env} {base : Heap} {s : Shared} {Q E : Value → Shared → Prop} {l : Addr} {vs : List Value} {hs : List Int} {n : Nat} {k b : Int} {t0 t1 : Tok} (B : Below (top dp un gd outer) base outer s.heap) (X : (Kt w.params).In base) (T : Top vw loo mean mg mb base) (H : Has base outer s.heap [(l, listOf vs.toArray n)])
  (hi : IntsAre vs hs) (hlen : hs.length < 50) (h0 : 0 ≤ k) (hf : f ≤ 14) (hp : 0 < f) (hb : (hs.length : Int) - k < f) (hdp : dp + f + 5 < recursionLimit) (hun : un + 8 * f + 40 < cLine)
  (hret : ∀ s' r vs' n' D, Ext [] s s' → s.heap.get? r = none → s'.heap.get? r = some (listOf vs'.toArray n') → Fresh s s' D → RepF D vs' (trF hs b f k.toNat) → vs'.length ≤ 1 → (∀ p ∈ D, p.1 ≠ l) → Q (.ref r) s') :
  wpAny (model PySem.Challenge.rw_om0101_01.row.prog w) (top dp un gd outer) (call (.ref 214) [.ref l, .int k t0, .int b t1]) Q E s := by
  obtain ⟨f', rfl⟩ : ∃ f', f = f' + 1 := ⟨f - 1, by omega⟩
  exact hB f' (by omega) B X T H hi hlen h0 (by omega) (by omega) (by omega) (by omega) fun s' r vs' n' D h1 h2 h3 h4 h5 h6 => hret s' r vs' n' D h1 h2 h3 h4 h5 h6 fun p hp q => by
    have := (h4 p hp).1
    rw [q, (H _ (.head _)).1] at this; cases this
theorem wd22x36 : True := by
  k_with "call ref" => ((k_here; (with_reducible show wpAny _ _ (call (Value.ref 214) _) _ _ _); k_dflt (refine' tree_use ?k0 ?k1 ?k2 ?k3 ?k4 ?k5 ?k6 ?k7 ?k8 ?k9 ?ka ?kb ?kc ?_; (case k0 => assumption); (case k1 => refine' pushT ?p1 ?p2 ?p3 ?p4; (case p1 => k_asm); (case p2 => k_asm); (case p3 => exact rfl); (case p4 => exact rfl)); (case k2 => k_asm); (case k3 => k_asm); (case k4 => refine has_of (by k_asm) (by k_asm) rfl (List.forall_mem_singleton.mpr ?m); (case m => k_mem)); (case k5 => l_ints); (case k6 => omega); (case k7 => omega); (case k8 => omega); (case k9 => omega); (case ka => omega); (case kb => ktr_room); (case kc => ktr_units); k_whole; (intro s'ω r'ω vs'ω n'ω D'ω hEω hrω hgω hDω hRω hlω hneω; have F9ω := back_fr (by k_asm) (by k_asm) hEω (fun _ hq => nomatch hq); have N9ω := back_deep (by k_asm) (by k_asm) hEω hrω hgω hDω; (try k_sweep); (try simp only [List.cons_append, List.nil_append, List.append_assoc] at N9ω); (try dsimp only)))))
  trivial
theorem tree_step {f : Nat} (hB : TreeBelow f) : TreeC f := by
  intro w mean mg mb dp un gd outer base s Q E l vs hs n k b t0 t1 B X T H hi hlen h0 hf hb hdp hun hret
  revert X; k_fill; intro X
  have hvl := IntsAre.length hi
  w_strict (
   (refine wpAny_call ?_; (k_dflt (refine' enterN ?k1 ?k2 ?k3 ?k4 ?k6 ?k7 ?k8 ?k9 ?kB ?_ ?c2 ?c3 ?c4 ?c5; (case k1 => k_asm); (case k2 => k_asm); (case k3 => k_asm); (case k4 => first | k_asm | exact Has.nil); (case k6 => k_is); (case k7 => k_is); (case k8 => ktr_room); (case k9 => exact BindsTo.of_eq rfl); (case c5 => decide); (case kB => exact locs rfl); (case c2 => exact rfl); (case c3 => exact rfl); (case c4 => exact rfl); k_whole; intro g' L' h' Q9 t9 q9 FG' F' N' B' X' T' l1; (try k_lt l1); (try dsimp only); (try k_lift B'); (try k_fold))))
   k_steps)
  all_goals (try dsimp only)
  all_goals rename News _ _ _ _ => N5
  · have e : trF hs b (f + 1) k.toNat = .nil := by rw [trF, if_pos (Or.inl (by omega))]
    rw [e] at hret
    exact hret _ _ [] _ [] (ext_same FG' (by assumption) H N5 (.tail _ (.head _)) (by ((try dsimp only) <;> (walk_at "mine os_go"))) (by (intro y; (try dsimp only) <;> (walk_at "mine bare_go")))) (fresh_of FG' N5 (.head _) (by simp only [List.map_cons, List.map_nil, List.mem_singleton]; exact neN (by first | k_extra "ne" | omega))) (N5 _ (.head _)).1 (fun _ q => nomatch q) .nil (by simp)
  · have e : trF hs b (f + 1) k.toNat = .nil := by rw [trF, if_pos (Or.inr (by assumption))]
    rw [e] at hret
    exact hret _ _ [] _ [] (ext_same FG' (by assumption) H N5 (.tail _ (.head _)) (by ((try dsimp only) <;> (walk_at "mine os_go"))) (by (intro y; (try dsimp only) <;> (walk_at "mine bare_go")))) (fresh_of FG' N5 (.head _) (by simp only [List.map_cons, List.map_nil, List.mem_singleton]; exact neN (by first | k_extra "ne" | omega))) (N5 _ (.head _)).1 (fun _ q => nomatch q) .nil (by simp)
  · have e : trF hs b (f + 1) k.toNat = .cons (hs.getD k.toNat 0) ((trF hs b f (2 * k + 1).toNat).app (trF hs b f (2 * k + 2).toNat)) .nil := by
      rw [trF, if_neg (by omega), show (2 * k + 1).toNat = 2 * k.toNat + 1 from by omega, show (2 * k + 2).toNat = 2 * k.toNat + 2 from by omega]
    rw [e] at hret
    rename RepF _ _ (trF hs b f (2 * k + 1).toNat) => R1
    rename RepF _ _ (trF hs b f (2 * k + 2).toNat) => R2
    refine' hret _ _ [Value.ref _] _ (_ :: (_ ++ _)) (ext_same FG' (by assumption) H N5 ?m1 (by ((try dsimp only) <;> (walk_at "mine os_go"))) (by (intro y; (try dsimp only) <;> (walk_at "mine bare_go")))) (fresh_of FG' N5 (.head _) (by simp only [List.map_cons, List.map_nil, List.mem_singleton]; exact neN (by first | k_extra "ne" | omega))) (N5 _ (.head _)).1 (fresh_all FG' N5 ?m2 ?m3) (.cons (.head _) (RepF.app (RepF.mono (fun p hp => .tail _ (List.mem_append_left _ hp)) R1) (RepF.mono (fun p hp => .tail _ (List.mem_append_right _ hp)) R2)) .nil) (by simp)
    case m1 => k_mem
    case m2 =>
      refine List.forall_mem_cons.mpr ⟨.tail _ (.head _), fun p hp => ?_⟩
      iterate 7 (refine List.mem_cons_of_mem _ ?_)
      exact hp
    case m3 =>
      refine List.forall_mem_cons.mpr ⟨neN (by first | k_extra "ne" | omega), fun p hp => ?_⟩
      rcases List.mem_append.mp hp with hp | hp
      · exact (show ∀ p ∈ _, p.1 ≠ l by assumption) p hp
      · exact (show ∀ p ∈ _, p.1 ≠ l by assumption) p hp
theorem tree_all (f : Nat) : TreeC f := by
  induction f using Nat.strongRecOn with
  | ind f ih => exact tree_step ih
theorem c_tree {w : World} {mean : ExcName → Option Value} {mg mb : Str → Option Value} {dp un : Nat} {gd : Option (List Code)} {outer : List Env} {base : Heap} {s : Shared} {Q E : Value → Shared → Prop} {l : Addr} {vs : List Value} {hs : List Int} {n : Nat} {b : Int} {t0 t1 : Tok} (B : Below (top dp un gd outer) base outer s.heap) (X : (Kt w.params).In base) (T : Top vw loo mean mg mb base) (H : Has base outer s.heap [(l, listOf vs.toArray n)])
  (hi : IntsAre vs hs) (hlen : hs.length ≤ 5) (hdp : dp + 20 < recursionLimit) (hun : un + 160 < cLine)
  (hret : ∀ s' r vs' n' D, Ext [] s s' → s.heap.get? r = none → s'.heap.get? r = some (listOf vs'.toArray n') → Fresh s s' D → RepF D vs' (trF hs b 6 0) → vs'.length ≤ 1 → Q (.ref r) s') :
  wpAny (model PySem.Challenge.rw_om0101_01.row.prog w) (top dp un gd outer) (call (.ref 214) [.ref l, .int 0 t0, .int b t1]) Q E s :=
  tree_all 5 B X T H hi (by omega) (by decide) (by decide) (by omega) (by omega) (by omega) hret
end
section
theorem wd23x37 : True := by
  k_with_none
  k_with "omega" => (omega (splitDisjunctions := true))
  k_with "om2" => (first | lia | omega (splitDisjunctions := true))
  k_with "eval Name" => ((k_here; (with_reducible show wpAny _ _ (eval _ (envOf _ _ _ _ _)) _ _ _); k_dflt (refine' nmL ?yF ?yv ?yx ?yk ?yd ?_; (case yF => k_asm); (case yk => exact rfl); (case yx => exact rfl); (case yd => exact rfl); (case yv => exact rfl); k_whole)))
  k_with "storeName" => ((k_here; (with_reducible show wpAny _ _ (storeName (envOf _ _ _ _ _) _ _) _ _ _); k_dflt (refine' stoLe ?yF ?yN ?yx ?yk ?_; (case yF => k_asm); (case yN => k_asm); (case yk => exact rfl); (case yx => exact rfl); k_whole; intro m'ω h'ω F'ω N'ω; (try k_sweep))))
  k_with "eval Name" => ((k_here; (with_reducible show wpAny _ _ (eval _ (envOfC _ _ _ _ _)) _ _ _); k_dflt (refine' nmLC ?yF ?yv ?yk ?yx ?yd ?_; (case yF => k_asm); (case yk => exact rfl); (case yx => exact rfl); (case yd => exact rfl); (case yv => exact rfl); k_whole)))
  k_with "storeName" => ((k_here; (with_reducible show wpAny _ _ (storeName (envOfC _ _ _ _ _) _ _) _ _ _); k_dflt (refine' stoLCe ?yF ?yN ?yk ?yx ?_; (case yF => k_asm); (case yN => k_asm); (case yk => exact rfl); (case yx => exact rfl); k_whole; intro m'ω h'ω F'ω N'ω; (try k_sweep))))
  k_with "execs cons" => ((k_here; (first | (with_reducible show wpAny _ _ (execs _ _) (AtF _) _ _) | (refine execs_abs ?_; intro Q8ω q8ω)); k_dflt (refine execs_gen ?_); intro Q7ω t7ω g7ω o7ω; (try dsimp only)))
  k_with "AtF" => ((with_reducible first | refine AtF.go (by assumption) ?_ | (refine AtF.out (by assumption) (fun z => Flow.noConfusion z) ?_) | (refine AtF.fin (by assumption) ?_; (try dsimp only))))
  k_with "room" => (k_dflt (first | exact rm2 (by assumption) rfl | exact rm1 (by assumption) rfl | exact rm3 (by assumption) rfl | exact rm4 (by assumption) rfl | exact rm0 (by assumption)))
  k_with "kne" => ((refine neN ?_; (try dsimp only); k_extra "ne"))
  k_with "cj" => (first | exact And.left | exact id | (refine cjs ?_; k_extra "cj"))
  k_with "ne" => (with_reducible first | assumption | exact lne (by assumption) | exact gne (by assumption) | exact sne (by assumption) | exact suc | exact suc2 | exact sne suc | exact sne suc2 | (refine ltc (by assumption) ?_; k_extra "cj") | (refine gtc (by assumption) ?_; k_extra "cj") | (refine nec (by assumption) ?_; k_extra "cj") | (refine nfc (by assumption) ?_; k_extra "cj"))
  trivial
section
variable {prog : Program} {w : World} {A A₀ : Around} {s s' : Shared} {K : Frag} {L : Addr} {h₀ base : Heap} {m mg mb : Str → Option Value} {news : List (Addr × Obj)} {p : Program} {loose : List Str} {mean : ExcName → Option Value}
  {outer : List Env} {env : Env}
theorem enterC {R : Result → Shared → Prop} {name qual : Str} {params : Arguments} {body : List Stmt} {scope : Scope} {dV kV doc pm cdv ct oc : Value} {an od : Option Addr} {osl : Array (Option Value)} {f : Addr} {args : Args} {binds : List (Str × Value)}
    (B : Below A base outer s.heap) (X : K.In base) (T : Top p loose mean mg mb base) (H : Has base outer s.heap news)
    (ho : K.lookup f = some ⟨oc, od, .func (fnOf name qual params body scope dV kV doc pm an cdv ct), osl⟩) (hcd : codeIn K cdv qual = true) (hroom : A.depth < recursionLimit)
    (hbind : BindsTo s (fnOf name qual params body scope dV kV doc pm an cdv ct) args binds) (hkind : (binds.all fun y => scope.names.lookup y.1 == some .local || scope.names.lookup y.1 == some .cell) = true)
    (hnd : ((cellsFrom 0 scope.names []).map (·.1)).Nodup)
    (h : ∀ g L' h₁ tk cells, (∀ b o, b ∉ news.map (·.1) → s.heap.get? b = some o → g.get? b = some o) → Fr g L' h₁ (bindL (envOfC qual scope L' f cdv).kindOf binds fun _ => none) → News g L' h₁ (cells ++ news) →
      CellsAre (bindC (envOfC qual scope L' f cdv).kindOf binds fun _ => none) (cellsFrom (L' + 1) scope.names []) cells → Below A base outer g → K.In g → Top p loose mean mg mb g → (∀ p ∈ news, p.1 < L') →
      wpAny (model prog w) (A.deeper (envOfC qual scope L' f cdv)) (execs body (envOfC qual scope L' f cdv))
        (fun fl s' => R (.ok (.ret (match fl with | .ret v => v | _ => .none))) s')
        (fun e s' => wpAny (model prog w) (A.deeper (envOfC qual scope L' f cdv)) (leaving (envOfC qual scope L' f cdv) e) (fun _ s'' => R (.error e) s'') (fun e' s'' => R (.error e') s'') s')
        { s with heap := h₁, toks := tk })
    (hco : scope.isCoroutine = false) (hgen : scope.isGenerator = false) (hk : scope.kind = .function) : codeAny (model prog w) A (.call (.ref f) args) R s := by
  have B' := hidden B H
  refine codeAny_call_function hroom (X.keeps B.stays _ _ ho) rfl hco hgen rfl (codeRec_of (X.keeps B.stays) hcd) (hbind _ _ _ _ ?_)
  refine wpAny_newFunctionEnv_cells hk (kindsX hkind _) fun env' he s' x => ?_
  subst he
  refine ⟨((T.keeps B.stays).nolimit).keeps x.toInCall.keep, codeAny_func ?_⟩
  obtain ⟨h₁, tk, rfl, _⟩ := x.done
  have hk₁ := x.toInCall.keep
  obtain ⟨cells, NC, Y⟩ := Cl.news (h₀ := s.heap) (Nat.le_refl _) fun n c hm => ⟨x.cell n c (lookup_of_mem_nodup (cellsFrom_names scope.names 0 (s.heap.objs.size + 1) [] [] rfl ▸ hnd) hm), x.above n c hm⟩
  generalize hN : news.map (·.1) = as at B'
  refine h (hideAll s.heap as) s.heap.objs.size h₁ tk cells (fun b o hb e => hideAll_get _ e (hN ▸ hb)) ⟨x.toInCall.ns, fun b o e => hk₁ b o (of_hideAll _ e), Nat.le_of_eq (hideAll_size _ _)⟩ (fun p hp => ?_) Y B' (X.keeps B'.stays) (T.keeps B'.stays) (fun p hp => Heap.lt_size (H p hp).1)
  rcases List.mem_append.mp hp with hp | hp
  · refine ⟨(NC p hp).1, (NC p hp).2.1, ?_⟩
    cases q : (hideAll s.heap as).get? p.1 with
    | none => rfl
    | some o => have := of_hideAll _ q; rw [(NC p hp).2.2] at this; cases this
  · exact ⟨hk₁ _ _ (H p hp).1, Nat.ne_of_lt (Heap.lt_size (H p hp).1), hideAll_none _ (hN ▸ List.mem_map_of_mem hp)⟩
end
@[irreducible] def Stop (P : Prop) : Prop := P
theorem stop_of {P : Prop} (h : P) : Stop P := by
  unfold Stop; exact h
end
section
theorem wd24x38 : True := by
  k_with_none
  k_with "omega" => (omega (splitDisjunctions := true))
  k_with "om2" => (first | lia | omega (splitDisjunctions := true))
  k_with "eval Name" => ((k_here; (with_reducible show wpAny _ _ (eval _ (envOf _ _ _ _ _)) _ _ _); k_dflt (refine' nmL ?yF ?yv ?yx ?yk ?yd ?_; (case yF => k_asm); (case yk => exact rfl); (case yx => exact rfl); (case yd => exact rfl); (case yv => exact rfl); k_whole)))
  k_with "storeName" => ((k_here; (with_reducible show wpAny _ _ (storeName (envOf _ _ _ _ _) _ _) _ _ _); k_dflt (refine' stoLe ?yF ?yN ?yx ?yk ?_; (case yF => k_asm); (case yN => k_asm); (case yk => exact rfl); (case yx => exact rfl); k_whole; intro m'ω h'ω F'ω N'ω; (try k_sweep))))
  k_with "eval Name" => ((k_here; (with_reducible show wpAny _ _ (eval _ (envOfC _ _ _ _ _)) _ _ _); k_dflt (refine' nmLC ?yF ?yv ?yk ?yx ?yd ?_; (case yF => k_asm); (case yk => exact rfl); (case yx => exact rfl); (case yd => exact rfl); (case yv => exact rfl); k_whole)))
  k_with "storeName" => ((k_here; (with_reducible show wpAny _ _ (storeName (envOfC _ _ _ _ _) _ _) _ _ _); k_dflt (refine' stoLCe ?yF ?yN ?yk ?yx ?_; (case yF => k_asm); (case yN => k_asm); (case yk => exact rfl); (case yx => exact rfl); k_whole; intro m'ω h'ω F'ω N'ω; (try k_sweep))))
  k_with "execs cons" => ((k_here; (first | (with_reducible show wpAny _ _ (execs _ _) (AtF _) _ _) | (refine execs_abs ?_; intro Q8ω q8ω)); k_dflt (refine execs_gen ?_); intro Q7ω t7ω g7ω o7ω; (try dsimp only)))
  k_with "AtF" => ((with_reducible first | refine AtF.go (by assumption) ?_ | (refine AtF.out (by assumption) (fun z => Flow.noConfusion z) ?_) | (refine AtF.fin (by assumption) ?_; (try dsimp only))))
  k_with "room" => (k_dflt (first | exact rm2 (by assumption) rfl | exact rm1 (by assumption) rfl | exact rm3 (by assumption) rfl | exact rm4 (by assumption) rfl | exact rm0 (by assumption)))
  k_with "kne" => ((refine neN ?_; (try dsimp only); k_extra "ne"))
  k_with "cj" => (first | exact And.left | exact id | (refine cjs ?_; k_extra "cj"))
  k_with "ne" => (with_reducible first | assumption | exact lne (by assumption) | exact gne (by assumption) | exact sne (by assumption) | exact suc | exact suc2 | exact sne suc | exact sne suc2 | (refine ltc (by assumption) ?_; k_extra "cj") | (refine gtc (by assumption) ?_; k_extra "cj") | (refine nec (by assumption) ?_; k_extra "cj") | (refine nfc (by assumption) ?_; k_extra "cj"))
  trivial
section
variable {prog : Program} {w : World} {A : Around} {h₀ : Heap} {L : Addr} {m : Str → Option Value} {env : Env} {ct elt : Expr} {x : Str} {scope : Scope} {cl : List (Str × Addr)} {s : Shared} {S : List (Addr × Obj) → Prop} {Fin : List Value → List (Addr × Obj) → Prop} {news : List (Addr × Obj)}
/-- texts out of range(n), with a test -/
theorem tt_rest {n : Nat} (p : Nat → Bool) (g : Nat → List Nat)
    (turn : ∀ (i : Nat) t I oI C oC D m₂ ys h tk (E' : Value → Shared → Prop), i < n → LCg.NsObj oC m₂ → m₂ x = some (.int (i : Int) t) → Fr h₀ L h m → News h₀ L h ((I, oI) :: (C, oC) :: (D, LCg.lst ys) :: news) → LCg.Off3 I C D news →
      wpAny (model prog w) A (isTrue ct (compEnvC scope cl C env) (eval ct (compEnvC scope cl C env))) (fun b s' => if b = true then wpAny (model prog w) A (eval elt (compEnvC scope cl C env)) (LCg.CompEnd h₀ L m { s with heap := h, toks := tk } I oI C oC D (LCg.lst ys) S (fun y news' => news' = news ∧ p i = true ∧ ∃ t', y = .str ⟨(g i).toArray⟩ t')) E' s'
        else LCg.CompEnd h₀ L m { s with heap := h, toks := tk } I oI C oC D (LCg.lst ys) S (fun _ news' => news' = news ∧ p i = false) Value.none s') E' { s with heap := h, toks := tk })
    (fin : ∀ ys, TextsAre ys (((List.range n).filter p).map g) → Fin ys news) : LCt.CompRestT prog w A h₀ L m env ct elt x scope cl s S (fun i v => ∃ t, v = .int (0 + (i : Int)) t) Fin n 0 [] news := by
  have key : ∀ (j i : Nat) (ys : List Value), i + j = n → TextsAre ys (((List.range i).filter p).map g) → LCt.CompRestT prog w A h₀ L m env ct elt x scope cl s S (fun i v => ∃ t, v = .int (0 + (i : Int)) t) Fin j i ys news := by
    intro j
    induction j with
    | zero =>
      intro i ys hi hy
      obtain rfl : i = n := by omega
      exact LCt.CompRestT.zero (fin ys hy)
    | succ j ih =>
      intro i ys hi hy
      refine LCt.CompRestT.succ ?_
      intro v I oI C oC D m₂ h tk E' hv hC hx F N off ne
      obtain ⟨t, rfl⟩ := hv
      rw [show (0 : Int) + (i : Int) = (i : Int) from by omega] at hx
      have hs : ((List.range (i + 1)).filter p).map g = ((List.range i).filter p).map g ++ (if p i = true then [g i] else []) := by
        rw [List.range_succ, List.filter_append, List.map_append]
        by_cases q : p i = true
        · simp [q]
        · simp [q]
      refine wpAny_mono (turn i t I oI C oC D m₂ ys h tk E' (by omega) hC hx F N off) (fun b s₂ hq => ?_) fun _ _ e => e
      cases b with
      | true =>
        simp only [if_true] at hq ⊢
        refine wpAny_mono hq (fun y s₃ hr => ?_) fun _ _ e => e
        obtain ⟨h', tk', nw, e, F', N', off', hS, hn, hp, t', hy'⟩ := hr
        rw [hn] at N' off' hS
        refine ⟨h', tk', news, e, F', N', off', hS, ?_⟩
        rw [hy']
        refine ih (i + 1) _ (by omega) ?_
        rw [hs, if_pos hp]
        exact hy.snoc _ _
      | false =>
        simp only [Bool.false_eq_true, if_false] at hq ⊢
        obtain ⟨h', tk', nw, e, F', N', off', hS, hn, hp⟩ := hq
        rw [hn] at N' off' hS
        refine ⟨h', tk', news, e, F', N', off', hS, ih (i + 1) _ (by omega) ?_⟩
        rw [hs, if_neg (by rw [hp]; decide), List.append_nil]
        exact hy
  exact key n 0 [] (by omega) (by simpa using TextsAre.nil)
end
section
variable {prog : Program} {w : World} {A : Around} {E : Value → Shared → Prop} {s : Shared} {h₀ : Heap} {L l : Addr} {news : List (Addr × Obj)} {Q : Value → Shared → Prop} {value slice : Expr} {u : Tok} {vs : List Value} {n : Nat}
theorem item_text0 {c : List Nat} {cs : List (List Nat)} (N : News h₀ L s.heap news) (hm : (l, listOf vs.toArray n) ∈ news) (ht : TextsAre vs (c :: cs)) (h : ∀ t', Q (.str ⟨c.toArray⟩ t') s)
    (hs : subscripted slice false (.ref l) (.int 0 u) = operate [.ref l, .int 0 u] (getItem (.ref l) (.int 0 u)) := by with_unfolding_all rfl) (hg : ∀ r, letTemporaryGo value (.ref l) r = pure () := by intro _; with_unfolding_all rfl) :
    wpAny (model prog w) A (subscriptTail value slice (.ref l) (.int 0 u)) Q E s := by
  cases ht with
  | cons c t _ => exact PyProof.Rows.item_listL (x := .str ⟨c.toArray⟩ t) ⟨_, (N _ hm).1, rfl, n, rfl⟩ (by decide) (by decide) rfl (h t) hs hg
theorem item_texti {i : Int} {cs : List (List Nat)} (N : News h₀ L s.heap news) (hm : (l, listOf vs.toArray n) ∈ news) (ht : TextsAre vs cs) (h0 : 0 ≤ i) (h1 : i < (cs.length : Int)) (hf : cs.length < 1000) (h : ∀ t', Q (.str ⟨(cs.getD i.toNat []).toArray⟩ t') s)
    (hs : subscripted slice false (.ref l) (.int i u) = operate [.ref l, .int i u] (getItem (.ref l) (.int i u)) := by with_unfolding_all rfl) (hg : ∀ r, letTemporaryGo value (.ref l) r = pure () := by intro _; with_unfolding_all rfl) :
    wpAny (model prog w) A (subscriptTail value slice (.ref l) (.int i u)) Q E s := by
  have hl := ht.length
  have hlt : i.toNat < vs.length := by omega
  obtain ⟨c, t, e1, e2⟩ := ht.get (List.getElem?_eq_getElem hlt)
  refine PyProof.Rows.item_listL (x := .str ⟨c.toArray⟩ t) ⟨_, (N _ hm).1, rfl, n, rfl⟩ h0 (by omega) (by rw [List.getElem?_eq_getElem hlt, e2]) ?_ hs hg
  have := h t
  rw [List.getD_eq_getElem?_getD, e1] at this
  exact this
end
section
variable {prog : Program} {w : World} {A : Around} {E : Value → Shared → Prop} {s : Shared} {h₀ : Heap} {L a b : Addr} {news : List (Addr × Obj)} {Q : Value → Shared → Prop} {vs : List Value} {n k : Nat}
theorem len_vals {cs : List (List Nat)} (N : News h₀ L s.heap news) (hm : (a, listOf vs.toArray n) ∈ news) (ht : TextsAre vs cs) (hz : cs.length < 1000000) (h : Q (.int (cs.length : Int) (s.toks + 1)) { s with toks := s.toks + 1 + 1 }) : wpAny (model prog w) A (call (.builtin "len") [.ref a]) Q E s := by
  have hl := ht.length
  refine PyProof.Rows.len_list (items := vs.toArray) ⟨_, (N _ hm).1, rfl, n, rfl⟩ (by rw [List.size_toArray]; omega) ?_
  rw [List.size_toArray, hl]; exact h
theorem texts_reads {h : Heap} {cs : List (List Nat)} (ht : TextsAre vs cs) : ReadsAll h vs (cs.map fun c => PyData.str ⟨c.toArray⟩) [] := by
  induction ht with
  | nil => exact .nil
  | cons c t _ ih => exact .cons (as := []) (.str _ _) ih
theorem texts_shaped : ∀ cs : List (List Nat), (∀ c ∈ cs, ∀ d ∈ c, d < 128) → PyData.canLayAll0 (cs.map fun c => PyData.str ⟨c.toArray⟩) = true ∧ PyData.depthAll (cs.map fun c => PyData.str ⟨c.toArray⟩) = 0
  | [], _ => ⟨rfl, rfl⟩
  | c :: r, h => by
    have := texts_shaped r fun c hc => h c (.tail _ hc)
    have k : PyData.strOk ⟨c.toArray⟩ = true := by
      have := h c (.head _)
      simp only [PyData.strOk, List.all_toArray, List.all_eq_true]
      intro d hd
      have := this d hd
      simp; omega
    constructor
    · simp only [List.map_cons, PyData.canLayAll0, PyData.canLay0, this.1, k]; rfl
    · simp only [List.map_cons, PyData.depthAll, PyData.depth, this.2]; rfl
theorem eq_nil_texts {c : List Nat} {cs : List (List Nat)} (N : News h₀ L s.heap news) (hm : (a, listOf vs.toArray n) ∈ news) (hb : (b, listOf #[] k) ∈ news) (ht : TextsAre vs (c :: cs)) (hk : ∀ x ∈ c :: cs, ∀ d ∈ x, d < 128) (hu : A.units + 64 < cLine) (h : Q (.bool false) s) : wpAny (model prog w) A (compareOp .Eq (.ref a) (.ref b)) Q E s := by
  refine eq_dataH (reads_list_at (N _ hm).1 rfl rfl (by simpa using texts_reads ht)) (reads_list_at (N _ hb).1 rfl rfl ReadsAll.nil) ?_ ?_ hu ?_
  · have := texts_shaped (c :: cs) hk
    unfold SeqAt.shaped
    rw [PyData.canLay0, PyData.depth]
    rw [List.map_cons] at this
    rw [this.1, this.2]; decide
  · decide
  · simpa [PyData.eqv, PyData.eqvAll] using h
end
theorem whl_stop {prog : Program} {w : World} {A : Around} {E : Value → Shared → Prop} {s : Shared} {env : Env} {test : Expr} {body orelse : List Stmt} {Q : Flow → Shared → Prop} {pos : Pos} (h : Stop (WhlRest prog w A E env test body orelse Q 0 s)) : wpAny (model prog w) A (exec (.While test body orelse pos) env) Q E s := by
  unfold Stop at h; exact whl_start 0 h
theorem whl_turnS {prog : Program} {w : World} {A : Around} {E : Value → Shared → Prop} {s : Shared} {env : Env} {test : Expr} {body orelse : List Stmt} {Q : Flow → Shared → Prop} {k : Nat} (hE : PassesOwn (model prog w) A env E)
    (h : wpAny (model prog w) A (isTrue test env (eval test env)) (fun b s₂ => WhlIf b (wpAny (model prog w) A (execs body env) (fun f s₃ => Stop (WhlPost prog w A E env test body orelse Q k f s₃)) E s₂) (wpAny (model prog w) A (execs orelse env) Q E s₂)) E s) :
    WhlRest prog w A E env test body orelse Q (k + 1) s := by
  unfold Stop at h; exact whl_turn hE h
theorem append_vals {prog : Program} {w : World} {A : Around} {E : Value → Shared → Prop} {s : Shared} {h₀ : Heap} {L D : Addr} {m : Str → Option Value} {news news' : List (Addr × Obj)} {n : Nat} {v : Value} {us : List Value} {Q : Value → Shared → Prop}
    (F : Fr h₀ L s.heap m) (N : News h₀ L s.heap news) (U : Upd D (listOf us.toArray n) (listOf (us ++ [v]).toArray (n + 1)) news news')
    (hz : us.length < 1000000) (h : ∀ h', Fr h₀ L h' m → News h₀ L h' news' → Q .none { s with heap := h' }) : wpAny (model prog w) A (call (.builtin "list.append") [.ref D, v]) Q E s := by
  refine append_K (its := us.toArray) (n := n) F N (by rw [List.push_toArray]; exact U) (fun h' F' N' => h h' F' N') ?_
  show us.length ≤ sizeLine
  rw [sizeLine_eq]; omega
theorem listComp_stop {prog : Program} {w : World} {A : Around} {E : Value → Shared → Prop} {s : Shared} {h₀ : Heap} {L : Addr} {m : Str → Option Value} {env : Env} {ct elt iter : Expr} {x : Str} {px : Pos} {scope : Scope} {cl : List (Str × Addr)} {pos : Pos} {Q : Value → Shared → Prop} (F₀ : Fr h₀ L s.heap m)
    (hclos : closureFor scope env = pure cl) (hcell : ∀ y ∈ scope.names, y.2 ≠ .cell) (hkind : scope.kind = .function)
    (hnames : ∀ y ∈ scope.names, y.2 = .local → scope.names.lookup y.1 = some .local) (hx : scope.names.lookup x = some .local)
    (h : wpAny (model prog w) A (eval iter env) (fun v s₁ => Stop (LCt.CompSrcT prog w A h₀ L m env ct elt x scope cl (fun s₂ => LCg.FinE h₀ L m s₂ Q) v s₁)) E s)
    (hs : ∀ x, foldedSetIterable iter env x = pure x := by intro _; rfl) :
    wpAny (model prog w) A (eval (.ListComp elt [⟨.Name x px, iter, [ct], 0⟩] scope pos) env) Q E s := by
  unfold Stop at h; exact LCt.ListComp_T F₀ hclos hcell hkind hnames hx h hs
theorem assComp_stop {prog : Program} {w : World} {A : Around} {E : Value → Shared → Prop} {s : Shared} {h₀ : Heap} {L : Addr} {m : Str → Option Value} {env : Env} {ct elt iter : Expr} {x y : Str} {px py : Pos} {scope : Scope} {cl : List (Str × Addr)} {pos spos : Pos} {Q : Flow → Shared → Prop} (F₀ : Fr h₀ L s.heap m) (hLe : env.locals = L)
    (hsw : swapsWith (.ListComp elt [⟨.Name x px, iter, [ct], 0⟩] scope pos) (some (.Name y py)) spos.line env = pure true)
    (hclos : closureFor scope env = pure cl) (hcell : ∀ z ∈ scope.names, z.2 ≠ .cell) (hkind : scope.kind = .function)
    (hnames : ∀ z ∈ scope.names, z.2 = .local → scope.names.lookup z.1 = some .local) (hx : scope.names.lookup x = some .local)
    (hy : env.kindOf y = some .local) (hp : (env.scope.kind == .class || (env.scope.kind == .module && env.locals != env.globals)) = false)
    (h : wpAny (model prog w) A (eval iter env) (fun v s₁ => Stop (LCt.CompSrcT prog w A h₀ L m env ct elt x scope cl (fun s₂ => LCg.FinA h₀ L m s₂ y Q) v s₁)) E s)
    (hs : ∀ x, foldedSetIterable iter env x = pure x := by intro _; rfl) :
    wpAny (model prog w) A (exec (.Assign [.Name y py] (.ListComp elt [⟨.Name x px, iter, [ct], 0⟩] scope pos) spos) env) Q E s := by
  unfold Stop at h; exact LCt.Assign_ListComp_T F₀ hLe hsw hclos hcell hkind hnames hx hy hp h hs
theorem item_sign {c : List Nat} {i : Nat} (h : i < c.length) : Txt.item ⟨c.toArray⟩ (i : Int) = ⟨#[c.getD i 0]⟩ := by
  rw [item_meets (x := ⟨c.toArray⟩) ⟨by omega, by show (i : Int) < c.toArray.size; rw [List.size_toArray]; omega⟩]
  simp
def AllNe (d : Nat) : List (Addr × Obj) → Prop
  | [] => True
  | p :: r => @Ne Nat p.1 d ∧ AllNe d r
theorem allNe_of {h₀ h : Heap} {L r : Addr} : ∀ {news : List (Addr × Obj)}, News h₀ L h news → h.get? r = none → AllNe r news
  | [], _, _ => trivial
  | p :: rest, N, hr => by
    refine ⟨fun q => ?_, allNe_of (fun q hq => N q (.tail _ hq)) hr⟩
    have := (N p (.head _)).1
    rw [show p.1 = r from q, hr] at this
    cases this
def OffD (D : News') (xs : List Addr) : Prop := ∀ p ∈ D, p.1 ∉ xs
theorem offD_use {D : News'} {xs : List Addr} {d : Addr} (h : OffD D xs) (hm : d ∈ xs) : ∀ p ∈ D, p.1 ≠ d := fun p hp q => h p hp (q ▸ hm)
theorem offD_of {s s' : Shared} {h₀ : Heap} {L : Addr} {news D : News'} {xs : List Addr} (N : News h₀ L s.heap news) (hD : Fresh s s' D) (hx : ∀ d ∈ xs, ∃ o, (d, o) ∈ news) : OffD D xs := fun p hp q => by
  obtain ⟨o, ho⟩ := hx _ q
  have := (N _ ho).1
  rw [(hD p hp).1] at this; cases this
theorem offD_all {s s' : Shared} {h₀ : Heap} {L : Addr} {news D : News'} (N : News h₀ L s.heap news) (hD : Fresh s s' D) : OffD D (news.map (·.1)) := offD_of N hD fun _ hd => by
  obtain ⟨q, hq, e⟩ := List.mem_map.mp hd
  exact ⟨q.2, e ▸ hq⟩
theorem offD_app {D D' : News'} {xs : List Addr} (h : OffD D xs) (h' : OffD D' xs) : OffD (D ++ D') xs := fun p hp => (List.mem_append.mp hp).elim (h p) (h' p)
theorem wd24x39 : True := by
  k_with "newList" => ((k_here; k_dflt (refine' newList_K ?k1 ?k2 ?_; (case k1 => k_asm); (case k2 => k_asm); k_whole); intro l'ω h'ω F'ω N'ω l1ω; (try k_lt l1ω); (try k_sweep)))
  k_with "mine in_lst" => (first | exact .head _ | (refine .tail _ ?_; walk_at "mine in_lst"))
  trivial
local macro_rules | `(tactic| k_all) => `(tactic| exact offD_use (by assumption) (by walk_at "mine in_lst"))
local macro_rules | `(tactic| k_all) => `(tactic| (refine List.forall_mem_append.mpr ⟨?ka1, ?ka2⟩; (case ka1 => k_all); (case ka2 => k_all)))
theorem wd24x40 : True := by
  k_with "subscriptTail Name Name ref int" => ((k_here; k_dflt (refine' item_texti ?k1 ?k2 ?k3 ?k4 ?k5 ?k6 ?_; (case k1 => k_asm); (case k2 => k_mem); (case k3 => assumption); (case k4 => omega); (case k5 => omega); (case k6 => omega); intro t'ω)))
  k_with "subscriptTail Name Constant ref int" => ((k_here; k_dflt (refine' item_text0 ?k1 ?k2 ?k3 ?_; (case k1 => k_asm); (case k2 => k_mem); (case k3 => assumption); intro t'ω)))
  k_with "call builtin:len" => ((k_here; (with_reducible show wpAny _ _ (call (Value.builtin "len") [Value.ref _]) _ _ _); k_dflt (refine' len_vals ?k1 ?k2 ?k3 ?k4 ?_; (case k1 => k_asm); (case k2 => k_mem); (case k3 => assumption); (case k4 => omega); k_whole)))
  k_with "compareOp Eq ref ref" => ((k_here; (with_reducible show wpAny _ _ (compareOp CmpOp.Eq (Value.ref _) (Value.ref _)) _ _ _); k_dflt (refine' eq_nil_texts ?k1 ?k2 ?k3 ?k4 ?k5 ?k6 ?_; (case k1 => k_asm); (case k2 => k_mem); (case k3 => k_mem); (case k4 => assumption); (case k5 => assumption); (case k6 => ktr_units); k_whole)))
  k_with "call builtin:list.append" => ((k_here; (with_reducible show wpAny _ _ (call (Value.builtin _) [Value.ref _, Value.ref _]) _ _ _); k_dflt (refine' append_vals ?k1 ?k2 ?k3 ?k5 ?_; (case k1 => k_asm); (case k2 => k_asm); (case k3 => k_upd); (case k5 => omega); k_whole; (intro h'ω F'ω N'ω; (try k_sweep)))))
  trivial
end
section
theorem wd25x41 : True := by
  k_with_none
  k_with "omega" => (first | lia | omega (splitDisjunctions := true))
  k_with "om2" => (first | lia | omega (splitDisjunctions := true))
  k_with "eval Name" => ((k_here; (with_reducible show wpAny _ _ (eval _ (envOf _ _ _ _ _)) _ _ _); k_dflt (refine' nmL ?yF ?yv ?yx ?yk ?yd ?_; (case yF => k_asm); (case yk => exact rfl); (case yx => exact rfl); (case yd => exact rfl); (case yv => exact rfl); k_whole)))
  k_with "storeName" => ((k_here; (with_reducible show wpAny _ _ (storeName (envOf _ _ _ _ _) _ _) _ _ _); k_dflt (refine' stoLe ?yF ?yN ?yx ?yk ?_; (case yF => k_asm); (case yN => k_asm); (case yk => exact rfl); (case yx => exact rfl); k_whole; intro m'ω h'ω F'ω N'ω; (try k_sweep))))
  k_with "eval Name" => ((k_here; (with_reducible show wpAny _ _ (eval _ (envOfC _ _ _ _ _)) _ _ _); k_dflt (refine' nmLC ?yF ?yv ?yk ?yx ?yd ?_; (case yF => k_asm); (case yk => exact rfl); (case yx => exact rfl); (case yd => exact rfl); (case yv => exact rfl); k_whole)))
  k_with "storeName" => ((k_here; (with_reducible show wpAny _ _ (storeName (envOfC _ _ _ _ _) _ _) _ _ _); k_dflt (refine' stoLCe ?yF ?yN ?yk ?yx ?_; (case yF => k_asm); (case yN => k_asm); (case yk => exact rfl); (case yx => exact rfl); k_whole; intro m'ω h'ω F'ω N'ω; (try k_sweep))))
  k_with "execs cons" => ((k_here; (first | (with_reducible show wpAny _ _ (execs _ _) (AtF _) _ _) | (refine execs_abs ?_; intro Q8ω q8ω)); k_dflt (refine execs_gen ?_); intro Q7ω t7ω g7ω o7ω; (try dsimp only)))
  k_with "AtF" => ((with_reducible first | refine AtF.go (by assumption) ?_ | (refine AtF.out (by assumption) (fun z => Flow.noConfusion z) ?_) | (refine AtF.fin (by assumption) ?_; (try dsimp only))))
  k_with "room" => (k_dflt (first | exact rm2 (by assumption) rfl | exact rm1 (by assumption) rfl | exact rm3 (by assumption) rfl | exact rm4 (by assumption) rfl | exact rm0 (by assumption)))
  k_with "kne" => ((refine neN ?_; (try dsimp only); k_extra "ne"))
  k_with "cj" => (first | exact And.left | exact id | (refine cjs ?_; k_extra "cj"))
  k_with "ne" => (with_reducible first | assumption | exact lne (by assumption) | exact gne (by assumption) | exact sne (by assumption) | exact suc | exact suc2 | exact sne suc | exact sne suc2 | (refine ltc (by assumption) ?_; k_extra "cj") | (refine gtc (by assumption) ?_; k_extra "cj") | (refine nec (by assumption) ?_; k_extra "cj") | (refine nfc (by assumption) ?_; k_extra "cj"))
  trivial
def flat : Fo → List Nat
  | .nil => []
  | .cons m c r => [40] ++ fmL m ++ flat c ++ [41] ++ flat r
def fsz : Fo → Nat
  | .nil => 0
  | .cons _ c r => fsz c + fsz r + 1
def OkM (m : Int) : Prop := ∃ k r : Int, (k = 1 ∨ k = 2 ∨ k = 4 ∨ k = 6 ∨ k = 8 ∨ k = 10 ∨ k = 12) ∧ 0 ≤ r ∧ r < 4096 ∧ m = k * 4096 + r
def OkF : Fo → Prop
  | .nil => True
  | .cons m c r => OkM m ∧ OkF c ∧ OkF r
theorem fo_nil : ∀ f : Fo, f.app .nil = f
  | .nil => rfl
  | .cons m c r => by rw [Fo.app, fo_nil r]
theorem fo_assoc : ∀ a b c : Fo, (a.app b).app c = a.app (b.app c)
  | .nil, _, _ => rfl
  | .cons m x r, b, c => by rw [Fo.app, Fo.app, Fo.app, fo_assoc r b c]
theorem small_up {n : Nat} (h : n < 1000000) : Builtin.Range.small 0 (n : Int) 1 = true := small_one (by omega) (by omega) (by omega) (by omega)
theorem size_up (n : Nat) : Builtin.Range.rangeSize 0 (n : Int) 1 = (n : Int) := by
  rw [rangeSize_nat]; omega
def startsL (x : List Nat) : List (List Nat) := ((List.range x.length).filter (fun i => decide (x.getD i 0 = 41))).map (fun i => x.take (i + 1))
def staysL (x : List Nat) : List (List Nat) := ((List.range (startsL x).length).filter (fun i => decide (((startsL x).map valL).getD i [] = (startsL x).getD i []))).map (fun i => (startsL x).getD i [])
theorem starts_len (x : List Nat) : (startsL x).length ≤ x.length := by
  unfold startsL
  rw [List.length_map]
  exact Nat.le_trans (List.length_filter_le _ _) (by simp)
theorem starts_mem {x c : List Nat} (h : c ∈ startsL x) : (∀ d ∈ c, d ∈ x) ∧ c.length ≤ x.length := by
  unfold startsL at h
  obtain ⟨i, _, rfl⟩ := List.mem_map.mp h
  exact ⟨fun d hd => List.mem_of_mem_take hd, by simp; omega⟩
theorem str_eq {a b : List Nat} (h : ((⟨a.toArray⟩ : Str) == (⟨b.toArray⟩ : Str)) = true) : a = b := by
  have := eq_of_beq h
  simpa using this
theorem str_ne {a b : List Nat} (h : ((⟨a.toArray⟩ : Str) == (⟨b.toArray⟩ : Str)) = false) : ¬ a = b := by
  intro q; subst q; simp at h
def Pm (d : Nat) : Prop := d ≠ 92 ∧ d ≠ 34 ∧ d ≠ 40 ∧ d ≠ 41 ∧ d ≠ 39 ∧ d < 128
theorem pm_ite {c : Prop} [Decidable c] {a b : Nat} (ha : Pm a) (hb : Pm b) : Pm (if c then a else b) := by split <;> assumption
theorem pm_lit {d : Nat} (h : (decide (d ≠ 92) && decide (d ≠ 34) && decide (d ≠ 40) && decide (d ≠ 41) && decide (d ≠ 39) && decide (d < 128)) = true) : Pm d := by
  simp only [Bool.and_eq_true, decide_eq_true_eq] at h
  exact ⟨h.1.1.1.1.1, h.1.1.1.1.2, h.1.1.1.2, h.1.1.2, h.1.2, h.2⟩
theorem chL_pm (m : Int) : ∀ j, j < 10 → Pm (chL m j)
  | 0, _ => pm_ite (pm_lit rfl) (pm_ite (pm_lit rfl) (pm_ite (pm_lit rfl) (pm_ite (pm_lit rfl) (pm_ite (pm_lit rfl) (pm_ite (pm_lit rfl) (pm_ite (pm_lit rfl) (pm_lit rfl)))))))
  | 1, _ => pm_ite (pm_lit rfl) (pm_lit rfl)
  | 2, _ => pm_ite (pm_lit rfl) (pm_lit rfl)
  | 3, _ => pm_ite (pm_lit rfl) (pm_ite (pm_lit rfl) (pm_ite (pm_lit rfl) (pm_lit rfl)))
  | 4, _ => pm_ite (pm_lit rfl) (pm_lit rfl)
  | 5, _ => pm_ite (pm_lit rfl) (pm_lit rfl)
  | 6, _ => pm_ite (pm_lit rfl) (pm_ite (pm_lit rfl) (pm_ite (pm_lit rfl) (pm_lit rfl)))
  | 7, _ => pm_ite (pm_lit rfl) (pm_lit rfl)
  | 8, _ => pm_ite (pm_lit rfl) (pm_lit rfl)
  | 9, _ => pm_ite (pm_lit rfl) (pm_ite (pm_lit rfl) (pm_ite (pm_lit rfl) (pm_lit rfl)))
  | _ + 10, h => absurd h (by omega)
theorem fmL_mem {m : Int} {d : Nat} (h : d ∈ fmL m) : d ≠ 92 ∧ d ≠ 34 ∧ d ≠ 40 ∧ d ≠ 41 ∧ d ≠ 39 ∧ d < 128 := by
  unfold fmL at h
  obtain ⟨j, hj, rfl⟩ := List.mem_map.mp h
  exact chL_pm m j (List.mem_range.mp hj)
theorem flat_mem : ∀ {f : Fo} {d : Nat}, d ∈ flat f → d ≠ 92 ∧ d ≠ 34 ∧ d ≠ 39 ∧ d < 128
  | .nil, d, h => nomatch h
  | .cons m c r, d, h => by
    simp only [flat, List.mem_append, List.mem_singleton] at h
    rcases h with (((h | h) | h) | h) | h
    · subst h; decide
    · have := fmL_mem h; exact ⟨this.1, this.2.1, this.2.2.2.2.1, this.2.2.2.2.2⟩
    · exact flat_mem h
    · subst h; decide
    · exact flat_mem h
def hdL (m : Int) (c : Fo) : List Nat := [40] ++ fmL m ++ flat c ++ [41]
theorem hdL_len (m : Int) (c : Fo) : (hdL m c).length = (flat c).length + 12 := by
  simp only [hdL, List.length_append, List.length_cons, List.length_nil, fmL_len]; omega
/-- a stretch that leaves the count as it was and never falls below -/
structure Gd (B : List Nat) : Prop where
  thru : ∀ (n : Int) rest, 0 ≤ n → ck (B ++ rest) n = ck rest n
  open' : ∀ j (n : Int), 0 < n → ck (B.take j) n = false
theorem gd_nil : Gd [] := ⟨fun _ _ _ => rfl, fun j n h => by rw [List.take_nil, ck]; exact decide_eq_false (by omega)⟩
theorem gd_app {a b : List Nat} (x : Gd a) (y : Gd b) : Gd (a ++ b) := by
  refine ⟨fun n rest h => by rw [List.append_assoc, x.thru n _ h, y.thru n _ h], fun j n h => ?_⟩
  by_cases q : j ≤ a.length
  · rw [List.take_append_of_le_length q]; exact x.open' j n h
  · rw [List.take_append, List.take_of_length_le (by omega), x.thru n _ (by omega)]; exact y.open' _ n h
theorem gd_one {d : Nat} (h0 : d ≠ 40) (h1 : d ≠ 41) : Gd [d] := by
  refine ⟨fun n rest h => ?_, fun j n h => ?_⟩
  · show ck (d :: rest) n = _
    rw [ck, if_neg h0, if_neg h1]
  · cases j with
    | zero => rw [List.take_zero, ck]; exact decide_eq_false (by omega)
    | succ j => rw [List.take_succ_cons, List.take_nil, ck, if_neg h0, if_neg h1, ck]; exact decide_eq_false (by omega)
theorem gd_plain : ∀ {l : List Nat}, (∀ d ∈ l, d ≠ 40 ∧ d ≠ 41) → Gd l
  | [], _ => gd_nil
  | d :: l, h => gd_app (a := [d]) (gd_one (h d (.head _)).1 (h d (.head _)).2) (gd_plain fun e he => h e (.tail _ he))
theorem gd_wrap {b : List Nat} (x : Gd b) : Gd ([40] ++ b ++ [41]) := by
  refine ⟨fun n rest h => ?_, fun j n h => ?_⟩
  · show ck (40 :: ((b ++ [41]) ++ rest)) n = _
    rw [ck, if_pos rfl, List.append_assoc, x.thru _ _ (by omega)]
    show ck (41 :: rest) (n + 1) = _
    rw [ck, if_neg (by decide), if_pos rfl, if_neg (by omega)]
    congr 1; omega
  · cases j with
    | zero => rw [List.take_zero, ck]; exact decide_eq_false (by omega)
    | succ j =>
      show ck (40 :: (b ++ [41]).take j) n = false
      rw [ck, if_pos rfl]
      by_cases q : j ≤ b.length
      · rw [List.take_append_of_le_length q]; exact x.open' j _ (by omega)
      · rw [List.take_of_length_le (by simp; omega), x.thru _ _ (by omega), ck, if_neg (by decide), if_pos rfl, if_neg (by omega), ck]
        exact decide_eq_false (by omega)
theorem gd_fm (m : Int) : Gd (fmL m) := gd_plain fun d hd => ⟨(fmL_mem hd).2.2.1, (fmL_mem hd).2.2.2.1⟩
theorem gd_flat : ∀ f : Fo, Gd (flat f)
  | .nil => gd_nil
  | .cons m c r => by
    have := gd_app (gd_wrap (gd_app (gd_fm m) (gd_flat c))) (gd_flat r)
    rw [← List.append_assoc] at this
    exact this
theorem strip_free {x : List Nat} (h : ¬ 34 ∈ x) : stripL x = x := by
  unfold stripL
  rw [stL_free h]; rfl
theorem idx_filter {α : Type} (l : List α) (d : α) (p : α → Bool) : ((List.range l.length).filter (fun i => p (l.getD i d))).map (fun i => l.getD i d) = l.filter p := by
  have e : (List.range l.length).map (fun i => l.getD i d) = l := by
    refine List.ext_getElem (by simp) fun i h1 h2 => ?_
    simp [List.getD_eq_getElem?_getD, List.getElem?_eq_getElem h2]
  conv => rhs; rw [← e]
  rw [List.filter_map]; rfl
theorem stays_eq (x : List Nat) : staysL x = (startsL x).filter fun c => decide (valL c = c) := by
  unfold staysL
  generalize startsL x = l
  rw [← idx_filter l [] fun c => decide (valL c = c)]
  congr 1
  refine List.filter_congr fun i hi => ?_
  have hi := List.mem_range.mp hi
  simp only [List.getD_eq_getElem?_getD, List.getElem?_map, List.getElem?_eq_getElem hi, Option.map_some, Option.getD_some]
theorem stays_head (m : Int) (c r : Fo) : ∃ tl, staysL (flat (.cons m c r)) = hdL m c :: tl := by
  have hx : flat (.cons m c r) = hdL m c ++ flat r := rfl
  have hl := hdL_len m c
  obtain ⟨k, hk⟩ : ∃ k, (flat (.cons m c r)).length = (hdL m c).length - 1 + (k + 1) := ⟨(flat r).length, by rw [hx, List.length_append]; omega⟩
  have hfree : ∀ i, ¬ 34 ∈ (flat (.cons m c r)).take i := fun i h => (flat_mem (List.mem_of_mem_take h)).2.1 rfl
  have hB := gd_app (gd_fm m) (gd_flat c)
  rw [stays_eq]
  unfold startsL
  rw [List.filter_map, hk, List.range_add, List.range_succ_eq_map, List.filter_append, List.filter_append, List.map_append]
  have e1 : (((List.range ((hdL m c).length - 1)).filter (fun i => decide ((flat (.cons m c r)).getD i 0 = 41))).filter ((fun c => decide (valL c = c)) ∘ fun i => (flat (.cons m c r)).take (i + 1))) = [] := by
    rw [List.filter_eq_nil_iff]
    intro i hi
    have hi := List.mem_range.mp (List.mem_filter.mp hi).1
    have ec : (flat (.cons m c r)).take (i + 1) = 40 :: (fmL m ++ flat c).take i := by
      rw [hx, List.take_append_of_le_length (by omega)]
      show (40 :: ((fmL m ++ flat c) ++ [41])).take (i + 1) = _
      rw [List.take_succ_cons, List.take_append_of_le_length (by simp [fmL_len]; omega)]
    have hc : checkL ((flat (.cons m c r)).take (i + 1)) = false := by
      unfold checkL
      rw [strip_free (hfree _), ec, ck, if_pos rfl]
      exact hB.open' i _ (by decide)
    have ht : valL ((flat (.cons m c r)).take (i + 1)) = tornL := by unfold valL; rw [if_neg (by rw [hc]; decide)]
    simp only [Function.comp, ht, decide_eq_true_eq]
    intro q
    have : (39 : Nat) ∈ (flat (.cons m c r)).take (i + 1) := by rw [← q]; decide
    exact (flat_mem (List.mem_of_mem_take this)).2.2.1 rfl
  rw [e1, List.map_cons, List.filter_cons, if_pos, List.filter_cons, if_pos]
  · rw [List.map_nil, List.nil_append, List.map_cons]
    refine ⟨_, congrArg (fun z => z :: _) ?_⟩
    rw [Nat.add_zero, hx, Nat.sub_add_cancel (by omega), List.take_left' rfl]
  · have ec : (flat (.cons m c r)).take ((hdL m c).length - 1 + 0 + 1) = hdL m c := by rw [Nat.add_zero, hx, Nat.sub_add_cancel (by omega), List.take_left' rfl]
    have hc : checkL (hdL m c) = true := by
      unfold checkL
      rw [strip_free (by rw [← ec]; exact hfree _)]
      have := (gd_wrap hB).thru 0 [] (by decide)
      rw [List.append_nil, ← List.append_assoc] at this
      exact this
    simp only [Function.comp, ec, decide_eq_true_eq]
    unfold valL; rw [if_pos hc]
  · have : (flat (.cons m c r)).getD ((hdL m c).length - 1 + 0) 0 = 41 := by
      rw [Nat.add_zero, hx, List.getD_eq_getElem?_getD, List.getElem?_append_left (by omega)]
      have e : (hdL m c).length - 1 = ([40] ++ fmL m ++ flat c).length := by rw [hl]; simp [fmL_len]; omega
      rw [e]
      show (([40] ++ fmL m ++ flat c) ++ [41])[([40] ++ fmL m ++ flat c).length]?.getD 0 = 41
      rw [List.getElem?_concat_length]; rfl
    exact decide_eq_true this
theorem stays_mem {x c : List Nat} (h : c ∈ staysL x) : c ∈ startsL x := by
  unfold staysL at h
  obtain ⟨i, hi, rfl⟩ := List.mem_map.mp h
  have := List.mem_range.mp (List.mem_filter.mp hi).1
  rw [List.getD_eq_getElem?_getD, List.getElem?_eq_getElem this]
  exact List.getElem_mem this
theorem hd_slice1 (m : Int) (c : Fo) : Txt.slice ⟨(hdL m c).toArray⟩ (some 1) (some 11) = ⟨(fmL m).toArray⟩ := by
  refine strT ?_
  have := slice_ab ⟨(hdL m c).toArray⟩ 1 11 (by show 11 ≤ (hdL m c).toArray.size; rw [List.size_toArray, hdL_len]; omega)
  refine Eq.trans this ?_
  show ((hdL m c).take 11).drop 1 = fmL m
  rw [show hdL m c = ([40] ++ fmL m) ++ (flat c ++ [41]) from by simp [hdL], List.take_left' (by simp [fmL_len])]
  rfl
theorem hd_slice2 (m : Int) (c : Fo) : Txt.slice ⟨(hdL m c).toArray⟩ (some 11) (some (-1)) = ⟨(flat c).toArray⟩ := by
  refine strT ?_
  have hs : (⟨(hdL m c).toArray⟩ : Str).cps.size = (flat c).length + 12 := by show (hdL m c).toArray.size = _; rw [List.size_toArray, hdL_len]
  have := slice_an ⟨(hdL m c).toArray⟩ 11 1 (by decide) (by rw [hs]; omega)
  refine Eq.trans this ?_
  rw [hs]
  show ((hdL m c).take _).drop 11 = flat c
  rw [show hdL m c = (([40] ++ fmL m) ++ flat c) ++ [41] from by simp [hdL], List.take_left' (by simp [fmL_len]; omega), List.drop_left' (by simp [fmL_len])]
theorem fl_slice (m : Int) (c r : Fo) : Txt.slice ⟨(flat (.cons m c r)).toArray⟩ (some ((hdL m c).toArray.size : Int)) none = ⟨(flat r).toArray⟩ := by
  refine strT ?_
  refine Eq.trans (slice_a _ _) ?_
  show (flat (.cons m c r)).drop _ = _
  rw [List.size_toArray, show flat (.cons m c r) = hdL m c ++ flat r from rfl, List.drop_left' rfl]
theorem bitAnd_nat (n k : Nat) : Builtin.bitAnd (n : Int) (k : Int) = ((n &&& k : Nat) : Int) := by
  unfold Builtin.bitAnd
  rw [decide_eq_true (by omega : (0 : Int) ≤ (n : Int)), decide_eq_true (by omega : (0 : Int) ≤ (k : Int))]
  rfl
theorem find_r {p : Prop} [Decidable p] : Txt.find (Str.ofString "-r") ⟨#[if p then 114 else 45]⟩ = if p then 1 else 0 := by split <;> decide +kernel
theorem find_w {p : Prop} [Decidable p] : Txt.find (Str.ofString "-w") ⟨#[if p then 119 else 45]⟩ = if p then 1 else 0 := by split <;> decide +kernel
theorem find_s {p q u : Prop} [Decidable p] [Decidable q] [Decidable u] : Txt.find (Str.ofString "-xSs") ⟨#[if p then 115 else if q then 83 else if u then 120 else 45]⟩ = ((if p then 3 else if q then 2 else if u then 1 else 0 : Nat) : Int) := by
  split
  · decide +kernel
  split
  · decide +kernel
  split <;> decide +kernel
theorem find_t {p q u : Prop} [Decidable p] [Decidable q] [Decidable u] : Txt.find (Str.ofString "-xTt") ⟨#[if p then 116 else if q then 84 else if u then 120 else 45]⟩ = ((if p then 3 else if q then 2 else if u then 1 else 0 : Nat) : Int) := by
  split
  · decide +kernel
  split
  · decide +kernel
  split <;> decide +kernel
def bt (r k : Nat) : Nat := if r &&& k = k then 1 else 0
def tr3 (r a b c : Nat) : Nat := if r &&& a = a then 3 else if r &&& b = b then 2 else if r &&& c = c then 1 else 0
def rt (r : Nat) : Nat :=
  (bt r 256 * 4 + bt r 128 * 2 + tr3 r 2112 2048 64 % 2) * 64 + tr3 r 2112 2048 64 / 2 * 2048 +
  (bt r 32 * 4 + bt r 16 * 2 + tr3 r 1032 1024 8 % 2) * 8 + tr3 r 1032 1024 8 / 2 * 1024 +
  (bt r 4 * 4 + bt r 2 * 2 + tr3 r 513 512 1 % 2) + tr3 r 513 512 1 / 2 * 512
theorem rt_all : ((List.range 4096).all fun r => rt r == r) = true := by decide +kernel
theorem and_low {k r a : Nat} (ha : a < 4096) : (k * 4096 + r) &&& a = r &&& a := by
  have h1 : ((k * 4096 + r) &&& a) % 2 ^ 12 = (r &&& a) % 2 ^ 12 := by
    rw [Nat.and_mod_two_pow, Nat.and_mod_two_pow]
    congr 1
    omega
  have h2 : ((k * 4096 + r) &&& a) < 2 ^ 12 := Nat.lt_of_le_of_lt Nat.and_le_right ha
  have h3 : (r &&& a) < 2 ^ 12 := Nat.lt_of_le_of_lt Nat.and_le_right ha
  rw [Nat.mod_eq_of_lt h2, Nat.mod_eq_of_lt h3] at h1
  exact h1
theorem and_high : ((List.range 4096).all fun r => [1, 2, 4, 6, 8, 10, 12].all fun k => ((k * 4096 + r) &&& 61440) == k * 4096) = true := by decide +kernel
theorem chL_0 (m : Int) : chL m 0 = if Builtin.bitAnd m 61440 = 40960 then 108 else if Builtin.bitAnd m 61440 = 49152 then 115 else if Builtin.bitAnd m 61440 = 32768 then 45 else if Builtin.bitAnd m 61440 = 24576 then 98 else if Builtin.bitAnd m 61440 = 16384 then 100 else if Builtin.bitAnd m 61440 = 8192 then 99 else if Builtin.bitAnd m 61440 = 4096 then 112 else 63 := rfl
theorem rd_fm {m : Int} (h : OkM m) : rd ⟨(fmL m).toArray⟩ 3 = m := by
  obtain ⟨k', r', hk, h0, h1, rfl⟩ := h
  obtain ⟨r, rfl⟩ : ∃ r : Nat, r' = r := ⟨r'.toNat, by omega⟩
  obtain ⟨k, rfl⟩ : ∃ k : Nat, k' = k := ⟨k'.toNat, by omega⟩
  have hr : r < 4096 := by omega
  have hkm : k ∈ [1, 2, 4, 6, 8, 10, 12] := by
    simp only [List.mem_cons, List.not_mem_nil, or_false]; omega
  have em : (k : Int) * 4096 + r = ((k * 4096 + r : Nat) : Int) := by omega
  rw [em]
  have hb : ∀ a : Nat, a < 4096 → ∀ c : Int, c = (a : Int) → (Builtin.bitAnd ((k * 4096 + r : Nat) : Int) c = c) = (r &&& a = a) := fun a ha c hc => by
    rw [hc, bitAnd_nat, and_low ha]
    exact propext ⟨fun q => by omega, fun q => by rw [q]⟩
  have hh : Builtin.bitAnd ((k * 4096 + r : Nat) : Int) 61440 = (k * 4096 : Nat) := by
    have e : (61440 : Int) = ((61440 : Nat) : Int) := rfl
    rw [e, bitAnd_nat]
    have := List.all_eq_true.mp (List.all_eq_true.mp and_high r (List.mem_range.mpr hr)) k hkm
    rw [eq_of_beq this]
  have it : ∀ (i : Int) (j : Nat), i = (j : Int) → j < 10 → Txt.item ⟨(fmL ((k * 4096 + r : Nat) : Int)).toArray⟩ i = ⟨#[chL ((k * 4096 + r : Nat) : Int) j]⟩ := fun i j e hj => by
    rw [e, item_sign (by rw [fmL_len]; exact hj)]
    congr 2
    unfold fmL
    simp [List.getD_eq_getElem?_getD, List.getElem?_map, List.getElem?_range hj]
  have k0 : Txt.find (Str.ofString "?pc?d?b?-?l?s") ⟨#[chL ((k * 4096 + r : Nat) : Int) 0]⟩ = k := by
    rw [chL_0, hh]
    clear hb hh it
    simp only [List.mem_cons, List.not_mem_nil, or_false] at hkm
    rcases hkm with rfl | rfl | rfl | rfl | rfl | rfl | rfl <;> decide +kernel
  have key := eq_of_beq (List.all_eq_true.mp rt_all r (List.mem_range.mpr hr))
  show rd3 _ = _
  unfold rd3 rd2 rd1 rd0 rdA rdT
  rw [if_pos (by decide), if_pos (by decide), if_neg (by decide)]
  rw [it 0 0 rfl (by decide), it (3 * ((0 : Nat) : Int) + 1) 1 rfl (by decide), it (3 * ((0 : Nat) : Int) + 2) 2 rfl (by decide), it (3 * ((0 : Nat) : Int) + 3) 3 rfl (by decide),
    it (3 * ((1 : Nat) : Int) + 1) 4 rfl (by decide), it (3 * ((1 : Nat) : Int) + 2) 5 rfl (by decide), it (3 * ((1 : Nat) : Int) + 3) 6 rfl (by decide),
    it (3 * ((2 : Nat) : Int) + 1) 7 rfl (by decide), it (3 * ((2 : Nat) : Int) + 2) 8 rfl (by decide), it (3 * ((2 : Nat) : Int) + 3) 9 rfl (by decide), k0]
  have c1 : Txt.find (Str.ofString "-r") ⟨#[chL ((k * 4096 + r : Nat) : Int) 1]⟩ = (bt r 256 : Nat) := by unfold chL bt; simp only [hb 256 (by decide) 256 rfl]; rw [find_r]; split <;> rfl
  have c2 : Txt.find (Str.ofString "-w") ⟨#[chL ((k * 4096 + r : Nat) : Int) 2]⟩ = (bt r 128 : Nat) := by unfold chL bt; simp only [hb 128 (by decide) 128 rfl]; rw [find_w]; split <;> rfl
  have c3 : Txt.find (Str.ofString "-xSs") ⟨#[chL ((k * 4096 + r : Nat) : Int) 3]⟩ = (tr3 r 2112 2048 64 : Nat) := by unfold chL tr3; simp only [hb 2112 (by decide) 2112 rfl, hb 2048 (by decide) 2048 rfl, hb 64 (by decide) 64 rfl]; rw [find_s]
  have c4 : Txt.find (Str.ofString "-r") ⟨#[chL ((k * 4096 + r : Nat) : Int) 4]⟩ = (bt r 32 : Nat) := by unfold chL bt; simp only [hb 32 (by decide) 32 rfl]; rw [find_r]; split <;> rfl
  have c5 : Txt.find (Str.ofString "-w") ⟨#[chL ((k * 4096 + r : Nat) : Int) 5]⟩ = (bt r 16 : Nat) := by unfold chL bt; simp only [hb 16 (by decide) 16 rfl]; rw [find_w]; split <;> rfl
  have c6 : Txt.find (Str.ofString "-xSs") ⟨#[chL ((k * 4096 + r : Nat) : Int) 6]⟩ = (tr3 r 1032 1024 8 : Nat) := by unfold chL tr3; simp only [hb 1032 (by decide) 1032 rfl, hb 1024 (by decide) 1024 rfl, hb 8 (by decide) 8 rfl]; rw [find_s]
  have c7 : Txt.find (Str.ofString "-r") ⟨#[chL ((k * 4096 + r : Nat) : Int) 7]⟩ = (bt r 4 : Nat) := by unfold chL bt; simp only [hb 4 (by decide) 4 rfl]; rw [find_r]; split <;> rfl
  have c8 : Txt.find (Str.ofString "-w") ⟨#[chL ((k * 4096 + r : Nat) : Int) 8]⟩ = (bt r 2 : Nat) := by unfold chL bt; simp only [hb 2 (by decide) 2 rfl]; rw [find_w]; split <;> rfl
  have c9 : Txt.find (Str.ofString "-xTt") ⟨#[chL ((k * 4096 + r : Nat) : Int) 9]⟩ = (tr3 r 513 512 1 : Nat) := by unfold chL tr3; simp only [hb 513 (by decide) 513 rfl, hb 512 (by decide) 512 rfl, hb 1 (by decide) 1 rfl]; rw [find_t]
  rw [c1, c2, c3, c4, c5, c6, c7, c8, c9]
  unfold rt at key
  generalize bt r 256 = x1 at *
  generalize bt r 128 = x2 at *
  generalize tr3 r 2112 2048 64 = x3 at *
  generalize bt r 32 = x4 at *
  generalize bt r 16 = x5 at *
  generalize tr3 r 1032 1024 8 = x6 at *
  generalize bt r 4 = x7 at *
  generalize bt r 2 = x8 at *
  generalize tr3 r 513 512 1 = x9 at *
  rw [Int.fmod_eq_emod_of_nonneg _ (by decide), Int.fmod_eq_emod_of_nonneg _ (by decide), Int.fmod_eq_emod_of_nonneg _ (by decide), Int.fdiv_eq_ediv_of_nonneg _ (by decide), Int.fdiv_eq_ediv_of_nonneg _ (by decide), Int.fdiv_eq_ediv_of_nonneg _ (by decide)]
  omega
end
section
theorem wd26x42 : True := by
  k_with_none
  k_with "omega" => (first | lia | omega (splitDisjunctions := true))
  k_with "om2" => (first | lia | omega (splitDisjunctions := true))
  k_with "eval Name" => ((k_here; (with_reducible show wpAny _ _ (eval _ (envOf _ _ _ _ _)) _ _ _); k_dflt (refine' nmL ?yF ?yv ?yx ?yk ?yd ?_; (case yF => k_asm); (case yk => exact rfl); (case yx => exact rfl); (case yd => exact rfl); (case yv => exact rfl); k_whole)))
  k_with "storeName" => ((k_here; (with_reducible show wpAny _ _ (storeName (envOf _ _ _ _ _) _ _) _ _ _); k_dflt (refine' stoLe ?yF ?yN ?yx ?yk ?_; (case yF => k_asm); (case yN => k_asm); (case yk => exact rfl); (case yx => exact rfl); k_whole; intro m'ω h'ω F'ω N'ω; (try k_sweep))))
  k_with "eval Name" => ((k_here; (with_reducible show wpAny _ _ (eval _ (envOfC _ _ _ _ _)) _ _ _); k_dflt (refine' nmLC ?yF ?yv ?yk ?yx ?yd ?_; (case yF => k_asm); (case yk => exact rfl); (case yx => exact rfl); (case yd => exact rfl); (case yv => exact rfl); k_whole)))
  k_with "storeName" => ((k_here; (with_reducible show wpAny _ _ (storeName (envOfC _ _ _ _ _) _ _) _ _ _); k_dflt (refine' stoLCe ?yF ?yN ?yk ?yx ?_; (case yF => k_asm); (case yN => k_asm); (case yk => exact rfl); (case yx => exact rfl); k_whole; intro m'ω h'ω F'ω N'ω; (try k_sweep))))
  k_with "execs cons" => ((k_here; (first | (with_reducible show wpAny _ _ (execs _ _) (AtF _) _ _) | (refine execs_abs ?_; intro Q8ω q8ω)); k_dflt (refine execs_gen ?_); intro Q7ω t7ω g7ω o7ω; (try dsimp only)))
  k_with "AtF" => ((with_reducible first | refine AtF.go (by assumption) ?_ | (refine AtF.out (by assumption) (fun z => Flow.noConfusion z) ?_) | (refine AtF.fin (by assumption) ?_; (try dsimp only))))
  k_with "room" => (k_dflt (first | exact rm2 (by assumption) rfl | exact rm1 (by assumption) rfl | exact rm3 (by assumption) rfl | exact rm4 (by assumption) rfl | exact rm0 (by assumption)))
  k_with "kne" => ((refine neN ?_; (try dsimp only); k_extra "ne"))
  k_with "cj" => (first | exact And.left | exact id | (refine cjs ?_; k_extra "cj"))
  k_with "ne" => (with_reducible first | assumption | exact lne (by assumption) | exact gne (by assumption) | exact sne (by assumption) | exact suc | exact suc2 | exact sne suc | exact sne suc2 | (refine ltc (by assumption) ?_; k_extra "cj") | (refine gtc (by assumption) ?_; k_extra "cj") | (refine nec (by assumption) ?_; k_extra "cj") | (refine nfc (by assumption) ?_; k_extra "cj"))
  k_with "call builtin:len" => ((k_here; (with_reducible show wpAny _ _ (call (Value.builtin "len") [Value.str _ _]) _ _ _); k_dflt (refine' len_text ?k1 ?_; (case k1 => omega); k_whole)))
  k_with "call builtin:str.join" => ((k_here; (with_reducible show wpAny _ _ (call (Value.builtin "str.join") [Value.str _ _, Value.ref _]) _ _ _); k_dflt (refine' join_texts ?k1 ?k2 ?k3 ?k4 ?_; (case k1 => k_asm); (case k2 => k_mem); (case k3 => assumption); (case k4 => first | assumption | omega); k_whole; intro t'ω k'ω)))
  k_with "exec For Name Name cons nil" => ((k_here; k_dflt (refine wpAny_For ?_)))
  k_with "call ref" => ((k_here; (with_reducible show wpAny _ _ (call (Value.ref 35) _) _ _ _); k_dflt (refine' c_check ?k1 ?k2 ?k3 ?k4 ?k5 ?k6 ?k7 ?_; (case k1 => refine' pushT ?p1 ?p2 ?p3 ?p4; (case p1 => k_asm); (case p2 => k_asm); (case p3 => exact rfl); (case p4 => exact rfl)); (case k2 => k_asm); (case k3 => k_asm); (case k4 => assumption); (case k5 => first | assumption | omega); (case k6 => ktr_room); (case k7 => ktr_units); k_whole; (intro s'ω hEω; have F9ω := back_fr (by k_asm) (by k_asm) hEω (fun _ hq => nomatch hq); have N9ω := back_news0 (by k_asm) hEω; (try k_sweep); (try dsimp only)))))
  k_with "mine os_go" => (first | exact rfl | assumption | (refine Eq.trans (Ext.os (by assumption)) ?_; (try dsimp only) <;> walk_at "mine os_go"))
  k_with "mine bare_go" => (first | assumption | (refine Ext.bare (by assumption) ?_; (try dsimp only); walk_at "mine bare_go"))
  k_with "binaryOp Add str str" => ((k_here; k_dflt (refine' add_text' ?k1 ?k2 ?k3 ?_; (case k1 => first | exact of40 | exact of41 | exact of34 | exact rfl); (case k2 => first | exact of40 | exact of41 | exact of34 | exact rfl); (case k3 => first | omega | (simp only [List.length_append, List.length_cons, List.length_nil, fmL_len]; omega)); k_whole; intro t'ω k'ω)))
  k_with "call ref" => ((k_here; (with_reducible show wpAny _ _ (call (Value.ref 165) _) _ _ _); k_dflt (refine' c_filemode ?k1 ?k2 ?k3 ?k4 ?k5 ?_; (case k1 => refine' pushT ?p1 ?p2 ?p3 ?p4; (case p1 => k_asm); (case p2 => k_asm); (case p3 => exact rfl); (case p4 => exact rfl)); (case k2 => k_asm); (case k3 => k_asm); (case k4 => ktr_room); (case k5 => ktr_units); k_whole; (intro s'ω t'ω hEω; have F9ω := back_fr (by k_asm) (by k_asm) hEω (fun _ hq => nomatch hq); have N9ω := back_news0 (by k_asm) hEω; (try k_sweep); (try dsimp only)))))
  k_with "binaryOp Add ref ref" => ((k_here; (with_reducible show wpAny _ _ (binaryOp _ (Value.ref _) (Value.ref _)) _ _ _); k_dflt (refine' add_vals ?F ?N ?a ?b ?z ?_; (case F => k_asm); (case N => k_asm); (case a => k_mem); (case b => k_mem); (case z => (simp only [List.length_append, List.length_cons, List.length_nil]; omega))); intro D'ω h'ω F'ω N'ω l1ω; (try k_lt l1ω); (try k_sweep)))
  k_with "newList" => ((k_here; k_dflt (refine' newList_K ?k1 ?k2 ?_; (case k1 => k_asm); (case k2 => k_asm); k_whole); intro l'ω h'ω F'ω N'ω l1ω; (try k_lt l1ω); (try k_sweep)))
  k_with "mine in_lst" => (first | exact .head _ | (refine .tail _ ?_; walk_at "mine in_lst"))
  trivial
local macro_rules | `(tactic| k_all) => `(tactic| exact offD_use (by assumption) (by walk_at "mine in_lst"))
local macro_rules | `(tactic| k_all) => `(tactic| (refine List.forall_mem_append.mpr ⟨?ka1, ?ka2⟩; (case ka1 => k_all); (case ka2 => k_all)))
theorem wd26x43 : True := by
  k_with "subscriptTail Name Name ref int" => ((k_here; k_dflt (refine' item_texti ?k1 ?k2 ?k3 ?k4 ?k5 ?k6 ?_; (case k1 => k_asm); (case k2 => k_mem); (case k3 => assumption); (case k4 => omega); (case k5 => omega); (case k6 => omega); intro t'ω)))
  k_with "subscriptTail Name Constant ref int" => ((k_here; k_dflt (refine' item_text0 ?k1 ?k2 ?k3 ?_; (case k1 => k_asm); (case k2 => k_mem); (case k3 => assumption); intro t'ω)))
  k_with "call builtin:len" => ((k_here; (with_reducible show wpAny _ _ (call (Value.builtin "len") [Value.ref _]) _ _ _); k_dflt (refine' len_vals ?k1 ?k2 ?k3 ?k4 ?_; (case k1 => k_asm); (case k2 => k_mem); (case k3 => assumption); (case k4 => omega); k_whole)))
  k_with "compareOp Eq ref ref" => ((k_here; (with_reducible show wpAny _ _ (compareOp CmpOp.Eq (Value.ref _) (Value.ref _)) _ _ _); k_dflt (refine' eq_nil_texts ?k1 ?k2 ?k3 ?k4 ?k5 ?k6 ?_; (case k1 => k_asm); (case k2 => k_mem); (case k3 => k_mem); (case k4 => assumption); (case k5 => assumption); (case k6 => ktr_units); k_whole)))
  k_with "call builtin:list.append" => ((k_here; (with_reducible show wpAny _ _ (call (Value.builtin _) [Value.ref _, Value.ref _]) _ _ _); k_dflt (refine' append_vals ?k1 ?k2 ?k3 ?k5 ?_; (case k1 => k_asm); (case k2 => k_asm); (case k3 => k_upd); (case k5 => omega); k_whole; (intro h'ω F'ω N'ω; (try k_sweep)))))
  trivial
theorem fo_while {prog : Program} {w : World} {A : Around} {E : Value → Shared → Prop} {env : Env} {test : Expr} {body orelse : List Stmt} {Q : Flow → Shared → Prop} (J : Fo → Shared → Prop)
    (step : ∀ f s, (∀ m c r, f = .cons m c r → ∀ s' k, J r s' → WhlRest prog w A E env test body orelse Q k s') → J f s → WhlRest prog w A E env test body orelse Q (0 + 1) s) :
    ∀ f s k, J f s → WhlRest prog w A E env test body orelse Q k s
  | .nil, s, _, h => step .nil s (fun _ _ _ e => nomatch e) h
  | .cons m c r, s, _, h => step (.cons m c r) s (fun m' c' r' e s' k h' => by cases e; exact fo_while J step r s' k h') h
structure IsTxt (x : Str) (c : List Nat) : Prop where
  eq : x = ⟨c.toArray⟩
structure Fct (P : Prop) : Prop where
  out : P
theorem c_readM {w : World} {mean : ExcName → Option Value} {mg mb : Str → Option Value} {dp un : Nat} {gd : Option (List Code)} {outer : List Env} {base : Heap} {s : Shared} {Q E : Value → Shared → Prop} {x : Str} {m : Int} {t : Tok} (B : Below (top dp un gd outer) base outer s.heap) (X : (Kt w.params).In base) (T : Top vw loo mean mg mb base) (hx : IsTxt x (fmL m)) (hm : OkM m) (hdp : dp + 4 < recursionLimit) (hun : un + 32 < cLine)
  (hret : ∀ h' tk' t', Ext [] s { s with heap := h', toks := tk' } → Q (.int m t') { s with heap := h', toks := tk' }) :
  wpAny (model PySem.Challenge.rw_om0101_01.row.prog w) (top dp un gd outer) (call (.ref 179) [.str x t]) Q E s := by
  obtain ⟨rfl⟩ := hx
  refine c_read B X T (by show (fmL m).toArray.size = 10; rw [List.size_toArray, fmL_len]) hdp hun ?_
  rw [rd_fm hm]; exact hret
theorem fsz_le : ∀ f : Fo, fsz f ≤ (flat f).length
  | .nil => Nat.le_refl _
  | .cons m c r => by
    have h1 := fsz_le c
    have h2 := fsz_le r
    simp only [fsz, flat, List.length_append, List.length_cons, List.length_nil, fmL_len]; omega
def ParsedC (f : Fo) : Prop := ∀ {w : World} {mean : ExcName → Option Value} {mg mb : Str → Option Value} {dp un : Nat} {gd : Option (List Code)} {outer : List Env} {base : Heap} {s : Shared} {Q E : Value → Shared → Prop} {t : Tok} (B : Below (top dp un gd outer) base outer s.heap) (X : (Kt w.params).In base) (T : Top vw loo mean mg mb base) (hok : OkF f) (hlen : (flat f).length < 900) (hdp : dp + fsz f + 12 < recursionLimit) (hun : un + 8 * fsz f + 96 < cLine)
  (hret : ∀ s' r vs' n' D, Ext [] s s' → s.heap.get? r = none → s'.heap.get? r = some (listOf vs'.toArray n') → Fresh s s' D → RepF D vs' f → vs'.length ≤ fsz f → Q (.ref r) s'),
  wpAny (model PySem.Challenge.rw_om0101_01.row.prog w) (top dp un gd outer) (call (.ref 219) [.str ⟨(flat f).toArray⟩ t]) Q E s
def ParsedBelow (f : Fo) : Prop := ∀ f', fsz f' < fsz f → ParsedC f'
theorem parsed_use {f f' : Fo} (hB : ParsedBelow f) {w : World} {mean : ExcName → Option Value} {mg mb : Str → Option Value} {dp un : Nat} {gd : Option (List Code)} {outer : List Env} {base : Heap} {s : Shared} {Q E : Value → Shared → Prop} {x : Str} {t : Tok} (B : Below (top dp un gd outer) base outer s.heap) (X : (Kt w.params).In base) (T : Top vw loo mean mg mb base) (hx : IsTxt x (flat f')) (hsz : fsz f' < fsz f) (hok : OkF f') (hlen : (flat f').length < 900) (hdp : dp + fsz f + 11 < recursionLimit) (hun : un + 8 * fsz f + 88 < cLine)
  (hret : ∀ s' r vs' n' D, Ext [] s s' → s.heap.get? r = none → s'.heap.get? r = some (listOf vs'.toArray n') → Fresh s s' D → RepF D vs' f' → vs'.length ≤ fsz f' → Q (.ref r) s') :
  wpAny (model PySem.Challenge.rw_om0101_01.row.prog w) (top dp un gd outer) (call (.ref 219) [.str x t]) Q E s := by
  obtain ⟨rfl⟩ := hx
  exact hB f' hsz B X T hok hlen (by omega) (by omega) hret
theorem wd26x44 : True := by
  k_with "eval ListComp" => ((k_here; k_dflt (refine listComp_stop (F₀ := by k_asm) (by with_unfolding_all rfl) (by decide) (by rfl) (by decide) (by rfl) ?_)))
  k_with "exec Assign cons ListComp" => ((k_here; k_dflt (refine assComp_stop (F₀ := by k_asm) (by rfl) (by with_unfolding_all rfl) (by with_unfolding_all rfl) (by decide) (by rfl) (by decide) (by rfl) (by rfl) (by rfl) ?_)))
  k_with "exec While Compare cons nil" => ((k_here; k_dflt (refine whl_stop ?_)))
  k_with "call ref" => ((k_here; (with_reducible show wpAny _ _ (call (Value.ref 42) _) _ _ _); k_dflt (refine' c_prep ?k1 ?k2 ?k3 ?k4 ?k5 ?k6 ?k7 ?k8 ?k9 ?_; (case k1 => refine' pushT ?p1 ?p2 ?p3 ?p4; (case p1 => k_asm); (case p2 => k_asm); (case p3 => exact rfl); (case p4 => exact rfl)); (case k2 => k_asm); (case k3 => k_asm); (case k4 => refine has_of (by k_asm) (by k_asm) rfl (List.forall_mem_singleton.mpr ?m); (case m => k_mem)); (case k5 => assumption); (case k6 => assumption); (case k7 => omega); (case k8 => ktr_room); (case k9 => ktr_units); k_whole; (intro s'ω r'ω vs'ω n'ω hEω hrω hgω htsω; have a9ω := allNe_of (by k_asm) hrω; have F9ω := back_fr (by k_asm) (by k_asm) hEω (fun _ hq => nomatch hq); have N9ω := news_cons (by k_asm) (back_news0 (by k_asm) hEω) hgω hrω; (try k_sweep); (try simp only [AllNe, and_true] at a9ω); (try dsimp only)))))
  k_with "call ref" => ((k_here; (with_reducible show wpAny _ _ (call (Value.ref 179) _) _ _ _); k_dflt (refine' c_readM ?k1 ?k2 ?k3 ?k4 ?k5 ?k6 ?k7 ?_; (case k1 => refine' pushT ?p1 ?p2 ?p3 ?p4; (case p1 => k_asm); (case p2 => k_asm); (case p3 => exact rfl); (case p4 => exact rfl)); (case k2 => k_asm); (case k3 => k_asm); (case k4 => assumption); (case k5 => assumption); (case k6 => ktr_room); (case k7 => ktr_units); k_whole; (intro h'ω tk'ω t'ω hEω; have F9ω := back_fr (by k_asm) (by k_asm) hEω (fun _ hq => nomatch hq); have N9ω := back_news0 (by k_asm) hEω; (try k_sweep); (try dsimp only)))))
  k_with "call ref" => ((k_here; (with_reducible show wpAny _ _ (call (Value.ref 219) _) _ _ _); k_dflt (refine' parsed_use ?k0 ?k1 ?k2 ?k3 ?k4 ?k5 ?k6 ?k7 ?k8 ?k9 ?_; (case k0 => assumption); (case k1 => refine' pushT ?p1 ?p2 ?p3 ?p4; (case p1 => k_asm); (case p2 => k_asm); (case p3 => exact rfl); (case p4 => exact rfl)); (case k2 => k_asm); (case k3 => k_asm); (case k4 => assumption); (case k5 => omega); (case k6 => assumption); (case k7 => omega); (case k8 => ktr_room); (case k9 => ktr_units); k_whole; (intro s'ω r'ω vs'ω n'ω D'ω hEω hrω hgω hDω hRω hvlω; have a9ω := allNe_of (by k_asm) hrω; have o9ω := offD_all (by k_asm) hDω; have F9ω := back_fr (by k_asm) (by k_asm) hEω (fun _ hq => nomatch hq); have N9ω := back_deep (by k_asm) (by k_asm) hEω hrω hgω hDω; (try k_sweep); (try simp only [AllNe, and_true] at a9ω); (try simp only [List.map_cons, List.map_append] at o9ω); (try simp only [List.cons_append, List.nil_append, List.append_assoc] at N9ω); (try dsimp only)))))
  trivial
theorem news7 {h₀ h : Heap} {L : Addr} {a1 a2 a3 a4 a5 a6 a7 t x y z : Addr × Obj} {rest : News'} (N : News h₀ L h (a1 :: a2 :: a3 :: a4 :: a5 :: a6 :: a7 :: t :: x :: y :: z :: rest)) : News h₀ L h (t :: x :: y :: z :: a1 :: rest) := fun p hp => N p (by
  simp only [List.mem_cons] at hp ⊢
  rcases hp with h | h | h | h | h | h <;> simp only [h, true_or, or_true])
inductive PJ2 (s : Shared) (g' : Heap) (L' tr : Addr) (f₀ : Fo) (f : Fo) (s₁ : Shared) : Prop
  | mk (m : Str → Option Value) (D : News') (ws : List Value) (n : Nat) (o1 o2 o3 : Obj) (t : Tok) (done : Fo) (v2 v3 : Option Value) (a1 : Fr g' L' s₁.heap m) (a2 : News g' L' s₁.heap ((tr, listOf ws.toArray n) :: (L' + 1 + 1 + 1, o3) :: (L' + 1 + 1, o2) :: (L' + 1, o1) :: D)) (a3 : m (Str.ofString "trees") = some (.ref tr))
    (a4 : o1.data = .cell (some (.str ⟨(flat f).toArray⟩ t))) (a5 : o2.data = .cell v2) (a6 : o3.data = .cell v3) (a7 : RepF D ws done) (a8 : f₀ = done.app f) (a9 : fsz f ≤ fsz f₀) (b1 : OkF f) (b2 : (flat f).length < 900) (b3 : ws.length + fsz f ≤ fsz f₀) (b4 : OffD D [tr, L' + 1 + 1 + 1, L' + 1 + 1, L' + 1])
    (b5 : AllBare s.gens → AllBare s₁.gens) (b6 : s₁.os = s.os) : PJ2 s g' L' tr f₀ f s₁
theorem parsed_step {f : Fo} (hB : ParsedBelow f) : ParsedC f := by
  intro w mean mg mb dp un gd outer base s Q E t B X T hok hlen hdp hun hret
  revert X; k_fill; intro X
  w_strict (
   (refine wpAny_call ?_; (k_dflt (refine' enterC ?k1 ?k2 ?k3 ?k4 ?k6 ?k7 ?k8 ?k9 ?kB ?kD ?_ ?c2 ?c3 ?c4; (case k1 => k_asm); (case k2 => k_asm); (case k3 => k_asm); (case k4 => first | k_asm | exact Has.nil); (case k6 => k_is); (case k7 => k_is); (case k8 => ktr_room); (case k9 => first | exact BindsTo.of_eq rfl | exact binds_K (X.keeps B.stays) rfl (by k_is) rfl rfl rfl | exact binds_K (by k_in) rfl (by k_is) rfl rfl rfl); (case kB => exact rfl); (case kD => decide +kernel); (case c2 => exact rfl); (case c3 => exact rfl); (case c4 => exact rfl); k_whole; intro g' L' h' tk' cells' FG' F' N' Y' B' X' T' l1; (try k_lt l1); k_cells Y'; (try simp only [List.cons_append, List.nil_append] at N'); (try dsimp only); (try k_lift B'); (try k_fold))))
   k_steps)
  rename Fr _ _ _ _ => F1
  rename News _ _ _ _ => N1
  obtain ⟨tr, htr⟩ := addr_of N1
  subst htr
  refine stop_of ?_
  refine fo_while (PJ2 s g' L' tr f) ?_ f _ _ ?_
  · intro fr s₁ ih hJ
    obtain ⟨m, D, ws, n, o1, o2, o3, t1, done, v2, v3, F3, N3, e1, d1, d2, d3, hR, hf, hfs, hok1, hlen1, hws, hO, hb1, ho1⟩ := hJ
    rw [form1 e1] at F3
    clear F1 N1
    obtain ⟨h4, gens4, dr4, tk4, os4⟩ := s₁
    dsimp only at F3 N3 hb1 ho1 ⊢
    have hff := fsz_le f
    refine whl_turnS ?_ ?_
    · passes_own
    k_steps
    cases fr with
    | nil =>
      refine WhlIf.no (by rw [of0]; simp [flat]) ?_
      k_steps
      try dsimp only
      have e : done.app .nil = done := fo_nil done
      refine hret _ _ _ _ D (ext_of FG' (by assumption) ho1 hb1) (fresh_of FG' N3 (.head _) (fun z => nomatch z)) (N3 _ (.head _)).1 (fun p hp => ?_) (by rw [hf, e]; exact hR) (by omega)
      have hp' : p ∈ ((tr, listOf ws.toArray n) :: (L' + 1 + 1 + 1, o3) :: (L' + 1 + 1, o2) :: (L' + 1, o1) :: D) := .tail _ (.tail _ (.tail _ (.tail _ hp)))
      exact ⟨fresh_of FG' N3 hp' (fun z => nomatch z), (N3 _ hp').1⟩
    | cons m c r =>
      refine WhlIf.yes (by rw [of0]; simp [flat]) ?_
      have hx1 : (⟨(flat (.cons m c r)).toArray⟩ : Str).cps.size < 1000000 := by show (flat (.cons m c r)).toArray.size < _; rw [List.size_toArray]; omega
      k_steps
      refine stop_of ?_
      rename IsRange _ _ _ _ _ _ _ _ => R1
      rename Fr _ _ _ _ => F5
      rename News _ _ _ _ => N5
      have hsz : (flat (.cons m c r)).toArray.size = (flat (.cons m c r)).length := by simp
      rw [hsz] at R1
      refine LCt.CompSrcT.range (n := (flat (.cons m c r)).length) rfl F5 N5 R1 (small_up (by omega)) (size_up _) (by rw [sizeLine_eq]; omega) ?_
      intro g5
      refine tt_rest (fun i => decide ((flat (.cons m c r)).getD i 0 = 41)) (fun i => (flat (.cons m c r)).take (i + 1)) ?_ ?_
      · intro i t5 I oI C oC Dx m₂ ys h5 tk5 E' hi hC hx F6 N6 off
        have hil : (⟨(flat (.cons m c r)).toArray⟩ : Str).length = (flat (.cons m c r)).length := by show (flat (.cons m c r)).toArray.size = _; simp
        k_steps
        · have q : (Txt.item ⟨(flat (.cons m c r)).toArray⟩ (i : Int) == Str.ofString ")") = true := by assumption
          rw [item_sign hi] at q
          refine ⟨_, _, _, rfl, by assumption, by assumption, off, trivial, rfl, decide_eq_true (is41 q), _, congrArg (fun z => Value.str z _) (strT ?_)⟩
          rw [show ((i : Int) + 1) = ((i + 1 : Nat) : Int) from by omega]
          rw [slice_b _ (i + 1) (by show i + 1 ≤ (flat (.cons m c r)).toArray.size; rw [hsz]; omega)]
        · have q : (Txt.item ⟨(flat (.cons m c r)).toArray⟩ (i : Int) == Str.ofString ")") = false := by assumption
          rw [item_sign hi] at q
          exact ⟨_, _, _, rfl, by assumption, by assumption, off, trivial, rfl, decide_eq_false (no41 q)⟩
      intro ys hts
      replace hts : TextsAre ys (startsL (flat (.cons m c r))) := hts
      have hsl := starts_len (flat (.cons m c r))
      have hpx : ∀ x ∈ startsL (flat (.cons m c r)), (∀ d ∈ x, d ≠ 92) ∧ x.length < 1000 := fun x hx => ⟨fun d hd => (flat_mem ((starts_mem hx).1 d hd)).1, by have := (starts_mem hx).2; omega⟩
      have hpn : (startsL (flat (.cons m c r))).length < 1000 := by omega
      obtain ⟨tl, htl⟩ := stays_head m c r
      have hk2 : ∀ x ∈ hdL m c :: tl, ∀ d ∈ x, d < 128 := fun x hx d hd => (flat_mem ((starts_mem (stays_mem (htl ▸ hx))).1 d hd)).2.2.2
      generalize hS : startsL (flat (.cons m c r)) = st at *
      unfold LCg.FinE
      intro D' h' tk' F' N' o1'
      simp only [LCg.Off1, and_true] at o1'
      clear F5 N5
      dsimp only at F' N' ⊢
      k_steps
      refine stop_of ?_
      rename IsRange _ _ _ _ _ _ _ _ => R2
      rename Fr _ _ _ _ => F7
      rename News _ _ _ _ => N7
      rename TextsAre _ (st.map valL) => hts2
      refine LCt.CompSrcT.range (n := st.length) rfl F7 N7 R2 (small_up (by omega)) (size_up _) (by rw [sizeLine_eq]; omega) ?_
      intro g6
      refine tt_rest (fun i => decide ((st.map valL).getD i [] = st.getD i [])) (fun i => st.getD i []) ?_ ?_
      · intro i t5 I oI C oC Dx m₂ ys h5 tk5 E' hi hC hx F6 N6 off
        have hml : (st.map valL).length = st.length := List.length_map _
        k_steps
        · rename ((_ : Str) == (_ : Str)) = true => q
          have q := str_eq q
          exact ⟨_, _, _, rfl, by assumption, by assumption, off, trivial, rfl, decide_eq_true (by simpa using q), _, rfl⟩
        · rename ((_ : Str) == (_ : Str)) = false => q
          have q := str_ne q
          exact ⟨_, _, _, rfl, by assumption, by assumption, off, trivial, rfl, decide_eq_false (by simpa using q)⟩
      intro ys2 hts3
      replace hts3 : TextsAre ys2 (hdL m c :: tl) := by
        rw [← htl]; unfold staysL; rw [hS]; exact hts3
      have h11 : IsTxt (Txt.slice ⟨(hdL m c).toArray⟩ (some 1) (some 11)) (fmL m) := ⟨hd_slice1 m c⟩
      have hch : IsTxt (Txt.slice ⟨(hdL m c).toArray⟩ (some 11) (some (-1))) (flat c) := ⟨hd_slice2 m c⟩
      have hkc : OkF c := hok1.2.1
      have hkm : OkM m := hok1.1
      have hlc : (flat c).length < 900 := by
        have hfl : (flat (.cons m c r)).length = (hdL m c).length + (flat r).length := List.length_append
        have hhl := hdL_len m c
        omega
      have hx3 : (⟨(hdL m c).toArray⟩ : Str).cps.size < 1000000 := by
        have hfl : (flat (.cons m c r)).length = (hdL m c).length + (flat r).length := List.length_append
        show (hdL m c).toArray.size < _; rw [List.size_toArray]; omega
      have hfz : fsz c < fsz f := by
        have : fsz (.cons m c r) = fsz c + fsz r + 1 := rfl
        omega
      have hfc := fsz_le c
      replace hf := Fct.mk hf
      clear htl hsz hS
      unfold LCg.FinA
      intro D' h' tk' F' N' o1'
      simp only [LCg.Off1, and_true] at o1'
      clear F7 N7
      dsimp only at F' N' ⊢
      k_steps
      refine stop_of ?_
      dsimp only [WhlPost]
      refine ih m c r rfl _ _ ?_
      rename News _ _ _ _ => N9
      rename Fr _ _ _ _ => F9
      rename RepF _ _ c => R2
      rename Obj.data _ = Data.cell (some (Value.str (Txt.slice _ _ none) _)) => d9
      rw [show Txt.slice ⟨(flat (.cons m c r)).toArray⟩ (some ((⟨(hdL m c).toArray⟩ : Str).cps.size : Int)) none = _ from fl_slice m c r] at d9
      have N8 := news7 N9
      have hfz3 : fsz (.cons m c r) = fsz c + fsz r + 1 := rfl
      have hfl3 : (flat (.cons m c r)).length = (hdL m c).length + (flat r).length := List.length_append
      refine ⟨_, _, _, _, _, _, _, _, done.app (.cons m c .nil), _, _, F9, N8, rfl, d9, by assumption, by assumption, RepF.app (RepF.mono (fun p hp => .tail _ (List.mem_append_left _ hp)) hR) (.cons (.head _) (RepF.mono (fun p hp => .tail _ (List.mem_append_right _ hp)) R2) .nil), ?_, by omega, hok1.2.2, by omega, ?_, ?_, ?_, ?_⟩
      · rw [hf.out, fo_assoc]; rfl
      · simp only [List.length_append, List.length_cons, List.length_nil]; omega
      · intro p hp
        rcases List.mem_cons.mp hp with rfl | hp
        · intro q
          simp only [List.mem_cons, List.not_mem_nil, or_false] at q
          have q' : (_ : Nat) = _ ∨ (_ : Nat) = _ ∨ (_ : Nat) = _ ∨ (_ : Nat) = _ := q
          omega
        · rcases List.mem_append.mp hp with hp | hp
          · exact hO p hp
          · intro q
            refine (show OffD _ _ by assumption) p hp ?_
            simp only [List.mem_cons, List.not_mem_nil, or_false] at q ⊢
            rcases q with q | q | q | q <;> simp only [q, true_or, or_true]
      · intro y
        have y' := hb1 y
        try dsimp only
        (walk_at "mine bare_go")
      · ((try dsimp only) <;> (walk_at "mine os_go"))
  · exact ⟨_, [], [], 0, _, _, _, _, .nil, _, _, F1, N1, rfl, by assumption, by assumption, by assumption, .nil, rfl, Nat.le_refl _, hok, hlen, Nat.le_of_eq (Nat.zero_add _), (fun _ z => nomatch z), id, rfl⟩
theorem parsed_all (f : Fo) : ParsedC f := by
  have key : ∀ n f, fsz f < n → ParsedC f := by
    intro n
    induction n with
    | zero => intro f h; exact absurd h (Nat.not_lt_zero _)
    | succ n ih => intro f h; exact @parsed_step f fun f' h' => @ih f' (by omega)
  exact @key _ f (Nat.lt_succ_self _)
end
section
theorem wd27x45 : True := by
  k_with_none
  k_with "omega" => (omega (splitDisjunctions := true))
  k_with "om2" => (first | lia | omega (splitDisjunctions := true))
  k_with "eval Name" => ((k_here; (with_reducible show wpAny _ _ (eval _ (envOf _ _ _ _ _)) _ _ _); k_dflt (refine' nmL ?yF ?yv ?yx ?yk ?yd ?_; (case yF => k_asm); (case yk => exact rfl); (case yx => exact rfl); (case yd => exact rfl); (case yv => exact rfl); k_whole)))
  k_with "storeName" => ((k_here; (with_reducible show wpAny _ _ (storeName (envOf _ _ _ _ _) _ _) _ _ _); k_dflt (refine' stoLe ?yF ?yN ?yx ?yk ?_; (case yF => k_asm); (case yN => k_asm); (case yk => exact rfl); (case yx => exact rfl); k_whole; intro m'ω h'ω F'ω N'ω; (try k_sweep))))
  k_with "eval Name" => ((k_here; (with_reducible show wpAny _ _ (eval _ (envOfC _ _ _ _ _)) _ _ _); k_dflt (refine' nmLC ?yF ?yv ?yk ?yx ?yd ?_; (case yF => k_asm); (case yk => exact rfl); (case yx => exact rfl); (case yd => exact rfl); (case yv => exact rfl); k_whole)))
  k_with "storeName" => ((k_here; (with_reducible show wpAny _ _ (storeName (envOfC _ _ _ _ _) _ _) _ _ _); k_dflt (refine' stoLCe ?yF ?yN ?yk ?yx ?_; (case yF => k_asm); (case yN => k_asm); (case yk => exact rfl); (case yx => exact rfl); k_whole; intro m'ω h'ω F'ω N'ω; (try k_sweep))))
  k_with "execs cons" => ((k_here; (first | (with_reducible show wpAny _ _ (execs _ _) (AtF _) _ _) | (refine execs_abs ?_; intro Q8ω q8ω)); k_dflt (refine execs_gen ?_); intro Q7ω t7ω g7ω o7ω; (try dsimp only)))
  k_with "AtF" => ((with_reducible first | refine AtF.go (by assumption) ?_ | (refine AtF.out (by assumption) (fun z => Flow.noConfusion z) ?_) | (refine AtF.fin (by assumption) ?_; (try dsimp only))))
  k_with "room" => (k_dflt (first | exact rm2 (by assumption) rfl | exact rm1 (by assumption) rfl | exact rm3 (by assumption) rfl | exact rm4 (by assumption) rfl | exact rm0 (by assumption)))
  k_with "kne" => ((refine neN ?_; (try dsimp only); k_extra "ne"))
  k_with "cj" => (first | exact And.left | exact id | (refine cjs ?_; k_extra "cj"))
  k_with "ne" => (with_reducible first | assumption | exact lne (by assumption) | exact gne (by assumption) | exact sne (by assumption) | exact suc | exact suc2 | exact sne suc | exact sne suc2 | (refine ltc (by assumption) ?_; k_extra "cj") | (refine gtc (by assumption) ?_; k_extra "cj") | (refine nec (by assumption) ?_; k_extra "cj") | (refine nfc (by assumption) ?_; k_extra "cj"))
  k_with "truthy ref" => ((k_here; (with_reducible show wpAny _ _ (truthy (Value.ref _)) _ _ _); k_dflt (refine' truthy_ints ?k1 ?k2 ?k3 ?k4 ?_; (case k1 => k_asm); (case k2 => k_mem); (case k3 => l_ints); (case k4 => first | omega | (simp only [List.length_set, List.length_dropLast, List.length_append, List.length_cons, List.length_nil]; omega)); k_whole)))
  k_with "call ref" => ((k_here; (with_reducible show wpAny _ _ (call (Value.ref 98) _) _ _ _); k_dflt (refine' c_siftup ?k1 ?k2 ?k3 ?k4 ?k5 ?k6 ?k7 ?k8 ?k9 ?_; (case k1 => refine' pushT ?p1 ?p2 ?p3 ?p4; (case p1 => k_asm); (case p2 => k_asm); (case p3 => exact rfl); (case p4 => exact rfl)); (case k2 => k_asm); (case k3 => k_asm); (case k4 => refine has_of (by k_asm) (by k_asm) rfl (List.forall_mem_singleton.mpr ?m); (case m => k_mem)); (case k5 => l_ints); (case k6 => first | omega | (simp only [List.length_set, List.length_dropLast]; omega)); (case k7 => first | omega | (simp only [List.length_set, List.length_dropLast]; omega)); (case k8 => ktr_room); (case k9 => ktr_units); k_whole; (intro s'ω vs'ω n'ω hEω hgω hi'ω; have F9ω := back_fr (by k_asm) (by k_asm) hEω (List.forall_mem_singleton.mpr ⟨_, by k_mem⟩); have N9ω := back_news1 (by k_asm) hEω (by k_upd) hgω; (try k_sweep); (try dsimp only)))))
  trivial
def ExtF (fs : List Addr) (s s' : Shared) : Prop := (∀ b o, b ∉ fs → s.heap.get? b = some o → s'.heap.get? b = some o) ∧ (∀ b o, b ∈ fs → s.heap.get? b = some o → ∃ sl, s'.heap.get? b = some { o with slots := sl }) ∧ s'.os = s.os ∧ (AllBare s.gens → AllBare s'.gens)
theorem eq_nils {prog : Program} {w : World} {A : Around} {E : Value → Shared → Prop} {s : Shared} {h₀ : Heap} {L a b : Addr} {news : List (Addr × Obj)} {Q : Value → Shared → Prop} {n k : Nat} (N : News h₀ L s.heap news) (hm : (a, listOf #[] n) ∈ news) (hb : (b, listOf #[] k) ∈ news) (hu : A.units + 64 < cLine) (h : Q (.bool true) s) : wpAny (model prog w) A (compareOp .Eq (.ref a) (.ref b)) Q E s := by
  refine ke_eq_ints (xs := []) (ys := []) (ns := []) (ms := []) ⟨_, (N _ hm).1, rfl, n, rfl⟩ ⟨_, (N _ hb).1, rfl, k, rfl⟩ .nil .nil hu ?_
  exact h
theorem wd27x46 : True := by
  k_with "compareOp Eq ref ref" => ((k_here; (with_reducible show wpAny _ _ (compareOp CmpOp.Eq (Value.ref _) (Value.ref _)) _ _ _); k_dflt (refine' eq_nils ?k1 ?k2 ?k3 ?k6 ?_; (case k1 => k_asm); (case k2 => k_mem); (case k3 => k_mem); (case k6 => first | ktr_units | (have hcL9ω := cLine_is; show _ + 3 + 64 < cLine; omega)); k_whole)))
  trivial
local macro_rules | `(tactic| k_room) => `(tactic| ktr_room)
theorem dicts_in {s : Shared} {g base : Heap} {outer : List Env} {l : Addr} {o : Obj} (FG : ∀ b o', b ∉ List.map (·.1) [(l, o)] → s.heap.get? b = some o' → g.get? b = some o') (H : Has base outer s.heap [(l, o)]) (D : KtsDicts (outer.filterMap (·.frame)) s.heap) : KtsDicts (outer.filterMap (·.frame)) g := by
  intro b hb
  obtain ⟨o', es, n, e, hd⟩ := D b hb
  refine ⟨o', es, n, FG _ _ ?_ e, hd⟩
  simp only [List.map_cons, List.map_nil, List.mem_singleton]
  rintro rfl
  obtain ⟨env, he, hf⟩ := List.mem_filterMap.mp hb
  exact (H _ (.head _)).2.2 env he hf
theorem extF_of {s s' : Shared} {g g₂ base : Heap} {outer : List Env} {L l : Addr} {o : Obj} {m : Str → Option Value} {news : List (Addr × Obj)} (FG : ∀ b o', b ∉ List.map (·.1) [(l, o)] → s.heap.get? b = some o' → g.get? b = some o') (H : Has base outer s.heap [(l, o)])
    (K : KtsTurn (outer.filterMap (·.frame)) g g₂) (F : Fr g₂ L s'.heap m) (N : News g₂ L s'.heap news) (hm : (l, o) ∈ news) (hos : s'.os = s.os) (hb : AllBare s.gens → AllBare s'.gens) : ExtF (outer.filterMap (·.frame)) s s' := by
  refine ⟨fun b o' hf e => ?_, fun b o' hf e => ?_, hos, hb⟩
  · by_cases q : b = l
    · subst q
      rw [(H _ (.head _)).1] at e
      rw [← Option.some.inj e]; exact (N _ hm).1
    · exact F.keep _ _ (K.other _ _ (FG b o' (by simpa using q) e) hf)
  · have q : ¬ b = l := by
      rintro rfl
      obtain ⟨env, he, hf⟩ := List.mem_filterMap.mp hf
      exact (H _ (.head _)).2.2 env he hf
    obtain ⟨sl, h⟩ := K.frame _ _ (FG b o' (by simpa using q) e) hf
    exact ⟨sl, F.keep _ _ h⟩
theorem c_refused2 {w : World} {mean : ExcName → Option Value} {mg mb : Str → Option Value} {dp un : Nat} {gd : Option (List Code)} {outer : List Env} {base : Heap} {s : Shared} {Q E : Value → Shared → Prop} {l : Addr} {n : Nat} {x : Int} {t t0 : Tok} (B : Below (top dp un gd outer) base outer s.heap) (X : (Kt w.params).In base) (T : Top vw loo mean mg mb base) (H : Has base outer s.heap [(l, listOf #[] n)]) (D : KtsDicts (outer.filterMap (·.frame)) s.heap) (hdp : dp + 6 < recursionLimit) (hun : un + 160 < cLine)
  (hret : ∀ s', ExtF (outer.filterMap (·.frame)) s s' → Q (.bool true) s') :
  wpAny (model PySem.Challenge.rw_om0101_01.row.prog w) (top dp un gd outer) (call (.ref 193) [.int 2 t0, .ref l, .int x t]) Q E s := by
  revert X; k_fill; intro X
  w_strict (
   (refine wpAny_call ?_; (k_dflt (refine' enterN ?k1 ?k2 ?k3 ?k4 ?k6 ?k7 ?k8 ?k9 ?kB ?_ ?c2 ?c3 ?c4 ?c5; (case k1 => k_asm); (case k2 => k_asm); (case k3 => k_asm); (case k4 => first | k_asm | exact Has.nil); (case k6 => k_is); (case k7 => k_is); (case k8 => ktr_room); (case k9 => exact BindsTo.of_eq rfl); (case c5 => decide); (case kB => exact locs rfl); (case c2 => exact rfl); (case c3 => exact rfl); (case c4 => exact rfl); k_whole; intro g' L' h' Q9 t9 q9 FG' F' N' B' X' T' l1; (try k_lt l1); (try dsimp only); (try k_lift B'); (try k_fold)))))
  have D' := dicts_in FG' H D
  k_steps
  exact hret _ (extF_of FG' H (by assumption) (by assumption) (by assumption) (.tail _ (.head _)) (by exact rfl) (by exact id))
theorem pop_out {prog : Program} {w : World} {A : Around} {E : Value → Shared → Prop} {s : Shared} {h₀ : Heap} {L l : Addr} {news : List (Addr × Obj)} {Q : Value → Shared → Prop} {n : Nat} (hA : A.handled = none) (N : News h₀ L s.heap news) (hm : (l, listOf #[] n) ∈ news)
    (hE : ∀ h' tk e, Heap.NewExc s.heap h' e "IndexError" → E (.ref e) { s with heap := h', toks := tk }) : wpAny (model prog w) A (call (.builtin "list.pop") [.ref l]) Q E s :=
  call_meets PySem.F.slot_list_pop ⟨_, (N _ hm).1, rfl⟩ PySem.F.entry_list_pop (PySem.F.args_list_pop_1 _) (PySem.AutoSeq1.list_pop_list_0 l #[] n rfl) ⟨(N _ hm).1, hA, hE⟩
theorem wd27x47 : True := by
  k_with "call builtin:list.pop" => ((k_here; (try dsimp only); (with_reducible show wpAny _ _ (call (Value.builtin "list.pop") [Value.ref _]) _ _ _); k_dflt (refine' pop_out ?k0 ?k1 ?k2 ?_; (case k0 => rfl); (case k1 => k_asm); (case k2 => k_mem); k_whole); intro h'ω tk'ω e'ω x'ω))
  trivial
theorem c_refused4 {w : World} {mean : ExcName → Option Value} {mg mb : Str → Option Value} {dp un : Nat} {gd : Option (List Code)} {outer : List Env} {base : Heap} {s : Shared} {Q E : Value → Shared → Prop} {l : Addr} {n : Nat} {x : Int} {t t0 : Tok} (B : Below (top dp un gd outer) base outer s.heap) (X : (Kt w.params).In base) (T : Top vw loo mean mg mb base) (H : Has base outer s.heap [(l, listOf #[] n)]) (D : KtsDicts (outer.filterMap (·.frame)) s.heap) (hdp : dp + 6 < recursionLimit) (hun : un + 160 < cLine)
  (hret : ∀ s', ExtF (outer.filterMap (·.frame)) s s' → Q (.bool true) s') :
  wpAny (model PySem.Challenge.rw_om0101_01.row.prog w) (top dp un gd outer) (call (.ref 193) [.int 4 t0, .ref l, .int x t]) Q E s := by
  revert X; k_fill; intro X
  w_strict (
   (refine wpAny_call ?_; (k_dflt (refine' enterN ?k1 ?k2 ?k3 ?k4 ?k6 ?k7 ?k8 ?k9 ?kB ?_ ?c2 ?c3 ?c4 ?c5; (case k1 => k_asm); (case k2 => k_asm); (case k3 => k_asm); (case k4 => first | k_asm | exact Has.nil); (case k6 => k_is); (case k7 => k_is); (case k8 => ktr_room); (case k9 => exact BindsTo.of_eq rfl); (case c5 => decide); (case kB => exact locs rfl); (case c2 => exact rfl); (case c3 => exact rfl); (case c4 => exact rfl); k_whole; intro g' L' h' Q9 t9 q9 FG' F' N' B' X' T' l1; (try k_lt l1); (try dsimp only); (try k_lift B'); (try k_fold)))))
  have D' := dicts_in FG' H D
  k_steps
  exact hret _ (extF_of FG' H (by assumption) (by assumption) (by assumption) (.tail _ (.head _)) (by exact rfl) (by exact id))
end
section
theorem wd28x48 : True := by
  k_with_none
  k_with "omega" => (first | lia | omega (splitDisjunctions := true))
  k_with "om2" => (first | lia | omega (splitDisjunctions := true))
  k_with "eval Name" => ((k_here; (with_reducible show wpAny _ _ (eval _ (envOf _ _ _ _ _)) _ _ _); k_dflt (refine' nmL ?yF ?yv ?yx ?yk ?yd ?_; (case yF => k_asm); (case yk => exact rfl); (case yx => exact rfl); (case yd => exact rfl); (case yv => exact rfl); k_whole)))
  k_with "storeName" => ((k_here; (with_reducible show wpAny _ _ (storeName (envOf _ _ _ _ _) _ _) _ _ _); k_dflt (refine' stoLe ?yF ?yN ?yx ?yk ?_; (case yF => k_asm); (case yN => k_asm); (case yk => exact rfl); (case yx => exact rfl); k_whole; intro m'ω h'ω F'ω N'ω; (try k_sweep))))
  k_with "eval Name" => ((k_here; (with_reducible show wpAny _ _ (eval _ (envOfC _ _ _ _ _)) _ _ _); k_dflt (refine' nmLC ?yF ?yv ?yk ?yx ?yd ?_; (case yF => k_asm); (case yk => exact rfl); (case yx => exact rfl); (case yd => exact rfl); (case yv => exact rfl); k_whole)))
  k_with "storeName" => ((k_here; (with_reducible show wpAny _ _ (storeName (envOfC _ _ _ _ _) _ _) _ _ _); k_dflt (refine' stoLCe ?yF ?yN ?yk ?yx ?_; (case yF => k_asm); (case yN => k_asm); (case yk => exact rfl); (case yx => exact rfl); k_whole; intro m'ω h'ω F'ω N'ω; (try k_sweep))))
  k_with "execs cons" => ((k_here; (first | (with_reducible show wpAny _ _ (execs _ _) (AtF _) _ _) | (refine execs_abs ?_; intro Q8ω q8ω)); k_dflt (refine execs_gen ?_); intro Q7ω t7ω g7ω o7ω; (try dsimp only)))
  k_with "AtF" => ((with_reducible first | refine AtF.go (by assumption) ?_ | (refine AtF.out (by assumption) (fun z => Flow.noConfusion z) ?_) | (refine AtF.fin (by assumption) ?_; (try dsimp only))))
  k_with "room" => (k_dflt (first | exact rm2 (by assumption) rfl | exact rm1 (by assumption) rfl | exact rm3 (by assumption) rfl | exact rm4 (by assumption) rfl | exact rm0 (by assumption)))
  k_with "kne" => ((refine neN ?_; (try dsimp only); k_extra "ne"))
  k_with "cj" => (first | exact And.left | exact id | (refine cjs ?_; k_extra "cj"))
  k_with "ne" => (with_reducible first | assumption | exact lne (by assumption) | exact gne (by assumption) | exact sne (by assumption) | exact suc | exact suc2 | exact sne suc | exact sne suc2 | (refine ltc (by assumption) ?_; k_extra "cj") | (refine gtc (by assumption) ?_; k_extra "cj") | (refine nec (by assumption) ?_; k_extra "cj") | (refine nfc (by assumption) ?_; k_extra "cj"))
  trivial
def HOK (l : List Int) : Prop := ∀ i, i < l.length → 0 < i → l.getD ((i - 1) / 2) 0 ≤ l.getD i 0
theorem hok1 (a : Int) : HOK [a] := fun i h0 h1 => by simp at h0; omega
theorem hok2 {a b : Int} : HOK [a, b] ↔ a ≤ b := by
  constructor
  · intro h; exact h 1 (by simp) (by simp)
  · intro h i h0 h1
    obtain rfl : i = 1 := by simp at h0; omega
    exact h
theorem hok3 {a b c : Int} : HOK [a, b, c] ↔ a ≤ b ∧ a ≤ c := by
  constructor
  · intro h; exact ⟨h 1 (by simp) (by simp), h 2 (by simp) (by simp)⟩
  · intro h i h0 h1
    obtain rfl | rfl : i = 1 ∨ i = 2 := by simp at h0; omega
    · exact h.1
    · exact h.2
theorem su1 (x : Int) : suF [x] = [x] := by
  unfold suF
  rw [suL_eq, if_neg (by simp)]
  simp [sd0]
theorem su2 (x b : Int) : suF [x, b] = if x < b then [x, b] else [b, x] := by
  unfold suF
  rw [suL_eq, if_pos (by simp), if_neg (by simp), suL_eq, if_neg (by simp)]
  simp [sd0, sd1]
theorem su3 (x b c : Int) : suF [x, b, c] = if b < c then (if x < b then [x, b, c] else [b, x, c]) else (if x < c then [x, b, c] else [c, b, x]) := by
  unfold suF
  by_cases h : b < c
  · rw [suL_eq, if_pos (by simp), if_neg (by simp [h]), suL_eq, if_neg (by simp), if_pos h]
    simp [sd0, sd1]
  · rw [suL_eq, if_pos (by simp), if_pos (by simpa using h), suL_eq, if_neg (by simp), if_neg h]
    simp [sd0, sd1]
theorem hok4 {a b c d : Int} : HOK [a, b, c, d] ↔ a ≤ b ∧ a ≤ c ∧ b ≤ d := by
  constructor
  · intro h; exact ⟨h 1 (by simp) (by simp), h 2 (by simp) (by simp), h 3 (by simp) (by simp)⟩
  · intro h i h0 h1
    obtain rfl | rfl | rfl : i = 1 ∨ i = 2 ∨ i = 3 := by simp at h0; omega
    · exact h.1
    · exact h.2.1
    · exact h.2.2
theorem hok5 {a b c d e : Int} : HOK [a, b, c, d, e] ↔ a ≤ b ∧ a ≤ c ∧ b ≤ d ∧ b ≤ e := by
  constructor
  · intro h; exact ⟨h 1 (by simp) (by simp), h 2 (by simp) (by simp), h 3 (by simp) (by simp), h 4 (by simp) (by simp)⟩
  · intro h i h0 h1
    obtain rfl | rfl | rfl | rfl : i = 1 ∨ i = 2 ∨ i = 3 ∨ i = 4 := by simp at h0; omega
    · exact h.1
    · exact h.2.1
    · exact h.2.2.1
    · exact h.2.2.2
theorem push_ok (x : Int) : ∀ (hp : List Int), hp.length ≤ 4 → HOK hp → HOK (sdL x (hp ++ [x]) hp.length) ∧ (sdL x (hp ++ [x]) hp.length).Perm (hp ++ [x])
  | [], _, _ => by
    have e : sdL x (([] : List Int) ++ [x]) ([] : List Int).length = [x] := by simp [sd0]
    rw [e]; exact ⟨hok1 x, .refl _⟩
  | [a], _, _ => by
    have e : sdL x ([a] ++ [x]) [a].length = if x < a then [x, a] else [a, x] := by simp [sd0, sd1]
    rw [e]
    split
    · exact ⟨hok2.mpr (by omega), by show List.Perm [x, a] [a, x]; (rw [List.perm_iff_count]; intro z; simp only [List.count_cons, List.count_nil]; ac_rfl)⟩
    · exact ⟨hok2.mpr (by omega), .refl _⟩
  | [a, b], _, h => by
    have h := hok2.mp h
    have e : sdL x ([a, b] ++ [x]) [a, b].length = if x < a then [x, b, a] else [a, b, x] := by simp [sd0, sd1]
    rw [e]
    split
    · exact ⟨hok3.mpr (by omega), by show List.Perm [x, b, a] [a, b, x]; (rw [List.perm_iff_count]; intro z; simp only [List.count_cons, List.count_nil]; ac_rfl)⟩
    · exact ⟨hok3.mpr (by omega), .refl _⟩
  | [a, b, c], _, h => by
    have h := hok3.mp h
    have e : sdL x ([a, b, c] ++ [x]) [a, b, c].length = if x < b then (if x < a then [x, a, c, b] else [a, x, c, b]) else [a, b, c, x] := by simp [sd0, sd1]
    rw [e]
    split
    · split
      · exact ⟨hok4.mpr (by omega), by show List.Perm [x, a, c, b] [a, b, c, x]; (rw [List.perm_iff_count]; intro z; simp only [List.count_cons, List.count_nil]; ac_rfl)⟩
      · exact ⟨hok4.mpr (by omega), by show List.Perm [a, x, c, b] [a, b, c, x]; (rw [List.perm_iff_count]; intro z; simp only [List.count_cons, List.count_nil]; ac_rfl)⟩
    · exact ⟨hok4.mpr (by omega), .refl _⟩
  | [a, b, c, d], _, h => by
    have h := hok4.mp h
    have e : sdL x ([a, b, c, d] ++ [x]) [a, b, c, d].length = if x < b then (if x < a then [x, a, c, d, b] else [a, x, c, d, b]) else [a, b, c, d, x] := by simp [sd0, sd1]
    rw [e]
    split
    · split
      · exact ⟨hok5.mpr (by omega), by show List.Perm [x, a, c, d, b] [a, b, c, d, x]; (rw [List.perm_iff_count]; intro z; simp only [List.count_cons, List.count_nil]; ac_rfl)⟩
      · exact ⟨hok5.mpr (by omega), by show List.Perm [a, x, c, d, b] [a, b, c, d, x]; (rw [List.perm_iff_count]; intro z; simp only [List.count_cons, List.count_nil]; ac_rfl)⟩
    · exact ⟨hok5.mpr (by omega), .refl _⟩
  | _ :: _ :: _ :: _ :: _ :: _, h, _ => by simp at h
theorem su_ok (x : Int) : ∀ (t : List Int), t.length ≤ 2 → HOK (suF (x :: t)) ∧ (suF (x :: t)).Perm (x :: t)
  | [], _ => by rw [su1]; exact ⟨hok1 x, .refl _⟩
  | [b], _ => by
    rw [su2]
    split
    · exact ⟨hok2.mpr (by omega), .refl _⟩
    · exact ⟨hok2.mpr (by omega), by (rw [List.perm_iff_count]; intro z; simp only [List.count_cons, List.count_nil]; ac_rfl)⟩
  | [b, c], _ => by
    rw [su3]
    split
    · split
      · exact ⟨hok3.mpr (by omega), .refl _⟩
      · exact ⟨hok3.mpr (by omega), by (rw [List.perm_iff_count]; intro z; simp only [List.count_cons, List.count_nil]; ac_rfl)⟩
    · split
      · exact ⟨hok3.mpr (by omega), .refl _⟩
      · exact ⟨hok3.mpr (by omega), by (rw [List.perm_iff_count]; intro z; simp only [List.count_cons, List.count_nil]; ac_rfl)⟩
  | _ :: _ :: _ :: _, h => by simp at h
theorem root_le {l : List Int} (h : HOK l) : ∀ i, i < l.length → l.getD 0 0 ≤ l.getD i 0 := by
  intro i
  induction i using Nat.strongRecOn with
  | ind i ih =>
    intro hi
    cases i with
    | zero => exact Int.le_refl _
    | succ i => exact Int.le_trans (ih ((i + 1 - 1) / 2) (by omega) (by omega)) (h (i + 1) hi (by omega))
structure Inv (hp row : List Int) : Prop where
  ok : HOK hp
  perm : hp.Perm row
  srt : row.Pairwise (· ≤ ·)
theorem Inv.len {hp row : List Int} (I : Inv hp row) : hp.length = row.length := I.perm.length_eq
theorem Inv.head {a : Int} {t row : List Int} (I : Inv (a :: t) row) : ∃ rt, row = a :: rt ∧ t.Perm rt := by
  cases row with
  | nil => exact absurd I.len (by simp)
  | cons b rt =>
    have h1 : a ≤ b := by
      have hb : b ∈ a :: t := I.perm.symm.subset (.head _)
      obtain ⟨i, hi, e⟩ := List.getElem_of_mem hb
      have := root_le I.ok i hi
      rw [List.getD_eq_getElem?_getD, List.getD_eq_getElem?_getD, List.getElem?_eq_getElem hi, e] at this
      exact this
    have h2 : b ≤ a := by
      have ha : a ∈ b :: rt := I.perm.subset (.head _)
      rcases List.mem_cons.mp ha with rfl | ha
      · exact Int.le_refl _
      · exact (List.pairwise_cons.mp I.srt).1 a ha
    obtain rfl : a = b := by omega
    exact ⟨rt, rfl, List.Perm.cons_inv I.perm⟩
theorem perm_srt {l r : List Int} (h : l.Perm r) : l.Perm (srt r) := h.trans (srt_perm r).symm
theorem inv_step {d x : Int} {hp row : List Int} (I : Inv hp row) (hd : 0 ≤ d ∧ d ≤ 4) (hne : d = 2 ∨ d = 4 → 0 < hp.length) (hl : hp.length ≤ 3 ∨ (d < 2 ∧ hp.length ≤ 4)) : Inv (callL d hp x) (dueL d row x) ∧ callR d hp x = dueR d row x := by
  have push : ∀ d : Int, d = 0 ∨ d = 1 → hp.length ≤ 4 → Inv (callL d hp x) (dueL d row x) ∧ callR d hp x = dueR d row x := by
    rintro d hd hl
    have p := push_ok x hp hl I.ok
    have e := call0 (ns := hp) (x := x) (show d < 2 by omega)
    rw [e.1, e.2]
    have e2 : dueL d row x = srt (row ++ [x]) := by rcases hd with rfl | rfl <;> rfl
    have e3 : dueR d row x = none := by rcases hd with rfl | rfl <;> rfl
    rw [e2, e3]
    exact ⟨⟨p.1, perm_srt (p.2.trans (I.perm.append_right _)), srt_sorted _⟩, rfl⟩
  obtain h | h | h | h | h : d = 0 ∨ d = 1 ∨ d = 2 ∨ d = 3 ∨ d = 4 := by omega
  · exact push d (.inl h) (by omega)
  · exact push d (.inr h) (by omega)
  · subst h
    cases hp with
    | nil => exact absurd (hne (.inl rfl)) (by simp)
    | cons a t =>
      obtain ⟨rt, rfl, hp⟩ := I.head
      have s := su_ok x t (by simp at hl; omega)
      refine ⟨⟨s.1, ?_, srt_sorted _⟩, rfl⟩
      exact perm_srt (s.2.trans ((List.Perm.cons x hp).trans (List.perm_append_singleton x rt).symm))
  · subst h
    have e := call3 (d := 3) (ns := hp) (x := x) rfl
    rw [e.1, e.2]
    show Inv _ (srt (row ++ [x])).tail ∧ _ = some ((srt (row ++ [x])).getD 0 0)
    have hS := srt_sorted (row ++ [x])
    have pS := srt_perm (row ++ [x])
    cases hs : srt (row ++ [x]) with
    | nil => rw [hs] at pS; exact absurd pS.length_eq (by simp)
    | cons m st =>
      rw [hs] at hS pS
      have hS' := List.pairwise_cons.mp hS
      have hm : m ∈ row ++ [x] := pS.subset (.head _)
      have hxm : m ≤ x := by
        have : x ∈ m :: st := pS.symm.subset (by simp)
        rcases List.mem_cons.mp this with rfl | q
        · exact Int.le_refl _
        · exact hS'.1 x q
      by_cases hc : 0 < hp.length ∧ hp.getD 0 0 < x
      · rw [if_pos hc, if_pos hc]
        cases hp with
        | nil => exact absurd hc.1 (by simp)
        | cons a t =>
          obtain ⟨rt, rfl, hpt⟩ := I.head
          have hax : a < x := hc.2
          have hma : m ≤ a := by
            have : a ∈ m :: st := pS.symm.subset (by simp)
            rcases List.mem_cons.mp this with rfl | q
            · exact Int.le_refl _
            · exact hS'.1 a q
          have ham : a ≤ m := by
            rcases List.mem_append.mp hm with q | q
            · rcases List.mem_cons.mp q with rfl | q
              · exact Int.le_refl _
              · exact (List.pairwise_cons.mp I.srt).1 m q
            · rw [List.mem_singleton.mp q]; omega
          obtain rfl : a = m := by omega
          have s := su_ok x t (by simp at hl; omega)
          have pst : st.Perm (rt ++ [x]) := List.Perm.cons_inv pS
          exact ⟨⟨s.1, s.2.trans ((List.Perm.cons x hpt).trans ((List.perm_append_singleton x rt).symm.trans pst.symm)), hS'.2⟩, rfl⟩
      · rw [if_neg hc, if_neg hc]
        have hxm2 : x ≤ m := by
          rcases List.mem_append.mp hm with q | q
          · cases hp with
            | nil => exact absurd (I.perm.symm.subset q) (by simp)
            | cons a t =>
              obtain ⟨rt, rfl, hpt⟩ := I.head
              have hax : ¬ a < x := fun z => hc ⟨by simp, z⟩
              rcases List.mem_cons.mp q with rfl | q
              · omega
              · have := (List.pairwise_cons.mp I.srt).1 m q; omega
          · rw [List.mem_singleton.mp q]; exact Int.le_refl _
        obtain rfl : x = m := by omega
        have pst : st.Perm row := List.Perm.cons_inv (pS.trans (List.perm_append_singleton x row))
        exact ⟨⟨I.ok, I.perm.trans pst.symm, hS'.2⟩, rfl⟩
  · subst h
    have e := call4 (d := 4) (ns := hp) (x := x) (by decide) (by decide) (by decide)
    rw [e.1, e.2]
    cases hp with
    | nil => exact absurd (hne (.inr rfl)) (by simp)
    | cons a t =>
      obtain ⟨rt, rfl, hpt⟩ := I.head
      have hs := (List.pairwise_cons.mp I.srt).2
      match t, hl, hpt with
      | [], _, hpt => exact ⟨⟨fun i h0 => absurd h0 (by simp), hpt, hs⟩, rfl⟩
      | [b], _, hpt =>
        have s := su_ok b [] (by simp)
        exact ⟨⟨s.1, s.2.trans hpt, hs⟩, rfl⟩
      | [b, c], _, hpt =>
        have s := su_ok c [b] (by simp)
        exact ⟨⟨s.1, s.2.trans ((by (rw [List.perm_iff_count]; intro z; simp only [List.count_cons, List.count_nil]; ac_rfl) : List.Perm [c, b] [b, c]).trans hpt), hs⟩, rfl⟩
      | _ :: _ :: _ :: _, hl, _ => exact absurd hl (by simp)
theorem modeL_ok (n : Int) : OkM (modeL n) := by
  have h0 : 0 ≤ n.fmod 7 := fmod_lo n (by decide)
  have h7 : n.fmod 7 < 7 := fmod_hi n (by decide)
  have r0 : 0 ≤ (n.fdiv 7).fmod 4096 := fmod_lo _ (by decide)
  have r1 : (n.fdiv 7).fmod 4096 < 4096 := fmod_hi _ (by decide)
  unfold modeL
  obtain h | h | h | h | h | h | h : n.fmod 7 = 0 ∨ n.fmod 7 = 1 ∨ n.fmod 7 = 2 ∨ n.fmod 7 = 3 ∨ n.fmod 7 = 4 ∨ n.fmod 7 = 5 ∨ n.fmod 7 = 6 := by omega
  all_goals (rw [h]; exact ⟨_, _, by decide, r0, r1, rfl⟩)
theorem call_ok {d x : Int} {hp row : List Int} (I : Inv hp row) (hd : 0 ≤ d ∧ d ≤ 4) (hne : d = 2 ∨ d = 4 → 0 < hp.length) (hl : hp.length ≤ 3 ∨ (d < 2 ∧ hp.length ≤ 4)) (hm : ∀ m ∈ hp, OkM m) (hx : OkM x) : ∀ m ∈ callL d hp x, OkM m := by
  intro m h
  have p := (inv_step (x := x) I hd hne hl).1.perm.subset h
  have row_ok : ∀ m ∈ row, OkM m := fun m h => hm m (I.perm.symm.subset h)
  have srt_ok : ∀ l : List Int, (∀ m ∈ l, OkM m) → ∀ m ∈ srt (l ++ [x]), OkM m := fun l hl m h => by
    rcases List.mem_append.mp ((srt_perm _).subset h) with q | q
    · exact hl m q
    · rw [List.mem_singleton.mp q]; exact hx
  unfold dueL at p
  split at p
  · exact row_ok m (List.mem_of_mem_tail p)
  · dsimp only at p
    split at p
    · refine srt_ok _ ?_ m (List.mem_of_mem_tail p)
      split
      · exact fun m h => row_ok m (List.mem_of_mem_tail h)
      · exact row_ok
    · refine srt_ok _ ?_ m p
      split
      · exact fun m h => row_ok m (List.mem_of_mem_tail h)
      · exact row_ok
theorem call_len {d x : Int} {hp row : List Int} (I : Inv hp row) (hd : 0 ≤ d ∧ d ≤ 4) (hne : d = 2 ∨ d = 4 → 0 < hp.length) (hl : hp.length ≤ 3 ∨ (d < 2 ∧ hp.length ≤ 4)) : (callL d hp x).length = if d < 2 then hp.length + 1 else if d = 4 then hp.length - 1 else hp.length := by
  have p := (inv_step (x := x) I hd hne hl).1.perm.length_eq
  have hr := I.len
  rw [p]
  obtain rfl | rfl | rfl | rfl | rfl : d = 0 ∨ d = 1 ∨ d = 2 ∨ d = 3 ∨ d = 4 := by omega
  · show (srt (row ++ [x])).length = _; rw [(srt_perm _).length_eq]; simp [hr]
  · show (srt (row ++ [x])).length = _; rw [(srt_perm _).length_eq]; simp [hr]
  · show (srt (row.tail ++ [x])).length = _; rw [(srt_perm _).length_eq]; have := hne (.inl rfl); simp; omega
  · show (srt (row ++ [x])).tail.length = _; rw [List.length_tail, (srt_perm _).length_eq]; simp [hr]
  · show row.tail.length = _; rw [List.length_tail]; simp [hr]
end
section
theorem wd30x49 : True := by
  k_with_none
  k_with "omega" => (first | lia | omega (splitDisjunctions := true))
  k_with "om2" => (first | lia | omega (splitDisjunctions := true))
  k_with "eval Name" => ((k_here; (with_reducible show wpAny _ _ (eval _ (envOf _ _ _ _ _)) _ _ _); k_dflt (refine' nmL ?yF ?yv ?yx ?yk ?yd ?_; (case yF => k_asm); (case yk => exact rfl); (case yx => exact rfl); (case yd => exact rfl); (case yv => exact rfl); k_whole)))
  k_with "storeName" => ((k_here; (with_reducible show wpAny _ _ (storeName (envOf _ _ _ _ _) _ _) _ _ _); k_dflt (refine' stoLe ?yF ?yN ?yx ?yk ?_; (case yF => k_asm); (case yN => k_asm); (case yk => exact rfl); (case yx => exact rfl); k_whole; intro m'ω h'ω F'ω N'ω; (try k_sweep))))
  k_with "eval Name" => ((k_here; (with_reducible show wpAny _ _ (eval _ (envOfC _ _ _ _ _)) _ _ _); k_dflt (refine' nmLC ?yF ?yv ?yk ?yx ?yd ?_; (case yF => k_asm); (case yk => exact rfl); (case yx => exact rfl); (case yd => exact rfl); (case yv => exact rfl); k_whole)))
  k_with "storeName" => ((k_here; (with_reducible show wpAny _ _ (storeName (envOfC _ _ _ _ _) _ _) _ _ _); k_dflt (refine' stoLCe ?yF ?yN ?yk ?yx ?_; (case yF => k_asm); (case yN => k_asm); (case yk => exact rfl); (case yx => exact rfl); k_whole; intro m'ω h'ω F'ω N'ω; (try k_sweep))))
  k_with "execs cons" => ((k_here; (first | (with_reducible show wpAny _ _ (execs _ _) (AtF _) _ _) | (refine execs_abs ?_; intro Q8ω q8ω)); k_dflt (refine execs_gen ?_); intro Q7ω t7ω g7ω o7ω; (try dsimp only)))
  k_with "AtF" => ((with_reducible first | refine AtF.go (by assumption) ?_ | (refine AtF.out (by assumption) (fun z => Flow.noConfusion z) ?_) | (refine AtF.fin (by assumption) ?_; (try dsimp only))))
  k_with "room" => (k_dflt (first | exact rm2 (by assumption) rfl | exact rm1 (by assumption) rfl | exact rm3 (by assumption) rfl | exact rm4 (by assumption) rfl | exact rm0 (by assumption)))
  k_with "kne" => ((refine neN ?_; (try dsimp only); k_extra "ne"))
  k_with "cj" => (first | exact And.left | exact id | (refine cjs ?_; k_extra "cj"))
  k_with "ne" => (with_reducible first | assumption | exact lne (by assumption) | exact gne (by assumption) | exact sne (by assumption) | exact suc | exact suc2 | exact sne suc | exact sne suc2 | (refine ltc (by assumption) ?_; k_extra "cj") | (refine gtc (by assumption) ?_; k_extra "cj") | (refine nec (by assumption) ?_; k_extra "cj") | (refine nfc (by assumption) ?_; k_extra "cj"))
  trivial
def dqs (st : Bool × List Nat) (c : Nat) : Bool × List Nat := if c = 34 then (!st.1, st.2) else if st.1 = true then st else (st.1, st.2 ++ [c])
theorem dqs_mark (q : Bool) (o : List Nat) : dqs (q, o) 34 = (!q, o) := by unfold dqs; rw [if_pos rfl]
theorem dqs_in {c : Nat} (h : ¬ c = 34) (o : List Nat) : dqs (true, o) c = (true, o) := by unfold dqs; rw [if_neg h, if_pos rfl]
theorem dqs_out {c : Nat} (h : ¬ c = 34) (o : List Nat) : dqs (false, o) c = (false, o ++ [c]) := by unfold dqs; rw [if_neg h]; rfl
theorem dq_plain : ∀ (a : List Nat), (¬ 34 ∈ a) → ∀ o, a.foldl dqs (false, o) = (false, o ++ a)
  | [], _, o => by simp
  | c :: a, h, o => by
    rw [List.foldl_cons, dqs_out (fun q => h (by simp [q])), dq_plain a (fun q => h (.tail _ q))]
    simp
theorem dq_hid : ∀ (a : List Nat), (¬ 34 ∈ a) → ∀ o, a.foldl dqs (true, o) = (true, o)
  | [], _, o => by simp
  | c :: a, h, o => by
    rw [List.foldl_cons, dqs_in (fun q => h (by simp [q])), dq_hid a (fun q => h (.tail _ q))]
def DqAt (cs : List Nat) (i : Nat) : Prop := match (stL cs i).2.1 with
  | none => (cs.take i).foldl dqs (false, []) = (false, (stL cs i).2.2 ++ (cs.take i).drop (stL cs i).1)
  | some o => (cs.take i).foldl dqs (false, []) = (true, (stL cs i).2.2 ++ (cs.take o).drop (stL cs i).1)
theorem dq_at_none {cs : List Nat} {i : Nat} (e : (stL cs i).2.1 = none) : DqAt cs i ↔ (cs.take i).foldl dqs (false, []) = (false, (stL cs i).2.2 ++ (cs.take i).drop (stL cs i).1) := by unfold DqAt; rw [e]
theorem dq_at_some {cs : List Nat} {i o : Nat} (e : (stL cs i).2.1 = some o) : DqAt cs i ↔ (cs.take i).foldl dqs (false, []) = (true, (stL cs i).2.2 ++ (cs.take o).drop (stL cs i).1) := by unfold DqAt; rw [e]
theorem dq_inv (cs : List Nat) : ∀ i, i ≤ cs.length → DqAt cs i
  | 0, _ => by rw [dq_at_none rfl]; rfl
  | i + 1, h => by
    have ih := dq_inv cs i (by omega)
    have hi : i < cs.length := by omega
    have et : cs.take (i + 1) = cs.take i ++ [cs.getD i 0] := by
      rw [List.take_add_one, List.getElem?_eq_getElem hi, List.getD_eq_getElem?_getD, List.getElem?_eq_getElem hi]; rfl
    have hl : (cs.take i).length = i := by rw [List.length_take]; omega
    have hs := stL_inv cs i
    by_cases hc : cs.getD i 0 = 34
    · cases ho : (stL cs i).2.1 with
      | none =>
        rw [dq_at_none ho] at ih
        have e := stL_open hc ho
        rw [dq_at_some (o := i) (by rw [e]), e, et, List.foldl_append, ih, List.foldl_cons, List.foldl_nil, hc, dqs_mark]
        rfl
      | some o =>
        rw [dq_at_some ho] at ih
        have e := stL_shut hc ho
        rw [dq_at_none (by rw [e]), e, et, List.foldl_append, ih, List.foldl_cons, List.foldl_nil, hc, dqs_mark]
        simp only [Bool.not_true]
        rw [← hc, ← et, List.drop_eq_nil_of_le (as := cs.take (i + 1)) (by rw [List.length_take]; omega), List.append_nil]
    · have e := stL_no hc
      cases ho : (stL cs i).2.1 with
      | none =>
        rw [dq_at_none ho] at ih
        rw [dq_at_none (by rw [e, ho]), e, et, List.foldl_append, ih, List.foldl_cons, List.foldl_nil, dqs_out hc, List.drop_append_of_le_length (by rw [hl]; exact hs.1), List.append_assoc]
      | some o =>
        rw [dq_at_some ho] at ih
        rw [dq_at_some (by rw [e, ho]), e, et, List.foldl_append, ih, List.foldl_cons, List.foldl_nil, dqs_in hc]
theorem strip_dq {cs r : List Nat} (h : cs.foldl dqs (false, []) = (false, r)) : stripL cs = r := by
  have k := dq_inv cs cs.length (Nat.le_refl _)
  cases ho : (stL cs cs.length).2.1 with
  | none =>
    rw [dq_at_none ho, List.take_length, h] at k
    unfold stripL
    exact (congrArg Prod.snd k).symm
  | some o =>
    rw [dq_at_some ho, List.take_length, h] at k
    exact absurd (congrArg Prod.fst k) (by simp)
theorem fm_no34 (m : Int) : ¬ 34 ∈ fmL m := fun h => (fmL_mem h).2.1 rfl
theorem getD_le {hs : List Int} {c : Int} (h0 : 0 ≤ c) (h : ∀ m ∈ hs, m ≤ c) (k : Nat) : hs.getD k 0 ≤ c := by
  by_cases q : k < hs.length
  · rw [List.getD_eq_getElem?_getD, List.getElem?_eq_getElem q]; exact h _ (List.getElem_mem q)
  · rw [List.getD_eq_getElem?_getD, List.getElem?_eq_none (by omega)]; exact h0
theorem tx_no34 {hs : List Int} {stray : List Nat} (hm : ∀ m ∈ hs, m ≤ 65535) : ∀ f k, ¬ 34 ∈ tx hs stray f k 65535
  | 0, k => by simp [tx]
  | f + 1, k => by
    have h1 := tx_no34 (stray := stray) hm f (2 * k + 1)
    have h2 := tx_no34 (stray := stray) hm f (2 * k + 2)
    have h3 := fm_no34 (hs.getD k 0)
    have := getD_le (by decide) hm k
    rw [tx]
    split
    · simp
    · rw [if_neg (by omega)]
      simp only [List.mem_append, List.mem_singleton]
      rintro (((h | h) | h | h) | h)
      · cases h
      · exact h3 h
      · exact h1 h
      · exact h2 h
      · cases h
theorem flat_app : ∀ a b : Fo, flat (a.app b) = flat a ++ flat b
  | .nil, b => rfl
  | .cons m c r, b => by
    show [40] ++ fmL m ++ flat c ++ [41] ++ flat (r.app b) = [40] ++ fmL m ++ flat c ++ [41] ++ flat r ++ flat b
    rw [flat_app r b, List.append_assoc _ (flat r)]
theorem tx_dq {hs : List Int} {stray : List Nat} {b : Int} (hm : ∀ m ∈ hs, m ≤ 65535) (hst : ¬ 34 ∈ stray) : ∀ g f k o, hs.length - k < g → 2 * (hs.length - k) + 1 ≤ f → (tx hs stray f k b).foldl dqs (false, o) = (false, o ++ flat (trF hs b g k))
  | 0, _, _, _, h, _ => absurd h (Nat.not_lt_zero _)
  | g + 1, 0, k, o, _, h => absurd h (by omega)
  | g + 1, f + 1, k, o, h1, h2 => by
    rw [tx, trF]
    by_cases c1 : hs.length ≤ k
    · rw [if_pos c1, if_pos (Or.inl c1)]
      simp [flat]
    · rw [if_neg c1]
      by_cases c2 : b < hs.getD k 0
      · rw [if_pos c2, if_pos (Or.inr c2)]
        simp only [List.foldl_append, List.foldl_cons, List.foldl_nil, dqs_mark, Bool.not_false, Bool.not_true]
        rw [dq_hid _ hst, dq_hid _ (tx_no34 hm f k), dqs_mark]
        simp [flat]
      · rw [if_neg c2, if_neg (by rintro (q | q) <;> contradiction)]
        rw [List.foldl_append, List.foldl_append, List.foldl_append, List.foldl_append, dq_plain [40] (by decide), dq_plain _ (fm_no34 _), tx_dq hm hst g f _ _ (by omega) (by omega), tx_dq hm hst g f _ _ (by omega) (by omega), dq_plain [41] (by decide)]
        simp only [flat, flat_app, List.append_nil, List.append_assoc]
theorem strip_tx {hs : List Int} {stray : List Nat} {b : Int} (hl : hs.length ≤ 5) (hm : ∀ m ∈ hs, m ≤ 65535) (hst : ¬ 34 ∈ stray) : stripL (tx hs stray 12 0 b) = flat (trF hs b 6 0) :=
  strip_dq (by rw [tx_dq hm hst 6 12 0 [] (by omega) (by omega)]; rfl)
theorem check_tx {hs : List Int} {stray : List Nat} {b : Int} (hl : hs.length ≤ 5) (hm : ∀ m ∈ hs, m ≤ 65535) (hst : ¬ 34 ∈ stray) : checkL (tx hs stray 12 0 b) = true := by
  unfold checkL
  rw [strip_tx hl hm hst]
  have := (gd_flat (trF hs b 6 0)).thru 0 [] (by decide)
  rw [List.append_nil] at this
  rw [this]; rfl
/-- without the marks -/
abbrev unm (l : List Nat) : List Nat := l.filter fun c => decide (c ≠ 34)
theorem unm_free {l : List Nat} (h : ¬ 34 ∈ l) : unm l = l := List.filter_eq_self.mpr fun c hc => decide_eq_true fun q => h (q ▸ hc)
def bal (l : List Nat) : Int := (l.count 40 : Int) - (l.count 41 : Int)
theorem bal_app (a b : List Nat) : bal (a ++ b) = bal a + bal b := by unfold bal; rw [List.count_append, List.count_append]; omega
theorem bal_unm (a : List Nat) : bal (unm a) = bal a := by
  unfold bal unm
  rw [List.count_filter (by decide), List.count_filter (by decide)]
theorem bal_fm (m : Int) : bal (fmL m) = 0 := by
  unfold bal
  rw [List.count_eq_zero.mpr fun h => (fmL_mem h).2.2.1 rfl, List.count_eq_zero.mpr fun h => (fmL_mem h).2.2.2.1 rfl]; rfl
theorem ck_bal : ∀ (cs : List Nat) (n : Int), ck cs n = true → n + bal cs = 0
  | [], n, h => by
    rw [ck, decide_eq_true_eq] at h
    rw [h]; rfl
  | c :: r, n, h => by
    have e : bal (c :: r) = bal [c] + bal r := bal_app [c] r
    rw [ck] at h
    rw [e]
    split at h
    · rename_i q; subst q
      have := ck_bal r _ h
      have e1 : bal [40] = 1 := by decide
      omega
    split at h
    · rename_i q; subst q
      split at h
      · cases h
      have := ck_bal r _ h
      have e1 : bal [41] = -1 := by decide
      omega
    · rename_i q1 q2
      have := ck_bal r _ h
      have e1 : bal [c] = 0 := by unfold bal; rw [List.count_eq_zero.mpr (by simpa using fun z => q1 z.symm), List.count_eq_zero.mpr (by simpa using fun z => q2 z.symm)]; rfl
      omega
theorem bal_hid {hs : List Int} {stray : List Nat} (hm : ∀ m ∈ hs, m ≤ 65535) : ∀ f k, bal (tx hs stray f k 65535) = 0
  | 0, k => rfl
  | f + 1, k => by
    have h1 := bal_hid (stray := stray) hm f (2 * k + 1)
    have h2 := bal_hid (stray := stray) hm f (2 * k + 2)
    have := getD_le (by decide) hm k
    rw [tx]
    split
    · rfl
    · rw [if_neg (by omega)]
      have e0 : bal [40] = 1 := by decide
      have e1 : bal [41] = -1 := by decide
      simp only [bal_app, bal_fm, h1, h2, e0, e1]; rfl
/-- how many stretches are hidden -/
def nq (hs : List Int) (b : Int) : Nat → Nat → Nat
  | 0, _ => 0
  | f + 1, k => if hs.length ≤ k then 0 else if b < hs.getD k 0 then 1 else nq hs b f (2 * k + 1) + nq hs b f (2 * k + 2)
theorem bal_tx {hs : List Int} {stray : List Nat} {b : Int} (hm : ∀ m ∈ hs, m ≤ 65535) : ∀ f k, bal (tx hs stray f k b) = bal stray * (nq hs b f k : Int)
  | 0, k => by rw [tx, nq, Int.ofNat_zero, Int.mul_zero]; rfl
  | f + 1, k => by
    have h1 := bal_tx (stray := stray) (b := b) hm f (2 * k + 1)
    have h2 := bal_tx (stray := stray) (b := b) hm f (2 * k + 2)
    have e0 : bal [40] = 1 := by decide
    have e1 : bal [41] = -1 := by decide
    have e2 : bal [34] = 0 := by decide
    rw [tx, nq]
    split
    · rw [Int.ofNat_zero, Int.mul_zero]; rfl
    split
    · simp only [bal_app, bal_hid hm, e2]; omega
    · simp only [bal_app, bal_fm, h1, h2, e0, e1, Int.natCast_add, Int.mul_add]; omega
theorem nq_split {hs : List Int} {b : Int} {f k : Nat} (h : nq hs b (f + 1) k = 0) : (k < hs.length → hs.getD k 0 ≤ b ∧ nq hs b f (2 * k + 1) = 0 ∧ nq hs b f (2 * k + 2) = 0) := by
  intro hk
  rw [nq, if_neg (by omega)] at h
  split at h
  · cases h
  · omega
theorem nq_all {hs : List Int} {b : Int} (hl : hs.length ≤ 5) (h : nq hs b 12 0 = 0) : ∀ m ∈ hs, m ≤ b := by
  have get : ∀ i, i < hs.length → hs.getD i 0 ≤ b := by
    intro i hi
    have s0 := nq_split h (by omega)
    by_cases q : i = 0
    · rw [q]; exact s0.1
    have a1 : 1 < hs.length := by omega
    have s1 := nq_split s0.2.1 a1
    by_cases q1 : i = 1
    · rw [q1]; exact s1.1
    by_cases q2 : i = 2
    · rw [q2]; exact (nq_split s0.2.2 (by omega)).1
    by_cases q3 : i = 3
    · rw [q3]; exact (nq_split s1.2.1 (by omega)).1
    have q4 : i = 4 := by omega
    rw [q4]; exact (nq_split s1.2.2 (by omega)).1
  intro m hm
  obtain ⟨i, hi, rfl⟩ := List.getElem_of_mem hm
  have := get i hi
  rw [List.getD_eq_getElem?_getD, List.getElem?_eq_getElem hi] at this
  exact this
theorem tx_all {hs : List Int} {stray : List Nat} {b : Int} (h0 : 0 ≤ b) (h : ∀ m ∈ hs, m ≤ b) : ∀ f k, tx hs stray f k b = tx hs [] f k b
  | 0, k => rfl
  | f + 1, k => by
    have := getD_le h0 h k
    rw [tx, tx, tx_all h0 h f (2 * k + 1), tx_all h0 h f (2 * k + 2), if_neg (c := b < _) (by omega), if_neg (c := b < _) (by omega)]
theorem unm_app (a b : List Nat) : unm (a ++ b) = unm a ++ unm b := List.filter_append ..
theorem gd_tx {hs : List Int} : ∀ f k b, Gd (unm (tx hs [] f k b))
  | 0, k, b => gd_nil
  | f + 1, k, b => by
    rw [tx]
    split
    · exact gd_nil
    split
    · rw [List.append_nil]
      simp only [unm_app]
      exact gd_app (gd_app gd_nil (gd_tx f k 65535)) gd_nil
    · simp only [unm_app]
      rw [unm_free (fm_no34 _)]
      have e : (unm [40] ++ fmL (hs.getD k 0) ++ (unm (tx hs [] f (2 * k + 1) b) ++ unm (tx hs [] f (2 * k + 2) b)) ++ unm [41]) = [40] ++ (fmL (hs.getD k 0) ++ (unm (tx hs [] f (2 * k + 1) b) ++ unm (tx hs [] f (2 * k + 2) b))) ++ [41] := by
        rw [show unm [40] = [40] from rfl, show unm [41] = [41] from rfl]; simp only [List.append_assoc]
      rw [e]
      exact gd_wrap (gd_app (gd_fm _) (gd_app (gd_tx f _ b) (gd_tx f _ b)))
theorem gd_true {l : List Nat} (h : Gd l) : ck l 0 = true := by
  have := h.thru 0 [] (by decide)
  rw [List.append_nil] at this
  rw [this]; rfl
theorem check_un {hs : List Int} {stray : List Nat} {b : Int} (hl : hs.length ≤ 5) (hm : ∀ m ∈ hs, m ≤ 65535) (h0 : 0 ≤ b) (hst : stray = [40] ∨ stray = [41] ∨ stray = []) :
    checkL (unm (tx hs stray 12 0 b)) = decide (stray = [] ∨ ∀ m ∈ hs, m ≤ b) := by
  have hf : ¬ 34 ∈ unm (tx hs stray 12 0 b) := fun q => by
    have := (List.mem_filter.mp q).2
    simp at this
  unfold checkL
  rw [strip_free hf]
  by_cases c : stray = [] ∨ ∀ m ∈ hs, m ≤ b
  · rw [decide_eq_true c]
    rcases c with c | c
    · rw [c]; exact gd_true (gd_tx _ _ _)
    · rw [tx_all h0 c]; exact gd_true (gd_tx _ _ _)
  · rw [decide_eq_false c]
    cases q : ck (unm (tx hs stray 12 0 b)) 0 with
    | false => rfl
    | true =>
      exfalso
      have k := ck_bal _ _ q
      rw [bal_unm, bal_tx hm] at k
      have e0 : bal [40] = 1 := by decide
      have e1 : bal [41] = -1 := by decide
      refine c (.inr (nq_all hl ?_))
      rcases hst with e | e | e
      · rw [e, e0] at k; omega
      · rw [e, e1] at k; omega
      · exact absurd (.inl e) c
end
section
theorem wd31x50 : True := by
  k_with_none
  k_with "omega" => (first | lia | omega (splitDisjunctions := true))
  k_with "om2" => (first | lia | omega (splitDisjunctions := true))
  k_with "eval Name" => ((k_here; (with_reducible show wpAny _ _ (eval _ (envOf _ _ _ _ _)) _ _ _); k_dflt (refine' nmL ?yF ?yv ?yx ?yk ?yd ?_; (case yF => k_asm); (case yk => exact rfl); (case yx => exact rfl); (case yd => exact rfl); (case yv => exact rfl); k_whole)))
  k_with "storeName" => ((k_here; (with_reducible show wpAny _ _ (storeName (envOf _ _ _ _ _) _ _) _ _ _); k_dflt (refine' stoLe ?yF ?yN ?yx ?yk ?_; (case yF => k_asm); (case yN => k_asm); (case yk => exact rfl); (case yx => exact rfl); k_whole; intro m'ω h'ω F'ω N'ω; (try k_sweep))))
  k_with "eval Name" => ((k_here; (with_reducible show wpAny _ _ (eval _ (envOfC _ _ _ _ _)) _ _ _); k_dflt (refine' nmLC ?yF ?yv ?yk ?yx ?yd ?_; (case yF => k_asm); (case yk => exact rfl); (case yx => exact rfl); (case yd => exact rfl); (case yv => exact rfl); k_whole)))
  k_with "storeName" => ((k_here; (with_reducible show wpAny _ _ (storeName (envOfC _ _ _ _ _) _ _) _ _ _); k_dflt (refine' stoLCe ?yF ?yN ?yk ?yx ?_; (case yF => k_asm); (case yN => k_asm); (case yk => exact rfl); (case yx => exact rfl); k_whole; intro m'ω h'ω F'ω N'ω; (try k_sweep))))
  k_with "execs cons" => ((k_here; (first | (with_reducible show wpAny _ _ (execs _ _) (AtF _) _ _) | (refine execs_abs ?_; intro Q8ω q8ω)); k_dflt (refine execs_gen ?_); intro Q7ω t7ω g7ω o7ω; (try dsimp only)))
  k_with "AtF" => ((with_reducible first | refine AtF.go (by assumption) ?_ | (refine AtF.out (by assumption) (fun z => Flow.noConfusion z) ?_) | (refine AtF.fin (by assumption) ?_; (try dsimp only))))
  k_with "room" => (k_dflt (first | exact rm2 (by assumption) rfl | exact rm1 (by assumption) rfl | exact rm3 (by assumption) rfl | exact rm4 (by assumption) rfl | exact rm0 (by assumption)))
  k_with "kne" => ((refine neN ?_; (try dsimp only); k_extra "ne"))
  k_with "cj" => (first | exact And.left | exact id | (refine cjs ?_; k_extra "cj"))
  k_with "ne" => (with_reducible first | assumption | exact lne (by assumption) | exact gne (by assumption) | exact sne (by assumption) | exact suc | exact suc2 | exact sne suc | exact sne suc2 | (refine ltc (by assumption) ?_; k_extra "cj") | (refine gtc (by assumption) ?_; k_extra "cj") | (refine nec (by assumption) ?_; k_extra "cj") | (refine nfc (by assumption) ?_; k_extra "cj"))
  trivial
def pre : Fo → List Int
  | .nil => []
  | .cons m c r => m :: (pre c ++ pre r)
theorem pre_app : ∀ a b : Fo, pre (a.app b) = pre a ++ pre b
  | .nil, b => rfl
  | .cons m c r, b => by
    show m :: (pre c ++ pre (r.app b)) = m :: (pre c ++ pre r) ++ pre b
    rw [pre_app r b]; simp
theorem fsz_pre : ∀ f : Fo, fsz f = (pre f).length
  | .nil => rfl
  | .cons m c r => by
    show fsz c + fsz r + 1 = (m :: (pre c ++ pre r)).length
    rw [fsz_pre c, fsz_pre r]; simp
theorem flat_len : ∀ f : Fo, (flat f).length = 12 * (pre f).length
  | .nil => rfl
  | .cons m c r => by
    have := flat_len c
    have := flat_len r
    simp only [flat, pre, List.length_append, List.length_cons, List.length_nil, fmL_len]; omega
abbrev uno (l : List Nat) : List Nat := l.filter fun c => decide (c ≠ 40)
abbrev uns (l : List Nat) : List Nat := l.filter fun c => decide (c ≠ 41)
theorem signs_flat : ∀ f : Fo, uns (uno (flat f)) = (pre f).flatMap fmL
  | .nil => rfl
  | .cons m c r => by
    have h1 := signs_flat c
    have h2 := signs_flat r
    have e : uns (uno (fmL m)) = fmL m := by
      rw [show uno (fmL m) = fmL m from List.filter_eq_self.mpr fun c hc => decide_eq_true (fmL_mem hc).2.2.1]
      exact List.filter_eq_self.mpr fun c hc => decide_eq_true (fmL_mem hc).2.2.2.1
    have e0 : uns (uno [40]) = [] := rfl
    have e1 : uns (uno [41]) = [] := rfl
    show uns (uno ([40] ++ fmL m ++ flat c ++ [41] ++ flat r)) = (m :: (pre c ++ pre r)).flatMap fmL
    have ap : ∀ a b : List Nat, uns (uno (a ++ b)) = uns (uno a) ++ uns (uno b) := fun a b => by unfold uno uns; rw [List.filter_append, List.filter_append]
    rw [ap, ap, ap, ap, e, e0, e1, h1, h2]
    simp
theorem fmap_len : ∀ l : List Int, (l.flatMap fmL).length = 10 * l.length
  | [] => rfl
  | a :: l => by rw [List.flatMap_cons, List.length_append, fmap_len l, fmL_len, List.length_cons]; omega
theorem chunk : ∀ (l : List Int) (i : Nat), i < l.length → ((l.flatMap fmL).take (10 * i + 10)).drop (10 * i) = fmL (l.getD i 0)
  | [], i, h => absurd h (by simp)
  | a :: l, 0, _ => by
    rw [List.flatMap_cons, Nat.mul_zero, List.drop_zero, List.take_left' (by rw [fmL_len])]; rfl
  | a :: l, i + 1, h => by
    have ih := chunk l i (by simpa using h)
    rw [List.flatMap_cons, show 10 * (i + 1) + 10 = (fmL a).length + (10 * i + 10) from by rw [fmL_len]; omega, List.take_length_add_append, show 10 * (i + 1) = (fmL a).length + 10 * i from by rw [fmL_len]; omega, List.drop_length_add_append, ih]
    rfl
theorem okF_tr {hs : List Int} {b : Int} (h : ∀ m ∈ hs, OkM m) : ∀ g k, OkF (trF hs b g k)
  | 0, _ => trivial
  | g + 1, k => by
    have app : ∀ a c : Fo, OkF a → OkF c → OkF (a.app c) := by
      intro a
      induction a with
      | nil => intro c _ hc; exact hc
      | cons m x r _ ih => intro c ha hc; exact ⟨ha.1, ha.2.1, ih c ha.2.2 hc⟩
    rw [trF]
    split
    · trivial
    · rename_i q
      have q1 : k < hs.length := by
        rcases Nat.lt_or_ge k hs.length with z | z
        · exact z
        · exact absurd (Or.inl z) q
      refine ⟨?_, app _ _ (okF_tr h g _) (okF_tr h g _), trivial⟩
      rw [List.getD_eq_getElem?_getD, List.getElem?_eq_getElem q1]
      exact h _ (List.getElem_mem q1)
abbrev low (b : Int) (l : List Int) : List Int := l.filter fun x => decide (x ≤ b)
theorem two (b a : Int) : (b < a ∧ ¬ a ≤ b) ∨ (¬ b < a ∧ a ≤ b) := by omega
theorem pre_perm (b : Int) : ∀ (hs : List Int), hs.length ≤ 5 → HOK hs → (pre (trF hs b 6 0)).Perm (low b hs)
  | [], _, _ => by simp [trF, pre]
  | [a], _, _ => by
    rcases two b a with ⟨h1, e1⟩ | ⟨h1, e1⟩
    all_goals simp [trF, pre, Fo.app, h1, e1, low]
  | [a, c], _, h => by
    have h := hok2.mp h
    rcases two b a with ⟨h1, e1⟩ | ⟨h1, e1⟩ <;> rcases two b c with ⟨h2, e2⟩ | ⟨h2, e2⟩
    all_goals first
      | (exfalso; omega)
      | (simp [trF, pre, Fo.app, h1, h2, e1, e2, low]; done)
      | (simp [trF, pre, Fo.app, h1, h2, e1, e2, low]; first | exact List.Perm.swap _ _ _ | (rw [List.perm_iff_count]; intro z; simp only [List.count_cons, List.count_nil]; omega))
  | [a, c, d], _, h => by
    have h := hok3.mp h
    rcases two b a with ⟨h1, e1⟩ | ⟨h1, e1⟩ <;> rcases two b c with ⟨h2, e2⟩ | ⟨h2, e2⟩ <;> rcases two b d with ⟨h3, e3⟩ | ⟨h3, e3⟩
    all_goals first
      | (exfalso; omega)
      | (simp [trF, pre, Fo.app, h1, h2, h3, e1, e2, e3, low]; done)
      | (simp [trF, pre, Fo.app, h1, h2, h3, e1, e2, e3, low]; first | exact List.Perm.swap _ _ _ | (rw [List.perm_iff_count]; intro z; simp only [List.count_cons, List.count_nil]; omega))
  | [a, c, d, e], _, h => by
    have h := hok4.mp h
    rcases two b a with ⟨h1, e1⟩ | ⟨h1, e1⟩ <;> rcases two b c with ⟨h2, e2⟩ | ⟨h2, e2⟩ <;> rcases two b d with ⟨h3, e3⟩ | ⟨h3, e3⟩ <;> rcases two b e with ⟨h4, e4⟩ | ⟨h4, e4⟩
    all_goals first
      | (exfalso; omega)
      | (simp [trF, pre, Fo.app, h1, h2, h3, h4, e1, e2, e3, e4, low]; done)
      | (simp [trF, pre, Fo.app, h1, h2, h3, h4, e1, e2, e3, e4, low]; first | exact List.Perm.swap _ _ _ | (rw [List.perm_iff_count]; intro z; simp only [List.count_cons, List.count_nil]; omega))
  | [a, c, d, e, f], _, h => by
    have h := hok5.mp h
    rcases two b a with ⟨h1, e1⟩ | ⟨h1, e1⟩ <;> rcases two b c with ⟨h2, e2⟩ | ⟨h2, e2⟩ <;> rcases two b d with ⟨h3, e3⟩ | ⟨h3, e3⟩ <;> rcases two b e with ⟨h4, e4⟩ | ⟨h4, e4⟩ <;> rcases two b f with ⟨h5, e5⟩ | ⟨h5, e5⟩
    all_goals first
      | (exfalso; omega)
      | (simp [trF, pre, Fo.app, h1, h2, h3, h4, h5, e1, e2, e3, e4, e5, low]; done)
      | (simp [trF, pre, Fo.app, h1, h2, h3, h4, h5, e1, e2, e3, e4, e5, low]; first | exact List.Perm.swap _ _ _ | (rw [List.perm_iff_count]; intro z; simp only [List.count_cons, List.count_nil]; omega))
  | _ :: _ :: _ :: _ :: _ :: _ :: _, h, _ => by simp at h
theorem srt_eq {l r : List Int} (p : l.Perm r) (s : r.Pairwise (· ≤ ·)) : srt l = r :=
  List.Perm.eq_of_pairwise (le := (· ≤ ·)) (fun a b _ _ h1 h2 => Int.le_antisymm h1 h2) (srt_sorted l) s ((srt_perm l).trans p)
theorem low_take (b : Int) : ∀ {r : List Int}, r.Pairwise (· ≤ ·) → low b r = r.take (low b r).length
  | [], _ => rfl
  | a :: r, h => by
    have h' := List.pairwise_cons.mp h
    by_cases q : a ≤ b
    · have e : low b (a :: r) = a :: low b r := by simp [low, q]
      rw [e, List.length_cons, List.take_succ_cons, ← low_take b h'.2]
    · have e : low b (a :: r) = [] := by
        rw [List.filter_eq_nil_iff]
        intro x hx
        have : a ≤ x := by
          rcases List.mem_cons.mp hx with rfl | hx
          · exact Int.le_refl _
          · exact h'.1 x hx
        simp; omega
      rw [e]; rfl
theorem low_all {b : Int} {r : List Int} : low b r = r ↔ ∀ m ∈ r, m ≤ b := by
  rw [List.filter_eq_self]
  exact ⟨fun h m hm => of_decide_eq_true (h m hm), fun h m hm => decide_eq_true (h m hm)⟩
theorem low_sorted {b : Int} {r : List Int} (h : r.Pairwise (· ≤ ·)) : (low b r).Pairwise (· ≤ ·) := h.filter _
theorem small_n {hp row : List Int} {b : Int} (I : Inv hp row) : (srt hp).take (low b row).length = low b row := by
  rw [srt_eq I.perm I.srt]; exact (low_take b I.srt).symm
theorem read_back {hp row : List Int} {b : Int} (I : Inv hp row) (hl : hp.length ≤ 5) : srt (pre (trF hp b 6 0)) = low b row :=
  srt_eq ((pre_perm b hp hl I.ok).trans (I.perm.filter _)) (low_sorted I.srt)
theorem pre_len {hp row : List Int} {b : Int} (I : Inv hp row) (hl : hp.length ≤ 5) : (pre (trF hp b 6 0)).length ≤ 5 := by
  rw [(pre_perm b hp hl I.ok).length_eq]
  exact Nat.le_trans (List.length_filter_le _ _) hl
def wk (k : Nat) : Nat := if k = 0 then 5 else if k = 1 then 3 else if k ≤ 4 then 1 else 0
theorem wk_step {k : Nat} (h : k < 5) : wk (2 * k + 1) + wk (2 * k + 2) + 1 ≤ wk k := by
  obtain rfl | rfl | rfl | rfl | rfl : k = 0 ∨ k = 1 ∨ k = 2 ∨ k = 3 ∨ k = 4 := by omega
  all_goals decide
theorem tx_hid_len {hs : List Int} {stray : List Nat} (hl : hs.length ≤ 5) (hm : ∀ m ∈ hs, m ≤ 65535) : ∀ f k, (tx hs stray f k 65535).length ≤ 12 * wk k
  | 0, k => Nat.zero_le _
  | f + 1, k => by
    have h1 := tx_hid_len (stray := stray) hl hm f (2 * k + 1)
    have h2 := tx_hid_len (stray := stray) hl hm f (2 * k + 2)
    have := getD_le (by decide) hm k
    rw [tx]
    split
    · exact Nat.zero_le _
    · have h3 := wk_step (k := k) (by omega)
      rw [if_neg (by omega)]
      simp only [List.length_append, List.length_cons, List.length_nil, fmL_len]; omega
theorem tx_short {hs : List Int} {stray : List Nat} {b : Int} (hl : hs.length ≤ 5) (hm : ∀ m ∈ hs, m ≤ 65535) (hst : stray.length ≤ 1) : ∀ f k, (tx hs stray f k b).length ≤ 15 * wk k
  | 0, k => Nat.zero_le _
  | f + 1, k => by
    have h1 := tx_short (b := b) hl hm hst f (2 * k + 1)
    have h2 := tx_short (b := b) hl hm hst f (2 * k + 2)
    have h0 := tx_hid_len (stray := stray) hl hm f k
    rw [tx]
    split
    · exact Nat.zero_le _
    have h3 := wk_step (k := k) (by omega)
    split
    · simp only [List.length_append, List.length_cons, List.length_nil]; omega
    · simp only [List.length_append, List.length_cons, List.length_nil, fmL_len]; omega
theorem tx_size {hs : List Int} {stray : List Nat} {b : Int} (hl : hs.length ≤ 5) (hm : ∀ m ∈ hs, m ≤ 65535) (hst : stray.length ≤ 1) : (tx hs stray 12 0 b).length ≤ 75 := tx_short hl hm hst 12 0
theorem tx_mem {hs : List Int} {stray : List Nat} (hst : ∀ c ∈ stray, c ≠ 92 ∧ c < 128) : ∀ {f k : Nat} {b : Int} {c : Nat}, c ∈ tx hs stray f k b → c ≠ 92 ∧ c < 128
  | 0, k, b, c, h => nomatch h
  | f + 1, k, b, c, h => by
    rw [tx] at h
    split at h
    · cases h
    split at h
    · simp only [List.mem_append, List.mem_singleton] at h
      rcases h with ((h | h) | h) | h
      · subst h; decide
      · exact hst c h
      · exact tx_mem hst h
      · subst h; decide
    · simp only [List.mem_append, List.mem_singleton] at h
      rcases h with ((h | h) | h | h) | h
      · subst h; decide
      · exact ⟨(fmL_mem h).1, (fmL_mem h).2.2.2.2.2⟩
      · exact tx_mem hst h
      · exact tx_mem hst h
      · subst h; decide
theorem okM_range {m : Int} (h : OkM m) : 4096 ≤ m ∧ m ≤ 65535 := by
  obtain ⟨k, r, hk, h0, h1, rfl⟩ := h
  omega
end
section
theorem wd32x51 : True := by
  k_with_none
  k_with "omega" => (omega (splitDisjunctions := true))
  k_with "om2" => (first | lia | omega (splitDisjunctions := true))
  k_with "eval Name" => ((k_here; (with_reducible show wpAny _ _ (eval _ (envOf _ _ _ _ _)) _ _ _); k_dflt (refine' nmL ?yF ?yv ?yx ?yk ?yd ?_; (case yF => k_asm); (case yk => exact rfl); (case yx => exact rfl); (case yd => exact rfl); (case yv => exact rfl); k_whole)))
  k_with "storeName" => ((k_here; (with_reducible show wpAny _ _ (storeName (envOf _ _ _ _ _) _ _) _ _ _); k_dflt (refine' stoLe ?yF ?yN ?yx ?yk ?_; (case yF => k_asm); (case yN => k_asm); (case yk => exact rfl); (case yx => exact rfl); k_whole; intro m'ω h'ω F'ω N'ω; (try k_sweep))))
  k_with "eval Name" => ((k_here; (with_reducible show wpAny _ _ (eval _ (envOfC _ _ _ _ _)) _ _ _); k_dflt (refine' nmLC ?yF ?yv ?yk ?yx ?yd ?_; (case yF => k_asm); (case yk => exact rfl); (case yx => exact rfl); (case yd => exact rfl); (case yv => exact rfl); k_whole)))
  k_with "storeName" => ((k_here; (with_reducible show wpAny _ _ (storeName (envOfC _ _ _ _ _) _ _) _ _ _); k_dflt (refine' stoLCe ?yF ?yN ?yk ?yx ?_; (case yF => k_asm); (case yN => k_asm); (case yk => exact rfl); (case yx => exact rfl); k_whole; intro m'ω h'ω F'ω N'ω; (try k_sweep))))
  k_with "execs cons" => ((k_here; (first | (with_reducible show wpAny _ _ (execs _ _) (AtF _) _ _) | (refine execs_abs ?_; intro Q8ω q8ω)); k_dflt (refine execs_gen ?_); intro Q7ω t7ω g7ω o7ω; (try dsimp only)))
  k_with "AtF" => ((with_reducible first | refine AtF.go (by assumption) ?_ | (refine AtF.out (by assumption) (fun z => Flow.noConfusion z) ?_) | (refine AtF.fin (by assumption) ?_; (try dsimp only))))
  k_with "room" => (k_dflt (first | exact rm2 (by assumption) rfl | exact rm1 (by assumption) rfl | exact rm3 (by assumption) rfl | exact rm4 (by assumption) rfl | exact rm0 (by assumption)))
  k_with "kne" => ((refine neN ?_; (try dsimp only); k_extra "ne"))
  k_with "cj" => (first | exact And.left | exact id | (refine cjs ?_; k_extra "cj"))
  k_with "ne" => (with_reducible first | assumption | exact lne (by assumption) | exact gne (by assumption) | exact sne (by assumption) | exact suc | exact suc2 | exact sne suc | exact sne suc2 | (refine ltc (by assumption) ?_; k_extra "cj") | (refine gtc (by assumption) ?_; k_extra "cj") | (refine nec (by assumption) ?_; k_extra "cj") | (refine nfc (by assumption) ?_; k_extra "cj"))
  trivial
structure TokMark : Prop where
  intro ::
theorem of_stop {P : Prop} (h : Stop P) : P := by
  unfold Stop at h; exact h
theorem ok_dir : OkM 16877 := ⟨4, 493, by decide, by decide, by decide, by decide⟩
theorem ok_reg : OkM 33188 := ⟨8, 420, by decide, by decide, by decide, by decide⟩
section
variable {prog : Program} {w : World} {A : Around} {E : Value → Shared → Prop} {s : Shared} {h₀ : Heap} {L l : Addr} {m : Str → Option Value} {news : List (Addr × Obj)} {Q : Value → Shared → Prop} {value slice : Expr} {vs : List Value} {ns : List Int} {n : Nat}
theorem head_ints {y : Int} {t : Tok} (h0 : 0 ≤ y) (F : Fr h₀ L s.heap m) (N : News h₀ L s.heap news) (hl : s.heap.IsList l vs.toArray) (hi : IntsAre vs ns)
    (hz : vs.toArray.size ≤ sizeLine)
    (h : ∀ D ws ms h', Fr h₀ L h' m → News h₀ L h' ((D, listOf (List.toArray ws) 0) :: news) → (∀ p ∈ news, p.1 < D) → IntsAre ws ms → Q (.ref D) { s with heap := h' })
    (hs : subscripted slice false (.ref l) (.ref s.heap.objs.size) = operate [.ref s.heap.objs.size, .ref l] (getItem (.ref l) (.ref s.heap.objs.size)) := by with_unfolding_all rfl)
    (ht : ∀ r, letTemporaryGo value (.ref l) r = pure () := by intro _; with_unfolding_all rfl) :
    wpAny (model prog w) A (subscriptTail value slice (.ref l) (.ref s.heap.objs.size)) Q E { s with heap := s.heap.push { cls := .type "slice", data := .fields #[.none, .int y t, .none] } } :=
  kmk_slice_ints F N hl .none (.int y t) hi (slice_ints_uptoW hi h0) rfl (fun D ws h' F' N' l1 hI _ _ => h D ws _ h' F' N' l1 hI) hs ht hz
theorem sum_any (hh : A.handled = none) (F : Fr h₀ L s.heap m) (N : News h₀ L s.heap news) (hm : (l, listOf vs.toArray n) ∈ news) (hi : IntsAre vs ns)
    (h : ∀ h' tk t' x, Fr h₀ L h' m → News h₀ L h' news → Q (.int x t') { s with heap := h', toks := tk }) : wpAny (model prog w) A (call (.builtin "sum") [.ref l]) Q E s := by
  obtain ⟨xs, hx⟩ := hi.allInts.items
  have hl : s.heap.IsList l vs.toArray := ⟨_, (N _ hm).1, rfl, n, rfl⟩
  rw [hx] at hl
  exact sum_intListG hh hl fun h' tk t' hk => h h' tk t' _ (F.keeps hk) (N.grown hk)
theorem item_menu {cs : List (List Nat)} {i : Int} {u : Tok} (N : News h₀ L s.heap news) (hm : (l, listOf vs.toArray n) ∈ news) (ht : TextsAre vs cs) (h0 : 0 ≤ i) (h1 : i < (cs.length : Int)) (hf : cs.length < 1000) (h : ∀ t' c, c ∈ cs → Q (.str ⟨c.toArray⟩ t') s)
    (hs : subscripted slice false (.ref l) (.int i u) = operate [.ref l, .int i u] (getItem (.ref l) (.int i u)) := by with_unfolding_all rfl) :
    wpAny (model prog w) A (subscriptTail value slice (.ref l) (.int i u)) Q E s := by
  have hlt : i.toNat < cs.length := by omega
  have hl : s.heap.IsList l vs.toArray := ⟨_, (N _ hm).1, rfl, n, rfl⟩
  have hlv := ht.length
  obtain ⟨c, t, e1, e2⟩ := ht.get (List.getElem?_eq_getElem (show i.toNat < vs.length by omega))
  exact tail_any hl.typeIs PySem.F.slot_list_getitem.lookup (wpAny_getItem_list hl h0 (by omega) (x := .str ⟨c.toArray⟩ t) (by rw [List.getElem?_toArray, List.getElem?_eq_getElem (show i.toNat < vs.length by omega), e2]) (h t c (List.mem_of_getElem? e1))) hs
theorem item_some {i : Int} {u : Tok} (N : News h₀ L s.heap news) (hm : (l, listOf vs.toArray n) ∈ news) (hi : IntsAre vs ns) (h0 : 0 ≤ i) (h1 : i < (ns.length : Int)) (hf : ns.length < 1000) (h : ∀ t' b, b ∈ ns → Q (.int b t') s)
    (hs : subscripted slice false (.ref l) (.int i u) = operate [.ref l, .int i u] (getItem (.ref l) (.int i u)) := by with_unfolding_all rfl) :
    wpAny (model prog w) A (subscriptTail value slice (.ref l) (.int i u)) Q E s := by
  have hlv := hi.length
  have hl : s.heap.IsList l vs.toArray := ⟨_, (N _ hm).1, rfl, n, rfl⟩
  have hlt : i.toNat < vs.length := by omega
  obtain ⟨x, t, e, hx⟩ := IntsAre.at hi i.toNat _ (List.getElem?_eq_getElem hlt)
  have hlt2 : i.toNat < ns.length := by omega
  have hxm : x ∈ ns := by
    have : ns[i.toNat] = x := by simpa [List.getD_eq_getElem?_getD, List.getElem?_eq_getElem hlt2] using hx
    rw [← this]; exact List.getElem_mem _
  exact tail_any hl.typeIs PySem.F.slot_list_getitem.lookup (wpAny_getItem_list hl h0 (by omega) (x := .int x t) (by rw [List.getElem?_toArray, List.getElem?_eq_getElem hlt, e]) (h t x hxm)) hs
end
structure TxtOk (T : List Nat) (F : Fo) : Prop where
  no92 : ∀ c ∈ T, c ≠ 92
  len : T.length < 900
  strip : stripL T = flat F
theorem c_stripF {w : World} {mean : ExcName → Option Value} {mg mb : Str → Option Value} {dp un : Nat} {gd : Option (List Code)} {outer : List Env} {base : Heap} {s : Shared} {Q E : Value → Shared → Prop} {xs : List Nat} {fo : Fo} {t : Tok} (B : Below (top dp un gd outer) base outer s.heap) (X : (Kt w.params).In base) (T : Top vw loo mean mg mb base) (hx : TxtOk xs fo) (hdp : dp + 5 < recursionLimit) (hun : un + 32 < cLine)
  (hret : ∀ s' t', Ext [] s s' → Q (.str ⟨(flat fo).toArray⟩ t') s') :
  wpAny (model PySem.Challenge.rw_om0101_01.row.prog w) (top dp un gd outer) (call (.ref 28) [.str ⟨xs.toArray⟩ t]) Q E s := by
  refine c_strip B X T (fun c hc => hx.no92 c (by simpa using hc)) (by have := hx.len; show xs.toArray.size < 1000; rw [List.size_toArray]; omega) hdp hun fun s' t' hE => ?_
  have e : stripT ⟨xs.toArray⟩ = ⟨(flat fo).toArray⟩ := by
    unfold stripT
    show (⟨(stripL xs.toArray.toList).toArray⟩ : Str) = _
    rw [← hx.strip]
  rw [e]; exact hret s' t' hE
structure ChkOk (T : List Nat) (b : Bool) : Prop where
  no92 : ∀ c ∈ T, c ≠ 92
  len : T.length < 900
  val : checkL T = b
theorem c_checkF {w : World} {mean : ExcName → Option Value} {mg mb : Str → Option Value} {dp un : Nat} {gd : Option (List Code)} {outer : List Env} {base : Heap} {s : Shared} {Q E : Value → Shared → Prop} {xs : List Nat} {v : Bool} {t : Tok} (B : Below (top dp un gd outer) base outer s.heap) (X : (Kt w.params).In base) (T : Top vw loo mean mg mb base) (hx : ChkOk xs v) (hdp : dp + 6 < recursionLimit) (hun : un + 40 < cLine)
  (hret : ∀ s', Ext [] s s' → Q (.bool v) s') :
  wpAny (model PySem.Challenge.rw_om0101_01.row.prog w) (top dp un gd outer) (call (.ref 35) [.str ⟨xs.toArray⟩ t]) Q E s := by
  refine c_check B X T (fun c hc => hx.no92 c (by simpa using hc)) (by have := hx.len; show xs.toArray.size < 1000; rw [List.size_toArray]; omega) hdp hun fun s' hE => ?_
  have e : checkL (⟨xs.toArray⟩ : Str).cps.toList = v := hx.val
  rw [e]; exact hret s' hE
theorem txt_ok {hs : List Int} {stray : List Nat} {b : Int} (hl : hs.length ≤ 5) (hm : ∀ m ∈ hs, OkM m) (hst : stray ∈ [[40], [41], []]) : TxtOk (tx hs stray 12 0 b) (trF hs b 6 0) := by
  have hm' : ∀ m ∈ hs, m ≤ 65535 := fun m h => (okM_range (hm m h)).2
  simp only [List.mem_cons, List.not_mem_nil, or_false] at hst
  refine ⟨fun c hc => (tx_mem (stray := stray) ?_ hc).1, ?_, strip_tx hl hm' ?_⟩
  · rcases hst with e | e | e <;> rw [e] <;> decide
  · have := tx_size (b := b) hl hm' (stray := stray) (by rcases hst with e | e | e <;> rw [e] <;> decide)
    omega
  · rcases hst with e | e | e <;> rw [e] <;> decide
theorem chk_ok {hs : List Int} {stray : List Nat} {b : Int} (hl : hs.length ≤ 5) (hm : ∀ m ∈ hs, OkM m) (hst : stray ∈ [[40], [41], []]) : ChkOk (tx hs stray 12 0 b) true := by
  have T := txt_ok (b := b) hl hm hst
  simp only [List.mem_cons, List.not_mem_nil, or_false] at hst
  exact ⟨T.no92, T.len, check_tx hl (fun m h => (okM_range (hm m h)).2) (by rcases hst with e | e | e <;> rw [e] <;> decide)⟩
theorem chk_un {hs : List Int} {stray : List Nat} {b : Int} (hl : hs.length ≤ 5) (hm : ∀ m ∈ hs, OkM m) (h0 : 0 ≤ b) (hst : stray ∈ [[40], [41], []]) : ChkOk (unm (tx hs stray 12 0 b)) (decide (stray = [] ∨ ∀ m ∈ hs, m ≤ b)) := by
  have T := txt_ok (b := b) hl hm hst
  refine ⟨fun c hc => T.no92 c (List.mem_filter.mp hc).1, Nat.lt_of_le_of_lt (List.length_filter_le _ _) T.len, check_un hl (fun m h => (okM_range (hm m h)).2) h0 ?_⟩
  simpa using hst
theorem low_fold (b : Int) (ns : List Int) : ns.foldl (fun l k => if k ≤ b then l ++ [k] else l) [] = low b ns := by
  have key : ∀ (ns l : List Int), ns.foldl (fun l k => if k ≤ b then l ++ [k] else l) l = l ++ low b ns := by
    intro ns
    induction ns with
    | nil => intro l; simp
    | cons a r ih =>
      intro l
      rw [List.foldl_cons, ih]
      by_cases q : a ≤ b
      · rw [if_pos q]; simp [low, q]
      · rw [if_neg q]; simp [low, q]
  rw [key]; rfl
theorem low_grows (b : Int) : KPfGrows (fun l k => if k ≤ b then l ++ [k] else l) := by
  intro l k
  try dsimp only
  split
  · simp
  · omega
theorem gen_toks {α : Type} {M : Model} {A : Around} {t : Sem α} {Q : α → Shared → Prop} {E : Value → Shared → Prop} {h : Heap} {g : Array GenState} {d : Drawn} {X : Nat} {o : OsState} (h1 : 1 ≤ X) (H : ∀ tk, 1 ≤ tk → wpAny M A t Q E ⟨h, g, d, tk, o⟩) : wpAny M A t Q E ⟨h, g, d, X, o⟩ := H X h1
theorem c_stripT {w : World} {mean : ExcName → Option Value} {mg mb : Str → Option Value} {dp un : Nat} {gd : Option (List Code)} {outer : List Env} {base : Heap} {s : Shared} {Q E : Value → Shared → Prop} {xs : List Nat} {fo : Fo} {t : Tok} (B : Below (top dp un gd outer) base outer s.heap) (X : (Kt w.params).In base) (T : Top vw loo mean mg mb base) (hx : TxtOk xs fo) (hdp : dp + 5 < recursionLimit) (hun : un + 32 < cLine)
  (hret : ∀ s' t', Ext [] s s' → s.toks ≤ s'.toks → Q (.str ⟨(flat fo).toArray⟩ t') s') :
  wpAny (model PySem.Challenge.rw_om0101_01.row.prog w) (top dp un gd outer) (call (.ref 28) [.str ⟨xs.toArray⟩ t]) Q E s := wpAny_with_toks (Nat.le_refl _) (c_stripF B X T hx hdp hun fun s' t' hE => hret s' t' hE)
theorem c_checkT {w : World} {mean : ExcName → Option Value} {mg mb : Str → Option Value} {dp un : Nat} {gd : Option (List Code)} {outer : List Env} {base : Heap} {s : Shared} {Q E : Value → Shared → Prop} {xs : List Nat} {v : Bool} {t : Tok} (B : Below (top dp un gd outer) base outer s.heap) (X : (Kt w.params).In base) (T : Top vw loo mean mg mb base) (hx : ChkOk xs v) (hdp : dp + 6 < recursionLimit) (hun : un + 40 < cLine)
  (hret : ∀ s', Ext [] s s' → s.toks ≤ s'.toks → Q (.bool v) s') :
  wpAny (model PySem.Challenge.rw_om0101_01.row.prog w) (top dp un gd outer) (call (.ref 35) [.str ⟨xs.toArray⟩ t]) Q E s := wpAny_with_toks (Nat.le_refl _) (c_checkF B X T hx hdp hun fun s' hE => hret s' hE)
theorem strike {prog : Program} {w : World} {A : Around} {E : Value → Shared → Prop} {s : Shared} {Q : Value → Shared → Prop} {y z : Str} {t u v : Tok} {xs : List Nat} (c : Nat) (hy : y = ⟨#[c]⟩) (hz : z = ⟨#[]⟩) (hx : xs.length ≤ 1000) (hu : @LE.le Nat instLENat 1 u) (hv : v = u + 1)
    (h : ∀ (t' : Tok) (k : Nat), @LE.le Nat instLENat s.toks k → Q (.str ⟨(xs.filter fun d => decide (d ≠ c)).toArray⟩ t') { s with toks := k }) : wpAny (model prog w) A (call (.builtin "str.replace") [.str ⟨xs.toArray⟩ t, .str y u, .str z v]) Q E s := by
  subst hy hz hv
  have hu' : u ≠ 0 := fun q => by rw [q] at hu; exact absurd hu (by decide)
  have hv' : u + 1 ≠ 0 := Nat.succ_ne_zero u
  have huv : u ≠ u + 1 := fun q => by
    have q' : @Eq Nat u (u + 1) := q
    omega
  refine wpAny_with_toks (Nat.le_refl _) (SC.replaceW hu' hv' huv rfl ?_ (by decide) fun t' k hk => ?_)
  · show xs.toArray.size ≤ _
    rw [List.size_toArray]; omega
  · have e : Txt.replace ⟨xs.toArray⟩ ⟨#[c]⟩ ⟨#[]⟩ = ⟨(xs.filter fun d => decide (d ≠ c)).toArray⟩ := by
      refine strT ?_
      rw [PyProof.Rows.replace_strikes]
      show xs.filter _ = _
      congr 1
      funext d
      by_cases q : d = c <;> simp [q]
    rw [e]; exact h t' k hk
end
section
theorem wd33x52 : True := by
  k_with_none
  k_with "omega" => (omega (splitDisjunctions := true))
  k_with "om2" => (first | lia | omega (splitDisjunctions := true))
  k_with "eval Name" => ((k_here; (with_reducible show wpAny _ _ (eval _ (envOf _ _ _ _ _)) _ _ _); k_dflt (refine' nmL ?yF ?yv ?yx ?yk ?yd ?_; (case yF => k_asm); (case yk => exact rfl); (case yx => exact rfl); (case yd => exact rfl); (case yv => exact rfl); k_whole)))
  k_with "storeName" => ((k_here; (with_reducible show wpAny _ _ (storeName (envOf _ _ _ _ _) _ _) _ _ _); k_dflt (refine' stoLe ?yF ?yN ?yx ?yk ?_; (case yF => k_asm); (case yN => k_asm); (case yk => exact rfl); (case yx => exact rfl); k_whole; intro m'ω h'ω F'ω N'ω; (try k_sweep))))
  k_with "eval Name" => ((k_here; (with_reducible show wpAny _ _ (eval _ (envOfC _ _ _ _ _)) _ _ _); k_dflt (refine' nmLC ?yF ?yv ?yk ?yx ?yd ?_; (case yF => k_asm); (case yk => exact rfl); (case yx => exact rfl); (case yd => exact rfl); (case yv => exact rfl); k_whole)))
  k_with "storeName" => ((k_here; (with_reducible show wpAny _ _ (storeName (envOfC _ _ _ _ _) _ _) _ _ _); k_dflt (refine' stoLCe ?yF ?yN ?yk ?yx ?_; (case yF => k_asm); (case yN => k_asm); (case yk => exact rfl); (case yx => exact rfl); k_whole; intro m'ω h'ω F'ω N'ω; (try k_sweep))))
  k_with "execs cons" => ((k_here; (first | (with_reducible show wpAny _ _ (execs _ _) (AtF _) _ _) | (refine execs_abs ?_; intro Q8ω q8ω)); k_dflt (refine execs_gen ?_); intro Q7ω t7ω g7ω o7ω; (try dsimp only)))
  k_with "AtF" => ((with_reducible first | refine AtF.go (by assumption) ?_ | (refine AtF.out (by assumption) (fun z => Flow.noConfusion z) ?_) | (refine AtF.fin (by assumption) ?_; (try dsimp only))))
  k_with "room" => (k_dflt (first | exact rm2 (by assumption) rfl | exact rm1 (by assumption) rfl | exact rm3 (by assumption) rfl | exact rm4 (by assumption) rfl | exact rm0 (by assumption)))
  k_with "kne" => ((refine neN ?_; (try dsimp only); k_extra "ne"))
  k_with "cj" => (first | exact And.left | exact id | (refine cjs ?_; k_extra "cj"))
  k_with "ne" => (with_reducible first | assumption | exact lne (by assumption) | exact gne (by assumption) | exact sne (by assumption) | exact suc | exact suc2 | exact sne suc | exact sne suc2 | (refine ltc (by assumption) ?_; k_extra "cj") | (refine gtc (by assumption) ?_; k_extra "cj") | (refine nec (by assumption) ?_; k_extra "cj") | (refine nfc (by assumption) ?_; k_extra "cj"))
  trivial
section
variable {prog : Program} {w : World} {A : Around} {E : Value → Shared → Prop} {s : Shared} {h₀ : Heap} {L : Addr} {m : Str → Option Value} {env : Env}
def SrcS (prog : Program) (w : World) (A : Around) (h₀ : Heap) (L : Addr) (m : Str → Option Value) (env : Env) (elt : Expr) (x : Str) (scope : Scope) (cl : List (Str × Addr)) (Q : Value → Shared → Prop) (xv : Value) (s₁ : Shared) : Prop :=
  ∃ r a b c t u v n news, xv = .ref r ∧ A.handled = none ∧ Fr h₀ L s₁.heap m ∧ News h₀ L s₁.heap news ∧ IsRange s₁.heap r a b c t u v ∧ Builtin.Range.small a b c = true ∧ Builtin.Range.rangeSize a b c = ((n : Nat) : Int) ∧ n ≤ sizeLine ∧
    ∀ g, LCg.CompRest prog w A h₀ L m env elt x scope cl { s₁ with heap := g } (fun _ => True) (fun i v => i < n ∧ ∃ t, v = .int (a + (i : Int) * c) t) (LCg.FinE h₀ L m { s₁ with heap := g } Q) n 0 [] news
theorem listComp_step {elt iter : Expr} {x : Str} {px : Pos} {scope : Scope} {cl : List (Str × Addr)} {pos : Pos} {Q : Value → Shared → Prop} (F₀ : Fr h₀ L s.heap m)
    (hclos : closureFor scope env = pure cl) (hcell : ∀ y ∈ scope.names, y.2 ≠ .cell) (hkind : scope.kind = .function)
    (hnames : ∀ y ∈ scope.names, y.2 = .local → scope.names.lookup y.1 = some .local) (hx : scope.names.lookup x = some .local)
    (h : wpAny (model prog w) A (eval iter env) (fun v s₁ => Stop (SrcS prog w A h₀ L m env elt x scope cl Q v s₁)) E s)
    (hs : ∀ x, foldedSetIterable iter env x = pure x := by intro _; rfl) :
    wpAny (model prog w) A (eval (.ListComp elt [⟨.Name x px, iter, [], 0⟩] scope pos) env) Q E s := by
  unfold Stop at h
  rw [eval_ListComp]
  refine wpAny_comprehension_free (use := none) rfl hs hclos hkind hnames (wpAny_mono h (fun xv s₁ h₁ => ?_) fun _ _ e => e)
  obtain ⟨r, a, b, c, t, u, v, n, news, rfl, hh, F, N, hr, hsm, hn, hsz, R⟩ := h₁
  refine wpAny_pyIter_range hr hsm ?_
  refine LCg.block_U ((Walks.range hh s₁.heap.objs.size a c n).bound) hsz (fun i h st => ⟨_, st⟩) ?_ hcell hkind hx (by show IsRangeIter _ _ _ _ _; rw [hn]; simpa using Heap.get?_push_size _ rfl) (fun b hb => ?_)
    (F.keeps fun _ _ e => Heap.get?_push_of_some _ e) (N.grown fun _ _ e => Heap.get?_push_of_some _ e) (Nat.ne_of_lt F.ns.lt) (next_is_new F) (fun p hp => Nat.ne_of_lt (Heap.lt_size (N p hp).1)) trivial (R _) ?_
  · intro i h h' o nw st e e' _ _ _
    have st' : h.get? s₁.heap.objs.size = some _ := st
    show h'.get? s₁.heap.objs.size = some _
    rw [e', ← e]; exact st'
  · rw [List.mem_singleton.mp hb]
    show s₁.heap.objs.size < (s₁.heap.push _).objs.size
    rw [Heap.size_push]; exact Nat.lt_succ_self _
  · intro D C h tk m' ys news' F' N' o1 hn hC₀ hD₀ hCL hDL hCD offC fin
    refine ⟨m', hn, fun h'' hs'' => fin D h'' tk (F'.change hs'' hCL hC₀) (fun p hp => ?_) o1⟩
    refine ⟨hs''.extBut _ _ ?_ (N' p hp).1, (N' p hp).2⟩
    rcases List.mem_cons.mp hp with rfl | hp
    · exact Ne.symm hCD
    · exact offC p hp
theorem step_rest {elt : Expr} {x : Str} {scope : Scope} {cl : List (Str × Addr)} {S : List (Addr × Obj) → Prop} {Fin : List Value → List (Addr × Obj) → Prop} {news : List (Addr × Obj)} {a c : Int} {n : Nat} (g : Nat → Int)
    (turn : ∀ (i : Nat) t I oI C oC D m₂ ys h tk (E' : Value → Shared → Prop), i < n → LCg.NsObj oC m₂ → m₂ x = some (.int (a + (i : Int) * c) t) → Fr h₀ L h m → News h₀ L h ((I, oI) :: (C, oC) :: (D, LCg.lst ys) :: news) → LCg.Off3 I C D news →
      wpAny (model prog w) A (eval elt (compEnvC scope cl C env)) (LCg.CompEnd h₀ L m { s with heap := h, toks := tk } I oI C oC D (LCg.lst ys) S (fun y news' => news' = news ∧ ∃ t', y = .int (g i) t')) E' { s with heap := h, toks := tk })
    (fin : ∀ ys, IntsAre ys ((List.range n).map g) → Fin ys news) : LCg.CompRest prog w A h₀ L m env elt x scope cl s S (fun i v => i < n ∧ ∃ t, v = .int (a + (i : Int) * c) t) Fin n 0 [] news := by
  have key : ∀ (j i : Nat) (ys : List Value), i + j = n → IntsAre ys ((List.range i).map g) → LCg.CompRest prog w A h₀ L m env elt x scope cl s S (fun i v => i < n ∧ ∃ t, v = .int (a + (i : Int) * c) t) Fin j i ys news := by
    intro j
    induction j with
    | zero =>
      intro i ys hi hy
      obtain rfl : i = n := by omega
      exact LCg.CompRest.zero (fin ys hy)
    | succ j ih =>
      intro i ys hi hy
      refine LCg.CompRest.succ ?_
      intro v I oI C oC D m₂ h tk E' hv hC hx F N off ne
      obtain ⟨hin, t, rfl⟩ := hv
      refine wpAny_mono (turn i t I oI C oC D m₂ ys h tk E' hin hC hx F N off) (fun y s₃ hr => ?_) fun _ _ e => e
      obtain ⟨h', tk', nw, e, F', N', off', hS, hn, t', hy'⟩ := hr
      rw [hn] at N' off' hS
      refine ⟨h', tk', news, e, F', N', off', hS, ?_⟩
      rw [hy']
      refine ih (i + 1) _ (by omega) ?_
      rw [List.range_succ, List.map_append]
      exact IntsAre.append hy (.cons _ t' .nil)
  exact key n 0 [] (by omega) (by simpa using IntsAre.nil)
end
theorem size_step (n : Nat) : Builtin.Range.rangeSize 0 ((10 * n : Nat) : Int) 10 = (n : Int) := by
  simp only [Builtin.Range.rangeSize]
  omega
theorem small_step {n : Nat} (h : n < 1000000) : Builtin.Range.small 0 ((10 * n : Nat) : Int) 10 = true := by
  unfold Builtin.Range.small
  rw [size_step]
  unfold Builtin.Range.rangeFitsLong
  have e : ∀ p q : Prop, [Decidable p] → [Decidable q] → p → q → (decide p && decide q) = true := fun p q _ _ a b => by rw [decide_eq_true a, decide_eq_true b]; rfl
  rw [e _ _ (by decide) (by decide), e _ _ (by omega) (by omega), e _ _ (by decide) (by decide), e _ _ (by omega) (by omega), if_pos (by decide), e _ _ (by omega) (by omega), Bool.or_true]
  rfl
theorem range_getD (l : List Int) : (List.range l.length).map (fun i => l.getD i 0) = l := by
  refine List.ext_getElem (by simp) fun i h1 h2 => ?_
  simp [List.getD_eq_getElem?_getD, List.getElem?_eq_getElem h2]
theorem chunk_txt (l : List Int) (i : Nat) (h : i < l.length) : IsTxt (Txt.slice ⟨(l.flatMap fmL).toArray⟩ (some (0 + (i : Int) * 10)) (some (0 + (i : Int) * 10 + 10))) (fmL (l.getD i 0)) := by
  refine ⟨strT ?_⟩
  have e1 : (0 + (i : Int) * 10) = ((10 * i : Nat) : Int) := by omega
  have e2 : (0 + (i : Int) * 10 + 10) = ((10 * i + 10 : Nat) : Int) := by omega
  rw [e2, e1, slice_ab _ (10 * i) (10 * i + 10) (by show 10 * i + 10 ≤ (l.flatMap fmL).toArray.size; rw [List.size_toArray, fmap_len]; omega)]
  exact chunk l i h
structure SameL (a b : List Int) : Prop where
  eq : a = b
section
variable {prog : Program} {w : World} {A : Around} {E : Value → Shared → Prop} {s : Shared} {h₀ : Heap} {L l a b : Addr} {m : Str → Option Value} {news : List (Addr × Obj)} {Q : Value → Shared → Prop} {vs ws : List Value} {ns ms : List Int} {n k : Nat}
theorem sorted_ints (F : Fr h₀ L s.heap m) (N : News h₀ L s.heap news) (hm : (l, listOf vs.toArray n) ∈ news) (hi : IntsAre vs ns) (h64 : ns.length < 64)
    (h : ∀ D vs' c h', Fr h₀ L h' m → News h₀ L h' ((D, listOf vs'.toArray c) :: news) → (∀ q ∈ news, q.1 < D) → IntsAre vs' (srt ns) → Q (.ref D) { s with heap := h' }) :
    wpAny (model prog w) A (call (.builtin "sorted") [.ref l]) Q E s :=
  kso_sorted F N ⟨_, (N _ hm).1, rfl, n, rfl⟩ hi h64 fun D vs' ns' c h' F' N' l1 hI _ hp ho _ => h D vs' c h' F' N' l1 (srt_eq hp.symm ho ▸ hI)
theorem ne_same (N : News h₀ L s.heap news) (ha : (a, listOf vs.toArray n) ∈ news) (hb : (b, listOf ws.toArray k) ∈ news) (hi : IntsAre vs ns) (hj : IntsAre ws ms) (e : SameL ns ms) (hu : A.units + 64 < cLine) (h : Q (.bool false) s) : wpAny (model prog w) A (compareOp .NotEq (.ref a) (.ref b)) Q E s := by
  obtain ⟨rfl⟩ := e
  refine ke_ne_ints (xs := vs) (ys := ws) ⟨_, (N _ ha).1, rfl, n, rfl⟩ ⟨_, (N _ hb).1, rfl, k, rfl⟩ hi hj hu ?_
  simpa using h
theorem len_ints (N : News h₀ L s.heap news) (hm : (a, listOf vs.toArray n) ∈ news) (hi : IntsAre vs ns) (hz : ns.length < 1000) (h : Q (.int (ns.length : Int) (s.toks + 1)) { s with toks := s.toks + 1 + 1 }) : wpAny (model prog w) A (call (.builtin "len") [.ref a]) Q E s := by
  have hl := hi.length
  refine PyProof.Rows.len_list (items := vs.toArray) ⟨_, (N _ hm).1, rfl, n, rfl⟩ (by rw [List.size_toArray]; omega) ?_
  rw [List.size_toArray, hl]; exact h
end
end
section
theorem wd34x53 : True := by
  k_with_none
  k_with "omega" => (omega (splitDisjunctions := true))
  k_with "om2" => (first | lia | omega (splitDisjunctions := true))
  k_with "eval Name" => ((k_here; (with_reducible show wpAny _ _ (eval _ (envOf _ _ _ _ _)) _ _ _); k_dflt (refine' nmL ?yF ?yv ?yx ?yk ?yd ?_; (case yF => k_asm); (case yk => exact rfl); (case yx => exact rfl); (case yd => exact rfl); (case yv => exact rfl); k_whole)))
  k_with "storeName" => ((k_here; (with_reducible show wpAny _ _ (storeName (envOf _ _ _ _ _) _ _) _ _ _); k_dflt (refine' stoLe ?yF ?yN ?yx ?yk ?_; (case yF => k_asm); (case yN => k_asm); (case yk => exact rfl); (case yx => exact rfl); k_whole; intro m'ω h'ω F'ω N'ω; (try k_sweep))))
  k_with "eval Name" => ((k_here; (with_reducible show wpAny _ _ (eval _ (envOfC _ _ _ _ _)) _ _ _); k_dflt (refine' nmLC ?yF ?yv ?yk ?yx ?yd ?_; (case yF => k_asm); (case yk => exact rfl); (case yx => exact rfl); (case yd => exact rfl); (case yv => exact rfl); k_whole)))
  k_with "storeName" => ((k_here; (with_reducible show wpAny _ _ (storeName (envOfC _ _ _ _ _) _ _) _ _ _); k_dflt (refine' stoLCe ?yF ?yN ?yk ?yx ?_; (case yF => k_asm); (case yN => k_asm); (case yk => exact rfl); (case yx => exact rfl); k_whole; intro m'ω h'ω F'ω N'ω; (try k_sweep))))
  k_with "execs cons" => ((k_here; (first | (with_reducible show wpAny _ _ (execs _ _) (AtF _) _ _) | (refine execs_abs ?_; intro Q8ω q8ω)); k_dflt (refine execs_gen ?_); intro Q7ω t7ω g7ω o7ω; (try dsimp only)))
  k_with "AtF" => ((with_reducible first | refine AtF.go (by assumption) ?_ | (refine AtF.out (by assumption) (fun z => Flow.noConfusion z) ?_) | (refine AtF.fin (by assumption) ?_; (try dsimp only))))
  k_with "room" => (k_dflt (first | exact rm2 (by assumption) rfl | exact rm1 (by assumption) rfl | exact rm3 (by assumption) rfl | exact rm4 (by assumption) rfl | exact rm0 (by assumption)))
  k_with "kne" => ((refine neN ?_; (try dsimp only); k_extra "ne"))
  k_with "cj" => (first | exact And.left | exact id | (refine cjs ?_; k_extra "cj"))
  k_with "ne" => (with_reducible first | assumption | exact lne (by assumption) | exact gne (by assumption) | exact sne (by assumption) | exact suc | exact suc2 | exact sne suc | exact sne suc2 | (refine ltc (by assumption) ?_; k_extra "cj") | (refine gtc (by assumption) ?_; k_extra "cj") | (refine nec (by assumption) ?_; k_extra "cj") | (refine nfc (by assumption) ?_; k_extra "cj"))
  trivial
def fdat : Fo → List PyData
  | .nil => []
  | .cons m c r => .list (.int m :: fdat c) :: fdat r
theorem fdat_lay : ∀ f : Fo, PyData.canLayAll0 (fdat f) = true ∧ PyData.depthAll (fdat f) ≤ fsz f
  | .nil => ⟨rfl, Nat.le_refl _⟩
  | .cons m c r => by
    have h1 := fdat_lay c
    have h2 := fdat_lay r
    constructor
    · simp only [fdat, PyData.canLayAll0, PyData.canLay0, h1.1, h2.1]; rfl
    · simp only [fdat, PyData.depthAll, PyData.depth, fsz]; omega
theorem fdat_shaped {f : Fo} (h : fsz f ≤ 5) : SeqAt.shaped (.list (fdat f)) = true := by
  have := fdat_lay f
  unfold SeqAt.shaped
  rw [PyData.canLay0, PyData.depth, this.1]
  simp only [Bool.true_and, decide_eq_true_eq]
  omega
theorem rep_reads {h : Heap} {D : News'} (hD : ∀ p ∈ D, h.get? p.1 = some p.2) {vs : List Value} {f : Fo} (r : RepF D vs f) : ∃ as, ReadsAll h vs (fdat f) as := by
  induction r with
  | nil => exact ⟨_, .nil⟩
  | cons h1 _ _ i1 i2 =>
    obtain ⟨as, r1⟩ := i1
    obtain ⟨bs, r2⟩ := i2
    exact ⟨_, .cons (.list (hD _ h1) rfl rfl (.cons (.int _ _) r1)) r2⟩
section
variable {prog : Program} {w : World} {A : Around} {E : Value → Shared → Prop} {s : Shared} {h₀ : Heap} {L a b : Addr} {news D D' : News'} {Q : Value → Shared → Prop} {vs ws : List Value} {n k : Nat}
theorem ne_rep {f : Fo} (N : News h₀ L s.heap news) (ha : (a, listOf vs.toArray n) ∈ news) (hb : (b, listOf ws.toArray k) ∈ news) (hD : ∀ p ∈ D, p ∈ news) (hD' : ∀ p ∈ D', p ∈ news) (r1 : RepF D vs f) (r2 : RepF D' ws f) (hf : fsz f ≤ 5)
    (hu : A.units + 64 < cLine) (h : Q (.bool false) s) : wpAny (model prog w) A (compareOp .NotEq (.ref a) (.ref b)) Q E s := by
  obtain ⟨as, q1⟩ := rep_reads (fun p hp => (N p (hD p hp)).1) r1
  obtain ⟨bs, q2⟩ := rep_reads (fun p hp => (N p (hD' p hp)).1) r2
  refine ne_dataH (reads_list_at (N _ ha).1 rfl rfl (by simpa using q1)) (reads_list_at (N _ hb).1 rfl rfl (by simpa using q2)) (fdat_shaped hf) (fdat_shaped hf) hu ?_
  rw [SeqAt.eqv_refl _ (by rw [PyData.canLay0]; exact (fdat_lay f).1)]
  exact h
end
structure FoOk (f : Fo) : Prop where
  ok : OkF f
  len : (flat f).length < 900
  sz : fsz f ≤ 5
theorem c_parsed5 {f : Fo} {w : World} {mean : ExcName → Option Value} {mg mb : Str → Option Value} {dp un : Nat} {gd : Option (List Code)} {outer : List Env} {base : Heap} {s : Shared} {Q E : Value → Shared → Prop} {t : Tok} (B : Below (top dp un gd outer) base outer s.heap) (X : (Kt w.params).In base) (T : Top vw loo mean mg mb base) (hf : FoOk f) (hdp : dp + 20 < recursionLimit) (hun : un + 160 < cLine)
  (hret : ∀ s' r vs' n' D, Ext [] s s' → s.heap.get? r = none → s'.heap.get? r = some (listOf vs'.toArray n') → Fresh s s' D → RepF D vs' f → Q (.ref r) s') :
  wpAny (model PySem.Challenge.rw_om0101_01.row.prog w) (top dp un gd outer) (call (.ref 219) [.str ⟨(flat f).toArray⟩ t]) Q E s :=
  parsed_all f B X T hf.ok hf.len (by have := hf.sz; omega) (by have := hf.sz; omega) fun s' r vs' n' D h1 h2 h3 h4 h5 _ => hret s' r vs' n' D h1 h2 h3 h4 h5
theorem c_treeT {w : World} {mean : ExcName → Option Value} {mg mb : Str → Option Value} {dp un : Nat} {gd : Option (List Code)} {outer : List Env} {base : Heap} {s : Shared} {Q E : Value → Shared → Prop} {l : Addr} {vs : List Value} {hs : List Int} {n : Nat} {b : Int} {t0 t1 : Tok} (B : Below (top dp un gd outer) base outer s.heap) (X : (Kt w.params).In base) (T : Top vw loo mean mg mb base) (H : Has base outer s.heap [(l, listOf vs.toArray n)])
  (hi : IntsAre vs hs) (hlen : hs.length ≤ 5) (hdp : dp + 20 < recursionLimit) (hun : un + 160 < cLine)
  (hret : ∀ s' r vs' n' D, Ext [] s s' → s.heap.get? r = none → s'.heap.get? r = some (listOf vs'.toArray n') → Fresh s s' D → RepF D vs' (trF hs b 6 0) → s.toks ≤ s'.toks → Q (.ref r) s') :
  wpAny (model PySem.Challenge.rw_om0101_01.row.prog w) (top dp un gd outer) (call (.ref 214) [.ref l, .int 0 t0, .int b t1]) Q E s :=
  wpAny_with_toks (Nat.le_refl _) (c_tree B X T H hi hlen hdp hun fun s' r vs' n' D h1 h2 h3 h4 h5 _ => hret s' r vs' n' D h1 h2 h3 h4 h5)
/-- nsmallest of a list of 2 to 5 ints -/
def NsmC : Prop := ∀ {w : World} {mean : ExcName → Option Value} {mg mb : Str → Option Value} {dp un : Nat} {gd : Option (List Code)} {outer : List Env} {base : Heap} {s : Shared} {Q E : Value → Shared → Prop} {l : Addr} {vs : List Value} {hs : List Int} {n : Nat} {c : Int} {t0 : Tok} (B : Below (top dp un gd outer) base outer s.heap) (X : (Kt w.params).In base) (T : Top vw loo mean mg mb base) (H : Has base outer s.heap [(l, listOf vs.toArray n)])
  (hi : IntsAre vs hs) (h2 : 2 ≤ hs.length) (hlen : hs.length ≤ 5) (h0 : 0 ≤ c) (hc : c ≤ hs.length) (hdp : dp + 20 < recursionLimit) (hun : un + 160 < cLine)
  (hret : ∀ s' r vs' n', Ext [] s s' → s.heap.get? r = none → s'.heap.get? r = some (listOf vs'.toArray n') → IntsAre vs' ((srt hs).take c.toNat) → Q (.ref r) s'),
  wpAny (model PySem.Challenge.rw_om0101_01.row.prog w) (top dp un gd outer) (call (.ref 118) [.int c t0, .ref l]) Q E s
theorem nsm_use (hN : NsmC) {w : World} {mean : ExcName → Option Value} {mg mb : Str → Option Value} {dp un : Nat} {gd : Option (List Code)} {outer : List Env} {base : Heap} {s : Shared} {Q E : Value → Shared → Prop} {l : Addr} {vs : List Value} {hs : List Int} {n : Nat} {c : Int} {t0 : Tok} (B : Below (top dp un gd outer) base outer s.heap) (X : (Kt w.params).In base) (T : Top vw loo mean mg mb base) (H : Has base outer s.heap [(l, listOf vs.toArray n)])
  (hi : IntsAre vs hs) (h2 : 2 ≤ hs.length) (hlen : hs.length ≤ 5) (h0 : 0 ≤ c) (hc : c ≤ hs.length) (hdp : dp + 20 < recursionLimit) (hun : un + 160 < cLine)
  (hret : ∀ s' r vs' n', Ext [] s s' → s.heap.get? r = none → s'.heap.get? r = some (listOf vs'.toArray n') → IntsAre vs' ((srt hs).take c.toNat) → Q (.ref r) s') :
  wpAny (model PySem.Challenge.rw_om0101_01.row.prog w) (top dp un gd outer) (call (.ref 118) [.int c t0, .ref l]) Q E s := hN B X T H hi h2 hlen h0 hc hdp hun hret
structure SameF (a b : Fo) : Prop where
  eq : a = b
theorem c_treeF {w : World} {mean : ExcName → Option Value} {mg mb : Str → Option Value} {dp un : Nat} {gd : Option (List Code)} {outer : List Env} {base : Heap} {s : Shared} {Q E : Value → Shared → Prop} {l : Addr} {vs : List Value} {hs : List Int} {n : Nat} {b : Int} {fo : Fo} {t0 t1 : Tok} (B : Below (top dp un gd outer) base outer s.heap) (X : (Kt w.params).In base) (T : Top vw loo mean mg mb base) (H : Has base outer s.heap [(l, listOf vs.toArray n)])
  (hi : IntsAre vs hs) (hlen : hs.length ≤ 5) (hfo : SameF (trF hs b 6 0) fo) (hdp : dp + 20 < recursionLimit) (hun : un + 160 < cLine)
  (hret : ∀ s' r vs' n' D, Ext [] s s' → s.heap.get? r = none → s'.heap.get? r = some (listOf vs'.toArray n') → Fresh s s' D → RepF D vs' fo → s.toks ≤ s'.toks → Q (.ref r) s') :
  wpAny (model PySem.Challenge.rw_om0101_01.row.prog w) (top dp un gd outer) (call (.ref 214) [.ref l, .int 0 t0, .int b t1]) Q E s := by
  obtain ⟨rfl⟩ := hfo
  exact c_treeT B X T H hi hlen hdp hun hret
theorem goodG {c : ClaimW} {cl : Str → Option Addr} {mean : ExcName → Option Value} {args : List WData} {s₁ s' : Shared} {L : Addr} {m : Str → Option Value} {b : Bool} (e : b = true) (F : Fr s₁.heap L s'.heap m) (hos : s'.os = s₁.os) (hb : AllBare s'.gens)
    (hn : ∀ cls, c.raises args cls = false) (hp : c.post args (.bool true) args = true) : GoodWG c cl mean args s₁ (.ok (.ret (.bool b))) s' := by
  subst e
  exact ⟨.inl ⟨_, .bool true, [], rfl, hn, .bool true, hp, fun _ => ⟨.nil, fun _ h => nomatch h⟩⟩, .of_keep F.keep, hos, hb⟩
theorem end_or {c : List Nat} {b : Int} {hp row : List Int} (I : Inv hp row) : (a : ((⟨c.toArray⟩ : Str) == Str.ofString "") = true) → (decide (c = [] ∨ ∀ m, m ∈ hp → m ≤ b) == ((⟨c.toArray⟩ : Str) == Str.ofString "")) = true := by
  intro a
  rw [a]
  rw [of0] at a
  rw [decide_eq_true (Or.inl (str_eq a))]; rfl
theorem end_and {c : List Nat} {b : Int} {hp row : List Int} (I : Inv hp row) (a : ((⟨c.toArray⟩ : Str) == Str.ofString "") = false) : (decide (c = [] ∨ ∀ m, m ∈ hp → m ≤ b) == decide (low b row = row)) = true := by
  rw [of0] at a
  have hc := str_ne a
  have e : (c = [] ∨ ∀ m, m ∈ hp → m ≤ b) ↔ low b row = row := by
    rw [low_all]
    exact ⟨fun h m hm => (h.resolve_left hc) m (I.perm.symm.subset hm), fun h => .inr fun m hm => h m (I.perm.subset hm)⟩
  by_cases q : low b row = row
  · rw [decide_eq_true q, decide_eq_true (e.mpr q)]; rfl
  · rw [decide_eq_false q, decide_eq_false fun z => q (e.mp z)]; rfl
end
section
theorem wd35x54 : True := by
  k_with_none
  k_with "omega" => (omega (splitDisjunctions := true))
  k_with "om2" => (first | lia | omega (splitDisjunctions := true))
  k_with "eval Name" => ((k_here; (with_reducible show wpAny _ _ (eval _ (envOf _ _ _ _ _)) _ _ _); k_dflt (refine' nmL ?yF ?yv ?yx ?yk ?yd ?_; (case yF => k_asm); (case yk => exact rfl); (case yx => exact rfl); (case yd => exact rfl); (case yv => exact rfl); k_whole)))
  k_with "storeName" => ((k_here; (with_reducible show wpAny _ _ (storeName (envOf _ _ _ _ _) _ _) _ _ _); k_dflt (refine' stoLe ?yF ?yN ?yx ?yk ?_; (case yF => k_asm); (case yN => k_asm); (case yk => exact rfl); (case yx => exact rfl); k_whole; intro m'ω h'ω F'ω N'ω; (try k_sweep))))
  k_with "eval Name" => ((k_here; (with_reducible show wpAny _ _ (eval _ (envOfC _ _ _ _ _)) _ _ _); k_dflt (refine' nmLC ?yF ?yv ?yk ?yx ?yd ?_; (case yF => k_asm); (case yk => exact rfl); (case yx => exact rfl); (case yd => exact rfl); (case yv => exact rfl); k_whole)))
  k_with "storeName" => ((k_here; (with_reducible show wpAny _ _ (storeName (envOfC _ _ _ _ _) _ _) _ _ _); k_dflt (refine' stoLCe ?yF ?yN ?yk ?yx ?_; (case yF => k_asm); (case yN => k_asm); (case yk => exact rfl); (case yx => exact rfl); k_whole; intro m'ω h'ω F'ω N'ω; (try k_sweep))))
  k_with "execs cons" => ((k_here; (first | (with_reducible show wpAny _ _ (execs _ _) (AtF _) _ _) | (refine execs_abs ?_; intro Q8ω q8ω)); k_dflt (refine execs_gen ?_); intro Q7ω t7ω g7ω o7ω; (try dsimp only)))
  k_with "AtF" => ((with_reducible first | refine AtF.go (by assumption) ?_ | (refine AtF.out (by assumption) (fun z => Flow.noConfusion z) ?_) | (refine AtF.fin (by assumption) ?_; (try dsimp only))))
  k_with "room" => (k_dflt (first | exact rm2 (by assumption) rfl | exact rm1 (by assumption) rfl | exact rm3 (by assumption) rfl | exact rm4 (by assumption) rfl | exact rm0 (by assumption)))
  k_with "kne" => ((refine neN ?_; (try dsimp only); k_extra "ne"))
  k_with "cj" => (first | exact And.left | exact id | (refine cjs ?_; k_extra "cj"))
  k_with "ne" => (with_reducible first | assumption | exact lne (by assumption) | exact gne (by assumption) | exact sne (by assumption) | exact suc | exact suc2 | exact sne suc | exact sne suc2 | (refine ltc (by assumption) ?_; k_extra "cj") | (refine gtc (by assumption) ?_; k_extra "cj") | (refine nec (by assumption) ?_; k_extra "cj") | (refine nfc (by assumption) ?_; k_extra "cj"))
  trivial
theorem row_raises (args : List WData) (cls : ExcName) : PySem.Challenge.rw_om0101_01.row.toRowW.claim.raises args cls = false := by
  first
  | rfl
  | exact raisesW_false (by wrow_none_raised) cls
theorem row_post (args : List WData) : PySem.Challenge.rw_om0101_01.row.toRowW.claim.post args (.bool true) args = true := by
  first
  | rfl
  | wrow_post
end
section
theorem wd36x55 : True := by
  k_with_none
  k_with "omega" => (first | lia | omega (splitDisjunctions := true))
  k_with "om2" => (first | lia | omega (splitDisjunctions := true))
  k_with "eval Name" => ((k_here; (with_reducible show wpAny _ _ (eval _ (envOf _ _ _ _ _)) _ _ _); k_dflt (refine' nmL ?yF ?yv ?yx ?yk ?yd ?_; (case yF => k_asm); (case yk => exact rfl); (case yx => exact rfl); (case yd => exact rfl); (case yv => exact rfl); k_whole)))
  k_with "storeName" => ((k_here; (with_reducible show wpAny _ _ (storeName (envOf _ _ _ _ _) _ _) _ _ _); k_dflt (refine' stoLe ?yF ?yN ?yx ?yk ?_; (case yF => k_asm); (case yN => k_asm); (case yk => exact rfl); (case yx => exact rfl); k_whole; intro m'ω h'ω F'ω N'ω; (try k_sweep))))
  k_with "eval Name" => ((k_here; (with_reducible show wpAny _ _ (eval _ (envOfC _ _ _ _ _)) _ _ _); k_dflt (refine' nmLC ?yF ?yv ?yk ?yx ?yd ?_; (case yF => k_asm); (case yk => exact rfl); (case yx => exact rfl); (case yd => exact rfl); (case yv => exact rfl); k_whole)))
  k_with "storeName" => ((k_here; (with_reducible show wpAny _ _ (storeName (envOfC _ _ _ _ _) _ _) _ _ _); k_dflt (refine' stoLCe ?yF ?yN ?yk ?yx ?_; (case yF => k_asm); (case yN => k_asm); (case yk => exact rfl); (case yx => exact rfl); k_whole; intro m'ω h'ω F'ω N'ω; (try k_sweep))))
  k_with "execs cons" => ((k_here; (first | (with_reducible show wpAny _ _ (execs _ _) (AtF _) _ _) | (refine execs_abs ?_; intro Q8ω q8ω)); k_dflt (refine execs_gen ?_); intro Q7ω t7ω g7ω o7ω; (try dsimp only)))
  k_with "AtF" => ((with_reducible first | refine AtF.go (by assumption) ?_ | (refine AtF.out (by assumption) (fun z => Flow.noConfusion z) ?_) | (refine AtF.fin (by assumption) ?_; (try dsimp only))))
  k_with "room" => (k_dflt (first | exact rm2 (by assumption) rfl | exact rm1 (by assumption) rfl | exact rm3 (by assumption) rfl | exact rm4 (by assumption) rfl | exact rm0 (by assumption)))
  k_with "kne" => ((refine neN ?_; (try dsimp only); k_extra "ne"))
  k_with "cj" => (first | exact And.left | exact id | (refine cjs ?_; k_extra "cj"))
  k_with "ne" => (with_reducible first | assumption | exact lne (by assumption) | exact gne (by assumption) | exact sne (by assumption) | exact suc | exact suc2 | exact sne suc | exact sne suc2 | (refine ltc (by assumption) ?_; k_extra "cj") | (refine gtc (by assumption) ?_; k_extra "cj") | (refine nec (by assumption) ?_; k_extra "cj") | (refine nfc (by assumption) ?_; k_extra "cj"))
  trivial
def itObj (l : Addr) (i : Nat) : Obj := { cls := .type "list_iterator", data := .fields #[.ref l, .int (i : Int) 0] }
section
variable {prog : Program} {w : World} {A : Around} {E : Value → Shared → Prop} {s : Shared} {h₀ : Heap} {L l a b : Addr} {m : Str → Option Value} {news : List (Addr × Obj)} {Q : Value → Shared → Prop} {vs ws : List Value} {ns ms : List Int} {n k : Nat}
theorem iter_list (F : Fr h₀ L s.heap m) (N : News h₀ L s.heap news) (hm : (l, listOf vs.toArray n) ∈ news)
    (h : ∀ I h', Fr h₀ L h' m → News h₀ L h' ((I, itObj l 0) :: news) → (∀ p ∈ news, p.1 < I) → Q (.ref I) { s with heap := h' }) : wpAny (model prog w) A (call (.builtin "iter") [.ref l]) Q E s := by
  refine call_function_entry (by decide +kernel) (by decide +kernel) kdk_entry_iter (kdk_args_iter _) ?_
  unfold Builtin.«iter»
  refine wpAny_bind (m := someArgs "iter" 1 2 _) (wpAny_of_eq (a := [Value.ref l]) (by first | rfl | kernel_rfl!) ?_)
  try dsimp only
  refine wpAny_bind (wpAny_pyIter_list (items := vs.toArray) ⟨_, (N _ hm).1, rfl, n, rfl⟩ ?_)
  refine wpAny_pure ⟨_, rfl, h _ _ (F.push _) (fun p hp => ?_) fun p hp => Heap.lt_size (N p hp).1⟩
  rcases List.mem_cons.mp hp with rfl | hp
  · refine ⟨Heap.get?_push_size _ rfl, fun q => ?_, ?_⟩
    · obtain ⟨o, _, _, e, _⟩ := F.ns
      exact absurd (Heap.lt_size e) (q ▸ Nat.lt_irrefl _)
    · cases q : h₀.get? s.heap.objs.size with
      | none => rfl
      | some o => exact absurd (Heap.lt_size (F.keep _ _ q)) (Nat.lt_irrefl _)
  · exact ⟨Heap.get?_push_of_some _ (N p hp).1, (N p hp).2⟩
theorem sort_none (x : Addr) : Builtin.«list.sort» ⟨[.ref x], [(Str.ofString "key", .none)]⟩ = Builtin.«list.sort» ⟨[.ref x], []⟩ := by
  with_unfolding_all rfl
theorem args_sorted_key (a v : Value) : argsOk "sorted" ⟨[a], [(Str.ofString "key", v)]⟩ := by unfold argsOk; kernel_rfl
theorem args_sort_key (a v : Value) : argsOk "list.sort" ⟨[a], [(Str.ofString "key", v)]⟩ := by unfold argsOk; kernel_rfl
theorem sorted_none (F : Fr h₀ L s.heap m) (N : News h₀ L s.heap news) (hm : (l, listOf vs.toArray n) ∈ news) (hI : IntsAre vs ns) (h64 : ns.length < 64)
    (h : ∀ D vs' c h', Fr h₀ L h' m → News h₀ L h' ((D, listOf vs'.toArray c) :: news) → (∀ q ∈ news, q.1 < D) → IntsAre vs' (srt ns) → Q (.ref D) { s with heap := h' }) :
    wpAny (model prog w) A (call (.builtin "sorted") [.ref l] [(Str.ofString "key", .none)]) Q E s := by
  have hl : s.heap.IsList l vs.toArray := ⟨_, (N _ hm).1, rfl, n, rfl⟩
  have hvl := hI.length
  have h64' : vs.length < 64 := by omega
  refine call_function_entry_kw kind_sorted plain_sorted entry_sorted (args_sorted_key _ _) ?_
  unfold Builtin.«sorted»
  refine wpAny_bind (m := checkCount "sorted" 1 1 _) (wpAny_pure ?_)
  refine wpAny_bind (collect_list hl ?_)
  refine wpAny_bind (wpAny_newList ?_)
  have hsz : ((s.heap.push (seqObj "list" #[] 0)).update s.heap.objs.size (Obj.mapSeq (· ++ vs.toArray))).objs.size = s.heap.objs.size + 1 := by
    rw [Heap.size_update, size_push']
  have hoL : (((s.heap.push (seqObj "list" #[] 0)).update s.heap.objs.size (Obj.mapSeq (· ++ vs.toArray))).push (seqObj "list" vs.toArray 0)).get? (s.heap.objs.size + 1) = some (seqObj "list" vs.toArray 0) := by
    rw [← hsz]; exact Heap.get?_push_size _ rfl
  show wpAny _ _ _ _ _ { s with heap := ((s.heap.push (seqObj "list" #[] 0)).update s.heap.objs.size (Obj.mapSeq (· ++ vs.toArray))).push (seqObj "list" vs.toArray 0) }
  rw [hsz]
  refine wpAny_bind (wpAny_holding (wpAny_call_entry_kw slot_list_sort ⟨_, hoL, rfl⟩ entry_list_sort ?_ (args_sort_key _ _)))
  rw [sort_none]
  refine list_sort_tree hoL hI h64' fun out ns' a1 a2 a3 => ⟨_, rfl, ?_⟩
  refine wpAny_pure ⟨_, rfl, ?_⟩
  obtain ⟨e, he⟩ := sortedAll_at s.heap vs out
  exact h _ out.toList e _ (F.kept fun _ _ => sortedAll_old) (N.kept_cons F (fun _ _ => sortedAll_old) (Nat.le_succ _) he) (fun p hp => Nat.lt_succ_of_lt (Heap.lt_size (N p hp).1)) (srt_eq a2.symm a3 ▸ a1)
end
section
variable {prog : Program} {w : World} {A : Around} {E : Value → Shared → Prop} {R : Result → Shared → Prop} {s : Shared} {h₀ : Heap} {L l I S : Addr} {m : Str → Option Value} {news : List (Addr × Obj)} {Q : Value → Shared → Prop} {vs ws : List Value} {ns ms : List Int} {n k : Nat}
theorem min_loop_d {d : Value} (hh : A.handled = none) (hi : IntsAre vs ns) (hlI : l ≠ I) (hlS : l ≠ S) (hSI : S ≠ I) :
    ∀ (k j : Nat) (s : Shared) (M : Int) (t : Tok) (c : Nat), ns.length - j = k → j ≤ ns.length → s.heap.IsListIter I l j → s.heap.IsList l vs.toArray → M ∈ ns → (∀ i, i < j → M ≤ ns.getD i 0) →
    s.heap.get? S = some { cls := .type "list", dict := none, data := .seq #[.int M t, .int M t] c, slots := #[] } →
    (∀ M t h' tk, M ∈ ns → (∀ a ∈ ns, M ≤ a) → (∀ b o, b ≠ I → b ≠ S → s.heap.get? b = some o → h'.get? b = some o) → R (.ok (.ret (.int M t))) { s with heap := h', toks := tk }) →
    codeAny (model prog w) A (.builtin "min.loop" ⟨[.ref I, .none, .ref S], [(Str.ofString "default", d)]⟩) R s := by
  have hname : (toString "min" ++ toString ".loop" : String) = "min.loop" := by decide
  have hvl := hi.length
  have hh1 : A.in1.handled = none := hh
  intro k
  induction k with
  | zero =>
    intro j s M t c hk hj hit hl hM hle hS hR
    have hjn : j = ns.length := by omega
    refine codeAny_builtin PySem.F.entry_min_loop ?_
    rw [Around.under_plainId PySem.F.plain_min_loop _]
    show wpAny _ A.in1 (seqItems? (.ref S) >>= _) _ _ s
    refine wpAny_bind (wpAny_seqItems hS rfl ?_)
    show wpAny _ A.in1 (tryCatch (pyNext (.ref I)) _ >>= _) _ _ s
    refine wpAny_bind (wpAny_tryCatch (wpAny_pyNext_list_end hh1 hit hl (by rw [Array.getElem?_eq_none]; rw [List.size_toArray]; omega) fun h' hk' => ?_))
    have hS' := hk' S _ hSI hS
    show wpAny _ A.in1 (updateSeq S (fun _ => #[]) >>= _) _ _ _
    refine wpAny_bind ?_
    refine wpAny_updateSeq hS' rfl (wpAny_bind (wpAny_letGo (wpAny_pure ?_)))
    refine hR M t _ s.toks hM (fun a ha => ?_) fun b o hbI hbS e => (Heap.get?_update_other _ _ (Ne.symm hbS)).trans (hk' b o hbI e)
    obtain ⟨i, hi', rfl⟩ := List.getElem_of_mem ha
    have := hle i (by omega)
    rw [List.getD_eq_getElem?_getD, List.getElem?_eq_getElem hi'] at this
    exact this
  | succ k ih =>
    intro j s M t c hk hj hit hl hM hle hS hR
    have hlt : j < vs.length := by omega
    have hltn : j < ns.length := by omega
    obtain ⟨x, tx, hvx, hx⟩ := IntsAre.at hi j _ (List.getElem?_eq_getElem hlt)
    have hxg : ns.getD j 0 = x := by rw [List.getD_eq_getElem?_getD, hx]; rfl
    have hxm : x ∈ ns := List.mem_of_getElem? hx
    refine codeAny_builtin PySem.F.entry_min_loop ?_
    rw [Around.under_plainId PySem.F.plain_min_loop _]
    show wpAny _ A.in1 (seqItems? (.ref S) >>= _) _ _ s
    refine wpAny_bind (wpAny_seqItems hS rfl ?_)
    show wpAny _ A.in1 (tryCatch (pyNext (.ref I)) _ >>= _) _ _ s
    refine wpAny_bind (wpAny_tryCatch (wpAny_pyNext_list_item (x := .int x tx) hit hl (by rw [List.getElem?_toArray, List.getElem?_eq_getElem hlt, hvx]) fun h' hit' hk' => ?_))
    have hS' := hk'.extBut S _ hSI hS
    have hl' : h'.IsList l vs.toArray := hl.extBut hk'.extBut hlI
    show wpAny _ A.in1 (tryCatch (holding [.int x tx, .int x tx] (richCompare .Lt (.int x tx) (.int M t) >>= _)) _ >>= _) _ _ _
    refine wpAny_bind (wpAny_tryCatch (wpAny_holding (wpAny_bind ?_)))
    show wpAny _ A.in1 (compareOp .Lt (.int x tx) (.int M t)) _ _ _
    refine PyProof.Rows.lt_int ?_
    refine wpAny_bind (wpAny_holding (wpAny_truthy_bool ?_))
    refine wpAny_bind (wpAny_letGo (wpAny_pure ?_))
    by_cases hb : x < M
    · rw [decide_eq_true hb]
      simp only [if_true]
      refine wpAny_bind ?_
      refine wpAny_updateSeq hS' rfl (wpAny_bind (wpAny_letGo ?_))
      rw [hname]
      refine wpAny_pure ⟨plainId_quiet PySem.F.plain_min_loop _, ih (j + 1) _ x tx _ (by omega) hltn (hit'.at fun o e => (Heap.get?_update_other _ _ hSI).trans e) (hl'.at fun o e => (Heap.get?_update_other _ _ (Ne.symm hlS)).trans e) hxm (fun i hi' => ?_) (Heap.get?_update_self _ hS' rfl)
        fun M' t' h'' tk'' q1 q2 hk'' => ?_⟩
      · by_cases q : i = j
        · rw [q, hxg]; exact Int.le_refl _
        · have := hle i (by omega); omega
      · exact hR M' t' h'' tk'' q1 q2 fun b o hbI hbS e => hk'' b o hbI hbS ((Heap.get?_update_other _ _ (Ne.symm hbS)).trans (hk'.extBut b o hbI e))
    · rw [decide_eq_false hb]
      simp only [Bool.false_eq_true, if_false]
      refine wpAny_bind (wpAny_letGo ?_)
      rw [hname]
      refine wpAny_pure ⟨plainId_quiet PySem.F.plain_min_loop _, ih (j + 1) _ M t c (by omega) hltn hit' hl' hM (fun i hi' => ?_) hS' fun M' t' h'' tk'' q1 q2 hk'' => ?_⟩
      · by_cases q : i = j
        · rw [q, hxg]; omega
        · exact hle i (by omega)
      · exact hR M' t' h'' tk'' q1 q2 fun b o hbI hbS e => hk'' b o hbI hbS (hk'.extBut b o hbI e)
theorem args_min_dk (a d v : Value) : argsOk "min" ⟨[a], [(Str.ofString "default", d), (Str.ofString "key", v)]⟩ := by unfold argsOk; kernel_rfl
end
section
variable {prog : Program} {w : World} {A : Around} {E : Value → Shared → Prop} {s : Shared} {h₀ : Heap} {L l I : Addr} {m : Str → Option Value} {news : List (Addr × Obj)} {Q : Value → Shared → Prop} {vs : List Value} {ns : List Int} {n : Nat}
theorem min_dflt {d : Value} (hh : A.handled = none) (F : Fr h₀ L s.heap m) (N : News h₀ L s.heap news) (hm : (l, listOf vs.toArray n) ∈ news) (hI : (I, itObj l 0) ∈ news) (hlI : l ≠ I) (hi : IntsAre vs ns) (hne : 0 < ns.length)
    (h : ∀ h' M t tk, Fr h₀ L h' m → (∀ news₂, (∀ p ∈ news₂, p ∈ news ∧ p.1 ≠ I) → News h₀ L h' news₂) → M ∈ ns → (∀ a ∈ ns, M ≤ a) → Q (.int M t) { s with heap := h', toks := tk }) :
    wpAny (model prog w) A (call (.builtin "min") [.ref I] [(Str.ofString "default", d), (Str.ofString "key", .none)]) Q E s := by
  have hname : (toString "min" ++ toString ".loop" : String) = "min.loop" := by decide
  have hh1 : A.in1.handled = none := hh
  have hvl := hi.length
  have hit : s.heap.IsListIter I l 0 := ⟨_, (N _ hI).1, rfl, rfl⟩
  have hl : s.heap.IsList l vs.toArray := ⟨_, (N _ hm).1, rfl, n, rfl⟩
  have hIlt : @LT.lt Nat _ I s.heap.objs.size := Heap.lt_size (N _ hI).1
  have hllt : @LT.lt Nat _ l s.heap.objs.size := Heap.lt_size (N _ hm).1
  refine kmb_tree PySem.F.kind_min PySem.F.plain_min PySem.F.entry_min (args_min_dk _ _ _) ?_
  show wpAny _ A.in1 (Builtin.Builtins.bindParams "min" ["key", "default"] 0 ⟨[], [(Str.ofString "default", d), (Str.ofString "key", .none)]⟩ >>= _) _ _ s
  refine wpAny_bind (wpAny_of_eq (show Builtin.Builtins.bindParams "min" ["key", "default"] 0 ⟨[], [(Str.ofString "default", d), (Str.ofString "key", .none)]⟩ = pure [some .none, some d] from rfl) ?_)
  refine wpAny_bind (wpAny_pure ?_)
  refine wpAny_bind (wpAny_pyIter_listiter hit ?_)
  refine wpAny_bind (wpAny_newObj_type ?_)
  rw [hname]
  refine wpAny_pure ⟨plainId_quiet PySem.F.plain_min_loop _, ?_⟩
  have hlt : 0 < vs.length := by omega
  obtain ⟨x, tx, hvx, hx⟩ := IntsAre.at hi 0 _ (List.getElem?_eq_getElem hlt)
  have hxg : ns.getD 0 0 = x := by rw [List.getD_eq_getElem?_getD, hx]; rfl
  have hSI : s.heap.objs.size ≠ I := Nat.ne_of_gt hIlt
  have hlS : l ≠ s.heap.objs.size := Nat.ne_of_lt hllt
  have hS : (s.heap.push { cls := .type "list", dict := none, data := .seq ([] : List Value).toArray }).get? s.heap.objs.size = some { cls := .type "list", dict := none, data := .seq #[] 0, slots := #[] } := Heap.get?_push_size _ rfl
  refine codeAny_builtin PySem.F.entry_min_loop ?_
  rw [Around.under_plainId PySem.F.plain_min_loop _]
  show wpAny _ A.in1 (seqItems? (.ref s.heap.objs.size) >>= _) _ _ _
  refine wpAny_bind (wpAny_seqItems hS rfl ?_)
  show wpAny _ A.in1 (tryCatch (pyNext (.ref I)) _ >>= _) _ _ _
  refine wpAny_bind (wpAny_tryCatch (wpAny_pyNext_list_item (x := .int x tx) (hit.at fun o e => Heap.get?_push_of_some _ e) (hl.push _) (by rw [List.getElem?_toArray, List.getElem?_eq_getElem hlt, hvx]) fun h' hit' hk' => ?_))
  have hS' := hk'.extBut _ _ hSI hS
  have hl' : h'.IsList l vs.toArray := (hl.push _).extBut hk'.extBut hlI
  show wpAny _ A.in1 (updateSeq s.heap.objs.size (fun _ => #[.int x tx, .int x tx]) >>= _) _ _ _
  refine wpAny_bind ?_
  refine wpAny_updateSeq hS' rfl ?_
  rw [hname]
  refine wpAny_pure ⟨plainId_quiet PySem.F.plain_min_loop _, min_loop_d hh hi hlI hlS hSI _ 1 _ x tx _ rfl hne (hit'.at fun o e => (Heap.get?_update_other _ _ hSI).trans e) (hl'.at fun o e => (Heap.get?_update_other _ _ (Ne.symm hlS)).trans e) (List.mem_of_getElem? hx) (fun i hi' => ?_) (Heap.get?_update_self _ hS' rfl) fun M t h'' tk q1 q2 hk'' => ?_⟩
  · obtain rfl : i = 0 := by omega
    rw [hxg]; exact Int.le_refl _
  · have keep : ∀ b o, b ≠ I → s.heap.get? b = some o → h''.get? b = some o := fun b o hb e => by
      have hbS : b ≠ s.heap.objs.size := Nat.ne_of_lt (Heap.lt_size e)
      exact hk'' b o hb hbS ((Heap.get?_update_other _ _ (Ne.symm hbS)).trans (hk'.extBut b o hb (Heap.get?_push_of_some _ e)))
    have hIL : L ≠ I := Ne.symm (N _ hI).2.1
    have hI0 := (N _ hI).2.2
    refine h h'' M t tk ?_ (fun news₂ h2 p hp => ?_) q1 q2
    · obtain ⟨o, es, ep, q, r⟩ := F.ns
      exact ⟨⟨o, es, ep, keep _ _ hIL q, r⟩, fun b o q => keep _ _ (fun e => by rw [e, hI0] at q; cases q) (F.keep b o q), F.above⟩
    · have z := h2 p hp
      exact ⟨keep _ _ z.2 (N p z.1).1, (N p z.1).2⟩
end
theorem entry_onew : entryFor table "object.__new__" = some Builtin.«object.__new__» := entryFor_of_tree (by kernel_rfl)
theorem mro_object : mroOf (.type "object") = pure [.type "object"] := by rw [mroOf_type]; kernel_rfl
theorem lookup_object_new : typeLookup (.type "object") "__new__" = pure (some (.builtin "object.__new__")) := by rw [typeLookup_type, builtinLookup_eq_fast]; kernel_rfl
theorem called_object : TypeCalled "object" "object.__new__" "object.__init__" :=
  ⟨by decide +kernel, by decide +kernel, ⟨_, _, mro_object⟩, madeBy_type mro_object lookup_object_new (by decide +kernel), by decide +kernel, by rw [isSubtype_type]; kernel_rfl, PySem.F.slot_object_init⟩
theorem typeCall_object : checkTypeCall "object" ⟨[], []⟩ = pure () := by kernel_rfl
theorem newCall_object : checkBuiltinCall "object.__new__" ⟨[.type "object"], []⟩ = pure () := by kernel_rfl
theorem here_object : Bind.madeHere "object.__new__" (.type "object") = pure () := by first | rfl | kernel_rfl
theorem meets_onew : Meets (Builtin.«object.__new__» ⟨[.type "object"], []⟩) (fun _ R s => R (.ok (.ret (.ref s.heap.objs.size))) { s with heap := s.heap.push { cls := .type "object", data := .plain } }) :=
  .of_wp fun prog w A R s h => by
    have f1 := here_object
    obtain ⟨hp, g, d, tk, os⟩ := s
    wp_walk using here_object
    exact ⟨_, rfl, h⟩
theorem meets_oinit (self : Value) : Meets (Builtin.«object.__init__» ⟨[self], []⟩) (fun _ R s => R (.ok (.ret .none)) s) :=
  .of_wp fun prog w A R s h => wpAny_pure ⟨_, rfl, h⟩
def plainObj : Obj := { cls := .type "object", data := .plain }
section
variable {prog : Program} {w : World} {A : Around} {E : Value → Shared → Prop} {s : Shared} {h₀ : Heap} {L : Addr} {m : Str → Option Value} {news : List (Addr × Obj)} {Q : Value → Shared → Prop}
theorem call_object (F : Fr h₀ L s.heap m) (N : News h₀ L s.heap news)
    (h : ∀ I h', Fr h₀ L h' m → News h₀ L h' ((I, plainObj) :: news) → (∀ p ∈ news, p.1 < I) → Q (.ref I) { s with heap := h' }) : wpAny (model prog w) A (call (.type "object") []) Q E s := by
  refine callType_meets called_object typeCall_object newCall_object entry_onew PySem.F.entry_object_init meets_onew (Q₁ := fun obj s₁ => s₁.TypeIs obj "object" ∧ Q obj s₁) ?_ fun obj s₁ hq => ⟨hq.1, PySem.F.args_object_init_1 _, _, meets_oinit _, rfl, hq.2⟩
  refine ⟨⟨_, Heap.get?_push_size _ rfl, rfl⟩, h _ _ (F.push _) (fun p hp => ?_) fun p hp => Heap.lt_size (N p hp).1⟩
  rcases List.mem_cons.mp hp with rfl | hp
  · refine ⟨Heap.get?_push_size _ rfl, fun q => ?_, ?_⟩
    · obtain ⟨o, _, _, e, _⟩ := F.ns
      exact absurd (Heap.lt_size e) (q ▸ Nat.lt_irrefl _)
    · cases q : h₀.get? s.heap.objs.size with
      | none => rfl
      | some o => exact absurd (Heap.lt_size (F.keep _ _ q)) (Nat.lt_irrefl _)
  · exact ⟨Heap.get?_push_of_some _ (N p hp).1, (N p hp).2⟩
end
section
variable {prog : Program} {w : World} {A : Around} {E : Value → Shared → Prop} {s : Shared} {h₀ : Heap} {L l : Addr} {m : Str → Option Value} {news : List (Addr × Obj)} {Q : Value → Shared → Prop} {vs : List Value} {ns : List Int} {n : Nat} {value slice : Expr}
theorem slice_temp {c : Int} {t : Tok} (h0 : 0 ≤ c) (F : Fr h₀ L s.heap m) (N : News h₀ L s.heap news) (hm : (l, listOf vs.toArray n) ∈ news) (hi : IntsAre vs ns) (hz : ns.length < 1000)
    (h : ∀ D vs' h', Fr h₀ L h' m → News h₀ L h' ((D, listOf (List.toArray vs') 0) :: news) → (∀ p ∈ news, p.1 < D) → IntsAre vs' (ns.take c.toNat) → Q (.ref D) { s with heap := h' })
    (hs : subscripted slice false (.ref l) (.ref s.heap.objs.size) = operate [.ref s.heap.objs.size, .ref l] (getItem (.ref l) (.ref s.heap.objs.size)) := by with_unfolding_all rfl) :
    wpAny (model prog w) A (subscriptTail value slice (.ref l) (.ref s.heap.objs.size)) Q E { s with heap := s.heap.push { cls := .type "slice", data := .fields #[.none, .int c t, .none] } } := by
  have hl : s.heap.IsList l vs.toArray := ⟨_, (N _ hm).1, rfl, n, rfl⟩
  have hvl := hi.length
  refine tail_any (Heap.IsList.typeIs (s := { s with heap := s.heap.push { cls := .type "slice", data := .fields #[.none, .int c t, .none] } }) (hl.push _)) PySem.F.slot_list_getitem.lookup
    (wpAny_getItem_list_slice (hl.push _) (Heap.IsSliceOf.new ..) .none (.int c t) .none (by simp) ?_ (by rw [List.size_toArray, sizeLine_eq]; omega)) hs
  have N1 := News.push (F.push { cls := .type "slice", data := .fields #[.none, .int c t, .none] }) (N.grown fun _ _ e => Heap.get?_push_of_some _ e) { cls := .type "list", data := .seq (slicePick vs.toArray none (some c) none) }
  rw [Heap.size_push] at N1
  show Q (.ref (s.heap.push _).objs.size) _
  rw [Heap.size_push]
  have hI := slice_ints_uptoW hi h0
  refine h (s.heap.objs.size + 1) (slicePick vs.toArray none (some c) none).toList _ ((F.push _).push _) ?_ (fun p hp => Nat.lt_succ_of_lt (Heap.lt_size (N p hp).1)) hI
  rw [Array.toArray_toList]; exact N1
end
theorem is_int_ref {prog : Program} {w : World} {A : Around} {E : Value → Shared → Prop} {s : Shared} {Q : Value → Shared → Prop} {M : Int} {t : Tok} {I : Addr} (h : Q (.bool false) s) : wpAny (model prog w) A (compareOp .Is (.int M t) (.ref I)) Q E s := by
  have e : (compareOp .Is (.int M t) (.ref I) : Sem Value) = pure (.bool false) := by with_unfolding_all rfl
  rw [e]; exact wpAny_pure h
theorem take_min {hs : List Int} {M : Int} (hM : M ∈ hs) (hle : ∀ a ∈ hs, M ≤ a) : (srt hs).take 1 = [M] := by
  have p := srt_perm hs
  have o := srt_sorted hs
  cases e : srt hs with
  | nil => rw [e] at p; exact absurd (p.symm.subset hM) (by simp)
  | cons a r =>
    rw [e] at p o
    have h1 : M ≤ a := hle a (p.subset (.head _))
    have h2 : a ≤ M := by
      rcases List.mem_cons.mp (p.symm.subset hM) with q | q
      · omega
      · exact (List.pairwise_cons.mp o).1 M q
    have : a = M := by omega
    rw [this]; rfl
theorem wd36x56 : True := by
  k_with "call builtin:iter" => ((k_here; (with_reducible show wpAny _ _ (call (Value.builtin "iter") [Value.ref _]) _ _ _); k_dflt (refine' iter_list ?k1 ?k2 ?k3 ?_; (case k1 => k_asm); (case k2 => k_asm); (case k3 => k_mem); k_whole); intro I'ω h'ω F'ω N'ω l1ω; (try k_lt l1ω); (try k_sweep)))
  k_with "call type:object" => ((k_here; (with_reducible show wpAny _ _ (call (Value.type "object") []) _ _ _); k_dflt (refine' call_object ?k1 ?k2 ?_; (case k1 => k_asm); (case k2 => k_asm); k_whole); intro I'ω h'ω F'ω N'ω l1ω; (try k_lt l1ω); (try k_sweep)))
  k_with "call builtin:sorted" => ((k_here; (with_reducible show wpAny _ _ (call (Value.builtin "sorted") [Value.ref _] _) _ _ _); k_dflt (refine' sorted_none ?k1 ?k2 ?k3 ?k4 ?k5 ?_; (case k1 => k_asm); (case k2 => k_asm); (case k3 => k_mem); (case k4 => assumption); (case k5 => omega); k_whole); intro D'ω v'ω c'ω h'ω F'ω N'ω l1ω i'ω; (try k_lt l1ω); (try k_sweep)))
  k_with "subscriptTail" => ((k_here; (with_reducible show wpAny _ _ (subscriptTail (PySem.Expr.Call _ _ _ _) (PySem.Expr.Slice none _ none _) (Value.ref _) (Value.ref _)) _ _ _); k_dflt (refine' slice_temp ?k0 ?k1 ?k2 ?k3 ?k4 ?k5 ?_; (case k0 => omega); (case k1 => k_asm); (case k2 => k_asm); (case k3 => k_mem); (case k4 => assumption); (case k5 => (simp only [srt, List.length_mergeSort]; omega)); k_whole); intro D'ω v'ω h'ω F'ω N'ω l1ω i'ω; (try k_lt l1ω); (try k_sweep)))
  trivial
end
section
theorem wd37x57 : True := by
  k_with_none
  k_with "omega" => (omega (splitDisjunctions := true))
  k_with "om2" => (first | lia | omega (splitDisjunctions := true))
  k_with "eval Name" => ((k_here; (with_reducible show wpAny _ _ (eval _ (envOf _ _ _ _ _)) _ _ _); k_dflt (refine' nmL ?yF ?yv ?yx ?yk ?yd ?_; (case yF => k_asm); (case yk => exact rfl); (case yx => exact rfl); (case yd => exact rfl); (case yv => exact rfl); k_whole)))
  k_with "storeName" => ((k_here; (with_reducible show wpAny _ _ (storeName (envOf _ _ _ _ _) _ _) _ _ _); k_dflt (refine' stoLe ?yF ?yN ?yx ?yk ?_; (case yF => k_asm); (case yN => k_asm); (case yk => exact rfl); (case yx => exact rfl); k_whole; intro m'ω h'ω F'ω N'ω; (try k_sweep))))
  k_with "eval Name" => ((k_here; (with_reducible show wpAny _ _ (eval _ (envOfC _ _ _ _ _)) _ _ _); k_dflt (refine' nmLC ?yF ?yv ?yk ?yx ?yd ?_; (case yF => k_asm); (case yk => exact rfl); (case yx => exact rfl); (case yd => exact rfl); (case yv => exact rfl); k_whole)))
  k_with "storeName" => ((k_here; (with_reducible show wpAny _ _ (storeName (envOfC _ _ _ _ _) _ _) _ _ _); k_dflt (refine' stoLCe ?yF ?yN ?yk ?yx ?_; (case yF => k_asm); (case yN => k_asm); (case yk => exact rfl); (case yx => exact rfl); k_whole; intro m'ω h'ω F'ω N'ω; (try k_sweep))))
  k_with "execs cons" => ((k_here; (first | (with_reducible show wpAny _ _ (execs _ _) (AtF _) _ _) | (refine execs_abs ?_; intro Q8ω q8ω)); k_dflt (refine execs_gen ?_); intro Q7ω t7ω g7ω o7ω; (try dsimp only)))
  k_with "AtF" => ((with_reducible first | refine AtF.go (by assumption) ?_ | (refine AtF.out (by assumption) (fun z => Flow.noConfusion z) ?_) | (refine AtF.fin (by assumption) ?_; (try dsimp only))))
  k_with "room" => (k_dflt (first | exact rm2 (by assumption) rfl | exact rm1 (by assumption) rfl | exact rm3 (by assumption) rfl | exact rm4 (by assumption) rfl | exact rm0 (by assumption)))
  k_with "kne" => ((refine neN ?_; (try dsimp only); k_extra "ne"))
  k_with "cj" => (first | exact And.left | exact id | (refine cjs ?_; k_extra "cj"))
  k_with "ne" => (with_reducible first | assumption | exact lne (by assumption) | exact gne (by assumption) | exact sne (by assumption) | exact suc | exact suc2 | exact sne suc | exact sne suc2 | (refine ltc (by assumption) ?_; k_extra "cj") | (refine gtc (by assumption) ?_; k_extra "cj") | (refine nec (by assumption) ?_; k_extra "cj") | (refine nfc (by assumption) ?_; k_extra "cj"))
  k_with "truthy ref" => ((k_here; (with_reducible show wpAny _ _ (truthy (Value.ref _)) _ _ _); k_dflt (refine' truthy_ints ?k1 ?k2 ?k3 ?k4 ?_; (case k1 => k_asm); (case k2 => k_mem); (case k3 => l_ints); (case k4 => first | omega | (simp only [List.length_set, List.length_dropLast, List.length_append, List.length_cons, List.length_nil]; omega)); k_whole)))
  k_with "call ref" => ((k_here; (with_reducible show wpAny _ _ (call (Value.ref 98) _) _ _ _); k_dflt (refine' c_siftup ?k1 ?k2 ?k3 ?k4 ?k5 ?k6 ?k7 ?k8 ?k9 ?_; (case k1 => refine' pushT ?p1 ?p2 ?p3 ?p4; (case p1 => k_asm); (case p2 => k_asm); (case p3 => exact rfl); (case p4 => exact rfl)); (case k2 => k_asm); (case k3 => k_asm); (case k4 => refine has_of (by k_asm) (by k_asm) rfl (List.forall_mem_singleton.mpr ?m); (case m => k_mem)); (case k5 => l_ints); (case k6 => first | omega | (simp only [List.length_set, List.length_dropLast]; omega)); (case k7 => first | omega | (simp only [List.length_set, List.length_dropLast]; omega)); (case k8 => ktr_room); (case k9 => ktr_units); k_whole; (intro s'ω vs'ω n'ω hEω hgω hi'ω; have F9ω := back_fr (by k_asm) (by k_asm) hEω (List.forall_mem_singleton.mpr ⟨_, by k_mem⟩); have N9ω := back_news1 (by k_asm) hEω (by k_upd) hgω; (try k_sweep); (try dsimp only)))))
  k_with "mine os_go" => (first | exact rfl | assumption | (refine Eq.trans (Ext.os (by assumption)) ?_; (try dsimp only) <;> walk_at "mine os_go"))
  k_with "mine bare_go" => (first | assumption | (refine Ext.bare (by assumption) ?_; (try dsimp only); walk_at "mine bare_go"))
  k_with "binaryOp Add str str" => ((k_here; k_dflt (refine' add_text' ?k1 ?k2 ?k3 ?_; (case k1 => first | exact of40 | exact of41 | exact of34 | exact rfl); (case k2 => first | exact of40 | exact of41 | exact of34 | exact rfl); (case k3 => first | omega | (simp only [List.length_append, List.length_cons, List.length_nil, fmL_len]; omega)); k_whole; intro t'ω k'ω)))
  k_with "call ref" => ((k_here; (with_reducible show wpAny _ _ (call (Value.ref 165) _) _ _ _); k_dflt (refine' c_filemode ?k1 ?k2 ?k3 ?k4 ?k5 ?_; (case k1 => refine' pushT ?p1 ?p2 ?p3 ?p4; (case p1 => k_asm); (case p2 => k_asm); (case p3 => exact rfl); (case p4 => exact rfl)); (case k2 => k_asm); (case k3 => k_asm); (case k4 => ktr_room); (case k5 => ktr_units); k_whole; (intro s'ω t'ω hEω; have F9ω := back_fr (by k_asm) (by k_asm) hEω (fun _ hq => nomatch hq); have N9ω := back_news0 (by k_asm) hEω; (try k_sweep); (try dsimp only)))))
  k_with "call builtin:iter" => ((k_here; (with_reducible show wpAny _ _ (call (Value.builtin "iter") [Value.ref _]) _ _ _); k_dflt (refine' iter_list ?k1 ?k2 ?k3 ?_; (case k1 => k_asm); (case k2 => k_asm); (case k3 => k_mem); k_whole); intro I'ω h'ω F'ω N'ω l1ω; (try k_lt l1ω); (try k_sweep)))
  k_with "call type:object" => ((k_here; (with_reducible show wpAny _ _ (call (Value.type "object") []) _ _ _); k_dflt (refine' call_object ?k1 ?k2 ?_; (case k1 => k_asm); (case k2 => k_asm); k_whole); intro I'ω h'ω F'ω N'ω l1ω; (try k_lt l1ω); (try k_sweep)))
  k_with "call builtin:sorted" => ((k_here; (with_reducible show wpAny _ _ (call (Value.builtin "sorted") [Value.ref _] _) _ _ _); k_dflt (refine' sorted_none ?k1 ?k2 ?k3 ?k4 ?k5 ?_; (case k1 => k_asm); (case k2 => k_asm); (case k3 => k_mem); (case k4 => assumption); (case k5 => omega); k_whole); intro D'ω v'ω c'ω h'ω F'ω N'ω l1ω i'ω; (try k_lt l1ω); (try k_sweep)))
  k_with "subscriptTail" => ((k_here; (with_reducible show wpAny _ _ (subscriptTail (PySem.Expr.Call _ _ _ _) (PySem.Expr.Slice none _ none _) (Value.ref _) (Value.ref _)) _ _ _); k_dflt (refine' slice_temp ?k0 ?k1 ?k2 ?k3 ?k4 ?k5 ?_; (case k0 => omega); (case k1 => k_asm); (case k2 => k_asm); (case k3 => k_mem); (case k4 => assumption); (case k5 => (simp only [srt, List.length_mergeSort]; omega)); k_whole); intro D'ω v'ω h'ω F'ω N'ω l1ω i'ω; (try k_lt l1ω); (try k_sweep)))
  k_with "call builtin:min" => ((k_here; refine of_stop ?_))
  k_with "compareOp Is" => ((k_here; (with_reducible show wpAny _ _ (compareOp CmpOp.Is (Value.int _ _) (Value.ref _)) _ _ _); k_dflt (refine is_int_ref ?_)))
  k_with "compareOp Is int ref" => ((k_here; (with_reducible show wpAny _ _ (compareOp CmpOp.Is (Value.int _ _) (Value.ref _)) _ _ _); k_dflt (refine is_int_ref ?_)))
  trivial
theorem nsm_one {w : World} {mean : ExcName → Option Value} {mg mb : Str → Option Value} {dp un : Nat} {gd : Option (List Code)} {outer : List Env} {base : Heap} {s : Shared} {Q E : Value → Shared → Prop} {l : Addr} {vs : List Value} {hs : List Int} {n : Nat} {t0 : Tok} (B : Below (top dp un gd outer) base outer s.heap) (X : (Kt w.params).In base) (T : Top vw loo mean mg mb base) (H : Has base outer s.heap [(l, listOf vs.toArray n)])
  (hi : IntsAre vs hs) (h2 : 2 ≤ hs.length) (hlen : hs.length ≤ 5) (hdp : dp + 20 < recursionLimit) (hun : un + 160 < cLine)
  (hret : ∀ s' r vs' n', Ext [] s s' → s.heap.get? r = none → s'.heap.get? r = some (listOf vs'.toArray n') → IntsAre vs' ((srt hs).take (1 : Int).toNat) → Q (.ref r) s') :
  wpAny (model PySem.Challenge.rw_om0101_01.row.prog w) (top dp un gd outer) (call (.ref 118) [.int 1 t0, .ref l]) Q E s := by
  revert X; k_fill; intro X
  have hvl := IntsAre.length hi
  w_strict (
   (refine wpAny_call ?_; (k_dflt (refine' enterC ?k1 ?k2 ?k3 ?k4 ?k6 ?k7 ?k8 ?k9 ?kB ?kD ?_ ?c2 ?c3 ?c4; (case k1 => k_asm); (case k2 => k_asm); (case k3 => k_asm); (case k4 => first | k_asm | exact Has.nil); (case k6 => k_is); (case k7 => k_is); (case k8 => ktr_room); (case k9 => first | exact BindsTo.of_eq rfl | exact binds_K (X.keeps B.stays) rfl (by k_is) rfl rfl rfl | exact binds_K (by k_in) rfl (by k_is) rfl rfl rfl); (case kB => exact rfl); (case kD => decide +kernel); (case c2 => exact rfl); (case c3 => exact rfl); (case c4 => exact rfl); k_whole; intro g' L' h' tk' cells' FG' F' N' Y' B' X' T' l1; (try k_lt l1); k_cells Y'; (try simp only [List.cons_append, List.nil_append] at N'); (try dsimp only); (try k_lift B'); (try k_fold))))
   k_steps)
  refine stop_of ?_
  rename Fr _ _ _ _ => F1
  rename News _ _ _ _ => N1
  k_dflt (refine min_dflt rfl F1 N1 (by k_mem) (.tail _ (.head _)) (by first | exact neN (by first | k_extra "ne" | omega) | omega) hi (by omega) ?_)
  intro h9 M t9 tk9 F9 Nk hM hle
  have N9 := Nk [(_, plainObj), (_, _), (_, _)] (by
    intro p hp
    simp only [List.mem_cons, List.not_mem_nil, or_false] at hp
    rcases hp with rfl | rfl | rfl
    · exact ⟨.head _, neN (by first | k_extra "ne" | omega)⟩
    · exact ⟨.tail _ (.tail _ (.head _)), neN (by first | k_extra "ne" | omega)⟩
    · exact ⟨.tail _ (.tail _ (.tail _ (.head _))), neN (by first | k_extra "ne" | omega)⟩)
  clear Nk
  k_steps
  rename News _ _ _ _ => N5
  refine hret _ _ [Value.int M t9] _ (ext_same FG' (by assumption) H N5 (by k_mem) (by ((try dsimp only) <;> (walk_at "mine os_go"))) (by (intro y; (try dsimp only) <;> (walk_at "mine bare_go")))) (fresh_of FG' N5 (.head _) (by simp only [List.map_cons, List.map_nil, List.mem_singleton]; exact neN (by first | k_extra "ne" | omega))) (N5 _ (.head _)).1 ?_
  rw [show (1 : Int).toNat = 1 from rfl, take_min hM hle]
  exact .cons M t9 .nil
end
section
theorem wd38x58 : True := by
  k_with_none
  k_with "omega" => (omega (splitDisjunctions := true))
  k_with "om2" => (first | lia | omega (splitDisjunctions := true))
  k_with "eval Name" => ((k_here; (with_reducible show wpAny _ _ (eval _ (envOf _ _ _ _ _)) _ _ _); k_dflt (refine' nmL ?yF ?yv ?yx ?yk ?yd ?_; (case yF => k_asm); (case yk => exact rfl); (case yx => exact rfl); (case yd => exact rfl); (case yv => exact rfl); k_whole)))
  k_with "storeName" => ((k_here; (with_reducible show wpAny _ _ (storeName (envOf _ _ _ _ _) _ _) _ _ _); k_dflt (refine' stoLe ?yF ?yN ?yx ?yk ?_; (case yF => k_asm); (case yN => k_asm); (case yk => exact rfl); (case yx => exact rfl); k_whole; intro m'ω h'ω F'ω N'ω; (try k_sweep))))
  k_with "eval Name" => ((k_here; (with_reducible show wpAny _ _ (eval _ (envOfC _ _ _ _ _)) _ _ _); k_dflt (refine' nmLC ?yF ?yv ?yk ?yx ?yd ?_; (case yF => k_asm); (case yk => exact rfl); (case yx => exact rfl); (case yd => exact rfl); (case yv => exact rfl); k_whole)))
  k_with "storeName" => ((k_here; (with_reducible show wpAny _ _ (storeName (envOfC _ _ _ _ _) _ _) _ _ _); k_dflt (refine' stoLCe ?yF ?yN ?yk ?yx ?_; (case yF => k_asm); (case yN => k_asm); (case yk => exact rfl); (case yx => exact rfl); k_whole; intro m'ω h'ω F'ω N'ω; (try k_sweep))))
  k_with "execs cons" => ((k_here; (first | (with_reducible show wpAny _ _ (execs _ _) (AtF _) _ _) | (refine execs_abs ?_; intro Q8ω q8ω)); k_dflt (refine execs_gen ?_); intro Q7ω t7ω g7ω o7ω; (try dsimp only)))
  k_with "AtF" => ((with_reducible first | refine AtF.go (by assumption) ?_ | (refine AtF.out (by assumption) (fun z => Flow.noConfusion z) ?_) | (refine AtF.fin (by assumption) ?_; (try dsimp only))))
  k_with "room" => (k_dflt (first | exact rm2 (by assumption) rfl | exact rm1 (by assumption) rfl | exact rm3 (by assumption) rfl | exact rm4 (by assumption) rfl | exact rm0 (by assumption)))
  k_with "kne" => ((refine neN ?_; (try dsimp only); k_extra "ne"))
  k_with "cj" => (first | exact And.left | exact id | (refine cjs ?_; k_extra "cj"))
  k_with "ne" => (with_reducible first | assumption | exact lne (by assumption) | exact gne (by assumption) | exact sne (by assumption) | exact suc | exact suc2 | exact sne suc | exact sne suc2 | (refine ltc (by assumption) ?_; k_extra "cj") | (refine gtc (by assumption) ?_; k_extra "cj") | (refine nec (by assumption) ?_; k_extra "cj") | (refine nfc (by assumption) ?_; k_extra "cj"))
  k_with "truthy ref" => ((k_here; (with_reducible show wpAny _ _ (truthy (Value.ref _)) _ _ _); k_dflt (refine' truthy_ints ?k1 ?k2 ?k3 ?k4 ?_; (case k1 => k_asm); (case k2 => k_mem); (case k3 => l_ints); (case k4 => first | omega | (simp only [List.length_set, List.length_dropLast, List.length_append, List.length_cons, List.length_nil]; omega)); k_whole)))
  k_with "call ref" => ((k_here; (with_reducible show wpAny _ _ (call (Value.ref 98) _) _ _ _); k_dflt (refine' c_siftup ?k1 ?k2 ?k3 ?k4 ?k5 ?k6 ?k7 ?k8 ?k9 ?_; (case k1 => refine' pushT ?p1 ?p2 ?p3 ?p4; (case p1 => k_asm); (case p2 => k_asm); (case p3 => exact rfl); (case p4 => exact rfl)); (case k2 => k_asm); (case k3 => k_asm); (case k4 => refine has_of (by k_asm) (by k_asm) rfl (List.forall_mem_singleton.mpr ?m); (case m => k_mem)); (case k5 => l_ints); (case k6 => first | omega | (simp only [List.length_set, List.length_dropLast]; omega)); (case k7 => first | omega | (simp only [List.length_set, List.length_dropLast]; omega)); (case k8 => ktr_room); (case k9 => ktr_units); k_whole; (intro s'ω vs'ω n'ω hEω hgω hi'ω; have F9ω := back_fr (by k_asm) (by k_asm) hEω (List.forall_mem_singleton.mpr ⟨_, by k_mem⟩); have N9ω := back_news1 (by k_asm) hEω (by k_upd) hgω; (try k_sweep); (try dsimp only)))))
  k_with "mine os_go" => (first | exact rfl | assumption | (refine Eq.trans (Ext.os (by assumption)) ?_; (try dsimp only) <;> walk_at "mine os_go"))
  k_with "mine bare_go" => (first | assumption | (refine Ext.bare (by assumption) ?_; (try dsimp only); walk_at "mine bare_go"))
  k_with "binaryOp Add str str" => ((k_here; k_dflt (refine' add_text' ?k1 ?k2 ?k3 ?_; (case k1 => first | exact of40 | exact of41 | exact of34 | exact rfl); (case k2 => first | exact of40 | exact of41 | exact of34 | exact rfl); (case k3 => first | omega | (simp only [List.length_append, List.length_cons, List.length_nil, fmL_len]; omega)); k_whole; intro t'ω k'ω)))
  k_with "call ref" => ((k_here; (with_reducible show wpAny _ _ (call (Value.ref 165) _) _ _ _); k_dflt (refine' c_filemode ?k1 ?k2 ?k3 ?k4 ?k5 ?_; (case k1 => refine' pushT ?p1 ?p2 ?p3 ?p4; (case p1 => k_asm); (case p2 => k_asm); (case p3 => exact rfl); (case p4 => exact rfl)); (case k2 => k_asm); (case k3 => k_asm); (case k4 => ktr_room); (case k5 => ktr_units); k_whole; (intro s'ω t'ω hEω; have F9ω := back_fr (by k_asm) (by k_asm) hEω (fun _ hq => nomatch hq); have N9ω := back_news0 (by k_asm) hEω; (try k_sweep); (try dsimp only)))))
  k_with "call builtin:iter" => ((k_here; (with_reducible show wpAny _ _ (call (Value.builtin "iter") [Value.ref _]) _ _ _); k_dflt (refine' iter_list ?k1 ?k2 ?k3 ?_; (case k1 => k_asm); (case k2 => k_asm); (case k3 => k_mem); k_whole); intro I'ω h'ω F'ω N'ω l1ω; (try k_lt l1ω); (try k_sweep)))
  k_with "call type:object" => ((k_here; (with_reducible show wpAny _ _ (call (Value.type "object") []) _ _ _); k_dflt (refine' call_object ?k1 ?k2 ?_; (case k1 => k_asm); (case k2 => k_asm); k_whole); intro I'ω h'ω F'ω N'ω l1ω; (try k_lt l1ω); (try k_sweep)))
  k_with "call builtin:sorted" => ((k_here; (with_reducible show wpAny _ _ (call (Value.builtin "sorted") [Value.ref _] _) _ _ _); k_dflt (refine' sorted_none ?k1 ?k2 ?k3 ?k4 ?k5 ?_; (case k1 => k_asm); (case k2 => k_asm); (case k3 => k_mem); (case k4 => assumption); (case k5 => omega); k_whole); intro D'ω v'ω c'ω h'ω F'ω N'ω l1ω i'ω; (try k_lt l1ω); (try k_sweep)))
  k_with "subscriptTail" => ((k_here; (with_reducible show wpAny _ _ (subscriptTail (PySem.Expr.Call _ _ _ _) (PySem.Expr.Slice none _ none _) (Value.ref _) (Value.ref _)) _ _ _); k_dflt (refine' slice_temp ?k0 ?k1 ?k2 ?k3 ?k4 ?k5 ?_; (case k0 => omega); (case k1 => k_asm); (case k2 => k_asm); (case k3 => k_mem); (case k4 => assumption); (case k5 => (simp only [srt, List.length_mergeSort]; omega)); k_whole); intro D'ω v'ω h'ω F'ω N'ω l1ω i'ω; (try k_lt l1ω); (try k_sweep)))
  k_with "exec Try" => ((k_here; k_dflt (refine wpAny_Try_except ?_)))
  trivial
theorem nsm_full {w : World} {mean : ExcName → Option Value} {mg mb : Str → Option Value} {dp un : Nat} {gd : Option (List Code)} {outer : List Env} {base : Heap} {s : Shared} {Q E : Value → Shared → Prop} {l : Addr} {vs : List Value} {hs : List Int} {n : Nat} {c : Int} {t0 : Tok} (B : Below (top dp un gd outer) base outer s.heap) (X : (Kt w.params).In base) (T : Top vw loo mean mg mb base) (H : Has base outer s.heap [(l, listOf vs.toArray n)])
  (hi : IntsAre vs hs) (h2 : 2 ≤ hs.length) (hlen : hs.length ≤ 5) (hc : c = hs.length) (hdp : dp + 20 < recursionLimit) (hun : un + 160 < cLine)
  (hret : ∀ s' r vs' n', Ext [] s s' → s.heap.get? r = none → s'.heap.get? r = some (listOf vs'.toArray n') → IntsAre vs' ((srt hs).take c.toNat) → Q (.ref r) s') :
  wpAny (model PySem.Challenge.rw_om0101_01.row.prog w) (top dp un gd outer) (call (.ref 118) [.int c t0, .ref l]) Q E s := by
  revert X; k_fill; intro X
  have hvl := IntsAre.length hi
  have hc1 : c ≠ 1 := by omega
  w_strict (
   (refine wpAny_call ?_; (k_dflt (refine' enterC ?k1 ?k2 ?k3 ?k4 ?k6 ?k7 ?k8 ?k9 ?kB ?kD ?_ ?c2 ?c3 ?c4; (case k1 => k_asm); (case k2 => k_asm); (case k3 => k_asm); (case k4 => first | k_asm | exact Has.nil); (case k6 => k_is); (case k7 => k_is); (case k8 => ktr_room); (case k9 => first | exact BindsTo.of_eq rfl | exact binds_K (X.keeps B.stays) rfl (by k_is) rfl rfl rfl | exact binds_K (by k_in) rfl (by k_is) rfl rfl rfl); (case kB => exact rfl); (case kD => decide +kernel); (case c2 => exact rfl); (case c3 => exact rfl); (case c4 => exact rfl); k_whole; intro g' L' h' tk' cells' FG' F' N' Y' B' X' T' l1; (try k_lt l1); k_cells Y'; (try simp only [List.cons_append, List.nil_append] at N'); (try dsimp only); (try k_lift B'); (try k_fold))))
   k_steps)
  · exact absurd (by assumption) hc1
  try dsimp only
  rename News _ _ _ _ => N5
  exact hret _ _ _ _ (ext_same FG' (by assumption) H N5 (by k_mem) (by ((try dsimp only) <;> (walk_at "mine os_go"))) (by (intro y; (try dsimp only) <;> (walk_at "mine bare_go")))) (fresh_of FG' N5 (.head _) (by simp only [List.map_cons, List.map_nil, List.mem_singleton]; exact neN (by first | k_extra "ne" | omega))) (N5 _ (.head _)).1 (by assumption)
end
section
theorem wd39x59 : True := by
  k_with_none
  k_with "omega" => (omega (splitDisjunctions := true))
  k_with "om2" => (first | lia | omega (splitDisjunctions := true))
  k_with "eval Name" => ((k_here; (with_reducible show wpAny _ _ (eval _ (envOf _ _ _ _ _)) _ _ _); k_dflt (refine' nmL ?yF ?yv ?yx ?yk ?yd ?_; (case yF => k_asm); (case yk => exact rfl); (case yx => exact rfl); (case yd => exact rfl); (case yv => exact rfl); k_whole)))
  k_with "storeName" => ((k_here; (with_reducible show wpAny _ _ (storeName (envOf _ _ _ _ _) _ _) _ _ _); k_dflt (refine' stoLe ?yF ?yN ?yx ?yk ?_; (case yF => k_asm); (case yN => k_asm); (case yk => exact rfl); (case yx => exact rfl); k_whole; intro m'ω h'ω F'ω N'ω; (try k_sweep))))
  k_with "eval Name" => ((k_here; (with_reducible show wpAny _ _ (eval _ (envOfC _ _ _ _ _)) _ _ _); k_dflt (refine' nmLC ?yF ?yv ?yk ?yx ?yd ?_; (case yF => k_asm); (case yk => exact rfl); (case yx => exact rfl); (case yd => exact rfl); (case yv => exact rfl); k_whole)))
  k_with "storeName" => ((k_here; (with_reducible show wpAny _ _ (storeName (envOfC _ _ _ _ _) _ _) _ _ _); k_dflt (refine' stoLCe ?yF ?yN ?yk ?yx ?_; (case yF => k_asm); (case yN => k_asm); (case yk => exact rfl); (case yx => exact rfl); k_whole; intro m'ω h'ω F'ω N'ω; (try k_sweep))))
  k_with "execs cons" => ((k_here; (first | (with_reducible show wpAny _ _ (execs _ _) (AtF _) _ _) | (refine execs_abs ?_; intro Q8ω q8ω)); k_dflt (refine execs_gen ?_); intro Q7ω t7ω g7ω o7ω; (try dsimp only)))
  k_with "AtF" => ((with_reducible first | refine AtF.go (by assumption) ?_ | (refine AtF.out (by assumption) (fun z => Flow.noConfusion z) ?_) | (refine AtF.fin (by assumption) ?_; (try dsimp only))))
  k_with "room" => (k_dflt (first | exact rm2 (by assumption) rfl | exact rm1 (by assumption) rfl | exact rm3 (by assumption) rfl | exact rm4 (by assumption) rfl | exact rm0 (by assumption)))
  k_with "kne" => ((refine neN ?_; (try dsimp only); k_extra "ne"))
  k_with "cj" => (first | exact And.left | exact id | (refine cjs ?_; k_extra "cj"))
  k_with "ne" => (with_reducible first | assumption | exact lne (by assumption) | exact gne (by assumption) | exact sne (by assumption) | exact suc | exact suc2 | exact sne suc | exact sne suc2 | (refine ltc (by assumption) ?_; k_extra "cj") | (refine gtc (by assumption) ?_; k_extra "cj") | (refine nec (by assumption) ?_; k_extra "cj") | (refine nfc (by assumption) ?_; k_extra "cj"))
  trivial
section
variable {prog : Program} {w : World} {A : Around} {E : Value → Shared → Prop} {s : Shared}
theorem nextOf_range_item {it : Addr} {x left step : Int} {Q : Value → Shared → Prop} (hit : IsRangeIter s.heap it x left step) (hleft : 0 < left)
    (hQ : ∀ h', IsRangeIter h' it (x + step) (left - 1) step → Heap.SameBut it s.heap h' → Q (.int x s.toks) { s with heap := h', toks := s.toks + 1 }) :
    wpAny (model prog w) A (Builtin.SmallTypes.nextOf (.ref it)) Q E s := by
  have hT : s.TypeIs (.ref it) "range_iterator" := ⟨_, hit, rfl⟩
  unfold Builtin.SmallTypes.nextOf
  refine wpAny_bind (wpAny_callSpecial?_slot (name := Str.ofString "__next__") hT PySem.F.slot_range_iterator_next
    (call_meets PySem.F.slot_range_iterator_next hT PySem.F.entry_range_iterator_next (PySem.F.args_range_iterator_next_1 _) (AutoRange.range_iterator___next___range_iterator_1 it x left step (by omega)) ⟨hit, ?_⟩))
  exact wpAny_pure (hQ _ (Heap.get?_update_self _ (Heap.get?_update_self _ hit rfl) rfl) ((Heap.SameBut.update ..).trans (Heap.SameBut.update ..)))
theorem nextOf_range_end {it : Addr} {x left step : Int} {Q : Value → Shared → Prop} (hh : A.handled = none) (hit : IsRangeIter s.heap it x left step) (hleft : left ≤ 0)
    (hE : ∀ h' e, Heap.ExtBut it s.heap h' → (∃ o, h'.get? e = some o ∧ o.cls = .type "StopIteration") → E (.ref e) { s with heap := h' }) :
    wpAny (model prog w) A (Builtin.SmallTypes.nextOf (.ref it)) Q E s := by
  have hT : s.TypeIs (.ref it) "range_iterator" := ⟨_, hit, rfl⟩
  unfold Builtin.SmallTypes.nextOf
  refine wpAny_bind (wpAny_callSpecial?_slot (name := Str.ofString "__next__") hT PySem.F.slot_range_iterator_next
    (wpAny_call_entry PySem.F.slot_range_iterator_next hT PySem.F.entry_range_iterator_next ?_ (PySem.F.args_range_iterator_next_1 _)))
  show wpAny _ _ (field (.ref it) 0 >>= _) _ _ s
  refine wpAny_bind (wpAny_field hit rfl (x := rawInt x) rfl ?_)
  show wpAny _ _ (field (.ref it) 1 >>= _) _ _ s
  refine wpAny_bind (wpAny_field hit rfl (x := rawInt left) rfl ?_)
  show wpAny _ _ (field (.ref it) 2 >>= _) _ _ s
  refine wpAny_bind (wpAny_field hit rfl (x := rawInt step) rfl ?_)
  show wpAny _ _ (if left ≤ 0 then _ else _) _ _ s
  rw [if_pos hleft]
  refine wpAny_bind (wpAny_rule ?_)
  refine wpAny_bind ?_
  show wpAny _ _ (newExc (.type "StopIteration") [] >>= _) _ _ _
  refine wpAny_bind ?_
  simp only [newExc, newTuple]
  refine wpAny_bind (wpAny_newObj_type ?_ (by size_fits))
  refine wpAny_bind (m := firstArgMember _ _) (wpAny_of_eq (a := Value.none) (by first | rfl | (simp only [firstArgMember]; rfl)) ?_)
  refine wpAny_newObj_type ?_ (by size_fits)
  simp only [raiseNew]
  refine wpAny_bind (wpAny_handled ?_)
  rw [show A.in1.handled = none from hh]
  refine wpAny_bind (wpAny_pure (wpAny_throw ?_))
  exact hE _ _ (((Heap.ExtBut.refl it s.heap).push _).push _) ⟨_, Heap.get?_push_size _ rfl, rfl⟩
structure ZApart (z TI TO i1 i2 l2 : Addr) : Prop where
  TIz : TI ≠ z
  TOz : TO ≠ z
  i1z : i1 ≠ z
  i2z : i2 ≠ z
  TITO : TI ≠ TO
  TIi1 : TI ≠ i1
  TIi2 : TI ≠ i2
  TOi1 : TO ≠ i1
  TOi2 : TO ≠ i2
  i12 : i1 ≠ i2
  l2z : l2 ≠ z
  l2TO : l2 ≠ TO
  l2i1 : l2 ≠ i1
  l2i2 : l2 ≠ i2
theorem range_but {i1 b : Addr} {x left : Int} {h h' : Heap} (hs : Heap.SameBut b h h') (hne : i1 ≠ b) (hr : IsRangeIter h i1 x left 1) : IsRangeIter h' i1 x left 1 := hs.extBut _ _ hne hr
theorem zipR_next_item {z TI TO i1 i2 l2 : Addr} {k2 : Nat} {v left : Int} {ys : Array Value} {y a b : Value} {Q : Value → Shared → Prop} (D : ZApart z TI TO i1 i2 l2)
    (hz : IsZip s.heap z TI TO .none) (hTI : IsPair s.heap TI (.ref i1) (.ref i2)) (hTO : IsPair s.heap TO a b)
    (h1 : IsRangeIter s.heap i1 v left 1) (hleft : 0 < left) (h2 : s.heap.IsListIter i2 l2 k2) (hl2 : s.heap.IsList l2 ys) (hy : ys[k2]? = some y)
    (hQ : ∀ h', IsZip h' z TI TO (rawInt s.heap.objs.size) → IsPair h' TO (.int v s.toks) y → IsRangeIter h' i1 (v + 1) (left - 1) 1 → h'.IsListIter i2 l2 (k2 + 1) → IsPair h' s.heap.objs.size (.int v s.toks) y → h'.objs.size = s.heap.objs.size + 1 →
      (∀ c o, c ≠ z → c ≠ TO → c ≠ i1 → c ≠ i2 → s.heap.get? c = some o → h'.get? c = some o) → Q (.ref s.heap.objs.size) { s with heap := h', toks := s.toks + 1 }) :
    wpAny (model prog w) A (Builtin.«zip.__next__» ⟨[.ref z], []⟩) (fun fin s' => ∃ v, fin = .done (.ret v) ∧ Q v s') E s := by
  obtain ⟨hp, g, d, tk, os⟩ := s
  show wpAny _ _ (field (.ref z) 2 >>= _) _ _ _
  refine wpAny_bind (wpAny_field hz rfl (x := .bool false) rfl ?_)
  show wpAny _ _ (field (.ref z) 3 >>= _) _ _ _
  refine wpAny_bind (wpAny_field hz rfl (x := .ref TI) rfl ?_)
  refine wpAny_bind (wpAny_seqItems hTI rfl ?_)
  show wpAny _ _ (Builtin.SmallTypes.ownedTupleIsFree (.ref z) >>= _) _ _ _
  refine wpAny_bind ?_
  unfold Builtin.SmallTypes.ownedTupleIsFree
  refine wpAny_bind (wpAny_field hz rfl (x := .none) rfl (wpAny_pure ?_))
  simp only [if_true]
  refine wpAny_bind (wpAny_rule ?_)
  refine wpAny_bind (wpAny_field hz rfl (x := .ref TO) rfl ?_)
  refine wpAny_bind (wpAny_setField_rec hz (by simp) fun h₁ hz₁ hs₁ => ?_)
  replace hz₁ : IsZip h₁ z TI TO .ellipsis := hz₁
  refine wpAny_bind ?_
  simp only [List.zipIdx_cons, List.zipIdx_nil, List.forIn_cons, List.forIn_nil]
  refine wpAny_bind (wpAny_bind (wpAny_onRaise ?_))
  show wpAny _ _ (Builtin.SmallTypes.nextOf (.ref i1) >>= _) _ _ _
  refine wpAny_bind (nextOf_range_item (hs₁.extBut _ _ D.i1z h1) hleft fun h₂ h1₂ hs₂ => wpAny_pure ?_)
  have hTO₂ : IsPair h₂ TO a b := hs₂.extBut _ _ D.TOi1 (hs₁.extBut _ _ D.TOz hTO)
  refine wpAny_bind (wpAny_seqItems hTO₂ rfl ?_)
  refine wpAny_bind (wpAny_updateSeq_pair hTO₂ fun h₃ hTO₃ hs₃ => ?_)
  replace hTO₃ : IsPair h₃ TO (.int v tk) b := hTO₃
  refine wpAny_bind (wpAny_letGo (wpAny_pure ?_))
  refine wpAny_bind (wpAny_bind (wpAny_onRaise ?_))
  show wpAny _ _ (Builtin.SmallTypes.nextOf (.ref i2) >>= _) _ _ _
  refine wpAny_bind (wpAny_nextOf_list_item (((h2.extBut hs₁.extBut D.i2z).extBut hs₂.extBut D.i12.symm).extBut hs₃.extBut D.TOi2.symm)
    (((hl2.extBut hs₁.extBut D.l2z).extBut hs₂.extBut D.l2i1).extBut hs₃.extBut D.l2TO) hy fun h₄ h2₄ hs₄ => wpAny_pure ?_)
  have hTO₄ : IsPair h₄ TO (.int v tk) b := hs₄.extBut _ _ D.TOi2 hTO₃
  refine wpAny_bind (wpAny_seqItems hTO₄ rfl ?_)
  refine wpAny_bind (wpAny_updateSeq_pair hTO₄ fun h₅ hTO₅ hs₅ => ?_)
  replace hTO₅ : IsPair h₅ TO (.int v tk) y := hTO₅
  refine wpAny_bind (wpAny_letGo (wpAny_pure (wpAny_pure ?_)))
  refine wpAny_bind (wpAny_seqItems hTO₅ rfl ?_)
  refine wpAny_bind (wpAny_newTuple ?_)
  have hsz : h₅.objs.size = hp.objs.size := by rw [hs₅.1, hs₄.1, hs₃.1, hs₂.1, hs₁.1]
  have hz₅ : IsZip h₅ z TI TO .ellipsis := hs₅.extBut _ _ D.TOz.symm (hs₄.extBut _ _ D.i2z.symm (hs₃.extBut _ _ D.TOz.symm (hs₂.extBut _ _ D.i1z.symm hz₁)))
  have hk₅ : ∀ c o, c ≠ z → c ≠ TO → c ≠ i1 → c ≠ i2 → hp.get? c = some o → h₅.get? c = some o := fun c o c1 c2 c3 c4 e =>
    hs₅.extBut _ _ c2 (hs₄.extBut _ _ c4 (hs₃.extBut _ _ c2 (hs₂.extBut _ _ c3 (hs₁.extBut _ _ c1 e))))
  have h1₅ : IsRangeIter h₅ i1 (v + 1) (left - 1) 1 := hs₅.extBut _ _ D.TOi1.symm (hs₄.extBut _ _ D.i12 (hs₃.extBut _ _ D.TOi1.symm h1₂))
  have h2₅ : h₅.IsListIter i2 l2 (k2 + 1) := h2₄.extBut hs₅.extBut D.TOi2.symm
  have hzlt : z < h₅.objs.size := Heap.lt_size hz₅
  show wpAny _ _ (Builtin.SmallTypes.ownedTupleHandOut (.ref z) (.ref h₅.objs.size) >>= _) _ _ _
  refine wpAny_bind ?_
  unfold Builtin.SmallTypes.ownedTupleHandOut
  have hz₆ : IsZip (h₅.push { cls := .type "tuple", data := .seq #[.int v tk, y] }) z TI TO .ellipsis := Heap.get?_push_of_some _ hz₅
  refine wpAny_bind (wpAny_setField_rec hz₆ (by simp) fun h₇ hz₇ hs₇ => ?_)
  replace hz₇ : IsZip h₇ z TI TO (rawInt h₅.objs.size) := hz₇
  refine wpAny_setField_rec hz₇ (by simp) fun h₈ hz₈ hs₈ => ?_
  replace hz₈ : IsZip h₈ z TI TO (rawInt h₅.objs.size) := hz₈
  have up : ∀ c o, c ≠ z → h₅.get? c = some o → h₈.get? c = some o := fun c o c1 e => hs₈.extBut _ _ c1 (hs₇.extBut _ _ c1 (Heap.get?_push_of_some _ e))
  have hT₈ : IsPair h₈ h₅.objs.size (.int v tk) y := hs₈.extBut _ _ (Nat.ne_of_gt hzlt) (hs₇.extBut _ _ (Nat.ne_of_gt hzlt) (Heap.get?_push_size _ rfl))
  have hz8 : h₈.objs.size = h₅.objs.size + 1 := by rw [hs₈.1, hs₇.1, Heap.size_push]
  rw [hsz] at hz₈ hT₈ hz8
  refine wpAny_pure ⟨_, rfl, ?_⟩
  show Q (.ref h₅.objs.size) _
  rw [hsz]
  exact hQ h₈ hz₈ (up _ _ D.TOz hTO₅) (up _ _ D.i1z h1₅) (h2₅.at fun o e => up _ o D.i2z e) hT₈ hz8 fun c o c1 c2 c3 c4 e => up c o c1 (hk₅ c o c1 c2 c3 c4 e)
theorem zipR_next_end {z TI TO i1 i2 l2 : Addr} {v left : Int} {a b : Value} {Q : Fin → Shared → Prop} (hh : A.handled = none) (D : ZApart z TI TO i1 i2 l2)
    (hz : IsZip s.heap z TI TO .none) (hTI : IsPair s.heap TI (.ref i1) (.ref i2)) (h1 : IsRangeIter s.heap i1 v left 1) (hleft : left ≤ 0)
    (hE : ∀ h' e, (∀ c o, c ≠ z → c ≠ i1 → s.heap.get? c = some o → h'.get? c = some o) → (∃ o, h'.get? e = some o ∧ o.cls = .type "StopIteration") → E (.ref e) { s with heap := h' }) :
    wpAny (model prog w) A (Builtin.«zip.__next__» ⟨[.ref z], []⟩) Q E s := by
  show wpAny _ _ (field (.ref z) 2 >>= _) _ _ _
  refine wpAny_bind (wpAny_field hz rfl (x := .bool false) rfl ?_)
  show wpAny _ _ (field (.ref z) 3 >>= _) _ _ _
  refine wpAny_bind (wpAny_field hz rfl (x := .ref TI) rfl ?_)
  refine wpAny_bind (wpAny_seqItems hTI rfl ?_)
  show wpAny _ _ (Builtin.SmallTypes.ownedTupleIsFree (.ref z) >>= _) _ _ _
  refine wpAny_bind ?_
  unfold Builtin.SmallTypes.ownedTupleIsFree
  refine wpAny_bind (wpAny_field hz rfl (x := .none) rfl (wpAny_pure ?_))
  simp only [if_true]
  refine wpAny_bind (wpAny_rule ?_)
  refine wpAny_bind (wpAny_field hz rfl (x := .ref TO) rfl ?_)
  refine wpAny_bind (wpAny_setField_rec hz (by simp) fun h₁ hz₁ hs₁ => ?_)
  replace hz₁ : IsZip h₁ z TI TO .ellipsis := hz₁
  refine wpAny_bind ?_
  simp only [List.zipIdx_cons, List.zipIdx_nil, List.forIn_cons, List.forIn_nil]
  refine wpAny_bind (wpAny_bind (wpAny_onRaise ?_))
  show wpAny _ _ (Builtin.SmallTypes.nextOf (.ref i1) >>= _) _ _ _
  refine wpAny_bind (nextOf_range_end hh (hs₁.extBut _ _ D.i1z h1) hleft fun h₂ e hs₂ he => ?_)
  obtain ⟨oe, hoe, hce⟩ := he
  have hz₂ : IsZip h₂ z TI TO .ellipsis := hs₂ _ _ D.i1z.symm hz₁
  have hez : e ≠ z := fun x => by subst x; rw [hz₂] at hoe; cases hoe; simp at hce
  refine wpAny_setField_rec hz₂ (by simp) fun h₃ _ hs₃ => hE h₃ e (fun c o c1 c3 x => hs₃.extBut _ _ c1 (hs₂ _ _ c3 (hs₁.extBut _ _ c1 x))) ⟨oe, hs₃.extBut _ _ hez hoe, hce⟩
theorem pyNext_zipR_item {z TI TO i1 i2 l2 : Addr} {k2 : Nat} {v left : Int} {ys : Array Value} {y a b : Value} {Q : Option Value → Shared → Prop} (D : ZApart z TI TO i1 i2 l2)
    (hz : IsZip s.heap z TI TO .none) (hTI : IsPair s.heap TI (.ref i1) (.ref i2)) (hTO : IsPair s.heap TO a b)
    (h1 : IsRangeIter s.heap i1 v left 1) (hleft : 0 < left) (h2 : s.heap.IsListIter i2 l2 k2) (hl2 : s.heap.IsList l2 ys) (hy : ys[k2]? = some y)
    (hQ : ∀ h', IsZip h' z TI TO (rawInt s.heap.objs.size) → IsPair h' TO (.int v s.toks) y → IsRangeIter h' i1 (v + 1) (left - 1) 1 → h'.IsListIter i2 l2 (k2 + 1) → IsPair h' s.heap.objs.size (.int v s.toks) y → h'.objs.size = s.heap.objs.size + 1 →
      (∀ c o, c ≠ z → c ≠ TO → c ≠ i1 → c ≠ i2 → s.heap.get? c = some o → h'.get? c = some o) → Q (some (.ref s.heap.objs.size)) { s with heap := h', toks := s.toks + 1 }) :
    wpAny (model prog w) A (pyNext (.ref z)) Q E s := by
  have hT : s.TypeIs (.ref z) "zip" := ⟨_, hz, rfl⟩
  unfold pyNext
  exact wpAny_bind (wpAny_attempt (wpAny_callSpecial?_slot (name := Str.ofString "__next__") hT PySem.F.slot_zip_next
    (wpAny_call_entry PySem.F.slot_zip_next hT PySem.F.entry_zip_next
      (zipR_next_item D hz hTI hTO h1 hleft h2 hl2 hy fun h' a1 a2 a3 a4 a5 a6 a7 => wpAny_pure (hQ h' a1 a2 a3 a4 a5 a6 a7)) (PySem.F.args_zip_next_1 _))))
theorem pyNext_zipR_end {z TI TO i1 i2 l2 : Addr} {v left : Int} {Q : Option Value → Shared → Prop} (hh : A.handled = none) (D : ZApart z TI TO i1 i2 l2)
    (hz : IsZip s.heap z TI TO .none) (hTI : IsPair s.heap TI (.ref i1) (.ref i2)) (h1 : IsRangeIter s.heap i1 v left 1) (hleft : left ≤ 0)
    (hQ : ∀ h', (∀ c o, c ≠ z → c ≠ i1 → s.heap.get? c = some o → h'.get? c = some o) → Q none { s with heap := h' }) : wpAny (model prog w) A (pyNext (.ref z)) Q E s := by
  have hT : s.TypeIs (.ref z) "zip" := ⟨_, hz, rfl⟩
  unfold pyNext
  refine wpAny_bind (wpAny_attempt (wpAny_callSpecial?_slot (name := Str.ofString "__next__") hT PySem.F.slot_zip_next
    (wpAny_call_entry PySem.F.slot_zip_next hT PySem.F.entry_zip_next (zipR_next_end (a := .none) (b := .none) hh D hz hTI h1 hleft fun h' e hk he => ?_) (PySem.F.args_zip_next_1 _))))
  obtain ⟨o, ho, hc⟩ := he
  refine wpAny_bind (wpAny_isInstance (T := "StopIteration") (b := true) ⟨o, ho, hc⟩ isSubtype_stop ?_)
  exact wpAny_pure (hQ _ hk)
end
abbrev zr1 (h : Heap) (n : Nat) : Heap := h.push { cls := .type "range_iterator", data := .fields #[rawInt 0, rawInt (n : Int), rawInt 1] }
abbrev zr3 (h : Heap) (n : Nat) (it : Addr) : Heap := (zr1 h n).push { cls := .type "tuple", data := .seq #[.ref h.objs.size, .ref it] }
abbrev zr4 (h : Heap) (n : Nat) (it : Addr) : Heap := (zr3 h n it).push { cls := .type "tuple", data := .seq #[.none, .none] }
abbrev zr5 (h : Heap) (n : Nat) (it : Addr) : Heap := (zr4 h n it).push { cls := .type "zip", data := .fields #[.none, .bool false, .bool false, .ref (zr1 h n).objs.size, .ref (zr3 h n it).objs.size] }
theorem meets_zipR_new (r it l2 : Addr) (n k : Nat) (t u v : Tok) :
    Meets (Builtin.«zip.__new__» ⟨[.type "zip", .ref r, .ref it], []⟩) (fun _ R s => IsRange s.heap r 0 (n : Int) 1 t u v ∧ n < 1000000 ∧ s.heap.IsListIter it l2 k ∧
      R (.ok (.ret (.ref (zr4 s.heap n it).objs.size))) { s with heap := zr5 s.heap n it }) :=
  .of_wp fun prog w A R s h => by
    obtain ⟨hp, g, d, tk, os⟩ := s; obtain ⟨hr, hn, hit, h⟩ := h
    have hsub := sub_zip
    have hR : IsRange (Shared.heap ⟨hp, g, d, tk, os⟩) r 0 (n : Int) 1 t u v := hr
    have hS := small_up hn
    have hIt : Heap.IsListIter (Shared.heap ⟨hp.push { cls := .type "range_iterator", data := .fields #[rawInt 0, rawInt (Builtin.Range.rangeSize 0 (n : Int) 1), rawInt 1] }, g, d, tk, os⟩) it l2 k := hit.at fun o e => Heap.get?_push_of_some _ e
    wp_walk using wpAny_pyIter_range hR hS, wpAny_pyIter_listiter hIt
    rw [size_up n]
    exact ⟨_, rfl, h⟩
section
variable {prog : Program} {w : World} {A : Around} {E : Value → Shared → Prop} {s : Shared}
theorem call_zipR {r it l2 : Addr} {n k : Nat} {t u v : Tok} {Q : Value → Shared → Prop} (hr : IsRange s.heap r 0 (n : Int) 1 t u v) (hn : n < 1000000) (hit : s.heap.IsListIter it l2 k)
    (h : ∀ h', IsZip h' (s.heap.objs.size + 3) (s.heap.objs.size + 1) (s.heap.objs.size + 2) .none → IsPair h' (s.heap.objs.size + 1) (.ref s.heap.objs.size) (.ref it) →
      IsPair h' (s.heap.objs.size + 2) .none .none → IsRangeIter h' s.heap.objs.size 0 (n : Int) 1 → h'.objs.size = s.heap.objs.size + 4 →
      (∀ c o, s.heap.get? c = some o → h'.get? c = some o) → Q (.ref (s.heap.objs.size + 3)) { s with heap := h' }) :
    wpAny (model prog w) A (call (.type "zip") [.ref r, .ref it]) Q E s := by
  refine callType_new PySem.F.called_zip (by decide) (PySem.F.typeCall_zip_2 _ _) (PySem.F.newCall_zip_2 _ _) (fun obj => PySem.F.args_object_init_3 obj _ _) PySem.F.entry_zip_new
    (meets_zipR_new r it l2 n k t u v) ⟨hr, hn, hit, ?_⟩
  have z1 : (zr1 s.heap n).objs.size = s.heap.objs.size + 1 := Heap.size_push ..
  have z3 : (zr3 s.heap n it).objs.size = s.heap.objs.size + 2 := by rw [Heap.size_push, z1]
  have z4 : (zr4 s.heap n it).objs.size = s.heap.objs.size + 3 := by rw [Heap.size_push, z3]
  have z5 : (zr5 s.heap n it).objs.size = s.heap.objs.size + 4 := by rw [Heap.size_push, z4]
  have g5 : (zr5 s.heap n it).get? (zr4 s.heap n it).objs.size = some _ := Heap.get?_push_size _ rfl
  have g4 : (zr5 s.heap n it).get? (zr3 s.heap n it).objs.size = some _ := Heap.get?_push_of_some _ (Heap.get?_push_size _ rfl)
  have g3 : (zr5 s.heap n it).get? (zr1 s.heap n).objs.size = some _ := Heap.get?_push_of_some _ (Heap.get?_push_of_some _ (Heap.get?_push_size _ rfl))
  have g1 : (zr5 s.heap n it).get? s.heap.objs.size = some _ := Heap.get?_push_of_some _ (Heap.get?_push_of_some _ (Heap.get?_push_of_some _ (Heap.get?_push_size _ rfl)))
  show _ ∧ _
  rw [z1, z3, z4] at g5
  rw [z1] at g3
  rw [z3] at g4
  rw [z4]
  exact ⟨⟨_, g5, rfl⟩, h _ g5 g3 g4 g1 z5 fun c o x => Heap.get?_push_of_some _ (Heap.get?_push_of_some _ (Heap.get?_push_of_some _ (Heap.get?_push_of_some _ x)))⟩
end
end
section
theorem wd3Ax60 : True := by
  k_with_none
  k_with "omega" => (first | lia | omega (splitDisjunctions := true))
  k_with "om2" => (first | lia | omega (splitDisjunctions := true))
  k_with "eval Name" => ((k_here; (with_reducible show wpAny _ _ (eval _ (envOf _ _ _ _ _)) _ _ _); k_dflt (refine' nmL ?yF ?yv ?yx ?yk ?yd ?_; (case yF => k_asm); (case yk => exact rfl); (case yx => exact rfl); (case yd => exact rfl); (case yv => exact rfl); k_whole)))
  k_with "storeName" => ((k_here; (with_reducible show wpAny _ _ (storeName (envOf _ _ _ _ _) _ _) _ _ _); k_dflt (refine' stoLe ?yF ?yN ?yx ?yk ?_; (case yF => k_asm); (case yN => k_asm); (case yk => exact rfl); (case yx => exact rfl); k_whole; intro m'ω h'ω F'ω N'ω; (try k_sweep))))
  k_with "eval Name" => ((k_here; (with_reducible show wpAny _ _ (eval _ (envOfC _ _ _ _ _)) _ _ _); k_dflt (refine' nmLC ?yF ?yv ?yk ?yx ?yd ?_; (case yF => k_asm); (case yk => exact rfl); (case yx => exact rfl); (case yd => exact rfl); (case yv => exact rfl); k_whole)))
  k_with "storeName" => ((k_here; (with_reducible show wpAny _ _ (storeName (envOfC _ _ _ _ _) _ _) _ _ _); k_dflt (refine' stoLCe ?yF ?yN ?yk ?yx ?_; (case yF => k_asm); (case yN => k_asm); (case yk => exact rfl); (case yx => exact rfl); k_whole; intro m'ω h'ω F'ω N'ω; (try k_sweep))))
  k_with "execs cons" => ((k_here; (first | (with_reducible show wpAny _ _ (execs _ _) (AtF _) _ _) | (refine execs_abs ?_; intro Q8ω q8ω)); k_dflt (refine execs_gen ?_); intro Q7ω t7ω g7ω o7ω; (try dsimp only)))
  k_with "AtF" => ((with_reducible first | refine AtF.go (by assumption) ?_ | (refine AtF.out (by assumption) (fun z => Flow.noConfusion z) ?_) | (refine AtF.fin (by assumption) ?_; (try dsimp only))))
  k_with "room" => (k_dflt (first | exact rm2 (by assumption) rfl | exact rm1 (by assumption) rfl | exact rm3 (by assumption) rfl | exact rm4 (by assumption) rfl | exact rm0 (by assumption)))
  k_with "kne" => ((refine neN ?_; (try dsimp only); k_extra "ne"))
  k_with "cj" => (first | exact And.left | exact id | (refine cjs ?_; k_extra "cj"))
  k_with "ne" => (with_reducible first | assumption | exact lne (by assumption) | exact gne (by assumption) | exact sne (by assumption) | exact suc | exact suc2 | exact sne suc | exact sne suc2 | (refine ltc (by assumption) ?_; k_extra "cj") | (refine gtc (by assumption) ?_; k_extra "cj") | (refine nec (by assumption) ?_; k_extra "cj") | (refine nfc (by assumption) ?_; k_extra "cj"))
  trivial
def tup2 (x : Int) (t : Tok) (i : Int) (u : Tok) : Obj := { cls := .type "tuple", data := .seq #[.int x t, .int i u] }
/-- refs to pairs of ints -/
inductive PA (D : News') : List Value → List (Int × Int) → Prop
  | nil : PA D [] []
  | cons {a : Addr} {x i : Int} {t u : Tok} {vs : List Value} {ps : List (Int × Int)} : (a, tup2 x t i u) ∈ D → PA D vs ps → PA D (.ref a :: vs) ((x, i) :: ps)
theorem PA.mono {D D' : News'} (k : ∀ p ∈ D, p ∈ D') {vs : List Value} {ps : List (Int × Int)} (h : PA D vs ps) : PA D' vs ps := by
  induction h with
  | nil => exact .nil
  | cons h1 _ ih => exact .cons (k _ h1) ih
theorem PA.snoc {D : News'} {vs : List Value} {ps : List (Int × Int)} (h : PA D vs ps) {a : Addr} {x i : Int} {t u : Tok} (ha : (a, tup2 x t i u) ∈ D) : PA D (vs ++ [.ref a]) (ps ++ [(x, i)]) := by
  induction h with
  | nil => exact .cons ha .nil
  | cons h1 _ ih => exact .cons h1 ih
theorem PA.length {D : News'} {vs : List Value} {ps : List (Int × Int)} (h : PA D vs ps) : vs.length = ps.length := by
  induction h with
  | nil => rfl
  | cons _ _ ih => simp [ih]
def prs (ns : List Int) (n : Nat) : List (Int × Int) := (List.range n).map fun i => (ns.getD i 0, (i : Int))
theorem prs_succ (ns : List Int) (n : Nat) : prs ns (n + 1) = prs ns n ++ [(ns.getD n 0, (n : Int))] := by
  unfold prs; rw [List.range_succ, List.map_append]; rfl
theorem fr_kept {h₀ h h' : Heap} {L : Addr} {m : Str → Option Value} {ws : List Addr} (F : Fr h₀ L h m) (hk : ∀ b o, b ∉ ws → h.get? b = some o → h'.get? b = some o) (hL : L ∉ ws) (h0 : ∀ b ∈ ws, h₀.get? b = none) : Fr h₀ L h' m := by
  obtain ⟨o, es, ep, q, r⟩ := F.ns
  exact ⟨⟨o, es, ep, hk _ _ hL q, r⟩, fun b o e => hk _ _ (fun hb => by rw [h0 b hb] at e; cases e) (F.keep b o e), F.above⟩
theorem news_kept {h₀ h h' : Heap} {L : Addr} {news : News'} {ws : List Addr} (N : News h₀ L h news) (hk : ∀ b o, b ∉ ws → h.get? b = some o → h'.get? b = some o) (hn : ∀ p ∈ news, p.1 ∉ ws) : News h₀ L h' news :=
  fun p hp => ⟨hk _ _ (hn p hp) (N p hp).1, (N p hp).2⟩
structure ZSt (z TI TO i1 it l2 : Addr) (ys : Array Value) (n i : Nat) (h : Heap) : Prop where
  z : IsZip h z TI TO .none
  ti : IsPair h TI (.ref i1) (.ref it)
  to : ∃ a b, IsPair h TO a b
  r : IsRangeIter h i1 (i : Int) ((n : Int) - (i : Nat)) 1
  l : h.IsListIter it l2 i
  ls : h.IsList l2 ys
theorem ZSt.keep {z TI TO i1 it l2 : Addr} {ys : Array Value} {n i : Nat} {h h' : Heap} (Z : ZSt z TI TO i1 it l2 ys n i h) {ws : List Addr} (hk : ∀ b o, b ∉ ws → h.get? b = some o → h'.get? b = some o) (hw : ∀ b ∈ ws, b ≠ z ∧ b ≠ TI ∧ b ≠ TO ∧ b ≠ i1 ∧ b ≠ it ∧ b ≠ l2) : ZSt z TI TO i1 it l2 ys n i h' := by
  obtain ⟨a, b, hto⟩ := Z.to
  exact ⟨hk _ _ (fun q => (hw _ q).1 rfl) Z.z, hk _ _ (fun q => (hw _ q).2.1 rfl) Z.ti, ⟨a, b, hk _ _ (fun q => (hw _ q).2.2.1 rfl) hto⟩, hk _ _ (fun q => (hw _ q).2.2.2.1 rfl) Z.r,
    Z.l.at fun o e => hk _ o (fun q => (hw _ q).2.2.2.2.1 rfl) e, Z.ls.at fun o e => hk _ o (fun q => (hw _ q).2.2.2.2.2 rfl) e⟩
section
variable {prog : Program} {w : World} {A : Around} {E : Value → Shared → Prop} {s : Shared} {h₀ : Heap} {L : Addr} {m : Str → Option Value} {env : Env}
theorem exZ {p0 p1 p2 p3 p4 p5 p6 p7 p8 p9 p10 p11 : Heap → Nat → Nat → (List Value) → News' → (Str → Option Value) → Prop} {C : Prop} (h : ∃ x0 x1 x2 x3 x4 x5, p0 x0 x1 x2 x3 x4 x5 ∧ p1 x0 x1 x2 x3 x4 x5 ∧ p2 x0 x1 x2 x3 x4 x5 ∧ p3 x0 x1 x2 x3 x4 x5 ∧ p4 x0 x1 x2 x3 x4 x5 ∧ p5 x0 x1 x2 x3 x4 x5 ∧ p6 x0 x1 x2 x3 x4 x5 ∧ p7 x0 x1 x2 x3 x4 x5 ∧ p8 x0 x1 x2 x3 x4 x5 ∧ p9 x0 x1 x2 x3 x4 x5 ∧ p10 x0 x1 x2 x3 x4 x5 ∧ p11 x0 x1 x2 x3 x4 x5) (k : ∀ x0 x1 x2 x3 x4 x5, p0 x0 x1 x2 x3 x4 x5 → p1 x0 x1 x2 x3 x4 x5 → p2 x0 x1 x2 x3 x4 x5 → p3 x0 x1 x2 x3 x4 x5 → p4 x0 x1 x2 x3 x4 x5 → p5 x0 x1 x2 x3 x4 x5 → p6 x0 x1 x2 x3 x4 x5 → p7 x0 x1 x2 x3 x4 x5 → p8 x0 x1 x2 x3 x4 x5 → p9 x0 x1 x2 x3 x4 x5 → p10 x0 x1 x2 x3 x4 x5 → p11 x0 x1 x2 x3 x4 x5 → C) : C := by
  obtain ⟨x0, x1, x2, x3, x4, x5, h0, h1, h2, h3, h4, h5, h6, h7, h8, h9, h10, h11⟩ := h
  exact k _ _ _ _ _ _ h0 h1 h2 h3 h4 h5 h6 h7 h8 h9 h10 h11
theorem block_Z {elt iter : Expr} {x x₂ : Str} {px px₂ tp : Pos} {tk} {scope : Scope} {cl : List (Str × Addr)} {pos : Pos} {s₂ : Shared} {z TI TO i1 it l2 : Addr} {n : Nat} {vs : List Value} {ns : List Int} {news : News'} {RR : Value → Addr → Result → Shared → Prop}
    (Da : ZApart z TI TO i1 it l2) (Z : ZSt z TI TO i1 it l2 vs.toArray n 0 s₂.heap) (hi : IntsAre vs ns) (hn : n ≤ ns.length) (hn2 : n < 1000)
    (hcell : ∀ y ∈ scope.names, y.2 ≠ .cell) (hkind : scope.kind = .function) (hx : scope.names.lookup x = some .local) (hx₂ : scope.names.lookup x₂ = some .local) (hxx : x ≠ x₂) (hh : A.handled = none)
    (F : Fr h₀ L s₂.heap m) (N : News h₀ L s₂.heap news) (hL : L ∉ [z, TO, i1, it]) (h0 : ∀ b ∈ [z, TO, i1, it], h₀.get? b = none) (off : ∀ p ∈ news, p.1 ∉ [z, TI, TO, i1, it])
    (helt : ∀ (C : Addr) (s : Shared) (m₂ : Str → Option Value) (v₁ v₂ : Value) (Q : Value → Shared → Prop) (E' : Value → Shared → Prop), s.heap.Ns C m₂ → m₂ x = some v₁ → m₂ x₂ = some v₂ →
      (Q (.ref s.heap.objs.size) { s with heap := s.heap.push { cls := .type "tuple", data := .seq #[v₂, v₁] } }) → wpAny (model prog w) A (eval elt (compEnvC scope cl C env)) Q E' s)
    (hRR : ∀ D C h tk m' ys Dt, Fr h₀ L h m → News h₀ L h ((D, LCg.lst ys) :: (Dt ++ news)) → h.IsListIter it l2 n → PA Dt ys (prs ns n) → (∀ p ∈ Dt ++ news, p.1 ≠ D ∧ p.1 ≠ it) → D ≠ it → (∀ p ∈ Dt, ∀ q ∈ news, p.1 ≠ q.1) → h.Ns C m' → h₀.get? C = none → C ≠ L → C ≠ D → C ≠ it → (∀ p ∈ Dt ++ news, p.1 ≠ C) → RR (.ref D) C (.ok .next) { s₂ with heap := h, toks := tk }) :
    wpAny (model prog w) A (newList []) (fun acc s₃ => wpAny (model prog w) A (newFunctionEnv scope env.globals cl [] env.qual none .none (some env)) (fun cenv s₄ =>
      codeAny (model prog w) A (.compStart (.ListComp elt [⟨.Tuple [.Name x px, .Name x₂ px₂] tk tp, iter, [], 0⟩] scope pos) 0 (.ref z) acc { cenv with scope := relabel scope env }) (RR acc cenv.locals) s₄) E s₃) E s₂ := by
  refine wpAny_newObj_type (wpAny_newFunctionEnv hcell (by intro y hy; simp at hy) (fun h₁ hns₁ hsb₁ => ?_) hkind)
  dsimp only at hns₁ hsb₁ ⊢
  generalize hH2 : s₂.heap.push { cls := .type "list", dict := none, data := .seq ([] : List Value).toArray } = H2 at hns₁ hsb₁ ⊢
  have hC : H2.objs.size = s₂.heap.objs.size + 1 := by rw [← hH2, Heap.size_push]
  generalize hDd : s₂.heap.objs.size = D at *
  generalize hCd : H2.objs.size = C at *
  have hDC : D ≠ C := by rw [hC]; exact Nat.ne_of_lt (Nat.lt_succ_self _)
  have below : ∀ b o, s₂.heap.get? b = some o → b ≠ C ∧ b ≠ D := fun b o e => by
    have hb : b < D := hDd ▸ Heap.lt_size e
    exact ⟨by rw [hC]; exact Nat.ne_of_lt (Nat.lt_succ_of_lt hb), Nat.ne_of_lt hb⟩
  have old : ∀ b o, s₂.heap.get? b = some o → h₁.get? b = some o := fun b o e => hsb₁.extBut b o (below b o e).1 (Heap.get?_push_of_some _ (hH2 ▸ Heap.get?_push_of_some _ e))
  have hacc : h₁.get? D = some (LCg.lst []) := hsb₁.extBut _ _ hDC (Heap.get?_push_of_some _ (hH2 ▸ hDd ▸ Heap.get?_push_size _ rfl))
  have fresh₀ : ∀ a, D ≤ a → h₀.get? a = none := fun a ha => by
    cases e : h₀.get? a with
    | none => rfl
    | some o' => exact absurd (Heap.lt_size (F.keep a o' e)) (Nat.not_lt.mpr (hDd ▸ ha))
  have hD₀ : h₀.get? D = none := fresh₀ _ (Nat.le_refl _)
  have hC₀ : h₀.get? C = none := fresh₀ _ (by rw [hC]; exact Nat.le_succ _)
  obtain ⟨oL, _, _, hoL, _⟩ := F.ns
  have hDL : D ≠ L := Ne.symm (below L _ hoL).2
  have hCL : C ≠ L := Ne.symm (below L _ hoL).1
  have bz := below _ _ Z.z
  have bTI := below _ _ Z.ti
  have bTO : TO ≠ C ∧ TO ≠ D := by obtain ⟨a, b, q⟩ := Z.to; exact below _ _ q
  have bi1 := below _ _ Z.r
  have bit : it ≠ C ∧ it ≠ D := by obtain ⟨o, q, _⟩ := Z.l; exact below _ _ q
  have bl2 : l2 ≠ C ∧ l2 ≠ D := by obtain ⟨o, q, _⟩ := Z.ls; exact below _ _ q
  have hvl := hi.length
  have loop : ∀ s₃ : Shared, s₃ = { s₂ with heap := h₁, toks := s₂.toks + ([] : List (Str × Value)).length } →
      codeAny (model prog w) A (.compLoop (.ListComp elt [⟨.Tuple [.Name x px, .Name x₂ px₂] tk tp, iter, [], 0⟩] scope pos) 0 (.ref z) (.ref D) (compEnvC scope cl C env)) (RR (.ref D) C) s₃ := by
    rintro s₃ rfl
    refine LCp.codeAny_compLoop_pair
      (fun k s' => ∃ h' tk i ys Dt m', s' = { s₂ with heap := h', toks := tk } ∧ i ≤ n ∧ k = n + 1 - i ∧ ys.length = i ∧ ZSt z TI TO i1 it l2 vs.toArray n i h' ∧ Fr h₀ L h' m ∧ h'.Ns C m' ∧ h'.get? D = some (LCg.lst ys) ∧
        News h₀ L h' (Dt ++ news) ∧ PA Dt ys (prs ns i) ∧ (∀ p ∈ Dt, p.1 ≠ C ∧ p.1 ≠ D ∧ p.1 ∉ [z, TI, TO, i1, it]) ∧ (∀ p ∈ Dt, ∀ q ∈ news, p.1 ≠ q.1)) ?_ (n + 1)
      ⟨h₁, _, 0, [], [], _, rfl, Nat.zero_le _, rfl, rfl, Z.keep (ws := []) (fun b o _ e => old b o e) (fun _ q => nomatch q), F.keeps old, hns₁, hacc, fun p hp => ⟨old _ _ (N p hp).1, (N p hp).2⟩, .nil, fun _ q => (nomatch q), fun _ q => (nomatch q)⟩
    intro k s' hk
    refine exZ hk ?_
    clear hk
    intro h' tk i ys Dt m' es hin ek hyl Z' F' hn' hD' N' hpa hdt hdn
    subst es
    subst ek
    have offN : ∀ p ∈ Dt ++ news, p.1 ∉ [z, TO, i1, it] := fun p hp q => by
      rcases List.mem_append.mp hp with hp | hp
      · exact (hdt p hp).2.2 (by simp only [List.mem_cons, List.not_mem_nil, or_false] at q ⊢; rcases q with q | q | q | q <;> simp [q])
      · exact off p hp (by simp only [List.mem_cons, List.not_mem_nil, or_false] at q ⊢; rcases q with q | q | q | q <;> simp [q])
    have offC : ∀ p ∈ Dt ++ news, p.1 ≠ C ∧ p.1 ≠ D := fun p hp => by
      rcases List.mem_append.mp hp with hp | hp
      · exact ⟨(hdt p hp).1, (hdt p hp).2.1⟩
      · exact below _ _ (N p hp).1
    have hL5 : L ∉ [z, TO, i1, it, C, D] := fun q => by
      simp only [List.mem_cons, List.not_mem_nil, or_false] at q hL
      rcases q with q | q | q | q | q | q
      · exact hL (.inl q)
      · exact hL (.inr (.inl q))
      · exact hL (.inr (.inr (.inl q)))
      · exact hL (.inr (.inr (.inr q)))
      · exact hCL q.symm
      · exact hDL q.symm
    have h05 : ∀ b ∈ [z, TO, i1, it, C, D], h₀.get? b = none := fun b q => by
      simp only [List.mem_cons, List.not_mem_nil, or_false] at q h0
      rcases q with q | q | q | q | q | q
      · exact h0 b (.inl q)
      · exact h0 b (.inr (.inl q))
      · exact h0 b (.inr (.inr (.inl q)))
      · exact h0 b (.inr (.inr (.inr q)))
      · rw [q]; exact hC₀
      · rw [q]; exact hD₀
    have off5 : ∀ p ∈ Dt ++ news, p.1 ∉ [z, TO, i1, it, C, D] := fun p hp q => by
      have a := offN p hp
      have b := offC p hp
      simp only [List.mem_cons, List.not_mem_nil, or_false] at q a
      rcases q with q | q | q | q | q | q
      · exact a (.inl q)
      · exact a (.inr (.inl q))
      · exact a (.inr (.inr (.inl q)))
      · exact a (.inr (.inr (.inr q)))
      · exact b.1 q
      · exact b.2 q
    by_cases hlt : i < n
    · have hlv : i < vs.length := by omega
      obtain ⟨y, ty, hvy, hy⟩ := IntsAre.at hi i _ (List.getElem?_eq_getElem hlv)
      have hyg : ns.getD i 0 = y := by rw [List.getD_eq_getElem?_getD, hy]; rfl
      obtain ⟨a, b, hto⟩ := Z'.to
      refine pyNext_zipR_item (y := .int y ty) Da Z'.z Z'.ti hto Z'.r (by omega) Z'.l Z'.ls (by rw [List.getElem?_toArray, List.getElem?_eq_getElem hlv, hvy]) fun h₂ z₂ to₂ r₂ l₂ T₂ sz₂ k₂ => ?_
      dsimp only at z₂ to₂ r₂ l₂ T₂ sz₂ k₂ ⊢
      generalize h'.objs.size = T at *
      refine wpAny_letOwnedTupleGo_zip z₂ fun h₃ z₃ k₃ => ?_
      have hTz : T ≠ z := fun q => by
        have t : h₂.get? z = some { cls := .type "tuple", data := .seq #[.int (i : Int) tk, .int y ty] } := q ▸ T₂
        have e := Option.some.inj (t.symm.trans z₂)
        have e := congrArg Obj.cls e
        simp at e
      have T₃ : IsTup h₃ T #[.int (i : Int) tk, .int y ty] := ⟨_, k₃.extBut _ _ hTz T₂, rfl, 0, rfl⟩
      refine assign_Tuple_tuple hh T₃ rfl rfl fun h₄ k₄ => ?_
      have k₄' : ∀ b o, h₃.get? b = some o → h₄.get? b = some o := fun b o e => k₄ b o (Nat.ne_of_lt (Heap.lt_size e)) e
      have k24 : ∀ b o, b ≠ z → h₂.get? b = some o → h₄.get? b = some o := fun b o hb e => k₄' b o (k₃.extBut b o hb e)
      have kh4 : ∀ b o, b ∉ [z, TO, i1, it] → h'.get? b = some o → h₄.get? b = some o := fun b o hb e => by
        simp only [List.mem_cons, List.not_mem_nil, or_false, not_or] at hb
        exact k24 b o hb.1 (k₂ b o hb.1 hb.2.1 hb.2.2.1 hb.2.2.2 e)
      have Cin : C ∉ [z, TO, i1, it] := by
        simp only [List.mem_cons, List.not_mem_nil, or_false, not_or]
        exact ⟨Ne.symm bz.1, Ne.symm bTO.1, Ne.symm bi1.1, Ne.symm bit.1⟩
      have Din : D ∉ [z, TO, i1, it] := by
        simp only [List.mem_cons, List.not_mem_nil, or_false, not_or]
        exact ⟨Ne.symm bz.2, Ne.symm bTO.2, Ne.symm bi1.2, Ne.symm bit.2⟩
      refine assignInOrder_cons (wpAny_assign_Name (wpAny_storeName_local (lookup_relabel_local hx) (hn'.at' fun o e => kh4 _ o Cin e) (fun h₅ hn₅ hs₅ => ?_) (by simp [compEnvC, relabel, hkind])))
      refine assignInOrder_cons (wpAny_assign_Name (wpAny_storeName_local (lookup_relabel_local hx₂) hn₅ (fun h₆ hn₆ hs₆ => ?_) (by simp [compEnvC, relabel, hkind])))
      refine assignInOrder_nil ?_
      have k46 : ∀ b o, b ≠ C → h₄.get? b = some o → h₆.get? b = some o := fun b o hb e => hs₆.extBut b o hb (hs₅.extBut b o hb e)
      have hD₆ : h₆.get? D = some (LCg.lst ys) := k46 _ _ hDC (kh4 _ _ Din hD')
      refine helt C _ _ (.int (i : Int) tk) (.int y ty) _ _ hn₆ (by simp [hxx]) (by simp) ?_
      refine append_at (hsz := by show ys.toArray.size ≤ sizeLine; rw [List.size_toArray, hyl, sizeLine_eq]; omega) (Heap.get?_push_of_some _ hD₆) fun h₈ hs₈ hD₈ => ?_
      have hTn : ∀ b o, h₆.get? b = some o → h₆.objs.size ≠ b := fun b o e => Nat.ne_of_gt (Heap.lt_size e)
      have hT8 : h₈.get? h₆.objs.size = some (tup2 y ty (i : Int) tk) := hs₈.extBut _ _ (hTn _ _ hD₆) (Heap.get?_push_size _ rfl)
      have k68 : ∀ b o, b ≠ D → h₆.get? b = some o → h₈.get? b = some o := fun b o hb e => hs₈.extBut b o hb (Heap.get?_push_of_some _ e)
      have kA : ∀ b o, b ∉ [z, TO, i1, it, C, D] → h'.get? b = some o → h₈.get? b = some o := fun b o hb e => by
        simp only [List.mem_cons, List.not_mem_nil, or_false, not_or] at hb
        exact k68 b o hb.2.2.2.2.2 (k46 b o hb.2.2.2.2.1 (kh4 b o (by simp only [List.mem_cons, List.not_mem_nil, or_false, not_or]; exact ⟨hb.1, hb.2.1, hb.2.2.1, hb.2.2.2.1⟩) e))
      have k26 : ∀ b o, b ≠ z → b ≠ C → h₂.get? b = some o → h₆.get? b = some o := fun b o hz hb e => k46 b o hb (k24 b o hz e)
      have k28 : ∀ b o, b ≠ z → b ≠ C → b ≠ D → h₂.get? b = some o → h₈.get? b = some o := fun b o hz hb hd e => k68 b o hd (k26 b o hz hb e)
      have z6 : IsZip h₆ z TI TO .none := k46 _ _ bz.1 (k₄' _ _ z₃)
      have TIn : TI ∉ [z, TO, i1, it] := by
        simp only [List.mem_cons, List.not_mem_nil, or_false, not_or]
        exact ⟨Da.TIz, Da.TITO, Da.TIi1, Da.TIi2⟩
      have l2n : l2 ∉ [z, TO, i1, it] := by
        simp only [List.mem_cons, List.not_mem_nil, or_false, not_or]
        exact ⟨Da.l2z, Da.l2TO, Da.l2i1, Da.l2i2⟩
      have Z8 : ZSt z TI TO i1 it l2 vs.toArray n (i + 1) h₈ := by
        refine ⟨k68 _ _ bz.2 z6, k68 _ _ bTI.2 (k46 _ _ bTI.1 (kh4 _ _ TIn Z'.ti)), ⟨_, _, k28 _ _ Da.TOz bTO.1 bTO.2 to₂⟩, ?_, l₂.at fun o e => k28 _ o Da.i2z bit.1 bit.2 e, Z'.ls.at fun o e => k68 _ _ bl2.2 (k46 _ _ bl2.1 (kh4 _ _ l2n e))⟩
        have := k28 _ _ Da.i1z bi1.1 bi1.2 r₂
        rw [show ((i + 1 : Nat) : Int) = (i : Int) + 1 from by omega, show (n : Int) - ((i : Int) + 1) = (n : Int) - (i : Int) - 1 from by omega]
        exact this
      have F8 : Fr h₀ L h₈ m := fr_kept F' kA hL5 h05
      have T0 : h₀.get? h₆.objs.size = none := by
        cases q : h₀.get? h₆.objs.size with
        | none => rfl
        | some o =>
          have e := F'.keep _ _ q
          have hb : h₆.objs.size ∉ [z, TO, i1, it] := fun hb => by rw [h0 _ hb] at q; cases q
          have hC6 : h₆.objs.size ≠ C := fun hb => by rw [hb, hC₀] at q; cases q
          exact absurd (Heap.lt_size (k46 _ _ hC6 (kh4 _ _ hb e))) (Nat.lt_irrefl _)
      have TL : h₆.objs.size ≠ L := by
        obtain ⟨oL', _, _, q, _⟩ := F'.ns
        refine hTn _ oL' (k46 _ _ (Ne.symm hCL) (kh4 _ _ hL q))
      have Tin : ∀ b o, b ∉ [z, TO, i1, it] → b ≠ C → h'.get? b = some o → h₆.objs.size ≠ b := fun b o hb hc e => hTn b o (k46 b o hc (kh4 b o hb e))
      refine ⟨n + 1 - (i + 1), by omega, h₈, _, i + 1, ys ++ [.ref h₆.objs.size], (h₆.objs.size, tup2 y ty (i : Int) tk) :: Dt, _, rfl, hlt, rfl, by rw [List.length_append, List.length_singleton, hyl], Z8, F8, hn₆.at' fun o e => k68 _ o (Ne.symm hDC) e, hD₈.trans (congrArg some (LCg.lst_snoc ys _)), fun p hp => ?_, ?_, ?_, ?_⟩
      · rcases List.mem_cons.mp hp with rfl | hp
        · exact ⟨hT8, TL, T0⟩
        · exact ⟨kA _ _ (off5 p hp) (N' p hp).1, (N' p hp).2⟩
      · rw [prs_succ, hyg]
        exact (PA.mono (fun p hp => .tail _ hp) hpa).snoc (.head _)
      · intro p hp
        rcases List.mem_cons.mp hp with rfl | hp
        · obtain ⟨oC, _, _, hoC, _⟩ := hn₆
          refine ⟨hTn _ _ hoC, hTn _ _ hD₆, fun q => ?_⟩
          simp only [List.mem_cons, List.not_mem_nil, or_false] at q
          rcases q with q | q | q | q | q
          · exact hTn _ _ z6 q
          · exact Tin _ _ TIn bTI.1 Z'.ti q
          · exact hTn _ _ (k26 _ _ Da.TOz bTO.1 to₂) q
          · exact hTn _ _ (k26 _ _ Da.i1z bi1.1 r₂) q
          · obtain ⟨o, e, _⟩ := l₂
            exact hTn _ _ (k26 _ _ Da.i2z bit.1 e) q
        · exact hdt p hp
      · intro p hp q hq
        rcases List.mem_cons.mp hp with rfl | hp
        · exact Tin _ _ (offN q (List.mem_append_right _ hq)) (offC q (List.mem_append_right _ hq)).1 (N' q (List.mem_append_right _ hq)).1
        · exact hdn p hp q hq
    · obtain rfl : i = n := Nat.le_antisymm hin (Nat.not_lt.mp hlt)
      refine pyNext_zipR_end hh Da Z'.z Z'.ti Z'.r (by omega) fun h₂ k₂ => ?_
      try dsimp only
      have kA : ∀ b o, b ∉ [z, i1] → h'.get? b = some o → h₂.get? b = some o := fun b o hb e => by
        simp only [List.mem_cons, List.not_mem_nil, or_false, not_or] at hb
        exact k₂ b o hb.1 hb.2 e
      have sub : ∀ b, b ∈ [z, i1] → b ∈ [z, TO, i1, it, C, D] := fun b q => by
        simp only [List.mem_cons, List.not_mem_nil, or_false] at q ⊢
        rcases q with q | q <;> simp [q]
      refine hRR D C h₂ _ m' ys Dt (fr_kept F' kA (fun q => hL5 (sub _ q)) fun b q => h05 b (sub b q)) (fun p hp => ?_) (Z'.l.at fun o e => k₂ _ o Da.i2z (Ne.symm Da.i12) e) hpa (fun p hp => ⟨(offC p hp).2, fun q => offN p hp (by rw [q]; simp)⟩) (Ne.symm bit.2) hdn (hn'.at' fun o e => k₂ _ o (Ne.symm bz.1) (Ne.symm bi1.1) e) hC₀ hCL (Ne.symm hDC) (Ne.symm bit.1) fun p hp => (offC p hp).1
      rcases List.mem_cons.mp hp with rfl | hp
      · exact ⟨k₂ _ _ (Ne.symm bz.2) (Ne.symm bi1.2) hD', hDL, hD₀⟩
      · exact ⟨kA _ _ (fun q => off5 p hp (sub _ q)) (N' p hp).1, (N' p hp).2⟩
  exact codeAny_compStart_list (loop _ rfl) (wpAny_pyIter_zip (Z.keep (ws := []) (fun b o _ e => old b o e) (fun _ q => nomatch q)).z (loop _ rfl))
end
section
variable {prog : Program} {w : World} {A : Around} {E : Value → Shared → Prop} {s : Shared} {h₀ : Heap} {L : Addr} {m : Str → Option Value} {env : Env}
def SrcZ (prog : Program) (w : World) (A : Around) (h₀ : Heap) (L : Addr) (m : Str → Option Value) (env : Env) (elt : Expr) (x x₂ y : Str) (scope : Scope) (cl : List (Str × Addr)) (Q : Flow → Shared → Prop) (xv : Value) (s₁ : Shared) : Prop :=
  ∃ (z TI TO i1 it l2 : Addr) (n : Nat) (vs : List Value) (ns : List Int) (news : News'), xv = .ref z ∧ A.handled = none ∧ ZApart z TI TO i1 it l2 ∧ ZSt z TI TO i1 it l2 vs.toArray n 0 s₁.heap ∧ IntsAre vs ns ∧ n ≤ ns.length ∧ n < 1000 ∧ Fr h₀ L s₁.heap m ∧ News h₀ L s₁.heap news ∧
    L ∉ [z, TO, i1, it] ∧ (∀ b ∈ [z, TO, i1, it], h₀.get? b = none) ∧ (∀ p ∈ news, p.1 ∉ [z, TI, TO, i1, it]) ∧
    (∀ (C : Addr) (s : Shared) (m₂ : Str → Option Value) (v₁ v₂ : Value) (Q : Value → Shared → Prop) (E' : Value → Shared → Prop), s.heap.Ns C m₂ → m₂ x = some v₁ → m₂ x₂ = some v₂ →
      (Q (.ref s.heap.objs.size) { s with heap := s.heap.push { cls := .type "tuple", data := .seq #[v₂, v₁] } }) → wpAny (model prog w) A (eval elt (compEnvC scope cl C env)) Q E' s) ∧
    (∀ D h tk ys Dt, Fr h₀ L h (fun q => if q = y then some (.ref D) else m q) → News h₀ L h ((D, LCg.lst ys) :: (Dt ++ news)) → h.IsListIter it l2 n → PA Dt ys (prs ns n) → (∀ p ∈ Dt ++ news, p.1 ≠ D ∧ p.1 ≠ it) → D ≠ it → (∀ p ∈ Dt, ∀ q ∈ news, p.1 ≠ q.1) → Q .next { s₁ with heap := h, toks := tk })
theorem assComp_Z {elt iter : Expr} {x x₂ y : Str} {px px₂ tp py : Pos} {tk} {scope : Scope} {cl : List (Str × Addr)} {pos spos : Pos} {Q : Flow → Shared → Prop} (F₀ : Fr h₀ L s.heap m) (hLe : env.locals = L)
    (hsw : swapsWith (.ListComp elt [⟨.Tuple [.Name x px, .Name x₂ px₂] tk tp, iter, [], 0⟩] scope pos) (some (.Name y py)) spos.line env = pure true)
    (hclos : closureFor scope env = pure cl) (hcell : ∀ z ∈ scope.names, z.2 ≠ .cell) (hkind : scope.kind = .function)
    (hnames : ∀ z ∈ scope.names, z.2 = .local → scope.names.lookup z.1 = some .local) (hx : scope.names.lookup x = some .local) (hx₂ : scope.names.lookup x₂ = some .local) (hxx : x ≠ x₂)
    (hy : env.kindOf y = some .local) (hp : (env.scope.kind == .class || (env.scope.kind == .module && env.locals != env.globals)) = false)
    (h : wpAny (model prog w) A (eval iter env) (fun v s₁ => Stop (SrcZ prog w A h₀ L m env elt x x₂ y scope cl Q v s₁)) E s)
    (hs : ∀ x, foldedSetIterable iter env x = pure x := by intro _; rfl) :
    wpAny (model prog w) A (exec (.Assign [.Name y py] (.ListComp elt [⟨.Tuple [.Name x px, .Name x₂ px₂] tk tp, iter, [], 0⟩] scope pos) spos) env) Q E s := by
  unfold Stop at h
  subst hLe
  rw [exec_Assign_Name_used _ _ _ _ hsw]
  refine wpAny_bind (wpAny_standAt (wpAny_bind ?_))
  show wpAny _ A (do let _ ← comprehension (.ListComp elt [⟨.Tuple [.Name x px, .Name x₂ px₂] tk tp, iter, [], 0⟩] scope pos) scope env _ (newList []) false (eval iter env) (some (assign (.Name y py) env))) _ _ s
  refine wpAny_bind (wpAny_mono (wpAny_comprehension_free (use := some (assign (.Name y py) env)) (Q := fun _ s' => Q .next s') rfl hs hclos hkind hnames
    (wpAny_mono h (fun xv s₁ h₁ => ?_) fun _ _ e => e)) (fun _ s' hq => wpAny_pure (wpAny_pure hq)) fun _ _ e => e)
  obtain ⟨z, TI, TO, i1, it, l2, n, vs, ns, news, rfl, hh, Da, Z, hi, hn, hn2, F, N, hL, h0, off, helt, fin⟩ := h₁
  refine wpAny_pyIter_zip Z.z ?_
  refine block_Z Da Z hi hn hn2 hcell hkind hx hx₂ hxx hh F N hL h0 off helt ?_
  intro D C h' tk m' ys Dt F' N' hit hpa hD hDit hdn hnC hC₀ hCL hCD hCit offC
  show wpAny _ A (assign (.Name y py) env (.ref D)) _ _ _
  refine wpAny_assign_Name (wpAny_storeName_local hy F'.ns (fun h₂ hn₂ hs₂ => ?_) hp)
  have hL₀ : h₀.get? env.locals = none := Heap.get?_none_of_le F'.above
  have hitL : it ≠ env.locals := fun q => hL (by rw [← q]; simp)
  have F₂ : Fr h₀ env.locals h₂ (fun z => if z = y then some (.ref D) else m z) := ⟨hn₂, fun b o e => hs₂.extBut b o (fun q => by rw [q, hL₀] at e; cases e) (F'.keep b o e), F'.above⟩
  refine ⟨m', hnC.sameBut hs₂ hCL, fun h'' hs'' => fin D h'' _ ys Dt (F₂.change hs'' hCL hC₀) (fun p hp => ?_) ((hit.at fun o e => hs₂.extBut _ o hitL e).at fun o e => hs''.extBut _ o (Ne.symm hCit) e) hpa hD hDit hdn⟩
  have q : h₂.get? p.1 = some p.2 := hs₂.extBut _ _ (N' p hp).2.1 (N' p hp).1
  refine ⟨hs''.extBut _ _ ?_ q, (N' p hp).2⟩
  rcases List.mem_cons.mp hp with rfl | hp
  · exact Ne.symm hCD
  · exact offC p hp
end
section
variable {prog : Program} {w : World} {A : Around} {E : Value → Shared → Prop} {s : Shared} {h₀ : Heap} {L : Addr} {m : Str → Option Value} {env : Env}
theorem elt_pair {a b : Str} {pa pb pt : Pos} {k : Nat} {scope : Scope} {cl : List (Str × Addr)} {env : Env} (hk : scope.kind = .function) (ha : scope.names.lookup a = some .local) (hb : scope.names.lookup b = some .local)
    (da : (a == ("__debug__" : Str)) = false) (db : (b == ("__debug__" : Str)) = false) :
    ∀ (C : Addr) (s : Shared) (m₂ : Str → Option Value) (v₁ v₂ : Value) (Q : Value → Shared → Prop) (E' : Value → Shared → Prop), s.heap.Ns C m₂ → m₂ b = some v₁ → m₂ a = some v₂ →
      (Q (.ref s.heap.objs.size) { s with heap := s.heap.push { cls := .type "tuple", data := .seq #[v₂, v₁] } }) → wpAny (model prog w) A (eval (.Tuple [.Name a pa, .Name b pb] k pt) (compEnvC scope cl C env)) Q E' s := by
  intro C s m₂ v₁ v₂ Q E' hn hbv hav h
  refine wpAny_Tuple ?_
  refine PyProof.Rows.spliced_more ?_
  rw [eval_Name _ _ _ da]
  refine wpAny_bind (wpAny_standAt (wpAny_loadName_local (by simp [compEnvC, relabel, hk]) (lookup_relabel_local ha) hn hav ?_))
  refine PyProof.Rows.spliced_more ?_
  rw [eval_Name _ _ _ db]
  refine wpAny_bind (wpAny_standAt (wpAny_loadName_local (by simp [compEnvC, relabel, hk]) (lookup_relabel_local hb) hn hbv ?_))
  refine PyProof.Rows.spliced_none ?_
  exact ⟨by rw [sizeLine_eq]; simp, h⟩
theorem zip_src {elt : Expr} {x x₂ y : Str} {scope : Scope} {cl : List (Str × Addr)} {Q : Flow → Shared → Prop} {r it l : Addr} {n nl : Nat} {t u v : Tok} {vs : List Value} {ns : List Int} {news : News'}
    (hh : A.handled = none) (F : Fr h₀ L s.heap m) (N : News h₀ L s.heap ((it, itObj l 0) :: news)) (hr : IsRange s.heap r 0 (n : Int) 1 t u v) (hm : (l, listOf vs.toArray nl) ∈ news) (hi : IntsAre vs ns) (hn : n ≤ ns.length) (hn2 : n < 1000) (hit : ∀ p ∈ news, p.1 ≠ it)
    (helt : ∀ (C : Addr) (s : Shared) (m₂ : Str → Option Value) (v₁ v₂ : Value) (Q : Value → Shared → Prop) (E' : Value → Shared → Prop), s.heap.Ns C m₂ → m₂ x = some v₁ → m₂ x₂ = some v₂ →
      (Q (.ref s.heap.objs.size) { s with heap := s.heap.push { cls := .type "tuple", data := .seq #[v₂, v₁] } }) → wpAny (model prog w) A (eval elt (compEnvC scope cl C env)) Q E' s)
    (fin : ∀ D h tk ys Dt, Fr h₀ L h (fun q => if q = y then some (.ref D) else m q) → News h₀ L h ((D, LCg.lst ys) :: (Dt ++ news)) → h.IsListIter it l n → PA Dt ys (prs ns n) → (∀ p ∈ Dt ++ news, p.1 ≠ D ∧ p.1 ≠ it) → D ≠ it → (∀ p ∈ Dt, ∀ q ∈ news, p.1 ≠ q.1) → it ≠ L → h₀.get? it = none → Q .next { s with heap := h, toks := tk }) :
    wpAny (model prog w) A (call (.type "zip") [.ref r, .ref it]) (fun v s₁ => Stop (SrcZ prog w A h₀ L m env elt x x₂ y scope cl Q v s₁)) E s := by
  have nIt := N _ (.head _)
  have Nn : News h₀ L s.heap news := fun p hp => N p (.tail _ hp)
  have hIt : s.heap.IsListIter it l 0 := ⟨_, nIt.1, rfl, rfl⟩
  have hl : s.heap.IsList l vs.toArray := ⟨_, (Nn _ hm).1, rfl, nl, rfl⟩
  have itlt : @LT.lt Nat _ it s.heap.objs.size := Heap.lt_size nIt.1
  have llt : @LT.lt Nat _ l s.heap.objs.size := Heap.lt_size (Nn _ hm).1
  have Llt : @LT.lt Nat _ L s.heap.objs.size := F.ns.lt
  have hlit : l ≠ it := hit _ hm
  have f0 : ∀ a : Nat, s.heap.objs.size ≤ a → h₀.get? a = none := fun a ha => by
    cases e : h₀.get? a with
    | none => rfl
    | some o' => exact absurd (Heap.lt_size (F.keep a o' e)) (Nat.not_lt.mpr ha)
  refine call_zipR hr (by omega) hIt fun h' z ti to rr sz k => stop_of ?_
  refine ⟨s.heap.objs.size + 3, s.heap.objs.size + 1, s.heap.objs.size + 2, s.heap.objs.size, it, l, n, vs, ns, news, rfl, hh, ?_, ⟨z, ti, ⟨_, _, to⟩, ?_, hIt.at fun o e => k _ o e, hl.at fun o e => k _ o e⟩, hi, hn, hn2, F.keeps k, Nn.grown k, ?_, ?_, ?_, helt, ?_⟩
  · exact ⟨neN (by first | k_extra "ne" | omega), neN (by first | k_extra "ne" | omega), neN (by first | k_extra "ne" | omega), neN (by first | k_extra "ne" | omega), neN (by first | k_extra "ne" | omega), neN (by first | k_extra "ne" | omega), neN (by first | k_extra "ne" | omega), neN (by first | k_extra "ne" | omega), neN (by first | k_extra "ne" | omega), neN (by first | k_extra "ne" | omega), neN (by first | k_extra "ne" | omega), neN (by first | k_extra "ne" | omega), neN (by first | k_extra "ne" | omega), hlit⟩
  · simpa using rr
  · intro q
    simp only [List.mem_cons, List.not_mem_nil, or_false] at q
    rcases q with q | q | q | q
    · have q : @Eq Nat L (s.heap.objs.size + 3) := q
      omega
    · have q : @Eq Nat L (s.heap.objs.size + 2) := q
      omega
    · have q : @Eq Nat L (s.heap.objs.size) := q
      omega
    · exact nIt.2.1 q.symm
  · intro b q
    simp only [List.mem_cons, List.not_mem_nil, or_false] at q
    rcases q with rfl | rfl | rfl | rfl
    · exact f0 _ (by omega)
    · exact f0 _ (by omega)
    · exact f0 _ (by omega)
    · exact nIt.2.2
  · intro p hp q
    have plt : @LT.lt Nat _ p.1 s.heap.objs.size := Heap.lt_size (Nn _ hp).1
    simp only [List.mem_cons, List.not_mem_nil, or_false] at q
    rcases q with q | q | q | q | q
    · have q : @Eq Nat p.1 (s.heap.objs.size + 3) := q
      omega
    · have q : @Eq Nat p.1 (s.heap.objs.size + 1) := q
      omega
    · have q : @Eq Nat p.1 (s.heap.objs.size + 2) := q
      omega
    · have q : @Eq Nat p.1 (s.heap.objs.size) := q
      omega
    · exact hit p hp q
  · intro D h tk ys Dt a1 a2 a3 a4 a5 a6 a7
    exact fin D h tk ys Dt a1 a2 a3 a4 a5 a6 a7 nIt.2.1 nIt.2.2
end
end
section
theorem wd3Bx61 : True := by
  k_with_none
  k_with "omega" => (omega (splitDisjunctions := true))
  k_with "om2" => (first | lia | omega (splitDisjunctions := true))
  k_with "eval Name" => ((k_here; (with_reducible show wpAny _ _ (eval _ (envOf _ _ _ _ _)) _ _ _); k_dflt (refine' nmL ?yF ?yv ?yx ?yk ?yd ?_; (case yF => k_asm); (case yk => exact rfl); (case yx => exact rfl); (case yd => exact rfl); (case yv => exact rfl); k_whole)))
  k_with "storeName" => ((k_here; (with_reducible show wpAny _ _ (storeName (envOf _ _ _ _ _) _ _) _ _ _); k_dflt (refine' stoLe ?yF ?yN ?yx ?yk ?_; (case yF => k_asm); (case yN => k_asm); (case yk => exact rfl); (case yx => exact rfl); k_whole; intro m'ω h'ω F'ω N'ω; (try k_sweep))))
  k_with "eval Name" => ((k_here; (with_reducible show wpAny _ _ (eval _ (envOfC _ _ _ _ _)) _ _ _); k_dflt (refine' nmLC ?yF ?yv ?yk ?yx ?yd ?_; (case yF => k_asm); (case yk => exact rfl); (case yx => exact rfl); (case yd => exact rfl); (case yv => exact rfl); k_whole)))
  k_with "storeName" => ((k_here; (with_reducible show wpAny _ _ (storeName (envOfC _ _ _ _ _) _ _) _ _ _); k_dflt (refine' stoLCe ?yF ?yN ?yk ?yx ?_; (case yF => k_asm); (case yN => k_asm); (case yk => exact rfl); (case yx => exact rfl); k_whole; intro m'ω h'ω F'ω N'ω; (try k_sweep))))
  k_with "execs cons" => ((k_here; (first | (with_reducible show wpAny _ _ (execs _ _) (AtF _) _ _) | (refine execs_abs ?_; intro Q8ω q8ω)); k_dflt (refine execs_gen ?_); intro Q7ω t7ω g7ω o7ω; (try dsimp only)))
  k_with "AtF" => ((with_reducible first | refine AtF.go (by assumption) ?_ | (refine AtF.out (by assumption) (fun z => Flow.noConfusion z) ?_) | (refine AtF.fin (by assumption) ?_; (try dsimp only))))
  k_with "room" => (k_dflt (first | exact rm2 (by assumption) rfl | exact rm1 (by assumption) rfl | exact rm3 (by assumption) rfl | exact rm4 (by assumption) rfl | exact rm0 (by assumption)))
  k_with "kne" => ((refine neN ?_; (try dsimp only); k_extra "ne"))
  k_with "cj" => (first | exact And.left | exact id | (refine cjs ?_; k_extra "cj"))
  k_with "ne" => (with_reducible first | assumption | exact lne (by assumption) | exact gne (by assumption) | exact sne (by assumption) | exact suc | exact suc2 | exact sne suc | exact sne suc2 | (refine ltc (by assumption) ?_; k_extra "cj") | (refine gtc (by assumption) ?_; k_extra "cj") | (refine nec (by assumption) ?_; k_extra "cj") | (refine nfc (by assumption) ?_; k_extra "cj"))
  k_with "truthy ref" => ((k_here; (with_reducible show wpAny _ _ (truthy (Value.ref _)) _ _ _); k_dflt (refine' truthy_ints ?k1 ?k2 ?k3 ?k4 ?_; (case k1 => k_asm); (case k2 => k_mem); (case k3 => l_ints); (case k4 => first | omega | (simp only [List.length_set, List.length_dropLast, List.length_append, List.length_cons, List.length_nil]; omega)); k_whole)))
  k_with "call ref" => ((k_here; (with_reducible show wpAny _ _ (call (Value.ref 98) _) _ _ _); k_dflt (refine' c_siftup ?k1 ?k2 ?k3 ?k4 ?k5 ?k6 ?k7 ?k8 ?k9 ?_; (case k1 => refine' pushT ?p1 ?p2 ?p3 ?p4; (case p1 => k_asm); (case p2 => k_asm); (case p3 => exact rfl); (case p4 => exact rfl)); (case k2 => k_asm); (case k3 => k_asm); (case k4 => refine has_of (by k_asm) (by k_asm) rfl (List.forall_mem_singleton.mpr ?m); (case m => k_mem)); (case k5 => l_ints); (case k6 => first | omega | (simp only [List.length_set, List.length_dropLast]; omega)); (case k7 => first | omega | (simp only [List.length_set, List.length_dropLast]; omega)); (case k8 => ktr_room); (case k9 => ktr_units); k_whole; (intro s'ω vs'ω n'ω hEω hgω hi'ω; have F9ω := back_fr (by k_asm) (by k_asm) hEω (List.forall_mem_singleton.mpr ⟨_, by k_mem⟩); have N9ω := back_news1 (by k_asm) hEω (by k_upd) hgω; (try k_sweep); (try dsimp only)))))
  k_with "mine os_go" => (first | exact rfl | assumption | (refine Eq.trans (Ext.os (by assumption)) ?_; (try dsimp only) <;> walk_at "mine os_go"))
  k_with "mine bare_go" => (first | assumption | (refine Ext.bare (by assumption) ?_; (try dsimp only); walk_at "mine bare_go"))
  k_with "binaryOp Add str str" => ((k_here; k_dflt (refine' add_text' ?k1 ?k2 ?k3 ?_; (case k1 => first | exact of40 | exact of41 | exact of34 | exact rfl); (case k2 => first | exact of40 | exact of41 | exact of34 | exact rfl); (case k3 => first | omega | (simp only [List.length_append, List.length_cons, List.length_nil, fmL_len]; omega)); k_whole; intro t'ω k'ω)))
  k_with "call ref" => ((k_here; (with_reducible show wpAny _ _ (call (Value.ref 165) _) _ _ _); k_dflt (refine' c_filemode ?k1 ?k2 ?k3 ?k4 ?k5 ?_; (case k1 => refine' pushT ?p1 ?p2 ?p3 ?p4; (case p1 => k_asm); (case p2 => k_asm); (case p3 => exact rfl); (case p4 => exact rfl)); (case k2 => k_asm); (case k3 => k_asm); (case k4 => ktr_room); (case k5 => ktr_units); k_whole; (intro s'ω t'ω hEω; have F9ω := back_fr (by k_asm) (by k_asm) hEω (fun _ hq => nomatch hq); have N9ω := back_news0 (by k_asm) hEω; (try k_sweep); (try dsimp only)))))
  k_with "call builtin:iter" => ((k_here; (with_reducible show wpAny _ _ (call (Value.builtin "iter") [Value.ref _]) _ _ _); k_dflt (refine' iter_list ?k1 ?k2 ?k3 ?_; (case k1 => k_asm); (case k2 => k_asm); (case k3 => k_mem); k_whole); intro I'ω h'ω F'ω N'ω l1ω; (try k_lt l1ω); (try k_sweep)))
  k_with "call type:object" => ((k_here; (with_reducible show wpAny _ _ (call (Value.type "object") []) _ _ _); k_dflt (refine' call_object ?k1 ?k2 ?_; (case k1 => k_asm); (case k2 => k_asm); k_whole); intro I'ω h'ω F'ω N'ω l1ω; (try k_lt l1ω); (try k_sweep)))
  k_with "call builtin:sorted" => ((k_here; (with_reducible show wpAny _ _ (call (Value.builtin "sorted") [Value.ref _] _) _ _ _); k_dflt (refine' sorted_none ?k1 ?k2 ?k3 ?k4 ?k5 ?_; (case k1 => k_asm); (case k2 => k_asm); (case k3 => k_mem); (case k4 => assumption); (case k5 => omega); k_whole); intro D'ω v'ω c'ω h'ω F'ω N'ω l1ω i'ω; (try k_lt l1ω); (try k_sweep)))
  k_with "subscriptTail" => ((k_here; (with_reducible show wpAny _ _ (subscriptTail (PySem.Expr.Call _ _ _ _) (PySem.Expr.Slice none _ none _) (Value.ref _) (Value.ref _)) _ _ _); k_dflt (refine' slice_temp ?k0 ?k1 ?k2 ?k3 ?k4 ?k5 ?_; (case k0 => omega); (case k1 => k_asm); (case k2 => k_asm); (case k3 => k_mem); (case k4 => assumption); (case k5 => (simp only [srt, List.length_mergeSort]; omega)); k_whole); intro D'ω v'ω h'ω F'ω N'ω l1ω i'ω; (try k_lt l1ω); (try k_sweep)))
  k_with "exec Try" => ((k_here; k_dflt (refine wpAny_Try_except ?_)))
  k_with "exec Assign cons ListComp" => ((k_here; k_dflt (refine assComp_Z (F₀ := by k_asm) (by rfl) (by with_unfolding_all rfl) (by with_unfolding_all rfl) (by decide) (by rfl) (by decide) (by rfl) (by rfl) (by decide) (by rfl) (by rfl) ?_)))
  k_with "call type:zip" => ((k_here; refine of_stop ?_))
  trivial
theorem nsm_zero {w : World} {mean : ExcName → Option Value} {mg mb : Str → Option Value} {dp un : Nat} {gd : Option (List Code)} {outer : List Env} {base : Heap} {s : Shared} {Q E : Value → Shared → Prop} {l : Addr} {vs : List Value} {hs : List Int} {n : Nat} {t0 : Tok} (B : Below (top dp un gd outer) base outer s.heap) (X : (Kt w.params).In base) (T : Top vw loo mean mg mb base) (H : Has base outer s.heap [(l, listOf vs.toArray n)])
  (hi : IntsAre vs hs) (h2 : 2 ≤ hs.length) (hlen : hs.length ≤ 5) (hdp : dp + 20 < recursionLimit) (hun : un + 160 < cLine)
  (hret : ∀ s' r vs' n', Ext [] s s' → s.heap.get? r = none → s'.heap.get? r = some (listOf vs'.toArray n') → IntsAre vs' ((srt hs).take (0 : Int).toNat) → Q (.ref r) s') :
  wpAny (model PySem.Challenge.rw_om0101_01.row.prog w) (top dp un gd outer) (call (.ref 118) [.int 0 t0, .ref l]) Q E s := by
  revert X; k_fill; intro X
  have hvl := IntsAre.length hi
  w_strict (
   (refine wpAny_call ?_; (k_dflt (refine' enterC ?k1 ?k2 ?k3 ?k4 ?k6 ?k7 ?k8 ?k9 ?kB ?kD ?_ ?c2 ?c3 ?c4; (case k1 => k_asm); (case k2 => k_asm); (case k3 => k_asm); (case k4 => first | k_asm | exact Has.nil); (case k6 => k_is); (case k7 => k_is); (case k8 => ktr_room); (case k9 => first | exact BindsTo.of_eq rfl | exact binds_K (X.keeps B.stays) rfl (by k_is) rfl rfl rfl | exact binds_K (by k_in) rfl (by k_is) rfl rfl rfl); (case kB => exact rfl); (case kD => decide +kernel); (case c2 => exact rfl); (case c3 => exact rfl); (case c4 => exact rfl); k_whole; intro g' L' h' tk' cells' FG' F' N' Y' B' X' T' l1; (try k_lt l1); k_cells Y'; (try simp only [List.cons_append, List.nil_append] at N'); (try dsimp only); (try k_lift B'); (try k_fold))))
   k_steps)
  refine stop_of ?_
  rename IsRange _ _ _ _ _ _ _ _ => R1
  rename Fr _ _ _ _ => F1
  rename News _ _ _ _ => N1
  k_dflt (refine zip_src (n := 0) rfl F1 N1 R1 (by k_mem) hi (Nat.zero_le _) (by decide) ?_ (elt_pair rfl (by rfl) (by rfl) (by rfl) (by rfl)) ?_)
  · exact List.forall_mem_cons.mpr ⟨neN (by first | k_extra "ne" | omega), List.forall_mem_cons.mpr ⟨neN (by first | k_extra "ne" | omega), List.forall_mem_nil _⟩⟩
  intro D h tk ys Dt F2 N2 hit hpa hD hDit hdn hitL hit0
  rename Obj => oc
  have N3 : News g' L' h [(D, LCg.lst ys), (L' + 1, oc), (l, listOf vs.toArray n)] := fun p hp => N2 p (by
    simp only [List.mem_cons, List.mem_append, List.not_mem_nil, or_false] at hp ⊢
    rcases hp with h | h | h <;> simp only [h, true_or, or_true])
  have hDl := (hD (l, listOf vs.toArray n) (List.mem_append_right _ (.tail _ (.head _)))).1
  obtain rfl : ys = [] := List.eq_nil_of_length_eq_zero hpa.length
  clear N1 N2 F1
  dsimp only at F2 N3 ⊢
  k_steps
  try dsimp only
  exact hret _ _ [] 0 (ext_same FG' F2 H N3 (.tail _ (.tail _ (.head _))) (by ((try dsimp only) <;> (walk_at "mine os_go"))) (by (intro y; (try dsimp only) <;> (walk_at "mine bare_go")))) (fresh_of FG' N3 (.head _) (by simp only [List.map_cons, List.map_nil, List.mem_singleton]; exact fun q => hDl q.symm)) (N3 _ (.head _)).1 .nil
end
section
theorem wd3Cx62 : True := by
  k_with_none
  k_with "omega" => (omega (splitDisjunctions := true))
  k_with "om2" => (first | lia | omega (splitDisjunctions := true))
  k_with "eval Name" => ((k_here; (with_reducible show wpAny _ _ (eval _ (envOf _ _ _ _ _)) _ _ _); k_dflt (refine' nmL ?yF ?yv ?yx ?yk ?yd ?_; (case yF => k_asm); (case yk => exact rfl); (case yx => exact rfl); (case yd => exact rfl); (case yv => exact rfl); k_whole)))
  k_with "storeName" => ((k_here; (with_reducible show wpAny _ _ (storeName (envOf _ _ _ _ _) _ _) _ _ _); k_dflt (refine' stoLe ?yF ?yN ?yx ?yk ?_; (case yF => k_asm); (case yN => k_asm); (case yk => exact rfl); (case yx => exact rfl); k_whole; intro m'ω h'ω F'ω N'ω; (try k_sweep))))
  k_with "eval Name" => ((k_here; (with_reducible show wpAny _ _ (eval _ (envOfC _ _ _ _ _)) _ _ _); k_dflt (refine' nmLC ?yF ?yv ?yk ?yx ?yd ?_; (case yF => k_asm); (case yk => exact rfl); (case yx => exact rfl); (case yd => exact rfl); (case yv => exact rfl); k_whole)))
  k_with "storeName" => ((k_here; (with_reducible show wpAny _ _ (storeName (envOfC _ _ _ _ _) _ _) _ _ _); k_dflt (refine' stoLCe ?yF ?yN ?yk ?yx ?_; (case yF => k_asm); (case yN => k_asm); (case yk => exact rfl); (case yx => exact rfl); k_whole; intro m'ω h'ω F'ω N'ω; (try k_sweep))))
  k_with "execs cons" => ((k_here; (first | (with_reducible show wpAny _ _ (execs _ _) (AtF _) _ _) | (refine execs_abs ?_; intro Q8ω q8ω)); k_dflt (refine execs_gen ?_); intro Q7ω t7ω g7ω o7ω; (try dsimp only)))
  k_with "AtF" => ((with_reducible first | refine AtF.go (by assumption) ?_ | (refine AtF.out (by assumption) (fun z => Flow.noConfusion z) ?_) | (refine AtF.fin (by assumption) ?_; (try dsimp only))))
  k_with "room" => (k_dflt (first | exact rm2 (by assumption) rfl | exact rm1 (by assumption) rfl | exact rm3 (by assumption) rfl | exact rm4 (by assumption) rfl | exact rm0 (by assumption)))
  k_with "kne" => ((refine neN ?_; (try dsimp only); k_extra "ne"))
  k_with "cj" => (first | exact And.left | exact id | (refine cjs ?_; k_extra "cj"))
  k_with "ne" => (with_reducible first | assumption | exact lne (by assumption) | exact gne (by assumption) | exact sne (by assumption) | exact suc | exact suc2 | exact sne suc | exact sne suc2 | (refine ltc (by assumption) ?_; k_extra "cj") | (refine gtc (by assumption) ?_; k_extra "cj") | (refine nec (by assumption) ?_; k_extra "cj") | (refine nfc (by assumption) ?_; k_extra "cj"))
  trivial
theorem meets_tlt (a b : Addr) (x i y j : Int) (t u t' u' : Tok) :
    Meets (Builtin.«tuple.__lt__» ⟨[.ref a, .ref b], []⟩) (fun _ R s => s.heap.get? a = some (tup2 x t i u) ∧ s.heap.get? b = some (tup2 y t' j u') ∧ R (.ok (.ret (.bool (decide (x < y ∨ (x = y ∧ i < j)))))) s) :=
  .of_wp fun prog w A R s h => by
    obtain ⟨ha, hb, h⟩ := h
    have hTb : s.TypeIs (.ref b) "tuple" := ⟨_, hb, rfl⟩
    have hsub : isSubtype (.type "tuple") (.type "tuple") = pure true := by rw [isSubtype_type]; kernel_rfl
    show wpAny _ _ (isInstance (.ref b) (.type "tuple") >>= _) _ _ _
    refine wpAny_bind (wpAny_isInstance (T := "tuple") (b := true) hTb hsub ?_)
    simp only [Bool.not_true, Bool.false_eq_true, if_false]
    refine wpAny_bind (wpAny_bind (wpAny_seqItems ha rfl (wpAny_pure ?_)))
    refine wpAny_bind (wpAny_bind (wpAny_seqItems hb rfl (wpAny_pure ?_)))
    rw [show ((#[Value.int x t, Value.int i u] : Array Value).toList.zip (#[Value.int y t', Value.int j u'] : Array Value).toList) = [(Value.int x t, Value.int y t'), (Value.int i u, Value.int j u')] from rfl]
    simp only [List.forIn_cons, List.forIn_nil]
    have lt : ∀ (p q : Int) (v v' : Tok) (Q : Value → Shared → Prop) (E : Value → Shared → Prop), Q (.bool (decide (p < q))) s → wpAny (model prog w) A.in1 (richCompare .Lt (.int p v) (.int q v')) Q E s := fun p q v v' Q E k => PyProof.Rows.lt_int (a := p) (b := q) k
    by_cases hxy : x = y
    · refine wpAny_bind (wpAny_bind (wpAny_bind (wpAny_eqBool_int ?_)))
      rw [show (x == y) = true from by simpa using hxy]
      simp only [Bool.not_true, Bool.false_eq_true, if_false]
      refine wpAny_pure ?_
      try dsimp only
      refine wpAny_bind (wpAny_bind (wpAny_eqBool_int ?_))
      by_cases hij : i = j
      · rw [show (i == j) = true from by simpa using hij]
        simp only [Bool.not_true, Bool.false_eq_true, if_false]
        refine wpAny_pure ?_
        try dsimp only
        refine wpAny_pure ?_
        try dsimp only
        refine wpAny_pure ⟨_, rfl, ?_⟩
        rw [show decide (x < y ∨ x = y ∧ i < j) = false from decide_eq_false (by omega)] at h
        exact h
      · rw [show (i == j) = false from by simpa using hij]
        simp only [Bool.not_false, if_true]
        refine wpAny_bind (wpAny_rule (wpAny_bind (lt _ _ _ _ _ _ (wpAny_bind (wpAny_pure (wpAny_pure ?_))))))
        try dsimp only
        refine wpAny_pure ?_
        try dsimp only
        refine wpAny_pure ⟨_, rfl, ?_⟩
        rw [show decide (x < y ∨ x = y ∧ i < j) = decide (i < j) from decide_eq_decide.mpr (by omega)] at h
        exact h
    · refine wpAny_bind (wpAny_bind (wpAny_bind (wpAny_eqBool_int ?_)))
      rw [show (x == y) = false from by simpa using hxy]
      simp only [Bool.not_false, if_true]
      refine wpAny_bind (wpAny_rule (wpAny_bind (lt _ _ _ _ _ _ (wpAny_bind (wpAny_pure (wpAny_pure ?_))))))
      try dsimp only
      refine wpAny_pure ?_
      try dsimp only
      refine wpAny_pure ⟨_, rfl, ?_⟩
      rw [show decide (x < y ∨ x = y ∧ i < j) = decide (x < y) from decide_eq_decide.mpr (by omega)] at h
      exact h
theorem lt_tups {prog : Program} {w : World} {A : Around} {E : Value → Shared → Prop} {s : Shared} {h₀ : Heap} {L a b : Addr} {news : List (Addr × Obj)} {Q : Value → Shared → Prop} {x i y j : Int} {t u t' u' : Tok}
    (N : News h₀ L s.heap news) (ha : (a, tup2 x t i u) ∈ news) (hb : (b, tup2 y t' j u') ∈ news) (hu : A.units < cLine) (h : Q (.bool (decide (x < y ∨ (x = y ∧ i < j)))) s) : wpAny (model prog w) A (compareOp .Lt (.ref a) (.ref b)) Q E s := by
  have hTa : s.TypeIs (.ref a) "tuple" := ⟨_, (N _ ha).1, rfl⟩
  have hTb : s.TypeIs (.ref b) "tuple" := ⟨_, (N _ hb).1, rfl⟩
  show wpAny _ _ (richCompare .Lt (.ref a) (.ref b)) _ _ _
  refine wpAny_richCompare_same_room hTa hTb PySem.F.slot_tuple_lt ?_ hu
  exact call_meets PySem.F.slot_tuple_lt hTa PySem.F.entry_tuple_lt (PySem.F.args_tuple_lt_2 _ _) (meets_tlt a b x i y j t u t' u') ⟨(N _ ha).1, (N _ hb).1, show _ ∧ _ from ⟨by simp, h⟩⟩
end
section
theorem wd3Dx63 : True := by
  k_with_none
  k_with "omega" => (omega (splitDisjunctions := true))
  k_with "om2" => (first | lia | omega (splitDisjunctions := true))
  k_with "eval Name" => ((k_here; (with_reducible show wpAny _ _ (eval _ (envOf _ _ _ _ _)) _ _ _); k_dflt (refine' nmL ?yF ?yv ?yx ?yk ?yd ?_; (case yF => k_asm); (case yk => exact rfl); (case yx => exact rfl); (case yd => exact rfl); (case yv => exact rfl); k_whole)))
  k_with "storeName" => ((k_here; (with_reducible show wpAny _ _ (storeName (envOf _ _ _ _ _) _ _) _ _ _); k_dflt (refine' stoLe ?yF ?yN ?yx ?yk ?_; (case yF => k_asm); (case yN => k_asm); (case yk => exact rfl); (case yx => exact rfl); k_whole; intro m'ω h'ω F'ω N'ω; (try k_sweep))))
  k_with "eval Name" => ((k_here; (with_reducible show wpAny _ _ (eval _ (envOfC _ _ _ _ _)) _ _ _); k_dflt (refine' nmLC ?yF ?yv ?yk ?yx ?yd ?_; (case yF => k_asm); (case yk => exact rfl); (case yx => exact rfl); (case yd => exact rfl); (case yv => exact rfl); k_whole)))
  k_with "storeName" => ((k_here; (with_reducible show wpAny _ _ (storeName (envOfC _ _ _ _ _) _ _) _ _ _); k_dflt (refine' stoLCe ?yF ?yN ?yk ?yx ?_; (case yF => k_asm); (case yN => k_asm); (case yk => exact rfl); (case yx => exact rfl); k_whole; intro m'ω h'ω F'ω N'ω; (try k_sweep))))
  k_with "execs cons" => ((k_here; (first | (with_reducible show wpAny _ _ (execs _ _) (AtF _) _ _) | (refine execs_abs ?_; intro Q8ω q8ω)); k_dflt (refine execs_gen ?_); intro Q7ω t7ω g7ω o7ω; (try dsimp only)))
  k_with "AtF" => ((with_reducible first | refine AtF.go (by assumption) ?_ | (refine AtF.out (by assumption) (fun z => Flow.noConfusion z) ?_) | (refine AtF.fin (by assumption) ?_; (try dsimp only))))
  k_with "room" => (k_dflt (first | exact rm2 (by assumption) rfl | exact rm1 (by assumption) rfl | exact rm3 (by assumption) rfl | exact rm4 (by assumption) rfl | exact rm0 (by assumption)))
  k_with "kne" => ((refine neN ?_; (try dsimp only); k_extra "ne"))
  k_with "cj" => (first | exact And.left | exact id | (refine cjs ?_; k_extra "cj"))
  k_with "ne" => (with_reducible first | assumption | exact lne (by assumption) | exact gne (by assumption) | exact sne (by assumption) | exact suc | exact suc2 | exact sne suc | exact sne suc2 | (refine ltc (by assumption) ?_; k_extra "cj") | (refine gtc (by assumption) ?_; k_extra "cj") | (refine nec (by assumption) ?_; k_extra "cj") | (refine nfc (by assumption) ?_; k_extra "cj"))
  k_with "truthy ref" => ((k_here; (with_reducible show wpAny _ _ (truthy (Value.ref _)) _ _ _); k_dflt (refine' truthy_ints ?k1 ?k2 ?k3 ?k4 ?_; (case k1 => k_asm); (case k2 => k_mem); (case k3 => l_ints); (case k4 => first | omega | (simp only [List.length_set, List.length_dropLast, List.length_append, List.length_cons, List.length_nil]; omega)); k_whole)))
  k_with "call ref" => ((k_here; (with_reducible show wpAny _ _ (call (Value.ref 98) _) _ _ _); k_dflt (refine' c_siftup ?k1 ?k2 ?k3 ?k4 ?k5 ?k6 ?k7 ?k8 ?k9 ?_; (case k1 => refine' pushT ?p1 ?p2 ?p3 ?p4; (case p1 => k_asm); (case p2 => k_asm); (case p3 => exact rfl); (case p4 => exact rfl)); (case k2 => k_asm); (case k3 => k_asm); (case k4 => refine has_of (by k_asm) (by k_asm) rfl (List.forall_mem_singleton.mpr ?m); (case m => k_mem)); (case k5 => l_ints); (case k6 => first | omega | (simp only [List.length_set, List.length_dropLast]; omega)); (case k7 => first | omega | (simp only [List.length_set, List.length_dropLast]; omega)); (case k8 => ktr_room); (case k9 => ktr_units); k_whole; (intro s'ω vs'ω n'ω hEω hgω hi'ω; have F9ω := back_fr (by k_asm) (by k_asm) hEω (List.forall_mem_singleton.mpr ⟨_, by k_mem⟩); have N9ω := back_news1 (by k_asm) hEω (by k_upd) hgω; (try k_sweep); (try dsimp only)))))
  trivial
structure Ent where
  a : Addr
  x : Int
  t : Tok
  i : Int
  u : Tok
  deriving DecidableEq
def geE (e f : Ent) : Prop := ¬ (e.x < f.x ∨ (e.x = f.x ∧ e.i < f.i))
theorem geE_lt {e f : Ent} (h : f.x < e.x ∨ f.x = e.x ∧ f.i < e.i) : geE e f := by
  unfold geE; omega
theorem geE_tr {e f g : Ent} (h : geE e f) (k : geE f g) : geE e g := by
  unfold geE at *; omega
theorem pr3 {a b c : Ent} {l : List Ent} : (c :: b :: a :: l).Perm (a :: b :: c :: l) := (List.Perm.swap b c _).trans (((List.Perm.swap a c _).cons b).trans (List.Perm.swap a b _))
theorem pr4 {a b c d : Ent} {l : List Ent} : (b :: d :: c :: a :: l).Perm (a :: b :: c :: d :: l) := (pr3.cons b).trans (List.Perm.swap a b _)
theorem ext_many {s s' : Shared} {g base : Heap} {outer : List Env} {L l : Addr} {o : Obj} {m : Str → Option Value} {ts news : List (Addr × Obj)} (FG : ∀ b o', b ∉ List.map (·.1) ((l, o) :: ts) → s.heap.get? b = some o' → g.get? b = some o') (F : Fr g L s'.heap m)
    (H : Has base outer s.heap ((l, o) :: ts)) (N : News g L s'.heap news) (ht : ∀ p ∈ ts, p ∈ news) (hos : s'.os = s.os) (hb : AllBare s.gens → AllBare s'.gens) : Ext [l] s s' := by
  refine ⟨fun b o' hl e => ?_, hos, hb⟩
  by_cases q : b ∈ ts.map (·.1)
  · obtain ⟨p, hp, rfl⟩ := List.mem_map.mp q
    rw [(H p (.tail _ hp)).1] at e
    rw [← Option.some.inj e]; exact (N p (ht p hp)).1
  · refine F.keep _ _ (FG b o' ?_ e)
    simp only [List.map_cons, List.mem_cons, not_or]
    exact ⟨fun z => hl (List.mem_singleton.mpr z), q⟩
theorem item_lit {prog : Program} {w : World} {A : Around} {E : Value → Shared → Prop} {s : Shared} {h₀ : Heap} {L : Addr} {news : List (Addr × Obj)} {value slice : PySem.Expr} {l : Addr} {its : Array Value} {n : Nat} {k : Int} {u : Tok} {x : Value} {Q : Value → Shared → Prop}
    (N : News h₀ L s.heap news) (hm : (l, listOf its n) ∈ news) (h0 : 0 ≤ k) (hk : k < 2 ^ 63) (hx : its[k.toNat]? = some x) (h : Q x s)
    (hs : subscripted slice false (.ref l) (.int k u) = operate [.ref l, .int k u] (getItem (.ref l) (.int k u)) := by with_unfolding_all rfl) : wpAny (model prog w) A (subscriptTail value slice (.ref l) (.int k u)) Q E s := by
  have hl : s.heap.IsList l its := ⟨_, (N _ hm).1, rfl, n, rfl⟩
  exact PyProof.Rows.tail_any hl.typeIs slot_list_getitem.lookup (wpAny_getItem_list hl h0 hk hx h) hs
theorem item_l0 {prog : Program} {w : World} {A : Around} {E : Value → Shared → Prop} {s : Shared} {h₀ : Heap} {L : Addr} {news : List (Addr × Obj)} {value slice : PySem.Expr} {l : Addr} { x : Value} {vs : List Value} {n : Nat} {k : Int} {u : Tok} {Q : Value → Shared → Prop}
    (hk : k = 0) (N : News h₀ L s.heap news) (hm : (l, listOf (x :: vs).toArray n) ∈ news) (h : Q x s)
    (hs : subscripted slice false (.ref l) (.int k u) = operate [.ref l, .int k u] (getItem (.ref l) (.int k u)) := by with_unfolding_all rfl) : wpAny (model prog w) A (subscriptTail value slice (.ref l) (.int k u)) Q E s :=
  item_lit N hm (by rw [hk]; decide) (by rw [hk]; decide) (by rw [hk]; rfl) h hs
theorem item_l1 {prog : Program} {w : World} {A : Around} {E : Value → Shared → Prop} {s : Shared} {h₀ : Heap} {L : Addr} {news : List (Addr × Obj)} {value slice : PySem.Expr} {l : Addr} {y0 x : Value} {vs : List Value} {n : Nat} {k : Int} {u : Tok} {Q : Value → Shared → Prop}
    (hk : k = 1) (N : News h₀ L s.heap news) (hm : (l, listOf (y0 :: x :: vs).toArray n) ∈ news) (h : Q x s)
    (hs : subscripted slice false (.ref l) (.int k u) = operate [.ref l, .int k u] (getItem (.ref l) (.int k u)) := by with_unfolding_all rfl) : wpAny (model prog w) A (subscriptTail value slice (.ref l) (.int k u)) Q E s :=
  item_lit N hm (by rw [hk]; decide) (by rw [hk]; decide) (by rw [hk]; rfl) h hs
theorem item_l2 {prog : Program} {w : World} {A : Around} {E : Value → Shared → Prop} {s : Shared} {h₀ : Heap} {L : Addr} {news : List (Addr × Obj)} {value slice : PySem.Expr} {l : Addr} {y0 y1 x : Value} {vs : List Value} {n : Nat} {k : Int} {u : Tok} {Q : Value → Shared → Prop}
    (hk : k = 2) (N : News h₀ L s.heap news) (hm : (l, listOf (y0 :: y1 :: x :: vs).toArray n) ∈ news) (h : Q x s)
    (hs : subscripted slice false (.ref l) (.int k u) = operate [.ref l, .int k u] (getItem (.ref l) (.int k u)) := by with_unfolding_all rfl) : wpAny (model prog w) A (subscriptTail value slice (.ref l) (.int k u)) Q E s :=
  item_lit N hm (by rw [hk]; decide) (by rw [hk]; decide) (by rw [hk]; rfl) h hs
theorem item_l3 {prog : Program} {w : World} {A : Around} {E : Value → Shared → Prop} {s : Shared} {h₀ : Heap} {L : Addr} {news : List (Addr × Obj)} {value slice : PySem.Expr} {l : Addr} {y0 y1 y2 x : Value} {vs : List Value} {n : Nat} {k : Int} {u : Tok} {Q : Value → Shared → Prop}
    (hk : k = 3) (N : News h₀ L s.heap news) (hm : (l, listOf (y0 :: y1 :: y2 :: x :: vs).toArray n) ∈ news) (h : Q x s)
    (hs : subscripted slice false (.ref l) (.int k u) = operate [.ref l, .int k u] (getItem (.ref l) (.int k u)) := by with_unfolding_all rfl) : wpAny (model prog w) A (subscriptTail value slice (.ref l) (.int k u)) Q E s :=
  item_lit N hm (by rw [hk]; decide) (by rw [hk]; decide) (by rw [hk]; rfl) h hs

theorem wd3Dx64 : True := by
  k_with "subscriptTail Name Name ref int" => ((k_here; (with_reducible show wpAny _ _ (subscriptTail _ _ (Value.ref _) (Value.int _ _)) _ _ _); k_dflt (first | (refine item_l0 (by decide) (by k_asm) (List.mem_cons_self ..) ?_) | (refine item_l1 (by decide) (by k_asm) (List.mem_cons_self ..) ?_) | (refine item_l2 (by decide) (by k_asm) (List.mem_cons_self ..) ?_) | (refine item_l3 (by decide) (by k_asm) (List.mem_cons_self ..) ?_))))
  k_with "subscriptTail Name Constant ref int" => ((k_here; (with_reducible show wpAny _ _ (subscriptTail _ _ (Value.ref _) (Value.int _ _)) _ _ _); k_dflt (first | (refine item_l0 (by decide) (by k_asm) (List.mem_cons_self ..) ?_) | (refine item_l1 (by decide) (by k_asm) (List.mem_cons_self ..) ?_) | (refine item_l2 (by decide) (by k_asm) (List.mem_cons_self ..) ?_) | (refine item_l3 (by decide) (by k_asm) (List.mem_cons_self ..) ?_))))
  k_with "compareOp Lt ref ref" => ((k_here; (with_reducible show wpAny _ _ (compareOp CmpOp.Lt (Value.ref _) (Value.ref _)) _ _ _); k_dflt (refine' lt_tups ?k1 ?k2 ?k3 ?k4 ?_; (case k1 => k_asm); (case k2 => k_mem); (case k3 => k_mem); (case k4 => ktr_units); k_whole)))
  k_with "setItem ref int" => ((k_here; (with_reducible show wpAny _ _ (setItem (Value.ref _) (Value.int _ _) _) _ _ _); k_dflt (refine' ki_set ?F ?N ?a ?b ?e (Upd.head ?U) ?_; (case F => k_asm); (case N => k_asm); (case U => assumption); (case a => decide); (case b => decide); (case e => rfl)); ki_rest))
  k_with "call ref" => ((k_here; (with_reducible show wpAny _ _ (call (Value.ref 105) _) _ _ _); k_dflt (refine wpAny_call ?_; (refine' code_def ?k1 ?k2 ?k3 ?k4 ?k5 ?kA ?kF ?kK ?k6 ?k7 ?k8 ?k9 ?kB ?_ ?c2 ?c3 ?c4 ?c5; (case kA => exact rfl); (case kF => exact rfl); (case kK => exact rfl); (case k1 => k_asm); (case k2 => k_asm); (case k3 => k_asm); (case k4 => k_asm); (case k5 => k_asm); (case k6 => k_is); (case k7 => k_is); (case k8 => ktr_room); (case k9 => exact BindsTo.of_eq rfl); (case c5 => decide); (case kB => exact locs rfl); (case c2 => exact rfl); (case c3 => exact rfl); (case c4 => exact rfl); k_whole; intro g'ω L'ω h'ω FG'ω F'ω N'ω B'ω X'ω T'ω; (try dsimp only); (try k_lift B'ω); (try k_fold)))))
  trivial
theorem suM20 {w : World} {mean : ExcName → Option Value} {mg mb : Str → Option Value} {dp un : Nat} {gd : Option (List Code)} {outer : List Env} {base : Heap} {s : Shared} {Q E : Value → Shared → Prop} {l : Addr} {e0 e1 : Ent} {n : Nat} {t0 : Tok} (B : Below (top dp un gd outer) base outer s.heap) (X : (Kt w.params).In base) (T : Top vw loo mean mg mb base) (H : Has base outer s.heap [(l, listOf #[Value.ref e0.a, Value.ref e1.a] n), (e0.a, tup2 e0.x e0.t e0.i e0.u), (e1.a, tup2 e1.x e1.t e1.i e1.u)]) (he0 : l ≠ e0.a) (he1 : l ≠ e1.a) 
  (hdp : dp + 4 < recursionLimit) (hun : un + 32 < cLine)
  (hret : ∀ s' n' f0 f1, Ext [l] s s' → s'.heap.get? l = some (listOf #[Value.ref f0.a, Value.ref f1.a] n') → [f0, f1].Perm [e0, e1] → geE f0 f1 → Q .none s') :
  wpAny (model PySem.Challenge.rw_om0101_01.row.prog w) (top dp un gd outer) (call (.ref 112) [.ref l, .int 0 t0]) Q E s := by
  revert X; k_fill; intro X
  have hul : un + 16 < cLine := by omega
  have hA : ∀ p ∈ ([(e0.a, tup2 e0.x e0.t e0.i e0.u), (e1.a, tup2 e1.x e1.t e1.i e1.u)] : News'), p.1 ≠ l := by
    simp only [List.forall_mem_cons]
    exact ⟨Ne.symm he0, Ne.symm he1, List.forall_mem_nil _⟩
  w_strict (
   (refine wpAny_call ?_; (k_dflt (refine' enterN ?k1 ?k2 ?k3 ?k4 ?k6 ?k7 ?k8 ?k9 ?kB ?_ ?c2 ?c3 ?c4 ?c5; (case k1 => k_asm); (case k2 => k_asm); (case k3 => k_asm); (case k4 => first | k_asm | exact Has.nil); (case k6 => k_is); (case k7 => k_is); (case k8 => ktr_room); (case k9 => exact BindsTo.of_eq rfl); (case c5 => decide); (case kB => exact locs rfl); (case c2 => exact rfl); (case c3 => exact rfl); (case c4 => exact rfl); k_whole; intro g' L' h' Q9 t9 q9 FG' F' N' B' X' T' l1; (try k_lt l1); (try dsimp only); (try k_lift B'); (try k_fold))))
   have FG0 := FG'
   k_steps)
  all_goals ((try dsimp only); rename News _ _ _ _ => N5; rename Fr _ _ _ _ => F5; refine hret _ _ _ _ (ext_many FG0 F5 H N5 (List.forall_mem_cons.mpr ⟨by k_mem, List.forall_mem_cons.mpr ⟨by k_mem, List.forall_mem_nil _⟩⟩) (by exact rfl) (by exact id)) (N5 _ (.head _)).1 ?_ ?_; (first | exact .refl _ | exact .swap .. | exact pr3 .. | exact (pr3 ..).cons _ | exact pr4 ..); ((try refine ⟨rfl, rfl, ?_⟩); (repeat' (with_reducible apply And.intro)); all_goals first | assumption | exact geE_lt (by assumption) | exact geE_tr (geE_lt (by assumption)) (by assumption) | exact geE_tr (geE_lt (by assumption)) (geE_lt (by assumption))))

theorem suM30 {w : World} {mean : ExcName → Option Value} {mg mb : Str → Option Value} {dp un : Nat} {gd : Option (List Code)} {outer : List Env} {base : Heap} {s : Shared} {Q E : Value → Shared → Prop} {l : Addr} {e0 e1 e2 : Ent} {n : Nat} {t0 : Tok} (B : Below (top dp un gd outer) base outer s.heap) (X : (Kt w.params).In base) (T : Top vw loo mean mg mb base) (H : Has base outer s.heap [(l, listOf #[Value.ref e0.a, Value.ref e1.a, Value.ref e2.a] n), (e0.a, tup2 e0.x e0.t e0.i e0.u), (e1.a, tup2 e1.x e1.t e1.i e1.u), (e2.a, tup2 e2.x e2.t e2.i e2.u)]) (he0 : l ≠ e0.a) (he1 : l ≠ e1.a) (he2 : l ≠ e2.a) 
  (hdp : dp + 4 < recursionLimit) (hun : un + 32 < cLine)
  (hret : ∀ s' n' f0 f1 f2, Ext [l] s s' → s'.heap.get? l = some (listOf #[Value.ref f0.a, Value.ref f1.a, Value.ref f2.a] n') → [f0, f1, f2].Perm [e0, e1, e2] → geE f0 f1 ∧ geE f0 f2 → Q .none s') :
  wpAny (model PySem.Challenge.rw_om0101_01.row.prog w) (top dp un gd outer) (call (.ref 112) [.ref l, .int 0 t0]) Q E s := by
  revert X; k_fill; intro X
  have hul : un + 16 < cLine := by omega
  have hA : ∀ p ∈ ([(e0.a, tup2 e0.x e0.t e0.i e0.u), (e1.a, tup2 e1.x e1.t e1.i e1.u), (e2.a, tup2 e2.x e2.t e2.i e2.u)] : News'), p.1 ≠ l := by
    simp only [List.forall_mem_cons]
    exact ⟨Ne.symm he0, Ne.symm he1, Ne.symm he2, List.forall_mem_nil _⟩
  w_strict (
   (refine wpAny_call ?_; (k_dflt (refine' enterN ?k1 ?k2 ?k3 ?k4 ?k6 ?k7 ?k8 ?k9 ?kB ?_ ?c2 ?c3 ?c4 ?c5; (case k1 => k_asm); (case k2 => k_asm); (case k3 => k_asm); (case k4 => first | k_asm | exact Has.nil); (case k6 => k_is); (case k7 => k_is); (case k8 => ktr_room); (case k9 => exact BindsTo.of_eq rfl); (case c5 => decide); (case kB => exact locs rfl); (case c2 => exact rfl); (case c3 => exact rfl); (case c4 => exact rfl); k_whole; intro g' L' h' Q9 t9 q9 FG' F' N' B' X' T' l1; (try k_lt l1); (try dsimp only); (try k_lift B'); (try k_fold))))
   have FG0 := FG'
   k_steps)
  all_goals ((try dsimp only); rename News _ _ _ _ => N5; rename Fr _ _ _ _ => F5; refine hret _ _ _ _ _ (ext_many FG0 F5 H N5 (List.forall_mem_cons.mpr ⟨by k_mem, List.forall_mem_cons.mpr ⟨by k_mem, List.forall_mem_cons.mpr ⟨by k_mem, List.forall_mem_nil _⟩⟩⟩) (by exact rfl) (by exact id)) (N5 _ (.head _)).1 ?_ ?_; (first | exact .refl _ | exact .swap .. | exact pr3 .. | exact (pr3 ..).cons _ | exact pr4 ..); ((try refine ⟨rfl, rfl, ?_⟩); (repeat' (with_reducible apply And.intro)); all_goals first | assumption | exact geE_lt (by assumption) | exact geE_tr (geE_lt (by assumption)) (by assumption) | exact geE_tr (geE_lt (by assumption)) (geE_lt (by assumption))))

theorem suM41 {w : World} {mean : ExcName → Option Value} {mg mb : Str → Option Value} {dp un : Nat} {gd : Option (List Code)} {outer : List Env} {base : Heap} {s : Shared} {Q E : Value → Shared → Prop} {l : Addr} {e0 e1 e2 e3 : Ent} {n : Nat} {t0 : Tok} (B : Below (top dp un gd outer) base outer s.heap) (X : (Kt w.params).In base) (T : Top vw loo mean mg mb base) (H : Has base outer s.heap [(l, listOf #[Value.ref e0.a, Value.ref e1.a, Value.ref e2.a, Value.ref e3.a] n), (e0.a, tup2 e0.x e0.t e0.i e0.u), (e1.a, tup2 e1.x e1.t e1.i e1.u), (e2.a, tup2 e2.x e2.t e2.i e2.u), (e3.a, tup2 e3.x e3.t e3.i e3.u)]) (he0 : l ≠ e0.a) (he1 : l ≠ e1.a) (he2 : l ≠ e2.a) (he3 : l ≠ e3.a) 
  (hdp : dp + 4 < recursionLimit) (hun : un + 32 < cLine)
  (hret : ∀ s' n' f0 f1 f2 f3, Ext [l] s s' → s'.heap.get? l = some (listOf #[Value.ref f0.a, Value.ref f1.a, Value.ref f2.a, Value.ref f3.a] n') → [f0, f1, f2, f3].Perm [e0, e1, e2, e3] → f0 = e0 ∧ f2 = e2 ∧ geE f1 f3 → Q .none s') :
  wpAny (model PySem.Challenge.rw_om0101_01.row.prog w) (top dp un gd outer) (call (.ref 112) [.ref l, .int 1 t0]) Q E s := by
  revert X; k_fill; intro X
  have hul : un + 16 < cLine := by omega
  have hA : ∀ p ∈ ([(e0.a, tup2 e0.x e0.t e0.i e0.u), (e1.a, tup2 e1.x e1.t e1.i e1.u), (e2.a, tup2 e2.x e2.t e2.i e2.u), (e3.a, tup2 e3.x e3.t e3.i e3.u)] : News'), p.1 ≠ l := by
    simp only [List.forall_mem_cons]
    exact ⟨Ne.symm he0, Ne.symm he1, Ne.symm he2, Ne.symm he3, List.forall_mem_nil _⟩
  w_strict (
   (refine wpAny_call ?_; (k_dflt (refine' enterN ?k1 ?k2 ?k3 ?k4 ?k6 ?k7 ?k8 ?k9 ?kB ?_ ?c2 ?c3 ?c4 ?c5; (case k1 => k_asm); (case k2 => k_asm); (case k3 => k_asm); (case k4 => first | k_asm | exact Has.nil); (case k6 => k_is); (case k7 => k_is); (case k8 => ktr_room); (case k9 => exact BindsTo.of_eq rfl); (case c5 => decide); (case kB => exact locs rfl); (case c2 => exact rfl); (case c3 => exact rfl); (case c4 => exact rfl); k_whole; intro g' L' h' Q9 t9 q9 FG' F' N' B' X' T' l1; (try k_lt l1); (try dsimp only); (try k_lift B'); (try k_fold))))
   have FG0 := FG'
   k_steps)
  all_goals ((try dsimp only); rename News _ _ _ _ => N5; rename Fr _ _ _ _ => F5; refine hret _ _ _ _ _ _ (ext_many FG0 F5 H N5 (List.forall_mem_cons.mpr ⟨by k_mem, List.forall_mem_cons.mpr ⟨by k_mem, List.forall_mem_cons.mpr ⟨by k_mem, List.forall_mem_cons.mpr ⟨by k_mem, List.forall_mem_nil _⟩⟩⟩⟩) (by exact rfl) (by exact id)) (N5 _ (.head _)).1 ?_ ?_; (first | exact .refl _ | exact .swap .. | exact pr3 .. | exact (pr3 ..).cons _ | exact pr4 ..); ((try refine ⟨rfl, rfl, ?_⟩); (repeat' (with_reducible apply And.intro)); all_goals first | assumption | exact geE_lt (by assumption) | exact geE_tr (geE_lt (by assumption)) (by assumption) | exact geE_tr (geE_lt (by assumption)) (geE_lt (by assumption))))

theorem suM40 {w : World} {mean : ExcName → Option Value} {mg mb : Str → Option Value} {dp un : Nat} {gd : Option (List Code)} {outer : List Env} {base : Heap} {s : Shared} {Q E : Value → Shared → Prop} {l : Addr} {e0 e1 e2 e3 : Ent} {n : Nat} {t0 : Tok} (B : Below (top dp un gd outer) base outer s.heap) (X : (Kt w.params).In base) (T : Top vw loo mean mg mb base) (H : Has base outer s.heap [(l, listOf #[Value.ref e0.a, Value.ref e1.a, Value.ref e2.a, Value.ref e3.a] n), (e0.a, tup2 e0.x e0.t e0.i e0.u), (e1.a, tup2 e1.x e1.t e1.i e1.u), (e2.a, tup2 e2.x e2.t e2.i e2.u), (e3.a, tup2 e3.x e3.t e3.i e3.u)]) (he0 : l ≠ e0.a) (he1 : l ≠ e1.a) (he2 : l ≠ e2.a) (he3 : l ≠ e3.a) (h13 : geE e1 e3)
  (hdp : dp + 4 < recursionLimit) (hun : un + 32 < cLine)
  (hret : ∀ s' n' f0 f1 f2 f3, Ext [l] s s' → s'.heap.get? l = some (listOf #[Value.ref f0.a, Value.ref f1.a, Value.ref f2.a, Value.ref f3.a] n') → [f0, f1, f2, f3].Perm [e0, e1, e2, e3] → geE f0 f1 ∧ geE f0 f2 ∧ geE f1 f3 → Q .none s') :
  wpAny (model PySem.Challenge.rw_om0101_01.row.prog w) (top dp un gd outer) (call (.ref 112) [.ref l, .int 0 t0]) Q E s := by
  revert X; k_fill; intro X
  have hul : un + 16 < cLine := by omega
  have hA : ∀ p ∈ ([(e0.a, tup2 e0.x e0.t e0.i e0.u), (e1.a, tup2 e1.x e1.t e1.i e1.u), (e2.a, tup2 e2.x e2.t e2.i e2.u), (e3.a, tup2 e3.x e3.t e3.i e3.u)] : News'), p.1 ≠ l := by
    simp only [List.forall_mem_cons]
    exact ⟨Ne.symm he0, Ne.symm he1, Ne.symm he2, Ne.symm he3, List.forall_mem_nil _⟩
  w_strict (
   (refine wpAny_call ?_; (k_dflt (refine' enterN ?k1 ?k2 ?k3 ?k4 ?k6 ?k7 ?k8 ?k9 ?kB ?_ ?c2 ?c3 ?c4 ?c5; (case k1 => k_asm); (case k2 => k_asm); (case k3 => k_asm); (case k4 => first | k_asm | exact Has.nil); (case k6 => k_is); (case k7 => k_is); (case k8 => ktr_room); (case k9 => exact BindsTo.of_eq rfl); (case c5 => decide); (case kB => exact locs rfl); (case c2 => exact rfl); (case c3 => exact rfl); (case c4 => exact rfl); k_whole; intro g' L' h' Q9 t9 q9 FG' F' N' B' X' T' l1; (try k_lt l1); (try dsimp only); (try k_lift B'); (try k_fold))))
   have FG0 := FG'
   k_steps)
  all_goals ((try dsimp only); rename News _ _ _ _ => N5; rename Fr _ _ _ _ => F5; refine hret _ _ _ _ _ _ (ext_many FG0 F5 H N5 (List.forall_mem_cons.mpr ⟨by k_mem, List.forall_mem_cons.mpr ⟨by k_mem, List.forall_mem_cons.mpr ⟨by k_mem, List.forall_mem_cons.mpr ⟨by k_mem, List.forall_mem_nil _⟩⟩⟩⟩) (by exact rfl) (by exact id)) (N5 _ (.head _)).1 ?_ ?_; (first | exact .refl _ | exact .swap .. | exact pr3 .. | exact (pr3 ..).cons _ | exact pr4 ..); ((try refine ⟨rfl, rfl, ?_⟩); (repeat' (with_reducible apply And.intro)); all_goals first | assumption | exact geE_lt (by assumption) | exact geE_tr (geE_lt (by assumption)) (by assumption) | exact geE_tr (geE_lt (by assumption)) (geE_lt (by assumption))))
end
section
theorem wd3Ex65 : True := by
  k_with_none
  k_with "omega" => (omega (splitDisjunctions := true))
  k_with "om2" => (first | lia | omega (splitDisjunctions := true))
  k_with "eval Name" => ((k_here; (with_reducible show wpAny _ _ (eval _ (envOf _ _ _ _ _)) _ _ _); k_dflt (refine' nmL ?yF ?yv ?yx ?yk ?yd ?_; (case yF => k_asm); (case yk => exact rfl); (case yx => exact rfl); (case yd => exact rfl); (case yv => exact rfl); k_whole)))
  k_with "storeName" => ((k_here; (with_reducible show wpAny _ _ (storeName (envOf _ _ _ _ _) _ _) _ _ _); k_dflt (refine' stoLe ?yF ?yN ?yx ?yk ?_; (case yF => k_asm); (case yN => k_asm); (case yk => exact rfl); (case yx => exact rfl); k_whole; intro m'ω h'ω F'ω N'ω; (try k_sweep))))
  k_with "eval Name" => ((k_here; (with_reducible show wpAny _ _ (eval _ (envOfC _ _ _ _ _)) _ _ _); k_dflt (refine' nmLC ?yF ?yv ?yk ?yx ?yd ?_; (case yF => k_asm); (case yk => exact rfl); (case yx => exact rfl); (case yd => exact rfl); (case yv => exact rfl); k_whole)))
  k_with "storeName" => ((k_here; (with_reducible show wpAny _ _ (storeName (envOfC _ _ _ _ _) _ _) _ _ _); k_dflt (refine' stoLCe ?yF ?yN ?yk ?yx ?_; (case yF => k_asm); (case yN => k_asm); (case yk => exact rfl); (case yx => exact rfl); k_whole; intro m'ω h'ω F'ω N'ω; (try k_sweep))))
  k_with "execs cons" => ((k_here; (first | (with_reducible show wpAny _ _ (execs _ _) (AtF _) _ _) | (refine execs_abs ?_; intro Q8ω q8ω)); k_dflt (refine execs_gen ?_); intro Q7ω t7ω g7ω o7ω; (try dsimp only)))
  k_with "AtF" => ((with_reducible first | refine AtF.go (by assumption) ?_ | (refine AtF.out (by assumption) (fun z => Flow.noConfusion z) ?_) | (refine AtF.fin (by assumption) ?_; (try dsimp only))))
  k_with "room" => (k_dflt (first | exact rm2 (by assumption) rfl | exact rm1 (by assumption) rfl | exact rm3 (by assumption) rfl | exact rm4 (by assumption) rfl | exact rm0 (by assumption)))
  k_with "kne" => ((refine neN ?_; (try dsimp only); k_extra "ne"))
  k_with "cj" => (first | exact And.left | exact id | (refine cjs ?_; k_extra "cj"))
  k_with "ne" => (with_reducible first | assumption | exact lne (by assumption) | exact gne (by assumption) | exact sne (by assumption) | exact suc | exact suc2 | exact sne suc | exact sne suc2 | (refine ltc (by assumption) ?_; k_extra "cj") | (refine gtc (by assumption) ?_; k_extra "cj") | (refine nec (by assumption) ?_; k_extra "cj") | (refine nfc (by assumption) ?_; k_extra "cj"))
  trivial
theorem updF_mk {d : Addr} {o : Obj} : ∀ {pre post : List (Addr × Obj)}, (∀ p ∈ pre, p.1 ≠ d) → (∀ p ∈ post, p.1 ≠ d) → UpdF d o (pre ++ (d, o) :: post) (fun o' => pre ++ (d, o') :: post)
  | [], _, _, h => .head h
  | p :: pre, _, a, h => .tail (a p (.head _)) (updF_mk (fun q hq => a q (.tail _ hq)) h)
def ltE (e f : Ent) : Bool := decide (e.x < f.x ∨ (e.x = f.x ∧ e.i < f.i))
def refE (e : Ent) : Value := .ref e.a
def entE (e : Ent) : Addr × Obj := (e.a, tup2 e.x e.t e.i e.u)
def runT {α : Type} (b : Nat → Nat → Bool) : KasT α → α
  | .ret a => a
  | .ask i j k => runT b (k (b i j))
def dirC (fs : List (Nat × Nat × Bool)) (u v : Nat) : Bool := fs.contains (u, v, true) || fs.contains (v, u, false)
def leC (fs : List (Nat × Nat × Bool)) : Nat → Nat → Nat → Bool
  | 0, u, v => dirC fs u v
  | k + 1, u, v => dirC fs u v || (List.range 4).any fun x => dirC fs u x && leC fs k x v
def adjC (fs : List (Nat × Nat × Bool)) : List Nat → Bool
  | [] => true
  | [_] => true
  | u :: v :: r => leC fs 2 u v && adjC fs (v :: r)
def badC (fs : List (Nat × Nat × Bool)) : Bool := fs.any fun f => f.2.2 && leC fs 2 f.2.1 f.1
def chkT (n : Nat) : KasT (Array Nat) → List (Nat × Nat × Bool) → Bool
  | .ret p, fs => p.toList.isPerm (List.range n) && (adjC fs p.toList || badC fs)
  | .ask i j k, fs => decide (i < n) && (decide (j < n) && (chkT n (k true) ((i, j, true) :: fs) && chkT n (k false) ((i, j, false) :: fs)))
theorem chk2 : chkT 2 (kas_sort 2) [] = true := by decide +kernel
theorem chk3 : chkT 3 (kas_sort 3) [] = true := by decide +kernel
theorem chk4 : chkT 4 (kas_sort 4) [] = true := by decide +kernel
structure PreB (b : Nat → Nat → Bool) : Prop where
  asym : ∀ u v, b u v = true → b v u = false
  trans : ∀ u v x, b v u = false → b x v = false → b x u = false
def AdjB (b : Nat → Nat → Bool) : List Nat → Prop
  | [] => True
  | [_] => True
  | u :: v :: r => b v u = false ∧ AdjB b (v :: r)
theorem dir_b {b : Nat → Nat → Bool} (P : PreB b) {fs : List (Nat × Nat × Bool)} (hf : ∀ f ∈ fs, b f.1 f.2.1 = f.2.2) {u v : Nat} (h : dirC fs u v = true) : b v u = false := by
  simp only [dirC, Bool.or_eq_true, List.contains_iff_mem] at h
  exact h.elim (fun q => P.asym _ _ (hf _ q)) (fun q => hf _ q)
theorem le_b {b : Nat → Nat → Bool} (P : PreB b) {fs : List (Nat × Nat × Bool)} (hf : ∀ f ∈ fs, b f.1 f.2.1 = f.2.2) : ∀ (k u v : Nat), leC fs k u v = true → b v u = false
  | 0, _, _, h => dir_b P hf h
  | k + 1, u, v, h => by
    simp only [leC, Bool.or_eq_true, List.any_eq_true, Bool.and_eq_true] at h
    rcases h with h | ⟨x, _, h1, h2⟩
    · exact dir_b P hf h
    · exact P.trans _ _ _ (dir_b P hf h1) (le_b P hf k x v h2)
theorem adj_b {b : Nat → Nat → Bool} (P : PreB b) {fs : List (Nat × Nat × Bool)} (hf : ∀ f ∈ fs, b f.1 f.2.1 = f.2.2) : ∀ (l : List Nat), adjC fs l = true → AdjB b l
  | [], _ => trivial
  | [_], _ => trivial
  | u :: v :: r, h => by
    simp only [adjC, Bool.and_eq_true] at h
    exact ⟨le_b P hf 2 u v h.1, adj_b P hf (v :: r) h.2⟩
theorem bad_b {b : Nat → Nat → Bool} (P : PreB b) {fs : List (Nat × Nat × Bool)} (hf : ∀ f ∈ fs, b f.1 f.2.1 = f.2.2) (h : badC fs = true) : False := by
  simp only [badC, List.any_eq_true, Bool.and_eq_true] at h
  obtain ⟨f, hm, h1, h2⟩ := h
  have := le_b P hf 2 _ _ h2
  rw [hf f hm, h1] at this
  cases this
theorem chk_run {b : Nat → Nat → Bool} (P : PreB b) {n : Nat} : ∀ (t : KasT (Array Nat)) (fs : List (Nat × Nat × Bool)), chkT n t fs = true → (∀ f ∈ fs, b f.1 f.2.1 = f.2.2) → (runT b t).toList.Perm (List.range n) ∧ AdjB b (runT b t).toList
  | .ret p, fs, h, hf => by
    simp only [chkT, Bool.and_eq_true, Bool.or_eq_true] at h
    exact ⟨List.isPerm_iff.mp h.1, h.2.elim (adj_b P hf _) fun q => (bad_b P hf q).elim⟩
  | .ask i j k, fs, h, hf => by
    simp only [chkT, Bool.and_eq_true, decide_eq_true_eq] at h
    show (runT b (k (b i j))).toList.Perm (List.range n) ∧ AdjB b (runT b (k (b i j))).toList
    cases q : b i j with
    | true => exact chk_run P (k true) _ h.2.2.1 (List.forall_mem_cons.mpr ⟨q, hf⟩)
    | false => exact chk_run P (k false) _ h.2.2.2 (List.forall_mem_cons.mpr ⟨q, hf⟩)
theorem pre_lt (f : Nat → Ent) : PreB (fun i j => ltE (f i) (f j)) := by
  refine ⟨fun u v h => ?_, fun u v x h1 h2 => ?_⟩
  · have h := of_decide_eq_true h
    exact decide_eq_false (by omega)
  · have h1 := of_decide_eq_false h1
    have h2 := of_decide_eq_false h2
    exact decide_eq_false (by omega)
theorem chk_wp {b : Nat → Nat → Bool} {n : Nat} {cmp : Nat → Nat → (Bool → Shared → Prop) → Shared → Prop} {s : Shared} {Q : Array Nat → Shared → Prop} (hc : ∀ i j (C : Bool → Shared → Prop), i < n → j < n → C (b i j) s → cmp i j C s) : ∀ (t : KasT (Array Nat)) (fs : List (Nat × Nat × Bool)), chkT n t fs = true → Q (runT b t) s → t.kasWp cmp Q s
  | .ret _, _, _, h => h
  | .ask i j k, fs, c, h => by
    simp only [chkT, Bool.and_eq_true, decide_eq_true_eq] at c
    show cmp i j (fun b s' => (k b).kasWp cmp Q s') s
    refine hc i j _ c.1 c.2.1 ?_
    have h' : Q (runT b (k (b i j))) s := h
    cases q : b i j with
    | true => rw [q] at h'; exact chk_wp hc (k true) _ c.2.2.1 h'
    | false => rw [q] at h'; exact chk_wp hc (k false) _ c.2.2.2 h'
theorem chk_n {n : Nat} (h2 : 2 ≤ n) (h4 : n ≤ 4) : chkT n (kas_sort n) [] = true := by
  have : n = 2 ∨ n = 3 ∨ n = 4 := by omega
  rcases this with rfl | rfl | rfl
  · exact chk2
  · exact chk3
  · exact chk4
theorem adj_sorted {f : Nat → Ent} : ∀ (l : List Nat), AdjB (fun i j => ltE (f i) (f j)) l → ((l.map f).map (·.x)).Pairwise (· ≤ ·)
  | [], _ => .nil
  | [_], _ => by simp
  | u :: v :: r, h => by
    have ih := adj_sorted (v :: r) h.2
    have huv : (f u).x ≤ (f v).x := by
      have q := of_decide_eq_false h.1
      omega
    simp only [List.map_cons, List.pairwise_cons] at ih ⊢
    refine ⟨fun y hy => ?_, ih⟩
    rcases List.mem_cons.mp hy with rfl | hy
    · exact huv
    · exact Int.le_trans huv (ih.1 y hy)
section
variable {prog : Program} {w : World} {A : Around} {E : Value → Shared → Prop} {s : Shared} {h₀ : Heap} {L : Addr} {m : Str → Option Value} {news : List (Addr × Obj)}
theorem keyLt_ents {e f : Ent} {Q : Bool → Shared → Prop} (he : s.heap.get? e.a = some (tup2 e.x e.t e.i e.u)) (hf : s.heap.get? f.a = some (tup2 f.x f.t f.i f.u)) (h : Q (ltE e f) s) :
    wpAny (model prog w) A (keyLt' (tuples' true) (refE e) (refE f)) Q E s := by
  refine kat_lt he rfl hf rfl ?_
  show KatLex prog w A true (decide (2 < 2)) Q [(Value.int e.x e.t, Value.int f.x f.t), (Value.int e.i e.u, Value.int f.i f.u)] 0 s
  refine kat_cons (wpAny_eqBool_int ?_)
  by_cases hx : e.x = f.x
  · rw [show (e.x == f.x) = true from by simpa using hx]
    refine kat_yes (kat_cons (wpAny_eqBool_int ?_))
    by_cases hij : e.i = f.i
    · rw [show (e.i == f.i) = true from by simpa using hij]
      refine kat_yes (kat_nil ?_)
      rw [show ltE e f = false from decide_eq_false (by omega)] at h
      exact h
    · rw [show (e.i == f.i) = false from by simpa using hij]
      refine kat_no ?_
      refine kat_one _ _ ?_
      refine PyProof.Rows.lt_int ?_
      rw [show ltE e f = decide (e.i < f.i) from decide_eq_decide.mpr (by omega)] at h
      exact h
  · rw [show (e.x == f.x) = false from by simpa using hx]
    refine kat_no ?_
    rw [show ltE e f = decide (e.x < f.x) from decide_eq_decide.mpr (by omega)] at h
    exact oneLt_int h
theorem kat_ents {h : Heap} : ∀ (R : List Ent), (∀ e ∈ R, h.get? e.a = some (tup2 e.x e.t e.i e.u)) → KatTups h (R.map refE) (R.map fun e => Value.int e.x e.t)
  | [], _ => KatTups.nil
  | e :: R, k => KatTups.cons (k e (.head _)) rfl rfl rfl (kat_ents R fun e he => k e (.tail _ he))
theorem sort_ents {D : Addr} {R : List Ent} {n : Nat} {g : Obj → List (Addr × Obj)} {Q : Value → Shared → Prop} (F : Fr h₀ L s.heap m) (N : News h₀ L s.heap news) (U : UpdF D (listOf (R.map refE).toArray n) news g)
    (h2 : 2 ≤ R.length) (h4 : R.length ≤ 4) (hE : ∀ o, ∀ e ∈ R, entE e ∈ g o)
    (h : ∀ h' c (R' : List Ent), Fr h₀ L h' m → News h₀ L h' (g (listOf (R'.map refE).toArray c)) → R'.Perm R → (R'.map (·.x)).Pairwise (· ≤ ·) → Q .none { s with heap := h' }) :
    wpAny (model prog w) A (call (.builtin "list.sort") [.ref D]) Q E s := by
  have hl : (R.map refE).length = R.length := List.length_map _
  refine kat_lsort (vs := R.map refE) F N U rfl (by omega) (by omega) fun e1 h' F' N' => ?_
  have hg : ∀ e ∈ R, h'.get? e.a = some (tup2 e.x e.t e.i e.u) := fun e he => (N' _ (hE _ e he)).1
  refine kat_kind (T := .type "int") (kat_ents R hg) (by rw [List.length_map]; omega) (fun v hv => ?_) rfl ?_
  · obtain ⟨e, _, rfl⟩ := List.mem_map.mp hv
    exact Looks.of_pure rfl
  rw [hl]
  refine chk_wp (b := fun i j => ltE (R.getD i ⟨0, 0, 0, 0, 0⟩) (R.getD j ⟨0, 0, 0, 0, 0⟩)) (n := R.length) (fun i j C hi hj hC => ?_) _ [] (chk_n h2 h4) ?_
  · have gi : ∀ i, i < R.length → (R.map refE).getD i Value.none = refE (R.getD i ⟨0, 0, 0, 0, 0⟩) ∧ R.getD i ⟨0, 0, 0, 0, 0⟩ ∈ R := fun i hi => by
      simp [List.getD_eq_getElem?_getD, hi]
    unfold kas_ask
    rw [(gi i hi).1, (gi j hj).1]
    exact keyLt_ents (hg _ (gi i hi).2) (hg _ (gi j hj).2) hC
  · obtain ⟨hp, ha⟩ := chk_run (pre_lt fun i => R.getD i ⟨0, 0, 0, 0, 0⟩) _ [] (chk_n h2 h4) (fun _ q => nomatch q)
    generalize (runT (fun i j => ltE (R.getD i ⟨0, 0, 0, 0, 0⟩) (R.getD j ⟨0, 0, 0, 0, 0⟩)) (kas_sort R.length)).toList = p at hp ha ⊢
    obtain ⟨pre, post, e0, eg, x1, x2⟩ := U.split
    rw [eg] at N'
    refine KasFin.intro F' N' (updF_mk x1 x2) fun h3 c F3 N3 => ?_
    have gi : ∀ i, i < R.length → (R.map refE).getD i Value.none = refE (R.getD i ⟨0, 0, 0, 0, 0⟩) := fun i hi => by
      simp [List.getD_eq_getElem?_getD, hi]
    have em : p.map (fun i => (R.map refE).getD i Value.none) = (p.map fun i => R.getD i ⟨0, 0, 0, 0, 0⟩).map refE := by
      rw [List.map_map]
      exact List.map_congr_left fun i hi => gi i (List.mem_range.mp (hp.mem_iff.mp hi))
    rw [em, ← eg] at N3
    refine h h3 c _ F3 N3 ?_ (adj_sorted (f := fun i => R.getD i ⟨0, 0, 0, 0, 0⟩) _ ha)
    refine (hp.map _).trans (List.Perm.of_eq ?_)
    refine List.ext_getElem (by simp) fun i h1 h2 => ?_
    simp only [List.getElem_map, List.getElem_range, List.getD_eq_getElem?_getD, List.getElem?_eq_getElem h2, Option.getD_some]
end
end
section
theorem wd3Fx66 : True := by
  k_with_none
  k_with "omega" => (omega (splitDisjunctions := true))
  k_with "om2" => (first | lia | omega (splitDisjunctions := true))
  k_with "eval Name" => ((k_here; (with_reducible show wpAny _ _ (eval _ (envOf _ _ _ _ _)) _ _ _); k_dflt (refine' nmL ?yF ?yv ?yx ?yk ?yd ?_; (case yF => k_asm); (case yk => exact rfl); (case yx => exact rfl); (case yd => exact rfl); (case yv => exact rfl); k_whole)))
  k_with "storeName" => ((k_here; (with_reducible show wpAny _ _ (storeName (envOf _ _ _ _ _) _ _) _ _ _); k_dflt (refine' stoLe ?yF ?yN ?yx ?yk ?_; (case yF => k_asm); (case yN => k_asm); (case yk => exact rfl); (case yx => exact rfl); k_whole; intro m'ω h'ω F'ω N'ω; (try k_sweep))))
  k_with "eval Name" => ((k_here; (with_reducible show wpAny _ _ (eval _ (envOfC _ _ _ _ _)) _ _ _); k_dflt (refine' nmLC ?yF ?yv ?yk ?yx ?yd ?_; (case yF => k_asm); (case yk => exact rfl); (case yx => exact rfl); (case yd => exact rfl); (case yv => exact rfl); k_whole)))
  k_with "storeName" => ((k_here; (with_reducible show wpAny _ _ (storeName (envOfC _ _ _ _ _) _ _) _ _ _); k_dflt (refine' stoLCe ?yF ?yN ?yk ?yx ?_; (case yF => k_asm); (case yN => k_asm); (case yk => exact rfl); (case yx => exact rfl); k_whole; intro m'ω h'ω F'ω N'ω; (try k_sweep))))
  k_with "execs cons" => ((k_here; (first | (with_reducible show wpAny _ _ (execs _ _) (AtF _) _ _) | (refine execs_abs ?_; intro Q8ω q8ω)); k_dflt (refine execs_gen ?_); intro Q7ω t7ω g7ω o7ω; (try dsimp only)))
  k_with "AtF" => ((with_reducible first | refine AtF.go (by assumption) ?_ | (refine AtF.out (by assumption) (fun z => Flow.noConfusion z) ?_) | (refine AtF.fin (by assumption) ?_; (try dsimp only))))
  k_with "room" => (k_dflt (first | exact rm2 (by assumption) rfl | exact rm1 (by assumption) rfl | exact rm3 (by assumption) rfl | exact rm4 (by assumption) rfl | exact rm0 (by assumption)))
  k_with "kne" => ((refine neN ?_; (try dsimp only); k_extra "ne"))
  k_with "cj" => (first | exact And.left | exact id | (refine cjs ?_; k_extra "cj"))
  k_with "ne" => (with_reducible first | assumption | exact lne (by assumption) | exact gne (by assumption) | exact sne (by assumption) | exact suc | exact suc2 | exact sne suc | exact sne suc2 | (refine ltc (by assumption) ?_; k_extra "cj") | (refine gtc (by assumption) ?_; k_extra "cj") | (refine nec (by assumption) ?_; k_extra "cj") | (refine nfc (by assumption) ?_; k_extra "cj"))
  k_with "truthy ref" => ((k_here; (with_reducible show wpAny _ _ (truthy (Value.ref _)) _ _ _); k_dflt (refine' truthy_ints ?k1 ?k2 ?k3 ?k4 ?_; (case k1 => k_asm); (case k2 => k_mem); (case k3 => l_ints); (case k4 => first | omega | (simp only [List.length_set, List.length_dropLast, List.length_append, List.length_cons, List.length_nil]; omega)); k_whole)))
  k_with "call ref" => ((k_here; (with_reducible show wpAny _ _ (call (Value.ref 98) _) _ _ _); k_dflt (refine' c_siftup ?k1 ?k2 ?k3 ?k4 ?k5 ?k6 ?k7 ?k8 ?k9 ?_; (case k1 => refine' pushT ?p1 ?p2 ?p3 ?p4; (case p1 => k_asm); (case p2 => k_asm); (case p3 => exact rfl); (case p4 => exact rfl)); (case k2 => k_asm); (case k3 => k_asm); (case k4 => refine has_of (by k_asm) (by k_asm) rfl (List.forall_mem_singleton.mpr ?m); (case m => k_mem)); (case k5 => l_ints); (case k6 => first | omega | (simp only [List.length_set, List.length_dropLast]; omega)); (case k7 => first | omega | (simp only [List.length_set, List.length_dropLast]; omega)); (case k8 => ktr_room); (case k9 => ktr_units); k_whole; (intro s'ω vs'ω n'ω hEω hgω hi'ω; have F9ω := back_fr (by k_asm) (by k_asm) hEω (List.forall_mem_singleton.mpr ⟨_, by k_mem⟩); have N9ω := back_news1 (by k_asm) hEω (by k_upd) hgω; (try k_sweep); (try dsimp only)))))
  trivial
def HeapM : List Ent → Prop
  | [a, b] => geE a b
  | [a, b, c] => geE a b ∧ geE a c
  | [a, b, c, d] => geE a b ∧ geE a c ∧ geE b d
  | _ => False
def PreM : List Ent → Prop
  | [_, _] => True
  | [_, _, _] => True
  | [_, b, _, d] => geE b d
  | _ => False
theorem HeapM.pre : ∀ {e x : Ent} {R : List Ent}, HeapM (e :: R) → PreM (x :: R)
  | _, _, [_], _ => trivial
  | _, _, [_, _], _ => trivial
  | _, _, [_, _, _], h => h.2.2
theorem HeapM.len : ∀ {R : List Ent}, HeapM R → 2 ≤ R.length ∧ R.length ≤ 4
  | [_, _], _ => ⟨by simp, by simp⟩
  | [_, _, _], _ => ⟨by simp, by simp⟩
  | [_, _, _, _], _ => ⟨by simp, by simp⟩
theorem HeapM.top : ∀ {e : Ent} {R : List Ent}, HeapM (e :: R) → ∀ f ∈ R, f.x ≤ e.x
  | e, [b], h => by
    simp only [HeapM, geE] at h
    intro f hf; simp only [List.mem_cons, List.not_mem_nil, or_false] at hf
    subst hf; omega
  | e, [b, c], h => by
    simp only [HeapM, geE] at h
    intro f hf; simp only [List.mem_cons, List.not_mem_nil, or_false] at hf
    rcases hf with rfl | rfl <;> omega
  | e, [b, c, d], h => by
    simp only [HeapM, geE] at h
    intro f hf; simp only [List.mem_cons, List.not_mem_nil, or_false] at hf
    rcases hf with rfl | rfl | rfl <;> omega
theorem ents_perm {R R' : List Ent} (hp : R'.Perm R) : ∀ p ∈ R'.map entE, p ∈ R.map entE := fun p q => by
  obtain ⟨e, he, rfl⟩ := List.mem_map.mp q
  exact List.mem_map_of_mem (hp.mem_iff.mp he)
theorem suM {w : World} {mean : ExcName → Option Value} {mg mb : Str → Option Value} {dp un : Nat} {gd : Option (List Code)} {outer : List Env} {base : Heap} {s : Shared} {Q E : Value → Shared → Prop} {l : Addr} {R : List Ent} {n : Nat} {t0 : Tok} (B : Below (top dp un gd outer) base outer s.heap) (X : (Kt w.params).In base) (T : Top vw loo mean mg mb base) (H : Has base outer s.heap ((l, listOf (R.map refE).toArray n) :: R.map entE)) (hne : ∀ e ∈ R, l ≠ e.a) (hp : PreM R)
  (hdp : dp + 4 < recursionLimit) (hun : un + 32 < cLine)
  (hret : ∀ s' n' R', Ext [l] s s' → s'.heap.get? l = some (listOf (List.map refE R').toArray n') → R'.Perm R → HeapM R' → Q .none s') :
  wpAny (model PySem.Challenge.rw_om0101_01.row.prog w) (top dp un gd outer) (call (.ref 112) [.ref l, .int 0 t0]) Q E s := by
  rcases R with _ | ⟨e0, _ | ⟨e1, _ | ⟨e2, _ | ⟨e3, _ | ⟨_, _⟩⟩⟩⟩⟩
  · exact hp.elim
  · exact hp.elim
  · refine suM20 B X T H (hne _ (.head _)) (hne _ (.tail _ (.head _))) hdp hun fun s' n' f0 f1 a b c d => ?_
    exact hret s' n' [f0, f1] a b c d
  · refine suM30 B X T H (hne _ (.head _)) (hne _ (.tail _ (.head _))) (hne _ (.tail _ (.tail _ (.head _)))) hdp hun fun s' n' f0 f1 f2 a b c d => ?_
    exact hret s' n' [f0, f1, f2] a b c d
  · refine suM40 B X T H (hne _ (.head _)) (hne _ (.tail _ (.head _))) (hne _ (.tail _ (.tail _ (.head _)))) (hne _ (.tail _ (.tail _ (.tail _ (.head _))))) hp hdp hun fun s' n' f0 f1 f2 f3 a b c d => ?_
    exact hret s' n' [f0, f1, f2, f3] a b c d
  · exact hp.elim
theorem item_ref0 {prog : Program} {w : World} {A : Around} {E : Value → Shared → Prop} {s : Shared} {h₀ : Heap} {L : Addr} {news : List (Addr × Obj)} {value slice : PySem.Expr} {l a : Addr} {vs : List Value} {n : Nat} {u : Tok} {Q : Value → Shared → Prop}
    (N : News h₀ L s.heap news) (hm : (l, listOf (Value.ref a :: vs).toArray n) ∈ news) (h : Q (.ref a) s)
    (hs : subscripted slice false (.ref l) (.int 0 u) = operate [.ref l, .int 0 u] (getItem (.ref l) (.int 0 u)) := by with_unfolding_all rfl) : wpAny (model prog w) A (subscriptTail value slice (.ref l) (.int 0 u)) Q E s := by
  have hl : s.heap.IsList l (Value.ref a :: vs).toArray := ⟨_, (N _ hm).1, rfl, n, rfl⟩
  exact PyProof.Rows.tail_any hl.typeIs slot_list_getitem.lookup (wpAny_getItem_list hl (by decide) (by decide) rfl h) hs
theorem wd3Fx67 : True := by
  k_with "subscriptTail" => ((k_here; (with_reducible show wpAny _ _ (subscriptTail _ _ (Value.ref _) (Value.int 0 _)) _ _ _); k_dflt (refine item_ref0 (by k_asm) (List.mem_cons_self ..) ?_)))
  k_with "setItem ref int" => ((k_here; (with_reducible show wpAny _ _ (setItem (Value.ref _) (Value.int 0 _) (Value.ref _)) _ _ _); k_dflt (refine' ki_set ?F ?N ?a ?b ?e (Upd.head ?U) ?_; (case F => k_asm); (case N => k_asm); (case U => assumption); (case a => decide); (case b => decide); (case e => rfl)); ki_rest))
  k_with "call ref" => ((k_here; (with_reducible show wpAny _ _ (call (Value.ref 112) _) _ _ _); refine of_stop ?_))
  trivial
theorem hrM {w : World} {mean : ExcName → Option Value} {mg mb : Str → Option Value} {dp un : Nat} {gd : Option (List Code)} {outer : List Env} {base : Heap} {s : Shared} {Q E : Value → Shared → Prop} {l : Addr} {x e0 : Ent} {R0 : List Ent} {n : Nat} (B : Below (top dp un gd outer) base outer s.heap) (X : (Kt w.params).In base) (T : Top vw loo mean mg mb base) (H : Has base outer s.heap ((l, listOf (Value.ref e0.a :: R0.map refE).toArray n) :: entE x :: entE e0 :: R0.map entE))
  (hA : ∀ p ∈ (entE x :: entE e0 :: R0.map entE), p.1 ≠ l) (hH : HeapM (e0 :: R0)) (hdp : dp + 8 < recursionLimit) (hun : un + 64 < cLine)
  (hret : ∀ s' v n' R', Ext [l] s s' → s'.heap.get? l = some (listOf (R'.map refE).toArray n') → R'.Perm (x :: R0) → HeapM R' → Q v s') :
  wpAny (model PySem.Challenge.rw_om0101_01.row.prog w) (top dp un gd outer) (call (.ref 77) [.ref l, .ref x.a]) Q E s := by
  revert X; k_fill; intro X
  have hul : un + 32 < cLine := by omega
  w_strict (
   (refine wpAny_call ?_; (k_dflt (refine' enterN ?k1 ?k2 ?k3 ?k4 ?k6 ?k7 ?k8 ?k9 ?kB ?_ ?c2 ?c3 ?c4 ?c5; (case k1 => k_asm); (case k2 => k_asm); (case k3 => k_asm); (case k4 => first | k_asm | exact Has.nil); (case k6 => k_is); (case k7 => k_is); (case k8 => ktr_room); (case k9 => exact BindsTo.of_eq rfl); (case c5 => decide); (case kB => exact locs rfl); (case c2 => exact rfl); (case c3 => exact rfl); (case c4 => exact rfl); k_whole; intro g' L' h' Q9 t9 q9 FG' F' N' B' X' T' l1; (try k_lt l1); (try dsimp only); (try k_lift B'); (try k_fold))))
   have FG0 := FG'
   k_steps)
  refine stop_of ?_
  rename News _ _ _ _ => N1
  have hsub : ∀ p ∈ ((l, listOf (List.map refE (x :: R0)).toArray n) :: List.map entE (x :: R0)), p ∈ ((l, listOf (Value.ref x.a :: List.map refE R0).toArray n) :: entE x :: entE e0 :: List.map entE R0) := fun p hp => by
    rcases List.mem_cons.mp hp with rfl | hp
    · exact .head _
    · rcases List.mem_cons.mp hp with rfl | hp
      · exact .tail _ (.head _)
      · exact .tail _ (.tail _ (.tail _ hp))
  have hne : ∀ e ∈ x :: R0, l ≠ e.a := fun e he => by
    rcases List.mem_cons.mp he with rfl | he
    · exact Ne.symm (hA _ (.head _))
    · exact Ne.symm (hA _ (.tail _ (.tail _ (List.mem_map_of_mem he))))
  k_dflt (refine' suM (R := x :: R0) ?k1 ?k2 ?k3 ?k4 hne (HeapM.pre hH) ?k7 ?k8 ?_; (case k1 => refine' pushT ?p1 ?p2 ?p3 ?p4; (case p1 => k_asm); (case p2 => k_asm); (case p3 => exact rfl); (case p4 => exact rfl)); (case k2 => k_asm); (case k3 => k_asm); (case k4 => exact has_of (by k_asm) N1 rfl hsub); (case k7 => ktr_room); (case k8 => ktr_units))
  intro s' n' R' hE hg hperm hH'
  have F9 := back_fr (by k_asm) N1 hE (List.forall_mem_singleton.mpr ⟨_, .head _⟩)
  have N9 := back_news1 N1 hE (Upd.head hA) hg
  k_steps
  try dsimp only
  rename Fr _ _ _ _ => F5
  exact hret _ _ _ R' (ext_many FG0 F5 H N9 (fun p hp => .tail _ hp) (by exact hE.os) (by exact hE.bare)) hg hperm hH'
end
section
theorem wd3Gx68 : True := by
  k_with_none
  k_with "omega" => (omega (splitDisjunctions := true))
  k_with "om2" => (first | lia | omega (splitDisjunctions := true))
  k_with "eval Name" => ((k_here; (with_reducible show wpAny _ _ (eval _ (envOf _ _ _ _ _)) _ _ _); k_dflt (refine' nmL ?yF ?yv ?yx ?yk ?yd ?_; (case yF => k_asm); (case yk => exact rfl); (case yx => exact rfl); (case yd => exact rfl); (case yv => exact rfl); k_whole)))
  k_with "storeName" => ((k_here; (with_reducible show wpAny _ _ (storeName (envOf _ _ _ _ _) _ _) _ _ _); k_dflt (refine' stoLe ?yF ?yN ?yx ?yk ?_; (case yF => k_asm); (case yN => k_asm); (case yk => exact rfl); (case yx => exact rfl); k_whole; intro m'ω h'ω F'ω N'ω; (try k_sweep))))
  k_with "eval Name" => ((k_here; (with_reducible show wpAny _ _ (eval _ (envOfC _ _ _ _ _)) _ _ _); k_dflt (refine' nmLC ?yF ?yv ?yk ?yx ?yd ?_; (case yF => k_asm); (case yk => exact rfl); (case yx => exact rfl); (case yd => exact rfl); (case yv => exact rfl); k_whole)))
  k_with "storeName" => ((k_here; (with_reducible show wpAny _ _ (storeName (envOfC _ _ _ _ _) _ _) _ _ _); k_dflt (refine' stoLCe ?yF ?yN ?yk ?yx ?_; (case yF => k_asm); (case yN => k_asm); (case yk => exact rfl); (case yx => exact rfl); k_whole; intro m'ω h'ω F'ω N'ω; (try k_sweep))))
  k_with "execs cons" => ((k_here; (first | (with_reducible show wpAny _ _ (execs _ _) (AtF _) _ _) | (refine execs_abs ?_; intro Q8ω q8ω)); k_dflt (refine execs_gen ?_); intro Q7ω t7ω g7ω o7ω; (try dsimp only)))
  k_with "AtF" => ((with_reducible first | refine AtF.go (by assumption) ?_ | (refine AtF.out (by assumption) (fun z => Flow.noConfusion z) ?_) | (refine AtF.fin (by assumption) ?_; (try dsimp only))))
  k_with "room" => (k_dflt (first | exact rm2 (by assumption) rfl | exact rm1 (by assumption) rfl | exact rm3 (by assumption) rfl | exact rm4 (by assumption) rfl | exact rm0 (by assumption)))
  k_with "kne" => ((refine neN ?_; (try dsimp only); k_extra "ne"))
  k_with "cj" => (first | exact And.left | exact id | (refine cjs ?_; k_extra "cj"))
  k_with "ne" => (with_reducible first | assumption | exact lne (by assumption) | exact gne (by assumption) | exact sne (by assumption) | exact suc | exact suc2 | exact sne suc | exact sne suc2 | (refine ltc (by assumption) ?_; k_extra "cj") | (refine gtc (by assumption) ?_; k_extra "cj") | (refine nec (by assumption) ?_; k_extra "cj") | (refine nfc (by assumption) ?_; k_extra "cj"))
  trivial
section
variable {prog : Program} {w : World} {A : Around} {s : Shared} {h₀ : Heap} {env : Env}
/-- for over a list iterator that stands at place k already -/
theorem it_loop {R : Result → Shared → Prop} {x : Str} {px : Pos} {body : List Stmt} {m : Str → Option Value} {news : List (Addr × Obj)} {vs : List Value} {nE : Nat} {l I : Addr} {k0 : Nat}
    (hA : A.handled = none) (hx : env.kindOf x = some .local) (hp : (env.scope.kind == .class || (env.scope.kind == .module && env.locals != env.globals)) = false)
    (F : Fr h₀ env.locals s.heap m) (N : News h₀ env.locals s.heap news) (hk : k0 ≤ vs.length) (It : s.heap.IsListIter I l k0) (hLI : I ≠ env.locals) (hI₀ : h₀.get? I = none) (hnI : ∀ p ∈ news, p.1 ≠ I)
    (J : Nat → (Str → Option Value) → List (Addr × Obj) → Prop) (h0 : J k0 m news) (hJl : ∀ i m news, J i m news → (l, listOf vs.toArray nE) ∈ news)
    (step : ∀ i v m₁ news₁ s₁ oI, i < vs.length → vs[i]? = some v → J i m₁ news₁ → (AllBare s.gens → AllBare s₁.gens) → s₁.os = s.os → (∀ p ∈ news₁, p.1 ≠ I) →
      Fr h₀ env.locals s₁.heap (fun y => if y = x then some v else m₁ y) → News h₀ env.locals s₁.heap ((I, oI) :: news₁) →
      wpAny (model prog w) A (execs body env) (WStep h₀ env.locals I oI (J (i + 1)) R s) (fun _ _ => False) s₁)
    (hR : ∀ s' m' news', Fr h₀ env.locals s'.heap m' → News h₀ env.locals s'.heap news' → J vs.length m' news' → (AllBare s.gens → AllBare s'.gens) → s'.os = s.os → R (.ok .next) s') :
    codeAny (model prog w) A (.forLoop (.Name x px) (.ref I) body [] env) R s := by
  refine codeAny_forLoop (fun k s' => ∃ i m' news', k = vs.length + 1 - i ∧ i ≤ vs.length ∧ Fr h₀ env.locals s'.heap m' ∧ News h₀ env.locals s'.heap news' ∧ (∀ p ∈ news', p.1 ≠ I) ∧ J i m' news' ∧ s'.heap.IsListIter I l i ∧ (AllBare s.gens → AllBare s'.gens) ∧ s'.os = s.os) ?_ (vs.length + 1 - k0)
    ⟨k0, m, news, rfl, hk, F, N, hnI, h0, It, id, rfl⟩
  intro k s' hk
  refine ex39 hk ?_
  clear hk
  intro i m' news' ek hi F' N' hn' hJ It' hb' ho'
  subst ek
  have hl' := (N' _ (hJl i m' news' hJ)).1
  have L' : s'.heap.IsList l vs.toArray := ⟨_, hl', rfl, nE, rfl⟩
  have hLI : env.locals ≠ I := Ne.symm hLI
  rcases Nat.lt_or_ge i vs.length with hlt | hge
  · refine wpAny_pyNext_list_item (x := vs[i]) It' L' (by simp [hlt]) fun h₂ It₂ hs₂ => ?_
    try dsimp only
    have F₂ : Fr h₀ env.locals h₂ m' := by
      obtain ⟨o, es, ep, q, r⟩ := F'.ns
      exact ⟨⟨o, es, ep, hs₂.extBut _ _ hLI q, r⟩, fun b o q => hs₂.extBut _ _ (fun e => by rw [e, hI₀] at q; cases q) (F'.keep b o q), F'.above⟩
    have N₂ : News h₀ env.locals h₂ news' := fun p hp => ⟨hs₂.extBut _ _ (hn' p hp) (N' p hp).1, (N' p hp).2⟩
    refine wpAny_assign_Name (wpAny_storeName_local hx F₂.ns (fun h₃ hn₃ hs₃ => ?_) hp)
    have F₃ := F₂.set hn₃ hs₃
    have N₃ : News h₀ env.locals h₃ news' := N₂.set hs₃
    obtain ⟨oI, hoI, hIc, hId⟩ := It₂
    have hoI₃ : h₃.get? I = some oI := hs₃.extBut _ _ (Ne.symm hLI) hoI
    have N₄ : News h₀ env.locals h₃ ((I, oI) :: news') := fun p hp => by
      rcases List.mem_cons.mp hp with rfl | hp
      · exact ⟨hoI₃, Ne.symm hLI, hI₀⟩
      · exact N₃ p hp
    refine wpAny_mono (step i vs[i] m' news' { s' with heap := h₃, toks := _ } oI hlt (by simp [hlt]) hJ hb' ho' hn' F₃ N₄) (fun f s₃ hf => ?_) fun _ _ z => z.elim
    have again : WOk h₀ env.locals I oI (J (i + 1)) s s₃ →
        ∃ k', k' < vs.length + 1 - i ∧ ∃ i m' news', k' = vs.length + 1 - i ∧ i ≤ vs.length ∧ Fr h₀ env.locals s₃.heap m' ∧ News h₀ env.locals s₃.heap news' ∧ (∀ p ∈ news', p.1 ≠ I) ∧ J i m' news' ∧ s₃.heap.IsListIter I l i ∧ (AllBare s.gens → AllBare s₃.gens) ∧ s₃.os = s.os := by
      rintro ⟨m₂, news₂, F₅, N₅, hn₅, hJ₅, hb₅, ho₅⟩
      exact ⟨vs.length + 1 - (i + 1), by omega, i + 1, m₂, news₂, rfl, hlt, F₅, fun p hp => N₅ p (List.mem_cons_of_mem _ hp), hn₅, hJ₅, ⟨oI, (N₅ (I, oI) (List.mem_cons_self ..)).1, hIc, hId⟩, hb₅, ho₅⟩
    cases f with
    | ret v => exact hf
    | brk => exact hf
    | next => exact again hf
    | cont => exact again hf
  · obtain rfl : i = vs.length := by omega
    refine wpAny_pyNext_list_end hA It' L' (by simp) fun h₂ hs₂ => ?_
    try dsimp only
    refine wpAny_execs_nil (hR _ m' news' ?_ (fun p hp => ⟨hs₂ _ _ (hn' p hp) (N' p hp).1, (N' p hp).2⟩) hJ hb' ho')
    obtain ⟨o, es, ep, q, r⟩ := F'.ns
    exact ⟨⟨o, es, ep, hs₂ _ _ hLI q, r⟩, fun b o q => hs₂ _ _ (fun e => by rw [e, hI₀] at q; cases q) (F'.keep b o q), F'.above⟩
/-- plain: what stays in front, in order -/
theorem srt_take {R rest hs ss : List Int} (hp : (R ++ rest).Perm hs) (hle : ∀ a ∈ R, ∀ b ∈ rest, a ≤ b) (hs2 : ss.Perm R) (hs3 : ss.Pairwise (· ≤ ·)) : ss = (srt hs).take R.length := by
  have e1 : ss ++ srt rest = srt hs := by
    refine (srt_eq ?_ ?_).symm
    · exact ((hs2.append (srt_perm rest)).trans hp).symm
    · refine List.pairwise_append.mpr ⟨hs3, srt_sorted rest, fun a ha b hb => ?_⟩
      exact hle a (hs2.mem_iff.mp ha) b ((srt_perm rest).mem_iff.mp hb)
  rw [← e1, ← hs2.length_eq, List.take_left']
  rfl
end
end
section
theorem wd3Ix69 : True := by
  k_with_none
  k_with "omega" => (omega (splitDisjunctions := true))
  k_with "om2" => (first | lia | omega (splitDisjunctions := true))
  k_with "eval Name" => ((k_here; (with_reducible show wpAny _ _ (eval _ (envOf _ _ _ _ _)) _ _ _); k_dflt (refine' nmL ?yF ?yv ?yx ?yk ?yd ?_; (case yF => k_asm); (case yk => exact rfl); (case yx => exact rfl); (case yd => exact rfl); (case yv => exact rfl); k_whole)))
  k_with "storeName" => ((k_here; (with_reducible show wpAny _ _ (storeName (envOf _ _ _ _ _) _ _) _ _ _); k_dflt (refine' stoLe ?yF ?yN ?yx ?yk ?_; (case yF => k_asm); (case yN => k_asm); (case yk => exact rfl); (case yx => exact rfl); k_whole; intro m'ω h'ω F'ω N'ω; (try k_sweep))))
  k_with "eval Name" => ((k_here; (with_reducible show wpAny _ _ (eval _ (envOfC _ _ _ _ _)) _ _ _); k_dflt (refine' nmLC ?yF ?yv ?yk ?yx ?yd ?_; (case yF => k_asm); (case yk => exact rfl); (case yx => exact rfl); (case yd => exact rfl); (case yv => exact rfl); k_whole)))
  k_with "storeName" => ((k_here; (with_reducible show wpAny _ _ (storeName (envOfC _ _ _ _ _) _ _) _ _ _); k_dflt (refine' stoLCe ?yF ?yN ?yk ?yx ?_; (case yF => k_asm); (case yN => k_asm); (case yk => exact rfl); (case yx => exact rfl); k_whole; intro m'ω h'ω F'ω N'ω; (try k_sweep))))
  k_with "execs cons" => ((k_here; (first | (with_reducible show wpAny _ _ (execs _ _) (AtF _) _ _) | (refine execs_abs ?_; intro Q8ω q8ω)); k_dflt (refine execs_gen ?_); intro Q7ω t7ω g7ω o7ω; (try dsimp only)))
  k_with "AtF" => ((with_reducible first | refine AtF.go (by assumption) ?_ | (refine AtF.out (by assumption) (fun z => Flow.noConfusion z) ?_) | (refine AtF.fin (by assumption) ?_; (try dsimp only))))
  k_with "room" => (k_dflt (first | exact rm2 (by assumption) rfl | exact rm1 (by assumption) rfl | exact rm3 (by assumption) rfl | exact rm4 (by assumption) rfl | exact rm0 (by assumption)))
  k_with "kne" => ((refine neN ?_; (try dsimp only); k_extra "ne"))
  k_with "cj" => (first | exact And.left | exact id | (refine cjs ?_; k_extra "cj"))
  k_with "ne" => (with_reducible first | assumption | exact lne (by assumption) | exact gne (by assumption) | exact sne (by assumption) | exact suc | exact suc2 | exact sne suc | exact sne suc2 | (refine ltc (by assumption) ?_; k_extra "cj") | (refine gtc (by assumption) ?_; k_extra "cj") | (refine nec (by assumption) ?_; k_extra "cj") | (refine nfc (by assumption) ?_; k_extra "cj"))
  trivial
section
variable {prog : Program} {w : World} {A : Around} {E : Value → Shared → Prop} {s : Shared}
def revR (n : Int) : Obj := { cls := .type "range_iterator", data := .fields #[rawInt (0 + (n - 1) * 1), rawInt n, rawInt (-1)] }
theorem sub_rri_reversed : isSubtype (.type "range_iterator") (.type "reversed") = pure false := by rw [isSubtype_type]; kernel_rfl
theorem call_range_rev {r : Addr} {b : Int} {t u v : Tok} {Q : Value → Shared → Prop} (hr : IsRange s.heap r 0 b 1 t u v) (hb : b = 1 ∨ b = 2)
    (h : Q (.ref s.heap.objs.size) { s with heap := s.heap.push (revR b) }) : wpAny (model prog w) A (call (.builtin "range.__reversed__") [.ref r]) Q E s := by
  have hT : s.TypeIs (.ref r) "range" := ⟨_, hr, rfl⟩
  refine wpAny_call_entry F.slot_range_reversed hT F.entry_range_reversed ?_ (F.args_range_reversed_1 _)
  unfold Builtin.«range.__reversed__»
  refine wpAny_bind (wpAny_of_eq (a := Value.ref r) rfl ?_)
  refine wpAny_bind ?_
  unfold Builtin.Range.rangeFields
  refine wpAny_bind (wpAny_field hr rfl (x := .int 0 t) rfl ?_)
  refine wpAny_bind (wpAny_of_eq (a := some (0 : Int)) rfl ?_)
  refine wpAny_bind (wpAny_field hr rfl (x := .int b u) rfl ?_)
  refine wpAny_bind (wpAny_of_eq (a := some b) rfl ?_)
  refine wpAny_bind (wpAny_field hr rfl (x := .int 1 v) rfl ?_)
  refine wpAny_bind (wpAny_of_eq (a := some (1 : Int)) rfl ?_)
  refine wpAny_pure ?_
  try dsimp only
  rcases hb with rfl | rfl
  · rw [if_neg (by decide +kernel), if_pos (by decide +kernel), show Builtin.Range.rangeSize 0 1 1 = 1 from by decide +kernel]
    exact wpAny_bind (wpAny_newObj_type (wpAny_pure ⟨_, rfl, h⟩))
  · rw [if_neg (by decide +kernel), if_pos (by decide +kernel), show Builtin.Range.rangeSize 0 2 1 = 2 from by decide +kernel]
    exact wpAny_bind (wpAny_newObj_type (wpAny_pure ⟨_, rfl, h⟩))
theorem code_range_rev {r : Addr} {b : Int} {t u v : Tok} {Q₁ : Value → Shared → Prop} (hr : IsRange s.heap r 0 b 1 t u v) (hb : b = 1 ∨ b = 2)
    (h : Q₁ (.ref s.heap.objs.size) { s with heap := s.heap.push (revR b) }) :
    codeAny (model prog w) A (.call (.builtin "reversed.__new__") ⟨[.type "reversed", .ref r], []⟩) (wants Q₁ E) s := by
  have hT : s.TypeIs (.ref r) "range" := ⟨_, hr, rfl⟩
  refine codeAny_of_tree ?_
  show wpAny _ A.in1 (do checkBuiltinCall "reversed.__new__" ⟨[.type "reversed", .ref r], []⟩; again (.builtin "reversed.__new__" ⟨[.type "reversed", .ref r], []⟩)) _ _ s
  refine wpAny_bind (wpAny_of_eq (F.newCall_reversed_1 _) (wpAny_pure ⟨plainId_quiet F.plain_reversed_new _, codeAny_builtin F.entry_reversed_new ?_⟩))
  rw [Around.under_plainId F.plain_reversed_new _]
  unfold Builtin.«reversed.__new__»
  refine wpAny_bind (wpAny_of_eq (newClass_reversed _) ?_)
  try dsimp only
  refine wpAny_bind (wpAny_of_eq (a := ()) (by first | rfl | kernel_rfl) ?_)
  refine wpAny_bind (wpAny_of_eq (a := ()) (by first | rfl | kernel_rfl) ?_)
  try dsimp only
  refine wpAny_bind (wpAny_specialOf hT F.slot_range_reversed.lookup ?_)
  try dsimp only
  refine wpAny_bind (wpAny_of_eq (F.slot_range_reversed.bind _) ?_)
  try dsimp only
  first
  | rw [if_neg (show ¬ ((Value.builtin "range.__reversed__" == Value.none) = true) from Bool.false_ne_true)]
  | (show wpAny _ _ (if (Value.builtin "range.__reversed__" == Value.none) = true then _ else _) _ _ _; rw [if_neg (show ¬ ((Value.builtin "range.__reversed__" == Value.none) = true) from Bool.false_ne_true)])
  refine wpAny_bind (wpAny_rule ?_)
  refine wpAny_bind (m := runValue (.call (.builtin "range.__reversed__") ⟨[.ref r], []⟩)) (show wpAny _ _ (call (.builtin "range.__reversed__") [.ref r]) _ _ _ from call_range_rev hr hb ?_)
  first
  | exact wpAny_pure h
  | exact wpAny_bind (wpAny_pure (wpAny_pure h))
theorem reversed_range {r : Addr} {b : Int} {t u v : Tok} {Q : Value → Shared → Prop} (hr : IsRange s.heap r 0 b 1 t u v) (hb : b = 1 ∨ b = 2)
    (h : Q (.ref s.heap.objs.size) { s with heap := s.heap.push (revR b) }) : wpAny (model prog w) A (call (.type "reversed") [.ref r]) Q E s := by
  refine callType_other (U := "range_iterator") (Q₁ := fun obj s₁ => obj = .ref s.heap.objs.size ∧ s₁ = { s with heap := s.heap.push (revR b) }) (by decide +kernel) F.create_reversed ⟨_, _, F.mro_reversed⟩ F.made_reversed sub_rri_reversed (F.typeCall_reversed_1 _) (code_range_rev hr hb ⟨rfl, rfl⟩) ?_
  rintro obj s₁ ⟨rfl, rfl⟩
  exact ⟨⟨_, Heap.get?_push_size _ rfl, rfl⟩, h⟩
end
end
section
theorem wd3Jx70 : True := by
  k_with_none
  k_with "omega" => (omega (splitDisjunctions := true))
  k_with "om2" => (first | lia | omega (splitDisjunctions := true))
  k_with "eval Name" => ((k_here; (with_reducible show wpAny _ _ (eval _ (envOf _ _ _ _ _)) _ _ _); k_dflt (refine' nmL ?yF ?yv ?yx ?yk ?yd ?_; (case yF => k_asm); (case yk => exact rfl); (case yx => exact rfl); (case yd => exact rfl); (case yv => exact rfl); k_whole)))
  k_with "storeName" => ((k_here; (with_reducible show wpAny _ _ (storeName (envOf _ _ _ _ _) _ _) _ _ _); k_dflt (refine' stoLe ?yF ?yN ?yx ?yk ?_; (case yF => k_asm); (case yN => k_asm); (case yk => exact rfl); (case yx => exact rfl); k_whole; intro m'ω h'ω F'ω N'ω; (try k_sweep))))
  k_with "eval Name" => ((k_here; (with_reducible show wpAny _ _ (eval _ (envOfC _ _ _ _ _)) _ _ _); k_dflt (refine' nmLC ?yF ?yv ?yk ?yx ?yd ?_; (case yF => k_asm); (case yk => exact rfl); (case yx => exact rfl); (case yd => exact rfl); (case yv => exact rfl); k_whole)))
  k_with "storeName" => ((k_here; (with_reducible show wpAny _ _ (storeName (envOfC _ _ _ _ _) _ _) _ _ _); k_dflt (refine' stoLCe ?yF ?yN ?yk ?yx ?_; (case yF => k_asm); (case yN => k_asm); (case yk => exact rfl); (case yx => exact rfl); k_whole; intro m'ω h'ω F'ω N'ω; (try k_sweep))))
  k_with "execs cons" => ((k_here; (first | (with_reducible show wpAny _ _ (execs _ _) (AtF _) _ _) | (refine execs_abs ?_; intro Q8ω q8ω)); k_dflt (refine execs_gen ?_); intro Q7ω t7ω g7ω o7ω; (try dsimp only)))
  k_with "AtF" => ((with_reducible first | refine AtF.go (by assumption) ?_ | (refine AtF.out (by assumption) (fun z => Flow.noConfusion z) ?_) | (refine AtF.fin (by assumption) ?_; (try dsimp only))))
  k_with "room" => (k_dflt (first | exact rm2 (by assumption) rfl | exact rm1 (by assumption) rfl | exact rm3 (by assumption) rfl | exact rm4 (by assumption) rfl | exact rm0 (by assumption)))
  k_with "kne" => ((refine neN ?_; (try dsimp only); k_extra "ne"))
  k_with "cj" => (first | exact And.left | exact id | (refine cjs ?_; k_extra "cj"))
  k_with "ne" => (with_reducible first | assumption | exact lne (by assumption) | exact gne (by assumption) | exact sne (by assumption) | exact suc | exact suc2 | exact sne suc | exact sne suc2 | (refine ltc (by assumption) ?_; k_extra "cj") | (refine gtc (by assumption) ?_; k_extra "cj") | (refine nec (by assumption) ?_; k_extra "cj") | (refine nfc (by assumption) ?_; k_extra "cj"))
  trivial
section
variable {prog : Program} {w : World} {A : Around} {s : Shared} {h₀ : Heap} {env : Env}
theorem rev_loop {R : Result → Shared → Prop} {x : Str} {px : Pos} {body : List Stmt} {m : Str → Option Value} {news : List (Addr × Obj)} {n : Nat}
    (hA : A.handled = none) (hx : env.kindOf x = some .local) (hp : (env.scope.kind == .class || (env.scope.kind == .module && env.locals != env.globals)) = false)
    (F : Fr h₀ env.locals s.heap m) (N : News h₀ env.locals s.heap news)
    (J : Nat → (Str → Option Value) → List (Addr × Obj) → Prop) (h0 : J 0 m news)
    (step : ∀ i t m₁ news₁ s₁ oI (I : Nat), i < n → J i m₁ news₁ → (AllBare s.gens → AllBare s₁.gens) → s₁.os = s.os → (∀ p ∈ news, p.1 < I) →
      Fr h₀ env.locals s₁.heap (fun y => if y = x then some (.int ((n : Int) - 1 - i) t) else m₁ y) → News h₀ env.locals s₁.heap ((I, oI) :: news₁) →
      wpAny (model prog w) A (execs body env) (WStep h₀ env.locals I oI (J (i + 1)) R s) (fun _ _ => False) s₁)
    (hR : ∀ s' m' news', Fr h₀ env.locals s'.heap m' → News h₀ env.locals s'.heap news' → J n m' news' → (AllBare s.gens → AllBare s'.gens) → s'.os = s.os → R (.ok .next) s') :
    codeAny (model prog w) A (.forLoop (.Name x px) (.ref s.heap.objs.size) body [] env) R { s with heap := s.heap.push { cls := .type "range_iterator", data := .fields #[rawInt (0 + ((n : Int) - 1) * 1), rawInt (n : Int), rawInt (-1)] } } := by
  have hLs : @LT.lt Nat _ env.locals s.heap.objs.size := by obtain ⟨o, _, _, q, _⟩ := F.ns; exact Heap.lt_size q
  have nz : ∀ p ∈ news, @LT.lt Nat _ p.1 s.heap.objs.size := fun p hp => Heap.lt_size (N p hp).1
  have hI₀ : h₀.get? s.heap.objs.size = none := by
    cases q : h₀.get? s.heap.objs.size with
    | none => rfl
    | some o => exact absurd (Heap.lt_size (F.keep _ _ q)) (Nat.lt_irrefl _)
  have F1 : Fr h₀ env.locals (s.heap.push { cls := .type "range_iterator", data := .fields #[rawInt (0 + ((n : Int) - 1) * 1), rawInt (n : Int), rawInt (-1)] }) m := F.push _
  have N1 : News h₀ env.locals (s.heap.push { cls := .type "range_iterator", data := .fields #[rawInt (0 + ((n : Int) - 1) * 1), rawInt (n : Int), rawInt (-1)] }) news := fun p hp => ⟨Heap.get?_push_of_some _ (N p hp).1, (N p hp).2⟩
  have It : IsRangeIter (s.heap.push { cls := .type "range_iterator", data := .fields #[rawInt (0 + ((n : Int) - 1) * 1), rawInt (n : Int), rawInt (-1)] }) s.heap.objs.size ((n : Int) - 1 - (0 : Nat)) ((n : Int) - (0 : Nat)) (-1) := by
    have := Heap.get?_push_size s.heap (o := { cls := .type "range_iterator", data := .fields #[rawInt (0 + ((n : Int) - 1) * 1), rawInt (n : Int), rawInt (-1)] }) rfl
    simpa using this
  generalize s.heap.push { cls := .type "range_iterator", data := .fields #[rawInt (0 + ((n : Int) - 1) * 1), rawInt (n : Int), rawInt (-1)] } = h₁ at F1 N1 It ⊢
  generalize s.heap.objs.size = I at *
  refine codeAny_forLoop (fun k s' => ∃ i m' news', k = n + 1 - i ∧ i ≤ n ∧ Fr h₀ env.locals s'.heap m' ∧ News h₀ env.locals s'.heap news' ∧ (∀ p ∈ news', p.1 ≠ I) ∧ J i m' news' ∧ IsRangeIter s'.heap I ((n : Int) - 1 - i) ((n : Int) - i) (-1) ∧ (AllBare s.gens → AllBare s'.gens) ∧ s'.os = s.os) ?_ (n + 1)
    ⟨0, m, news, rfl, Nat.zero_le _, F1, N1, fun p hp => neN (Nat.ne_of_lt (nz p hp)), h0, It, id, rfl⟩
  intro k s' hk
  refine ex39 hk ?_
  clear hk
  intro i m' news' ek hi F' N' hn' hJ It' hb' ho'
  subst ek
  have hLI : env.locals ≠ I := neN (Nat.ne_of_lt hLs)
  rcases Nat.lt_or_ge i n with hlt | hge
  · refine wpAny_pyNext_range_item It' (by omega) fun h₂ It₂ hs₂ => ?_
    try dsimp only
    have F₂ : Fr h₀ env.locals h₂ m' := by
      obtain ⟨o, es, ep, q, r⟩ := F'.ns
      exact ⟨⟨o, es, ep, hs₂.extBut _ _ hLI q, r⟩, fun b o q => hs₂.extBut _ _ (fun e => by rw [e, hI₀] at q; cases q) (F'.keep b o q), F'.above⟩
    have N₂ : News h₀ env.locals h₂ news' := fun p hp => ⟨hs₂.extBut _ _ (hn' p hp) (N' p hp).1, (N' p hp).2⟩
    refine wpAny_assign_Name (wpAny_storeName_local hx F₂.ns (fun h₃ hn₃ hs₃ => ?_) hp)
    have F₃ := F₂.set hn₃ hs₃
    have N₃ : News h₀ env.locals h₃ news' := N₂.set hs₃
    have It₂' : IsRangeIter h₂ I ((n : Int) - 1 - (i + 1 : Nat)) ((n : Int) - (i + 1 : Nat)) (-1) := by
      have e1 : (n : Int) - 1 - i + -1 = (n : Int) - 1 - (i + 1 : Nat) := by omega
      have e2 : (n : Int) - i - 1 = (n : Int) - (i + 1 : Nat) := by omega
      rw [e1, e2] at It₂; exact It₂
    obtain ⟨oI, hoI⟩ : ∃ o, h₃.get? I = some o := ⟨_, hs₃.extBut _ _ (Ne.symm hLI) It₂'⟩
    have eoI := Option.some.inj (hoI.symm.trans (hs₃.extBut _ _ (Ne.symm hLI) It₂'))
    have N₄ : News h₀ env.locals h₃ ((I, oI) :: news') := fun p hp => by
      rcases List.mem_cons.mp hp with rfl | hp
      · exact ⟨hoI, Ne.symm hLI, hI₀⟩
      · exact N₃ p hp
    refine wpAny_mono (step i _ m' news' { s' with heap := h₃, toks := _ } oI I hlt hJ hb' ho' nz F₃ N₄) (fun f s₃ hf => ?_) fun _ _ z => z.elim
    have again : WOk h₀ env.locals I oI (J (i + 1)) s s₃ →
        ∃ k', k' < n + 1 - i ∧ ∃ i m' news', k' = n + 1 - i ∧ i ≤ n ∧ Fr h₀ env.locals s₃.heap m' ∧ News h₀ env.locals s₃.heap news' ∧ (∀ p ∈ news', p.1 ≠ I) ∧ J i m' news' ∧ IsRangeIter s₃.heap I ((n : Int) - 1 - i) ((n : Int) - i) (-1) ∧ (AllBare s.gens → AllBare s₃.gens) ∧ s₃.os = s.os := by
      rintro ⟨m₂, news₂, F₅, N₅, hn₅, hJ₅, hb₅, ho₅⟩
      exact ⟨n + 1 - (i + 1), by omega, i + 1, m₂, news₂, rfl, hlt, F₅, fun p hp => N₅ p (List.mem_cons_of_mem _ hp), hn₅, hJ₅, by have k := (N₅ (I, oI) (List.mem_cons_self ..)).1; rw [eoI] at k; exact k, hb₅, ho₅⟩
    cases f with
    | ret v => exact hf
    | brk => exact hf
    | next => exact again hf
    | cont => exact again hf
  · obtain rfl : i = n := by omega
    refine wpAny_pyNext_range_end hA It' (by omega) fun h₂ hs₂ => ?_
    try dsimp only
    refine wpAny_execs_nil (hR _ m' news' ?_ (fun p hp => ⟨hs₂ _ _ (hn' p hp) (N' p hp).1, (N' p hp).2⟩) hJ hb' ho')
    obtain ⟨o, es, ep, q, r⟩ := F'.ns
    exact ⟨⟨o, es, ep, hs₂ _ _ hLI q, r⟩, fun b o q => hs₂ _ _ (fun e => by rw [e, hI₀] at q; cases q) (F'.keep b o q), F'.above⟩
end
end
section
theorem wd3Kx71 : True := by
  k_with_none
  k_with "omega" => (first | lia | omega (splitDisjunctions := true))
  k_with "om2" => (first | lia | omega (splitDisjunctions := true))
  k_with "eval Name" => ((k_here; (with_reducible show wpAny _ _ (eval _ (envOf _ _ _ _ _)) _ _ _); k_dflt (refine' nmL ?yF ?yv ?yx ?yk ?yd ?_; (case yF => k_asm); (case yk => exact rfl); (case yx => exact rfl); (case yd => exact rfl); (case yv => exact rfl); k_whole)))
  k_with "storeName" => ((k_here; (with_reducible show wpAny _ _ (storeName (envOf _ _ _ _ _) _ _) _ _ _); k_dflt (refine' stoLe ?yF ?yN ?yx ?yk ?_; (case yF => k_asm); (case yN => k_asm); (case yk => exact rfl); (case yx => exact rfl); k_whole; intro m'ω h'ω F'ω N'ω; (try k_sweep))))
  k_with "eval Name" => ((k_here; (with_reducible show wpAny _ _ (eval _ (envOfC _ _ _ _ _)) _ _ _); k_dflt (refine' nmLC ?yF ?yv ?yk ?yx ?yd ?_; (case yF => k_asm); (case yk => exact rfl); (case yx => exact rfl); (case yd => exact rfl); (case yv => exact rfl); k_whole)))
  k_with "storeName" => ((k_here; (with_reducible show wpAny _ _ (storeName (envOfC _ _ _ _ _) _ _) _ _ _); k_dflt (refine' stoLCe ?yF ?yN ?yk ?yx ?_; (case yF => k_asm); (case yN => k_asm); (case yk => exact rfl); (case yx => exact rfl); k_whole; intro m'ω h'ω F'ω N'ω; (try k_sweep))))
  k_with "execs cons" => ((k_here; (first | (with_reducible show wpAny _ _ (execs _ _) (AtF _) _ _) | (refine execs_abs ?_; intro Q8ω q8ω)); k_dflt (refine execs_gen ?_); intro Q7ω t7ω g7ω o7ω; (try dsimp only)))
  k_with "AtF" => ((with_reducible first | refine AtF.go (by assumption) ?_ | (refine AtF.out (by assumption) (fun z => Flow.noConfusion z) ?_) | (refine AtF.fin (by assumption) ?_; (try dsimp only))))
  k_with "room" => (k_dflt (first | exact rm2 (by assumption) rfl | exact rm1 (by assumption) rfl | exact rm3 (by assumption) rfl | exact rm4 (by assumption) rfl | exact rm0 (by assumption)))
  k_with "kne" => ((refine neN ?_; (try dsimp only); k_extra "ne"))
  k_with "cj" => (first | exact And.left | exact id | (refine cjs ?_; k_extra "cj"))
  k_with "ne" => (with_reducible first | assumption | exact lne (by assumption) | exact gne (by assumption) | exact sne (by assumption) | exact suc | exact suc2 | exact sne suc | exact sne suc2 | (refine ltc (by assumption) ?_; k_extra "cj") | (refine gtc (by assumption) ?_; k_extra "cj") | (refine nec (by assumption) ?_; k_extra "cj") | (refine nfc (by assumption) ?_; k_extra "cj"))
  k_with "truthy ref" => ((k_here; (with_reducible show wpAny _ _ (truthy (Value.ref _)) _ _ _); k_dflt (refine' truthy_ints ?k1 ?k2 ?k3 ?k4 ?_; (case k1 => k_asm); (case k2 => k_mem); (case k3 => l_ints); (case k4 => first | omega | (simp only [List.length_set, List.length_dropLast, List.length_append, List.length_cons, List.length_nil]; omega)); k_whole)))
  k_with "call ref" => ((k_here; (with_reducible show wpAny _ _ (call (Value.ref 98) _) _ _ _); k_dflt (refine' c_siftup ?k1 ?k2 ?k3 ?k4 ?k5 ?k6 ?k7 ?k8 ?k9 ?_; (case k1 => refine' pushT ?p1 ?p2 ?p3 ?p4; (case p1 => k_asm); (case p2 => k_asm); (case p3 => exact rfl); (case p4 => exact rfl)); (case k2 => k_asm); (case k3 => k_asm); (case k4 => refine has_of (by k_asm) (by k_asm) rfl (List.forall_mem_singleton.mpr ?m); (case m => k_mem)); (case k5 => l_ints); (case k6 => first | omega | (simp only [List.length_set, List.length_dropLast]; omega)); (case k7 => first | omega | (simp only [List.length_set, List.length_dropLast]; omega)); (case k8 => ktr_room); (case k9 => ktr_units); k_whole; (intro s'ω vs'ω n'ω hEω hgω hi'ω; have F9ω := back_fr (by k_asm) (by k_asm) hEω (List.forall_mem_singleton.mpr ⟨_, by k_mem⟩); have N9ω := back_news1 (by k_asm) hEω (by k_upd) hgω; (try k_sweep); (try dsimp only)))))
  trivial
section
variable {prog : Program} {w : World} {A : Around} {E : Value → Shared → Prop} {s : Shared} {h₀ : Heap} {L : Addr} {m : Str → Option Value} {news : List (Addr × Obj)}
theorem len_ents {a : Addr} {R : List Ent} {n : Nat} {Q : Value → Shared → Prop} (N : News h₀ L s.heap news) (hm : (a, listOf (R.map refE).toArray n) ∈ news) {kk : Int} (hk : ((R.length : Nat) : Int) = kk) (hz : R.length ≤ 4) (h : Q (.int kk (s.toks + 1)) { s with toks := s.toks + 1 + 1 }) : wpAny (model prog w) A (call (.builtin "len") [.ref a]) Q E s := by
  refine PyProof.Rows.len_list (items := (R.map refE).toArray) ⟨_, (N _ hm).1, rfl, n, rfl⟩ (by rw [List.size_toArray, List.length_map]; omega) ?_
  rw [List.size_toArray, List.length_map, hk]; exact h
theorem reversed_N {r : Addr} {b : Int} {t u v : Tok} {Q : Value → Shared → Prop} (F : Fr h₀ L s.heap m) (N : News h₀ L s.heap news) (hr : IsRange s.heap r 0 b 1 t u v) (hb : b = 1 ∨ b = 2)
    (h : Stop (Q (.ref s.heap.objs.size) { s with heap := s.heap.push (revR b) })) : wpAny (model prog w) A (call (.type "reversed") [.ref r]) Q E s := by
  unfold Stop at h
  exact reversed_range hr hb h
end
theorem wd3Kx72 : True := by
  k_with "call builtin:len" => ((k_here; (with_reducible show wpAny _ _ (call (Value.builtin "len") [Value.ref _]) _ _ _); k_dflt (refine' len_ents ?k1 ?k2 ?k4 ?k3 ?_; (case k1 => k_asm); (case k2 => k_mem); (case k3 => assumption); (case k4 => assumption); k_whole)))
  k_with "exec For Name Call cons nil" => ((k_here; k_dflt (refine wpAny_For ?_)))
  k_with "call type:reversed" => ((k_here; refine of_stop ?_))
  k_with "call ref" => ((k_here; (with_reducible show wpAny _ _ (call (Value.ref 112) _) _ _ _); refine of_stop ?_))
  trivial
theorem pre2 : ∀ {R : List Ent}, R.length = 2 ∨ R.length = 3 → PreM R
  | [_, _], _ => trivial
  | [_, _, _], _ => trivial
  | [], h => by simp at h
  | [_], h => by simp at h
  | _ :: _ :: _ :: _ :: _, h => by simp at h
theorem HeapM.preSelf : ∀ {R : List Ent}, HeapM R → PreM R
  | [_, _], _ => trivial
  | [_, _, _], _ => trivial
  | [_, _, _, _], h => h.2.2
theorem suMp1 {w : World} {mean : ExcName → Option Value} {mg mb : Str → Option Value} {dp un : Nat} {gd : Option (List Code)} {outer : List Env} {base : Heap} {s : Shared} {Q E : Value → Shared → Prop} {l : Addr} {R : List Ent} {n : Nat} {t0 : Tok} (B : Below (top dp un gd outer) base outer s.heap) (X : (Kt w.params).In base) (T : Top vw loo mean mg mb base) (H : Has base outer s.heap ((l, listOf (R.map refE).toArray n) :: R.map entE)) (hne : ∀ e ∈ R, l ≠ e.a) (hp : R.length = 4)
  (hdp : dp + 4 < recursionLimit) (hun : un + 32 < cLine)
  (hret : ∀ s' n' R', Ext [l] s s' → s'.heap.get? l = some (listOf (List.map refE R').toArray n') → R'.Perm R → PreM R' → Q .none s') :
  wpAny (model PySem.Challenge.rw_om0101_01.row.prog w) (top dp un gd outer) (call (.ref 112) [.ref l, .int 1 t0]) Q E s := by
  rcases R with _ | ⟨e0, _ | ⟨e1, _ | ⟨e2, _ | ⟨e3, _ | ⟨_, _⟩⟩⟩⟩⟩
  · simp at hp
  · simp at hp
  · simp at hp
  · simp at hp
  · refine suM41 B X T H (hne _ (.head _)) (hne _ (.tail _ (.head _))) (hne _ (.tail _ (.tail _ (.head _)))) (hne _ (.tail _ (.tail _ (.tail _ (.head _))))) hdp hun fun s' n' f0 f1 f2 f3 a b c d => ?_
    exact hret s' n' [f0, f1, f2, f3] a b c d.2.2
  · simp at hp
theorem hpM {w : World} {mean : ExcName → Option Value} {mg mb : Str → Option Value} {dp un : Nat} {gd : Option (List Code)} {outer : List Env} {base : Heap} {s : Shared} {Q E : Value → Shared → Prop} {l : Addr} {R : List Ent} {n : Nat} (B : Below (top dp un gd outer) base outer s.heap) (X : (Kt w.params).In base) (T : Top vw loo mean mg mb base) (H : Has base outer s.heap ((l, listOf (R.map refE).toArray n) :: R.map entE))
  (hA : ∀ p ∈ R.map entE, p.1 ≠ l) (h2 : 2 ≤ R.length) (h4 : R.length ≤ 4) (hdp : dp + 8 < recursionLimit) (hun : un + 64 < cLine)
  (hret : ∀ s' v n' R', Ext [l] s s' → s'.heap.get? l = some (listOf (List.map refE R').toArray n') → R'.Perm R → HeapM R' → Q v s') :
  wpAny (model PySem.Challenge.rw_om0101_01.row.prog w) (top dp un gd outer) (call (.ref 84) [.ref l]) Q E s := by
  revert X; k_fill; intro X
  have hul : un + 32 < cLine := by omega
  have hL : R.length = 2 ∨ R.length = 3 ∨ R.length = 4 := by omega
  rcases hL with hlen | hlen | hlen
  · have hk : ((R.length : Nat) : Int) = 2 := by rw [hlen]; rfl
    w_strict (
     (refine wpAny_call ?_; (k_dflt (refine' enterN ?k1 ?k2 ?k3 ?k4 ?k6 ?k7 ?k8 ?k9 ?kB ?_ ?c2 ?c3 ?c4 ?c5; (case k1 => k_asm); (case k2 => k_asm); (case k3 => k_asm); (case k4 => first | k_asm | exact Has.nil); (case k6 => k_is); (case k7 => k_is); (case k8 => ktr_room); (case k9 => exact BindsTo.of_eq rfl); (case c5 => decide); (case kB => exact locs rfl); (case c2 => exact rfl); (case c3 => exact rfl); (case c4 => exact rfl); k_whole; intro g' L' h' Q9 t9 q9 FG' F' N' B' X' T' l1; (try k_lt l1); (try dsimp only); (try k_lift B'); (try k_fold))))
     have FG0 := FG'
     k_steps)
    refine stop_of ?_
    rename Fr _ _ _ _ => F1
    rename News _ _ _ _ => N1
    rename IsRange _ _ _ _ _ _ _ _ => R1
    refine reversed_range (b := 1) R1 (.inl rfl) ?_
    refine wpAny_pyIter_rangeiter (Heap.get?_push_size _ rfl) ?_
    refine rev_loop (n := 1) rfl rfl rfl F1 N1 (fun i m news => ∃ R' n' , news = ((l, listOf (List.map refE R').toArray n') :: List.map entE R) ∧ R'.Perm R ∧ m (Str.ofString "x") = some (.ref l) ∧ (i = 1 → HeapM R') ∧ (1 ≤ i → 1 = 2 → PreM R')) ?_ ?_ ?_
    · exact ⟨R, n, rfl, .refl _, rfl, fun q => absurd q (by decide), fun q => absurd q (by decide)⟩
    · intro i u m₁ news₁ s₁ oI I hi hJ hb₁ ho₁ hnz F3 N3
      obtain ⟨R', n', rfl, hp, hx, _, _⟩ := hJ
      obtain rfl : i = 0 := by omega
      rw [form2 hx hx, show ((1 : Nat) : Int) - 1 - ((0 : Nat) : Int) = 0 from rfl] at F3
      clear F1 N1
      obtain ⟨h4, gens4, dr4, tk4, os4⟩ := s₁
      dsimp only at F3 N3 hb₁ ho₁ ⊢
      k_steps
      refine stop_of ?_
      have hl2 : R'.length = 2 := hp.length_eq.trans hlen
      have hIl : I ≠ l := by
        have q := hnz _ (.head _)
        exact fun e => Nat.lt_irrefl _ (e ▸ q)
      have hsub : ∀ p ∈ ((l, listOf (List.map refE R').toArray n') :: List.map entE R'), p ∈ ((I, oI) :: (l, listOf (List.map refE R').toArray n') :: List.map entE R) := fun p q => by
        rcases List.mem_cons.mp q with rfl | q
        · exact .tail _ (.head _)
        · exact .tail _ (.tail _ (ents_perm hp _ q))
      have hne : ∀ e ∈ R', l ≠ e.a := fun e he => Ne.symm (hA (entE e) (List.mem_map_of_mem (hp.mem_iff.mp he)))
      k_dflt (refine' suM (R := R') ?k1 ?k2 ?k3 ?k4 hne (pre2 (.inl hl2)) ?k7 ?k8 ?_; (case k1 => refine' pushT ?p1 ?p2 ?p3 ?p4; (case p1 => k_asm); (case p2 => k_asm); (case p3 => exact rfl); (case p4 => exact rfl)); (case k2 => k_asm); (case k3 => k_asm); (case k4 => exact has_of (by k_asm) N3 rfl hsub); (case k7 => ktr_room); (case k8 => ktr_units))
      intro s' n2 R2 hE hg hperm hH'
      have F9 := back_fr (by k_asm) N3 hE (List.forall_mem_singleton.mpr ⟨_, .tail _ (.head _)⟩)
      have N9 := back_news1 N3 hE (Upd.tail hIl (Upd.head hA)) hg
      k_steps
      rename Fr _ _ _ _ => F5
      refine ⟨_, _, F5, N9, List.forall_mem_cons.mpr ⟨Ne.symm hIl, fun p q => neN (fun e => Nat.lt_irrefl _ (e ▸ hnz _ (.tail _ q)))⟩, ⟨R2, n2, rfl, hperm.trans hp, rfl, fun _ => hH', fun _ q => absurd q (by decide)⟩, ?_, ?_⟩
      · exact fun y => hE.bare (hb₁ y)
      · exact hE.os.trans ho₁
    · intro s' m' news' F4 N4 hJ hb4 ho4
      obtain ⟨R', n', rfl, hp, hx, hH, _⟩ := hJ
      clear F1 N1
      obtain ⟨h4, gens4, dr4, tk4, os4⟩ := s'
      dsimp only at F4 N4 hb4 ho4 ⊢
      k_steps
      exact hret _ _ _ R' (ext_many FG0 F4 H N4 (fun p hp => .tail _ hp) ho4 hb4) (N4 _ (.head _)).1 hp (hH rfl)
  · have hk : ((R.length : Nat) : Int) = 3 := by rw [hlen]; rfl
    w_strict (
     (refine wpAny_call ?_; (k_dflt (refine' enterN ?k1 ?k2 ?k3 ?k4 ?k6 ?k7 ?k8 ?k9 ?kB ?_ ?c2 ?c3 ?c4 ?c5; (case k1 => k_asm); (case k2 => k_asm); (case k3 => k_asm); (case k4 => first | k_asm | exact Has.nil); (case k6 => k_is); (case k7 => k_is); (case k8 => ktr_room); (case k9 => exact BindsTo.of_eq rfl); (case c5 => decide); (case kB => exact locs rfl); (case c2 => exact rfl); (case c3 => exact rfl); (case c4 => exact rfl); k_whole; intro g' L' h' Q9 t9 q9 FG' F' N' B' X' T' l1; (try k_lt l1); (try dsimp only); (try k_lift B'); (try k_fold))))
     have FG0 := FG'
     k_steps)
    refine stop_of ?_
    rename Fr _ _ _ _ => F1
    rename News _ _ _ _ => N1
    rename IsRange _ _ _ _ _ _ _ _ => R1
    refine reversed_range (b := 1) R1 (.inl rfl) ?_
    refine wpAny_pyIter_rangeiter (Heap.get?_push_size _ rfl) ?_
    refine rev_loop (n := 1) rfl rfl rfl F1 N1 (fun i m news => ∃ R' n' , news = ((l, listOf (List.map refE R').toArray n') :: List.map entE R) ∧ R'.Perm R ∧ m (Str.ofString "x") = some (.ref l) ∧ (i = 1 → HeapM R') ∧ (1 ≤ i → 1 = 2 → PreM R')) ?_ ?_ ?_
    · exact ⟨R, n, rfl, .refl _, rfl, fun q => absurd q (by decide), fun q => absurd q (by decide)⟩
    · intro i u m₁ news₁ s₁ oI I hi hJ hb₁ ho₁ hnz F3 N3
      obtain ⟨R', n', rfl, hp, hx, _, _⟩ := hJ
      obtain rfl : i = 0 := by omega
      rw [form2 hx hx, show ((1 : Nat) : Int) - 1 - ((0 : Nat) : Int) = 0 from rfl] at F3
      clear F1 N1
      obtain ⟨h4, gens4, dr4, tk4, os4⟩ := s₁
      dsimp only at F3 N3 hb₁ ho₁ ⊢
      k_steps
      refine stop_of ?_
      have hl2 : R'.length = 3 := hp.length_eq.trans hlen
      have hIl : I ≠ l := by
        have q := hnz _ (.head _)
        exact fun e => Nat.lt_irrefl _ (e ▸ q)
      have hsub : ∀ p ∈ ((l, listOf (List.map refE R').toArray n') :: List.map entE R'), p ∈ ((I, oI) :: (l, listOf (List.map refE R').toArray n') :: List.map entE R) := fun p q => by
        rcases List.mem_cons.mp q with rfl | q
        · exact .tail _ (.head _)
        · exact .tail _ (.tail _ (ents_perm hp _ q))
      have hne : ∀ e ∈ R', l ≠ e.a := fun e he => Ne.symm (hA (entE e) (List.mem_map_of_mem (hp.mem_iff.mp he)))
      k_dflt (refine' suM (R := R') ?k1 ?k2 ?k3 ?k4 hne (pre2 (.inr hl2)) ?k7 ?k8 ?_; (case k1 => refine' pushT ?p1 ?p2 ?p3 ?p4; (case p1 => k_asm); (case p2 => k_asm); (case p3 => exact rfl); (case p4 => exact rfl)); (case k2 => k_asm); (case k3 => k_asm); (case k4 => exact has_of (by k_asm) N3 rfl hsub); (case k7 => ktr_room); (case k8 => ktr_units))
      intro s' n2 R2 hE hg hperm hH'
      have F9 := back_fr (by k_asm) N3 hE (List.forall_mem_singleton.mpr ⟨_, .tail _ (.head _)⟩)
      have N9 := back_news1 N3 hE (Upd.tail hIl (Upd.head hA)) hg
      k_steps
      rename Fr _ _ _ _ => F5
      refine ⟨_, _, F5, N9, List.forall_mem_cons.mpr ⟨Ne.symm hIl, fun p q => neN (fun e => Nat.lt_irrefl _ (e ▸ hnz _ (.tail _ q)))⟩, ⟨R2, n2, rfl, hperm.trans hp, rfl, fun _ => hH', fun _ q => absurd q (by decide)⟩, ?_, ?_⟩
      · exact fun y => hE.bare (hb₁ y)
      · exact hE.os.trans ho₁
    · intro s' m' news' F4 N4 hJ hb4 ho4
      obtain ⟨R', n', rfl, hp, hx, hH, _⟩ := hJ
      clear F1 N1
      obtain ⟨h4, gens4, dr4, tk4, os4⟩ := s'
      dsimp only at F4 N4 hb4 ho4 ⊢
      k_steps
      exact hret _ _ _ R' (ext_many FG0 F4 H N4 (fun p hp => .tail _ hp) ho4 hb4) (N4 _ (.head _)).1 hp (hH rfl)
  · have hk : ((R.length : Nat) : Int) = 4 := by rw [hlen]; rfl
    w_strict (
     (refine wpAny_call ?_; (k_dflt (refine' enterN ?k1 ?k2 ?k3 ?k4 ?k6 ?k7 ?k8 ?k9 ?kB ?_ ?c2 ?c3 ?c4 ?c5; (case k1 => k_asm); (case k2 => k_asm); (case k3 => k_asm); (case k4 => first | k_asm | exact Has.nil); (case k6 => k_is); (case k7 => k_is); (case k8 => ktr_room); (case k9 => exact BindsTo.of_eq rfl); (case c5 => decide); (case kB => exact locs rfl); (case c2 => exact rfl); (case c3 => exact rfl); (case c4 => exact rfl); k_whole; intro g' L' h' Q9 t9 q9 FG' F' N' B' X' T' l1; (try k_lt l1); (try dsimp only); (try k_lift B'); (try k_fold))))
     have FG0 := FG'
     k_steps)
    refine stop_of ?_
    rename Fr _ _ _ _ => F1
    rename News _ _ _ _ => N1
    rename IsRange _ _ _ _ _ _ _ _ => R1
    refine reversed_range (b := 2) R1 (.inr rfl) ?_
    refine wpAny_pyIter_rangeiter (Heap.get?_push_size _ rfl) ?_
    refine rev_loop (n := 2) rfl rfl rfl F1 N1 (fun i m news => ∃ R' n' , news = ((l, listOf (List.map refE R').toArray n') :: List.map entE R) ∧ R'.Perm R ∧ m (Str.ofString "x") = some (.ref l) ∧ (i = 2 → HeapM R') ∧ (1 ≤ i → 2 = 2 → PreM R')) ?_ ?_ ?_
    · exact ⟨R, n, rfl, .refl _, rfl, fun q => absurd q (by decide), fun q => absurd q (by decide)⟩
    · intro i u m₁ news₁ s₁ oI I hi hJ hb₁ ho₁ hnz F3 N3
      obtain ⟨R', n', rfl, hp, hx, _, hP⟩ := hJ
      obtain rfl | rfl : i = 0 ∨ i = 1 := by omega
      · rw [form2 hx hx, show ((2 : Nat) : Int) - 1 - ((0 : Nat) : Int) = 1 from rfl] at F3
        clear F1 N1
        obtain ⟨h4, gens4, dr4, tk4, os4⟩ := s₁
        dsimp only at F3 N3 hb₁ ho₁ ⊢
        k_steps
        refine stop_of ?_
        have hl2 : R'.length = 4 := hp.length_eq.trans hlen
        have hIl : I ≠ l := by
          have q := hnz _ (.head _)
          exact fun e => Nat.lt_irrefl _ (e ▸ q)
        have hsub : ∀ p ∈ ((l, listOf (List.map refE R').toArray n') :: List.map entE R'), p ∈ ((I, oI) :: (l, listOf (List.map refE R').toArray n') :: List.map entE R) := fun p q => by
          rcases List.mem_cons.mp q with rfl | q
          · exact .tail _ (.head _)
          · exact .tail _ (.tail _ (ents_perm hp _ q))
        have hne : ∀ e ∈ R', l ≠ e.a := fun e he => Ne.symm (hA (entE e) (List.mem_map_of_mem (hp.mem_iff.mp he)))
        k_dflt (refine' suMp1 (R := R') ?k1 ?k2 ?k3 ?k4 hne hl2 ?k7 ?k8 ?_; (case k1 => refine' pushT ?p1 ?p2 ?p3 ?p4; (case p1 => k_asm); (case p2 => k_asm); (case p3 => exact rfl); (case p4 => exact rfl)); (case k2 => k_asm); (case k3 => k_asm); (case k4 => exact has_of (by k_asm) N3 rfl hsub); (case k7 => ktr_room); (case k8 => ktr_units))
        intro s' n2 R2 hE hg hperm hH'
        have F9 := back_fr (by k_asm) N3 hE (List.forall_mem_singleton.mpr ⟨_, .tail _ (.head _)⟩)
        have N9 := back_news1 N3 hE (Upd.tail hIl (Upd.head hA)) hg
        k_steps
        rename Fr _ _ _ _ => F5
        refine ⟨_, _, F5, N9, List.forall_mem_cons.mpr ⟨Ne.symm hIl, fun p q => neN (fun e => Nat.lt_irrefl _ (e ▸ hnz _ (.tail _ q)))⟩, ⟨R2, n2, rfl, hperm.trans hp, rfl, fun q => absurd q (by decide), fun _ _ => hH'⟩, ?_, ?_⟩
        · exact fun y => hE.bare (hb₁ y)
        · exact hE.os.trans ho₁
      · rw [form2 hx hx, show ((2 : Nat) : Int) - 1 - ((1 : Nat) : Int) = 0 from rfl] at F3
        clear F1 N1
        obtain ⟨h4, gens4, dr4, tk4, os4⟩ := s₁
        dsimp only at F3 N3 hb₁ ho₁ ⊢
        k_steps
        refine stop_of ?_
        have hl2 : R'.length = 4 := hp.length_eq.trans hlen
        have hIl : I ≠ l := by
          have q := hnz _ (.head _)
          exact fun e => Nat.lt_irrefl _ (e ▸ q)
        have hsub : ∀ p ∈ ((l, listOf (List.map refE R').toArray n') :: List.map entE R'), p ∈ ((I, oI) :: (l, listOf (List.map refE R').toArray n') :: List.map entE R) := fun p q => by
          rcases List.mem_cons.mp q with rfl | q
          · exact .tail _ (.head _)
          · exact .tail _ (.tail _ (ents_perm hp _ q))
        have hne : ∀ e ∈ R', l ≠ e.a := fun e he => Ne.symm (hA (entE e) (List.mem_map_of_mem (hp.mem_iff.mp he)))
        k_dflt (refine' suM (R := R') ?k1 ?k2 ?k3 ?k4 hne (hP (Nat.le_refl _) rfl) ?k7 ?k8 ?_; (case k1 => refine' pushT ?p1 ?p2 ?p3 ?p4; (case p1 => k_asm); (case p2 => k_asm); (case p3 => exact rfl); (case p4 => exact rfl)); (case k2 => k_asm); (case k3 => k_asm); (case k4 => exact has_of (by k_asm) N3 rfl hsub); (case k7 => ktr_room); (case k8 => ktr_units))
        intro s' n2 R2 hE hg hperm hH'
        have F9 := back_fr (by k_asm) N3 hE (List.forall_mem_singleton.mpr ⟨_, .tail _ (.head _)⟩)
        have N9 := back_news1 N3 hE (Upd.tail hIl (Upd.head hA)) hg
        k_steps
        rename Fr _ _ _ _ => F5
        refine ⟨_, _, F5, N9, List.forall_mem_cons.mpr ⟨Ne.symm hIl, fun p q => neN (fun e => Nat.lt_irrefl _ (e ▸ hnz _ (.tail _ q)))⟩, ⟨R2, n2, rfl, hperm.trans hp, rfl, fun _ => hH', fun _ _ => HeapM.preSelf hH'⟩, ?_, ?_⟩
        · exact fun y => hE.bare (hb₁ y)
        · exact hE.os.trans ho₁
    · intro s' m' news' F4 N4 hJ hb4 ho4
      obtain ⟨R', n', rfl, hp, hx, hH, _⟩ := hJ
      clear F1 N1
      obtain ⟨h4, gens4, dr4, tk4, os4⟩ := s'
      dsimp only at F4 N4 hb4 ho4 ⊢
      k_steps
      exact hret _ _ _ R' (ext_many FG0 F4 H N4 (fun p hp => .tail _ hp) ho4 hb4) (N4 _ (.head _)).1 hp (hH rfl)
end
section
theorem wd3Lx73 : True := by
  k_with_none
  k_with "omega" => (omega (splitDisjunctions := true))
  k_with "om2" => (first | lia | omega (splitDisjunctions := true))
  k_with "eval Name" => ((k_here; (with_reducible show wpAny _ _ (eval _ (envOf _ _ _ _ _)) _ _ _); k_dflt (refine' nmL ?yF ?yv ?yx ?yk ?yd ?_; (case yF => k_asm); (case yk => exact rfl); (case yx => exact rfl); (case yd => exact rfl); (case yv => exact rfl); k_whole)))
  k_with "storeName" => ((k_here; (with_reducible show wpAny _ _ (storeName (envOf _ _ _ _ _) _ _) _ _ _); k_dflt (refine' stoLe ?yF ?yN ?yx ?yk ?_; (case yF => k_asm); (case yN => k_asm); (case yk => exact rfl); (case yx => exact rfl); k_whole; intro m'ω h'ω F'ω N'ω; (try k_sweep))))
  k_with "eval Name" => ((k_here; (with_reducible show wpAny _ _ (eval _ (envOfC _ _ _ _ _)) _ _ _); k_dflt (refine' nmLC ?yF ?yv ?yk ?yx ?yd ?_; (case yF => k_asm); (case yk => exact rfl); (case yx => exact rfl); (case yd => exact rfl); (case yv => exact rfl); k_whole)))
  k_with "storeName" => ((k_here; (with_reducible show wpAny _ _ (storeName (envOfC _ _ _ _ _) _ _) _ _ _); k_dflt (refine' stoLCe ?yF ?yN ?yk ?yx ?_; (case yF => k_asm); (case yN => k_asm); (case yk => exact rfl); (case yx => exact rfl); k_whole; intro m'ω h'ω F'ω N'ω; (try k_sweep))))
  k_with "execs cons" => ((k_here; (first | (with_reducible show wpAny _ _ (execs _ _) (AtF _) _ _) | (refine execs_abs ?_; intro Q8ω q8ω)); k_dflt (refine execs_gen ?_); intro Q7ω t7ω g7ω o7ω; (try dsimp only)))
  k_with "AtF" => ((with_reducible first | refine AtF.go (by assumption) ?_ | (refine AtF.out (by assumption) (fun z => Flow.noConfusion z) ?_) | (refine AtF.fin (by assumption) ?_; (try dsimp only))))
  k_with "room" => (k_dflt (first | exact rm2 (by assumption) rfl | exact rm1 (by assumption) rfl | exact rm3 (by assumption) rfl | exact rm4 (by assumption) rfl | exact rm0 (by assumption)))
  k_with "kne" => ((refine neN ?_; (try dsimp only); k_extra "ne"))
  k_with "cj" => (first | exact And.left | exact id | (refine cjs ?_; k_extra "cj"))
  k_with "ne" => (with_reducible first | assumption | exact lne (by assumption) | exact gne (by assumption) | exact sne (by assumption) | exact suc | exact suc2 | exact sne suc | exact sne suc2 | (refine ltc (by assumption) ?_; k_extra "cj") | (refine gtc (by assumption) ?_; k_extra "cj") | (refine nec (by assumption) ?_; k_extra "cj") | (refine nfc (by assumption) ?_; k_extra "cj"))
  trivial
section
variable {prog : Program} {w : World} {A : Around} {E : Value → Shared → Prop} {s : Shared} {h₀ : Heap} {L : Addr} {m : Str → Option Value} {env : Env}
theorem item_ent0 {news : List (Addr × Obj)} {value slice : PySem.Expr} {e : Ent} {u : Tok} {Q : Value → Shared → Prop} (N : News h₀ L s.heap news) (hm : entE e ∈ news) (h : Q (.int e.x e.t) s)
    (hs : subscripted slice false (.ref e.a) (.int 0 u) = operate [.ref e.a, .int 0 u] (getItem (.ref e.a) (.int 0 u)) := by with_unfolding_all rfl) : wpAny (model prog w) A (subscriptTail value slice (.ref e.a) (.int 0 u)) Q E s := by
  have hl : IsTup s.heap e.a [Value.int e.x e.t, Value.int e.i e.u].toArray := ⟨_, (N _ hm).1, rfl, 0, rfl⟩
  exact PyProof.Rows.item_tupleT (j := 0) hl (by decide) (by decide) rfl rfl h hs
theorem ent_tup {h : Heap} {news : List (Addr × Obj)} {e : Ent} (N : News h₀ L h news) (hm : entE e ∈ news) : IsTup h e.a [Value.int e.x e.t, Value.int e.i e.u].toArray := ⟨_, (N _ hm).1, rfl, 0, rfl⟩
theorem truthy_ents {news : List (Addr × Obj)} {a b : Addr} {vs : List Value} {n : Nat} {Q : Bool → Shared → Prop} (N : News h₀ L s.heap news) (hm : (a, listOf (Value.ref b :: vs).toArray n) ∈ news) (hfit : (Value.ref b :: vs).length < 2 ^ 62)
    (h : Q true { s with toks := s.toks + 1 + 1 }) : wpAny (model prog w) A (truthy (.ref a)) Q E s := kgr_truthy N hm rfl rfl hfit h
theorem elt_one {a : Str} {pa : Pos} {scope : Scope} {cl : List (Str × Addr)} {env : Env} (hk : scope.kind = .function) (ha : scope.names.lookup a = some .local) (da : (a == ("__debug__" : Str)) = false) :
    ∀ (C : Addr) (s : Shared) (m₂ : Str → Option Value) (v : Value) (Q : Value → Shared → Prop) (E' : Value → Shared → Prop), s.heap.Ns C m₂ → m₂ a = some v → Q v s → wpAny (model prog w) A (eval (.Name a pa) (compEnvC scope cl C env)) Q E' s := by
  intro C s m₂ v Q E' hn hav h
  rw [eval_Name _ _ _ da]
  refine wpAny_bind (wpAny_standAt ?_)
  exact wpAny_loadName_local (by simp [compEnvC, relabel, hk]) (lookup_relabel_local ha) hn hav h
theorem listComp_ents {elt iter : Expr} {x x₂ : Str} {px px₂ tp : Pos} {tk} {scope : Scope} {cl : List (Str × Addr)} {pos : Pos} {Q : Value → Shared → Prop} (F₀ : Fr h₀ L s.heap m)
    (hclos : closureFor scope env = pure cl) (hcell : ∀ y ∈ scope.names, y.2 ≠ .cell) (hkind : scope.kind = .function)
    (hnames : ∀ y ∈ scope.names, y.2 = .local → scope.names.lookup y.1 = some .local) (hx : scope.names.lookup x = some .local) (hx₂ : scope.names.lookup x₂ = some .local) (hxx : x ≠ x₂)
    (h : wpAny (model prog w) A (eval iter env) (fun v s₁ => Stop (LCp.SrcLP prog w A h₀ L m env elt x x₂ scope cl (fun s₂ => LCg.FinE h₀ L m s₂ Q) v s₁)) E s)
    (hs : ∀ x, foldedSetIterable iter env x = pure x := by intro _; rfl) :
    wpAny (model prog w) A (eval (.ListComp elt [⟨.Tuple [.Name x px, .Name x₂ px₂] tk tp, iter, [], 0⟩] scope pos) env) Q E s := by
  unfold Stop at h; exact LCp.ListComp_P F₀ hclos hcell hkind hnames hx hx₂ hxx h hs
theorem rest_ents {elt : Expr} {x x₂ : Str} {scope : Scope} {cl : List (Str × Addr)} {ax : Addr} {its : Array Value} {news : List (Addr × Obj)} {Fin : List Value → List (Addr × Obj) → Prop}
    (helt : ∀ (C : Addr) (s : Shared) (m₂ : Str → Option Value) (v : Value) (Q : Value → Shared → Prop) (E' : Value → Shared → Prop), s.heap.Ns C m₂ → m₂ x = some v → Q v s → wpAny (model prog w) A (eval elt (compEnvC scope cl C env)) Q E' s)
    (hS : LCg.SrcAt h₀ ax its news) : ∀ (R2 R1 : List Ent) (s : Shared), (∀ e ∈ R2, entE e ∈ news) → its = ((R1 ++ R2).map refE).toArray → Fin ((R1 ++ R2).map fun e => Value.int e.x e.t) news →
      LCp.CompRestP prog w A h₀ L m env elt x x₂ scope cl s (LCg.SrcAt h₀ ax its) (fun i v => its[i]? = some v) Fin R2.length R1.length (R1.map fun e => Value.int e.x e.t) news := by
  intro R2
  induction R2 with
  | nil => intro R1 s _ _ hf; rw [List.append_nil] at hf; exact LCp.CompRestP.zero hf
  | cons e R2 ih =>
    intro R1 s hE hits hf
    refine LCp.CompRestP.succ fun v hv => ?_
    have hv' : v = refE e := by
      rw [hits, List.getElem?_toArray, List.getElem?_map, List.getElem?_append_right (Nat.le_refl _), Nat.sub_self] at hv
      exact (Option.some.inj hv).symm
    refine ⟨e.a, tup2 e.x e.t e.i e.u, .int e.x e.t, .int e.i e.u, 0, hv', hE e (.head _), rfl, rfl, fun I oI C oC D m₂ h tk E' hn h1 h2 F N off ne => ?_⟩
    refine helt C _ m₂ _ _ _ (hn.ns (N _ (.tail _ (.head _))).1) h1 ?_
    refine LCg.CompEnd.intro F N news (fun p hp => hp) off hS ?_
    have q := ih (R1 ++ [e]) s (fun e he => hE e (.tail _ he)) (by rw [hits, List.append_assoc]; rfl) (by rw [List.append_assoc]; exact hf)
    rw [List.map_append, List.length_append] at q
    exact q
theorem src_ents {elt : Expr} {x x₂ : Str} {scope : Scope} {cl : List (Str × Addr)} {ax : Addr} {R : List Ent} {c : Nat} {news : List (Addr × Obj)} {Q : Value → Shared → Prop}
    (hh : A.handled = none) (F : Fr h₀ L s.heap m) (N : News h₀ L s.heap news) (hm : (ax, listOf (R.map refE).toArray c) ∈ news) (hE : ∀ e ∈ R, entE e ∈ news) (h4 : R.length ≤ 4)
    (helt : ∀ (C : Addr) (s : Shared) (m₂ : Str → Option Value) (v : Value) (Q : Value → Shared → Prop) (E' : Value → Shared → Prop), s.heap.Ns C m₂ → m₂ x = some v → Q v s → wpAny (model prog w) A (eval elt (compEnvC scope cl C env)) Q E' s)
    (hQ : ∀ D h tk, Fr h₀ L h m → News h₀ L h ((D, LCg.lst (R.map fun e => Value.int e.x e.t)) :: news) → LCg.Off1 D news → Q (.ref D) { s with heap := h, toks := tk }) :
    LCp.SrcLP prog w A h₀ L m env elt x x₂ scope cl (fun s₂ => LCg.FinE h₀ L m s₂ Q) (.ref ax) s := by
  refine LCp.SrcLP.ledger hh F N hm (by rw [List.size_toArray, List.length_map, sizeLine_eq]; omega) fun g => ?_
  have hz : (R.map refE).toArray.size = R.length := by rw [List.size_toArray, List.length_map]
  rw [hz]
  exact rest_ents helt (.inr ⟨_, hm, rfl, _, rfl⟩) R [] _ hE rfl fun D h tk F' N' o1 => hQ D h tk F' N' o1
theorem ents_ints : ∀ (R : List Ent), IntsAre (R.map fun e => Value.int e.x e.t) (R.map (·.x))
  | [] => .nil
  | _ :: R => .cons _ _ (ents_ints R)
end
/-- xs: held, rest: let go, of the beginning pre -/
structure Held (R : List Ent) (rest pre : List Int) : Prop where
  perm : (R.map (·.x) ++ rest).Perm pre
  le : ∀ a ∈ R.map (·.x), ∀ b ∈ rest, a ≤ b
theorem held_start {R R' : List Ent} {pre : List Int} (hp : R'.Perm R) (h : R.map (·.x) = pre) : Held R' [] pre :=
  ⟨by rw [List.append_nil, ← h]; exact hp.map _, fun _ _ _ q => nomatch q⟩
theorem held_in {e0 x : Ent} {R0 R' : List Ent} {rest pre : List Int} (h : Held (e0 :: R0) rest pre) (hH : HeapM (e0 :: R0)) (hx : x.x < e0.x) (hp : R'.Perm (x :: R0)) : Held R' (e0.x :: rest) (pre ++ [x.x]) := by
  have hle : ∀ a ∈ R'.map (·.x), a ≤ e0.x := fun a ha => by
    obtain ⟨f, hf, rfl⟩ := List.mem_map.mp ha
    rcases List.mem_cons.mp (hp.mem_iff.mp hf) with rfl | hf
    · exact Int.le_of_lt hx
    · exact HeapM.top hH f hf
  refine ⟨?_, fun a ha b hb => ?_⟩
  · have p1 : (R'.map (·.x) ++ e0.x :: rest).Perm ((x.x :: R0.map (·.x)) ++ e0.x :: rest) := (hp.map (·.x)).append_right _
    refine p1.trans ?_
    have p2 : ((x.x :: R0.map (·.x)) ++ e0.x :: rest).Perm (x.x :: (e0.x :: R0.map (·.x) ++ rest)) := by
      rw [List.cons_append]
      exact List.perm_middle.cons _
    refine p2.trans ?_
    refine (h.perm.cons _).trans ?_
    exact (List.perm_append_singleton _ _).symm
  · rcases List.mem_cons.mp hb with rfl | hb
    · exact hle a ha
    · exact Int.le_trans (hle a ha) (h.le _ (.head _) b hb)
theorem held_out {e0 : Ent} {R0 : List Ent} {rest pre : List Int} {y : Int} (h : Held (e0 :: R0) rest pre) (hH : HeapM (e0 :: R0)) (hy : ¬ y < e0.x) : Held (e0 :: R0) (y :: rest) (pre ++ [y]) := by
  refine ⟨?_, fun a ha b hb => ?_⟩
  · refine List.perm_middle.trans ?_
    exact (h.perm.cons _).trans (List.perm_append_singleton _ _).symm
  · rcases List.mem_cons.mp hb with rfl | hb
    · obtain ⟨f, hf, rfl⟩ := List.mem_map.mp ha
      rcases List.mem_cons.mp hf with rfl | hf
      · exact Int.not_lt.mp hy
      · exact Int.le_trans (HeapM.top hH f hf) (Int.not_lt.mp hy)
    · exact h.le a ha b hb
theorem held_end {R R' : List Ent} {rest hs : List Int} {k : Nat} (h : Held R rest hs) (hk : R.length = k) (hp : R'.Perm R) (hs' : (R'.map (·.x)).Pairwise (· ≤ ·)) : R'.map (·.x) = (srt hs).take k := by
  have q := srt_take h.perm h.le (hp.map _) hs'
  rw [List.length_map, hk] at q; exact q
end
section
theorem wd3Nx74 : True := by
  k_with_none
  k_with "omega" => (omega (splitDisjunctions := true))
  k_with "om2" => (first | lia | omega (splitDisjunctions := true))
  k_with "eval Name" => ((k_here; (with_reducible show wpAny _ _ (eval _ (envOf _ _ _ _ _)) _ _ _); k_dflt (refine' nmL ?yF ?yv ?yx ?yk ?yd ?_; (case yF => k_asm); (case yk => exact rfl); (case yx => exact rfl); (case yd => exact rfl); (case yv => exact rfl); k_whole)))
  k_with "storeName" => ((k_here; (with_reducible show wpAny _ _ (storeName (envOf _ _ _ _ _) _ _) _ _ _); k_dflt (refine' stoLe ?yF ?yN ?yx ?yk ?_; (case yF => k_asm); (case yN => k_asm); (case yk => exact rfl); (case yx => exact rfl); k_whole; intro m'ω h'ω F'ω N'ω; (try k_sweep))))
  k_with "eval Name" => ((k_here; (with_reducible show wpAny _ _ (eval _ (envOfC _ _ _ _ _)) _ _ _); k_dflt (refine' nmLC ?yF ?yv ?yk ?yx ?yd ?_; (case yF => k_asm); (case yk => exact rfl); (case yx => exact rfl); (case yd => exact rfl); (case yv => exact rfl); k_whole)))
  k_with "storeName" => ((k_here; (with_reducible show wpAny _ _ (storeName (envOfC _ _ _ _ _) _ _) _ _ _); k_dflt (refine' stoLCe ?yF ?yN ?yk ?yx ?_; (case yF => k_asm); (case yN => k_asm); (case yk => exact rfl); (case yx => exact rfl); k_whole; intro m'ω h'ω F'ω N'ω; (try k_sweep))))
  k_with "execs cons" => ((k_here; (first | (with_reducible show wpAny _ _ (execs _ _) (AtF _) _ _) | (refine execs_abs ?_; intro Q8ω q8ω)); k_dflt (refine execs_gen ?_); intro Q7ω t7ω g7ω o7ω; (try dsimp only)))
  k_with "AtF" => ((with_reducible first | refine AtF.go (by assumption) ?_ | (refine AtF.out (by assumption) (fun z => Flow.noConfusion z) ?_) | (refine AtF.fin (by assumption) ?_; (try dsimp only))))
  k_with "room" => (k_dflt (first | exact rm2 (by assumption) rfl | exact rm1 (by assumption) rfl | exact rm3 (by assumption) rfl | exact rm4 (by assumption) rfl | exact rm0 (by assumption)))
  k_with "kne" => ((refine neN ?_; (try dsimp only); k_extra "ne"))
  k_with "cj" => (first | exact And.left | exact id | (refine cjs ?_; k_extra "cj"))
  k_with "ne" => (with_reducible first | assumption | exact lne (by assumption) | exact gne (by assumption) | exact sne (by assumption) | exact suc | exact suc2 | exact sne suc | exact sne suc2 | (refine ltc (by assumption) ?_; k_extra "cj") | (refine gtc (by assumption) ?_; k_extra "cj") | (refine nec (by assumption) ?_; k_extra "cj") | (refine nfc (by assumption) ?_; k_extra "cj"))
  k_with "truthy ref" => ((k_here; (with_reducible show wpAny _ _ (truthy (Value.ref _)) _ _ _); k_dflt (refine' truthy_ints ?k1 ?k2 ?k3 ?k4 ?_; (case k1 => k_asm); (case k2 => k_mem); (case k3 => l_ints); (case k4 => first | omega | (simp only [List.length_set, List.length_dropLast, List.length_append, List.length_cons, List.length_nil]; omega)); k_whole)))
  k_with "call ref" => ((k_here; (with_reducible show wpAny _ _ (call (Value.ref 98) _) _ _ _); k_dflt (refine' c_siftup ?k1 ?k2 ?k3 ?k4 ?k5 ?k6 ?k7 ?k8 ?k9 ?_; (case k1 => refine' pushT ?p1 ?p2 ?p3 ?p4; (case p1 => k_asm); (case p2 => k_asm); (case p3 => exact rfl); (case p4 => exact rfl)); (case k2 => k_asm); (case k3 => k_asm); (case k4 => refine has_of (by k_asm) (by k_asm) rfl (List.forall_mem_singleton.mpr ?m); (case m => k_mem)); (case k5 => l_ints); (case k6 => first | omega | (simp only [List.length_set, List.length_dropLast]; omega)); (case k7 => first | omega | (simp only [List.length_set, List.length_dropLast]; omega)); (case k8 => ktr_room); (case k9 => ktr_units); k_whole; (intro s'ω vs'ω n'ω hEω hgω hi'ω; have F9ω := back_fr (by k_asm) (by k_asm) hEω (List.forall_mem_singleton.mpr ⟨_, by k_mem⟩); have N9ω := back_news1 (by k_asm) hEω (by k_upd) hgω; (try k_sweep); (try dsimp only)))))
  k_with "mine os_go" => (first | exact rfl | assumption | (refine Eq.trans (Ext.os (by assumption)) ?_; (try dsimp only) <;> walk_at "mine os_go"))
  k_with "mine bare_go" => (first | assumption | (refine Ext.bare (by assumption) ?_; (try dsimp only); walk_at "mine bare_go"))
  k_with "binaryOp Add str str" => ((k_here; k_dflt (refine' add_text' ?k1 ?k2 ?k3 ?_; (case k1 => first | exact of40 | exact of41 | exact of34 | exact rfl); (case k2 => first | exact of40 | exact of41 | exact of34 | exact rfl); (case k3 => first | omega | (simp only [List.length_append, List.length_cons, List.length_nil, fmL_len]; omega)); k_whole; intro t'ω k'ω)))
  k_with "call ref" => ((k_here; (with_reducible show wpAny _ _ (call (Value.ref 165) _) _ _ _); k_dflt (refine' c_filemode ?k1 ?k2 ?k3 ?k4 ?k5 ?_; (case k1 => refine' pushT ?p1 ?p2 ?p3 ?p4; (case p1 => k_asm); (case p2 => k_asm); (case p3 => exact rfl); (case p4 => exact rfl)); (case k2 => k_asm); (case k3 => k_asm); (case k4 => ktr_room); (case k5 => ktr_units); k_whole; (intro s'ω t'ω hEω; have F9ω := back_fr (by k_asm) (by k_asm) hEω (fun _ hq => nomatch hq); have N9ω := back_news0 (by k_asm) hEω; (try k_sweep); (try dsimp only)))))
  k_with "call builtin:iter" => ((k_here; (with_reducible show wpAny _ _ (call (Value.builtin "iter") [Value.ref _]) _ _ _); k_dflt (refine' iter_list ?k1 ?k2 ?k3 ?_; (case k1 => k_asm); (case k2 => k_asm); (case k3 => k_mem); k_whole); intro I'ω h'ω F'ω N'ω l1ω; (try k_lt l1ω); (try k_sweep)))
  k_with "call type:object" => ((k_here; (with_reducible show wpAny _ _ (call (Value.type "object") []) _ _ _); k_dflt (refine' call_object ?k1 ?k2 ?_; (case k1 => k_asm); (case k2 => k_asm); k_whole); intro I'ω h'ω F'ω N'ω l1ω; (try k_lt l1ω); (try k_sweep)))
  k_with "call builtin:sorted" => ((k_here; (with_reducible show wpAny _ _ (call (Value.builtin "sorted") [Value.ref _] _) _ _ _); k_dflt (refine' sorted_none ?k1 ?k2 ?k3 ?k4 ?k5 ?_; (case k1 => k_asm); (case k2 => k_asm); (case k3 => k_mem); (case k4 => assumption); (case k5 => omega); k_whole); intro D'ω v'ω c'ω h'ω F'ω N'ω l1ω i'ω; (try k_lt l1ω); (try k_sweep)))
  k_with "subscriptTail" => ((k_here; (with_reducible show wpAny _ _ (subscriptTail (PySem.Expr.Call _ _ _ _) (PySem.Expr.Slice none _ none _) (Value.ref _) (Value.ref _)) _ _ _); k_dflt (refine' slice_temp ?k0 ?k1 ?k2 ?k3 ?k4 ?k5 ?_; (case k0 => omega); (case k1 => k_asm); (case k2 => k_asm); (case k3 => k_mem); (case k4 => assumption); (case k5 => (simp only [srt, List.length_mergeSort]; omega)); k_whole); intro D'ω v'ω h'ω F'ω N'ω l1ω i'ω; (try k_lt l1ω); (try k_sweep)))
  trivial
theorem pa_ents {D : News'} {vs : List Value} {ps : List (Int × Int)} (h : PA D vs ps) : ∃ R : List Ent, vs = R.map refE ∧ R.map (fun e => (e.x, e.i)) = ps ∧ ∀ e ∈ R, entE e ∈ D := by
  induction h with
  | nil => exact ⟨[], rfl, rfl, fun _ q => nomatch q⟩
  | @cons a x i t u vs ps h1 _ ih =>
    obtain ⟨R, e1, e2, e3⟩ := ih
    exact ⟨⟨a, x, t, i, u⟩ :: R, by rw [e1]; rfl, by rw [← e2]; rfl, List.forall_mem_cons.mpr ⟨h1, e3⟩⟩
theorem iter_name {h : Heap} {it l : Addr} {k : Nat} {P : Prop} (hit : h.IsListIter it l k) (f : ∀ I0, it = I0 → P) : P := f _ rfl
theorem wd3Nx75 : True := by
  k_with "exec Try" => ((k_here; k_dflt (refine wpAny_Try_except ?_)))
  k_with "exec Assign cons ListComp" => ((k_here; k_dflt (refine assComp_Z (F₀ := by k_asm) (by rfl) (by with_unfolding_all rfl) (by with_unfolding_all rfl) (by decide) (by rfl) (by decide) (by rfl) (by rfl) (by decide) (by rfl) (by rfl) ?_)))
  k_with "call type:zip" => ((k_here; refine of_stop ?_))
  k_with "truthy ref" => ((k_here; (with_reducible show wpAny _ _ (truthy (Value.ref _)) _ _ _); k_dflt (refine' truthy_ents ?k1 ?k2 ?k3 ?_; (case k1 => k_asm); (case k2 => k_mem); (case k3 => assumption); k_whole)))
  k_with "subscriptTail" => ((k_here; (with_reducible show wpAny _ _ (subscriptTail _ _ (Value.ref _) (Value.int 0 _)) _ _ _); k_dflt (first | (refine item_ref0 (by k_asm) (List.mem_cons_self ..) ?_) | (refine item_ref0 (by k_asm) (List.mem_cons_of_mem _ (List.mem_cons_self ..)) ?_) | (refine item_ent0 (by k_asm) (by k_mem) ?_))))
  k_with "assign Tuple" => ((k_here; (with_reducible show wpAny _ _ (assign (Expr.Tuple _ _ _) _ (Value.ref _)) _ _ _); k_dflt (refine' unpackN_ ?F ?N ?T ?k1 ?k2 ?k3 ?_; (case F => k_asm); (case N => k_asm); (case T => exact ent_tup (by k_asm) (by k_mem)); (case k1 => exact rfl); (case k2 => exact rfl); (case k3 => exact rfl)); intro h'ω F'ω N'ω; (try k_sweep)))
  k_with "call ref" => ((k_here; (with_reducible show wpAny _ _ (call (Value.ref 84) _) _ _ _); refine of_stop ?_))
  k_with "call ref" => ((k_here; (with_reducible show wpAny _ _ (call (Value.ref 77) _) _ _ _); refine of_stop ?_))
  k_with "call builtin:list.sort" => ((k_here; refine of_stop ?_))
  k_with "exec For Name Name cons nil" => ((k_here; k_dflt (refine wpAny_For ?_)))
  k_with "pyIter ref" => ((k_here; refine of_stop ?_))
  k_with "eval ListComp" => ((k_here; k_dflt (refine listComp_ents (F₀ := by k_asm) (by with_unfolding_all rfl) (by decide) (by rfl) (by decide) (by rfl) (by rfl) (by decide) ?_)))
  trivial
inductive NJ (D I0 l L' : Addr) (oc : Obj) (vs : List Value) (n k : Nat) (hs : List Int) (i : Nat) (m : Str → Option Value) (news : List (Addr × Obj)) : Prop
  | mk (e0 : Ent) (R0 : List Ent) (c : Nat) (to : Tok) (o : Int) (rest : List Int)
    (a1 : news = ((D, listOf (Value.ref e0.a :: R0.map refE).toArray c) :: (L' + 1, oc) :: (l, listOf vs.toArray n) :: entE e0 :: R0.map entE)) (a2 : HeapM (e0 :: R0)) (a3 : (e0 :: R0).length = k)
    (a4 : m (Str.ofString "result") = some (.ref D)) (a5 : m (Str.ofString "top") = some (.int e0.x e0.t)) (a6 : m (Str.ofString "order") = some (.int o to)) (a7 : m (Str.ofString "_heapreplace") = some (.ref 77))
    (a8 : ∀ p ∈ entE e0 :: R0.map entE, p.1 ≠ D ∧ p.1 ≠ I0) (a9 : Held (e0 :: R0) rest (hs.take i)) : NJ D I0 l L' oc vs n k hs i m news
theorem nsm_gen {w : World} {mean : ExcName → Option Value} {mg mb : Str → Option Value} {dp un : Nat} {gd : Option (List Code)} {outer : List Env} {base : Heap} {s : Shared} {Q E : Value → Shared → Prop} {l : Addr} {vs : List Value} {hs : List Int} {n k : Nat} {t0 : Tok} (B : Below (top dp un gd outer) base outer s.heap) (X : (Kt w.params).In base) (T : Top vw loo mean mg mb base) (H : Has base outer s.heap [(l, listOf vs.toArray n)])
  (hi : IntsAre vs hs) (hk2 : 2 ≤ k) (hkl : k < hs.length) (hlen : hs.length ≤ 5) (hdp : dp + 20 < recursionLimit) (hun : un + 160 < cLine)
  (hret : ∀ s' r vs' n', Ext [] s s' → s.heap.get? r = none → s'.heap.get? r = some (listOf vs'.toArray n') → IntsAre vs' ((srt hs).take k) → Q (.ref r) s') :
  wpAny (model PySem.Challenge.rw_om0101_01.row.prog w) (top dp un gd outer) (call (.ref 118) [.int (k : Int) t0, .ref l]) Q E s := by
  revert X; k_fill; intro X
  have hvl := IntsAre.length hi
  have hk1 : ¬ (k : Int) = 1 := by omega
  have hkn : ¬ ((hs.length : Nat) : Int) ≤ (k : Int) := by omega
  have hkb : k ≤ hs.length ∧ k < 1000 := ⟨by omega, by omega⟩
  w_strict (
   (refine wpAny_call ?_; (k_dflt (refine' enterC ?k1 ?k2 ?k3 ?k4 ?k6 ?k7 ?k8 ?k9 ?kB ?kD ?_ ?c2 ?c3 ?c4; (case k1 => k_asm); (case k2 => k_asm); (case k3 => k_asm); (case k4 => first | k_asm | exact Has.nil); (case k6 => k_is); (case k7 => k_is); (case k8 => ktr_room); (case k9 => first | exact BindsTo.of_eq rfl | exact binds_K (X.keeps B.stays) rfl (by k_is) rfl rfl rfl | exact binds_K (by k_in) rfl (by k_is) rfl rfl rfl); (case kB => exact rfl); (case kD => decide +kernel); (case c2 => exact rfl); (case c3 => exact rfl); (case c4 => exact rfl); k_whole; intro g' L' h' tk' cells' FG' F' N' Y' B' X' T' l1; (try k_lt l1); k_cells Y'; (try simp only [List.cons_append, List.nil_append] at N'); (try dsimp only); (try k_lift B'); (try k_fold))))
   k_steps)
  · exact absurd (by assumption) hk1
  refine stop_of ?_
  rename IsRange _ _ _ _ _ _ _ _ => R1
  rename Fr _ _ _ _ => F1
  rename News _ _ _ _ => N1
  k_dflt (refine zip_src (n := k) rfl F1 N1 R1 (by k_mem) hi hkb.1 hkb.2 ?_ (elt_pair rfl (by rfl) (by rfl) (by rfl) (by rfl)) ?_)
  · exact List.forall_mem_cons.mpr ⟨neN (by first | k_extra "ne" | omega), List.forall_mem_cons.mpr ⟨neN (by first | k_extra "ne" | omega), List.forall_mem_nil _⟩⟩
  intro D h tk ys Dt F2 N2 hit hpa hD hDit hdn hitL hit0
  refine iter_name hit ?_
  intro I0 hI0
  (try dsimp +zetaDelta only at F2)
  rw [hI0] at F2 hit hD hDit hitL hit0
  rename Obj => oc
  obtain ⟨R, rfl, hR2, hRD⟩ := pa_ents hpa
  have hRl : R.length = k := by
    have q := congrArg List.length hR2
    rw [List.length_map] at q
    rw [q, prs, List.length_map, List.length_range]
  have hRx : R.map (·.x) = hs.take k := by
    have q := congrArg (List.map Prod.fst) hR2
    rw [List.map_map] at q
    refine Eq.trans (by exact q) ?_
    refine List.ext_getElem (by simp [prs]; omega) fun i h1 h2 => ?_
    have h3 : i < hs.length := by
      simp at h2; omega
    simp [prs, List.getD_eq_getElem?_getD, List.getElem?_eq_getElem h3]
  rcases R with _ | ⟨e0, R0⟩
  · simp at hRl; omega
  have hDl := (hD (l, listOf vs.toArray n) (List.mem_append_right _ (.tail _ (.head _)))).1
  have hL4 : R0.length ≤ 3 ∧ 1 ≤ R0.length := by
    simp only [List.length_cons] at hRl; omega
  have hfit : (Value.ref e0.a :: R0.map refE).length < 2 ^ 62 := by
    simp only [List.length_cons, List.length_map]; omega
  generalize hI : hit.choose = oi
  have hio := hit.choose_spec
  rw [hI] at hio
  have N3 : News g' L' h ((D, listOf (Value.ref e0.a :: R0.map refE).toArray ((e0 :: R0).map refE).length) :: (_, oi) :: (L' + 1, oc) :: (l, listOf vs.toArray n) :: entE e0 :: R0.map entE) := fun p hp => by
    rcases List.mem_cons.mp hp with rfl | hp
    · exact N2 _ (.head _)
    rcases List.mem_cons.mp hp with rfl | hp
    · exact ⟨hio.1, hitL, hit0⟩
    rcases List.mem_cons.mp hp with rfl | hp
    · exact N2 _ (.tail _ (List.mem_append_right _ (.head _)))
    rcases List.mem_cons.mp hp with rfl | hp
    · exact N2 _ (.tail _ (List.mem_append_right _ (.tail _ (.head _))))
    · obtain ⟨e, he, rfl⟩ := List.mem_map.mp (show p ∈ (e0 :: R0).map entE from hp)
      exact N2 _ (.tail _ (List.mem_append_left _ (hRD e he)))
  have hA0 : ∀ p ∈ entE e0 :: R0.map entE, p.1 ≠ D := fun p hp => by
    obtain ⟨e, he, rfl⟩ := List.mem_map.mp (show p ∈ (e0 :: R0).map entE from hp)
    exact (hD _ (List.mem_append_left _ (hRD e he))).1
  generalize ((e0 :: R0).map refE).length = c0 at N3
  clear N1 N2 F1 hpa
  dsimp only at F2 ⊢
  k_steps
  refine stop_of ?_
  rename News _ _ _ _ => N4
  have hsub : ∀ p ∈ ((D, listOf (List.map refE (e0 :: R0)).toArray c0) :: List.map entE (e0 :: R0)), p ∈ ((D, listOf (Value.ref e0.a :: List.map refE R0).toArray c0) :: (I0, oi) :: (L' + 1, oc) :: (l, listOf vs.toArray n) :: entE e0 :: List.map entE R0) := fun p hp => by
    rcases List.mem_cons.mp hp with rfl | hp
    · exact .head _
    · exact .tail _ (.tail _ (.tail _ (.tail _ hp)))
  have hR4 : 2 ≤ (e0 :: R0).length ∧ (e0 :: R0).length ≤ 4 := by
    rw [List.length_cons]; omega
  have hoff : ∀ p ∈ ((I0, oi) :: (L' + 1, oc) :: (l, listOf vs.toArray n) :: entE e0 :: List.map entE R0), p.1 ≠ D :=
    List.forall_mem_cons.mpr ⟨Ne.symm hDit, List.forall_mem_cons.mpr ⟨(hD (L' + 1, oc) (List.mem_append_right _ (.head _))).1, List.forall_mem_cons.mpr ⟨hDl, hA0⟩⟩⟩
  k_dflt (refine' hpM (R := e0 :: R0) ?k1 ?k2 ?k3 ?k4 hA0 hR4.1 hR4.2 ?k7 ?k8 ?_; (case k1 => refine' pushT ?p1 ?p2 ?p3 ?p4; (case p1 => k_asm); (case p2 => k_asm); (case p3 => exact rfl); (case p4 => exact rfl)); (case k2 => k_asm); (case k3 => k_asm); (case k4 => exact has_of (by k_asm) N4 rfl hsub); (case k7 => ktr_room); (case k8 => ktr_units))
  intro s' v n' R' hE hg hperm hH
  have F9 := back_fr (by k_asm) N4 hE (List.forall_mem_singleton.mpr ⟨_, .head _⟩)
  have N9 := back_news1 N4 hE (Upd.head hoff) hg
  have hR'l : R'.length = k := hperm.length_eq.trans hRl
  rcases R' with _ | ⟨f0, R1⟩
  · exact absurd (HeapM.len hH).1 (by simp)
  have N10 : News g' L' s'.heap ((D, listOf (Value.ref f0.a :: R1.map refE).toArray n') :: (I0, oi) :: (L' + 1, oc) :: (l, listOf vs.toArray n) :: entE f0 :: R1.map entE) := fun p hp => N9 p (by
    simp only [List.mem_cons] at hp
    rcases hp with h | h | h | h | h
    · exact h ▸ .head _
    · exact h ▸ .tail _ (.head _)
    · exact h ▸ .tail _ (.tail _ (.head _))
    · exact h ▸ .tail _ (.tail _ (.tail _ (.head _)))
    · exact .tail _ (.tail _ (.tail _ (.tail _ (ents_perm hperm p (List.mem_cons.mpr h))))))
  have hA1 : ∀ p ∈ entE f0 :: R1.map entE, p.1 ≠ D := fun p hp => hA0 p (ents_perm hperm p hp)
  have hAI : ∀ p ∈ entE f0 :: R1.map entE, p.1 ≠ I0 := fun p hp => by
    obtain ⟨e, he, rfl⟩ := List.mem_map.mp (show p ∈ (e0 :: R0).map entE from ents_perm hperm p hp)
    exact (hD _ (List.mem_append_left _ (hRD e he))).2
  have hld : Held (f0 :: R1) [] (hs.take k) := held_start hperm hRx
  clear N9 N4 hsub
  k_steps
  refine stop_of ?_
  rename News _ _ _ _ => N5
  rename Fr _ _ _ _ => F5
  have It5 : Heap.IsListIter _ I0 l k := ⟨oi, (N5 (I0, oi) (.tail _ (.head _))).1, hio.2.1, hio.2.2⟩
  have N6 : News g' L' _ ((D, listOf (Value.ref f0.a :: R1.map refE).toArray n') :: (L' + 1, oc) :: (l, listOf vs.toArray n) :: entE f0 :: R1.map entE) := fun p hp => N5 p (by
    rcases List.mem_cons.mp hp with h | h
    · exact h ▸ .head _
    · exact .tail _ (.tail _ h))
  have hcI := (hD (L' + 1, oc) (List.mem_append_right _ (.head _))).2
  have hlI := (hD (l, listOf vs.toArray n) (List.mem_append_right _ (.tail _ (.head _)))).2
  have hcD := (hD (L' + 1, oc) (List.mem_append_right _ (.head _))).1
  refine wpAny_pyIter_listiter It5 ?_
  refine it_loop (k0 := k) (l := l) (vs := vs) (nE := n) rfl rfl rfl F5 N6 (by omega) It5 hitL hit0 ?_ (NJ D I0 l L' oc vs n k hs) ?_ ?_ ?_ ?_
  · exact List.forall_mem_cons.mpr ⟨hDit, List.forall_mem_cons.mpr ⟨hcI, List.forall_mem_cons.mpr ⟨hlI, hAI⟩⟩⟩
  · exact ⟨f0, R1, n', t0, k, [], rfl, hH, hR'l, rfl, rfl, rfl, rfl, fun p hp => ⟨hA1 p hp, hAI p hp⟩, hld⟩
  · rintro i m news ⟨e0, R0, c, to, o, rest, rfl, _⟩
    exact .tail _ (.tail _ (.head _))
  · clear F5 N6 It5 N5
    clear hld hA1 hAI hR'l hH hperm hg hE hoff hR4 hA0 hio hfit hL4 hRx hRl hRD
    intro i v m₁ news₁ s₁ oI hlt hv hJ hb₁ ho₁ hnz F3 N3
    obtain ⟨e0, R0, c, to, o, rest, rfl, hH, hl, m1, m2, m3, m4, hA1, hld⟩ := hJ
    obtain ⟨y, ty, rfl, hy⟩ := IntsAre.at hi i _ hv
    rw [form4 m1 m2 m3 m4] at F3
    obtain ⟨h4, gens4, dr4, tk4, os4⟩ := s₁
    dsimp only at F3 N3 hb₁ ho₁ ⊢
    have htk : hs.take (i + 1) = hs.take i ++ [y] := by
      rw [List.take_add_one, hy]; rfl
    k_steps
    · refine stop_of ?_
      rename News _ _ _ _ => N8
      rename Addr => T0
      rename _ ∧ _ => lT
      have hTD : T0 ≠ D := Nat.ne_of_gt lT.2.1
      have hTI : T0 ≠ I0 := Nat.ne_of_gt lT.1
      have hsub : ∀ p ∈ ((D, listOf (Value.ref e0.a :: R0.map refE).toArray c) :: entE ⟨T0, y, ty, o, to⟩ :: entE e0 :: R0.map entE), p ∈ ((T0, { cls := Value.type "tuple", data := Data.seq #[Value.int y ty, Value.int o to] }) :: (I0, oI) :: (D, listOf (Value.ref e0.a :: R0.map refE).toArray c) :: (L' + 1, oc) :: (l, listOf vs.toArray n) :: entE e0 :: R0.map entE) := fun p hp => by
        rcases List.mem_cons.mp hp with rfl | hp
        · exact .tail _ (.tail _ (.head _))
        rcases List.mem_cons.mp hp with rfl | hp
        · exact .head _
        · exact .tail _ (.tail _ (.tail _ (.tail _ (.tail _ hp))))
      have hAx : ∀ p ∈ entE ⟨T0, y, ty, o, to⟩ :: entE e0 :: R0.map entE, p.1 ≠ D ∧ p.1 ≠ I0 := List.forall_mem_cons.mpr ⟨⟨hTD, hTI⟩, hA1⟩
      have hoff : ∀ p ∈ ((L' + 1, oc) :: (l, listOf vs.toArray n) :: entE e0 :: R0.map entE), p.1 ≠ D := List.forall_mem_cons.mpr ⟨hcD, List.forall_mem_cons.mpr ⟨hDl, fun p hp => (hA1 p hp).1⟩⟩
      k_dflt (refine' hrM (x := ⟨T0, y, ty, o, to⟩) (e0 := e0) (R0 := R0) ?k1 ?k2 ?k3 ?k4 (fun p hp => (hAx p hp).1) hH ?k7 ?k8 ?_; (case k1 => refine' pushT ?p1 ?p2 ?p3 ?p4; (case p1 => k_asm); (case p2 => k_asm); (case p3 => exact rfl); (case p4 => exact rfl)); (case k2 => k_asm); (case k3 => k_asm); (case k4 => exact has_of (by k_asm) N8 rfl hsub); (case k7 => ktr_room); (case k8 => ktr_units))
      intro s2 v2 n2 R' hE hg hperm hH'
      have F9 := back_fr (by k_asm) N8 hE (List.forall_mem_singleton.mpr ⟨_, .tail _ (.tail _ (.head _))⟩)
      have N9 := back_news1 N8 hE (Upd.tail hTD (Upd.tail (Ne.symm hDit) (Upd.head hoff))) hg
      have hld' := held_in hld hH (x := ⟨T0, y, ty, o, to⟩) (by assumption) hperm
      have hl' : R'.length = k := hperm.length_eq.trans hl
      have hA9 : ∀ p ∈ R'.map entE, p.1 ≠ D ∧ p.1 ≠ I0 := fun p hp => by
        rcases List.mem_cons.mp (ents_perm hperm p hp) with rfl | hp
        · exact ⟨hTD, hTI⟩
        · exact hA1 p (.tail _ hp)
      have hM9 : ∀ p ∈ R'.map entE, p ∈ ((T0, { cls := Value.type "tuple", data := Data.seq #[Value.int y ty, Value.int o to] }) :: (I0, oI) :: (D, listOf (R'.map refE).toArray n2) :: (L' + 1, oc) :: (l, listOf vs.toArray n) :: entE e0 :: R0.map entE) := fun p hp => by
        rcases List.mem_cons.mp (ents_perm hperm p hp) with rfl | hp
        · exact .head _
        · exact .tail _ (.tail _ (.tail _ (.tail _ (.tail _ (.tail _ hp)))))
      rcases R' with _ | ⟨f0, R1⟩
      · exact absurd (HeapM.len hH').1 (by simp)
      have N10 : News g' L' s2.heap ((I0, oI) :: (D, listOf (Value.ref f0.a :: R1.map refE).toArray n2) :: (L' + 1, oc) :: (l, listOf vs.toArray n) :: entE f0 :: R1.map entE) := fun p hp => N9 p (by
        simp only [List.mem_cons] at hp
        rcases hp with h | h | h | h | h
        · exact h ▸ .tail _ (.head _)
        · exact h ▸ .tail _ (.tail _ (.head _))
        · exact h ▸ .tail _ (.tail _ (.tail _ (.head _)))
        · exact h ▸ .tail _ (.tail _ (.tail _ (.tail _ (.head _))))
        · exact hM9 p (List.mem_cons.mpr h))
      clear N8 N9 hM9 hsub
      k_steps
      rename Fr _ _ _ _ => F10
      rename News _ _ _ _ => N11
      refine ⟨_, _, F10, N11, List.forall_mem_cons.mpr ⟨hDit, List.forall_mem_cons.mpr ⟨hcI, List.forall_mem_cons.mpr ⟨hlI, fun p hp => (hA9 p hp).2⟩⟩⟩, ⟨f0, R1, n2, _, _, e0.x :: rest, rfl, hH', hl', rfl, rfl, rfl, rfl, hA9, htk ▸ hld'⟩, fun y => hE.bare (hb₁ y), hE.os.trans ho₁⟩
    · exact ⟨_, _, F3, N3, hnz, ⟨e0, R0, c, to, o, y :: rest, rfl, hH, hl, rfl, rfl, rfl, rfl, hA1, htk ▸ held_out hld hH (by assumption)⟩, hb₁, ho₁⟩
  · intro s'' m' news' F4 N4 hJ hb4 ho4
    obtain ⟨e0, R0, c, to, o, rest, rfl, hH, hl, m1, m2, m3, m4, hA1, hld⟩ := hJ
    rw [form4 m1 m2 m3 m4] at F4
    obtain ⟨h4, gens4, dr4, tk4, os4⟩ := s''
    dsimp only at F4 N4 hb4 ho4 ⊢
    have hl2 : 2 ≤ (e0 :: R0).length ∧ (e0 :: R0).length ≤ 4 := HeapM.len hH
    have hld2 : Held (e0 :: R0) rest hs := by
      rw [hvl, List.take_length] at hld; exact hld
    k_steps
    refine stop_of ?_
    show wpAny _ _ (call (.builtin "list.sort") [.ref D]) _ _ _
    refine sort_ents (R := e0 :: R0) F4 N4 (UpdF.head (List.forall_mem_cons.mpr ⟨hcD, List.forall_mem_cons.mpr ⟨hDl, fun p hp => (hA1 p hp).1⟩⟩)) hl2.1 hl2.2 (fun o e he => .tail _ (.tail _ (.tail _ (List.mem_map_of_mem he)))) ?_
    intro h5 c5 R' F6 N6 hp5 hs5
    have hx5 := held_end hld2 hl hp5 hs5
    have hl5 : R'.length ≤ 4 := by rw [hp5.length_eq]; exact hl2.2
    clear N4 F4
    k_steps
    refine stop_of ?_
    rename Fr _ _ _ _ => F7
    rename News _ _ _ _ => N7
    refine src_ents rfl F7 N7 (.head _) (fun e he => .tail _ (.tail _ (.tail _ (List.mem_map_of_mem (hp5.mem_iff.mp he))))) hl5 (elt_one rfl (by rfl) (by rfl)) ?_
    intro D2 h7 tk7 F8 N8 o1
    clear N7 F7
    try dsimp only
    (repeat (k_extra "AtF"))
    try dsimp only
    exact hret _ _ _ _ (ext_same FG' F8 H N8 (.tail _ (.tail _ (.tail _ (.head _)))) (ho4.trans hE.os) (fun y => hb4 (hE.bare y))) (fresh_of FG' N8 (.head _) (by simp only [List.map_cons, List.map_nil, List.mem_singleton]; exact fun q => o1.2.2.1 q.symm)) (N8 _ (.head _)).1 (hx5 ▸ ents_ints R')
end
section
theorem wd3Px76 : True := by
  k_with_none
  k_with "omega" => (omega (splitDisjunctions := true))
  k_with "om2" => (first | lia | omega (splitDisjunctions := true))
  k_with "eval Name" => ((k_here; (with_reducible show wpAny _ _ (eval _ (envOf _ _ _ _ _)) _ _ _); k_dflt (refine' nmL ?yF ?yv ?yx ?yk ?yd ?_; (case yF => k_asm); (case yk => exact rfl); (case yx => exact rfl); (case yd => exact rfl); (case yv => exact rfl); k_whole)))
  k_with "storeName" => ((k_here; (with_reducible show wpAny _ _ (storeName (envOf _ _ _ _ _) _ _) _ _ _); k_dflt (refine' stoLe ?yF ?yN ?yx ?yk ?_; (case yF => k_asm); (case yN => k_asm); (case yk => exact rfl); (case yx => exact rfl); k_whole; intro m'ω h'ω F'ω N'ω; (try k_sweep))))
  k_with "eval Name" => ((k_here; (with_reducible show wpAny _ _ (eval _ (envOfC _ _ _ _ _)) _ _ _); k_dflt (refine' nmLC ?yF ?yv ?yk ?yx ?yd ?_; (case yF => k_asm); (case yk => exact rfl); (case yx => exact rfl); (case yd => exact rfl); (case yv => exact rfl); k_whole)))
  k_with "storeName" => ((k_here; (with_reducible show wpAny _ _ (storeName (envOfC _ _ _ _ _) _ _) _ _ _); k_dflt (refine' stoLCe ?yF ?yN ?yk ?yx ?_; (case yF => k_asm); (case yN => k_asm); (case yk => exact rfl); (case yx => exact rfl); k_whole; intro m'ω h'ω F'ω N'ω; (try k_sweep))))
  k_with "execs cons" => ((k_here; (first | (with_reducible show wpAny _ _ (execs _ _) (AtF _) _ _) | (refine execs_abs ?_; intro Q8ω q8ω)); k_dflt (refine execs_gen ?_); intro Q7ω t7ω g7ω o7ω; (try dsimp only)))
  k_with "AtF" => ((with_reducible first | refine AtF.go (by assumption) ?_ | (refine AtF.out (by assumption) (fun z => Flow.noConfusion z) ?_) | (refine AtF.fin (by assumption) ?_; (try dsimp only))))
  k_with "room" => (k_dflt (first | exact rm2 (by assumption) rfl | exact rm1 (by assumption) rfl | exact rm3 (by assumption) rfl | exact rm4 (by assumption) rfl | exact rm0 (by assumption)))
  k_with "kne" => ((refine neN ?_; (try dsimp only); k_extra "ne"))
  k_with "cj" => (first | exact And.left | exact id | (refine cjs ?_; k_extra "cj"))
  k_with "ne" => (with_reducible first | assumption | exact lne (by assumption) | exact gne (by assumption) | exact sne (by assumption) | exact suc | exact suc2 | exact sne suc | exact sne suc2 | (refine ltc (by assumption) ?_; k_extra "cj") | (refine gtc (by assumption) ?_; k_extra "cj") | (refine nec (by assumption) ?_; k_extra "cj") | (refine nfc (by assumption) ?_; k_extra "cj"))
  trivial
theorem nsm_all : NsmC := by
  intro w mean mg mb dp un gd outer base s Q E l vs hs n c t0 B X T H hi h2 hlen h0 hc hdp hun hret
  by_cases c0 : c = 0
  · subst c0; exact nsm_zero B X T H hi h2 hlen hdp hun hret
  by_cases c1 : c = 1
  · subst c1; exact nsm_one B X T H hi h2 hlen hdp hun hret
  by_cases cl : c = hs.length
  · exact nsm_full B X T H hi h2 hlen cl hdp hun hret
  obtain ⟨k, rfl⟩ := Int.eq_ofNat_of_zero_le h0
  exact nsm_gen B X T H hi (by omega) (by omega) hlen hdp hun hret
end
section
theorem wd40x77 : True := by
  k_with_none
  k_with "omega" => (omega (splitDisjunctions := true))
  k_with "om2" => (first | lia | omega (splitDisjunctions := true))
  k_with "eval Name" => ((k_here; (with_reducible show wpAny _ _ (eval _ (envOf _ _ _ _ _)) _ _ _); k_dflt (refine' nmL ?yF ?yv ?yx ?yk ?yd ?_; (case yF => k_asm); (case yk => exact rfl); (case yx => exact rfl); (case yd => exact rfl); (case yv => exact rfl); k_whole)))
  k_with "storeName" => ((k_here; (with_reducible show wpAny _ _ (storeName (envOf _ _ _ _ _) _ _) _ _ _); k_dflt (refine' stoLe ?yF ?yN ?yx ?yk ?_; (case yF => k_asm); (case yN => k_asm); (case yk => exact rfl); (case yx => exact rfl); k_whole; intro m'ω h'ω F'ω N'ω; (try k_sweep))))
  k_with "eval Name" => ((k_here; (with_reducible show wpAny _ _ (eval _ (envOfC _ _ _ _ _)) _ _ _); k_dflt (refine' nmLC ?yF ?yv ?yk ?yx ?yd ?_; (case yF => k_asm); (case yk => exact rfl); (case yx => exact rfl); (case yd => exact rfl); (case yv => exact rfl); k_whole)))
  k_with "storeName" => ((k_here; (with_reducible show wpAny _ _ (storeName (envOfC _ _ _ _ _) _ _) _ _ _); k_dflt (refine' stoLCe ?yF ?yN ?yk ?yx ?_; (case yF => k_asm); (case yN => k_asm); (case yk => exact rfl); (case yx => exact rfl); k_whole; intro m'ω h'ω F'ω N'ω; (try k_sweep))))
  k_with "execs cons" => ((k_here; (first | (with_reducible show wpAny _ _ (execs _ _) (AtF _) _ _) | (refine execs_abs ?_; intro Q8ω q8ω)); k_dflt (refine execs_gen ?_); intro Q7ω t7ω g7ω o7ω; (try dsimp only)))
  k_with "AtF" => ((with_reducible first | refine AtF.go (by assumption) ?_ | (refine AtF.out (by assumption) (fun z => Flow.noConfusion z) ?_) | (refine AtF.fin (by assumption) ?_; (try dsimp only))))
  k_with "room" => (k_dflt (first | exact rm2 (by assumption) rfl | exact rm1 (by assumption) rfl | exact rm3 (by assumption) rfl | exact rm4 (by assumption) rfl | exact rm0 (by assumption)))
  k_with "kne" => ((refine neN ?_; (try dsimp only); k_extra "ne"))
  k_with "cj" => (first | exact And.left | exact id | (refine cjs ?_; k_extra "cj"))
  k_with "ne" => (with_reducible first | assumption | exact lne (by assumption) | exact gne (by assumption) | exact sne (by assumption) | exact suc | exact suc2 | exact sne suc | exact sne suc2 | (refine ltc (by assumption) ?_; k_extra "cj") | (refine gtc (by assumption) ?_; k_extra "cj") | (refine nec (by assumption) ?_; k_extra "cj") | (refine nfc (by assumption) ?_; k_extra "cj"))
  k_with "truthy ref" => ((k_here; (with_reducible show wpAny _ _ (truthy (Value.ref _)) _ _ _); k_dflt (refine' truthy_ints ?k1 ?k2 ?k3 ?k4 ?_; (case k1 => k_asm); (case k2 => k_mem); (case k3 => l_ints); (case k4 => first | omega | (simp only [List.length_set, List.length_dropLast, List.length_append, List.length_cons, List.length_nil]; omega)); k_whole)))
  k_with "call ref" => ((k_here; (with_reducible show wpAny _ _ (call (Value.ref 98) _) _ _ _); k_dflt (refine' c_siftup ?k1 ?k2 ?k3 ?k4 ?k5 ?k6 ?k7 ?k8 ?k9 ?_; (case k1 => refine' pushT ?p1 ?p2 ?p3 ?p4; (case p1 => k_asm); (case p2 => k_asm); (case p3 => exact rfl); (case p4 => exact rfl)); (case k2 => k_asm); (case k3 => k_asm); (case k4 => refine has_of (by k_asm) (by k_asm) rfl (List.forall_mem_singleton.mpr ?m); (case m => k_mem)); (case k5 => l_ints); (case k6 => first | omega | (simp only [List.length_set, List.length_dropLast]; omega)); (case k7 => first | omega | (simp only [List.length_set, List.length_dropLast]; omega)); (case k8 => ktr_room); (case k9 => ktr_units); k_whole; (intro s'ω vs'ω n'ω hEω hgω hi'ω; have F9ω := back_fr (by k_asm) (by k_asm) hEω (List.forall_mem_singleton.mpr ⟨_, by k_mem⟩); have N9ω := back_news1 (by k_asm) hEω (by k_upd) hgω; (try k_sweep); (try dsimp only)))))
  k_with "call builtin:len" => ((k_here; (with_reducible show wpAny _ _ (call (Value.builtin "len") [Value.str _ _]) _ _ _); k_dflt (refine' len_text ?k1 ?_; (case k1 => omega); k_whole)))
  k_with "call builtin:str.join" => ((k_here; (with_reducible show wpAny _ _ (call (Value.builtin "str.join") [Value.str _ _, Value.ref _]) _ _ _); k_dflt (refine' join_texts ?k1 ?k2 ?k3 ?k4 ?_; (case k1 => k_asm); (case k2 => k_mem); (case k3 => assumption); (case k4 => first | assumption | omega); k_whole; intro t'ω k'ω)))
  k_with "mine os_go" => (first | exact rfl | assumption | (refine Eq.trans (Ext.os (by assumption)) ?_; (try dsimp only) <;> walk_at "mine os_go"))
  k_with "mine bare_go" => (first | assumption | (refine Ext.bare (by assumption) ?_; (try dsimp only); walk_at "mine bare_go"))
  k_with "binaryOp Add str str" => ((k_here; k_dflt (refine' add_text' ?k1 ?k2 ?k3 ?_; (case k1 => first | exact of40 | exact of41 | exact of34 | exact rfl); (case k2 => first | exact of40 | exact of41 | exact of34 | exact rfl); (case k3 => first | omega | (simp only [List.length_append, List.length_cons, List.length_nil, fmL_len]; omega)); k_whole; intro t'ω k'ω)))
  k_with "call ref" => ((k_here; (with_reducible show wpAny _ _ (call (Value.ref 165) _) _ _ _); k_dflt (refine' c_filemode ?k1 ?k2 ?k3 ?k4 ?k5 ?_; (case k1 => refine' pushT ?p1 ?p2 ?p3 ?p4; (case p1 => k_asm); (case p2 => k_asm); (case p3 => exact rfl); (case p4 => exact rfl)); (case k2 => k_asm); (case k3 => k_asm); (case k4 => ktr_room); (case k5 => ktr_units); k_whole; (intro s'ω t'ω hEω; have F9ω := back_fr (by k_asm) (by k_asm) hEω (fun _ hq => nomatch hq); have N9ω := back_news0 (by k_asm) hEω; (try k_sweep); (try dsimp only)))))
  trivial
structure SameO (a b : Option Int) : Prop where
  eq : a = b
theorem ne_opt {prog : Program} {w : World} {A : Around} {E : Value → Shared → Prop} {s : Shared} {Q : Value → Shared → Prop} {v v' : Value} {a b : Option Int} (hv : IsOpt v a) (hw : IsOpt v' b) (e : SameO a b) (h : Q (.bool false) s) : wpAny (model prog w) A (compareOp .NotEq v v') Q E s := by
  obtain ⟨rfl⟩ := e
  cases a with
  | none => obtain rfl := hv; obtain rfl := hw; exact EqNone.ne_none_none h
  | some i => obtain ⟨t, rfl⟩ := hv; obtain ⟨t', rfl⟩ := hw; exact PyProof.Rows.ne_int (by simpa using h)
theorem wd40x78 : True := by
  k_with "exec For Name Subscript cons nil" => ((k_here; k_dflt (refine wpAny_For ?_)))
  k_with "exec For Name List cons nil" => ((k_here; k_dflt (refine wpAny_For ?_)))
  k_with "call ref" => ((k_here; (with_reducible show wpAny _ _ (call (Value.ref 186) _) _ _ _); k_dflt (refine' c_law_call ?k1 ?k2 ?k3 ?k4 ?k5 ?k6 ?k7 ?k8 ?k9 ?_; (case k1 => refine' pushT ?p1 ?p2 ?p3 ?p4; (case p1 => k_asm); (case p2 => k_asm); (case p3 => exact rfl); (case p4 => exact rfl)); (case k2 => k_asm); (case k3 => k_asm); (case k4 => refine has_of (by k_asm) (by k_asm) rfl (List.forall_mem_singleton.mpr ?m); (case m => k_mem)); (case k5 => l_ints); (case k6 => (k_extra "om2")); (case k7 => (k_extra "om2")); (case k8 => ktr_room); (case k9 => ktr_units); k_whole; (intro s'ω vs'ω n'ω v'ω hEω hgω hi'ω hvω; have F9ω := back_fr (by k_asm) (by k_asm) hEω (List.forall_mem_singleton.mpr ⟨_, by k_mem⟩); have N9ω := back_news1 (by k_asm) hEω (by k_upd) hgω; (try k_sweep); (try dsimp only)))))
  k_with "call ref" => ((k_here; (with_reducible show wpAny _ _ (call (Value.ref 200) _) _ _ _); k_dflt (refine' c_law_due ?k1 ?k2 ?k3 ?k4 ?k5 ?k6 ?k6a ?k7 ?k8 ?k9 ?_; (case k1 => refine' pushT ?p1 ?p2 ?p3 ?p4; (case p1 => k_asm); (case p2 => k_asm); (case p3 => exact rfl); (case p4 => exact rfl)); (case k2 => k_asm); (case k3 => k_asm); (case k4 => refine has_of (by k_asm) (by k_asm) rfl (List.forall_mem_singleton.mpr ?m); (case m => k_mem)); (case k5 => l_ints); (case k6 => (k_extra "om2")); (case k6a => (k_extra "om2")); (case k7 => (k_extra "om2")); (case k8 => ktr_room); (case k9 => ktr_units); k_whole; (intro s'ω vs'ω n'ω v'ω hEω hgω hi'ω hvω; have F9ω := back_fr (by k_asm) (by k_asm) hEω (List.forall_mem_singleton.mpr ⟨_, by k_mem⟩); have N9ω := back_news1 (by k_asm) hEω (by k_upd) hgω; (try k_sweep); (try dsimp only)))))
  k_with "call ref" => ((k_here; (with_reducible show wpAny _ _ (call (Value.ref 172) _) _ _ _); k_dflt (refine' c_mode ?k1 ?k2 ?k3 ?k4 ?k5 ?_; (case k1 => refine' pushT ?p1 ?p2 ?p3 ?p4; (case p1 => k_asm); (case p2 => k_asm); (case p3 => exact rfl); (case p4 => exact rfl)); (case k2 => k_asm); (case k3 => k_asm); (case k4 => ktr_room); (case k5 => ktr_units); k_whole; (intro s'ω t'ω hEω; have F9ω := back_fr (by k_asm) (by k_asm) hEω (fun _ hq => nomatch hq); have N9ω := back_news0 (by k_asm) hEω; (try k_sweep); (try dsimp only)))))
  trivial
theorem eq_nil_pos {prog : Program} {w : World} {A : Around} {E : Value → Shared → Prop} {s : Shared} {h₀ : Heap} {L a b : Addr} {news : List (Addr × Obj)} {Q : Value → Shared → Prop} {vs : List Value} {ns : List Int} {n k : Nat} (N : News h₀ L s.heap news) (hm : (a, listOf vs.toArray n) ∈ news) (hb : (b, listOf #[] k) ∈ news) (hi : IntsAre vs ns) (hp : 0 < ns.length) (hu : A.units + 64 < cLine) (h : Q (.bool false) s) : wpAny (model prog w) A (compareOp .Eq (.ref a) (.ref b)) Q E s := by
  refine ke_eq_ints (xs := vs) (ys := []) (ns := ns) (ms := []) ⟨_, (N _ hm).1, rfl, n, rfl⟩ ⟨_, (N _ hb).1, rfl, k, rfl⟩ hi .nil hu ?_
  rw [decide_eq_false (by intro q; rw [q] at hp; simp at hp)]
  exact h
theorem wd40x79 : True := by
  k_with "compareOp Eq ref ref" => ((k_here; (with_reducible show wpAny _ _ (compareOp CmpOp.Eq (Value.ref _) (Value.ref _)) _ _ _); k_dflt (refine' eq_nil_pos ?k1 ?k2 ?k3 ?k4 ?k5 ?k6 ?_; (case k1 => k_asm); (case k2 => k_mem); (case k3 => k_mem); (case k4 => l_ints); (case k5 => (k_extra "om2")); (case k6 => ktr_units); k_whole)))
  k_with "compareOp NotEq" => ((k_here; k_dflt (refine' ne_opt ?k1 ?k2 ?k3 ?_; (case k1 => assumption); (case k2 => assumption); (case k3 => assumption); k_whole)))
  trivial
theorem mod_known {prog : Program} {w : World} {A : Around} {E : Value → Shared → Prop} {s : Shared} {Q : Value → Shared → Prop} {a c : Int} {t u : Tok} (hc : a.fmod 5 = c) (h : ∀ t' tk, Q (.int c t') { s with toks := tk }) : wpAny (model prog w) A (binaryOp .Mod (.int a t) (.int 5 u)) Q E s := by
  subst hc; exact mod_int' (by decide) (h _ _)
theorem wd40x80 : True := by
  k_with "binaryOp Mod int int" => ((k_here; (with_reducible show wpAny _ _ (binaryOp _ _ (Value.int 5 _)) _ _ _); k_dflt (refine' mod_known ?k1 ?_; (case k1 => assumption); intro t'ω k'ω)))
  trivial
theorem dicts_own {h₀ h : Heap} {L : Addr} {m : Str → Option Value} (F : Fr h₀ L h m) : KtsDicts [L] h := by
  intro b hb
  obtain ⟨oL, es, ep, hL, hLd, _⟩ := F.ns
  rw [List.mem_singleton.mp hb]
  exact ⟨oL, es, ep, hL, hLd⟩
theorem back_frF {s s' : Shared} {h₀ : Heap} {L : Addr} {m : Str → Option Value} (F : Fr h₀ L s.heap m) (x : ExtF [L] s s') : Fr h₀ L s'.heap m := by
  obtain ⟨oL, es, ep, hL, hLd, hLk, hLf⟩ := F.ns
  obtain ⟨sl, e⟩ := x.2.1 _ _ (List.mem_singleton.mpr rfl) hL
  refine ⟨⟨_, es, ep, e, hLd, hLk, hLf⟩, fun b o q => x.1 _ _ (fun z => ?_) (F.keep b o q), F.above⟩
  have := Heap.get?_none_of_le F.above
  rw [List.mem_singleton.mp z, this] at q; cases q
theorem back_newsF {s s' : Shared} {h₀ : Heap} {L : Addr} {news : List (Addr × Obj)} (N : News h₀ L s.heap news) (x : ExtF [L] s s') : News h₀ L s'.heap news := fun p hp => ⟨x.1 _ _ (fun z => (N p hp).2.1 (List.mem_singleton.mp z)) (N p hp).1, (N p hp).2⟩
theorem wd40x81 : True := by
  k_with "call ref" => ((k_here; (with_reducible show wpAny _ _ (call (Value.ref 193) _) _ _ _); k_dflt ((first | refine' c_refused2 ?k1 ?k2 ?k3 ?k4 ?kD ?k5 ?k6 ?_ | refine' c_refused4 ?k1 ?k2 ?k3 ?k4 ?kD ?k5 ?k6 ?_); (case k1 => refine' pushT ?p1 ?p2 ?p3 ?p4; (case p1 => k_asm); (case p2 => k_asm); (case p3 => exact rfl); (case p4 => exact rfl)); (case k2 => k_asm); (case k3 => k_asm); (case k4 => refine has_of (by k_asm) (by k_asm) rfl (List.forall_mem_singleton.mpr ?m); (case m => k_mem)); (case kD => exact dicts_own (by k_asm)); (case k5 => ktr_room); (case k6 => ktr_units); k_whole; intro s'ω hEω; have F9ω := back_frF (by k_asm) hEω; have N9ω := back_newsF (by k_asm) hEω; (try k_sweep); (try dsimp only))))
  trivial
inductive LJ (H R D : Addr) (C : Nat) (o1 o2 : Obj) (scr : Value) (ws : List Value) (i : Nat) (m : Str → Option Value) (news : List (Addr × Obj)) : Prop
  | mk (vs rs : List Value) (n k : Nat) (hp row : List Int) (a1 : m (Str.ofString "heap") = some (.ref H)) (a2 : m (Str.ofString "row") = some (.ref R)) (a3 : m (Str.ofString "script") = some scr) (a4 : news = [(D, listOf ws.toArray 0), (R, listOf rs.toArray k), (H, listOf vs.toArray n), (C + 1 + 1, o2), (C + 1, o1)])
    (a5 : IntsAre vs hp) (a6 : IntsAre rs row) (a7 : Inv hp row) (a8 : hp.length = row.length) (a9 : hp.length ≤ 3) (aa : ∀ m ∈ hp, OkM m) : LJ H R D C o1 o2 scr ws i m news
theorem form3 {m : Str → Option Value} {n1 n2 n3 : Str} {v1 v2 v3 : Value} (h1 : m n1 = some v1) (h2 : m n2 = some v2) (h3 : m n3 = some v3) :
    m = fun y => if y = n1 then some v1 else if y = n2 then some v2 else if y = n3 then some v3 else m y := by
  funext y
  split
  · rename_i q; rw [q, h1]
  split
  · rename_i q; rw [q, h2]
  split
  · rename_i q; rw [q, h3]
  rfl
theorem pull5 {P : Prop} {h₀ h : Heap} {L : Addr} {a b c : Addr × Obj} {C : Nat} {d e : Obj} (N : News h₀ L h [a, b, c, (C + 1 + 1, d), (C + 1, e)]) (k : ∀ (C' : Nat) d' e', @Eq Nat C' C → News h₀ L h [a, b, c, (C' + 1 + 1, d'), (C' + 1, e')] → d' = d → e' = e → P) : P := k C d e rfl N rfl rfl
theorem pullF {P : Prop} {h₀ h : Heap} {L : Addr} {m : Str → Option Value} {x : Str} {v : Value} (F : Fr h₀ L h m) (hv : m x = some v) (k : ∀ v', m x = some v' → v' = v → P) : P := k v hv rfl
inductive LJ2 (H R D D2 : Addr) (C : Nat) (o1 o2 : Obj) (scr : Value) (ws : List Value) (ms : List Value) (nE : Nat) (n0 : Nat) (i : Nat) (m : Str → Option Value) (news : List (Addr × Obj)) : Prop
  | mk (vs rs : List Value) (n k : Nat) (hp row : List Int) (a1 : m (Str.ofString "heap") = some (.ref H)) (a2 : m (Str.ofString "row") = some (.ref R)) (a3 : m (Str.ofString "script") = some scr) (a4 : news = [(D2, listOf ms.toArray nE), (D, listOf ws.toArray 0), (R, listOf rs.toArray k), (H, listOf vs.toArray n), (C + 1 + 1, o2), (C + 1, o1)])
    (a5 : IntsAre vs hp) (a6 : IntsAre rs row) (a7 : Inv hp row) (a8 : hp.length = row.length) (a9 : hp.length = n0 + i) (aa : ∀ m ∈ hp, OkM m) : LJ2 H R D D2 C o1 o2 scr ws ms nE n0 i m news
theorem wd40x82 : True := by
  k_with "subscriptTail Name Slice ref ref" => ((k_here; (with_reducible show wpAny _ _ (subscriptTail _ (PySem.Expr.Slice none _ none _) (Value.ref _) (Value.ref _)) _ _ _); k_dflt (refine' head_ints ?k0 ?F ?N ?l ?i ?z ?_; (case k0 => decide); (case F => k_asm); (case N => k_asm); (case l => kmk_list); (case i => assumption); (case z => kmk_size); k_whole); intro D'ω ws'ω ms'ω h'ω F'ω N'ω l1ω hI'ω; (try k_lt l1ω); (try k_sweep)))
  k_with "call builtin:sum" => ((k_here; (with_reducible show wpAny _ _ (call (Value.builtin "sum") [Value.ref _]) _ _ _); k_dflt (refine' sum_any ?k0 ?F ?N ?m ?i ?_; (case k0 => rfl); (case F => k_asm); (case N => k_asm); (case m => k_mem); (case i => assumption); k_whole); intro h'ω tk'ω t'ω x'ω F'ω N'ω; (try k_sweep)))
  k_with "subscriptTail" => ((k_here; (with_reducible show wpAny _ _ (subscriptTail (PySem.Expr.List _ _) _ (Value.ref _) (Value.int _ _)) _ _ _); k_dflt (refine' item_menu (cs := [[40], [41], []]) ?N ?m ?t ?h0 ?h1 ?hf ?_; (case N => k_asm); (case m => k_mem); (case t => (simp only [of40, of41, of0]; exact .cons _ _ (.cons _ _ (.cons _ _ .nil)))); (case h0 => exact fmod_lo _ (by decide)); (case h1 => exact fmod_hi _ (by decide)); (case hf => decide); k_whole); intro t'ω c'ω hc'ω))
  k_with "subscriptTail" => ((k_here; (with_reducible show wpAny _ _ (subscriptTail (PySem.Expr.BinOp _ _ _ _) _ (Value.ref _) (Value.int _ _)) _ _ _); k_dflt (refine' item_some ?N ?m ?t ?h0 ?h1 ?hf ?_; (case N => k_asm); (case m => k_mem); (case t => l_ints); (case h0 => exact fmod_lo _ (by (k_extra "om2"))); (case h1 => refine Int.lt_of_lt_of_le (fmod_hi _ (by (k_extra "om2"))) (by simp only [List.length_append, List.length_cons, List.length_nil]; (k_extra "om2"))); (case hf => (simp only [List.length_append, List.length_cons, List.length_nil]; (k_extra "om2"))); k_whole); intro t'ω b'ω hb'ω))
  k_with "call ref" => ((k_here; (with_reducible show wpAny _ _ (call (Value.ref 207) _) _ _ _); refine of_stop ?_))
  k_with "call ref" => ((k_here; (with_reducible show wpAny _ _ (call (Value.ref 28) _) _ _ _); k_dflt (refine' c_stripT ?k1 ?k2 ?k3 ?k4 ?k5 ?k6 ?_; (case k1 => refine' pushT ?p1 ?p2 ?p3 ?p4; (case p1 => k_asm); (case p2 => k_asm); (case p3 => exact rfl); (case p4 => exact rfl)); (case k2 => k_asm); (case k3 => k_asm); (case k4 => assumption); (case k5 => ktr_room); (case k6 => ktr_units); k_whole; (intro s'ω t'ω hEω hk9ω; have F9ω := back_fr (by k_asm) (by k_asm) hEω (fun _ hq => nomatch hq); have N9ω := back_news0 (by k_asm) hEω; (try k_sweep); (try dsimp only)))))
  k_with "call ref" => ((k_here; (with_reducible show wpAny _ _ (call (Value.ref 35) _) _ _ _); k_dflt (refine' c_checkT ?k1 ?k2 ?k3 ?k4 ?k5 ?k6 ?_; (case k1 => refine' pushT ?p1 ?p2 ?p3 ?p4; (case p1 => k_asm); (case p2 => k_asm); (case p3 => exact rfl); (case p4 => exact rfl)); (case k2 => k_asm); (case k3 => k_asm); (case k4 => assumption); (case k5 => ktr_room); (case k6 => ktr_units); k_whole; (intro s'ω hEω hk9ω; have F9ω := back_fr (by k_asm) (by k_asm) hEω (fun _ hq => nomatch hq); have N9ω := back_news0 (by k_asm) hEω; (try k_sweep); (try dsimp only)))))
  k_with "exec Assign cons ListComp" => ((k_here; k_dflt (refine wpAny_with_toks (n := 1) (by (try dsimp only); (k_extra "om2")) ?_); k_dflt (refine assComp_stop (F₀ := by k_asm) (by rfl) (by with_unfolding_all rfl) (by with_unfolding_all rfl) (by decide) (by rfl) (by decide) (by rfl) (by rfl) (by rfl) ?_)))
  trivial
theorem execs_genT {M : Model} {A : Around} {st : Stmt} {rest : List Stmt} {env : Env} {Q : Flow → Shared → Prop} {E : Value → Shared → Prop} {h : Heap} {g : Array GenState} {d : Drawn} {tk : Nat} {os : OsState} (h1 : 1 ≤ tk)
    (H : ∀ Qs tk', 1 ≤ tk' → (∀ s', wpAny M A (execs rest env) Q E s' → AtF Qs .next s') → (∀ fl s', fl ≠ .next → Q fl s' → AtF Qs fl s') → wpAny M A (exec st env) (AtF Qs) E ⟨h, g, d, tk', os⟩) : wpAny M A (execs (st :: rest) env) Q E ⟨h, g, d, tk, os⟩ :=
  wpAny_execs_cons (H _ tk h1 (fun _ k => k) (fun fl s' hne k => by cases fl <;> first | exact absurd rfl hne | exact k))
theorem wd40x83 : True := by
  k_with "execs cons" => ((k_here; (have mk9ω : TokMark := by assumption); clear mk9ω; (try dsimp only); (first | (with_reducible show wpAny _ _ (execs _ _) (AtF _) _ _) | (refine execs_abs ?_; intro Q8ω q8ω)); k_dflt (refine execs_genT ?h1 ?_; (case h1 => first | (k_extra "om2") | ((try dsimp only at *); (k_extra "om2")))); intro Q7ω t7ω hk9ω g7ω o7ω; (try dsimp only)))
  k_with "call builtin:str.replace" => ((k_here; (with_reducible show wpAny _ _ (call (Value.builtin "str.replace") [Value.str _ _, Value.str _ _, Value.str _ _]) _ _ _); k_dflt ((first | refine' strike 40 (by decide +kernel) (by decide +kernel) ?hx ?hu rfl ?_ | refine' strike 41 (by decide +kernel) (by decide +kernel) ?hx ?hu rfl ?_ | refine' strike 34 (by decide +kernel) (by decide +kernel) ?hx ?hu rfl ?_); (case hx => assumption); (case hu => first | (k_extra "om2") | (dsimp only at *; (k_extra "om2"))); k_whole); intro t'ω k'ω hk9ω; (try dsimp only at hk9ω)))
  k_with "eval ListComp" => ((k_here; refine of_stop ?_))
  k_with "call ref" => ((k_here; (with_reducible show wpAny _ _ (call (Value.ref 179) _) _ _ _); k_dflt (refine' c_readM ?k1 ?k2 ?k3 ?k4 ?k5 ?k6 ?k7 ?_; (case k1 => refine' pushT ?p1 ?p2 ?p3 ?p4; (case p1 => k_asm); (case p2 => k_asm); (case p3 => exact rfl); (case p4 => exact rfl)); (case k2 => k_asm); (case k3 => k_asm); (case k4 => assumption); (case k5 => assumption); (case k6 => ktr_room); (case k7 => ktr_units); k_whole; (intro h'ω tk'ω t'ω hEω; have F9ω := back_fr (by k_asm) (by k_asm) hEω (fun _ hq => nomatch hq); have N9ω := back_news0 (by k_asm) hEω; (try k_sweep); (try dsimp only)))))
  k_with "call builtin:sorted" => ((k_here; (with_reducible show wpAny _ _ (call (Value.builtin "sorted") [Value.ref _]) _ _ _); k_dflt (refine' sorted_ints ?k1 ?k2 ?k3 ?k4 ?k5 ?_; (case k1 => k_asm); (case k2 => k_asm); (case k3 => k_mem); (case k4 => assumption); (case k5 => (k_extra "om2")); k_whole); intro D'ω v'ω c'ω h'ω F'ω N'ω l1ω i'ω; (try k_lt l1ω); (try k_sweep)))
  k_with "compareOp NotEq ref ref" => ((k_here; (with_reducible show wpAny _ _ (compareOp CmpOp.NotEq (Value.ref _) (Value.ref _)) _ _ _); k_dflt (refine' ne_same ?k1 ?k2 ?k3 ?k4 ?k5 ?k6 ?k7 ?_; (case k1 => k_asm); (case k2 => k_mem); (case k3 => k_mem); (case k4 => assumption); (case k5 => assumption); (case k6 => assumption); (case k7 => ktr_units); k_whole)))
  k_with "call builtin:len" => ((k_here; (with_reducible show wpAny _ _ (call (Value.builtin "len") [Value.ref _]) _ _ _); k_dflt (refine' len_ints ?k1 ?k2 ?k3 ?k4 ?_; (case k1 => k_asm); (case k2 => k_mem); (case k3 => first | assumption | l_ints); (case k4 => (k_extra "om2")); k_whole)))
  k_with "compareOp NotEq ref ref" => ((k_here; (with_reducible show wpAny _ _ (compareOp CmpOp.NotEq (Value.ref _) (Value.ref _)) _ _ _); k_dflt (refine' ne_rep ?k1 ?k2 ?k3 ?k6 ?k7 ?k4 ?k5 ?k8 ?k9 ?_; (case k1 => k_asm); (case k2 => k_mem); (case k3 => k_mem); (case k4 => assumption); (case k5 => assumption); (case k6 => (intro p9ω hp9ω; simp only [List.mem_cons, List.mem_append, hp9ω, true_or, or_true])); (case k7 => (intro p9ω hp9ω; simp only [List.mem_cons, List.mem_append, hp9ω, true_or, or_true])); (case k8 => assumption); (case k9 => ktr_units); k_whole)))
  k_with "call ref" => ((k_here; (with_reducible show wpAny _ _ (call (Value.ref 118) _) _ _ _); k_dflt (refine' nsm_use ?k0 ?k1 ?k2 ?k3 ?k4 ?k5 ?k6 ?k7 ?k8 ?k9 ?ka ?kb ?_; (case k0 => assumption); (case k1 => refine' pushT ?p1 ?p2 ?p3 ?p4; (case p1 => k_asm); (case p2 => k_asm); (case p3 => exact rfl); (case p4 => exact rfl)); (case k2 => k_asm); (case k3 => k_asm); (case k4 => refine has_of (by k_asm) (by k_asm) rfl (List.forall_mem_singleton.mpr ?m); (case m => k_mem)); (case k5 => assumption); (case k6 => (k_extra "om2")); (case k7 => (k_extra "om2")); (case k8 => (k_extra "om2")); (case k9 => (k_extra "om2")); (case ka => ktr_room); (case kb => ktr_units); k_whole; (intro s'ω r'ω vs'ω n'ω hEω hrω hgω hI9ω; have a9ω := allNe_of (by k_asm) hrω; have F9ω := back_fr (by k_asm) (by k_asm) hEω (fun _ hq => nomatch hq); have N9ω := news_cons (by k_asm) (back_news0 (by k_asm) hEω) hgω hrω; (try k_sweep); (try simp only [AllNe, and_true] at a9ω); (try dsimp only)))))
  k_with "call ref" => ((k_here; (with_reducible show wpAny _ _ (call (Value.ref 219) _) _ _ _); k_dflt (refine' c_parsed5 ?k1 ?k2 ?k3 ?k4 ?k5 ?k6 ?_; (case k1 => refine' pushT ?p1 ?p2 ?p3 ?p4; (case p1 => k_asm); (case p2 => k_asm); (case p3 => exact rfl); (case p4 => exact rfl)); (case k2 => k_asm); (case k3 => k_asm); (case k4 => assumption); (case k5 => ktr_room); (case k6 => ktr_units); k_whole; (intro s'ω r'ω vs'ω n'ω D'ω hEω hrω hgω hDω hRω; have a9ω := allNe_of (by k_asm) hrω; have o9ω := offD_all (by k_asm) hDω; have F9ω := back_fr (by k_asm) (by k_asm) hEω (fun _ hq => nomatch hq); have N9ω := back_deep (by k_asm) (by k_asm) hEω hrω hgω hDω; (try k_sweep); (try simp only [AllNe, and_true] at a9ω); (try simp only [List.map_cons, List.map_append] at o9ω); (try simp only [List.cons_append, List.nil_append, List.append_assoc] at N9ω); (try dsimp only)))))
  k_with "call ref" => ((k_here; (with_reducible show wpAny _ _ (call (Value.ref 214) _) _ _ _); k_dflt (refine' c_treeF ?k1 ?k2 ?k3 ?k4 ?k5 ?k6 ?k7 ?k8 ?k9 ?_; (case k1 => refine' pushT ?p1 ?p2 ?p3 ?p4; (case p1 => k_asm); (case p2 => k_asm); (case p3 => exact rfl); (case p4 => exact rfl)); (case k2 => k_asm); (case k3 => k_asm); (case k4 => refine has_of (by k_asm) (by k_asm) rfl (List.forall_mem_singleton.mpr ?m); (case m => k_mem)); (case k5 => assumption); (case k6 => (k_extra "om2")); (case k7 => assumption); (case k8 => ktr_room); (case k9 => ktr_units); k_whole; (intro s'ω r'ω vs'ω n'ω D'ω hEω hrω hgω hDω hRω hk9ω; have a9ω := allNe_of (by k_asm) hrω; have o9ω := offD_all (by k_asm) hDω; have F9ω := back_fr (by k_asm) (by k_asm) hEω (fun _ hq => nomatch hq); have N9ω := back_deep (by k_asm) (by k_asm) hEω hrω hgω hDω; (try k_sweep); (try simp only [AllNe, and_true] at a9ω); (try simp only [List.map_cons, List.map_append] at o9ω); (try simp only [List.cons_append, List.nil_append, List.append_assoc] at N9ω); (try dsimp only)))))
  trivial
structure IfMark : Prop where
theorem join_v {P : Int → Prop} {M : Model} {A : Around} {x : Sem Value} {Q E : Value → Shared → Prop} {h : Heap} {g : Array GenState} {dr : Drawn} {tk : Nat} {os : OsState}
    (H : wpAny M A x (fun v s' => ∃ d t' u, v = .int d u ∧ P d ∧ s' = ⟨h, g, dr, t', os⟩) E ⟨h, g, dr, tk, os⟩) (K : ∀ d u t', P d → Q (.int d u) ⟨h, g, dr, t', os⟩) : wpAny M A x Q E ⟨h, g, dr, tk, os⟩ :=
  wpAny_mono H (fun _ _ ⟨d, t', u, e, p, q⟩ => e ▸ q ▸ K d u t' p) (fun _ _ k => k)
theorem wd40x84 : True := by
  k_with "eval IfExp" => ((k_here; (fail_if_success (have z9ω : IfMark := by assumption)); (with_reducible show wpAny _ _ (eval (PySem.Expr.IfExp (PySem.Expr.BoolOp _ _ _) _ _ _) _) _ _ _); refine of_stop ?_))
  k_with "exec If" => ((k_here; (fail_if_success (have z9ω : IfMark := by assumption)); (with_reducible show wpAny _ _ (exec (PySem.Stmt.If (PySem.Expr.BoolOp _ _ _) _ _ _) _) _ _ _); refine of_stop ?_))
  trivial
theorem law_test : PySem.Challenge.rw_om0101_01.Holds := by
  refine hd (by rfl) (by rfl) (by rfl) ?_
  w_strict (
    k_fill
    intro w s₀ s₁ mg mb G Y fa o pm cd doc dV kV ho hdd hcd hD hmg hg args vals as hpre hlay hrd hwl hlo
    have KX := kIn_of Y
    have X := (Ground.X G).1
    have V := (Ground.X G).2
    try w_nolog (first | (have GL := glob_more (Ground.glob G (by decide +kernel) (by decide +kernel)) V) | (have GL := glob_more (Ground.glob G (by decide +kernel)) V))
    refine Ground.open G ?_
    intro T B D TE TW
    try (refine guard_noD D (by decide +kernel) ?_; clear D)
    obtain ⟨_, _, M⟩ := bmod_of_top T
    have TA := at_of_top T
    try (obtain ⟨_, _, he, B0⟩ := based_of_top T rfl hmg ho hdd; have he' : cd = _ := he; subst he'; clear he)
    clear hmg
    wrow_args hpre hlay hrd hwl hlo
    all_goals (
      first | refine callC_kw (enter_call ?_) | refine enter_call ?_ | refine callC_kw (enter_callW ?_) | refine enter_callW ?_ | w_how
      w_top off
      have K0 := below_caller (Top.heap T)
      w_call any ho hdd hcd hD T F
      clear hdd TA
      k_drop
      skip))
  all_goals try k_fold
  k_steps
  revert D'ω ws'ω ms'ω; intro D ws ms _ _ _
  rename Fr _ _ _ _ => F1
  rename News _ _ _ _ => N1
  rename IntsAre _ _ => hI1
  rename (_ < D ∧ _) => lD
  rename_i H _ _ _ _ _ _ _ _ R _ lR _
  refine wpAny_pyIter_list (items := ws.toArray) ⟨_, (N1 (D, _) (.head _)).1, rfl, 0, rfl⟩ ?_
  refine pull5 N1 fun C c2 c1 eC N2 ec2 ec1 => ?_
  rename (_ < H ∧ _) => lH
  rename (_ < R ∧ _) => lR
  rw [← eC] at lD lR lH
  refine pullF F1 (x := Str.ofString "script") rfl fun scr hscr escr => ?_
  refine list_loop (vs := ws) (nE := 0) (l := D) rfl rfl rfl F1 N2 (.head _) (LJ H R D C c1 c2 scr ws) ?ga ?gb ?gc ?gd
  case ga => exact ⟨[], [], 0, 0, [], [], rfl, rfl, hscr, rfl, .nil, .nil, ⟨fun i h0 => absurd h0 (by simp), .refl _, .nil⟩, rfl, by decide, List.forall_mem_nil _⟩
  case gb =>
    rintro i m news ⟨vs, rs, n, k, hp, row, _, _, _, rfl, _⟩
    exact .head _
  case gc =>
    intro i v m₁ news₁ s₂ oI I hi hv hJ hb₁ ho₁ hnz F3 N3
    obtain ⟨vs, rs, n, k, hp, row, e1, e2, e3, rfl, hvs, hrs, hinv, hlen, hl3, hoks⟩ := hJ
    obtain ⟨x, tx, rfl, hx⟩ := IntsAre.at hI1 i v hv
    rw [form3 e1 e2 e3] at F3
    clear F1 N1 N2
    obtain ⟨h4, gens4, dr4, tk4, os4⟩ := s₂
    dsimp only at F3 N3 hb₁ ho₁ ⊢
    have lI := allLt_of hnz
    simp only [AllLt, and_true] at lI
    have hm0 : 0 ≤ x.fmod 5 := fmod_lo x (by decide)
    have hm5 : x.fmod 5 < 5 := fmod_hi x (by decide)
    have hX := modeL_ok (x.fdiv 5 * 2477)
    k_steps
    refine stop_of ?_
    refine join_v (P := fun d => 0 ≤ d ∧ d < 5 ∧ (d < 2 → row.length ≠ 3)) ?_ ?_
    · have ifm : IfMark := ⟨⟩
      k_steps
      all_goals (k_extra "om2")
    intro d u5 tk5 hP
    obtain ⟨d0, d5, d3⟩ := hP
    k_steps
    refine stop_of ?_
    have ifm : IfMark := ⟨⟩
    by_cases h0 : 0 < row.length
    · have hSx : SameO (callR d hp (modeL (x.fdiv 5 * 2477))) (dueR d row (modeL (x.fdiv 5 * 2477))) := ⟨(inv_step hinv ⟨by (k_extra "om2"), by (k_extra "om2")⟩ (fun _ => by (k_extra "om2")) (.inl hl3)).2⟩
      k_steps
      (rename News _ _ _ _ => N9; rename Fr _ _ _ _ => F9; have st := inv_step (d := d) (x := modeL (x.fdiv 5 * 2477)) hinv ⟨by first | decide | (k_extra "om2"), by first | decide | (k_extra "om2")⟩ (fun _ => by (k_extra "om2")) (.inl hl3); have sl := call_len (d := d) (x := modeL (x.fdiv 5 * 2477)) hinv ⟨by first | decide | (k_extra "om2"), by first | decide | (k_extra "om2")⟩ (fun _ => by (k_extra "om2")) (.inl hl3); have ok := call_ok (d := d) hinv ⟨by first | decide | (k_extra "om2"), by first | decide | (k_extra "om2")⟩ (fun _ => by (k_extra "om2")) (.inl hl3) hoks hX; refine ⟨_, [(D, _), (R, _), (H, _), (C + 1 + 1, _), (C + 1, _)], F9, fun p hp => N9 p (.tail _ hp), List.forall_mem_cons.mpr ⟨neN (by (k_extra "om2")), List.forall_mem_cons.mpr ⟨neN (by (k_extra "om2")), List.forall_mem_cons.mpr ⟨neN (by (k_extra "om2")), List.forall_mem_cons.mpr ⟨neN (by (k_extra "om2")), List.forall_mem_cons.mpr ⟨neN (by (k_extra "om2")), List.forall_mem_nil _⟩⟩⟩⟩⟩, ⟨_, _, _, _, _, _, rfl, rfl, rfl, rfl, by assumption, by assumption, st.1, st.1.len, by rw [sl]; (repeat' split) <;> simp only [List.length_nil] at * <;> (k_extra "om2"), ok⟩, ?_, ?_⟩; (intro y; have y' := hb₁ y; (try dsimp only); (walk_at "mine bare_go")); ((try dsimp only) <;> (walk_at "mine os_go")))
    · obtain rfl : row = [] := List.eq_nil_of_length_eq_zero (by (k_extra "om2"))
      obtain rfl : hp = [] := List.eq_nil_of_length_eq_zero (by rw [hlen]; rfl)
      cases hvs
      cases hrs
      obtain rfl | rfl | ⟨hd2, hd4⟩ : d = 2 ∨ d = 4 ∨ (¬ d = 2 ∧ ¬ d = 4) := by (k_extra "om2")
      · k_steps
        rename News _ _ _ _ => N9
        rename Fr _ _ _ _ => F9
        rename ExtF _ _ _ => hE
        exact ⟨_, [(D, _), (R, _), (H, _), (C + 1 + 1, _), (C + 1, _)], F9, fun p hp => N9 p (.tail _ hp), List.forall_mem_cons.mpr ⟨neN (by first | k_extra "ne" | (k_extra "om2")), List.forall_mem_cons.mpr ⟨neN (by first | k_extra "ne" | (k_extra "om2")), List.forall_mem_cons.mpr ⟨neN (by first | k_extra "ne" | (k_extra "om2")), List.forall_mem_cons.mpr ⟨neN (by first | k_extra "ne" | (k_extra "om2")), List.forall_mem_cons.mpr ⟨neN (by first | k_extra "ne" | (k_extra "om2")), List.forall_mem_nil _⟩⟩⟩⟩⟩, ⟨[], [], _, _, [], [], rfl, rfl, rfl, rfl, .nil, .nil, hinv, rfl, by decide, List.forall_mem_nil _⟩, fun y => hE.2.2.2 (by (have y' := hb₁ y); (try dsimp only); (walk_at "mine bare_go")), hE.2.2.1.trans (by ((try dsimp only) <;> (walk_at "mine os_go")))⟩
      · k_steps
        rename News _ _ _ _ => N9
        rename Fr _ _ _ _ => F9
        rename ExtF _ _ _ => hE
        exact ⟨_, [(D, _), (R, _), (H, _), (C + 1 + 1, _), (C + 1, _)], F9, fun p hp => N9 p (.tail _ hp), List.forall_mem_cons.mpr ⟨neN (by first | k_extra "ne" | (k_extra "om2")), List.forall_mem_cons.mpr ⟨neN (by first | k_extra "ne" | (k_extra "om2")), List.forall_mem_cons.mpr ⟨neN (by first | k_extra "ne" | (k_extra "om2")), List.forall_mem_cons.mpr ⟨neN (by first | k_extra "ne" | (k_extra "om2")), List.forall_mem_cons.mpr ⟨neN (by first | k_extra "ne" | (k_extra "om2")), List.forall_mem_nil _⟩⟩⟩⟩⟩, ⟨[], [], _, _, [], [], rfl, rfl, rfl, rfl, .nil, .nil, hinv, rfl, by decide, List.forall_mem_nil _⟩, fun y => hE.2.2.2 (by (have y' := hb₁ y); (try dsimp only); (walk_at "mine bare_go")), hE.2.2.1.trans (by ((try dsimp only) <;> (walk_at "mine os_go")))⟩
      · have hb2 : (d == 2) = false := beq_eq_false_iff_ne.mpr hd2
        have hb4 : (d == 4) = false := beq_eq_false_iff_ne.mpr hd4
        have hSx : SameO (callR d [] (modeL (x.fdiv 5 * 2477))) (dueR d [] (modeL (x.fdiv 5 * 2477))) := ⟨(inv_step hinv ⟨by (k_extra "om2"), by (k_extra "om2")⟩ (fun q => by (k_extra "om2")) (.inl hl3)).2⟩
        k_steps
        (rename News _ _ _ _ => N9; rename Fr _ _ _ _ => F9; have st := inv_step (d := d) (x := modeL (x.fdiv 5 * 2477)) hinv ⟨by first | decide | (k_extra "om2"), by first | decide | (k_extra "om2")⟩ (fun _ => by (k_extra "om2")) (.inl hl3); have sl := call_len (d := d) (x := modeL (x.fdiv 5 * 2477)) hinv ⟨by first | decide | (k_extra "om2"), by first | decide | (k_extra "om2")⟩ (fun _ => by (k_extra "om2")) (.inl hl3); have ok := call_ok (d := d) hinv ⟨by first | decide | (k_extra "om2"), by first | decide | (k_extra "om2")⟩ (fun _ => by (k_extra "om2")) (.inl hl3) hoks hX; refine ⟨_, [(D, _), (R, _), (H, _), (C + 1 + 1, _), (C + 1, _)], F9, fun p hp => N9 p (.tail _ hp), List.forall_mem_cons.mpr ⟨neN (by (k_extra "om2")), List.forall_mem_cons.mpr ⟨neN (by (k_extra "om2")), List.forall_mem_cons.mpr ⟨neN (by (k_extra "om2")), List.forall_mem_cons.mpr ⟨neN (by (k_extra "om2")), List.forall_mem_cons.mpr ⟨neN (by (k_extra "om2")), List.forall_mem_nil _⟩⟩⟩⟩⟩, ⟨_, _, _, _, _, _, rfl, rfl, rfl, rfl, by assumption, by assumption, st.1, st.1.len, by rw [sl]; (repeat' split) <;> simp only [List.length_nil] at * <;> (k_extra "om2"), ok⟩, ?_, ?_⟩; (intro y; have y' := hb₁ y; (try dsimp only); (walk_at "mine bare_go")); ((try dsimp only) <;> (walk_at "mine os_go")))
  case gd =>
    intro s' m' news' F4 N4 hJ hb4 ho4
    obtain ⟨vs, rs, n, k, hp, row, e1, e2, e3, rfl, hvs, hrs, hinv, hlen, hl3, hoks⟩ := hJ
    rw [form3 e1 e2 e3] at F4
    clear F1 N1 N2
    obtain ⟨h4, gens4, dr4, tk4, os4⟩ := s'
    dsimp only at F4 N4 hb4 ho4 ⊢
    k_steps
    rename_i D2 _ F5 N5 lE
    refine wpAny_pyIter_list (items := [Value.int 16877 t7ω, Value.int 33188 (t7ω + 1)].toArray) ⟨_, (N5 (D2, _) (.head _)).1, rfl, 0, rfl⟩ ?_
    refine list_loop (vs := [Value.int 16877 t7ω, Value.int 33188 (t7ω + 1)]) (nE := 0) (l := D2) rfl rfl rfl F5 N5 (.head _) (LJ2 H R D D2 C c1 c2 scr ws [Value.int 16877 t7ω, Value.int 33188 (t7ω + 1)] 0 hp.length) ?ha ?hb ?hc ?hd
    case ha => exact ⟨vs, rs, n, k, hp, row, rfl, rfl, rfl, rfl, hvs, hrs, hinv, hlen, rfl, hoks⟩
    case hb =>
      rintro i m news ⟨vs, rs, n, k, hp, row, _, _, _, rfl, _⟩
      exact .head _
    case hc =>
      intro i v m₁ news₁ s₂ oI I hi hv hJ hb₁ ho₁ hnz F3 N3
      obtain ⟨vs', rs', n', k', hp', row', e1', e2', e3', rfl, hvs', hrs', hinv', hlen', hn', hoks'⟩ := hJ
      have hi2 : i < 2 := hi
      obtain ⟨x, tx, rfl, hX⟩ : ∃ x tx, v = .int x tx ∧ OkM x := by
        obtain rfl | rfl : i = 0 ∨ i = 1 := by (k_extra "om2")
        · exact ⟨_, _, (Option.some.inj hv).symm, ok_dir⟩
        · exact ⟨_, _, (Option.some.inj hv).symm, ok_reg⟩
      rw [form3 e1' e2' e3'] at F3
      clear F5 N5
      obtain ⟨h5, gens5, dr5, tk5, os5⟩ := s₂
      dsimp only at F3 N3 hb₁ ho₁ ⊢
      have lI := allLt_of hnz
      simp only [AllLt, and_true] at lI
      have hl4 : hp'.length ≤ 3 ∨ (0 : Int) < 2 ∧ hp'.length ≤ 4 := .inr ⟨by decide, by (k_extra "om2")⟩
      have hSa : SameO (callR 0 hp' x) (dueR 0 row' x) := ⟨(inv_step hinv' ⟨by decide, by decide⟩ (fun q => by (k_extra "om2")) hl4).2⟩
      k_steps
      rename News _ _ _ _ => N9
      rename Fr _ _ _ _ => F9
      have st := inv_step (d := 0) (x := x) hinv' ⟨by decide, by decide⟩ (fun q => by (k_extra "om2")) hl4
      have sl := call_len (d := 0) (x := x) hinv' ⟨by decide, by decide⟩ (fun q => by (k_extra "om2")) hl4
      have ok := call_ok (d := 0) hinv' ⟨by decide, by decide⟩ (fun q => by (k_extra "om2")) hl4 hoks' hX
      rw [if_pos (by decide)] at sl
      refine ⟨_, [(D2, _), (D, _), (R, _), (H, _), (C + 1 + 1, _), (C + 1, _)], F9, N9, List.forall_mem_cons.mpr ⟨neN (by first | k_extra "ne" | (k_extra "om2")), List.forall_mem_cons.mpr ⟨neN (by first | k_extra "ne" | (k_extra "om2")), List.forall_mem_cons.mpr ⟨neN (by first | k_extra "ne" | (k_extra "om2")), List.forall_mem_cons.mpr ⟨neN (by first | k_extra "ne" | (k_extra "om2")), List.forall_mem_cons.mpr ⟨neN (by first | k_extra "ne" | (k_extra "om2")), List.forall_mem_cons.mpr ⟨neN (by first | k_extra "ne" | (k_extra "om2")), List.forall_mem_nil _⟩⟩⟩⟩⟩⟩, ⟨_, _, _, _, _, _, rfl, rfl, rfl, rfl, by assumption, by assumption, st.1, st.1.len, by rw [sl]; (k_extra "om2"), ok⟩, ?_, ?_⟩
      · intro y
        have y' := hb₁ y
        try dsimp only
        (walk_at "mine bare_go")
      · ((try dsimp only) <;> (walk_at "mine os_go"))
    case hd =>
      intro s' m' news' F6 N6 hJ hb6 ho6
      obtain ⟨vs', rs', n', k', hp', row', e1', e2', e3', rfl, hvs', hrs', hinv', hlen', hn', hoks'⟩ := hJ
      rw [form3 e1' e2' e3'] at F6
      clear F5 N5
      obtain ⟨h6, gens6, dr6, tk6, os6⟩ := s'
      dsimp only at F6 N6 hb6 ho6 ⊢
      have hn2 : hp'.length = hp.length + 2 := hn'
      clear hscr e1' e2' e3' e1 e2 e3
      subst escr
      subst eC ec1 ec2
      k_steps
      rename Int => b
      rename List Nat => c
      rename b ∈ [0] ++ row' => hbm
      rename c ∈ _ => hcm
      have hl5 : hp'.length ≤ 5 := by (k_extra "om2")
      have hb0 : 0 ≤ b := by
        rcases List.mem_cons.mp hbm with rfl | q
        · decide
        · have := okM_range (hoks' b (hinv'.perm.symm.subset q)); (k_extra "om2")
      have hc2 : c.length ≤ 2 := by
        simp only [List.mem_cons, List.not_mem_nil, or_false] at hcm
        rcases hcm with e | e | e <;> rw [e] <;> decide
      refine stop_of ?_
      refine wpAny_with_toks (n := 1) (Nat.succ_le_succ (Nat.zero_le _)) ?_
      have tokmark : TokMark := ⟨⟩
      k_dflt (refine' c_text ?k1 ?k2 ?k3 ?k4 ?k5 ?k6 ?k7 ?k8 ?k9 ?k10 ?_; (case k1 => refine' pushT ?p1 ?p2 ?p3 ?p4; (case p1 => k_asm); (case p2 => k_asm); (case p3 => exact rfl); (case p4 => exact rfl)); (case k2 => k_asm); (case k3 => k_asm); (case k4 => refine has_of (by k_asm) (by k_asm) rfl (List.forall_mem_singleton.mpr ?m); (case m => k_mem)); (case k5 => exact hvs'); (case k6 => exact hl5); (case k7 => exact hc2); (case k8 => exact fun m h => (okM_range (hoks' m h)).2); (case k9 => ktr_room); (case k10 => ktr_units); k_whole; (intro s' t' hE hk9; have F9 := back_fr (by k_asm) (by k_asm) hE (fun _ hq => nomatch hq); have N9 := back_news0 (by k_asm) hE; (try k_sweep); (try dsimp only)))
      have hT := txt_ok (b := b) hl5 hoks' hcm
      have hC := chk_ok (b := b) hl5 hoks' hcm
      have hU := chk_un (b := b) hl5 hoks' hb0 hcm
      generalize hFo : trF hp' b 6 0 = fo at hT
      generalize tx hp' c 12 0 b = xs at *
      k_steps
      refine stop_of ?_
      rename News _ _ _ _ => N7
      rename Fr _ _ _ _ => F7
      refine LCt.CompSrcT.ledger (ax := R) (its := rs'.toArray) (k := k') rfl F7 N7 (by k_mem) (by rw [List.size_toArray, hrs'.length, sizeLine_eq]; (k_extra "om2")) ?_
      intro g5
      refine kci_list (fun l k => if k ≤ b then l ++ [k] else l) hrs' ?_ ?_ (low_grows b)
      · intro k9 t9 I oI C oC Dx m₂ ys l h tk E' hk9 hy hC hx F N off ne mk
        k_steps
        · exact ⟨_, _, _, rfl, by assumption, by assumption, off, .inr ⟨_, by k_mem, rfl, _, rfl⟩, rfl, k9, t9, rfl, if_pos (by assumption)⟩
        · exact ⟨_, _, _, rfl, by assumption, by assumption, off, .inr ⟨_, by k_mem, rfl, _, rfl⟩, rfl, if_neg (by assumption)⟩
      unfold KPfDone
      rw [low_fold]
      intro ys hys _
      unfold LCg.FinA
      intro D' h' tk' F' N' o1'
      simp only [LCg.Off1, and_true] at o1'
      clear F7 N7
      dsimp only at F' N' ⊢
      intro hk9
      have hfl : (flat fo).length ≤ 60 := by
        rw [flat_len, ← hFo]
        have := pre_len (b := b) hinv' hl5
        (k_extra "om2")
      have hx1 : (flat fo).length ≤ 1000 := by (k_extra "om2")
      have hx2 : (uno (flat fo)).length ≤ 1000 := Nat.le_trans (List.length_filter_le _ _) hx1
      have hpl : (pre fo).length ≤ 5 := by rw [← hFo]; exact pre_len hinv' hl5
      have hsg : ((pre fo).flatMap fmL).length = 10 * (pre fo).length := fmap_len _
      k_steps
      refine stop_of ?_
      rename Obj.data _ = Data.cell (some (Value.str _ _)) => d9
      rw [show List.filter (fun d => decide (d ≠ 41)) (List.filter (fun d => decide (d ≠ 40)) (flat fo)) = (pre fo).flatMap fmL from signs_flat fo] at d9
      have hck : ∀ i, i < (pre fo).length → IsTxt (Txt.slice ⟨((pre fo).flatMap fmL).toArray⟩ (some (0 + (i : Int) * 10)) (some (0 + (i : Int) * 10 + 10))) (fmL ((pre fo).getD i 0)) := chunk_txt (pre fo)
      generalize (pre fo).flatMap fmL = sg at d9 hsg hck
      have hx3 : (⟨sg.toArray⟩ : Str).cps.size < 1000000 := by show sg.toArray.size < _; rw [List.size_toArray]; (k_extra "om2")
      k_dflt (refine listComp_step (F₀ := by k_asm) (by with_unfolding_all rfl) (by decide) (by rfl) (by decide) (by rfl) ?_)
      k_steps
      refine stop_of ?_
      rename IsRange _ _ _ _ _ _ _ _ => R8
      rename Fr _ _ _ _ => F8
      rename News _ _ _ _ => N8
      have hsz8 : ((sg.toArray.size : Nat) : Int) = ((10 * (pre fo).length : Nat) : Int) := by rw [List.size_toArray, hsg]
      rw [hsz8] at R8
      refine ⟨_, 0, _, 10, _, _, _, (pre fo).length, _, rfl, rfl, F8, N8, R8, small_step (by (k_extra "om2")), size_step _, by rw [sizeLine_eq]; (k_extra "om2"), ?_⟩
      intro g8
      refine step_rest (fun i => (pre fo).getD i 0) ?_ ?_
      · intro i t8 I oI C oC Dx m₂ ys h tk E' hi hC hx F N off
        have htx := hck i hi
        have hkm : OkM ((pre fo).getD i 0) := by
          refine hoks' _ ?_
          have := (pre_perm b hp' hl5 hinv'.ok).subset (a := (pre fo).getD i 0) (by rw [hFo, List.getD_eq_getElem?_getD, List.getElem?_eq_getElem hi]; exact List.getElem_mem hi)
          exact (List.mem_filter.mp this).1
        clear hck
        k_steps
        exact ⟨_, _, _, rfl, by assumption, by assumption, off, trivial, rfl, _, rfl⟩
      rw [range_getD]
      intro ys8 hys8
      clear hck F8 N8
      unfold LCg.FinE
      intro D8 h8 tk8 F9 N9 o9
      simp only [LCg.Off1, and_true] at o9
      dsimp only at F9 N9 ⊢
      have hlw : (low b row').length ≤ 5 := Nat.le_trans (List.length_filter_le _ _) (by (k_extra "om2"))
      have hlr : (low b row').length ≤ row'.length := List.length_filter_le _ _
      have hsn : SameL ((srt hp').take ((low b row').length : Int).toNat) (low b row') := ⟨by rw [Int.toNat_natCast]; exact small_n hinv'⟩
      have hsz5 : fsz fo ≤ 5 := by rw [fsz_pre]; exact hpl
      have hfo9 : FoOk fo := ⟨hFo ▸ okF_tr hoks' 6 0, by (k_extra "om2"), hsz5⟩
      have hsf : SameF (trF hp' b 6 0) fo := ⟨hFo⟩
      have hx9 : xs.length ≤ 1000 := Nat.le_of_lt (Nat.lt_of_lt_of_le hT.len (by decide))
      have hns : NsmC := nsm_all
      clear hx1 hx2 hx3
      have hrb : SameL (srt (pre fo)) (low b row') := ⟨hFo ▸ read_back hinv' hl5⟩
      have hb66 : AllBare gens6 := hb6 (hb4 (.of_eq hg))
      have ho66 : os6 = s₁.os := ho6.trans ho4
      k_steps
      · exact goodG (end_or hinv' (by assumption)) (by assumption) (by ((try dsimp only) <;> (walk_at "mine os_go"))) (by (try dsimp only); (walk_at "mine bare_go")) (row_raises _) (row_post _)
      · exact goodG (end_and hinv' (by assumption)) (by assumption) (by ((try dsimp only) <;> (walk_at "mine os_go"))) (by (try dsimp only); (walk_at "mine bare_go")) (row_raises _) (row_post _)
end
end Mine
theorem PySem.Challenge.cw_om0101_01_holds : PySem.Challenge.rw_om0101_01.Holds :=
  Mine.law_test

