import PyProof.Rows.All
import Wide.All
import OpenK.AllK
import Wide.FinOn
import PyProof.SetScanFacts
import PyProof.SetNew
import PySem.Challenge.RW_aa0048_01
set_option Elab.async false
set_option linter.all false
set_option maxRecDepth 100000
set_option maxHeartbeats 8000000
namespace Mine
theorem mct {α : Type _} {a : α} (y : α) {l : List α} (h : a ∈ l) : a ∈ y :: l := List.mem_cons_of_mem y h

section
theorem eps_all {α : Type} (ne : Nonempty α) (P : α → Prop) (h : P (@Classical.epsilon α ne fun d => ¬ P d)) (x : α) : P x :=
  Classical.byContradiction fun hn => Classical.epsilon_spec_aux ne (fun d => ¬ P d) ⟨x, hn⟩ h
end

section
open PySem PySem.W PyProof.Rows
noncomputable def defsOf : Bool → List Stmt
  | true => match PySem.Challenge.pw_aa0048_01.main.body[1]? with
    | some (Stmt.ClassDef _ _ _ b _ _ _ _ _ _ _) => b
    | _ => []
  | false => PySem.Challenge.pw_aa0048_01.main.body
noncomputable def defAt (c : Bool) (i : Nat) : Option (Arguments × FuncBody × Scope) :=
  match (defsOf c)[i]? with
  | some (Stmt.FunctionDef _ args body _ _ _ scope _ _ _) => some (args, .stmts body, scope)
  | _ => none
noncomputable def hd.heap_39 : Params → Frag :=
  (fun {p28 b28 s28} {p35 b35 s35} {p42 b42 s42} {p49 b49 s49} {p56 b56 s56} {p63 b63 s63} {p77 b77 s77} {p84 b84 s84} {p89 b89 s89} {p94 b94 s94} (_ : defAt true 2 = some (p28, b28, s28)) (_ : defAt true 3 = some (p35, b35, s35)) (_ : defAt true 4 = some (p42, b42, s42)) (_ : defAt true 5 = some (p49, b49, s49)) (_ : defAt true 6 = some (p56, b56, s56)) (_ : defAt true 7 = some (p63, b63, s63)) (_ : defAt false 3 = some (p77, b77, s77)) (_ : defAt false 4 = some (p84, b84, s84)) (_ : defAt false 5 = some (p89, b89, s89)) (_ : defAt false 6 = some (p94, b94, s94)) => fun P =>
    (nat_lit 2, ⟨.none, none, .dict #[] 0, #[]⟩) ::
    (nat_lit 3, ⟨.type "dict", none, .dict #[⟨PyData.keyHash P (Str.ofString "__name__"), .str (Str.ofString "__name__") 165, .str (Str.ofString "law_aa0048_01") 277⟩, ⟨PyData.keyHash P (Str.ofString "__doc__"), .str (Str.ofString "__doc__") 166, .none⟩, ⟨PyData.keyHash P (Str.ofString "__package__"), .str (Str.ofString "__package__") 167, .none⟩, ⟨PyData.keyHash P (Str.ofString "__loader__"), .str (Str.ofString "__loader__") 168, .builtin "__main__.__loader__#opaque"⟩, ⟨PyData.keyHash P (Str.ofString "__spec__"), .str (Str.ofString "__spec__") 169, .none⟩, ⟨PyData.keyHash P (Str.ofString "__annotations__"), .str (Str.ofString "__annotations__") 170, .ref 6⟩, ⟨PyData.keyHash P (Str.ofString "__builtins__"), .str (Str.ofString "__builtins__") 171, .ref 4⟩, ⟨PyData.keyHash P (Str.ofString "__file__"), .str (Str.ofString "__file__") 173, .str (Str.ofString "/claim/cut.py") 172⟩, ⟨PyData.keyHash P (Str.ofString "__cached__"), .str (Str.ofString "__cached__") 174, .none⟩, ⟨PyData.keyHash P (Str.ofString "Flags"), .str (Str.ofString "Flags") 276, .ref 66⟩, ⟨PyData.keyHash P (Str.ofString "_law_way"), .str (Str.ofString "_law_way") 286, .ref 77⟩, ⟨PyData.keyHash P (Str.ofString "_law_step"), .str (Str.ofString "_law_step") 295, .ref 84⟩, ⟨PyData.keyHash P (Str.ofString "_law_answers"), .str (Str.ofString "_law_answers") 301, .ref 89⟩, ⟨PyData.keyHash P (Str.ofString "law"), .str (Str.ofString "law") 307, .ref 94⟩] 14, #[]⟩) ::
    (nat_lit 6, ⟨.type "dict", none, .dict #[] 0, #[]⟩) ::
    (nat_lit 22, { cls := .type "tuple", data := .seq #[] }) ::
    (nat_lit 24, { cls := .type "tuple", data := .seq #[.str (Str.ofString "self") 208] }) ::
    (nat_lit 25, { cls := .type "tuple", data := .seq #[] }) ::
    (nat_lit 27, { cls := .type "code", data := .fields #[.str (Str.ofString "__init__") 205, .str (Str.ofString "Flags.__init__") 206, .str (Str.ofString "/claim/cut.py") 207, .int 6 0, .int 1 0, .int 0 0, .int 0 0, .int 3 0, .ref 22, .bool true, .int 181 0, .ref 23, .none, .ref 24, .ref 25, .ref 26, .int 209 0, .int 6 0, .str (Str.ofString "/claim/cut.py") 210] }) ::
    (nat_lit 28, ⟨.type "function", none, .func { name := (Str.ofString "__init__"), qualname := (Str.ofString "Flags.__init__"), params := p28, body := b28, scope := s28, globals := 3, closure := [], defaults := .none, kwdefaults := .none, pyModule := .str (Str.ofString "cpy313.tomllib._parser") 187, code := .ref 27 }, #[]⟩) ::
    (nat_lit 29, { cls := .type "tuple", data := .seq #[] }) ::
    (nat_lit 31, { cls := .type "tuple", data := .seq #[.str (Str.ofString "self") 215, .str (Str.ofString "key") 216, .str (Str.ofString "flag") 217] }) ::
    (nat_lit 32, { cls := .type "tuple", data := .seq #[] }) ::
    (nat_lit 34, { cls := .type "code", data := .fields #[.str (Str.ofString "add_pending") 212, .str (Str.ofString "Flags.add_pending") 213, .str (Str.ofString "/claim/cut.py") 214, .int 10 0, .int 3 0, .int 0 0, .int 0 0, .int 3 0, .ref 29, .bool true, .int 181 0, .ref 30, .none, .ref 31, .ref 32, .ref 33, .int 218 0, .int 10 0, .str (Str.ofString "/claim/cut.py") 219] }) ::
    (nat_lit 35, ⟨.type "function", none, .func { name := (Str.ofString "add_pending"), qualname := (Str.ofString "Flags.add_pending"), params := p35, body := b35, scope := s35, globals := 3, closure := [], defaults := .none, kwdefaults := .none, pyModule := .str (Str.ofString "cpy313.tomllib._parser") 187, code := .ref 34 }, #[]⟩) ::
    (nat_lit 36, { cls := .type "tuple", data := .seq #[] }) ::
    (nat_lit 38, { cls := .type "tuple", data := .seq #[.str (Str.ofString "self") 224, .str (Str.ofString "key") 225, .str (Str.ofString "flag") 226] }) ::
    (nat_lit 39, { cls := .type "tuple", data := .seq #[] }) ::
    (nat_lit 41, { cls := .type "code", data := .fields #[.str (Str.ofString "finalize_pending") 221, .str (Str.ofString "Flags.finalize_pending") 222, .str (Str.ofString "/claim/cut.py") 223, .int 13 0, .int 1 0, .int 0 0, .int 0 0, .int 3 0, .ref 36, .bool true, .int 181 0, .ref 37, .none, .ref 38, .ref 39, .ref 40, .int 227 0, .int 13 0, .str (Str.ofString "/claim/cut.py") 228] }) ::
    (nat_lit 42, ⟨.type "function", none, .func { name := (Str.ofString "finalize_pending"), qualname := (Str.ofString "Flags.finalize_pending"), params := p42, body := b42, scope := s42, globals := 3, closure := [], defaults := .none, kwdefaults := .none, pyModule := .str (Str.ofString "cpy313.tomllib._parser") 187, code := .ref 41 }, #[]⟩) ::
    (nat_lit 43, { cls := .type "tuple", data := .seq #[] }) ::
    (nat_lit 45, { cls := .type "tuple", data := .seq #[.str (Str.ofString "self") 233, .str (Str.ofString "key") 234, .str (Str.ofString "cont") 235, .str (Str.ofString "k") 236] }) ::
    (nat_lit 46, { cls := .type "tuple", data := .seq #[] }) ::
    (nat_lit 48, { cls := .type "code", data := .fields #[.str (Str.ofString "unset_all") 230, .str (Str.ofString "Flags.unset_all") 231, .str (Str.ofString "/claim/cut.py") 232, .int 18 0, .int 2 0, .int 0 0, .int 0 0, .int 3 0, .ref 43, .bool true, .int 181 0, .ref 44, .none, .ref 45, .ref 46, .ref 47, .int 237 0, .int 18 0, .str (Str.ofString "/claim/cut.py") 238] }) ::
    (nat_lit 49, ⟨.type "function", none, .func { name := (Str.ofString "unset_all"), qualname := (Str.ofString "Flags.unset_all"), params := p49, body := b49, scope := s49, globals := 3, closure := [], defaults := .none, kwdefaults := .none, pyModule := .str (Str.ofString "cpy313.tomllib._parser") 187, code := .ref 48 }, #[]⟩) ::
    (nat_lit 50, { cls := .type "tuple", data := .seq #[] }) ::
    (nat_lit 52, { cls := .type "tuple", data := .seq #[.str (Str.ofString "self") 243, .str (Str.ofString "key") 244, .str (Str.ofString "flag") 245, .str (Str.ofString "recursive") 246, .str (Str.ofString "cont") 247, .str (Str.ofString "key_parent") 248, .str (Str.ofString "key_stem") 249, .str (Str.ofString "k") 250] }) ::
    (nat_lit 53, { cls := .type "tuple", data := .seq #[] }) ::
    (nat_lit 55, { cls := .type "code", data := .fields #[.str (Str.ofString "set") 240, .str (Str.ofString "Flags.set") 241, .str (Str.ofString "/claim/cut.py") 242, .int 26 0, .int 3 0, .int 0 0, .int 1 0, .int 3 0, .ref 50, .bool true, .int 181 0, .ref 51, .none, .ref 52, .ref 53, .ref 54, .int 251 0, .int 26 0, .str (Str.ofString "/claim/cut.py") 252] }) ::
    (nat_lit 56, ⟨.type "function", none, .func { name := (Str.ofString "set"), qualname := (Str.ofString "Flags.set"), params := p56, body := b56, scope := s56, globals := 3, closure := [], defaults := .none, kwdefaults := .none, pyModule := .str (Str.ofString "cpy313.tomllib._parser") 187, code := .ref 55 }, #[]⟩) ::
    (nat_lit 57, { cls := .type "tuple", data := .seq #[] }) ::
    (nat_lit 59, { cls := .type "tuple", data := .seq #[.str (Str.ofString "self") 257, .str (Str.ofString "key") 258, .str (Str.ofString "flag") 259, .str (Str.ofString "cont") 260, .str (Str.ofString "k") 261, .str (Str.ofString "inner_cont") 262, .str (Str.ofString "key_stem") 263] }) ::
    (nat_lit 60, { cls := .type "tuple", data := .seq #[] }) ::
    (nat_lit 62, { cls := .type "code", data := .fields #[.str (Str.ofString "is_") 254, .str (Str.ofString "Flags.is_") 255, .str (Str.ofString "/claim/cut.py") 256, .int 37 0, .int 3 0, .int 0 0, .int 0 0, .int 3 0, .ref 57, .bool true, .int 181 0, .ref 58, .none, .ref 59, .ref 60, .ref 61, .int 264 0, .int 37 0, .str (Str.ofString "/claim/cut.py") 265] }) ::
    (nat_lit 63, ⟨.type "function", none, .func { name := (Str.ofString "is_"), qualname := (Str.ofString "Flags.is_"), params := p63, body := b63, scope := s63, globals := 3, closure := [], defaults := .none, kwdefaults := .none, pyModule := .str (Str.ofString "cpy313.tomllib._parser") 187, code := .ref 62 }, #[]⟩) ::
    (nat_lit 64, { cls := .type "tuple", data := .seq #[.str (Str.ofString "_flags") 267, .str (Str.ofString "_pending_flags") 268] }) ::
    (nat_lit 65, ⟨.type "dict", none, .dict #[⟨PyData.keyHash P (Str.ofString "__module__"), .str (Str.ofString "__module__") 196, .str (Str.ofString "cpy313.tomllib._parser") 187⟩, ⟨PyData.keyHash P (Str.ofString "__firstlineno__"), .str (Str.ofString "__firstlineno__") 200, .int 2 199⟩, ⟨PyData.keyHash P (Str.ofString "FROZEN"), .str (Str.ofString "FROZEN") 202, .int 0 201⟩, ⟨PyData.keyHash P (Str.ofString "EXPLICIT_NEST"), .str (Str.ofString "EXPLICIT_NEST") 204, .int 1 203⟩, ⟨PyData.keyHash P (Str.ofString "__init__"), .str (Str.ofString "__init__") 211, .ref 28⟩, ⟨PyData.keyHash P (Str.ofString "add_pending"), .str (Str.ofString "add_pending") 220, .ref 35⟩, ⟨PyData.keyHash P (Str.ofString "finalize_pending"), .str (Str.ofString "finalize_pending") 229, .ref 42⟩, ⟨PyData.keyHash P (Str.ofString "unset_all"), .str (Str.ofString "unset_all") 239, .ref 49⟩, ⟨PyData.keyHash P (Str.ofString "set"), .str (Str.ofString "set") 253, .ref 56⟩, ⟨PyData.keyHash P (Str.ofString "is_"), .str (Str.ofString "is_") 266, .ref 63⟩, ⟨PyData.keyHash P (Str.ofString "__static_attributes__"), .str (Str.ofString "__static_attributes__") 269, .ref 64⟩, ⟨PyData.keyHash P (Str.ofString "__dict__"), .str (Str.ofString "__dict__") 271, .ref 67⟩, ⟨PyData.keyHash P (Str.ofString "__weakref__"), .str (Str.ofString "__weakref__") 273, .ref 68⟩, ⟨PyData.keyHash P (Str.ofString "__doc__"), .str (Str.ofString "__doc__") 274, .none⟩] 4, #[]⟩) ::
    (nat_lit 66, ⟨.type "type", none, .cls { name := (Str.ofString "Flags"), bases := [.type "object"], mro := [.ref 66, .type "object"], ns := 65, qualname := (Str.ofString "Flags") }, #[none, none, some (.str (Str.ofString "Flags") 189), some (.str (Str.ofString "Flags") 197), some (.builtin "object.__new__"), some (.bool true)]⟩) ::
    (nat_lit 67, ⟨.type "getset_descriptor", none, .fields #[.str (Str.ofString "__dict__") 270, .ref 66, .builtin "function.__dict__", .builtin "function.__dict__#set"], #[]⟩) ::
    (nat_lit 68, ⟨.type "getset_descriptor", none, .fields #[.str (Str.ofString "__weakref__") 272, .ref 66, .builtin "ExceptionGroup.__weakref__", .none], #[]⟩) ::
    (nat_lit 71, { cls := .type "tuple", data := .seq #[] }) ::
    (nat_lit 73, { cls := .type "tuple", data := .seq #[.str (Str.ofString "number") 282, .str (Str.ofString "way") 283] }) ::
    (nat_lit 74, { cls := .type "tuple", data := .seq #[] }) ::
    (nat_lit 76, { cls := .type "code", data := .fields #[.str (Str.ofString "_law_way") 279, .str (Str.ofString "_law_way") 280, .str (Str.ofString "/claim/cut.py") 281, .int 54 0, .int 1 0, .int 0 0, .int 0 0, .int 3 0, .ref 71, .bool true, .int 181 0, .ref 72, .none, .ref 73, .ref 74, .ref 75, .int 284 0, .int 54 0, .str (Str.ofString "/claim/cut.py") 285] }) ::
    (nat_lit 77, ⟨.type "function", none, .func { name := (Str.ofString "_law_way"), qualname := (Str.ofString "_law_way"), params := p77, body := b77, scope := s77, globals := 3, closure := [], defaults := .none, kwdefaults := .none, pyModule := .str (Str.ofString "law_aa0048_01") 277, code := .ref 76 }, #[]⟩) ::
    (nat_lit 78, { cls := .type "tuple", data := .seq #[] }) ::
    (nat_lit 80, { cls := .type "tuple", data := .seq #[.str (Str.ofString "machine") 290, .str (Str.ofString "x") 291, .str (Str.ofString "way") 292] }) ::
    (nat_lit 81, { cls := .type "tuple", data := .seq #[] }) ::
    (nat_lit 83, { cls := .type "code", data := .fields #[.str (Str.ofString "_law_step") 287, .str (Str.ofString "_law_step") 288, .str (Str.ofString "/claim/cut.py") 289, .int 61 0, .int 3 0, .int 0 0, .int 0 0, .int 3 0, .ref 78, .bool true, .int 181 0, .ref 79, .none, .ref 80, .ref 81, .ref 82, .int 293 0, .int 61 0, .str (Str.ofString "/claim/cut.py") 294] }) ::
    (nat_lit 84, ⟨.type "function", none, .func { name := (Str.ofString "_law_step"), qualname := (Str.ofString "_law_step"), params := p84, body := b84, scope := s84, globals := 3, closure := [], defaults := .none, kwdefaults := .none, pyModule := .str (Str.ofString "law_aa0048_01") 277, code := .ref 83 }, #[]⟩) ::
    (nat_lit 85, { cls := .type "tuple", data := .seq #[] }) ::
    (nat_lit 88, { cls := .type "code", data := .fields #[.str (Str.ofString "_law_answers") 296, .str (Str.ofString "_law_answers") 297, .str (Str.ofString "/claim/cut.py") 298, .int 72 0, .int 2 0, .int 0 0, .int 0 0, .int 3 0, .ref 85, .bool true, .int 181 0, .ref 86, .none, .none, .none, .ref 87, .int 299 0, .int 72 0, .str (Str.ofString "/claim/cut.py") 300] }) ::
    (nat_lit 89, ⟨.type "function", none, .func { name := (Str.ofString "_law_answers"), qualname := (Str.ofString "_law_answers"), params := p89, body := b89, scope := s89, globals := 3, closure := [], defaults := .none, kwdefaults := .none, pyModule := .str (Str.ofString "law_aa0048_01") 277, code := .ref 88 }, #[]⟩) ::
    (nat_lit 90, { cls := .type "tuple", data := .seq #[] }) ::
    (nat_lit 93, { cls := .type "code", data := .fields #[.str (Str.ofString "law") 302, .str (Str.ofString "law") 303, .str (Str.ofString "/claim/cut.py") 304, .int 75 0, .int 1 0, .int 0 0, .int 0 0, .int 3 0, .ref 90, .bool true, .int 181 0, .ref 91, .none, .none, .none, .ref 92, .int 305 0, .int 75 0, .str (Str.ofString "/claim/cut.py") 306] }) ::
    (nat_lit 94, ⟨.type "function", none, .func { name := (Str.ofString "law"), qualname := (Str.ofString "law"), params := p94, body := b94, scope := s94, globals := 3, closure := [], defaults := .none, kwdefaults := .none, pyModule := .str (Str.ofString "law_aa0048_01") 277, code := .ref 93 }, #[]⟩) :: []) rfl rfl rfl rfl rfl rfl rfl rfl rfl rfl
noncomputable def hd.view_39 : Program := view PySem.Challenge.pw_aa0048_01 [1, 3, 4, 5, 6]
noncomputable def hook : Hook := kHook hd.heap_39 [2, 3, 6, 22, 24, 25, 27, 28, 29, 31, 32, 34, 35, 36, 38, 39, 41, 42, 43, 45, 46, 48, 49, 50, 52, 53, 55, 56, 57, 59, 60, 62, 63, 64, 65, 66, 67, 68, 71, 73, 74, 76, 77, 78, 80, 81, 83, 84, 85, 88, 89, 90, 93, 94] (fun _ => by kernel_rfl)
theorem law_said : PySem.Challenge.rw_aa0048_01.wellSaid = true := (congrFun PySem.W.Fast.te9446332074065402090 _).trans (by kernel_rfl)
theorem law_boot : opening PySem.Challenge.pw_aa0048_01 = plainProg PySem.Challenge.pw_aa0048_01.main.scope.names := by kernel_rfl
theorem law_fence (s : Shared) : fenceModules? PySem.Challenge.pw_aa0048_01 s = some s := by kernel_rfl
noncomputable abbrev law_xt (s : Shared) : Bool := xlAt hd.view_39 [] s && recOk (RowW.records PySem.Challenge.rw_aa0048_01.row.toRowW) s
theorem law_run (w : World) (os : OsState) : (topFrom treeTable PySem.Challenge.pw_aa0048_01 w 1222 ⟨boot_heap w.params, #[], boot_drawn, boot_toks, os⟩).map
    (fun s => (openSeen hd.view_39 [Str.ofString "Flags"] (importedModules PySem.Challenge.pw_aa0048_01.main.body) law_xt true s, hook.obs s)) = some (openGood hd.view_39 [Str.ofString "Flags"], hook.val w) := by
  rw [PySem.W.Fast.te14364793385576792824, PySem.W.Fast.te4187177175401517315]
  delta topFrom
  rw [PySem.W.Fast.te14082659384304107361]
  kernel_rfl
theorem law_left : LeftO PySem.Challenge.rw_aa0048_01.row.prog hd.view_39 [Str.ofString "Flags"] law_xt hook.obs hook.val 1222 := fun w => by
  obtain ⟨⟨h, gs, d, k, os⟩, e, e'⟩ := Option.map_eq_some_iff.mp (boot_open (N := 1222) law_boot (by decide) law_fence w)
  obtain ⟨rfl, rfl, rfl, rfl⟩ : h = boot_heap w.params ∧ gs = #[] ∧ d = boot_drawn ∧ k = boot_toks := by simpa using e'
  show ((fencedOpening treeTable PySem.Challenge.pw_aa0048_01 w 1222).bind (topFrom treeTable PySem.Challenge.pw_aa0048_01 w 1222)).map _ = _
  rw [e, Option.bind_some]
  exact law_run w os
theorem hd {d : DefRec} {kwd : List (Str × PySem.Expr)} (hdef : defOf hd.view_39 PySem.Challenge.rw_aa0048_01.row.name = some (d, kwd)) (hp : PySem.Challenge.rw_aa0048_01.row.prog.theDef PySem.Challenge.rw_aa0048_01.row.name = some (d.params, d.body, d.scope))
    (hk : kwWritten? d.params.kwonlyargs d.params.kw_defaults = some kwd) (walk : WalkO hd.view_39 [Str.ofString "Flags"] (XL hd.view_39 []) hook.says PySem.Challenge.rw_aa0048_01.row.toRowW d kwd fun f vs => PySem.call f vs) :
    PySem.Challenge.rw_aa0048_01.Holds := holds_law law_said fun said => by
  refine holds_open (q := hd.view_39) (loose := [Str.ofString "Flags"]) (Xt := law_xt) (XP := XL hd.view_39 []) (Yf := hook.obs) (Ya := hook.val) (YP := hook.says) (N := 1222) law_left hook.of hook.keeps
    (fun s e => xl_of s (Bool.and_eq_true_iff.mp e).1) XL.keeps hdef hp hk (fun s e => recFacts_of (Bool.and_eq_true_iff.mp e).2) (by rfl) said (by decide +kernel) ⟨rfl, rfl, rfl, rfl, rfl, by decide +kernel⟩ ?hw walk
  case hw => w_witness2
theorem kf {P : Prop} (h : (PySem.Challenge.rw_aa0048_01 = PySem.Challenge.rw_aa0048_01 ∧ hd.heap_39 = hd.heap_39) → P) : P := h ⟨rfl, rfl⟩
end

local macro_rules | `(tactic| walk_at "u") => `(tactic| (k_unfold; (try dsimp only)))
section
open PySem PySem.W PyProof.Rows
abbrev G0 {M A Q E s x1 x2 x3 x4} := wpAny M A (subscriptTail x1 x2 x3 x4) Q E s
abbrev G1 {M A Q E s x1 x2 x3} := wpAny M A (compareOp x1 x2 x3) Q E s
abbrev G2 {M A Q E s x1} := wpAny M A (pyIter x1) Q E s
abbrev G3 {M A Q E s x1} := wpAny M A (truthy (Value.ref x1)) Q E s
abbrev G4 {M A Q E s x1 x2 x3} := wpAny M A (setItem x1 x2 x3) Q E s
abbrev G5 {M A Q E s x1 x2 x3} := wpAny M A (getMethod x1 x2 x3) Q E s
abbrev G6 {M A Q E s x1 x2} := wpAny M A (call (Value.builtin "set.add") x1 x2) Q E s
abbrev G7 {M A Q E s x1 x2} := wpAny M A (call (Value.builtin "dict.pop") x1 x2) Q E s
abbrev G8 {M A Q E s x1 x2} := wpAny M A (getMethod x1 (Str.ofString "clear") x2) Q E s
abbrev G9 {M A Q E s x1 x2 x3} := wpAny M A (call (Value.ref x1) x2 x3) Q E s
abbrev G10 {M A Q E s x1 x2} := wpAny M A (call (Value.builtin "set.clear") x1 x2) Q E s
abbrev G11 {M A Q E s x1 x2} := wpAny M A (call (Value.type "set") x1 x2) Q E s
abbrev G12 {M A Q E s x1 x2 x3 x4 x5} := wpAny M A (exec (Stmt.While x1 x2 x3 x4) x5) Q E s
abbrev G13 {M A Q E s x1 x2 x3} := wpAny M A (call (Value.builtin x1) x2 x3) Q E s
abbrev G14 {M A Q E s x1 x2 x3 x4 x5} := wpAny M A (eval (Expr.ListComp x1 x2 x3 x4) x5) Q E s
abbrev G15 {M A Q E s x1 x2 x3 x4 x5 x6 x7} := wpAny M A (exec (Stmt.Assign x1 (Expr.ListComp x2 x3 x4 x5) x6) x7) Q E s
abbrev G16 {M A Q E s x1 x2 x3} := wpAny M A (binaryOp x1 x2 x3) Q E s
abbrev G17 {M A Q E s x1 x2} := wpAny M A (eval (Expr.Name (Str.ofString "machine") x1) x2) Q E s
abbrev G18 {M A Q E s x1 x2} := wpAny M A (call (Value.builtin "list.append") x1 x2) Q E s
abbrev G19 {M A Q E s x1 x2} := wpAny M A (call (Value.builtin "len") x1 x2) Q E s
abbrev G20 {M A Q E s x1 x2} := wpAny M A (call (Value.builtin "list.extend") x1 x2) Q E s
abbrev G21 {M A Q E s x1 x2} := wpAny M A (eval (Expr.Name (Str.ofString "asked") x1) x2) Q E s
abbrev G22 {M A Q E s x1 x2 x3} := wpAny M A (compareOp x1 (Value.ref x2) x3) Q E s
abbrev G23 {M A Q E s x1 x2} := wpAny M A (compareOp CmpOp.In x1 x2) Q E s
abbrev G24 {M A Q E s x1 x2} := wpAny M A (eval (Expr.Name (Str.ofString "way") x1) x2) Q E s
abbrev G25 {M A Q E s x1 x2} := wpAny M A (eval (Expr.Name (Str.ofString "ways") x1) x2) Q E s
abbrev G26 {M A Q E s x1 x2} := wpAny M A (compareOp CmpOp.NotEq x1 x2) Q E s
abbrev G27 {M A Q E s x1 x2} := wpAny M A (storeName x1 (Str.ofString "way") x2) Q E s
abbrev G28 {M A Q E s x1 x2 x3 x4 x5 x6 x7 x8} := wpAny M A (exec (Stmt.For x1 (Expr.Tuple x2 x3 x4) x5 x6 x7) x8) Q E s
abbrev G29 {M A Q E s x1 x2} := wpAny M A (call (Value.builtin "sorted") x1 x2) Q E s
abbrev G30 {M A Q E s x1 x2} := wpAny M A (binaryOp Operator.Add (Value.ref x1) x2) Q E s
abbrev G31 {M A Q E s x1 x2 x3 x4 x5 x6 x7} := wpAny M A (execs (Stmt.For x1 x2 x3 x4 x5 :: x6) x7) Q E s
abbrev G32 {M A Q E s x1 x2 x3 x4 x5 x6} := wpAny M A (exec (Stmt.For x1 x2 x3 x4 x5) x6) Q E s
abbrev G33 {M A Q E s x1 x2 x3 x4 x5 x6} := wpAny M A (execs (Stmt.If x1 x2 x3 x4 :: x5) x6) Q E s
abbrev G34 {M A Q E s x1 x2 x3 x4 x5 x6 x7 x8} := wpAny M A (execs (Stmt.Assign x1 (Expr.ListComp x2 x3 x4 x5) x6 :: x7) x8) Q E s
abbrev G35 {M A Q E s x1 x2 x3} := wpAny M A (binaryOp x1 (Value.ref x2) x3) Q E s
abbrev G36 {M A Q E s x1 x2} := wpAny M A (storeName x1 (Str.ofString "asked") x2) Q E s
abbrev G37 {M A Q E s x1 x2} := wpAny M A (call (Value.type "range") x1 x2) Q E s
abbrev G38 {M A Q E s x1 x2 x3 x4} := wpAny M A (subscriptTail x1 x2 (Value.ref x3) x4) Q E s
abbrev G39 {M A Q E s x1 x2 x3 x4} := wpAny M A (subscriptTail x1 x2 (Value.ref x3) (Value.ref x4)) Q E s
abbrev G40 {M A Q E s x1 x2 x3 x4 x5 x6 x7 x8 x9 x10 x11 x12} := wpAny M A (execs (Stmt.Assign x1 (Expr.List x2 x3) x4 :: Stmt.For x5 (Expr.Name x6 x7) x8 x9 x10 :: x11) x12) Q E s
abbrev G41 {M A Q E s x1 x2 x3 x4 x5 x6 x7 x8 x9 x10 x11} := wpAny M A (execs (Stmt.Assign x1 (Expr.List x2 x3) x4 :: Stmt.For x5 x6 x7 x8 x9 :: x10) x11) Q E s
abbrev G42 {M A Q E s x1 x2 x3 x4 x5 x6 x7 x8} := wpAny M A (execs (Stmt.Assign x1 (Expr.Call x2 x3 x4 x5) x6 :: x7) x8) Q E s
abbrev G43 {M A Q E s x1 x2} := wpAny M A (eval (Expr.Name (Str.ofString "script") x1) x2) Q E s
abbrev G44 {M A Q E s x1 x2} := wpAny M A (eval (Expr.Name (Str.ofString "places") x1) x2) Q E s
abbrev G45 {M A Q E s x1 x2 x3 x4} := wpAny M A (execs (Stmt.Expr x1 x2 :: x3) x4) Q E s
abbrev G46 {M A Q E s x1 x2 x3 x4 x5} := wpAny M A (execs (Stmt.Assign x1 x2 x3 :: x4) x5) Q E s
abbrev G47 {M A Q E s x1 x2} := wpAny M A (storeName x1 (Str.ofString "places") x2) Q E s
abbrev G48 {M A Q E s x1 x2} := wpAny M A (storeName x1 (Str.ofString "ways") x2) Q E s
end

section
section
variable {α : Type} {a e : α} {l l1 l2 W : List α} {P : α → Prop}
noncomputable abbrev Sub (l W : List α) : Prop := ∀ e, e ∈ l → e ∈ W
theorem sub_go (he : e ∈ l) (h : Sub l W) : e ∈ W := h e he
theorem sub_nil : Sub [] W := fun _ h => nomatch h
theorem sub_cons (h : a ∈ W) (h2 : Sub l W) : Sub (a :: l) W := fun _ he => by
  cases he with
  | head => exact h
  | tail _ he => exact h2 _ he
theorem sub_app (h1 : Sub l1 W) (h2 : Sub l2 W) : Sub (l1 ++ l2) W := fun _ he => (List.mem_append.mp he).elim (h1 _) (h2 _)
theorem sub_end : Sub l l := fun _ h => h
theorem sub_tl (h : Sub l W) : Sub l (a :: W) := fun _ he => mct _ (h _ he)
theorem sub_l (h : Sub l l1) : Sub l (l1 ++ l2) := fun _ he => List.mem_append_left _ (h _ he)
theorem sub_r (h : Sub l l2) : Sub l (l1 ++ l2) := fun _ he => List.mem_append_right _ (h _ he)
theorem mem_ca {x : α} (h : a ∈ x :: (l1 ++ l2)) : a ∈ (x :: l1) ++ l2 := h
theorem sub_ca {x : α} (h : Sub l (x :: (l1 ++ l2))) : Sub l ((x :: l1) ++ l2) := h
theorem sub_lca {x : α} (h : Sub (x :: (l1 ++ l2)) W) : Sub ((x :: l1) ++ l2) W := h
theorem mem_na (h : a ∈ l2) : a ∈ ([] : List α) ++ l2 := h
theorem sub_na (h : Sub l l2) : Sub l (([] : List α) ++ l2) := h
theorem sub_lna (h : Sub l2 W) : Sub (([] : List α) ++ l2) W := h
@[elab_as_elim] theorem all_cons (he : e ∈ a :: l) (h1 : P a) (h2 : e ∈ l → P e) : P e := by
  cases he with
  | head => exact h1
  | tail _ he => exact h2 he
@[elab_as_elim] theorem all_one (he : e ∈ [a]) (h1 : P a) : P e := all_cons he h1 fun h => nomatch h
@[elab_as_elim] theorem all_app (he : e ∈ l1 ++ l2) (h1 : e ∈ l1 → P e) (h2 : e ∈ l2 → P e) : P e := (List.mem_append.mp he).elim h1 h2
end
theorem room {a b k n : Nat} (h : a + k < n) (hb : b ≤ k := by decide) : a + b < n := Nat.lt_of_le_of_lt (Nat.add_le_add_left hb a) h
theorem room2 {a b c k n : Nat} (h : a + k < n) (hb : c + b ≤ k := by decide) : a + c + b < n := Nat.lt_of_le_of_lt ((Nat.add_assoc a c b).symm ▸ Nat.add_le_add_left hb a) h
theorem room0 {a k n : Nat} (h : a + k < n) : a < n := Nat.lt_of_le_of_lt (Nat.le_add_right a k) h
theorem le_small {a b c : Nat} (h : a ≤ b) (hb : b < c := by decide) : a < c := Nat.lt_of_le_of_lt h hb
end

local macro_rules | `(tactic| walk_at "mem") => `(tactic| with_reducible first | exact List.mem_cons_self | (refine List.mem_cons_of_mem _ ?_; walk_at "mem") | (refine mem_ca ?_; walk_at "mem") | (refine mem_na ?_; walk_at "mem") | (refine List.mem_append_left _ ?_; walk_at "mem") | (refine List.mem_append_right _ ?_; walk_at "mem") | assumption)
local macro_rules | `(tactic| walk_at "blk") => `(tactic| with_reducible first | exact sub_end | (refine sub_tl ?_; walk_at "blk") | (refine sub_ca ?_; walk_at "blk") | (refine sub_na ?_; walk_at "blk") | (refine sub_l ?_; walk_at "blk") | (refine sub_r ?_; walk_at "blk") | assumption)
local macro_rules | `(tactic| walk_at "sub") => `(tactic| with_reducible first | exact sub_nil | (refine sub_cons ?_ ?_; (focus (walk_at "mem")); walk_at "sub") | (refine sub_lca ?_; walk_at "sub") | (refine sub_lna ?_; walk_at "sub") | (refine sub_app ?_ ?_ <;> walk_at "sub") | walk_at "blk")
section
open PySem
open SetTable
noncomputable def lcg (mask i : Nat) : Nat := (i * 5 + 1) % (mask + 1)
noncomputable def lcgN (mask : Nat) : Nat → Nat → Nat
  | 0, i => i
  | n + 1, i => lcgN mask n (lcg mask i)
theorem lcgN_add (mask : Nat) : ∀ a b i, lcgN mask (a + b) i = lcgN mask b (lcgN mask a i)
  | 0, b, i => by rw [Nat.zero_add]; rfl
  | a + 1, b, i => by rw [Nat.add_right_comm]; exact lcgN_add mask a b (lcg mask i)
noncomputable def GoodMask (mask : Nat) : Prop := mask = 7 ∨ mask = 31 ∨ mask = 127
noncomputable def lcgList (mask : Nat) : Nat → Nat → List Nat
  | 0, _ => []
  | n + 1, i => i :: lcgList mask n (lcg mask i)
theorem mem_lcgList {mask : Nat} : ∀ {n i j : Nat}, j ∈ lcgList mask n i → ∃ k, k < n ∧ lcgN mask k i = j
  | 0, _, _, h => nomatch h
  | n + 1, i, j, h => by
    rcases List.mem_cons.mp h with rfl | h
    · exact ⟨0, Nat.succ_pos _, rfl⟩
    · obtain ⟨k, hk, e⟩ := mem_lcgList h
      exact ⟨k + 1, Nat.succ_lt_succ hk, e⟩
theorem orbit0 {mask : Nat} (hm : GoodMask mask) : ∀ j, j ≤ mask → ∃ k, k ≤ mask ∧ lcgN mask k 0 = j := by
  have key : ∀ m, (∀ j < m + 1, j ∈ lcgList m (m + 1) 0) → ∀ j, j ≤ m → ∃ k, k ≤ m ∧ lcgN m k 0 = j := fun m h j hj => by
    obtain ⟨k, hk, e⟩ := mem_lcgList (h j (Nat.lt_succ_of_le hj))
    exact ⟨k, Nat.le_of_lt_succ hk, e⟩
  rcases hm with rfl | rfl | rfl
  · exact key 7 (by decide +kernel)
  · exact key 31 (by decide +kernel)
  · exact key 127 (by decide +kernel)
theorem back0 {mask : Nat} (hm : GoodMask mask) : lcgN mask (mask + 1) 0 = 0 := by
  rcases hm with rfl | rfl | rfl <;> decide +kernel
theorem orbit {mask : Nat} (hm : GoodMask mask) {i j : Nat} (hi : i ≤ mask) (hj : j ≤ mask) : ∃ k, k ≤ mask ∧ lcgN mask k i = j := by
  obtain ⟨a, ha, ea⟩ := orbit0 hm i hi
  obtain ⟨b, hb, eb⟩ := orbit0 hm j hj
  by_cases h : a ≤ b
  · refine ⟨b - a, by omega, ?_⟩
    rw [← ea, ← lcgN_add, show a + (b - a) = b by omega]; exact eb
  · refine ⟨mask + 1 - a + b, by omega, ?_⟩
    rw [← ea, ← lcgN_add, show a + (mask + 1 - a + b) = (mask + 1) + b by omega, lcgN_add, back0 hm]; exact eb
noncomputable def leapN (mask : Nat) : Nat → Nat × Nat → Nat × Nat
  | 0, x => x
  | n + 1, x => leapN mask n (leap mask x.1 x.2)
theorem leapN_add (mask : Nat) : ∀ a b x, leapN mask (a + b) x = leapN mask b (leapN mask a x)
  | 0, b, x => by rw [Nat.zero_add]; rfl
  | a + 1, b, x => by rw [Nat.add_right_comm]; exact leapN_add mask a b _
theorem leapN_perturb (mask : Nat) : ∀ n x, (leapN mask n x).2 = x.2 / 32 ^ n
  | 0, x => by simp [leapN]
  | n + 1, x => by
    show (leapN mask n (leap mask x.1 x.2)).2 = _
    rw [leapN_perturb mask n]
    show x.2 / 32 / 32 ^ n = _
    rw [Nat.div_div_eq_div_mul, Nat.pow_succ, Nat.mul_comm]
theorem leapN_small (mask : Nat) : ∀ n x, x.2 < 32 → (leapN mask n x).1 = lcgN mask n x.1 ∧ (leapN mask n x).2 < 32
  | 0, _, h => ⟨rfl, h⟩
  | n + 1, x, h => by
    have h0 : x.2 / 32 = 0 := Nat.div_eq_of_lt h
    have e : leap mask x.1 x.2 = (lcg mask x.1, 0) := by unfold leap lcg; rw [h0]
    show (leapN mask n (leap mask x.1 x.2)).1 = lcgN mask n (lcg mask x.1) ∧ _
    rw [e]
    obtain ⟨a, b⟩ := leapN_small mask n (lcg mask x.1, 0) (Nat.succ_pos 31)
    exact ⟨a, by show (leapN mask n (leap mask x.1 x.2)).2 < 32; rw [e]; exact b⟩
theorem leapN_le (mask : Nat) : ∀ n x, x.1 ≤ mask → (leapN mask n x).1 ≤ mask
  | 0, _, h => h
  | n + 1, _, _ => leapN_le mask n _ (Nat.le_of_lt_succ (Nat.mod_lt _ (Nat.succ_pos _)))
theorem leap_meets {mask : Nat} (hm : GoodMask mask) {x : Nat × Nat} (hp : x.2 < 2 ^ 64) (hi : x.1 ≤ mask) {j : Nat} (hj : j ≤ mask) : ∃ k, k ≤ mask + 12 ∧ (leapN mask k x).1 = j := by
  have h1 : (leapN mask 12 x).2 < 32 := by
    rw [leapN_perturb]
    refine Nat.div_lt_of_lt_mul ?_
    exact Nat.lt_of_lt_of_le hp (by decide)
  obtain ⟨k, hk, e⟩ := orbit hm (leapN_le mask 12 x hi) hj
  exact ⟨12 + k, by lia, by rw [leapN_add, (leapN_small mask k _ h1).1]; exact e⟩
theorem bits_lt (h : Int) : bits h < 2 ^ 64 := by
  unfold bits
  have h1 : 0 ≤ h % (2 ^ 64 : Int) := Int.emod_nonneg _ (by decide)
  have h2 : h % (2 ^ 64 : Int) < 2 ^ 64 := Int.emod_lt_of_pos _ (by decide)
  lia
theorem runEnd_ge (mask i : Nat) : i ≤ runEnd mask i := by unfold runEnd; split <;> lia
theorem runEnd_le (mask i : Nat) : runEnd mask i ≤ i + 9 := by unfold runEnd; split <;> lia
theorem nodup_length_le {α : Type} [DecidableEq α] : ∀ {l l' : List α}, l.Nodup → (∀ x ∈ l, x ∈ l') → l.length ≤ l'.length
  | [], _, _, _ => Nat.zero_le _
  | x :: r, l', hn, hs => by
    obtain ⟨hx, hr⟩ := List.nodup_cons.mp hn
    have hm := hs x List.mem_cons_self
    have := nodup_length_le (l := r) (l' := l'.erase x) hr fun y hy => (List.mem_erase_of_ne (fun (e : y = x) => hx (by rw [← e]; exact hy))).mpr (hs y (mct _ hy))
    rw [List.length_erase_of_mem hm] at this
    have := List.length_pos_of_mem hm
    rw [List.length_cons]
    omega
theorem free_slot {place : Array Nat} {mask : Nat} (h : place.size ≤ mask) : ∃ j, j ≤ mask ∧ j ∉ place.toList := by
  apply Classical.byContradiction
  intro hno
  have hall : ∀ j ∈ List.range (mask + 1), j ∈ place.toList := fun j hj => by
    apply Classical.byContradiction
    intro hn
    exact hno ⟨j, Nat.le_of_lt_succ (List.mem_range.mp hj), hn⟩
  have := nodup_length_le List.nodup_range hall
  rw [List.length_range, Array.length_toList] at this
  lia
structure TabOk (t : SetTable) (n : Nat) : Prop where
  dummies : t.dummies = #[]
  size : t.place.size = n
  mask : GoodMask t.mask
  room : n * 5 < t.mask * 3
theorem TabOk.fits {t : SetTable} {n : Nat} (h : TabOk t n) : t.fits n = true := by
  have := h.room
  have := h.size
  simp [SetTable.fits, SetTable.fill, h.dummies]
  lia
theorem TabOk.not_gave {t : SetTable} {n : Nat} (h : TabOk t n) : t.gaveWay = false := by
  unfold SetTable.gaveWay
  rcases h.mask with e | e | e <;> rw [e] <;> rfl
theorem has_nil (j : Nat) : has #[] j = false := by simp [has, below, below.go]
theorem slot_of {t : SetTable} (h : t.dummies = #[]) (j : Nat) : t.slot j = .empty ∨ ∃ i, t.slot j = .live i ∧ t.place[i]? = some j := by
  unfold SetTable.slot
  dsimp only
  rw [h, has_nil]
  split
  · rename_i e
    exact .inr ⟨_, rfl, eq_of_beq e⟩
  · exact .inl (by simp)
theorem slot_empty_of {t : SetTable} (h : t.dummies = #[]) {j : Nat} (hj : j ∉ t.place.toList) : t.slot j = .empty := by
  rcases slot_of h j with e | ⟨i, _, e⟩
  · exact e
  · exact absurd (Array.mem_toList_iff.mpr (Array.mem_of_getElem? e)) hj
noncomputable def advN (t : SetTable) : Nat → Probe → Probe
  | 0, p => p
  | n + 1, p => advN t n (t.advance p)
theorem advN_add (t : SetTable) : ∀ a b p, advN t (a + b) p = advN t b (advN t a p)
  | 0, b, p => by rw [Nat.zero_add]; rfl
  | a + 1, b, p => by rw [Nat.add_right_comm]; exact advN_add t a b _
structure ProbeOk (t : SetTable) (p : Probe) : Prop where
  more : p.more ≤ 9
  i : p.i ≤ t.mask
  perturb : p.perturb < 2 ^ 64
  dummy : p.dummy = none
theorem advance_run {t : SetTable} {p : Probe} (h : 0 < p.more) : t.advance p = { p with j := p.j + 1, more := p.more - 1 } := by
  unfold SetTable.advance; rw [if_pos h]
theorem advance_leap {t : SetTable} {p : Probe} (h : p.more = 0) : t.advance p = { j := (leap t.mask p.i p.perturb).1, more := runEnd t.mask (leap t.mask p.i p.perturb).1 - (leap t.mask p.i p.perturb).1, i := (leap t.mask p.i p.perturb).1, perturb := (leap t.mask p.i p.perturb).2, dummy := p.dummy } := by
  unfold SetTable.advance; rw [if_neg (by lia)]
theorem ProbeOk.advance {t : SetTable} {p : Probe} (h : ProbeOk t p) : ProbeOk t (t.advance p) := by
  rcases Nat.eq_zero_or_pos p.more with e | e
  · rw [advance_leap e]
    have := runEnd_le t.mask (leap t.mask p.i p.perturb).1
    refine ⟨by show _ - _ ≤ 9; omega, Nat.le_of_lt_succ (Nat.mod_lt _ (Nat.succ_pos _)), ?_, h.dummy⟩
    exact Nat.lt_of_le_of_lt (Nat.div_le_self _ _) h.perturb
  · rw [advance_run e]
    exact ⟨by show p.more - 1 ≤ 9; have := h.more; omega, h.i, h.perturb, h.dummy⟩
theorem to_leap (t : SetTable) : ∀ n p, p.more = n → advN t (n + 1) p = { j := (leap t.mask p.i p.perturb).1, more := runEnd t.mask (leap t.mask p.i p.perturb).1 - (leap t.mask p.i p.perturb).1, i := (leap t.mask p.i p.perturb).1, perturb := (leap t.mask p.i p.perturb).2, dummy := p.dummy }
  | 0, p, h => advance_leap h
  | n + 1, p, h => by
    show advN t (n + 1) (t.advance p) = _
    rw [advance_run (by lia : 0 < p.more), to_leap t n _ (by show p.more - 1 = n; omega)]
theorem run_to (t : SetTable) : ∀ k p, ProbeOk t p → ∃ n, n ≤ 10 * (k + 1) ∧ (advN t n p).j = (leapN t.mask (k + 1) (p.i, p.perturb)).1 ∧ (advN t n p).i = (leapN t.mask (k + 1) (p.i, p.perturb)).1 ∧ (advN t n p).perturb = (leapN t.mask (k + 1) (p.i, p.perturb)).2
  | 0, p, h => ⟨p.more + 1, by have := h.more; lia, by rw [to_leap t _ p rfl]; exact ⟨rfl, rfl, rfl⟩⟩
  | k + 1, p, h => by
    have hn : ProbeOk t (advN t (p.more + 1) p) := by
      have all : ∀ n q, ProbeOk t q → ProbeOk t (advN t n q) := fun n => by
        induction n with
        | zero => exact fun q hq => hq
        | succ n ih => exact fun q hq => ih _ hq.advance
      exact all _ _ h
    obtain ⟨n, a, b, c, d⟩ := run_to t k _ hn
    refine ⟨p.more + 1 + n, by have := h.more; lia, ?_⟩
    rw [advN_add]
    have e : ((advN t (p.more + 1) p).i, (advN t (p.more + 1) p).perturb) = leap t.mask p.i p.perturb := by rw [to_leap t _ p rfl]
    rw [e] at b c d
    exact ⟨b, c, d⟩
theorem meets_empty {t : SetTable} {n : Nat} (T : TabOk t n) {p : Probe} (h : ProbeOk t p) : ∃ m, m < 10 * turns t.mask ∧ t.slot (advN t m p).j = .empty := by
  obtain ⟨j, hj, hf⟩ := free_slot (place := t.place) (mask := t.mask) (by have := T.size; have := T.room; lia)
  have hp : (leap t.mask p.i p.perturb).2 < 2 ^ 64 := Nat.lt_of_le_of_lt (Nat.div_le_self _ _) h.perturb
  have hi : (leap t.mask p.i p.perturb).1 ≤ t.mask := Nat.le_of_lt_succ (Nat.mod_lt _ (Nat.succ_pos _))
  obtain ⟨k, hk, e⟩ := leap_meets T.mask hp hi hj
  obtain ⟨m, hm, a, _, _⟩ := run_to t k p h
  refine ⟨m, by unfold turns; lia, ?_⟩
  rw [a]
  show t.slot (leapN t.mask k (leap t.mask p.i p.perturb)).1 = _
  rw [e]
  exact slot_empty_of T.dummies hf
theorem probe_meets {t : SetTable} (hd : t.dummies = #[]) (hashAt : Nat → Int) (h : Int) : ∀ fuel m p, ProbeOk t p → m < fuel → t.slot (advN t m p).j = .empty →
    (∃ j, SetTable.probe.go t hashAt h fuel p = some (.empty j none) ∧ t.slot j = .empty) ∨
    (∃ j i k q, SetTable.probe.go t hashAt h fuel p = some (.candidate j i q) ∧ t.slot j = .live i ∧ t.place[i]? = some j ∧ hashAt i = h ∧ k < m ∧ ProbeOk t q ∧ t.slot (advN t k q).j = .empty)
  | 0, _, _, _, hm, _ => absurd hm (Nat.not_lt_zero _)
  | fuel + 1, m, p, hp, hm, he => by
    unfold SetTable.probe.go
    rcases slot_of hd p.j with e | ⟨i, e, ei⟩
    · rw [e, hp.dummy]
      exact .inl ⟨p.j, rfl, e⟩
    · rw [e]
      dsimp only
      have m1 : ∃ k, m = k + 1 := by
        cases m with
        | zero => have : t.slot p.j = .empty := he; rw [e] at this; cases this
        | succ k => exact ⟨k, rfl⟩
      obtain ⟨k, rfl⟩ := m1
      by_cases hh : (hashAt i == h) = true
      · rw [if_pos hh]
        exact .inr ⟨p.j, i, k, _, rfl, e, ei, eq_of_beq hh, Nat.lt_succ_self _, hp.advance, he⟩
      · rw [if_neg hh]
        rcases probe_meets hd hashAt h fuel k _ hp.advance (by lia) he with x | ⟨j, i', k', q, a, b, c, d, e1, f⟩
        · exact .inl x
        · exact .inr ⟨j, i', k', q, a, b, c, d, Nat.lt_succ_of_lt e1, f⟩
theorem probeStart_ok {t : SetTable} (h : Int) : ProbeOk t (t.probeStart h) := by
  have := runEnd_le t.mask (bits h % (t.mask + 1))
  exact ⟨by show _ - _ ≤ 9; omega, Nat.le_of_lt_succ (Nat.mod_lt _ (Nat.succ_pos _)), bits_lt h, rfl⟩
end

section
open PySem PySem.SeqAt
open SetTable
section
variable {prog : PySem.Program} {w : World} {A : Around} {E : Value → Shared → Prop} {s : Shared}
noncomputable abbrev Way (prog : PySem.Program) (w : World) (h : Heap) (p : List Str) (a : Addr) : Prop := IsTupleKey (strKind prog w) h p a
noncomputable def PairAt (prog : PySem.Program) (w : World) (h : Heap) (k : List Str × Int) (a : Addr) : Prop :=
  ∃ b t, h.IsTuple a #[.ref b, .int k.2 t] ∧ Way prog w h k.1 b
theorem itemsAre_eqAt {p q : List Str} : ∀ {xs ys : List Value} (_ : ItemsAre (strKind prog w) p xs) (_ : ItemsAre (strKind prog w) q ys),
    ∃ e : Nat → Bool, (∀ j (h1 : j < xs.length) (h2 : j < ys.length), EqAt A s xs[j] ys[j] (e j)) ∧ ((List.range (min xs.length ys.length)).all e && xs.length == ys.length) = decide (p = q) := by
  induction p generalizing q with
  | nil =>
    intro xs ys hx hy
    cases hx
    refine ⟨fun _ => true, fun j h1 => absurd h1 (Nat.not_lt_zero _), ?_⟩
    cases hy with
    | nil => simp
    | cons _ _ => simp
  | cons k p ih =>
    intro xs ys hx hy
    cases hx with
    | @cons _ v _ xs' h1 hx' =>
      cases hy with
      | nil => exact ⟨fun _ => true, fun j _ h2 => absurd h2 (Nat.not_lt_zero _), by simp⟩
      | @cons k2 v2 q' ys' h2 hy' =>
        obtain ⟨e, he, ha⟩ := ih hx' hy'
        obtain ⟨t, rfl⟩ := Value.isStrOf_shape h1
        obtain ⟨u, rfl⟩ := Value.isStrOf_shape h2
        refine ⟨fun j => match j with | 0 => k == k2 | j + 1 => e j, ?_, ?_⟩
        · intro j h1 h2
          cases j with
          | zero => exact EqAt.str_str k t k2 u
          | succ j => exact he j (by simpa using h1) (by simpa using h2)
        · simp only [List.length_cons]
          have hm : min (xs'.length + 1) (ys'.length + 1) = min xs'.length ys'.length + 1 := by lia
          rw [hm, List.range_succ_eq_map, List.all_cons, List.all_map]
          have e1 : ((fun j => match j with | 0 => k == k2 | j + 1 => e j) ∘ Nat.succ) = e := rfl
          rw [e1]
          have e2 : (xs'.length + 1 == ys'.length + 1) = (xs'.length == ys'.length) := by
            rw [Bool.eq_iff_iff]; simp
          rw [e2, Bool.and_assoc, ha]
          by_cases hk : k = k2
          · subst hk
            by_cases hp : p = q' <;> simp [hp]
          · simp [hk]
theorem way_isTuple {h : Heap} {p : List Str} {a : Addr} (x : Way prog w h p a) : ∃ its, h.IsTuple a its ∧ ItemsAre (strKind prog w) p its.toList := by
  obtain ⟨o, its, n, ho, hc, hd, hi⟩ := x
  exact ⟨its, ⟨o, ho, hc, n, hd⟩, hi⟩
theorem way_rcAt {p q : List Str} {a b : Addr} (hx : Way prog w s.heap p a) (hy : Way prog w s.heap q b) (hu : A.units < cLine) : RcAt A s (.ref a) (.ref b) (decide (p = q)) := by
  obtain ⟨xs, hl, hi⟩ := way_isTuple hx
  obtain ⟨ys, hb, hj⟩ := way_isTuple hy
  obtain ⟨e, he, ha⟩ := itemsAre_eqAt (A := A.in1) (s := s) hi hj
  have := RcAt.tuples (A := A) (e := e) hl hb hu fun j h1 h2 => by
    have := he j (by simpa using h1) (by simpa using h2)
    simpa only [Array.getElem_toList] using this
  simp only [Array.length_toList] at ha
  rw [ha] at this
  exact this
theorem way_eqAt {p q : List Str} {a b : Addr} (hx : Way prog w s.heap p a) (hy : Way prog w s.heap q b) (hu : A.units < cLine) : EqAt A s (.ref a) (.ref b) (decide (p = q)) := by
  by_cases h : a = b
  · subst h
    obtain rfl := hx.inj hy
    have := EqAt.same (A := A) (s := s) (.ref a)
    simpa using this
  · exact EqAt.of_refs h (way_rcAt hx hy hu)
theorem pair_eqAt {k l : List Str × Int} {a b : Addr} (hx : PairAt prog w s.heap k a) (hy : PairAt prog w s.heap l b) (hu : A.units + 1 < cLine) : EqAt A s (.ref a) (.ref b) (decide (k = l)) := by
  by_cases h : a = b
  · subst h
    obtain ⟨b1, t1, ha, hw⟩ := hx
    obtain ⟨b2, t2, hb, hw2⟩ := hy
    obtain ⟨o, ho, hc, n, hd⟩ := ha
    obtain ⟨o', ho', hc', n', hd'⟩ := hb
    rw [ho] at ho'
    cases ho'
    rw [hd] at hd'
    obtain ⟨⟨rfl, e2, -⟩, -⟩ : (b1 = b2 ∧ k.2 = l.2 ∧ t1 = t2) ∧ n = n' := by simpa using hd'
    have e1 := hw.inj hw2
    have e : k = l := Prod.ext e1 e2
    have := EqAt.same (A := A) (s := s) (.ref a)
    simpa [e] using this
  · obtain ⟨b1, t1, ha, hw⟩ := hx
    obtain ⟨b2, t2, hb, hw2⟩ := hy
    refine EqAt.of_refs h ?_
    have := RcAt.tuples (A := A) (e := fun j => match j with | 0 => decide (k.1 = l.1) | _ => k.2 == l.2) ha hb (by omega) fun j h1 h2 => by
      match j, h1 with
      | 0, _ => exact way_eqAt hw hw2 (by simpa using hu)
      | 1, _ => exact EqAt.int_int k.2 t1 l.2 t2
      | j + 2, h1 => exact absurd h1 (by simp)
    have e : ((List.range (min (#[Value.ref b1, Value.int k.2 t1] : Array Value).size (#[Value.ref b2, Value.int l.2 t2] : Array Value).size)).all (fun j => match j with | 0 => decide (k.1 = l.1) | _ => k.2 == l.2) && (#[Value.ref b1, Value.int k.2 t1] : Array Value).size == (#[Value.ref b2, Value.int l.2 t2] : Array Value).size) = decide (k = l) := by
      show ((List.range 2).all (fun j => match j with | 0 => decide (k.1 = l.1) | _ => k.2 == l.2) && (2 == 2)) = _
      obtain ⟨k1, k2⟩ := k
      obtain ⟨l1, l2⟩ := l
      have hr : List.range 2 = [0, 1] := rfl
      rw [hr]
      by_cases h1 : k1 = l1 <;> by_cases h2 : k2 = l2 <;> simp [h1, h2]
    rw [e] at this
    exact this
noncomputable def pairHash (w : World) (prog : PySem.Program) (k : List Str × Int) : Int := reduceHash (Builtin.Tuple.tupleHashOf [tupleKeyHash (strKind prog w) k.1, hashInt k.2])
theorem pyHash_pair {k : List Str × Int} {a : Addr} {Q : Int → Shared → Prop} (hu : A.units + 2 < cLine) (hk : PairAt prog w s.heap k a)
    (h : ∀ tk, Q (pairHash w prog k) { s with toks := tk }) : wpAny (model prog w) A (pyHash (.ref a)) Q E s := by
  obtain ⟨b, t, ⟨o, ho, hc, n, hd⟩, hw⟩ := hk
  have hT : s.TypeIs (.ref a) "tuple" := ⟨o, ho, hc⟩
  first | unfold pyHashByItsType | skip
  first | refine wpAny_bind (wpAny_cRoomFor_or (.inr (by omega)) ?_) | skip
  refine wpAny_bind (wpAny_specialOf hT F.slot_tuple_hash.lookup ?_)
  rw [if_neg (by rw [beq_builtin_none]; exact Bool.false_ne_true)]
  refine wpAny_bind (wpAny_specialOf hT F.slot_tuple_hash.lookup ?_)
  refine wpAny_bind (wpAny_callSpecialIfBoundUnlessNone?_slot hT F.slot_tuple_hash (wpAny_call_entry F.slot_tuple_hash hT F.entry_tuple_hash ?_ (F.args_tuple_hash_1 _)))
  show wpAny _ _ (Builtin.Tuple.tupleItemsOf (.ref a) >>= _) _ _ s
  refine wpAny_bind (wpAny_tupleItemsOf ho hd ?_)
  refine wpAny_bind ?_
  rw [← Array.forIn_toList]
  rw [List.forIn_cons]
  refine wpAny_bind (wpAny_bind (wpAny_pyHash_tuple (by show A.units + 1 < cLine; omega) hw ?_))
  refine wpAny_bind (wpAny_pure ?_)
  refine wpAny_pure ?_
  dsimp only
  rw [List.forIn_cons]
  refine wpAny_bind (wpAny_bind (wpAny_pyHash_int ?_))
  refine wpAny_bind (wpAny_pure ?_)
  refine wpAny_pure ?_
  dsimp only
  refine wpAny_pure ?_
  show wpAny _ _ (retInt _) _ _ _
  refine wpAny_ret_mkInt ?_
  show wpAny _ _ (if (decide (-(2 : Int) ^ 63 ≤ Builtin.Tuple.tupleHashOf [tupleKeyHash (strKind prog w) k.1, hashInt k.2]) && decide (Builtin.Tuple.tupleHashOf [tupleKeyHash (strKind prog w) k.1, hashInt k.2] < 2 ^ 63)) = true then _ else _) Q E _
  unfold pairHash reduceHash at h
  split
  · rename_i hr
    rw [if_pos hr] at h
    exact wpAny_pure (h _)
  · rename_i hr
    rw [if_neg hr] at h
    exact wpAny_bind (wpAny_rule (wpAny_pure (h _)))
end
end

section
open PySem PySem.SeqAt
open SetTable
section
variable {prog : PySem.Program} {w : World} {A : Around} {E : Value → Shared → Prop} {s : Shared}
theorem way_eqIsQuiet {n : Nat} {p : List Str} {a : Addr} {Q : Bool → Shared → Prop} (hk : Way prog w s.heap p a) (h : Q true s) : wpAny (model prog w) A (eqIsQuiet (n + 1) (.ref a)) Q E s := by
  have hT := hk.typeIs
  obtain ⟨o, items, n', ho, _, hd, hi⟩ := hk
  unfold eqIsQuiet
  refine wpAny_bind (wpAny_specialOf hT F.slot_tuple_eq.lookup ?_)
  refine wpAny_bind (wpAny_isInstance hT isSubtype_tuple_tuple ?_)
  refine wpAny_bind (wpAny_seqItems ho hd ?_)
  refine wpAny_bind ?_
  show wpAny _ _ (forIn items _ _) _ _ s
  rw [← Array.forIn_toList]
  refine wpAny_forIn_list _ (fun rest r s' => r.1 = none ∧ s' = s ∧ ∀ v ∈ rest, carriedByValue v = true) _ ?_ ?_ _ _ ⟨rfl, rfl, hi.byValue⟩
  · rintro v rest r s' ⟨hr, rfl, hall⟩
    rw [eqIsQuiet_byValue _ (hall v List.mem_cons_self)]
    refine wpAny_bind (wpAny_pure ?_)
    exact wpAny_pure ⟨rfl, rfl, fun u hu' => hall u (mct _ hu')⟩
  · rintro ⟨r1, r2⟩ s' ⟨hr, rfl, _⟩
    simp only at hr
    subst hr
    exact wpAny_pure h
theorem pair_eqIsQuiet {n : Nat} {k : List Str × Int} {a : Addr} {Q : Bool → Shared → Prop} (hk : PairAt prog w s.heap k a) (h : Q true s) : wpAny (model prog w) A (eqIsQuiet (n + 2) (.ref a)) Q E s := by
  obtain ⟨b, t, ⟨o, ho, hc, n', hd⟩, hw⟩ := hk
  have hT : s.TypeIs (.ref a) "tuple" := ⟨o, ho, hc⟩
  unfold eqIsQuiet
  refine wpAny_bind (wpAny_specialOf hT F.slot_tuple_eq.lookup ?_)
  refine wpAny_bind (wpAny_isInstance hT isSubtype_tuple_tuple ?_)
  dsimp only [Bool.not_true, Bool.false_eq_true, if_false]
  refine wpAny_bind (wpAny_seqItems ho hd ?_)
  refine wpAny_bind ?_
  rw [← Array.forIn_toList]
  show wpAny _ _ (forIn [Value.ref b, Value.int k.2 t] _ _) _ _ s
  rw [List.forIn_cons]
  refine wpAny_bind (wpAny_bind (way_eqIsQuiet hw ?_))
  refine wpAny_pure ?_
  dsimp only
  rw [List.forIn_cons]
  refine wpAny_bind (wpAny_bind (wpAny_of_eq (a := true) (by first | rfl | simp [eqIsQuiet]) ?_))
  refine wpAny_pure ?_
  dsimp only
  exact wpAny_pure (wpAny_pure h)
theorem ofAClassStatement_byValue {n : Nat} {v : Value} (h : carriedByValue v = true) : ofAClassStatement n v = pure false := by
  cases v <;> first | rfl | (simp [carriedByValue] at h; done) | (cases n <;> first | rfl | simp [ofAClassStatement]) | (unfold ofAClassStatement; rfl)
theorem way_ofAClass {n : Nat} {p : List Str} {a : Addr} {Q : Bool → Shared → Prop} (hk : Way prog w s.heap p a) (h : Q false s) : wpAny (model prog w) A (ofAClassStatement (n + 1) (.ref a)) Q E s := by
  have hT := hk.typeIs
  obtain ⟨o, items, n', ho, _, hd, hi⟩ := hk
  unfold ofAClassStatement
  refine wpAny_bind (wpAny_typeOf hT ?_)
  dsimp only
  refine wpAny_bind (wpAny_pure ?_)
  refine wpAny_bind (wpAny_seqItems ho hd ?_)
  refine wpAny_bind ?_
  rw [← Array.forIn_toList]
  refine wpAny_forIn_list _ (fun rest r s' => r.1 = none ∧ s' = s ∧ ∀ v ∈ rest, carriedByValue v = true) _ ?_ ?_ _ _ ⟨rfl, rfl, hi.byValue⟩
  · rintro v rest r s' ⟨hr, rfl, hall⟩
    rw [ofAClassStatement_byValue (hall v List.mem_cons_self)]
    refine wpAny_bind (wpAny_pure ?_)
    exact wpAny_pure ⟨rfl, rfl, fun u hu' => hall u (mct _ hu')⟩
  · rintro ⟨r1, r2⟩ s' ⟨hr, rfl, _⟩
    simp only at hr
    subst hr
    exact wpAny_pure h
theorem pair_ofAClass {n : Nat} {k : List Str × Int} {a : Addr} {Q : Bool → Shared → Prop} (hk : PairAt prog w s.heap k a) (h : Q false s) : wpAny (model prog w) A (ofAClassStatement (n + 2) (.ref a)) Q E s := by
  obtain ⟨b, t, ⟨o, ho, hc, n', hd⟩, hw⟩ := hk
  have hT : s.TypeIs (.ref a) "tuple" := ⟨o, ho, hc⟩
  unfold ofAClassStatement
  refine wpAny_bind (wpAny_typeOf hT ?_)
  dsimp only
  refine wpAny_bind (wpAny_pure ?_)
  refine wpAny_bind (wpAny_seqItems ho hd ?_)
  refine wpAny_bind ?_
  rw [← Array.forIn_toList]
  rw [List.forIn_cons]
  refine wpAny_bind (wpAny_bind (way_ofAClass hw ?_))
  refine wpAny_pure ?_
  dsimp only
  rw [List.forIn_cons]
  refine wpAny_bind (wpAny_bind (wpAny_of_eq (a := false) (ofAClassStatement_byValue rfl) ?_))
  refine wpAny_pure ?_
  dsimp only
  exact wpAny_pure (wpAny_pure h)
theorem searchCouldBeSeen_pairs {k : List Str × Int} {a : Addr} {l : List Value} {Q : Bool → Shared → Prop} (hk : PairAt prog w s.heap k a) (hl : ∀ v ∈ l, ∃ b k', v = .ref b ∧ PairAt prog w s.heap k' b) (h : Q false s) :
    wpAny (model prog w) A (searchCouldBeSeen (.ref a) l) Q E s := by
  unfold searchCouldBeSeen
  refine wpAny_bind ?_
  refine wpAny_forIn_list _ (fun rest r s' => r.1 = none ∧ s' = s ∧ ∀ v ∈ rest, ∃ b k', v = .ref b ∧ PairAt prog w s.heap k' b) _ ?_ ?_ _ _ ⟨rfl, rfl, hl⟩
  · rintro v rest r s' ⟨hr, rfl, hall⟩
    obtain ⟨b, k', rfl, hb⟩ := hall _ List.mem_cons_self
    have hrest : ∀ v ∈ rest, ∃ b k', v = .ref b ∧ PairAt prog w s'.heap k' b := fun u hu => hall u (mct _ hu)
    dsimp only
    split
    · exact wpAny_pure ⟨rfl, rfl, hrest⟩
    · refine wpAny_bind (pair_eqIsQuiet hk ?_)
      refine wpAny_bind (pair_eqIsQuiet hb ?_)
      refine wpAny_bind (pair_ofAClass hk ?_)
      refine wpAny_bind (pair_ofAClass hb ?_)
      exact wpAny_pure ⟨rfl, rfl, hrest⟩
  · rintro ⟨r1, r2⟩ s' ⟨hr, rfl, _⟩
    simp only at hr
    subst hr
    exact wpAny_pure h
end
end

section
open PySem
open SetTable
theorem filterMap_set {α : Type} : ∀ (l : List (Option α)) (j : Nat) (x : α), l[j]? = some none → List.Perm ((l.set j (some x)).filterMap id) (x :: l.filterMap id)
  | [], j, _, h => by simp at h
  | o :: r, 0, x, h => by
    have : o = none := by simpa using h
    subst this
    simp
  | o :: r, j + 1, x, h => by
    have h' : r[j]? = some none := by simpa using h
    have ih := filterMap_set r j x h'
    cases o with
    | none => simpa using ih
    | some y =>
      exact (ih.cons y).trans (List.Perm.swap x y _)
theorem exists_none {α : Type} : ∀ (l : List (Option α)), (l.filterMap id).length < l.length → ∃ j : Nat, l[j]? = some none
  | [], h => absurd h (by simp)
  | none :: r, _ => ⟨0, rfl⟩
  | some x :: r, h => by
    have h : (x :: r.filterMap id).length < r.length + 1 := h
    rw [List.length_cons] at h
    obtain ⟨j, hj⟩ := exists_none r (by lia)
    exact ⟨j + 1, by simpa using hj⟩
structure OwnerOk (mask : Nat) (owner : Array (Option Nat)) (k : Nat) : Prop where
  size : owner.size = mask + 1
  perm : List.Perm (owner.toList.filterMap id) (List.range k)
theorem getD_of_none {owner : Array (Option Nat)} {j : Nat} (h : owner.toList[j]? = some none) : owner.getD j (some 0) = none := by
  rw [Array.getElem?_toList] at h
  rw [Array.getD_eq_getD_getElem?, h]; rfl
theorem none_of_getD {owner : Array (Option Nat)} {j : Nat} (h : (owner.getD j (some 0)).isNone = true) : owner.toList[j]? = some none := by
  rw [Array.getElem?_toList]
  rw [Array.getD_eq_getD_getElem?] at h
  cases e : owner[j]? with
  | none => rw [e] at h; cases h
  | some o =>
    rw [e] at h
    cases o with
    | none => rfl
    | some _ => cases h
theorem free_some {mask : Nat} {owner : Array (Option Nat)} {j : Nat} (hf : owner.toList[j]? = some none) : ∀ fuel k i perturb, k < fuel → (leapN mask k (i, perturb)).1 = j →
    ∃ j', layClean.free mask owner fuel i perturb = some j' ∧ owner.toList[j']? = some none
  | 0, _, _, _, h, _ => absurd h (Nat.not_lt_zero _)
  | fuel + 1, k, i, perturb, hk, e => by
    unfold layClean.free
    split
    · rename_i x hx
      have := List.find?_some hx
      exact ⟨i + x, rfl, none_of_getD this⟩
    · rename_i hx
      have hne : k ≠ 0 := by
        rintro rfl
        have hi : i = j := e
        subst hi
        have h0 : 0 ∈ List.range (runEnd mask i + 1 - i) := List.mem_range.mpr (by have := runEnd_ge mask i; omega)
        have := List.find?_eq_none.mp hx 0 h0
        rw [Nat.add_zero, getD_of_none hf] at this
        exact this rfl
      obtain ⟨k', rfl⟩ : ∃ k', k = k' + 1 := ⟨k - 1, by lia⟩
      exact free_some hf fuel k' _ _ (by lia) e
theorem set_ownerOk {mask k j : Nat} {owner : Array (Option Nat)} (h : OwnerOk mask owner k) (hj : owner.toList[j]? = some none) : OwnerOk mask (owner.setIfInBounds j (some k)) (k + 1) := by
  refine ⟨by simpa using h.size, ?_⟩
  rw [Array.toList_setIfInBounds]
  refine (filterMap_set _ j k hj).trans ?_
  rw [List.range_succ]
  exact (h.perm.cons k).trans (List.perm_append_singleton k _).symm
theorem layClean_step {mask : Nat} (hm : GoodMask mask) {owner : Array (Option Nat)} {k : Nat} (h : OwnerOk mask owner k) (hk : k ≤ mask) (hh : Int) :
    ∃ j, layClean.free mask owner (turns mask) (bits hh % (mask + 1)) (bits hh) = some j ∧ OwnerOk mask (owner.setIfInBounds j (some k)) (k + 1) := by
  obtain ⟨j, hj⟩ := exists_none owner.toList (by rw [h.perm.length_eq, List.length_range, Array.length_toList, h.size]; lia)
  have hjm : j ≤ mask := by
    have := (List.getElem?_eq_some_iff.mp hj).1
    rw [Array.length_toList, h.size] at this
    lia
  obtain ⟨n, hn, e⟩ := leap_meets hm (x := (bits hh % (mask + 1), bits hh)) (bits_lt hh) (Nat.le_of_lt_succ (Nat.mod_lt _ (Nat.succ_pos _))) hjm
  obtain ⟨j', a, b⟩ := free_some (mask := mask) hj (turns mask) n _ _ (by unfold turns; lia) e
  exact ⟨j', a, set_ownerOk h b⟩
theorem layClean_fold {mask : Nat} (hm : GoodMask mask) : ∀ (l : List Int) (owner : Array (Option Nat)) (k : Nat), OwnerOk mask owner k → k + l.length ≤ mask + 1 →
    ∃ owner', l.foldl (fun acc h => do
      let (owner, k) ← acc
      let j ← layClean.free mask owner (turns mask) (bits h % (mask + 1)) (bits h)
      pure (owner.setIfInBounds j (some k), k + 1)) (some (owner, k)) = some (owner', k + l.length) ∧ OwnerOk mask owner' (k + l.length)
  | [], owner, k, h, _ => ⟨owner, rfl, h⟩
  | x :: l, owner, k, h, hl => by
    rw [List.length_cons] at hl
    obtain ⟨j, a, b⟩ := layClean_step hm h (by omega) x
    obtain ⟨o', c, d⟩ := layClean_fold hm l _ _ b (by lia)
    refine ⟨o', ?_, ?_⟩
    · rw [List.foldl_cons]
      have : (do
        let (owner, k) ← (some (owner, k) : Option (Array (Option Nat) × Nat))
        let j ← layClean.free mask owner (turns mask) (bits x % (mask + 1)) (bits x)
        pure (owner.setIfInBounds j (some k), k + 1)) = some (owner.setIfInBounds j (some k), k + 1) := by
        show (layClean.free mask owner (turns mask) (bits x % (mask + 1)) (bits x)).bind (fun j => some (owner.setIfInBounds j (some k), k + 1)) = _
        rw [a]; rfl
      rw [this, c, List.length_cons, Nat.add_assoc, Nat.add_comm 1]
    · rw [List.length_cons, ← Nat.add_assoc, Nat.add_right_comm]; exact d
theorem ownerOk_new (mask : Nat) : OwnerOk mask (Array.replicate (mask + 1) none) 0 :=
  ⟨by simp, by simp⟩
theorem layClean_ok {mask : Nat} (hm : GoodMask mask) (hashes : Array Int) (hn : hashes.size ≤ mask + 1) : ∃ owner, layClean mask hashes = some owner ∧ OwnerOk mask owner hashes.size := by
  obtain ⟨o, a, b⟩ := layClean_fold hm hashes.toList _ 0 (ownerOk_new mask) (by simpa using hn)
  refine ⟨o, ?_, by simpa using b⟩
  unfold layClean
  rw [← Array.foldl_toList, a]
  rfl
theorem order_perm {mask k : Nat} {owner : Array (Option Nat)} (h : OwnerOk mask owner k) :
    List.Perm (((List.range (mask + 1)).filterMap fun j => (owner.getD j none).map (j, ·)).map (·.2)) (List.range k) := by
  rw [List.map_filterMap]
  have e1 : (fun j => Option.map (·.2) ((owner.getD j none).map ((j, ·) : Nat → Nat × Nat))) = fun j => (owner.toList[j]?).bind id := by
    funext j
    rw [Array.getElem?_toList, Array.getD_eq_getD_getElem?]
    cases owner[j]? with
    | none => rfl
    | some o => cases o <;> rfl
  rw [e1]
  have e2 : (List.range (mask + 1)).filterMap (fun j => (owner.toList[j]?).bind id) = owner.toList.filterMap id := by
    have q := List.filterMap_getElem?_range_length owner.toList
    rw [Array.length_toList, h.size] at q
    have := congrArg (List.filterMap id) q
    rw [List.filterMap_filterMap] at this
    exact this
  rw [e2]
  exact h.perm
theorem laid_ok {mask : Nat} (hm : GoodMask mask) (finger moves : Nat) (led plain : Bool) (es : Array (Int × Value)) (hn : es.size * 5 < mask * 3) :
    ∃ t order, laid mask finger moves led plain (es.map (·.1)) = some (t, order) ∧ TabOk t es.size ∧ t.led = led ∧ t.plain = plain ∧ List.Perm ((order.filterMap (es[·]?)).toList) es.toList := by
  obtain ⟨owner, a, b⟩ := layClean_ok hm (es.map (·.1)) (by simp; lia)
  have hs : (es.map (·.1)).size = es.size := by simp
  rw [hs] at b
  have hp := order_perm b
  refine ⟨_, _, by unfold laid; rw [a]; rfl, ⟨rfl, ?_, hm, hn⟩, rfl, rfl, ?_⟩
  · have := hp.length_eq
    simpa using this
  · rw [Array.toList_filterMap]
    exact (hp.filterMap _).trans (by rw [filterMap_getElem?_range])
theorem grown_mask {mask n : Nat} (hm : GoodMask mask) (h1 : n * 5 < mask * 3) (h2 : ¬ (n + 1) * 5 < mask * 3) (hn : n + 1 ≤ 70) :
    GoodMask (sizeAbove (grown (n + 1)) - 1) ∧ (n + 1) * 5 < (sizeAbove (grown (n + 1)) - 1) * 3 ∧ ¬ sizeAbove (grown (n + 1)) > sizeLine := by
  rcases hm with rfl | rfl | rfl
  · obtain rfl : n = 4 := by omega
    refine ⟨.inr (.inl (by decide)), by decide, by rw [sizeLine_eq]; decide⟩
  · obtain rfl : n = 18 := by lia
    refine ⟨.inr (.inr (by decide)), by decide, by rw [sizeLine_eq]; decide⟩
  · omega
end

section
open PySem PySem.SeqAt
open SetTable
noncomputable def byText (w : World) : Bool := w.params.followText "set-order"
structure PendTab (w : World) (t : SetTable) (n : Nat) : Prop where
  ok : TabOk t n
  led : t.led = !byText w
  plain : n ≠ 0 → t.plain = false
noncomputable def ObjPend (w : World) (o : Obj) (vals : List Value) : Prop := o.ExactSet ∧ ∃ es ep t, o.data = .set es ep t ∧ PendTab w t es.size ∧ es.toList.map (·.2) = vals
section
variable {prog : PySem.Program} {w : World} {A : Around} {E : Value → Shared → Prop} {s : Shared}
noncomputable def AllPairs (prog : PySem.Program) (w : World) (h : Heap) (vals : List Value) : Prop := ∀ v ∈ vals, ∃ b k, v = .ref b ∧ PairAt prog w h k b
theorem wpAny_setSearchFrom {a xa : Addr} {o : Obj} {es : Array (Int × Value)} {ep : Nat} {t : SetTable} {k : List Str × Int} {hh : Int} {Q : SetFound → Shared → Prop}
    (hu : A.units + 1 < cLine) (ho : s.heap.get? a = some o) (hd : o.data = .set es ep t) (T : TabOk t es.size) (hx : PairAt prog w s.heap k xa)
    (hv : AllPairs prog w s.heap (es.toList.map (·.2)))
    (hfree : ∀ j, t.slot j = .empty → Q (.free j false) s) (hthere : (∃ b, Value.ref b ∈ es.toList.map (·.2) ∧ PairAt prog w s.heap k b) → Q (.there none) s) :
    ∀ (fuel m : Nat) (st : Option Probe), m < fuel → m < 10 * turns t.mask → ProbeOk t (st.getD (t.probeStart hh)) → t.slot (advN t m (st.getD (t.probeStart hh))).j = .empty →
      wpAny (model prog w) A (setSearchFrom a (.ref xa) hh true fuel st) Q E s := by
  intro fuel
  induction fuel with
  | zero => intro m st h; exact absurd h (Nat.not_lt_zero _)
  | succ fuel ih =>
    intro m st hm hm2 hp he
    refine wpAny_bind (wpAny_setState_of ho hd T.fits ?_)
    dsimp only
    rw [T.not_gave]
    simp only [Bool.false_eq_true, if_false]
    generalize hpr : t.probe _ hh (st.getD (t.probeStart hh)) = met
    unfold SetTable.probe at hpr
    rcases probe_meets T.dummies _ hh _ m _ hp hm2 he with ⟨j, e, hj⟩ | ⟨j, i, m', q, e, hj, hi, hhash, hlt, hq, hq2⟩
    · rw [hpr] at e
      subst e
      exact wpAny_pure (hfree j hj)
    · rw [hpr] at e
      subst e
      dsimp only
      have hilt : i < es.size := by
        have := (Array.getElem?_eq_some_iff.mp hi).1
        rw [T.size] at this; exact this
      have hmem : es[i].2 ∈ es.toList.map (·.2) := List.mem_map.mpr ⟨es[i], Array.mem_toList_iff.mpr (Array.getElem_mem hilt), rfl⟩
      obtain ⟨b, k', hb, hpb⟩ := hv _ hmem
      have rest : wpAny (model prog w) A (do
          let some (_, y) := es[i]? | unsupported "internal:set-entry"
          let equal ← holding [y] (eqBool y (.ref xa))
          let (es', _, t') ← setState a
          if true && equal then return .there none
          let some same := t'.sameMemory t.moves t.mask | unsupported "set.changed-during-lookup:is-the-new-block-at-the-old-address"
          let still ← match (if same then t'.slot j else .empty) with
            | .live i' => match es'[i']? with
              | some (_, y') => do pure (if ← isSame y' y then some i' else none)
              | none => pure none
            | _ => pure none
          match still with
          | none => rule "set.search.anew"; setSearchFrom a (.ref xa) hh true fuel none
          | some i' => if equal then return .there (some i') else setSearchFrom a (.ref xa) hh true fuel (some q)) Q E s := by
        rw [Array.getElem?_eq_getElem hilt]
        rcases hesi : es[i] with ⟨h0, y⟩
        rw [hesi] at hb hmem
        subst hb
        refine wpAny_bind (wpAny_holding (pair_eqAt hpb hx hu prog w _ _ ?_))
        refine wpAny_bind (wpAny_setState_of ho hd T.fits ?_)
        dsimp only
        by_cases hk : k' = k
        · subst hk
          simp only [decide_true, Bool.and_self, if_true]
          exact wpAny_pure (hthere ⟨b, hmem, hpb⟩)
        · simp only [decide_eq_false hk, Bool.and_false, Bool.false_eq_true, if_false]
          have hsm : t.sameMemory t.moves t.mask = some true := by unfold SetTable.sameMemory; simp
          rw [hsm]
          simp only [if_true]
          rw [hj]
          dsimp only
          rw [Array.getElem?_eq_getElem hilt, hesi]
          dsimp only
          refine wpAny_bind (wpAny_isSame_ref_self ?_)
          simp only [if_true]
          refine wpAny_bind (wpAny_pure ?_)
          exact ih m' (some q) (by lia) (by lia) hq hq2
      split
      · refine wpAny_bind (searchCouldBeSeen_pairs hx (fun v hv' => ?_) ?_)
        · obtain ⟨e, he, rfl⟩ := List.mem_map.mp hv'
          have he' : e ∈ es.toList := by
            rw [Array.toList_filter] at he
            exact (List.mem_filter.mp he).1
          exact hv _ (List.mem_map.mpr ⟨e, he', rfl⟩)
        · simp only [Bool.false_eq_true, if_false]
          exact rest
      · exact rest
theorem way_hashByValue {n : Nat} {p : List Str} {a : Addr} {Q : Bool → Shared → Prop} (hk : Way prog w s.heap p a) (hp : p ≠ []) (h : Q false s) : wpAny (model prog w) A (hashByValue (n + 1) (.ref a)) Q E s := by
  have hT := hk.typeIs
  obtain ⟨o, items, n', ho, _, hd, hi⟩ := hk
  refine wpAny_bind (wpAny_specialOf hT F.slot_tuple_hash.lookup ?_)
  dsimp only
  refine wpAny_bind (wpAny_seqItems ho hd ?_)
  refine wpAny_bind ?_
  show wpAny _ _ (forIn items _ _) _ _ s
  rw [← Array.forIn_toList]
  generalize items.toList = l at hi
  cases hi with
  | nil => exact absurd rfl hp
  | @cons k v ks vs h1 h2 =>
    obtain ⟨t, rfl⟩ := Value.isStrOf_shape h1
    rw [List.forIn_cons]
    refine wpAny_bind (wpAny_bind (wpAny_of_eq (a := false) (by cases n <;> first | rfl | simp [hashByValue]) ?_))
    exact wpAny_pure (wpAny_pure (wpAny_pure h))
theorem pair_hashByValue {n : Nat} {k : List Str × Int} {a : Addr} {Q : Bool → Shared → Prop} (hk : PairAt prog w s.heap k a) (hp : k.1 ≠ []) (h : Q false s) : wpAny (model prog w) A (hashByValue (n + 2) (.ref a)) Q E s := by
  obtain ⟨b, t, ⟨o, ho, hc, n', hd⟩, hw⟩ := hk
  have hT : s.TypeIs (.ref a) "tuple" := ⟨o, ho, hc⟩
  refine wpAny_bind (wpAny_specialOf hT F.slot_tuple_hash.lookup ?_)
  dsimp only
  refine wpAny_bind (wpAny_seqItems ho hd ?_)
  refine wpAny_bind ?_
  rw [← Array.forIn_toList]
  show wpAny _ _ (forIn [Value.ref b, Value.int k.2 t] _ _) _ _ s
  rw [List.forIn_cons]
  refine wpAny_bind (wpAny_bind (way_hashByValue hw hp ?_))
  exact wpAny_pure (wpAny_pure (wpAny_pure h))
end
end

section
open PySem PySem.SeqAt
open SetTable
section
variable {prog : PySem.Program} {w : World} {A : Around} {E : Value → Shared → Prop} {s : Shared}
theorem objPend_put {h : Heap} {a : Addr} {o : Obj} {es : Array (Int × Value)} {ep : Nat} {t : SetTable} (ho : h.get? a = some o) (hex : o.ExactSet) (hd : o.data = .set es ep t)
    (es' : Array (Int × Value)) (t' : SetTable) : ∃ o', (h.update a (Obj.putSet es' t')).get? a = some o' ∧ o'.ExactSet ∧ o'.data = .set es' (ep + 1) t' := by
  refine ⟨{ o with data := .set es' (ep + 1) t' }, ?_, hex, rfl⟩
  have := Heap.get?_update_self (Obj.putSet es' t') ho (by rw [putSet_of es' t' hd]; rfl)
  rw [putSet_of es' t' hd] at this; exact this
theorem wpAny_setRelay_ok {a : Addr} {o : Obj} {es : Array (Int × Value)} {ep : Nat} {t : SetTable} {wanted : Nat} {Q : Unit → Shared → Prop}
    (ho : s.heap.get? a = some o) (hex : o.ExactSet) (hd : o.data = .set es ep t) (hf : t.fits es.size = true) (hm : GoodMask (sizeAbove wanted - 1)) (hr : es.size * 5 < (sizeAbove wanted - 1) * 3)
    (hsz : ¬ sizeAbove wanted > sizeLine) (hz : es.size ≤ sizeLine) (hled : t.led = !byText w) (hpl : es.size ≠ 0 → t.plain = false)
    (h : ∀ h' o' vals, Heap.SameBut a s.heap h' → h'.get? a = some o' → ObjPend w o' vals → List.Perm vals (es.toList.map (·.2)) → Q () { s with heap := h' }) :
    wpAny (model prog w) A (setRelay a wanted) Q E s := by
  unfold setRelay
  refine wpAny_bind (wpAny_setState_of ho hd hf ?_)
  dsimp only
  rw [if_neg hsz]
  obtain ⟨t', order, e, T, tl, tp, hp⟩ := laid_ok hm t.finger (t.movedTo (sizeAbove wanted - 1)) t.led t.plain es hr
  have er : t.relaid (es.map (·.1)) wanted = some (t', order) := e
  rw [er]
  refine wpAny_bind ?_
  show wpAny (model prog w) A (if (order.filterMap (es[·]?)).size != es.size then _ else pure (order.filterMap (es[·]?), t')) _ E s
  have hsize : (order.filterMap (es[·]?)).size = es.size := by
    have := hp.length_eq
    rwa [Array.length_toList, Array.length_toList] at this
  rw [if_neg (by rw [hsize]; simp)]
  refine wpAny_pure ?_
  refine wpAny_storeSet_of ho hd ?_ (by rw [hsize]; exact hz)
  obtain ⟨o', e1, e2, e3⟩ := objPend_put ho hex hd (order.filterMap (es[·]?)) t'
  exact h _ o' _ (Heap.SameBut.update ..) e1 ⟨e2, _, _, _, e3, by rw [hsize]; exact ⟨T, tl.trans hled, fun hne => tp.trans (hpl hne)⟩, rfl⟩ (hp.map _)
theorem put_ok {t : SetTable} {n j : Nat} (hd : t.dummies = #[]) (hs : t.place.size = n) : (t.put j).1.dummies = #[] ∧ (t.put j).1.place.size = n + 1 ∧ (t.put j).1.mask = t.mask ∧ (t.put j).1.led = t.led ∧ (t.put j).1.plain = t.plain := by
  unfold SetTable.put
  dsimp only
  rw [hd, has_nil]
  refine ⟨by simp, ?_, rfl, rfl, rfl⟩
  have := (insertAt_perm t.place (below t.place j) j).length_eq
  simp only [Array.length_toList, Array.size_push] at this
  lia
theorem wpAny_setAddHashed_pair {a xa : Addr} {o : Obj} {vals : List Value} {k : List Str × Int} {hh : Int} {Q : Bool → Shared → Prop}
    (hu : A.units + 1 < cLine) (ho : s.heap.get? a = some o) (hS : ObjPend w o vals) (hx : PairAt prog w s.heap k xa) (hx1 : k.1 ≠ []) (hv : AllPairs prog w s.heap vals) (hn : vals.length < 70)
    (h : ∀ b h' o' vals', Heap.SameBut a s.heap h' → h'.get? a = some o' → ObjPend w o' vals' → (List.Perm vals' (.ref xa :: vals) ∨ (vals' = vals ∧ ∃ b, Value.ref b ∈ vals ∧ PairAt prog w s.heap k b)) → Q b { s with heap := h' }) :
    wpAny (model prog w) A (setAddHashed a (.ref xa) hh) Q E s := by
  obtain ⟨hex, es, ep, t, hd, ⟨T, tled, tplain⟩, rfl⟩ := hS
  have hn' : es.size < 70 := by simpa using hn
  have hz : es.size + 1 ≤ sizeLine := by rw [sizeLine_eq]; lia
  refine wpAny_holding (wpAny_bind (wpAny_setState_of ho hd T.fits ?_))
  dsimp only
  have hbs : byScan (.ref xa) es = false := rfl
  rw [hbs]
  obtain ⟨m, hm, he⟩ := meets_empty T (probeStart_ok (t := t) hh)
  refine wpAny_bind (wpAny_setSearchFrom hu ho hd T hx hv (fun j hj => ?_) (fun hb => ?_) 100000 m none ?_ hm (probeStart_ok hh) he)
  rotate_left
  · dsimp only
    refine wpAny_pure ?_
    have e : s = { s with heap := s.heap } := by cases s; rfl
    have := h false s.heap o _ (Heap.SameBut.refl a s.heap) ho ⟨hex, es, ep, t, hd, ⟨T, tled, tplain⟩, rfl⟩ (.inr ⟨rfl, hb⟩)
    exact this
  · have : turns t.mask ≤ 142 := by unfold turns; rcases T.mask with e | e | e <;> lia
    lia
  · dsimp only
    refine wpAny_bind (wpAny_setState_of ho hd T.fits ?_)
    obtain ⟨p1, p2, p3, p4, p5⟩ := put_ok (j := j) T.dummies T.size
    generalize hput : t.put j = P at p1 p2 p3 p4 p5 ⊢
    obtain ⟨t1, p⟩ := P
    have hperm := insertAt_perm es p (hh, Value.ref xa)
    have hsz1 : (insertAt es p (hh, Value.ref xa)).size = es.size + 1 := by
      have := hperm.length_eq
      simpa using this
    have hpv : List.Perm ((insertAt es p (hh, Value.ref xa)).toList.map (·.2)) (.ref xa :: es.toList.map (·.2)) := by
      refine (hperm.map _).trans ?_
      rw [Array.toList_push, List.map_append]
      exact List.perm_append_singleton _ _
    have tail : ∀ t2 : SetTable, t2.dummies = #[] → t2.place.size = es.size + 1 → t2.mask = t.mask → t2.led = t.led → t2.plain = false →
        wpAny (model prog w) A (do
          storeSet a (insertAt es p (hh, Value.ref xa)) t2
          if (!false && t2.tooFull) = true then do
              setRelay a (grown (es.size + 1))
              pure true
            else pure true) Q E s := by
      intro t2 q1 q2 q3 q4 q5
      refine wpAny_bind (wpAny_storeSet_of ho hd ?_ (by rw [hsz1]; exact hz))
      obtain ⟨o1, e1, e2, e3⟩ := objPend_put ho hex hd (insertAt es p (hh, Value.ref xa)) t2
      have hfull : t2.tooFull = decide ((es.size + 1) * 5 ≥ t.mask * 3) := by
        delta SetTable.tooFull SetTable.fill
        rw [q1, q2, q3]; rfl
      by_cases hc : (es.size + 1) * 5 ≥ t.mask * 3
      · rw [if_pos (by rw [hfull, decide_eq_true hc]; rfl)]
        obtain ⟨g1, g2, g3⟩ := grown_mask T.mask T.room (by omega) (by lia)
        have hfit : t2.fits (insertAt es p (hh, Value.ref xa)).size = true := by
          rw [hsz1]
          simp only [SetTable.fits, SetTable.fill, q1, q2, q3, Bool.and_eq_true, beq_self_eq_true, decide_eq_true_eq, true_and]
          have := T.room
          have hmk := T.mask
          show es.size + 1 + 0 ≤ t.mask
          rcases hmk with e | e | e <;> lia
        refine wpAny_bind (wpAny_setRelay_ok (s := { s with heap := _ }) e1 e2 e3 hfit g1 (by rw [hsz1]; exact g2) g3 (by rw [hsz1]; exact hz) (q4.trans tled) (fun _ => q5) fun h' o' vals' hs' ho' hO' hp' => ?_)
        exact wpAny_pure (h true h' o' vals' ((Heap.SameBut.update ..).trans hs') ho' hO' (.inl (hp'.trans hpv)))
      · rw [if_neg (by rw [hfull, decide_eq_false hc]; simp)]
        refine wpAny_pure (h true _ o1 _ (Heap.SameBut.update ..) e1 ⟨e2, _, _, _, e3, ⟨⟨q1, by rw [hsz1]; exact q2, by rw [q3]; exact T.mask, by rw [hsz1, q3]; omega⟩, q4.trans tled, fun _ => q5⟩, rfl⟩ (.inl hpv))
    split
    · refine wpAny_bind (pair_hashByValue hx hx1 ?_)
      exact tail { t1 with plain := false } p1 p2 p3 p4 rfl
    · rename_i hnp
      refine wpAny_bind (wpAny_pure ?_)
      exact tail t1 p1 p2 p3 p4 (by cases hq : t1.plain <;> simp_all)
theorem call_set_add_pair {a xa : Addr} {o : Obj} {vals : List Value} {k : List Str × Int} {Q : Value → Shared → Prop}
    (hu : A.units + 3 < cLine) (ho : s.heap.get? a = some o) (hS : ObjPend w o vals) (hx : PairAt prog w s.heap k xa) (hx1 : k.1 ≠ []) (hv : AllPairs prog w s.heap vals) (hn : vals.length < 70)
    (h : ∀ h' tk o' vals', Heap.SameBut a s.heap h' → h'.get? a = some o' → ObjPend w o' vals' → (List.Perm vals' (.ref xa :: vals) ∨ (vals' = vals ∧ ∃ b, Value.ref b ∈ vals ∧ PairAt prog w s.heap k b)) → Q .none { s with heap := h', toks := tk }) :
    wpAny (model prog w) A (call (.builtin "set.add") [.ref a, .ref xa]) Q E s := by
  have hT : s.TypeIs (.ref a) "set" := ⟨o, ho, hS.1.1⟩
  refine wpAny_call_entry F.slot_set_add hT F.entry_set_add ?_ (F.args_set_add_2 _ _)
  delta Builtin.«set.add» Builtin.Frozenset.oneOther
  simp only [List.isEmpty_nil, bind_assoc]
  refine wpAny_bind (wpAny_pure ?_)
  try dsimp only
  refine wpAny_bind (wpAny_pure ?_)
  try dsimp only
  refine wpAny_bind ?_
  refine wpAny_holding ?_
  refine wpAny_bind (pyHash_pair (by show A.units + 1 + 2 < cLine; omega) hx fun tk => ?_)
  refine wpAny_setAddHashed_pair (s := { s with toks := tk }) (by show A.units + 1 + 1 < cLine; lia) ho hS hx hx1 hv hn fun b h' o' vals' hs' ho' hO' hp' => ?_
  show wpAny _ _ (ret Value.none) _ _ _
  exact wpAny_pure ⟨_, rfl, h h' tk o' vals' hs' ho' hO' hp'⟩
theorem getMethod_set {a : Addr} {o : Obj} {pl : Sem Bool} {Q : Value × List Value → Shared → Prop} (ho : s.heap.get? a = some o) (hS : o.ExactSet) (h : Q (.builtin "set.add", [.ref a]) s) :
    wpAny (model prog w) A (getMethod (.ref a) "add" pl) Q E s :=
  getMethod_builtin ⟨o, ho, hS.1⟩ F.plainAttrs_set F.slot_set_add F.type_set_add (fun b e => by injection e with e; subst e; exact ⟨o, ho, hS.2.1⟩) h
end
end

section
open PySem PyProof.Rows PySem.W
noncomputable def Kin (s s' : Shared) : Prop := s'.os = s.os ∧ s'.gens = s.gens
theorem Kin.refl (s : Shared) : Kin s s := ⟨rfl, rfl⟩
theorem Kin.trans {a b c : Shared} (x : Kin a b) (y : Kin b c) : Kin a c := ⟨y.1.trans x.1, y.2.trans x.2⟩
structure Iter (prog : PySem.Program) (w : World) (A : Around) (target : PySem.Expr) (I : Addr) (n : Nat) (P : Nat → Value → Prop) (Ob : Nat → Obj → Prop) (Src : Heap → Prop) : Prop where
  item : ∀ i (s : Shared) (Q : Option Value → Shared → Prop) (E : Value → Shared → Prop) o, i < n → s.heap.get? I = some o → Ob i o → Src s.heap →
    (∀ v o' h' tk, P i v → Ob (i + 1) o' → Heap.SameBut I s.heap h' → h'.get? I = some o' → Q (some v) { s with heap := h', toks := tk }) → wpAny (model prog w) A (pyNext (.ref I)) Q E s
  done : ∀ (s : Shared) (Q : Option Value → Shared → Prop) (E : Value → Shared → Prop) o, s.heap.get? I = some o → Ob n o → Src s.heap →
    (∀ h' tk, Heap.ExtBut I s.heap h' → Q none { s with heap := h', toks := tk }) → wpAny (model prog w) A (pyNext (.ref I)) Q E s
  go : ∀ i v (s : Shared) (Q : Unit → Shared → Prop) (E : Value → Shared → Prop) o, s.heap.get? I = some o → Ob i o → Q () s → wpAny (model prog w) A (letOwnedTupleGo target (.ref I) v) Q E s
theorem go_fields {prog : PySem.Program} {w : World} {A : Around} {target : PySem.Expr} {I : Addr} {v : Value} {n : String} {vs : Array Value} {s : Shared} {Q : Unit → Shared → Prop} {E : Value → Shared → Prop} {o : Obj}
    (ho : s.heap.get? I = some o) (hc : o.cls = .type n) (hd : o.data = .fields vs) (hn : (["enumerate", "zip", "dict_itemiterator", "dict_reverseitemiterator", "odict_iterator", "itertools.zip_longest", "itertools.pairwise"] : List String).contains n = false) (h : Q () s) :
    wpAny (model prog w) A (letOwnedTupleGo target (.ref I) v) Q E s := by
  cases target <;> first
    | exact wpAny_pure h
    | (cases v <;> first
        | exact wpAny_pure h
        | (refine wpAny_bind (wpAny_load ho ?_)
           rw [hc, hd]
           dsimp only
           rw [hn]
           exact wpAny_pure h))
section
variable {prog : PySem.Program} {w : World} {A : Around} {target : PySem.Expr}
theorem Iter.list (hh : A.handled = none) (I ax : Addr) (items : Array Value) :
    Iter prog w A target I items.size (fun i v => items[i]? = some v) (fun i o => o.cls = .type "list_iterator" ∧ o.data = .fields #[.ref ax, .int i 0]) (fun h => h.IsList ax items) where
  item := fun i s Q E o hi ho hO hS hQ => wpAny_pyNext_list_item ⟨o, ho, hO⟩ hS (x := items[i]) (by simp [hi]) fun h' ⟨o', e1, e2, e3⟩ hs' => hQ _ o' h' s.toks (by simp [hi]) ⟨e2, e3⟩ hs' e1
  done := fun s Q E o ho hO hS hQ => wpAny_pyNext_list_end hh ⟨o, ho, hO⟩ hS (by simp) fun h' he' => hQ h' s.toks he'
  go := fun i v s Q E o ho hO hQ => go_fields ho hO.1 hO.2 (by decide) hQ
theorem Iter.tuple (hh : A.handled = none) (I ax : Addr) (items : Array Value) :
    Iter prog w A target I items.size (fun i v => items[i]? = some v) (fun i o => o.cls = .type "tuple_iterator" ∧ o.data = .fields #[.ref ax, .int i 0]) (fun h => h.IsTuple ax items) where
  item := fun i s Q E o hi ho hO hS hQ => wpAny_pyNext_tuple_item ⟨o, ho, hO⟩ hS (x := items[i]) (by simp [hi]) fun h' ⟨o', e1, e2, e3⟩ hs' => hQ _ o' h' s.toks (by simp [hi]) ⟨e2, e3⟩ hs' e1
  done := fun s Q E o ho hO hS hQ => wpAny_pyNext_tuple_end hh ⟨o, ho, hO⟩ hS (by simp) fun h' he' => hQ h' s.toks he'
  go := fun i v s Q E o ho hO hQ => go_fields ho hO.1 hO.2 (by decide) hQ
end
theorem fr_same {h₀ h h' : Heap} {L I : Addr} {m : Str → Option Value} (F : Fr h₀ L h m) (hs : Heap.ExtBut I h h') (hL : I ≠ L) (hI : h₀.get? I = none) : Fr h₀ L h' m :=
  ⟨F.ns.at' fun o e => hs L o (Ne.symm hL) e, fun b o e => hs b o (fun hb => by rw [hb, hI] at e; cases e) (F.keep b o e), F.above⟩
theorem news_same {h₀ h h' : Heap} {L I : Addr} {W : List (Addr × Obj)} (N : News h₀ L h W) (hs : Heap.ExtBut I h h') (hI : ∀ p ∈ W, p.1 ≠ I) : News h₀ L h' W :=
  fun p hp => ⟨hs _ _ (hI p hp) (N p hp).1, (N p hp).2⟩
section
variable {prog : PySem.Program} {w : World} {A : Around} {s : Shared} {env : Env} {h₀ : Heap} {target : PySem.Expr} {body : List Stmt}
noncomputable def NextHere (h₀ : Heap) (L : Addr) (I : Addr) (oI : Obj) (next : (Str → Option Value) → List (Addr × Obj) → Prop) (s s₃ : Shared) : Prop :=
  ∃ m' W', Fr h₀ L s₃.heap m' ∧ News h₀ L s₃.heap ((I, oI) :: W') ∧ (∀ p ∈ W', p.1 ≠ I) ∧ next m' W' ∧ Kin s s₃
theorem NextHere.intro {h₀ : Heap} {L I : Addr} {oI : Obj} {next : (Str → Option Value) → List (Addr × Obj) → Prop} {s s₃ : Shared} {m' : Str → Option Value} {W W' : List (Addr × Obj)} (F : Fr h₀ L s₃.heap m') (N : News h₀ L s₃.heap W)
    (hs : ∀ p ∈ (I, oI) :: W', p ∈ W) (off : ∀ p ∈ W', p.1 ≠ I) (h : next m' W') (K : Kin s s₃) : NextHere h₀ L I oI next s s₃ := ⟨m', W', F, fun p hp => N p (hs p hp), off, h, K⟩
theorem for_code {R : Result → Shared → Prop} {I : Addr} {n : Nat} {P : Nat → Value → Prop} {Ob : Nat → Obj → Prop} {Src : Heap → Prop} {m₀ : Str → Option Value} {W₀ : List (Addr × Obj)} {o₀ : Obj}
    (It : Iter prog w A target I n P Ob Src) (J : Nat → (Str → Option Value) → List (Addr × Obj) → Prop)
    (hsrc : ∀ i m W h, J i m W → Fr h₀ env.locals h m → News h₀ env.locals h W → Src h)
    (hIL : I ≠ env.locals) (hI₀ : h₀.get? I = none) (ho : s.heap.get? I = some o₀) (hO : Ob 0 o₀) (F : Fr h₀ env.locals s.heap m₀) (N : News h₀ env.locals s.heap W₀) (hoff : ∀ p ∈ W₀, p.1 ≠ I) (hJ : J 0 m₀ W₀)
    (turn : ∀ i v m W oI (s₁ : Shared), i < n → P i v → J i m W → (∀ p ∈ W, p.1 ≠ I) → Fr h₀ env.locals s₁.heap m → News h₀ env.locals s₁.heap ((I, oI) :: W) → Kin s s₁ →
      wpAny (model prog w) A (assign target env v) (fun _ s₂ => wpAny (model prog w) A (execs body env) (fun f s₃ => match f with
        | .next | .cont => NextHere h₀ env.locals I oI (J (i + 1)) s s₃
        | .brk => R (.ok .next) s₃
        | .ret v => R (.ok (.ret v)) s₃) (fun _ _ => False) s₂) (fun _ _ => False) s₁)
    (done : ∀ m W (s₁ : Shared), J n m W → Fr h₀ env.locals s₁.heap m → News h₀ env.locals s₁.heap W → Kin s s₁ → R (.ok .next) s₁) :
    codeAny (model prog w) A (.forLoop target (.ref I) body [] env) R s := by
  refine codeAny_forLoop_any
    (fun k s' => ∃ m W i o, s'.heap.get? I = some o ∧ Ob i o ∧ Fr h₀ env.locals s'.heap m ∧ News h₀ env.locals s'.heap W ∧ (∀ p ∈ W, p.1 ≠ I) ∧ J i m W ∧ Kin s s' ∧ i ≤ n ∧ k = n + 1 - i) ?_ (n + 1)
    ⟨m₀, W₀, 0, o₀, ho, hO, F, N, hoff, hJ, Kin.refl s, Nat.zero_le _, rfl⟩
  rintro k s' ⟨m, W, i, o, ho', hO', F', N', hoff', hJ', hK, hi, rfl⟩
  by_cases hlt : i < n
  · refine It.item i s' _ _ o hlt ho' hO' (hsrc i m W _ hJ' F' N') fun v o' h' tk hP hO2 hs ho2 => ?_
    refine It.go (i + 1) v _ _ _ o' ho2 hO2 ?_
    have F₁ : Fr h₀ env.locals h' m := fr_same F' hs.extBut hIL hI₀
    have N₁ : News h₀ env.locals h' ((I, o') :: W) := fun p hp => by
      rcases List.mem_cons.mp hp with rfl | hp
      · exact ⟨ho2, hIL, hI₀⟩
      · exact news_same N' hs.extBut hoff' p hp
    refine wpAny_mono (turn i v m W o' { s' with heap := h', toks := tk } hlt hP hJ' hoff' F₁ N₁ hK) (fun _ s₂ h₂ => wpAny_mono h₂ (fun f s₃ h₃ => ?_) fun _ _ e => e.elim) fun _ _ e => e.elim
    have fin : NextHere h₀ env.locals I o' (J (i + 1)) s s₃ →
        ∃ k', k' < n + 1 - i ∧ ∃ m W i o, s₃.heap.get? I = some o ∧ Ob i o ∧ Fr h₀ env.locals s₃.heap m ∧ News h₀ env.locals s₃.heap W ∧ (∀ p ∈ W, p.1 ≠ I) ∧ J i m W ∧ Kin s s₃ ∧ i ≤ n ∧ k' = n + 1 - i := by
      rintro ⟨m', W', F₃, N₃, off₃, J₃, K₃⟩
      exact ⟨n + 1 - (i + 1), by omega, m', W', i + 1, o', (N₃ _ List.mem_cons_self).1, hO2, F₃, fun p hp => N₃ p (mct _ hp), off₃, J₃, K₃, hlt, rfl⟩
    cases f with
    | ret v => exact h₃
    | brk => exact h₃
    | next => exact fin h₃
    | cont => exact fin h₃
  · have hin : i = n := by omega
    subst hin
    refine It.done s' _ _ o ho' hO' (hsrc i m W _ hJ' F' N') fun h' tk hs => wpAny_execs_nil ?_
    exact done m W { s' with heap := h', toks := tk } hJ' (fr_same F' hs hIL hI₀) (news_same N' hs hoff') hK
inductive LoopHere (prog : PySem.Program) (w : World) (A : Around) (h₀ : Heap) (env : Env) (target : PySem.Expr) (body : List Stmt) (Q : Flow → Shared → Prop) (it : Value) (s : Shared) : Prop
  | mk (I : Addr) (n : Nat) (P : Nat → Value → Prop) (Ob : Nat → Obj → Prop) (Src : Heap → Prop) (m₀ : Str → Option Value) (W₀ : List (Addr × Obj)) (o₀ : Obj) (J : Nat → (Str → Option Value) → List (Addr × Obj) → Prop)
    (hit : it = .ref I) (It : Iter prog w A target I n P Ob Src) (hsrc : ∀ i m W h, J i m W → Fr h₀ env.locals h m → News h₀ env.locals h W → Src h) (hIL : I ≠ env.locals) (hI₀ : h₀.get? I = none) (ho : s.heap.get? I = some o₀) (hO : Ob 0 o₀)
    (F : Fr h₀ env.locals s.heap m₀) (N : News h₀ env.locals s.heap W₀) (hoff : ∀ p ∈ W₀, p.1 ≠ I) (hJ : J 0 m₀ W₀)
    (turn : ∀ i v m W oI (s₁ : Shared), i < n → P i v → J i m W → (∀ p ∈ W, p.1 ≠ I) → Fr h₀ env.locals s₁.heap m → News h₀ env.locals s₁.heap ((I, oI) :: W) → Kin s s₁ →
      wpAny (model prog w) A (assign target env v) (fun _ s₂ => wpAny (model prog w) A (execs body env) (fun f s₃ => match f with
        | .next | .cont => NextHere h₀ env.locals I oI (J (i + 1)) s s₃
        | .brk => Q .next s₃
        | .ret v => Q (.ret v) s₃) (fun _ _ => False) s₂) (fun _ _ => False) s₁)
    (done : ∀ m W (s₁ : Shared), J n m W → Fr h₀ env.locals s₁.heap m → News h₀ env.locals s₁.heap W → Kin s s₁ → Q .next s₁) : LoopHere prog w A h₀ env target body Q it s
theorem For_led {iter : PySem.Expr} {pos : Pos} {m : Str → Option Value} {Q : Flow → Shared → Prop} {E : Value → Shared → Prop} (_F : Fr h₀ env.locals s.heap m)
    (h : wpAny (model prog w) A (eval iter env) (fun xv s₁ => wpAny (model prog w) A (pyIter xv) (fun it s₂ => LoopHere prog w A h₀ env target body Q it s₂) (fun _ _ => False) s₁) (fun _ _ => False) s)
    (hs : ∀ x, foldedSetIterable iter env x = pure x := by intro _; rfl) :
    wpAny (model prog w) A (exec (.For target iter body [] pos) env) Q E s := by
  refine wpAny_noRaise (wpAny_For (wpAny_mono h (fun xv s₁ h₁ => wpAny_mono h₁ (fun it s₂ h₂ => ?_) fun _ _ e => e) fun _ _ e => e) hs)
  obtain ⟨I, n, P, Ob, Src, m₀, W₀, o₀, J, rfl, It, hsrc, hIL, hI₀, ho, hO, F, N, hoff, hJ, turn, done⟩ := h₂
  exact for_code (R := fun r s' => match r with | .ok f => Q f s' | .error e => cameBackBy (model prog w) A env (fun _ _ => False) e s') It J hsrc hIL hI₀ ho hO F N hoff hJ turn done
noncomputable abbrev TurnHere (prog : PySem.Program) (w : World) (A : Around) (h₀ : Heap) (env : Env) (target : PySem.Expr) (body : List Stmt) (Q : Flow → Shared → Prop) (s : Shared) (I : Addr) (oI : Obj) (next : (Str → Option Value) → List (Addr × Obj) → Prop) (v : Value) (s₁ : Shared) : Prop :=
  ∀ Q' : Flow → Shared → Prop, (∀ f s₃, (match f with
        | .next | .cont => NextHere h₀ env.locals I oI next s s₃
        | .brk => Q .next s₃
        | .ret v => Q (.ret v) s₃) → Q' f s₃) →
  wpAny (model prog w) A (assign target env v) (fun _ s₂ => wpAny (model prog w) A (execs body env) Q' (fun _ _ => False) s₂) (fun _ _ => False) s₁
theorem fresh_none {h₀ h : Heap} {L : Addr} {m : Str → Option Value} (F : Fr h₀ L h m) {b : Addr} (hb : h.objs.size ≤ b) : h₀.get? b = none := by
  cases e : h₀.get? b with
  | none => rfl
  | some o => exact absurd (Heap.lt_size (F.keep _ _ e)) (Nat.not_lt.mpr hb)
theorem iter_tuple {ax : Addr} {o : Obj} {its : List Value} {n : Nat} {m : Str → Option Value} {W : List (Addr × Obj)} {Q : Flow → Shared → Prop} {E : Value → Shared → Prop} (hh : A.handled = none)
    (F : Fr h₀ env.locals s.heap m) (N : News h₀ env.locals s.heap W) (hm : (ax, o) ∈ W) (hc : o.cls = .type "tuple") (hd : o.data = .seq its.toArray n)
    (J : Nat → (Str → Option Value) → List (Addr × Obj) → Prop) (hJ : J 0 m W) (hsrc : ∀ i m W', J i m W' → (ax, o) ∈ W')
    (turn : ∀ i v m W' oI (s₁ : Shared), its[i]? = some v → J i m W' → (∀ p ∈ W', p.1 ≠ s.heap.objs.size) → Fr h₀ env.locals s₁.heap m → News h₀ env.locals s₁.heap ((s.heap.objs.size, oI) :: W') → Kin s s₁ → (∀ p ∈ W, p.1 < s.heap.objs.size) →
      TurnHere prog w A h₀ env target body Q s s.heap.objs.size oI (J (i + 1)) v s₁)
    (done : ∀ m W' (s₁ : Shared), J its.length m W' → Fr h₀ env.locals s₁.heap m → News h₀ env.locals s₁.heap W' → Kin s s₁ → Q .next s₁) :
    wpAny (model prog w) A (pyIter (.ref ax)) (fun it s₂ => LoopHere prog w A h₀ env target body Q it s₂) E s := by
  have ht : s.heap.IsTuple ax its.toArray := ⟨o, (N _ hm).1, hc, n, hd⟩
  refine wpAny_pyIter_tuple ht ?_
  refine ⟨s.heap.objs.size, its.toArray.size, _, _, _, m, W, _, J, rfl, Iter.tuple hh s.heap.objs.size ax its.toArray, fun i m W' h hJ' F' N' => ⟨o, (N' _ (hsrc i m W' hJ')).1, hc, n, hd⟩, Ne.symm (Nat.ne_of_lt F.ns.lt), fresh_none F (Nat.le_refl _), Heap.get?_push_size _ rfl, ⟨rfl, rfl⟩,
    F.push _, N.grown (fun _ _ e => Heap.get?_push_of_some _ e), fun p hp => Nat.ne_of_lt (Heap.lt_size (N p hp).1), hJ, ?_, ?_⟩
  · intro i v m₁ W₁ oI s₁ hi hP hJ₁ hoff F₁ N₁ K₁
    exact turn i v m₁ W₁ oI s₁ (by simpa using hP) hJ₁ hoff F₁ N₁ K₁ (fun p hp => Heap.lt_size (N p hp).1) _ fun _ _ x => x
  · intro m₁ W₁ s₁ hJ₁ F₁ N₁ K₁
    exact done m₁ W₁ s₁ (by simpa using hJ₁) F₁ N₁ K₁
theorem iter_list {ax : Addr} {o : Obj} {its : List Value} {n : Nat} {m : Str → Option Value} {W : List (Addr × Obj)} {Q : Flow → Shared → Prop} {E : Value → Shared → Prop} (hh : A.handled = none)
    (F : Fr h₀ env.locals s.heap m) (N : News h₀ env.locals s.heap W) (hm : (ax, o) ∈ W) (hc : o.cls = .type "list") (hd : o.data = .seq its.toArray n)
    (J : Nat → (Str → Option Value) → List (Addr × Obj) → Prop) (hJ : J 0 m W) (hsrc : ∀ i m W', J i m W' → (ax, o) ∈ W')
    (turn : ∀ i v m W' oI (s₁ : Shared), its[i]? = some v → J i m W' → (∀ p ∈ W', p.1 ≠ s.heap.objs.size) → Fr h₀ env.locals s₁.heap m → News h₀ env.locals s₁.heap ((s.heap.objs.size, oI) :: W') → Kin s s₁ → (∀ p ∈ W, p.1 < s.heap.objs.size) →
      TurnHere prog w A h₀ env target body Q s s.heap.objs.size oI (J (i + 1)) v s₁)
    (done : ∀ m W' (s₁ : Shared), J its.length m W' → Fr h₀ env.locals s₁.heap m → News h₀ env.locals s₁.heap W' → Kin s s₁ → Q .next s₁) :
    wpAny (model prog w) A (pyIter (.ref ax)) (fun it s₂ => LoopHere prog w A h₀ env target body Q it s₂) E s := by
  have ht : s.heap.IsList ax its.toArray := ⟨o, (N _ hm).1, hc, n, hd⟩
  refine wpAny_pyIter_list ht ?_
  refine ⟨s.heap.objs.size, its.toArray.size, _, _, _, m, W, _, J, rfl, Iter.list hh s.heap.objs.size ax its.toArray, fun i m W' h hJ' F' N' => ⟨o, (N' _ (hsrc i m W' hJ')).1, hc, n, hd⟩, Ne.symm (Nat.ne_of_lt F.ns.lt), fresh_none F (Nat.le_refl _), Heap.get?_push_size _ rfl, ⟨rfl, rfl⟩,
    F.push _, N.grown (fun _ _ e => Heap.get?_push_of_some _ e), fun p hp => Nat.ne_of_lt (Heap.lt_size (N p hp).1), hJ, ?_, ?_⟩
  · intro i v m₁ W₁ oI s₁ hi hP hJ₁ hoff F₁ N₁ K₁
    exact turn i v m₁ W₁ oI s₁ (by simpa using hP) hJ₁ hoff F₁ N₁ K₁ (fun p hp => Heap.lt_size (N p hp).1) _ fun _ _ x => x
  · intro m₁ W₁ s₁ hJ₁ F₁ N₁ K₁
    exact done m₁ W₁ s₁ (by simpa using hJ₁) F₁ N₁ K₁
end
end

section
open PySem PySem.SeqAt
open SetTable
theorem getElem_cons_eraseIdx_perm {α : Type} : ∀ {l : List α} {i : Nat} (h : i < l.length), List.Perm (l[i] :: l.eraseIdx i) l
  | [], _, h => absurd h (Nat.not_lt_zero _)
  | x :: r, 0, _ => List.Perm.refl _
  | x :: r, i + 1, h => by
    have h' : i < r.length := Nat.lt_of_succ_lt_succ h
    exact (List.Perm.swap x r[i] _).trans ((getElem_cons_eraseIdx_perm h').cons x)
theorem pickGo_perm {α : Type} (next : Nat → Nat) : ∀ (fuel k : Nat) (left : List α) (out : Array α), left.length ≤ fuel → List.Perm (pickOrder.go next fuel k left out).toList (out.toList ++ left)
  | 0, _, left, out, h => by
    have : left = [] := List.length_eq_zero_iff.mp (Nat.le_zero.mp h)
    subst this
    unfold pickOrder.go
    simp
  | fuel + 1, k, left, out, h => by
    unfold pickOrder.go
    cases hx : left[next k % left.length]? with
    | none =>
      have hl : left = [] := by
        cases left with
        | nil => rfl
        | cons x r =>
          have : next k % (r.length + 1) < r.length + 1 := Nat.mod_lt (next k) (Nat.succ_pos r.length)
          have h2 := List.getElem?_eq_none_iff.mp hx
          simp only [List.length_cons] at h2 this
          lia
      subst hl
      simp
    | some x =>
      dsimp only
      obtain ⟨hlt, rfl⟩ := List.getElem?_eq_some_iff.mp hx
      refine (pickGo_perm next fuel (k + 1) _ _ (by rw [List.length_eraseIdx_of_lt hlt]; omega)).trans ?_
      rw [Array.toList_push, List.append_assoc]
      refine List.Perm.append_left _ ?_
      exact (getElem_cons_eraseIdx_perm hlt)
theorem pickOrder_perm {α : Type} (next : Nat → Nat) (xs : Array α) : List.Perm (pickOrder next xs).toList xs.toList := by
  have := pickGo_perm next xs.size 0 xs.toList #[] (by simp)
  simp only [List.nil_append] at this
  exact this
theorem slot_set_iterator_next : Slot "set_iterator" "__next__" "set_iterator.__next__" :=
  .of (owner := "set_iterator") (n := "__next__") (by rw [typeLookup_type, builtinLookup_eq_fast]; kernel_rfl) (by decide +kernel) (by decide +kernel) (by decide +kernel)
    (by first | exact .inl (by decide +kernel) | exact .inr (by decide +kernel)) (by rw [isSubtype_type]; kernel_rfl)
theorem entry_set_iterator_next : entryFor table "set_iterator.__next__" = some Builtin.«set_iterator.__next__» := entryFor_of_tree (by kernel_rfl)
theorem owner_set_iterator : Manifest.owners.lookup (String.ofList ['r', 'o', 't', 'a', 'r', 'e', 't', 'i', '_', 't', 'e', 's'].reverse) = some Manifest.sig_set_iterator := by kernel_rfl
theorem args_set_iterator_next_1 (a : Value) : argsOk "set_iterator.__next__" ⟨[a], []⟩ := by
  unfold argsOk; rw [signature?_of (id := "set_iterator.__next__") (n := ['_', '_', 't', 'x', 'e', 'n', '_', '_']) (o := ['r', 'o', 't', 'a', 'r', 'e', 't', 'i', '_', 't', 'e', 's']) (by kernel_rfl) owner_set_iterator]; kernel_rfl
theorem entry_set_iter : entryFor table "set.__iter__" = some Builtin.«frozenset.__iter__» :=
  entryFor_alias (id' := "frozenset.__iter__") (by kernel_rfl) rfl (by decide +kernel) (by kernel_rfl)
section
variable {prog : PySem.Program} {w : World} {A : Around} {E : Value → Shared → Prop} {s : Shared}
theorem wpAny_choose {src : Source} {n : Nat} {Q : Nat → Shared → Prop} (hn : n ≠ 0) (h : ∀ i d, i < n → Q i { s with drawn := d }) : wpAny (model prog w) A (choose src n) Q E s :=
  fun Γ p _ => by
    show Sem.wp _ Γ (Sem.choose src n Sem.pure) _ _ p s
    exact ⟨hn, h _ _ (Nat.mod_lt _ (Nat.pos_of_ne_zero hn))⟩
theorem wpAny_drawOrder {α : Type} : ∀ (n : Nat) (l : List α) (s : Shared) {Q : List α → Shared → Prop}, l.length = n → (∀ l' d, List.Perm l' l → Q l' { s with drawn := d }) → wpAny (model prog w) A (drawOrder n l) Q E s
  | 0, l, s, Q, hl, h => by
    have : l = [] := List.length_eq_zero_iff.mp hl
    subst this
    refine wpAny_pure ?_
    have := h [] s.drawn .nil
    exact this
  | n + 1, [], s, Q, hl, _ => by cases hl
  | n + 1, x :: r, s, Q, hl, h => by
    refine wpAny_bind (wpAny_choose (by simp) fun i d hi => ?_)
    rw [List.getElem?_eq_getElem hi]
    dsimp only
    refine wpAny_bind (wpAny_drawOrder n _ _ (by rw [List.length_eraseIdx_of_lt hi]; omega) fun l' d' hp => ?_)
    refine wpAny_pure (h _ d' ?_)
    exact (hp.cons _).trans (getElem_cons_eraseIdx_perm hi)
noncomputable abbrev setIt (first : Value) (i : Nat) (a : Addr) (n ep : Nat) : Array Value := #[first, .int i 0, .ref a, .int n 0, .int ep 0]
noncomputable def IsSetIter (o : Obj) (first : Value) (i : Nat) (a : Addr) (n ep : Nat) : Prop := o.cls = .type "set_iterator" ∧ o.data = .fields (setIt first i a n ep)
theorem IsSetIter.put {h : Heap} {I : Addr} {o : Obj} {first : Value} {i : Nat} {a : Addr} {n ep : Nat} (ho : h.get? I = some o) (hO : IsSetIter o first i a n ep) (j : Nat) (v : Value) :
    ∃ o', (h.update I (Obj.mapFields fun vs => vs.setIfInBounds j v)).get? I = some o' ∧ o'.cls = .type "set_iterator" ∧ o'.data = .fields ((setIt first i a n ep).setIfInBounds j v) :=
  ⟨_, Heap.get?_update_self _ ho (Obj.isFreed_of_fields (Obj.data_mapFields hO.2 _)), (Obj.cls_mapFields ..).trans hO.1, Obj.data_mapFields hO.2 _⟩
theorem next_drawn_item {I a Tp : Addr} {oI o oT : Obj} {i n ep nT : Nat} {es : Array (Int × Value)} {t : SetTable} {perm : List Nat} {x : Int × Value} {Q : Option Value → Shared → Prop}
    (ho : s.heap.get? I = some oI) (hO : IsSetIter oI (.ref Tp) i a n ep) (hs : s.heap.get? a = some o) (hd : o.data = .set es ep t) (hf : t.fits es.size = true) (hn : es.size = n)
    (hT : s.heap.get? Tp = some oT) (hTd : oT.data = .seq (perm.map fun (j : Nat) => rawInt j).toArray nT) (hi : i < perm.length) (hx : es[perm[i]]? = some x)
    (h : ∀ h' o', Heap.SameBut I s.heap h' → h'.get? I = some o' → IsSetIter o' (.ref Tp) (i + 1) a n ep → Q (some x.2) { s with heap := h' }) :
    wpAny (model prog w) A (pyNext (.ref I)) Q E s := by
  have hTI : s.TypeIs (.ref I) "set_iterator" := ⟨oI, ho, hO.1⟩
  refine wpAny_bind (wpAny_attempt (wpAny_callSpecial?_slot (name := Str.ofString "__next__") hTI slot_set_iterator_next
    (wpAny_call_entry slot_set_iterator_next hTI entry_set_iterator_next ?_ (args_set_iterator_next_1 _))))
  refine wpAny_bind (wpAny_pure ?_)
  refine wpAny_bind (wpAny_fieldsOf ho hO.2 ?_)
  dsimp only
  refine wpAny_bind (wpAny_setEntries_of hs hd hf ?_)
  rw [if_neg (by rw [hn]; simp)]
  refine wpAny_bind (wpAny_seqItems hT hTd ?_)
  dsimp only
  have hp : (perm.map fun (j : Nat) => rawInt j).toArray[(i : Int).toNat]? = some (.int (perm[i] : Int) 0) := by simp [hi, rawInt]
  rw [hp]
  refine wpAny_bind (wpAny_bind (wpAny_setState_of hs hd hf ?_))
  dsimp only
  rw [if_neg (by simp)]
  rw [Int.toNat_natCast, hx]
  refine wpAny_pure ?_
  refine wpAny_bind (wpAny_setField ho hO.2 (by simp) (wpAny_pure ⟨_, rfl, wpAny_pure ?_⟩))
  obtain ⟨o', e1, e2, e3⟩ := IsSetIter.put ho hO 1 (rawInt (i + 1))
  exact h _ o' (Heap.SameBut.update ..) e1 ⟨e2, by rw [e3]; simp [setIt, rawInt]⟩
end
end

section
open PySem PySem.SeqAt
open SetTable
section
variable {prog : PySem.Program} {w : World} {A : Around} {E : Value → Shared → Prop} {s : Shared}
theorem next_drawn_end {I a Tp : Addr} {oI o oT : Obj} {i n ep nT : Nat} {es : Array (Int × Value)} {t : SetTable} {perm : List Nat} {Q : Option Value → Shared → Prop} (hh : A.handled = none)
    (ho : s.heap.get? I = some oI) (hO : IsSetIter oI (.ref Tp) i a n ep) (hs : s.heap.get? a = some o) (hd : o.data = .set es ep t) (hf : t.fits es.size = true) (hn : es.size = n)
    (hT : s.heap.get? Tp = some oT) (hTd : oT.data = .seq (perm.map fun (j : Nat) => rawInt j).toArray nT) (hi : i = perm.length)
    (h : ∀ h', Heap.ExtBut I s.heap h' → Q none { s with heap := h' }) :
    wpAny (model prog w) A (pyNext (.ref I)) Q E s := by
  have hTI : s.TypeIs (.ref I) "set_iterator" := ⟨oI, ho, hO.1⟩
  refine wpAny_bind (wpAny_attempt (wpAny_callSpecial?_slot (name := Str.ofString "__next__") hTI slot_set_iterator_next
    (wpAny_call_entry slot_set_iterator_next hTI entry_set_iterator_next ?_ (args_set_iterator_next_1 _))))
  refine wpAny_bind (wpAny_pure ?_)
  refine wpAny_bind (wpAny_fieldsOf ho hO.2 ?_)
  dsimp only
  refine wpAny_bind (wpAny_setEntries_of hs hd hf ?_)
  rw [if_neg (by rw [hn]; simp)]
  refine wpAny_bind (wpAny_seqItems hT hTd ?_)
  dsimp only
  have hp : (perm.map fun (j : Nat) => rawInt j).toArray[(i : Int).toNat]? = none := by simp [hi]
  rw [hp]
  dsimp only
  refine wpAny_bind (wpAny_setField ho hO.2 (by simp) ?_)
  obtain ⟨o1, e1, e2, e3⟩ := IsSetIter.put ho hO 0 (rawInt 0)
  refine wpAny_bind (wpAny_setField e1 e3 (by simp) ?_)
  show wpAny _ _ (newExc (.type "StopIteration") [] >>= _) _ _ _
  refine wpAny_bind ?_
  simp only [newExc, newTuple]
  refine wpAny_bind (wpAny_newObj_type ?_ (by size_fits))
  refine wpAny_bind (m := firstArgMember _ _) (wpAny_of_eq (a := Value.none) (by first | rfl | (simp only [firstArgMember]; rfl)) ?_)
  refine wpAny_newObj_type ?_ (by size_fits)
  dsimp only [raiseNew]
  refine wpAny_bind (wpAny_handled ?_)
  rw [show A.in1.handled = none from hh]
  refine wpAny_bind (wpAny_pure (wpAny_throw ?_))
  refine wpAny_bind (wpAny_isInstance (T := "StopIteration") (b := true) ⟨_, Heap.get?_push_size _ rfl, rfl⟩ isSubtype_stop ?_)
  exact wpAny_pure (h _ ((((Heap.SameBut.update ..).trans (Heap.SameBut.update ..)).extBut.push _).push _))
theorem next_slot_item {I a : Addr} {oI o : Obj} {slot i n ep next : Nat} {es : Array (Int × Value)} {t : SetTable} {x : Value} {Q : Option Value → Shared → Prop}
    (ho : s.heap.get? I = some oI) (hO : IsSetIter oI (.int slot 0) i a n ep) (hs : s.heap.get? a = some o) (hd : o.data = .set es ep t) (hf : t.fits es.size = true) (hn : es.size = n)
    (hx : ∀ (E : Value → Shared → Prop) (Q : Option (Value × Nat) → Shared → Prop), Q (some (x, next)) s → wpAny (model prog w) A.in1 (setNext a slot i ep) Q E s)
    (h : ∀ h' o', Heap.SameBut I s.heap h' → h'.get? I = some o' → IsSetIter o' (.int next 0) (i + 1) a n ep → Q (some x) { s with heap := h' }) :
    wpAny (model prog w) A (pyNext (.ref I)) Q E s := by
  have hTI : s.TypeIs (.ref I) "set_iterator" := ⟨oI, ho, hO.1⟩
  refine wpAny_bind (wpAny_attempt (wpAny_callSpecial?_slot (name := Str.ofString "__next__") hTI slot_set_iterator_next
    (wpAny_call_entry slot_set_iterator_next hTI entry_set_iterator_next ?_ (args_set_iterator_next_1 _))))
  delta Builtin.«set_iterator.__next__» slotArgs
  simp only [List.isEmpty_nil, Bool.not_true, Bool.false_eq_true, ↓reduceIte, List.length_nil, bne_self_eq_false]
  refine wpAny_bind (wpAny_pure ?_)
  refine wpAny_bind (wpAny_fieldsOf ho hO.2 ?_)
  dsimp only
  refine wpAny_bind (wpAny_setEntries_of hs hd hf ?_)
  rw [if_neg (by rw [hn]; simp)]
  simp only [Int.toNat_natCast]
  refine wpAny_bind (hx _ _ ?_)
  refine wpAny_bind (wpAny_setField ho hO.2 (by simp) ?_)
  obtain ⟨o1, e1, e2, e3⟩ := IsSetIter.put ho hO 0 (rawInt next)
  refine wpAny_bind (wpAny_setField e1 e3 (by simp) (wpAny_pure ⟨_, rfl, wpAny_pure ?_⟩))
  have hO1 : IsSetIter o1 (.int next 0) i a n ep := ⟨e2, by rw [e3]; simp [setIt, rawInt]⟩
  obtain ⟨o', f1, f2, f3⟩ := IsSetIter.put e1 hO1 1 (rawInt (i + 1))
  exact h _ o' ((Heap.SameBut.update ..).trans (Heap.SameBut.update ..)) f1 ⟨f2, by rw [f3]; simp [setIt, rawInt]⟩
theorem next_slot_end {I a : Addr} {oI o : Obj} {slot i n ep : Nat} {es : Array (Int × Value)} {t : SetTable} {Q : Option Value → Shared → Prop} (hh : A.handled = none)
    (ho : s.heap.get? I = some oI) (hO : IsSetIter oI (.int slot 0) i a n ep) (hs : s.heap.get? a = some o) (hd : o.data = .set es ep t) (hf : t.fits es.size = true) (hn : es.size = n)
    (hx : ∀ (E : Value → Shared → Prop) (Q : Option (Value × Nat) → Shared → Prop), Q none s → wpAny (model prog w) A.in1 (setNext a slot i ep) Q E s)
    (h : ∀ h', Heap.ExtBut I s.heap h' → Q none { s with heap := h' }) :
    wpAny (model prog w) A (pyNext (.ref I)) Q E s := by
  have hTI : s.TypeIs (.ref I) "set_iterator" := ⟨oI, ho, hO.1⟩
  refine wpAny_bind (wpAny_attempt (wpAny_callSpecial?_slot (name := Str.ofString "__next__") hTI slot_set_iterator_next
    (wpAny_call_entry slot_set_iterator_next hTI entry_set_iterator_next ?_ (args_set_iterator_next_1 _))))
  delta Builtin.«set_iterator.__next__» slotArgs
  simp only [List.isEmpty_nil, Bool.not_true, Bool.false_eq_true, ↓reduceIte, List.length_nil, bne_self_eq_false]
  refine wpAny_bind (wpAny_pure ?_)
  refine wpAny_bind (wpAny_fieldsOf ho hO.2 ?_)
  dsimp only
  refine wpAny_bind (wpAny_setEntries_of hs hd hf ?_)
  rw [if_neg (by rw [hn]; simp)]
  simp only [Int.toNat_natCast]
  refine wpAny_bind (hx _ _ ?_)
  refine wpAny_bind (wpAny_setField ho hO.2 (by simp) ?_)
  show wpAny _ _ (newExc (.type "StopIteration") [] >>= _) _ _ _
  refine wpAny_bind ?_
  refine wpAny_bind (wpAny_newObj_type ?_ (by size_fits))
  refine wpAny_bind (m := firstArgMember _ _) (wpAny_of_eq (a := Value.none) (by first | rfl | (simp only [firstArgMember]; rfl)) ?_)
  refine wpAny_newObj_type ?_ (by size_fits)
  dsimp only [raiseNew]
  refine wpAny_bind (wpAny_handled ?_)
  rw [show A.in1.handled = none from hh]
  refine wpAny_bind (wpAny_pure (wpAny_throw ?_))
  refine wpAny_bind (wpAny_isInstance (T := "StopIteration") (b := true) ⟨_, Heap.get?_push_size _ rfl, rfl⟩ isSubtype_stop ?_)
  exact wpAny_pure (h _ (((Heap.SameBut.update ..).extBut.push _).push _))
theorem wpAny_setsByText {Q : Bool → Shared → Prop} (h : Q (byText w) s) : wpAny (model prog w) A setsByText Q E s :=
  wpAny_bind (wpAny_askSetting (wpAny_pure h))
theorem setWalk_text {a : Addr} {o : Obj} {es : Array (Int × Value)} {ep : Nat} {t : SetTable} {Q : Array (Int × Value) → Shared → Prop} (hs : s.heap.get? a = some o) (hd : o.data = .set es ep t) (hf : t.fits es.size = true) (ht : byText w = true)
    (h : Q (pickOrder (w.params.setOrder a ep) es) s) : wpAny (model prog w) A (setWalk a) Q E s := by
  unfold setWalk
  refine wpAny_bind (wpAny_setState_of hs hd hf ?_)
  refine wpAny_bind (wpAny_setsByText ?_)
  rw [ht]
  exact wpAny_bind (wpAny_askSetting (wpAny_pure h))
theorem setNext_text {a : Addr} {o : Obj} {es : Array (Int × Value)} {ep slot i : Nat} {t : SetTable} {Q : Option (Value × Nat) → Shared → Prop} (hs : s.heap.get? a = some o) (hd : o.data = .set es ep t) (hf : t.fits es.size = true) (ht : byText w = true)
    (h : Q (((pickOrder (w.params.setOrder a ep) es)[i]?).map fun e => (e.2, slot)) s) : wpAny (model prog w) A (setNext a slot i ep) Q E s := by
  unfold setNext
  refine wpAny_bind (wpAny_setState_of hs hd hf ?_)
  dsimp only
  refine wpAny_bind (wpAny_setsByText ?_)
  rw [ht]
  simp only [if_true]
  rw [if_neg (by simp)]
  exact wpAny_bind (setWalk_text hs hd hf ht (wpAny_pure h))
theorem setNext_small {a : Addr} {o : Obj} {es : Array (Int × Value)} {ep slot i : Nat} {t : SetTable} {Q : Option (Value × Nat) → Shared → Prop} (hs : s.heap.get? a = some o) (hd : o.data = .set es ep t) (hf : t.fits es.size = true) (ht : byText w = false)
    (hled : t.led = true) (hsm : es.size ≤ 1)
    (h : Q (match es[below t.place slot]?, t.place[below t.place slot]? with
      | some (_, x), some j => some (x, j + 1)
      | _, _ => none) s) : wpAny (model prog w) A (setNext a slot i ep) Q E s := by
  unfold setNext
  refine wpAny_bind (wpAny_setState_of hs hd hf ?_)
  dsimp only
  refine wpAny_bind (wpAny_setsByText ?_)
  rw [ht]
  have hdr : (!t.plain && decide (es.size > 1)) = false := by rw [decide_eq_false (by omega), Bool.and_false]
  show wpAny _ _ (if (!t.plain && decide (es.size > 1)) = true then _ else _) _ _ _
  rw [hdr]
  refine wpAny_bind ?_
  show wpAny _ _ (if (!t.led && !es.isEmpty) = true then _ else pure PUnit.unit) _ _ _
  rw [hled]
  exact wpAny_pure (wpAny_pure h)
noncomputable def slotAt (c : Nat) : Nat → Nat
  | 0 => 0
  | _ + 1 => c
theorem pyIter_set {a : Addr} {o : Obj} {vals : List Value} {target : PySem.Expr} {Q : Value → Shared → Prop} (ho : s.heap.get? a = some o) (hS : ObjPend w o vals) (hz : vals.length < 70)
    (h : ∀ (I : Addr) (X : List (Addr × Obj)) (ord : List Value) (Ob : Nat → Obj → Prop) (oI : Obj) (h' : Heap) (d : Drawn), List.Perm ord vals →
      (∀ A' : Around, A'.handled = none → Iter prog w A' target I ord.length (fun i v => ord[i]? = some v) Ob (fun h => h.get? a = some o ∧ ∀ p ∈ X, h.get? p.1 = some p.2)) →
      Ob 0 oI → h'.get? I = some oI → (∀ b o, s.heap.get? b = some o → h'.get? b = some o) → (∀ p ∈ X, h'.get? p.1 = some p.2 ∧ p.1 ≠ I ∧ s.heap.objs.size ≤ p.1) → s.heap.objs.size ≤ I →
      Q (.ref I) { s with heap := h', drawn := d }) :
    wpAny (model prog w) A (pyIter (.ref a)) Q E s := by
  obtain ⟨hex, es, ep, t, hd, ⟨T, tled, tplain⟩, hv⟩ := hS
  have hT : s.TypeIs (.ref a) "set" := ⟨o, ho, hex.1⟩
  have hlen : es.size = vals.length := by rw [← hv]; simp
  have hf := T.fits
  refine wpAny_pyIter_slot hT F.slot_set_iter (wpAny_call_entry F.slot_set_iter hT entry_set_iter ?_ (F.args_set_iter_1 _))
  delta Builtin.«frozenset.__iter__» Builtin.Frozenset.slot0 slotArgs
  simp only [List.isEmpty_nil, Bool.not_true, Bool.false_eq_true, ↓reduceIte, bind_assoc, List.length_nil, bne_self_eq_false]
  refine wpAny_bind (wpAny_pure ?_)
  refine wpAny_bind (wpAny_pure ?_)
  refine wpAny_bind (wpAny_bind (wpAny_setEntries_of ho hd hf (wpAny_pure ?_)))
  refine wpAny_bind (wpAny_bind (wpAny_setState_of ho hd hf ?_))
  refine wpAny_bind (wpAny_setsByText ?_)
  show wpAny _ _ (pure (!byText w && (!t.plain && decide (es.size > 1)))) _ _ _
  refine wpAny_pure ?_
  by_cases hdr : (!byText w && (!t.plain && decide (es.size > 1))) = true
  · rw [if_pos hdr]
    refine wpAny_bind (wpAny_drawOrder es.size (List.range es.size) s (by simp) fun perm d hp => ?_)
    refine wpAny_bind ?_
    have hpl : perm.length = es.size := by have := hp.length_eq; simpa using this
    refine wpAny_newObj_type ?_ (by show (perm.map fun (i : Nat) => rawInt i).toArray.size ≤ sizeLine; rw [List.size_toArray, List.length_map, hpl, sizeLine_eq]; lia)
    have keep : ∀ b ob, s.heap.get? b = some ob → (s.heap.push { cls := .type "tuple", data := .seq (perm.map fun (i : Nat) => rawInt i).toArray }).get? b = some ob := fun b ob e => Heap.get?_push_of_some _ e
    refine wpAny_bind (wpAny_bind (wpAny_setState_of (keep _ _ ho) hd hf ?_))
    refine wpAny_pure ?_
    dsimp only
    refine wpAny_bind (wpAny_newObj_type (wpAny_pure ⟨_, rfl, "set_iterator", _, ⟨_, Heap.get?_push_size _ rfl, rfl⟩, slot_set_iterator_next.lookup, ?_⟩))
    have hord : ∀ i (hi : i < perm.length), ∃ x, es[perm[i]]? = some x := fun i hi => by
      have : perm[i] ∈ List.range es.size := hp.mem_iff.mp (List.getElem_mem hi)
      exact ⟨_, Array.getElem?_eq_getElem (List.mem_range.mp this)⟩
    have hfm : List.Perm (perm.filterMap fun j => es[j]?) es.toList := (hp.filterMap _).trans (by rw [filterMap_getElem?_range])
    have hget : ∀ (l : List Nat), (∀ j ∈ l, ∃ x, es[j]? = some x) → ∀ i : Nat, (l.filterMap fun j => es[j]?)[i]? = (l[i]?).bind fun j => es[j]? := by
      intro l
      induction l with
      | nil => intro _ i; rfl
      | cons j r ih =>
        intro hall i
        obtain ⟨x, hx⟩ := hall j List.mem_cons_self
        rw [List.filterMap_cons_some (b := x) hx]
        cases i with
        | zero => simp [hx]
        | succ i => simpa using ih (fun j hj => hall j (mct _ hj)) i
    have hall : ∀ j ∈ perm, ∃ x, es[j]? = some x := fun j hj => ⟨_, Array.getElem?_eq_getElem (List.mem_range.mp (hp.mem_iff.mp hj))⟩
    have hlen2 : (perm.filterMap fun j => es[j]?).length = perm.length := by rw [hfm.length_eq, Array.length_toList, hpl]
    have hsz : (s.heap.push { cls := .type "tuple", data := .seq (perm.map fun (i : Nat) => rawInt i).toArray }).objs.size = s.heap.objs.size + 1 := Heap.size_push ..
    refine h _ [(s.heap.objs.size, { cls := .type "tuple", data := .seq (perm.map fun (i : Nat) => rawInt i).toArray })] ((perm.filterMap fun j => es[j]?).map (·.2)) (fun i o => IsSetIter o (.ref s.heap.objs.size) i a es.size ep) _ _ d ?_ ?_ ?_ (Heap.get?_push_size _ rfl) ?_ ?_ ?_
    · rw [← hv]; exact hfm.map _
    · intro A' hA'
      constructor
      · intro i s₁ Q₁ E₁ o₁ hi ho₁ hO₁ ⟨hs₁, hX⟩ hQ
        rw [List.length_map, hlen2] at hi
        obtain ⟨x, hx⟩ := hord i hi
        refine next_drawn_item ho₁ hO₁ hs₁ hd hf rfl (hX _ (List.mem_singleton.mpr rfl)) rfl hi hx fun h' o' hsb e hO' => ?_
        exact hQ x.2 o' h' s₁.toks (by rw [List.getElem?_map, hget perm hall, List.getElem?_eq_getElem hi]; simp [hx]) hO' hsb e
      · intro s₁ Q₁ E₁ o₁ ho₁ hO₁ ⟨hs₁, hX⟩ hQ
        refine next_drawn_end hA' ho₁ hO₁ hs₁ hd hf rfl (hX _ (List.mem_singleton.mpr rfl)) rfl (by rw [List.length_map, hlen2]) fun h' he => hQ h' s₁.toks he
      · intro i v s₁ Q₁ E₁ o₁ ho₁ hO₁ hQ
        exact go_fields ho₁ hO₁.1 hO₁.2 (by decide) hQ
    · exact ⟨rfl, rfl⟩
    · exact fun b ob e => Heap.get?_push_of_some _ (keep b ob e)
    · intro p hp'
      rw [List.mem_singleton.mp hp']
      exact ⟨Heap.get?_push_of_some _ (Heap.get?_push_size _ rfl), Nat.ne_of_lt (by rw [hsz]; exact Nat.lt_succ_self _), Nat.le_refl _⟩
    · rw [hsz]; exact Nat.le_succ _
  · rw [if_neg hdr]
    refine wpAny_bind (wpAny_pure ?_)
    refine wpAny_bind (wpAny_bind (wpAny_setState_of ho hd hf ?_))
    refine wpAny_pure ?_
    dsimp only
    refine wpAny_bind (wpAny_newObj_type (wpAny_pure ⟨_, rfl, "set_iterator", _, ⟨_, Heap.get?_push_size _ rfl, rfl⟩, slot_set_iterator_next.lookup, ?_⟩))
    have e0 : ∀ h' : Heap, ({ s with heap := h' } : Shared) = { s with heap := h', drawn := s.drawn } := fun _ => rfl
    cases ht : byText w with
    | true =>
      have hperm := pickOrder_perm (w.params.setOrder a ep) es
      refine h _ [] ((pickOrder (w.params.setOrder a ep) es).toList.map (·.2)) (fun i o => IsSetIter o (.int (0 : Nat) 0) i a es.size ep) _ _ s.drawn ?_ ?_ ?_ (Heap.get?_push_size _ rfl) (fun b ob e => Heap.get?_push_of_some _ e) (fun p hp => nomatch hp) (Nat.le_refl _)
      · rw [← hv]; exact hperm.map _
      · intro A' hA'
        constructor
        · intro i s₁ Q₁ E₁ o₁ hi ho₁ hO₁ ⟨hs₁, _⟩ hQ
          rw [List.length_map, Array.length_toList] at hi
          refine next_slot_item (x := (pickOrder (w.params.setOrder a ep) es)[i].2) (next := 0) ho₁ hO₁ hs₁ hd hf rfl (fun E' Q' hq => setNext_text hs₁ hd hf ht ?_) fun h' o' hsb e hO' => ?_
          · rw [Array.getElem?_eq_getElem hi]; exact hq
          · exact hQ _ o' h' s₁.toks (by simp [hi]) hO' hsb e
        · intro s₁ Q₁ E₁ o₁ ho₁ hO₁ ⟨hs₁, _⟩ hQ
          refine next_slot_end hA' ho₁ hO₁ hs₁ hd hf rfl (fun E' Q' hq => setNext_text hs₁ hd hf ht ?_) fun h' he => hQ h' s₁.toks he
          have : (pickOrder (w.params.setOrder a ep) es)[((pickOrder (w.params.setOrder a ep) es).toList.map (·.2)).length]? = none := by simp
          rw [this]; exact hq
        · intro i v s₁ Q₁ E₁ o₁ ho₁ hO₁ hQ
          exact go_fields ho₁ hO₁.1 hO₁.2 (by decide) hQ
      · exact ⟨rfl, rfl⟩
    | false =>
      have hsm : es.size ≤ 1 := by
        by_cases hne : es.size = 0
        · lia
        · rw [tplain hne] at hdr
          lia
      have hled : t.led = true := by rw [tled, ht]; rfl
      refine h _ [] (es.toList.map (·.2)) (fun i o => IsSetIter o (.int (slotAt (t.place.getD 0 0 + 1) i : Nat) 0) i a es.size ep) _ _ s.drawn ?_ ?_ ?_ (Heap.get?_push_size _ rfl) (fun b ob e => Heap.get?_push_of_some _ e) (fun p hp => nomatch hp) (Nat.le_refl _)
      · rw [← hv]
      · intro A' hA'
        constructor
        · intro i s₁ Q₁ E₁ o₁ hi ho₁ hO₁ ⟨hs₁, _⟩ hQ
          rw [List.length_map, Array.length_toList] at hi
          obtain rfl : i = 0 := by lia
          have h1 : es.size = 1 := by lia
          have hb : below t.place 0 = 0 := by
            have := T.size
            unfold below
            rw [this, h1]
            simp [below.go]
          have hp0 : t.place[0]? = some (t.place.getD 0 0) := by
            have hlt : 0 < t.place.size := by have := T.size; lia
            rw [Array.getElem?_eq_getElem hlt, Array.getD_eq_getD_getElem?, Array.getElem?_eq_getElem hlt]; rfl
          refine next_slot_item (x := es[0].2) (next := t.place.getD 0 0 + 1) ho₁ hO₁ hs₁ hd hf rfl (fun E' Q' hq => setNext_small hs₁ hd hf ht hled hsm ?_) fun h' o' hsb e hO' => ?_
          · rw [show slotAt (t.place.getD 0 0 + 1) 0 = 0 from rfl, hb, hp0, Array.getElem?_eq_getElem (by omega)]; exact hq
          · exact hQ _ o' h' s₁.toks (by simp [hi]) hO' hsb e
        · intro s₁ Q₁ E₁ o₁ ho₁ hO₁ ⟨hs₁, _⟩ hQ
          rw [List.length_map, Array.length_toList] at hO₁
          refine next_slot_end hA' ho₁ hO₁ hs₁ hd hf rfl (fun E' Q' hq => setNext_small hs₁ hd hf ht hled hsm ?_) fun h' he => hQ h' s₁.toks he
          have hnone : es[below t.place (slotAt (t.place.getD 0 0 + 1) es.size)]? = none := by
            refine Array.getElem?_eq_none ?_
            have hs := T.size
            rcases Nat.le_one_iff_eq_zero_or_eq_one.mp hsm with e | e
            · rw [e]; exact Nat.zero_le _
            · rw [e]
              show 1 ≤ below t.place (t.place.getD 0 0 + 1)
              unfold below
              rw [hs, e]
              simp only [below.go]
              rw [if_pos (by decide)]
              have : (0 + 1) / 2 = 0 := rfl
              have hlt : 0 < t.place.size := by lia
              have hg : ∀ d, t.place.getD 0 d = t.place[0] := fun d => by rw [Array.getD_eq_getD_getElem?, Array.getElem?_eq_getElem hlt]; rfl
              rw [hg, hg, if_pos (Nat.lt_succ_self _)]
              exact Nat.le_refl _
          rw [hnone]; exact hq
        · intro i v s₁ Q₁ E₁ o₁ ho₁ hO₁ hQ
          exact go_fields ho₁ hO₁.1 hO₁.2 (by decide) hQ
      · exact ⟨rfl, rfl⟩
end
end

section
open PySem PySem.SeqAt
open SetTable
section
variable {prog : PySem.Program} {w : World} {A : Around} {E : Value → Shared → Prop} {s : Shared}
noncomputable abbrev newPend (w : World) : Obj := { cls := .type "set", dict := none, data := .set #[] 0 (.fresh 0 0 (!byText w)) }
theorem newPend_ok (w : World) : ObjPend w (newPend w) [] :=
  ⟨⟨rfl, rfl, rfl⟩, #[], 0, _, rfl, ⟨⟨rfl, rfl, .inl rfl, by show 0 * 5 < 7 * 3; lia⟩, rfl, fun h => absurd rfl h⟩, rfl⟩
theorem code_newPend {Q₁ : Value → Shared → Prop} (h : Q₁ (.ref s.heap.objs.size) { s with heap := s.heap.push (newPend w) }) :
    codeAny (model prog w) A (.call (.builtin "set.__new__") ⟨[.type "set"], []⟩) (wants Q₁ E) s := by
  refine codeAny_of_tree ?_
  show wpAny _ A.in1 (do checkBuiltinCall "set.__new__" ⟨[.type "set"], []⟩; again (.builtin "set.__new__" ⟨[.type "set"], []⟩)) _ _ s
  refine wpAny_bind (wpAny_of_eq F.newCall_set_0 (wpAny_pure ⟨plainId_quiet F.plain_set_new _, codeAny_builtin F.entry_set_new ?_⟩))
  rw [Around.under_plainId F.plain_set_new _]
  unfold Builtin.«set.__new__»
  refine wpAny_bind (m := Builtin.Frozenset.newClass "set" ⟨[.type "set"], []⟩) ?_
  unfold Builtin.Frozenset.newClass
  have hsub := sub_set_self
  obtain ⟨hp, g, d, tk, os⟩ := s
  wp_walk
  refine wpAny_askSetting (wpAny_pure ?_)
  dsimp only
  simp only [newObj]
  refine wpAny_bind (wpAny_alloc (wpAny_pure ?_))
  exact wpAny_pure h
end
end

section
open PySem PySem.SeqAt
open SetTable
section
variable {prog : PySem.Program} {w : World} {A : Around} {E : Value → Shared → Prop} {s : Shared}
theorem call_set_clear {a : Addr} {o : Obj} {vals : List Value} {Q : Value → Shared → Prop} (ho : s.heap.get? a = some o) (hS : ObjPend w o vals)
    (h : ∀ h' o', Heap.SameBut a s.heap h' → h'.get? a = some o' → ObjPend w o' [] → Q .none { s with heap := h' }) :
    wpAny (model prog w) A (call (.builtin "set.clear") [.ref a]) Q E s := by
  obtain ⟨hex, es, ep, t, hd, ⟨T, tled, tplain⟩, hv⟩ := hS
  have hT : s.TypeIs (.ref a) "set" := ⟨o, ho, hex.1⟩
  have hf := T.fits
  refine wpAny_call_entry F.slot_set_clear hT F.entry_set_clear ?_ (F.args_set_clear_1 _)
  delta Builtin.«set.clear» Builtin.Frozenset.noArgs
  delta Builtin.Frozenset.addrOf Builtin.Frozenset.clearAll setClear
  refine wpAny_bind (wpAny_pure ?_)
  refine wpAny_bind (wpAny_bind ?_)
  have tail : ∀ old : Option (List Value), wpAny (model prog w) A.in1 (do
      let t := (← setState a).2.2
      storeSet a #[] (t.cleared (led := !(← setsByText) && (t.led || t.finger == 0)))
      return old) (fun x s' => wpAny (model prog w) A.in1 (match x with | some old => letGo (old.filter fun | .ref _ => true | _ => false) | none => point) (fun _ s' => wpAny (model prog w) A.in1 (ret .none) (fun fin s'' => ∃ v, fin = .done (.ret v) ∧ Q v s'') E s') E s') E s := fun old => by
    refine wpAny_bind (wpAny_setState_of ho hd hf ?_)
    dsimp only
    refine wpAny_bind (wpAny_setsByText ?_)
    refine wpAny_bind (wpAny_storeSet_of ho hd ?_ (Nat.zero_le _))
    refine wpAny_pure ?_
    obtain ⟨o', e1, e2, e3⟩ := objPend_put ho hex hd #[] (t.cleared (!byText w && (t.led || t.finger == 0)))
    have fin := h _ o' (Heap.SameBut.update ..) e1 ⟨e2, _, _, _, e3, ⟨⟨rfl, rfl, .inl rfl, by show 0 * 5 < 7 * 3; omega⟩, by
      show (!byText w && (t.led || t.finger == 0)) = !byText w
      rw [tled]
      cases byText w <;> rfl, fun h => absurd rfl h⟩, rfl⟩
    cases old with
    | none => exact wpAny_point (wpAny_pure ⟨_, rfl, fin⟩)
    | some l => exact wpAny_letGo (wpAny_pure ⟨_, rfl, fin⟩)
  refine wpAny_bind (wpAny_bind (wpAny_setState_of ho hd hf ?_))
  refine wpAny_bind (wpAny_setsByText (wpAny_pure ?_))
  split
  · rename_i hk
    refine wpAny_bind ?_
    refine wpAny_bind ?_
    have walked : ∀ Q' : Array (Int × Value) → Shared → Prop, (∀ l, Q' l s) → wpAny (model prog w) A.in1 (setWalk a) Q' E s := fun Q' hq => by
      cases ht : byText w with
      | true => exact setWalk_text ho hd hf ht (hq _)
      | false =>
        unfold setWalk
        refine wpAny_bind (wpAny_setState_of ho hd hf ?_)
        refine wpAny_bind (wpAny_setsByText ?_)
        rw [ht]
        have hled : t.led = true := by rw [tled, ht]; rfl
        have hsm : es.size ≤ 1 := by
          by_cases hne : es.size = 0
          · omega
          · rw [ht, tplain hne] at hk
            simpa using hk
        have hdr : (!t.plain && decide (es.size > 1)) = false := by rw [decide_eq_false (by omega), Bool.and_false]
        show wpAny _ _ (if (!t.plain && decide (es.size > 1)) = true then _ else _) _ _ _
        rw [hdr]
        refine wpAny_bind ?_
        show wpAny _ _ (if (!t.led && decide (es.size > 1)) = true then _ else pure PUnit.unit) _ _ _
        rw [hled]
        exact wpAny_pure (wpAny_pure (hq _))
    refine walked _ fun l => wpAny_pure (wpAny_bind (wpAny_pure ?_))
    exact wpAny_mono (tail _) (fun x s' hx => by cases x <;> exact hx) (fun _ _ e => e)
  · exact wpAny_bind (wpAny_pure (wpAny_mono (tail _) (fun x s' hx => by cases x <;> exact hx) (fun _ _ e => e)))
theorem getMethod_set_clear {a : Addr} {o : Obj} {pl : Sem Bool} {Q : Value × List Value → Shared → Prop} (ho : s.heap.get? a = some o) (hS : o.ExactSet) (h : Q (.builtin "set.clear", [.ref a]) s) :
    wpAny (model prog w) A (getMethod (.ref a) "clear" pl) Q E s :=
  getMethod_builtin ⟨o, ho, hS.1⟩ F.plainAttrs_set F.slot_set_clear F.type_set_clear (fun b e => by injection e with e; subst e; exact ⟨o, ho, hS.2.1⟩) h
end
end

section
open PySem PySem.SeqAt
open SetTable
section
variable {prog : PySem.Program} {w : World} {A : Around} {E : Value → Shared → Prop} {s : Shared}
set_option maxHeartbeats 1000000 in
theorem call_newPend {Q : Value → Shared → Prop} (h : Q (.ref s.heap.objs.size) { s with heap := s.heap.push (newPend w) }) :
    wpAny (model prog w) A (call (.type "set") []) Q E s := by
  obtain ⟨c, tl, hmro⟩ := F.called_set.mro
  have hmade := F.called_set.made
  have hsub := F.called_set.sub
  refine wpAny_call (codeAny_of_tree ?_)
  show wpAny _ _ (callAny (.type "set") _) _ _ _
  refine wpAny_pure ⟨Code.quiet_builtin _ (by decide +kernel), codeAny_builtin F.entry_type_call ?_⟩
  rw [Around.under_plain (weight_type_call_type "set" [] []) rfl]
  have h1 := F.called_set.notType
  have h2 := F.called_set.canCreate
  have hct := F.typeCall_set_0
  repeat (any_goals (first | assumption | wp_step))
  refine codeAny_mono (code_newPend (E := E) (Q₁ := fun obj s₁ => obj = .ref s.heap.objs.size ∧ s₁ = { s with heap := s.heap.push (newPend w) }) ⟨rfl, rfl⟩) fun r s₁ hr => ?_
  cases r with
  | error e => exact hr
  | ok fl =>
    cases fl with
    | ret obj =>
      obtain ⟨rfl, rfl⟩ := hr
      have hS : (s.heap.push (newPend w)).get? s.heap.objs.size = some (newPend w) := Heap.get?_push_size _ rfl
      have hT : Shared.TypeIs { s with heap := s.heap.push (newPend w) } (.ref s.heap.objs.size) "set" := ⟨_, hS, rfl⟩
      have hli := F.called_set.init.lookup
      have hbi := F.called_set.init.bind (.ref s.heap.objs.size)
      repeat (any_goals (first | assumption | wp_step))
      refine codeAny_mono (codeAny_call_builtin (R := wants (fun r s₂ => r = .none ∧ Q (.ref s.heap.objs.size) s₂) E) F.called_set.init.plain F.entry_set_init (check_set_init hT ?_)) fun r₂ s₂ hr₂ => ?_
      · unfold Builtin.«set.__init__» noKeywords
        wp_walk
        exact ⟨rfl, h⟩
      · cases r₂ with
        | error e => exact hr₂
        | ok fl₂ =>
          cases fl₂ with
          | ret r =>
            obtain ⟨rfl, hq⟩ := hr₂
            repeat (any_goals (first | assumption | wp_step))
          | _ => exact hr₂.elim
    | _ => exact hr.elim
end
end

section
open PySem PySem.SeqAt PyProof.Rows PySem.W
section
variable {prog : PySem.Program} {w : World} {A : Around} {E : Value → Shared → Prop} {s : Shared} {h₀ : Heap} {L : Addr} {m : Str → Option Value} {W : List (Addr × Obj)}
noncomputable def upto (y : Int) (n : Nat) : Nat := if y < 0 then n - (-y).toNat else min y.toNat n
theorem adjust_upto (y : Int) (n : Nat) : Builtin.Slice.sliceAdjust none (some y) 1 (n : Int) = (0, (upto y n : Int)) := by
  delta Builtin.Slice.sliceAdjust upto
  have h1 : ¬ ((1 : Int) < 0) := by omega
  dsimp only [h1, if_false]
  congr 1
  split <;> lia
theorem places_upto (k : Nat) : Builtin.Slice.slicePlaces (0 : Int) (k : Int) 1 = k := by
  unfold Builtin.Slice.slicePlaces
  have h1 : (1 : Int) > 0 := by omega
  simp only [h1, if_true, Int.ediv_one]
  split <;> lia
theorem pick_upto (xs : Array Value) (k : Nat) : ((List.range k).filterMap fun (j : Nat) => xs[((0 : Int) + (j : Int) * 1).toNat]?).toArray = (xs.toList.take k).toArray := by
  have e : (fun (j : Nat) => xs[((0 : Int) + (j : Int) * 1).toNat]?) = fun j => xs[0 + j]? := by
    funext j
    have : ((0 : Int) + (j : Int) * 1).toNat = 0 + j := by lia
    rw [this]
  rw [e]
  have := pick_run xs 0 k
  rw [List.filterMap_map] at this
  have e2 : ((fun x => xs[x]?) ∘ fun x => 0 + x) = fun j => xs[0 + j]? := rfl
  rw [e2] at this
  rw [this, List.drop_zero]
theorem sliceApplied_upto {sl : Addr} {n : Nat} {y : Int} {u : Tok} {Q : Int × Int × Nat → Shared → Prop} (hs : s.heap.IsSliceOf sl .none (.int y u) .none) (h : Q (0, 1, upto y n) s) :
    wpAny (model prog w) A (Builtin.Slice.sliceApplied (.ref sl) (pure (n : Int))) Q E s := by
  obtain ⟨os, hos, hcs, hds⟩ := id hs
  refine wpAny_bind (wpAny_bind (wpAny_field hos hds (x := .none) rfl (wpAny_bind (wpAny_field hos hds (x := .int y u) rfl (wpAny_bind (wpAny_field hos hds (x := .none) rfl (wpAny_pure ?_)))))))
  refine wpAny_bind (slicePart_none ?_)
  refine wpAny_bind (slicePart_none (wpAny_bind (slicePart_int (wpAny_bind (wpAny_pure ?_)))))
  show wpAny _ _ (match Builtin.Slice.sliceAdjust none (some y) 1 (n : Int) with | (lo, hi) => pure (lo, (1 : Int), Builtin.Slice.slicePlaces lo hi 1)) _ _ s
  rw [adjust_upto y n]
  show wpAny _ _ (pure ((0 : Int), (1 : Int), Builtin.Slice.slicePlaces (0 : Int) (upto y n : Int) 1)) _ _ s
  rw [places_upto]
  exact wpAny_pure h
theorem getItem_tuple_upto {t sl : Addr} {items : Array Value} {y : Int} {u : Tok} {Q : Value → Shared → Prop} (ht : IsTup s.heap t items) (hs : s.heap.IsSliceOf sl .none (.int y u) .none)
    (h1 : upto y items.size = items.size → Q (.ref t) s)
    (h2 : Q (.ref s.heap.objs.size) { s with heap := s.heap.push { cls := .type "tuple", data := .seq (items.toList.take (upto y items.size)).toArray } })
    (hsz : items.size ≤ sizeLine) : wpAny (model prog w) A (getItem (.ref t) (.ref sl)) Q E s := by
  have htake : sizeOk (.seq (items.toList.take (upto y items.size)).toArray) := by
    show (items.toList.take (upto y items.size)).toArray.size ≤ sizeLine
    rw [List.size_toArray, List.length_take, Array.length_toList]
    omega
  obtain ⟨os, hos, hcs, hds⟩ := id hs
  have hTs : s.TypeIs (.ref sl) "slice" := ⟨os, hos, hcs⟩
  unfold getItem
  try with_reducible refine wpAny_holding ?_
  first | refine wpAny_bind (wpAny_pure ?_) | skip
  refine wpAny_bind (wpAny_sequenceKey ht.typeIs (by decide) ?_)
  refine wpAny_bind (wpAny_callSpecial?_slot (name := Str.ofString "__getitem__") ht.typeIs slot_tuple_getitem
    (wpAny_call_entry slot_tuple_getitem ht.typeIs entry_tuple_getitem ?_ (args_tuple_getitem _ _)))
  show wpAny _ _ (Builtin.Tuple.tupleItemsOf (.ref t) >>= _) _ _ s
  refine wpAny_bind (tupleItemsOf_ ht ?_)
  refine wpAny_bind (wpAny_typeOf hTs ?_)
  refine wpAny_bind (sliceApplied_upto hs ?_)
  show wpAny _ _ (if ((0 : Int) == 0 && (1 : Int) == 1 && upto y items.size == items.size) = true then _ else _) _ _ s
  have new : wpAny (model prog w) A.in1 (Builtin.Tuple.tupleExact ((List.range (upto y items.size)).filterMap fun (k : Nat) => items[((0 : Int) + (k : Int) * 1).toNat]?).toArray >>= fun v => ret v) (fun fin s' => ∃ v, fin = .done (.ret v) ∧ wpAny (model prog w) A (pure v) Q E s') E s := by
    rw [pick_upto]
    exact wpAny_bind (m := Builtin.Tuple.tupleExact _) (wpAny_newObj_type (wpAny_pure ⟨_, rfl, wpAny_pure h2⟩) htake)
  split
  · rename_i hc
    have he : upto y items.size = items.size := by simpa using hc
    refine wpAny_bind ?_
    refine wpAny_bind (wpAny_typeOf ht.typeIs (wpAny_pure ?_))
    refine wpAny_bind (wpAny_rule (wpAny_bind (wpAny_pure ?_)))
    exact wpAny_pure ⟨_, rfl, wpAny_pure (h1 he)⟩
  · exact new
theorem slice_upto {value slice : PySem.Expr} {t : Addr} {items : List Value} {y : Int} {u : Tok} {Q : Value → Shared → Prop}
    (F : Fr h₀ L s.heap m) (N : News h₀ L s.heap W) {o : Obj} {n : Nat} (hm : (t, o) ∈ W) (hc : o.cls = .type "tuple") (hd : o.data = .seq items.toArray n)
    (h : ∀ q o' n' h', Fr h₀ L h' m → News h₀ L h' ((q, o') :: W) → o'.cls = .type "tuple" → o'.data = .seq (items.take (upto y items.length)).toArray n' → (upto y items.length ≠ items.length → (∀ p ∈ W, p.1 < q)) → Q (.ref q) { s with heap := h' })
    (hs : subscripted slice false (.ref t) (.ref s.heap.objs.size) = operate [.ref s.heap.objs.size, .ref t] (getItem (.ref t) (.ref s.heap.objs.size)) := by with_unfolding_all rfl)
    (hg : ∀ r, letTemporaryGo value (.ref t) r = pure () := by intro _; with_unfolding_all rfl)
    (hsz : items.length ≤ sizeLine) :
    wpAny (model prog w) A (subscriptTail value slice (.ref t) (.ref s.heap.objs.size)) Q E { s with heap := s.heap.push { cls := .type "slice", data := .fields #[.none, .int y u, .none] } } := by
  have ht' : IsTup (s.heap.push { cls := .type "slice", data := .fields #[.none, .int y u, .none] }) t items.toArray := ⟨o, Heap.get?_push_of_some _ (N _ hm).1, hc, n, hd⟩
  have F1 := F.push { cls := .type "slice", data := .fields #[.none, .int y u, .none] }
  have N1 : News h₀ L (s.heap.push { cls := .type "slice", data := .fields #[.none, .int y u, .none] }) W := N.grown fun _ _ e => Heap.get?_push_of_some _ e
  refine subscriptTail_ops (s := { s with heap := s.heap.push { cls := .type "slice", data := .fields #[.none, .int y u, .none] } }) ht'.typeIs slot_tuple_getitem.lookup
    (getItem_tuple_upto ht' (Heap.IsSliceOf.new ..) ?_ ?_ (by simpa using hsz)) hs hg
  · intro he
    rw [List.size_toArray] at he
    exact h t o n _ F1 (fun p hp => by
      rcases List.mem_cons.mp hp with rfl | hp
      · exact N1 _ hm
      · exact N1 p hp) hc (by rw [he, List.take_length]; exact hd) (fun hx => absurd he hx)
  · show Q (.ref (s.heap.push _).objs.size) _
    refine h _ _ 0 _ (F1.push _) (News.push F1 N1 _) rfl (by simp) (fun _ p hp => ?_)
    rw [Heap.size_push]
    exact Nat.lt_succ_of_lt (Heap.lt_size (N p hp).1)
end
end

section
open PySem PySem.SeqAt PyProof.Rows PySem.W
noncomputable abbrev PP : PySem.Program := PySem.Challenge.rw_aa0048_01.row.prog
noncomputable abbrev SK (w : World) : KeyKind PP w Str := strKind PP w
noncomputable abbrev Led := List (Addr × Obj)
noncomputable def WayIn (w : World) (W : Led) (a : Addr) (p : List Str) : Prop := ∃ o its n, (a, o) ∈ W ∧ o.cls = .type "tuple" ∧ o.data = .seq (List.toArray its) n ∧ ItemsAre (SK w) p its
noncomputable def PairIn (w : World) (W : Led) (a : Addr) (k : List Str × Int) : Prop := ∃ o b t n, (a, o) ∈ W ∧ o.cls = .type "tuple" ∧ o.data = .seq #[.ref b, .int k.2 t] n ∧ WayIn w W b k.1
theorem WayIn.mono {w : World} {W W' : Led} {a : Addr} {p : List Str} (h : WayIn w W a p) (hs : ∀ q ∈ W, q ∈ W') : WayIn w W' a p := by obtain ⟨o, its, n, hm, r⟩ := h; exact ⟨o, its, n, hs _ hm, r⟩
theorem PairIn.mono {w : World} {W W' : Led} {a : Addr} {k : List Str × Int} (h : PairIn w W a k) (hs : ∀ q ∈ W, q ∈ W') : PairIn w W' a k := by obtain ⟨o, b, t, n, hm, c, d, e⟩ := h; exact ⟨o, b, t, n, hs _ hm, c, d, e.mono hs⟩
theorem WayIn.way {w : World} {W : Led} {h₀ h : Heap} {L a : Addr} {p : List Str} (x : WayIn w W a p) (N : News h₀ L h W) : Way PP w h p a := by
  obtain ⟨o, its, n, hm, hc, hd, hi⟩ := x; exact ⟨o, its.toArray, n, (N _ hm).1, hc, hd, hi⟩
theorem PairIn.at {w : World} {W : Led} {h₀ h : Heap} {L a : Addr} {k : List Str × Int} (x : PairIn w W a k) (N : News h₀ L h W) : PairAt PP w h k a := by
  obtain ⟨o, b, t, n, hm, hc, hd, hw⟩ := x; exact ⟨b, t, ⟨o, (N _ hm).1, hc, n, hd⟩, hw.way N⟩
structure NA where
  nd : Addr
  fl : Addr
  rc : Addr
  ne : Addr
inductive Role
  | other | inst | idict | root | pend
  | nd (p : List Str) | fl (p : List Str) | rc (p : List Str) | ne (p : List Str)
structure Gh where
  dx : Addr
  r : Addr
  ps : Addr
  node : List Str → Option NA
  role : Addr → Role
noncomputable abbrev Marks := List Str → Bool → Int → Bool
noncomputable abbrev kFlags : Str := Str.ofString "flags"
noncomputable abbrev kRec : Str := Str.ofString "recursive_flags"
noncomputable abbrev kNested : Str := Str.ofString "nested"
noncomputable def cnt (S : Int → Bool) : Nat := (S 0).toNat + (S 1).toNat
structure FlagsIn (w : World) (T : Led) (x : Addr) (g : Gh) (mk : Marks) (c : Nat) : Prop where
  inst : (x, instObj 66 g.dx) ∈ T
  idict : ∃ n1 t1 n2 t2 k, (g.dx, dictOf [⟨n1, .str (Str.ofString "_flags") t1, .ref g.r⟩, ⟨n2, .str (Str.ofString "_pending_flags") t2, .ref g.ps⟩] k) ∈ T
  root : ∃ o kvs, (g.r, o) ∈ T ∧ o.IsDictOf (SK w) kvs ∧ (∀ k, valueAt kvs k = (g.node [k]).map fun n => .ref n.nd) ∧ kvs.length ≤ c
  nd : ∀ p n, g.node p = some n → ∃ o kvs, (n.nd, o) ∈ T ∧ o.IsDictOf (SK w) kvs ∧ valueAt kvs kFlags = some (.ref n.fl) ∧ valueAt kvs kRec = some (.ref n.rc) ∧ valueAt kvs kNested = some (.ref n.ne)
  fl : ∀ p n, g.node p = some n → ∃ o k, (n.fl, o) ∈ T ∧ o.IntSetOf (mk p false) k ∧ k ≤ cnt (mk p false)
  rc : ∀ p n, g.node p = some n → ∃ o k, (n.rc, o) ∈ T ∧ o.IntSetOf (mk p true) k ∧ k ≤ cnt (mk p true)
  ne : ∀ p n, g.node p = some n → ∃ o kvs, (n.ne, o) ∈ T ∧ o.IsDictOf (SK w) kvs ∧ (∀ k, valueAt kvs k = (g.node (p ++ [k])).map fun n => .ref n.nd) ∧ kvs.length ≤ c
  nil : g.node [] = none
  closed : ∀ p k, p ≠ [] → g.node p = none → g.node (p ++ [k]) = none
  mk0 : ∀ p d f, g.node p = none → mk p d f = false
  rInst : g.role x = .inst
  rIdict : g.role g.dx = .idict
  rRoot : g.role g.r = .root
  rNode : ∀ p n, g.node p = some n → g.role n.nd = .nd p ∧ g.role n.fl = .fl p ∧ g.role n.rc = .rc p ∧ g.role n.ne = .ne p
  hi : g.r ≠ 1 ∧ ∀ p n, g.node p = some n → n.ne ≠ 1
noncomputable def PendIn (w : World) (F Tp : Led) (ps : Addr) (P : List Str × Int → Prop) (np : Nat) : Prop :=
  ∃ o vals, (ps, o) ∈ Tp ∧ ObjPend w o vals ∧ vals.length ≤ np ∧ (∀ v ∈ vals, ∃ b k, v = .ref b ∧ PairIn w (F ++ Tp) b k ∧ k.1 ≠ [] ∧ P k) ∧ ∀ k, P k → ∃ b, Value.ref b ∈ vals ∧ PairIn w (F ++ Tp) b k
noncomputable def Meets (w : World) (f : Addr) (pos : List Value) (kw : List (Str × Value)) (W : Led) (d u : Nat) (Post : Value → Led → Prop) : Prop :=
  ∀ (p : PySem.Program) (loose : List Str) (mean : ExcName → Option Value) (mg mb : Str → Option Value) (dp un : Nat) (gd : Option (List Code)) (cn : Str) (cs : Scope) (a : Addr) (ccd : Value) (cl : List (Str × Addr)) (outer : List Env) (A₀ : Around) (base h₀ : Heap) (L : Addr) (m : Str → Option Value) (s : Shared)
    (Q E : Value → Shared → Prop),
    Below A₀ base outer h₀ → Fr h₀ L s.heap m → (hd.heap_39 w.params).In h₀ → News h₀ L s.heap W → Top p loose mean mg mb h₀ → cs.kind = .function → dp + d < recursionLimit → un + u < cLine →
    (∀ r s' W', Kin s s' → Fr h₀ L s'.heap m → News h₀ L s'.heap W' → Post r W' → Q r s') →
    wpAny (model PP w) (ktrTop dp un gd cn cs L a ccd cl outer) (call (.ref f) pos kw) Q E s
noncomputable def upd (d : Addr) (o : Obj) (T : Led) : Led := T.map fun p => if p.1 = d then (d, o) else p
noncomputable def Apart (F T : Led) : Prop := ∀ p ∈ F, ∀ q ∈ T, p.1 ≠ q.1
theorem cnt_le (S : Int → Bool) : cnt S ≤ 2 := by unfold cnt; cases S 0 <;> cases S 1 <;> decide
noncomputable def deepAt (mk : Marks) (p : List Str) (f : Int) : Bool := (List.range p.length).any fun i => mk (p.take (i + 1)) true f
noncomputable def isAt (mk : Marks) (p : List Str) (f : Int) : Bool := p ≠ [] && (deepAt mk p f || mk p false f)
end

section
open PySem PySem.SeqAt PyProof.Rows PySem.W
section
variable {w : World} {A : Around} {E : Value → Shared → Prop} {s : Shared} {h₀ : Heap} {L : Addr} {m : Str → Option Value} {W : Led}
theorem WayIn.tup {a : Addr} {p : List Str} (K : WayIn w W a p) (N : News h₀ L s.heap W) : ∃ its, IsTup s.heap a (List.toArray its) ∧ ItemsAre (SK w) p its := by
  obtain ⟨o, its, n, hm, hc, hd, hi⟩ := K; exact ⟨its, ⟨o, (N _ hm).1, hc, n, hd⟩, hi⟩
theorem news_drop {h : Heap} {W W' : Led} (N : News h₀ L h W) (hs : ∀ p ∈ W', p ∈ W) : News h₀ L h W' := fun p hp => N p (hs p hp)
theorem snoc_ne {α : Type} (l : List α) (a : α) : l ++ [a] ≠ [] := by simp
theorem truthy_way {a : Addr} {p : List Str} {Q : Bool → Shared → Prop} (N : News h₀ L s.heap W) (K : WayIn w W a p) (hz : p.length < 2 ^ 24) {b : Bool} (hb : decide (p ≠ []) = b) (h : ∀ tk, Q b { s with toks := tk }) :
    wpAny (model PP w) A (truthy (.ref a)) Q E s := by
  obtain ⟨its, ht, hi⟩ := K.tup N
  have hl := hi.length
  refine truthy_tuple ht (by rw [List.size_toArray]; omega) ?_
  have e : (!(List.toArray its).isEmpty) = decide (p ≠ []) := by
    cases hi with
    | nil => rfl
    | cons _ _ => simp
  rw [e, hb]
  exact h _
theorem ItemsAre.take {p : List Str} {its : List Value} (h : ItemsAre (SK w) p its) : ∀ n : Nat, ItemsAre (SK w) (p.take n) (its.take n) := by
  induction h with
  | nil => intro n; rw [List.take_nil, List.take_nil]; exact .nil
  | cons h1 _ ih =>
    intro n
    cases n with
    | zero => exact .nil
    | succ n => rw [List.take_succ_cons, List.take_succ_cons]; exact .cons h1 (ih n)
theorem ItemsAre.get {p : List Str} {its : List Value} (h : ItemsAre (SK w) p its) : ∀ (i : Nat) (k : Str), p[i]? = some k → ∃ t, its[i]? = some (.str k t) := by
  induction h with
  | nil => intro i k h; simp at h
  | @cons k' v ks vs h1 _ ih =>
    intro i k hk
    cases i with
    | zero =>
      obtain ⟨t, rfl⟩ := Value.isStrOf_shape h1
      have : k' = k := by simpa using hk
      exact ⟨t, by rw [this]; rfl⟩
    | succ i => exact ih i k (by simpa using hk)
theorem ItemsAre.append {p q : List Str} {a b : List Value} (h : ItemsAre (SK w) p a) (g : ItemsAre (SK w) q b) : ItemsAre (SK w) (p ++ q) (a ++ b) := by
  induction h with
  | nil => exact g
  | cons h1 _ ih => exact .cons h1 ih
theorem slice_way {value slice : PySem.Expr} {t : Addr} {p : List Str} {y : Int} {u : Tok} {Q : Value → Shared → Prop}
    (F : Fr h₀ L s.heap m) (N : News h₀ L s.heap W) (K : WayIn w W t p) (hz : p.length < 2 ^ 24)
    (h : ∀ q o' s', Kin s s' → Fr h₀ L s'.heap m → News h₀ L s'.heap ((q, o') :: W) → WayIn w ((q, o') :: W) q (p.take (upto y p.length)) → (upto y p.length ≠ p.length → (∀ p ∈ W, p.1 < q)) → Q (.ref q) s')
    (hs : subscripted slice false (.ref t) (.ref s.heap.objs.size) = operate [.ref s.heap.objs.size, .ref t] (getItem (.ref t) (.ref s.heap.objs.size)) := by with_unfolding_all rfl)
    (hg : ∀ r, letTemporaryGo value (.ref t) r = pure () := by intro _; with_unfolding_all rfl) :
    wpAny (model PP w) A (subscriptTail value slice (.ref t) (.ref s.heap.objs.size)) Q E { s with heap := s.heap.push { cls := .type "slice", data := .fields #[.none, .int y u, .none] } } := by
  obtain ⟨o, its, n, hm, hc, hd, hi⟩ := K
  have hl := hi.length
  refine slice_upto F N hm hc hd (fun q o' n' h' F' N' hc' hd' hor => ?_) hs hg (by rw [sizeLine_eq]; omega)
  refine h q o' { s with heap := h' } ⟨rfl, rfl⟩ F' N' ⟨o', _, n', List.mem_cons_self, hc', hd', by rw [hl]; exact ItemsAre.take hi _⟩ (by rw [hl]; exact hor)
theorem item_way_last {value slice : PySem.Expr} {t : Addr} {p : List Str} {k : Str} {u : Tok} {Q : Value → Shared → Prop} (N : News h₀ L s.heap W) (K : WayIn w W t (p ++ [k])) (hz : p.length < 2 ^ 20)
    (h : ∀ tk, Q (.str k tk) s)
    (hs : subscripted slice false (.ref t) (.int (-1) u) = operate [.ref t, .int (-1) u] (getItem (.ref t) (.int (-1) u)) := by with_unfolding_all rfl) :
    wpAny (model PP w) A (subscriptTail value slice (.ref t) (.int (-1) u)) Q E s := by
  obtain ⟨its, ht, hi⟩ := K.tup N
  have hl := hi.length
  obtain ⟨tk, e⟩ := ItemsAre.get hi p.length k (by simp)
  refine item_tupleT ht (by decide) (by decide) (j := p.length) ?_ e (h tk) hs
  unfold seqIndex?
  rw [← hl]
  simp
  lia
theorem dict_at {d : Addr} {o : Obj} {kvs : List (Str × Value)} (N : News h₀ L s.heap W) (hm : (d, o) ∈ W) (hd : o.IsDictOf (SK w) kvs) : s.heap.DictOf (SK w) d kvs := Heap.dictOf_iff.mpr ⟨o, (N _ hm).1, hd⟩
theorem dict_in {d : Addr} {o : Obj} {kvs : List (Str × Value)} {k : Str} {t : Tok} {Q : Value → Shared → Prop} (N : News h₀ L s.heap W) (hm : (d, o) ∈ W) (hd : o.IsDictOf (SK w) kvs) (lo : (d == sysModules) = false) {b : Bool} (hb : (valueAt kvs k).isSome = b)
    (h : Q (.bool b) { s with toks := s.toks + 1 }) : wpAny (model PP w) A (compareOp .In (.str k t) (.ref d)) Q E s :=
  wpAny_in_of (knd := SK w) (strKind_is PP w k t) lo (dict_at N hm hd).mapOf (by rw [hb]; exact h)
theorem dict_notIn {d : Addr} {o : Obj} {kvs : List (Str × Value)} {k : Str} {t : Tok} {Q : Value → Shared → Prop} (N : News h₀ L s.heap W) (hm : (d, o) ∈ W) (hd : o.IsDictOf (SK w) kvs) (lo : (d == sysModules) = false) {b : Bool} (hb : (!(valueAt kvs k).isSome) = b)
    (h : Q (.bool b) { s with toks := s.toks + 1 }) : wpAny (model PP w) A (compareOp .NotIn (.str k t) (.ref d)) Q E s := by
  exact wpAny_notIn_of (knd := SK w) (strKind_is PP w k t) lo (dict_at N hm hd).mapOf (by rw [hb]; exact h)
theorem dict_item {value slice : PySem.Expr} {d : Addr} {o : Obj} {kvs : List (Str × Value)} {k : Str} {t : Tok} {v : Value} {Q : Value → Shared → Prop} (N : News h₀ L s.heap W) (hm : (d, o) ∈ W) (hd : o.IsDictOf (SK w) kvs)
    (hv : valueAt kvs k = some v) (h : Q v { s with toks := s.toks + 1 })
    (hs : subscripted slice false (.ref d) (.str k t) = operate [.ref d, .str k t] (getItem (.ref d) (.str k t)) := by with_unfolding_all rfl) :
    wpAny (model PP w) A (subscriptTail value slice (.ref d) (.str k t)) Q E s :=
  have hM := (dict_at N hm hd).mapOf
  tail_any hM.typeIs slot_dict_getitem.lookup (wpAny_getItem_of (knd := SK w) (strKind_is PP w k t) hM hv h) hs
theorem set_in {d : Addr} {o : Obj} {S : Int → Bool} {n : Nat} {f : Int} {t : Tok} {Q : Value → Shared → Prop} (N : News h₀ L s.heap W) (hm : (d, o) ∈ W) (hS : o.IntSetOf S n) (hn : n < 4000) {b : Bool} (hb : S f = b)
    (h : Q (.bool b) { s with toks := s.toks + 1 }) : wpAny (model PP w) A (compareOp .In (.int f t) (.ref d)) Q E s :=
  wpAny_inSet_of (knd := intKind PP w) (k := f) (by simp [intKind, Value.isInt]) rfl ((hS PP w).setOf (N _ hm).1 (by show n < 4096; omega)) (by rw [hb]; exact h)
noncomputable def contAt (g : Gh) (p : List Str) : Addr := if p = [] then g.r else match g.node p with | some n => n.ne | none => 0
theorem contAt_some {g : Gh} {p : List Str} {n : NA} (hp : p ≠ []) (h : g.node p = some n) : contAt g p = n.ne := by unfold contAt; rw [if_neg hp, h]
theorem cont_dict {T : Led} {x : Addr} {g : Gh} {mk : Marks} {c : Nat} (X : FlagsIn w T x g mk c) (p : List Str) (hp : p ≠ [] → g.node p ≠ none) :
    ∃ o kvs, (contAt g p, o) ∈ T ∧ o.IsDictOf (SK w) kvs ∧ (∀ k, valueAt kvs k = (g.node (p ++ [k])).map fun n => .ref n.nd) ∧ kvs.length ≤ c := by
  by_cases h : p = []
  · subst h
    exact X.root
  · obtain ⟨n, e⟩ := Option.ne_none_iff_exists'.mp (hp h)
    rw [contAt_some h e]
    exact X.ne p n e
theorem node_ext {T : Led} {x : Addr} {g : Gh} {mk : Marks} {c : Nat} (X : FlagsIn w T x g mk c) {p : List Str} (hp : p ≠ []) (h : g.node p = none) : ∀ q, g.node (p ++ q) = none
  | [] => by rw [List.append_nil]; exact h
  | k :: q => by
    have e : p ++ k :: q = (p ++ [k]) ++ q := by simp
    rw [e]
    exact node_ext X (by simp) (X.closed p k hp h) q
end
theorem isAt_none {w : World} {T : Led} {x : Addr} {g : Gh} {mk : Marks} {c : Nat} (X : FlagsIn w T x g mk c) {q p r : List Str} {f : Int} (hp : p ≠ []) (hn : g.node p = none) (e : p ++ r = q)
    (hd : ∀ j, j + 1 < p.length → mk (q.take (j + 1)) true f = false) : isAt mk q f = false := by
  unfold isAt
  have hext : ∀ n, p.length ≤ n → g.node (q.take n) = none := fun n hle => by
    have e2 : q.take n = p ++ r.take (n - p.length) := by rw [← e, List.take_append, List.take_of_length_le hle]
    rw [e2]
    exact node_ext X hp hn _
  have h1 : deepAt mk q f = false := by
    unfold deepAt
    rw [List.any_eq_false]
    intro j hj
    rw [List.mem_range] at hj
    by_cases hlt : j + 1 < p.length
    · rw [hd j hlt]; exact Bool.false_ne_true
    · rw [X.mk0 _ true f (hext (j + 1) (by lia))]; exact Bool.false_ne_true
  have h2 : mk q false f = false := X.mk0 _ _ _ (by have := hext q.length (by rw [← e]; simp); rwa [List.take_length] at this)
  rw [h1, h2]
  simp
theorem isAt_deep {mk : Marks} {q : List Str} {f : Int} {i : Nat} (hi : i < q.length) (h : mk (q.take (i + 1)) true f = true) : isAt mk q f = true := by
  unfold isAt
  have h1 : deepAt mk q f = true := by
    unfold deepAt
    rw [List.any_eq_true]
    exact ⟨i, List.mem_range.mpr hi, h⟩
  have h2 : q ≠ [] := by rintro rfl; exact absurd hi (Nat.not_lt_zero _)
  rw [h1]
  simp [h2]
theorem isAt_flat {mk : Marks} {q : List Str} {f : Int} (hq : q ≠ []) (h : mk q false f = true) : isAt mk q f = true := by
  unfold isAt
  simp [hq, h]
theorem isAt_last {mk : Marks} {q : List Str} {k : Str} {f : Int} (h : mk (q ++ [k]) false f = false) (hd : ∀ j, j < q.length → mk ((q ++ [k]).take (j + 1)) true f = false) : isAt mk (q ++ [k]) f = mk (q ++ [k]) true f := by
  unfold isAt
  have h1 : deepAt mk (q ++ [k]) f = mk (q ++ [k]) true f := by
    unfold deepAt
    rw [List.length_append, List.length_singleton, List.range_succ, List.any_append]
    have e : ((List.range q.length).any fun i => mk ((q ++ [k]).take (i + 1)) true f) = false := by
      rw [List.any_eq_false]
      intro j hj
      rw [hd j (List.mem_range.mp hj)]
      exact Bool.false_ne_true
    rw [e, Bool.false_or]
    simp only [List.any_cons, List.any_nil, Bool.or_false]
    rw [List.take_of_length_le (by simp)]
  rw [h1, h]
  simp
section
variable {w : World} {A : Around} {E : Value → Shared → Prop} {s : Shared} {h₀ : Heap} {L : Addr} {m : Str → Option Value} {W : Led}
theorem mem_upd {d : Addr} {o' : Obj} {T : Led} {a : Addr} {o : Obj} (h : (a, o) ∈ T) (hne : a ≠ d) : (a, o) ∈ upd d o' T :=
  List.mem_map.mpr ⟨(a, o), h, by simp [hne]⟩
theorem mem_upd_self {d : Addr} {o o' : Obj} {T : Led} (h : (d, o) ∈ T) : (d, o') ∈ upd d o' T :=
  List.mem_map.mpr ⟨(d, o), h, by simp⟩
theorem of_mem_upd {d : Addr} {o' : Obj} {T : Led} {a : Addr} {o : Obj} (h : (a, o) ∈ upd d o' T) : (a = d ∧ o = o') ∨ (a ≠ d ∧ (a, o) ∈ T) := by
  obtain ⟨⟨b, ob⟩, hb, e⟩ := List.mem_map.mp h
  by_cases hbd : b = d
  · simp only [hbd, if_true] at e
    have := Prod.mk.inj e
    exact .inl ⟨this.1.symm, this.2.symm⟩
  · simp only [hbd, if_false] at e
    have := Prod.mk.inj e
    exact .inr ⟨by rw [← this.1]; exact hbd, by rw [← this.1, ← this.2]; exact hb⟩
theorem upd_addr {d : Addr} {o' : Obj} {T : Led} (hd : ∃ o, (d, o) ∈ T) : ∀ p ∈ upd d o' T, ∃ q ∈ T, q.1 = p.1 := by
  rintro ⟨a, o⟩ hp
  rcases of_mem_upd hp with ⟨rfl, _⟩ | ⟨_, h⟩
  · obtain ⟨o1, h1⟩ := hd
    exact ⟨_, h1, rfl⟩
  · exact ⟨_, h, rfl⟩
theorem news_upd {h h' : Heap} {d : Addr} {o' : Obj} {pre T : Led} (N : News h₀ L h (pre ++ T)) (hs : Heap.SameBut d h h') (ho : h'.get? d = some o') (hap : ∀ p ∈ pre, p.1 ≠ d) : News h₀ L h' (pre ++ upd d o' T) := by
  have e := N.replace hs ho
  rw [List.map_append] at e
  have e2 : (pre.map fun p => if p.1 = d then (d, o') else p) = pre := by
    conv => rhs; rw [← List.map_id pre]
    refine List.map_congr_left fun p hp => ?_
    rw [if_neg (hap p hp)]; rfl
  rw [e2] at e
  exact e
theorem dict_set {pre T : Led} {d : Addr} {o : Obj} {kvs : List (Str × Value)} {k : Str} {t : Tok} {v : Value} {Q : Unit → Shared → Prop} (F : Fr h₀ L s.heap m) (N : News h₀ L s.heap (pre ++ T)) (hm : (d, o) ∈ T) (hap : ∀ p ∈ pre, p.1 ≠ d) (hd : o.IsDictOf (SK w) kvs)
    (hz : kvs.length ≤ sizeLine) (h : ∀ o' s', Kin s s' → Fr h₀ L s'.heap m → News h₀ L s'.heap (pre ++ upd d o' T) → o'.IsDictOf (SK w) (stored kvs k v) → Q () s') :
    wpAny (model PP w) A (setItem (.ref d) (.str k t) v) Q E s := by
  have hm' : (d, o) ∈ pre ++ T := List.mem_append_right _ hm
  refine wpAny_setItem_pairs (knd := SK w) (strKind_is PP w k t) (dict_at N hm' hd) (fun h' hm2 hs => ?_) hz
  obtain ⟨o', ho', hd'⟩ := Heap.dictOf_iff.mp hm2
  exact h o' { s with heap := h', toks := s.toks + 1 } ⟨rfl, rfl⟩ (F.change hs (N _ hm').2.1 (N _ hm').2.2) (news_upd N hs ho' hap) hd'
theorem set_add {pre T : Led} {d : Addr} {o : Obj} {S : Int → Bool} {n : Nat} {f : Int} {t : Tok} {Q : Value → Shared → Prop} (F : Fr h₀ L s.heap m) (N : News h₀ L s.heap (pre ++ T)) (hm : (d, o) ∈ T) (hap : ∀ p ∈ pre, p.1 ≠ d) (hS : o.IntSetOf S n) (hn : n < 4000)
    (h : ∀ o' s', Kin s s' → Fr h₀ L s'.heap m → News h₀ L s'.heap (pre ++ upd d o' T) → o'.IntSetOf (fun i => S i || decide (i = f)) (if S f then n else n + 1) → Q .none s') :
    wpAny (model PP w) A (call (.builtin "set.add") [.ref d, .int f t]) Q E s := by
  have hm' : (d, o) ∈ pre ++ T := List.mem_append_right _ hm
  refine call_set_add (knd := intKind PP w) (k := f) (by simp [intKind, Value.isInt]) rfl ((hS PP w).setOf (N _ hm').1 (by show n < 4096; omega)) (by show n + 1 < 4096; omega) fun h' hs hS' => ?_
  obtain ⟨o', ho', hO'⟩ := hS'.objOf
  exact h o' { s with heap := h', toks := s.toks + 1 } ⟨rfl, rfl⟩ (F.change hs (N _ hm').2.1 (N _ hm').2.2) (news_upd N hs ho' hap) hO'.intSetOf
end
end

section
open PySem PySem.SeqAt PyProof.Rows PySem.W
theorem valueAt_map {K : Type} [DecidableEq K] (k : K) (v : Value) (j : K) : ∀ kvs : List (K × Value), valueAt (kvs.map fun kv => if kv.1 = k then (kv.1, v) else kv) j = if j = k then (valueAt kvs j).map fun _ => v else valueAt kvs j
  | [] => by simp [valueAt]
  | p :: r => by
    have ih := valueAt_map k v j r
    unfold valueAt at ih ⊢
    rw [List.map_cons, List.find?_cons, List.find?_cons]
    by_cases e : p.1 = k
    · rw [if_pos e]
      by_cases e2 : p.1 = j
      · rw [decide_eq_true e2]
        rw [if_pos (by rw [← e2, e])]
        rfl
      · rw [decide_eq_false e2]
        exact ih
    · rw [if_neg e]
      by_cases e2 : p.1 = j
      · rw [decide_eq_true e2, if_neg (by rw [← e2]; exact e)]
      · rw [decide_eq_false e2]
        exact ih
theorem valueAt_stored {K : Type} [DecidableEq K] (kvs : List (K × Value)) (k : K) (v : Value) (j : K) : valueAt (stored kvs k v) j = if j = k then some v else valueAt kvs j := by
  unfold stored
  by_cases h : (kvs.any fun kv => decide (kv.1 = k)) = true
  · rw [if_pos h, valueAt_map]
    by_cases e : j = k
    · subst e
      rw [← valueAt_isSome_eq_any] at h
      obtain ⟨u, hu⟩ := Option.isSome_iff_exists.mp h
      rw [hu]; rfl
    · rw [if_neg e, if_neg e]
  · rw [if_neg h]
    unfold valueAt
    by_cases e : j = k
    · subst e
      have : kvs.find? (fun kv => decide (kv.1 = j)) = none := by
        rw [List.find?_eq_none]
        intro x hx hxe
        exact h (List.any_eq_true.mpr ⟨x, hx, hxe⟩)
      simp [this]
    · have : ¬ k = j := fun h => e h.symm
      simp [e, this]
noncomputable def Gh.grow (g : Gh) (q : List Str) (nd fl rc ne : Addr) : Gh :=
  { g with node := fun y => if y = q then some ⟨nd, fl, rc, ne⟩ else g.node y, role := fun a => if a = nd then .nd q else if a = fl then .fl q else if a = rc then .rc q else if a = ne then .ne q else g.role a }
noncomputable def setMk (mk : Marks) (q : List Str) (d : Bool) (f : Int) : Marks := fun y e i => mk y e i || (decide (y = q) && decide (e = d) && decide (i = f))
noncomputable def Gh.cut (g : Gh) (q : List Str) : Gh := { g with node := fun y => if y.take q.length = q then none else g.node y }
noncomputable def cutMk (mk : Marks) (q : List Str) : Marks := fun y e i => if y.take q.length = q then false else mk y e i
section
variable {w : World} {T : Led} {x : Addr} {g : Gh} {mk : Marks} {c : Nat}
theorem FlagsIn.low (X : FlagsIn w T x g mk c) {p : List Str} (hp : p ≠ [] → g.node p ≠ none) : (contAt g p == sysModules) = false := by
  rw [beq_eq_false_iff_ne]
  show contAt g p ≠ 1
  by_cases h : p = []
  · subst h; exact X.hi.1
  · obtain ⟨n, e⟩ := Option.ne_none_iff_exists'.mp (hp h)
    rw [contAt_some h e]
    exact X.hi.2 p n e
theorem FlagsIn.contRole (X : FlagsIn w T x g mk c) {p : List Str} (hp : p ≠ [] → g.node p ≠ none) : g.role (contAt g p) = if p = [] then .root else .ne p := by
  by_cases h : p = []
  · subst h; exact X.rRoot
  · obtain ⟨n, e⟩ := Option.ne_none_iff_exists'.mp (hp h)
    rw [contAt_some h e, if_neg h]
    exact (X.rNode p n e).2.2.2
theorem role_ne {g : Gh} {a b : Addr} {r1 r2 : Role} (h1 : g.role a = r1) (h2 : g.role b = r2) (h : r1 ≠ r2) : a ≠ b := fun e => h (by rw [← h1, ← h2, e])
theorem FlagsIn.cont_ne (X : FlagsIn w T x g mk c) {p : List Str} (hp : p ≠ [] → g.node p ≠ none) {a : Addr} {r : Role} (h : g.role a = r) (h1 : r ≠ .root) (h2 : ∀ q, r ≠ .ne q) : a ≠ contAt g p := by
  refine role_ne h (X.contRole hp) ?_
  split
  · exact h1
  · exact h2 _
theorem FlagsIn.grow (X : FlagsIn w T x g mk c) {p : List Str} {k : Str} (hp : p ≠ [] → g.node p ≠ none) (hn : g.node (p ++ [k]) = none)
    {nd fl rc ne : Nat} {ond ofl orc one o o' : Obj} {kvn kvs : List (Str × Value)} (hnd : ond.IsDictOf (SK w) kvn)
    (v1 : valueAt kvn kFlags = some (.ref fl)) (v2 : valueAt kvn kRec = some (.ref rc)) (v3 : valueAt kvn kNested = some (.ref ne))
    (hfl : ofl.IntSetOf (fun _ => false) 0) (hrc : orc.IntSetOf (fun _ => false) 0) (hne : one.IsDictOf (SK w) [])
    (hm : (contAt g p, o) ∈ T) (hval : ∀ k, valueAt kvs k = (g.node (p ++ [k])).map fun n => .ref n.nd) (hlen : kvs.length ≤ c) (ho' : o'.IsDictOf (SK w) (stored kvs k (.ref nd)))
    (l1 : ∀ q ∈ T, q.1 < nd) (l2 : nd < fl) (l3 : fl < rc) (l4 : rc < ne) :
    FlagsIn w ((ne, one) :: (rc, orc) :: (fl, ofl) :: (nd, ond) :: upd (contAt g p) o' T) x (g.grow (p ++ [k]) nd fl rc ne) mk (c + 1) := by
  have up : ∀ {a o}, (a, o) ∈ T → a ≠ contAt g p → (a, o) ∈ (ne, one) :: (rc, orc) :: (fl, ofl) :: (nd, ond) :: upd (contAt g p) o' T := fun h h2 => by
    have := mem_upd (o' := o') h h2
    walk_at "mem"
  have upc : (contAt g p, o') ∈ (ne, one) :: (rc, orc) :: (fl, ofl) :: (nd, ond) :: upd (contAt g p) o' T := by
    have := mem_upd_self (o' := o') hm
    walk_at "mem"
  have lt : ∀ {a : Nat} {o : Obj}, (a, o) ∈ T → a < nd := fun h => l1 _ h
  have nroot : ∀ {q a}, g.role a = .nd q → a ≠ contAt g p := fun h => X.cont_ne hp h (by simp) (by simp)
  have froot : ∀ {q a}, g.role a = .fl q → a ≠ contAt g p := fun h => X.cont_ne hp h (by simp) (by simp)
  have rroot : ∀ {q a}, g.role a = .rc q → a ≠ contAt g p := fun h => X.cont_ne hp h (by simp) (by simp)
  have nodeq : (g.grow (p ++ [k]) nd fl rc ne).node (p ++ [k]) = some ⟨nd, fl, rc, ne⟩ := if_pos rfl
  have noden : ∀ y, y ≠ p ++ [k] → (g.grow (p ++ [k]) nd fl rc ne).node y = g.node y := fun y h => if_neg h
  have rolen : ∀ {a : Nat} {o : Obj}, (a, o) ∈ T → (g.grow (p ++ [k]) nd fl rc ne).role a = g.role a := fun h => by
    have := lt h
    show (if _ = nd then _ else if _ = fl then _ else if _ = rc then _ else if _ = ne then _ else _) = _
    rw [if_neg (by omega), if_neg (by omega), if_neg (by omega), if_neg (by omega)]
  have hmk := fun d f => X.mk0 (p ++ [k]) d f hn
  have split : ∀ {y n}, (g.grow (p ++ [k]) nd fl rc ne).node y = some n → (y = p ++ [k] ∧ n = ⟨nd, fl, rc, ne⟩) ∨ (y ≠ p ++ [k] ∧ g.node y = some n) := fun {y n} h => by
    by_cases e : y = p ++ [k]
    · subst e; rw [nodeq] at h; exact .inl ⟨rfl, (Option.some.inj h).symm⟩
    · rw [noden _ e] at h; exact .inr ⟨e, h⟩
  refine { inst := up X.inst (X.cont_ne hp X.rInst (by simp) (by simp)), idict := ?_, root := ?_, nd := ?_, fl := ?_, rc := ?_, ne := ?_, nil := ?_, closed := ?_, mk0 := ?_, rInst := ?_, rIdict := ?_, rRoot := ?_, rNode := ?_, hi := ?_ }
  · obtain ⟨n1, t1, n2, t2, kk, h⟩ := X.idict
    exact ⟨n1, t1, n2, t2, kk, up h (X.cont_ne hp X.rIdict (by simp) (by simp))⟩
  · by_cases e : p = []
    · subst e
      refine ⟨o', _, upc, ho', fun j => ?_, Nat.le_trans (stored_length_le _ _ _) (by omega)⟩
      rw [valueAt_stored]
      by_cases ej : j = k
      · subst ej; rw [if_pos rfl]; show _ = Option.map _ ((g.grow ([] ++ [j]) nd fl rc ne).node ([] ++ [j])); rw [nodeq]; rfl
      · rw [if_neg ej, noden _ (by simp [ej]), hval]; rfl
    · obtain ⟨o1, kv1, m1, d1, e1, le1⟩ := X.root
      refine ⟨o1, kv1, up m1 (role_ne X.rRoot (X.contRole hp) (by rw [if_neg e]; simp)), d1, fun j => ?_, by omega⟩
      rw [noden _ (by intro h; have := congrArg List.length h; simp at this; exact e this), e1]
  · intro y n h
    rcases split h with ⟨rfl, rfl⟩ | ⟨hy, h⟩
    · exact ⟨ond, kvn, by simp, hnd, v1, v2, v3⟩
    · obtain ⟨o1, kv1, m1, r⟩ := X.nd y n h
      exact ⟨o1, kv1, up m1 (nroot (X.rNode y n h).1), r⟩
  · intro y n h
    rcases split h with ⟨rfl, rfl⟩ | ⟨hy, h⟩
    · refine ⟨ofl, 0, by simp, ?_, Nat.zero_le _⟩
      have : mk (p ++ [k]) false = fun _ => false := funext fun f => hmk false f
      rw [this]; exact hfl
    · obtain ⟨o1, kv1, m1, r⟩ := X.fl y n h
      exact ⟨o1, kv1, up m1 (froot (X.rNode y n h).2.1), r⟩
  · intro y n h
    rcases split h with ⟨rfl, rfl⟩ | ⟨hy, h⟩
    · refine ⟨orc, 0, by simp, ?_, Nat.zero_le _⟩
      have : mk (p ++ [k]) true = fun _ => false := funext fun f => hmk true f
      rw [this]; exact hrc
    · obtain ⟨o1, kv1, m1, r⟩ := X.rc y n h
      exact ⟨o1, kv1, up m1 (rroot (X.rNode y n h).2.2.1), r⟩
  · intro y n h
    rcases split h with ⟨rfl, rfl⟩ | ⟨hy, h⟩
    · refine ⟨one, [], by simp, hne, fun j => ?_, Nat.zero_le _⟩
      rw [noden _ (by intro h; have := congrArg List.length h; simp at this), X.closed _ _ (snoc_ne _ _) hn]
      rfl
    · by_cases e : y = p
      · subst e
        have hg : g.node y = some n := (noden _ hy).symm.trans (by assumption)
        have hyn : y ≠ [] := by rintro rfl; rw [X.nil] at hg; exact nomatch hg
        have ec : contAt g y = n.ne := contAt_some hyn hg
        refine ⟨o', _, ec ▸ upc, ho', fun j => ?_, Nat.le_trans (stored_length_le _ _ _) (by omega)⟩
        rw [valueAt_stored]
        by_cases ej : j = k
        · subst ej; rw [if_pos rfl, nodeq]; rfl
        · rw [if_neg ej, noden _ (by simp [ej]), hval]
      · obtain ⟨o1, kv1, m1, d1, e1, le1⟩ := X.ne y n h
        refine ⟨o1, kv1, up m1 (role_ne (X.rNode y n h).2.2.2 (X.contRole hp) ?_), d1, fun j => ?_, by omega⟩
        · split
          · simp
          · intro h; exact e (Role.ne.inj h)
        · rw [noden _ (by intro h; exact e (List.append_inj_left' h rfl)), e1]
  · rw [noden _ (by simp)]; exact X.nil
  · intro y j hy h
    have e1 : y ≠ p ++ [k] := by rintro rfl; rw [nodeq] at h; exact nomatch h
    rw [noden _ e1] at h
    rw [noden]
    · exact X.closed y j hy h
    · intro e
      have e2 := List.append_inj_left' e rfl
      subst e2
      exact hp hy h
  · intro y d f h
    by_cases e : y = p ++ [k]
    · subst e; rw [nodeq] at h; exact nomatch h
    · rw [noden _ e] at h; exact X.mk0 y d f h
  · rw [rolen X.inst]; exact X.rInst
  · obtain ⟨n1, t1, n2, t2, kk, h⟩ := X.idict
    show (g.grow (p ++ [k]) nd fl rc ne).role g.dx = _
    rw [rolen h]; exact X.rIdict
  · obtain ⟨o1, kv1, m1, d1, e1, le1⟩ := X.root
    show (g.grow (p ++ [k]) nd fl rc ne).role g.r = _
    rw [rolen m1]; exact X.rRoot
  · intro y n h
    rcases split h with ⟨rfl, rfl⟩ | ⟨hy, h⟩
    · refine ⟨if_pos rfl, ?_, ?_, ?_⟩
      · show (if fl = nd then _ else if fl = fl then _ else _) = _
        rw [if_neg (by omega), if_pos rfl]
      · show (if rc = nd then _ else if rc = fl then _ else if rc = rc then _ else _) = _
        rw [if_neg (by omega), if_neg (by omega), if_pos rfl]
      · show (if ne = nd then _ else if ne = fl then _ else if ne = rc then _ else if ne = ne then _ else _) = _
        rw [if_neg (by omega), if_neg (by omega), if_neg (by omega), if_pos rfl]
    · obtain ⟨o1, _, m1, _⟩ := X.nd y n h
      obtain ⟨o2, _, m2, _⟩ := X.fl y n h
      obtain ⟨o3, _, m3, _⟩ := X.rc y n h
      obtain ⟨o4, _, m4, _⟩ := X.ne y n h
      rw [rolen m1, rolen m2, rolen m3, rolen m4]
      exact X.rNode y n h
  · refine ⟨X.hi.1, fun y n h => ?_⟩
    rcases split h with ⟨rfl, rfl⟩ | ⟨hy, h⟩
    · show ne ≠ 1; omega
    · exact X.hi.2 y n h
theorem cnt_set {S : Int → Bool} {f : Int} (hf : f = 0 ∨ f = 1) : cnt (fun i => S i || decide (i = f)) = if S f then cnt S else cnt S + 1 := by
  unfold cnt
  rcases hf with rfl | rfl
  · cases h : S 0 <;> simp <;> lia
  · cases h : S 1 <;> simp
theorem FlagsIn.mark (X : FlagsIn w T x g mk c) {q : List Str} {n : NA} (hn : g.node q = some n) {f : Int} (hf : f = 0 ∨ f = 1) {d : Bool} {o o' : Obj} {k : Nat} (hk : k ≤ cnt (mk q d))
    (hm : ((if d then n.rc else n.fl), o) ∈ T) (hS : o'.IntSetOf (fun i => mk q d i || decide (i = f)) (if mk q d f then k else k + 1)) :
    FlagsIn w (upd (if d then n.rc else n.fl) o' T) x g (setMk mk q d f) c := by
  have hr : g.role (if d then n.rc else n.fl) = if d then .rc q else .fl q := by
    cases d
    · exact (X.rNode q n hn).2.1
    · exact (X.rNode q n hn).2.2.1
  have up : ∀ {a o r}, (a, o) ∈ T → g.role a = r → r ≠ (if d then .rc q else .fl q) → (a, o) ∈ upd (if d then n.rc else n.fl) o' T := fun h h2 h3 => mem_upd h (role_ne h2 hr h3)
  have upc := mem_upd_self (o' := o') hm
  have hk' : (if mk q d f then k else k + 1) ≤ cnt fun i => mk q d i || decide (i = f) := by
    rw [cnt_set hf]
    split <;> lia
  have same : ∀ {y e}, ¬ (y = q ∧ e = d) → setMk mk q d f y e = mk y e := fun {y e} h => by
    funext i
    unfold setMk
    by_cases h1 : y = q
    · by_cases h2 : e = d
      · exact absurd ⟨h1, h2⟩ h
      · simp [h2]
    · simp [h1]
  have new : setMk mk q d f q d = fun i => mk q d i || decide (i = f) := by
    funext i; unfold setMk; simp
  refine { inst := up X.inst X.rInst (by cases d <;> simp), idict := ?_, root := ?_, nd := ?_, fl := ?_, rc := ?_, ne := ?_, nil := X.nil, closed := X.closed, mk0 := ?_, rInst := X.rInst, rIdict := X.rIdict, rRoot := X.rRoot, rNode := X.rNode, hi := X.hi }
  · obtain ⟨n1, t1, n2, t2, kk, h⟩ := X.idict
    exact ⟨n1, t1, n2, t2, kk, up h X.rIdict (by cases d <;> simp)⟩
  · obtain ⟨o1, kv1, m1, r⟩ := X.root
    exact ⟨o1, kv1, up m1 X.rRoot (by cases d <;> simp), r⟩
  · intro y n' h
    obtain ⟨o1, kv1, m1, r⟩ := X.nd y n' h
    exact ⟨o1, kv1, up m1 (X.rNode y n' h).1 (by cases d <;> simp), r⟩
  · intro y n' h
    by_cases e : y = q ∧ false = d
    · obtain ⟨rfl, rfl⟩ := e
      rw [hn] at h
      obtain rfl := Option.some.inj h
      exact ⟨o', _, upc, new ▸ hS, by rw [new]; exact hk'⟩
    · obtain ⟨o1, k1, m1, s1, l1⟩ := X.fl y n' h
      refine ⟨o1, k1, up m1 (X.rNode y n' h).2.1 ?_, same e ▸ s1, by rw [same e]; exact l1⟩
      cases d
      · intro h; exact e ⟨Role.fl.inj h, rfl⟩
      · simp
  · intro y n' h
    by_cases e : y = q ∧ true = d
    · obtain ⟨rfl, rfl⟩ := e
      rw [hn] at h
      obtain rfl := Option.some.inj h
      exact ⟨o', _, upc, new ▸ hS, by rw [new]; exact hk'⟩
    · obtain ⟨o1, k1, m1, s1, l1⟩ := X.rc y n' h
      refine ⟨o1, k1, up m1 (X.rNode y n' h).2.2.1 ?_, same e ▸ s1, by rw [same e]; exact l1⟩
      cases d
      · simp
      · intro h; exact e ⟨Role.rc.inj h, rfl⟩
  · intro y n' h
    obtain ⟨o1, kv1, m1, r⟩ := X.ne y n' h
    exact ⟨o1, kv1, up m1 (X.rNode y n' h).2.2.2 (by cases d <;> simp), r⟩
  · intro y e i h
    have : y ≠ q := by rintro rfl; rw [hn] at h; exact nomatch h
    unfold setMk
    rw [X.mk0 y e i h]
    simp [this]
theorem FlagsIn.weaken (X : FlagsIn w T x g mk c) {c' : Nat} (h : c ≤ c') : FlagsIn w T x g mk c' :=
  { X with
    root := by obtain ⟨o, kvs, m, d, v, l⟩ := X.root; exact ⟨o, kvs, m, d, v, by omega⟩
    ne := fun p n hn => by obtain ⟨o, kvs, m, d, v, l⟩ := X.ne p n hn; exact ⟨o, kvs, m, d, v, by omega⟩ }
end
end

section
open PySem PySem.SeqAt PyProof.Rows PySem.W
theorem allLt_mem {d : Nat} : ∀ {l : Led}, AllLt d l → ∀ p ∈ l, p.1 < d
  | [], _, _, h => by cases h
  | q :: r, h, p, hp => by
    rcases List.mem_cons.mp hp with rfl | hp
    · exact h.1
    · exact allLt_mem h.2 p hp
section
variable {w : World} {A : Around} {E : Value → Shared → Prop} {s : Shared} {h₀ : Heap} {L : Addr} {m : Str → Option Value} {pre T : Led} {x : Addr} {g : Gh} {mk : Marks} {c : Nat}
theorem Apart.upd {d : Addr} {o' : Obj} (h : Apart pre T) (hd : ∃ o, (d, o) ∈ T) : Apart pre (upd d o' T) := fun p hp q hq => by
  obtain ⟨b, hb, e⟩ := upd_addr hd q hq
  rw [← e]
  exact h p hp b hb
theorem Apart.mono {pre' : Led} (h : Apart pre T) (hs : ∀ p ∈ pre', p ∈ pre) : Apart pre' T := fun p hp => h p (hs p hp)
theorem grow_step {p : List Str} {k : Str} {t : Tok} {nd fl rc ne : Nat} {ond ofl orc one : Obj} {kvn : List (Str × Value)} {Q : Unit → Shared → Prop}
    (F : Fr h₀ L s.heap m) (N : News h₀ L s.heap ((ne, one) :: (rc, orc) :: (fl, ofl) :: (nd, ond) :: (pre ++ T)))
    (X : FlagsIn w T x g mk c) (hp : p ≠ [] → g.node p ≠ none) (hn : g.node (p ++ [k]) = none) (hap : Apart pre T) (hc : c < 10000000)
    (hnd : ond.IsDictOf (SK w) kvn) (hne : one.IsDictOf (SK w) [])
    (l1 : AllLt nd (pre ++ T)) (l2 : AllLt fl ((nd, ond) :: (pre ++ T))) (l3 : AllLt rc ((fl, ofl) :: (nd, ond) :: (pre ++ T))) (l4 : AllLt ne ((rc, orc) :: (fl, ofl) :: (nd, ond) :: (pre ++ T)))
    (hfl : ofl.IntSetOf (fun _ => false) 0) (hrc : orc.IntSetOf (fun _ => false) 0)
    (v1 : valueAt kvn kFlags = some (.ref fl)) (v2 : valueAt kvn kRec = some (.ref rc)) (v3 : valueAt kvn kNested = some (.ref ne))
    (h : ∀ T' g' s', Kin s s' → Fr h₀ L s'.heap m → News h₀ L s'.heap (pre ++ T') → FlagsIn w T' x g' mk (c + 1) → Apart pre T' →
      (∀ y, g'.node y = if y = p ++ [k] then some ⟨nd, fl, rc, ne⟩ else g.node y) → g'.r = g.r ∧ g'.ps = g.ps ∧ g'.dx = g.dx → Q () s') :
    wpAny (model PP w) A (setItem (.ref (contAt g p)) (.str k t) (.ref nd)) Q E s := by
  obtain ⟨o, kvs, hm, hd, hval, hlen⟩ := cont_dict X p hp
  have N0 : News h₀ L s.heap (((ne, one) :: (rc, orc) :: (fl, ofl) :: (nd, ond) :: pre) ++ T) := N
  have l1' := allLt_mem l1
  have lc : @LT.lt Nat _ (contAt g p) nd := l1' _ (List.mem_append_right _ hm)
  have k2 : @LT.lt Nat _ nd fl := l2.1
  have k3 : @LT.lt Nat _ fl rc := l3.1
  have k4 : @LT.lt Nat _ rc ne := l4.1
  refine dict_set F N0 hm ?_ hd (by rw [sizeLine_eq]; omega) fun o' s' K1 F1 N1 hd1 => ?_
  · intro q hq
    simp only [List.mem_cons] at hq
    rcases hq with rfl | rfl | rfl | rfl | hq
    · show ne ≠ contAt g p; exact Nat.ne_of_gt (by omega)
    · show rc ≠ contAt g p; exact Nat.ne_of_gt (by omega)
    · show fl ≠ contAt g p; exact Nat.ne_of_gt (by omega)
    · show nd ≠ contAt g p; exact Nat.ne_of_gt (by omega)
    · exact hap q hq _ hm
  refine h _ (g.grow (p ++ [k]) nd fl rc ne) s' K1 F1 ?_ (X.grow hp hn hnd v1 v2 v3 hfl hrc hne hm hval hlen hd1 (fun q hq => l1' q (List.mem_append_right _ hq)) k2 k3 k4) ?_ (fun y => rfl) ⟨rfl, rfl, rfl⟩
  · refine news_drop N1 fun q hq => ?_
    simp only [List.mem_append, List.mem_cons, List.cons_append] at hq ⊢
    rcases hq with hq | hq | hq | hq | hq | hq <;> simp only [hq, true_or, or_true]
  · intro q hq r hr
    have lq : @LT.lt Nat _ q.1 nd := l1' _ (List.mem_append_left _ hq)
    simp only [List.mem_cons] at hr
    rcases hr with rfl | rfl | rfl | rfl | hr
    · show q.1 ≠ ne; exact Nat.ne_of_lt (by omega)
    · show q.1 ≠ rc; exact Nat.ne_of_lt (by omega)
    · show q.1 ≠ fl; exact Nat.ne_of_lt (by omega)
    · show q.1 ≠ nd; exact Nat.ne_of_lt (by omega)
    · exact hap.upd ⟨_, hm⟩ q hq r hr
theorem mark_step {q : List Str} {n : NA} {f : Int} {d : Bool} {t : Tok} {Q : Value → Shared → Prop}
    (F : Fr h₀ L s.heap m) (N : News h₀ L s.heap (pre ++ T)) (X : FlagsIn w T x g mk c) (hn : g.node q = some n) (hap : Apart pre T) (hf : f = 0 ∨ f = 1)
    (h : ∀ T' s', Kin s s' → Fr h₀ L s'.heap m → News h₀ L s'.heap (pre ++ T') → FlagsIn w T' x g (setMk mk q d f) c → Apart pre T' → Q .none s') :
    wpAny (model PP w) A (call (.builtin "set.add") [.ref (if d then n.rc else n.fl), .int f t]) Q E s := by
  have hx : ∃ o k, ((if d then n.rc else n.fl), o) ∈ T ∧ o.IntSetOf (mk q d) k ∧ k ≤ cnt (mk q d) := by
    cases d
    · exact X.fl q n hn
    · exact X.rc q n hn
  obtain ⟨o, k, hm, hS, hk⟩ := hx
  refine set_add F N hm (fun p hp => hap p hp _ hm) hS (Nat.lt_of_le_of_lt (Nat.le_trans hk (cnt_le _)) (by decide)) fun o' s' K1 F1 N1 hS1 => ?_
  exact h _ s' K1 F1 N1 (X.mark hn hf hk hm hS1) (hap.upd ⟨_, hm⟩)
theorem meth_add {W : Led} {a : Addr} {o : Obj} {S : Int → Bool} {n : Nat} {pl : Sem Bool} {Q : Value × List Value → Shared → Prop} (N : News h₀ L s.heap W) (hm : (a, o) ∈ W) (hS : o.IntSetOf S n) (h : Q (.builtin "set.add", [.ref a]) s) :
    wpAny (model PP w) A (getMethod (.ref a) "add" pl) Q E s := getMethod_set (N _ hm).1 (hS PP w).1 h
end
end

section
open PySem PySem.SeqAt PyProof.Rows PySem.W
theorem valueAt_without {K : Type} [DecidableEq K] (kvs : List (K × Value)) (k j : K) : valueAt (without kvs k) j = if j = k then none else valueAt kvs j := by
  delta valueAt without
  induction kvs with
  | nil => simp
  | cons p r ih =>
    by_cases e : p.1 = k
    · rw [List.filter_cons_of_neg (by simp [e])]
      rw [ih, List.find?_cons]
      by_cases e2 : j = k
      · rw [if_pos e2, if_pos e2]
      · rw [if_neg e2, if_neg e2, decide_eq_false (by rw [e]; exact fun h => e2 h.symm)]
    · rw [List.filter_cons_of_pos (by simp [e]), List.find?_cons, List.find?_cons]
      by_cases e2 : p.1 = j
      · rw [decide_eq_true e2, if_neg (by rw [← e2]; exact e)]
      · rw [decide_eq_false e2]
        exact ih
theorem without_length_le {K : Type} [DecidableEq K] (kvs : List (K × Value)) (k : K) : (without kvs k).length ≤ kvs.length := List.length_filter_le ..
section
variable {w : World} {T : Led} {x : Addr} {g : Gh} {mk : Marks} {c : Nat}
theorem cutMk_none (X : FlagsIn w T x g mk c) {q r : List Str} (hr : r ≠ []) (hn : g.node r = none) (hq : q.take r.length = r) : cutMk mk q = mk := by
  funext y e i
  unfold cutMk
  split
  · rename_i h
    have : g.node y = none := by
      have e1 : y = r ++ (q.drop r.length ++ y.drop q.length) := by
        rw [← List.append_assoc]
        have e2 : r ++ q.drop r.length = q := by
          conv => rhs; rw [← List.take_append_drop r.length q, hq]
        rw [e2]
        conv => lhs; rw [← List.take_append_drop q.length y, h]
      rw [e1]
      exact node_ext X hr hn _
    exact (X.mk0 y e i this).symm
  · rfl
theorem cut_node (g : Gh) (q y : List Str) : (g.cut q).node y = if y.take q.length = q then none else g.node y := rfl
theorem FlagsIn.cut (X : FlagsIn w T x g mk c) {p : List Str} {k : Str} (hp : p ≠ [] → g.node p ≠ none)
    {o o' : Obj} {kvs : List (Str × Value)}
    (hm : (contAt g p, o) ∈ T) (hval : ∀ k, valueAt kvs k = (g.node (p ++ [k])).map fun n => .ref n.nd) (hlen : kvs.length ≤ c) (ho' : o'.IsDictOf (SK w) (without kvs k)) :
    FlagsIn w (upd (contAt g p) o' T) x (g.cut (p ++ [k])) (cutMk mk (p ++ [k])) c := by
  have up : ∀ {a o}, (a, o) ∈ T → a ≠ contAt g p → (a, o) ∈ upd (contAt g p) o' T := fun h h2 => mem_upd h h2
  have upc : (contAt g p, o') ∈ upd (contAt g p) o' T := mem_upd_self hm
  have nroot : ∀ {q a}, g.role a = .nd q → a ≠ contAt g p := fun h => X.cont_ne hp h (by simp) (by simp)
  have froot : ∀ {q a}, g.role a = .fl q → a ≠ contAt g p := fun h => X.cont_ne hp h (by simp) (by simp)
  have rroot : ∀ {q a}, g.role a = .rc q → a ≠ contAt g p := fun h => X.cont_ne hp h (by simp) (by simp)
  have hl : (p ++ [k]).length = p.length + 1 := by simp
  have stepin : ∀ {y : List Str} {j : Str}, y.take (p ++ [k]).length = p ++ [k] → (y ++ [j]).take (p ++ [k]).length = p ++ [k] := fun {y j} h => by
    have : (p ++ [k]).length ≤ y.length := by have := congrArg List.length h; rw [List.length_take] at this; lia
    rw [List.take_append_of_le_length this]; exact h
  have stepout : ∀ {y : List Str} {j : Str}, ¬ y.take (p ++ [k]).length = p ++ [k] → (y ++ [j]).take (p ++ [k]).length = p ++ [k] → y = p ∧ j = k := fun {y j} h1 h2 => by
    by_cases hle : (p ++ [k]).length ≤ y.length
    · rw [List.take_append_of_le_length hle] at h2; exact absurd h2 h1
    · have hlen2 := congrArg List.length h2
      have : (y ++ [j]).length = y.length + 1 := by simp
      rw [List.take_of_length_le (by lia)] at h2
      have e := List.append_inj_left' h2 rfl
      subst e
      exact ⟨rfl, by have := List.append_cancel_left h2; simpa using this⟩
  have getn : ∀ {y n}, (g.cut (p ++ [k])).node y = some n → ¬ y.take (p ++ [k]).length = p ++ [k] ∧ g.node y = some n := fun {y n} h => by
    rw [cut_node] at h
    split at h
    · exact nomatch h
    · exact ⟨by assumption, h⟩
  have mks : ∀ {y : List Str} {e : Bool}, ¬ y.take (p ++ [k]).length = p ++ [k] → cutMk mk (p ++ [k]) y e = mk y e := fun {y e} h => by
    funext i; unfold cutMk; rw [if_neg h]
  have kidval : ∀ y, ¬ y.take (p ++ [k]).length = p ++ [k] → y ≠ p → ∀ j, (g.cut (p ++ [k])).node (y ++ [j]) = g.node (y ++ [j]) := fun y h1 h2 j => by
    rw [cut_node, if_neg]
    intro h3
    exact h2 (stepout h1 h3).1
  have kidp : ∀ j, (g.cut (p ++ [k])).node (p ++ [j]) = if j = k then none else g.node (p ++ [j]) := fun j => by
    rw [cut_node]
    have e1 : (p ++ [j]).take (p ++ [k]).length = p ++ [j] := List.take_of_length_le (by simp)
    rw [e1]
    by_cases e : j = k
    · rw [if_pos e, if_pos (by rw [e])]
    · rw [if_neg e, if_neg (by simpa using e)]
  refine { inst := up X.inst (X.cont_ne hp X.rInst (by simp) (by simp)), idict := ?_, root := ?_, nd := ?_, fl := ?_, rc := ?_, ne := ?_, nil := ?_, closed := ?_, mk0 := ?_, rInst := X.rInst, rIdict := X.rIdict, rRoot := X.rRoot, rNode := ?_, hi := ?_ }
  · obtain ⟨n1, t1, n2, t2, kk, h⟩ := X.idict
    exact ⟨n1, t1, n2, t2, kk, up h (X.cont_ne hp X.rIdict (by simp) (by simp))⟩
  · by_cases e : p = []
    · subst e
      refine ⟨o', _, upc, ho', fun j => ?_, Nat.le_trans (without_length_le _ _) hlen⟩
      rw [valueAt_without]
      have := kidp j
      dsimp only [List.nil_append] at this
      rw [List.nil_append, this]
      by_cases ej : j = k
      · rw [if_pos ej, if_pos ej]; rfl
      · rw [if_neg ej, if_neg ej, hval]; rfl
    · obtain ⟨o1, kv1, m1, d1, e1, le1⟩ := X.root
      refine ⟨o1, kv1, up m1 (role_ne X.rRoot (X.contRole hp) (by rw [if_neg e]; simp)), d1, fun j => ?_, le1⟩
      have := kidval [] (by simp) (fun h => e h.symm) j
      rw [List.nil_append] at this
      rw [this, e1]
  · intro y n h
    obtain ⟨h0, h⟩ := getn h
    obtain ⟨o1, kv1, m1, r⟩ := X.nd y n h
    exact ⟨o1, kv1, up m1 (nroot (X.rNode y n h).1), r⟩
  · intro y n h
    obtain ⟨h0, h⟩ := getn h
    obtain ⟨o1, kv1, m1, r⟩ := X.fl y n h
    rw [mks h0]
    exact ⟨o1, kv1, up m1 (froot (X.rNode y n h).2.1), r⟩
  · intro y n h
    obtain ⟨h0, h⟩ := getn h
    obtain ⟨o1, kv1, m1, r⟩ := X.rc y n h
    rw [mks h0]
    exact ⟨o1, kv1, up m1 (rroot (X.rNode y n h).2.2.1), r⟩
  · intro y n h
    obtain ⟨h0, hg⟩ := getn h
    by_cases e : y = p
    · subst e
      have hyn : y ≠ [] := by rintro rfl; rw [X.nil] at hg; exact nomatch hg
      have ec : contAt g y = n.ne := contAt_some hyn hg
      refine ⟨o', _, ec ▸ upc, ho', fun j => ?_, Nat.le_trans (without_length_le _ _) hlen⟩
      rw [valueAt_without, kidp]
      by_cases ej : j = k
      · rw [if_pos ej, if_pos ej]; rfl
      · rw [if_neg ej, if_neg ej, hval]
    · obtain ⟨o1, kv1, m1, d1, e1, le1⟩ := X.ne y n hg
      refine ⟨o1, kv1, up m1 (role_ne (X.rNode y n hg).2.2.2 (X.contRole hp) ?_), d1, fun j => ?_, le1⟩
      · split
        · simp
        · intro h; exact e (Role.ne.inj h)
      · rw [kidval y h0 e, e1]
  · rw [cut_node, X.nil]; split <;> rfl
  · intro y j hy h
    rw [cut_node] at h ⊢
    split at h
    · rename_i h1
      rw [if_pos (stepin h1)]
    · split
      · rfl
      · exact X.closed y j hy h
  · intro y d f h
    rw [cut_node] at h
    unfold cutMk
    split at h
    · rename_i h1; rw [if_pos h1]
    · rename_i h1; rw [if_neg h1]; exact X.mk0 y d f h
  · intro y n h
    exact X.rNode y n (getn h).2
  · exact ⟨X.hi.1, fun y n h => X.hi.2 y n (getn h).2⟩
end
section
variable {w : World} {A : Around} {E : Value → Shared → Prop} {s : Shared} {h₀ : Heap} {L : Addr} {m : Str → Option Value} {pre T : Led} {x : Addr} {g : Gh} {mk : Marks} {c : Nat}
theorem meth_pop {W : Led} {a : Addr} {o : Obj} {kvs : List (Str × Value)} {pl : Sem Bool} {Q : Value × List Value → Shared → Prop} (N : News h₀ L s.heap W) (hm : (a, o) ∈ W) (hd : o.IsDictOf (SK w) kvs) (h : Q (.builtin "dict.pop", [.ref a]) s) :
    wpAny (model PP w) A (getMethod (.ref a) "pop" pl) Q E s :=
  getMethod_builtin (dict_at N hm hd).typeIs PySem.F.plainAttrs_dict PySem.F.slot_dict_pop PySem.F.type_dict_pop (dict_at N hm hd).mapOf.noDict h
theorem pop_step {p : List Str} {k : Str} {t : Tok} {Q : Value → Shared → Prop}
    (F : Fr h₀ L s.heap m) (N : News h₀ L s.heap (pre ++ T))
    (X : FlagsIn w T x g mk c) (hp : p ≠ [] → g.node p ≠ none) (hap : Apart pre T) (hc : c < 10000000)
    (h : ∀ T' g' r s', Kin s s' → Fr h₀ L s'.heap m → News h₀ L s'.heap (pre ++ T') → FlagsIn w T' x g' (cutMk mk (p ++ [k])) c → Apart pre T' → g'.ps = g.ps → Q r s') :
    wpAny (model PP w) A (call (.builtin "dict.pop") [.ref (contAt g p), .str k t, .none]) Q E s := by
  obtain ⟨o, kvs, hm, hd, hval, hlen⟩ := cont_dict X p hp
  have hm' : (contAt g p, o) ∈ pre ++ T := List.mem_append_right _ hm
  have D := dict_at N hm' hd
  cases hn : g.node (p ++ [k]) with
  | none =>
    refine call_meetsIn PySem.F.slot_dict_pop D.typeIs PySem.F.entry_dict_pop (PySem.F.args_dict_pop_3 _ _ _) (meets_dict_pop_default (SK w) _ (k := k) (strKind_is PP w k t) (X.low hp) rfl .none)
      ⟨kvs, D, by rw [hval, hn]; rfl, h T g _ _ ⟨rfl, rfl⟩ F N (by rw [cutMk_none X (snoc_ne p k) hn (List.take_length ..)]; exact X) hap rfl⟩
  | some n =>
    refine call_meetsIn PySem.F.slot_dict_pop D.typeIs PySem.F.entry_dict_pop (PySem.F.args_dict_pop_3 _ _ _) (meets_dict_pop_there (SK w) _ (k := k) (strKind_is PP w k t) [.none] (.inr ⟨_, rfl⟩) rfl)
      ⟨kvs, _, D, by rw [sizeLine_eq]; lia, by rw [hval, hn]; rfl, fun h' hm2 hs => ?_⟩
    obtain ⟨o', ho', hd'⟩ := Heap.dictOf_iff.mp hm2
    exact h _ (g.cut (p ++ [k])) _ _ ⟨rfl, rfl⟩ (F.change hs (N _ hm').2.1 (N _ hm').2.2) (news_upd N hs ho' fun q hq => hap q hq _ hm) (X.cut hp hm hval hlen hd') (hap.upd ⟨_, hm⟩) rfl
end
end

section
open PySem PySem.W PyProof.Rows
local macro_rules | `(tactic| walk_at "exec For Name Subscript cons nil") => `(tactic| (k_here; refine For_led (by assumption) ?_))
theorem is_meets {w : World} {F T : Led} {x key : Addr} {g : Gh} {mk : Marks} {c : Nat} {q : List Str} {f : Int} {tf : Tok}
    (X : FlagsIn w T x g mk c) (K : WayIn w (F ++ T) key q) (hq : q.length < 1000) :
    Meets w 63 [.ref x, .ref key, .int f tf] [] (F ++ T) 5 50 (fun r W' => r = .bool (isAt mk q f) ∧ W' = F ++ T) := by
  intro p loose mean mg mb dp un gd cn cs a ccd cl outer A₀ base h₀ L m s Q E B FR KX N TP hk hdp hun ret
  refine kf ?_
  k_fill
  intro _
  refine wpAny_call ?_
  k_dflt ktr_enter
  rename_i g1 L1 h1 FG F1 N1 B1 X1 T1
  replace F1 : Fr g1 L1 h1 (fun y => List.lookup y [(Str.ofString "flag", .int f tf), (Str.ofString "key", .ref key), (Str.ofString "self", .ref x)]) := F1
  refine wpAny_noRaise ?_
  have xi := X.inst
  obtain ⟨n1, t1, n2, t2, kk, xd⟩ := X.idict
  replace xi : (x, instObj 66 g.dx) ∈ F ++ T := List.mem_append_right _ xi
  replace xd := List.mem_append_right F xd
  (repeat' (first | walk_at "u" | ((fail_if_success with_reducible first | show G0 | show G1 | show G2 | show G3); walk1)))
  by_cases hq0 : q = []
  · subst hq0
    refine truthy_way (b := false) (by assumption) K (by omega) rfl fun tk1 => ?_
    (repeat' (first | walk_at "u" | ((fail_if_success with_reducible first | show G0 | show G1 | show G2 | show G3); walk1)))
    exact ret _ _ _ ⟨rfl, rfl⟩ (by assumption) (by assumption) ⟨rfl, rfl⟩
  refine truthy_way (b := true) (by assumption) K (by omega) (decide_eq_true hq0) fun tk1 => ?_
  obtain ⟨q', kq, rfl⟩ : ∃ q' kq, q = q' ++ [kq] := ⟨_, _, (List.dropLast_concat_getLast hq0).symm⟩
  (repeat' (first | walk_at "u" | ((fail_if_success with_reducible first | show G0 | show G1 | show G2 | show G3); walk1)))
  refine slice_way (by assumption) (by assumption) K (by omega) fun sl osl s2 K2 F2 N2 KW ne1 => ?_
  have e1 : (q' ++ [kq]).take (upto (-1) (q' ++ [kq]).length) = q' := by
    have : upto (-1) (q' ++ [kq]).length = q'.length := by unfold upto; simp
    rw [this]; simp
  rw [e1] at KW
  obtain ⟨ok, ik, nk, mk1, ck, dk, hik⟩ := KW
  have hikl := hik.length
  refine iter_tuple (by rfl) F2 N2 mk1 ck dk (fun i m' W' => W' = (sl, osl) :: (F ++ T) ∧ i ≤ q'.length ∧ (∃ u1 u2, m' = fun y => if y = Str.ofString "k" then u1 else if y = Str.ofString "inner_cont" then u2 else if y = Str.ofString "cont" then some (.ref (contAt g (q'.take i))) else List.lookup y [(Str.ofString "flag", .int f tf), (Str.ofString "key", .ref key), (Str.ofString "self", .ref x)]) ∧
    (∀ j, j < i → mk (q'.take (j + 1)) true f = false) ∧ (q'.take i ≠ [] → g.node (q'.take i) ≠ none)) ⟨rfl, Nat.zero_le _, ⟨none, none, ?_⟩, fun j h => absurd h (Nat.not_lt_zero _), fun h => absurd rfl h⟩ (fun i m' W' h => by rw [h.1]; exact mk1) ?_ ?_
  · funext y
    by_cases h1 : y = Str.ofString "k"
    · subst h1; rfl
    · by_cases h2 : y = Str.ofString "inner_cont"
      · subst h2; rfl
      · simp only [if_neg h1, if_neg h2]; rfl
  · rintro i v m' W' oI s3 hv ⟨rfl, hi, ⟨u1, u2, rfl⟩, hdeep, hnode⟩ hoff F3 N3 K3 hlow QQo hQo
    have hlt : i < q'.length := by
      have := (List.getElem?_eq_some_iff.mp hv).1
      omega
    obtain ⟨tki, ei⟩ := ItemsAre.get hik i q'[i] (List.getElem?_eq_getElem hlt)
    rw [hv] at ei
    obtain rfl : v = .str q'[i] tki := Option.some.inj ei
    have etake : q'.take (i + 1) = q'.take i ++ [q'[i]] := by rw [List.take_add_one, List.getElem?_eq_getElem hlt]; rfl
    obtain ⟨od, kvs, hmd, hdd, hval, hlen⟩ := cont_dict X (q'.take i) hnode
    (repeat' (first | walk_at "u" | ((fail_if_success with_reducible first | show G0 | show G1 | show G2 | show G3); walk1)))
    have lo := X.low hnode
    have hmd' : (contAt g (q'.take i), od) ∈ (s2.heap.objs.size, oI) :: (sl, osl) :: (F ++ T) := by walk_at "mem"
    cases hn : g.node (q'.take i ++ [q'[i]]) with
    | none =>
      refine dict_notIn (b := true) (by assumption) hmd' hdd lo (by rw [hval, hn]; rfl) ?_
      (repeat' (first | walk_at "u" | ((fail_if_success with_reducible first | show G0 | show G1 | show G2 | show G3); walk1)))
      refine hQo (.ret _) _ ?_
      (repeat' (first | walk_at "u" | ((fail_if_success with_reducible first | show G0 | show G1 | show G2 | show G3); walk1)))
      refine ret _ _ _ ?_ (by assumption) (news_drop (by assumption) ?_) ⟨?_, rfl⟩
      · exact K2.trans K3
      · intro p hp; walk_at "mem"
      · congr 1
        refine (isAt_none X (p := q'.take i ++ [q'[i]]) (r := q'.drop (i + 1) ++ [kq]) (snoc_ne _ _) hn (by rw [← etake, ← List.append_assoc, List.take_append_drop]) fun j hj => ?_).symm
        have hj' : j < i := by simp at hj; omega
        rw [List.take_append_of_le_length (by omega)]
        exact hdeep j hj'
    | some n =>
      refine dict_notIn (b := false) (by assumption) hmd' hdd lo (by rw [hval, hn]; rfl) ?_
      obtain ⟨on, kn, hmn, hdn, vfl, vrc, vne⟩ := X.nd _ n hn
      obtain ⟨orc, crc, hmrc, hsrc, hcrc⟩ := X.rc _ n hn
      have up : ∀ {e}, e ∈ T → e ∈ (s2.heap.objs.size, oI) :: (sl, osl) :: (F ++ T) := fun h => by walk_at "mem"
      (repeat' (first | walk_at "u" | ((fail_if_success with_reducible first | show G0 | show G1 | show G2 | show G3); walk1)))
      refine dict_item (by assumption) hmd' hdd (by rw [hval, hn]; rfl) ?_
      (repeat' (first | walk_at "u" | ((fail_if_success with_reducible first | show G0 | show G1 | show G2 | show G3); walk1)))
      refine dict_item (by assumption) (up hmn) hdn vrc ?_
      (repeat' (first | walk_at "u" | ((fail_if_success with_reducible first | show G0 | show G1 | show G2 | show G3); walk1)))
      cases hm : mk (q'.take i ++ [q'[i]]) true f with
      | true =>
        refine set_in (b := true) (by assumption) (up hmrc) hsrc (Nat.lt_of_le_of_lt (Nat.le_trans hcrc (cnt_le _)) (by decide)) hm ?_
        (repeat' (first | walk_at "u" | ((fail_if_success with_reducible first | show G0 | show G1 | show G2 | show G3); walk1)))
        refine hQo (.ret _) _ ?_
        (repeat' (first | walk_at "u" | ((fail_if_success with_reducible first | show G0 | show G1 | show G2 | show G3); walk1)))
        refine ret _ _ _ ?_ (by assumption) (news_drop (by assumption) ?_) ⟨?_, rfl⟩
        · exact K2.trans K3
        · intro p hp; walk_at "mem"
        · congr 1
          refine (isAt_deep (i := i) (by simp; omega) ?_).symm
          rw [List.take_append_of_le_length (by omega), etake]
          exact hm
      | false =>
        refine set_in (b := false) (by assumption) (up hmrc) hsrc (Nat.lt_of_le_of_lt (Nat.le_trans hcrc (cnt_le _)) (by decide)) hm ?_
        (repeat' (first | walk_at "u" | ((fail_if_success with_reducible first | show G0 | show G1 | show G2 | show G3); walk1)))
        refine dict_item (by assumption) (up hmn) hdn vne ?_
        (repeat' (first | walk_at "u" | ((fail_if_success with_reducible first | show G0 | show G1 | show G2 | show G3); walk1)))
        refine hQo .next _ ?_
        show NextHere _ _ _ _ _ _ _
        refine NextHere.intro (by assumption) (by assumption) (W' := (sl, osl) :: (F ++ T)) (fun p hp => hp) hoff ⟨rfl, hlt, ⟨some (.str q'[i] tki), some (.ref n.nd), ?_⟩, ?_, ?_⟩ K3
        · funext y
          by_cases h1 : y = Str.ofString "k"
          · subst h1; rfl
          · by_cases h2 : y = Str.ofString "inner_cont"
            · subst h2; rfl
            · by_cases h3 : y = Str.ofString "cont"
              · subst h3
                have hct : contAt g (q'.take (i + 1)) = n.ne := by rw [etake]; exact contAt_some (snoc_ne _ _) hn
                rw [hct]
                rfl
              · simp only [if_neg h1, if_neg h2, if_neg h3]
        · intro j hj
          by_cases hji : j = i
          · subst hji; rw [etake]; exact hm
          · exact hdeep j (by omega)
        · intro _; rw [etake, hn]; simp
  · rintro m' W' s3 ⟨rfl, hi, ⟨u1, u2, rfl⟩, hdeep, hnode⟩ F3 N3 K3
    rw [hikl.symm, List.take_length] at hnode
    have hdeep' : ∀ j, j < q'.length → mk (q'.take (j + 1)) true f = false := fun j hj => hdeep j (by omega)
    simp only [hikl.symm, List.take_length] at F3
    obtain ⟨od, kvs, hmd, hdd, hval, hlen⟩ := cont_dict X q' hnode
    have up : ∀ {e}, e ∈ T → e ∈ (sl, osl) :: (F ++ T) := fun h => by walk_at "mem"
    (repeat' (first | walk_at "u" | ((fail_if_success with_reducible first | show G0 | show G1 | show G2 | show G3); walk1)))
    refine item_way_last (by assumption) (K.mono fun p hp => mct _ hp) (by simp at hq; omega) fun tks => ?_
    (repeat' (first | walk_at "u" | ((fail_if_success with_reducible first | show G0 | show G1 | show G2 | show G3); walk1)))
    cases hn : g.node (q' ++ [kq]) with
    | none =>
      refine dict_in (b := false) (by assumption) (up hmd) hdd (X.low hnode) (by rw [hval, hn]; rfl) ?_
      (repeat' (first | walk_at "u" | ((fail_if_success with_reducible first | show G0 | show G1 | show G2 | show G3); walk1)))
      refine ret _ _ _ ?_ (by assumption) (news_drop (by assumption) ?_) ⟨?_, rfl⟩
      · exact K2.trans K3
      · intro p hp; walk_at "mem"
      · congr 1
        refine (isAt_none X (p := q' ++ [kq]) (r := []) (snoc_ne _ _) hn (List.append_nil _) fun j hj => ?_).symm
        have hj' : j < q'.length := by simp at hj; omega
        rw [List.take_append_of_le_length (by omega)]
        exact hdeep' j hj'
    | some n =>
      obtain ⟨on, kn, hmn, hdn, vfl, vrc, vne⟩ := X.nd _ n hn
      obtain ⟨orc, crc, hmrc, hsrc, hcrc⟩ := X.rc _ n hn
      obtain ⟨ofl, cfl, hmfl, hsfl, hcfl⟩ := X.fl _ n hn
      refine dict_in (b := true) (by assumption) (up hmd) hdd (X.low hnode) (by rw [hval, hn]; rfl) ?_
      (repeat' (first | walk_at "u" | ((fail_if_success with_reducible first | show G0 | show G1 | show G2 | show G3); walk1)))
      refine dict_item (by assumption) (up hmd) hdd (by rw [hval, hn]; rfl) ?_
      (repeat' (first | walk_at "u" | ((fail_if_success with_reducible first | show G0 | show G1 | show G2 | show G3); walk1)))
      refine dict_item (by assumption) (up hmn) hdn vfl ?_
      (repeat' (first | walk_at "u" | ((fail_if_success with_reducible first | show G0 | show G1 | show G2 | show G3); walk1)))
      cases h1 : mk (q' ++ [kq]) false f with
      | true =>
        refine set_in (b := true) (by assumption) (up hmfl) hsfl (Nat.lt_of_le_of_lt (Nat.le_trans hcfl (cnt_le _)) (by decide)) h1 ?_
        (repeat' (first | walk_at "u" | ((fail_if_success with_reducible first | show G0 | show G1 | show G2 | show G3); walk1)))
        refine ret _ _ _ ?_ (by assumption) (news_drop (by assumption) ?_) ⟨?_, rfl⟩
        · exact K2.trans K3
        · intro p hp; walk_at "mem"
        · congr 1
          exact (isAt_flat (snoc_ne _ _) h1).symm
      | false =>
        refine set_in (b := false) (by assumption) (up hmfl) hsfl (Nat.lt_of_le_of_lt (Nat.le_trans hcfl (cnt_le _)) (by decide)) h1 ?_
        (repeat' (first | walk_at "u" | ((fail_if_success with_reducible first | show G0 | show G1 | show G2 | show G3); walk1)))
        refine dict_item (by assumption) (up hmn) hdn vrc ?_
        (repeat' (first | walk_at "u" | ((fail_if_success with_reducible first | show G0 | show G1 | show G2 | show G3); walk1)))
        refine set_in (by assumption) (up hmrc) hsrc (Nat.lt_of_le_of_lt (Nat.le_trans hcrc (cnt_le _)) (by decide)) rfl ?_
        (repeat' (first | walk_at "u" | ((fail_if_success with_reducible first | show G0 | show G1 | show G2 | show G3); walk1)))
        refine ret _ _ _ ?_ (by assumption) (news_drop (by assumption) ?_) ⟨?_, rfl⟩
        · exact K2.trans K3
        · intro p hp; walk_at "mem"
        · congr 1
          exact (isAt_last h1 fun j hj => by rw [List.take_append_of_le_length (by omega)]; exact hdeep' j hj).symm
end

section
open PySem PySem.W PyProof.Rows
local macro_rules | `(tactic| walk_at "exec For Name Subscript cons nil") => `(tactic| (k_here; refine For_led (by assumption) ?_))
local macro_rules | `(tactic| walk_at "exec For Name Name cons nil") => `(tactic| (k_here; refine For_led (by assumption) ?_))
theorem cont_grown {g g' : Gh} {p q : List Str} {n : NA} (h : ∀ y, g'.node y = if y = q then some n else g.node y) (hr : g'.r = g.r) (hq : p ≠ q) : contAt g' p = contAt g p := by
  unfold contAt
  rw [hr, h, if_neg hq]
theorem ne_snoc {α : Type} (l : List α) (a : α) : l ≠ l ++ [a] := by intro h; have := congrArg List.length h; simp at this
namespace E_setsn_meets_core
noncomputable abbrev Dat : Type := (World) × (Led) × (Led) × (Addr) × (Addr) × (Gh) × (Marks) × (Nat) × (List Str) × (Str) × (Int) × (Tok) × (Bool) × (PySem.Program) × (List Str) × (ExcName → Option Value) × (Str → Option Value) × (Str → Option Value) × (Nat) × (Nat) × (Option (List Code)) × (Str) × (Scope) × (Addr) × (Value) × (List (Str × Addr)) × (List Env) × (Around) × (Heap) × (Heap) × (Addr) × (Str → Option Value) × (Shared) × (Value → Shared → Prop) × (Value → Shared → Prop)
theorem ne : Nonempty Dat := ⟨({ draws := fun _ _ => 0, params := { strHash := fun _ => 0, shareClass := fun _ => 0, mergeTok := id, idOf := fun _ => 0, idOfShared := fun _ _ => 0, followText := fun _ => false, idOfImm := fun _ => 0 } }, default, default, default, default, ⟨0, 0, 0, fun _ => none, fun _ => .other⟩, default, default, default, default, default, default, default, default, default, default, default, default, default, default, default, default, { kind := .function, names := [], isGenerator := false, isCoroutine := false }, default, default, default, default, {}, default, default, default, default, {}, default, default)⟩
noncomputable def Stm (w : World) (F : Led) (T : Led) (x : Addr) (key : Addr) (g : Gh) (mk : Marks) (c : Nat) (q' : List Str) (kq : Str) (f : Int) (tf : Tok) (d : Bool) (p : PySem.Program) (loose : List Str) (mean : ExcName → Option Value) (mg : Str → Option Value) (mb : Str → Option Value) (dp : Nat) (un : Nat) (gd : Option (List Code)) (cn : Str) (cs : Scope) (a : Addr) (ccd : Value) (cl : List (Str × Addr)) (outer : List Env) (A₀ : Around) (base : Heap) (h₀ : Heap) (L : Addr) (m : Str → Option Value) (s : Shared) (Q : Value → Shared → Prop) (E : Value → Shared → Prop) : Prop := ∀  (X : FlagsIn w T x g mk c) (K : WayIn w (F ++ T) key (q' ++ [kq])) (hq : (q' ++ [kq]).length < 1000) (hc : c < 5000000) (hf : f = 0 ∨ f = 1) (hap : Apart F T) (B : Below A₀ base outer h₀) (FR : Fr h₀ L s.heap m) (KX : (hd.heap_39 w.params).In h₀) (N : News h₀ L s.heap (F ++ T)) (TP : Top p loose mean mg mb h₀) (hk : cs.kind = .function) (hdp : dp + 5 < recursionLimit) (hun : un + 50 < cLine) (ret : ∀ (r : Value) (s' : Shared) (W' : Led), Kin s s' → Fr h₀ L s'.heap m → News h₀ L s'.heap W' → ((fun r W' => r = .none ∧ ∃ T' g', W' = F ++ T' ∧ Apart F T' ∧ FlagsIn w T' x g' (setMk mk (q' ++ [kq]) d f) (c + (q' ++ [kq]).length) ∧ g'.ps = g.ps)) r W' → Q r s'), wpAny (model PP w) (ktrTop dp un gd cn cs L a ccd cl outer) (PySem.call (.ref 56) [.ref x, .ref key, .int f tf] [(Str.ofString "recursive", .bool d)]) Q E s
@[irreducible] noncomputable def pick : Dat := @Classical.epsilon Dat ne fun d => ¬ Stm d.1 d.2.1 d.2.2.1 d.2.2.2.1 d.2.2.2.2.1 d.2.2.2.2.2.1 d.2.2.2.2.2.2.1 d.2.2.2.2.2.2.2.1 d.2.2.2.2.2.2.2.2.1 d.2.2.2.2.2.2.2.2.2.1 d.2.2.2.2.2.2.2.2.2.2.1 d.2.2.2.2.2.2.2.2.2.2.2.1 d.2.2.2.2.2.2.2.2.2.2.2.2.1 d.2.2.2.2.2.2.2.2.2.2.2.2.2.1 d.2.2.2.2.2.2.2.2.2.2.2.2.2.2.1 d.2.2.2.2.2.2.2.2.2.2.2.2.2.2.2.1 d.2.2.2.2.2.2.2.2.2.2.2.2.2.2.2.2.1 d.2.2.2.2.2.2.2.2.2.2.2.2.2.2.2.2.2.1 d.2.2.2.2.2.2.2.2.2.2.2.2.2.2.2.2.2.2.1 d.2.2.2.2.2.2.2.2.2.2.2.2.2.2.2.2.2.2.2.1 d.2.2.2.2.2.2.2.2.2.2.2.2.2.2.2.2.2.2.2.2.1 d.2.2.2.2.2.2.2.2.2.2.2.2.2.2.2.2.2.2.2.2.2.1 d.2.2.2.2.2.2.2.2.2.2.2.2.2.2.2.2.2.2.2.2.2.2.1 d.2.2.2.2.2.2.2.2.2.2.2.2.2.2.2.2.2.2.2.2.2.2.2.1 d.2.2.2.2.2.2.2.2.2.2.2.2.2.2.2.2.2.2.2.2.2.2.2.2.1 d.2.2.2.2.2.2.2.2.2.2.2.2.2.2.2.2.2.2.2.2.2.2.2.2.2.1 d.2.2.2.2.2.2.2.2.2.2.2.2.2.2.2.2.2.2.2.2.2.2.2.2.2.2.1 d.2.2.2.2.2.2.2.2.2.2.2.2.2.2.2.2.2.2.2.2.2.2.2.2.2.2.2.1 d.2.2.2.2.2.2.2.2.2.2.2.2.2.2.2.2.2.2.2.2.2.2.2.2.2.2.2.2.1 d.2.2.2.2.2.2.2.2.2.2.2.2.2.2.2.2.2.2.2.2.2.2.2.2.2.2.2.2.2.1 d.2.2.2.2.2.2.2.2.2.2.2.2.2.2.2.2.2.2.2.2.2.2.2.2.2.2.2.2.2.2.1 d.2.2.2.2.2.2.2.2.2.2.2.2.2.2.2.2.2.2.2.2.2.2.2.2.2.2.2.2.2.2.2.1 d.2.2.2.2.2.2.2.2.2.2.2.2.2.2.2.2.2.2.2.2.2.2.2.2.2.2.2.2.2.2.2.2.1 d.2.2.2.2.2.2.2.2.2.2.2.2.2.2.2.2.2.2.2.2.2.2.2.2.2.2.2.2.2.2.2.2.2.1 d.2.2.2.2.2.2.2.2.2.2.2.2.2.2.2.2.2.2.2.2.2.2.2.2.2.2.2.2.2.2.2.2.2.2
@[irreducible] noncomputable def w := pick.1
@[irreducible] noncomputable def F := pick.2.1
@[irreducible] noncomputable def T := pick.2.2.1
@[irreducible] noncomputable def x := pick.2.2.2.1
@[irreducible] noncomputable def key := pick.2.2.2.2.1
@[irreducible] noncomputable def g := pick.2.2.2.2.2.1
noncomputable def pickr1 := pick.2.2.2.2.2.2
@[irreducible] noncomputable def mk := pickr1.1
@[irreducible] noncomputable def c := pickr1.2.1
@[irreducible] noncomputable def q' := pickr1.2.2.1
@[irreducible] noncomputable def kq := pickr1.2.2.2.1
@[irreducible] noncomputable def f := pickr1.2.2.2.2.1
@[irreducible] noncomputable def tf := pickr1.2.2.2.2.2.1
noncomputable def pickr2 := pickr1.2.2.2.2.2.2
@[irreducible] noncomputable def d := pickr2.1
@[irreducible] noncomputable def p := pickr2.2.1
@[irreducible] noncomputable def loose := pickr2.2.2.1
@[irreducible] noncomputable def mean := pickr2.2.2.2.1
@[irreducible] noncomputable def mg := pickr2.2.2.2.2.1
@[irreducible] noncomputable def mb := pickr2.2.2.2.2.2.1
noncomputable def pickr3 := pickr2.2.2.2.2.2.2
@[irreducible] noncomputable def dp := pickr3.1
@[irreducible] noncomputable def un := pickr3.2.1
@[irreducible] noncomputable def gd := pickr3.2.2.1
@[irreducible] noncomputable def cn := pickr3.2.2.2.1
@[irreducible] noncomputable def cs := pickr3.2.2.2.2.1
@[irreducible] noncomputable def a := pickr3.2.2.2.2.2.1
noncomputable def pickr4 := pickr3.2.2.2.2.2.2
@[irreducible] noncomputable def ccd := pickr4.1
@[irreducible] noncomputable def cl := pickr4.2.1
@[irreducible] noncomputable def outer := pickr4.2.2.1
@[irreducible] noncomputable def A₀ := pickr4.2.2.2.1
@[irreducible] noncomputable def base := pickr4.2.2.2.2.1
@[irreducible] noncomputable def h₀ := pickr4.2.2.2.2.2.1
noncomputable def pickr5 := pickr4.2.2.2.2.2.2
@[irreducible] noncomputable def L := pickr5.1
@[irreducible] noncomputable def m := pickr5.2.1
@[irreducible] noncomputable def s := pickr5.2.2.1
@[irreducible] noncomputable def Q := pickr5.2.2.2.1
@[irreducible] noncomputable def E := pickr5.2.2.2.2
noncomputable def pack2 : PSigma (fun P : (Heap) → (Addr) → (Heap) → (Int) → (Tok) → (Int) → (Tok) → (Nat) → (Heap) → (Addr) → (Shared) → (Obj) → (List Value) → (Nat) → (Tok) → (Addr) → (Heap) → (Heap) → (Heap) → (Heap) → (Nat) → (Shared) → (List (Addr × Obj)) → (Gh) → (Option Value) → (Obj) → (List (Str × Value)) → Prop => (∀ x0 x1 x2 x3 x4 x5 x6 x7 x8 x9 x10 x11 x12 x13 x14 x15 x16 x17 x18 x19 x20 x21 x22 x23 x24 x25 x26, P x0 x1 x2 x3 x4 x5 x6 x7 x8 x9 x10 x11 x12 x13 x14 x15 x16 x17 x18 x19 x20 x21 x22 x23 x24 x25 x26) → PSigma (fun P : (Heap) → (Addr) → (Heap) → (Int) → (Tok) → (Int) → (Tok) → (Nat) → (Heap) → (Addr) → (Shared) → (Obj) → (List Value) → (Nat) → (Tok) → (Addr) → (Heap) → (Heap) → (Heap) → (Heap) → (Nat) → (Nat) → (Obj) → (Shared) → (List (Addr × Obj)) → (Gh) → (Option Value) → (Flow → Shared → Prop) → (Tok) → (Obj) → (List (Str × Value)) → Prop => (∀ x0 x1 x2 x3 x4 x5 x6 x7 x8 x9 x10 x11 x12 x13 x14 x15 x16 x17 x18 x19 x20 x21 x22 x23 x24 x25 x26 x27 x28 x29 x30, P x0 x1 x2 x3 x4 x5 x6 x7 x8 x9 x10 x11 x12 x13 x14 x15 x16 x17 x18 x19 x20 x21 x22 x23 x24 x25 x26 x27 x28 x29 x30) → Stm w F T x key g mk c q' kq f tf d p loose mean mg mb dp un gd cn cs a ccd cl outer A₀ base h₀ L m s Q E)) := by
  apply PSigma.mk
  case snd =>
    intro hP2
    apply PSigma.mk
    case snd =>
      intro hP1
      intro X K hq hc hf hap B FR KX N TP hk hdp hun ret
      refine kf ?_
      k_fill
      intro _
      refine wpAny_call ?_
      k_dflt ktr_enter
      rename_i g1 L1 h1 FG F1 N1 B1 X1 T1
      replace F1 : Fr g1 L1 h1 (fun y => List.lookup y [(Str.ofString "recursive", .bool d), (Str.ofString "flag", .int f tf), (Str.ofString "key", .ref key), (Str.ofString "self", .ref x)]) := F1
      refine wpAny_noRaise ?_
      have xi := X.inst
      obtain ⟨n1, t1, n2, t2, kk, xd⟩ := X.idict
      replace xi : (x, instObj 66 g.dx) ∈ F ++ T := List.mem_append_right _ xi
      replace xd := List.mem_append_right F xd
      (repeat' (first | walk_at "u" | ((fail_if_success with_reducible first | show G0 | show G1 | show G2 | show G3 | show G4 | show G5 | show G6); walk1)))
      have eu : upto (-1) (q' ++ [kq]).length = q'.length := by unfold upto; simp
      have e1 : (q' ++ [kq]).take (upto (-1) (q' ++ [kq]).length) = q' := by
        rw [eu]; simp
      refine slice_way (by assumption) (by assumption) K (by lia) fun sl osl s2 K2 F2 N2 KW ne1 => ?_
      rw [e1] at KW
      replace ne1 := ne1 (by rw [eu]; simp)
      obtain ⟨ok, ik, nk, mk1, ck, dk, hik⟩ := KW
      have hok : ok = osl := by
        rcases List.mem_cons.mp mk1 with e | e
        · exact (Prod.mk.inj e).2
        · exact absurd (ne1 _ e) (Nat.lt_irrefl _)
      subst hok
      have hap1 : Apart ((sl, ok) :: F) T := fun p hp r hr => by
        rcases List.mem_cons.mp hp with rfl | hp
        · exact Nat.ne_of_gt (ne1 _ (List.mem_append_right _ hr))
        · exact hap p hp r hr
      have hslF : ∀ p ∈ F, p.1 ≠ sl := fun p hp => Nat.ne_of_lt (ne1 _ (List.mem_append_left _ hp))
      have hikl := hik.length
      have hqb : q'.length < 999 := by simp at hq; lia
      (repeat' (first | walk_at "u" | ((fail_if_success with_reducible first | show G0 | show G1 | show G2 | show G3 | show G4 | show G5 | show G6); walk1)))
      refine item_way_last (by assumption) (K.mono fun p hp => mct _ hp) (by simp at hq; omega) fun tks => ?_
      (repeat' (first | walk_at "u" | ((fail_if_success with_reducible first | show G0 | show G1 | show G2 | show G3 | show G4 | show G5 | show G6); walk1)))
      refine iter_tuple (W := (sl, ok) :: (F ++ T)) (by rfl) (by assumption) (news_drop (by assumption) (fun p hp => mct _ hp)) mk1 ck dk (fun i m' W' => i ≤ q'.length ∧ ∃ Ti gi u1, m' = (fun y => if y = Str.ofString "k" then u1 else if y = Str.ofString "cont" then some (.ref (contAt gi (q'.take i))) else if y = Str.ofString "key_parent" then some (.ref sl) else if y = Str.ofString "key_stem" then some (.str kq tks) else List.lookup y [(Str.ofString "recursive", .bool d), (Str.ofString "flag", .int f tf), (Str.ofString "key", .ref key), (Str.ofString "self", .ref x)]) ∧
        W' = (sl, ok) :: (F ++ Ti) ∧ Apart ((sl, ok) :: F) Ti ∧ FlagsIn w Ti x gi mk (c + i) ∧ (q'.take i ≠ [] → gi.node (q'.take i) ≠ none) ∧ gi.ps = g.ps) ⟨Nat.zero_le _, T, g, none, ?_, rfl, hap1, X, fun h => absurd rfl h, rfl⟩ (fun i m' W' h => by
          obtain ⟨_, Ti, gi, u1, _, rfl, _⟩ := h
          exact List.mem_cons_self) ?_ ?_
      · funext y
        by_cases h1 : y = Str.ofString "k"
        · subst h1; rfl
        · by_cases h2 : y = Str.ofString "cont"
          · subst h2; rfl
          · simp only [if_neg h1, if_neg h2]
      · rintro i v m' W' oI s3 hv ⟨hi, Ti, gi, u1, rfl, rfl, api, Xi, hnode, hps⟩ hoff F3 N3 K3 hlow QQo hQo
        have hlt : i < q'.length := by
          have := (List.getElem?_eq_some_iff.mp hv).1
          omega
        obtain ⟨tki, ei⟩ := ItemsAre.get hik i q'[i] (List.getElem?_eq_getElem hlt)
        rw [hv] at ei
        obtain rfl : v = .str q'[i] tki := Option.some.inj ei
        have etake : q'.take (i + 1) = q'.take i ++ [q'[i]] := by rw [List.take_add_one, List.getElem?_eq_getElem hlt]; rfl
        obtain ⟨od, kvs, hmd, hdd, hval, hlen⟩ := cont_dict Xi (q'.take i) hnode
        rename_i z1_0 z1_1 z1_2 z1_3 z1_4 z1_5 z1_6 z1_7 z1_8 z1_9
        subst qk
        subst ek
        revert hlen; revert hval; revert hdd; revert hmd; revert etake; revert ei; revert hv; revert hlt; revert hQo; revert hlow; revert K3; revert N3; revert F3; revert hoff
        revert hps; revert hnode; revert Xi; revert api; revert hi; revert z1_9; revert z1_8; revert z1_4; revert hqb; revert hikl; revert hslF; revert hap1; revert mk1; revert hik
        revert dk; revert ck; revert ne1; revert K2; revert e1; revert eu; revert xd; revert xi; revert T1; revert X1; revert B1; revert FG; revert ret; revert hun
        revert hdp; revert hk; revert TP; revert N; revert KX; revert FR; revert B; revert hap; revert hf; revert hc; revert hq; revert K; revert X
        exact hP1 g1 L1 h1 n1 t1 n2 t2 kk z1_1 sl s2 ok ik nk tks z1_2 z1_3 z1_5 z1_6 z1_7 tk i oI s3 Ti gi u1 QQo tki od kvs
      · rintro m' W' s3 ⟨hi, Ti, gi, u1, rfl, rfl, api, Xi, hnode, hps⟩ F3 N3 K3
        rw [hikl.symm, List.take_length] at hnode
        simp only [hikl.symm, List.take_length] at F3
        obtain ⟨od, kvs, hmd, hdd, hval, hlen⟩ := cont_dict Xi q' hnode
        have lo := Xi.low hnode
        rename_i z2_0 z2_1 z2_2 z2_3 z2_4 z2_5 z2_6 z2_7 z2_8 z2_9
        subst qk
        subst ek
        revert lo; revert hlen; revert hval; revert hdd; revert hmd; revert F3; revert K3; revert N3; revert hps; revert hnode; revert Xi; revert api; revert hi; revert z2_9
        revert z2_8; revert z2_4; revert hqb; revert hikl; revert hslF; revert hap1; revert mk1; revert hik; revert dk; revert ck; revert ne1; revert K2; revert e1; revert eu
        revert xd; revert xi; revert T1; revert X1; revert B1; revert FG; revert ret; revert hun; revert hdp; revert hk; revert TP; revert N; revert KX; revert FR
        revert B; revert hap; revert hf; revert hc; revert hq; revert K; revert X
        exact hP2 g1 L1 h1 n1 t1 n2 t2 kk z2_1 sl s2 ok ik nk tks z2_2 z2_3 z2_5 z2_6 z2_7 tk s3 Ti gi u1 od kvs
namespace K2
noncomputable abbrev Dat2 : Type := (Heap) × (Addr) × (Heap) × (Int) × (Tok) × (Int) × (Tok) × (Nat) × (Heap) × (Addr) × (Shared) × (Obj) × (List Value) × (Nat) × (Tok) × (Addr) × (Heap) × (Heap) × (Heap) × (Heap) × (Nat) × (Shared) × (List (Addr × Obj)) × (Gh) × (Option Value) × (Obj) × (List (Str × Value))
theorem ne2 : Nonempty Dat2 := ⟨(default, default, default, default, default, default, default, default, default, default, {}, default, default, default, default, default, default, default, default, default, default, {}, default, ⟨0, 0, 0, fun _ => none, fun _ => .other⟩, default, default, default)⟩
@[irreducible] noncomputable def pick2 : Dat2 := @Classical.epsilon Dat2 ne2 fun d => ¬ pack2.1 d.1 d.2.1 d.2.2.1 d.2.2.2.1 d.2.2.2.2.1 d.2.2.2.2.2.1 d.2.2.2.2.2.2.1 d.2.2.2.2.2.2.2.1 d.2.2.2.2.2.2.2.2.1 d.2.2.2.2.2.2.2.2.2.1 d.2.2.2.2.2.2.2.2.2.2.1 d.2.2.2.2.2.2.2.2.2.2.2.1 d.2.2.2.2.2.2.2.2.2.2.2.2.1 d.2.2.2.2.2.2.2.2.2.2.2.2.2.1 d.2.2.2.2.2.2.2.2.2.2.2.2.2.2.1 d.2.2.2.2.2.2.2.2.2.2.2.2.2.2.2.1 d.2.2.2.2.2.2.2.2.2.2.2.2.2.2.2.2.1 d.2.2.2.2.2.2.2.2.2.2.2.2.2.2.2.2.2.1 d.2.2.2.2.2.2.2.2.2.2.2.2.2.2.2.2.2.2.1 d.2.2.2.2.2.2.2.2.2.2.2.2.2.2.2.2.2.2.2.1 d.2.2.2.2.2.2.2.2.2.2.2.2.2.2.2.2.2.2.2.2.1 d.2.2.2.2.2.2.2.2.2.2.2.2.2.2.2.2.2.2.2.2.2.1 d.2.2.2.2.2.2.2.2.2.2.2.2.2.2.2.2.2.2.2.2.2.2.1 d.2.2.2.2.2.2.2.2.2.2.2.2.2.2.2.2.2.2.2.2.2.2.2.1 d.2.2.2.2.2.2.2.2.2.2.2.2.2.2.2.2.2.2.2.2.2.2.2.2.1 d.2.2.2.2.2.2.2.2.2.2.2.2.2.2.2.2.2.2.2.2.2.2.2.2.2.1 d.2.2.2.2.2.2.2.2.2.2.2.2.2.2.2.2.2.2.2.2.2.2.2.2.2.2
@[irreducible] noncomputable def g1 := pick2.1
@[irreducible] noncomputable def L1 := pick2.2.1
@[irreducible] noncomputable def h1 := pick2.2.2.1
@[irreducible] noncomputable def n1 := pick2.2.2.2.1
@[irreducible] noncomputable def t1 := pick2.2.2.2.2.1
@[irreducible] noncomputable def n2 := pick2.2.2.2.2.2.1
noncomputable def pick2r1 := pick2.2.2.2.2.2.2
@[irreducible] noncomputable def t2 := pick2r1.1
@[irreducible] noncomputable def kk := pick2r1.2.1
@[irreducible] noncomputable def z2_1 := pick2r1.2.2.1
@[irreducible] noncomputable def sl := pick2r1.2.2.2.1
@[irreducible] noncomputable def s2 := pick2r1.2.2.2.2.1
@[irreducible] noncomputable def ok := pick2r1.2.2.2.2.2.1
noncomputable def pick2r2 := pick2r1.2.2.2.2.2.2
@[irreducible] noncomputable def ik := pick2r2.1
@[irreducible] noncomputable def nk := pick2r2.2.1
@[irreducible] noncomputable def tks := pick2r2.2.2.1
@[irreducible] noncomputable def z2_2 := pick2r2.2.2.2.1
@[irreducible] noncomputable def z2_3 := pick2r2.2.2.2.2.1
@[irreducible] noncomputable def z2_5 := pick2r2.2.2.2.2.2.1
noncomputable def pick2r3 := pick2r2.2.2.2.2.2.2
@[irreducible] noncomputable def z2_6 := pick2r3.1
@[irreducible] noncomputable def z2_7 := pick2r3.2.1
@[irreducible] noncomputable def tk := pick2r3.2.2.1
@[irreducible] noncomputable def s3 := pick2r3.2.2.2.1
@[irreducible] noncomputable def Ti := pick2r3.2.2.2.2.1
@[irreducible] noncomputable def gi := pick2r3.2.2.2.2.2.1
noncomputable def pick2r4 := pick2r3.2.2.2.2.2.2
@[irreducible] noncomputable def u1 := pick2r4.1
@[irreducible] noncomputable def od := pick2r4.2.1
@[irreducible] noncomputable def kvs := pick2r4.2.2
theorem pack1_b2 : pack2.1 g1 L1 h1 n1 t1 n2 t2 kk z2_1 sl s2 ok ik nk tks z2_2 z2_3 z2_5 z2_6 z2_7 tk s3 Ti gi u1 od kvs := by
  intro X K hq hc hf hap B FR KX N TP hk hdp hun ret FG B1 X1 T1 xi xd eu e1 K2 ne1 ck dk hik mk1 hap1 hslF hikl hqb z2_4 z2_8 z2_9 hi api Xi hnode hps N3 K3 F3 hmd hdd hval hlen lo
  refine kf ?_
  k_fill
  intro _
  (repeat' (first | walk_at "u" | ((fail_if_success with_reducible first | show G0 | show G1 | show G2 | show G3 | show G4 | show G5 | show G6); walk1)))
  cases hn : gi.node (q' ++ [kq]) with
  | none =>
    refine dict_notIn (b := true) (by assumption) (mct _ (List.mem_append_right _ hmd)) hdd lo (by rw [hval, hn]; rfl) ?_
    (repeat' (first | walk_at "u" | ((fail_if_success with_reducible first | show G0 | show G1 | show G2 | show G3 | show G4 | show G5 | show G6); walk1)))
    refine grow_step (pre := _ :: F) (T := Ti) (by assumption) (by assumption) Xi hnode hn api (by omega) (by assumption) (by assumption) (by assumption) (by assumption) (by assumption) (by assumption) (Obj.SetObjOf.intSetOf (by assumption)) (Obj.SetObjOf.intSetOf (by assumption)) (by rfl) (by rfl) (by rfl) fun T2 g2 s4 K4 F4 N4 X4 A4 node4 hgh => ?_
    simp only [List.cons_append] at N4
    obtain ⟨r4, ps4, dx4⟩ := hgh
    have ct := cont_grown node4 r4 (ne_snoc q' kq)
    obtain ⟨od2, kvs2, hmd2, hdd2, hval2, hlen2⟩ := cont_dict X4 q' (fun h => by rw [node4, if_neg (ne_snoc _ _)]; exact hnode h)
    rw [ct] at hmd2
    have hn4 := (node4 (q' ++ [kq])).trans (if_pos rfl)
    obtain ⟨on, kn, hmn, hdn, vfl, vrc, vne⟩ := X4.nd _ _ hn4
    have up : ∀ {e I}, e ∈ T2 → e ∈ I :: (F ++ T2) := fun h => by walk_at "mem"
    (repeat' (first | walk_at "u" | ((fail_if_success with_reducible first | show G0 | show G1 | show G2 | show G3 | show G4 | show G5 | show G6); walk1)))
    refine dict_item (by assumption) (up hmd2) hdd2 (by rw [hval2, hn4]; rfl) ?_
    obtain ⟨oxfl, kxfl, hmxfl, hsxfl, _⟩ := X4.fl _ _ hn4
    obtain ⟨oxrc, kxrc, hmxrc, hsxrc, _⟩ := X4.rc _ _ hn4
    rename Fr _ _ _ _ => lF
    rcases (Bool.eq_false_or_eq_true d).symm with hd | hd
    all_goals rw [hd] at lF ret
    · (repeat' (first | walk_at "u" | ((fail_if_success with_reducible first | show G0 | show G1 | show G2 | show G3 | show G4 | show G5 | show G6); walk1)))
      refine dict_item (by assumption) (up hmn) hdn vfl ?_
      (repeat' (first | walk_at "u" | ((fail_if_success with_reducible first | show G0 | show G1 | show G2 | show G3 | show G4 | show G5 | show G6); walk1)))
      refine meth_add (by assumption) (up (hmxfl)) hsxfl ?_
      (repeat' (first | walk_at "u" | ((fail_if_success with_reducible first | show G0 | show G1 | show G2 | show G3 | show G4 | show G5 | show G6); walk1)))
      refine mark_step (pre := _ :: F) (d := false) (by assumption) (by assumption) X4 hn4 A4 hf fun T5 s5 K5 F5 N5 X5 A5 => ?_
      simp only [List.cons_append] at N5
      (repeat' (first | walk_at "u" | ((fail_if_success with_reducible first | show G0 | show G1 | show G2 | show G3 | show G4 | show G5 | show G6); walk1)))
      refine ret _ _ _ (K2.trans (K3.trans (K4.trans K5))) (by assumption) (news_drop (W := (sl, ok) :: (F ++ T5)) (by assumption) (fun p hp => mct _ hp)) ⟨rfl, T5, _, rfl, A5.mono fun p hp => mct _ hp, X5.weaken (by simp; omega), ps4.trans hps⟩
    · (repeat' (first | walk_at "u" | ((fail_if_success with_reducible first | show G0 | show G1 | show G2 | show G3 | show G4 | show G5 | show G6); walk1)))
      refine dict_item (by assumption) (up hmn) hdn vrc ?_
      (repeat' (first | walk_at "u" | ((fail_if_success with_reducible first | show G0 | show G1 | show G2 | show G3 | show G4 | show G5 | show G6); walk1)))
      refine meth_add (by assumption) (up (hmxrc)) hsxrc ?_
      (repeat' (first | walk_at "u" | ((fail_if_success with_reducible first | show G0 | show G1 | show G2 | show G3 | show G4 | show G5 | show G6); walk1)))
      refine mark_step (pre := _ :: F) (d := true) (by assumption) (by assumption) X4 hn4 A4 hf fun T5 s5 K5 F5 N5 X5 A5 => ?_
      simp only [List.cons_append] at N5
      (repeat' (first | walk_at "u" | ((fail_if_success with_reducible first | show G0 | show G1 | show G2 | show G3 | show G4 | show G5 | show G6); walk1)))
      refine ret _ _ _ (K2.trans (K3.trans (K4.trans K5))) (by assumption) (news_drop (W := (sl, ok) :: (F ++ T5)) (by assumption) (fun p hp => mct _ hp)) ⟨rfl, T5, _, rfl, A5.mono fun p hp => mct _ hp, X5.weaken (by simp; omega), ps4.trans hps⟩
  | some n =>
    refine dict_notIn (b := false) (by assumption) (mct _ (List.mem_append_right _ hmd)) hdd lo (by rw [hval, hn]; rfl) ?_
    have hn4 := hn
    obtain ⟨on, kn, hmn, hdn, vfl, vrc, vne⟩ := Xi.nd _ _ hn
    have up : ∀ {e I}, e ∈ Ti → e ∈ I :: (F ++ Ti) := fun h => by walk_at "mem"
    (repeat' (first | walk_at "u" | ((fail_if_success with_reducible first | show G0 | show G1 | show G2 | show G3 | show G4 | show G5 | show G6); walk1)))
    refine dict_item (by assumption) (up hmd) hdd (by rw [hval, hn4]; rfl) ?_
    obtain ⟨oxfl, kxfl, hmxfl, hsxfl, _⟩ := Xi.fl _ _ hn4
    obtain ⟨oxrc, kxrc, hmxrc, hsxrc, _⟩ := Xi.rc _ _ hn4
    rename Fr _ _ _ _ => lF
    rcases (Bool.eq_false_or_eq_true d).symm with hd | hd
    all_goals rw [hd] at lF ret
    · (repeat' (first | walk_at "u" | ((fail_if_success with_reducible first | show G0 | show G1 | show G2 | show G3 | show G4 | show G5 | show G6); walk1)))
      refine dict_item (by assumption) (up hmn) hdn vfl ?_
      (repeat' (first | walk_at "u" | ((fail_if_success with_reducible first | show G0 | show G1 | show G2 | show G3 | show G4 | show G5 | show G6); walk1)))
      refine meth_add (by assumption) (up (hmxfl)) hsxfl ?_
      (repeat' (first | walk_at "u" | ((fail_if_success with_reducible first | show G0 | show G1 | show G2 | show G3 | show G4 | show G5 | show G6); walk1)))
      refine mark_step (pre := _ :: F) (d := false) (by assumption) (by assumption) Xi hn4 api hf fun T5 s5 K5 F5 N5 X5 A5 => ?_
      simp only [List.cons_append] at N5
      (repeat' (first | walk_at "u" | ((fail_if_success with_reducible first | show G0 | show G1 | show G2 | show G3 | show G4 | show G5 | show G6); walk1)))
      refine ret _ _ _ (K2.trans (K3.trans K5)) (by assumption) (news_drop (W := (sl, ok) :: (F ++ T5)) (by assumption) (fun p hp => mct _ hp)) ⟨rfl, T5, _, rfl, A5.mono fun p hp => mct _ hp, X5.weaken (by simp; omega), hps⟩
    · (repeat' (first | walk_at "u" | ((fail_if_success with_reducible first | show G0 | show G1 | show G2 | show G3 | show G4 | show G5 | show G6); walk1)))
      refine dict_item (by assumption) (up hmn) hdn vrc ?_
      (repeat' (first | walk_at "u" | ((fail_if_success with_reducible first | show G0 | show G1 | show G2 | show G3 | show G4 | show G5 | show G6); walk1)))
      refine meth_add (by assumption) (up (hmxrc)) hsxrc ?_
      (repeat' (first | walk_at "u" | ((fail_if_success with_reducible first | show G0 | show G1 | show G2 | show G3 | show G4 | show G5 | show G6); walk1)))
      refine mark_step (pre := _ :: F) (d := true) (by assumption) (by assumption) Xi hn4 api hf fun T5 s5 K5 F5 N5 X5 A5 => ?_
      simp only [List.cons_append] at N5
      (repeat' (first | walk_at "u" | ((fail_if_success with_reducible first | show G0 | show G1 | show G2 | show G3 | show G4 | show G5 | show G6); walk1)))
      refine ret _ _ _ (K2.trans (K3.trans K5)) (by assumption) (news_drop (W := (sl, ok) :: (F ++ T5)) (by assumption) (fun p hp => mct _ hp)) ⟨rfl, T5, _, rfl, A5.mono fun p hp => mct _ hp, X5.weaken (by simp; omega), hps⟩
theorem all2 (x : Dat2) : pack2.1 x.1 x.2.1 x.2.2.1 x.2.2.2.1 x.2.2.2.2.1 x.2.2.2.2.2.1 x.2.2.2.2.2.2.1 x.2.2.2.2.2.2.2.1 x.2.2.2.2.2.2.2.2.1 x.2.2.2.2.2.2.2.2.2.1 x.2.2.2.2.2.2.2.2.2.2.1 x.2.2.2.2.2.2.2.2.2.2.2.1 x.2.2.2.2.2.2.2.2.2.2.2.2.1 x.2.2.2.2.2.2.2.2.2.2.2.2.2.1 x.2.2.2.2.2.2.2.2.2.2.2.2.2.2.1 x.2.2.2.2.2.2.2.2.2.2.2.2.2.2.2.1 x.2.2.2.2.2.2.2.2.2.2.2.2.2.2.2.2.1 x.2.2.2.2.2.2.2.2.2.2.2.2.2.2.2.2.2.1 x.2.2.2.2.2.2.2.2.2.2.2.2.2.2.2.2.2.2.1 x.2.2.2.2.2.2.2.2.2.2.2.2.2.2.2.2.2.2.2.1 x.2.2.2.2.2.2.2.2.2.2.2.2.2.2.2.2.2.2.2.2.1 x.2.2.2.2.2.2.2.2.2.2.2.2.2.2.2.2.2.2.2.2.2.1 x.2.2.2.2.2.2.2.2.2.2.2.2.2.2.2.2.2.2.2.2.2.2.1 x.2.2.2.2.2.2.2.2.2.2.2.2.2.2.2.2.2.2.2.2.2.2.2.1 x.2.2.2.2.2.2.2.2.2.2.2.2.2.2.2.2.2.2.2.2.2.2.2.2.1 x.2.2.2.2.2.2.2.2.2.2.2.2.2.2.2.2.2.2.2.2.2.2.2.2.2.1 x.2.2.2.2.2.2.2.2.2.2.2.2.2.2.2.2.2.2.2.2.2.2.2.2.2.2 := eps_all ne2 (fun x => pack2.1 x.1 x.2.1 x.2.2.1 x.2.2.2.1 x.2.2.2.2.1 x.2.2.2.2.2.1 x.2.2.2.2.2.2.1 x.2.2.2.2.2.2.2.1 x.2.2.2.2.2.2.2.2.1 x.2.2.2.2.2.2.2.2.2.1 x.2.2.2.2.2.2.2.2.2.2.1 x.2.2.2.2.2.2.2.2.2.2.2.1 x.2.2.2.2.2.2.2.2.2.2.2.2.1 x.2.2.2.2.2.2.2.2.2.2.2.2.2.1 x.2.2.2.2.2.2.2.2.2.2.2.2.2.2.1 x.2.2.2.2.2.2.2.2.2.2.2.2.2.2.2.1 x.2.2.2.2.2.2.2.2.2.2.2.2.2.2.2.2.1 x.2.2.2.2.2.2.2.2.2.2.2.2.2.2.2.2.2.1 x.2.2.2.2.2.2.2.2.2.2.2.2.2.2.2.2.2.2.1 x.2.2.2.2.2.2.2.2.2.2.2.2.2.2.2.2.2.2.2.1 x.2.2.2.2.2.2.2.2.2.2.2.2.2.2.2.2.2.2.2.2.1 x.2.2.2.2.2.2.2.2.2.2.2.2.2.2.2.2.2.2.2.2.2.1 x.2.2.2.2.2.2.2.2.2.2.2.2.2.2.2.2.2.2.2.2.2.2.1 x.2.2.2.2.2.2.2.2.2.2.2.2.2.2.2.2.2.2.2.2.2.2.2.1 x.2.2.2.2.2.2.2.2.2.2.2.2.2.2.2.2.2.2.2.2.2.2.2.2.1 x.2.2.2.2.2.2.2.2.2.2.2.2.2.2.2.2.2.2.2.2.2.2.2.2.2.1 x.2.2.2.2.2.2.2.2.2.2.2.2.2.2.2.2.2.2.2.2.2.2.2.2.2.2) (by with_unfolding_all exact pack1_b2) x
end K2
noncomputable def pack1 : PSigma (fun P : (Heap) → (Addr) → (Heap) → (Int) → (Tok) → (Int) → (Tok) → (Nat) → (Heap) → (Addr) → (Shared) → (Obj) → (List Value) → (Nat) → (Tok) → (Addr) → (Heap) → (Heap) → (Heap) → (Heap) → (Nat) → (Nat) → (Obj) → (Shared) → (List (Addr × Obj)) → (Gh) → (Option Value) → (Flow → Shared → Prop) → (Tok) → (Obj) → (List (Str × Value)) → Prop => (∀ x0 x1 x2 x3 x4 x5 x6 x7 x8 x9 x10 x11 x12 x13 x14 x15 x16 x17 x18 x19 x20 x21 x22 x23 x24 x25 x26 x27 x28 x29 x30, P x0 x1 x2 x3 x4 x5 x6 x7 x8 x9 x10 x11 x12 x13 x14 x15 x16 x17 x18 x19 x20 x21 x22 x23 x24 x25 x26 x27 x28 x29 x30) → Stm w F T x key g mk c q' kq f tf d p loose mean mg mb dp un gd cn cs a ccd cl outer A₀ base h₀ L m s Q E) :=
  pack2.2 (fun x0 x1 x2 x3 x4 x5 x6 x7 x8 x9 x10 x11 x12 x13 x14 x15 x16 x17 x18 x19 x20 x21 x22 x23 x24 x25 x26 => K2.all2 (x0, x1, x2, x3, x4, x5, x6, x7, x8, x9, x10, x11, x12, x13, x14, x15, x16, x17, x18, x19, x20, x21, x22, x23, x24, x25, x26))
namespace K1
noncomputable abbrev Dat1 : Type := (Heap) × (Addr) × (Heap) × (Int) × (Tok) × (Int) × (Tok) × (Nat) × (Heap) × (Addr) × (Shared) × (Obj) × (List Value) × (Nat) × (Tok) × (Addr) × (Heap) × (Heap) × (Heap) × (Heap) × (Nat) × (Nat) × (Obj) × (Shared) × (List (Addr × Obj)) × (Gh) × (Option Value) × (Flow → Shared → Prop) × (Tok) × (Obj) × (List (Str × Value))
theorem ne1 : Nonempty Dat1 := ⟨(default, default, default, default, default, default, default, default, default, default, {}, default, default, default, default, default, default, default, default, default, default, default, default, {}, default, ⟨0, 0, 0, fun _ => none, fun _ => .other⟩, default, default, default, default, default)⟩
@[irreducible] noncomputable def pick1 : Dat1 := @Classical.epsilon Dat1 ne1 fun d => ¬ pack1.1 d.1 d.2.1 d.2.2.1 d.2.2.2.1 d.2.2.2.2.1 d.2.2.2.2.2.1 d.2.2.2.2.2.2.1 d.2.2.2.2.2.2.2.1 d.2.2.2.2.2.2.2.2.1 d.2.2.2.2.2.2.2.2.2.1 d.2.2.2.2.2.2.2.2.2.2.1 d.2.2.2.2.2.2.2.2.2.2.2.1 d.2.2.2.2.2.2.2.2.2.2.2.2.1 d.2.2.2.2.2.2.2.2.2.2.2.2.2.1 d.2.2.2.2.2.2.2.2.2.2.2.2.2.2.1 d.2.2.2.2.2.2.2.2.2.2.2.2.2.2.2.1 d.2.2.2.2.2.2.2.2.2.2.2.2.2.2.2.2.1 d.2.2.2.2.2.2.2.2.2.2.2.2.2.2.2.2.2.1 d.2.2.2.2.2.2.2.2.2.2.2.2.2.2.2.2.2.2.1 d.2.2.2.2.2.2.2.2.2.2.2.2.2.2.2.2.2.2.2.1 d.2.2.2.2.2.2.2.2.2.2.2.2.2.2.2.2.2.2.2.2.1 d.2.2.2.2.2.2.2.2.2.2.2.2.2.2.2.2.2.2.2.2.2.1 d.2.2.2.2.2.2.2.2.2.2.2.2.2.2.2.2.2.2.2.2.2.2.1 d.2.2.2.2.2.2.2.2.2.2.2.2.2.2.2.2.2.2.2.2.2.2.2.1 d.2.2.2.2.2.2.2.2.2.2.2.2.2.2.2.2.2.2.2.2.2.2.2.2.1 d.2.2.2.2.2.2.2.2.2.2.2.2.2.2.2.2.2.2.2.2.2.2.2.2.2.1 d.2.2.2.2.2.2.2.2.2.2.2.2.2.2.2.2.2.2.2.2.2.2.2.2.2.2.1 d.2.2.2.2.2.2.2.2.2.2.2.2.2.2.2.2.2.2.2.2.2.2.2.2.2.2.2.1 d.2.2.2.2.2.2.2.2.2.2.2.2.2.2.2.2.2.2.2.2.2.2.2.2.2.2.2.2.1 d.2.2.2.2.2.2.2.2.2.2.2.2.2.2.2.2.2.2.2.2.2.2.2.2.2.2.2.2.2.1 d.2.2.2.2.2.2.2.2.2.2.2.2.2.2.2.2.2.2.2.2.2.2.2.2.2.2.2.2.2.2
@[irreducible] noncomputable def g1 := pick1.1
@[irreducible] noncomputable def L1 := pick1.2.1
@[irreducible] noncomputable def h1 := pick1.2.2.1
@[irreducible] noncomputable def n1 := pick1.2.2.2.1
@[irreducible] noncomputable def t1 := pick1.2.2.2.2.1
@[irreducible] noncomputable def n2 := pick1.2.2.2.2.2.1
noncomputable def pick1r1 := pick1.2.2.2.2.2.2
@[irreducible] noncomputable def t2 := pick1r1.1
@[irreducible] noncomputable def kk := pick1r1.2.1
@[irreducible] noncomputable def z1_1 := pick1r1.2.2.1
@[irreducible] noncomputable def sl := pick1r1.2.2.2.1
@[irreducible] noncomputable def s2 := pick1r1.2.2.2.2.1
@[irreducible] noncomputable def ok := pick1r1.2.2.2.2.2.1
noncomputable def pick1r2 := pick1r1.2.2.2.2.2.2
@[irreducible] noncomputable def ik := pick1r2.1
@[irreducible] noncomputable def nk := pick1r2.2.1
@[irreducible] noncomputable def tks := pick1r2.2.2.1
@[irreducible] noncomputable def z1_2 := pick1r2.2.2.2.1
@[irreducible] noncomputable def z1_3 := pick1r2.2.2.2.2.1
@[irreducible] noncomputable def z1_5 := pick1r2.2.2.2.2.2.1
noncomputable def pick1r3 := pick1r2.2.2.2.2.2.2
@[irreducible] noncomputable def z1_6 := pick1r3.1
@[irreducible] noncomputable def z1_7 := pick1r3.2.1
@[irreducible] noncomputable def tk := pick1r3.2.2.1
@[irreducible] noncomputable def i := pick1r3.2.2.2.1
@[irreducible] noncomputable def oI := pick1r3.2.2.2.2.1
@[irreducible] noncomputable def s3 := pick1r3.2.2.2.2.2.1
noncomputable def pick1r4 := pick1r3.2.2.2.2.2.2
@[irreducible] noncomputable def Ti := pick1r4.1
@[irreducible] noncomputable def gi := pick1r4.2.1
@[irreducible] noncomputable def u1 := pick1r4.2.2.1
@[irreducible] noncomputable def QQo := pick1r4.2.2.2.1
@[irreducible] noncomputable def tki := pick1r4.2.2.2.2.1
@[irreducible] noncomputable def od := pick1r4.2.2.2.2.2.1
noncomputable def pick1r5 := pick1r4.2.2.2.2.2.2
@[irreducible] noncomputable def kvs := pick1r5
theorem go_b1 : pack1.1 g1 L1 h1 n1 t1 n2 t2 kk z1_1 sl s2 ok ik nk tks z1_2 z1_3 z1_5 z1_6 z1_7 tk i oI s3 Ti gi u1 QQo tki od kvs := by
  intro X K hq hc hf hap B FR KX N TP hk hdp hun ret FG B1 X1 T1 xi xd eu e1 K2 ne1 ck dk hik mk1 hap1 hslF hikl hqb z1_4 z1_8 z1_9 hi api Xi hnode hps hoff F3 N3 K3 hlow hQo hlt hv ei etake hmd hdd hval hlen
  refine kf ?_
  k_fill
  intro _
  (repeat' (first | walk_at "u" | ((fail_if_success with_reducible first | show G0 | show G1 | show G2 | show G3 | show G4 | show G5 | show G6); walk1)))
  have lo := Xi.low hnode
  cases hn : gi.node (q'.take i ++ [q'[i]]) with
  | none =>
    refine dict_notIn (b := true) (by assumption) (mct _ (mct _ (List.mem_append_right _ hmd))) hdd lo (by rw [hval, hn]; rfl) ?_
    (repeat' (first | walk_at "u" | ((fail_if_success with_reducible first | show G0 | show G1 | show G2 | show G3 | show G4 | show G5 | show G6); walk1)))
    refine grow_step (pre := _ :: _ :: F) (T := Ti) (by assumption) (by assumption) Xi hnode hn ?_ (by omega) (by assumption) (by assumption) (by assumption) (by assumption) (by assumption) (by assumption) (Obj.SetObjOf.intSetOf (by assumption)) (Obj.SetObjOf.intSetOf (by assumption)) (by rfl) (by rfl) (by rfl) fun T2 g2 s4 K4 F4 N4 X4 A4 node4 hgh => ?_
    · intro p hp r hr
      rcases List.mem_cons.mp hp with rfl | hp
      · exact Ne.symm (hoff r (mct _ (List.mem_append_right _ hr)))
      · exact api p hp r hr
    simp only [List.cons_append] at N4
    obtain ⟨r4, ps4, dx4⟩ := hgh
    have ct := cont_grown node4 r4 (ne_snoc (q'.take i) q'[i])
    obtain ⟨od2, kvs2, hmd2, hdd2, hval2, hlen2⟩ := cont_dict X4 (q'.take i) (fun h => by rw [node4, if_neg (ne_snoc _ _)]; exact hnode h)
    rw [ct] at hmd2
    have hn4 := (node4 (q'.take i ++ [q'[i]])).trans (if_pos rfl)
    obtain ⟨on, kn, hmn, hdn, vfl, vrc, vne⟩ := X4.nd _ _ hn4
    have hct := contAt_some (g := g2) (snoc_ne (q'.take i) q'[i]) hn4
    rw [← etake] at hct
    have up : ∀ {e I}, e ∈ T2 → e ∈ I :: (sl, ok) :: (F ++ T2) := fun h => by walk_at "mem"
    (repeat' (first | walk_at "u" | ((fail_if_success with_reducible first | show G0 | show G1 | show G2 | show G3 | show G4 | show G5 | show G6); walk1)))
    refine dict_item (by assumption) (up hmd2) hdd2 (by rw [hval2, hn4]; rfl) ?_
    (repeat' (first | walk_at "u" | ((fail_if_success with_reducible first | show G0 | show G1 | show G2 | show G3 | show G4 | show G5 | show G6); walk1)))
    refine dict_item (by assumption) (up hmn) hdn vne ?_
    (repeat' (first | walk_at "u" | ((fail_if_success with_reducible first | show G0 | show G1 | show G2 | show G3 | show G4 | show G5 | show G6); walk1)))
    refine hQo .next _ ?_
    show NextHere _ _ _ _ _ _ _
    refine NextHere.intro (by assumption) (by assumption) (W' := (sl, ok) :: (F ++ T2)) (fun p hp => hp) ?_ ⟨hlt, T2, g2, some (.str q'[i] tki), ?_, rfl, A4.mono fun p hp => mct _ hp, X4, ?_, ps4.trans hps⟩ (K3.trans K4)
    · intro p hp
      rcases List.mem_cons.mp hp with rfl | hp
      · exact hoff _ List.mem_cons_self
      · rcases List.mem_append.mp hp with hp | hp
        · exact hoff p (mct _ (List.mem_append_left _ hp))
        · exact Ne.symm (A4 _ List.mem_cons_self p hp)
    · funext y
      by_cases h1 : y = Str.ofString "k"
      · subst h1; rfl
      · by_cases h3 : y = Str.ofString "cont"
        · subst h3
          rw [hct]
          rfl
        · simp only [if_neg h1, if_neg h3]
    · intro _; rw [etake, hn4]; simp
  | some n =>
    refine dict_notIn (b := false) (by assumption) (mct _ (mct _ (List.mem_append_right _ hmd))) hdd lo (by rw [hval, hn]; rfl) ?_
    obtain ⟨on, kn, hmn, hdn, vfl, vrc, vne⟩ := Xi.nd _ _ hn
    have hct := contAt_some (g := gi) (snoc_ne (q'.take i) q'[i]) hn
    rw [← etake] at hct
    have up : ∀ {e I}, e ∈ Ti → e ∈ I :: (sl, ok) :: (F ++ Ti) := fun h => by walk_at "mem"
    (repeat' (first | walk_at "u" | ((fail_if_success with_reducible first | show G0 | show G1 | show G2 | show G3 | show G4 | show G5 | show G6); walk1)))
    refine dict_item (by assumption) (up hmd) hdd (by rw [hval, hn]; rfl) ?_
    (repeat' (first | walk_at "u" | ((fail_if_success with_reducible first | show G0 | show G1 | show G2 | show G3 | show G4 | show G5 | show G6); walk1)))
    refine dict_item (by assumption) (up hmn) hdn vne ?_
    (repeat' (first | walk_at "u" | ((fail_if_success with_reducible first | show G0 | show G1 | show G2 | show G3 | show G4 | show G5 | show G6); walk1)))
    refine hQo .next _ ?_
    show NextHere _ _ _ _ _ _ _
    refine NextHere.intro (by assumption) (by assumption) (W' := (sl, ok) :: (F ++ Ti)) (fun p hp => hp) hoff ⟨hlt, Ti, gi, some (.str q'[i] tki), ?_, rfl, api, ?_, ?_, hps⟩ K3
    · funext y
      by_cases h1 : y = Str.ofString "k"
      · subst h1; rfl
      · by_cases h3 : y = Str.ofString "cont"
        · subst h3
          rw [hct]
          rfl
        · simp only [if_neg h1, if_neg h3]
    · exact Xi.weaken (by omega)
    · intro _; rw [etake, hn]; simp
theorem all1 (x : Dat1) : pack1.1 x.1 x.2.1 x.2.2.1 x.2.2.2.1 x.2.2.2.2.1 x.2.2.2.2.2.1 x.2.2.2.2.2.2.1 x.2.2.2.2.2.2.2.1 x.2.2.2.2.2.2.2.2.1 x.2.2.2.2.2.2.2.2.2.1 x.2.2.2.2.2.2.2.2.2.2.1 x.2.2.2.2.2.2.2.2.2.2.2.1 x.2.2.2.2.2.2.2.2.2.2.2.2.1 x.2.2.2.2.2.2.2.2.2.2.2.2.2.1 x.2.2.2.2.2.2.2.2.2.2.2.2.2.2.1 x.2.2.2.2.2.2.2.2.2.2.2.2.2.2.2.1 x.2.2.2.2.2.2.2.2.2.2.2.2.2.2.2.2.1 x.2.2.2.2.2.2.2.2.2.2.2.2.2.2.2.2.2.1 x.2.2.2.2.2.2.2.2.2.2.2.2.2.2.2.2.2.2.1 x.2.2.2.2.2.2.2.2.2.2.2.2.2.2.2.2.2.2.2.1 x.2.2.2.2.2.2.2.2.2.2.2.2.2.2.2.2.2.2.2.2.1 x.2.2.2.2.2.2.2.2.2.2.2.2.2.2.2.2.2.2.2.2.2.1 x.2.2.2.2.2.2.2.2.2.2.2.2.2.2.2.2.2.2.2.2.2.2.1 x.2.2.2.2.2.2.2.2.2.2.2.2.2.2.2.2.2.2.2.2.2.2.2.1 x.2.2.2.2.2.2.2.2.2.2.2.2.2.2.2.2.2.2.2.2.2.2.2.2.1 x.2.2.2.2.2.2.2.2.2.2.2.2.2.2.2.2.2.2.2.2.2.2.2.2.2.1 x.2.2.2.2.2.2.2.2.2.2.2.2.2.2.2.2.2.2.2.2.2.2.2.2.2.2.1 x.2.2.2.2.2.2.2.2.2.2.2.2.2.2.2.2.2.2.2.2.2.2.2.2.2.2.2.1 x.2.2.2.2.2.2.2.2.2.2.2.2.2.2.2.2.2.2.2.2.2.2.2.2.2.2.2.2.1 x.2.2.2.2.2.2.2.2.2.2.2.2.2.2.2.2.2.2.2.2.2.2.2.2.2.2.2.2.2.1 x.2.2.2.2.2.2.2.2.2.2.2.2.2.2.2.2.2.2.2.2.2.2.2.2.2.2.2.2.2.2 := eps_all ne1 (fun x => pack1.1 x.1 x.2.1 x.2.2.1 x.2.2.2.1 x.2.2.2.2.1 x.2.2.2.2.2.1 x.2.2.2.2.2.2.1 x.2.2.2.2.2.2.2.1 x.2.2.2.2.2.2.2.2.1 x.2.2.2.2.2.2.2.2.2.1 x.2.2.2.2.2.2.2.2.2.2.1 x.2.2.2.2.2.2.2.2.2.2.2.1 x.2.2.2.2.2.2.2.2.2.2.2.2.1 x.2.2.2.2.2.2.2.2.2.2.2.2.2.1 x.2.2.2.2.2.2.2.2.2.2.2.2.2.2.1 x.2.2.2.2.2.2.2.2.2.2.2.2.2.2.2.1 x.2.2.2.2.2.2.2.2.2.2.2.2.2.2.2.2.1 x.2.2.2.2.2.2.2.2.2.2.2.2.2.2.2.2.2.1 x.2.2.2.2.2.2.2.2.2.2.2.2.2.2.2.2.2.2.1 x.2.2.2.2.2.2.2.2.2.2.2.2.2.2.2.2.2.2.2.1 x.2.2.2.2.2.2.2.2.2.2.2.2.2.2.2.2.2.2.2.2.1 x.2.2.2.2.2.2.2.2.2.2.2.2.2.2.2.2.2.2.2.2.2.1 x.2.2.2.2.2.2.2.2.2.2.2.2.2.2.2.2.2.2.2.2.2.2.1 x.2.2.2.2.2.2.2.2.2.2.2.2.2.2.2.2.2.2.2.2.2.2.2.1 x.2.2.2.2.2.2.2.2.2.2.2.2.2.2.2.2.2.2.2.2.2.2.2.2.1 x.2.2.2.2.2.2.2.2.2.2.2.2.2.2.2.2.2.2.2.2.2.2.2.2.2.1 x.2.2.2.2.2.2.2.2.2.2.2.2.2.2.2.2.2.2.2.2.2.2.2.2.2.2.1 x.2.2.2.2.2.2.2.2.2.2.2.2.2.2.2.2.2.2.2.2.2.2.2.2.2.2.2.1 x.2.2.2.2.2.2.2.2.2.2.2.2.2.2.2.2.2.2.2.2.2.2.2.2.2.2.2.2.1 x.2.2.2.2.2.2.2.2.2.2.2.2.2.2.2.2.2.2.2.2.2.2.2.2.2.2.2.2.2.1 x.2.2.2.2.2.2.2.2.2.2.2.2.2.2.2.2.2.2.2.2.2.2.2.2.2.2.2.2.2.2) (by with_unfolding_all exact go_b1) x
end K1
theorem go : Stm w F T x key g mk c q' kq f tf d p loose mean mg mb dp un gd cn cs a ccd cl outer A₀ base h₀ L m s Q E :=
  pack1.2 (fun x0 x1 x2 x3 x4 x5 x6 x7 x8 x9 x10 x11 x12 x13 x14 x15 x16 x17 x18 x19 x20 x21 x22 x23 x24 x25 x26 x27 x28 x29 x30 => K1.all1 (x0, x1, x2, x3, x4, x5, x6, x7, x8, x9, x10, x11, x12, x13, x14, x15, x16, x17, x18, x19, x20, x21, x22, x23, x24, x25, x26, x27, x28, x29, x30))
theorem all (x : Dat) : Stm x.1 x.2.1 x.2.2.1 x.2.2.2.1 x.2.2.2.2.1 x.2.2.2.2.2.1 x.2.2.2.2.2.2.1 x.2.2.2.2.2.2.2.1 x.2.2.2.2.2.2.2.2.1 x.2.2.2.2.2.2.2.2.2.1 x.2.2.2.2.2.2.2.2.2.2.1 x.2.2.2.2.2.2.2.2.2.2.2.1 x.2.2.2.2.2.2.2.2.2.2.2.2.1 x.2.2.2.2.2.2.2.2.2.2.2.2.2.1 x.2.2.2.2.2.2.2.2.2.2.2.2.2.2.1 x.2.2.2.2.2.2.2.2.2.2.2.2.2.2.2.1 x.2.2.2.2.2.2.2.2.2.2.2.2.2.2.2.2.1 x.2.2.2.2.2.2.2.2.2.2.2.2.2.2.2.2.2.1 x.2.2.2.2.2.2.2.2.2.2.2.2.2.2.2.2.2.2.1 x.2.2.2.2.2.2.2.2.2.2.2.2.2.2.2.2.2.2.2.1 x.2.2.2.2.2.2.2.2.2.2.2.2.2.2.2.2.2.2.2.2.1 x.2.2.2.2.2.2.2.2.2.2.2.2.2.2.2.2.2.2.2.2.2.1 x.2.2.2.2.2.2.2.2.2.2.2.2.2.2.2.2.2.2.2.2.2.2.1 x.2.2.2.2.2.2.2.2.2.2.2.2.2.2.2.2.2.2.2.2.2.2.2.1 x.2.2.2.2.2.2.2.2.2.2.2.2.2.2.2.2.2.2.2.2.2.2.2.2.1 x.2.2.2.2.2.2.2.2.2.2.2.2.2.2.2.2.2.2.2.2.2.2.2.2.2.1 x.2.2.2.2.2.2.2.2.2.2.2.2.2.2.2.2.2.2.2.2.2.2.2.2.2.2.1 x.2.2.2.2.2.2.2.2.2.2.2.2.2.2.2.2.2.2.2.2.2.2.2.2.2.2.2.1 x.2.2.2.2.2.2.2.2.2.2.2.2.2.2.2.2.2.2.2.2.2.2.2.2.2.2.2.2.1 x.2.2.2.2.2.2.2.2.2.2.2.2.2.2.2.2.2.2.2.2.2.2.2.2.2.2.2.2.2.1 x.2.2.2.2.2.2.2.2.2.2.2.2.2.2.2.2.2.2.2.2.2.2.2.2.2.2.2.2.2.2.1 x.2.2.2.2.2.2.2.2.2.2.2.2.2.2.2.2.2.2.2.2.2.2.2.2.2.2.2.2.2.2.2.1 x.2.2.2.2.2.2.2.2.2.2.2.2.2.2.2.2.2.2.2.2.2.2.2.2.2.2.2.2.2.2.2.2.1 x.2.2.2.2.2.2.2.2.2.2.2.2.2.2.2.2.2.2.2.2.2.2.2.2.2.2.2.2.2.2.2.2.2.1 x.2.2.2.2.2.2.2.2.2.2.2.2.2.2.2.2.2.2.2.2.2.2.2.2.2.2.2.2.2.2.2.2.2.2 := eps_all ne (fun x => Stm x.1 x.2.1 x.2.2.1 x.2.2.2.1 x.2.2.2.2.1 x.2.2.2.2.2.1 x.2.2.2.2.2.2.1 x.2.2.2.2.2.2.2.1 x.2.2.2.2.2.2.2.2.1 x.2.2.2.2.2.2.2.2.2.1 x.2.2.2.2.2.2.2.2.2.2.1 x.2.2.2.2.2.2.2.2.2.2.2.1 x.2.2.2.2.2.2.2.2.2.2.2.2.1 x.2.2.2.2.2.2.2.2.2.2.2.2.2.1 x.2.2.2.2.2.2.2.2.2.2.2.2.2.2.1 x.2.2.2.2.2.2.2.2.2.2.2.2.2.2.2.1 x.2.2.2.2.2.2.2.2.2.2.2.2.2.2.2.2.1 x.2.2.2.2.2.2.2.2.2.2.2.2.2.2.2.2.2.1 x.2.2.2.2.2.2.2.2.2.2.2.2.2.2.2.2.2.2.1 x.2.2.2.2.2.2.2.2.2.2.2.2.2.2.2.2.2.2.2.1 x.2.2.2.2.2.2.2.2.2.2.2.2.2.2.2.2.2.2.2.2.1 x.2.2.2.2.2.2.2.2.2.2.2.2.2.2.2.2.2.2.2.2.2.1 x.2.2.2.2.2.2.2.2.2.2.2.2.2.2.2.2.2.2.2.2.2.2.1 x.2.2.2.2.2.2.2.2.2.2.2.2.2.2.2.2.2.2.2.2.2.2.2.1 x.2.2.2.2.2.2.2.2.2.2.2.2.2.2.2.2.2.2.2.2.2.2.2.2.1 x.2.2.2.2.2.2.2.2.2.2.2.2.2.2.2.2.2.2.2.2.2.2.2.2.2.1 x.2.2.2.2.2.2.2.2.2.2.2.2.2.2.2.2.2.2.2.2.2.2.2.2.2.2.1 x.2.2.2.2.2.2.2.2.2.2.2.2.2.2.2.2.2.2.2.2.2.2.2.2.2.2.2.1 x.2.2.2.2.2.2.2.2.2.2.2.2.2.2.2.2.2.2.2.2.2.2.2.2.2.2.2.2.1 x.2.2.2.2.2.2.2.2.2.2.2.2.2.2.2.2.2.2.2.2.2.2.2.2.2.2.2.2.2.1 x.2.2.2.2.2.2.2.2.2.2.2.2.2.2.2.2.2.2.2.2.2.2.2.2.2.2.2.2.2.2.1 x.2.2.2.2.2.2.2.2.2.2.2.2.2.2.2.2.2.2.2.2.2.2.2.2.2.2.2.2.2.2.2.1 x.2.2.2.2.2.2.2.2.2.2.2.2.2.2.2.2.2.2.2.2.2.2.2.2.2.2.2.2.2.2.2.2.1 x.2.2.2.2.2.2.2.2.2.2.2.2.2.2.2.2.2.2.2.2.2.2.2.2.2.2.2.2.2.2.2.2.2.1 x.2.2.2.2.2.2.2.2.2.2.2.2.2.2.2.2.2.2.2.2.2.2.2.2.2.2.2.2.2.2.2.2.2.2) (by with_unfolding_all exact go) x
end E_setsn_meets_core
theorem setsn_meets_core {w : World} {F : Led} {T : Led} {x : Addr} {key : Addr} {g : Gh} {mk : Marks} {c : Nat} {q' : List Str} {kq : Str} {f : Int} {tf : Tok} {d : Bool} {p : PySem.Program} {loose : List Str} {mean : ExcName → Option Value} {mg : Str → Option Value} {mb : Str → Option Value} {dp : Nat} {un : Nat} {gd : Option (List Code)} {cn : Str} {cs : Scope} {a : Addr} {ccd : Value} {cl : List (Str × Addr)} {outer : List Env} {A₀ : Around} {base : Heap} {h₀ : Heap} {L : Addr} {m : Str → Option Value} {s : Shared} {Q : Value → Shared → Prop} {E : Value → Shared → Prop}  (X : FlagsIn w T x g mk c) (K : WayIn w (F ++ T) key (q' ++ [kq])) (hq : (q' ++ [kq]).length < 1000) (hc : c < 5000000) (hf : f = 0 ∨ f = 1) (hap : Apart F T) (B : Below A₀ base outer h₀) (FR : Fr h₀ L s.heap m) (KX : (hd.heap_39 w.params).In h₀) (N : News h₀ L s.heap (F ++ T)) (TP : Top p loose mean mg mb h₀) (hk : cs.kind = .function) (hdp : dp + 5 < recursionLimit) (hun : un + 50 < cLine) (ret : ∀ (r : Value) (s' : Shared) (W' : Led), Kin s s' → Fr h₀ L s'.heap m → News h₀ L s'.heap W' → ((fun r W' => r = .none ∧ ∃ T' g', W' = F ++ T' ∧ Apart F T' ∧ FlagsIn w T' x g' (setMk mk (q' ++ [kq]) d f) (c + (q' ++ [kq]).length) ∧ g'.ps = g.ps)) r W' → Q r s') : wpAny (model PP w) (ktrTop dp un gd cn cs L a ccd cl outer) (PySem.call (.ref 56) [.ref x, .ref key, .int f tf] [(Str.ofString "recursive", .bool d)]) Q E s :=
  E_setsn_meets_core.all (w, F, T, x, key, g, mk, c, q', kq, f, tf, d, p, loose, mean, mg, mb, dp, un, gd, cn, cs, a, ccd, cl, outer, A₀, base, h₀, L, m, s, Q, E) X K hq hc hf hap B FR KX N TP hk hdp hun ret
theorem setsn_meets {w : World} {F T : Led} {x key : Addr} {g : Gh} {mk : Marks} {c : Nat} {q' : List Str} {kq : Str} {f : Int} {tf : Tok} {d : Bool}
    (X : FlagsIn w T x g mk c) (K : WayIn w (F ++ T) key (q' ++ [kq])) (hq : (q' ++ [kq]).length < 1000) (hc : c < 5000000) (hf : f = 0 ∨ f = 1) (hap : Apart F T) :
    Meets w 56 [.ref x, .ref key, .int f tf] [(Str.ofString "recursive", .bool d)] (F ++ T) 5 50 (fun r W' => r = .none ∧ ∃ T' g', W' = F ++ T' ∧ Apart F T' ∧ FlagsIn w T' x g' (setMk mk (q' ++ [kq]) d f) (c + (q' ++ [kq]).length) ∧ g'.ps = g.ps) :=
  fun p loose mean mg mb dp un gd cn cs a ccd cl outer A₀ base h₀ L m s Q E B FR KX N TP hk hdp hun ret => setsn_meets_core (w := w) (F := F) (T := T) (x := x) (key := key) (g := g) (mk := mk) (c := c) (q' := q') (kq := kq) (f := f) (tf := tf) (d := d) X K hq hc hf hap B FR KX N TP hk hdp hun ret
theorem set_meets {w : World} {F T : Led} {x key : Addr} {g : Gh} {mk : Marks} {c : Nat} {q : List Str} {f : Int} {tf : Tok} {d : Bool}
    (X : FlagsIn w T x g mk c) (K : WayIn w (F ++ T) key q) (hq : q.length < 1000) (hc : c < 5000000) (hq0 : q ≠ []) (hf : f = 0 ∨ f = 1) (hap : Apart F T) :
    Meets w 56 [.ref x, .ref key, .int f tf] [(Str.ofString "recursive", .bool d)] (F ++ T) 5 50
      (fun r W' => r = .none ∧ ∃ T' g', W' = F ++ T' ∧ Apart F T' ∧ FlagsIn w T' x g' (setMk mk q d f) (c + q.length) ∧ g'.ps = g.ps) := by
  obtain ⟨q', kq, rfl⟩ : ∃ q' kq, q = q' ++ [kq] := ⟨_, _, (List.dropLast_concat_getLast hq0).symm⟩
  exact setsn_meets X K hq hc hf hap
end

section
open PySem PySem.W PyProof.Rows
local macro_rules | `(tactic| walk_at "exec For Name Subscript cons nil") => `(tactic| (k_here; refine For_led (by assumption) ?_))
local macro_rules | `(tactic| walk_at "exec For Name Name cons nil") => `(tactic| (k_here; refine For_led (by assumption) ?_))
theorem unset_meets {w : World} {F T : Led} {x key : Addr} {g : Gh} {mk : Marks} {c : Nat} {q : List Str}
    (X : FlagsIn w T x g mk c) (K : WayIn w (F ++ T) key q) (hq : q.length < 1000) (hc : c < 5000000) (hq0 : q ≠ []) (hap : Apart F T) :
    Meets w 49 [.ref x, .ref key] [] (F ++ T) 5 50
      (fun r W' => r = .none ∧ ∃ T' g', W' = F ++ T' ∧ Apart F T' ∧ FlagsIn w T' x g' (cutMk mk q) c ∧ g'.ps = g.ps) := by
  intro p loose mean mg mb dp un gd cn cs a ccd cl outer A₀ base h₀ L m s Q E B FR KX N TP hk hdp hun ret
  refine kf ?_
  k_fill
  intro _
  refine wpAny_call ?_
  k_dflt ktr_enter
  rename_i g1 L1 h1 FG F1 N1 B1 X1 T1
  replace F1 : Fr g1 L1 h1 (fun y => List.lookup y [(Str.ofString "key", .ref key), (Str.ofString "self", .ref x)]) := F1
  refine wpAny_noRaise ?_
  have xi := X.inst
  obtain ⟨n1, t1, n2, t2, kk, xd⟩ := X.idict
  replace xi : (x, instObj 66 g.dx) ∈ F ++ T := List.mem_append_right _ xi
  replace xd := List.mem_append_right F xd
  (repeat' (first | walk_at "u" | ((fail_if_success with_reducible first | show G0 | show G1 | show G2 | show G3 | show G4 | show G5 | show G6 | show G7); walk1)))
  obtain ⟨q', kq, rfl⟩ : ∃ q' kq, q = q' ++ [kq] := ⟨_, _, (List.dropLast_concat_getLast hq0).symm⟩
  have eu : upto (-1) (q' ++ [kq]).length = q'.length := by unfold upto; simp
  have e1 : (q' ++ [kq]).take (upto (-1) (q' ++ [kq]).length) = q' := by
    rw [eu]; simp
  refine slice_way (by assumption) (by assumption) K (by lia) fun sl osl s2 K2 F2 N2 KW ne1 => ?_
  rw [e1] at KW
  replace ne1 := ne1 (by rw [eu]; simp)
  obtain ⟨ok, ik, nk, mk1, ck, dk, hik⟩ := KW
  have hap1 : Apart ((sl, osl) :: F) T := fun p hp r hr => by
    rcases List.mem_cons.mp hp with rfl | hp
    · exact Nat.ne_of_gt (ne1 _ (List.mem_append_right _ hr))
    · exact hap p hp r hr
  have hikl := hik.length
  have hqb : q'.length < 999 := by simp at hq; lia
  refine iter_tuple (by rfl) F2 N2 mk1 ck dk (fun i m' W' => W' = (sl, osl) :: (F ++ T) ∧ i ≤ q'.length ∧ (∃ u1, m' = fun y => if y = Str.ofString "k" then u1 else if y = Str.ofString "cont" then some (.ref (contAt g (q'.take i))) else List.lookup y [(Str.ofString "key", .ref key), (Str.ofString "self", .ref x)]) ∧
    (q'.take i ≠ [] → g.node (q'.take i) ≠ none)) ⟨rfl, Nat.zero_le _, ⟨none, ?_⟩, fun h => absurd rfl h⟩ (fun i m' W' h => by rw [h.1]; exact mk1) ?_ ?_
  · funext y
    by_cases h1 : y = Str.ofString "k"
    · subst h1; rfl
    · simp only [if_neg h1]; rfl
  · rintro i v m' W' oI s3 hv ⟨rfl, hi, ⟨u1, rfl⟩, hnode⟩ hoff F3 N3 K3 hlow QQo hQo
    have hlt : i < q'.length := by
      have := (List.getElem?_eq_some_iff.mp hv).1
      omega
    obtain ⟨tki, ei⟩ := ItemsAre.get hik i q'[i] (List.getElem?_eq_getElem hlt)
    rw [hv] at ei
    obtain rfl : v = .str q'[i] tki := Option.some.inj ei
    have etake : q'.take (i + 1) = q'.take i ++ [q'[i]] := by rw [List.take_add_one, List.getElem?_eq_getElem hlt]; rfl
    obtain ⟨od, kvs, hmd, hdd, hval, hlen⟩ := cont_dict X (q'.take i) hnode
    (repeat' (first | walk_at "u" | ((fail_if_success with_reducible first | show G0 | show G1 | show G2 | show G3 | show G4 | show G5 | show G6 | show G7); walk1)))
    have lo := X.low hnode
    have up : ∀ {e I}, e ∈ T → e ∈ I :: (sl, osl) :: (F ++ T) := fun h => by walk_at "mem"
    cases hn : g.node (q'.take i ++ [q'[i]]) with
    | none =>
      refine dict_notIn (b := true) (by assumption) (up hmd) hdd lo (by rw [hval, hn]; rfl) ?_
      (repeat' (first | walk_at "u" | ((fail_if_success with_reducible first | show G0 | show G1 | show G2 | show G3 | show G4 | show G5 | show G6 | show G7); walk1)))
      refine hQo (.ret _) _ ?_
      (repeat' (first | walk_at "u" | ((fail_if_success with_reducible first | show G0 | show G1 | show G2 | show G3 | show G4 | show G5 | show G6 | show G7); walk1)))
      refine ret _ _ _ (K2.trans K3) (by assumption) (news_drop (W' := F ++ T) (by assumption) ?_) ⟨rfl, T, g, rfl, hap, ?_, rfl⟩
      · intro p hp; walk_at "mem"
      · rw [cutMk_none X (snoc_ne _ _) hn]
        · exact X
        · rw [← etake, List.length_take, List.take_append_of_le_length (by omega)]
          congr 1; omega
    | some n =>
      refine dict_notIn (b := false) (by assumption) (up hmd) hdd lo (by rw [hval, hn]; rfl) ?_
      obtain ⟨on, kn, hmn, hdn, vfl, vrc, vne⟩ := X.nd _ n hn
      (repeat' (first | walk_at "u" | ((fail_if_success with_reducible first | show G0 | show G1 | show G2 | show G3 | show G4 | show G5 | show G6 | show G7); walk1)))
      refine dict_item (by assumption) (up hmd) hdd (by rw [hval, hn]; rfl) ?_
      (repeat' (first | walk_at "u" | ((fail_if_success with_reducible first | show G0 | show G1 | show G2 | show G3 | show G4 | show G5 | show G6 | show G7); walk1)))
      refine dict_item (by assumption) (up hmn) hdn vne ?_
      (repeat' (first | walk_at "u" | ((fail_if_success with_reducible first | show G0 | show G1 | show G2 | show G3 | show G4 | show G5 | show G6 | show G7); walk1)))
      refine hQo .next _ ?_
      show NextHere _ _ _ _ _ _ _
      refine NextHere.intro (by assumption) (by assumption) (W' := (sl, osl) :: (F ++ T)) (fun p hp => hp) hoff ⟨rfl, hlt, ⟨some (.str q'[i] tki), ?_⟩, ?_⟩ K3
      · funext y
        by_cases h1 : y = Str.ofString "k"
        · subst h1; rfl
        · by_cases h3 : y = Str.ofString "cont"
          · subst h3
            have hct : contAt g (q'.take (i + 1)) = n.ne := by rw [etake]; exact contAt_some (snoc_ne _ _) hn
            rw [hct]
            rfl
          · simp only [if_neg h1, if_neg h3]
      · intro _; rw [etake, hn]; simp
  · rintro m' W' s3 ⟨rfl, hi, ⟨u1, rfl⟩, hnode⟩ F3 N3 K3
    rw [hikl.symm, List.take_length] at hnode
    simp only [hikl.symm, List.take_length] at F3
    obtain ⟨od, kvs, hmd, hdd, hval, hlen⟩ := cont_dict X q' hnode
    have up : ∀ {e}, e ∈ T → e ∈ (sl, osl) :: (F ++ T) := fun h => by walk_at "mem"
    (repeat' (first | walk_at "u" | ((fail_if_success with_reducible first | show G0 | show G1 | show G2 | show G3 | show G4 | show G5 | show G6 | show G7); walk1)))
    refine meth_pop (by assumption) (up hmd) hdd ?_
    (repeat' (first | walk_at "u" | ((fail_if_success with_reducible first | show G0 | show G1 | show G2 | show G3 | show G4 | show G5 | show G6 | show G7); walk1)))
    refine item_way_last (by assumption) (K.mono fun p hp => mct _ hp) (by simp at hq; omega) fun tks => ?_
    (repeat' (first | walk_at "u" | ((fail_if_success with_reducible first | show G0 | show G1 | show G2 | show G3 | show G4 | show G5 | show G6 | show G7); walk1)))
    refine pop_step (pre := _ :: F) (by assumption) (by assumption) X hnode hap1 (by omega) fun T5 g5 r5 s5 K5 F5 N5 X5 A5 ps5 => ?_
    simp only [List.cons_append] at N5
    (repeat' (first | walk_at "u" | ((fail_if_success with_reducible first | show G0 | show G1 | show G2 | show G3 | show G4 | show G5 | show G6 | show G7); walk1)))
    refine ret _ _ _ (K2.trans (K3.trans K5)) (by assumption) (news_drop (W := (sl, osl) :: (F ++ T5)) (by assumption) (fun p hp => mct _ hp)) ⟨rfl, T5, g5, rfl, A5.mono fun p hp => mct _ hp, X5, ps5⟩
end

section
open PySem PySem.SeqAt PyProof.Rows PySem.W
theorem WayIn.keep {w : World} {W W' : Led} {a : Addr} {p : List Str} (h : WayIn w W a p) (hs : ∀ e ∈ W, e.2.cls = .type "tuple" → e ∈ W') : WayIn w W' a p := by obtain ⟨o, its, n, hm, hc, r⟩ := h; exact ⟨o, its, n, hs _ hm hc, hc, r⟩
theorem PairIn.keep {w : World} {W W' : Led} {a : Addr} {k : List Str × Int} (h : PairIn w W a k) (hs : ∀ e ∈ W, e.2.cls = .type "tuple" → e ∈ W') : PairIn w W' a k := by obtain ⟨o, b, t, n, hm, c, d, e⟩ := h; exact ⟨o, b, t, n, hs _ hm c, c, d, e.keep hs⟩
theorem itemsAre_inj {w : World} {p p' : List Str} {its : List Value} (h : ItemsAre (SK w) p its) (h' : ItemsAre (SK w) p' its) : p = p' := by
  induction h generalizing p' with
  | nil => cases h'; rfl
  | @cons k v ks vs h1 _ ih =>
    cases h' with
    | @cons k2 _ _ _ h2 h3 =>
      have e := KeyKind.is_eq_decide h1 k2
      rw [h2] at e
      rw [ih h3, of_decide_eq_true e.symm]
theorem way_inj {w : World} {h : Heap} {a : Addr} {p p' : List Str} (x : Way PP w h p a) (y : Way PP w h p' a) : p = p' := by
  obtain ⟨o, its, n, ho, hc, hd, hi⟩ := x
  obtain ⟨o2, its2, n2, ho2, hc2, hd2, hi2⟩ := y
  rw [ho] at ho2
  obtain rfl := Option.some.inj ho2
  rw [hd] at hd2
  obtain ⟨rfl, rfl⟩ := Data.seq.inj hd2
  exact itemsAre_inj hi hi2
theorem pair_inj {w : World} {h : Heap} {a : Addr} {k k' : List Str × Int} (x : PairAt PP w h k a) (y : PairAt PP w h k' a) : k = k' := by
  obtain ⟨b, t, ⟨o, ho, hc, n, hd⟩, hw⟩ := x
  obtain ⟨b2, t2, ⟨o2, ho2, hc2, n2, hd2⟩, hw2⟩ := y
  rw [ho] at ho2
  obtain rfl := Option.some.inj ho2
  rw [hd] at hd2
  obtain ⟨e, rfl⟩ := Data.seq.inj hd2
  have e1 := congrArg Array.toList e
  simp at e1
  obtain ⟨e2, e3, e4⟩ := e1
  subst e2
  exact Prod.ext (way_inj hw hw2) e3
theorem news_fun {h₀ h : Heap} {L : Addr} {W : Led} (N : News h₀ L h W) {a : Addr} {o o' : Obj} (h1 : (a, o) ∈ W) (h2 : (a, o') ∈ W) : o = o' :=
  Option.some.inj ((N _ h1).1.symm.trans (N _ h2).1)
section
variable {w : World} {A : Around} {E : Value → Shared → Prop} {s : Shared} {h₀ : Heap} {L : Addr} {m : Str → Option Value} {V F Tp : Led} {ps : Addr} {P : List Str × Int → Prop} {np : Nat}
theorem pend_add {key b : Addr} {ob : Obj} {q : List Str} {f : Int} {tf : Tok} {n : Nat} {Q : Value → Shared → Prop} (hu : A.units + 3 < cLine)
    (Fr1 : Fr h₀ L s.heap m) (N : News h₀ L s.heap ((b, ob) :: (V ++ Tp))) (PI : PendIn w F Tp ps P np) (hFV : ∀ e ∈ F, e ∈ V) (hap : Apart V Tp) (K : WayIn w F key q) (hq0 : q ≠ []) (hn : np < 70)
    (hc : ob.cls = .type "tuple") (hd : ob.data = .seq #[.ref key, .int f tf] n) (hb : AllLt b (V ++ Tp))
    (h : ∀ Tp' s', Kin s s' → Fr h₀ L s'.heap m → News h₀ L s'.heap (V ++ Tp') → PendIn w F Tp' ps (fun k => P k ∨ k = (q, f)) (np + 1) → Apart V Tp' → Q .none s') :
    wpAny (model PP w) A (call (.builtin "set.add") [.ref ps, .ref b]) Q E s := by
  obtain ⟨o, vals, hm, hO, hlen, hin, hout⟩ := PI
  have hb' := allLt_mem hb
  have N2 : News h₀ L s.heap (F ++ Tp) := news_drop N fun e he => by
    rcases List.mem_append.mp he with he | he
    · exact mct _ (List.mem_append_left _ (hFV e he))
    · exact mct _ (List.mem_append_right _ he)
  have PB : PairIn w ((b, ob) :: F) b (q, f) := ⟨ob, key, tf, n, List.mem_cons_self, hc, hd, K.mono fun e he => mct _ he⟩
  have hmN : (ps, o) ∈ (b, ob) :: (V ++ Tp) := mct _ (List.mem_append_right _ hm)
  refine call_set_add_pair (prog := PP) hu (N _ hmN).1 hO (k := (q, f)) (PB.at (news_drop N fun e he => ?_)) hq0 (fun v hv => ?_) (by lia) fun h' tk o' vals' hs ho' hO' hor => ?_
  · rcases List.mem_cons.mp he with rfl | he
    · exact List.mem_cons_self
    · exact mct _ (List.mem_append_left _ (hFV e he))
  · obtain ⟨b1, k1, rfl, h1, _⟩ := hin v hv
    exact ⟨b1, k1, rfl, h1.at N2⟩
  have hpb : ps ≠ b := Nat.ne_of_lt (hb' _ (List.mem_append_right _ hm))
  have keep : ∀ e ∈ F ++ Tp, e.2.cls = .type "tuple" → e ∈ F ++ ((b, ob) :: upd ps o' Tp) := fun e he hce => by
    rcases List.mem_append.mp he with he | he
    · exact List.mem_append_left _ he
    · refine List.mem_append_right _ (mct _ (mem_upd (a := e.1) (o := e.2) he ?_))
      intro e1
      have := news_fun N (mct _ (List.mem_append_right _ he)) (e1 ▸ hmN)
      rw [this, hO.1.1] at hce
      exact absurd hce (by decide)
  have keepb : ∀ e ∈ (b, ob) :: F, e ∈ F ++ ((b, ob) :: upd ps o' Tp) := fun e he => by
    rcases List.mem_cons.mp he with rfl | he
    · exact List.mem_append_right _ List.mem_cons_self
    · exact List.mem_append_left _ he
  refine h ((b, ob) :: upd ps o' Tp) _ ⟨rfl, rfl⟩ (Fr1.change hs (N _ hmN).2.1 (N _ hmN).2.2) ?_ ⟨o', vals', mct _ (mem_upd_self hm), hO', ?_, ?_, ?_⟩ ?_
  · have N3 := news_upd (pre := (b, ob) :: V) (T := Tp) N hs ho' (fun e he => by
      rcases List.mem_cons.mp he with rfl | he
      · exact Ne.symm hpb
      · exact hap e he _ hm)
    refine news_drop N3 fun e he => ?_
    refine sub_go he ?_
    walk_at "sub"
  · rcases hor with hp | ⟨rfl, _⟩
    · rw [hp.length_eq]; simp; omega
    · lia
  · intro v hv
    have old : v ∈ vals → ∃ b_1 k, v = Value.ref b_1 ∧ PairIn w (F ++ (b, ob) :: upd ps o' Tp) b_1 k ∧ k.1 ≠ [] ∧ (P k ∨ k = (q, f)) := fun hv => by
      obtain ⟨b1, k1, rfl, h1, h2, h3⟩ := hin v hv
      exact ⟨b1, k1, rfl, h1.keep keep, h2, .inl h3⟩
    rcases hor with hp | ⟨rfl, _⟩
    · rcases List.mem_cons.mp (hp.mem_iff.mp hv) with rfl | hv
      · exact ⟨b, (q, f), rfl, PB.mono keepb, hq0, .inr rfl⟩
      · exact old hv
    · exact old hv
  · rintro k (hk | rfl)
    · obtain ⟨b1, h1, h2⟩ := hout k hk
      refine ⟨b1, ?_, h2.keep keep⟩
      rcases hor with hp | ⟨rfl, _⟩
      · exact hp.mem_iff.mpr (mct _ h1)
      · exact h1
    · rcases hor with hp | ⟨rfl, b1, h1, h2⟩
      · exact ⟨b, hp.mem_iff.mpr List.mem_cons_self, PB.mono keepb⟩
      · obtain ⟨b2, k2, e, h3, _⟩ := hin _ h1
        obtain rfl := Value.ref.inj e
        have := pair_inj h2 (h3.at N2)
        exact ⟨b1, h1, this ▸ h3.keep keep⟩
  · intro e he r hr
    rcases List.mem_cons.mp hr with rfl | hr
    · exact Nat.ne_of_lt (hb' _ (List.mem_append_left _ he))
    · exact hap.upd ⟨_, hm⟩ e he r hr
theorem meth_padd {W : Led} {o : Obj} {vals : List Value} {pl : Sem Bool} {Q : Value × List Value → Shared → Prop} (N : News h₀ L s.heap W) (hm : (ps, o) ∈ W) (hO : ObjPend w o vals) (h : Q (.builtin "set.add", [.ref ps]) s) :
    wpAny (model PP w) A (getMethod (.ref ps) "add" pl) Q E s := getMethod_set (N _ hm).1 hO.1 h
theorem meth_pclear {W : Led} {o : Obj} {vals : List Value} {pl : Sem Bool} {Q : Value × List Value → Shared → Prop} (N : News h₀ L s.heap W) (hm : (ps, o) ∈ W) (hO : ObjPend w o vals) (h : Q (.builtin "set.clear", [.ref ps]) s) :
    wpAny (model PP w) A (getMethod (.ref ps) "clear" pl) Q E s := getMethod_set_clear (N _ hm).1 hO.1 h
theorem pend_clear {Q : Value → Shared → Prop} (Fr1 : Fr h₀ L s.heap m) (N : News h₀ L s.heap (V ++ Tp)) (PI : PendIn w F Tp ps P np) (hap : Apart V Tp)
    (h : ∀ Tp' s', Kin s s' → Fr h₀ L s'.heap m → News h₀ L s'.heap (V ++ Tp') → PendIn w F Tp' ps (fun _ => False) 0 → Apart V Tp' → Q .none s') :
    wpAny (model PP w) A (call (.builtin "set.clear") [.ref ps]) Q E s := by
  obtain ⟨o, vals, hm, hO, hlen, hin, hout⟩ := PI
  have hmN : (ps, o) ∈ V ++ Tp := List.mem_append_right _ hm
  refine call_set_clear (prog := PP) (N _ hmN).1 hO fun h' o' hs ho' hO' => ?_
  refine h (upd ps o' Tp) _ ⟨rfl, rfl⟩ (Fr1.change hs (N _ hmN).2.1 (N _ hmN).2.2) (news_upd N hs ho' fun e he => hap e he _ hm) ⟨o', [], mem_upd_self hm, hO', Nat.le_refl _, by simp, by simp⟩ (hap.upd ⟨_, hm⟩)
end
end

section
open PySem PySem.W PyProof.Rows
theorem pend_meets {w : World} {V F T Tp : Led} {x key : Addr} {g : Gh} {mk : Marks} {c np : Nat} {q : List Str} {f : Int} {tf : Tok} {P : List Str × Int → Prop}
    (X : FlagsIn w T x g mk c) (hTV : ∀ e ∈ T, e ∈ V) (PI : PendIn w F Tp g.ps P np) (hFV : ∀ e ∈ F, e ∈ V) (K : WayIn w F key q) (hq0 : q ≠ []) (hap : Apart V Tp) (hn : np < 70) :
    Meets w 35 [.ref x, .ref key, .int f tf] [] (V ++ Tp) 5 50
      (fun r W' => r = .none ∧ ∃ Tp', W' = V ++ Tp' ∧ Apart V Tp' ∧ PendIn w F Tp' g.ps (fun k => P k ∨ k = (q, f)) (np + 1)) := by
  intro p loose mean mg mb dp un gd cn cs a ccd cl outer A₀ base h₀ L m s Q E B FR KX N TP hk hdp hun ret
  refine kf ?_
  k_fill
  intro _
  refine wpAny_call ?_
  k_dflt ktr_enter
  rename_i g1 L1 h1 FG F1 N1 B1 X1 T1
  replace F1 : Fr g1 L1 h1 (fun y => List.lookup y [(Str.ofString "flag", .int f tf), (Str.ofString "key", .ref key), (Str.ofString "self", .ref x)]) := F1
  refine wpAny_noRaise ?_
  have xi := X.inst
  obtain ⟨n1, t1, n2, t2, kk, xd⟩ := X.idict
  replace xi : (x, instObj 66 g.dx) ∈ V ++ Tp := List.mem_append_left _ (hTV _ xi)
  replace xd := List.mem_append_left Tp (hTV _ xd)
  have hpm : ∃ o vals, (g.ps, o) ∈ Tp ∧ ObjPend w o vals := by obtain ⟨o, vals, a, b, _⟩ := PI; exact ⟨o, vals, a, b⟩
  obtain ⟨po, pv, hpm, hpo⟩ := hpm
  (repeat' (first | walk_at "u" | ((fail_if_success with_reducible first | show G0 | show G1 | show G2 | show G3 | show G4 | show G5 | show G6 | show G7); walk1)))
  refine meth_padd (by assumption) (List.mem_append_right _ hpm) hpo ?_
  (repeat' (first | walk_at "u" | ((fail_if_success with_reducible first | show G0 | show G1 | show G2 | show G3 | show G4 | show G5 | show G6 | show G7); walk1)))
  refine pend_add (V := V) (Tp := Tp) (by show un + 3 + 3 < cLine; lia) (by assumption) (by assumption) PI hFV hap K hq0 hn rfl rfl (allLt_of (by assumption)) fun Tp' s' K5 F5 N5 P5 A5 => ?_
  (repeat' (first | walk_at "u" | ((fail_if_success with_reducible first | show G0 | show G1 | show G2 | show G3 | show G4 | show G5 | show G6 | show G7); walk1)))
  refine ret _ _ _ K5 (by assumption) (by assumption) ⟨rfl, Tp', rfl, A5, P5⟩
end

section
open PySem PySem.SeqAt PyProof.Rows PySem.W
section
variable {w : World} {A : Around} {s : Shared} {env : Env} {h₀ : Heap} {target : PySem.Expr} {body : List Stmt}
theorem iter_set {a : Addr} {o : Obj} {vals : List Value} {m : Str → Option Value} {W : Led} {Q : Flow → Shared → Prop} {E : Value → Shared → Prop} (hh : A.handled = none)
    (F : Fr h₀ env.locals s.heap m) (N : News h₀ env.locals s.heap W) (hm : (a, o) ∈ W) (hS : ObjPend w o vals) (hz : vals.length < 70)
    (h : ∀ (I : Nat) (X : Led) (ord : List Value) (s' : Shared), List.Perm ord vals → (∀ p ∈ W, p.1 < I) → (∀ p ∈ W, ∀ r ∈ X, p.1 ≠ r.1) → (∀ r ∈ X, r.1 ≠ I) → Kin s s' → ∃ J : Nat → (Str → Option Value) → Led → Prop,
      J 0 m (X ++ W) ∧ (∀ i m W', J i m W' → (a, o) ∈ W' ∧ ∀ p ∈ X, p ∈ W') ∧
      (∀ i v m W' oI (s₁ : Shared), ord[i]? = some v → J i m W' → (∀ p ∈ W', p.1 ≠ I) → Fr h₀ env.locals s₁.heap m → News h₀ env.locals s₁.heap ((I, oI) :: W') → Kin s' s₁ →
        TurnHere PP w A h₀ env target body Q s' I oI (J (i + 1)) v s₁) ∧
      (∀ m W' (s₁ : Shared), J ord.length m W' → Fr h₀ env.locals s₁.heap m → News h₀ env.locals s₁.heap W' → Kin s' s₁ → Q .next s₁)) :
    wpAny (model PP w) A (pyIter (.ref a)) (fun it s₂ => LoopHere PP w A h₀ env target body Q it s₂) E s := by
  refine pyIter_set (prog := PP) (target := target) (N _ hm).1 hS hz fun I X ord Ob oI h' d hperm It hO hI hkeep hX hIs => ?_
  have hL : env.locals < s.heap.objs.size := F.ns.lt
  have hIL : I ≠ env.locals := Nat.ne_of_gt (Nat.lt_of_lt_of_le hL hIs)
  have hI₀ := fresh_none F hIs
  have hWlt : ∀ p ∈ W, p.1 < s.heap.objs.size := fun p hp => Heap.lt_size (N p hp).1
  have hWI : ∀ p ∈ W, p.1 < I := fun p hp => Nat.lt_of_lt_of_le (hWlt p hp) hIs
  obtain ⟨J, hJ, hsrc, turn, done⟩ := h I X ord { s with heap := h', drawn := d } hperm hWI (fun p hp r hr => Nat.ne_of_lt (Nat.lt_of_lt_of_le (hWlt p hp) (hX r hr).2.2)) (fun r hr => (hX r hr).2.1) ⟨rfl, rfl⟩
  refine ⟨I, ord.length, _, Ob, _, m, X ++ W, oI, J, rfl, It A hh, fun i m W' h hj F' N' => ?_, hIL, hI₀, hI, hO, fr_same F (fun b o _ e => hkeep b o e) hIL hI₀, ?_, ?_, hJ, ?_, ?_⟩
  · obtain ⟨h1, h2⟩ := hsrc i m W' hj
    exact ⟨(N' _ h1).1, fun p hp => (N' _ (h2 p hp)).1⟩
  · intro p hp
    rcases List.mem_append.mp hp with hp | hp
    · exact ⟨(hX p hp).1, Nat.ne_of_gt (Nat.lt_of_lt_of_le hL (hX p hp).2.2), fresh_none F (hX p hp).2.2⟩
    · exact ⟨hkeep _ _ (N p hp).1, (N p hp).2⟩
  · intro p hp
    rcases List.mem_append.mp hp with hp | hp
    · exact (hX p hp).2.1
    · exact Nat.ne_of_lt (hWI p hp)
  · intro i v m₁ W₁ oI₁ s₁ hi hP hJ₁ hoff F₁ N₁ K₁
    exact turn i v m₁ W₁ oI₁ s₁ hP hJ₁ hoff F₁ N₁ K₁ _ fun _ _ x => x
  · intro m₁ W₁ s₁ hJ₁ F₁ N₁ K₁
    exact done m₁ W₁ s₁ hJ₁ F₁ N₁ K₁
end
theorem Meets.call {w : World} {f : Addr} {pos : List Value} {kw : List (Str × Value)} {W : Led} {d u : Nat} {Post : Value → Led → Prop} (M : Meets w f pos kw W d u Post)
    {p : PySem.Program} {loose : List Str} {mean : ExcName → Option Value} {mg mb : Str → Option Value} {dp un : Nat} {gd : Option (List Code)} {cn : Str} {cs : Scope} {a : Addr} {ccd : Value} {cl : List (Str × Addr)} {outer : List Env} {A₀ : Around} {base h₀ : Heap} {L : Addr} {m : Str → Option Value} {s : Shared}
    {Q E : Value → Shared → Prop} (B : Below A₀ base outer h₀) (F : Fr h₀ L s.heap m) (K : (hd.heap_39 w.params).In h₀) (N : News h₀ L s.heap W) (T : Top p loose mean mg mb h₀) (hk : cs.kind = .function) (hdp : dp + d < recursionLimit) (hun : un + u < cLine)
    (h : ∀ r s' W', Kin s s' → Fr h₀ L s'.heap m → News h₀ L s'.heap W' → Post r W' → Q r s') :
    wpAny (model PP w) (ktrTop dp un gd cn cs L a ccd cl outer) (PySem.call (.ref f) pos kw) Q E s :=
  M p loose mean mg mb dp un gd cn cs a ccd cl outer A₀ base h₀ L m s Q E B F K N T hk hdp hun h
theorem new_pend {w : World} {A : Around} {E : Value → Shared → Prop} {s : Shared} {h₀ : Heap} {L : Addr} {m : Str → Option Value} {W : Led} {Q : Value → Shared → Prop} (F : Fr h₀ L s.heap m) (N : News h₀ L s.heap W)
    (h : ∀ d h', Fr h₀ L h' m → News h₀ L h' ((d, newPend w) :: W) → (∀ p ∈ W, p.1 < d) → Q (.ref d) { s with heap := h' }) :
    wpAny (model PP w) A (call (.type "set") []) Q E s :=
  call_newPend (prog := PP) (h _ _ (F.push _) (News.push F N _) fun p hp => Heap.lt_size (N p hp).1)
theorem list_item {w : World} {A : Around} {E : Value → Shared → Prop} {s : Shared} {h₀ : Heap} {L : Addr} {V : Led} {value slice : PySem.Expr} {l : Addr} {o : Obj} {its : Array Value} {n : Nat} {k : Int} {u : Tok} {x : Value} {Q : Value → Shared → Prop} (N : News h₀ L s.heap V) (hm : (l, o) ∈ V)
    (hc : o.cls = .type "list") (hd : o.data = .seq its n) (h0 : 0 ≤ k) (hfit : k < 2 ^ 63) (hx : its[k.toNat]? = some x) (h : Q x s)
    (hs : subscripted slice false (.ref l) (.int k u) = operate [.ref l, .int k u] (getItem (.ref l) (.int k u)) := by with_unfolding_all rfl) :
    wpAny (model PP w) A (subscriptTail value slice (.ref l) (.int k u)) Q E s :=
  have hl : s.heap.IsList l its := ⟨o, (N _ hm).1, hc, n, hd⟩
  tail_any hl.typeIs F.slot_list_getitem.lookup (wpAny_getItem_list hl h0 hfit hx h) hs
theorem abc_item {num : Int} {t1 t2 t3 : Tok} : ∃ k t, (#[Value.str (Str.ofString "a") t1, Value.str (Str.ofString "a.a") t2, Value.str (Str.ofString "") t3])[((num - 1).fmod 3).toNat]? = some (.str k t) ∧ Str.ofString "c" ≠ k := by
  have h1 : 0 ≤ (num - 1).fmod 3 := Int.fmod_nonneg_of_pos _ (by omega)
  have h2 : (num - 1).fmod 3 < 3 := Int.fmod_lt_of_pos _ (by omega)
  generalize (num - 1).fmod 3 = j at h1 h2
  have : j = 0 ∨ j = 1 ∨ j = 2 := by lia
  rcases this with rfl | rfl | rfl
  · exact ⟨_, _, rfl, by decide⟩
  · exact ⟨_, _, rfl, by decide⟩
  · exact ⟨_, _, rfl, by decide⟩
theorem list_app {w : World} {A : Around} {E : Value → Shared → Prop} {s : Shared} {h₀ : Heap} {L : Addr} {m : Str → Option Value} {pre post : Led} {D : Addr} {its : Array Value} {n : Nat} {x : Value} {Q : Value → Shared → Prop} (F : Fr h₀ L s.heap m) (N : News h₀ L s.heap (pre ++ (D, W.listOf its n) :: post))
    (h1 : ∀ p ∈ pre, p.1 ≠ D) (h2 : ∀ p ∈ post, p.1 ≠ D) (hz : its.size ≤ 100000)
    (h : ∀ h', Fr h₀ L h' m → News h₀ L h' (pre ++ (D, W.listOf (its.push x) (n + 1)) :: post) → Q .none { s with heap := h' }) :
    wpAny (model PP w) A (call (.builtin "list.append") [.ref D, x]) Q E s := by
  have z := N (D, W.listOf its n) (List.mem_append.mpr (.inr (.head _)))
  exact append_at (hsz := by rw [sizeLine_eq]; omega) z.1 fun h' hs ho' => h h' (F.change hs z.2.1 z.2.2) (W.news_set N h1 h2 hs ho')
theorem tuple_of {w : World} {A : Around} {E : Value → Shared → Prop} {s : Shared} {h₀ : Heap} {L : Addr} {m : Str → Option Value} {V : Led} {D : Addr} {its : Array Value} {n : Nat} {Q : Value → Shared → Prop} (F : Fr h₀ L s.heap m) (N : News h₀ L s.heap V)
    (hm : (D, W.listOf its n) ∈ V) (hz : its.size ≤ 100000)
    (h : ∀ a h', Fr h₀ L h' m → News h₀ L h' ((a, { cls := .type "tuple", data := .seq its }) :: V) → (∀ p ∈ V, p.1 < a) → Q (.ref a) { s with heap := h' }) :
    wpAny (model PP w) A (call (.type "tuple") [.ref D]) Q E s := by
  refine call_tuple_list ⟨_, (N _ hm).1, rfl, n, rfl⟩ (fun h' hk => ?_) (by rw [sizeLine_eq]; omega)
  have F1 : Fr h₀ L h' m := ⟨F.ns.at' fun o e => hk L o e, fun b o e => hk b o (F.keep b o e), F.above⟩
  have N1 : News h₀ L h' V := fun p hp => ⟨hk _ _ (N p hp).1, (N p hp).2⟩
  exact h _ _ (F1.push _) (News.push F1 N1 _) fun p hp => Heap.lt_size (N1 p hp).1
end

section
open PySem PySem.W PyProof.Rows
local macro_rules | `(tactic| walk_at "exec For Tuple Attribute cons nil") => `(tactic| (k_here; refine For_led (by assumption) ?_))
theorem fin_meets {w : World} {V F T Tp : Led} {x : Addr} {g : Gh} {mk : Marks} {c np : Nat} {P : List Str × Int → Prop}
    (X : FlagsIn w T x g mk c) (PI : PendIn w F Tp g.ps P np) (hFV : ∀ e ∈ F, e ∈ V) (hap : Apart V (T ++ Tp)) (hap2 : Apart T Tp) (hn : np < 70) (hP : ∀ k, P k → k.1.length ≤ 25 ∧ (k.2 = 0 ∨ k.2 = 1)) (hc : c + 25 * np < 5000000) :
    Meets w 42 [.ref x] [] (V ++ (T ++ Tp)) 9 90
      (fun r W' => r = .none ∧ ∃ T' Tp' g' mk', W' = V ++ (T' ++ Tp') ∧ Apart V (T' ++ Tp') ∧ Apart T' Tp' ∧ FlagsIn w T' x g' mk' (c + 25 * np) ∧ PendIn w F Tp' g'.ps (fun _ => False) 0 ∧
        ∀ y e i, mk' y e i = true ↔ mk y e i = true ∨ (e = false ∧ P (y, i))) := by
  intro p loose mean mg mb dp un gd cn cs a ccd cl outer A₀ base h₀ L m s Q E B FR KX N TP hk hdp hun ret
  refine kf ?_
  k_fill
  intro _
  refine wpAny_call ?_
  k_dflt ktr_enter
  rename_i g1 L1 h1 FG F1 N1 B1 X1 T1
  replace F1 : Fr g1 L1 h1 (fun y => List.lookup y [(Str.ofString "self", .ref x)]) := F1
  refine wpAny_noRaise ?_
  have xi := X.inst
  obtain ⟨n1, t1, n2, t2, kk, xd⟩ := X.idict
  replace xi : (x, instObj 66 g.dx) ∈ V ++ (T ++ Tp) := by walk_at "mem"
  replace xd := List.mem_append_right V (List.mem_append_left Tp xd)
  (repeat' (first | walk_at "u" | ((fail_if_success with_reducible first | show G0 | show G1 | show G2 | show G3 | show G4 | show G8 | show G6 | show G9 | show G10); walk1)))
  have PI2 := PI
  obtain ⟨po, pv, hpm, hpo, hpl, hpin, hpout⟩ := PI
  have hNF : News h₀ L s.heap (F ++ Tp) := news_drop N fun p hp => by
    rcases List.mem_append.mp hp with hp | hp
    · exact List.mem_append_left _ (hFV p hp)
    · exact List.mem_append_right _ (List.mem_append_right _ hp)
  have hpmW : (g.ps, po) ∈ V ++ (T ++ Tp) := List.mem_append_right V (List.mem_append_right T hpm)
  refine iter_set (by rfl) (by assumption) (by assumption) hpmW hpo (by lia) fun I Xl ord s' hperm hWI hWX hXI K1 => ?_
  refine ⟨fun i m' W' => ∃ Ti gi mi u1 u2, m' = (fun y => if y = Str.ofString "key" then u1 else if y = Str.ofString "flag" then u2 else List.lookup y [(Str.ofString "self", .ref x)]) ∧ W' = Xl ++ (V ++ (Ti ++ Tp)) ∧ Apart (Xl ++ (V ++ Tp)) Ti ∧ FlagsIn w Ti x gi mi (c + 25 * i) ∧ gi.ps = g.ps ∧
    ∀ y e j, mi y e j = true ↔ mk y e j = true ∨ (e = false ∧ ∃ i' b, i' < i ∧ ord[i']? = some (.ref b) ∧ PairIn w (F ++ Tp) b (y, j)), ?_, ?_, ?_, ?_⟩
  · refine ⟨T, g, mk, none, none, ?_, rfl, ?_, X, rfl, ?_⟩
    · funext y
      by_cases h1 : y = Str.ofString "key"
      · subst h1; rfl
      · by_cases h2 : y = Str.ofString "flag"
        · subst h2; rfl
        · simp only [if_neg h1, if_neg h2]
    · intro p hp r hr
      rcases List.mem_append.mp hp with hp | hp
      · exact Ne.symm (hWX r (List.mem_append_right _ (List.mem_append_left _ hr)) p hp)
      · rcases List.mem_append.mp hp with hp | hp
        · exact hap p hp r (List.mem_append_left _ hr)
        · exact Ne.symm (hap2 r hr p hp)
    · intro y e j
      constructor
      · exact .inl
      · rintro (h | ⟨_, i', b, h, _⟩)
        · exact h
        · exact absurd h (Nat.not_lt_zero _)
  · rintro i m' W' ⟨Ti, gi, mi, u1, u2, _, rfl, _⟩
    exact ⟨List.mem_append_right _ (List.mem_append_right _ (List.mem_append_right _ hpm)), fun p hp => List.mem_append_left _ hp⟩
  · rintro i v m' W' oI s3 hv ⟨Ti, gi, mi, u1, u2, rfl, rfl, api, Xi, hps, hmi⟩ hoff F3 N3 K3 QQo hQo
    obtain ⟨b, k, rfl, hpair, hk0, hPk⟩ := hpin v (hperm.mem_iff.mp (List.mem_of_getElem? hv))
    have hpr := hpair
    obtain ⟨ob, bw, tf, nb, hbm, hbc, hbd, hbw⟩ := hpair
    have up : ∀ {e I}, e ∈ F ++ Tp → e ∈ I :: (Xl ++ (V ++ (Ti ++ Tp))) := fun h => by
      rcases List.mem_append.mp h with h | h
      · have := hFV _ h
        walk_at "mem"
      · walk_at "mem"
    obtain ⟨ocl, odi, oda, osl⟩ := ob
    dsimp only at hbc hbd
    subst hbc hbd
    have hbm' := up (I := (I, oI)) hbm
    have xi' := show (x, instObj 66 gi.dx) ∈ (I, oI) :: (Xl ++ (V ++ (Ti ++ Tp))) from by
      have := Xi.inst
      walk_at "mem"
    obtain ⟨n1', t1', n2', t2', kk', xd'⟩ := Xi.idict
    replace xd' := show _ ∈ (I, oI) :: (Xl ++ (V ++ (Ti ++ Tp))) from mct _ (List.mem_append_right Xl (List.mem_append_right V (List.mem_append_left Tp xd')))
    show wpAny _ _ _ _ _ _
    (repeat' (first | walk_at "u" | ((fail_if_success with_reducible first | show G0 | show G1 | show G2 | show G3 | show G4 | show G8 | show G6 | show G9 | show G10); walk1)))
    have hP2 := hP k hPk
    have perm : ∀ {p : Addr × Obj}, p ∈ ((I, oI) :: (Xl ++ (V ++ Tp))) ++ Ti → p ∈ (I, oI) :: (Xl ++ (V ++ (Ti ++ Tp))) := fun hp => by
      refine sub_go hp ?_
      walk_at "sub"
    have M := set_meets (d := false) Xi (F := (I, oI) :: (Xl ++ (V ++ Tp))) (key := bw) (tf := tf) (hbw.mono fun p hp => by
      simp only [List.mem_cons, List.mem_append, List.cons_append] at hp ⊢
      rcases hp with hp | hp
      · have := hFV _ hp; simp only [this, true_or, or_true]
      · simp only [hp, true_or, or_true]) (by omega) ?_ hk0 hP2.2 ?_
    refine M.call (dp := dp + 1) (un := un + 3) B1 (by assumption) X1 (news_drop (W := (I, oI) :: (Xl ++ (V ++ (Ti ++ Tp)))) (by assumption) fun p hp => perm hp) T1 rfl (room2 hdp) (room2 hun) ?_
    · rintro r5 s5 W5 K5 F5 N5 ⟨rfl, T5, g5, rfl, A5, X5, ps5⟩
      simp only [List.cons_append] at N5
      (repeat' (first | walk_at "u" | ((fail_if_success with_reducible first | show G0 | show G1 | show G2 | show G3 | show G4 | show G8 | show G6 | show G9 | show G10); walk1)))
      refine hQo .next _ ?_
      show NextHere _ _ _ _ _ _ _
      refine NextHere.intro (W := (I, oI) :: (Xl ++ (V ++ Tp) ++ T5)) (by assumption) (by assumption) (W' := Xl ++ (V ++ (T5 ++ Tp))) ?_ ?_ ⟨T5, g5, setMk mi k.1 false k.2, some (.ref bw), some (.int k.2 tf), ?_, rfl, A5.mono fun p hp => mct _ hp, X5.weaken (by omega), ps5.trans hps, ?_⟩ (K3.trans K5)
      · intro p hp
        refine sub_go hp ?_
        walk_at "sub"
      · intro p hp
        refine all_app hp (fun hp => ?_) fun hp => all_app hp (fun hp => ?_) fun hp => all_app hp (fun hp => ?_) fun hp => ?_
        · exact hoff p (List.mem_append_left _ hp)
        · exact hoff p (List.mem_append_right _ (List.mem_append_left _ hp))
        · exact Ne.symm (A5 _ List.mem_cons_self p hp)
        · exact hoff p (List.mem_append_right _ (List.mem_append_right _ (List.mem_append_right _ hp)))
      · funext y
        by_cases h1 : y = Str.ofString "key"
        · subst h1; rfl
        · by_cases h2 : y = Str.ofString "flag"
          · subst h2; rfl
          · simp only [if_neg h1, if_neg h2]
      · intro y e j
        have e0 : setMk mi k.1 false k.2 y e j = true ↔ mi y e j = true ∨ (y = k.1 ∧ e = false ∧ j = k.2) := by
          unfold setMk
          simp [and_assoc]
        rw [e0, hmi]
        constructor
        · rintro ((h | ⟨h, i', b', h2, h3⟩) | ⟨rfl, rfl, rfl⟩)
          · exact .inl h
          · exact .inr ⟨h, i', b', by omega, h3⟩
          · exact .inr ⟨rfl, i, b, by omega, hv, hpr⟩
        · rintro (h | ⟨h, i', b', h2, h3, h4⟩)
          · exact .inl (.inl h)
          · by_cases hi : i' = i
            · subst hi
              rw [hv] at h3
              obtain rfl := Value.ref.inj (Option.some.inj h3)
              have := pair_inj (h4.at hNF) (hpr.at hNF)
              exact .inr ⟨congrArg Prod.fst this, h, congrArg Prod.snd this⟩
            · exact .inl (.inr ⟨h, i', b', by omega, h3, h4⟩)
    · have hil : i < ord.length := (List.getElem?_eq_some_iff.mp hv).1
      have := hperm.length_eq
      omega
    · intro p hp r hr
      rcases List.mem_cons.mp hp with rfl | hp
      · exact Ne.symm (hoff r (List.mem_append_right _ (List.mem_append_right _ (List.mem_append_left _ hr))))
      · exact api p hp r hr
  · rintro m' W' s3 ⟨Ti, gi, mi, u1, u2, rfl, rfl, api, Xi, hps, hmi⟩ F3 N3 K3
    obtain ⟨n1', t1', n2', t2', kk', xd'⟩ := Xi.idict
    have xi' := show (x, instObj 66 gi.dx) ∈ Xl ++ (V ++ (Ti ++ Tp)) from List.mem_append_right Xl (List.mem_append_right V (List.mem_append_left Tp Xi.inst))
    replace xd' := show _ ∈ Xl ++ (V ++ (Ti ++ Tp)) from List.mem_append_right Xl (List.mem_append_right V (List.mem_append_left Tp xd'))
    (repeat' (first | walk_at "u" | ((fail_if_success with_reducible first | show G0 | show G1 | show G2 | show G3 | show G4 | show G8 | show G6 | show G9 | show G10); walk1)))
    rw [hps]
    refine meth_pclear (W := Xl ++ (V ++ (Ti ++ Tp))) (by assumption) (List.mem_append_right Xl (List.mem_append_right V (List.mem_append_right Ti hpm))) hpo ?_
    (repeat' (first | walk_at "u" | ((fail_if_success with_reducible first | show G0 | show G1 | show G2 | show G3 | show G4 | show G8 | show G6 | show G9 | show G10); walk1)))
    refine pend_clear (V := Xl ++ (V ++ Ti)) (by assumption) (news_drop (W := Xl ++ (V ++ (Ti ++ Tp))) (by assumption) fun p hp => ?_) PI2 ?_ fun Tp5 s5 K5 F5 N5 P5 A5 => ?_
    · refine sub_go hp ?_
      walk_at "sub"
    · intro p hp r hr
      rcases List.mem_append.mp hp with hp | hp
      · exact Ne.symm (hWX r (List.mem_append_right _ (List.mem_append_right _ hr)) p hp)
      · rcases List.mem_append.mp hp with hp | hp
        · exact hap p hp r (List.mem_append_right _ hr)
        · exact Ne.symm (api r (List.mem_append_right _ (List.mem_append_right _ hr)) p hp)
    (repeat' (first | walk_at "u" | ((fail_if_success with_reducible first | show G0 | show G1 | show G2 | show G3 | show G4 | show G8 | show G6 | show G9 | show G10); walk1)))
    refine ret _ _ (V ++ (Ti ++ Tp5)) (K1.trans (K3.trans K5)) (by assumption) (news_drop (W := (Xl ++ (V ++ Ti)) ++ Tp5) (by assumption) fun p hp => ?_) ⟨rfl, Ti, Tp5, gi, mi, rfl, ?_, ?_, Xi.weaken ?_, hps ▸ P5, ?_⟩
    · refine sub_go hp ?_
      walk_at "sub"
    · intro p hp r hr
      rcases List.mem_append.mp hr with hr | hr
      · exact api p (List.mem_append_right _ (List.mem_append_left _ hp)) r hr
      · exact A5 p (List.mem_append_right _ (List.mem_append_left _ hp)) r hr
    · intro p hp r hr
      exact A5 p (List.mem_append_right _ (List.mem_append_right _ hp)) r hr
    · have := hperm.length_eq
      lia
    · intro y e j
      rw [hmi]
      constructor
      · rintro (h | ⟨h, i', b', h2, h3, h4⟩)
        · exact .inl h
        · obtain ⟨b2, k2, e2, h5, _, h6⟩ := hpin _ (hperm.mem_iff.mp (List.mem_of_getElem? h3))
          obtain rfl := Value.ref.inj e2
          have := pair_inj (h4.at hNF) (h5.at hNF)
          exact .inr ⟨h, this ▸ h6⟩
      · rintro (h | ⟨h, h1⟩)
        · exact .inl h
        · obtain ⟨b, h2, h3⟩ := hpout _ h1
          obtain ⟨i', h4⟩ := List.getElem?_of_mem (hperm.mem_iff.mpr h2)
          exact .inr ⟨h, i', b, (List.getElem?_eq_some_iff.mp h4).1, h4, h3⟩
end

section
open PySem PySem.W PyProof.Rows
theorem init_end {w : World} {h₀ : Heap} {L : Addr} {m : Str → Option Value} {s s' : Shared} {V : Led} {d2 d x' d' : Nat} {o : Obj} {n1 n2 : Int} {t1 t2 : Tok} {k : Nat} {Q : Value → Shared → Prop} (F : Fr h₀ L s'.heap m)
    (N : News h₀ L s'.heap ((d2, newPend w) :: (d, o) :: (x', instObj 66 d') :: (d', dictOf [⟨n1, .str (Str.ofString "_flags") t1, .ref d⟩, ⟨n2, .str (Str.ofString "_pending_flags") t2, .ref d2⟩] k) :: V))
    (lo : (d == sysModules) = false) (hd : o.IsDictOf (SK w) []) (l3 : x' < d ∧ d' < d ∧ AllLt d V) (l2 : d' < x') (l1 : ∀ p ∈ V, p.1 < d') (l4 : d < d2 ∧ x' < d2 ∧ d' < d2 ∧ AllLt d2 V)
    (ret : ∀ (r : Value) (s' : Shared) (W' : List (Addr × Obj)), Kin s s' → Fr h₀ L s'.heap m → News h₀ L s'.heap W' →
      (fun r W' => ∃ x T Tp g, r = .ref x ∧ W' = V ++ (T ++ Tp) ∧ Apart V (T ++ Tp) ∧ Apart T Tp ∧ FlagsIn w T x g (fun _ _ _ => false) 0 ∧ ∀ F, PendIn w F Tp g.ps (fun _ => False) 0) r W' → Q r s') (K : Kin s s' := by exact ⟨rfl, rfl⟩) : Q (.ref x') s' := by
  obtain ⟨l5, l6, l7⟩ := l3
  obtain ⟨l8, l9, l10, l11⟩ := l4
  refine ret _ _ (V ++ ([(d, o), (x', instObj 66 d'), (d', dictOf [⟨n1, .str (Str.ofString "_flags") t1, .ref d⟩, ⟨n2, .str (Str.ofString "_pending_flags") t2, .ref d2⟩] k)] ++ [(d2, newPend w)])) K F (news_drop N fun p hp => ?_) ⟨x', _, _,
    { dx := d', r := d, ps := d2, node := fun _ => none, role := fun a => if a = x' then .inst else if a = d' then .idict else if a = d then .root else .other }, rfl, rfl, ?_, ?_, ?_, fun F => ⟨_, [], List.mem_cons_self, newPend_ok w, Nat.le_refl _, by simp, by simp⟩⟩
  · refine sub_go hp ?_
    walk_at "sub"
  · intro p hp r hr
    have := l1 p hp
    simp only [List.mem_append, List.mem_cons, List.not_mem_nil, or_false] at hr
    have h1 : @LT.lt Nat _ p.1 d' := l1 p hp
    rcases hr with (rfl | rfl | rfl) | rfl
    · exact Nat.ne_of_lt (Nat.lt_trans h1 l6)
    · exact Nat.ne_of_lt (Nat.lt_trans h1 l2)
    · exact Nat.ne_of_lt h1
    · exact Nat.ne_of_lt (Nat.lt_trans h1 l10)
  · intro p hp r hr
    simp only [List.mem_cons, List.not_mem_nil, or_false] at hp hr
    subst hr
    rcases hp with rfl | rfl | rfl
    · exact Nat.ne_of_lt l8
    · exact Nat.ne_of_lt l9
    · exact Nat.ne_of_lt l10
  · have e1 : d' ≠ x' := Nat.ne_of_lt l2
    have e2 : d ≠ x' := Nat.ne_of_gt l5
    have e3 : d ≠ d' := Nat.ne_of_gt l6
    refine { inst := by simp, idict := ⟨n1, t1, n2, t2, k, by simp⟩, root := ⟨o, [], by simp, hd, fun _ => rfl, Nat.le_refl _⟩, nd := fun _ _ h => (nomatch h), fl := fun _ _ h => (nomatch h), rc := fun _ _ h => (nomatch h), ne := fun _ _ h => (nomatch h), nil := rfl, closed := fun _ _ _ _ => rfl, mk0 := fun _ _ _ _ => rfl, rInst := if_pos rfl, rIdict := ?_, rRoot := ?_, rNode := fun _ _ h => (nomatch h), hi := ⟨?_, fun _ _ h => (nomatch h)⟩ }
    · show (if d' = x' then _ else if d' = d' then _ else _) = _
      rw [if_neg e1, if_pos rfl]
    · show (if d = x' then _ else if d = d' then _ else if d = d then _ else _) = _
      rw [if_neg e2, if_neg e3, if_pos rfl]
    · rw [beq_eq_false_iff_ne] at lo
      exact lo
theorem init_meets {w : World} {V : Led} : 
    Meets w 66 [] [] V 9 90
      (fun r W' => ∃ x T Tp g, r = .ref x ∧ W' = V ++ (T ++ Tp) ∧ Apart V (T ++ Tp) ∧ Apart T Tp ∧ FlagsIn w T x g (fun _ _ _ => false) 0 ∧ ∀ F, PendIn w F Tp g.ps (fun _ => False) 0) := by
  intro p loose mean mg mb dp un gd cn cs a ccd cl outer A₀ base h₀ L m s Q E B FR KX N TP hk hdp hun ret
  refine kf ?_
  k_fill
  intro _
  k_dflt (refine' call_cls ?k1 ?k2 ?k3 ?k4 ?k5 ?k6 ?_; (case k1 => k_asm); (case k2 => k_asm); (case k3 => k_asm); (case k4 => k_is); (case k5 => k_is); (case k6 => k_is); intro x' d' h' F' N' l1 l2; (try k_lt l1); (try k_lt2 l2); (try k_sweep))
  k_dflt ktr_enter
  rename_i g1 L1 h1 FG F1 N1 B1 X1 T1
  refine wpAny_noRaise ?_
  (repeat' (first | walk_at "u" | ((fail_if_success with_reducible first | show G0 | show G1 | show G2 | show G3 | show G4 | show G11); walk1)))
  refine new_pend (by assumption) (by assumption) fun d2 h2 F2 N2 l4 => ?_
  k_lt l4
  (repeat' (first | walk_at "u" | ((fail_if_success with_reducible first | show G0 | show G1 | show G2 | show G3 | show G4 | show G11); walk1)))
  exact init_end (by assumption) (by assumption) (by assumption) (by assumption) (by assumption) l2 l1 l4 ret
end

section
open PySem PySem.W PyProof.Rows
theorem way_meets {w : World} {V : Led} {n : Int} {t : Tok} : 
    Meets w 77 [.int n t] [] V 9 90
      (fun r W' => ∃ a o q, r = .ref a ∧ W' = (a, o) :: V ∧ WayIn w W' a q ∧ q ≠ [] ∧ q.length ≤ 25 ∧ (Str.ofString "c") ∉ q ∧ (∀ p ∈ V, p.1 < a)) := by
  intro p loose mean mg mb dp un gd cn cs a ccd cl outer A₀ base h₀ L m s Q E B FR KX N TP hk hdp hun ret
  refine kf ?_
  k_fill
  intro _
  refine wpAny_call ?_
  k_dflt ktr_enter
  rename_i g1 L1 h1 FG F1 N1 B1 X1 T1
  replace F1 : Fr g1 L1 h1 (fun y => List.lookup y [(Str.ofString "number", .int n t)]) := F1
  refine wpAny_noRaise ?_
  (repeat' (first | walk_at "u" | ((fail_if_success with_reducible first | show G12 | show G0 | show G13); walk1)))
  rename_i hhA ll hhB ll1 hhC FF NN
  refine While_inv (fun k m' W' => ∃ items cc num q, k = num.toNat ∧ 0 ≤ num ∧ num * 3 ^ q.length ≤ 3 ^ 20 ∧ (num = 0 → q ≠ []) ∧ W' = (ll, W.listOf items cc) :: V ∧ ItemsAre (SK w) q items.toList ∧ Str.ofString "c" ∉ q ∧ q.length ≤ 21 ∧
    ∃ tn, m' = fun y => if y = Str.ofString "way" then some (.ref ll) else if y = Str.ofString "number" then some (.int num tn) else List.lookup y [(Str.ofString "number", .int n t)]) (by assumption) (by assumption) ⟨_, _, _, [], rfl, ?_, ?_, ?_, rfl, .nil, by simp, by simp, ⟨_, rfl⟩⟩ ?_
  · have := Int.fmod_nonneg_of_pos n (b := 3 ^ Int.toNat 20) (by decide)
    omega
  · have h1 := Int.fmod_lt_of_pos n (b := 3 ^ Int.toNat 20) (by decide)
    have h2 : (3 : Int) ^ Int.toNat 20 = 3 ^ 20 := rfl
    rw [h2] at h1 ⊢
    simp only [List.length_nil, Int.pow_zero, Int.mul_one]
    omega
  · intro h
    have := Int.fmod_nonneg_of_pos n (b := 3 ^ Int.toNat 20) (by decide)
    omega
  rintro k m' W' h' tk' F' N' ⟨items, cc, num, q, hk1, h0, hbnd, hne, hW', hq, hc, hq21, tn, hm'⟩
  subst hk1 hW' hm'
  (repeat' (first | walk_at "u" | ((fail_if_success with_reducible first | show G12 | show G0 | show G13); walk1)))
  · obtain ⟨ka, ta, eka, hka⟩ := abc_item (num := num) (t1 := tk) (t2 := tk + 1) (t3 := tk + 1 + 1)
    refine list_item (by assumption) List.mem_cons_self rfl rfl ?_ ?_ eka ?_
    · exact Int.fmod_nonneg_of_pos _ (by omega)
    · have : (num - 1).fmod 3 < 3 := Int.fmod_lt_of_pos _ (by omega)
      omega
    have hql : q.length ≤ 20 := by
      rcases Nat.lt_or_ge 20 q.length with h | h
      · exfalso
        have h1 : (3 : Int) ^ 21 ≤ 3 ^ q.length := by
          have := Nat.pow_le_pow_right (n := 3) (by omega) (show 21 ≤ q.length from h)
          exact_mod_cast this
        have h2 : (3 : Int) ^ q.length ≤ num * 3 ^ q.length := by
          have h3 : (0 : Int) ≤ 3 ^ q.length := by
            have := Nat.pow_pos (n := q.length) (show 0 < 3 by omega)
            exact_mod_cast Nat.le_of_lt this
          have := Int.mul_le_mul_of_nonneg_right (show 1 ≤ num by omega) h3
          omega
        have : (3 : Int) ^ 21 ≤ 3 ^ 20 := by omega
        exact absurd this (by decide)
      · exact h
    have hsz : items.size ≤ 20 := by
      have e1 : q.length = items.toList.length := hq.length
      have e2 : items.toList.length = items.size := Array.length_toList
      exact (e1.trans e2) ▸ hql
    (repeat' (first | walk_at "u" | ((fail_if_success with_reducible first | show G12 | show G0 | show G13); walk1)))
    refine list_app (pre := [_]) (post := V) (by assumption) (by assumption) ?_ ?_ (by lia) fun h7 F7 N7 => ?_
    · intro p hp
      rcases List.mem_singleton.mp hp with rfl
      exact Nat.ne_of_gt (by assumption : ll < _ ∧ _).1
    · exact fun p hp => Nat.ne_of_lt (ll1 p hp)
    (repeat' (first | walk_at "u" | ((fail_if_success with_reducible first | show G12 | show G0 | show G13); walk1)))
    have hlt3 : ((num - 1).fdiv 3) < num ∧ 0 ≤ (num - 1).fdiv 3 ∧ (num - 1).fdiv 3 * 3 ≤ num := by
      rw [Int.fdiv_eq_ediv_of_nonneg _ (by lia)]
      omega
    refine WhileStep.intro (n' := ((num - 1).fdiv 3).toNat) (by assumption) (news_drop (W' := (ll, W.listOf (items.push (.str ka ta)) (cc + 1)) :: V) (by assumption) fun p hp => mct _ hp) ?_ ⟨items.push (.str ka ta), cc + 1, (num - 1).fdiv 3, q ++ [ka], rfl, hlt3.2.1, ?_, fun _ => snoc_ne _ _, rfl, ?_, ?_, by simp; omega, ?_⟩
    · omega
    · rw [List.length_append, List.length_singleton, Int.pow_succ]
      have h3 : (0 : Int) ≤ 3 ^ q.length := by
        have := Nat.pow_pos (n := q.length) (show 0 < 3 by omega)
        exact_mod_cast Nat.le_of_lt this
      have h4 := Int.mul_le_mul_of_nonneg_right hlt3.2.2 h3
      have h5 : (num - 1).fdiv 3 * (3 ^ q.length * 3) = (num - 1).fdiv 3 * 3 * 3 ^ q.length := by
        rw [Int.mul_assoc, Int.mul_comm (3 ^ q.length) 3]
      rw [h5]
      exact Int.le_trans h4 hbnd
    · rw [Array.toList_push]
      exact ItemsAre.append hq (.cons (strKind_is PP w ka ta) .nil)
    · intro h
      rcases List.mem_append.mp h with h | h
      · exact hc h
      · exact hka (List.mem_singleton.mp h)
    · exact ⟨_, by
        funext y
        by_cases h1 : y = Str.ofString "way"
        · subst h1; rfl
        · by_cases h2 : y = Str.ofString "number"
          · subst h2; rfl
          · simp only [if_neg h1, if_neg h2]⟩
  · (repeat' (first | walk_at "u" | ((fail_if_success with_reducible first | show G12 | show G0 | show G13); walk1)))
    have hsz : items.size ≤ 21 := by
      have e1 : q.length = items.toList.length := hq.length
      have e2 : items.toList.length = items.size := Array.length_toList
      exact (e1.trans e2) ▸ hq21
    refine tuple_of (by assumption) (by assumption) List.mem_cons_self (by lia) fun a9 h9 F9 N9 l9 => ?_
    (repeat' (first | walk_at "u" | ((fail_if_success with_reducible first | show G12 | show G0 | show G13); walk1)))
    have hn0 : num = 0 := by lia
    refine ret _ _ ((a9, { cls := .type "tuple", data := .seq items }) :: V) ⟨rfl, rfl⟩ (by assumption) (news_drop (by assumption) fun p hp => ?_) ⟨a9, _, q, rfl, rfl, ⟨_, items.toList, 0, List.mem_cons_self, rfl, by simp, hq⟩, hne hn0, by lia, hc, fun p hp => l9 p (mct _ hp)⟩
    rcases List.mem_cons.mp hp with rfl | hp
    · exact List.mem_cons_self
    · exact mct _ (mct _ hp)
end

section
open PySem PySem.SeqAt PyProof.Rows PySem.W
noncomputable abbrev Wait := List Str × Int → Prop
noncomputable def Mach (w : World) (F U : Led) (x : Addr) (mk : Marks) (P : Wait) (b k : Nat) : Prop :=
  ∃ T Tp g c np, U = T ++ Tp ∧ Apart T Tp ∧ FlagsIn w T x g mk c ∧ PendIn w F Tp g.ps P np ∧ c + 25 * np ≤ b ∧ np ≤ k
theorem Meets.map {w : World} {f : Addr} {pos : List Value} {kw : List (Str × Value)} {W W1 : Led} {d u d1 u1 : Nat} {Post Post1 : Value → Led → Prop} (M : Meets w f pos kw W d u Post) (hs : ∀ p ∈ W, p ∈ W1)
    (hp : ∀ r W', Post r W' → ∃ W'', (∀ p ∈ W'', p ∈ W') ∧ Post1 r W'') (hd : d ≤ d1) (hu : u ≤ u1) : Meets w f pos kw W1 d1 u1 Post1 :=
  fun p loose mean mg mb dp un gd cn cs a ccd cl outer A₀ base h₀ L m s Q E B F K N T hk hdp hun h =>
    M p loose mean mg mb dp un gd cn cs a ccd cl outer A₀ base h₀ L m s Q E B F K (fun p hp => N p (hs p hp)) T hk (by lia) (by lia) fun r s' W' K' F' N' hP =>
      let ⟨W'', h1, h2⟩ := hp r W' hP
      h r s' W'' K' F' (fun p hp => N' p (h1 p hp)) h2
section
variable {w : World} {F V U : Led} {x key : Addr} {mk : Marks} {P : Wait} {b k : Nat} {q : List Str} {f : Int} {tf : Tok}
theorem Apart.split {V T Tp : Led} (h : Apart V (T ++ Tp)) : Apart V T ∧ Apart V Tp := ⟨fun p hp r hr => h p hp r (List.mem_append_left _ hr), fun p hp r hr => h p hp r (List.mem_append_right _ hr)⟩
theorem Apart.join {V T Tp : Led} (h1 : Apart V T) (h2 : Apart V Tp) : Apart V (T ++ Tp) := fun p hp r hr => by
  rcases List.mem_append.mp hr with hr | hr
  · exact h1 p hp r hr
  · exact h2 p hp r hr
theorem Apart.symm {V T : Led} (h : Apart V T) : Apart T V := fun p hp r hr => Ne.symm (h r hr p hp)
theorem Apart.app {V X T : Led} (h1 : Apart V T) (h2 : Apart X T) : Apart (V ++ X) T := fun p hp r hr => by
  rcases List.mem_append.mp hp with hp | hp
  · exact h1 p hp r hr
  · exact h2 p hp r hr
theorem mem3 {V T Tp : Led} {p : Addr × Obj} : p ∈ (V ++ Tp) ++ T ↔ p ∈ V ++ (T ++ Tp) := by
  simp only [List.mem_append]
  constructor
  · rintro ((h | h) | h) <;> simp only [h, true_or, or_true]
  · rintro (h | h | h) <;> simp only [h, true_or, or_true]
theorem mach_is (M : Mach w F U x mk P b k) (K : WayIn w V key q) (hq : q.length < 1000) :
    Meets w 63 [.ref x, .ref key, .int f tf] [] (V ++ U) 5 50 (fun r W' => r = .bool (isAt mk q f) ∧ W' = V ++ U) := by
  obtain ⟨T, Tp, g, c, np, rfl, ap, X, PI, hb, hk⟩ := M
  refine (is_meets (F := V ++ Tp) X (K.mono fun p hp => List.mem_append_left _ (List.mem_append_left _ hp)) hq).map (fun p hp => mem3.mp hp) ?_ (Nat.le_refl _) (Nat.le_refl _)
  rintro r W' ⟨rfl, rfl⟩
  exact ⟨_, fun p hp => mem3.mpr hp, rfl, rfl⟩
theorem mach_set {d : Bool} (M : Mach w F U x mk P b k) (K : WayIn w V key q) (hq : q.length ≤ 25) (hq0 : q ≠ []) (hf : f = 0 ∨ f = 1) (hap : Apart V U) (hb : b < 5000000) :
    Meets w 56 [.ref x, .ref key, .int f tf] [(Str.ofString "recursive", .bool d)] (V ++ U) 5 50
      (fun r W' => r = .none ∧ ∃ U', W' = V ++ U' ∧ Apart V U' ∧ Mach w F U' x (setMk mk q d f) P (b + 25) k) := by
  obtain ⟨T, Tp, g, c, np, rfl, ap, X, PI, hb1, hk⟩ := M
  obtain ⟨a1, a2⟩ := hap.split
  refine (set_meets (F := V ++ Tp) (d := d) X (K.mono fun p hp => List.mem_append_left _ (List.mem_append_left _ hp)) (by omega) (by omega) hq0 hf (a1.app ap.symm)).map (fun p hp => mem3.mp hp) ?_ (Nat.le_refl _) (Nat.le_refl _)
  rintro r W' ⟨rfl, T', g', rfl, a3, X', e⟩
  refine ⟨_, fun p hp => mem3.mpr hp, rfl, T' ++ Tp, rfl, Apart.join (a3.mono fun p hp => List.mem_append_left _ hp) a2, T', Tp, g', c + q.length, np, rfl, ?_, X', e ▸ PI, by lia, hk⟩
  exact Apart.symm (a3.mono fun p hp => List.mem_append_right _ hp)
theorem mach_unset (M : Mach w F U x mk P b k) (K : WayIn w V key q) (hq : q.length ≤ 25) (hq0 : q ≠ []) (hap : Apart V U) (hb : b < 5000000) :
    Meets w 49 [.ref x, .ref key] [] (V ++ U) 5 50
      (fun r W' => r = .none ∧ ∃ U', W' = V ++ U' ∧ Apart V U' ∧ Mach w F U' x (cutMk mk q) P b k) := by
  obtain ⟨T, Tp, g, c, np, rfl, ap, X, PI, hb1, hk⟩ := M
  obtain ⟨a1, a2⟩ := hap.split
  refine (unset_meets (F := V ++ Tp) X (K.mono fun p hp => List.mem_append_left _ (List.mem_append_left _ hp)) (by omega) (by omega) hq0 (a1.app ap.symm)).map (fun p hp => mem3.mp hp) ?_ (Nat.le_refl _) (Nat.le_refl _)
  rintro r W' ⟨rfl, T', g', rfl, a3, X', e⟩
  refine ⟨_, fun p hp => mem3.mpr hp, rfl, T' ++ Tp, rfl, Apart.join (a3.mono fun p hp => List.mem_append_left _ hp) a2, T', Tp, g', c, np, rfl, ?_, X', e ▸ PI, hb1, hk⟩
  exact Apart.symm (a3.mono fun p hp => List.mem_append_right _ hp)
theorem mach_pend (M : Mach w F U x mk P b k) (hFV : ∀ e ∈ F, e ∈ V) (K : WayIn w F key q) (hq0 : q ≠ []) (hap : Apart V U) (hk70 : k < 70) :
    Meets w 35 [.ref x, .ref key, .int f tf] [] (V ++ U) 5 50
      (fun r W' => r = .none ∧ ∃ U', W' = V ++ U' ∧ Apart V U' ∧ Mach w F U' x mk (fun k => P k ∨ k = (q, f)) (b + 25) (k + 1)) := by
  obtain ⟨T, Tp, g, c, np, rfl, ap, X, PI, hb1, hk⟩ := M
  obtain ⟨a1, a2⟩ := hap.split
  refine (pend_meets (V := V ++ T) (F := F) (Tp := Tp) X (fun e he => List.mem_append_right _ he) PI (fun e he => List.mem_append_left _ (hFV e he)) K hq0 (a2.app ap) (by omega)).map (fun p hp => by rwa [List.append_assoc] at hp) ?_ (Nat.le_refl _) (Nat.le_refl _)
  rintro r W' ⟨rfl, Tp', rfl, a3, PI'⟩
  refine ⟨_, fun p hp => by rw [List.append_assoc]; exact hp, rfl, T ++ Tp', rfl, Apart.join a1 (a3.mono fun p hp => List.mem_append_left _ hp), T, Tp', g, c, np + 1, rfl, a3.mono fun p hp => List.mem_append_right _ hp, X, PI', by lia, by lia⟩
noncomputable def finMk (mk mk' : Marks) (P : Wait) : Prop := ∀ y e i, mk' y e i = true ↔ mk y e i = true ∨ (e = false ∧ P (y, i))
theorem mach_fin (M : Mach w F U x mk P b k) (hFV : ∀ e ∈ F, e ∈ V) (hap : Apart V U) (hk70 : k < 70) (hP : ∀ k, P k → k.1.length ≤ 25 ∧ (k.2 = 0 ∨ k.2 = 1)) (hb : b < 5000000) :
    Meets w 42 [.ref x] [] (V ++ U) 9 90
      (fun r W' => r = .none ∧ ∃ U' mk', W' = V ++ U' ∧ Apart V U' ∧ Mach w F U' x mk' (fun _ => False) b k ∧ finMk mk mk' P) := by
  obtain ⟨T, Tp, g, c, np, rfl, ap, X, PI, hb1, hk⟩ := M
  refine (fin_meets (V := V) (F := F) (T := T) (Tp := Tp) X PI hFV hap ap (by omega) hP (by lia)).map (fun p hp => hp) ?_ (Nat.le_refl _) (Nat.le_refl _)
  rintro r W' ⟨rfl, T', Tp', g', mk', rfl, a3, a4, X', PI', hmk⟩
  exact ⟨_, fun p hp => hp, rfl, T' ++ Tp', mk', rfl, a3, ⟨T', Tp', g', c + 25 * np, 0, rfl, a4, X', PI', by omega, by lia⟩, hmk⟩
theorem mach_init : Meets w 66 [] [] V 9 90 (fun r W' => ∃ x U, r = .ref x ∧ W' = V ++ U ∧ Apart V U ∧ ∀ F, Mach w F U x (fun _ _ _ => false) (fun _ => False) 0 0) := by
  refine init_meets.map (fun p hp => hp) ?_ (Nat.le_refl _) (Nat.le_refl _)
  rintro r W' ⟨x, T, Tp, g, rfl, rfl, a1, a2, X, PI⟩
  exact ⟨_, fun p hp => hp, x, T ++ Tp, rfl, rfl, a1, fun F => ⟨T, Tp, g, 0, 0, rfl, a2, X, PI F, Nat.le_refl _, Nat.le_refl _⟩⟩
theorem Mach.grow {b' k' : Nat} (M : Mach w F U x mk P b k) (hb : b ≤ b') (hk : k ≤ k') : Mach w F U x mk P b' k' := by
  obtain ⟨T, Tp, g, c, np, a1, a2, a3, a4, a5, a6⟩ := M; exact ⟨T, Tp, g, c, np, a1, a2, a3, a4, by lia, by lia⟩
theorem PendIn.mono {F F' Tp : Led} {ps : Addr} {np : Nat} (h : PendIn w F Tp ps P np) (hF : ∀ p ∈ F, p ∈ F') : PendIn w F' Tp ps P np := by
  obtain ⟨o, vals, h1, h2, h3, h4, h5⟩ := h
  have hs : ∀ p ∈ F ++ Tp, p ∈ F' ++ Tp := fun p hp => by
    rcases List.mem_append.mp hp with hp | hp
    · exact List.mem_append_left _ (hF p hp)
    · exact List.mem_append_right _ hp
  refine ⟨o, vals, h1, h2, h3, fun v hv => ?_, fun k hk => ?_⟩
  · obtain ⟨b, k, e, h, r⟩ := h4 v hv
    exact ⟨b, k, e, h.mono hs, r⟩
  · obtain ⟨b, e, h⟩ := h5 k hk
    exact ⟨b, e, h.mono hs⟩
theorem Mach.frame {F' : Led} (M : Mach w F U x mk P b k) (hF : ∀ p ∈ F, p ∈ F') : Mach w F' U x mk P b k := by
  obtain ⟨T, Tp, g, c, np, a1, a2, a3, a4, a5, a6⟩ := M; exact ⟨T, Tp, g, c, np, a1, a2, a3, a4.mono hF, a5, a6⟩
noncomputable def Step (n : Int) (q : List Str) (mk : Marks) (P : Wait) (mk' : Marks) (P' : Wait) : Prop :=
  (n.fmod 5 = 0 ∧ mk' = setMk mk q false (n.fmod 2) ∧ P' = P) ∨ (n.fmod 5 = 1 ∧ mk' = setMk mk q true (n.fmod 2) ∧ P' = P) ∨
  (n.fmod 5 = 2 ∧ mk' = mk ∧ P' = fun k => P k ∨ k = (q, n.fmod 2)) ∨ (n.fmod 5 = 3 ∧ finMk mk mk' P ∧ P' = fun _ => False) ∨ (n.fmod 5 = 4 ∧ mk' = cutMk mk q ∧ P' = P)
end
end

section
open PySem PySem.W PyProof.Rows
theorem step_meets {w : World} {F V U : Led} {x key : Addr} {mk : Marks} {P : Wait} {b k : Nat} {q : List Str} {n : Int} {t : Tok}
    (M : Mach w F U x mk P b k) (hFV : ∀ e ∈ F, e ∈ V) (K : WayIn w F key q) (hq : q.length ≤ 25) (hq0 : n.fmod 5 ≠ 3 → q ≠ []) (hap : Apart V U) (hk70 : k < 70) (hP : ∀ k, P k → k.1.length ≤ 25 ∧ (k.2 = 0 ∨ k.2 = 1)) (hb : b < 5000000) :
    Meets w 84 [.ref x, .int n t, .ref key] [] (V ++ U) 19 200
      (fun r W' => r = .none ∧ ∃ U' mk' P', W' = V ++ U' ∧ Apart V U' ∧ Mach w F U' x mk' P' (b + 25) (k + 1) ∧ Step n q mk P mk' P') := by
  intro p loose mean mg mb dp un gd cn cs a ccd cl outer A₀ base h₀ L m s Q E B FR KX N TP hk hdp hun ret
  refine kf ?_
  k_fill
  intro _
  refine wpAny_call ?_
  k_dflt ktr_enter
  rename_i g1 L1 h1 FG F1 N1 B1 X1 T1
  replace F1 : Fr g1 L1 h1 (fun y => List.lookup y [(Str.ofString "way", .ref key), (Str.ofString "x", .int n t), (Str.ofString "machine", .ref x)]) := F1
  refine wpAny_noRaise ?_
  have M0 := M
  obtain ⟨T, Tp, g, c, np, rfl, ap, X, PI, hb1, hk1⟩ := M0
  have xi := X.inst
  obtain ⟨n1, t1, n2, t2, kk, xd⟩ := X.idict
  replace xi : (x, instObj 66 g.dx) ∈ V ++ (T ++ Tp) := by walk_at "mem"
  replace xd := List.mem_append_right V (List.mem_append_left Tp xd)
  have hf2 : n.fmod 2 = 0 ∨ n.fmod 2 = 1 := by
    have e2 : 0 ≤ n.fmod 2 := Int.fmod_nonneg_of_pos _ (by omega)
    have e3 : n.fmod 2 < 2 := Int.fmod_lt_of_pos _ (by omega)
    omega
  have hf5 : 0 ≤ n.fmod 5 ∧ n.fmod 5 < 5 := ⟨Int.fmod_nonneg_of_pos _ (by omega), Int.fmod_lt_of_pos _ (by omega)⟩
  have KV := K.mono hFV
  (repeat' (first | walk_at "u" | ((fail_if_success with_reducible first | show G9); walk1)))
  · refine Meets.call (dp := dp + 1) (un := un + 3) (mach_set (d := false) M KV hq (hq0 (by omega)) hf2 hap hb) B1 (by assumption) X1 (by assumption) T1 rfl (room2 hdp) (room2 hun) ?_
    rintro r5 s5 W5 K5 F5 N5 ⟨rfl, U', rfl, A5, M5⟩
    (repeat' (first | walk_at "u" | ((fail_if_success with_reducible first | show G9); walk1)))
    exact ret _ _ _ K5 (by assumption) (by assumption) ⟨rfl, U', _, _, rfl, A5, M5.grow (Nat.le_refl _) (by omega), .inl ⟨by assumption, rfl, rfl⟩⟩
  · refine Meets.call (dp := dp + 1) (un := un + 3) (mach_set (d := true) M KV hq (hq0 (by omega)) hf2 hap hb) B1 (by assumption) X1 (by assumption) T1 rfl (room2 hdp) (room2 hun) ?_
    rintro r5 s5 W5 K5 F5 N5 ⟨rfl, U', rfl, A5, M5⟩
    (repeat' (first | walk_at "u" | ((fail_if_success with_reducible first | show G9); walk1)))
    exact ret _ _ _ K5 (by assumption) (by assumption) ⟨rfl, U', _, _, rfl, A5, M5.grow (Nat.le_refl _) (by omega), .inr (.inl ⟨by assumption, rfl, rfl⟩)⟩
  · refine Meets.call (dp := dp + 1) (un := un + 3) (mach_pend M hFV K (hq0 (by omega)) hap hk70) B1 (by assumption) X1 (by assumption) T1 rfl (room2 hdp) (room2 hun) ?_
    rintro r5 s5 W5 K5 F5 N5 ⟨rfl, U', rfl, A5, M5⟩
    (repeat' (first | walk_at "u" | ((fail_if_success with_reducible first | show G9); walk1)))
    exact ret _ _ _ K5 (by assumption) (by assumption) ⟨rfl, U', _, _, rfl, A5, M5, .inr (.inr (.inl ⟨by assumption, rfl, rfl⟩))⟩
  · refine Meets.call (dp := dp + 1) (un := un + 3) (mach_fin M hFV hap hk70 hP hb) B1 (by assumption) X1 (by assumption) T1 rfl (room2 hdp) (room2 hun) ?_
    rintro r5 s5 W5 K5 F5 N5 ⟨rfl, U', mk', rfl, A5, M5, h5⟩
    (repeat' (first | walk_at "u" | ((fail_if_success with_reducible first | show G9); walk1)))
    exact ret _ _ _ K5 (by assumption) (by assumption) ⟨rfl, U', mk', _, rfl, A5, M5.grow (by omega) (by omega), .inr (.inr (.inr (.inl ⟨by assumption, h5, rfl⟩)))⟩
  · refine Meets.call (dp := dp + 1) (un := un + 3) (mach_unset M KV hq (hq0 (by omega)) hap hb) B1 (by assumption) X1 (by assumption) T1 rfl (room2 hdp) (room2 hun) ?_
    rintro r5 s5 W5 K5 F5 N5 ⟨rfl, U', rfl, A5, M5⟩
    (repeat' (first | walk_at "u" | ((fail_if_success with_reducible first | show G9); walk1)))
    exact ret _ _ _ K5 (by assumption) (by assumption) ⟨rfl, U', _, _, rfl, A5, M5.grow (by omega) (by omega), .inr (.inr (.inr (.inr ⟨by lia, rfl, rfl⟩)))⟩
end

section
open PySem PySem.SeqAt PyProof.Rows PySem.W
section
variable {prog : PySem.Program} {w : World} {A : Around}
theorem compStart_gen {R : Result → Shared → Prop} {s : Shared} {elt : PySem.Expr} {gens : List Comprehension} {scope : Scope} {pos : Pos} {depth : Nat} {it acc : Value} {env : Env} {g : Comprehension} (hg : gens[depth]? = some g) (ha : g.is_async = 0)
    (h0 : codeAny (model prog w) A (.compLoop (.ListComp elt gens scope pos) depth it acc env) R s)
    (h : wpAny (model prog w) A (pyIter it) (fun it' s' => codeAny (model prog w) A (.compLoop (.ListComp elt gens scope pos) depth it' acc env) R s') (fun _ _ => False) s) :
    codeAny (model prog w) A (.compStart (.ListComp elt gens scope pos) depth it acc env) R s := by
  refine codeAny_of_tree ?_
  show wpAny _ _ ((compStart (.ListComp elt gens scope pos) depth it acc env).onRaise (fun x => do noteFrame x env; standAt theWindowsPlace)) _ _ s
  refine wpAny_notedAt ?_
  unfold compStart
  have hc : clausesOf (.ListComp elt gens scope pos) = gens := rfl
  rw [hc, hg]
  have hf : (Option.elim (some g) false fun x => x.is_async != 0) = false := by simp [ha]
  rw [hf]
  refine wpAny_bind (wpAny_askSetting (wpAny_ite ?_))
  split
  · first
      | exact wpAny_bind (wpAny_pure (wpAny_pure (And.intro rfl h0)))
      | exact wpAny_pure (And.intro rfl h0)
  · first
      | exact wpAny_bind (wpAny_rule (wpAny_bind (wpAny_standAt (wpAny_bind (wpAny_mono h (fun it' s' h' => wpAny_pure (And.intro rfl h')) fun _ _ x => x.elim)))))
      | (refine wpAny_bind (wpAny_rule ?_); show wpAny _ _ (standAt g.iter.pos >>= _) _ _ s; exact wpAny_bind (wpAny_standAt (wpAny_bind (wpAny_mono h (fun it' s' h' => wpAny_pure (And.intro rfl h')) fun _ _ x => x.elim))))
noncomputable def compTests (ifs : List PySem.Expr) (env : Env) : Sem Bool := forIn ifs true fun c r => if r = true then do let ok ← isTrue c env (eval c env); pure (ForInStep.yield ok) else pure (ForInStep.yield r)
structure IterC (prog : PySem.Program) (w : World) (A : Around) (target : PySem.Expr) (I : Addr) (n : Nat) (P : Nat → Value → Prop) (Ob : Nat → Obj → Prop) (Src : Heap → Prop) : Prop extends Iter prog w A target I n P Ob Src where
  self : ∀ i (s : Shared) (Q : Value → Shared → Prop) (E : Value → Shared → Prop) o, s.heap.get? I = some o → Ob i o → Q (.ref I) s → wpAny (model prog w) A (pyIter (.ref I)) Q E s
inductive LoopBody (prog : PySem.Program) (w : World) (A : Around) (h₀ : Heap) (C : Addr) (cenv : Env) (Em : (Shared → Prop) → Shared → Prop) (g : Comprehension) (it : Value) (K : Shared → Prop) (s : Shared) : Prop
  | mk (I : Addr) (n : Nat) (P : Nat → Value → Prop) (Ob : Nat → Obj → Prop) (Src : Heap → Prop) (m₀ : Str → Option Value) (W₀ : Led) (o₀ : Obj) (J : Nat → (Str → Option Value) → Led → Prop)
    (hit : it = .ref I) (It : IterC prog w A g.target I n P Ob Src) (hsrc : ∀ i m W h, J i m W → Fr h₀ C h m → News h₀ C h W → Src h)
    (F : Fr h₀ C s.heap m₀) (N : News h₀ C s.heap ((I, o₀) :: W₀)) (hO : Ob 0 o₀) (hoff : ∀ p ∈ W₀, p.1 ≠ I) (hJ : J 0 m₀ W₀)
    (turn : ∀ i v m W oI (s₁ : Shared), i < n → P i v → J i m W → (∀ p ∈ W, p.1 ≠ I) → Fr h₀ C s₁.heap m → News h₀ C s₁.heap ((I, oI) :: W) → Kin s s₁ →
      wpAny (model prog w) A (assign g.target cenv v) (fun _ s₂ => wpAny (model prog w) A (compTests g.ifs cenv) (fun ok s₃ =>
        if ok = true then Em (fun s' => NextHere h₀ C I oI (J (i + 1)) s s') s₃ else NextHere h₀ C I oI (J (i + 1)) s s₃) (fun _ _ => False) s₂) (fun _ _ => False) s₁)
    (done : ∀ m W (s₁ : Shared), J n m W → Fr h₀ C s₁.heap m → News h₀ C s₁.heap W → Kin s s₁ → K s₁) : LoopBody prog w A h₀ C cenv Em g it K s
noncomputable def CompEmit (prog : PySem.Program) (w : World) (A : Around) (h₀ : Heap) (C : Addr) (cenv : Env) (elt : PySem.Expr) (acc : Value) : List Comprehension → (Shared → Prop) → Shared → Prop
  | [], K, s => wpAny (model prog w) A (eval elt cenv) (fun x s₄ => wpAny (model prog w) A (call (.builtin "list.append") [acc, x]) (fun _ s₅ => K s₅) (fun _ _ => False) s₄) (fun _ _ => False) s
  | g :: r, K, s => wpAny (model prog w) A (eval g.iter cenv) (fun x s₁ => wpAny (model prog w) A (pyIter x) (fun it s₂ => LoopBody prog w A h₀ C cenv (CompEmit prog w A h₀ C cenv elt acc r) g it K s₂) (fun _ _ => False) s₁) (fun _ _ => False) s
theorem comp_loop {h₀ : Heap} {elt : PySem.Expr} {gens : List Comprehension} {scope : Scope} {pos : Pos} {acc : Value} {C : Addr} {cenv : Env} {depth : Nat} {g : Comprehension} {it : Value} {K : Shared → Prop} {s : Shared} {Em : (Shared → Prop) → Shared → Prop}
    (hg : gens[depth]? = some g) (ha : g.is_async = 0)
    (hEm : (gens[depth + 1]? = none ∧ ∀ K s, Em K s → wpAny (model prog w) A (eval elt cenv) (fun x s₄ => wpAny (model prog w) A (call (.builtin "list.append") [acc, x]) (fun _ s₅ => K s₅) (fun _ _ => False) s₄) (fun _ _ => False) s) ∨
      ∃ g2, gens[depth + 1]? = some g2 ∧ g2.is_async = 0 ∧ (∀ x, foldedSetIterable g2.iter cenv x = pure x) ∧ ∀ K s, Em K s → wpAny (model prog w) A (eval g2.iter cenv) (fun x s₁ => wpAny (model prog w) A (pyIter x) (fun it2 s₂ =>
        codeAny (model prog w) A (.compStart (.ListComp elt gens scope pos) (depth + 1) it2 acc cenv) (fun r s' => r = .ok .next ∧ K s') s₂) (fun _ _ => False) s₁) (fun _ _ => False) s)
    (H : LoopBody prog w A h₀ C cenv Em g it K s) :
    codeAny (model prog w) A (.compLoop (.ListComp elt gens scope pos) depth it acc cenv) (fun r s' => r = .ok .next ∧ K s') s := by
  obtain ⟨I, n, P, Ob, Src, m₀, W₀, o₀, J, rfl, It, hsrc, F, N, hO, hoff, hJ, turn, done⟩ := H
  have hI := N _ List.mem_cons_self
  have hIL : I ≠ C := hI.2.1
  have hI₀ : h₀.get? I = none := hI.2.2
  refine codeAny_loop rfl
    (fun k s' => ∃ m W i o, s'.heap.get? I = some o ∧ Ob i o ∧ Fr h₀ C s'.heap m ∧ News h₀ C s'.heap W ∧ (∀ p ∈ W, p.1 ≠ I) ∧ J i m W ∧ Kin s s' ∧ i ≤ n ∧ k = n + 1 - i) ?_ (n + 1)
    ⟨m₀, W₀, 0, o₀, hI.1, hO, F, fun p hp => N p (mct _ hp), hoff, hJ, Kin.refl s, Nat.zero_le _, rfl⟩
  rintro k s' ⟨m, W, i, o, ho', hO', F', N', hoff', hJ', hK, hi, rfl⟩
  show wpAny _ _ ((compTurn (.ListComp elt gens scope pos) depth (.ref I) acc cenv).onRaise (fun x => do noteFrame x cenv; theTreesLotGoes x)) _ _ s'
  refine wpAny_noted ?_
  unfold compTurn
  dsimp only
  rw [hg]
  dsimp only
  have hf : (g.is_async != 0) = false := by simp [ha]
  rw [hf]
  refine wpAny_bind (wpAny_standAt (wpAny_bind ?_))
  by_cases hlt : i < n
  · refine It.item i s' _ _ o hlt ho' hO' (hsrc i m W _ hJ' F' N') fun v o' h' tk hP hO2 hs ho2 => ?_
    have F₁ : Fr h₀ C h' m := fr_same F' hs.extBut hIL hI₀
    have N₁ : News h₀ C h' ((I, o') :: W) := fun p hp => by
      rcases List.mem_cons.mp hp with rfl | hp
      · exact ⟨ho2, hIL, hI₀⟩
      · exact news_same N' hs.extBut hoff' p hp
    have fin : ∀ s₃, NextHere h₀ C I o' (J (i + 1)) s s₃ →
        ∃ k', k' < n + 1 - i ∧ ∃ m W i o, s₃.heap.get? I = some o ∧ Ob i o ∧ Fr h₀ C s₃.heap m ∧ News h₀ C s₃.heap W ∧ (∀ p ∈ W, p.1 ≠ I) ∧ J i m W ∧ Kin s s₃ ∧ i ≤ n ∧ k' = n + 1 - i := by
      rintro s₃ ⟨m', W', F₃, N₃, off₃, J₃, K₃⟩
      exact ⟨n + 1 - (i + 1), by omega, m', W', i + 1, o', (N₃ _ List.mem_cons_self).1, hO2, F₃, fun p hp => N₃ p (mct _ hp), off₃, J₃, K₃, hlt, rfl⟩
    refine wpAny_bind (It.go (i + 1) v _ _ _ o' ho2 hO2 ?_)
    refine wpAny_bind (wpAny_mono (turn i v m W o' { s' with heap := h', toks := tk } hlt hP hJ' hoff' F₁ N₁ hK) (fun _ s₂ h₂ => ?_) fun _ _ e => e.elim)
    refine wpAny_bind (wpAny_mono h₂ (fun ok s₃ h₃ => ?_) fun _ _ e => e.elim)
    cases ok with
    | false => exact wpAny_pure ⟨rfl, fin s₃ h₃⟩
    | true =>
      simp only [if_true]
      rcases hEm with ⟨hn, hEm⟩ | ⟨g2, hn, ha2, hf2, hEm⟩
      · rw [hn]
        dsimp only
        exact wpAny_bind (wpAny_bind (wpAny_mono (hEm _ _ h₃) (fun x s₄ h₄ => wpAny_bind (wpAny_mono h₄ (fun _ s₅ h₅ => wpAny_pure (wpAny_pure ⟨rfl, fin s₅ h₅⟩)) fun _ _ e => e.elim)) fun _ _ e => e.elim))
      · rw [hn]
        dsimp only
        have hf' : (g2.is_async != 0) = false := by simp [ha2]
        rw [hf']
        refine wpAny_bind (wpAny_mono (hEm _ _ h₃) (fun x s₁ h₁ => wpAny_bind (wpAny_standAt (wpAny_bind (wpAny_of_eq (hf2 x) (wpAny_bind (wpAny_holding (wpAny_mono h₁ (fun it2 s₂ h₂ => ?_) fun _ _ e => e.elim))))))) fun _ _ e => e.elim)
        refine wpAny_bind (wpAny_runOwn (codeAny_mono h₂ fun r s' hr => ?_))
        obtain ⟨rfl, hK⟩ := hr
        exact wpAny_pure ⟨rfl, fin s' hK⟩
  · have hin : i = n := by lia
    subst hin
    refine It.done s' _ _ o ho' hO' (hsrc i m W _ hJ' F' N') fun h' tk hs => ?_
    exact wpAny_pure ⟨rfl, done m W { s' with heap := h', toks := tk } hJ' (fr_same F' hs hIL hI₀) (news_same N' hs hoff') hK⟩
theorem comp_code {h₀ : Heap} {elt : PySem.Expr} {gens : List Comprehension} {scope : Scope} {pos : Pos} {acc : Value} {C : Addr} {cenv : Env} (hasync : ∀ g ∈ gens, g.is_async = 0) (hfold : ∀ g ∈ gens, ∀ x, foldedSetIterable g.iter cenv x = pure x) :
    ∀ (rest : List Comprehension) (depth : Nat) (g : Comprehension) (it : Value) (K : Shared → Prop) (s : Shared), gens[depth]? = some g → gens.drop (depth + 1) = rest → LoopBody prog w A h₀ C cenv (CompEmit prog w A h₀ C cenv elt acc rest) g it K s →
      codeAny (model prog w) A (.compLoop (.ListComp elt gens scope pos) depth it acc cenv) (fun r s' => r = .ok .next ∧ K s') s := by
  intro rest
  induction rest with
  | nil =>
    intro depth g it K s hg hr H
    have hn : gens[depth + 1]? = none := by
      have := congrArg (fun l => l[0]?) hr
      simpa using this
    exact comp_loop hg (hasync g (List.mem_of_getElem? hg)) (.inl ⟨hn, fun K s h => h⟩) H
  | cons g2 r ih =>
    intro depth g it K s hg hr H
    have hn : gens[depth + 1]? = some g2 := by
      have := congrArg (fun l => l[0]?) hr
      simpa using this
    have hr2 : gens.drop (depth + 1 + 1) = r := by
      have := congrArg (fun l => l.drop 1) hr
      simpa using this
    have hm2 : g2 ∈ gens := List.mem_of_getElem? hn
    have ha2 : g2.is_async = 0 := hasync g2 hm2
    refine comp_loop hg (hasync g (List.mem_of_getElem? hg)) (.inr ⟨g2, hn, ha2, hfold g2 hm2, fun K s h => wpAny_mono h (fun x s₁ h₁ => wpAny_mono h₁ (fun it2 s₂ h₂ => ?_) fun _ _ e => e) fun _ _ e => e⟩) H
    have go : codeAny (model prog w) A (.compLoop (.ListComp elt gens scope pos) (depth + 1) it2 acc cenv) (fun r s' => r = .ok .next ∧ K s') s₂ := ih (depth + 1) g2 it2 K s₂ hn hr2 h₂
    refine compStart_gen hn ha2 go ?_
    obtain ⟨I, n, P, Ob, Src, m₀, W₀, o₀, J, rfl, It, hsrc, F, N, hO, more⟩ := id h₂
    exact It.self 0 s₂ _ _ o₀ (N _ List.mem_cons_self).1 hO go
theorem LoopBody.mono {h₀ : Heap} {C : Addr} {cenv : Env} {Em : (Shared → Prop) → Shared → Prop} {g : Comprehension} {it : Value} {K K' : Shared → Prop} {s : Shared} (H : LoopBody prog w A h₀ C cenv Em g it K s) (h : ∀ s, K s → K' s) : LoopBody prog w A h₀ C cenv Em g it K' s := by
  cases H with
  | mk I n P Ob Src m₀ W₀ o₀ J a1 a2 a3 a4 a5 a6 a7 a8 a9 a10 => exact .mk I n P Ob Src m₀ W₀ o₀ J a1 a2 a3 a4 a5 a6 a7 a8 a9 fun m W s₁ x1 x2 x3 x4 => h _ (a10 m W s₁ x1 x2 x3 x4)
noncomputable def CompDone (h₀ : Heap) (L C : Addr) (m₂ : Str → Option Value) (Fin : Led → Shared → Prop) (s₄ : Shared) : Prop :=
  ∃ m' W' oL, LCg.NsObj oL m₂ ∧ Fr h₀ C s₄.heap m' ∧ News h₀ C s₄.heap ((L, oL) :: W') ∧ (∀ p ∈ W', @Ne Nat p.1 L) ∧ Fin W' s₄
noncomputable def cEnv (S : Scope) (cl : List (Str × Addr)) (C : Addr) (env : Env) : Env :=
  { scope := S, locals := C, globals := env.globals, cells := cl, qual := env.qual, func := none, code := env.code, frame := env.frame, builtins := env.builtins }
theorem comp_core {h₀ : Heap} {L : Addr} {E : Value → Shared → Prop} {s : Shared} {env : Env} {elt : PySem.Expr} {g : Comprehension} {rest : List Comprehension} {scope S : Scope} {pos pos' : Pos} {cl : List (Str × Addr)} {Q : Value → Shared → Prop} {use : Option (Value → Sem Unit)}
    (hclos : closureFor scope env = pure cl) (hrel : relabel scope env = S) (hcell : ∀ y ∈ scope.names, y.2 ≠ .cell) (hkind : scope.kind = .function)
    (hnames : ∀ y ∈ scope.names, y.2 = .local → scope.names.lookup y.1 = some .local) (hasync : ∀ g' ∈ g :: rest, g'.is_async = 0) (hs : ∀ x, foldedSetIterable g.iter env x = pure x)
    (hfold : ∀ C, ∀ g' ∈ g :: rest, ∀ x, foldedSetIterable g'.iter (cEnv S cl C env) x = pure x)
    (h : wpAny (model prog w) A (eval g.iter env) (fun xv s₁ => wpAny (model prog w) A (pyIter xv) (fun it s₂ => ∃ (m₂ : Str → Option Value) (W : Led), Fr h₀ L s₂.heap m₂ ∧ News h₀ L s₂.heap W ∧
      ∀ (D C : Nat) (oL : Obj) (s₃ : Shared), Kin s₂ s₃ → LCg.NsObj oL m₂ → (∀ p ∈ W, p.1 < D) → L < D → D < C → Fr h₀ C s₃.heap (fun _ => none) → News h₀ C s₃.heap ((D, PySem.W.listOf #[] 0) :: (L, oL) :: W) →
        LoopBody prog w A h₀ C (cEnv S cl C env) (CompEmit prog w A h₀ C (cEnv S cl C env) elt (.ref D) rest) g it
          (fun s₄ => compPost (model prog w) A E use Q (.ref D) C (.ok .next) s₄) s₃) E s₁) E s) :
    wpAny (model prog w) A (comprehension (.ListComp elt (g :: rest) scope pos) scope env pos' (newList []) false (eval g.iter env) use) Q E s := by
  refine wpAny_comprehension_free rfl hs hclos hkind hnames (wpAny_mono h (fun xv s₁ h₁ => wpAny_mono h₁ (fun it s₂ h₂ => ?_) fun _ _ e => e) fun _ _ e => e)
  obtain ⟨m₂, W, F, N, H⟩ := h₂
  refine wpAny_newObj_type (wpAny_newFunctionEnv hcell (by intro y hy; simp at hy) (fun h₁ hns₁ hsb₁ => ?_) hkind)
  dsimp only at hns₁ hsb₁ ⊢
  obtain ⟨oL, hoL, nsL⟩ := LCg.ns_obj F.ns
  have hLlt : L < s₂.heap.objs.size := F.ns.lt
  generalize hH2 : s₂.heap.push { cls := .type "list", dict := none, data := .seq ([] : List Value).toArray } = H2 at hns₁ hsb₁ ⊢
  have hC : H2.objs.size = s₂.heap.objs.size + 1 := by rw [← hH2, Heap.size_push]
  have old : ∀ b o, s₂.heap.get? b = some o → h₁.get? b = some o := fun b o e => hsb₁.extBut b o (by rw [hC]; exact Nat.ne_of_lt (Nat.lt_succ_of_lt (Heap.lt_size e))) (Heap.get?_push_of_some _ (hH2 ▸ Heap.get?_push_of_some _ e))
  have hacc : h₁.get? s₂.heap.objs.size = some (PySem.W.listOf #[] 0) := hsb₁.extBut _ _ (by rw [hC]; exact Nat.ne_of_lt (Nat.lt_succ_self _)) (Heap.get?_push_of_some _ (hH2 ▸ Heap.get?_push_size _ rfl))
  have hlarge : ∀ a : Nat, s₂.heap.objs.size ≤ a → h₀.get? a = none := fun a ha => fresh_none F ha
  have habove : h₀.objs.size ≤ L := F.above
  have FC : Fr h₀ H2.objs.size h₁ (fun _ => none) := ⟨by simpa using hns₁, fun b o e => old b o (F.keep b o e), by rw [hC]; exact Nat.le_of_lt (Nat.lt_succ_of_lt (Nat.lt_of_le_of_lt habove hLlt))⟩
  have hWlt : ∀ p ∈ W, p.1 < s₂.heap.objs.size := fun p hp => Heap.lt_size (N p hp).1
  have hL₀ : h₀.get? L = none := by
    cases e : h₀.get? L with
    | none => rfl
    | some o => exact absurd (Heap.lt_size e) (Nat.not_lt.mpr habove)
  have NC : News h₀ H2.objs.size h₁ ((s₂.heap.objs.size, PySem.W.listOf #[] 0) :: (L, oL) :: W) := fun p hp => by
    rcases List.mem_cons.mp hp with rfl | hp
    · exact ⟨hacc, by rw [hC]; exact Nat.ne_of_lt (Nat.lt_succ_self _), hlarge _ (Nat.le_refl _)⟩
    · rcases List.mem_cons.mp hp with rfl | hp
      · exact ⟨old _ _ hoL, by rw [hC]; exact Nat.ne_of_lt (Nat.lt_succ_of_lt hLlt), hL₀⟩
      · exact ⟨old _ _ (N p hp).1, by rw [hC]; exact Nat.ne_of_lt (Nat.lt_succ_of_lt (hWlt p hp)), (N p hp).2.2⟩
  have body := H s₂.heap.objs.size H2.objs.size oL { s₂ with heap := h₁, toks := s₂.toks + ([] : List (Str × Value)).length } ⟨rfl, rfl⟩ nsL hWlt hLlt (by rw [hC]; exact Nat.lt_succ_self _) FC NC
  subst hrel
  have go : ∀ s', LoopBody prog w A h₀ H2.objs.size (cEnv (relabel scope env) cl H2.objs.size env) (CompEmit prog w A h₀ H2.objs.size (cEnv (relabel scope env) cl H2.objs.size env) elt (.ref s₂.heap.objs.size) rest) g it (fun s₄ => compPost (model prog w) A E use Q (.ref s₂.heap.objs.size) H2.objs.size (.ok .next) s₄) s' →
      codeAny (model prog w) A (.compLoop (.ListComp elt (g :: rest) scope pos) 0 it (.ref s₂.heap.objs.size) (cEnv (relabel scope env) cl H2.objs.size env)) _ s' := fun s' H' => comp_code hasync (hfold _) rest 0 g it _ s' rfl rfl H'
  refine codeAny_mono (compStart_gen rfl (hasync g List.mem_cons_self) (go _ body) ?_) fun r s' hr => ?_
  · obtain ⟨I, n, P, Ob, Src, m₀, W₀, o₀, J, rfl, It, hsrc, F', N', hO, more⟩ := id body
    exact It.self 0 _ _ _ o₀ (N' _ List.mem_cons_self).1 hO (go _ body)
  · obtain ⟨rfl, hp⟩ := hr
    exact hp
theorem comp_back {h₀ h h' : Heap} {L C : Nat} {oL : Obj} {m₂ m' : Str → Option Value} {W' : Led} (F : Fr h₀ C h m') (N : News h₀ C h ((L, oL) :: W')) (hne : ∀ p ∈ W', @Ne Nat p.1 L) (nsL : LCg.NsObj oL m₂) (habove : h₀.objs.size ≤ L) (hLC : L < C) (hs' : Heap.SameBut C h h') :
    Fr h₀ L h' m₂ ∧ News h₀ L h' W' := by
  have zL := N (L, oL) List.mem_cons_self
  refine ⟨⟨nsL.ns (hs'.extBut _ _ zL.2.1 zL.1), fun b o e => ?_, habove⟩, fun p hp => ?_⟩
  · exact hs'.extBut _ _ (Nat.ne_of_lt (Nat.lt_of_lt_of_le (Heap.lt_size e) (Nat.le_of_lt (Nat.lt_of_le_of_lt habove hLC)))) (F.keep b o e)
  · have z := N p (mct _ hp)
    exact ⟨hs'.extBut _ _ z.2.1 z.1, hne p hp, z.2.2⟩
theorem ListComp_led {h₀ : Heap} {L : Addr} {m : Str → Option Value} {E : Value → Shared → Prop} {s : Shared} {env : Env} {elt : PySem.Expr} {g : Comprehension} {rest : List Comprehension} {scope S : Scope} {pos : Pos} {cl : List (Str × Addr)} {Q : Value → Shared → Prop}
    (_F : Fr h₀ L s.heap m) (hclos : closureFor scope env = pure cl) (hrel : relabel scope env = S) (hcell : ∀ y ∈ scope.names, y.2 ≠ .cell) (hkind : scope.kind = .function)
    (hnames : ∀ y ∈ scope.names, y.2 = .local → scope.names.lookup y.1 = some .local) (hasync : ∀ g' ∈ g :: rest, g'.is_async = 0) (hs : ∀ x, foldedSetIterable g.iter env x = pure x)
    (hfold : ∀ C, ∀ g' ∈ g :: rest, ∀ x, foldedSetIterable g'.iter (cEnv S cl C env) x = pure x)
    (h : wpAny (model prog w) A (eval g.iter env) (fun xv s₁ => wpAny (model prog w) A (pyIter xv) (fun it s₂ => ∃ (m₂ : Str → Option Value) (W : Led), Fr h₀ L s₂.heap m₂ ∧ News h₀ L s₂.heap W ∧
      ∀ (D C : Nat) (oL : Obj) (s₃ : Shared), Kin s₂ s₃ → LCg.NsObj oL m₂ → (∀ p ∈ W, p.1 < D) → L < D → D < C → Fr h₀ C s₃.heap (fun _ => none) → News h₀ C s₃.heap ((D, PySem.W.listOf #[] 0) :: (L, oL) :: W) →
        LoopBody prog w A h₀ C (cEnv S cl C env) (CompEmit prog w A h₀ C (cEnv S cl C env) elt (.ref D) rest) g it
          (CompDone h₀ L C m₂ fun W' s₄ => ∀ s₅, Kin s₄ s₅ → Fr h₀ L s₅.heap m₂ → News h₀ L s₅.heap W' → Q (.ref D) s₅) s₃) E s₁) E s) :
    wpAny (model prog w) A (eval (.ListComp elt (g :: rest) scope pos) env) Q E s := by
  have ha : firstAsync (g :: rest) = false := by
    have := hasync g List.mem_cons_self
    obtain ⟨t, i, f, a⟩ := g
    dsimp only at this
    subst this
    rfl
  have hi : firstIter (g :: rest) env = eval g.iter env := by cases g; rfl
  rw [eval_ListComp, ha, hi]
  refine comp_core (h₀ := h₀) (L := L) (use := none) hclos hrel hcell hkind hnames hasync hs hfold (wpAny_mono h (fun xv s₁ h₁ => wpAny_mono h₁ (fun it s₂ h₂ => ?_) fun _ _ e => e) fun _ _ e => e)
  obtain ⟨m₂, W, F, N, H⟩ := h₂
  refine ⟨m₂, W, F, N, fun D C oL s₃ K nsL hW hLD hDC FC NC => (H D C oL s₃ K nsL hW hLD hDC FC NC).mono fun s₄ hd => ?_⟩
  obtain ⟨m', W', oL, nsL, F4, N4, hne, fin⟩ := hd
  exact ⟨m', F4.ns, fun h' hs' => let ⟨a, b⟩ := comp_back F4 N4 hne nsL F.above (Nat.lt_trans hLD hDC) hs'; fin { s₄ with heap := h' } ⟨rfl, rfl⟩ a b⟩
theorem Assign_ListComp_led {h₀ : Heap} {L : Addr} {m : Str → Option Value} {E : Value → Shared → Prop} {s : Shared} {env : Env} {elt : PySem.Expr} {g : Comprehension} {rest : List Comprehension} {scope S : Scope} {pos py spos : Pos} {y : Str} {cl : List (Str × Addr)} {Q : Flow → Shared → Prop}
    (_F : Fr h₀ L s.heap m) (hLe : env.locals = L) (hsw : swapsWith (.ListComp elt (g :: rest) scope pos) (some (.Name y py)) spos.line env = pure true) (hy : env.kindOf y = some .local) (hp : (env.scope.kind == .class || (env.scope.kind == .module && env.locals != env.globals)) = false)
    (hclos : closureFor scope env = pure cl) (hrel : relabel scope env = S) (hcell : ∀ y ∈ scope.names, y.2 ≠ .cell) (hkind : scope.kind = .function)
    (hnames : ∀ y ∈ scope.names, y.2 = .local → scope.names.lookup y.1 = some .local) (hasync : ∀ g' ∈ g :: rest, g'.is_async = 0) (hs : ∀ x, foldedSetIterable g.iter env x = pure x)
    (hfold : ∀ C, ∀ g' ∈ g :: rest, ∀ x, foldedSetIterable g'.iter (cEnv S cl C env) x = pure x)
    (h : wpAny (model prog w) A (eval g.iter env) (fun xv s₁ => wpAny (model prog w) A (pyIter xv) (fun it s₂ => ∃ (m₂ : Str → Option Value) (W : Led), Fr h₀ L s₂.heap m₂ ∧ News h₀ L s₂.heap W ∧
      ∀ (D C : Nat) (oL : Obj) (s₃ : Shared), Kin s₂ s₃ → LCg.NsObj oL m₂ → (∀ p ∈ W, p.1 < D) → L < D → D < C → Fr h₀ C s₃.heap (fun _ => none) → News h₀ C s₃.heap ((D, PySem.W.listOf #[] 0) :: (L, oL) :: W) →
        LoopBody prog w A h₀ C (cEnv S cl C env) (CompEmit prog w A h₀ C (cEnv S cl C env) elt (.ref D) rest) g it
          (CompDone h₀ L C m₂ fun W' s₄ => ∀ s₅, Kin s₄ s₅ → Fr h₀ L s₅.heap (fun z => if z = y then some (.ref D) else m₂ z) → News h₀ L s₅.heap W' → Q .next s₅) s₃) E s₁) E s) :
    wpAny (model prog w) A (exec (.Assign [.Name y py] (.ListComp elt (g :: rest) scope pos) spos) env) Q E s := by
  subst hLe
  have ha : firstAsync (g :: rest) = false := by
    have := hasync g List.mem_cons_self
    obtain ⟨t, i, f, a⟩ := g
    dsimp only at this
    subst this
    rfl
  have hi : firstIter (g :: rest) env = eval g.iter env := by cases g; rfl
  rw [exec_Assign_Name_used _ _ _ _ hsw]
  refine wpAny_bind (wpAny_standAt (wpAny_bind ?_))
  show wpAny _ A (do let _ ← comprehension (.ListComp elt (g :: rest) scope pos) scope env _ (newList []) (firstAsync (g :: rest)) (firstIter (g :: rest) env) (some (assign (.Name y py) env))) _ _ s
  rw [ha, hi]
  refine wpAny_bind (wpAny_mono (comp_core (h₀ := h₀) (L := env.locals) (use := some (assign (.Name y py) env)) (Q := fun _ s' => Q .next s') hclos hrel hcell hkind hnames hasync hs hfold (wpAny_mono h (fun xv s₁ h₁ => wpAny_mono h₁ (fun it s₂ h₂ => ?_) fun _ _ e => e) fun _ _ e => e)) (fun _ s' hq => wpAny_pure (wpAny_pure hq)) fun _ _ e => e)
  obtain ⟨m₂, W, F, N, H⟩ := h₂
  refine ⟨m₂, W, F, N, fun D C oL s₃ K nsL hW hLD hDC FC NC => (H D C oL s₃ K nsL hW hLD hDC FC NC).mono fun s₄ hd => ?_⟩
  obtain ⟨m', W', oL, nsL, F4, N4, hne, fin⟩ := hd
  have zL := N4 (env.locals, oL) List.mem_cons_self
  refine wpAny_assign_Name (wpAny_storeName_local hy (nsL.ns zL.1) (fun h₂ hn₂ hs₂ => ?_) hp)
  refine ⟨m', F4.ns.sameBut hs₂ (Ne.symm zL.2.1), fun h' hs' => ?_⟩
  obtain ⟨oL2, hoL2, nsL2⟩ := LCg.ns_obj hn₂
  have FC2 : Fr h₀ C h₂ m' := ⟨F4.ns.sameBut hs₂ (Ne.symm zL.2.1), fun b o e => hs₂.extBut b o (fun q => by rw [q, zL.2.2] at e; cases e) (F4.keep b o e), F4.above⟩
  have NC2 : News h₀ C h₂ ((env.locals, oL2) :: W') := fun p hp => by
    rcases List.mem_cons.mp hp with rfl | hp
    · exact ⟨hoL2, zL.2⟩
    · have z := N4 p (mct _ hp)
      exact ⟨hs₂.extBut _ _ (hne p hp) z.1, z.2⟩
  obtain ⟨a, b⟩ := comp_back FC2 NC2 hne nsL2 F.above (Nat.lt_trans hLD hDC) hs'
  exact fin _ ⟨rfl, rfl⟩ a b
end
end

section
open PySem PySem.SeqAt PyProof.Rows PySem.W PySem.Calls
section
variable {prog : PySem.Program} {w : World} {A : Around} {target : PySem.Expr} {E : Value → Shared → Prop} {s : Shared} {h₀ : Heap} {L : Addr} {m : Str → Option Value} {W : Led}
theorem IterC.list (hh : A.handled = none) (I ax : Addr) (items : Array Value) :
    IterC prog w A target I items.size (fun i v => items[i]? = some v) (fun i o => o.cls = .type "list_iterator" ∧ o.data = .fields #[.ref ax, .int i 0]) (fun h => h.IsList ax items) :=
  { Iter.list hh I ax items with self := fun i s Q E o ho hO hQ => wpAny_pyIter_listiter ⟨o, ho, hO⟩ hQ }
theorem IterC.tuple (hh : A.handled = none) (I ax : Addr) (items : Array Value) :
    IterC prog w A target I items.size (fun i v => items[i]? = some v) (fun i o => o.cls = .type "tuple_iterator" ∧ o.data = .fields #[.ref ax, .int i 0]) (fun h => h.IsTuple ax items) :=
  { Iter.tuple hh I ax items with self := fun i s Q E o ho hO hQ => wpAny_pyIter_tupleiter ⟨o, ho, hO⟩ hQ }
theorem IterC.range (hh : A.handled = none) (I : Addr) (a : Int) (n : Nat) :
    IterC prog w A target I n (fun i v => ∃ t, v = .int (a + i) t) (fun i o => o = { cls := .type "range_iterator", data := .fields #[rawInt (a + (i : Nat)), rawInt ((n : Int) - (i : Nat)), rawInt 1] }) (fun _ => True) where
  item := fun i s Q E o hi ho hO _ hQ => by
    refine wpAny_pyNext_range_item (x := a + (i : Nat)) (left := (n : Int) - (i : Nat)) (step := 1) (by rw [hO] at ho; exact ho) (by lia) fun h' hit' hs' => ?_
    have e1 : a + (i : Int) + 1 = a + ((i + 1 : Nat) : Int) := by push_cast; lia
    have e2 : (n : Int) - (i : Int) - 1 = (n : Int) - ((i + 1 : Nat) : Int) := by push_cast; lia
    rw [e1, e2] at hit'
    exact hQ _ _ h' _ ⟨_, rfl⟩ rfl hs' hit'
  done := fun s Q E o ho hO _ hQ => wpAny_pyNext_range_end hh (x := a + (n : Nat)) (left := (n : Int) - (n : Nat)) (step := 1) (by rw [hO] at ho; exact ho) (by lia) fun h' he' => hQ h' s.toks he'
  go := fun i v s Q E o ho hO hQ => by subst hO; exact go_fields ho rfl rfl (by decide) hQ
  self := fun i s Q E o ho hO hQ => wpAny_pyIter_rangeiter (x := a + (i : Nat)) (left := (n : Int) - (i : Nat)) (step := 1) (by rw [hO] at ho; exact ho) hQ
theorem led_tuple {ax : Addr} {o : Obj} {its : List Value} {n : Nat} {Q : Value → Shared → Prop} (F : Fr h₀ L s.heap m) (N : News h₀ L s.heap W) (hm : (ax, o) ∈ W) (hc : o.cls = .type "tuple") (hd : o.data = .seq its.toArray n)
    (h : ∀ (I : Nat) oI h', (∀ p ∈ W, p.1 < I) → Fr h₀ L h' m → News h₀ L h' ((I, oI) :: W) → (oI.cls = .type "tuple_iterator" ∧ oI.data = .fields #[.ref ax, .int 0 0]) → Q (.ref I) { s with heap := h' }) :
    wpAny (model prog w) A (pyIter (.ref ax)) Q E s :=
  wpAny_pyIter_tuple ⟨o, (N _ hm).1, hc, n, hd⟩ (h _ _ _ (fun p hp => Heap.lt_size (N p hp).1) (F.push _) (News.push F N _) ⟨rfl, rfl⟩)
theorem led_list {ax : Addr} {o : Obj} {its : List Value} {n : Nat} {Q : Value → Shared → Prop} (F : Fr h₀ L s.heap m) (N : News h₀ L s.heap W) (hm : (ax, o) ∈ W) (hc : o.cls = .type "list") (hd : o.data = .seq its.toArray n)
    (h : ∀ (I : Nat) oI h', (∀ p ∈ W, p.1 < I) → Fr h₀ L h' m → News h₀ L h' ((I, oI) :: W) → (oI.cls = .type "list_iterator" ∧ oI.data = .fields #[.ref ax, .int 0 0]) → Q (.ref I) { s with heap := h' }) :
    wpAny (model prog w) A (pyIter (.ref ax)) Q E s :=
  wpAny_pyIter_list ⟨o, (N _ hm).1, hc, n, hd⟩ (h _ _ _ (fun p hp => Heap.lt_size (N p hp).1) (F.push _) (News.push F N _) ⟨rfl, rfl⟩)
variable {C : Addr} {cenv : Env} {Em : (Shared → Prop) → Shared → Prop} {g : Comprehension} {K : Shared → Prop} {I : Nat} {oI : Obj}
theorem body_tuple {ax : Addr} {o : Obj} {its : List Value} {n : Nat} (hh : A.handled = none) (J : Nat → (Str → Option Value) → Led → Prop) (F : Fr h₀ C s.heap m) (N : News h₀ C s.heap ((I, oI) :: W)) (hI : oI.cls = .type "tuple_iterator" ∧ oI.data = .fields #[.ref ax, .int 0 0]) (hoff : ∀ p ∈ W, p.1 ≠ I)
    (hc : o.cls = .type "tuple") (hd : o.data = .seq its.toArray n) (hsrc : ∀ i m W', J i m W' → (ax, o) ∈ W') (hJ : J 0 m W)
    (turn : ∀ i v m W oI (s₁ : Shared), its[i]? = some v → J i m W → (∀ p ∈ W, p.1 ≠ I) → Fr h₀ C s₁.heap m → News h₀ C s₁.heap ((I, oI) :: W) → Kin s s₁ →
      ∀ K' : Shared → Prop, (∀ s', NextHere h₀ C I oI (J (i + 1)) s s' → K' s') → wpAny (model prog w) A (assign g.target cenv v) (fun _ s₂ => wpAny (model prog w) A (compTests g.ifs cenv) (fun ok s₃ => if ok = true then Em K' s₃ else K' s₃) (fun _ _ => False) s₂) (fun _ _ => False) s₁)
    (done : ∀ m W (s₁ : Shared), J its.length m W → Fr h₀ C s₁.heap m → News h₀ C s₁.heap W → Kin s s₁ → K s₁) :
    LoopBody prog w A h₀ C cenv Em g (.ref I) K s :=
  ⟨I, its.toArray.size, _, _, _, m, W, oI, J, rfl, IterC.tuple hh I ax its.toArray, fun i m W' h hj F' N' => ⟨o, (N' _ (hsrc i m W' hj)).1, hc, n, hd⟩, F, N, hI, hoff, hJ,
    fun i v m W oI s₁ hi hP hj ho F' N' K' => turn i v m W oI s₁ (by simpa using hP) hj ho F' N' K' _ fun _ x => x, fun m W s₁ hj F' N' K' => done m W s₁ (by simpa using hj) F' N' K'⟩
theorem body_list {ax : Addr} {o : Obj} {its : List Value} {n : Nat} (hh : A.handled = none) (J : Nat → (Str → Option Value) → Led → Prop) (F : Fr h₀ C s.heap m) (N : News h₀ C s.heap ((I, oI) :: W)) (hI : oI.cls = .type "list_iterator" ∧ oI.data = .fields #[.ref ax, .int 0 0]) (hoff : ∀ p ∈ W, p.1 ≠ I)
    (hc : o.cls = .type "list") (hd : o.data = .seq its.toArray n) (hsrc : ∀ i m W', J i m W' → (ax, o) ∈ W') (hJ : J 0 m W)
    (turn : ∀ i v m W oI (s₁ : Shared), its[i]? = some v → J i m W → (∀ p ∈ W, p.1 ≠ I) → Fr h₀ C s₁.heap m → News h₀ C s₁.heap ((I, oI) :: W) → Kin s s₁ →
      ∀ K' : Shared → Prop, (∀ s', NextHere h₀ C I oI (J (i + 1)) s s' → K' s') → wpAny (model prog w) A (assign g.target cenv v) (fun _ s₂ => wpAny (model prog w) A (compTests g.ifs cenv) (fun ok s₃ => if ok = true then Em K' s₃ else K' s₃) (fun _ _ => False) s₂) (fun _ _ => False) s₁)
    (done : ∀ m W (s₁ : Shared), J its.length m W → Fr h₀ C s₁.heap m → News h₀ C s₁.heap W → Kin s s₁ → K s₁) :
    LoopBody prog w A h₀ C cenv Em g (.ref I) K s :=
  ⟨I, its.toArray.size, _, _, _, m, W, oI, J, rfl, IterC.list hh I ax its.toArray, fun i m W' h hj F' N' => ⟨o, (N' _ (hsrc i m W' hj)).1, hc, n, hd⟩, F, N, hI, hoff, hJ,
    fun i v m W oI s₁ hi hP hj ho F' N' K' => turn i v m W oI s₁ (by simpa using hP) hj ho F' N' K' _ fun _ x => x, fun m W s₁ hj F' N' K' => done m W s₁ (by simpa using hj) F' N' K'⟩
end
section
variable {w : World} {A : Around} {E : Value → Shared → Prop} {s : Shared} {h₀ : Heap} {L : Addr} {m : Str → Option Value} {W : Led}
theorem way_add {a b : Addr} {p q : List Str} {Q : Value → Shared → Prop} (F : Fr h₀ L s.heap m) (N : News h₀ L s.heap W) (K1 : WayIn w W a p) (K2 : WayIn w W b q) (hz : p.length + q.length < 2 ^ 20)
    (h : ∀ c o s', Kin s s' → Fr h₀ L s'.heap m → News h₀ L s'.heap ((c, o) :: W) → WayIn w ((c, o) :: W) c (p ++ q) → ((c, o) ∈ W ∨ ∀ r ∈ W, r.1 < c) → (∃ its n, o.data = .seq its n) → Q (.ref c) s') :
    wpAny (model PP w) A (binaryOp .Add (.ref a) (.ref b)) Q E s := by
  obtain ⟨o1, i1, n1, m1, c1, d1, h1⟩ := id K1
  obtain ⟨o2, i2, n2, m2, c2, d2, h2⟩ := id K2
  have l1 := h1.length
  have l2 := h2.length
  have dup : ∀ {c : Addr} {o : Obj}, (c, o) ∈ W → News h₀ L s.heap ((c, o) :: W) := fun hm p hp => by
    rcases List.mem_cons.mp hp with rfl | hp
    · exact N _ hm
    · exact N p hp
  refine add_tuples F N ⟨o1, (N _ m1).1, c1, n1, d1⟩ ⟨o2, (N _ m2).1, c2, n2, d2⟩ (fun e => ?_) (fun _ e => ?_) (fun _ _ h' F' N' => ?_) (by rw [sizeLine_eq]; lia)
  · subst e
    cases h1
    exact h b o2 s ⟨rfl, rfl⟩ F (dup m2) (K2.mono fun p hp => mct _ hp) (.inl m2) ⟨_, _, d2⟩
  · subst e
    cases h2
    rw [List.append_nil] at h
    exact h a o1 s ⟨rfl, rfl⟩ F (dup m1) (K1.mono fun p hp => mct _ hp) (.inl m1) ⟨_, _, d1⟩
  · exact h _ _ { s with heap := h' } ⟨rfl, rfl⟩ F' N' ⟨_, i1 ++ i2, 0, List.mem_cons_self, rfl, rfl, ItemsAre.append h1 h2⟩ (.inr fun r hr => Heap.lt_size (N r hr).1) ⟨_, _, rfl⟩
noncomputable def WaysIn (w : World) (W : Led) (qs : List (List Str)) (its : List Value) : Prop := its.length = qs.length ∧ ∀ (i : Nat) (q : List Str), qs[i]? = some q → ∃ a : Addr, its[i]? = some (Value.ref a) ∧ WayIn w W a q
theorem WaysIn.mono {W' : Led} {qs : List (List Str)} {its : List Value} (h : WaysIn w W qs its) (hs : ∀ p ∈ W, p ∈ W') : WaysIn w W' qs its := ⟨h.1, fun i q hq => let ⟨a, e, k⟩ := h.2 i q hq; ⟨a, e, k.mono hs⟩⟩
theorem WaysIn.get {qs : List (List Str)} {its : List Value} (h : WaysIn w W qs its) {i : Nat} {v : Value} (hv : its[i]? = some v) : ∃ a q, v = .ref a ∧ qs[i]? = some q ∧ WayIn w W a q := by
  have hi := (List.getElem?_eq_some_iff.mp hv).1
  have hq : qs[i]? = some (qs[i]'(Nat.lt_of_lt_of_eq hi h.1)) := List.getElem?_eq_getElem _
  obtain ⟨a, e, k⟩ := h.2 i _ hq
  rw [hv] at e
  exact ⟨a, _, Option.some.inj e, hq, k⟩
end
noncomputable abbrev cc : Str := Str.ofString "c"
noncomputable def ansOf (mk : Marks) (q : List Str) : List Bool := [isAt mk q 0, isAt mk q 1, isAt mk (q ++ [cc]) 0, isAt mk (q ++ [cc]) 1]
noncomputable def answers (mk : Marks) (qs : List (List Str)) : List Bool := qs.flatMap (ansOf mk)
theorem answers_take {mk : Marks} {qs : List (List Str)} {i : Nat} {q : List Str} (h : qs[i]? = some q) : answers mk (qs.take (i + 1)) = answers mk (qs.take i) ++ ansOf mk q := by
  unfold answers
  rw [List.take_add_one, h, List.flatMap_append]
  simp
theorem answers_length (mk : Marks) (qs : List (List Str)) : (answers mk qs).length = 4 * qs.length := by
  unfold answers
  induction qs with
  | nil => rfl
  | cons q r ih => rw [List.flatMap_cons, List.length_append, ih, List.length_cons]; show 4 + _ = _; lia
noncomputable def boolsObj (bs : List Bool) (n : Nat) : Obj := PySem.W.listOf (bs.map Value.bool).toArray n
theorem boolsObj_push (bs : List Bool) (b : Bool) (n : Nat) : PySem.W.listOf ((bs.map Value.bool).toArray.push (.bool b)) (n + 1) = boolsObj (bs ++ [b]) (n + 1) := by
  unfold boolsObj
  simp
section
variable {M : Model} {A : Around} {E : Value → Shared → Prop} {s : Shared} {K : Frag} {h₀ : Heap} {L a C : Addr} {m mg mb : Str → Option Value} {cn : Str} {cs S : Scope} {ccd : Value} {cl cl0 : List (Str × Addr)} {p : PySem.Program} {loose : List Str} {mean : ExcName → Option Value}
  {x : Str} {pos : Pos} {v : Value} {Q : Value → Shared → Prop} {news : List (Addr × Obj)} {c : Addr} {o : Obj}
theorem cname_K (F : Fr h₀ C s.heap m) (X : K.In h₀) (T : TopRead p loose mg mb h₀) (e : nsIn K mainGlobals x = some (some v)) (h : Q v s)
    (hk : S.kind = .function := by rfl) (hx : (cEnv S cl C (envX cn cs L a ccd cl0)).kindOf x = some .globalImplicit := by rfl) (hd : (x == ("__debug__" : Str)) = false := by decide) :
    wpAny M A (eval (.Name x pos) (cEnv S cl C (envX cn cs L a ccd cl0))) Q E s := Name_function_global hk hx (loadGlobal_global (env := cEnv S cl C (envX cn cs L a ccd cl0)) (T.g.keeps F.keep) (mg_of X T.g e) h) hd
theorem cname_B (F : Fr h₀ C s.heap m) (X : K.In h₀) (T : TopRead p loose mg mb h₀) (e : nsIn K mainGlobals x = some none) (hv : bootBuiltins x = some v) (hn : x ≠ "__name__") (h : Q v s)
    (hk : S.kind = .function := by rfl) (hx : (cEnv S cl C (envX cn cs L a ccd cl0)).kindOf x = some .globalImplicit := by rfl) (hd : (x == ("__debug__" : Str)) = false := by decide) :
    wpAny M A (eval (.Name x pos) (cEnv S cl C (envX cn cs L a ccd cl0))) Q E s :=
  Name_function_global hk hx (loadGlobal_builtin (env := cEnv S cl C (envX cn cs L a ccd cl0)) (T.g.keeps F.keep) (mg_none_of X T.g e) (T.b.keeps F.keep) ((T.builtins x hn).trans hv) h) hd
theorem cname_L {env : Env} (F : Fr h₀ C s.heap m) (hv : m x = some v) (h : Q v s)
    (hk : S.kind = .function := by rfl) (hx : (cEnv S cl C env).kindOf x = some .local := by rfl) (hd : (x == ("__debug__" : Str)) = false := by decide) :
    wpAny M A (eval (.Name x pos) (cEnv S cl C env)) Q E s := wpAny_Name (wpAny_loadName_local hk hx F.ns hv h) hd
theorem cname_C {env : Env} (N : News h₀ C s.heap news) (hc : cl.lookup x = some c) (hm : (c, o) ∈ news) (hd : o.data = .cell (some v)) (h : Q v s)
    (hk : S.kind = .function := by rfl) (hx : (cEnv S cl C env).kindOf x = some .cell := by rfl) (hb : (x == ("__debug__" : Str)) = false := by decide) :
    wpAny M A (eval (.Name x pos) (cEnv S cl C env)) Q E s := wpAny_Name (wpAny_loadName_cell hk hx hc ⟨o, N.get hm, hd⟩ h) hb
theorem cstore_L {env : Env} {Q : Unit → Shared → Prop} (F : Fr h₀ C s.heap m) (N : News h₀ C s.heap news)
    (h : ∀ h', Fr h₀ C h' (fun y => if y = x then some v else m y) → News h₀ C h' news → Q () { s with heap := h', toks := s.toks + 1 })
    (hk : S.kind = .function := by rfl) (hx : (cEnv S cl C env).kindOf x = some .local := by rfl) : wpAny M A (storeName (cEnv S cl C env) x v) Q E s :=
  wpAny_storeName_local hx F.ns (fun h' hn hs => h h' (F.set hn hs) (N.set hs)) (by show (S.kind == .class || (S.kind == .module && C != env.globals)) = false; rw [hk]; rfl)
end
section
variable {prog : PySem.Program} {w : World} {A : Around} {E : Value → Shared → Prop} {s : Shared} {env : Env} {X Y : Shared → Prop}
theorem tests_nil (h : X s) : wpAny (model prog w) A (compTests [] env) (fun ok s₃ => if ok = true then X s₃ else Y s₃) E s := wpAny_pure (by simpa using h)
theorem tests_one {c : PySem.Expr} (h : wpAny (model prog w) A (isTrue c env (eval c env)) (fun ok s₃ => if ok = true then X s₃ else Y s₃) E s) : wpAny (model prog w) A (compTests [c] env) (fun ok s₃ => if ok = true then X s₃ else Y s₃) E s :=
  wpAny_tests_one h
end
theorem WayIn.keep2 {w : World} {W W' : Led} {a : Addr} {p : List Str} (h : WayIn w W a p) (hs : ∀ e ∈ W, e.2.cls = .type "tuple" → (∃ its n, e.2.data = .seq its n) → e ∈ W') : WayIn w W' a p := by obtain ⟨o, its, n, hm, hc, hd, r⟩ := h; exact ⟨o, its, n, hs _ hm hc ⟨_, _, hd⟩, hc, hd, r⟩
theorem is_call {w : World} {F U W : Led} {x key : Addr} {mk : Marks} {P : Wait} {b k : Nat} {q : List Str} {f : Int} {tf : Tok} (M : Mach w F U x mk P b k) (K : WayIn w W key q) (hq : q.length < 1000) (hU : ∀ p ∈ U, p ∈ W)
    {p : PySem.Program} {loose : List Str} {mean : ExcName → Option Value} {mg mb : Str → Option Value} {dp un : Nat} {gd : Option (List Code)} {cn : Str} {cs : Scope} {a : Addr} {ccd : Value} {cl : List (Str × Addr)} {outer : List Env} {A₀ : Around} {base h₀ : Heap} {L C : Addr} {oL : Obj} {mC m₂ : Str → Option Value} {s : Shared}
    {Q E : Value → Shared → Prop} (B : Below A₀ base outer h₀) (FC : Fr h₀ C s.heap mC) (X : (hd.heap_39 w.params).In h₀) (N : News h₀ C s.heap ((L, oL) :: W)) (nsL : LCg.NsObj oL m₂) (hWL : ∀ p ∈ W, @Ne Nat p.1 L) (habove : h₀.objs.size ≤ L) (T : Top p loose mean mg mb h₀) (hk : cs.kind = .function) (hdp : dp + 5 < recursionLimit) (hun : un + 50 < cLine)
    (h : ∀ s' oL', Kin s s' → LCg.NsObj oL' m₂ → Fr h₀ C s'.heap mC → News h₀ C s'.heap ((L, oL') :: W) → Q (.bool (isAt mk q f)) s') :
    wpAny (model PP w) (ktrTop dp un gd cn cs L a ccd cl outer) (PySem.call (.ref 63) [.ref x, .ref key, .int f tf] []) Q E s := by
  obtain ⟨oC, hoC, nsC⟩ := LCg.ns_obj FC.ns
  have zL := N (L, oL) List.mem_cons_self
  have FL : Fr h₀ L s.heap m₂ := ⟨nsL.ns zL.1, FC.keep, habove⟩
  have hC₀ : h₀.get? C = none := by
    cases e : h₀.get? C with
    | none => rfl
    | some o => exact absurd (Heap.lt_size e) (Nat.not_lt.mpr FC.above)
  have NL : News h₀ L s.heap (((C, oC) :: W) ++ U) := fun p hp => by
    have hp' : p ∈ (C, oC) :: W := by
      rcases List.mem_append.mp hp with hp | hp
      · exact hp
      · exact mct _ (hU p hp)
    rcases List.mem_cons.mp hp' with rfl | hp'
    · exact ⟨hoC, Ne.symm zL.2.1, hC₀⟩
    · have z := N p (mct _ hp')
      exact ⟨z.1, hWL p hp', z.2.2⟩
  refine (mach_is (V := (C, oC) :: W) M (K.mono fun p hp => mct _ hp) hq).call B FL X NL T hk hdp hun ?_
  rintro r s' W' K' F' N' ⟨rfl, rfl⟩
  obtain ⟨oL', hoL', nsL'⟩ := LCg.ns_obj F'.ns
  have hCC := N' (C, oC) (List.mem_append_left _ List.mem_cons_self)
  refine h s' oL' K' nsL' ⟨nsC.ns hCC.1, F'.keep, FC.above⟩ fun p hp => ?_
  rcases List.mem_cons.mp hp with rfl | hp
  · exact ⟨hoL', zL.2⟩
  · exact ⟨(N' p (List.mem_append_left _ (mct _ hp))).1, (N p (mct _ hp)).2⟩
end

open PySem PySem.W PyProof.Rows
local macro_rules | `(tactic| walk_at "storeName") => `(tactic| (k_here; (with_reducible show wpAny _ _ (storeName (cEnv _ _ _ _) _ _) _ _ _); k_dflt refine cstore_L (by k_asm) (by k_asm) ?_ (by rfl) (by rfl); intro h' F' N'; (try k_sweep)))
local macro_rules | `(tactic| walk_at "eval Name") => `(tactic| (k_here; (with_reducible show wpAny _ _ (eval (Expr.Name _ _) (cEnv _ _ _ _)) _ _ _); k_dflt first
  | refine cname_L (by k_asm) (by rfl) ?_ (by rfl) (by rfl)
  | refine cname_C (by k_asm) (by rfl) (by k_mem) (by k_asm) ?_ (by rfl) (by rfl)
  | refine cname_K (by k_asm) (by k_asm) (by k_asm) (by k_is) ?_ (by rfl) (by rfl)
  | refine cname_B (by k_asm) (by k_asm) (by k_asm) (by k_is) (by boot_fast) (by decide) ?_ (by rfl) (by rfl)))
local macro_rules | `(tactic| walk_at "eval Name") => `(tactic| (k_here; (with_reducible show wpAny _ _ (eval (Expr.Name _ _) (envX _ _ _ _ _ _)) _ _ _); k_dflt refine nameX_L (by k_asm) (by repeat (first | assumption | exact if_pos rfl | refine (if_neg (by decide)).trans ?_)) ?_ (by rfl) (by rfl)))
section
open PySem PySem.W PyProof.Rows
theorem answers_meets {w : World} {F V U : Led} {x wl : Addr} {mk : Marks} {P : Wait} {b k : Nat} {qs : List (List Str)} {wo : Obj} {its : List Value} {nw : Nat}
    (M : Mach w F U x mk P b k) (hwl : (wl, wo) ∈ V) (hwc : wo.cls = .type "list") (hwd : wo.data = .seq its.toArray nw) (hws : WaysIn w V qs its) (hql : ∀ q ∈ qs, q.length < 500) (hqn : qs.length < 20000) :
    Meets w 89 [.ref x, .ref wl] [] (V ++ U) 19 200
      (fun r W' => ∃ a n, r = .ref a ∧ W' = (a, boolsObj (answers mk qs) n) :: (V ++ U) ∧ (∀ p ∈ V ++ U, p.1 < a)) := by
  intro p loose mean mg mb dp un gd cn cs a ccd cl outer A₀ base h₀ L m s Q E B FR KX N TP hk hdp hun ret
  refine kf ?_
  k_fill
  intro _
  refine wpAny_call ?_
  k_dflt (refine' code_defC ?k1 ?k2 ?k3 ?k4 ?k5 ?kA ?kF ?kK ?k6 ?k7 ?k8 ?k9 ?kB ?kD ?_ ?c2 ?c3 ?c4; (case kA => exact rfl); (case kF => exact rfl); (case kK => assumption); (case k1 => k_asm); (case k2 => k_asm); (case k3 => k_asm); (case k4 => k_asm); (case k5 => k_asm); (case k6 => k_is); (case k7 => k_is); (case k8 => ktr_room); (case k9 => exact BindsTo.of_eq rfl); (case kB => exact rfl); (case kD => decide +kernel); (case c2 => exact rfl); (case c3 => exact rfl); (case c4 => exact rfl); k_whole; intro g' L' h' tk' cells' FG' F' N' Y' B' X' T' l1; (try k_lt l1); k_cells Y'; (try dsimp only); (try k_fold))
  rename_i oc dc
  have M0 := M
  obtain ⟨T, Tp, g, c, np, hU, ap, X, PI, hb1, hk1⟩ := M0
  have xi := X.inst
  obtain ⟨n1, t1, n2, t2, kk, xd⟩ := X.idict
  replace xi : (x, instObj 66 g.dx) ∈ V ++ U := by rw [hU]; exact List.mem_append_right V (List.mem_append_left Tp xi)
  replace xd := List.mem_append_right V (List.mem_append_left Tp xd)
  rw [← hU] at xd
  have hoc : oc.data = .cell (some (.ref x)) := dc
  clear dc
  replace N' : News g' L' h' ((L' + 1, oc) :: (V ++ U)) := N'
  replace F' : Fr g' L' h' (fun y => if y = Str.ofString "ways" then some (.ref wl) else none) := F'
  refine wpAny_noRaise ?_
  (repeat' (first | walk_at "u" | ((fail_if_success with_reducible first | show G14 | show G15 | show G9 | show G16 | show G17 | show G18); walk1)))
  refine Assign_ListComp_led (cl := [(Str.ofString "machine", L' + 1)]) (S := { kind := .function, names := [(Str.ofString ".0", .local), (Str.ofString "way", .local), (Str.ofString "more", .local), (Str.ofString "flag", .local), (Str.ofString "machine", .cell)], isGenerator := false, isCoroutine := false }) (by assumption) rfl ?s1 ?s2 ?s3 ?s4 ?s45 ?s5 ?s6 ?s7 ?s8 ?s9 ?s10 ?_
  case s1 => rfl
  case s2 => rfl
  case s3 => rfl
  case s4 => rfl
  case s45 => rfl
  case s5 => decide
  case s6 => rfl
  case s7 => decide
  case s8 => decide
  case s9 => intro x; rfl
  case s10 =>
    intro C g' hg' x
    simp only [List.mem_cons, List.not_mem_nil, or_false] at hg'
    rcases hg' with rfl | rfl | rfl <;> rfl
  (repeat' (first | walk_at "u" | ((fail_if_success with_reducible first | show G14 | show G15 | show G9 | show G16 | show G17 | show G18); walk1)))
  refine led_list (by assumption) (by assumption) (mct _ (List.mem_append_left _ hwl)) hwc hwd fun I oI h7 hI7 F7 N7 hoI => ?_
  refine ⟨_, _, F7, N7, fun D C oL s3 K3 nsL hD hLD hDC F3 N3 => ?_⟩
  have hL1 : @LT.lt Nat _ L' D := hLD
  replace N3 : News g' C s3.heap ((D, boolsObj [] 0) :: (L', oL) :: (I, oI) :: (L' + 1, oc) :: (V ++ U)) := N3
  obtain ⟨m₂, hmm, hm₂⟩ : ∃ m₂ : Str → Option Value, m₂ = (fun y => if y = Str.ofString "ways" then some (.ref wl) else none) ∧ LCg.NsObj oL m₂ := ⟨_, rfl, nsL⟩
  have hLB : g'.objs.size ≤ L' := F7.above
  obtain ⟨B, hB0⟩ : ∃ B, B = (L' + 1, oc) :: (V ++ U) := ⟨_, rfl⟩
  have hBD : ∀ p ∈ B, @LT.lt Nat _ p.1 D := fun p hp => by
    rw [hB0] at hp
    refine all_cons hp ?_ fun hp => ?_
    · exact hD _ (mct _ List.mem_cons_self)
    · exact hD _ (mct _ (mct _ hp))
  have hBI : ∀ p ∈ B, @LT.lt Nat _ p.1 I := fun p hp => by
    rw [hB0] at hp
    exact hI7 p hp
  have hBL : ∀ p ∈ B, @Ne Nat p.1 L' := fun p hp => by
    rw [hB0] at hp
    refine all_cons hp ?_ fun hp => ?_
    · exact Nat.succ_ne_self L'
    · exact Nat.ne_of_lt (l1 p hp)
  have hID : @LT.lt Nat _ I D := hD _ List.mem_cons_self
  have hL'I : @LT.lt Nat _ L' I := Nat.lt_of_succ_lt (hI7 (L' + 1, oc) List.mem_cons_self)
  have hwlB : (wl, wo) ∈ B := by rw [hB0]; exact mct _ (List.mem_append_left _ hwl)
  have hocB : (L' + 1, oc) ∈ B := by rw [hB0]; exact List.mem_cons_self
  have hVU : ∀ p ∈ V ++ U, p ∈ B := fun p hp => by rw [hB0]; exact mct _ hp
  replace N3 : News g' C s3.heap ((D, boolsObj [] 0) :: (L', oL) :: (I, oI) :: B) := by rw [hB0]; exact N3
  clear hD hI7 hB0
  refine body_list (W := (L', oL) :: (D, boolsObj [] 0) :: B) rfl (fun i m' W' => ∃ oL n u1 u2 u3, LCg.NsObj oL m₂ ∧ W' = (L', oL) :: (D, boolsObj (answers mk (qs.take i)) n) :: B ∧ m' = fun y => if y = Str.ofString "flag" then u1 else if y = Str.ofString "more" then u2 else if y = Str.ofString "way" then u3 else none) F3 (news_drop N3 ?_) hoI ?_ hwc hwd ?_ ?_ ?_ ?_
  · intro p hp
    refine sub_go hp ?_
    walk_at "sub"
  · intro p hp
    refine all_cons hp ?_ fun hp => all_cons hp ?_ fun hp => ?_
    · exact Nat.ne_of_lt hL'I
    · exact Nat.ne_of_gt hID
    · exact Nat.ne_of_lt (hBI p hp)
  · rintro i m' W' ⟨oL, n, u1, u2, u3, _, rfl, _⟩
    exact mct _ (mct _ hwlB)
  · refine ⟨oL, 0, none, none, none, hm₂, rfl, ?_⟩
    funext y
    simp
  · rintro i v m' W' oI2 s4 hv ⟨oL2, n, u1, u2, u3, nsL2, rfl, rfl⟩ hoff F4 N4 K4 QQa hQa
    obtain ⟨wa, q, rfl, hq, Kq⟩ := hws.get hv
    (repeat' (first | walk_at "u" | ((fail_if_success with_reducible first | show G14 | show G15 | show G9 | show G16 | show G17 | show G18); walk1)))
    refine tests_nil ?_
    show wpAny _ _ (eval _ _) _ _ _
    (try dsimp only)
    (repeat' (first | walk_at "u" | ((fail_if_success with_reducible first | show G14 | show G15 | show G9 | show G16 | show G17 | show G18); walk1)))
    rename_i hA T1 hB lT1 T2 hC lT2 T3 hE FT NT lT3
    have dT1 : @LT.lt Nat _ D T1 := lT1.2.2.1
    have dT2 : @LT.lt Nat _ D T2 := lT2.2.2.2.1
    have dT3 : @LT.lt Nat _ D T3 := lT3.2.2.2.2.1
    have hDI : I ≠ D := Nat.ne_of_lt hID
    refine led_tuple (its := [.ref T1, .ref T2]) FT NT List.mem_cons_self rfl rfl fun I2 oI2' h8 hI28 F8 N8 hoI2 => ?_
    have hqlen : q.length < 500 := hql q (List.mem_of_getElem? hq)
    have hsz1 : (answers mk (qs.take i)).length ≤ 80000 := by
      rw [answers_length, List.length_take]; lia
    obtain ⟨R, hR⟩ : ∃ R, R = (T3, ({ cls := .type "tuple", data := .seq #[.ref T1, .ref T2] } : Obj)) :: (T2, { cls := .type "tuple", data := .seq #[.str (Str.ofString "c") (s4.toks + 1)] }) :: (T1, { cls := .type "tuple", data := .seq #[] }) :: (I, oI2) :: B := ⟨_, rfl⟩
    have hRD : ∀ p ∈ R, @Ne Nat p.1 D := fun p hp => by
      rw [hR] at hp
      refine all_cons hp ?_ fun hp => all_cons hp ?_ fun hp => all_cons hp ?_ fun hp => all_cons hp ?_ fun hp => ?_
      · exact Nat.ne_of_gt dT3
      · exact Nat.ne_of_gt dT2
      · exact Nat.ne_of_gt dT1
      · exact hDI
      · exact Nat.ne_of_lt (hBD p hp)
    have hRL : ∀ p ∈ R, @Ne Nat p.1 L' := fun p hp => by
      rw [hR] at hp
      refine all_cons hp ?_ fun hp => all_cons hp ?_ fun hp => all_cons hp ?_ fun hp => all_cons hp ?_ fun hp => ?_
      · exact Nat.ne_of_gt (Nat.lt_trans hL1 dT3)
      · exact Nat.ne_of_gt (Nat.lt_trans hL1 dT2)
      · exact Nat.ne_of_gt (Nat.lt_trans hL1 dT1)
      · exact Nat.ne_of_gt hL'I
      · exact hBL p hp
    have hI2D : @LT.lt Nat _ D I2 := hI28 (D, boolsObj (answers mk (qs.take i)) n) (by walk_at "mem")
    have hI2L : @LT.lt Nat _ L' I2 := Nat.lt_trans hL1 hI2D
    have hRI2 : ∀ p ∈ R, @LT.lt Nat _ p.1 I2 := fun p hp => hI28 p (by
      rw [hR] at hp
      simp only [List.mem_cons] at hp ⊢
      rcases hp with hp | hp | hp | hp | hp <;> simp only [hp, true_or, or_true])
    have hBR : ∀ p ∈ B, p ∈ R := fun p hp => by rw [hR]; walk_at "mem"
    have hIR : (I, oI2) ∈ R := by rw [hR]; walk_at "mem"
    have hT3R : (T3, ({ cls := .type "tuple", data := .seq #[.ref T1, .ref T2] } : Obj)) ∈ R := by rw [hR]; exact List.mem_cons_self
    have hT1R : WayIn w R T1 [] := ⟨_, [], 0, by rw [hR]; exact mct _ (mct _ List.mem_cons_self), rfl, rfl, .nil⟩
    have hT2R : WayIn w R T2 [cc] := ⟨_, [.str (Str.ofString "c") (s4.toks + 1)], 0, by rw [hR]; exact mct _ List.mem_cons_self, rfl, rfl, .cons (strKind_is PP w _ _) .nil⟩
    refine body_tuple (W := (L', oL2) :: (D, boolsObj (answers mk (qs.take i)) n) :: R) (o := { cls := .type "tuple", data := .seq #[.ref T1, .ref T2] }) (its := [.ref T1, .ref T2]) (n := 0) rfl (fun j m' W' => ∃ oL n u1 u2, LCg.NsObj oL m₂ ∧ W' = (L', oL) :: (D, boolsObj (answers mk (qs.take i) ++ (ansOf mk q).take (2 * j)) n) :: R ∧ m' = fun y => if y = Str.ofString "flag" then u1 else if y = Str.ofString "more" then u2 else if y = Str.ofString "way" then some (.ref wa) else none) F8 (news_drop N8 ?_) hoI2 ?_ rfl rfl ?_ ?_ ?_ ?_
    · intro p hp
      rw [hR] at hp
      refine sub_go hp ?_
      walk_at "sub"
    · intro p hp
      refine all_cons hp ?_ fun hp => all_cons hp ?_ fun hp => ?_
      · exact Nat.ne_of_lt hI2L
      · exact Nat.ne_of_lt hI2D
      · exact Nat.ne_of_lt (hRI2 p hp)
    · rintro j m' W' ⟨oL, n, u1, u2, _, rfl, _⟩
      exact mct _ (mct _ hT3R)
    · refine ⟨oL2, n, u1, u2, nsL2, by rw [Nat.mul_zero, List.take_zero, List.append_nil], ?_⟩
      funext y
      by_cases h1 : y = Str.ofString "way"
      · subst h1; rfl
      · simp only [if_neg h1]
    · rintro j v m' W' oI3 s5 hv ⟨oL5, n2, u1', u2', nsL5, rfl, rfl⟩ hoff5 F5 N5 K5 QQb hQb
      have hve : ∃ e a, v = .ref a ∧ WayIn w R a e ∧ (∀ l, l < 2 → (ansOf mk q)[2 * j + l]? = some (isAt mk (q ++ e) (l : Int))) ∧ e.length ≤ 1 := by
        match j, hv with
        | 0, hv =>
          refine ⟨[], T1, (Option.some.inj hv).symm, hT1R, fun l hl => ?_, by simp⟩
          have : l = 0 ∨ l = 1 := by omega
          rcases this with rfl | rfl <;> simp [ansOf]
        | 1, hv =>
          refine ⟨[cc], T2, (Option.some.inj hv).symm, hT2R, fun l hl => ?_, by simp⟩
          have : l = 0 ∨ l = 1 := by omega
          rcases this with rfl | rfl <;> simp [ansOf]
        | j + 2, hv => simp at hv
      obtain ⟨e, ea, rfl, Ke, hans, hel⟩ := hve
      (repeat' (first | walk_at "u" | ((fail_if_success with_reducible first | show G14 | show G15 | show G9 | show G16 | show G17 | show G18); walk1)))
      refine tests_nil ?_
      show wpAny _ _ (eval _ _) _ _ _
      (try dsimp only)
      (repeat' (first | walk_at "u" | ((fail_if_success with_reducible first | show G14 | show G15 | show G9 | show G16 | show G17 | show G18); walk1)))
      rename_i hF Tf hG FTf NTf lTf
      have dTf : @LT.lt Nat _ D Tf := lTf.2.2.1
      refine led_tuple (its := [.int 0 (s5.toks + 1), .int 1 (s5.toks + 1 + 1)]) FTf NTf List.mem_cons_self rfl rfl fun I3 oI3' h9 hI39 F9 N9 hoI3 => ?_
      obtain ⟨R3, hR3⟩ : ∃ R3, R3 = (Tf, ({ cls := .type "tuple", data := .seq #[.int 0 (s5.toks + 1), .int 1 (s5.toks + 1 + 1)] } : Obj)) :: (I2, oI3) :: R := ⟨_, rfl⟩
      have hR3D : ∀ p ∈ R3, @Ne Nat p.1 D := fun p hp => by
        rw [hR3] at hp
        refine all_cons hp ?_ fun hp => all_cons hp ?_ fun hp => ?_
        · exact Nat.ne_of_gt dTf
        · exact Nat.ne_of_gt hI2D
        · exact hRD p hp
      have hR3L : ∀ p ∈ R3, @Ne Nat p.1 L' := fun p hp => by
        rw [hR3] at hp
        refine all_cons hp ?_ fun hp => all_cons hp ?_ fun hp => ?_
        · exact Nat.ne_of_gt (Nat.lt_trans hL1 dTf)
        · exact Nat.ne_of_gt hI2L
        · exact hRL p hp
      have hI3D : @LT.lt Nat _ D I3 := hI39 (D, boolsObj (answers mk (qs.take i) ++ (ansOf mk q).take (2 * j)) n2) (by walk_at "mem")
      have hI3L : @LT.lt Nat _ L' I3 := Nat.lt_trans hL1 hI3D
      have hR3I : ∀ p ∈ R3, @LT.lt Nat _ p.1 I3 := fun p hp => hI39 p (by
        rw [hR3] at hp
        simp only [List.mem_cons] at hp ⊢
        rcases hp with hp | hp | hp <;> simp only [hp, true_or, or_true])
      have hRR3 : ∀ p ∈ R, p ∈ R3 := fun p hp => by rw [hR3]; walk_at "mem"
      have hTfR3 : (Tf, ({ cls := .type "tuple", data := .seq #[.int 0 (s5.toks + 1), .int 1 (s5.toks + 1 + 1)] } : Obj)) ∈ R3 := by rw [hR3]; exact List.mem_cons_self
      have Kw3 : WayIn w R3 wa q := Kq.mono fun p hp => hRR3 p (hBR p (hVU p (List.mem_append_left _ hp)))
      have Ke3 : WayIn w R3 ea e := Ke.mono hRR3
      have hoc3 : (L' + 1, oc) ∈ R3 := hRR3 _ (hBR _ hocB)
      have xi3 : (x, instObj 66 g.dx) ∈ R3 := hRR3 _ (hBR _ (hVU _ xi))
      have xd3 := hRR3 _ (hBR _ (hVU _ xd))
      have hVU3 : ∀ p ∈ V ++ U, p ∈ R3 := fun p hp => hRR3 p (hBR p (hVU p hp))
      refine body_tuple (W := (L', oL5) :: (D, boolsObj (answers mk (qs.take i) ++ (ansOf mk q).take (2 * j)) n2) :: R3) (o := { cls := .type "tuple", data := .seq #[.int 0 (s5.toks + 1), .int 1 (s5.toks + 1 + 1)] }) (its := [.int 0 (s5.toks + 1), .int 1 (s5.toks + 1 + 1)]) (n := 0) rfl
        (fun l m' W' => ∃ oL n u1, LCg.NsObj oL m₂ ∧ W' = (L', oL) :: (D, boolsObj (answers mk (qs.take i) ++ (ansOf mk q).take (2 * j + l)) n) :: R3 ∧ m' = fun y => if y = Str.ofString "flag" then u1 else if y = Str.ofString "more" then some (.ref ea) else if y = Str.ofString "way" then some (.ref wa) else none) F9 (news_drop N9 ?_) hoI3 ?_ rfl rfl ?_ ?_ ?_ ?_
      · intro p hp
        rw [hR3] at hp
        refine sub_go hp ?_
        walk_at "sub"
      · intro p hp
        refine all_cons hp ?_ fun hp => all_cons hp ?_ fun hp => ?_
        · exact Nat.ne_of_lt hI3L
        · exact Nat.ne_of_lt hI3D
        · exact Nat.ne_of_lt (hR3I p hp)
      · rintro l m' W' ⟨oL, n, u1, _, rfl, _⟩
        exact mct _ (mct _ hTfR3)
      · refine ⟨oL5, n2, u1', nsL5, rfl, ?_⟩
        funext y
        by_cases h1 : y = Str.ofString "more"
        · subst h1; rfl
        · simp only [if_neg h1]
      · rintro l v m' W' oI4 s6 hv ⟨oL6, n3, u1'', nsL6, rfl, rfl⟩ hoff6 F6 N6 K6 QQc hQc
        have hvl : l < 2 ∧ ∃ t, v = .int (l : Int) t := by
          match l, hv with
          | 0, hv => exact ⟨by lia, _, (Option.some.inj hv).symm⟩
          | 1, hv => exact ⟨by lia, _, (Option.some.inj hv).symm⟩
          | l + 2, hv => simp at hv
        obtain ⟨hl2, tl, rfl⟩ := hvl
        obtain ⟨bo, hbo⟩ : ∃ bo, bo = boolsObj (answers mk (qs.take i) ++ (ansOf mk q).take (2 * j + l)) n3 := ⟨_, rfl⟩
        rw [← hbo] at N6
        have up2 : ∀ p ∈ R3, p ∈ (I3, oI4) :: (L', oL6) :: (D, bo) :: R3 := fun p hp => mct _ (mct _ (mct _ hp))
        have xi4 := up2 _ xi3
        have xd4 := up2 _ xd3
        (repeat' (first | walk_at "u" | ((fail_if_success with_reducible first | show G14 | show G15 | show G9 | show G16 | show G17 | show G18); walk1)))
        refine tests_nil ?_
        show wpAny _ _ (eval _ _) _ _ _
        (try dsimp only)
        (repeat' (first | walk_at "u" | ((fail_if_success with_reducible first | show G14 | show G15 | show G9 | show G16 | show G17 | show G18); walk1)))
        refine cname_C (o := oc) (by assumption) rfl (up2 _ hoc3) hoc ?_ rfl rfl
        (repeat' (first | walk_at "u" | ((fail_if_success with_reducible first | show G14 | show G15 | show G9 | show G16 | show G17 | show G18); walk1)))
        refine way_add (by assumption) (by assumption) (Kw3.mono up2) (Ke3.mono up2) (by omega) fun c1 o1 s7 K7 F7' N7' KW7 _ hd1 => ?_
        (repeat' (first | walk_at "u" | ((fail_if_success with_reducible first | show G14 | show G15 | show G9 | show G16 | show G17 | show G18); walk1)))
        have hml : (q ++ e).length < 1000 := by rw [List.length_append]; omega
        have hc1L : @Ne Nat c1 L' := by
          rintro rfl
          have e9 := news_fun N7' (List.mem_cons_self) (show (c1, oL6) ∈ (c1, o1) :: (I3, oI4) :: (c1, oL6) :: (D, bo) :: R3 by walk_at "mem")
          obtain ⟨its9, n9, hd9⟩ := hd1
          obtain ⟨es9, ep9, hd10, _⟩ := nsL6
          rw [e9, hd10] at hd9
          exact nomatch hd9
        refine is_call (dp := dp + 1) (un := un + 3) (W := (c1, o1) :: (I3, oI4) :: (D, bo) :: R3) (oL := oL6) M (KW7.keep2 ?_) hml ?_ B' (by assumption) X' (news_drop N7' ?_) nsL6 ?_ hLB T' rfl (room2 hdp) (room2 hun) fun s8 oL8 K8 nsL8 F8' N8' => ?_
        · rintro ep hep _ ⟨itsx, nx, hdx⟩
          simp only [List.mem_cons] at hep ⊢
          rcases hep with h | h | rfl | h | h
          · exact .inl h
          · exact .inr (.inl h)
          · obtain ⟨es9, ep9, hd10, _⟩ := nsL6
            rw [hd10] at hdx
            exact nomatch hdx
          · exact .inr (.inr (.inl h))
          · exact .inr (.inr (.inr h))
        · intro ep hep
          (have h9 := hVU3 ep (List.mem_append_right _ hep); walk_at "mem")
        · intro ep hep
          refine sub_go hep ?_
          walk_at "sub"
        · intro ep hep
          refine all_cons hep ?_ fun hep => all_cons hep ?_ fun hep => all_cons hep ?_ fun h => ?_
          · exact hc1L
          · exact Nat.ne_of_gt hI3L
          · exact Nat.ne_of_gt hL1
          · exact hR3L ep h
        subst hbo
        refine list_app (pre := [(L', oL8), (I3, oI4)]) (post := R3) (its := ((answers mk (qs.take i) ++ (ansOf mk q).take (2 * j + l)).map Value.bool).toArray) (n := n3) F8' (news_drop N8' ?_) ?_ hR3D ?_ fun h10 F10 N10 => ?_
        · intro ep hep
          simp only [List.mem_append, List.mem_cons, List.not_mem_nil, or_false] at hep ⊢
          rcases hep with (hp | hp) | hp | hp
          · exact .inl hp
          · exact .inr (.inr (.inl hp))
          · exact .inr (.inr (.inr (.inl hp)))
          · exact .inr (.inr (.inr (.inr hp)))
        · intro ep hep
          refine all_cons hep ?_ fun hep => all_one hep ?_
          · exact Nat.ne_of_lt hL1
          · exact Nat.ne_of_gt hI3D
        · have h4 : (ansOf mk q).length = 4 := rfl
          rw [List.size_toArray, List.length_map, List.length_append, List.length_take, h4]
          lia
        rw [boolsObj_push] at N10
        refine hQc _ ?_
        refine NextHere.intro F10 N10 (W' := (L', oL8) :: (D, boolsObj (answers mk (qs.take i) ++ (ansOf mk q).take (2 * j + (l + 1))) (n3 + 1)) :: R3) ?_ ?_ ⟨oL8, n3 + 1, some (.int l tl), nsL8, rfl, ?_⟩ (K6.trans (K7.trans K8))
        · intro ep hep
          rw [show 2 * j + (l + 1) = 2 * j + l + 1 by lia, List.take_add_one, hans l hl2, ← List.append_assoc] at hep
          simp only [List.mem_append, List.mem_cons, List.not_mem_nil, or_false] at hep ⊢
          rcases hep with h | h | h | h
          · exact .inl (.inr h)
          · exact .inl (.inl h)
          · exact .inr (.inl h)
          · exact .inr (.inr h)
        · intro ep hep
          refine all_cons hep ?_ fun hep => all_cons hep ?_ fun h => ?_
          · exact Nat.ne_of_lt hI3L
          · exact Nat.ne_of_lt hI3D
          · exact Nat.ne_of_lt (hR3I ep h)
        · funext y
          by_cases h1 : y = Str.ofString "flag"
          · subst h1; rfl
          · simp only [if_neg h1]
      · rintro m' W' s6 ⟨oL6, n3, u1'', nsL6, rfl, rfl⟩ F6 N6 K6
        refine hQb _ ?_
        refine NextHere.intro F6 N6 (W' := (L', oL6) :: (D, boolsObj (answers mk (qs.take i) ++ (ansOf mk q).take (2 * (j + 1))) n3) :: R) ?_ ?_ ⟨oL6, n3, u1'', some (.ref ea), nsL6, rfl, ?_⟩ (K5.trans K6)
        · intro ep hep
          rw [hR3]
          simp only [List.mem_cons] at hep ⊢
          rcases hep with h | h | h | h
          · exact .inr (.inr (.inr (.inl h)))
          · exact .inl h
          · exact .inr (.inl h)
          · exact .inr (.inr (.inr (.inr h)))
        · intro ep hep
          refine all_cons hep ?_ fun hep => all_cons hep ?_ fun h => ?_
          · exact Nat.ne_of_lt hI2L
          · exact Nat.ne_of_lt hI2D
          · exact Nat.ne_of_lt (hRI2 ep h)
        · rfl
    · rintro m' W' s5 ⟨oL5, n3, u1'', u2'', nsL5, rfl, rfl⟩ F6 N6 K6
      refine hQa _ ?_
      refine NextHere.intro F6 N6 (W' := (L', oL5) :: (D, boolsObj (answers mk (qs.take (i + 1))) n3) :: B) ?_ ?_ ⟨oL5, n3, u1'', u2'', some (.ref wa), nsL5, rfl, rfl⟩ (K4.trans K6)
      · intro ep hep
        rw [answers_take hq] at hep
        simp only [List.mem_cons] at hep ⊢
        rcases hep with h | h | h | h
        · exact .inr (.inr (h ▸ hIR))
        · exact .inl h
        · exact .inr (.inl h)
        · exact .inr (.inr (hBR ep h))
      · intro ep hep
        refine all_cons hep ?_ fun hep => all_cons hep ?_ fun h => ?_
        · exact Nat.ne_of_lt hL'I
        · exact Nat.ne_of_gt hID
        · exact Nat.ne_of_lt (hBI ep h)
  · rintro m' W' s4 ⟨oL4, n, u1, u2, u3, nsL4, rfl, rfl⟩ F4 N4 K4
    rw [hws.1, List.take_length] at N4
    refine ⟨_, (D, boolsObj (answers mk qs) n) :: B, oL4, hmm ▸ nsL4, F4, N4, ?_, fun s5 K5 F5 N5 => ?_⟩
    · intro ep hep
      rcases List.mem_cons.mp hep with rfl | h
      · exact Nat.ne_of_gt hL1
      · exact hBL ep h
    (repeat' (first | walk_at "u" | ((fail_if_success with_reducible first | show G14 | show G15 | show G9 | show G16 | show G17 | show G18); walk1)))
    refine ListComp_led (cl := []) (S := { kind := .function, names := [(Str.ofString ".0", .local), (Str.ofString "one", .local), (Str.ofString "isinstance", .globalImplicit), (Str.ofString "bool", .globalImplicit)], isGenerator := false, isCoroutine := false }) F5 ?t4 ?t45 ?t5 ?t6 ?t7 ?t8 ?t9 ?t10 ?_
    case t4 => rfl
    case t45 => rfl
    case t5 => decide
    case t6 => rfl
    case t7 => decide
    case t8 => decide
    case t9 => intro x; rfl
    case t10 =>
      intro C g' hg' x
      simp only [List.mem_cons, List.not_mem_nil, or_false] at hg'
      rcases hg' with rfl <;> rfl
    (repeat' (first | walk_at "u" | ((fail_if_success with_reducible first | show G14 | show G15 | show G9 | show G16 | show G17 | show G18); walk1)))
    refine led_list (o := boolsObj (answers mk qs) n) (its := (answers mk qs).map Value.bool) (n := n) F5 N5 List.mem_cons_self rfl rfl fun I6 oI6 h6 hI6 F6 N6 hoI6 => ?_
    refine ⟨_, _, F6, N6, fun D2 C2 oL6 s7 K7 nsL7 hD2 hLD2 hDC2 F7' N7' => ?_⟩
    have hI6D : @LT.lt Nat _ D I6 := hI6 (D, boolsObj (answers mk qs) n) List.mem_cons_self
    have hD2I : @LT.lt Nat _ I6 D2 := hD2 _ List.mem_cons_self
    have hD2D : @LT.lt Nat _ D D2 := hD2 (D, boolsObj (answers mk qs) n) (mct _ List.mem_cons_self)
    have hL'D2 : @LT.lt Nat _ L' D2 := hLD2
    have hI6L : @LT.lt Nat _ L' I6 := Nat.lt_trans hL1 hI6D
    obtain ⟨m₃, hm3, hm₃⟩ : ∃ m₃ : Str → Option Value, m₃ = (fun z => if z = Str.ofString "told" then some (.ref D) else (fun y => if y = Str.ofString "ways" then some (.ref wl) else none) z) ∧ LCg.NsObj oL6 m₃ := ⟨_, rfl, nsL7⟩
    replace N7' : News g' C2 s7.heap ((D2, W.listOf #[] 0) :: (L', oL6) :: (I6, oI6) :: (D, boolsObj (answers mk qs) n) :: B) := N7'
    refine body_list (W := (L', oL6) :: (D2, W.listOf #[] 0) :: (D, boolsObj (answers mk qs) n) :: B) (o := boolsObj (answers mk qs) n) (its := (answers mk qs).map Value.bool) (n := n) rfl (fun i m' W' => ∃ oL u1, LCg.NsObj oL m₃ ∧ W' = (L', oL) :: (D2, W.listOf #[] 0) :: (D, boolsObj (answers mk qs) n) :: B ∧ m' = fun y => if y = Str.ofString "one" then u1 else none) F7' (news_drop N7' ?_) hoI6 ?_ rfl rfl ?_ ?_ ?_ ?_
    · intro ep hep
      refine sub_go hep ?_
      walk_at "sub"
    · intro ep hep
      refine all_cons hep ?_ fun hep => all_cons hep ?_ fun hep => all_cons hep ?_ fun h => ?_
      · exact Nat.ne_of_lt hI6L
      · exact Nat.ne_of_gt hD2I
      · exact Nat.ne_of_lt hI6D
      · exact Nat.ne_of_lt (Nat.lt_trans (hBD ep h) hI6D)
    · rintro i m' W' ⟨oL, u1, _, rfl, _⟩
      walk_at "mem"
    · refine ⟨oL6, none, hm₃, rfl, ?_⟩
      funext y
      simp
    · rintro i v m' W' oI7 s8 hv ⟨oL7, u1, nsL8, rfl, rfl⟩ hoff8 F8 N8 K8 QQd hQd
      obtain ⟨bv, rfl⟩ : ∃ bv, v = .bool bv := by
        rw [List.getElem?_map] at hv
        cases h : (answers mk qs)[i]? with
        | none => rw [h] at hv; exact nomatch hv
        | some bv => rw [h] at hv; exact ⟨bv, (Option.some.inj hv).symm⟩
      obtain ⟨bo, hbo⟩ : ∃ bo, bo = boolsObj (answers mk qs) n := ⟨_, rfl⟩
      (repeat' (first | walk_at "u" | ((fail_if_success with_reducible first | show G14 | show G15 | show G9 | show G16 | show G17 | show G18); walk1)))
      refine tests_one ?_
      (repeat' (first | walk_at "u" | ((fail_if_success with_reducible first | show G14 | show G15 | show G9 | show G16 | show G17 | show G18); walk1)))
      subst hbo
      refine hQd _ ?_
      refine NextHere.intro (by assumption) (by assumption) (W' := (L', oL7) :: (D2, W.listOf #[] 0) :: (D, boolsObj (answers mk qs) n) :: B) (fun ep hep => hep) hoff8 ⟨oL7, some (.bool bv), nsL8, rfl, ?_⟩ K8
      funext y
      by_cases h1 : y = Str.ofString "one"
      · subst h1; rfl
      · simp only [if_neg h1]
    · rintro m' W' s8 ⟨oL7, u1, nsL8, rfl, rfl⟩ F8 N8 K8
      refine ⟨_, (D2, W.listOf #[] 0) :: (D, boolsObj (answers mk qs) n) :: B, oL7, hm3 ▸ nsL8, F8, N8, ?_, fun s9 K9 F9 N9 => ?_⟩
      · intro ep hep
        refine all_cons hep ?_ fun hep => all_cons hep ?_ fun h => ?_
        · exact Nat.ne_of_gt hL'D2
        · exact Nat.ne_of_gt hL1
        · exact hBL ep h
      (repeat' (first | walk_at "u" | ((fail_if_success with_reducible first | show G14 | show G15 | show G9 | show G16 | show G17 | show G18); walk1)))
      refine ret _ _ ((D, boolsObj (answers mk qs) n) :: (V ++ U)) (K3.trans (K4.trans (K5.trans (K7.trans (K8.trans K9))))) (by assumption) (news_drop (by assumption) fun ep hep => ?_) ⟨D, n, rfl, rfl, fun ep hep => hBD ep (hVU ep hep)⟩
      rcases List.mem_cons.mp hep with rfl | h
      · walk_at "mem"
      · (have h9 := hVU ep h; walk_at "mem")
end

section
open PySem PySem.W PyProof.Rows
noncomputable def bodyOf : List PySem.Stmt → List PySem.Stmt
  | [] => []
  | [.FunctionDef _ _ b _ _ _ _ _ _ _] => b
  | _ :: r => bodyOf r
noncomputable def scopeOf : List PySem.Stmt → Scope
  | [.FunctionDef _ _ _ _ _ _ s _ _ _] => s
  | [] => { kind := .function, names := [], isGenerator := false, isCoroutine := false }
  | _ :: r => scopeOf r
noncomputable def lawBody : List PySem.Stmt := bodyOf PP.main.body
noncomputable def lawScope : Scope := scopeOf PP.main.body
noncomputable def lawCells (L : Addr) : List (Str × Addr) := [(Str.ofString "asked", L + 5), (Str.ofString "way", L + 4), (Str.ofString "ways", L + 3), (Str.ofString "places", L + 2), (Str.ofString "script", L + 1)]
end

section
open PySem PyProof.Rows
structure TB (a₀ : Array Keyed) (st : SortSt) : Prop where
  perm : (arrOf st).Perm a₀
  kind : kindOf st = oneType'
  failed : failedOf st = none
theorem TB.size {a₀ : Array Keyed} {st : SortSt} (h : TB a₀ st) : (arrOf st).size = a₀.size := h.perm.size_eq
noncomputable def IntKey (p : Keyed) : Prop := ∃ n t, p.1 = .int n t
theorem TB.key {a₀ : Array Keyed} {st : SortSt} (h : TB a₀ st) (h0 : IntKeys a₀) {i : Nat} (hi : i < a₀.size) : ∃ p, (arrOf st)[i]? = some p ∧ IntKey p := by
  have hi' : i < (arrOf st).size := by rw [h.size]; exact hi
  have hm : (arrOf st)[i] ∈ a₀.toList := (Array.perm_iff_toList_perm.mp h.perm).mem_iff.mp (by simp)
  exact ⟨_, getElem?_pos _ i hi', h0 _ hm⟩
section
variable {prog : PySem.Program} {w : World} {A : Around} {E : Value → Shared → Prop} {s : Shared} {a₀ : Array Keyed}
theorem wpS_lt {st : SortSt} {x y : Keyed} {Q : Option Bool → SortSt → Prop} (hk : kindOf st = oneType') (hx : IntKey x) (hy : IntKey y) (h : ∀ b, Q (some b) st) : wpS (model prog w) A E s (lt' x y) Q st := by
  obtain ⟨n, t, hx⟩ := hx
  obtain ⟨n2, t2, hy⟩ := hy
  rw [lt'_eq]
  refine wpS_bind (wpS_get ?_)
  rw [hk, keyLt'_oneType, hx, hy]
  refine wpS_bind (wpS_lift (wpAny_attempt (oneLt_int ⟨rfl, ?_⟩)))
  exact wpS_pure (h _)
theorem wpS_elem {st : SortSt} {xs : Array Keyed} {i : Nat} {p : Keyed} {Q : Keyed → SortSt → Prop} (hi : xs[i]? = some p) (h : Q p st) : wpS (model prog w) A E s (elem' xs i) Q st := by
  rw [elem'_eq, hi]; exact wpS_pure h
theorem wpS_ltB {st : SortSt} {i j : Nat} {Q : Option Bool → SortSt → Prop} (hB : TB a₀ st) (h0 : IntKeys a₀) (hi : i < a₀.size) (hj : j < a₀.size) (h : ∀ b, Q (some b) st) :
    wpS (model prog w) A E s (ltAt' i j) Q st := by
  obtain ⟨p, e1, k1⟩ := hB.key h0 hi
  obtain ⟨q, e2, k2⟩ := hB.key h0 hj
  rw [ltAt'_eq]
  refine wpS_bind (wpS_get ?_)
  exact wpS_bind (wpS_elem e1 (wpS_bind (wpS_elem e2 (wpS_lt hB.kind k1 k2 h))))
noncomputable def Shuf (a₀ : Array Keyed) (st st' : SortSt) : Prop := TB a₀ st' ∧ pendingOf st' = pendingOf st
theorem Shuf.refl {st : SortSt} (h : TB a₀ st) : Shuf a₀ st st := ⟨h, rfl⟩
theorem Shuf.trans {a b c : SortSt} (x : Shuf a₀ a b) (y : Shuf a₀ b c) : Shuf a₀ a c := ⟨y.1, y.2.trans x.2⟩
theorem Shuf.arr {st : SortSt} {xs : Array Keyed} (h : TB a₀ st) (hp : xs.Perm (arrOf st)) : Shuf a₀ st (setArr st xs) := ⟨⟨hp.trans h.perm, h.kind, h.failed⟩, rfl⟩
theorem wpS_rev {st : SortSt} {i j : Nat} {Q : Unit → SortSt → Prop} (hB : TB a₀ st) (h : ∀ st', Shuf a₀ st st' → Q () st') : wpS (model prog w) A E s (reverseSlice' i j) Q st := by
  rw [reverseSlice'_eq]; exact wpS_modify (h _ (Shuf.arr hB (mirror_perm _ _ _ _)))
theorem wpS_down {st : SortSt} {i j : Nat} {Q : Unit → SortSt → Prop} (hB : TB a₀ st) (h : ∀ st', Shuf a₀ st st' → Q () st') : wpS (model prog w) A E s (moveDown' i j) Q st := by
  rw [moveDown'_eq]; exact wpS_modify (h _ (Shuf.arr hB (bubble_perm _ _ _)))
theorem wpS_bsort {st : SortSt} {lo n ok : Nat} {Q : Bool → SortSt → Prop} (h0 : IntKeys a₀) (hn : lo + n ≤ a₀.size) (hB : TB a₀ st) (h : ∀ st', Shuf a₀ st st' → Q true st') :
    wpS (model prog w) A E s (binarySort' lo n ok) Q st := by
  rw [binarySort'_eq]
  refine wpS_bind (wpS_mono (wpS_forRange (I := fun k c st' => c = (none, ()) ∧ Shuf a₀ st st') (Q := fun c st' => c = (none, ()) ∧ Shuf a₀ st st') ?step (fun _ _ h => h) ⟨rfl, Shuf.refl hB⟩) ?post)
  case post =>
    rintro c st' ⟨rfl, hS⟩
    exact wpS_pure (h st' hS)
  case step =>
    rintro k c st' hak hkn ⟨rfl, hS⟩
    refine wpS_bind (wpS_mono (wpS_forRange (I := fun x c st'' => st'' = st' ∧ ∃ l r, c = (none, l, r) ∧ r ≤ k ∧ l ≤ k) (Q := fun c st'' => st'' = st' ∧ ∃ l r, c = (none, l, r)) ?istep ?ifin ⟨rfl, 0, k, rfl, Nat.le_refl _, Nat.zero_le _⟩) ?ipost)
    case ifin =>
      rintro c st'' ⟨rfl, l, r, rfl, _⟩
      exact ⟨rfl, l, r, rfl⟩
    case istep =>
      rintro x c st'' _ hxk ⟨rfl, l, r, rfl, hrk, hlk⟩
      dsimp only
      by_cases hge : l ≥ r
      · rw [if_pos hge]
        exact wpS_pure ⟨rfl, l, r, rfl⟩
      · rw [if_neg hge]
        refine wpS_bind (wpS_ltB hS.1 h0 (by lia) (by lia) fun b => ?_)
        cases b with
        | true => exact wpS_pure ⟨rfl, l, (l + r) / 2, rfl, by lia, hlk⟩
        | false => exact wpS_pure ⟨rfl, (l + r) / 2 + 1, r, rfl, hrk, by lia⟩
    case ipost =>
      rintro c st'' ⟨rfl, l, r, rfl⟩
      show wpS _ _ _ _ (do moveDown' (lo + k) (lo + l); pure (ForInStep.yield (none, ()))) _ _
      exact wpS_bind (wpS_down hS.1 fun st3 h3 => wpS_pure ⟨rfl, hS.trans h3⟩)
end
end

section
open PySem PyProof.Rows
section
variable {prog : PySem.Program} {w : World} {A : Around} {E : Value → Shared → Prop} {s : Shared} {a₀ : Array Keyed}
noncomputable def tailBlk (lo n0 nrem : Nat) : StateT SortSt Sem (Option Nat) := do
  let mut n := n0
  reverseSlice' lo (lo + n)
  for _ in [n:nrem] do
    let some smaller ← ltAt' (lo + n) (lo + n - 1) | return none
    if smaller then break
    n := n + 1
  return some n
noncomputable def descBlk (lo n0 nrem : Nat) : StateT SortSt Sem (Option Nat) := do
  rule "list.sort.descending-run"
  let mut n := n0
  n := n + 1
  let mut neq := 0
  for _ in [n:nrem] do
    let some smaller ← ltAt' (lo + n) (lo + n - 1) | return none
    if smaller then
      if neq > 0 then reverseSlice' (lo + n - (neq + 1)) (lo + n)
      neq := 0
    else
      let some larger ← ltAt' (lo + n - 1) (lo + n) | return none
      if larger then break
      neq := neq + 1
    n := n + 1
  if neq > 0 then reverseSlice' (lo + n - (neq + 1)) (lo + n)
  reverseSlice' lo (lo + n)
  for _ in [n:nrem] do
    let some smaller ← ltAt' (lo + n) (lo + n - 1) | return none
    if smaller then break
    n := n + 1
  return some n
theorem wpS_crun {st : SortSt} {lo nrem : Nat} {Q : Option Nat → SortSt → Prop} (h0 : IntKeys a₀) (hn : lo + nrem ≤ a₀.size) (h1 : 1 ≤ nrem) (hB : TB a₀ st)
    (h : ∀ m st', Shuf a₀ st st' → 1 ≤ m → m ≤ nrem → Q (some m) st') :
    wpS (model prog w) A E s (countRun' lo nrem) Q st := by
  rw [countRun'_eq]
  have tail3 : ∀ (n : Nat) (st2 : SortSt), Shuf a₀ st st2 → 1 ≤ n → n ≤ nrem → wpS (model prog w) A E s (tailBlk lo n nrem) Q st2 := by
    intro n st2 hS h1 h2
    unfold tailBlk
    refine wpS_bind (wpS_rev hS.1 fun st3 h3 => ?_)
    have hS3 := hS.trans h3
    refine wpS_bind (wpS_mono (wpS_forRange (I := fun x c st' => st' = st3 ∧ c = (none, x)) (Q := fun c st' => st' = st3 ∧ ∃ m, c = (none, m) ∧ 1 ≤ m ∧ m ≤ nrem) ?step ?fin ⟨rfl, rfl⟩) ?post)
    case fin =>
      rintro c st' ⟨rfl, rfl⟩
      exact ⟨rfl, _, rfl, by lia, by lia⟩
    case step =>
      rintro x c st' hx1 hx2 ⟨rfl, rfl⟩
      dsimp only
      refine wpS_bind (wpS_ltB hS3.1 h0 (by omega) (by omega) fun b => ?_)
      cases b with
      | true => exact wpS_pure ⟨rfl, x, rfl, by omega, by omega⟩
      | false => exact wpS_pure ⟨rfl, rfl⟩
    case post =>
      rintro c st' ⟨rfl, m, rfl, hm1, hm2⟩
      exact wpS_pure (h m _ hS3 hm1 hm2)
  have asc : ∀ {Q' : Option (Option Nat) × Nat → SortSt → Prop}, (∀ m, 1 ≤ m → m ≤ nrem → Q' (none, m) st) → wpS (model prog w) A E s (forIn [1:nrem] ((none, 1) : Option (Option Nat) × Nat) fun _ __s => do
        let __x ← ltAt' (lo + __s.snd) (lo + __s.snd - 1)
        match __x with
        | some smaller => if smaller = true then pure (ForInStep.done (none, __s.snd)) else pure (ForInStep.yield (none, __s.snd + 1))
        | _ => pure (ForInStep.done (some none, __s.snd))) Q' st := by
    intro Q' hQ
    refine wpS_forRange (I := fun x c st' => st' = st ∧ c = (none, x)) ?step ?fin ⟨rfl, rfl⟩
    case fin =>
      rintro c st' ⟨rfl, rfl⟩
      exact hQ _ (by omega) (by omega)
    case step =>
      rintro x c st' hx1 hx2 ⟨rfl, rfl⟩
      dsimp only
      refine wpS_bind (wpS_ltB hB h0 (by lia) (by omega) fun b => ?_)
      cases b with
      | true => exact wpS_pure (hQ x hx1 (by lia))
      | false => exact wpS_pure ⟨rfl, rfl⟩
  refine wpS_bind (asc fun n hn1 hn2 => ?_)
  dsimp only
  have desc : ∀ (st2 : SortSt), Shuf a₀ st st2 → n + 1 ≤ nrem → wpS (model prog w) A E s (descBlk lo n nrem) Q st2 := by
    intro st2 hS hnn
    unfold descBlk
    refine wpS_bind (wpS_lift (wpAny_rule ⟨rfl, ?_⟩))
    refine wpS_bind (wpS_mono (wpS_forRange (I := fun x c st' => Shuf a₀ st st' ∧ ∃ neq, c = (none, x, neq)) (Q := fun c st' => Shuf a₀ st st' ∧ ∃ m neq, c = (none, m, neq) ∧ 1 ≤ m ∧ m ≤ nrem) ?step ?fin ⟨hS, 0, rfl⟩) ?post)
    case fin =>
      rintro c st' ⟨hS', neq, rfl⟩
      exact ⟨hS', _, neq, rfl, by omega, by omega⟩
    case step =>
      rintro x c st' hx1 hx2 ⟨hS', neq, rfl⟩
      dsimp only
      refine wpS_bind (wpS_ltB hS'.1 h0 (by omega) (by omega) fun b => ?_)
      cases b with
      | true =>
        dsimp only
        by_cases hq : neq > 0
        · rw [if_pos hq]
          exact wpS_bind (wpS_rev hS'.1 fun st3 h3 => wpS_pure ⟨hS'.trans h3, 0, rfl⟩)
        · rw [if_neg hq]
          exact wpS_pure ⟨hS', 0, rfl⟩
      | false =>
        dsimp only
        refine wpS_bind (wpS_ltB hS'.1 h0 (by omega) (by omega) fun b2 => ?_)
        cases b2 with
        | true => exact wpS_pure ⟨hS', x, neq, rfl, by omega, by omega⟩
        | false => exact wpS_pure ⟨hS', neq + 1, rfl⟩
    case post =>
      rintro c st' ⟨hS', m, neq, rfl, hm1, hm2⟩
      dsimp only
      by_cases hq : neq > 0
      · rw [if_pos hq]
        exact wpS_bind (wpS_rev hS'.1 fun st3 h3 => tail3 m st3 (hS'.trans h3) hm1 hm2)
      · rw [if_neg hq]
        exact tail3 m st' hS' hm1 hm2
  by_cases hnn : n = nrem
  · rw [if_pos (by simpa using hnn)]
    exact wpS_pure (h n st (Shuf.refl hB) hn1 hn2)
  · rw [if_neg (by simpa using hnn)]
    by_cases hgt : n > 1
    · rw [if_pos hgt]
      refine wpS_bind (wpS_ltB hB h0 (by omega) (by omega) fun b => ?_)
      cases b with
      | true => exact wpS_pure (h n st (Shuf.refl hB) hn1 hn2)
      | false =>
        dsimp only
        exact wpS_bind (wpS_rev hB fun st3 h3 => desc st3 h3 (by omega))
    · rw [if_neg hgt]
      exact desc st (Shuf.refl hB) (by omega)
end
end

section
open PySem PyProof.Rows
noncomputable def gallop' : Bool → Keyed → Array Keyed → Nat → Nat → Nat → StateT SortSt Sem (Option Nat) := sortPriv% PySem.Builtin.gallop
theorem gallop'_eq (left : Bool) (key : Keyed) (arr : Array Keyed) (base n hint : Nat) : gallop' left key arr base n hint = (do
  let beyond (i : Nat) : StateT SortSt Sem (Option Bool) := do
    let x ← elem' arr (base + i)
    if left then lt' x key else return (← lt' key x).map (!·)
  let mut lastofs := 0
  let mut ofs := 1
  let mut lo := 0
  let mut hi := 0
  let some right ← beyond hint | return none
  if right then
    let maxofs := n - hint
    for _ in [0:n] do
      if ofs ≥ maxofs then break
      let some more ← beyond (hint + ofs) | return none
      if !more then break
      lastofs := ofs
      ofs := 2 * ofs + 1
    lo := hint + lastofs + 1
    hi := hint + min ofs maxofs
  else
    let maxofs := hint + 1
    for _ in [0:n] do
      if ofs ≥ maxofs then break
      let some found ← beyond (hint - ofs) | return none
      if found then break
      lastofs := ofs
      ofs := 2 * ofs + 1
    lo := hint + 1 - min ofs maxofs
    hi := hint - lastofs
  for _ in [0:n] do
    if lo ≥ hi then break
    let m := lo + (hi - lo) / 2
    let some more ← beyond m | return none
    if more then lo := m + 1 else hi := m
  return some hi) := rfl
section
variable {prog : PySem.Program} {w : World} {A : Around} {E : Value → Shared → Prop} {s : Shared}
noncomputable def KeysAt (arr : Array Keyed) (base n : Nat) : Prop := ∀ i, i < n → ∃ p, arr[base + i]? = some p ∧ IntKey p
theorem wpS_gallop {st : SortSt} {left : Bool} {key : Keyed} {arr : Array Keyed} {base n hint : Nat} {Q : Option Nat → SortSt → Prop} (hk : kindOf st = oneType') (hkey : IntKey key) (hK : KeysAt arr base n) (hh : hint < n) (h : ∀ k, k ≤ n → Q (some k) st) :
    wpS (model prog w) A E s (gallop' left key arr base n hint) Q st := by
  have beyond : ∀ (i : Nat) (Q' : Option Bool → SortSt → Prop), i < n → (∀ b, Q' (some b) st) → wpS (model prog w) A E s (do
      let x ← elem' arr (base + i)
      if left then lt' x key else return (← lt' key x).map (!·)) Q' st := by
    intro i Q' hi hQ
    obtain ⟨p, hp, kp⟩ := hK i hi
    refine wpS_bind (wpS_elem hp ?_)
    cases left with
    | true => exact wpS_lt hk kp hkey hQ
    | false => exact wpS_bind (wpS_lt hk hkey kp fun b => wpS_pure (hQ _))
  rw [gallop'_eq]
  dsimp only
  refine wpS_bind (beyond hint _ hh fun right => ?_)
  dsimp only
  by_cases hr : right = true
  · rw [if_pos hr]
    refine wpS_bind (wpS_mono (wpS_forRange (I := fun x c st' => st = st' ∧ ∃ l o, c = (none, l, o)) (Q := fun c st' => st = st' ∧ ∃ l o, c = (none, l, o)) ?step (fun _ _ h => h) ⟨rfl, _, _, rfl⟩) ?post)
    case step =>
      rintro x c st' _ hx ⟨rfl, l, o, rfl⟩
      dsimp only
      by_cases hge : o ≥ n - hint
      · rw [if_pos hge]
        exact wpS_pure ⟨rfl, l, o, rfl⟩
      · rw [if_neg hge]
        refine wpS_bind (beyond _ _ (by lia) fun b => ?_)
        cases b with
        | true => exact wpS_pure ⟨rfl, _, _, rfl⟩
        | false => exact wpS_pure ⟨rfl, _, _, rfl⟩
    case post =>
      rintro c st' ⟨rfl, l, o, rfl⟩
      dsimp only
      refine wpS_bind (wpS_mono (wpS_forRange (I := fun x c st' => st = st' ∧ ∃ lo hi, c = (none, lo, hi) ∧ hi ≤ n) (Q := fun c st' => st = st' ∧ ∃ lo hi, c = (none, lo, hi) ∧ hi ≤ n) ?step2 (fun _ _ h => h) ⟨rfl, _, _, rfl, by lia⟩) ?post2)
      case step2 =>
        rintro x c st' _ hx ⟨rfl, lo, hi, rfl, hhi⟩
        dsimp only
        by_cases hge : lo ≥ hi
        · rw [if_pos hge]
          exact wpS_pure ⟨rfl, lo, hi, rfl, hhi⟩
        · rw [if_neg hge]
          refine wpS_bind (beyond _ _ (by omega) fun b => ?_)
          cases b with
          | true => exact wpS_pure ⟨rfl, _, _, rfl, hhi⟩
          | false => exact wpS_pure ⟨rfl, _, _, rfl, by omega⟩
      case post2 =>
        rintro c st' ⟨rfl, lo, hi, rfl, hhi⟩
        exact wpS_pure (h hi hhi)
  · rw [if_neg hr]
    refine wpS_bind (wpS_mono (wpS_forRange (I := fun x c st' => st = st' ∧ ∃ l o, c = (none, l, o)) (Q := fun c st' => st = st' ∧ ∃ l o, c = (none, l, o)) ?step (fun _ _ h => h) ⟨rfl, _, _, rfl⟩) ?post)
    case step =>
      rintro x c st' _ hx ⟨rfl, l, o, rfl⟩
      dsimp only
      by_cases hge : o ≥ hint + 1
      · rw [if_pos hge]
        exact wpS_pure ⟨rfl, l, o, rfl⟩
      · rw [if_neg hge]
        refine wpS_bind (beyond _ _ (by omega) fun b => ?_)
        cases b with
        | true => exact wpS_pure ⟨rfl, _, _, rfl⟩
        | false => exact wpS_pure ⟨rfl, _, _, rfl⟩
    case post =>
      rintro c st' ⟨rfl, l, o, rfl⟩
      dsimp only
      refine wpS_bind (wpS_mono (wpS_forRange (I := fun x c st' => st = st' ∧ ∃ lo hi, c = (none, lo, hi) ∧ hi ≤ n) (Q := fun c st' => st = st' ∧ ∃ lo hi, c = (none, lo, hi) ∧ hi ≤ n) ?step2 (fun _ _ h => h) ⟨rfl, _, _, rfl, by omega⟩) ?post2)
      case step2 =>
        rintro x c st' _ hx ⟨rfl, lo, hi, rfl, hhi⟩
        dsimp only
        by_cases hge : lo ≥ hi
        · rw [if_pos hge]
          exact wpS_pure ⟨rfl, lo, hi, rfl, hhi⟩
        · rw [if_neg hge]
          refine wpS_bind (beyond _ _ (by omega) fun b => ?_)
          cases b with
          | true => exact wpS_pure ⟨rfl, _, _, rfl, hhi⟩
          | false => exact wpS_pure ⟨rfl, _, _, rfl, by omega⟩
      case post2 =>
        rintro c st' ⟨rfl, lo, hi, rfl, hhi⟩
        exact wpS_pure (h hi hhi)
end
end

section
open PySem PyProof.Rows
noncomputable def setMinGallop' : Nat → StateT SortSt Sem Unit := sortPriv% PySem.Builtin.setMinGallop
theorem setMinGallop'_eq (g : Nat) : setMinGallop' g = modify fun s => SortSt.mk' (kindOf s) (arrOf s) (pendingOf s) g (failedOf s) := rfl
noncomputable def mergeLo' : Array Keyed → Array Keyed → StateT SortSt Sem (Array Keyed) := sortPriv% PySem.Builtin.mergeLo
theorem mergeLo'_eq (a b : Array Keyed) : mergeLo' a b = (do
  rule "list.sort.merge-lo"
  let total := a.size + b.size
  let done (out : Array Keyed) (ia ib : Nat) := out ++ a.extract ia a.size ++ b.extract ib b.size
  let lastOfA (out : Array Keyed) (ia ib : Nat) := out ++ b.extract ib b.size ++ a.extract ia a.size
  let mut out : Array Keyed := #[← elem' b 0]
  let mut ia := 0
  let mut ib := 1
  if ib == b.size then return done out ia ib
  if ia + 1 == a.size then return lastOfA out ia ib
  let mut minGallop := gallopOf (← get)
  for _ in [0:total] do
    let mut acount := 0
    let mut bcount := 0
    for _ in [0:total] do
      let some bWins ← lt' (← elem' b ib) (← elem' a ia) | return done out ia ib
      if bWins then
        out := out.push (← elem' b ib); ib := ib + 1; bcount := bcount + 1; acount := 0
        if ib == b.size then return done out ia ib
        if bcount ≥ minGallop then break
      else
        out := out.push (← elem' a ia); ia := ia + 1; acount := acount + 1; bcount := 0
        if ia + 1 == a.size then return lastOfA out ia ib
        if acount ≥ minGallop then break
    rule "list.sort.gallop"
    minGallop := minGallop + 1
    for _ in [0:total] do
      if minGallop > 1 then minGallop := minGallop - 1
      setMinGallop' minGallop
      let some k ← gallop' false (← elem' b ib) a ia (a.size - ia) 0 | return done out ia ib
      acount := k
      if k > 0 then
        out := out ++ a.extract ia (ia + k); ia := ia + k
        if ia + 1 == a.size then return lastOfA out ia ib
        if ia == a.size then return done out ia ib
      out := out.push (← elem' b ib); ib := ib + 1
      if ib == b.size then return done out ia ib
      let some k ← gallop' true (← elem' a ia) b ib (b.size - ib) 0 | return done out ia ib
      bcount := k
      if k > 0 then
        out := out ++ b.extract ib (ib + k); ib := ib + k
        if ib == b.size then return done out ia ib
      out := out.push (← elem' a ia); ia := ia + 1
      if ia + 1 == a.size then return lastOfA out ia ib
      if acount < 7 && bcount < 7 then break
    minGallop := minGallop + 1
    setMinGallop' minGallop
  unsupported "internal:list.sort.merge-bound") := rfl
section
variable {prog : PySem.Program} {w : World} {A : Around} {E : Value → Shared → Prop} {s : Shared}
noncomputable def GS (st st' : SortSt) : Prop := kindOf st' = kindOf st ∧ arrOf st' = arrOf st ∧ pendingOf st' = pendingOf st ∧ failedOf st' = failedOf st
theorem GS.refl (st : SortSt) : GS st st := ⟨rfl, rfl, rfl, rfl⟩
theorem GS.trans {a b c : SortSt} (x : GS a b) (y : GS b c) : GS a c := ⟨y.1.trans x.1, y.2.1.trans x.2.1, y.2.2.1.trans x.2.2.1, y.2.2.2.trans x.2.2.2⟩
theorem wpS_setMin {st : SortSt} {g : Nat} {Q : Unit → SortSt → Prop} (h : ∀ st', GS st st' → Q () st') : wpS (model prog w) A E s (setMinGallop' g) Q st := by
  rw [setMinGallop'_eq]; exact wpS_modify (h _ ⟨rfl, rfl, rfl, rfl⟩)
noncomputable def PLo (a b out : Array Keyed) (ia ib : Nat) : Prop := (out.toList ++ (a.toList.drop ia ++ b.toList.drop ib)).Perm (a.toList ++ b.toList)
section
variable {a b out : Array Keyed} {ia ib k : Nat}
theorem PLo.pushB (h : PLo a b out ia ib) (hb : ib < b.size) : PLo a b (out.push b[ib]) ia (ib + 1) := by
  unfold PLo at h ⊢
  refine List.Perm.trans ?_ h
  have e : b.toList.drop ib = b[ib] :: b.toList.drop (ib + 1) := by
    rw [List.drop_eq_getElem_cons (by simpa using hb)]; simp
  rw [Array.toList_push, e, List.append_assoc]
  refine List.Perm.append_left _ ?_
  exact (List.perm_middle (a := b[ib]) (l₁ := a.toList.drop ia) (l₂ := b.toList.drop (ib + 1))).symm
theorem PLo.pushA (h : PLo a b out ia ib) (ha : ia < a.size) : PLo a b (out.push a[ia]) (ia + 1) ib := by
  unfold PLo at h ⊢
  refine List.Perm.trans ?_ h
  have e : a.toList.drop ia = a[ia] :: a.toList.drop (ia + 1) := by
    rw [List.drop_eq_getElem_cons (by simpa using ha)]; simp
  rw [Array.toList_push, e, List.append_assoc]
  exact List.Perm.refl _
theorem drop_split (xs : Array Keyed) (i k : Nat) : xs.toList.drop i = (xs.extract i (i + k)).toList ++ xs.toList.drop (i + k) := by
  rw [Array.toList_extract, List.extract_eq_take_drop, show i + k - i = k by lia, ← List.drop_drop]
  exact (List.take_append_drop k _).symm
theorem PLo.takeA (h : PLo a b out ia ib) : PLo a b (out ++ a.extract ia (ia + k)) (ia + k) ib := by
  unfold PLo at h ⊢
  refine List.Perm.trans ?_ h
  rw [Array.toList_append, drop_split a ia k]
  simp only [List.append_assoc]
  exact List.Perm.refl _
theorem PLo.takeB (h : PLo a b out ia ib) : PLo a b (out ++ b.extract ib (ib + k)) ia (ib + k) := by
  unfold PLo at h ⊢
  refine List.Perm.trans ?_ h
  rw [Array.toList_append, drop_split b ib k]
  simp only [List.append_assoc]
  refine List.Perm.append_left _ ?_
  rw [← List.append_assoc, ← List.append_assoc]
  exact List.Perm.append_right _ List.perm_append_comm
theorem extract_all (xs : Array Keyed) (i : Nat) : (xs.extract i xs.size).toList = xs.toList.drop i := by
  rw [Array.toList_extract, List.extract_eq_take_drop, List.take_of_length_le (by simp)]
theorem PLo.done (h : PLo a b out ia ib) : (out ++ a.extract ia a.size ++ b.extract ib b.size).toList.Perm (a.toList ++ b.toList) := by
  rw [Array.toList_append, Array.toList_append, extract_all, extract_all, List.append_assoc]
  exact h
theorem PLo.last (h : PLo a b out ia ib) : (out ++ b.extract ib b.size ++ a.extract ia a.size).toList.Perm (a.toList ++ b.toList) := by
  rw [Array.toList_append, Array.toList_append, extract_all, extract_all, List.append_assoc]
  exact (List.Perm.append_left _ List.perm_append_comm).trans h
end
theorem wpS_elemAt {st : SortSt} {xs : Array Keyed} {i : Nat} {Q : Keyed → SortSt → Prop} (hi : i < xs.size) (h : Q xs[i] st) : wpS (model prog w) A E s (elem' xs i) Q st := wpS_elem (getElem?_pos xs i hi) h
theorem keysAt {xs : Array Keyed} (hx : ∀ p ∈ xs.toList, IntKey p) {base n : Nat} (h : base + n ≤ xs.size) : KeysAt xs base n := fun i hi =>
  ⟨xs[base + i]'(by omega), getElem?_pos xs _ (by omega), hx _ (by simp)⟩
theorem keyAt {xs : Array Keyed} (hx : ∀ p ∈ xs.toList, IntKey p) {i : Nat} (h : i < xs.size) : IntKey xs[i] := hx _ (by simp)
noncomputable abbrev LoSt := Option (Array Keyed) × Array Keyed × Nat × Nat × Nat × Nat × Nat
theorem gen_S {σ β : Type} {M : Model} {m : StateT σ Sem β} {Q : β → σ → Prop} {st : σ} (h : ∀ Q', (∀ x st, Q x st → Q' x st) → wpS M A E s m Q' st) : wpS M A E s m Q st := h Q fun _ _ x => x
noncomputable abbrev LoS1 := Option (Array Keyed) × Array Keyed × Nat × Nat × Nat × Nat
noncomputable def loIn (a b : Array Keyed) (mg : Nat) (out : Array Keyed) (ia ib ac bc : Nat) : StateT SortSt Sem (ForInStep LoS1) := do
  let some bWins ← lt' (← elem' b ib) (← elem' a ia) | return .done (some (out ++ a.extract ia a.size ++ b.extract ib b.size), out, ia, ib, ac, bc)
  if bWins then
    let out := out.push (← elem' b ib)
    let ib := ib + 1
    let bc := bc + 1
    if ib == b.size then return .done (some (out ++ a.extract ia a.size ++ b.extract ib b.size), out, ia, ib, 0, bc)
    if bc ≥ mg then return .done (none, out, ia, ib, 0, bc)
    return .yield (none, out, ia, ib, 0, bc)
  else
    let out := out.push (← elem' a ia)
    let ia := ia + 1
    let ac := ac + 1
    if ia + 1 == a.size then return .done (some (out ++ b.extract ib b.size ++ a.extract ia a.size), out, ia, ib, ac, 0)
    if ac ≥ mg then return .done (none, out, ia, ib, ac, 0)
    return .yield (none, out, ia, ib, ac, 0)
theorem wpS_loIn {st : SortSt} {a b out : Array Keyed} {ia ib mg ac bc n : Nat} {Q : ForInStep LoS1 → SortSt → Prop} (hk : kindOf st = oneType') (ka : ∀ p ∈ a.toList, IntKey p) (kb : ∀ p ∈ b.toList, IntKey p) (hp : PLo a b out ia ib) (hia : ia + 1 < a.size) (hib : ib < b.size) (hn : (a.size - ia) + (b.size - ib) ≤ n + 1)
    (hD : ∀ r o i j x y, r.toList.Perm (a.toList ++ b.toList) → Q (.done (some r, o, i, j, x, y)) st)
    (hN : ∀ o i j x y, PLo a b o i j → i + 1 < a.size → j < b.size → (a.size - i) + (b.size - j) ≤ n → Q (.done (none, o, i, j, x, y)) st ∧ Q (.yield (none, o, i, j, x, y)) st) :
    wpS (model prog w) A E s (loIn a b mg out ia ib ac bc) Q st := by
  unfold loIn
  refine wpS_bind (wpS_elemAt hib ?_)
  refine wpS_bind (wpS_elemAt (show ia < a.size by omega) ?_)
  refine wpS_bind (wpS_lt hk (keyAt kb hib) (keyAt ka (by omega)) fun bw => ?_)
  cases bw with
  | true =>
    dsimp only
    refine wpS_bind (wpS_elemAt hib ?_)
    by_cases e : ib + 1 = b.size
    · rw [if_pos (by simpa using e)]
      exact wpS_pure (hD _ _ _ _ _ _ (hp.pushB hib).done)
    · rw [if_neg (by simpa using e)]
      have := hN (out.push b[ib]) ia (ib + 1) 0 (bc + 1) (hp.pushB hib) hia (by lia) (by omega)
      split
      · exact wpS_pure this.1
      · exact wpS_pure this.2
  | false =>
    dsimp only
    refine wpS_bind (wpS_elemAt (show ia < a.size by omega) ?_)
    by_cases e : ia + 1 + 1 = a.size
    · rw [if_pos (by simpa using e)]
      exact wpS_pure (hD _ _ _ _ _ _ (hp.pushA (by omega)).last)
    · rw [if_neg (by simpa using e)]
      have := hN (out.push (a[ia]'(by omega))) (ia + 1) ib (ac + 1) 0 (hp.pushA (by omega)) (by omega) hib (by omega)
      split
      · exact wpS_pure this.1
      · exact wpS_pure this.2
noncomputable def loC (a b out : Array Keyed) (ia ib mg ac bc : Nat) : StateT SortSt Sem (ForInStep LoSt) := do
  let out := out.push (← elem' a ia)
  let ia := ia + 1
  if ia + 1 == a.size then return .done (some (out ++ b.extract ib b.size ++ a.extract ia a.size), out, ia, ib, mg, ac, bc)
  if ac < 7 && bc < 7 then return .done (none, out, ia, ib, mg, ac, bc)
  return .yield (none, out, ia, ib, mg, ac, bc)
noncomputable def loB (a b out : Array Keyed) (ia ib mg ac bc : Nat) : StateT SortSt Sem (ForInStep LoSt) := do
  let out := out.push (← elem' b ib)
  let ib := ib + 1
  if ib == b.size then return .done (some (out ++ a.extract ia a.size ++ b.extract ib b.size), out, ia, ib, mg, ac, bc)
  let some k ← gallop' true (← elem' a ia) b ib (b.size - ib) 0 | return .done (some (out ++ a.extract ia a.size ++ b.extract ib b.size), out, ia, ib, mg, ac, bc)
  if k > 0 then
    let out := out ++ b.extract ib (ib + k)
    let ib := ib + k
    if ib == b.size then return .done (some (out ++ a.extract ia a.size ++ b.extract ib b.size), out, ia, ib, mg, ac, k)
    loC a b out ia ib mg ac k
  else loC a b out ia ib mg ac k
noncomputable def loA (a b out : Array Keyed) (ia ib mg ac bc : Nat) : StateT SortSt Sem (ForInStep LoSt) := do
  let some k ← gallop' false (← elem' b ib) a ia (a.size - ia) 0 | return .done (some (out ++ a.extract ia a.size ++ b.extract ib b.size), out, ia, ib, mg, ac, bc)
  if k > 0 then
    let out := out ++ a.extract ia (ia + k)
    let ia := ia + k
    if ia + 1 == a.size then return .done (some (out ++ b.extract ib b.size ++ a.extract ia a.size), out, ia, ib, mg, k, bc)
    if ia == a.size then return .done (some (out ++ a.extract ia a.size ++ b.extract ib b.size), out, ia, ib, mg, k, bc)
    loB a b out ia ib mg k bc
  else loB a b out ia ib mg k bc
section
variable {st : SortSt} {a b out : Array Keyed} {ia ib mg ac bc n : Nat} {Q : ForInStep LoSt → SortSt → Prop}
theorem wpS_loC (hp : PLo a b out ia ib) (hia : ia + 1 < a.size) (hib : ib < b.size) (hn : (a.size - ia) + (b.size - ib) ≤ n)
    (hD : ∀ r o i j m x y, r.toList.Perm (a.toList ++ b.toList) → Q (.done (some r, o, i, j, m, x, y)) st)
    (hN : ∀ o i j m x y, PLo a b o i j → i + 1 < a.size → j < b.size → (a.size - i) + (b.size - j) ≤ n → Q (.done (none, o, i, j, m, x, y)) st ∧ Q (.yield (none, o, i, j, m, x, y)) st) :
    wpS (model prog w) A E s (loC a b out ia ib mg ac bc) Q st := by
  unfold loC
  refine wpS_bind (wpS_elemAt (show ia < a.size by omega) ?_)
  by_cases e : ia + 1 + 1 = a.size
  · rw [if_pos (by simpa using e)]
    exact wpS_pure (hD _ _ _ _ _ _ _ (hp.pushA (by omega)).last)
  · rw [if_neg (by simpa using e)]
    have := hN (out.push (a[ia]'(by omega))) (ia + 1) ib mg ac bc (hp.pushA (by omega)) (by omega) hib (by omega)
    split
    · exact wpS_pure this.1
    · exact wpS_pure this.2
theorem wpS_loB (hk : kindOf st = oneType') (ka : ∀ p ∈ a.toList, IntKey p) (kb : ∀ p ∈ b.toList, IntKey p) (hp : PLo a b out ia ib) (hia : ia + 1 < a.size) (hib : ib < b.size) (hn : (a.size - ia) + (b.size - ib) ≤ n)
    (hD : ∀ r o i j m x y, r.toList.Perm (a.toList ++ b.toList) → Q (.done (some r, o, i, j, m, x, y)) st)
    (hN : ∀ o i j m x y, PLo a b o i j → i + 1 < a.size → j < b.size → (a.size - i) + (b.size - j) ≤ n → Q (.done (none, o, i, j, m, x, y)) st ∧ Q (.yield (none, o, i, j, m, x, y)) st) :
    wpS (model prog w) A E s (loB a b out ia ib mg ac bc) Q st := by
  unfold loB
  refine wpS_bind (wpS_elemAt hib ?_)
  have hp1 := hp.pushB hib
  by_cases e : ib + 1 = b.size
  · rw [if_pos (by simpa using e)]
    exact wpS_pure (hD _ _ _ _ _ _ _ hp1.done)
  · rw [if_neg (by simpa using e)]
    refine wpS_bind (wpS_elemAt (show ia < a.size by omega) ?_)
    refine wpS_bind (wpS_gallop hk (keyAt ka (by omega)) (keysAt kb (by omega)) (by omega) fun k hk4 => ?_)
    dsimp only
    by_cases e5 : k > 0
    · rw [if_pos e5]
      by_cases e6 : ib + 1 + k = b.size
      · rw [if_pos (by simpa using e6)]
        exact wpS_pure (hD _ _ _ _ _ _ _ hp1.takeB.done)
      · rw [if_neg (by simpa using e6)]
        exact wpS_loC hp1.takeB hia (by omega) (by lia) hD hN
    · rw [if_neg e5]
      exact wpS_loC hp1 hia (by lia) (by omega) hD hN
theorem wpS_loA (hk : kindOf st = oneType') (ka : ∀ p ∈ a.toList, IntKey p) (kb : ∀ p ∈ b.toList, IntKey p) (hp : PLo a b out ia ib) (hia : ia + 1 < a.size) (hib : ib < b.size) (hn : (a.size - ia) + (b.size - ib) ≤ n)
    (hD : ∀ r o i j m x y, r.toList.Perm (a.toList ++ b.toList) → Q (.done (some r, o, i, j, m, x, y)) st)
    (hN : ∀ o i j m x y, PLo a b o i j → i + 1 < a.size → j < b.size → (a.size - i) + (b.size - j) ≤ n → Q (.done (none, o, i, j, m, x, y)) st ∧ Q (.yield (none, o, i, j, m, x, y)) st) :
    wpS (model prog w) A E s (loA a b out ia ib mg ac bc) Q st := by
  unfold loA
  refine wpS_bind (wpS_elemAt hib ?_)
  refine wpS_bind (wpS_gallop hk (keyAt kb hib) (keysAt ka (by omega)) (by omega) fun k hk3 => ?_)
  dsimp only
  by_cases e1 : k > 0
  · rw [if_pos e1]
    by_cases e2 : ia + k + 1 = a.size
    · rw [if_pos (by simpa using e2)]
      exact wpS_pure (hD _ _ _ _ _ _ _ hp.takeA.last)
    · rw [if_neg (by simpa using e2)]
      by_cases e3 : ia + k = a.size
      · rw [if_pos (by simpa using e3)]
        exact wpS_pure (hD _ _ _ _ _ _ _ hp.takeA.done)
      · rw [if_neg (by simpa using e3)]
        exact wpS_loB hk ka kb hp.takeA (by lia) hib (by lia) hD hN
  · rw [if_neg e1]
    exact wpS_loB hk ka kb hp hia hib hn hD hN
end
end
namespace E_wpS_mergeLo
noncomputable abbrev Dat : Type := (PySem.Program) × (World) × (Around) × (Value → Shared → Prop) × (Shared) × (Array Keyed) × (Array Keyed) × (Array Keyed → SortSt → Prop)
theorem ne : Nonempty Dat := ⟨(default, { draws := fun _ _ => 0, params := { strHash := fun _ => 0, shareClass := fun _ => 0, mergeTok := id, idOf := fun _ => 0, idOfShared := fun _ _ => 0, followText := fun _ => false, idOfImm := fun _ => 0 } }, {}, default, {}, default, default, default)⟩
noncomputable def Stm (prog : PySem.Program) (w : World) (A : Around) (E : Value → Shared → Prop) (s : Shared) (a : Array Keyed) (b : Array Keyed) (Q : Array Keyed → SortSt → Prop) : Prop := ∀ {st : SortSt} (hk : kindOf st = oneType') (ha : 1 ≤ a.size) (hb : 1 ≤ b.size) (ka : ∀ p ∈ a.toList, IntKey p) (kb : ∀ p ∈ b.toList, IntKey p) (h : ∀ out st', GS st st' → out.toList.Perm (a.toList ++ b.toList) → Q out st'), wpS (model prog w) A E s (mergeLo' a b) Q st
@[irreducible] noncomputable def pick : Dat := @Classical.epsilon Dat ne fun d => ¬ Stm d.1 d.2.1 d.2.2.1 d.2.2.2.1 d.2.2.2.2.1 d.2.2.2.2.2.1 d.2.2.2.2.2.2.1 d.2.2.2.2.2.2.2
@[irreducible] noncomputable def prog := pick.1
@[irreducible] noncomputable def w := pick.2.1
@[irreducible] noncomputable def A := pick.2.2.1
@[irreducible] noncomputable def E := pick.2.2.2.1
@[irreducible] noncomputable def s := pick.2.2.2.2.1
@[irreducible] noncomputable def a := pick.2.2.2.2.2.1
noncomputable def pickr1 := pick.2.2.2.2.2.2
@[irreducible] noncomputable def b := pickr1.1
@[irreducible] noncomputable def Q := pickr1.2
theorem go : Stm prog w A E s a b Q := by
  intro st hk ha hb ka kb h
  rw [mergeLo'_eq]
  refine wpS_bind (wpS_lift (wpAny_rule ⟨rfl, ?_⟩))
  refine wpS_bind (wpS_elem (getElem?_pos b 0 hb) ?_)
  have p0 : PLo a b #[b[0]] 0 1 := by
    have h0 : PLo a b #[] 0 0 := by unfold PLo; simp
    exact h0.pushB hb
  by_cases hb1 : 1 = b.size
  · rw [if_pos (by simpa using hb1)]
    exact wpS_pure (h _ _ (GS.refl st) p0.done)
  rw [if_neg (by simpa using hb1)]
  by_cases ha1 : 0 + 1 = a.size
  · rw [if_pos (by simpa using ha1)]
    exact wpS_pure (h _ _ (GS.refl st) p0.last)
  rw [if_neg (by simpa using ha1)]
  refine wpS_bind (wpS_get ?_)
  refine wpS_bind (wpS_mono (wpS_forRange (I := fun x c st' => GS st st' ∧ ∃ out ia ib mg, c = (none, out, ia, ib, mg) ∧ PLo a b out ia ib ∧ ia + 1 < a.size ∧ ib < b.size ∧ (a.size - ia) + (b.size - ib) + x ≤ a.size + b.size)
    (Q := fun c st' => GS st st' ∧ ∃ r out ia ib mg, c = (some r, out, ia, ib, mg) ∧ r.toList.Perm (a.toList ++ b.toList)) ?step ?fin ⟨GS.refl st, _, _, _, _, rfl, p0, by lia, by lia, by lia⟩) ?post)
  case post =>
    rintro c st' ⟨hG, r, out, ia, ib, mg, rfl, hp⟩
    exact wpS_pure (h r st' hG hp)
  case fin =>
    rintro c st' ⟨hG, out, ia, ib, mg, rfl, hp, h1, h2, h3⟩
    exfalso
    lia
  case step =>
    rintro x c st1 _ hx ⟨hG, out, ia, ib, mg, rfl, hp, hia, hib, hrem⟩
    dsimp only
    refine gen_S fun Qt hQt => ?_
    have hk1 : kindOf st1 = oneType' := hG.1.trans hk
    refine wpS_bind (wpS_mono (wpS_forRange (I := fun y c st' => st1 = st' ∧ ∃ out ia ib ac bc, c = (none, out, ia, ib, ac, bc) ∧ PLo a b out ia ib ∧ ia + 1 < a.size ∧ ib < b.size ∧ (a.size - ia) + (b.size - ib) + x + y ≤ a.size + b.size)
      (Q := fun c st' => st1 = st' ∧ ∃ r out ia ib ac bc, c = (r, out, ia, ib, ac, bc) ∧ (∀ r', r = some r' → r'.toList.Perm (a.toList ++ b.toList)) ∧ (r = none → PLo a b out ia ib ∧ ia + 1 < a.size ∧ ib < b.size ∧ (a.size - ia) + (b.size - ib) + (x + 1) ≤ a.size + b.size)) ?step1 ?fin1 ⟨rfl, _, _, _, _, _, rfl, hp, hia, hib, by omega⟩) ?post1)
    case fin1 =>
      rintro c st' ⟨rfl, out, ia, ib, ac, bc, rfl, hp, h1, h2, h3⟩
      exfalso
      lia
    case step1 =>
      rintro y c st' _ hy ⟨rfl, out, ia, ib, ac, bc, rfl, hp, hia, hib, hrem⟩
      refine gen_S fun Q' hQ => ?_
      exact wpS_loIn (out := out) (ia := ia) (ib := ib) (n := a.size + b.size - (x + y) - 1) hk1 ka kb hp hia hib (by omega)
        (fun r o i j x' y' hr => hQ _ _ ⟨rfl, _, _, _, _, _, _, rfl, fun r' hr' => Option.some.inj hr' ▸ hr, fun hr' => (nomatch hr')⟩)
        (fun o i j x' y' h1 h2 h3 h4 => ⟨hQ _ _ ⟨rfl, _, _, _, _, _, _, rfl, (fun r' hr => (nomatch hr)), fun _ => ⟨h1, h2, h3, by omega⟩⟩, hQ _ _ ⟨rfl, _, _, _, _, _, rfl, h1, h2, h3, by omega⟩⟩)
    case post1 =>
      rintro c st' ⟨rfl, r, out, ia, ib, ac, bc, rfl, hr1, hr2⟩
      cases r with
      | some r => exact wpS_pure (hQt _ _ ⟨hG, r, _, _, _, _, rfl, hr1 r rfl⟩)
      | none =>
        obtain ⟨hp, hia, hib, hrem⟩ := hr2 rfl
        clear hr1 hr2
        dsimp only
        refine wpS_bind (wpS_lift (wpAny_rule ⟨rfl, ?_⟩))
        refine wpS_bind (wpS_mono (wpS_forRange (I := fun y c st' => GS st st' ∧ ∃ out ia ib mg ac bc, c = (none, out, ia, ib, mg, ac, bc) ∧ PLo a b out ia ib ∧ ia + 1 < a.size ∧ ib < b.size ∧ (a.size - ia) + (b.size - ib) + (x + 1) ≤ a.size + b.size)
          (Q := fun c st' => GS st st' ∧ ∃ r out ia ib mg ac bc, c = (r, out, ia, ib, mg, ac, bc) ∧ (∀ r', r = some r' → r'.toList.Perm (a.toList ++ b.toList)) ∧ (r = none → PLo a b out ia ib ∧ ia + 1 < a.size ∧ ib < b.size ∧ (a.size - ia) + (b.size - ib) + (x + 1) ≤ a.size + b.size)) ?step2 ?fin2 ⟨hG, _, _, _, _, _, _, rfl, hp, hia, hib, hrem⟩) ?post2)
        case fin2 =>
          rintro c st' ⟨hG, out, ia, ib, mg, ac, bc, rfl, hp⟩
          exact ⟨hG, none, _, _, _, _, _, _, rfl, (fun r' hr => (nomatch hr)), fun _ => hp⟩
        case post2 =>
          rintro c st' ⟨hG, r, out, ia, ib, mg, ac, bc, rfl, hr1, hr2⟩
          cases r with
          | some r => exact wpS_pure (hQt _ _ ⟨hG, r, _, _, _, _, rfl, hr1 r rfl⟩)
          | none => exact wpS_bind (wpS_setMin fun st2 hG2 => wpS_pure (hQt _ _ ⟨hG.trans hG2, _, _, _, _, rfl, hr2 rfl⟩))
        case step2 =>
          rintro y c st1 _ hy ⟨hG, out, ia, ib, mg, ac, bc, rfl, hp, hia, hib, hrem⟩
          refine gen_S fun Q' hQ => ?_
          have join : ∀ mg' st2, GS st st2 → wpS (model prog w) A E s (loA a b out ia ib mg' ac bc) Q' st2 := fun mg' st2 hG2 => wpS_loA (n := a.size + b.size - (x + 1)) (hG2.1.trans hk) ka kb hp hia hib (by omega)
            (fun r o i j m x' y' hr => hQ _ _ ⟨hG2, _, _, _, _, _, _, _, rfl, fun r' hr' => Option.some.inj hr' ▸ hr, fun hr' => (nomatch hr')⟩)
            (fun o i j m x' y' h1 h2 h3 h4 => ⟨hQ _ _ ⟨hG2, _, _, _, _, _, _, _, rfl, (fun r' hr => (nomatch hr)), fun _ => ⟨h1, h2, h3, by omega⟩⟩, hQ _ _ ⟨hG2, _, _, _, _, _, _, rfl, h1, h2, h3, by omega⟩⟩)
          by_cases e0 : mg > 1
          · rw [if_pos e0]
            exact wpS_bind (wpS_setMin fun st2 hG2 => join _ st2 (hG.trans hG2))
          · rw [if_neg e0]
            exact wpS_bind (wpS_setMin fun st2 hG2 => join _ st2 (hG.trans hG2))
theorem all (x : Dat) : Stm x.1 x.2.1 x.2.2.1 x.2.2.2.1 x.2.2.2.2.1 x.2.2.2.2.2.1 x.2.2.2.2.2.2.1 x.2.2.2.2.2.2.2 := eps_all ne (fun x => Stm x.1 x.2.1 x.2.2.1 x.2.2.2.1 x.2.2.2.2.1 x.2.2.2.2.2.1 x.2.2.2.2.2.2.1 x.2.2.2.2.2.2.2) (by with_unfolding_all exact go) x
end E_wpS_mergeLo
theorem wpS_mergeLo {prog : PySem.Program} {w : World} {A : Around} {E : Value → Shared → Prop} {s : Shared} {a : Array Keyed} {b : Array Keyed} {Q : Array Keyed → SortSt → Prop} {st : SortSt} (hk : kindOf st = oneType') (ha : 1 ≤ a.size) (hb : 1 ≤ b.size) (ka : ∀ p ∈ a.toList, IntKey p) (kb : ∀ p ∈ b.toList, IntKey p) (h : ∀ out st', GS st st' → out.toList.Perm (a.toList ++ b.toList) → Q out st') : wpS (model prog w) A E s (mergeLo' a b) Q st :=
  E_wpS_mergeLo.all (prog, w, A, E, s, a, b, Q) hk ha hb ka kb h
end

section
open PySem PyProof.Rows
noncomputable def mergeHi' : Array Keyed → Array Keyed → StateT SortSt Sem (Array Keyed) := sortPriv% PySem.Builtin.mergeHi
theorem mergeHi'_eq (a b : Array Keyed) : mergeHi' a b = (do
  rule "list.sort.merge-hi"
  let total := a.size + b.size
  let done (out : Array Keyed) (na nb : Nat) := a.extract 0 na ++ b.extract 0 nb ++ out.reverse
  let firstOfB (out : Array Keyed) (na nb : Nat) := b.extract 0 nb ++ a.extract 0 na ++ out.reverse
  let mut na := a.size - 1
  let mut nb := b.size
  let mut out : Array Keyed := #[← elem' a na]
  if na == 0 then return done out na nb
  if nb == 1 then return firstOfB out na nb
  let mut minGallop := gallopOf (← get)
  for _ in [0:total] do
    let mut acount := 0
    let mut bcount := 0
    for _ in [0:total] do
      let some aWins ← lt' (← elem' b (nb - 1)) (← elem' a (na - 1)) | return done out na nb
      if aWins then
        na := na - 1; out := out.push (← elem' a na); acount := acount + 1; bcount := 0
        if na == 0 then return done out na nb
        if acount ≥ minGallop then break
      else
        nb := nb - 1; out := out.push (← elem' b nb); bcount := bcount + 1; acount := 0
        if nb == 1 then return firstOfB out na nb
        if bcount ≥ minGallop then break
    rule "list.sort.gallop"
    minGallop := minGallop + 1
    for _ in [0:total] do
      if minGallop > 1 then minGallop := minGallop - 1
      setMinGallop' minGallop
      let some at_ ← gallop' false (← elem' b (nb - 1)) a 0 na (na - 1) | return done out na nb
      let k := na - at_
      acount := k
      if k > 0 then
        out := out ++ (a.extract at_ na).reverse; na := at_
        if na == 0 then return done out na nb
      nb := nb - 1; out := out.push (← elem' b nb)
      if nb == 1 then return firstOfB out na nb
      let some at_ ← gallop' true (← elem' a (na - 1)) b 0 nb (nb - 1) | return done out na nb
      let k := nb - at_
      bcount := k
      if k > 0 then
        out := out ++ (b.extract at_ nb).reverse; nb := at_
        if nb == 1 then return firstOfB out na nb
        if nb == 0 then return done out na nb
      na := na - 1; out := out.push (← elem' a na)
      if na == 0 then return done out na nb
      if acount < 7 && bcount < 7 then break
    minGallop := minGallop + 1
    setMinGallop' minGallop
  unsupported "internal:list.sort.merge-bound") := rfl
noncomputable def PHi (a b out : Array Keyed) (na nb : Nat) : Prop := (a.toList.take na ++ (b.toList.take nb ++ out.toList)).Perm (a.toList ++ b.toList)
section
variable {a b out : Array Keyed} {na nb k : Nat}
theorem take_pop (xs : Array Keyed) {n : Nat} (h1 : 1 ≤ n) (h2 : n ≤ xs.size) : xs.toList.take n = xs.toList.take (n - 1) ++ [xs[n - 1]'(by omega)] := by
  obtain ⟨m, rfl⟩ : ∃ m, n = m + 1 := ⟨n - 1, by omega⟩
  have h : m < xs.toList.length := by rw [Array.length_toList]; lia
  rw [List.take_add_one, List.getElem?_eq_getElem h]
  simp
theorem take_cut (xs : Array Keyed) {n k : Nat} (h1 : k ≤ n) (_h2 : n ≤ xs.size) : xs.toList.take n = xs.toList.take k ++ (xs.extract k n).toList := by
  rw [Array.toList_extract, List.extract_eq_take_drop]
  conv => lhs; rw [show n = k + (n - k) by omega, List.take_add]
theorem PHi.popA (h : PHi a b out na nb) (h1 : 1 ≤ na) (h2 : na ≤ a.size) : PHi a b (out.push (a[na - 1]'(by omega))) (na - 1) nb := by
  unfold PHi at h ⊢
  refine List.Perm.trans ?_ h
  rw [take_pop a h1 h2, Array.toList_push, List.append_assoc]
  refine List.Perm.append_left _ ?_
  rw [← List.append_assoc]
  exact List.perm_append_comm
theorem PHi.popB (h : PHi a b out na nb) (h1 : 1 ≤ nb) (h2 : nb ≤ b.size) : PHi a b (out.push (b[nb - 1]'(by omega))) na (nb - 1) := by
  unfold PHi at h ⊢
  refine List.Perm.trans ?_ h
  refine List.Perm.append_left _ ?_
  rw [take_pop b h1 h2, Array.toList_push, List.append_assoc]
  exact List.Perm.append_left _ List.perm_append_comm
theorem PHi.takeA (h : PHi a b out na nb) (h1 : k ≤ na) (h2 : na ≤ a.size) : PHi a b (out ++ (a.extract k na).reverse) k nb := by
  unfold PHi at h ⊢
  refine List.Perm.trans ?_ h
  rw [take_cut a h1 h2, Array.toList_append, Array.toList_reverse, List.append_assoc]
  refine List.Perm.append_left _ ?_
  rw [← List.append_assoc]
  exact (List.Perm.append_left _ (List.reverse_perm _)).trans List.perm_append_comm
theorem PHi.takeB (h : PHi a b out na nb) (h1 : k ≤ nb) (h2 : nb ≤ b.size) : PHi a b (out ++ (b.extract k nb).reverse) na k := by
  unfold PHi at h ⊢
  refine List.Perm.trans ?_ h
  refine List.Perm.append_left _ ?_
  rw [take_cut b h1 h2, Array.toList_append, Array.toList_reverse, List.append_assoc]
  exact List.Perm.append_left _ ((List.Perm.append_left _ (List.reverse_perm _)).trans List.perm_append_comm)
theorem extract0 (xs : Array Keyed) (n : Nat) : (xs.extract 0 n).toList = xs.toList.take n := by
  rw [Array.toList_extract, List.extract_eq_take_drop]; simp
theorem PHi.done (h : PHi a b out na nb) : (a.extract 0 na ++ b.extract 0 nb ++ out.reverse).toList.Perm (a.toList ++ b.toList) := by
  rw [Array.toList_append, Array.toList_append, extract0, extract0, List.append_assoc, Array.toList_reverse]
  exact (List.Perm.append_left _ (List.Perm.append_left _ (List.reverse_perm _))).trans h
theorem PHi.first (h : PHi a b out na nb) : (b.extract 0 nb ++ a.extract 0 na ++ out.reverse).toList.Perm (a.toList ++ b.toList) := by
  rw [Array.toList_append, Array.toList_append, extract0, extract0, Array.toList_reverse]
  refine List.Perm.trans ?_ h
  rw [← List.append_assoc]
  exact (List.Perm.append_left _ (List.reverse_perm _)).trans (List.Perm.append_right _ List.perm_append_comm)
end
section
variable {prog : PySem.Program} {w : World} {A : Around} {E : Value → Shared → Prop} {s : Shared}
noncomputable abbrev HiS1 := Option (Array Keyed) × Nat × Nat × Array Keyed × Nat × Nat
noncomputable abbrev HiS2 := Option (Array Keyed) × Nat × Nat × Array Keyed × Nat × Nat × Nat
noncomputable def hiIn (a b : Array Keyed) (mg na nb : Nat) (out : Array Keyed) (ac bc : Nat) : StateT SortSt Sem (ForInStep HiS1) := do
  let some aWins ← lt' (← elem' b (nb - 1)) (← elem' a (na - 1)) | return .done (some (a.extract 0 na ++ b.extract 0 nb ++ out.reverse), na, nb, out, ac, bc)
  if aWins then
    let na := na - 1
    let out := out.push (← elem' a na)
    let ac := ac + 1
    if na == 0 then return .done (some (a.extract 0 na ++ b.extract 0 nb ++ out.reverse), na, nb, out, ac, 0)
    if ac ≥ mg then return .done (none, na, nb, out, ac, 0)
    return .yield (none, na, nb, out, ac, 0)
  else
    let nb := nb - 1
    let out := out.push (← elem' b nb)
    let bc := bc + 1
    if nb == 1 then return .done (some (b.extract 0 nb ++ a.extract 0 na ++ out.reverse), na, nb, out, 0, bc)
    if bc ≥ mg then return .done (none, na, nb, out, 0, bc)
    return .yield (none, na, nb, out, 0, bc)
noncomputable def hiC (a b : Array Keyed) (na nb : Nat) (out : Array Keyed) (mg ac bc : Nat) : StateT SortSt Sem (ForInStep HiS2) := do
  let na := na - 1
  let out := out.push (← elem' a na)
  if na == 0 then return .done (some (a.extract 0 na ++ b.extract 0 nb ++ out.reverse), na, nb, out, mg, ac, bc)
  if ac < 7 && bc < 7 then return .done (none, na, nb, out, mg, ac, bc)
  return .yield (none, na, nb, out, mg, ac, bc)
noncomputable def hiB (a b : Array Keyed) (na nb : Nat) (out : Array Keyed) (mg ac bc : Nat) : StateT SortSt Sem (ForInStep HiS2) := do
  let nb := nb - 1
  let out := out.push (← elem' b nb)
  if nb == 1 then return .done (some (b.extract 0 nb ++ a.extract 0 na ++ out.reverse), na, nb, out, mg, ac, bc)
  let some at_ ← gallop' true (← elem' a (na - 1)) b 0 nb (nb - 1) | return .done (some (a.extract 0 na ++ b.extract 0 nb ++ out.reverse), na, nb, out, mg, ac, bc)
  let k := nb - at_
  if k > 0 then
    let out := out ++ (b.extract at_ nb).reverse
    let nb := at_
    if nb == 1 then return .done (some (b.extract 0 nb ++ a.extract 0 na ++ out.reverse), na, nb, out, mg, ac, k)
    if nb == 0 then return .done (some (a.extract 0 na ++ b.extract 0 nb ++ out.reverse), na, nb, out, mg, ac, k)
    hiC a b na nb out mg ac k
  else hiC a b na nb out mg ac k
noncomputable def hiA (a b : Array Keyed) (na nb : Nat) (out : Array Keyed) (mg ac bc : Nat) : StateT SortSt Sem (ForInStep HiS2) := do
  let some at_ ← gallop' false (← elem' b (nb - 1)) a 0 na (na - 1) | return .done (some (a.extract 0 na ++ b.extract 0 nb ++ out.reverse), na, nb, out, mg, ac, bc)
  let k := na - at_
  if k > 0 then
    let out := out ++ (a.extract at_ na).reverse
    let na := at_
    if na == 0 then return .done (some (a.extract 0 na ++ b.extract 0 nb ++ out.reverse), na, nb, out, mg, k, bc)
    hiB a b na nb out mg k bc
  else hiB a b na nb out mg k bc
section
variable {st : SortSt} {a b out : Array Keyed} {na nb mg ac bc n : Nat}
theorem wpS_hiIn {Q : ForInStep HiS1 → SortSt → Prop} (hk : kindOf st = oneType') (ka : ∀ p ∈ a.toList, IntKey p) (kb : ∀ p ∈ b.toList, IntKey p) (hp : PHi a b out na nb) (hna : 1 ≤ na) (hna2 : na ≤ a.size) (hnb : 2 ≤ nb) (hnb2 : nb ≤ b.size) (hn : na + nb ≤ n + 1)
    (hD : ∀ r i j o x y, r.toList.Perm (a.toList ++ b.toList) → Q (.done (some r, i, j, o, x, y)) st)
    (hN : ∀ i j o x y, PHi a b o i j → 1 ≤ i → i ≤ a.size → 2 ≤ j → j ≤ b.size → i + j ≤ n → Q (.done (none, i, j, o, x, y)) st ∧ Q (.yield (none, i, j, o, x, y)) st) :
    wpS (model prog w) A E s (hiIn a b mg na nb out ac bc) Q st := by
  unfold hiIn
  refine wpS_bind (wpS_elemAt (show nb - 1 < b.size by omega) ?_)
  refine wpS_bind (wpS_elemAt (show na - 1 < a.size by omega) ?_)
  refine wpS_bind (wpS_lt hk (keyAt kb (by omega)) (keyAt ka (by omega)) fun bw => ?_)
  cases bw with
  | true =>
    dsimp only
    refine wpS_bind (wpS_elemAt (show na - 1 < a.size by omega) ?_)
    by_cases e : na - 1 = 0
    · rw [if_pos (by simpa using e)]
      exact wpS_pure (hD _ _ _ _ _ _ (hp.popA hna hna2).done)
    · rw [if_neg (by simpa using e)]
      have := hN (na - 1) nb (out.push (a[na - 1]'(by omega))) (ac + 1) 0 (hp.popA hna hna2) (by omega) (by omega) hnb hnb2 (by omega)
      split
      · exact wpS_pure this.1
      · exact wpS_pure this.2
  | false =>
    dsimp only
    refine wpS_bind (wpS_elemAt (show nb - 1 < b.size by omega) ?_)
    by_cases e : nb - 1 = 1
    · rw [if_pos (by simpa using e)]
      exact wpS_pure (hD _ _ _ _ _ _ (hp.popB (by lia) hnb2).first)
    · rw [if_neg (by simpa using e)]
      have := hN na (nb - 1) (out.push (b[nb - 1]'(by omega))) 0 (bc + 1) (hp.popB (by omega) hnb2) hna hna2 (by omega) (by omega) (by omega)
      split
      · exact wpS_pure this.1
      · exact wpS_pure this.2
variable {Q : ForInStep HiS2 → SortSt → Prop}
theorem wpS_hiC (hp : PHi a b out na nb) (hna : 1 ≤ na) (hna2 : na ≤ a.size) (hnb : 2 ≤ nb) (hnb2 : nb ≤ b.size) (hn : na + nb ≤ n)
    (hD : ∀ r i j o m x y, r.toList.Perm (a.toList ++ b.toList) → Q (.done (some r, i, j, o, m, x, y)) st)
    (hN : ∀ i j o m x y, PHi a b o i j → 1 ≤ i → i ≤ a.size → 2 ≤ j → j ≤ b.size → i + j ≤ n → Q (.done (none, i, j, o, m, x, y)) st ∧ Q (.yield (none, i, j, o, m, x, y)) st) :
    wpS (model prog w) A E s (hiC a b na nb out mg ac bc) Q st := by
  unfold hiC
  refine wpS_bind (wpS_elemAt (show na - 1 < a.size by omega) ?_)
  by_cases e : na - 1 = 0
  · rw [if_pos (by simpa using e)]
    exact wpS_pure (hD _ _ _ _ _ _ _ (hp.popA hna hna2).done)
  · rw [if_neg (by simpa using e)]
    have := hN (na - 1) nb (out.push (a[na - 1]'(by omega))) mg ac bc (hp.popA hna hna2) (by omega) (by omega) hnb hnb2 (by omega)
    split
    · exact wpS_pure this.1
    · exact wpS_pure this.2
theorem wpS_hiB (hk : kindOf st = oneType') (ka : ∀ p ∈ a.toList, IntKey p) (kb : ∀ p ∈ b.toList, IntKey p) (hp : PHi a b out na nb) (hna : 1 ≤ na) (hna2 : na ≤ a.size) (hnb : 2 ≤ nb) (hnb2 : nb ≤ b.size) (hn : na + nb ≤ n)
    (hD : ∀ r i j o m x y, r.toList.Perm (a.toList ++ b.toList) → Q (.done (some r, i, j, o, m, x, y)) st)
    (hN : ∀ i j o m x y, PHi a b o i j → 1 ≤ i → i ≤ a.size → 2 ≤ j → j ≤ b.size → i + j ≤ n → Q (.done (none, i, j, o, m, x, y)) st ∧ Q (.yield (none, i, j, o, m, x, y)) st) :
    wpS (model prog w) A E s (hiB a b na nb out mg ac bc) Q st := by
  unfold hiB
  refine wpS_bind (wpS_elemAt (show nb - 1 < b.size by omega) ?_)
  have hp1 := hp.popB (by lia) hnb2
  by_cases e4 : nb - 1 = 1
  · rw [if_pos (by simpa using e4)]
    exact wpS_pure (hD _ _ _ _ _ _ _ hp1.first)
  · rw [if_neg (by simpa using e4)]
    refine wpS_bind (wpS_elemAt (show na - 1 < a.size by omega) ?_)
    refine wpS_bind (wpS_gallop hk (keyAt ka (by omega)) (keysAt kb (by omega)) (by omega) fun k hk4 => ?_)
    dsimp only
    by_cases e5 : nb - 1 - k > 0
    · rw [if_pos e5]
      have hp2 := hp1.takeB (k := k) (by omega) (by omega)
      by_cases e6 : k = 1
      · rw [if_pos (by simpa using e6)]
        exact wpS_pure (hD _ _ _ _ _ _ _ hp2.first)
      · rw [if_neg (by simpa using e6)]
        by_cases e7 : k = 0
        · rw [if_pos (by simpa using e7)]
          exact wpS_pure (hD _ _ _ _ _ _ _ hp2.done)
        · rw [if_neg (by simpa using e7)]
          exact wpS_hiC hp2 hna hna2 (by lia) (by omega) (by omega) hD hN
    · rw [if_neg e5]
      exact wpS_hiC hp1 hna hna2 (by lia) (by omega) (by omega) hD hN
theorem wpS_hiA (hk : kindOf st = oneType') (ka : ∀ p ∈ a.toList, IntKey p) (kb : ∀ p ∈ b.toList, IntKey p) (hp : PHi a b out na nb) (hna : 1 ≤ na) (hna2 : na ≤ a.size) (hnb : 2 ≤ nb) (hnb2 : nb ≤ b.size) (hn : na + nb ≤ n)
    (hD : ∀ r i j o m x y, r.toList.Perm (a.toList ++ b.toList) → Q (.done (some r, i, j, o, m, x, y)) st)
    (hN : ∀ i j o m x y, PHi a b o i j → 1 ≤ i → i ≤ a.size → 2 ≤ j → j ≤ b.size → i + j ≤ n → Q (.done (none, i, j, o, m, x, y)) st ∧ Q (.yield (none, i, j, o, m, x, y)) st) :
    wpS (model prog w) A E s (hiA a b na nb out mg ac bc) Q st := by
  unfold hiA
  refine wpS_bind (wpS_elemAt (show nb - 1 < b.size by omega) ?_)
  refine wpS_bind (wpS_gallop hk (keyAt kb (by omega)) (keysAt ka (by lia)) (by omega) fun k hk3 => ?_)
  dsimp only
  by_cases e1 : na - k > 0
  · rw [if_pos e1]
    have hp1 := hp.takeA (k := k) (by omega) (by omega)
    by_cases e2 : k = 0
    · rw [if_pos (by simpa using e2)]
      exact wpS_pure (hD _ _ _ _ _ _ _ hp1.done)
    · rw [if_neg (by simpa using e2)]
      exact wpS_hiB hk ka kb hp1 (by lia) (by lia) hnb hnb2 (by lia) hD hN
  · rw [if_neg e1]
    exact wpS_hiB hk ka kb hp hna hna2 hnb hnb2 hn hD hN
end
end
namespace E_wpS_mergeHi
noncomputable abbrev Dat : Type := (PySem.Program) × (World) × (Around) × (Value → Shared → Prop) × (Shared) × (Array Keyed) × (Array Keyed) × (Array Keyed → SortSt → Prop)
theorem ne : Nonempty Dat := ⟨(default, { draws := fun _ _ => 0, params := { strHash := fun _ => 0, shareClass := fun _ => 0, mergeTok := id, idOf := fun _ => 0, idOfShared := fun _ _ => 0, followText := fun _ => false, idOfImm := fun _ => 0 } }, {}, default, {}, default, default, default)⟩
noncomputable def Stm (prog : PySem.Program) (w : World) (A : Around) (E : Value → Shared → Prop) (s : Shared) (a : Array Keyed) (b : Array Keyed) (Q : Array Keyed → SortSt → Prop) : Prop := ∀ {st : SortSt} (hk : kindOf st = oneType') (ha : 1 ≤ a.size) (hb : 1 ≤ b.size) (ka : ∀ p ∈ a.toList, IntKey p) (kb : ∀ p ∈ b.toList, IntKey p) (h : ∀ out st', GS st st' → out.toList.Perm (a.toList ++ b.toList) → Q out st'), wpS (model prog w) A E s (mergeHi' a b) Q st
@[irreducible] noncomputable def pick : Dat := @Classical.epsilon Dat ne fun d => ¬ Stm d.1 d.2.1 d.2.2.1 d.2.2.2.1 d.2.2.2.2.1 d.2.2.2.2.2.1 d.2.2.2.2.2.2.1 d.2.2.2.2.2.2.2
@[irreducible] noncomputable def prog := pick.1
@[irreducible] noncomputable def w := pick.2.1
@[irreducible] noncomputable def A := pick.2.2.1
@[irreducible] noncomputable def E := pick.2.2.2.1
@[irreducible] noncomputable def s := pick.2.2.2.2.1
@[irreducible] noncomputable def a := pick.2.2.2.2.2.1
noncomputable def pickr1 := pick.2.2.2.2.2.2
@[irreducible] noncomputable def b := pickr1.1
@[irreducible] noncomputable def Q := pickr1.2
theorem go : Stm prog w A E s a b Q := by
  intro st hk ha hb ka kb h
  rw [mergeHi'_eq]
  refine wpS_bind (wpS_lift (wpAny_rule ⟨rfl, ?_⟩))
  refine wpS_bind (wpS_elemAt (show a.size - 1 < a.size by omega) ?_)
  have p0 : PHi a b #[a[a.size - 1]] (a.size - 1) b.size := by
    have h0 : PHi a b #[] a.size b.size := by
      unfold PHi
      rw [List.take_of_length_le (by simp), List.take_of_length_le (by simp)]
      simp
    exact h0.popA ha (Nat.le_refl _)
  by_cases ha1 : a.size - 1 = 0
  · rw [if_pos (by simpa using ha1)]
    exact wpS_pure (h _ _ (GS.refl st) p0.done)
  rw [if_neg (by simpa using ha1)]
  by_cases hb1 : b.size = 1
  · rw [if_pos (by simpa using hb1)]
    exact wpS_pure (h _ _ (GS.refl st) p0.first)
  rw [if_neg (by simpa using hb1)]
  refine wpS_bind (wpS_get ?_)
  refine wpS_bind (wpS_mono (wpS_forRange (I := fun x c st' => GS st st' ∧ ∃ na nb out mg, c = (none, na, nb, out, mg) ∧ PHi a b out na nb ∧ 1 ≤ na ∧ na ≤ a.size ∧ 2 ≤ nb ∧ nb ≤ b.size ∧ na + nb + x ≤ a.size + b.size)
    (Q := fun c st' => GS st st' ∧ ∃ r na nb out mg, c = (some r, na, nb, out, mg) ∧ r.toList.Perm (a.toList ++ b.toList)) ?step ?fin ⟨GS.refl st, _, _, _, _, rfl, p0, by lia, by omega, by lia, by lia, by omega⟩) ?post)
  case post =>
    rintro c st' ⟨hG, r, na, nb, out, mg, rfl, hp⟩
    exact wpS_pure (h r st' hG hp)
  case fin =>
    rintro c st' ⟨hG, na, nb, out, mg, rfl, hp, h1, h2, h3, h4, h5⟩
    exfalso
    lia
  case step =>
    rintro x c st1 _ hx ⟨hG, na, nb, out, mg, rfl, hp, hna, hna2, hnb, hnb2, hrem⟩
    dsimp only
    refine gen_S fun Qt hQt => ?_
    have hk1 : kindOf st1 = oneType' := hG.1.trans hk
    refine wpS_bind (wpS_mono (wpS_forRange (I := fun y c st' => st1 = st' ∧ ∃ na nb out ac bc, c = (none, na, nb, out, ac, bc) ∧ PHi a b out na nb ∧ 1 ≤ na ∧ na ≤ a.size ∧ 2 ≤ nb ∧ nb ≤ b.size ∧ na + nb + x + y ≤ a.size + b.size)
      (Q := fun c st' => st1 = st' ∧ ∃ r na nb out ac bc, c = (r, na, nb, out, ac, bc) ∧ (∀ r', r = some r' → r'.toList.Perm (a.toList ++ b.toList)) ∧ (r = none → PHi a b out na nb ∧ 1 ≤ na ∧ na ≤ a.size ∧ 2 ≤ nb ∧ nb ≤ b.size ∧ na + nb + (x + 1) ≤ a.size + b.size)) ?step1 ?fin1 ⟨rfl, _, _, _, _, _, rfl, hp, hna, hna2, hnb, hnb2, by omega⟩) ?post1)
    case fin1 =>
      rintro c st' ⟨rfl, na, nb, out, ac, bc, rfl, hp, h1, h2, h3, h4, h5⟩
      exfalso
      lia
    case step1 =>
      rintro y c st' _ hy ⟨rfl, na, nb, out, ac, bc, rfl, hp, hna, hna2, hnb, hnb2, hrem⟩
      refine gen_S fun Q' hQ => ?_
      exact wpS_hiIn (out := out) (na := na) (nb := nb) (n := a.size + b.size - (x + y) - 1) hk1 ka kb hp hna hna2 hnb hnb2 (by omega)
        (fun r i j o x' y' hr => hQ _ _ ⟨rfl, _, _, _, _, _, _, rfl, fun r' hr' => Option.some.inj hr' ▸ hr, fun hr' => (nomatch hr')⟩)
        (fun i j o x' y' h1 h2 h3 h4 h5 h6 => ⟨hQ _ _ ⟨rfl, _, _, _, _, _, _, rfl, (fun r' hr => (nomatch hr)), fun _ => ⟨h1, h2, h3, h4, h5, by omega⟩⟩, hQ _ _ ⟨rfl, _, _, _, _, _, rfl, h1, h2, h3, h4, h5, by omega⟩⟩)
    case post1 =>
      rintro c st' ⟨rfl, r, na, nb, out, ac, bc, rfl, hr1, hr2⟩
      cases r with
      | some r => exact wpS_pure (hQt _ _ ⟨hG, r, _, _, _, _, rfl, hr1 r rfl⟩)
      | none =>
        obtain ⟨hp, hna, hna2, hnb, hnb2, hrem⟩ := hr2 rfl
        clear hr1 hr2
        dsimp only
        refine wpS_bind (wpS_lift (wpAny_rule ⟨rfl, ?_⟩))
        refine wpS_bind (wpS_mono (wpS_forRange (I := fun y c st' => GS st st' ∧ ∃ na nb out mg ac bc, c = (none, na, nb, out, mg, ac, bc) ∧ PHi a b out na nb ∧ 1 ≤ na ∧ na ≤ a.size ∧ 2 ≤ nb ∧ nb ≤ b.size ∧ na + nb + (x + 1) ≤ a.size + b.size)
          (Q := fun c st' => GS st st' ∧ ∃ r na nb out mg ac bc, c = (r, na, nb, out, mg, ac, bc) ∧ (∀ r', r = some r' → r'.toList.Perm (a.toList ++ b.toList)) ∧ (r = none → PHi a b out na nb ∧ 1 ≤ na ∧ na ≤ a.size ∧ 2 ≤ nb ∧ nb ≤ b.size ∧ na + nb + (x + 1) ≤ a.size + b.size)) ?step2 ?fin2 ⟨hG, _, _, _, _, _, _, rfl, hp, hna, hna2, hnb, hnb2, hrem⟩) ?post2)
        case fin2 =>
          rintro c st' ⟨hG, na, nb, out, mg, ac, bc, rfl, hp⟩
          exact ⟨hG, none, _, _, _, _, _, _, rfl, (fun r' hr => (nomatch hr)), fun _ => hp⟩
        case post2 =>
          rintro c st' ⟨hG, r, na, nb, out, mg, ac, bc, rfl, hr1, hr2⟩
          cases r with
          | some r => exact wpS_pure (hQt _ _ ⟨hG, r, _, _, _, _, rfl, hr1 r rfl⟩)
          | none => exact wpS_bind (wpS_setMin fun st2 hG2 => wpS_pure (hQt _ _ ⟨hG.trans hG2, _, _, _, _, rfl, hr2 rfl⟩))
        case step2 =>
          rintro y c st1 _ hy ⟨hG, na, nb, out, mg, ac, bc, rfl, hp, hna, hna2, hnb, hnb2, hrem⟩
          refine gen_S fun Q' hQ => ?_
          have join : ∀ mg' st2, GS st st2 → wpS (model prog w) A E s (hiA a b na nb out mg' ac bc) Q' st2 := fun mg' st2 hG2 => wpS_hiA (n := a.size + b.size - (x + 1)) (hG2.1.trans hk) ka kb hp hna hna2 hnb hnb2 (by omega)
            (fun r i j o m x' y' hr => hQ _ _ ⟨hG2, _, _, _, _, _, _, _, rfl, fun r' hr' => Option.some.inj hr' ▸ hr, fun hr' => (nomatch hr')⟩)
            (fun i j o m x' y' h1 h2 h3 h4 h5 h6 => ⟨hQ _ _ ⟨hG2, _, _, _, _, _, _, _, rfl, (fun r' hr => (nomatch hr)), fun _ => ⟨h1, h2, h3, h4, h5, by omega⟩⟩, hQ _ _ ⟨hG2, _, _, _, _, _, _, rfl, h1, h2, h3, h4, h5, by omega⟩⟩)
          by_cases e0 : mg > 1
          · rw [if_pos e0]
            exact wpS_bind (wpS_setMin fun st2 hG2 => join _ st2 (hG.trans hG2))
          · rw [if_neg e0]
            exact wpS_bind (wpS_setMin fun st2 hG2 => join _ st2 (hG.trans hG2))
theorem all (x : Dat) : Stm x.1 x.2.1 x.2.2.1 x.2.2.2.1 x.2.2.2.2.1 x.2.2.2.2.2.1 x.2.2.2.2.2.2.1 x.2.2.2.2.2.2.2 := eps_all ne (fun x => Stm x.1 x.2.1 x.2.2.1 x.2.2.2.1 x.2.2.2.2.1 x.2.2.2.2.2.1 x.2.2.2.2.2.2.1 x.2.2.2.2.2.2.2) (by with_unfolding_all exact go) x
end E_wpS_mergeHi
theorem wpS_mergeHi {prog : PySem.Program} {w : World} {A : Around} {E : Value → Shared → Prop} {s : Shared} {a : Array Keyed} {b : Array Keyed} {Q : Array Keyed → SortSt → Prop} {st : SortSt} (hk : kindOf st = oneType') (ha : 1 ≤ a.size) (hb : 1 ≤ b.size) (ka : ∀ p ∈ a.toList, IntKey p) (kb : ∀ p ∈ b.toList, IntKey p) (h : ∀ out st', GS st st' → out.toList.Perm (a.toList ++ b.toList) → Q out st') : wpS (model prog w) A E s (mergeHi' a b) Q st :=
  E_wpS_mergeHi.all (prog, w, A, E, s, a, b, Q) hk ha hb ka kb h
end

section
open PySem PyProof.Rows
theorem mergeAt'_eq (i : Nat) : mergeAt' i = (do
  let s ← get
  let (some (sa, na, power), some (sb, nb, _)) := ((pendingOf s)[i]?, (pendingOf s)[i + 1]?) | unsupported "internal:list.sort.pending"
  set (SortSt.mk' (kindOf s) (arrOf s) (((pendingOf s).setIfInBounds i (sa, na + nb, power)).eraseIdxIfInBounds (i + 1)) (gallopOf s) (failedOf s))
  let some k ← gallop' false (← elem' (arrOf s) sb) (arrOf s) sa na 0 | return false
  let (sa, na) := (sa + k, na - k)
  if na == 0 then return true
  let some nb ← gallop' true (← elem' (arrOf s) (sa + na - 1)) (arrOf s) sb nb (nb - 1) | return false
  if nb == 0 then return true
  let x := (arrOf s).extract sa sb
  let y := (arrOf s).extract sb (sb + nb)
  let merged ← if na ≤ nb then mergeLo' x y else mergeHi' x y
  modify fun s => setArr s (merged.toList.zipIdx.foldl (fun a (p, j) => a.setIfInBounds (sa + j) p) (arrOf s))
  return (failedOf (← get)).isNone) := rfl
theorem splice_go (base : Nat) : ∀ (ms : List Keyed) (n : Nat) (A : Array Keyed), base + n + ms.length ≤ A.size →
    ((ms.zipIdx n).foldl (fun a (pj : Keyed × Nat) => a.setIfInBounds (base + pj.2) pj.1) A).toList = A.toList.take (base + n) ++ ms ++ A.toList.drop (base + n + ms.length)
  | [], n, A, h => by simp
  | p :: ms, n, A, h => by
    have hl : base + n < A.size := by simp at h; omega
    rw [List.zipIdx_cons, List.foldl_cons, splice_go base ms (n + 1) _ (by simp at h ⊢; omega)]
    have e1 : (A.setIfInBounds (base + n) p).toList = A.toList.set (base + n) p := by simp
    have hl2 : base + n < A.toList.length := by rw [Array.length_toList]; exact hl
    have e2 : (A.toList.set (base + n) p).take (base + (n + 1)) = A.toList.take (base + n) ++ [p] := by
      rw [← Nat.add_assoc, List.take_add_one, List.getElem?_set_self hl2]
      congr 1
      exact List.take_set_of_le (Nat.le_refl _)
    have e3 : (A.toList.set (base + n) p).drop (base + (n + 1) + ms.length) = A.toList.drop (base + n + (ms.length + 1)) := by
      rw [List.drop_set_of_lt (by lia)]
      congr 1
      lia
    rw [e1, e2, e3]
    simp
noncomputable def run (t : Nat × Nat × Nat) : Nat × Nat := (t.1, t.2.1)
noncomputable def Chain : Nat → List (Nat × Nat) → Nat → Prop
  | lo, [], hi => lo = hi
  | lo, (s, n) :: r, hi => s = lo ∧ 1 ≤ n ∧ Chain (lo + n) r hi
theorem Chain.append : ∀ {l1 : List (Nat × Nat)} {l2 : List (Nat × Nat)} {lo hi : Nat}, Chain lo (l1 ++ l2) hi ↔ ∃ mid, Chain lo l1 mid ∧ Chain mid l2 hi
  | [], l2, lo, hi => ⟨fun h => ⟨lo, rfl, h⟩, fun ⟨mid, h1, h2⟩ => by cases h1; exact h2⟩
  | (s, n) :: r, l2, lo, hi => by
    show (s = lo ∧ 1 ≤ n ∧ Chain (lo + n) (r ++ l2) hi) ↔ _
    rw [Chain.append]
    constructor
    · rintro ⟨h1, h2, mid, h3, h4⟩; exact ⟨mid, ⟨h1, h2, h3⟩, h4⟩
    · rintro ⟨mid, ⟨h1, h2, h3⟩, h4⟩; exact ⟨h1, h2, mid, h3, h4⟩
theorem Chain.le : ∀ {l : List (Nat × Nat)} {lo hi : Nat}, Chain lo l hi → lo ≤ hi
  | [], _, _, h => Nat.le_of_eq h
  | (s, n) :: r, lo, hi, ⟨_, _, h⟩ => by have := Chain.le h; lia
noncomputable def RunsOk (p : Array (Nat × Nat × Nat)) (hi : Nat) : Prop := Chain 0 (p.toList.map run) hi
theorem split2 {α : Type} {l : List α} {i : Nat} {a b : α} (ha : l[i]? = some a) (hb : l[i + 1]? = some b) : ∃ l1 l2, l = l1 ++ a :: b :: l2 ∧ l1.length = i := by
  obtain ⟨hi, ea⟩ := List.getElem?_eq_some_iff.mp ha
  obtain ⟨hi2, eb⟩ := List.getElem?_eq_some_iff.mp hb
  refine ⟨l.take i, l.drop (i + 2), ?_, by rw [List.length_take]; lia⟩
  conv => lhs; rw [← List.take_append_drop i l]
  congr 1
  rw [List.drop_eq_getElem_cons hi, ea, List.drop_eq_getElem_cons hi2, eb]
theorem merge2 {α : Type} {l1 l2 : List α} {a b x : α} : ((l1 ++ a :: b :: l2).set l1.length x).eraseIdx (l1.length + 1) = l1 ++ x :: l2 := by
  rw [List.set_append_right _ _ (Nat.le_refl _), Nat.sub_self, List.set_cons_zero, List.eraseIdx_append_of_length_le (by lia)]
  simp
theorem splice_perm {A : Array Keyed} {x y : Nat} {ms : List Keyed} (hxy : x ≤ y) (hy : y ≤ A.size) (hm : ms.Perm (A.extract x y).toList) :
    (ms.zipIdx.foldl (fun a (pj : Keyed × Nat) => a.setIfInBounds (x + pj.2) pj.1) A).Perm A := by
  have hl : ms.length = y - x := by
    rw [hm.length_eq, Array.length_toList, Array.size_extract]; lia
  rw [Array.perm_iff_toList_perm, splice_go x ms 0 A (by omega), Nat.add_zero, show x + ms.length = y by omega]
  have e : A.toList = A.toList.take x ++ (A.extract x y).toList ++ A.toList.drop y := by
    rw [Array.toList_extract, List.extract_eq_take_drop, List.append_assoc]
    conv => lhs; rw [← List.take_append_drop x A.toList]
    congr 1
    conv => lhs; rw [← List.take_append_drop (y - x) (A.toList.drop x), List.drop_drop, show x + (y - x) = y by omega]
  conv => rhs; rw [e]
  exact List.Perm.append_right _ (List.Perm.append_left _ hm)
theorem extract_join {A : Array Keyed} {x y z : Nat} (h1 : x ≤ y) (h2 : y ≤ z) : (A.extract x y).toList ++ (A.extract y z).toList = (A.extract x z).toList := by
  simp only [Array.toList_extract, List.extract_eq_take_drop]
  rw [show z - x = (y - x) + (z - y) by lia, List.take_add, List.drop_drop, show x + (y - x) = y by omega]
section
variable {prog : PySem.Program} {w : World} {A : Around} {E : Value → Shared → Prop} {s : Shared} {a₀ : Array Keyed}
theorem TB.keys {st : SortSt} (h : TB a₀ st) (h0 : IntKeys a₀) : ∀ p ∈ (arrOf st).toList, IntKey p := fun p hp => h0 _ ((Array.perm_iff_toList_perm.mp h.perm).mem_iff.mp hp)
theorem wpS_set {σ : Type} {M : Model} {f st : σ} {Q : PUnit → σ → Prop} (h : Q ⟨⟩ f) : wpS M A E s (set f : StateT σ Sem PUnit) Q st := by
  unfold wpS; rw [StateT.run_set]; exact wpAny_pure ⟨rfl, h⟩
theorem wpS_mergeAt {st : SortSt} {i hi : Nat} {Q : Bool → SortSt → Prop} (h0 : IntKeys a₀) (hB : TB a₀ st) (hR : RunsOk (pendingOf st) hi) (hhi : hi ≤ a₀.size) (hi1 : i + 1 < (pendingOf st).size)
    (h : ∀ st', TB a₀ st' → RunsOk (pendingOf st') hi → 1 ≤ (pendingOf st').size → Q true st') : wpS (model prog w) A E s (mergeAt' i) Q st := by
  rw [mergeAt'_eq]
  refine wpS_bind (wpS_get ?_)
  obtain ⟨⟨sa, na, pa⟩, ea⟩ : ∃ t, (pendingOf st)[i]? = some t := ⟨_, getElem?_pos _ i (by lia)⟩
  obtain ⟨⟨sb, nb, pb⟩, eb⟩ : ∃ t, (pendingOf st)[i + 1]? = some t := ⟨_, getElem?_pos _ (i + 1) hi1⟩
  rw [ea, eb]
  obtain ⟨l1, l2, el, ll⟩ := split2 (l := (pendingOf st).toList) (by simpa using ea) (by simpa using eb)
  have hch : Chain 0 (l1.map run ++ ((sa, na) :: (sb, nb) :: l2.map run)) hi := by
    have := hR
    unfold RunsOk at this
    rw [el] at this
    simpa [run] using this
  obtain ⟨mid, c1, rfl, hna, rfl, hnb, c2⟩ := Chain.append.mp hch
  have hle := c2.le
  have hsz := hB.size
  have hp2 : (((pendingOf st).setIfInBounds i (sa, na + nb, pa)).eraseIdxIfInBounds (i + 1)).toList = l1 ++ (sa, na + nb, pa) :: l2 := by
    have e1 : ((pendingOf st).setIfInBounds i (sa, na + nb, pa)).toList = (l1 ++ (sa, na, pa) :: (sa + na, nb, pb) :: l2).set l1.length (sa, na + nb, pa) := by
      rw [← el, ll]; simp
    rw [Array.toList_eraseIdxIfInBounds, e1, ← ll]
    exact merge2
  refine wpS_bind (wpS_set ?_)
  have hB1 : TB a₀ (SortSt.mk' (kindOf st) (arrOf st) (((pendingOf st).setIfInBounds i (sa, na + nb, pa)).eraseIdxIfInBounds (i + 1)) (gallopOf st) (failedOf st)) := ⟨hB.perm, hB.kind, hB.failed⟩
  have hR1 : RunsOk (((pendingOf st).setIfInBounds i (sa, na + nb, pa)).eraseIdxIfInBounds (i + 1)) hi := by
    unfold RunsOk
    rw [hp2, List.map_append]
    refine Chain.append.mpr ⟨_, c1, rfl, by show 1 ≤ na + nb; lia, ?_⟩
    rw [← Nat.add_assoc]; exact c2
  have hs1 : 1 ≤ (((pendingOf st).setIfInBounds i (sa, na + nb, pa)).eraseIdxIfInBounds (i + 1)).size := by
    rw [← Array.length_toList, hp2]; simp; lia
  generalize hst1 : SortSt.mk' (kindOf st) (arrOf st) (((pendingOf st).setIfInBounds i (sa, na + nb, pa)).eraseIdxIfInBounds (i + 1)) (gallopOf st) (failedOf st) = st1 at hB1 ⊢
  have hpe : pendingOf st1 = (((pendingOf st).setIfInBounds i (sa, na + nb, pa)).eraseIdxIfInBounds (i + 1)) := by rw [← hst1]
  have hae : arrOf st1 = arrOf st := by rw [← hst1]
  rw [← hpe] at hR1 hs1
  have kk := hB.keys h0
  refine wpS_bind (wpS_elemAt (show sa + na < (arrOf st).size by omega) ?_)
  refine wpS_bind (wpS_gallop hB1.kind (keyAt kk (by omega)) (keysAt kk (by omega)) (by lia) fun k hk => ?_)
  dsimp only
  by_cases e1 : na - k = 0
  · rw [if_pos (by simpa using e1)]
    exact wpS_pure (h _ hB1 hR1 hs1)
  rw [if_neg (by simpa using e1)]
  refine wpS_bind (wpS_elemAt (show sa + k + (na - k) - 1 < (arrOf st).size by omega) ?_)
  refine wpS_bind (wpS_gallop hB1.kind (keyAt kk (by omega)) (keysAt kk (by lia)) (by omega) fun k2 hk2 => ?_)
  dsimp only
  by_cases e2 : k2 = 0
  · rw [if_pos (by simpa using e2)]
    exact wpS_pure (h _ hB1 hR1 hs1)
  rw [if_neg (by simpa using e2)]
  have sub1 : ∀ {x y : Nat}, ∀ p ∈ ((arrOf st).extract x y).toList, IntKey p := fun p hp => kk p (by
    rw [Array.toList_extract, List.extract_eq_take_drop] at hp
    exact List.mem_of_mem_drop (List.mem_of_mem_take hp))
  have fin : ∀ (out : Array Keyed) (st2 : SortSt), GS st1 st2 → out.toList.Perm (((arrOf st).extract (sa + k) (sa + na)).toList ++ ((arrOf st).extract (sa + na) (sa + na + k2)).toList) →
      wpS (model prog w) A E s (do
        modify fun s => setArr s (out.toList.zipIdx.foldl (fun a (p, j) => a.setIfInBounds (sa + k + j) p) (arrOf s))
        return (failedOf (← get)).isNone) Q st2 := by
    intro out st2 hG hp
    refine wpS_bind (wpS_modify ?_)
    refine wpS_bind (wpS_get ?_)
    have hf : failedOf st2 = none := hG.2.2.2.trans hB1.failed
    have ha2 : arrOf st2 = arrOf st := hG.2.1.trans hae
    rw [extract_join (by lia) (by lia)] at hp
    rw [hf]
    refine wpS_pure (h _ ⟨?_, hG.1.trans hB1.kind, hf⟩ ?_ ?_)
    · show (out.toList.zipIdx.foldl (fun a (pj : Keyed × Nat) => a.setIfInBounds (sa + k + pj.2) pj.1) (arrOf st2)).Perm a₀
      rw [ha2]
      exact (splice_perm (by lia) (by lia) hp).trans hB.perm
    · show RunsOk (pendingOf st2) hi
      rw [hG.2.2.1]; exact hR1
    · show 1 ≤ (pendingOf st2).size
      rw [hG.2.2.1]; exact hs1
  split
  · exact wpS_bind (wpS_mergeLo hB1.kind (by rw [Array.size_extract]; lia) (by rw [Array.size_extract]; omega) sub1 sub1 fun out st2 hG hp => fin out st2 hG hp)
  · exact wpS_bind (wpS_mergeHi hB1.kind (by rw [Array.size_extract]; omega) (by rw [Array.size_extract]; omega) sub1 sub1 fun out st2 hG hp => fin out st2 hG hp)
end
end

section
open PySem PyProof.Rows
section
variable {prog : PySem.Program} {w : World} {A : Around} {E : Value → Shared → Prop} {s : Shared} {a₀ : Array Keyed}
theorem RunsOk.push {p : Array (Nat × Nat × Nat)} {hi n pw : Nat} (h : RunsOk p hi) (hn : 1 ≤ n) : RunsOk (p.push (hi, n, pw)) (hi + n) := by
  unfold RunsOk at h ⊢
  rw [Array.toList_push, List.map_append]
  exact Chain.append.mpr ⟨hi, h, rfl, hn, rfl⟩
theorem RunsOk.power {p : Array (Nat × Nat × Nat)} {hi i pw : Nat} (h : RunsOk p hi) : RunsOk (p.modify i fun (st, len, _) => (st, len, pw)) hi := by
  unfold RunsOk at h ⊢
  have e : (p.modify i fun (st, len, _) => (st, len, pw)).toList.map run = p.toList.map run := by
    apply List.ext_getElem?
    intro j
    simp only [List.getElem?_map, Array.getElem?_toList, Array.getElem?_modify]
    split
    · cases p[j]? with
      | none => rfl
      | some t => rfl
    · rfl
  rw [e]; exact h
theorem wpS_sortRunsP {st : SortSt} {Q : Unit → SortSt → Prop} (h0 : IntKeys a₀) (hB : TB a₀ st) (hp : pendingOf st = #[])
    (h : ∀ st', TB a₀ st' → Q () st') : wpS (model prog w) A E s sortRuns' Q st := by
  rw [sortRuns'_eq]
  refine wpS_bind (wpS_get ?_)
  rw [hB.size]
  refine wpS_bind (wpS_mono (wpS_forRange
    (I := fun x c st' => TB a₀ st' ∧ ∃ lo, c = (none, lo) ∧ lo ≤ a₀.size ∧ RunsOk (pendingOf st') lo)
    (Q := fun c st' => TB a₀ st' ∧ ∃ lo, c = (none, lo) ∧ lo ≤ a₀.size ∧ RunsOk (pendingOf st') lo) ?step (fun _ _ h => h) ⟨hB, 0, rfl, Nat.zero_le _, by rw [hp]; rfl⟩) ?post)
  case step =>
    rintro x c st1 _ hx ⟨hB1, lo, rfl, hlo, hR1⟩
    dsimp only
    by_cases hge : lo ≥ a₀.size
    · rw [if_pos hge]
      exact wpS_pure ⟨hB1, lo, rfl, hlo, hR1⟩
    rw [if_neg hge]
    refine wpS_bind (wpS_crun h0 (by omega) (by omega) hB1 fun n st2 hS2 hn1 hn2 => ?_)
    dsimp only
    have hR2 : RunsOk (pendingOf st2) lo := by rw [hS2.2]; exact hR1
    by_cases hlt : n < minRun' a₀.size a₀.size 0
    · rw [if_pos hlt]
      refine wpS_bind (wpS_lift (wpAny_rule ⟨rfl, ?_⟩))
      have hf1 : 1 ≤ min (a₀.size - lo) (minRun' a₀.size a₀.size 0) := by omega
      have hf2 : lo + min (a₀.size - lo) (minRun' a₀.size a₀.size 0) ≤ a₀.size := by omega
      generalize min (a₀.size - lo) (minRun' a₀.size a₀.size 0) = f at hf1 hf2 ⊢
      refine wpS_bind (wpS_bsort h0 hf2 hS2.1 fun st3 hS3 => ?_)
      have hR3 : RunsOk (pendingOf st3) lo := by rw [hS3.2]; exact hR2
      refine wpS_bind (wpS_get ?_)
      have pushed : ∀ st9 : SortSt, TB a₀ st9 → RunsOk (pendingOf st9) lo → wpS (model prog w) A E s (do
          modify fun s => setPending s ((pendingOf s).push (lo, f, 0))
          pure (ForInStep.yield ((none : Option PUnit), lo + f)) : StateT SortSt Sem (ForInStep (Option PUnit × Nat))) (fun r st' =>
            match r with
            | ForInStep.done c' => TB a₀ st' ∧ ∃ lo, c' = (none, lo) ∧ lo ≤ a₀.size ∧ RunsOk (pendingOf st') lo
            | ForInStep.yield c' => TB a₀ st' ∧ ∃ lo, c' = (none, lo) ∧ lo ≤ a₀.size ∧ RunsOk (pendingOf st') lo) st9 := by
        intro st9 hB9 hR9
        exact wpS_bind (wpS_modify (wpS_pure ⟨⟨hB9.perm, hB9.kind, hB9.failed⟩, _, rfl, by omega, hR9.push (by omega)⟩))
      cases hbk : (pendingOf st3).back? with
      | none => exact pushed st3 hS3.1 hR3
      | some t =>
        obtain ⟨s1, n1, p1⟩ := t
        refine wpS_bind (wpS_mono (wpS_forRange (I := fun y c st' => c = (none, ()) ∧ TB a₀ st' ∧ RunsOk (pendingOf st') lo) (Q := fun c st' => c = (none, ()) ∧ TB a₀ st' ∧ RunsOk (pendingOf st') lo) ?istep (fun _ _ h => h) ⟨rfl, hS3.1, hR3⟩) ?ipost)
        case istep =>
          rintro y c st4 _ hy ⟨rfl, hB4, hR4⟩
          refine wpS_bind (wpS_get ?_)
          by_cases hsz : (pendingOf st4).size > 1
          · rw [if_pos hsz]
            obtain ⟨⟨q1, q2, older⟩, eq⟩ : ∃ t, (pendingOf st4)[(pendingOf st4).size - 2]? = some t := ⟨_, getElem?_pos _ _ (by omega)⟩
            rw [eq]
            dsimp only
            split
            · exact wpS_pure ⟨rfl, hB4, hR4⟩
            · refine wpS_bind (wpS_mergeAt h0 hB4 hR4 hlo (by omega) fun st5 hB5 hR5 _ => ?_)
              exact wpS_pure ⟨rfl, hB5, hR5⟩
          · rw [if_neg hsz]
            exact wpS_pure ⟨rfl, hB4, hR4⟩
        case ipost =>
          rintro c st4 ⟨rfl, hB4, hR4⟩
          exact wpS_bind (wpS_modify (pushed _ ⟨hB4.perm, hB4.kind, hB4.failed⟩ hR4.power))
    · rw [if_neg hlt]
      refine wpS_bind (wpS_get ?_)
      have pushed : ∀ st9 : SortSt, TB a₀ st9 → RunsOk (pendingOf st9) lo → wpS (model prog w) A E s (do
          modify fun s => setPending s ((pendingOf s).push (lo, n, 0))
          pure (ForInStep.yield ((none : Option PUnit), lo + n)) : StateT SortSt Sem (ForInStep (Option PUnit × Nat))) (fun r st' =>
            match r with
            | ForInStep.done c' => TB a₀ st' ∧ ∃ lo, c' = (none, lo) ∧ lo ≤ a₀.size ∧ RunsOk (pendingOf st') lo
            | ForInStep.yield c' => TB a₀ st' ∧ ∃ lo, c' = (none, lo) ∧ lo ≤ a₀.size ∧ RunsOk (pendingOf st') lo) st9 := by
        intro st9 hB9 hR9
        exact wpS_bind (wpS_modify (wpS_pure ⟨⟨hB9.perm, hB9.kind, hB9.failed⟩, _, rfl, by omega, hR9.push (by omega)⟩))
      cases hbk : (pendingOf st2).back? with
      | none => exact pushed st2 hS2.1 hR2
      | some t =>
        obtain ⟨s1, n1, p1⟩ := t
        refine wpS_bind (wpS_mono (wpS_forRange (I := fun y c st' => c = (none, ()) ∧ TB a₀ st' ∧ RunsOk (pendingOf st') lo) (Q := fun c st' => c = (none, ()) ∧ TB a₀ st' ∧ RunsOk (pendingOf st') lo) ?istep (fun _ _ h => h) ⟨rfl, hS2.1, hR2⟩) ?ipost)
        case istep =>
          rintro y c st4 _ hy ⟨rfl, hB4, hR4⟩
          refine wpS_bind (wpS_get ?_)
          by_cases hsz : (pendingOf st4).size > 1
          · rw [if_pos hsz]
            obtain ⟨⟨q1, q2, older⟩, eq⟩ : ∃ t, (pendingOf st4)[(pendingOf st4).size - 2]? = some t := ⟨_, getElem?_pos _ _ (by omega)⟩
            rw [eq]
            dsimp only
            split
            · exact wpS_pure ⟨rfl, hB4, hR4⟩
            · refine wpS_bind (wpS_mergeAt h0 hB4 hR4 hlo (by omega) fun st5 hB5 hR5 _ => ?_)
              exact wpS_pure ⟨rfl, hB5, hR5⟩
          · rw [if_neg hsz]
            exact wpS_pure ⟨rfl, hB4, hR4⟩
        case ipost =>
          rintro c st4 ⟨rfl, hB4, hR4⟩
          exact wpS_bind (wpS_modify (pushed _ ⟨hB4.perm, hB4.kind, hB4.failed⟩ hR4.power))
  case post =>
    rintro c st1 ⟨hB1, lo, rfl, hlo, hR1⟩
    refine wpS_bind (wpS_mono (wpS_forRange (I := fun y c st' => c = (none, ()) ∧ TB a₀ st' ∧ RunsOk (pendingOf st') lo) (Q := fun c st' => c = (none, ()) ∧ TB a₀ st' ∧ RunsOk (pendingOf st') lo) ?pstep (fun _ _ h => h) ⟨rfl, hB1, hR1⟩) ?ppost)
    case pstep =>
      rintro y c st4 _ hy ⟨rfl, hB4, hR4⟩
      refine wpS_bind (wpS_get ?_)
      by_cases hsz : (pendingOf st4).size ≤ 1
      · rw [if_pos hsz]
        exact wpS_pure ⟨rfl, hB4, hR4⟩
      · rw [if_neg hsz]
        have hpick : ∀ (c : Prop) [Decidable c], (if c then (pendingOf st4).size - 2 - 1 else (pendingOf st4).size - 2) + 1 < (pendingOf st4).size := by
          intro c _
          split <;> omega
        refine wpS_bind (wpS_mergeAt h0 hB4 hR4 hlo (hpick _) fun st5 hB5 hR5 _ => ?_)
        exact wpS_pure ⟨rfl, hB5, hR5⟩
    case ppost =>
      rintro c st4 ⟨rfl, hB4, hR4⟩
      exact wpS_pure (h _ hB4)
end
end

section
open PySem PyProof.Rows
theorem sort_key_eq (a : Addr) : Builtin.«list.sort» ⟨[.ref a], [(Str.ofString "key", .builtin "len")]⟩ = (do
    let items ← Builtin.List.listItems (.ref a)
    Builtin.List.listUpdate (.ref a) fun _ => #[]
    let before ← seqEpoch a
    let held ← newTuple items.toList
    let keyStore ← newList []
    holding [held, keyStore] do
      rule "list.sort.key"
      for x in items do
        match ← (call (.builtin "len") [x]).attempt with
        | .ok k => Builtin.List.listUpdate keyStore (·.push k)
        | .error e =>
          rule "list.sort.key-raised"
          let made ← Builtin.List.listItems keyStore
          Builtin.List.listUpdate keyStore fun _ => #[]
          letGo made.toList.reverse [e]
          Builtin.List.listUpdate (.ref a) fun _ => items; throw e
      let keys ← Builtin.List.listItems keyStore
      let kind ← if items.size < 2 then pure general' else keyKind' keys
      let ((), s) ← (if items.size < 2 then pure () else sortRuns').run (SortSt.mk' kind (keys.zip items) #[] 7 none)
      let sorted := (arrOf s).map (·.2)
      Builtin.List.listUpdate keyStore fun _ => #[]
      letGo ((arrOf s).map (·.1)).toList (failedOf s).toList
      let touched := (← seqEpoch a) != before
      Builtin.List.listUpdate (.ref a) fun _ => sorted
      if let some e := failedOf s then rule "list.sort.comparison-raised"; throw e
      if touched then rule "list.sort.modified"; raiseError "ValueError" "list modified during sort"
      ret .none) := by rfl
section
variable {prog : PySem.Program} {w : World} {A : Around} {E : Value → Shared → Prop} {s : Shared}
theorem zip_snd {ks vs : List Value} (h : ks.length = vs.length) : (ks.zip vs).map (·.2) = vs := by
  have := List.map_snd_zip (l₁ := ks) (l₂ := vs) (by lia)
  simpa using this
theorem sort_by_len {a : Addr} {vs : List Value} {n : Nat} {P : PySem.Fin → Shared → Prop} (ho : s.heap.get? a = some (seqObj "list" vs.toArray n)) (htup : ∀ v ∈ vs, ∃ b its, v = .ref b ∧ IsTup s.heap b its ∧ its.size < 10000) (hz : vs.length ≤ 20000)
    (h : ∀ (out : List Value) h' e tk, out.Perm vs → h'.get? a = some (seqObj "list" out.toArray e) → (∀ b o, b ≠ a → s.heap.get? b = some o → h'.get? b = some o) → P (.done (.ret .none)) { s with heap := h', toks := tk }) :
    wpAny (model prog w) A (Builtin.«list.sort» ⟨[.ref a], [(Str.ofString "key", .builtin "len")]⟩) P E s := by
  rw [sort_key_eq]
  have ha : a < s.heap.objs.size := Heap.lt_size ho
  have hvz : vs.toArray.size = vs.length := by simp
  refine wpAny_bind (listItems_at ho rfl ?_)
  refine wpAny_bind (listUpdate_at ho rfl ?_ (by rw [hvz, sizeLine_eq]; lia) (Nat.zero_le _))
  obtain ⟨e1, ho1⟩ : ∃ e1, (s.heap.update a (Obj.mapSeq fun _ => #[])).get? a = some (seqObj "list" #[] e1) := ⟨_, get?_update_seq ho (fun _ => #[])⟩
  have hk1 : ∀ b o, b ≠ a → s.heap.get? b = some o → (s.heap.update a (Obj.mapSeq fun _ => #[])).get? b = some o := fun b o hb e => (Heap.SameBut.update ..).extBut b o hb e
  have hs1 : (s.heap.update a (Obj.mapSeq fun _ => #[])).objs.size = s.heap.objs.size := Heap.size_update ..
  generalize s.heap.update a (Obj.mapSeq fun _ => #[]) = H1 at ho1 hk1 hs1 ⊢
  refine wpAny_bind (seqEpoch_at ho1 rfl ?_)
  refine wpAny_bind (wpAny_newTuple ?_ (by rw [show vs.toArray.toList = vs by simp, sizeLine_eq]; lia))
  refine wpAny_bind (wpAny_newList ?_ (Nat.zero_le _))
  refine wpAny_holding ?_
  dsimp only
  have ho2 : (H1.push { cls := .type "tuple", data := .seq vs.toArray.toList.toArray }).get? a = some (seqObj "list" #[] e1) := Heap.get?_push_of_some _ ho1
  have hk2 : ∀ b o, b ≠ a → s.heap.get? b = some o → (H1.push { cls := .type "tuple", data := .seq vs.toArray.toList.toArray }).get? b = some o := fun b o hb e => Heap.get?_push_of_some _ (hk1 b o hb e)
  have hs2 : s.heap.objs.size < (H1.push { cls := .type "tuple", data := .seq vs.toArray.toList.toArray }).objs.size := by rw [Heap.size_push, hs1]; exact Nat.lt_succ_self _
  generalize H1.push { cls := .type "tuple", data := .seq vs.toArray.toList.toArray } = H2 at ho2 hk2 hs2 ⊢
  have hKa : a ≠ H2.objs.size := Nat.ne_of_lt (Nat.lt_trans ha hs2)
  have ho3 : (H2.push { cls := .type "list", data := .seq [].toArray }).get? a = some (seqObj "list" #[] e1) := Heap.get?_push_of_some _ ho2
  have hk3 : ∀ b o, b ≠ a → s.heap.get? b = some o → (H2.push { cls := .type "list", data := .seq [].toArray }).get? b = some o := fun b o hb e => Heap.get?_push_of_some _ (hk2 b o hb e)
  have hK3 : (H2.push { cls := .type "list", data := .seq [].toArray }).get? H2.objs.size = some (seqObj "list" #[] 0) := Heap.get?_push_size _ rfl
  have hKold : ∀ b o, s.heap.get? b = some o → b ≠ H2.objs.size := fun b o e => Nat.ne_of_lt (Nat.lt_trans (Heap.lt_size e) hs2)
  generalize H2.push { cls := .type "list", data := .seq [].toArray } = H3 at ho3 hk3 hK3 ⊢
  generalize H2.objs.size = KS at hKa hK3 hKold ⊢
  clear ho2 hk2 hs2 ho1 hk1 hs1
  refine wpAny_bind (wpAny_rule ?_)
  refine wpAny_bind (wpAny_mono (wpAny_forIn_array' _ (fun rest _ s' => ∃ (ks : List Value) (h' : Heap) (tk e : Nat), s' = { s with heap := h', toks := tk } ∧ h'.get? KS = some (seqObj "list" ks.toArray e) ∧ h'.get? a = some (seqObj "list" #[] e1) ∧ (∀ b o, b ≠ a → s.heap.get? b = some o → h'.get? b = some o) ∧ ks.length + rest.length = vs.length ∧ (∀ k ∈ ks, ∃ n t, k = .int n t) ∧ ∀ v ∈ rest, v ∈ vs)
    (fun _ s' => ∃ (ks : List Value) (h' : Heap) (tk e : Nat), s' = { s with heap := h', toks := tk } ∧ h'.get? KS = some (seqObj "list" ks.toArray e) ∧ h'.get? a = some (seqObj "list" #[] e1) ∧ (∀ b o, b ≠ a → s.heap.get? b = some o → h'.get? b = some o) ∧ ks.length = vs.length ∧ (∀ k ∈ ks, ∃ n t, k = .int n t)) ?turn ?fin vs.toArray _ ⟨[], H3, s.toks, 0, rfl, hK3, ho3, hk3, by simp, by simp, by simp⟩) ?post fun _ _ e => e)
  case turn =>
    rintro x rest b s' ⟨ks, h', tk, e, rfl, hK, hA, hk, hl, hks, hr⟩
    obtain ⟨bx, its, rfl, ht, hit⟩ := htup x (hr x List.mem_cons_self)
    have hbx : bx ≠ a := by
      rintro rfl
      obtain ⟨ob, hob, hcb, _⟩ := ht
      rw [ho] at hob
      rw [← Option.some.inj hob] at hcb
      exact absurd (show Value.type "list" = Value.type "tuple" from hcb) (by decide)
    have ht' : IsTup h' bx its := by
      obtain ⟨ob, hob, r⟩ := ht
      exact ⟨ob, hk bx ob hbx hob, r⟩
    refine wpAny_bind (wpAny_attempt (len_tuple ht' (by lia) ?_))
    dsimp only
    have hz1 : ks.length ≤ 20000 := by simp at hl; lia
    refine wpAny_bind (listUpdate_at (xs := ks.toArray) (n := e) hK rfl ?_ (by rw [List.size_toArray, sizeLine_eq]; omega) (by rw [Array.size_push, List.size_toArray, sizeLine_eq]; omega))
    refine wpAny_pure ?_
    have e2 := get?_update_seq hK (fun xs => xs.push (.int its.size (tk + 1)))
    refine ⟨ks ++ [.int its.size (tk + 1)], _, _, _, rfl, by simpa using e2, (Heap.SameBut.update ..).extBut _ _ hKa hA, fun b o hb e => (Heap.SameBut.update ..).extBut _ _ (hKold b o e) (hk b o hb e), by simp at hl ⊢; lia, ?_, fun v hv => hr v (mct _ hv)⟩
    intro k hk
    rcases List.mem_append.mp hk with hk | hk
    · exact hks k hk
    · exact ⟨_, _, List.mem_singleton.mp hk⟩
  case fin =>
    rintro b s' ⟨ks, h', tk, e, rfl, hK, hA, hk, hl, hks, _⟩
    exact ⟨ks, h', tk, e, rfl, hK, hA, hk, by simpa using hl, hks⟩
  case post =>
    rintro ⟨⟩ s' ⟨ks, h', tk, e, rfl, hK, hA, hk, hl, hks⟩
    refine wpAny_bind (listItems_at hK rfl ?_)
    have hz1 : ks.length ≤ 20000 := by lia
    have fin : ∀ (st' : SortSt), (arrOf st').Perm (ks.toArray.zip vs.toArray) → failedOf st' = none → ∃ out : List Value, out.Perm vs ∧ (arrOf st').map (·.2) = out.toArray := by
      intro st' hp hf
      refine ⟨((arrOf st').map (·.2)).toList, ?_, (Array.toArray_toList ..).symm⟩
      have h1 := (Array.perm_iff_toList_perm.mp hp).map (·.2)
      rw [Array.toList_map]
      refine h1.trans ?_
      have e3 : (ks.toArray.zip vs.toArray).toList = ks.zip vs := by simp
      rw [e3, zip_snd hl]
    have last : ∀ (st' : SortSt), (arrOf st').Perm (ks.toArray.zip vs.toArray) → failedOf st' = none → wpAny (model prog w) A (do
        Builtin.List.listUpdate (.ref KS) fun _ => #[]
        letGo ((arrOf st').map (·.1)).toList (failedOf st').toList
        let touched := (← seqEpoch a) != e1
        Builtin.List.listUpdate (.ref a) fun _ => (arrOf st').map (·.2)
        if let some e := failedOf st' then rule "list.sort.comparison-raised"; throw e
        if touched then rule "list.sort.modified"; raiseError "ValueError" "list modified during sort"
        ret .none) P E { s with heap := h', toks := tk } := by
      intro st' hp hf
      obtain ⟨out, hout, eout⟩ := fin st' hp hf
      have hol := hout.length_eq
      refine wpAny_bind (listUpdate_at hK rfl ?_ (by rw [List.size_toArray, sizeLine_eq]; omega) (Nat.zero_le _))
      refine wpAny_bind (wpAny_letGo ?_)
      have hA2 : (h'.update KS (Obj.mapSeq fun _ => #[])).get? a = some (seqObj "list" #[] e1) := (Heap.SameBut.update ..).extBut _ _ hKa hA
      have hk2 : ∀ b o, b ≠ a → s.heap.get? b = some o → (h'.update KS (Obj.mapSeq fun _ => #[])).get? b = some o := fun b o hb e => (Heap.SameBut.update ..).extBut _ _ (hKold b o e) (hk b o hb e)
      refine wpAny_bind (seqEpoch_at hA2 rfl ?_)
      rw [eout]
      refine wpAny_bind (listUpdate_at hA2 rfl ?_ (Nat.zero_le _) (by rw [List.size_toArray, sizeLine_eq]; omega))
      rw [hf]
      simp only [bne_self_eq_false, Bool.false_eq_true, if_false]
      exact wpAny_pure (h out _ _ _ hout (get?_update_seq hA2 _) fun b o hb e => (Heap.SameBut.update ..).extBut _ _ hb (hk2 b o hb e))
    by_cases h2 : vs.toArray.size < 2
    · rw [if_pos h2, if_pos h2]
      refine wpAny_bind (wpAny_pure ?_)
      refine wpAny_bind (wpAny_pure ?_)
      exact last (SortSt.mk' general' (ks.toArray.zip vs.toArray) #[] 7 none) (Array.Perm.refl _) rfl
    · rw [if_neg h2, if_neg h2]
      have hkk : keyKind' ks.toArray = pure oneType' := by
        match ks, hl, hks with
        | [], hl, _ => rw [hvz, ← hl] at h2; exact absurd (by decide) h2
        | [_], hl, _ => rw [hvz, ← hl] at h2; exact absurd (Nat.lt_succ_self 1) h2
        | v₁ :: v₂ :: r, _, hks => exact keyKind_ints (intsAre_map _ hks)
      rw [hkk]
      refine wpAny_bind (wpAny_pure ?_)
      refine wpAny_bind (wpAny_mono (wpS_sortRunsP (a₀ := ks.toArray.zip vs.toArray) (st := SortSt.mk' oneType' (ks.toArray.zip vs.toArray) #[] 7 none)
        (Q := fun _ st' => TB (ks.toArray.zip vs.toArray) st') ?_ ⟨Array.Perm.refl _, rfl, rfl⟩ rfl fun st' hB => hB) ?_ fun _ _ e => e)
      · intro p hp
        have e3 : (ks.toArray.zip vs.toArray).toList = ks.zip vs := by simp
        rw [e3] at hp
        exact hks _ (List.of_mem_zip hp).1
      · rintro ⟨⟨⟩, st'⟩ s' ⟨rfl, hB⟩
        exact last st' hB.perm hB.failed
theorem args_sorted_key (a v : Value) : argsOk "sorted" ⟨[a], [(Str.ofString "key", v)]⟩ := by unfold argsOk; kernel_rfl
theorem args_sort_key (a v : Value) : argsOk "list.sort" ⟨[a], [(Str.ofString "key", v)]⟩ := by unfold argsOk; kernel_rfl
theorem sorted_len {h₀ : Heap} {L l : Addr} {m : Str → Option Value} {V : Led} {o : Obj} {vs : List Value} {n : Nat} {Q : Value → Shared → Prop} (F : Fr h₀ L s.heap m) (N : News h₀ L s.heap V) (hm : (l, o) ∈ V) (hc : o.cls = .type "list") (hd : o.data = .seq vs.toArray n)
    (htup : ∀ v ∈ vs, ∃ b its, v = .ref b ∧ IsTup s.heap b its ∧ its.size < 10000) (hz : vs.length ≤ 20000)
    (h : ∀ (R : Nat) (out : List Value) (e : Nat) s', Kin s s' → out.Perm vs → (∀ p ∈ V, p.1 < R) → Fr h₀ L s'.heap m → News h₀ L s'.heap ((R, PySem.W.listOf out.toArray e) :: V) → Q (.ref R) s') :
    wpAny (model prog w) A (call (.builtin "sorted") [.ref l] [(Str.ofString "key", .builtin "len")]) Q E s := by
  have hl : s.heap.IsList l vs.toArray := ⟨o, (N _ hm).1, hc, n, hd⟩
  have hVlt : ∀ p ∈ V, p.1 < s.heap.objs.size := fun p hp => Heap.lt_size (N p hp).1
  refine call_function_entry_kw kind_sorted plain_sorted entry_sorted (args_sorted_key _ _) ?_
  refine wpAny_bind (m := checkCount "sorted" 1 1 _) (wpAny_pure ?_)
  refine wpAny_bind (collect_list hl ?_ (by rw [sizeLine_eq]; lia))
  have hk1 : ∀ b o, s.heap.get? b = some o → ((s.heap.push (seqObj "list" #[] 0)).update s.heap.objs.size (Obj.mapSeq (· ++ vs.toArray))).get? b = some o := fun b o e =>
    (Heap.SameBut.update ..).extBut _ _ (Nat.ne_of_lt (Heap.lt_size e)) (Heap.get?_push_of_some _ e)
  have hs1 : ((s.heap.push (seqObj "list" #[] 0)).update s.heap.objs.size (Obj.mapSeq (· ++ vs.toArray))).objs.size = s.heap.objs.size + 1 := by
    rw [Heap.size_update, size_push']
  generalize (s.heap.push (seqObj "list" #[] 0)).update s.heap.objs.size (Obj.mapSeq (· ++ vs.toArray)) = H1 at hk1 hs1 ⊢
  refine wpAny_bind (wpAny_newList ?_ (by rw [sizeLine_eq]; lia))
  have hoL : (H1.push { cls := .type "list", data := .seq vs.toArray }).get? H1.objs.size = some (seqObj "list" vs.toArray 0) := Heap.get?_push_size _ rfl
  have hk2 : ∀ b o, s.heap.get? b = some o → (H1.push { cls := .type "list", data := .seq vs.toArray }).get? b = some o := fun b o e => Heap.get?_push_of_some _ (hk1 b o e)
  have hR : s.heap.objs.size < H1.objs.size := by rw [hs1]; exact Nat.lt_succ_self _
  generalize H1.push { cls := .type "list", data := .seq vs.toArray } = H2 at hoL hk2 ⊢
  generalize H1.objs.size = R at hoL hR ⊢
  have hLR : L < R := Nat.lt_trans F.ns.lt hR
  have hVR : ∀ p ∈ V, p.1 < R := fun p hp => Nat.lt_trans (hVlt p hp) hR
  refine wpAny_bind (wpAny_holding (wpAny_call_entry_kw (s := { s with heap := H2 }) slot_list_sort ⟨_, hoL, rfl⟩ entry_list_sort (sort_by_len (s := { s with heap := H2 }) hoL (fun v hv => ?_) hz fun out h' e tk hp ho' hk' => ⟨_, rfl, ?_⟩) (args_sort_key _ _)))
  · obtain ⟨b, its, rfl, ⟨ob, hob, r⟩, hi⟩ := htup v hv
    exact ⟨b, its, rfl, ⟨ob, hk2 b ob hob, r⟩, hi⟩
  · refine wpAny_pure ⟨_, rfl, ?_⟩
    have hkk : ∀ b o, s.heap.get? b = some o → h'.get? b = some o := fun b o e => hk' b o (Nat.ne_of_lt (Nat.lt_trans (Heap.lt_size e) hR)) (hk2 b o e)
    refine h R out e { s with heap := h', toks := tk } ⟨rfl, rfl⟩ hp hVR (Fr.kept F hkk) fun p hp => ?_
    rcases List.mem_cons.mp hp with rfl | hp
    · exact ⟨ho', Nat.ne_of_gt hLR, fresh_none F (Nat.le_of_lt hR)⟩
    · exact ⟨hkk _ _ (N p hp).1, (N p hp).2⟩
end
end

section
open PySem PySem.SeqAt PyProof.Rows PySem.W
section
variable {w : World} {A : Around} {E : Value → Shared → Prop} {s : Shared} {h₀ : Heap} {L : Addr} {m : Str → Option Value} {V : Led}
theorem bools_at {a : Addr} {xs : List Bool} {n : Nat} (N : News h₀ L s.heap V) (ha : (a, boolsObj xs n) ∈ V) : s.heap.IsList a (xs.map Value.bool).toArray := ⟨_, (N _ ha).1, rfl, n, rfl⟩
theorem ne_bools {a b : Addr} {xs ys : List Bool} {n k : Nat} {Q : Value → Shared → Prop} (N : News h₀ L s.heap V) (ha : (a, boolsObj xs n) ∈ V) (hb : (b, boolsObj ys k) ∈ V) (hxy : xs = ys) (hu : A.units < cLine) (h : Q (.bool false) s) :
    wpAny (model PP w) A (compareOp .NotEq (.ref a) (.ref b)) Q E s := by
  subst hxy
  have ne : RcNeAt A s (.ref a) (.ref b) (!(List.range ((xs.map Value.bool).toArray).size).all fun _ => true) := (RcNeAt.lists (e := fun _ => true) (bools_at N ha) (bools_at N hb) rfl hu fun j h1 h2 => by
    have : EqAt A.in1 s (.bool (xs[j]'(by simpa using h1))) (.bool (xs[j]'(by simpa using h1))) _ := EqAt.bool_bool _ _
    simpa using this)
  have e : (!(List.range ((xs.map Value.bool).toArray).size).all fun _ => true) = false := by
    rw [List.all_eq_true.mpr fun _ _ => rfl]; rfl
  rw [e] at ne
  exact ne PP w E Q h
theorem true_in_bools {a : Addr} {xs : List Bool} {n : Nat} {Q : Value → Shared → Prop} (N : News h₀ L s.heap V) (ha : (a, boolsObj xs n) ∈ V) {b : Bool} (hx : xs.any id = b) (h : Q (.bool b) s) :
    wpAny (model PP w) A (compareOp .In (.bool true) (.ref a)) Q E s := by
  refine in_listAt (fun v => match v with | .bool c => c == true | _ => false) (bools_at N ha) (fun y hy => ?_) ?_
  · obtain ⟨c, _, rfl⟩ := List.mem_map.mp (List.mem_toArray.mp hy)
    exact EqAt.bool_bool c true
  · have e : ((xs.map Value.bool).toArray.any fun v => match v with | .bool c => c == true | _ => false) = b := by
      rw [← hx]; simp [Function.comp_def]; rfl
    rw [e]; exact h
theorem list_from {value slice : PySem.Expr} {l : Addr} {o : Obj} {vs : List Value} {n : Nat} {x : Int} {t : Tok} {Q : Value → Shared → Prop} (F : Fr h₀ L s.heap m) (N : News h₀ L s.heap V) (hm : (l, o) ∈ V) (hc : o.cls = .type "list") (hd : o.data = .seq vs.toArray n) (hx : 0 ≤ x) (hz : vs.length ≤ 100000)
    (h : ∀ (D : Nat) s', Kin s s' → (∀ p ∈ V, p.1 < D) → Fr h₀ L s'.heap m → News h₀ L s'.heap ((D, PySem.W.listOf (vs.drop x.toNat).toArray 0) :: V) → Q (.ref D) s')
    (hs : subscripted slice false (.ref l) (.ref s.heap.objs.size) = operate [.ref s.heap.objs.size, .ref l] (getItem (.ref l) (.ref s.heap.objs.size)) := by with_unfolding_all rfl) (ht : ∀ r, letTemporaryGo value (.ref l) r = pure () := by intro _; with_unfolding_all rfl) :
    wpAny (model PP w) A (subscriptTail value slice (.ref l) (.ref s.heap.objs.size)) Q E { s with heap := s.heap.push { cls := .type "slice", data := .fields #[.int x t, .none, .none] } } := by
  have e : slicePick vs.toArray (some x) none none = (vs.drop x.toNat).toArray := by
    have e1 : sliceBounds (some x) none none vs.toArray.size = (((min x.toNat vs.toArray.size : Nat) : Int), ((vs.toArray.size : Nat) : Int), 1) := by
      simp only [sliceBounds, Option.getD_none, show (1 : Int) > 0 by decide, if_true, if_neg (show ¬ (x < 0) by omega)]
      congr 1
      omega
    rw [kmk_pick_nat _ e1]
    show ((vs.drop (min x.toNat vs.toArray.size)).take (vs.toArray.size - min x.toNat vs.toArray.size)).toArray = _
    rw [List.size_toArray, kmk_drop_min, List.take_of_length_le (by rw [List.length_drop]; omega)]
  refine kmk_slice F N ⟨o, (N _ hm).1, hc, n, hd⟩ (.int x t) .none (fun D h' F' N' l1 => ?_) hs ht (by rw [List.size_toArray, sizeLine_eq]; omega)
  rw [e] at N'
  exact h D { s with heap := h' } ⟨rfl, rfl⟩ l1 F' N'
theorem list_upto {value slice : PySem.Expr} {l : Addr} {o : Obj} {vs : List Value} {n : Nat} {y : Int} {t : Tok} {Q : Value → Shared → Prop} (F : Fr h₀ L s.heap m) (N : News h₀ L s.heap V) (hm : (l, o) ∈ V) (hc : o.cls = .type "list") (hd : o.data = .seq vs.toArray n) (hy : 0 ≤ y) (hz : vs.length ≤ 100000)
    (h : ∀ (D : Nat) s', Kin s s' → (∀ p ∈ V, p.1 < D) → Fr h₀ L s'.heap m → News h₀ L s'.heap ((D, PySem.W.listOf (vs.take y.toNat).toArray 0) :: V) → Q (.ref D) s')
    (hs : subscripted slice false (.ref l) (.ref s.heap.objs.size) = operate [.ref s.heap.objs.size, .ref l] (getItem (.ref l) (.ref s.heap.objs.size)) := by with_unfolding_all rfl) (ht : ∀ r, letTemporaryGo value (.ref l) r = pure () := by intro _; with_unfolding_all rfl) :
    wpAny (model PP w) A (subscriptTail value slice (.ref l) (.ref s.heap.objs.size)) Q E { s with heap := s.heap.push { cls := .type "slice", data := .fields #[.none, .int y t, .none] } } := by
  have e : slicePick vs.toArray none (some y) none = (vs.take y.toNat).toArray := by
    have e1 : sliceBounds none (some y) none vs.toArray.size = (((0 : Nat) : Int), ((min y.toNat vs.toArray.size : Nat) : Int), 1) := by
      simp only [sliceBounds, Option.getD_none, show (1 : Int) > 0 by decide, if_true, if_neg (show ¬ (y < 0) by omega)]
      congr 1
      congr 1
      omega
    rw [kmk_pick_nat _ e1]
    show ((vs.drop 0).take (min y.toNat vs.toArray.size - 0)).toArray = _
    rw [List.drop_zero, Nat.sub_zero, List.size_toArray, kmk_take_min]
  refine kmk_slice F N ⟨o, (N _ hm).1, hc, n, hd⟩ .none (.int y t) (fun D h' F' N' l1 => ?_) hs ht (by rw [List.size_toArray, sizeLine_eq]; omega)
  rw [e] at N'
  exact h D { s with heap := h' } ⟨rfl, rfl⟩ l1 F' N'
theorem cell_store {cn : Str} {cs : Scope} {a c : Addr} {ccd : Value} {cl : List (Str × Addr)} {x : Str} {v : Value} {o : Obj} {v₀ : Option Value} {W : Led} {Q : Unit → Shared → Prop} (F : Fr h₀ L s.heap m) (N : News h₀ L s.heap ((c, o) :: W)) (hc : cl.lookup x = some c) (hne : ∀ p ∈ W, p.1 ≠ c) (hd : o.data = .cell v₀)
    (h : ∀ o' s', Kin s s' → o'.data = .cell (some v) → Fr h₀ L s'.heap m → News h₀ L s'.heap ((c, o') :: W) → Q () s')
    (hk : cs.kind = .function := by rfl) (hx : (envX cn cs L a ccd cl).kindOf x = some .cell := by rfl) : wpAny (model PP w) A (storeName (envX cn cs L a ccd cl) x v) Q E s := by
  have hmem := N (c, o) List.mem_cons_self
  refine wpAny_storeName_cell hk hx hc ⟨o, hmem.1, hd⟩ fun h' hv hs => ?_
  obtain ⟨o', ho', hd'⟩ := hv
  refine h o' { s with heap := h' } ⟨rfl, rfl⟩ hd' ⟨F.ns.sameBut hs (Ne.symm hmem.2.1), fun b ob e => (hs.2 b (fun q => ?_)).trans (F.keep b ob e), F.above⟩ fun p hp => ?_
  · rw [q, hmem.2.2] at e; cases e
  · rcases List.mem_cons.mp hp with rfl | hp
    · exact ⟨ho', hmem.2⟩
    · exact ⟨(hs.2 _ (hne p hp)).trans (N p (mct _ hp)).1, (N p (mct _ hp)).2⟩
noncomputable def StepIn (w : World) (W : Led) (a : Addr) (k : Int × List Str) : Prop := ∃ o b t n, (a, o) ∈ W ∧ o.cls = .type "tuple" ∧ o.data = .seq #[.int k.1 t, .ref b] n ∧ WayIn w W b k.2
theorem StepIn.mono {W W' : Led} {a : Addr} {k : Int × List Str} (h : StepIn w W a k) (hs : ∀ q ∈ W, q ∈ W') : StepIn w W' a k := by obtain ⟨o, b, t, n, hm, c, d, e⟩ := h; exact ⟨o, b, t, n, hs _ hm, c, d, e.mono hs⟩
noncomputable def StepsIn (w : World) (W : Led) (qs : List (Int × List Str)) (its : List Value) : Prop := its.length = qs.length ∧ ∀ (i : Nat) (q : Int × List Str), qs[i]? = some q → ∃ a : Addr, its[i]? = some (Value.ref a) ∧ StepIn w W a q
theorem StepsIn.get {W : Led} {qs : List (Int × List Str)} {its : List Value} (h : StepsIn w W qs its) {i : Nat} {v : Value} (hv : its[i]? = some v) : ∃ a q, v = .ref a ∧ qs[i]? = some q ∧ StepIn w W a q := by
  have hi := (List.getElem?_eq_some_iff.mp hv).1
  have hq : qs[i]? = some (qs[i]'(Nat.lt_of_lt_of_eq hi h.1)) := List.getElem?_eq_getElem _
  obtain ⟨a, e, k⟩ := h.2 i _ hq
  rw [hv] at e
  exact ⟨a, _, Option.some.inj e, hq, k⟩
theorem StepsIn.drop {W : Led} {qs : List (Int × List Str)} {its : List Value} (h : StepsIn w W qs its) (n : Nat) : StepsIn w W (qs.drop n) (its.drop n) :=
  ⟨by rw [List.length_drop, List.length_drop, h.1], fun i q hq => by rw [List.getElem?_drop] at hq ⊢; exact h.2 _ q hq⟩
theorem StepsIn.take {W : Led} {qs : List (Int × List Str)} {its : List Value} (h : StepsIn w W qs its) (n : Nat) : StepsIn w W (qs.take n) (its.take n) :=
  ⟨by rw [List.length_take, List.length_take, h.1], fun i q hq => by
    rw [List.getElem?_take] at hq ⊢
    split at hq
    · rename_i hlt; rw [if_pos hlt]; exact h.2 _ q hq
    · exact nomatch hq⟩
theorem StepsIn.mono {W W' : Led} {qs : List (Int × List Str)} {its : List Value} (h : StepsIn w W qs its) (hs : ∀ p ∈ W, p ∈ W') : StepsIn w W' qs its := ⟨h.1, fun i q hq => let ⟨a, e, k⟩ := h.2 i q hq; ⟨a, e, k.mono hs⟩⟩
end
end

section
open PySem
theorem deep_iff {mk : Marks} {y : List Str} {f : Int} : deepAt mk y f = true ↔ ∃ p, p ≠ [] ∧ p <+: y ∧ mk p true f = true := by
  unfold deepAt
  rw [List.any_eq_true]
  constructor
  · rintro ⟨i, hi, h⟩
    rw [List.mem_range] at hi
    refine ⟨y.take (i + 1), ?_, List.take_prefix _ _, h⟩
    intro e
    have := congrArg List.length e
    rw [List.length_take, List.length_nil] at this
    lia
  · rintro ⟨p, hp, hpy, h⟩
    have hl : 1 ≤ p.length := by
      cases p with
      | nil => exact absurd rfl hp
      | cons _ _ => simp
    have hle := hpy.length_le
    refine ⟨p.length - 1, List.mem_range.mpr (by omega), ?_⟩
    rw [show p.length - 1 + 1 = p.length by omega, ← List.prefix_iff_eq_take.mp hpy]
    exact h
theorem is_iff {mk : Marks} {y : List Str} {f : Int} : isAt mk y f = true ↔ y ≠ [] ∧ (deepAt mk y f = true ∨ mk y false f = true) := by
  unfold isAt
  simp
noncomputable def Clean (mk : Marks) : Prop := ∀ y d f, mk y d f = true → cc ∉ y ∧ y ≠ [] ∧ (f = 0 ∨ f = 1)
theorem is_c {mk : Marks} (hc : Clean mk) {y : List Str} {f : Int} : isAt mk (y ++ [cc]) f = deepAt mk y f := by
  rw [Bool.eq_iff_iff, is_iff, deep_iff, deep_iff]
  have hno : ∀ d, mk (y ++ [cc]) d f = true → False := fun d h => (hc _ _ _ h).1 (by simp)
  constructor
  · rintro ⟨_, ⟨p, hp, hpy, h⟩ | h⟩
    · refine ⟨p, hp, ?_, h⟩
      rcases List.prefix_concat_iff.mp hpy with e | h2
      · subst e; exact (hno _ h).elim
      · exact h2
    · exact (hno _ h).elim
  · rintro ⟨p, hp, hpy, h⟩
    exact ⟨by simp, .inl ⟨p, hp, hpy.trans (List.prefix_append _ _), h⟩⟩
noncomputable def Same (Y : List (List Str)) (a b : Marks) : Prop := ∀ y ∈ Y, ∀ f, (deepAt a y f = true ↔ deepAt b y f = true) ∧ (isAt a y f = true ↔ isAt b y f = true)
theorem Same.answers {Y : List (List Str)} {a b : Marks} (h : Same Y a b) (ha : Clean a) (hb : Clean b) : answers a Y = answers b Y := by
  unfold Mine.answers
  have : ∀ qs : List (List Str), (∀ q ∈ qs, q ∈ Y) → qs.flatMap (ansOf a) = qs.flatMap (ansOf b) := by
    intro qs
    induction qs with
    | nil => intro _; rfl
    | cons q r ih =>
      intro hq
      rw [List.flatMap_cons, List.flatMap_cons, ih fun x hx => hq x (mct _ hx)]
      congr 1
      have h0 := h q (hq q List.mem_cons_self)
      unfold ansOf
      rw [is_c ha, is_c ha, is_c hb, is_c hb, Bool.eq_iff_iff.mpr (h0 0).1, Bool.eq_iff_iff.mpr (h0 0).2, Bool.eq_iff_iff.mpr (h0 1).1, Bool.eq_iff_iff.mpr (h0 1).2]
  exact this Y fun _ h => h
theorem setMk_iff {mk : Marks} {q p : List Str} {d e : Bool} {f i : Int} : setMk mk q d f p e i = true ↔ mk p e i = true ∨ (p = q ∧ e = d ∧ i = f) := by
  unfold setMk; simp [and_assoc]
theorem deep_set {mk : Marks} {q y : List Str} {d : Bool} {f g : Int} : deepAt (setMk mk q d f) y g = true ↔ deepAt mk y g = true ∨ (d = true ∧ g = f ∧ q ≠ [] ∧ q <+: y) := by
  rw [deep_iff, deep_iff]
  constructor
  · rintro ⟨p, hp, hy, h⟩
    rcases setMk_iff.mp h with h | ⟨rfl, h1, h2⟩
    · exact .inl ⟨p, hp, hy, h⟩
    · exact .inr ⟨h1.symm, h2, hp, hy⟩
  · rintro (⟨p, hp, hy, h⟩ | ⟨h1, h2, h3, h4⟩)
    · exact ⟨p, hp, hy, setMk_iff.mpr (.inl h)⟩
    · exact ⟨q, h3, h4, setMk_iff.mpr (.inr ⟨rfl, h1.symm, h2⟩)⟩
theorem is_set {mk : Marks} {q y : List Str} {d : Bool} {f g : Int} : isAt (setMk mk q d f) y g = true ↔ isAt mk y g = true ∨ (y ≠ [] ∧ ((d = true ∧ g = f ∧ q ≠ [] ∧ q <+: y) ∨ (y = q ∧ false = d ∧ g = f))) := by
  rw [is_iff, is_iff, deep_set, setMk_iff]
  constructor
  · rintro ⟨h, (h1 | h1) | (h1 | h1)⟩
    · exact .inl ⟨h, .inl h1⟩
    · exact .inr ⟨h, .inl h1⟩
    · exact .inl ⟨h, .inr h1⟩
    · exact .inr ⟨h, .inr h1⟩
  · rintro (⟨h, h1 | h1⟩ | ⟨h, h1 | h1⟩)
    · exact ⟨h, .inl (.inl h1)⟩
    · exact ⟨h, .inr (.inl h1)⟩
    · exact ⟨h, .inl (.inr h1)⟩
    · exact ⟨h, .inr (.inr h1)⟩
theorem Same.set {Y : List (List Str)} {a b : Marks} (h : Same Y a b) (q : List Str) (d : Bool) (f : Int) : Same Y (setMk a q d f) (setMk b q d f) := fun y hy g => by
  rw [deep_set, deep_set, is_set, is_set, (h y hy g).1, (h y hy g).2]
  exact ⟨Iff.rfl, Iff.rfl⟩
theorem deep_fin {mk mk' : Marks} {P : Wait} (hf : finMk mk mk' P) {y : List Str} {g : Int} : deepAt mk' y g = true ↔ deepAt mk y g = true := by
  rw [deep_iff, deep_iff]
  constructor
  · rintro ⟨p, hp, hy, h⟩
    rcases (hf p true g).mp h with h | ⟨h, _⟩
    · exact ⟨p, hp, hy, h⟩
    · exact nomatch h
  · rintro ⟨p, hp, hy, h⟩
    exact ⟨p, hp, hy, (hf p true g).mpr (.inl h)⟩
theorem is_fin {mk mk' : Marks} {P : Wait} (hf : finMk mk mk' P) {y : List Str} {g : Int} : isAt mk' y g = true ↔ isAt mk y g = true ∨ (y ≠ [] ∧ P (y, g)) := by
  rw [is_iff, is_iff, deep_fin hf, hf]
  constructor
  · rintro ⟨h, h1 | (h1 | ⟨_, h1⟩)⟩
    · exact .inl ⟨h, .inl h1⟩
    · exact .inl ⟨h, .inr h1⟩
    · exact .inr ⟨h, h1⟩
  · rintro (⟨h, h1 | h1⟩ | ⟨h, h1⟩)
    · exact ⟨h, .inl h1⟩
    · exact ⟨h, .inr (.inl h1)⟩
    · exact ⟨h, .inr (.inr ⟨rfl, h1⟩)⟩
theorem Same.fin {Y : List (List Str)} {a b a' b' : Marks} {P : Wait} (h : Same Y a b) (ha : finMk a a' P) (hb : finMk b b' P) : Same Y a' b' := fun y hy g => by
  rw [deep_fin ha, deep_fin hb, is_fin ha, is_fin hb, (h y hy g).1, (h y hy g).2]
  exact ⟨Iff.rfl, Iff.rfl⟩
theorem take_eq_iff {q y : List Str} : y.take q.length = q ↔ q <+: y := by
  rw [List.prefix_iff_eq_take]; exact eq_comm
theorem cutMk_iff {mk : Marks} {q p : List Str} {e : Bool} {i : Int} : cutMk mk q p e i = true ↔ mk p e i = true ∧ ¬ q <+: p := by
  unfold cutMk
  by_cases h : p.take q.length = q
  · rw [if_pos h]; simp [take_eq_iff.mp h]
  · rw [if_neg h]; exact ⟨fun h1 => ⟨h1, fun h2 => h (take_eq_iff.mpr h2)⟩, fun h1 => h1.1⟩
theorem deep_cut_off {mk : Marks} {q y : List Str} {g : Int} (h : ¬ q <+: y) : deepAt (cutMk mk q) y g = true ↔ deepAt mk y g = true := by
  rw [deep_iff, deep_iff]
  constructor
  · rintro ⟨p, hp, hy, h1⟩; exact ⟨p, hp, hy, (cutMk_iff.mp h1).1⟩
  · rintro ⟨p, hp, hy, h1⟩; exact ⟨p, hp, hy, cutMk_iff.mpr ⟨h1, fun h2 => h (h2.trans hy)⟩⟩
theorem deep_cut_on {mk : Marks} {q y : List Str} {g : Int} (hq : q ≠ []) (h : q <+: y) : deepAt (cutMk mk q) y g = true ↔ deepAt mk q.dropLast g = true := by
  rw [deep_iff, deep_iff]
  constructor
  · rintro ⟨p, hp, hy, h1⟩
    obtain ⟨h2, h3⟩ := cutMk_iff.mp h1
    refine ⟨p, hp, ?_, h2⟩
    rcases List.prefix_or_prefix_of_prefix hy h with h4 | h4
    · obtain ⟨r, hr⟩ := h4
      have hr0 : r ≠ [] := by rintro rfl; rw [List.append_nil] at hr; exact h3 (hr ▸ List.prefix_refl _)
      rw [← hr, List.dropLast_append_of_ne_nil hr0]
      exact List.prefix_append _ _
    · exact (h3 h4).elim
  · rintro ⟨p, hp, hy, h1⟩
    refine ⟨p, hp, (hy.trans (List.dropLast_prefix q)).trans h, cutMk_iff.mpr ⟨h1, fun h2 => ?_⟩⟩
    have l1 := h2.length_le
    have l2 := hy.length_le
    rw [List.length_dropLast] at l2
    have : q.length ≠ 0 := fun e => hq (List.length_eq_zero_iff.mp e)
    lia
theorem Same.cut {Y : List (List Str)} {a b : Marks} (h : Same Y a b) {q : List Str} (hq : q ≠ []) (hY : q.dropLast ∈ Y) : Same Y (cutMk a q) (cutMk b q) := fun y hy g => by
  by_cases hp : q <+: y
  · have hd := (h _ hY g).1
    have e1 : isAt (cutMk a q) y g = true ↔ deepAt a q.dropLast g = true := by
      rw [is_iff, deep_cut_on hq hp, cutMk_iff]
      constructor
      · rintro ⟨_, h1 | ⟨_, h1⟩⟩
        · exact h1
        · exact (h1 hp).elim
      · intro h1
        refine ⟨?_, .inl h1⟩
        rintro rfl
        exact hq (List.prefix_nil.mp hp)
    have e2 : isAt (cutMk b q) y g = true ↔ deepAt b q.dropLast g = true := by
      rw [is_iff, deep_cut_on hq hp, cutMk_iff]
      constructor
      · rintro ⟨_, h1 | ⟨_, h1⟩⟩
        · exact h1
        · exact (h1 hp).elim
      · intro h1
        refine ⟨?_, .inl h1⟩
        rintro rfl
        exact hq (List.prefix_nil.mp hp)
    rw [deep_cut_on hq hp, deep_cut_on hq hp, e1, e2, hd]
    exact ⟨Iff.rfl, Iff.rfl⟩
  · have e1 : ∀ mk : Marks, (isAt (cutMk mk q) y g = true ↔ isAt mk y g = true) := fun mk => by
      rw [is_iff, is_iff, deep_cut_off hp, cutMk_iff]
      simp [hp]
    rw [deep_cut_off hp, deep_cut_off hp, e1, e1]
    exact h y hy g
theorem Step.same {Y : List (List Str)} {n : Int} {q : List Str} {a b a' b' : Marks} {P P1 P2 : Wait} (h : Same Y a b) (sa : Step n q a P a' P1) (sb : Step n q b P b' P2) (hq : n.fmod 5 = 4 → q ≠ [] ∧ q.dropLast ∈ Y) : Same Y a' b' ∧ P1 = P2 := by
  rcases sa with ⟨e, rfl, rfl⟩ | ⟨e, rfl, rfl⟩ | ⟨e, rfl, rfl⟩ | ⟨e, hf, rfl⟩ | ⟨e, rfl, rfl⟩
  all_goals rcases sb with ⟨e', rfl, rfl⟩ | ⟨e', rfl, rfl⟩ | ⟨e', rfl, rfl⟩ | ⟨e', hf', rfl⟩ | ⟨e', rfl, rfl⟩
  all_goals first
    | (exfalso; omega)
    | exact ⟨h.set _ _ _, rfl⟩
    | exact ⟨h, rfl⟩
    | exact ⟨h.fin hf hf', rfl⟩
    | exact ⟨h.cut (hq e).1 (hq e).2, rfl⟩
end

section
open PySem
noncomputable abbrev ML := List (List Str × Int × Bool)
noncomputable abbrev WL := List (List Str × Int)
noncomputable def RepM (mk : Marks) (l : ML) : Prop := ∀ y e i, mk y e i = true ↔ (y, i, e) ∈ l
noncomputable def RepW (P : Wait) (l : WL) : Prop := ∀ k, P k ↔ k ∈ l
noncomputable def asMarks (l : WL) : ML := l.map fun k => (k.1, k.2, false)
noncomputable def stepM (n : Int) (q : List Str) (l : ML) (wl : WL) : ML :=
  if n.fmod 5 = 2 then l else if n.fmod 5 = 3 then l ++ asMarks wl else if n.fmod 5 = 4 then l.filter fun k => !decide (k.1.take q.length = q) else l ++ [(q, n.fmod 2, n.fmod 5 == 1)]
noncomputable def stepW (n : Int) (q : List Str) (wl : WL) : WL :=
  if n.fmod 5 = 2 then wl ++ [(q, n.fmod 2)] else if n.fmod 5 = 3 then [] else wl
theorem rep_step {n : Int} {q : List Str} {mk mk' : Marks} {P P' : Wait} {l : ML} {wl : WL} (hm : RepM mk l) (hw : RepW P wl) (h : Step n q mk P mk' P') : RepM mk' (stepM n q l wl) ∧ RepW P' (stepW n q wl) := by
  delta stepM stepW
  rcases h with ⟨e, rfl, rfl⟩ | ⟨e, rfl, rfl⟩ | ⟨e, rfl, rfl⟩ | ⟨e, hf, rfl⟩ | ⟨e, rfl, rfl⟩
  · rw [e]
    refine ⟨fun y d i => ?_, hw⟩
    simp only [show ¬ (0 : Int) = 2 by omega, show ¬ (0 : Int) = 3 by omega, show ¬ (0 : Int) = 4 by lia, if_false]
    rw [setMk_iff, hm, List.mem_append, List.mem_singleton]
    constructor
    · rintro (h | ⟨rfl, rfl, rfl⟩)
      · exact .inl h
      · exact .inr rfl
    · rintro (h | h)
      · exact .inl h
      · obtain ⟨h1, h2⟩ := Prod.mk.inj h
        obtain ⟨h2, h3⟩ := Prod.mk.inj h2
        exact .inr ⟨h1, h3, h2⟩
  · rw [e]
    refine ⟨fun y d i => ?_, hw⟩
    simp only [show ¬ (1 : Int) = 2 by omega, show ¬ (1 : Int) = 3 by omega, show ¬ (1 : Int) = 4 by omega, if_false]
    rw [setMk_iff, hm, List.mem_append, List.mem_singleton]
    constructor
    · rintro (h | ⟨rfl, rfl, rfl⟩)
      · exact .inl h
      · exact .inr rfl
    · rintro (h | h)
      · exact .inl h
      · obtain ⟨h1, h2⟩ := Prod.mk.inj h
        obtain ⟨h2, h3⟩ := Prod.mk.inj h2
        exact .inr ⟨h1, h3, h2⟩
  · rw [if_pos e, if_pos e]
    refine ⟨hm, fun k => ?_⟩
    rw [List.mem_append, List.mem_singleton, ← hw k]
  · rw [e]
    simp only [show ¬ (3 : Int) = 2 by omega, if_false, if_true]
    refine ⟨fun y d i => ?_, fun k => by simp⟩
    rw [hf, hm, List.mem_append, hw]
    unfold asMarks
    rw [List.mem_map]
    constructor
    · rintro (h | ⟨rfl, h⟩)
      · exact .inl h
      · exact .inr ⟨_, h, rfl⟩
    · rintro (h | ⟨k, h, h2⟩)
      · exact .inl h
      · obtain ⟨h1, h2⟩ := Prod.mk.inj h2
        obtain ⟨h2, h3⟩ := Prod.mk.inj h2
        exact .inr ⟨h3.symm, by rw [← h1, ← h2]; exact h⟩
  · rw [e]
    simp only [show ¬ (4 : Int) = 2 by lia, show ¬ (4 : Int) = 3 by omega, if_false, if_true]
    refine ⟨fun y d i => ?_, hw⟩
    rw [cutMk_iff, hm, List.mem_filter]
    simp [take_eq_iff]
noncomputable def hereL (l : ML) (y : List Str) : List Int := (l.filter fun k => decide (k.1 = y) || (k.2.2 && decide (k.1 = y.take k.1.length))).map fun k => k.2.1
theorem here_iff {mk : Marks} {l : ML} (hm : RepM mk l) (hc : Clean mk) {y : List Str} {f : Int} : f ∈ hereL l y ↔ isAt mk y f = true := by
  unfold hereL
  rw [is_iff, deep_iff, List.mem_map]
  constructor
  · rintro ⟨⟨p, i, d⟩, h, rfl⟩
    rw [List.mem_filter] at h
    obtain ⟨h1, h2⟩ := h
    have hmk := (hm p d i).mpr h1
    have hp0 := (hc _ _ _ hmk).2.1
    simp only [Bool.or_eq_true, Bool.and_eq_true, decide_eq_true_eq] at h2
    rcases h2 with rfl | ⟨hd, h2⟩
    · refine ⟨hp0, ?_⟩
      cases d with
      | true => exact .inl ⟨p, hp0, List.prefix_refl _, hmk⟩
      | false => exact .inr hmk
    · have hpy : p <+: y := List.prefix_iff_eq_take.mpr h2
      refine ⟨?_, .inl ⟨p, hp0, hpy, hd ▸ hmk⟩⟩
      rintro rfl
      exact hp0 (List.prefix_nil.mp hpy)
  · rintro ⟨_, ⟨p, hp, hpy, h⟩ | h⟩
    · refine ⟨(p, f, true), List.mem_filter.mpr ⟨(hm _ _ _).mp h, ?_⟩, rfl⟩
      simp [← List.prefix_iff_eq_take.mp hpy]
    · exact ⟨(y, f, false), List.mem_filter.mpr ⟨(hm _ _ _).mp h, by simp⟩, rfl⟩
noncomputable def Rebuilt (one : Marks) (D : List (List Str)) (mk : Marks) : Prop := ∀ y d f, mk y d f = true ↔ y ∈ D ∧ y ≠ [] ∧ (f = 0 ∨ f = 1) ∧ isAt one y f = true ∧ deepAt one y.dropLast f = false ∧ d = deepAt one y f
noncomputable def Closed (Y : List (List Str)) : Prop := ∀ y ∈ Y, ∀ p, p <+: y → p ∈ Y
theorem is_flag {mk : Marks} (hc : Clean mk) {y : List Str} {f : Int} (h : isAt mk y f = true) : f = 0 ∨ f = 1 := by
  rcases (is_iff.mp h).2 with h | h
  · obtain ⟨p, _, _, h⟩ := deep_iff.mp h
    exact (hc _ _ _ h).2.2
  · exact (hc _ _ _ h).2.2
theorem deep_is {mk : Marks} {y : List Str} {f : Int} (hy : y ≠ []) (h : deepAt mk y f = true) : isAt mk y f = true := is_iff.mpr ⟨hy, .inl h⟩
theorem deep_mono {mk : Marks} {p y : List Str} {f : Int} (hp : p <+: y) (h : deepAt mk p f = true) : deepAt mk y f = true := by
  obtain ⟨r, h1, h2, h3⟩ := deep_iff.mp h
  exact deep_iff.mpr ⟨r, h1, h2.trans hp, h3⟩
theorem deep_first {mk : Marks} {f : Int} : ∀ (n : Nat) (y : List Str), y.length = n → deepAt mk y f = true → ∃ p, p ≠ [] ∧ p <+: y ∧ deepAt mk p f = true ∧ deepAt mk p.dropLast f = false
  | 0, y, hn, h => by
    obtain ⟨r, h1, h2, h3⟩ := deep_iff.mp h
    have := List.length_eq_zero_iff.mp hn
    subst this
    exact absurd (List.prefix_nil.mp h2) h1
  | n + 1, y, hn, h => by
    have hy : y ≠ [] := by rintro rfl; simp at hn
    cases hd : deepAt mk y.dropLast f with
    | false => exact ⟨y, hy, List.prefix_refl _, h, hd⟩
    | true =>
      obtain ⟨p, h1, h2, h3, h4⟩ := deep_first n y.dropLast (by rw [List.length_dropLast]; omega) hd
      exact ⟨p, h1, h2.trans (List.dropLast_prefix y), h3, h4⟩
theorem Rebuilt.same {Y : List (List Str)} {one mk : Marks} (hY : Closed Y) (hc : Clean one) (h : Rebuilt one Y mk) : Same Y one mk := by
  have hd : ∀ y ∈ Y, ∀ f, (deepAt one y f = true ↔ deepAt mk y f = true) := by
    intro y hy f
    constructor
    · intro h1
      obtain ⟨p, p1, p2, p3, p4⟩ := deep_first _ y rfl h1
      have hp := deep_is p1 p3
      exact deep_iff.mpr ⟨p, p1, p2, (h p true f).mpr ⟨hY y hy p p2, p1, is_flag hc hp, hp, p4, p3.symm⟩⟩
    · intro h1
      obtain ⟨p, p1, p2, p3⟩ := deep_iff.mp h1
      exact deep_mono p2 ((h p true f).mp p3).2.2.2.2.2.symm
  intro y hy f
  refine ⟨hd y hy f, ?_⟩
  constructor
  · intro h1
    have hy0 := (is_iff.mp h1).1
    by_cases h2 : deepAt one y f = true
    · exact deep_is hy0 ((hd y hy f).mp h2)
    · have h2' : deepAt one y f = false := by simpa using h2
      refine is_iff.mpr ⟨hy0, .inr ((h y false f).mpr ⟨hy, hy0, is_flag hc h1, h1, ?_, h2'.symm⟩)⟩
      cases h3 : deepAt one y.dropLast f with
      | false => rfl
      | true => exact absurd (deep_mono (List.dropLast_prefix y) h3) h2
  · intro h1
    obtain ⟨hy0, h2⟩ := is_iff.mp h1
    rcases h2 with h2 | h2
    · exact deep_is hy0 ((hd y hy f).mpr h2)
    · exact ((h y false f).mp h2).2.2.2.1
theorem Rebuilt.clean {Y : List (List Str)} {one mk : Marks} (hY : ∀ y ∈ Y, cc ∉ y) (h : Rebuilt one Y mk) : Clean mk := fun y d f h1 =>
  let ⟨a, b, c, _⟩ := (h y d f).mp h1
  ⟨hY y a, b, c⟩
noncomputable def WClean (P : Wait) : Prop := ∀ k, P k → cc ∉ k.1 ∧ k.1 ≠ [] ∧ (k.2 = 0 ∨ k.2 = 1) ∧ k.1.length ≤ 25
theorem Step.clean {n : Int} {q : List Str} {a a' : Marks} {P P' : Wait} (hc : Clean a) (hw : WClean P) (hq : cc ∉ q) (hq0 : n.fmod 5 ≠ 3 → q ≠ []) (hl : q.length ≤ 25) (h : Step n q a P a' P') : Clean a' ∧ WClean P' := by
  have hf2 : n.fmod 2 = 0 ∨ n.fmod 2 = 1 := by
    have e2 : 0 ≤ n.fmod 2 := Int.fmod_nonneg_of_pos _ (by omega)
    have e3 : n.fmod 2 < 2 := Int.fmod_lt_of_pos _ (by omega)
    omega
  have hset : ∀ d, q ≠ [] → Clean (setMk a q d (n.fmod 2)) := fun d h0 y e i hy => by
    rcases setMk_iff.mp hy with h1 | ⟨rfl, _, rfl⟩
    · exact hc _ _ _ h1
    · exact ⟨hq, h0, hf2⟩
  rcases h with ⟨e, rfl, rfl⟩ | ⟨e, rfl, rfl⟩ | ⟨e, rfl, rfl⟩ | ⟨e, hf, rfl⟩ | ⟨e, rfl, rfl⟩
  · exact ⟨hset _ (hq0 (by omega)), hw⟩
  · exact ⟨hset _ (hq0 (by omega)), hw⟩
  · refine ⟨hc, fun k hk => ?_⟩
    rcases hk with hk | rfl
    · exact hw k hk
    · exact ⟨hq, hq0 (by omega), hf2, hl⟩
  · refine ⟨fun y d i hy => ?_, fun k hk => hk.elim⟩
    rcases (hf y d i).mp hy with h1 | ⟨_, h1⟩
    · exact hc _ _ _ h1
    · obtain ⟨a, b, c, _⟩ := hw _ h1
      exact ⟨a, b, c⟩
  · exact ⟨fun y d i hy => hc _ _ _ (cutMk_iff.mp hy).1, hw⟩
end

section
open PySem PySem.SeqAt PyProof.Rows PySem.W
section
variable {w : World} {A : Around} {E : Value → Shared → Prop} {s : Shared} {h₀ : Heap} {L : Addr} {m : Str → Option Value} {V : Led}
theorem way_ne {p q : List Str} {a b : Addr} {Q : Value → Shared → Prop} (N : News h₀ L s.heap V) (K1 : WayIn w V a p) (K2 : WayIn w V b q) (hu : A.units < cLine) {r : Bool} (hr : (!decide (p = q)) = r) (h : Q (.bool r) s) : wpAny (model PP w) A (compareOp .NotEq (.ref a) (.ref b)) Q E s := by
  obtain ⟨xs, hl, hi⟩ := way_isTuple (K1.way N)
  obtain ⟨ys, hb, hj⟩ := way_isTuple (K2.way N)
  obtain ⟨e, he, ha⟩ := itemsAre_eqAt (A := A.in1) (s := s) hi hj
  have := RcNeAt.tuples (A := A) (e := e) hl hb hu fun j h1 h2 => by
    have := he j (by simpa using h1) (by simpa using h2)
    simpa only [Array.getElem_toList] using this
  simp only [Array.length_toList] at ha
  rw [ha, hr] at this
  exact this PP w E Q h
theorem way_eq {p q : List Str} {a b : Addr} {Q : Value → Shared → Prop} (N : News h₀ L s.heap V) (K1 : WayIn w V a p) (K2 : WayIn w V b q) (hu : A.units < cLine) {r : Bool} (hr : decide (p = q) = r) (h : Q (.bool r) s) : wpAny (model PP w) A (compareOp .Eq (.ref a) (.ref b)) Q E s := by
  have := way_rcAt (prog := PP) (w := w) (A := A) (K1.way N) (K2.way N) hu
  rw [hr] at this
  exact this PP w E Q h
theorem way_notIn {l : Addr} {o : Obj} {its : List Value} {n : Nat} {qs : List (List Str)} {a : Addr} {q : List Str} {Q : Value → Shared → Prop} (N : News h₀ L s.heap V) (hm : (l, o) ∈ V) (hc : o.cls = .type "list") (hd : o.data = .seq its.toArray n) (hws : WaysIn w V qs its) (K : WayIn w V a q) (hu : A.units + 1 < cLine)
    {r : Bool} (hr : (!decide (q ∈ qs)) = r) (h : Q (.bool r) s) : wpAny (model PP w) A (compareOp .NotIn (.ref a) (.ref l)) Q E s := by
  classical
  let e : Value → Bool := fun v => match v with | .ref b => decide (∃ p, WayIn w V b p ∧ p = q) | _ => false
  have he : ∀ v ∈ its, EqAt A.in1 s v (.ref a) (e v) := by
    intro v hv
    obtain ⟨i, hi⟩ := List.getElem?_of_mem hv
    obtain ⟨b, p, rfl, hq, Kb⟩ := hws.get hi
    have h1 := way_eqAt (prog := PP) (w := w) (A := A.in1) (Kb.way N) (K.way N) hu
    have h2 : e (.ref b) = decide (p = q) := by
      show decide (∃ p, WayIn w V b p ∧ p = q) = _
      rw [decide_eq_decide]
      constructor
      · rintro ⟨p', Kp, rfl⟩
        exact way_inj (Kb.way N) (Kp.way N)
      · rintro rfl; exact ⟨_, Kb, rfl⟩
    rw [h2]; exact h1
  refine notIn_listAt e ⟨o, (N _ hm).1, hc, n, hd⟩ (fun v hv => he v (by simpa using hv)) ?_
  have e3 : its.toArray.any e = decide (q ∈ qs) := by
    rw [Bool.eq_iff_iff]
    simp only [List.any_toArray, List.any_eq_true, decide_eq_true_eq]
    constructor
    · rintro ⟨v, hv, hev⟩
      obtain ⟨i, hi⟩ := List.getElem?_of_mem hv
      obtain ⟨b, p, rfl, hq, Kb⟩ := hws.get hi
      obtain ⟨p', Kp, rfl⟩ := of_decide_eq_true hev
      rw [← way_inj (Kb.way N) (Kp.way N)]
      exact List.mem_of_getElem? hq
    · intro hq
      obtain ⟨i, hi⟩ := List.getElem?_of_mem hq
      obtain ⟨b, hb, Kb⟩ := hws.2 i q hi
      exact ⟨_, List.mem_of_getElem? hb, decide_eq_true ⟨q, Kb, rfl⟩⟩
  rw [e3, hr]
  exact h
end
inductive Both {α β : Type} (R : α → β → Prop) : List α → List β → Prop
  | nil : Both R [] []
  | cons {a b as bs} : R a b → Both R as bs → Both R (a :: as) (b :: bs)
theorem Both.perm {α β : Type} {R : α → β → Prop} {as as' : List α} (hp : as'.Perm as) : ∀ {bs : List β}, Both R as bs → ∃ bs' : List β, bs'.Perm bs ∧ Both R as' bs' := by
  replace hp := hp.symm
  induction hp with
  | nil => intro bs h; cases h; exact ⟨[], .nil, .nil⟩
  | cons x _ ih =>
    intro bs h
    cases h with
    | cons h1 h2 =>
      obtain ⟨bs', p, h3⟩ := ih h2
      exact ⟨_ :: bs', p.cons _, .cons h1 h3⟩
  | swap x y l =>
    intro bs h
    cases h with
    | cons h1 h2 =>
      cases h2 with
      | cons h3 h4 => exact ⟨_, List.Perm.swap _ _ _, .cons h3 (.cons h1 h4)⟩
  | trans h1 h2 ih1 ih2 =>
    intro bs h
    obtain ⟨bs1, p1, g1⟩ := ih1 h
    obtain ⟨bs2, p2, g2⟩ := ih2 g1
    exact ⟨bs2, p2.trans p1, g2⟩
theorem Both.of {w : World} {W : Led} : ∀ {qs : List (List Str)} {its : List Value}, WaysIn w W qs its → Both (fun v q => ∃ a : Addr, v = .ref a ∧ WayIn w W a q) its qs
  | [], its, h => by
    have := List.length_eq_zero_iff.mp h.1
    subst this; exact .nil
  | q :: qs, its, h => by
    obtain ⟨a, e, k⟩ := h.2 0 q rfl
    cases its with
    | nil => exact nomatch e
    | cons v its =>
      obtain rfl := Option.some.inj e
      exact .cons ⟨a, rfl, k⟩ (Both.of ⟨by simpa using h.1, fun i q' hq => h.2 (i + 1) q' hq⟩)
theorem Both.to {w : World} {W : Led} : ∀ {qs : List (List Str)} {its : List Value}, Both (fun v q => ∃ a : Addr, v = .ref a ∧ WayIn w W a q) its qs → WaysIn w W qs its
  | _, _, .nil => ⟨rfl, fun i q h => by simp at h⟩
  | _, _, .cons (a := v) (b := q) h1 h2 => by
    have ih := Both.to h2
    obtain ⟨a, rfl, k⟩ := h1
    refine ⟨by simp [ih.1], fun i q' hq => ?_⟩
    cases i with
    | zero => obtain rfl := Option.some.inj hq; exact ⟨a, rfl, k⟩
    | succ i => exact ih.2 i q' hq
theorem WaysIn.perm {w : World} {W : Led} {qs : List (List Str)} {its out : List Value} (h : WaysIn w W qs its) (hp : out.Perm its) : ∃ qs' : List (List Str), qs'.Perm qs ∧ WaysIn w W qs' out :=
  let ⟨qs', p, b⟩ := Both.perm hp (Both.of h)
  ⟨qs', p, Both.to b⟩
noncomputable def Good (one : Marks) (y : List Str) (d : Bool) (f : Int) : Prop := y ≠ [] ∧ (f = 0 ∨ f = 1) ∧ isAt one y f = true ∧ deepAt one y.dropLast f = false ∧ d = deepAt one y f
noncomputable def RebF (one : Marks) (D : List (List Str)) (q : List Str) (l : Nat) (mk : Marks) : Prop := ∀ y d f, mk y d f = true ↔ (y ∈ D ∧ Good one y d f) ∨ (y = q ∧ f < (l : Int) ∧ Good one y d f)
theorem RebF.start {one mk : Marks} {D : List (List Str)} {q : List Str} (h : Rebuilt one D mk) : RebF one D q 0 mk := fun y d f => by
  rw [h]
  constructor
  · exact fun h => .inl h
  · rintro (h | ⟨_, h1, _, h2, _⟩)
    · exact h
    · omega
theorem RebF.stop {one mk : Marks} {D : List (List Str)} {q : List Str} (h : RebF one D q 2 mk) : Rebuilt one (D ++ [q]) mk := fun y d f => by
  rw [h, List.mem_append, List.mem_singleton]
  constructor
  · rintro (⟨h1, h2⟩ | ⟨h1, _, h2⟩)
    · exact ⟨.inl h1, h2⟩
    · exact ⟨.inr h1, h2⟩
  · rintro ⟨h1 | h1, h2⟩
    · exact .inl ⟨h1, h2⟩
    · exact .inr ⟨h1, by rcases h2.2.1 with h | h <;> omega, h2⟩
theorem RebF.skip {one mk : Marks} {D : List (List Str)} {q : List Str} {l : Nat} (h : RebF one D q l mk) (hg : ¬ (q ≠ [] ∧ isAt one q l = true ∧ deepAt one q.dropLast l = false)) : RebF one D q (l + 1) mk := fun y d f => by
  rw [h]
  constructor
  · rintro (h1 | ⟨h1, h2, h3⟩)
    · exact .inl h1
    · exact .inr ⟨h1, by omega, h3⟩
  · rintro (h1 | ⟨rfl, h2, h3⟩)
    · exact .inl h1
    · by_cases hf : f = (l : Int)
      · subst hf; exact (hg ⟨h3.1, h3.2.2.1, h3.2.2.2.1⟩).elim
      · exact .inr ⟨rfl, by omega, h3⟩
theorem RebF.set {one mk : Marks} {D : List (List Str)} {q : List Str} {l : Nat} (h : RebF one D q l mk) (hl : l < 2) (hg : q ≠ [] ∧ isAt one q l = true ∧ deepAt one q.dropLast l = false) : RebF one D q (l + 1) (setMk mk q (deepAt one q l) l) := fun y d f => by
  rw [setMk_iff, h]
  constructor
  · rintro ((h1 | ⟨h1, h2, h3⟩) | ⟨rfl, rfl, rfl⟩)
    · exact .inl h1
    · exact .inr ⟨h1, by omega, h3⟩
    · exact .inr ⟨rfl, by omega, hg.1, by lia, hg.2.1, hg.2.2, rfl⟩
  · rintro (h1 | ⟨rfl, h2, h3⟩)
    · exact .inl (.inl h1)
    · by_cases hf : f = (l : Int)
      · subst hf; exact .inr ⟨rfl, h3.2.2.2.2, rfl⟩
      · exact .inl (.inr ⟨rfl, by omega, h3⟩)
end

section
open PySem PySem.SeqAt PyProof.Rows PySem.W PySem.Calls
section
variable {w : World} {A : Around} {E : Value → Shared → Prop} {s : Shared} {h₀ : Heap} {L : Addr} {m : Str → Option Value} {V : Led}
theorem list_ext {pre post : Led} {D b : Addr} {its its2 : Array Value} {n n2 : Nat} {Q : Value → Shared → Prop} (F : Fr h₀ L s.heap m) (N : News h₀ L s.heap (pre ++ (D, W.listOf its n) :: post))
    (hb : (b, W.listOf its2 n2) ∈ pre ++ (D, W.listOf its n) :: post) (h1 : ∀ p ∈ pre, p.1 ≠ D) (h2 : ∀ p ∈ post, p.1 ≠ D) (hz : its.size + its2.size ≤ 100000)
    (h : ∀ h' n', Fr h₀ L h' m → News h₀ L h' (pre ++ (D, W.listOf (its ++ its2) n') :: post) → Q .none { s with heap := h' }) :
    wpAny (model PP w) A (call (.builtin "list.extend") [.ref D, .ref b]) Q E s := by
  have z := N (D, W.listOf its n) (List.mem_append.mpr (.inr (.head _)))
  have hd : ¬(!its.isEmpty && Builtin.List.listTooLong (its.size + its2.size)) = true := by
    have : Builtin.List.listTooLong (its.size + its2.size) = false := by
      unfold Builtin.List.listTooLong
      rw [decide_eq_false_iff_not, sizeLine_eq]; omega
    rw [this, Bool.and_false]; decide
  refine call_meets PySem.F.slot_list_extend ⟨_, z.1, rfl⟩ PySem.F.entry_list_extend (PySem.F.args_list_extend_2 _ _) (PySem.AutoSeq1.list_extend_list_list_0 D its n b its2 n2 hd (by rw [sizeLine_eq]; lia) (by rw [sizeLine_eq]; omega)) ⟨z.1, (N _ hb).1, ?_⟩
  have hF : Fr h₀ L (s.heap.update D (Obj.mapSeq fun x => x ++ its2)) m := F.change (Heap.SameBut.update ..) z.2.1 z.2.2
  refine h _ (if ((its ++ its2).size == its.size) = true then n else n + 1) hF ?_
  exact W.news_set N h1 h2 (Heap.SameBut.update ..) (PySem.IsL.update z.1 (fun x => x ++ its2))
theorem len_way {a : Addr} {p : List Str} {Q : Value → Shared → Prop} (N : News h₀ L s.heap V) (K : WayIn w V a p) (hz : p.length < 1000) (h : Q (.int (p.length : Nat) (s.toks + 1)) { s with toks := s.toks + 1 + 1 }) :
    wpAny (model PP w) A (call (.builtin "len") [.ref a]) Q E s := by
  obtain ⟨its, ht, hi⟩ := K.tup N
  have hl := hi.length
  refine len_tuple ht (by rw [List.size_toArray]; omega) ?_
  rw [List.size_toArray, ← hl]
  exact h
theorem slice_upto2 {value slice : PySem.Expr} {t : Addr} {items : List Value} {y : Int} {u : Tok} {Q : Value → Shared → Prop}
    (F : Fr h₀ L s.heap m) (N : News h₀ L s.heap V) {o : Obj} {n : Nat} (hm : (t, o) ∈ V) (hc : o.cls = .type "tuple") (hd : o.data = .seq items.toArray n)
    (h : ∀ q o' n' h', Fr h₀ L h' m → News h₀ L h' ((q, o') :: V) → o'.cls = .type "tuple" → o'.data = .seq (items.take (upto y items.length)).toArray n' → (upto y items.length ≠ items.length → (∀ p ∈ V, p.1 < q)) → Q (.ref q) { s with heap := h' })
    (hs : subscripted slice false (.ref t) (.ref s.heap.objs.size) = operate [.ref s.heap.objs.size, .ref t] (getItem (.ref t) (.ref s.heap.objs.size)) := by with_unfolding_all rfl)
    (hsz : items.length ≤ sizeLine) :
    wpAny (model PP w) A (subscriptTail value slice (.ref t) (.ref s.heap.objs.size)) Q E { s with heap := s.heap.push { cls := .type "slice", data := .fields #[.none, .int y u, .none] } } := by
  have ht' : IsTup (s.heap.push { cls := .type "slice", data := .fields #[.none, .int y u, .none] }) t items.toArray := ⟨o, Heap.get?_push_of_some _ (N _ hm).1, hc, n, hd⟩
  have F1 := F.push { cls := .type "slice", data := .fields #[.none, .int y u, .none] }
  have N1 : News h₀ L (s.heap.push { cls := .type "slice", data := .fields #[.none, .int y u, .none] }) V := N.grown fun _ _ e => Heap.get?_push_of_some _ e
  refine tail_any (s := { s with heap := s.heap.push { cls := .type "slice", data := .fields #[.none, .int y u, .none] } }) ht'.typeIs slot_tuple_getitem.lookup
    (getItem_tuple_upto ht' (Heap.IsSliceOf.new ..) ?_ ?_ (by simpa using hsz)) hs
  · intro he
    rw [List.size_toArray] at he
    exact h t o n _ F1 (fun p hp => by
      rcases List.mem_cons.mp hp with rfl | hp
      · exact N1 _ hm
      · exact N1 p hp) hc (by rw [he, List.take_length]; exact hd) (fun hx => absurd he hx)
  · show Q (.ref (s.heap.push _).objs.size) _
    refine h _ _ 0 _ (F1.push _) (News.push F1 N1 _) rfl (by simp) (fun _ p hp => ?_)
    rw [Heap.size_push]
    exact Nat.lt_succ_of_lt (Heap.lt_size (N p hp).1)
theorem slice_way2 {value slice : PySem.Expr} {t : Addr} {p : List Str} {y : Int} {u : Tok} {Q : Value → Shared → Prop}
    (F : Fr h₀ L s.heap m) (N : News h₀ L s.heap V) (K : WayIn w V t p) (hz : p.length < 2 ^ 24)
    (h : ∀ q o' s', Kin s s' → Fr h₀ L s'.heap m → News h₀ L s'.heap ((q, o') :: V) → WayIn w ((q, o') :: V) q (p.take (upto y p.length)) → (upto y p.length ≠ p.length → (∀ p ∈ V, p.1 < q)) → Q (.ref q) s')
    (hs : subscripted slice false (.ref t) (.ref s.heap.objs.size) = operate [.ref s.heap.objs.size, .ref t] (getItem (.ref t) (.ref s.heap.objs.size)) := by with_unfolding_all rfl) :
    wpAny (model PP w) A (subscriptTail value slice (.ref t) (.ref s.heap.objs.size)) Q E { s with heap := s.heap.push { cls := .type "slice", data := .fields #[.none, .int y u, .none] } } := by
  obtain ⟨o, its, n, hm, hc, hd, hi⟩ := K
  have hl := hi.length
  refine slice_upto2 F N hm hc hd (fun q o' n' h' F' N' hc' hd' hor => ?_) hs (by rw [sizeLine_eq]; lia)
  refine h q o' { s with heap := h' } ⟨rfl, rfl⟩ F' N' ⟨o', _, n', List.mem_cons_self, hc', hd', by rw [hl]; exact ItemsAre.take hi _⟩ (by rw [hl]; exact hor)
theorem int_in {l : Addr} {o : Obj} {vs : List Value} {ns : List Int} {n : Nat} {f : Int} {t : Tok} {Q : Value → Shared → Prop} (N : News h₀ L s.heap V) (hm : (l, o) ∈ V) (hc : o.cls = .type "list") (hd : o.data = .seq vs.toArray n) (hi : IntsAre vs ns)
    {r : Bool} (hr : decide (f ∈ ns) = r) (h : Q (.bool r) s) : wpAny (model PP w) A (compareOp .In (.int f t) (.ref l)) Q E s := by
  let e : Value → Bool := fun v => match v with | .int k _ => k == f | _ => false
  have he : ∀ {vs : List Value} {ns : List Int}, IntsAre vs ns → (∀ v ∈ vs, EqAt A.in1 s v (.int f t) (e v)) ∧ vs.any e = decide (f ∈ ns) := by
    intro vs ns hi
    induction hi with
    | nil => exact ⟨fun v hv => absurd hv (by simp), by simp⟩
    | cons k u _ ih =>
      refine ⟨fun v hv => ?_, ?_⟩
      · rcases List.mem_cons.mp hv with rfl | hv
        · exact EqAt.int_int k u f t
        · exact ih.1 v hv
      · rw [List.any_cons, ih.2]
        show (k == f || _) = _
        by_cases hk : k = f
        · subst hk; rw [beq_self_eq_true, Bool.true_or, eq_comm, decide_eq_true_eq]; exact List.mem_cons_self
        · rw [beq_eq_false_iff_ne.mpr hk, Bool.false_or, decide_eq_decide, List.mem_cons]
          exact ⟨.inr, fun h => h.resolve_left fun e => hk e.symm⟩
  refine in_listAt e ⟨o, (N _ hm).1, hc, n, hd⟩ (fun v hv => (he hi).1 v (by simpa using hv)) ?_
  have e3 : vs.toArray.any e = r := by rw [← hr, ← (he hi).2]; simp
  rw [e3]; exact h
noncomputable def MarkIn (w : World) (W : Led) (a : Addr) (k : List Str × Int × Bool) : Prop := ∃ o b t n, (a, o) ∈ W ∧ o.cls = .type "tuple" ∧ o.data = .seq #[.ref b, .int k.2.1 t, .bool k.2.2] n ∧ WayIn w W b k.1
theorem MarkIn.mono {W W' : Led} {a : Addr} {k : List Str × Int × Bool} (h : MarkIn w W a k) (hs : ∀ q ∈ W, q ∈ W') : MarkIn w W' a k := by obtain ⟨o, b, t, n, hm, c, d, e⟩ := h; exact ⟨o, b, t, n, hs _ hm, c, d, e.mono hs⟩
noncomputable def MarksIn (w : World) (W : Led) (qs : ML) (its : List Value) : Prop := its.length = qs.length ∧ ∀ (i : Nat) (q : List Str × Int × Bool), qs[i]? = some q → ∃ a : Addr, its[i]? = some (Value.ref a) ∧ MarkIn w W a q
theorem MarksIn.mono {W W' : Led} {qs : ML} {its : List Value} (h : MarksIn w W qs its) (hs : ∀ p ∈ W, p ∈ W') : MarksIn w W' qs its := ⟨h.1, fun i q hq => let ⟨a, e, k⟩ := h.2 i q hq; ⟨a, e, k.mono hs⟩⟩
theorem MarksIn.get {W : Led} {qs : ML} {its : List Value} (h : MarksIn w W qs its) {i : Nat} {v : Value} (hv : its[i]? = some v) : ∃ a q, v = .ref a ∧ qs[i]? = some q ∧ MarkIn w W a q := by
  have hi := (List.getElem?_eq_some_iff.mp hv).1
  have hq : qs[i]? = some (qs[i]'(Nat.lt_of_lt_of_eq hi h.1)) := List.getElem?_eq_getElem _
  obtain ⟨a, e, k⟩ := h.2 i _ hq
  rw [hv] at e
  exact ⟨a, _, Option.some.inj e, hq, k⟩
theorem MarksIn.nil {W : Led} : MarksIn w W [] [] := ⟨rfl, fun i q h => by simp at h⟩
theorem MarksIn.append {W : Led} {qs rs : ML} {its jts : List Value} (h : MarksIn w W qs its) (g : MarksIn w W rs jts) : MarksIn w W (qs ++ rs) (its ++ jts) :=
  ⟨by rw [List.length_append, List.length_append, h.1, g.1], fun i q hq => by
    by_cases hi : i < qs.length
    · rw [List.getElem?_append_left hi] at hq
      rw [List.getElem?_append_left (by rw [h.1]; exact hi)]
      exact h.2 i q hq
    · rw [List.getElem?_append_right (by omega)] at hq
      rw [List.getElem?_append_right (by rw [h.1]; omega), h.1]
      exact g.2 _ q hq⟩
theorem MarksIn.one {W : Led} {a : Addr} {k : List Str × Int × Bool} (h : MarkIn w W a k) : MarksIn w W [k] [.ref a] :=
  ⟨rfl, fun i q hq => by
    cases i with
    | zero => obtain rfl := Option.some.inj hq; exact ⟨a, rfl, h⟩
    | succ i => simp at hq⟩
theorem WaysIn.append {W : Led} {qs rs : List (List Str)} {its jts : List Value} (h : WaysIn w W qs its) (g : WaysIn w W rs jts) : WaysIn w W (qs ++ rs) (its ++ jts) :=
  ⟨by rw [List.length_append, List.length_append, h.1, g.1], fun i q hq => by
    by_cases hi : i < qs.length
    · rw [List.getElem?_append_left hi] at hq
      rw [List.getElem?_append_left (by rw [h.1]; exact hi)]
      exact h.2 i q hq
    · rw [List.getElem?_append_right (by omega)] at hq
      rw [List.getElem?_append_right (by rw [h.1]; omega), h.1]
      exact g.2 _ q hq⟩
theorem WaysIn.one {W : Led} {a : Addr} {k : List Str} (h : WayIn w W a k) : WaysIn w W [k] [.ref a] :=
  ⟨rfl, fun i q hq => by
    cases i with
    | zero => obtain rfl := Option.some.inj hq; exact ⟨a, rfl, h⟩
    | succ i => simp at hq⟩
theorem WaysIn.nil {W : Led} : WaysIn w W [] [] := ⟨rfl, fun i q h => by simp at h⟩
end
noncomputable def forBodyOf : PySem.Stmt → List PySem.Stmt
  | .For _ _ b _ _ => b
  | _ => []
noncomputable def headStmt : List PySem.Stmt → PySem.Stmt
  | s :: _ => s
  | [] => .Pass (pos := ⟨0, 0, 0, 0⟩)
end

section
open PySem PySem.SeqAt PyProof.Rows PySem.W PySem.Calls
noncomputable def rangeObj (a b : Int) (t u v : Tok) : Obj := { cls := .type "range", data := .fields #[.int a t, .int b u, .int 1 v] }
noncomputable def rangeIt (x left : Int) : Obj := { cls := .type "range_iterator", data := .fields #[rawInt x, rawInt left, rawInt 1] }
section
variable {w : World} {A : Around} {E : Value → Shared → Prop} {s : Shared} {h₀ : Heap} {L : Addr} {m : Str → Option Value} {V : Led}
theorem range_one {n : Int} {t : Tok} {Q : Value → Shared → Prop} (F : Fr h₀ L s.heap m) (N : News h₀ L s.heap V)
    (h : ∀ (r : Nat) t u v s', Kin s s' → (∀ p ∈ V, p.1 < r) → Fr h₀ L s'.heap m → News h₀ L s'.heap ((r, rangeObj 0 n t u v) :: V) → Q (.ref r) s') :
    wpAny (model PP w) A (call (.type "range") [.int n t]) Q E s :=
  call_range_1 (h _ _ _ _ _ ⟨rfl, rfl⟩ (fun p hp => Heap.lt_size (N p hp).1) (F.push _) (News.push F N _))
theorem range_two {a b : Int} {t u : Tok} {Q : Value → Shared → Prop} (F : Fr h₀ L s.heap m) (N : News h₀ L s.heap V)
    (h : ∀ (r : Nat) t u v s', Kin s s' → (∀ p ∈ V, p.1 < r) → Fr h₀ L s'.heap m → News h₀ L s'.heap ((r, rangeObj a b t u v) :: V) → Q (.ref r) s') :
    wpAny (model PP w) A (call (.type "range") [.int a t, .int b u]) Q E s :=
  call_range_2 (h _ _ _ _ _ ⟨rfl, rfl⟩ (fun p hp => Heap.lt_size (N p hp).1) (F.push _) (News.push F N _))
theorem led_range {r : Addr} {a b : Int} {t u v : Tok} {k : Nat} {Q : Value → Shared → Prop} (F : Fr h₀ L s.heap m) (N : News h₀ L s.heap V) (hm : (r, rangeObj a b t u v) ∈ V) (ha : 0 ≤ a) (hk : b = a + k) (hb : b < 100000)
    (h : ∀ (I : Nat) h', (∀ p ∈ V, p.1 < I) → Fr h₀ L h' m → News h₀ L h' ((I, rangeIt a k) :: V) → Q (.ref I) { s with heap := h' }) :
    wpAny (model PP w) A (pyIter (.ref r)) Q E s := by
  refine wpAny_pyIter_range (N _ hm).1 (small_one (by lia) (by omega) (by omega) (by omega)) ?_
  have e : Builtin.Range.rangeSize a b 1 = (k : Int) := by rw [rangeSize_one]; split <;> lia
  rw [e]
  exact h _ _ (fun p hp => Heap.lt_size (N p hp).1) (F.push _) (News.push F N _)
theorem slice_way3 {value slice : PySem.Expr} {t : Addr} {o : Obj} {n : Nat} {items : List Value} {p : List Str} {y : Int} {u : Tok} {Q : Value → Shared → Prop}
    (F : Fr h₀ L s.heap m) (N : News h₀ L s.heap V) (hm : (t, o) ∈ V) (hc : o.cls = .type "tuple") (hd : o.data = .seq items.toArray n) (hi : ItemsAre (SK w) p items) (hz : p.length < 2 ^ 20)
    (h : ∀ (q : Nat) o' s', Kin s s' → Fr h₀ L s'.heap m → News h₀ L s'.heap ((q, o') :: V) → (∀ W' : Led, (q, o') ∈ W' → WayIn w W' q (p.take (upto y p.length))) → (q = t ∨ ∀ p ∈ V, p.1 < q) → Q (.ref q) s')
    (hs : subscripted slice false (.ref t) (.ref s.heap.objs.size) = operate [.ref s.heap.objs.size, .ref t] (getItem (.ref t) (.ref s.heap.objs.size)) := by with_unfolding_all rfl) :
    wpAny (model PP w) A (subscriptTail value slice (.ref t) (.ref s.heap.objs.size)) Q E { s with heap := s.heap.push { cls := .type "slice", data := .fields #[.none, .int y u, .none] } } := by
  have hl := hi.length
  have ht' : IsTup (s.heap.push { cls := .type "slice", data := .fields #[.none, .int y u, .none] }) t items.toArray := ⟨o, Heap.get?_push_of_some _ (N _ hm).1, hc, n, hd⟩
  have F1 := F.push { cls := .type "slice", data := .fields #[.none, .int y u, .none] }
  have N1 : News h₀ L (s.heap.push { cls := .type "slice", data := .fields #[.none, .int y u, .none] }) V := N.grown fun _ _ e => Heap.get?_push_of_some _ e
  refine tail_any (s := { s with heap := s.heap.push { cls := .type "slice", data := .fields #[.none, .int y u, .none] } }) ht'.typeIs slot_tuple_getitem.lookup
    (getItem_tuple_upto ht' (Heap.IsSliceOf.new ..) ?_ ?_ (by rw [sizeLine_eq, List.size_toArray]; lia)) hs
  · intro he
    rw [List.size_toArray] at he
    refine h t o { s with heap := _ } ⟨rfl, rfl⟩ F1 (fun p hp => by
      rcases List.mem_cons.mp hp with rfl | hp
      · exact N1 _ hm
      · exact N1 p hp) (fun W' hW' => ⟨o, items, n, hW', hc, hd, ?_⟩) (.inl rfl)
    rw [hl, he, ← hl, List.take_length]; exact hi
  · show Q (.ref (s.heap.push _).objs.size) _
    refine h _ _ { s with heap := _ } ⟨rfl, rfl⟩ (F1.push _) (News.push F1 N1 _) (fun W' hW' => ⟨_, items.take (upto y items.length), 0, hW', rfl, by simp, ?_⟩) (.inr fun p hp => ?_)
    · rw [hl]; exact ItemsAre.take hi _
    · rw [Heap.size_push]
      exact Nat.lt_succ_of_lt (Heap.lt_size (N p hp).1)
variable {C : Addr} {cenv : Env} {Em : (Shared → Prop) → Shared → Prop} {g : Comprehension} {K : Shared → Prop} {I : Nat} {W : Led}
theorem body_range {a : Int} {n : Nat} (hh : A.handled = none) (J : Nat → (Str → Option Value) → Led → Prop) (F : Fr h₀ C s.heap m) (N : News h₀ C s.heap ((I, rangeIt a n) :: W)) (hoff : ∀ p ∈ W, p.1 ≠ I) (hJ : J 0 m W)
    (turn : ∀ i t m W oI (s₁ : Shared), i < n → J i m W → (∀ p ∈ W, p.1 ≠ I) → Fr h₀ C s₁.heap m → News h₀ C s₁.heap ((I, oI) :: W) → Kin s s₁ →
      ∀ K' : Shared → Prop, (∀ s', NextHere h₀ C I oI (J (i + 1)) s s' → K' s') → wpAny (model PP w) A (assign g.target cenv (.int (a + i) t)) (fun _ s₂ => wpAny (model PP w) A (compTests g.ifs cenv) (fun ok s₃ => if ok = true then Em K' s₃ else K' s₃) (fun _ _ => False) s₂) (fun _ _ => False) s₁)
    (done : ∀ m W (s₁ : Shared), J n m W → Fr h₀ C s₁.heap m → News h₀ C s₁.heap W → Kin s s₁ → K s₁) :
    LoopBody PP w A h₀ C cenv Em g (.ref I) K s :=
  ⟨I, n, _, _, _, m, W, rangeIt a n, J, rfl, IterC.range hh I a n, fun i m W' h hj F' N' => trivial, F, N, by simp [rangeIt], hoff, hJ,
    fun i v m W oI s₁ hi hP hj ho F' N' K' => by obtain ⟨t, rfl⟩ := hP; exact turn i t m W oI s₁ hi hj ho F' N' K' _ fun _ x => x, done⟩
end
theorem ints_get {vs : List Value} {ns : List Int} (h : IntsAre vs ns) : ∀ (i : Nat) (n : Int), ns[i]? = some n → ∃ t, vs[i]? = some (.int n t) := by
  induction h with
  | nil => intro i n h; simp at h
  | cons k t _ ih =>
    intro i n hn
    cases i with
    | zero => obtain rfl := Option.some.inj hn; exact ⟨t, rfl⟩
    | succ i => exact ih i n hn
end

section
open PySem PySem.SeqAt PyProof.Rows PySem.W PySem.Calls
theorem way_call {w : World} {W : Led} {n : Int} {t : Tok}
    {p : PySem.Program} {loose : List Str} {mean : ExcName → Option Value} {mg mb : Str → Option Value} {dp un : Nat} {gd : Option (List Code)} {cn : Str} {cs : Scope} {a : Addr} {ccd : Value} {cl : List (Str × Addr)} {outer : List Env} {A₀ : Around} {base h₀ : Heap} {L C : Addr} {oL : Obj} {mC m₂ : Str → Option Value} {s : Shared}
    {Q E : Value → Shared → Prop} (B : Below A₀ base outer h₀) (FC : Fr h₀ C s.heap mC) (X : (hd.heap_39 w.params).In h₀) (N : News h₀ C s.heap ((L, oL) :: W)) (nsL : LCg.NsObj oL m₂) (hWL : ∀ p ∈ W, @Ne Nat p.1 L) (habove : h₀.objs.size ≤ L) (T : Top p loose mean mg mb h₀) (hk : cs.kind = .function) (hdp : dp + 9 < recursionLimit) (hun : un + 90 < cLine)
    (h : ∀ (a : Nat) o q s' oL', Kin s s' → LCg.NsObj oL' m₂ → Fr h₀ C s'.heap mC → News h₀ C s'.heap ((a, o) :: (L, oL') :: W) → (∀ W' : Led, (a, o) ∈ W' → WayIn w W' a q) → q ≠ [] → q.length ≤ 25 → cc ∉ q → (∀ p ∈ W, @LT.lt Nat _ p.1 a) → @LT.lt Nat _ C a → Q (.ref a) s') :
    wpAny (model PP w) (ktrTop dp un gd cn cs L a ccd cl outer) (PySem.call (.ref 77) [.int n t] []) Q E s := by
  obtain ⟨oC, hoC, nsC⟩ := LCg.ns_obj FC.ns
  have zL := N (L, oL) List.mem_cons_self
  have FL : Fr h₀ L s.heap m₂ := ⟨nsL.ns zL.1, FC.keep, habove⟩
  have hC₀ : h₀.get? C = none := by
    cases e : h₀.get? C with
    | none => rfl
    | some o => exact absurd (Heap.lt_size e) (Nat.not_lt.mpr FC.above)
  have NL : News h₀ L s.heap ((C, oC) :: W) := fun p hp => by
    rcases List.mem_cons.mp hp with rfl | hp'
    · exact ⟨hoC, Ne.symm zL.2.1, hC₀⟩
    · have z := N p (mct _ hp')
      exact ⟨z.1, hWL p hp', z.2.2⟩
  refine (way_meets (V := (C, oC) :: W)).call B FL X NL T hk hdp hun ?_
  rintro r s' W' K' F' N' ⟨a, o, q, rfl, rfl, ⟨o', its, n', hm, hc, hd, hi⟩, hq0, hql, hqc, hfresh⟩
  have e : (a, o') = (a, o) := by
    rcases List.mem_cons.mp hm with e | hm
    · exact e
    · exact absurd (hfresh _ hm) (Nat.lt_irrefl a)
  obtain ⟨_, rfl⟩ := Prod.mk.inj e
  obtain ⟨oL', hoL', nsL'⟩ := LCg.ns_obj F'.ns
  have hCC := N' (C, oC) (mct _ List.mem_cons_self)
  have hCa : @LT.lt Nat _ C a := hfresh _ List.mem_cons_self
  refine h a o' q s' oL' K' nsL' ⟨nsC.ns hCC.1, F'.keep, FC.above⟩ (fun p hp => ?_) (fun W' hW' => ⟨o', its, n', hW', hc, hd, hi⟩) hq0 hql hqc (fun p hp => hfresh p (mct _ hp)) hCa
  rcases List.mem_cons.mp hp with rfl | hp
  · have z := N' (a, o') List.mem_cons_self
    exact ⟨z.1, Nat.ne_of_gt hCa, z.2.2⟩
  · rcases List.mem_cons.mp hp with rfl | hp
    · exact ⟨hoL', zL.2⟩
    · exact ⟨(N' p (mct _ (mct _ hp))).1, (N p (mct _ hp)).2⟩
end

section
open PySem PySem.W PyProof.Rows
noncomputable def hereOf (k : List Str × Int × Bool) (y : List Str) : Bool := decide (k.1 = y) || (k.2.2 && decide (k.1 = y.take k.1.length))
theorem here_take {l : ML} {i : Nat} {k : List Str × Int × Bool} {y : List Str} (h : l[i]? = some k) : hereL (l.take (i + 1)) y = hereL (l.take i) y ++ if hereOf k y = true then [k.2.1] else [] := by
  unfold hereL hereOf
  rw [List.take_add_one, h, Option.toList_some, List.filter_append, List.map_append]
  congr 1
  rw [List.filter_cons, List.filter_nil]
  split <;> rfl
theorem hereL_len (l : ML) (y : List Str) : (hereL l y).length ≤ l.length := by
  unfold hereL; rw [List.length_map]; exact List.length_filter_le _ _
theorem emit_its {w : World} {A : Around} {h₀ : Heap} {C H I L : Nat} {S : Scope} {cl : List (Str × Addr)} {env : Env} {pos : Pos} {x : Str} {v : Value} {hs : List Value} {nh : Nat} {oI oL : Obj} {X : Led} {K : Shared → Prop} {m : Str → Option Value} {s : Shared}
    (F : Fr h₀ C s.heap m) (hm : m x = some v) (N : News h₀ C s.heap ((I, oI) :: (L, oL) :: (H, W.listOf (List.toArray hs) nh) :: X)) (hIH : I ≠ H) (hLH : L ≠ H) (hX : ∀ e ∈ X, @Ne Nat e.1 H) (hz : hs.length ≤ 100000)
    (hk : S.kind = .function) (hx : (cEnv S cl C env).kindOf x = some .local) (hd : (x == ("__debug__" : Str)) = false)
    (h : ∀ s', Kin s s' → Fr h₀ C s'.heap m → News h₀ C s'.heap ((I, oI) :: (L, oL) :: (H, W.listOf (List.toArray (hs ++ [v])) (nh + 1)) :: X) → K s') :
    CompEmit PP w A h₀ C (cEnv S cl C env) (Expr.Name x pos) (.ref H) [] K s := by
  show wpAny _ _ (eval _ _) _ _ _
  refine cname_L F hm ?_ hk hx hd
  refine list_app (pre := [(I, oI), (L, oL)]) (post := X) (its := hs.toArray) (n := nh) F N ?_ hX (by rw [List.size_toArray]; exact hz) fun h' F' N' => ?_
  · intro e he
    refine all_cons he ?_ fun he => all_one he ?_
    · exact hIH
    · exact hLH
  · rw [show hs.toArray.push v = (hs ++ [v]).toArray by simp] at N'
    exact h { s with heap := h' } ⟨rfl, rfl⟩ F' N'
theorem ints_snoc {hs : List Value} {ns : List Int} (h : IntsAre hs ns) (n : Int) (t : Tok) : IntsAre (hs ++ [.int n t]) (ns ++ [n]) := by
  induction h with
  | nil => exact .cons n t .nil
  | cons k u _ ih => exact .cons k u ih
namespace E_here_turn
noncomputable abbrev Dat : Type := (World) × (Nat) × (Nat) × (Option (List Code)) × (Nat) × (Nat) × (Addr) × (Value) × (Around) × (Heap) × (Heap) × (PySem.Program) × (List Str) × (ExcName → Option Value) × (Str → Option Value) × (Str → Option Value) × (Str → Option Value) × (Shared) × (Flow → Shared → Prop) × (Value → Shared → Prop) × (Led) × (List Bool) × (Nat) × (Nat) × (Obj) × (Obj) × (Addr) × (Addr) × (List Str) × (List Value) × (ML) × (Marks)
theorem ne : Nonempty Dat := ⟨({ draws := fun _ _ => 0, params := { strHash := fun _ => 0, shareClass := fun _ => 0, mergeTok := id, idOf := fun _ => 0, idOfShared := fun _ _ => 0, followText := fun _ => false, idOfImm := fun _ => 0 } }, default, default, default, default, default, default, default, {}, default, default, default, default, default, default, default, default, {}, default, default, default, default, default, default, default, default, default, default, default, default, default, default)⟩
noncomputable def Stm (w : World) (dp : Nat) (un : Nat) (gd : Option (List Code)) (L : Nat) (D : Nat) (fa : Addr) (ccd : Value) (A₀ : Around) (base : Heap) (h₀ : Heap) (p : PySem.Program) (loose : List Str) (mean : ExcName → Option Value) (mg : Str → Option Value) (mb : Str → Option Value) (m : Str → Option Value) (s : Shared) (Q : Flow → Shared → Prop) (E : Value → Shared → Prop) (V : Led) (bs : List Bool) (n : Nat) (nm : Nat) (oA : Obj) (mo : Obj) (qa : Addr) (ma : Addr) (q : List Str) (mits : List Value) (l : ML) (mk : Marks) : Prop := ∀  (B : Below A₀ base [] h₀) (KX : (hd.heap_39 w.params).In h₀) (TP : Top p loose mean mg mb h₀) (hdp : dp + 40 < recursionLimit) (hun : un + 400 < cLine) (FR : Fr h₀ L s.heap m) (N : News h₀ L s.heap ((D, boolsObj bs n) :: V)) (hD : ∀ p ∈ V, @Ne Nat p.1 D) (hA : (L + 5, oA) ∈ V) (hoA : oA.data = .cell (some (.ref qa))) (Kq : WayIn w V qa q) (hma : (ma, mo) ∈ V) (hmc : mo.cls = .type "list") (hmd : mo.data = .seq mits.toArray nm) (hms : MarksIn w V l mits) (e_marks : m (Str.ofString "marks") = some (.ref ma)) (e_due : m (Str.ofString "due") = some (.ref D)) (hll : l.length < 1000) (hlp : ∀ k ∈ l, k.1.length < 500) (hql : q.length < 500) (hbs : bs.length < 80000) (rep : RepM mk l) (cl : Clean mk) (next : ∀ s' n' u, Kin s s' → Fr h₀ L s'.heap (fun y => if y = Str.ofString "here" then u else m y) → News h₀ L s'.heap ((D, boolsObj (bs ++ [isAt mk q 0, isAt mk q 1]) n') :: V) → Q .next s'), wpAny (model PP w) (ktrTop dp un gd (Str.ofString "law") lawScope L fa ccd (lawCells L) []) (execs (forBodyOf (headStmt (forBodyOf (headStmt (lawBody.drop 13))))) (envX (Str.ofString "law") lawScope L fa ccd (lawCells L))) Q E s
@[irreducible] noncomputable def pick : Dat := @Classical.epsilon Dat ne fun d => ¬ Stm d.1 d.2.1 d.2.2.1 d.2.2.2.1 d.2.2.2.2.1 d.2.2.2.2.2.1 d.2.2.2.2.2.2.1 d.2.2.2.2.2.2.2.1 d.2.2.2.2.2.2.2.2.1 d.2.2.2.2.2.2.2.2.2.1 d.2.2.2.2.2.2.2.2.2.2.1 d.2.2.2.2.2.2.2.2.2.2.2.1 d.2.2.2.2.2.2.2.2.2.2.2.2.1 d.2.2.2.2.2.2.2.2.2.2.2.2.2.1 d.2.2.2.2.2.2.2.2.2.2.2.2.2.2.1 d.2.2.2.2.2.2.2.2.2.2.2.2.2.2.2.1 d.2.2.2.2.2.2.2.2.2.2.2.2.2.2.2.2.1 d.2.2.2.2.2.2.2.2.2.2.2.2.2.2.2.2.2.1 d.2.2.2.2.2.2.2.2.2.2.2.2.2.2.2.2.2.2.1 d.2.2.2.2.2.2.2.2.2.2.2.2.2.2.2.2.2.2.2.1 d.2.2.2.2.2.2.2.2.2.2.2.2.2.2.2.2.2.2.2.2.1 d.2.2.2.2.2.2.2.2.2.2.2.2.2.2.2.2.2.2.2.2.2.1 d.2.2.2.2.2.2.2.2.2.2.2.2.2.2.2.2.2.2.2.2.2.2.1 d.2.2.2.2.2.2.2.2.2.2.2.2.2.2.2.2.2.2.2.2.2.2.2.1 d.2.2.2.2.2.2.2.2.2.2.2.2.2.2.2.2.2.2.2.2.2.2.2.2.1 d.2.2.2.2.2.2.2.2.2.2.2.2.2.2.2.2.2.2.2.2.2.2.2.2.2.1 d.2.2.2.2.2.2.2.2.2.2.2.2.2.2.2.2.2.2.2.2.2.2.2.2.2.2.1 d.2.2.2.2.2.2.2.2.2.2.2.2.2.2.2.2.2.2.2.2.2.2.2.2.2.2.2.1 d.2.2.2.2.2.2.2.2.2.2.2.2.2.2.2.2.2.2.2.2.2.2.2.2.2.2.2.2.1 d.2.2.2.2.2.2.2.2.2.2.2.2.2.2.2.2.2.2.2.2.2.2.2.2.2.2.2.2.2.1 d.2.2.2.2.2.2.2.2.2.2.2.2.2.2.2.2.2.2.2.2.2.2.2.2.2.2.2.2.2.2.1 d.2.2.2.2.2.2.2.2.2.2.2.2.2.2.2.2.2.2.2.2.2.2.2.2.2.2.2.2.2.2.2
@[irreducible] noncomputable def w := pick.1
@[irreducible] noncomputable def dp := pick.2.1
@[irreducible] noncomputable def un := pick.2.2.1
@[irreducible] noncomputable def gd := pick.2.2.2.1
@[irreducible] noncomputable def L := pick.2.2.2.2.1
@[irreducible] noncomputable def D := pick.2.2.2.2.2.1
noncomputable def pickr1 := pick.2.2.2.2.2.2
@[irreducible] noncomputable def fa := pickr1.1
@[irreducible] noncomputable def ccd := pickr1.2.1
@[irreducible] noncomputable def A₀ := pickr1.2.2.1
@[irreducible] noncomputable def base := pickr1.2.2.2.1
@[irreducible] noncomputable def h₀ := pickr1.2.2.2.2.1
@[irreducible] noncomputable def p := pickr1.2.2.2.2.2.1
noncomputable def pickr2 := pickr1.2.2.2.2.2.2
@[irreducible] noncomputable def loose := pickr2.1
@[irreducible] noncomputable def mean := pickr2.2.1
@[irreducible] noncomputable def mg := pickr2.2.2.1
@[irreducible] noncomputable def mb := pickr2.2.2.2.1
@[irreducible] noncomputable def m := pickr2.2.2.2.2.1
@[irreducible] noncomputable def s := pickr2.2.2.2.2.2.1
noncomputable def pickr3 := pickr2.2.2.2.2.2.2
@[irreducible] noncomputable def Q := pickr3.1
@[irreducible] noncomputable def E := pickr3.2.1
@[irreducible] noncomputable def V := pickr3.2.2.1
@[irreducible] noncomputable def bs := pickr3.2.2.2.1
@[irreducible] noncomputable def n := pickr3.2.2.2.2.1
@[irreducible] noncomputable def nm := pickr3.2.2.2.2.2.1
noncomputable def pickr4 := pickr3.2.2.2.2.2.2
@[irreducible] noncomputable def oA := pickr4.1
@[irreducible] noncomputable def mo := pickr4.2.1
@[irreducible] noncomputable def qa := pickr4.2.2.1
@[irreducible] noncomputable def ma := pickr4.2.2.2.1
@[irreducible] noncomputable def q := pickr4.2.2.2.2.1
@[irreducible] noncomputable def mits := pickr4.2.2.2.2.2.1
noncomputable def pickr5 := pickr4.2.2.2.2.2.2
@[irreducible] noncomputable def l := pickr5.1
@[irreducible] noncomputable def mk := pickr5.2
theorem go : Stm w dp un gd L D fa ccd A₀ base h₀ p loose mean mg mb m s Q E V bs n nm oA mo qa ma q mits l mk := by
  intro B KX TP hdp hun FR N hD hA hoA Kq hma hmc hmd hms e_marks e_due hll hlp hql hbs rep cl next
  refine kf ?_
  k_fill
  intro _
  refine wpAny_noRaise ?_
  (conv in (forBodyOf (headStmt (forBodyOf (headStmt (lawBody.drop 13))))) => whnf)
  (repeat' (first | walk_at "u" | ((fail_if_success with_reducible first | show G15 | show G9 | show G19 | show G20 | show G18 | show G0 | show G2 | show G21 | show G22 | show G23); walk1)))
  refine Assign_ListComp_led (cl := [(Str.ofString "asked", L + 5)]) (S := { kind := .function, names := [(Str.ofString ".0", .local), (Str.ofString "place", .local), (Str.ofString "its", .local), (Str.ofString "deep", .local), (Str.ofString "len", .globalImplicit), (Str.ofString "asked", .cell)], isGenerator := false, isCoroutine := false }) (by assumption) rfl ?s1 ?s2 ?s3 ?s4 ?s45 ?s5 ?s6 ?s7 ?s8 ?s9 ?s10 ?_
  case s1 => rfl
  case s2 => rfl
  case s3 => rfl
  case s4 => rfl
  case s45 => rfl
  case s5 => decide
  case s6 => rfl
  case s7 => decide
  case s8 => decide
  case s9 => intro x; rfl
  case s10 =>
    intro C g' hg' x
    simp only [List.mem_cons, List.not_mem_nil, or_false] at hg'
    rcases hg' with rfl <;> rfl
  (repeat' (first | walk_at "u" | ((fail_if_success with_reducible first | show G15 | show G9 | show G19 | show G20 | show G18 | show G0 | show G2 | show G21 | show G22 | show G23); walk1)))
  refine led_list (by assumption) (by assumption) (mct _ hma) hmc hmd fun I oI h7 hI7 F7 N7 hoI => ?_
  refine ⟨_, _, F7, N7, fun H C oL s3 K3 nsL hH hLH hHC F3 N3 => ?_⟩
  have hL1 : @LT.lt Nat _ L H := hLH
  have hDH : @LT.lt Nat _ D H := hH _ (mct _ List.mem_cons_self)
  have hIH : @LT.lt Nat _ I H := hH _ List.mem_cons_self
  have hVH : ∀ e ∈ V, @LT.lt Nat _ e.1 H := fun e he => hH _ (mct _ (mct _ he))
  have hVI : ∀ e ∈ V, @LT.lt Nat _ e.1 I := fun e he => hI7 _ (mct _ he)
  have hDI : @LT.lt Nat _ D I := hI7 _ List.mem_cons_self
  obtain ⟨m₂, hmm, hm₂⟩ : ∃ m₂ : Str → Option Value, m₂ = m ∧ LCg.NsObj oL m₂ := ⟨_, rfl, nsL⟩
  have zL := N3 (L, oL) (mct _ List.mem_cons_self)
  have hVL : ∀ e ∈ (D, boolsObj bs n) :: V, @Ne Nat e.1 L := fun e he => (N e he).2.1
  have hIL : @LT.lt Nat _ L I := Nat.lt_of_le_of_lt (Nat.le_add_right L 5) (hVI _ hA)
  obtain ⟨X, hX⟩ : ∃ X, X = (D, boolsObj bs n) :: V := ⟨_, rfl⟩
  have hVX : ∀ e ∈ V, e ∈ X := fun e he => by rw [hX]; exact mct _ he
  rw [← hX] at N3
  refine body_list (W := (L, oL) :: (H, W.listOf #[] 0) :: X) rfl (fun i m' W' => ∃ oL hs nh u1 u2 u3, LCg.NsObj oL m₂ ∧ W' = (L, oL) :: (H, W.listOf (List.toArray hs) nh) :: X ∧ IntsAre hs (hereL (l.take i) q) ∧ m' = fun y => if y = Str.ofString "deep" then u1 else if y = Str.ofString "its" then u2 else if y = Str.ofString "place" then u3 else none) F3 (news_drop N3 ?_) hoI ?_ hmc hmd ?_ ?_ ?_ ?_
  · intro e he
    refine sub_go he ?_
    walk_at "sub"
  · intro e he
    rw [hX] at he
    refine all_cons he ?_ fun he => all_cons he ?_ fun he => all_cons he ?_ fun he => ?_
    · exact Nat.ne_of_lt hIL
    · exact Nat.ne_of_gt hIH
    · exact Nat.ne_of_lt hDI
    · exact Nat.ne_of_lt (hVI e he)
  · rintro i m' W' ⟨oL, hs, nh, u1, u2, u3, _, rfl, _⟩
    exact mct _ (mct _ (hVX _ hma))
  · refine ⟨oL, [], 0, none, none, none, hm₂, rfl, .nil, ?_⟩
    funext y
    simp
  · rintro i v m' W' oI2 s4 hv ⟨oL2, hs, nh, u1, u2, u3, nsL2, rfl, hints, rfl⟩ hoff F4 N4 K4 QQk hQk
    obtain ⟨ka, ⟨kp, ki, kd⟩, rfl, hk, Kk⟩ := hms.get hv
    obtain ⟨ko, kb, kt, kn, hkm, hkc, hkd, hkb⟩ := Kk
    obtain ⟨ocl, odi, oda, osl⟩ := ko
    dsimp only at hkc hkd hkb
    subst hkc hkd
    have hkX := mct (I, oI2) (mct (L, oL2) (mct (H, W.listOf (List.toArray hs) nh) (hVX _ hkm)))
    (repeat' (first | walk_at "u" | ((fail_if_success with_reducible first | show G15 | show G9 | show G19 | show G20 | show G18 | show G0 | show G2 | show G21 | show G22 | show G23); walk1)))
    refine tests_one ?_
    (repeat' (first | walk_at "u" | ((fail_if_success with_reducible first | show G15 | show G9 | show G19 | show G20 | show G18 | show G0 | show G2 | show G21 | show G22 | show G23); walk1)))
    have upX : ∀ e ∈ V, e ∈ (I, oI2) :: (L, oL2) :: (H, W.listOf (List.toArray hs) nh) :: X := fun e he => mct _ (mct _ (mct _ (hVX e he)))
    have Kb := hkb.mono upX
    have Kq' := Kq.mono upX
    have hkl := hlp _ (List.mem_of_getElem? hk)
    dsimp only at hkl
    refine cname_C (o := oA) (by assumption) rfl (upX _ hA) hoA ?_ rfl rfl
    (repeat' (first | walk_at "u" | ((fail_if_success with_reducible first | show G15 | show G9 | show G19 | show G20 | show G18 | show G0 | show G2 | show G21 | show G22 | show G23); walk1)))
    have hXH : ∀ e ∈ X, @Ne Nat e.1 H := fun e he => by
      rw [hX] at he
      rcases List.mem_cons.mp he with rfl | he
      · exact Nat.ne_of_lt hDH
      · exact Nat.ne_of_lt (hVH e he)
    have hXI : ∀ e ∈ X, @Ne Nat e.1 I := fun e he => by
      rw [hX] at he
      rcases List.mem_cons.mp he with rfl | he
      · exact Nat.ne_of_lt hDI
      · exact Nat.ne_of_lt (hVI e he)
    by_cases hpq : kp = q
    · refine way_eq (by assumption) Kb Kq' (room0 hun) (r := true) (by simp [hpq]) ?_
      (repeat' (first | walk_at "u" | ((fail_if_success with_reducible first | show G15 | show G9 | show G19 | show G20 | show G18 | show G0 | show G2 | show G21 | show G22 | show G23); walk1)))
      refine emit_its (v := .int ki kt) (nh := nh) (hs := hs) (X := X) (by assumption) rfl (by assumption) (Nat.ne_of_lt hIH) (Nat.ne_of_lt hL1) hXH (by have := hints.length; have := hereL_len (l.take i) q; rw [List.length_take] at this; omega) rfl rfl (by decide) fun s5 K5 F5 N5 => ?_
      refine hQk _ ?_
      refine NextHere.intro F5 N5 (W' := (L, oL2) :: (H, W.listOf (List.toArray (hs ++ [.int ki kt])) (nh + 1)) :: X) (fun e he => he) (fun e he => ?_) ⟨oL2, _, nh + 1, some (.bool kd), some (.int ki kt), some (.ref kb), nsL2, rfl, ?_, ?_⟩ (Kin.trans K4 K5)
      · refine all_cons he ?_ fun he => all_cons he ?_ fun he => ?_
        · exact Nat.ne_of_lt hIL
        · exact Nat.ne_of_gt hIH
        · exact hXI e he
      · rw [here_take hk, show hereOf (kp, ki, kd) q = true by unfold hereOf; simp [hpq]]
        exact ints_snoc hints ki kt
      · funext y
        by_cases h1 : y = Str.ofString "deep"
        · subst h1; rfl
        · by_cases h2 : y = Str.ofString "its"
          · subst h2; rfl
          · by_cases h3 : y = Str.ofString "place"
            · subst h3; rfl
            · simp only [if_neg h1, if_neg h2, if_neg h3]
    · refine way_eq (by assumption) Kb Kq' (room0 hun) (r := false) (by simp [hpq]) ?_
      (repeat' (first | walk_at "u" | ((fail_if_success with_reducible first | show G15 | show G9 | show G19 | show G20 | show G18 | show G0 | show G2 | show G21 | show G22 | show G23); walk1)))
      · rename_i hkd
        replace hkd : kd = true := hkd
        refine cname_C (o := oA) (by assumption) rfl (upX _ hA) hoA ?_ rfl rfl
        (repeat' (first | walk_at "u" | ((fail_if_success with_reducible first | show G15 | show G9 | show G19 | show G20 | show G18 | show G0 | show G2 | show G21 | show G22 | show G23); walk1)))
        refine len_way (by assumption) Kb (by omega) ?_
        (repeat' (first | walk_at "u" | ((fail_if_success with_reducible first | show G15 | show G9 | show G19 | show G20 | show G18 | show G0 | show G2 | show G21 | show G22 | show G23); walk1)))
        refine slice_way (by assumption) (by assumption) Kq' (by lia) fun sl osl s7 K7 F7' N7' KW7 ne7 => ?_
        (repeat' (first | walk_at "u" | ((fail_if_success with_reducible first | show G15 | show G9 | show G19 | show G20 | show G18 | show G0 | show G2 | show G21 | show G22 | show G23); walk1)))
        have e1 : q.take (upto (kp.length : Int) q.length) = q.take kp.length := by
          have : upto (kp.length : Int) q.length = min kp.length q.length := by unfold upto; rw [if_neg (by lia), Int.toNat_natCast]
          rw [this]
          by_cases hle : kp.length ≤ q.length
          · rw [Nat.min_eq_left hle]
          · rw [Nat.min_eq_right (by omega), List.take_of_length_le (Nat.le_refl _), List.take_of_length_le (by omega)]
        rw [e1] at KW7
        by_cases hpt : kp = q.take kp.length
        · refine way_eq (by assumption) (Kb.mono fun e he => mct _ he) KW7 (room0 hun) (r := true) (by rw [decide_eq_true_eq]; exact hpt) ?_
          (repeat' (first | walk_at "u" | ((fail_if_success with_reducible first | show G15 | show G9 | show G19 | show G20 | show G18 | show G0 | show G2 | show G21 | show G22 | show G23); walk1)))
          refine emit_its (v := .int ki kt) (nh := nh) (hs := hs) (X := X) (by assumption) rfl (news_drop (by assumption) fun e he => mct _ he) (Nat.ne_of_lt hIH) (Nat.ne_of_lt hL1) hXH (by have := hints.length; have := hereL_len (l.take i) q; rw [List.length_take] at this; omega) rfl rfl (by decide) fun s5 K5 F5 N5 => ?_
          refine hQk _ ?_
          refine NextHere.intro F5 N5 (W' := (L, oL2) :: (H, W.listOf (List.toArray (hs ++ [.int ki kt])) (nh + 1)) :: X) (fun e he => he) (fun e he => ?_) ⟨oL2, _, nh + 1, some (.bool kd), some (.int ki kt), some (.ref kb), nsL2, rfl, ?_, ?_⟩ (Kin.trans K4 (Kin.trans K7 K5))
          · refine all_cons he ?_ fun he => all_cons he ?_ fun he => ?_
            · exact Nat.ne_of_lt hIL
            · exact Nat.ne_of_gt hIH
            · exact hXI e he
          · rw [here_take hk, show hereOf (kp, ki, kd) q = true by unfold hereOf; rw [hkd]; simp [← hpt]]
            exact ints_snoc hints ki kt
          · funext y
            by_cases h1 : y = Str.ofString "deep"
            · subst h1; rfl
            · by_cases h2 : y = Str.ofString "its"
              · subst h2; rfl
              · by_cases h3 : y = Str.ofString "place"
                · subst h3; rfl
                · simp only [if_neg h1, if_neg h2, if_neg h3]
        · refine way_eq (by assumption) (Kb.mono fun e he => mct _ he) KW7 (room0 hun) (r := false) (by rw [decide_eq_false_iff_not]; exact hpt) ?_
          (repeat' (first | walk_at "u" | ((fail_if_success with_reducible first | show G15 | show G9 | show G19 | show G20 | show G18 | show G0 | show G2 | show G21 | show G22 | show G23); walk1)))
          refine hQk _ ?_
          refine NextHere.intro (by assumption) (by assumption) (W' := (L, oL2) :: (H, W.listOf (List.toArray hs) nh) :: X) (fun e he => ?_) (fun e he => ?_) ⟨oL2, _, nh, some (.bool kd), some (.int ki kt), some (.ref kb), nsL2, rfl, ?_, ?_⟩ (Kin.trans K4 K7)
          · refine sub_go he ?_
            walk_at "sub"
          · refine all_cons he ?_ fun he => all_cons he ?_ fun he => ?_
            · exact Nat.ne_of_lt hIL
            · exact Nat.ne_of_gt hIH
            · exact hXI e he
          · rw [here_take hk, show hereOf (kp, ki, kd) q = false by unfold hereOf; simp [hpq, hpt]]
            rw [if_neg Bool.false_ne_true, List.append_nil]; exact hints
          · funext y
            by_cases h1 : y = Str.ofString "deep"
            · subst h1; rfl
            · by_cases h2 : y = Str.ofString "its"
              · subst h2; rfl
              · by_cases h3 : y = Str.ofString "place"
                · subst h3; rfl
                · simp only [if_neg h1, if_neg h2, if_neg h3]
      · rename_i hkd
        have hkd' : kd = false := by simpa using hkd
        refine hQk _ ?_
        refine NextHere.intro (by assumption) (by assumption) (W' := (L, oL2) :: (H, W.listOf (List.toArray hs) nh) :: X) (fun e he => ?_) (fun e he => ?_) ⟨oL2, _, nh, some (.bool kd), some (.int ki kt), some (.ref kb), nsL2, rfl, ?_, ?_⟩ (Kin.trans K4 ⟨rfl, rfl⟩)
        · exact he
        · refine all_cons he ?_ fun he => all_cons he ?_ fun he => ?_
          · exact Nat.ne_of_lt hIL
          · exact Nat.ne_of_gt hIH
          · exact hXI e he
        · rw [here_take hk, show hereOf (kp, ki, kd) q = false by unfold hereOf; rw [hkd']; simp [hpq]]
          rw [if_neg Bool.false_ne_true, List.append_nil]; exact hints
        · funext y
          by_cases h1 : y = Str.ofString "deep"
          · subst h1; rfl
          · by_cases h2 : y = Str.ofString "its"
            · subst h2; rfl
            · by_cases h3 : y = Str.ofString "place"
              · subst h3; rfl
              · simp only [if_neg h1, if_neg h2, if_neg h3]
  · rintro m' W' s4 ⟨oL4, hs, nh, u1, u2, u3, nsL4, rfl, hints, rfl⟩ F4 N4 K4
    rw [hms.1, List.take_length] at hints
    refine ⟨_, (H, W.listOf (List.toArray hs) nh) :: X, oL4, hmm ▸ nsL4, F4, N4, ?_, fun s5 K5 F5 N5 => ?_⟩
    · intro e he
      rcases List.mem_cons.mp he with rfl | h
      · exact Nat.ne_of_gt hL1
      · rw [hX] at h; exact hVL e h
    have hDX : (D, W.listOf (List.map Value.bool bs).toArray n) ∈ (H, W.listOf (List.toArray hs) nh) :: X := by rw [hX]; exact mct _ List.mem_cons_self
    have hin : ∀ f : Int, decide (f ∈ hereL l q) = isAt mk q f := fun f => by rw [Bool.eq_iff_iff, decide_eq_true_eq]; exact here_iff rep cl
    (repeat' (first | walk_at "u" | ((fail_if_success with_reducible first | show G15 | show G9 | show G19 | show G20 | show G18 | show G0 | show G2 | show G21 | show G22 | show G23); walk1)))
    refine int_in (by assumption) List.mem_cons_self rfl rfl hints (hin 0) ?_
    (repeat' (first | walk_at "u" | ((fail_if_success with_reducible first | show G15 | show G9 | show G19 | show G20 | show G18 | show G0 | show G2 | show G21 | show G22 | show G23); walk1)))
    refine int_in (by assumption) List.mem_cons_self rfl rfl hints (hin 1) ?_
    (repeat' (first | walk_at "u" | ((fail_if_success with_reducible first | show G15 | show G9 | show G19 | show G20 | show G18 | show G0 | show G2 | show G21 | show G22 | show G23); walk1)))
    rename_i T hT FT NT lT
    have hTD : @LT.lt Nat _ D T := allLt_mem lT.2 (D, boolsObj bs n) (by rw [hX]; exact List.mem_cons_self)
    refine list_ext (pre := [(T, W.listOf #[Value.bool (isAt mk q 0), Value.bool (isAt mk q 1)] 0), (H, W.listOf hs.toArray nh)]) (post := V) (D := D) (its := (bs.map Value.bool).toArray) (n := n) FT (news_drop NT fun e he => ?_) List.mem_cons_self (fun e he => ?_) hD ?_ fun h9 n9 F9 N9 => ?_
    · rw [hX]; exact he
    · refine all_cons he ?_ fun he => all_one he ?_
      · exact Nat.ne_of_gt hTD
      · exact Nat.ne_of_gt hDH
    · rw [List.size_toArray, List.length_map]; show bs.length + 2 ≤ 100000; lia
    have e9 : W.listOf ((bs.map Value.bool).toArray ++ #[Value.bool (isAt mk q 0), Value.bool (isAt mk q 1)]) n9 = boolsObj (bs ++ [isAt mk q 0, isAt mk q 1]) n9 := by
      unfold boolsObj; simp
    rw [e9] at N9
    (repeat' (first | walk_at "u" | ((fail_if_success with_reducible first | show G15 | show G9 | show G19 | show G20 | show G18 | show G0 | show G2 | show G21 | show G22 | show G23); walk1)))
    exact next _ n9 (some (.ref H)) (Kin.trans K3 (Kin.trans K4 K5)) F9 (news_drop N9 fun e he => mct _ (mct _ he))
theorem all (x : Dat) : Stm x.1 x.2.1 x.2.2.1 x.2.2.2.1 x.2.2.2.2.1 x.2.2.2.2.2.1 x.2.2.2.2.2.2.1 x.2.2.2.2.2.2.2.1 x.2.2.2.2.2.2.2.2.1 x.2.2.2.2.2.2.2.2.2.1 x.2.2.2.2.2.2.2.2.2.2.1 x.2.2.2.2.2.2.2.2.2.2.2.1 x.2.2.2.2.2.2.2.2.2.2.2.2.1 x.2.2.2.2.2.2.2.2.2.2.2.2.2.1 x.2.2.2.2.2.2.2.2.2.2.2.2.2.2.1 x.2.2.2.2.2.2.2.2.2.2.2.2.2.2.2.1 x.2.2.2.2.2.2.2.2.2.2.2.2.2.2.2.2.1 x.2.2.2.2.2.2.2.2.2.2.2.2.2.2.2.2.2.1 x.2.2.2.2.2.2.2.2.2.2.2.2.2.2.2.2.2.2.1 x.2.2.2.2.2.2.2.2.2.2.2.2.2.2.2.2.2.2.2.1 x.2.2.2.2.2.2.2.2.2.2.2.2.2.2.2.2.2.2.2.2.1 x.2.2.2.2.2.2.2.2.2.2.2.2.2.2.2.2.2.2.2.2.2.1 x.2.2.2.2.2.2.2.2.2.2.2.2.2.2.2.2.2.2.2.2.2.2.1 x.2.2.2.2.2.2.2.2.2.2.2.2.2.2.2.2.2.2.2.2.2.2.2.1 x.2.2.2.2.2.2.2.2.2.2.2.2.2.2.2.2.2.2.2.2.2.2.2.2.1 x.2.2.2.2.2.2.2.2.2.2.2.2.2.2.2.2.2.2.2.2.2.2.2.2.2.1 x.2.2.2.2.2.2.2.2.2.2.2.2.2.2.2.2.2.2.2.2.2.2.2.2.2.2.1 x.2.2.2.2.2.2.2.2.2.2.2.2.2.2.2.2.2.2.2.2.2.2.2.2.2.2.2.1 x.2.2.2.2.2.2.2.2.2.2.2.2.2.2.2.2.2.2.2.2.2.2.2.2.2.2.2.2.1 x.2.2.2.2.2.2.2.2.2.2.2.2.2.2.2.2.2.2.2.2.2.2.2.2.2.2.2.2.2.1 x.2.2.2.2.2.2.2.2.2.2.2.2.2.2.2.2.2.2.2.2.2.2.2.2.2.2.2.2.2.2.1 x.2.2.2.2.2.2.2.2.2.2.2.2.2.2.2.2.2.2.2.2.2.2.2.2.2.2.2.2.2.2.2 := eps_all ne (fun x => Stm x.1 x.2.1 x.2.2.1 x.2.2.2.1 x.2.2.2.2.1 x.2.2.2.2.2.1 x.2.2.2.2.2.2.1 x.2.2.2.2.2.2.2.1 x.2.2.2.2.2.2.2.2.1 x.2.2.2.2.2.2.2.2.2.1 x.2.2.2.2.2.2.2.2.2.2.1 x.2.2.2.2.2.2.2.2.2.2.2.1 x.2.2.2.2.2.2.2.2.2.2.2.2.1 x.2.2.2.2.2.2.2.2.2.2.2.2.2.1 x.2.2.2.2.2.2.2.2.2.2.2.2.2.2.1 x.2.2.2.2.2.2.2.2.2.2.2.2.2.2.2.1 x.2.2.2.2.2.2.2.2.2.2.2.2.2.2.2.2.1 x.2.2.2.2.2.2.2.2.2.2.2.2.2.2.2.2.2.1 x.2.2.2.2.2.2.2.2.2.2.2.2.2.2.2.2.2.2.1 x.2.2.2.2.2.2.2.2.2.2.2.2.2.2.2.2.2.2.2.1 x.2.2.2.2.2.2.2.2.2.2.2.2.2.2.2.2.2.2.2.2.1 x.2.2.2.2.2.2.2.2.2.2.2.2.2.2.2.2.2.2.2.2.2.1 x.2.2.2.2.2.2.2.2.2.2.2.2.2.2.2.2.2.2.2.2.2.2.1 x.2.2.2.2.2.2.2.2.2.2.2.2.2.2.2.2.2.2.2.2.2.2.2.1 x.2.2.2.2.2.2.2.2.2.2.2.2.2.2.2.2.2.2.2.2.2.2.2.2.1 x.2.2.2.2.2.2.2.2.2.2.2.2.2.2.2.2.2.2.2.2.2.2.2.2.2.1 x.2.2.2.2.2.2.2.2.2.2.2.2.2.2.2.2.2.2.2.2.2.2.2.2.2.2.1 x.2.2.2.2.2.2.2.2.2.2.2.2.2.2.2.2.2.2.2.2.2.2.2.2.2.2.2.1 x.2.2.2.2.2.2.2.2.2.2.2.2.2.2.2.2.2.2.2.2.2.2.2.2.2.2.2.2.1 x.2.2.2.2.2.2.2.2.2.2.2.2.2.2.2.2.2.2.2.2.2.2.2.2.2.2.2.2.2.1 x.2.2.2.2.2.2.2.2.2.2.2.2.2.2.2.2.2.2.2.2.2.2.2.2.2.2.2.2.2.2.1 x.2.2.2.2.2.2.2.2.2.2.2.2.2.2.2.2.2.2.2.2.2.2.2.2.2.2.2.2.2.2.2) (by with_unfolding_all exact go) x
end E_here_turn
theorem here_turn {w : World} {dp : Nat} {un : Nat} {gd : Option (List Code)} {L : Nat} {D : Nat} {fa : Addr} {ccd : Value} {A₀ : Around} {base : Heap} {h₀ : Heap} {p : PySem.Program} {loose : List Str} {mean : ExcName → Option Value} {mg : Str → Option Value} {mb : Str → Option Value} {m : Str → Option Value} {s : Shared} {Q : Flow → Shared → Prop} {E : Value → Shared → Prop} {V : Led} {bs : List Bool} {n : Nat} {nm : Nat} {oA : Obj} {mo : Obj} {qa : Addr} {ma : Addr} {q : List Str} {mits : List Value} {l : ML} {mk : Marks}  (B : Below A₀ base [] h₀) (KX : (hd.heap_39 w.params).In h₀) (TP : Top p loose mean mg mb h₀) (hdp : dp + 40 < recursionLimit) (hun : un + 400 < cLine) (FR : Fr h₀ L s.heap m) (N : News h₀ L s.heap ((D, boolsObj bs n) :: V)) (hD : ∀ p ∈ V, @Ne Nat p.1 D) (hA : (L + 5, oA) ∈ V) (hoA : oA.data = .cell (some (.ref qa))) (Kq : WayIn w V qa q) (hma : (ma, mo) ∈ V) (hmc : mo.cls = .type "list") (hmd : mo.data = .seq mits.toArray nm) (hms : MarksIn w V l mits) (e_marks : m (Str.ofString "marks") = some (.ref ma)) (e_due : m (Str.ofString "due") = some (.ref D)) (hll : l.length < 1000) (hlp : ∀ k ∈ l, k.1.length < 500) (hql : q.length < 500) (hbs : bs.length < 80000) (rep : RepM mk l) (cl : Clean mk) (next : ∀ s' n' u, Kin s s' → Fr h₀ L s'.heap (fun y => if y = Str.ofString "here" then u else m y) → News h₀ L s'.heap ((D, boolsObj (bs ++ [isAt mk q 0, isAt mk q 1]) n') :: V) → Q .next s') : wpAny (model PP w) (ktrTop dp un gd (Str.ofString "law") lawScope L fa ccd (lawCells L) []) (execs (forBodyOf (headStmt (forBodyOf (headStmt (lawBody.drop 13))))) (envX (Str.ofString "law") lawScope L fa ccd (lawCells L))) Q E s :=
  E_here_turn.all (w, dp, un, gd, L, D, fa, ccd, A₀, base, h₀, p, loose, mean, mg, mb, m, s, Q, E, V, bs, n, nm, oA, mo, qa, ma, q, mits, l, mk) B KX TP hdp hun FR N hD hA hoA Kq hma hmc hmd hms e_marks e_due hll hlp hql hbs rep cl next
end

section
open PySem PySem.W PyProof.Rows
local macro_rules | `(tactic| walk_at "exec For Tuple Subscript cons nil") => `(tactic| (k_here; refine For_led (by assumption) ?_))
structure Inv19 (w : World) (L D : Nat) (F V : Led) (x1 x2 : Addr) (Y : List (List Str)) (b1 k1 b2 k2 : Nat) (U1 U2 : Led) (mk1 mk2 : Marks) (P : Wait) : Prop where
  hneY : ∀ p ∈ V ++ (U1 ++ U2), @Ne Nat p.1 (L + 4)
  hneD : ∀ p ∈ V ++ (U1 ++ U2), @Ne Nat p.1 D
  M1 : Mach w F U1 x1 mk1 P b1 k1
  M2 : Mach w F U2 x2 mk2 P b2 k2
  apV : Apart V (U1 ++ U2)
  ap12 : Apart U1 U2
  same : Same Y mk1 mk2
  cl1 : Clean mk1
  cl2 : Clean mk2
  wc : WClean P
namespace E_tail19
noncomputable abbrev Dat : Type := (World) × (Nat) × (Nat) × (Option (List Code)) × (Nat) × (Addr) × (Value) × (Around) × (Heap) × (Heap) × (PySem.Program) × (List Str) × (ExcName → Option Value) × (Str → Option Value) × (Str → Option Value) × (Str → Option Value) × (Shared) × (Flow → Shared → Prop) × (Value → Shared → Prop) × (Led) × (Led) × (Led) × (Led) × (Addr) × (Addr) × (Addr) × (Addr) × (Obj) × (Obj) × (Obj) × (Obj) × (Option Value) × (List Value) × (List Value) × (Nat) × (Nat) × (List (List Str)) × (List (Int × List Str)) × (Int) × (Tok) × (Marks) × (Marks) × (Wait) × (Nat) × (Nat) × (Nat) × (Nat)
theorem ne : Nonempty Dat := ⟨({ draws := fun _ _ => 0, params := { strHash := fun _ => 0, shareClass := fun _ => 0, mergeTok := id, idOf := fun _ => 0, idOfShared := fun _ _ => 0, followText := fun _ => false, idOfImm := fun _ => 0 } }, default, default, default, default, default, default, {}, default, default, default, default, default, default, default, default, {}, default, default, default, default, default, default, default, default, default, default, default, default, default, default, default, default, default, default, default, default, default, default, default, default, default, default, default, default, default, default)⟩
noncomputable def Stm (w : World) (dp : Nat) (un : Nat) (gd : Option (List Code)) (L : Nat) (fa : Addr) (ccd : Value) (A₀ : Around) (base : Heap) (h₀ : Heap) (p : PySem.Program) (loose : List Str) (mean : ExcName → Option Value) (mg : Str → Option Value) (mb : Str → Option Value) (m : Str → Option Value) (s : Shared) (Q : Flow → Shared → Prop) (E : Value → Shared → Prop) (F : Led) (V : Led) (U1 : Led) (U2 : Led) (x1 : Addr) (x2 : Addr) (wl : Addr) (st : Addr) (oW : Obj) (oY : Obj) (wlo : Obj) (sto : Obj) (c0 : Option Value) (its : List Value) (stis : List Value) (nw : Nat) (ns : Nat) (Y : List (List Str)) (sts : List (Int × List Str)) (hf : Int) (th : Tok) (mk1 : Marks) (mk2 : Marks) (P : Wait) (b1 : Nat) (k1 : Nat) (b2 : Nat) (k2 : Nat) : Prop := ∀  (B : Below A₀ base [] h₀) (KX : (hd.heap_39 w.params).In h₀) (TP : Top p loose mean mg mb h₀) (hdp : dp + 40 < recursionLimit) (hun : un + 400 < cLine) (FR : Fr h₀ L s.heap m) (N : News h₀ L s.heap ((L + 4, oY) :: (V ++ (U1 ++ U2)))) (hoY : oY.data = .cell c0) (hne : ∀ p ∈ V ++ (U1 ++ U2), @Ne Nat p.1 (L + 4)) (M1 : Mach w F U1 x1 mk1 P b1 k1) (M2 : Mach w F U2 x2 mk2 P b2 k2) (apV : Apart V (U1 ++ U2)) (ap12 : Apart U1 U2) (hFV : ∀ e ∈ F, e ∈ V) (hcW : (L + 3, oW) ∈ V) (hoW : oW.data = .cell (some (.ref wl))) (hwl : (wl, wlo) ∈ V) (hwc : wlo.cls = .type "list") (hwd : wlo.data = .seq its.toArray nw) (hws : WaysIn w F Y its) (hst : (st, sto) ∈ V) (hsc : sto.cls = .type "list") (hsd : sto.data = .seq stis.toArray ns) (hsts : StepsIn w F sts stis) (e_steps : m (Str.ofString "steps") = some (.ref st)) (e_half : m (Str.ofString "half") = some (.int hf th)) (e_one : m (Str.ofString "one") = some (.ref x1)) (e_other : m (Str.ofString "other") = some (.ref x2)) (hf0 : 0 ≤ hf) (hYc : Closed Y) (hY : ∀ y ∈ Y, cc ∉ y ∧ y.length ≤ 25) (hYn : Y.length < 20000) (hstp : ∀ k ∈ sts, k.2 ∈ Y ∧ (k.1.fmod 5 ≠ 3 → k.2 ≠ [])) (same : Same Y mk1 mk2) (cl1 : Clean mk1) (cl2 : Clean mk2) (wc : WClean P) (hb1 : b1 + 25 * sts.length < 5000000) (hb2 : b2 + 25 * sts.length < 5000000) (hk1 : k1 + sts.length < 70) (hk2 : k2 + sts.length < 70) (ret : ∀ s' m', Kin s s' → Fr h₀ L s'.heap m' → Q (.ret (.bool true)) s'), wpAny (model PP w) (ktrTop dp un gd (Str.ofString "law") lawScope L fa ccd (lawCells L) []) (execs (lawBody.drop 19) (envX (Str.ofString "law") lawScope L fa ccd (lawCells L))) Q E s
@[irreducible] noncomputable def pick : Dat := @Classical.epsilon Dat ne fun d => ¬ Stm d.1 d.2.1 d.2.2.1 d.2.2.2.1 d.2.2.2.2.1 d.2.2.2.2.2.1 d.2.2.2.2.2.2.1 d.2.2.2.2.2.2.2.1 d.2.2.2.2.2.2.2.2.1 d.2.2.2.2.2.2.2.2.2.1 d.2.2.2.2.2.2.2.2.2.2.1 d.2.2.2.2.2.2.2.2.2.2.2.1 d.2.2.2.2.2.2.2.2.2.2.2.2.1 d.2.2.2.2.2.2.2.2.2.2.2.2.2.1 d.2.2.2.2.2.2.2.2.2.2.2.2.2.2.1 d.2.2.2.2.2.2.2.2.2.2.2.2.2.2.2.1 d.2.2.2.2.2.2.2.2.2.2.2.2.2.2.2.2.1 d.2.2.2.2.2.2.2.2.2.2.2.2.2.2.2.2.2.1 d.2.2.2.2.2.2.2.2.2.2.2.2.2.2.2.2.2.2.1 d.2.2.2.2.2.2.2.2.2.2.2.2.2.2.2.2.2.2.2.1 d.2.2.2.2.2.2.2.2.2.2.2.2.2.2.2.2.2.2.2.2.1 d.2.2.2.2.2.2.2.2.2.2.2.2.2.2.2.2.2.2.2.2.2.1 d.2.2.2.2.2.2.2.2.2.2.2.2.2.2.2.2.2.2.2.2.2.2.1 d.2.2.2.2.2.2.2.2.2.2.2.2.2.2.2.2.2.2.2.2.2.2.2.1 d.2.2.2.2.2.2.2.2.2.2.2.2.2.2.2.2.2.2.2.2.2.2.2.2.1 d.2.2.2.2.2.2.2.2.2.2.2.2.2.2.2.2.2.2.2.2.2.2.2.2.2.1 d.2.2.2.2.2.2.2.2.2.2.2.2.2.2.2.2.2.2.2.2.2.2.2.2.2.2.1 d.2.2.2.2.2.2.2.2.2.2.2.2.2.2.2.2.2.2.2.2.2.2.2.2.2.2.2.1 d.2.2.2.2.2.2.2.2.2.2.2.2.2.2.2.2.2.2.2.2.2.2.2.2.2.2.2.2.1 d.2.2.2.2.2.2.2.2.2.2.2.2.2.2.2.2.2.2.2.2.2.2.2.2.2.2.2.2.2.1 d.2.2.2.2.2.2.2.2.2.2.2.2.2.2.2.2.2.2.2.2.2.2.2.2.2.2.2.2.2.2.1 d.2.2.2.2.2.2.2.2.2.2.2.2.2.2.2.2.2.2.2.2.2.2.2.2.2.2.2.2.2.2.2.1 d.2.2.2.2.2.2.2.2.2.2.2.2.2.2.2.2.2.2.2.2.2.2.2.2.2.2.2.2.2.2.2.2.1 d.2.2.2.2.2.2.2.2.2.2.2.2.2.2.2.2.2.2.2.2.2.2.2.2.2.2.2.2.2.2.2.2.2.1 d.2.2.2.2.2.2.2.2.2.2.2.2.2.2.2.2.2.2.2.2.2.2.2.2.2.2.2.2.2.2.2.2.2.2.1 d.2.2.2.2.2.2.2.2.2.2.2.2.2.2.2.2.2.2.2.2.2.2.2.2.2.2.2.2.2.2.2.2.2.2.2.1 d.2.2.2.2.2.2.2.2.2.2.2.2.2.2.2.2.2.2.2.2.2.2.2.2.2.2.2.2.2.2.2.2.2.2.2.2.1 d.2.2.2.2.2.2.2.2.2.2.2.2.2.2.2.2.2.2.2.2.2.2.2.2.2.2.2.2.2.2.2.2.2.2.2.2.2.1 d.2.2.2.2.2.2.2.2.2.2.2.2.2.2.2.2.2.2.2.2.2.2.2.2.2.2.2.2.2.2.2.2.2.2.2.2.2.2.1 d.2.2.2.2.2.2.2.2.2.2.2.2.2.2.2.2.2.2.2.2.2.2.2.2.2.2.2.2.2.2.2.2.2.2.2.2.2.2.2.1 d.2.2.2.2.2.2.2.2.2.2.2.2.2.2.2.2.2.2.2.2.2.2.2.2.2.2.2.2.2.2.2.2.2.2.2.2.2.2.2.2.1 d.2.2.2.2.2.2.2.2.2.2.2.2.2.2.2.2.2.2.2.2.2.2.2.2.2.2.2.2.2.2.2.2.2.2.2.2.2.2.2.2.2.1 d.2.2.2.2.2.2.2.2.2.2.2.2.2.2.2.2.2.2.2.2.2.2.2.2.2.2.2.2.2.2.2.2.2.2.2.2.2.2.2.2.2.2.1 d.2.2.2.2.2.2.2.2.2.2.2.2.2.2.2.2.2.2.2.2.2.2.2.2.2.2.2.2.2.2.2.2.2.2.2.2.2.2.2.2.2.2.2.1 d.2.2.2.2.2.2.2.2.2.2.2.2.2.2.2.2.2.2.2.2.2.2.2.2.2.2.2.2.2.2.2.2.2.2.2.2.2.2.2.2.2.2.2.2.1 d.2.2.2.2.2.2.2.2.2.2.2.2.2.2.2.2.2.2.2.2.2.2.2.2.2.2.2.2.2.2.2.2.2.2.2.2.2.2.2.2.2.2.2.2.2.1 d.2.2.2.2.2.2.2.2.2.2.2.2.2.2.2.2.2.2.2.2.2.2.2.2.2.2.2.2.2.2.2.2.2.2.2.2.2.2.2.2.2.2.2.2.2.2
@[irreducible] noncomputable def w := pick.1
@[irreducible] noncomputable def dp := pick.2.1
@[irreducible] noncomputable def un := pick.2.2.1
@[irreducible] noncomputable def gd := pick.2.2.2.1
@[irreducible] noncomputable def L := pick.2.2.2.2.1
@[irreducible] noncomputable def fa := pick.2.2.2.2.2.1
noncomputable def pickr1 := pick.2.2.2.2.2.2
@[irreducible] noncomputable def ccd := pickr1.1
@[irreducible] noncomputable def A₀ := pickr1.2.1
@[irreducible] noncomputable def base := pickr1.2.2.1
@[irreducible] noncomputable def h₀ := pickr1.2.2.2.1
@[irreducible] noncomputable def p := pickr1.2.2.2.2.1
@[irreducible] noncomputable def loose := pickr1.2.2.2.2.2.1
noncomputable def pickr2 := pickr1.2.2.2.2.2.2
@[irreducible] noncomputable def mean := pickr2.1
@[irreducible] noncomputable def mg := pickr2.2.1
@[irreducible] noncomputable def mb := pickr2.2.2.1
@[irreducible] noncomputable def m := pickr2.2.2.2.1
@[irreducible] noncomputable def s := pickr2.2.2.2.2.1
@[irreducible] noncomputable def Q := pickr2.2.2.2.2.2.1
noncomputable def pickr3 := pickr2.2.2.2.2.2.2
@[irreducible] noncomputable def E := pickr3.1
@[irreducible] noncomputable def F := pickr3.2.1
@[irreducible] noncomputable def V := pickr3.2.2.1
@[irreducible] noncomputable def U1 := pickr3.2.2.2.1
@[irreducible] noncomputable def U2 := pickr3.2.2.2.2.1
@[irreducible] noncomputable def x1 := pickr3.2.2.2.2.2.1
noncomputable def pickr4 := pickr3.2.2.2.2.2.2
@[irreducible] noncomputable def x2 := pickr4.1
@[irreducible] noncomputable def wl := pickr4.2.1
@[irreducible] noncomputable def st := pickr4.2.2.1
@[irreducible] noncomputable def oW := pickr4.2.2.2.1
@[irreducible] noncomputable def oY := pickr4.2.2.2.2.1
@[irreducible] noncomputable def wlo := pickr4.2.2.2.2.2.1
noncomputable def pickr5 := pickr4.2.2.2.2.2.2
@[irreducible] noncomputable def sto := pickr5.1
@[irreducible] noncomputable def c0 := pickr5.2.1
@[irreducible] noncomputable def its := pickr5.2.2.1
@[irreducible] noncomputable def stis := pickr5.2.2.2.1
@[irreducible] noncomputable def nw := pickr5.2.2.2.2.1
@[irreducible] noncomputable def ns := pickr5.2.2.2.2.2.1
noncomputable def pickr6 := pickr5.2.2.2.2.2.2
@[irreducible] noncomputable def Y := pickr6.1
@[irreducible] noncomputable def sts := pickr6.2.1
@[irreducible] noncomputable def hf := pickr6.2.2.1
@[irreducible] noncomputable def th := pickr6.2.2.2.1
@[irreducible] noncomputable def mk1 := pickr6.2.2.2.2.1
@[irreducible] noncomputable def mk2 := pickr6.2.2.2.2.2.1
noncomputable def pickr7 := pickr6.2.2.2.2.2.2
@[irreducible] noncomputable def P := pickr7.1
@[irreducible] noncomputable def b1 := pickr7.2.1
@[irreducible] noncomputable def k1 := pickr7.2.2.1
@[irreducible] noncomputable def b2 := pickr7.2.2.2.1
@[irreducible] noncomputable def k2 := pickr7.2.2.2.2
theorem go : Stm w dp un gd L fa ccd A₀ base h₀ p loose mean mg mb m s Q E F V U1 U2 x1 x2 wl st oW oY wlo sto c0 its stis nw ns Y sts hf th mk1 mk2 P b1 k1 b2 k2 := by
  intro B KX TP hdp hun FR N hoY hne M1 M2 apV ap12 hFV hcW hoW hwl hwc hwd hws hst hsc hsd hsts e_steps e_half e_one e_other hf0 hYc hY hYn hstp same cl1 cl2 wc hb1 hb2 hk1 hk2 ret
  refine kf ?_
  k_fill
  intro _
  refine wpAny_noRaise ?_
  (conv in (lawBody.drop 19) => whnf)
  (repeat' (first | walk_at "u" | ((fail_if_success with_reducible first | show G9 | show G24 | show G25 | show G0 | show G2 | show G26 | show G27); walk1)))
  have hstN : (st, sto) ∈ (L + 4, oY) :: (V ++ (U1 ++ U2)) := mct _ (List.mem_append_left _ hst)
  have hz0 : sts.length < 70 := by lia
  refine list_from (by assumption) (by assumption) hstN hsc hsd hf0 (by rw [hsts.1]; lia) fun D s2 K2 hD F2 N2 => ?_
  have hst2 := hsts.drop hf.toNat
  have hDL : @LT.lt Nat _ (L + 4) D := hD (L + 4, oY) List.mem_cons_self
  have hlen2 : (stis.drop hf.toNat).length ≤ sts.length := by rw [List.length_drop, hsts.1]; lia
  refine iter_list (by rfl) F2 N2 List.mem_cons_self rfl rfl (fun i m' W' => i ≤ sts.length ∧ ∃ oY c U1 U2 mk1 mk2 P u, W' = (D, W.listOf (stis.drop hf.toNat).toArray 0) :: (L + 4, oY) :: (V ++ (U1 ++ U2)) ∧ oY.data = .cell c ∧ m' = (fun y => if y = Str.ofString "x" then u else m y) ∧
      Inv19 w L D F V x1 x2 Y (b1 + 25 * i) (k1 + i) (b2 + 25 * i) (k2 + i) U1 U2 mk1 mk2 P)
    ⟨Nat.zero_le _, oY, c0, U1, U2, mk1, mk2, P, m (Str.ofString "x"), rfl, hoY, ?_, ⟨hne, fun p hp => Nat.ne_of_lt (hD p (mct _ hp)), M1, M2, apV, ap12, same, cl1, cl2, wc⟩⟩ ?_ ?_ ?_
  · funext y
    by_cases h1 : y = Str.ofString "x"
    · subst h1; exact (if_pos rfl).symm
    · exact (if_neg h1).symm
  · rintro i m' W' ⟨_, oY, c, U1, U2, mk1, mk2, P, u, rfl, _⟩
    exact List.mem_cons_self
  · rintro i v m' W' oI s3 hv ⟨hi, oY, c, U1, U2, mk1, mk2, P, u, rfl, hoY, rfl, ⟨hneY, hneD, M1, M2, apV, ap12, same, cl1, cl2, wc⟩⟩ hoff F3 N3 K3 hlow
    obtain ⟨sa, ⟨n, q⟩, rfl, hq, hsa⟩ := hst2.get hv
    have hks : (n, q) ∈ sts := List.mem_of_mem_drop (List.mem_of_getElem? hq)
    obtain ⟨hqY, hq0⟩ := hstp _ hks
    obtain ⟨hqc, hql⟩ := hY q hqY
    have hlt : i < sts.length := by
      have := (List.getElem?_eq_some_iff.mp hv).1
      lia
    obtain ⟨so, qb, tn, nn, hsm, hsc2, hsd2, hqb⟩ := hsa
    obtain ⟨ocl, odi, oda, osl⟩ := so
    dsimp only at hsc2 hsd2
    subst hsc2 hsd2
    have hsm' := mct (s2.heap.objs.size, oI) (mct (D, W.listOf (stis.drop hf.toNat).toArray 0) (mct (L + 4, oY) (List.mem_append_left (U1 ++ U2) (hFV _ hsm))))
    intro Qo hQo
    show wpAny _ _ _ _ _ _
    (repeat' (first | walk_at "u" | ((fail_if_success with_reducible first | show G9 | show G24 | show G25 | show G0 | show G2 | show G26 | show G27); walk1)))
    have hIL : @LT.lt Nat _ (L + 4) s2.heap.objs.size := hlow (L + 4, _) (mct _ List.mem_cons_self)
    have hID : @LT.lt Nat _ D s2.heap.objs.size := hlow (D, _) List.mem_cons_self
    have hoffV : ∀ e ∈ V ++ (U1 ++ U2), @Ne Nat e.1 s2.heap.objs.size := fun e he => hoff e (mct _ (mct _ he))
    refine cell_store (c := L + 4) (o := oY) (W := (s2.heap.objs.size, oI) :: (D, W.listOf (stis.drop hf.toNat).toArray 0) :: (V ++ (U1 ++ U2))) (by assumption) (news_drop (by assumption) fun e he => ?_) rfl ?_ hoY (fun o4 s4 K4 ho4 F4 N4 => ?_) rfl rfl
    · refine sub_go he ?_
      walk_at "sub"
    · intro e he
      refine all_cons he ?_ fun he => all_cons he ?_ fun he => ?_
      · exact Nat.ne_of_gt hIL
      · exact Nat.ne_of_gt hDL
      · exact hneY e he
    (repeat' (first | walk_at "u" | ((fail_if_success with_reducible first | show G9 | show G24 | show G25 | show G0 | show G2 | show G26 | show G27); walk1)))
    refine nameX_C (by assumption) rfl List.mem_cons_self ho4 ?_ rfl rfl
    (repeat' (first | walk_at "u" | ((fail_if_success with_reducible first | show G9 | show G24 | show G25 | show G0 | show G2 | show G26 | show G27); walk1)))
    have hP25 : ∀ k, P k → k.1.length ≤ 25 ∧ (k.2 = 0 ∨ k.2 = 1) := fun k hk => ⟨(wc k hk).2.2.2, (wc k hk).2.2.1⟩
    obtain ⟨apV1, apV2⟩ := apV.split
    have ap1 : Apart ((L + 4, o4) :: (s2.heap.objs.size, oI) :: (D, W.listOf (stis.drop hf.toNat).toArray 0) :: (V ++ U2)) U1 := by
      intro e he r hr
      have hr2 : r ∈ V ++ (U1 ++ U2) := List.mem_append_right _ (List.mem_append_left _ hr)
      refine all_cons he ?_ fun he => all_cons he ?_ fun he => all_cons he ?_ fun he => all_app he (fun he => ?_) fun he => ?_
      · exact Ne.symm (hneY r hr2)
      · exact Ne.symm (hoffV r hr2)
      · exact Ne.symm (hneD r hr2)
      · exact apV1 e he r hr
      · exact Ne.symm (ap12 r hr e he)
    refine (step_meets (V := (L + 4, o4) :: (s2.heap.objs.size, oI) :: (D, W.listOf (stis.drop hf.toNat).toArray 0) :: (V ++ U2)) (U := U1) M1 (fun e he => ?_) hqb hql hq0 ap1 (by omega) hP25 (by omega)).call B (by assumption) KX (news_drop (by assumption) fun e he => ?_) TP rfl (room hdp) (room hun) ?_
    · exact mct _ (mct _ (mct _ (List.mem_append_left _ (hFV e he))))
    · refine sub_go he ?_
      walk_at "sub"
    rintro r5 s5 W5 K5 F5 N5 ⟨rfl, U1', mk1', P1', rfl, apU1, M1', st1⟩
    simp only [List.cons_append] at N5
    (repeat' (first | walk_at "u" | ((fail_if_success with_reducible first | show G9 | show G24 | show G25 | show G0 | show G2 | show G26 | show G27); walk1)))
    refine nameX_C (by assumption) rfl List.mem_cons_self ho4 ?_ rfl rfl
    (repeat' (first | walk_at "u" | ((fail_if_success with_reducible first | show G9 | show G24 | show G25 | show G0 | show G2 | show G26 | show G27); walk1)))
    have ap2 : Apart ((L + 4, o4) :: (s2.heap.objs.size, oI) :: (D, W.listOf (stis.drop hf.toNat).toArray 0) :: (V ++ U1')) U2 := by
      intro e he r hr
      have hr2 : r ∈ V ++ (U1 ++ U2) := List.mem_append_right _ (List.mem_append_right _ hr)
      refine all_cons he ?_ fun he => all_cons he ?_ fun he => all_cons he ?_ fun he => all_app he (fun he => ?_) fun he => ?_
      · exact Ne.symm (hneY r hr2)
      · exact Ne.symm (hoffV r hr2)
      · exact Ne.symm (hneD r hr2)
      · exact apV2 e he r hr
      · exact Ne.symm (apU1 r (mct _ (mct _ (mct _ (List.mem_append_right _ hr)))) e he)
    refine (step_meets (V := (L + 4, o4) :: (s2.heap.objs.size, oI) :: (D, W.listOf (stis.drop hf.toNat).toArray 0) :: (V ++ U1')) (U := U2) M2 (fun e he => ?_) hqb hql hq0 ap2 (by omega) hP25 (by omega)).call B (by assumption) KX (news_drop (by assumption) fun e he => ?_) TP rfl (room hdp) (room hun) ?_
    · exact mct _ (mct _ (mct _ (List.mem_append_left _ (hFV e he))))
    · refine sub_go he ?_
      walk_at "sub"
    rintro r6 s6 W6 K6 F6 N6 ⟨rfl, U2', mk2', P2', rfl, apU2, M2', st2⟩
    simp only [List.cons_append] at N6
    obtain ⟨same', rfl⟩ := Step.same same st1 st2 fun h4 => ⟨hq0 (by omega), hYc q hqY _ (List.dropLast_prefix q)⟩
    obtain ⟨cl1', wc'⟩ := Step.clean cl1 wc hqc hq0 hql st1
    obtain ⟨cl2', _⟩ := Step.clean cl2 wc hqc hq0 hql st2
    have hansw := same'.answers cl1' cl2'
    have hwsV : WaysIn w V Y its := hws.mono hFV
    (repeat' (first | walk_at "u" | ((fail_if_success with_reducible first | show G9 | show G24 | show G25 | show G0 | show G2 | show G26 | show G27); walk1)))
    refine nameX_C (by assumption) rfl (mct _ (mct _ (mct _ (List.mem_append_left _ (List.mem_append_left _ hcW))))) hoW ?_ rfl rfl
    (repeat' (first | walk_at "u" | ((fail_if_success with_reducible first | show G9 | show G24 | show G25 | show G0 | show G2 | show G26 | show G27); walk1)))
    refine (answers_meets (V := (L + 4, o4) :: (s2.heap.objs.size, oI) :: (D, W.listOf (stis.drop hf.toNat).toArray 0) :: (V ++ U2')) (U := U1') (qs := Y) M1' (mct _ (mct _ (mct _ (List.mem_append_left _ hwl)))) hwc hwd (hwsV.mono fun e he => ?_) (fun y hy => ?_) hYn).call B (by assumption) KX (news_drop (by assumption) fun e he => ?_) TP rfl (room hdp) (room hun) ?_
    · exact mct _ (mct _ (mct _ (List.mem_append_left _ he)))
    · exact le_small (hY y hy).2
    · refine sub_go he ?_
      walk_at "sub"
    rintro r7 s7 W7 K7 F7 N7 ⟨a7, n7, rfl, rfl, ha7⟩
    simp only [List.cons_append] at N7
    (repeat' (first | walk_at "u" | ((fail_if_success with_reducible first | show G9 | show G24 | show G25 | show G0 | show G2 | show G26 | show G27); walk1)))
    refine nameX_C (by assumption) rfl (mct _ (mct _ (mct _ (mct _ (List.mem_append_left _ (List.mem_append_left _ hcW)))))) hoW ?_ rfl rfl
    (repeat' (first | walk_at "u" | ((fail_if_success with_reducible first | show G9 | show G24 | show G25 | show G0 | show G2 | show G26 | show G27); walk1)))
    refine (answers_meets (V := (a7, boolsObj (answers mk1' Y) n7) :: (L + 4, o4) :: (s2.heap.objs.size, oI) :: (D, W.listOf (stis.drop hf.toNat).toArray 0) :: (V ++ U1')) (U := U2') (qs := Y) M2' (mct _ (mct _ (mct _ (mct _ (List.mem_append_left _ hwl))))) hwc hwd (hwsV.mono fun e he => ?_) (fun y hy => ?_) hYn).call B (by assumption) KX (news_drop (by assumption) fun e he => ?_) TP rfl (room hdp) (room hun) ?_
    · exact mct _ (mct _ (mct _ (mct _ (List.mem_append_left _ he))))
    · exact le_small (hY y hy).2
    · refine sub_go he ?_
      walk_at "sub"
    rintro r8 s8 W8 K8 F8 N8 ⟨a8, n8, rfl, rfl, ha8⟩
    simp only [List.cons_append] at N8
    (repeat' (first | walk_at "u" | ((fail_if_success with_reducible first | show G9 | show G24 | show G25 | show G0 | show G2 | show G26 | show G27); walk1)))
    refine ne_bools (by assumption) (mct _ List.mem_cons_self) List.mem_cons_self hansw (room0 hun) ?_
    (repeat' (first | walk_at "u" | ((fail_if_success with_reducible first | show G9 | show G24 | show G25 | show G0 | show G2 | show G26 | show G27); walk1)))
    have m0 : ∀ {e : Addr × Obj}, e ∈ V → ∀ (A B C : Addr × Obj) (X : Led), e ∈ A :: B :: C :: (V ++ X) := fun h _ _ _ _ => mct _ (mct _ (mct _ (List.mem_append_left _ h)))
    refine hQo .next _ ?_
    show NextHere _ _ _ _ _ _ _
    refine NextHere.intro F8 N8 (W' := (D, W.listOf (stis.drop hf.toNat).toArray 0) :: (L + 4, o4) :: (V ++ (U1' ++ U2'))) (fun e he => ?_) ?_ ⟨hlt, o4, _, U1', U2', mk1', mk2', P1', some (.int n tn), rfl, ho4, ?_, ⟨?_, ?_, M1'.grow (by omega) (by omega), M2'.grow (by omega) (by omega), ?_, ?_, same', cl1', cl2', wc'⟩⟩ (K3.trans (K4.trans (K5.trans (K6.trans (K7.trans K8)))))
    · refine sub_go he ?_
      walk_at "sub"
    · intro e he
      refine all_cons he ?_ fun he => all_cons he ?_ fun he => all_app he (fun he => ?_) fun he => all_app he (fun he => ?_) fun he => ?_
      · exact Nat.ne_of_lt hID
      · exact Nat.ne_of_lt hIL
      · exact hoffV e (List.mem_append_left _ he)
      · exact Ne.symm (apU1 _ (mct _ List.mem_cons_self) e he)
      · exact Ne.symm (apU2 _ (mct _ List.mem_cons_self) e he)
    · funext y
      by_cases h1 : y = Str.ofString "x"
      · subst h1; rfl
      · simp only [if_neg h1]
    · intro e he
      refine all_app he (fun he => ?_) fun he => all_app he (fun he => ?_) fun he => ?_
      · exact hneY e (List.mem_append_left _ he)
      · exact Ne.symm (apU1 _ List.mem_cons_self e he)
      · exact Ne.symm (apU2 _ List.mem_cons_self e he)
    · intro e he
      refine all_app he (fun he => ?_) fun he => all_app he (fun he => ?_) fun he => ?_
      · exact hneD e (List.mem_append_left _ he)
      · exact Ne.symm (apU1 _ (mct _ (mct _ List.mem_cons_self)) e he)
      · exact Ne.symm (apU2 _ (mct _ (mct _ List.mem_cons_self)) e he)
    · exact Apart.join (fun e he r hr => apU1 e (m0 he _ _ _ _) r hr) (fun e he r hr => apU2 e (m0 he _ _ _ _) r hr)
    · exact fun e he r hr => apU2 e (mct _ (mct _ (mct _ (List.mem_append_right _ he)))) r hr
  · rintro m' W' s3 ⟨_, oY, c, U1, U2, mk1, mk2, P, u, rfl, _, rfl, _⟩ F3 N3 K3
    (repeat' (first | walk_at "u" | ((fail_if_success with_reducible first | show G9 | show G24 | show G25 | show G0 | show G2 | show G26 | show G27); walk1)))
    exact ret _ _ (K2.trans K3) (by assumption)
theorem all (x : Dat) : Stm x.1 x.2.1 x.2.2.1 x.2.2.2.1 x.2.2.2.2.1 x.2.2.2.2.2.1 x.2.2.2.2.2.2.1 x.2.2.2.2.2.2.2.1 x.2.2.2.2.2.2.2.2.1 x.2.2.2.2.2.2.2.2.2.1 x.2.2.2.2.2.2.2.2.2.2.1 x.2.2.2.2.2.2.2.2.2.2.2.1 x.2.2.2.2.2.2.2.2.2.2.2.2.1 x.2.2.2.2.2.2.2.2.2.2.2.2.2.1 x.2.2.2.2.2.2.2.2.2.2.2.2.2.2.1 x.2.2.2.2.2.2.2.2.2.2.2.2.2.2.2.1 x.2.2.2.2.2.2.2.2.2.2.2.2.2.2.2.2.1 x.2.2.2.2.2.2.2.2.2.2.2.2.2.2.2.2.2.1 x.2.2.2.2.2.2.2.2.2.2.2.2.2.2.2.2.2.2.1 x.2.2.2.2.2.2.2.2.2.2.2.2.2.2.2.2.2.2.2.1 x.2.2.2.2.2.2.2.2.2.2.2.2.2.2.2.2.2.2.2.2.1 x.2.2.2.2.2.2.2.2.2.2.2.2.2.2.2.2.2.2.2.2.2.1 x.2.2.2.2.2.2.2.2.2.2.2.2.2.2.2.2.2.2.2.2.2.2.1 x.2.2.2.2.2.2.2.2.2.2.2.2.2.2.2.2.2.2.2.2.2.2.2.1 x.2.2.2.2.2.2.2.2.2.2.2.2.2.2.2.2.2.2.2.2.2.2.2.2.1 x.2.2.2.2.2.2.2.2.2.2.2.2.2.2.2.2.2.2.2.2.2.2.2.2.2.1 x.2.2.2.2.2.2.2.2.2.2.2.2.2.2.2.2.2.2.2.2.2.2.2.2.2.2.1 x.2.2.2.2.2.2.2.2.2.2.2.2.2.2.2.2.2.2.2.2.2.2.2.2.2.2.2.1 x.2.2.2.2.2.2.2.2.2.2.2.2.2.2.2.2.2.2.2.2.2.2.2.2.2.2.2.2.1 x.2.2.2.2.2.2.2.2.2.2.2.2.2.2.2.2.2.2.2.2.2.2.2.2.2.2.2.2.2.1 x.2.2.2.2.2.2.2.2.2.2.2.2.2.2.2.2.2.2.2.2.2.2.2.2.2.2.2.2.2.2.1 x.2.2.2.2.2.2.2.2.2.2.2.2.2.2.2.2.2.2.2.2.2.2.2.2.2.2.2.2.2.2.2.1 x.2.2.2.2.2.2.2.2.2.2.2.2.2.2.2.2.2.2.2.2.2.2.2.2.2.2.2.2.2.2.2.2.1 x.2.2.2.2.2.2.2.2.2.2.2.2.2.2.2.2.2.2.2.2.2.2.2.2.2.2.2.2.2.2.2.2.2.1 x.2.2.2.2.2.2.2.2.2.2.2.2.2.2.2.2.2.2.2.2.2.2.2.2.2.2.2.2.2.2.2.2.2.2.1 x.2.2.2.2.2.2.2.2.2.2.2.2.2.2.2.2.2.2.2.2.2.2.2.2.2.2.2.2.2.2.2.2.2.2.2.1 x.2.2.2.2.2.2.2.2.2.2.2.2.2.2.2.2.2.2.2.2.2.2.2.2.2.2.2.2.2.2.2.2.2.2.2.2.1 x.2.2.2.2.2.2.2.2.2.2.2.2.2.2.2.2.2.2.2.2.2.2.2.2.2.2.2.2.2.2.2.2.2.2.2.2.2.1 x.2.2.2.2.2.2.2.2.2.2.2.2.2.2.2.2.2.2.2.2.2.2.2.2.2.2.2.2.2.2.2.2.2.2.2.2.2.2.1 x.2.2.2.2.2.2.2.2.2.2.2.2.2.2.2.2.2.2.2.2.2.2.2.2.2.2.2.2.2.2.2.2.2.2.2.2.2.2.2.1 x.2.2.2.2.2.2.2.2.2.2.2.2.2.2.2.2.2.2.2.2.2.2.2.2.2.2.2.2.2.2.2.2.2.2.2.2.2.2.2.2.1 x.2.2.2.2.2.2.2.2.2.2.2.2.2.2.2.2.2.2.2.2.2.2.2.2.2.2.2.2.2.2.2.2.2.2.2.2.2.2.2.2.2.1 x.2.2.2.2.2.2.2.2.2.2.2.2.2.2.2.2.2.2.2.2.2.2.2.2.2.2.2.2.2.2.2.2.2.2.2.2.2.2.2.2.2.2.1 x.2.2.2.2.2.2.2.2.2.2.2.2.2.2.2.2.2.2.2.2.2.2.2.2.2.2.2.2.2.2.2.2.2.2.2.2.2.2.2.2.2.2.2.1 x.2.2.2.2.2.2.2.2.2.2.2.2.2.2.2.2.2.2.2.2.2.2.2.2.2.2.2.2.2.2.2.2.2.2.2.2.2.2.2.2.2.2.2.2.1 x.2.2.2.2.2.2.2.2.2.2.2.2.2.2.2.2.2.2.2.2.2.2.2.2.2.2.2.2.2.2.2.2.2.2.2.2.2.2.2.2.2.2.2.2.2.1 x.2.2.2.2.2.2.2.2.2.2.2.2.2.2.2.2.2.2.2.2.2.2.2.2.2.2.2.2.2.2.2.2.2.2.2.2.2.2.2.2.2.2.2.2.2.2 := eps_all ne (fun x => Stm x.1 x.2.1 x.2.2.1 x.2.2.2.1 x.2.2.2.2.1 x.2.2.2.2.2.1 x.2.2.2.2.2.2.1 x.2.2.2.2.2.2.2.1 x.2.2.2.2.2.2.2.2.1 x.2.2.2.2.2.2.2.2.2.1 x.2.2.2.2.2.2.2.2.2.2.1 x.2.2.2.2.2.2.2.2.2.2.2.1 x.2.2.2.2.2.2.2.2.2.2.2.2.1 x.2.2.2.2.2.2.2.2.2.2.2.2.2.1 x.2.2.2.2.2.2.2.2.2.2.2.2.2.2.1 x.2.2.2.2.2.2.2.2.2.2.2.2.2.2.2.1 x.2.2.2.2.2.2.2.2.2.2.2.2.2.2.2.2.1 x.2.2.2.2.2.2.2.2.2.2.2.2.2.2.2.2.2.1 x.2.2.2.2.2.2.2.2.2.2.2.2.2.2.2.2.2.2.1 x.2.2.2.2.2.2.2.2.2.2.2.2.2.2.2.2.2.2.2.1 x.2.2.2.2.2.2.2.2.2.2.2.2.2.2.2.2.2.2.2.2.1 x.2.2.2.2.2.2.2.2.2.2.2.2.2.2.2.2.2.2.2.2.2.1 x.2.2.2.2.2.2.2.2.2.2.2.2.2.2.2.2.2.2.2.2.2.2.1 x.2.2.2.2.2.2.2.2.2.2.2.2.2.2.2.2.2.2.2.2.2.2.2.1 x.2.2.2.2.2.2.2.2.2.2.2.2.2.2.2.2.2.2.2.2.2.2.2.2.1 x.2.2.2.2.2.2.2.2.2.2.2.2.2.2.2.2.2.2.2.2.2.2.2.2.2.1 x.2.2.2.2.2.2.2.2.2.2.2.2.2.2.2.2.2.2.2.2.2.2.2.2.2.2.1 x.2.2.2.2.2.2.2.2.2.2.2.2.2.2.2.2.2.2.2.2.2.2.2.2.2.2.2.1 x.2.2.2.2.2.2.2.2.2.2.2.2.2.2.2.2.2.2.2.2.2.2.2.2.2.2.2.2.1 x.2.2.2.2.2.2.2.2.2.2.2.2.2.2.2.2.2.2.2.2.2.2.2.2.2.2.2.2.2.1 x.2.2.2.2.2.2.2.2.2.2.2.2.2.2.2.2.2.2.2.2.2.2.2.2.2.2.2.2.2.2.1 x.2.2.2.2.2.2.2.2.2.2.2.2.2.2.2.2.2.2.2.2.2.2.2.2.2.2.2.2.2.2.2.1 x.2.2.2.2.2.2.2.2.2.2.2.2.2.2.2.2.2.2.2.2.2.2.2.2.2.2.2.2.2.2.2.2.1 x.2.2.2.2.2.2.2.2.2.2.2.2.2.2.2.2.2.2.2.2.2.2.2.2.2.2.2.2.2.2.2.2.2.1 x.2.2.2.2.2.2.2.2.2.2.2.2.2.2.2.2.2.2.2.2.2.2.2.2.2.2.2.2.2.2.2.2.2.2.1 x.2.2.2.2.2.2.2.2.2.2.2.2.2.2.2.2.2.2.2.2.2.2.2.2.2.2.2.2.2.2.2.2.2.2.2.1 x.2.2.2.2.2.2.2.2.2.2.2.2.2.2.2.2.2.2.2.2.2.2.2.2.2.2.2.2.2.2.2.2.2.2.2.2.1 x.2.2.2.2.2.2.2.2.2.2.2.2.2.2.2.2.2.2.2.2.2.2.2.2.2.2.2.2.2.2.2.2.2.2.2.2.2.1 x.2.2.2.2.2.2.2.2.2.2.2.2.2.2.2.2.2.2.2.2.2.2.2.2.2.2.2.2.2.2.2.2.2.2.2.2.2.2.1 x.2.2.2.2.2.2.2.2.2.2.2.2.2.2.2.2.2.2.2.2.2.2.2.2.2.2.2.2.2.2.2.2.2.2.2.2.2.2.2.1 x.2.2.2.2.2.2.2.2.2.2.2.2.2.2.2.2.2.2.2.2.2.2.2.2.2.2.2.2.2.2.2.2.2.2.2.2.2.2.2.2.1 x.2.2.2.2.2.2.2.2.2.2.2.2.2.2.2.2.2.2.2.2.2.2.2.2.2.2.2.2.2.2.2.2.2.2.2.2.2.2.2.2.2.1 x.2.2.2.2.2.2.2.2.2.2.2.2.2.2.2.2.2.2.2.2.2.2.2.2.2.2.2.2.2.2.2.2.2.2.2.2.2.2.2.2.2.2.1 x.2.2.2.2.2.2.2.2.2.2.2.2.2.2.2.2.2.2.2.2.2.2.2.2.2.2.2.2.2.2.2.2.2.2.2.2.2.2.2.2.2.2.2.1 x.2.2.2.2.2.2.2.2.2.2.2.2.2.2.2.2.2.2.2.2.2.2.2.2.2.2.2.2.2.2.2.2.2.2.2.2.2.2.2.2.2.2.2.2.1 x.2.2.2.2.2.2.2.2.2.2.2.2.2.2.2.2.2.2.2.2.2.2.2.2.2.2.2.2.2.2.2.2.2.2.2.2.2.2.2.2.2.2.2.2.2.1 x.2.2.2.2.2.2.2.2.2.2.2.2.2.2.2.2.2.2.2.2.2.2.2.2.2.2.2.2.2.2.2.2.2.2.2.2.2.2.2.2.2.2.2.2.2.2) (by with_unfolding_all exact go) x
end E_tail19
theorem tail19 {w : World} {dp : Nat} {un : Nat} {gd : Option (List Code)} {L : Nat} {fa : Addr} {ccd : Value} {A₀ : Around} {base : Heap} {h₀ : Heap} {p : PySem.Program} {loose : List Str} {mean : ExcName → Option Value} {mg : Str → Option Value} {mb : Str → Option Value} {m : Str → Option Value} {s : Shared} {Q : Flow → Shared → Prop} {E : Value → Shared → Prop} {F : Led} {V : Led} {U1 : Led} {U2 : Led} {x1 : Addr} {x2 : Addr} {wl : Addr} {st : Addr} {oW : Obj} {oY : Obj} {wlo : Obj} {sto : Obj} {c0 : Option Value} {its : List Value} {stis : List Value} {nw : Nat} {ns : Nat} {Y : List (List Str)} {sts : List (Int × List Str)} {hf : Int} {th : Tok} {mk1 : Marks} {mk2 : Marks} {P : Wait} {b1 : Nat} {k1 : Nat} {b2 : Nat} {k2 : Nat}  (B : Below A₀ base [] h₀) (KX : (hd.heap_39 w.params).In h₀) (TP : Top p loose mean mg mb h₀) (hdp : dp + 40 < recursionLimit) (hun : un + 400 < cLine) (FR : Fr h₀ L s.heap m) (N : News h₀ L s.heap ((L + 4, oY) :: (V ++ (U1 ++ U2)))) (hoY : oY.data = .cell c0) (hne : ∀ p ∈ V ++ (U1 ++ U2), @Ne Nat p.1 (L + 4)) (M1 : Mach w F U1 x1 mk1 P b1 k1) (M2 : Mach w F U2 x2 mk2 P b2 k2) (apV : Apart V (U1 ++ U2)) (ap12 : Apart U1 U2) (hFV : ∀ e ∈ F, e ∈ V) (hcW : (L + 3, oW) ∈ V) (hoW : oW.data = .cell (some (.ref wl))) (hwl : (wl, wlo) ∈ V) (hwc : wlo.cls = .type "list") (hwd : wlo.data = .seq its.toArray nw) (hws : WaysIn w F Y its) (hst : (st, sto) ∈ V) (hsc : sto.cls = .type "list") (hsd : sto.data = .seq stis.toArray ns) (hsts : StepsIn w F sts stis) (e_steps : m (Str.ofString "steps") = some (.ref st)) (e_half : m (Str.ofString "half") = some (.int hf th)) (e_one : m (Str.ofString "one") = some (.ref x1)) (e_other : m (Str.ofString "other") = some (.ref x2)) (hf0 : 0 ≤ hf) (hYc : Closed Y) (hY : ∀ y ∈ Y, cc ∉ y ∧ y.length ≤ 25) (hYn : Y.length < 20000) (hstp : ∀ k ∈ sts, k.2 ∈ Y ∧ (k.1.fmod 5 ≠ 3 → k.2 ≠ [])) (same : Same Y mk1 mk2) (cl1 : Clean mk1) (cl2 : Clean mk2) (wc : WClean P) (hb1 : b1 + 25 * sts.length < 5000000) (hb2 : b2 + 25 * sts.length < 5000000) (hk1 : k1 + sts.length < 70) (hk2 : k2 + sts.length < 70) (ret : ∀ s' m', Kin s s' → Fr h₀ L s'.heap m' → Q (.ret (.bool true)) s') : wpAny (model PP w) (ktrTop dp un gd (Str.ofString "law") lawScope L fa ccd (lawCells L) []) (execs (lawBody.drop 19) (envX (Str.ofString "law") lawScope L fa ccd (lawCells L))) Q E s :=
  E_tail19.all (w, dp, un, gd, L, fa, ccd, A₀, base, h₀, p, loose, mean, mg, mb, m, s, Q, E, F, V, U1, U2, x1, x2, wl, st, oW, oY, wlo, sto, c0, its, stis, nw, ns, Y, sts, hf, th, mk1, mk2, P, b1, k1, b2, k2) B KX TP hdp hun FR N hoY hne M1 M2 apV ap12 hFV hcW hoW hwl hwc hwd hws hst hsc hsd hsts e_steps e_half e_one e_other hf0 hYc hY hYn hstp same cl1 cl2 wc hb1 hb2 hk1 hk2 ret
end

section
open PySem PySem.W PyProof.Rows
local macro_rules | `(tactic| walk_at "exec For Name Call cons nil") => `(tactic| (k_here; refine For_led (by assumption) ?_))
local macro_rules | `(tactic| walk_at "exec For Name Tuple cons nil") => `(tactic| (k_here; refine For_led (by assumption) ?_))
theorem Mach.heads {w : World} {F U : Led} {x : Addr} {mk : Marks} {P : Wait} {b k : Nat} (M : Mach w F U x mk P b k) : ∃ dx r ps n1 t1 n2 t2 kk, (x, instObj 66 dx) ∈ U ∧ (dx, dictOf [⟨n1, .str (Str.ofString "_flags") t1, .ref r⟩, ⟨n2, .str (Str.ofString "_pending_flags") t2, .ref ps⟩] kk) ∈ U := by
  obtain ⟨T, Tp, g, c, np, rfl, ap, X, PI, hb, hk⟩ := M
  obtain ⟨n1, t1, n2, t2, kk, xd⟩ := X.idict
  exact ⟨g.dx, g.r, g.ps, n1, t1, n2, t2, kk, List.mem_append_left _ X.inst, List.mem_append_left _ xd⟩
structure Inv17 (w : World) (L R : Nat) (F V U1 : Led) (x2 : Addr) (mk1 : Marks) (qs : List (List Str)) (b : Nat) (U2 : Led) (mk2 : Marks) : Prop where
  hneY : ∀ p ∈ V ++ (U1 ++ U2), @Ne Nat p.1 (L + 4)
  hneR : ∀ p ∈ V ++ (U1 ++ U2), @Ne Nat p.1 R
  M2 : Mach w F U2 x2 mk2 (fun _ => False) b 0
  apV : Apart V (U1 ++ U2)
  ap12 : Apart U1 U2
  reb : Rebuilt mk1 qs mk2
structure Inv17i (w : World) (L R I Tf : Nat) (F V U1 : Led) (x2 : Addr) (mk1 : Marks) (qs : List (List Str)) (q : List Str) (b l : Nat) (U2 : Led) (mk2 : Marks) : Prop where
  u4 : ∀ p ∈ U2, @Ne Nat p.1 (L + 4)
  uR : ∀ p ∈ U2, @Ne Nat p.1 R
  uI : ∀ p ∈ U2, @Ne Nat p.1 I
  uT : ∀ p ∈ U2, @Ne Nat p.1 Tf
  M2 : Mach w F U2 x2 mk2 (fun _ => False) b 0
  apV2 : Apart V U2
  ap12 : Apart U1 U2
  reb : RebF mk1 qs q l mk2
namespace E_tail17
noncomputable abbrev Dat : Type := (World) × (Nat) × (Nat) × (Option (List Code)) × (Nat) × (Addr) × (Value) × (Around) × (Heap) × (Heap) × (PySem.Program) × (List Str) × (ExcName → Option Value) × (Str → Option Value) × (Str → Option Value) × (Str → Option Value) × (Shared) × (Flow → Shared → Prop) × (Value → Shared → Prop) × (Led) × (Led) × (Led) × (Led) × (Addr) × (Addr) × (Addr) × (Addr) × (Addr) × (Obj) × (Obj) × (Obj) × (Obj) × (Option Value) × (List Value) × (List Value) × (Nat) × (Nat) × (Nat) × (List (List Str)) × (List (Int × List Str)) × (Int) × (Tok) × (Marks) × (Nat) × (Nat)
theorem ne : Nonempty Dat := ⟨({ draws := fun _ _ => 0, params := { strHash := fun _ => 0, shareClass := fun _ => 0, mergeTok := id, idOf := fun _ => 0, idOfShared := fun _ _ => 0, followText := fun _ => false, idOfImm := fun _ => 0 } }, default, default, default, default, default, default, {}, default, default, default, default, default, default, default, default, {}, default, default, default, default, default, default, default, default, default, default, default, default, default, default, default, default, default, default, default, default, default, default, default, default, default, default, default, default)⟩
noncomputable def Stm (w : World) (dp : Nat) (un : Nat) (gd : Option (List Code)) (L : Nat) (fa : Addr) (ccd : Value) (A₀ : Around) (base : Heap) (h₀ : Heap) (p : PySem.Program) (loose : List Str) (mean : ExcName → Option Value) (mg : Str → Option Value) (mb : Str → Option Value) (m : Str → Option Value) (s : Shared) (Q : Flow → Shared → Prop) (E : Value → Shared → Prop) (F : Led) (V : Led) (U1 : Led) (U2 : Led) (x1 : Addr) (x2 : Addr) (wl : Addr) (st : Addr) (du : Addr) (oW : Obj) (oY : Obj) (wlo : Obj) (sto : Obj) (c0 : Option Value) (its : List Value) (stis : List Value) (nw : Nat) (ns : Nat) (nd : Nat) (Y : List (List Str)) (sts : List (Int × List Str)) (hf : Int) (th : Tok) (mk1 : Marks) (b1 : Nat) (k1 : Nat) : Prop := ∀  (B : Below A₀ base [] h₀) (KX : (hd.heap_39 w.params).In h₀) (TP : Top p loose mean mg mb h₀) (hdp : dp + 40 < recursionLimit) (hun : un + 400 < cLine) (FR : Fr h₀ L s.heap m) (N : News h₀ L s.heap ((L + 4, oY) :: (V ++ (U1 ++ U2)))) (hoY : oY.data = .cell c0) (hne : ∀ p ∈ V ++ (U1 ++ U2), @Ne Nat p.1 (L + 4)) (M1 : Mach w F U1 x1 mk1 (fun _ => False) b1 k1) (M2 : Mach w F U2 x2 (fun _ _ _ => false) (fun _ => False) 0 0) (apV : Apart V (U1 ++ U2)) (ap12 : Apart U1 U2) (hFV : ∀ e ∈ F, e ∈ V) (hcW : (L + 3, oW) ∈ V) (hoW : oW.data = .cell (some (.ref wl))) (hwl : (wl, wlo) ∈ V) (hwc : wlo.cls = .type "list") (hwd : wlo.data = .seq its.toArray nw) (hws : WaysIn w F Y its) (hst : (st, sto) ∈ V) (hsc : sto.cls = .type "list") (hsd : sto.data = .seq stis.toArray ns) (hsts : StepsIn w F sts stis) (hdu : (du, boolsObj (answers mk1 Y) nd) ∈ V) (e_steps : m (Str.ofString "steps") = some (.ref st)) (e_half : m (Str.ofString "half") = some (.int hf th)) (e_one : m (Str.ofString "one") = some (.ref x1)) (e_other : m (Str.ofString "other") = some (.ref x2)) (e_due : m (Str.ofString "due") = some (.ref du)) (hf0 : 0 ≤ hf) (hYc : Closed Y) (hY : ∀ y ∈ Y, cc ∉ y ∧ y.length ≤ 25) (hYn : Y.length < 20000) (hstp : ∀ k ∈ sts, k.2 ∈ Y ∧ (k.1.fmod 5 ≠ 3 → k.2 ≠ [])) (cl1 : Clean mk1) (hb1 : b1 + 25 * sts.length < 5000000) (hk1 : k1 + sts.length < 70) (ret : ∀ s' m', Kin s s' → Fr h₀ L s'.heap m' → Q (.ret (.bool true)) s'), wpAny (model PP w) (ktrTop dp un gd (Str.ofString "law") lawScope L fa ccd (lawCells L) []) (execs (lawBody.drop 17) (envX (Str.ofString "law") lawScope L fa ccd (lawCells L))) Q E s
@[irreducible] noncomputable def pick : Dat := @Classical.epsilon Dat ne fun d => ¬ Stm d.1 d.2.1 d.2.2.1 d.2.2.2.1 d.2.2.2.2.1 d.2.2.2.2.2.1 d.2.2.2.2.2.2.1 d.2.2.2.2.2.2.2.1 d.2.2.2.2.2.2.2.2.1 d.2.2.2.2.2.2.2.2.2.1 d.2.2.2.2.2.2.2.2.2.2.1 d.2.2.2.2.2.2.2.2.2.2.2.1 d.2.2.2.2.2.2.2.2.2.2.2.2.1 d.2.2.2.2.2.2.2.2.2.2.2.2.2.1 d.2.2.2.2.2.2.2.2.2.2.2.2.2.2.1 d.2.2.2.2.2.2.2.2.2.2.2.2.2.2.2.1 d.2.2.2.2.2.2.2.2.2.2.2.2.2.2.2.2.1 d.2.2.2.2.2.2.2.2.2.2.2.2.2.2.2.2.2.1 d.2.2.2.2.2.2.2.2.2.2.2.2.2.2.2.2.2.2.1 d.2.2.2.2.2.2.2.2.2.2.2.2.2.2.2.2.2.2.2.1 d.2.2.2.2.2.2.2.2.2.2.2.2.2.2.2.2.2.2.2.2.1 d.2.2.2.2.2.2.2.2.2.2.2.2.2.2.2.2.2.2.2.2.2.1 d.2.2.2.2.2.2.2.2.2.2.2.2.2.2.2.2.2.2.2.2.2.2.1 d.2.2.2.2.2.2.2.2.2.2.2.2.2.2.2.2.2.2.2.2.2.2.2.1 d.2.2.2.2.2.2.2.2.2.2.2.2.2.2.2.2.2.2.2.2.2.2.2.2.1 d.2.2.2.2.2.2.2.2.2.2.2.2.2.2.2.2.2.2.2.2.2.2.2.2.2.1 d.2.2.2.2.2.2.2.2.2.2.2.2.2.2.2.2.2.2.2.2.2.2.2.2.2.2.1 d.2.2.2.2.2.2.2.2.2.2.2.2.2.2.2.2.2.2.2.2.2.2.2.2.2.2.2.1 d.2.2.2.2.2.2.2.2.2.2.2.2.2.2.2.2.2.2.2.2.2.2.2.2.2.2.2.2.1 d.2.2.2.2.2.2.2.2.2.2.2.2.2.2.2.2.2.2.2.2.2.2.2.2.2.2.2.2.2.1 d.2.2.2.2.2.2.2.2.2.2.2.2.2.2.2.2.2.2.2.2.2.2.2.2.2.2.2.2.2.2.1 d.2.2.2.2.2.2.2.2.2.2.2.2.2.2.2.2.2.2.2.2.2.2.2.2.2.2.2.2.2.2.2.1 d.2.2.2.2.2.2.2.2.2.2.2.2.2.2.2.2.2.2.2.2.2.2.2.2.2.2.2.2.2.2.2.2.1 d.2.2.2.2.2.2.2.2.2.2.2.2.2.2.2.2.2.2.2.2.2.2.2.2.2.2.2.2.2.2.2.2.2.1 d.2.2.2.2.2.2.2.2.2.2.2.2.2.2.2.2.2.2.2.2.2.2.2.2.2.2.2.2.2.2.2.2.2.2.1 d.2.2.2.2.2.2.2.2.2.2.2.2.2.2.2.2.2.2.2.2.2.2.2.2.2.2.2.2.2.2.2.2.2.2.2.1 d.2.2.2.2.2.2.2.2.2.2.2.2.2.2.2.2.2.2.2.2.2.2.2.2.2.2.2.2.2.2.2.2.2.2.2.2.1 d.2.2.2.2.2.2.2.2.2.2.2.2.2.2.2.2.2.2.2.2.2.2.2.2.2.2.2.2.2.2.2.2.2.2.2.2.2.1 d.2.2.2.2.2.2.2.2.2.2.2.2.2.2.2.2.2.2.2.2.2.2.2.2.2.2.2.2.2.2.2.2.2.2.2.2.2.2.1 d.2.2.2.2.2.2.2.2.2.2.2.2.2.2.2.2.2.2.2.2.2.2.2.2.2.2.2.2.2.2.2.2.2.2.2.2.2.2.2.1 d.2.2.2.2.2.2.2.2.2.2.2.2.2.2.2.2.2.2.2.2.2.2.2.2.2.2.2.2.2.2.2.2.2.2.2.2.2.2.2.2.1 d.2.2.2.2.2.2.2.2.2.2.2.2.2.2.2.2.2.2.2.2.2.2.2.2.2.2.2.2.2.2.2.2.2.2.2.2.2.2.2.2.2.1 d.2.2.2.2.2.2.2.2.2.2.2.2.2.2.2.2.2.2.2.2.2.2.2.2.2.2.2.2.2.2.2.2.2.2.2.2.2.2.2.2.2.2.1 d.2.2.2.2.2.2.2.2.2.2.2.2.2.2.2.2.2.2.2.2.2.2.2.2.2.2.2.2.2.2.2.2.2.2.2.2.2.2.2.2.2.2.2.1 d.2.2.2.2.2.2.2.2.2.2.2.2.2.2.2.2.2.2.2.2.2.2.2.2.2.2.2.2.2.2.2.2.2.2.2.2.2.2.2.2.2.2.2.2
@[irreducible] noncomputable def w := pick.1
@[irreducible] noncomputable def dp := pick.2.1
@[irreducible] noncomputable def un := pick.2.2.1
@[irreducible] noncomputable def gd := pick.2.2.2.1
@[irreducible] noncomputable def L := pick.2.2.2.2.1
@[irreducible] noncomputable def fa := pick.2.2.2.2.2.1
noncomputable def pickr1 := pick.2.2.2.2.2.2
@[irreducible] noncomputable def ccd := pickr1.1
@[irreducible] noncomputable def A₀ := pickr1.2.1
@[irreducible] noncomputable def base := pickr1.2.2.1
@[irreducible] noncomputable def h₀ := pickr1.2.2.2.1
@[irreducible] noncomputable def p := pickr1.2.2.2.2.1
@[irreducible] noncomputable def loose := pickr1.2.2.2.2.2.1
noncomputable def pickr2 := pickr1.2.2.2.2.2.2
@[irreducible] noncomputable def mean := pickr2.1
@[irreducible] noncomputable def mg := pickr2.2.1
@[irreducible] noncomputable def mb := pickr2.2.2.1
@[irreducible] noncomputable def m := pickr2.2.2.2.1
@[irreducible] noncomputable def s := pickr2.2.2.2.2.1
@[irreducible] noncomputable def Q := pickr2.2.2.2.2.2.1
noncomputable def pickr3 := pickr2.2.2.2.2.2.2
@[irreducible] noncomputable def E := pickr3.1
@[irreducible] noncomputable def F := pickr3.2.1
@[irreducible] noncomputable def V := pickr3.2.2.1
@[irreducible] noncomputable def U1 := pickr3.2.2.2.1
@[irreducible] noncomputable def U2 := pickr3.2.2.2.2.1
@[irreducible] noncomputable def x1 := pickr3.2.2.2.2.2.1
noncomputable def pickr4 := pickr3.2.2.2.2.2.2
@[irreducible] noncomputable def x2 := pickr4.1
@[irreducible] noncomputable def wl := pickr4.2.1
@[irreducible] noncomputable def st := pickr4.2.2.1
@[irreducible] noncomputable def du := pickr4.2.2.2.1
@[irreducible] noncomputable def oW := pickr4.2.2.2.2.1
@[irreducible] noncomputable def oY := pickr4.2.2.2.2.2.1
noncomputable def pickr5 := pickr4.2.2.2.2.2.2
@[irreducible] noncomputable def wlo := pickr5.1
@[irreducible] noncomputable def sto := pickr5.2.1
@[irreducible] noncomputable def c0 := pickr5.2.2.1
@[irreducible] noncomputable def its := pickr5.2.2.2.1
@[irreducible] noncomputable def stis := pickr5.2.2.2.2.1
@[irreducible] noncomputable def nw := pickr5.2.2.2.2.2.1
noncomputable def pickr6 := pickr5.2.2.2.2.2.2
@[irreducible] noncomputable def ns := pickr6.1
@[irreducible] noncomputable def nd := pickr6.2.1
@[irreducible] noncomputable def Y := pickr6.2.2.1
@[irreducible] noncomputable def sts := pickr6.2.2.2.1
@[irreducible] noncomputable def hf := pickr6.2.2.2.2.1
@[irreducible] noncomputable def th := pickr6.2.2.2.2.2.1
noncomputable def pickr7 := pickr6.2.2.2.2.2.2
@[irreducible] noncomputable def mk1 := pickr7.1
@[irreducible] noncomputable def b1 := pickr7.2.1
@[irreducible] noncomputable def k1 := pickr7.2.2
noncomputable def pack1 : PSigma (fun P : (Nat) → (List Value) → (Nat) → (Shared) → (List (List Str)) → (Nat) → (Obj) → (Shared) → (Obj) → (Option Value) → (List (Nat × Obj)) → (Marks) → (Option Value) → (Addr) → (List Str) → (Flow → Shared → Prop) → Prop => (∀ x0 x1 x2 x3 x4 x5 x6 x7 x8 x9 x10 x11 x12 x13 x14 x15, P x0 x1 x2 x3 x4 x5 x6 x7 x8 x9 x10 x11 x12 x13 x14 x15) → Stm w dp un gd L fa ccd A₀ base h₀ p loose mean mg mb m s Q E F V U1 U2 x1 x2 wl st du oW oY wlo sto c0 its stis nw ns nd Y sts hf th mk1 b1 k1) := by
  apply PSigma.mk
  case snd =>
    intro hP1
    intro B KX TP hdp hun FR N hoY hne M1 M2 apV ap12 hFV hcW hoW hwl hwc hwd hws hst hsc hsd hsts hdu e_steps e_half e_one e_other e_due hf0 hYc hY hYn hstp cl1 hb1 hk1 ret
    refine kf ?_
    k_fill
    intro _
    refine wpAny_noRaise ?_
    (conv in (lawBody.drop 17) => whnf)
    (repeat' (first | walk_at "u" | ((fail_if_success with_reducible first | show G28 | show G9 | show G29 | show G30 | show G24 | show G25 | show G0 | show G2 | show G26 | show G27); walk1)))
    refine nameX_C (by assumption) rfl (mct _ (List.mem_append_left _ hcW)) hoW ?_ rfl rfl
    (repeat' (first | walk_at "u" | ((fail_if_success with_reducible first | show G28 | show G9 | show G29 | show G30 | show G24 | show G25 | show G0 | show G2 | show G26 | show G27); walk1)))
    have hsz : sts.length < 70 := by lia
    refine sorted_len (by assumption) (by assumption) (mct _ (List.mem_append_left _ hwl)) hwc hwd (fun v hv => ?_) (by rw [hws.1]; lia) fun R out eR s2 K2 hperm hR F2 N2 => ?_
    · obtain ⟨i, hi⟩ := List.getElem?_of_mem hv
      obtain ⟨a, q, rfl, hq, o, it2, n2, hm2, hc2, hd2, hi2⟩ := hws.get hi
      have hl := hi2.length
      have := (hY q (List.mem_of_getElem? hq)).2
      exact ⟨a, it2.toArray, rfl, ⟨o, (N _ (mct _ (List.mem_append_left _ (hFV _ hm2)))).1, hc2, n2, hd2⟩, by rw [List.size_toArray]; lia⟩
    obtain ⟨qs', hqp, hwo⟩ := hws.perm hperm
    have hRL : @LT.lt Nat _ (L + 4) R := hR (L + 4, oY) List.mem_cons_self
    have hoL : out.length ≤ 20000 := by rw [hperm.length_eq, hws.1]; lia
    refine iter_list (by rfl) F2 N2 List.mem_cons_self rfl rfl (fun i m' W' => i ≤ out.length ∧ ∃ oY c U2 mk2 u, W' = (R, W.listOf out.toArray eR) :: (L + 4, oY) :: (V ++ (U1 ++ U2)) ∧ oY.data = .cell c ∧ m' = (fun y => if y = Str.ofString "flag" then u else m y) ∧
        Inv17 w L R F V U1 x2 mk1 (qs'.take i) (50 * i) U2 mk2)
      ⟨Nat.zero_le _, oY, c0, U2, _, m (Str.ofString "flag"), rfl, hoY, ?_, ⟨hne, fun p hp => Nat.ne_of_lt (hR p (mct _ hp)), M2, apV, ap12, ?_⟩⟩ ?_ ?_ ?_
    · funext y
      by_cases h1 : y = Str.ofString "flag"
      · subst h1; exact (if_pos rfl).symm
      · exact (if_neg h1).symm
    · intro y d f
      simp
    · rintro i m' W' ⟨_, oY, c, U2, mk2, u, rfl, _⟩
      exact List.mem_cons_self
    · rintro i v m' W' oI s3 hv ⟨hi, oY, c, U2, mk2, u, rfl, hoY, rfl, ⟨hneY, hneR, M2, apV, ap12, reb⟩⟩ hoff F3 N3 K3 hlow
      obtain ⟨qa, q, rfl, hq, hqa⟩ := hwo.get hv
      have hqY : q ∈ Y := hqp.mem_iff.mp (List.mem_of_getElem? hq)
      obtain ⟨hqc, hql⟩ := hY q hqY
      have hlt : i < out.length := (List.getElem?_eq_some_iff.mp hv).1
      intro Qo hQo
      rename_i z1_0 z1_1 z1_2 z1_3 z1_4
      revert hQo; revert hlt; revert hql; revert hqc; revert hqY; revert hqa; revert hq; revert hv; revert hlow; revert K3; revert N3; revert F3; revert hoff; revert reb
      revert ap12; revert apV; revert M2; revert hneR; revert hneY; revert hoY; revert hi; revert hoL; revert hRL; revert hwo; revert hqp; revert N2; revert F2; revert hR
      revert hperm; revert K2; revert hsz; revert ret; revert hk1; revert hb1; revert cl1; revert hstp; revert hYn; revert hY; revert hYc; revert hf0; revert e_due; revert e_other
      revert e_one; revert e_half; revert e_steps; revert hdu; revert hsts; revert hsd; revert hsc; revert hst; revert hws; revert hwd; revert hwc; revert hwl; revert hoW; revert hcW
      revert hFV; revert M1; revert hne; revert N; revert FR; revert hun; revert hdp; revert TP; revert KX; revert B
      exact hP1 R out eR s2 qs' i oI s3 oY c U2 mk2 u qa q Qo
    · rintro m' W' s3 ⟨_, oY, c, U2, mk2, u, rfl, hoY, rfl, ⟨hneY, hneR, M2, apV, ap12, reb⟩⟩ F3 N3 K3
      (repeat' (first | walk_at "u" | ((fail_if_success with_reducible first | show G28 | show G9 | show G29 | show G30 | show G24 | show G25 | show G0 | show G2 | show G26 | show G27); walk1)))
      refine nameX_C (by assumption) rfl (mct _ (mct _ (List.mem_append_left _ hcW))) hoW ?_ rfl rfl
      (repeat' (first | walk_at "u" | ((fail_if_success with_reducible first | show G28 | show G9 | show G29 | show G30 | show G24 | show G25 | show G0 | show G2 | show G26 | show G27); walk1)))
      have hwsV : WaysIn w V Y its := hws.mono hFV
      refine (answers_meets (V := (R, W.listOf out.toArray eR) :: (L + 4, oY) :: (V ++ U1)) (U := U2) (qs := Y) M2 (mct _ (mct _ (List.mem_append_left _ hwl))) hwc hwd (hwsV.mono fun e he => ?_) (fun y hy => ?_) hYn).call B (by assumption) KX (news_drop (by assumption) fun e he => ?_) TP rfl (room hdp) (room hun) ?_
      · exact mct _ (mct _ (List.mem_append_left _ he))
      · exact le_small (hY y hy).2
      · refine sub_go he ?_
        walk_at "sub"
      rintro r7 s7 W7 K7 F7 N7 ⟨a7, n7, rfl, rfl, ha7⟩
      simp only [List.cons_append] at N7
      (repeat' (first | walk_at "u" | ((fail_if_success with_reducible first | show G28 | show G9 | show G29 | show G30 | show G24 | show G25 | show G0 | show G2 | show G26 | show G27); walk1)))
      have rebY : Rebuilt mk1 Y mk2 := fun y d f => by
        rw [reb, List.take_of_length_le (by rw [hwo.1]; exact Nat.le_refl _), hqp.mem_iff]
      have same := rebY.same hYc cl1
      have cl2 : Clean mk2 := rebY.clean fun y hy => (hY y hy).1
      have hl2 : out.length < 20000 := by rw [hperm.length_eq, hws.1]; exact hYn
      refine ne_bools (by assumption) List.mem_cons_self (show (du, boolsObj (answers mk1 Y) nd) ∈ _ from mct _ (mct _ (mct _ (List.mem_append_left _ (List.mem_append_left _ hdu))))) (same.answers cl1 cl2).symm (room0 hun) ?_
      repeat' (first
        | ((fail_if_success (with_reducible show wpAny _ _ (execs (Stmt.For _ _ _ _ _ :: _) _) _ _ _)); (first | (k_unfold; (try dsimp only)) | walk1)))
      have hret : ∀ s' m', Kin s7 s' → Fr h₀ L s'.heap m' → Q (.ret (.bool true)) s' := fun s' m' k f => ret s' m' (Kin.trans K2 (Kin.trans K3 (Kin.trans K7 k))) f
      refine tail19 (L := L) (th := th) (P := fun _ => False) (b2 := 50 * out.length) (k2 := 0) (oY := oY) B KX TP hdp hun (F := F) (V := V) (U1 := U1) (U2 := U2) (by assumption) (news_drop N7 fun e he => ?_) hoY hneY M1 M2 apV ap12 hFV hcW hoW hwl hwc hwd hws hst hsc hsd hsts ?_ ?_ ?_ ?_ hf0 hYc hY hYn hstp same cl1 cl2 (fun _ h => h.elim) hb1 (by lia) hk1 (by lia) hret
      · refine sub_go he ?_
        walk_at "sub"
      all_goals (refine (if_neg (by decide)).trans ?_; assumption)
namespace K1
noncomputable abbrev Dat1 : Type := (Nat) × (List Value) × (Nat) × (Shared) × (List (List Str)) × (Nat) × (Obj) × (Shared) × (Obj) × (Option Value) × (List (Nat × Obj)) × (Marks) × (Option Value) × (Addr) × (List Str) × (Flow → Shared → Prop)
theorem ne1 : Nonempty Dat1 := ⟨(default, default, default, {}, default, default, default, {}, default, default, default, default, default, default, default, default)⟩
@[irreducible] noncomputable def pick1 : Dat1 := @Classical.epsilon Dat1 ne1 fun d => ¬ pack1.1 d.1 d.2.1 d.2.2.1 d.2.2.2.1 d.2.2.2.2.1 d.2.2.2.2.2.1 d.2.2.2.2.2.2.1 d.2.2.2.2.2.2.2.1 d.2.2.2.2.2.2.2.2.1 d.2.2.2.2.2.2.2.2.2.1 d.2.2.2.2.2.2.2.2.2.2.1 d.2.2.2.2.2.2.2.2.2.2.2.1 d.2.2.2.2.2.2.2.2.2.2.2.2.1 d.2.2.2.2.2.2.2.2.2.2.2.2.2.1 d.2.2.2.2.2.2.2.2.2.2.2.2.2.2.1 d.2.2.2.2.2.2.2.2.2.2.2.2.2.2.2
@[irreducible] noncomputable def R := pick1.1
@[irreducible] noncomputable def out := pick1.2.1
@[irreducible] noncomputable def eR := pick1.2.2.1
@[irreducible] noncomputable def s2 := pick1.2.2.2.1
@[irreducible] noncomputable def qs' := pick1.2.2.2.2.1
@[irreducible] noncomputable def i := pick1.2.2.2.2.2.1
noncomputable def pick1r1 := pick1.2.2.2.2.2.2
@[irreducible] noncomputable def oI := pick1r1.1
@[irreducible] noncomputable def s3 := pick1r1.2.1
@[irreducible] noncomputable def oY := pick1r1.2.2.1
@[irreducible] noncomputable def c := pick1r1.2.2.2.1
@[irreducible] noncomputable def U2 := pick1r1.2.2.2.2.1
@[irreducible] noncomputable def mk2 := pick1r1.2.2.2.2.2.1
noncomputable def pick1r2 := pick1r1.2.2.2.2.2.2
@[irreducible] noncomputable def u := pick1r2.1
@[irreducible] noncomputable def qa := pick1r2.2.1
@[irreducible] noncomputable def q := pick1r2.2.2.1
@[irreducible] noncomputable def Qo := pick1r2.2.2.2
noncomputable def pack2 : PSigma (fun P : (Obj) → (Shared) → (Addr) → (Heap) → (Nat) → (Obj) → (Shared) → (List (Addr × Obj)) → (Marks) → (Option Value) → (Tok) → (List (Addr × Obj)) → (Flow → Shared → Prop) → Prop => (∀ x0 x1 x2 x3 x4 x5 x6 x7 x8 x9 x10 x11 x12, P x0 x1 x2 x3 x4 x5 x6 x7 x8 x9 x10 x11 x12) → pack1.1 R out eR s2 qs' i oI s3 oY c U2 mk2 u qa q Qo) := by
  apply PSigma.mk
  case snd =>
    intro hP2
    intro B KX TP hdp hun FR N hne M1 hFV hcW hoW hwl hwc hwd hws hst hsc hsd hsts hdu e_steps e_half e_one e_other e_due hf0 hYc hY hYn hstp cl1 hb1 hk1 ret hsz K2 hperm hR F2 N2 hqp hwo hRL hoL hi hoY hneY hneR M2 apV ap12 reb hoff F3 N3 K3 hlow hv hq hqa hqY hqc hql hlt hQo
    refine kf ?_
    k_fill
    intro _
    show wpAny _ _ _ _ _ _
    (repeat' (first | walk_at "u" | ((fail_if_success with_reducible first | show G28 | show G9 | show G29 | show G30 | show G24 | show G25 | show G0 | show G2 | show G26 | show G27); walk1)))
    have hIL : @LT.lt Nat _ (L + 4) s2.heap.objs.size := hlow (L + 4, _) (mct _ List.mem_cons_self)
    have hIR : @LT.lt Nat _ R s2.heap.objs.size := hlow (R, _) List.mem_cons_self
    have hoffV : ∀ e ∈ V ++ (U1 ++ U2), @Ne Nat e.1 s2.heap.objs.size := fun e he => hoff e (mct _ (mct _ he))
    refine cell_store (c := L + 4) (o := oY) (W := (s2.heap.objs.size, oI) :: (R, W.listOf out.toArray eR) :: (V ++ (U1 ++ U2))) (by assumption) (news_drop (by assumption) fun e he => ?_) rfl ?_ hoY (fun o4 s4 K4 ho4 F4 N4 => ?_) rfl rfl
    · refine sub_go he ?_
      walk_at "sub"
    · intro e he
      refine all_cons he ?_ fun he => all_cons he ?_ fun he => ?_
      · exact Nat.ne_of_gt hIL
      · exact Nat.ne_of_gt hRL
      · exact hneY e he
    (repeat' (first | walk_at "u" | ((fail_if_success with_reducible first | show G28 | show G9 | show G29 | show G30 | show G24 | show G25 | show G0 | show G2 | show G26 | show G27); walk1)))
    refine For_led (by assumption) ?_
    (repeat' (first | walk_at "u" | ((fail_if_success with_reducible first | show G28 | show G9 | show G29 | show G30 | show G24 | show G25 | show G0 | show G2 | show G26 | show G27); walk1)))
    rename_i Tf hD1 FT NT lT
    have hTL : @LT.lt Nat _ (L + 4) Tf := lT.1
    obtain ⟨apV1, apV2⟩ := apV.split
    refine iter_tuple  (its := [.int 0 s4.toks, .int 1 (s4.toks + 1)]) rfl FT NT List.mem_cons_self rfl rfl (fun l m' W' => l ≤ 2 ∧ ∃ U2 mk2 u, W' = (Tf, ({ cls := .type "tuple", data := .seq #[.int 0 s4.toks, .int 1 (s4.toks + 1)] } : Obj)) :: (L + 4, o4) :: (s2.heap.objs.size, oI) :: (R, W.listOf out.toArray eR) :: (V ++ (U1 ++ U2)) ∧ m' = (fun y => if y = Str.ofString "flag" then u else m y) ∧
      Inv17i w L R s2.heap.objs.size Tf F V U1 x2 mk1 (qs'.take i) q (50 * i + 25 * l) l U2 mk2)
      ⟨Nat.zero_le _, U2, mk2, u, rfl, rfl, ⟨fun p hp => hneY p (List.mem_append_right _ (List.mem_append_right _ hp)), fun p hp => hneR p (List.mem_append_right _ (List.mem_append_right _ hp)), fun p hp => hoffV p (List.mem_append_right _ (List.mem_append_right _ hp)), ?_, M2, apV2, ap12, RebF.start reb⟩⟩ ?_ ?_ ?_
    · exact fun e he => Nat.ne_of_lt (allLt_mem lT.2.2.2 e (List.mem_append_right _ (List.mem_append_right _ he)))
    · rintro l m' W' ⟨_, U2, mk2, u, rfl, _⟩
      exact List.mem_cons_self
    · rintro l v m' W' oJ s5 hv ⟨hl2, U2, mk2, u, rfl, rfl, ⟨u4, uR, uI, uT, M2, apV2, ap12, reb⟩⟩ hoffJ F5 N5 K5 hlowJ
      have hvl : l < 2 ∧ ∃ t, v = .int (l : Int) t := by
        match l, hv with
        | 0, hv => exact ⟨by omega, _, (Option.some.inj hv).symm⟩
        | 1, hv => exact ⟨by omega, _, (Option.some.inj hv).symm⟩
        | l + 2, hv => simp at hv
      obtain ⟨hl, tl, rfl⟩ := hvl
      obtain ⟨X, hX⟩ : ∃ X, X = (Tf, ({ cls := .type "tuple", data := .seq #[.int 0 s4.toks, .int 1 (s4.toks + 1)] } : Obj)) :: (L + 4, o4) :: (s2.heap.objs.size, oI) :: (R, W.listOf out.toArray eR) :: V := ⟨_, rfl⟩
      have hXV : ∀ e ∈ V, e ∈ X := fun e he => by rw [hX]; walk_at "mem"
      have h4X : (L + 4, o4) ∈ X := by rw [hX]; walk_at "mem"
      have hXap : Apart X U2 := by
        rw [hX]
        intro e he r hr
        refine all_cons he ?_ fun he => all_cons he ?_ fun he => all_cons he ?_ fun he => all_cons he ?_ fun he => ?_
        · exact Ne.symm (uT r hr)
        · exact Ne.symm (u4 r hr)
        · exact Ne.symm (uI r hr)
        · exact Ne.symm (uR r hr)
        · exact apV2 e he r hr
      replace N5 := news_drop (W' := (hD1.objs.size, oJ) :: (X ++ (U1 ++ U2))) N5 (fun e he => by
        rw [hX] at he
        simp only [List.mem_cons, List.mem_append] at he ⊢
        rcases he with h | (h | h | h | h | h) | h | h
        · exact .inl h
        · exact .inr (.inl h)
        · exact .inr (.inr (.inl h))
        · exact .inr (.inr (.inr (.inl h)))
        · exact .inr (.inr (.inr (.inr (.inl h))))
        · exact .inr (.inr (.inr (.inr (.inr (.inl h)))))
        · exact .inr (.inr (.inr (.inr (.inr (.inr (.inl h))))))
        · exact .inr (.inr (.inr (.inr (.inr (.inr (.inr h)))))))
      intro Qi hQi
      rename_i z2_0 z2_1 z2_2 z2_3 z2_4 z2_5
      revert hQi; revert N5; revert hXap; revert h4X; revert hXV; revert hX; revert hv; revert hl; revert hlowJ; revert K5; revert F5; revert hoffJ; revert reb; revert ap12
      revert apV2; revert M2; revert uT; revert uI; revert uR; revert u4; revert hl2; revert apV1; revert hTL; revert lT; revert NT; revert FT; revert ho4; revert K4
      revert hoffV; revert hIR; revert hIL; revert hQo; revert hlt; revert hql; revert hqc; revert hqY; revert hqa; revert hq; revert hlow; revert K3; revert N3; revert F3
      revert hoff; revert apV; revert hneR; revert hneY; revert hoY; revert hi; revert hoL; revert hRL; revert hwo; revert hqp; revert hR; revert hperm; revert K2; revert hsz
      revert ret; revert hk1; revert hb1; revert cl1; revert hstp; revert hYn; revert hY; revert hYc; revert hf0; revert e_due; revert e_other; revert e_one; revert e_half; revert e_steps
      revert hdu; revert hsts; revert hsd; revert hsc; revert hst; revert hws; revert hwd; revert hwc; revert hwl; revert hoW; revert hcW; revert hFV; revert M1; revert hne
      revert hun; revert hdp; revert TP; revert KX; revert B
      exact hP2 o4 s4 Tf hD1 l oJ s5 U2 mk2 u tl X Qi
    · rintro m' W' s5 ⟨_, U2, mk2, u, rfl, rfl, ⟨u4, uR, uI, uT, M2, apV2, ap12, reb⟩⟩ F5 N5 K5
      (repeat' (first | walk_at "u" | ((fail_if_success with_reducible first | show G28 | show G9 | show G29 | show G30 | show G24 | show G25 | show G0 | show G2 | show G26 | show G27); walk1)))
      refine hQo .next _ ?_
      show NextHere _ _ _ _ _ _ _
      replace reb : RebF mk1 (qs'.take i) q 2 mk2 := reb
      replace M2 : Mach w F U2 x2 mk2 (fun _ => False) (50 * i + 25 * 2) 0 := M2
      have hR1 : @LT.lt Nat _ (L + 4) R := hRL
      refine NextHere.intro F5 N5 (W' := (R, W.listOf out.toArray eR) :: (L + 4, o4) :: (V ++ (U1 ++ U2))) (fun e he => ?_) (fun e he => ?_) ⟨hlt, o4, _, U2, mk2, u, rfl, ho4, rfl, ⟨fun p hp => ?_, fun p hp => ?_, M2.grow (by omega) (Nat.le_refl _), Apart.join apV1 apV2, ap12, ?_⟩⟩ (Kin.trans K3 (Kin.trans K4 K5))
      · refine sub_go he ?_
        walk_at "sub"
      · refine all_cons he ?_ fun he => all_cons he ?_ fun he => all_app he (fun h => ?_) fun he => all_app he (fun h => ?_) fun h => ?_
        · exact Nat.ne_of_lt hIR
        · exact Nat.ne_of_lt hIL
        · exact hoffV e (by walk_at "mem")
        · exact hoffV e (by walk_at "mem")
        · exact uI e h
      · refine all_app hp (fun h => ?_) fun hp => all_app hp (fun h => ?_) fun h => ?_
        · exact hneY p (by walk_at "mem")
        · exact hneY p (by walk_at "mem")
        · exact u4 p h
      · refine all_app hp (fun h => ?_) fun hp => all_app hp (fun h => ?_) fun h => ?_
        · exact hneR p (by walk_at "mem")
        · exact hneR p (by walk_at "mem")
        · exact uR p h
      · rw [List.take_add_one, hq]
        exact reb.stop
namespace K2
noncomputable abbrev Dat2 : Type := (Obj) × (Shared) × (Addr) × (Heap) × (Nat) × (Obj) × (Shared) × (List (Addr × Obj)) × (Marks) × (Option Value) × (Tok) × (List (Addr × Obj)) × (Flow → Shared → Prop)
theorem ne2 : Nonempty Dat2 := ⟨(default, {}, default, default, default, default, {}, default, default, default, default, default, default)⟩
@[irreducible] noncomputable def pick2 : Dat2 := @Classical.epsilon Dat2 ne2 fun d => ¬ pack2.1 d.1 d.2.1 d.2.2.1 d.2.2.2.1 d.2.2.2.2.1 d.2.2.2.2.2.1 d.2.2.2.2.2.2.1 d.2.2.2.2.2.2.2.1 d.2.2.2.2.2.2.2.2.1 d.2.2.2.2.2.2.2.2.2.1 d.2.2.2.2.2.2.2.2.2.2.1 d.2.2.2.2.2.2.2.2.2.2.2.1 d.2.2.2.2.2.2.2.2.2.2.2.2
@[irreducible] noncomputable def o4 := pick2.1
@[irreducible] noncomputable def s4 := pick2.2.1
@[irreducible] noncomputable def Tf := pick2.2.2.1
@[irreducible] noncomputable def hD1 := pick2.2.2.2.1
@[irreducible] noncomputable def l := pick2.2.2.2.2.1
@[irreducible] noncomputable def oJ := pick2.2.2.2.2.2.1
noncomputable def pick2r1 := pick2.2.2.2.2.2.2
@[irreducible] noncomputable def s5 := pick2r1.1
@[irreducible] noncomputable def U2 := pick2r1.2.1
@[irreducible] noncomputable def mk2 := pick2r1.2.2.1
@[irreducible] noncomputable def u := pick2r1.2.2.2.1
@[irreducible] noncomputable def tl := pick2r1.2.2.2.2.1
@[irreducible] noncomputable def X := pick2r1.2.2.2.2.2.1
noncomputable def pick2r2 := pick2r1.2.2.2.2.2.2
@[irreducible] noncomputable def Qi := pick2r2
theorem go_b1_b2 : pack2.1 o4 s4 Tf hD1 l oJ s5 U2 mk2 u tl X Qi := by
  intro B KX TP hdp hun hne M1 hFV hcW hoW hwl hwc hwd hws hst hsc hsd hsts hdu e_steps e_half e_one e_other e_due hf0 hYc hY hYn hstp cl1 hb1 hk1 ret hsz K2 hperm hR hqp hwo hRL hoL hi hoY hneY hneR apV hoff F3 N3 K3 hlow hq hqa hqY hqc hql hlt hQo hIL hIR hoffV K4 ho4 FT NT lT hTL apV1 hl2 u4 uR uI uT M2 apV2 ap12 reb hoffJ F5 K5 hlowJ hl hv hX hXV h4X hXap N5 hQi
  refine kf ?_
  k_fill
  intro _
  show wpAny _ _ _ _ _ _
  (repeat' (first | walk_at "u" | ((fail_if_success with_reducible first | show G28 | show G9 | show G29 | show G30 | show G24 | show G25 | show G0 | show G2 | show G26 | show G27); walk1)))
  have KqX : WayIn w X qa q := (hqa.mono hFV).mono hXV
  refine nameX_C (by assumption) rfl (mct _ (List.mem_append_left _ h4X)) ho4 ?_ rfl rfl
  (repeat' (first | walk_at "u" | ((fail_if_success with_reducible first | show G28 | show G9 | show G29 | show G30 | show G24 | show G25 | show G0 | show G2 | show G26 | show G27); walk1)))
  rename_i Te hE FE NE lE
  have KTe : WayIn w ((Te, ({ cls := .type "tuple", data := .seq #[] } : Obj)) :: (hD1.objs.size, oJ) :: (X ++ (U1 ++ U2))) Te [] := ⟨_, [], 0, List.mem_cons_self, rfl, rfl, .nil⟩
  have upX : ∀ e ∈ X, e ∈ (Te, ({ cls := .type "tuple", data := .seq #[] } : Obj)) :: (hD1.objs.size, oJ) :: (X ++ (U1 ++ U2)) := fun e he => mct _ (mct _ (List.mem_append_left _ he))
  have xi1' := M1.heads
  obtain ⟨dx1, r1, ps1, n11, t11, n12, t12, kk1, xi1, xd1⟩ := xi1'
  have xi2' := M2.heads
  obtain ⟨dx2, r2, ps2, n21, t21, n22, t22, kk2, xi2, xd2⟩ := xi2'
  replace xi1 : _ ∈ X ++ (U1 ++ U2) := List.mem_append_right X (List.mem_append_left U2 xi1)
  replace xd1 : _ ∈ X ++ (U1 ++ U2) := List.mem_append_right X (List.mem_append_left U2 xd1)
  replace xi2 : _ ∈ X ++ (U1 ++ U2) := List.mem_append_right X (List.mem_append_right U1 xi2)
  replace xd2 : _ ∈ X ++ (U1 ++ U2) := List.mem_append_right X (List.mem_append_right U1 xd2)
  by_cases hq0 : q = []
  · refine way_ne NE (KqX.mono upX) KTe (room0 hun) (r := false) (by simp [hq0]) ?_
    (repeat' (first | walk_at "u" | ((fail_if_success with_reducible first | show G28 | show G9 | show G29 | show G30 | show G24 | show G25 | show G0 | show G2 | show G26 | show G27); walk1)))
    refine hQi .next _ ?_
    show NextHere _ _ _ _ _ _ _
    refine NextHere.intro FE NE (W' := (Tf, ({ cls := .type "tuple", data := .seq #[.int 0 s4.toks, .int 1 (s4.toks + 1)] } : Obj)) :: (L + 4, o4) :: (s2.heap.objs.size, oI) :: (R, W.listOf out.toArray eR) :: (V ++ (U1 ++ U2))) (fun e he => ?_) ?_ ⟨hl, U2, mk2, some (.int l tl), rfl, ?_, ⟨u4, uR, uI, uT, M2.grow (by omega) (Nat.le_refl _), apV2, ap12, reb.skip (fun h => h.1 hq0)⟩⟩ K5
    · rw [hX]
      refine sub_go he ?_
      walk_at "sub"
    · exact fun e he => hoffJ e he
    · funext y
      by_cases h1 : y = Str.ofString "flag"
      · subst h1; rfl
      · simp only [if_neg h1]
  · refine way_ne NE (KqX.mono upX) KTe (room0 hun) (r := true) (by simp [hq0]) ?_
    (repeat' (first | walk_at "u" | ((fail_if_success with_reducible first | show G28 | show G9 | show G29 | show G30 | show G24 | show G25 | show G0 | show G2 | show G26 | show G27); walk1)))
    have upT : ∀ e ∈ X ++ (U1 ++ U2), e ∈ (Te, ({ cls := .type "tuple", data := .seq #[] } : Obj)) :: (hD1.objs.size, oJ) :: (X ++ (U1 ++ U2)) := fun e he => mct _ (mct _ he)
    have xi1T := upT _ xi1
    have xd1T := upT _ xd1
    (repeat' (first | walk_at "u" | ((fail_if_success with_reducible first | show G28 | show G9 | show G29 | show G30 | show G24 | show G25 | show G0 | show G2 | show G26 | show G27); walk1)))
    refine nameX_C (by assumption) rfl (mct _ (mct _ (List.mem_append_left _ h4X))) ho4 ?_ rfl rfl
    (repeat' (first | walk_at "u" | ((fail_if_success with_reducible first | show G28 | show G9 | show G29 | show G30 | show G24 | show G25 | show G0 | show G2 | show G26 | show G27); walk1)))
    refine (mach_is (V := (Te, ({ cls := .type "tuple", data := .seq #[] } : Obj)) :: (hD1.objs.size, oJ) :: (X ++ U2)) M1 (KqX.mono fun e he => mct _ (mct _ (List.mem_append_left _ he))) (by omega)).call B (by assumption) KX (news_drop (by assumption) fun e he => ?_) TP rfl (room hdp) (room hun) ?_
    · refine sub_go he ?_
      walk_at "sub"
    rintro r6 s6 W6 K6 F6 N6 ⟨rfl, rfl⟩
    have N6' : News h₀ L s6.heap ((Te, ({ cls := .type "tuple", data := .seq #[] } : Obj)) :: (hD1.objs.size, oJ) :: (X ++ (U1 ++ U2))) := news_drop N6 fun e he => by
      refine sub_go he ?_
      walk_at "sub"
    clear N6
    by_cases hia : isAt mk1 q l = true
    · rw [hia]
      (repeat' (first | walk_at "u" | ((fail_if_success with_reducible first | show G28 | show G9 | show G29 | show G30 | show G24 | show G25 | show G0 | show G2 | show G26 | show G27); walk1)))
      refine nameX_C (by assumption) rfl (mct _ (mct _ (List.mem_append_left _ h4X))) ho4 ?_ rfl rfl
      (repeat' (first | walk_at "u" | ((fail_if_success with_reducible first | show G28 | show G9 | show G29 | show G30 | show G24 | show G25 | show G0 | show G2 | show G26 | show G27); walk1)))
      refine slice_way (by assumption) (by assumption) (KqX.mono upX) (by omega) fun sl osl s7 K7 F7 N7 KW7 ne7 => ?_
      (repeat' (first | walk_at "u" | ((fail_if_success with_reducible first | show G28 | show G9 | show G29 | show G30 | show G24 | show G25 | show G0 | show G2 | show G26 | show G27); walk1)))
      have e1 : q.take (upto (-1) q.length) = q.dropLast := by
        have : upto (-1) q.length = q.length - 1 := by unfold upto; simp
        rw [this, List.dropLast_eq_take]
      rw [e1] at KW7
      rename_i Tc hc8 F8 N8 l8
      have KTc : WayIn w ((Tc, ({ cls := .type "tuple", data := .seq #[.str (Str.ofString "c") s7.toks] } : Obj)) :: (sl, osl) :: (Te, ({ cls := .type "tuple", data := .seq #[] } : Obj)) :: (hD1.objs.size, oJ) :: (X ++ (U1 ++ U2))) Tc [cc] := ⟨_, [.str (Str.ofString "c") s7.toks], 0, List.mem_cons_self, rfl, rfl, .cons (strKind_is PP w _ _) .nil⟩
      refine way_add (by assumption) (by assumption) (KW7.mono fun e he => mct _ he) KTc (by rw [List.length_dropLast]; simp; omega) fun c9 o9 s9 K9 F9 N9 KW9 ap9 hd9 => ?_
      (repeat' (first | walk_at "u" | ((fail_if_success with_reducible first | show G28 | show G9 | show G29 | show G30 | show G24 | show G25 | show G0 | show G2 | show G26 | show G27); walk1)))
      refine (mach_is (V := (c9, o9) :: (Tc, ({ cls := .type "tuple", data := .seq #[.str (Str.ofString "c") s7.toks] } : Obj)) :: (sl, osl) :: (Te, ({ cls := .type "tuple", data := .seq #[] } : Obj)) :: (hD1.objs.size, oJ) :: (X ++ (U1 ++ U2))) M1 KW9 (by rw [List.length_append, List.length_dropLast]; simp; omega)).call B (by assumption) KX (news_drop N9 fun e he => ?_) TP rfl (room hdp) (room hun) ?_
      · refine sub_go he ?_
        walk_at "sub"
      rintro r10 s10 W10 K10 F10 N10 ⟨rfl, rfl⟩
      have N10' : News h₀ L s10.heap ((hD1.objs.size, oJ) :: (X ++ (U1 ++ U2))) := news_drop N10 fun e he => by
        refine sub_go he ?_
        walk_at "sub"
      clear N10
      have xi1J := mct (hD1.objs.size, oJ) xi1
      have xd1J := mct (hD1.objs.size, oJ) xd1
      have xi2J := mct (hD1.objs.size, oJ) xi2
      have xd2J := mct (hD1.objs.size, oJ) xd2
      rw [is_c cl1]
      have K10' : Kin s5 s10 := K6.trans (K7.trans (Kin.trans K9 K10))
      by_cases hid : deepAt mk1 q.dropLast l = true
      · rw [hid]
        (repeat' (first | walk_at "u" | ((fail_if_success with_reducible first | show G28 | show G9 | show G29 | show G30 | show G24 | show G25 | show G0 | show G2 | show G26 | show G27); walk1)))
        refine hQi .next _ ?_
        show NextHere _ _ _ _ _ _ _
        refine NextHere.intro F10 N10' (W' := (Tf, ({ cls := .type "tuple", data := .seq #[.int 0 s4.toks, .int 1 (s4.toks + 1)] } : Obj)) :: (L + 4, o4) :: (s2.heap.objs.size, oI) :: (R, W.listOf out.toArray eR) :: (V ++ (U1 ++ U2))) (fun e he => ?_) ?_ ⟨hl, U2, mk2, some (.int l tl), rfl, ?_, ⟨u4, uR, uI, uT, M2.grow (by omega) (Nat.le_refl _), apV2, ap12, reb.skip (fun h => by rw [hid] at h; exact absurd h.2.2 (by decide))⟩⟩ (K5.trans K10')
        · rw [hX]
          refine sub_go he ?_
          walk_at "sub"
        · exact fun e he => hoffJ e he
        · funext y
          by_cases h1 : y = Str.ofString "flag"
          · subst h1; rfl
          · simp only [if_neg h1]
      · have hid' : deepAt mk1 q.dropLast l = false := by simpa using hid
        rw [hid']
        (repeat' (first | walk_at "u" | ((fail_if_success with_reducible first | show G28 | show G9 | show G29 | show G30 | show G24 | show G25 | show G0 | show G2 | show G26 | show G27); walk1)))
        refine nameX_C (by assumption) rfl (mct _ (List.mem_append_left _ h4X)) ho4 ?_ rfl rfl
        (repeat' (first | walk_at "u" | ((fail_if_success with_reducible first | show G28 | show G9 | show G29 | show G30 | show G24 | show G25 | show G0 | show G2 | show G26 | show G27); walk1)))
        refine nameX_C (by assumption) rfl (mct _ (List.mem_append_left _ h4X)) ho4 ?_ rfl rfl
        (repeat' (first | walk_at "u" | ((fail_if_success with_reducible first | show G28 | show G9 | show G29 | show G30 | show G24 | show G25 | show G0 | show G2 | show G26 | show G27); walk1)))
        rename_i Td hc11 F11 N11 l11
        have KTd : WayIn w ((Td, ({ cls := .type "tuple", data := .seq #[.str (Str.ofString "c") s10.toks] } : Obj)) :: (hD1.objs.size, oJ) :: (X ++ (U1 ++ U2))) Td [cc] := ⟨_, [.str (Str.ofString "c") s10.toks], 0, List.mem_cons_self, rfl, rfl, .cons (strKind_is PP w _ _) .nil⟩
        refine way_add (by assumption) (by assumption) (KqX.mono fun e he => mct _ (mct _ (List.mem_append_left _ he))) KTd (by simp; omega) fun c12 o12 s12 K12 F12 N12 KW12 ap12' hd12 => ?_
        (repeat' (first | walk_at "u" | ((fail_if_success with_reducible first | show G28 | show G9 | show G29 | show G30 | show G24 | show G25 | show G0 | show G2 | show G26 | show G27); walk1)))
        refine (mach_is (V := (c12, o12) :: (Td, ({ cls := .type "tuple", data := .seq #[.str (Str.ofString "c") s10.toks] } : Obj)) :: (hD1.objs.size, oJ) :: (X ++ (U1 ++ U2))) M1 KW12 (by rw [List.length_append]; simp; omega)).call B (by assumption) KX (news_drop N12 fun e he => ?_) TP rfl (room hdp) (room hun) ?_
        · refine sub_go he ?_
          walk_at "sub"
        rintro r13 s13 W13 K13 F13 N13 ⟨rfl, rfl⟩
        have N13' : News h₀ L s13.heap ((hD1.objs.size, oJ) :: ((X ++ U1) ++ U2)) := news_drop N13 fun e he => by
          refine sub_go he ?_
          walk_at "sub"
        clear N13
        rw [is_c cl1]
        (repeat' (first | walk_at "u" | ((fail_if_success with_reducible first | show G28 | show G9 | show G29 | show G30 | show G24 | show G25 | show G0 | show G2 | show G26 | show G27); walk1)))
        have apS : Apart ((hD1.objs.size, oJ) :: (X ++ U1)) U2 := by
          intro e he r hr
          refine all_cons he ?_ fun he => all_app he (fun he => ?_) fun he => ?_
          · exact Ne.symm (hoffJ r (by walk_at "mem"))
          · exact hXap e he r hr
          · exact ap12 e he r hr
        refine (mach_set (V := (hD1.objs.size, oJ) :: (X ++ U1)) M2 (KqX.mono fun e he => mct _ (List.mem_append_left _ he)) hql hq0 (by lia) apS (by omega)).call B (by assumption) KX N13' TP rfl (room hdp) (room hun) ?_
        rintro r14 s14 W14 K14 F14 N14 ⟨rfl, U2', rfl, ap14, M14⟩
        (repeat' (first | walk_at "u" | ((fail_if_success with_reducible first | show G28 | show G9 | show G29 | show G30 | show G24 | show G25 | show G0 | show G2 | show G26 | show G27); walk1)))
        refine hQi .next _ ?_
        show NextHere _ _ _ _ _ _ _
        have upE : ∀ e ∈ X, e ∈ (hD1.objs.size, oJ) :: (X ++ U1) := fun e he => mct _ (List.mem_append_left _ he)
        refine NextHere.intro F14 N14 (W' := (Tf, ({ cls := .type "tuple", data := .seq #[.int 0 s4.toks, .int 1 (s4.toks + 1)] } : Obj)) :: (L + 4, o4) :: (s2.heap.objs.size, oI) :: (R, W.listOf out.toArray eR) :: (V ++ (U1 ++ U2'))) (fun e he => ?_) (fun e he => ?_) ⟨hl, U2', _, some (.int l tl), rfl, ?_, ⟨fun p hp => Ne.symm (ap14 _ (upE _ h4X) p hp), fun p hp => Ne.symm (ap14 (R, W.listOf out.toArray eR) (upE _ (by rw [hX]; walk_at "mem")) p hp), fun p hp => Ne.symm (ap14 (s2.heap.objs.size, oI) (upE _ (by rw [hX]; walk_at "mem")) p hp), fun p hp => Ne.symm (ap14 (Tf, _) (upE _ (by rw [hX]; exact List.mem_cons_self)) p hp), M14.grow (by omega) (Nat.le_refl _), fun e he r hr => ap14 e (upE _ (hXV e he)) r hr, fun e he r hr => ap14 e (mct _ (List.mem_append_right _ he)) r hr, reb.set hl ⟨hq0, hia, hid'⟩⟩⟩ (K5.trans (Kin.trans K10' (Kin.trans K12 (Kin.trans K13 K14))))
        · rw [hX]
          refine sub_go he ?_
          walk_at "sub"
        · refine all_cons he ?_ fun he => all_cons he ?_ fun he => all_cons he ?_ fun he => all_cons he ?_ fun he => all_app he (fun he => ?_) fun he => all_app he (fun he => ?_) fun he => ?_
          · exact hoffJ _ (by walk_at "mem")
          · exact hoffJ _ (by walk_at "mem")
          · exact hoffJ _ (by walk_at "mem")
          · exact hoffJ _ (by walk_at "mem")
          · exact hoffJ e (by walk_at "mem")
          · exact hoffJ e (by walk_at "mem")
          · exact Ne.symm (ap14 _ List.mem_cons_self e he)
        · funext y
          by_cases h1 : y = Str.ofString "flag"
          · subst h1; rfl
          · simp only [if_neg h1]
    · have hia' : isAt mk1 q l = false := by simpa using hia
      rw [hia']
      (repeat' (first | walk_at "u" | ((fail_if_success with_reducible first | show G28 | show G9 | show G29 | show G30 | show G24 | show G25 | show G0 | show G2 | show G26 | show G27); walk1)))
      refine hQi .next _ ?_
      show NextHere _ _ _ _ _ _ _
      refine NextHere.intro F6 N6' (W' := (Tf, ({ cls := .type "tuple", data := .seq #[.int 0 s4.toks, .int 1 (s4.toks + 1)] } : Obj)) :: (L + 4, o4) :: (s2.heap.objs.size, oI) :: (R, W.listOf out.toArray eR) :: (V ++ (U1 ++ U2))) (fun e he => ?_) ?_ ⟨hl, U2, mk2, some (.int l tl), rfl, ?_, ⟨u4, uR, uI, uT, M2.grow (by omega) (Nat.le_refl _), apV2, ap12, reb.skip (fun h => hia h.2.1)⟩⟩ (K5.trans K6)
      · rw [hX]
        refine sub_go he ?_
        walk_at "sub"
      · exact fun e he => hoffJ e he
      · funext y
        by_cases h1 : y = Str.ofString "flag"
        · subst h1; rfl
        · simp only [if_neg h1]
theorem all2 (x : Dat2) : pack2.1 x.1 x.2.1 x.2.2.1 x.2.2.2.1 x.2.2.2.2.1 x.2.2.2.2.2.1 x.2.2.2.2.2.2.1 x.2.2.2.2.2.2.2.1 x.2.2.2.2.2.2.2.2.1 x.2.2.2.2.2.2.2.2.2.1 x.2.2.2.2.2.2.2.2.2.2.1 x.2.2.2.2.2.2.2.2.2.2.2.1 x.2.2.2.2.2.2.2.2.2.2.2.2 := eps_all ne2 (fun x => pack2.1 x.1 x.2.1 x.2.2.1 x.2.2.2.1 x.2.2.2.2.1 x.2.2.2.2.2.1 x.2.2.2.2.2.2.1 x.2.2.2.2.2.2.2.1 x.2.2.2.2.2.2.2.2.1 x.2.2.2.2.2.2.2.2.2.1 x.2.2.2.2.2.2.2.2.2.2.1 x.2.2.2.2.2.2.2.2.2.2.2.1 x.2.2.2.2.2.2.2.2.2.2.2.2) (by with_unfolding_all exact go_b1_b2) x
end K2
theorem go_b1 : pack1.1 R out eR s2 qs' i oI s3 oY c U2 mk2 u qa q Qo :=
  pack2.2 (fun x0 x1 x2 x3 x4 x5 x6 x7 x8 x9 x10 x11 x12 => K2.all2 (x0, x1, x2, x3, x4, x5, x6, x7, x8, x9, x10, x11, x12))
theorem all1 (x : Dat1) : pack1.1 x.1 x.2.1 x.2.2.1 x.2.2.2.1 x.2.2.2.2.1 x.2.2.2.2.2.1 x.2.2.2.2.2.2.1 x.2.2.2.2.2.2.2.1 x.2.2.2.2.2.2.2.2.1 x.2.2.2.2.2.2.2.2.2.1 x.2.2.2.2.2.2.2.2.2.2.1 x.2.2.2.2.2.2.2.2.2.2.2.1 x.2.2.2.2.2.2.2.2.2.2.2.2.1 x.2.2.2.2.2.2.2.2.2.2.2.2.2.1 x.2.2.2.2.2.2.2.2.2.2.2.2.2.2.1 x.2.2.2.2.2.2.2.2.2.2.2.2.2.2.2 := eps_all ne1 (fun x => pack1.1 x.1 x.2.1 x.2.2.1 x.2.2.2.1 x.2.2.2.2.1 x.2.2.2.2.2.1 x.2.2.2.2.2.2.1 x.2.2.2.2.2.2.2.1 x.2.2.2.2.2.2.2.2.1 x.2.2.2.2.2.2.2.2.2.1 x.2.2.2.2.2.2.2.2.2.2.1 x.2.2.2.2.2.2.2.2.2.2.2.1 x.2.2.2.2.2.2.2.2.2.2.2.2.1 x.2.2.2.2.2.2.2.2.2.2.2.2.2.1 x.2.2.2.2.2.2.2.2.2.2.2.2.2.2.1 x.2.2.2.2.2.2.2.2.2.2.2.2.2.2.2) (by with_unfolding_all exact go_b1) x
end K1
theorem go : Stm w dp un gd L fa ccd A₀ base h₀ p loose mean mg mb m s Q E F V U1 U2 x1 x2 wl st du oW oY wlo sto c0 its stis nw ns nd Y sts hf th mk1 b1 k1 :=
  pack1.2 (fun x0 x1 x2 x3 x4 x5 x6 x7 x8 x9 x10 x11 x12 x13 x14 x15 => K1.all1 (x0, x1, x2, x3, x4, x5, x6, x7, x8, x9, x10, x11, x12, x13, x14, x15))
theorem all (x : Dat) : Stm x.1 x.2.1 x.2.2.1 x.2.2.2.1 x.2.2.2.2.1 x.2.2.2.2.2.1 x.2.2.2.2.2.2.1 x.2.2.2.2.2.2.2.1 x.2.2.2.2.2.2.2.2.1 x.2.2.2.2.2.2.2.2.2.1 x.2.2.2.2.2.2.2.2.2.2.1 x.2.2.2.2.2.2.2.2.2.2.2.1 x.2.2.2.2.2.2.2.2.2.2.2.2.1 x.2.2.2.2.2.2.2.2.2.2.2.2.2.1 x.2.2.2.2.2.2.2.2.2.2.2.2.2.2.1 x.2.2.2.2.2.2.2.2.2.2.2.2.2.2.2.1 x.2.2.2.2.2.2.2.2.2.2.2.2.2.2.2.2.1 x.2.2.2.2.2.2.2.2.2.2.2.2.2.2.2.2.2.1 x.2.2.2.2.2.2.2.2.2.2.2.2.2.2.2.2.2.2.1 x.2.2.2.2.2.2.2.2.2.2.2.2.2.2.2.2.2.2.2.1 x.2.2.2.2.2.2.2.2.2.2.2.2.2.2.2.2.2.2.2.2.1 x.2.2.2.2.2.2.2.2.2.2.2.2.2.2.2.2.2.2.2.2.2.1 x.2.2.2.2.2.2.2.2.2.2.2.2.2.2.2.2.2.2.2.2.2.2.1 x.2.2.2.2.2.2.2.2.2.2.2.2.2.2.2.2.2.2.2.2.2.2.2.1 x.2.2.2.2.2.2.2.2.2.2.2.2.2.2.2.2.2.2.2.2.2.2.2.2.1 x.2.2.2.2.2.2.2.2.2.2.2.2.2.2.2.2.2.2.2.2.2.2.2.2.2.1 x.2.2.2.2.2.2.2.2.2.2.2.2.2.2.2.2.2.2.2.2.2.2.2.2.2.2.1 x.2.2.2.2.2.2.2.2.2.2.2.2.2.2.2.2.2.2.2.2.2.2.2.2.2.2.2.1 x.2.2.2.2.2.2.2.2.2.2.2.2.2.2.2.2.2.2.2.2.2.2.2.2.2.2.2.2.1 x.2.2.2.2.2.2.2.2.2.2.2.2.2.2.2.2.2.2.2.2.2.2.2.2.2.2.2.2.2.1 x.2.2.2.2.2.2.2.2.2.2.2.2.2.2.2.2.2.2.2.2.2.2.2.2.2.2.2.2.2.2.1 x.2.2.2.2.2.2.2.2.2.2.2.2.2.2.2.2.2.2.2.2.2.2.2.2.2.2.2.2.2.2.2.1 x.2.2.2.2.2.2.2.2.2.2.2.2.2.2.2.2.2.2.2.2.2.2.2.2.2.2.2.2.2.2.2.2.1 x.2.2.2.2.2.2.2.2.2.2.2.2.2.2.2.2.2.2.2.2.2.2.2.2.2.2.2.2.2.2.2.2.2.1 x.2.2.2.2.2.2.2.2.2.2.2.2.2.2.2.2.2.2.2.2.2.2.2.2.2.2.2.2.2.2.2.2.2.2.1 x.2.2.2.2.2.2.2.2.2.2.2.2.2.2.2.2.2.2.2.2.2.2.2.2.2.2.2.2.2.2.2.2.2.2.2.1 x.2.2.2.2.2.2.2.2.2.2.2.2.2.2.2.2.2.2.2.2.2.2.2.2.2.2.2.2.2.2.2.2.2.2.2.2.1 x.2.2.2.2.2.2.2.2.2.2.2.2.2.2.2.2.2.2.2.2.2.2.2.2.2.2.2.2.2.2.2.2.2.2.2.2.2.1 x.2.2.2.2.2.2.2.2.2.2.2.2.2.2.2.2.2.2.2.2.2.2.2.2.2.2.2.2.2.2.2.2.2.2.2.2.2.2.1 x.2.2.2.2.2.2.2.2.2.2.2.2.2.2.2.2.2.2.2.2.2.2.2.2.2.2.2.2.2.2.2.2.2.2.2.2.2.2.2.1 x.2.2.2.2.2.2.2.2.2.2.2.2.2.2.2.2.2.2.2.2.2.2.2.2.2.2.2.2.2.2.2.2.2.2.2.2.2.2.2.2.1 x.2.2.2.2.2.2.2.2.2.2.2.2.2.2.2.2.2.2.2.2.2.2.2.2.2.2.2.2.2.2.2.2.2.2.2.2.2.2.2.2.2.1 x.2.2.2.2.2.2.2.2.2.2.2.2.2.2.2.2.2.2.2.2.2.2.2.2.2.2.2.2.2.2.2.2.2.2.2.2.2.2.2.2.2.2.1 x.2.2.2.2.2.2.2.2.2.2.2.2.2.2.2.2.2.2.2.2.2.2.2.2.2.2.2.2.2.2.2.2.2.2.2.2.2.2.2.2.2.2.2.1 x.2.2.2.2.2.2.2.2.2.2.2.2.2.2.2.2.2.2.2.2.2.2.2.2.2.2.2.2.2.2.2.2.2.2.2.2.2.2.2.2.2.2.2.2 := eps_all ne (fun x => Stm x.1 x.2.1 x.2.2.1 x.2.2.2.1 x.2.2.2.2.1 x.2.2.2.2.2.1 x.2.2.2.2.2.2.1 x.2.2.2.2.2.2.2.1 x.2.2.2.2.2.2.2.2.1 x.2.2.2.2.2.2.2.2.2.1 x.2.2.2.2.2.2.2.2.2.2.1 x.2.2.2.2.2.2.2.2.2.2.2.1 x.2.2.2.2.2.2.2.2.2.2.2.2.1 x.2.2.2.2.2.2.2.2.2.2.2.2.2.1 x.2.2.2.2.2.2.2.2.2.2.2.2.2.2.1 x.2.2.2.2.2.2.2.2.2.2.2.2.2.2.2.1 x.2.2.2.2.2.2.2.2.2.2.2.2.2.2.2.2.1 x.2.2.2.2.2.2.2.2.2.2.2.2.2.2.2.2.2.1 x.2.2.2.2.2.2.2.2.2.2.2.2.2.2.2.2.2.2.1 x.2.2.2.2.2.2.2.2.2.2.2.2.2.2.2.2.2.2.2.1 x.2.2.2.2.2.2.2.2.2.2.2.2.2.2.2.2.2.2.2.2.1 x.2.2.2.2.2.2.2.2.2.2.2.2.2.2.2.2.2.2.2.2.2.1 x.2.2.2.2.2.2.2.2.2.2.2.2.2.2.2.2.2.2.2.2.2.2.1 x.2.2.2.2.2.2.2.2.2.2.2.2.2.2.2.2.2.2.2.2.2.2.2.1 x.2.2.2.2.2.2.2.2.2.2.2.2.2.2.2.2.2.2.2.2.2.2.2.2.1 x.2.2.2.2.2.2.2.2.2.2.2.2.2.2.2.2.2.2.2.2.2.2.2.2.2.1 x.2.2.2.2.2.2.2.2.2.2.2.2.2.2.2.2.2.2.2.2.2.2.2.2.2.2.1 x.2.2.2.2.2.2.2.2.2.2.2.2.2.2.2.2.2.2.2.2.2.2.2.2.2.2.2.1 x.2.2.2.2.2.2.2.2.2.2.2.2.2.2.2.2.2.2.2.2.2.2.2.2.2.2.2.2.1 x.2.2.2.2.2.2.2.2.2.2.2.2.2.2.2.2.2.2.2.2.2.2.2.2.2.2.2.2.2.1 x.2.2.2.2.2.2.2.2.2.2.2.2.2.2.2.2.2.2.2.2.2.2.2.2.2.2.2.2.2.2.1 x.2.2.2.2.2.2.2.2.2.2.2.2.2.2.2.2.2.2.2.2.2.2.2.2.2.2.2.2.2.2.2.1 x.2.2.2.2.2.2.2.2.2.2.2.2.2.2.2.2.2.2.2.2.2.2.2.2.2.2.2.2.2.2.2.2.1 x.2.2.2.2.2.2.2.2.2.2.2.2.2.2.2.2.2.2.2.2.2.2.2.2.2.2.2.2.2.2.2.2.2.1 x.2.2.2.2.2.2.2.2.2.2.2.2.2.2.2.2.2.2.2.2.2.2.2.2.2.2.2.2.2.2.2.2.2.2.1 x.2.2.2.2.2.2.2.2.2.2.2.2.2.2.2.2.2.2.2.2.2.2.2.2.2.2.2.2.2.2.2.2.2.2.2.1 x.2.2.2.2.2.2.2.2.2.2.2.2.2.2.2.2.2.2.2.2.2.2.2.2.2.2.2.2.2.2.2.2.2.2.2.2.1 x.2.2.2.2.2.2.2.2.2.2.2.2.2.2.2.2.2.2.2.2.2.2.2.2.2.2.2.2.2.2.2.2.2.2.2.2.2.1 x.2.2.2.2.2.2.2.2.2.2.2.2.2.2.2.2.2.2.2.2.2.2.2.2.2.2.2.2.2.2.2.2.2.2.2.2.2.2.1 x.2.2.2.2.2.2.2.2.2.2.2.2.2.2.2.2.2.2.2.2.2.2.2.2.2.2.2.2.2.2.2.2.2.2.2.2.2.2.2.1 x.2.2.2.2.2.2.2.2.2.2.2.2.2.2.2.2.2.2.2.2.2.2.2.2.2.2.2.2.2.2.2.2.2.2.2.2.2.2.2.2.1 x.2.2.2.2.2.2.2.2.2.2.2.2.2.2.2.2.2.2.2.2.2.2.2.2.2.2.2.2.2.2.2.2.2.2.2.2.2.2.2.2.2.1 x.2.2.2.2.2.2.2.2.2.2.2.2.2.2.2.2.2.2.2.2.2.2.2.2.2.2.2.2.2.2.2.2.2.2.2.2.2.2.2.2.2.2.1 x.2.2.2.2.2.2.2.2.2.2.2.2.2.2.2.2.2.2.2.2.2.2.2.2.2.2.2.2.2.2.2.2.2.2.2.2.2.2.2.2.2.2.2.1 x.2.2.2.2.2.2.2.2.2.2.2.2.2.2.2.2.2.2.2.2.2.2.2.2.2.2.2.2.2.2.2.2.2.2.2.2.2.2.2.2.2.2.2.2) (by with_unfolding_all exact go) x
end E_tail17
theorem tail17 {w : World} {dp : Nat} {un : Nat} {gd : Option (List Code)} {L : Nat} {fa : Addr} {ccd : Value} {A₀ : Around} {base : Heap} {h₀ : Heap} {p : PySem.Program} {loose : List Str} {mean : ExcName → Option Value} {mg : Str → Option Value} {mb : Str → Option Value} {m : Str → Option Value} {s : Shared} {Q : Flow → Shared → Prop} {E : Value → Shared → Prop} {F : Led} {V : Led} {U1 : Led} {U2 : Led} {x1 : Addr} {x2 : Addr} {wl : Addr} {st : Addr} {du : Addr} {oW : Obj} {oY : Obj} {wlo : Obj} {sto : Obj} {c0 : Option Value} {its : List Value} {stis : List Value} {nw : Nat} {ns : Nat} {nd : Nat} {Y : List (List Str)} {sts : List (Int × List Str)} {hf : Int} {th : Tok} {mk1 : Marks} {b1 : Nat} {k1 : Nat}  (B : Below A₀ base [] h₀) (KX : (hd.heap_39 w.params).In h₀) (TP : Top p loose mean mg mb h₀) (hdp : dp + 40 < recursionLimit) (hun : un + 400 < cLine) (FR : Fr h₀ L s.heap m) (N : News h₀ L s.heap ((L + 4, oY) :: (V ++ (U1 ++ U2)))) (hoY : oY.data = .cell c0) (hne : ∀ p ∈ V ++ (U1 ++ U2), @Ne Nat p.1 (L + 4)) (M1 : Mach w F U1 x1 mk1 (fun _ => False) b1 k1) (M2 : Mach w F U2 x2 (fun _ _ _ => false) (fun _ => False) 0 0) (apV : Apart V (U1 ++ U2)) (ap12 : Apart U1 U2) (hFV : ∀ e ∈ F, e ∈ V) (hcW : (L + 3, oW) ∈ V) (hoW : oW.data = .cell (some (.ref wl))) (hwl : (wl, wlo) ∈ V) (hwc : wlo.cls = .type "list") (hwd : wlo.data = .seq its.toArray nw) (hws : WaysIn w F Y its) (hst : (st, sto) ∈ V) (hsc : sto.cls = .type "list") (hsd : sto.data = .seq stis.toArray ns) (hsts : StepsIn w F sts stis) (hdu : (du, boolsObj (answers mk1 Y) nd) ∈ V) (e_steps : m (Str.ofString "steps") = some (.ref st)) (e_half : m (Str.ofString "half") = some (.int hf th)) (e_one : m (Str.ofString "one") = some (.ref x1)) (e_other : m (Str.ofString "other") = some (.ref x2)) (e_due : m (Str.ofString "due") = some (.ref du)) (hf0 : 0 ≤ hf) (hYc : Closed Y) (hY : ∀ y ∈ Y, cc ∉ y ∧ y.length ≤ 25) (hYn : Y.length < 20000) (hstp : ∀ k ∈ sts, k.2 ∈ Y ∧ (k.1.fmod 5 ≠ 3 → k.2 ≠ [])) (cl1 : Clean mk1) (hb1 : b1 + 25 * sts.length < 5000000) (hk1 : k1 + sts.length < 70) (ret : ∀ s' m', Kin s s' → Fr h₀ L s'.heap m' → Q (.ret (.bool true)) s') : wpAny (model PP w) (ktrTop dp un gd (Str.ofString "law") lawScope L fa ccd (lawCells L) []) (execs (lawBody.drop 17) (envX (Str.ofString "law") lawScope L fa ccd (lawCells L))) Q E s :=
  E_tail17.all (w, dp, un, gd, L, fa, ccd, A₀, base, h₀, p, loose, mean, mg, mb, m, s, Q, E, F, V, U1, U2, x1, x2, wl, st, du, oW, oY, wlo, sto, c0, its, stis, nw, ns, nd, Y, sts, hf, th, mk1, b1, k1) B KX TP hdp hun FR N hoY hne M1 M2 apV ap12 hFV hcW hoW hwl hwc hwd hws hst hsc hsd hsts hdu e_steps e_half e_one e_other e_due hf0 hYc hY hYn hstp cl1 hb1 hk1 ret
end

section
open PySem PySem.W PyProof.Rows
theorem answers_none (Y : List (List Str)) : (answers (fun _ _ _ => false) Y).any id = false := by
  rw [List.any_eq_false]
  intro b hb
  unfold answers at hb
  rw [List.mem_flatMap] at hb
  obtain ⟨q, _, hq⟩ := hb
  have h0 : ∀ q f, isAt (fun _ _ _ => false) q f = false := by
    intro q f
    cases h : isAt (fun _ _ _ => false) q f with
    | false => rfl
    | true =>
      rcases (is_iff.mp h).2 with h | h
      · obtain ⟨_, _, _, h⟩ := deep_iff.mp h; exact absurd h Bool.false_ne_true
      · exact absurd h Bool.false_ne_true
  unfold ansOf at hq
  simp only [h0, List.mem_cons, List.not_mem_nil, or_false, or_self] at hq
  rw [hq]; decide
namespace E_tail14
noncomputable abbrev Dat : Type := (World) × (Nat) × (Nat) × (Option (List Code)) × (Nat) × (Addr) × (Value) × (Around) × (Heap) × (Heap) × (PySem.Program) × (List Str) × (ExcName → Option Value) × (Str → Option Value) × (Str → Option Value) × (Str → Option Value) × (Shared) × (Flow → Shared → Prop) × (Value → Shared → Prop) × (Led) × (Led) × (Led) × (Addr) × (Addr) × (Addr) × (Addr) × (Obj) × (Obj) × (Obj) × (Obj) × (Option Value) × (List Value) × (List Value) × (Nat) × (Nat) × (Nat) × (List (List Str)) × (List (Int × List Str)) × (Int) × (Tok) × (Marks) × (Nat) × (Nat)
theorem ne : Nonempty Dat := ⟨({ draws := fun _ _ => 0, params := { strHash := fun _ => 0, shareClass := fun _ => 0, mergeTok := id, idOf := fun _ => 0, idOfShared := fun _ _ => 0, followText := fun _ => false, idOfImm := fun _ => 0 } }, default, default, default, default, default, default, {}, default, default, default, default, default, default, default, default, {}, default, default, default, default, default, default, default, default, default, default, default, default, default, default, default, default, default, default, default, default, default, default, default, default, default, default)⟩
noncomputable def Stm (w : World) (dp : Nat) (un : Nat) (gd : Option (List Code)) (L : Nat) (fa : Addr) (ccd : Value) (A₀ : Around) (base : Heap) (h₀ : Heap) (p : PySem.Program) (loose : List Str) (mean : ExcName → Option Value) (mg : Str → Option Value) (mb : Str → Option Value) (m : Str → Option Value) (s : Shared) (Q : Flow → Shared → Prop) (E : Value → Shared → Prop) (F : Led) (V : Led) (U1 : Led) (x1 : Addr) (wl : Addr) (st : Addr) (du : Addr) (oW : Obj) (oY : Obj) (wlo : Obj) (sto : Obj) (c0 : Option Value) (its : List Value) (stis : List Value) (nw : Nat) (ns : Nat) (nd : Nat) (Y : List (List Str)) (sts : List (Int × List Str)) (hf : Int) (th : Tok) (mk1 : Marks) (b1 : Nat) (k1 : Nat) : Prop := ∀  (B : Below A₀ base [] h₀) (KX : (hd.heap_39 w.params).In h₀) (TP : Top p loose mean mg mb h₀) (hdp : dp + 40 < recursionLimit) (hun : un + 400 < cLine) (FR : Fr h₀ L s.heap m) (N : News h₀ L s.heap ((L + 4, oY) :: (V ++ U1))) (hoY : oY.data = .cell c0) (hne : ∀ p ∈ V ++ U1, @Ne Nat p.1 (L + 4)) (M1 : Mach w F U1 x1 mk1 (fun _ => False) b1 k1) (apV : Apart V U1) (hFV : ∀ e ∈ F, e ∈ V) (hcW : (L + 3, oW) ∈ V) (hoW : oW.data = .cell (some (.ref wl))) (hwl : (wl, wlo) ∈ V) (hwc : wlo.cls = .type "list") (hwd : wlo.data = .seq its.toArray nw) (hws : WaysIn w F Y its) (hst : (st, sto) ∈ V) (hsc : sto.cls = .type "list") (hsd : sto.data = .seq stis.toArray ns) (hsts : StepsIn w F sts stis) (hdu : (du, boolsObj (answers mk1 Y) nd) ∈ V) (e_steps : m (Str.ofString "steps") = some (.ref st)) (e_half : m (Str.ofString "half") = some (.int hf th)) (e_one : m (Str.ofString "one") = some (.ref x1)) (e_due : m (Str.ofString "due") = some (.ref du)) (hf0 : 0 ≤ hf) (hYc : Closed Y) (hY : ∀ y ∈ Y, cc ∉ y ∧ y.length ≤ 25) (hYn : Y.length < 20000) (hstp : ∀ k ∈ sts, k.2 ∈ Y ∧ (k.1.fmod 5 ≠ 3 → k.2 ≠ [])) (cl1 : Clean mk1) (hb1 : b1 + 25 * sts.length < 5000000) (hk1 : k1 + sts.length < 70) (ret : ∀ s' m', Kin s s' → Fr h₀ L s'.heap m' → Q (.ret (.bool true)) s'), wpAny (model PP w) (ktrTop dp un gd (Str.ofString "law") lawScope L fa ccd (lawCells L) []) (execs (lawBody.drop 14) (envX (Str.ofString "law") lawScope L fa ccd (lawCells L))) Q E s
@[irreducible] noncomputable def pick : Dat := @Classical.epsilon Dat ne fun d => ¬ Stm d.1 d.2.1 d.2.2.1 d.2.2.2.1 d.2.2.2.2.1 d.2.2.2.2.2.1 d.2.2.2.2.2.2.1 d.2.2.2.2.2.2.2.1 d.2.2.2.2.2.2.2.2.1 d.2.2.2.2.2.2.2.2.2.1 d.2.2.2.2.2.2.2.2.2.2.1 d.2.2.2.2.2.2.2.2.2.2.2.1 d.2.2.2.2.2.2.2.2.2.2.2.2.1 d.2.2.2.2.2.2.2.2.2.2.2.2.2.1 d.2.2.2.2.2.2.2.2.2.2.2.2.2.2.1 d.2.2.2.2.2.2.2.2.2.2.2.2.2.2.2.1 d.2.2.2.2.2.2.2.2.2.2.2.2.2.2.2.2.1 d.2.2.2.2.2.2.2.2.2.2.2.2.2.2.2.2.2.1 d.2.2.2.2.2.2.2.2.2.2.2.2.2.2.2.2.2.2.1 d.2.2.2.2.2.2.2.2.2.2.2.2.2.2.2.2.2.2.2.1 d.2.2.2.2.2.2.2.2.2.2.2.2.2.2.2.2.2.2.2.2.1 d.2.2.2.2.2.2.2.2.2.2.2.2.2.2.2.2.2.2.2.2.2.1 d.2.2.2.2.2.2.2.2.2.2.2.2.2.2.2.2.2.2.2.2.2.2.1 d.2.2.2.2.2.2.2.2.2.2.2.2.2.2.2.2.2.2.2.2.2.2.2.1 d.2.2.2.2.2.2.2.2.2.2.2.2.2.2.2.2.2.2.2.2.2.2.2.2.1 d.2.2.2.2.2.2.2.2.2.2.2.2.2.2.2.2.2.2.2.2.2.2.2.2.2.1 d.2.2.2.2.2.2.2.2.2.2.2.2.2.2.2.2.2.2.2.2.2.2.2.2.2.2.1 d.2.2.2.2.2.2.2.2.2.2.2.2.2.2.2.2.2.2.2.2.2.2.2.2.2.2.2.1 d.2.2.2.2.2.2.2.2.2.2.2.2.2.2.2.2.2.2.2.2.2.2.2.2.2.2.2.2.1 d.2.2.2.2.2.2.2.2.2.2.2.2.2.2.2.2.2.2.2.2.2.2.2.2.2.2.2.2.2.1 d.2.2.2.2.2.2.2.2.2.2.2.2.2.2.2.2.2.2.2.2.2.2.2.2.2.2.2.2.2.2.1 d.2.2.2.2.2.2.2.2.2.2.2.2.2.2.2.2.2.2.2.2.2.2.2.2.2.2.2.2.2.2.2.1 d.2.2.2.2.2.2.2.2.2.2.2.2.2.2.2.2.2.2.2.2.2.2.2.2.2.2.2.2.2.2.2.2.1 d.2.2.2.2.2.2.2.2.2.2.2.2.2.2.2.2.2.2.2.2.2.2.2.2.2.2.2.2.2.2.2.2.2.1 d.2.2.2.2.2.2.2.2.2.2.2.2.2.2.2.2.2.2.2.2.2.2.2.2.2.2.2.2.2.2.2.2.2.2.1 d.2.2.2.2.2.2.2.2.2.2.2.2.2.2.2.2.2.2.2.2.2.2.2.2.2.2.2.2.2.2.2.2.2.2.2.1 d.2.2.2.2.2.2.2.2.2.2.2.2.2.2.2.2.2.2.2.2.2.2.2.2.2.2.2.2.2.2.2.2.2.2.2.2.1 d.2.2.2.2.2.2.2.2.2.2.2.2.2.2.2.2.2.2.2.2.2.2.2.2.2.2.2.2.2.2.2.2.2.2.2.2.2.1 d.2.2.2.2.2.2.2.2.2.2.2.2.2.2.2.2.2.2.2.2.2.2.2.2.2.2.2.2.2.2.2.2.2.2.2.2.2.2.1 d.2.2.2.2.2.2.2.2.2.2.2.2.2.2.2.2.2.2.2.2.2.2.2.2.2.2.2.2.2.2.2.2.2.2.2.2.2.2.2.1 d.2.2.2.2.2.2.2.2.2.2.2.2.2.2.2.2.2.2.2.2.2.2.2.2.2.2.2.2.2.2.2.2.2.2.2.2.2.2.2.2.1 d.2.2.2.2.2.2.2.2.2.2.2.2.2.2.2.2.2.2.2.2.2.2.2.2.2.2.2.2.2.2.2.2.2.2.2.2.2.2.2.2.2.1 d.2.2.2.2.2.2.2.2.2.2.2.2.2.2.2.2.2.2.2.2.2.2.2.2.2.2.2.2.2.2.2.2.2.2.2.2.2.2.2.2.2.2
@[irreducible] noncomputable def w := pick.1
@[irreducible] noncomputable def dp := pick.2.1
@[irreducible] noncomputable def un := pick.2.2.1
@[irreducible] noncomputable def gd := pick.2.2.2.1
@[irreducible] noncomputable def L := pick.2.2.2.2.1
@[irreducible] noncomputable def fa := pick.2.2.2.2.2.1
noncomputable def pickr1 := pick.2.2.2.2.2.2
@[irreducible] noncomputable def ccd := pickr1.1
@[irreducible] noncomputable def A₀ := pickr1.2.1
@[irreducible] noncomputable def base := pickr1.2.2.1
@[irreducible] noncomputable def h₀ := pickr1.2.2.2.1
@[irreducible] noncomputable def p := pickr1.2.2.2.2.1
@[irreducible] noncomputable def loose := pickr1.2.2.2.2.2.1
noncomputable def pickr2 := pickr1.2.2.2.2.2.2
@[irreducible] noncomputable def mean := pickr2.1
@[irreducible] noncomputable def mg := pickr2.2.1
@[irreducible] noncomputable def mb := pickr2.2.2.1
@[irreducible] noncomputable def m := pickr2.2.2.2.1
@[irreducible] noncomputable def s := pickr2.2.2.2.2.1
@[irreducible] noncomputable def Q := pickr2.2.2.2.2.2.1
noncomputable def pickr3 := pickr2.2.2.2.2.2.2
@[irreducible] noncomputable def E := pickr3.1
@[irreducible] noncomputable def F := pickr3.2.1
@[irreducible] noncomputable def V := pickr3.2.2.1
@[irreducible] noncomputable def U1 := pickr3.2.2.2.1
@[irreducible] noncomputable def x1 := pickr3.2.2.2.2.1
@[irreducible] noncomputable def wl := pickr3.2.2.2.2.2.1
noncomputable def pickr4 := pickr3.2.2.2.2.2.2
@[irreducible] noncomputable def st := pickr4.1
@[irreducible] noncomputable def du := pickr4.2.1
@[irreducible] noncomputable def oW := pickr4.2.2.1
@[irreducible] noncomputable def oY := pickr4.2.2.2.1
@[irreducible] noncomputable def wlo := pickr4.2.2.2.2.1
@[irreducible] noncomputable def sto := pickr4.2.2.2.2.2.1
noncomputable def pickr5 := pickr4.2.2.2.2.2.2
@[irreducible] noncomputable def c0 := pickr5.1
@[irreducible] noncomputable def its := pickr5.2.1
@[irreducible] noncomputable def stis := pickr5.2.2.1
@[irreducible] noncomputable def nw := pickr5.2.2.2.1
@[irreducible] noncomputable def ns := pickr5.2.2.2.2.1
@[irreducible] noncomputable def nd := pickr5.2.2.2.2.2.1
noncomputable def pickr6 := pickr5.2.2.2.2.2.2
@[irreducible] noncomputable def Y := pickr6.1
@[irreducible] noncomputable def sts := pickr6.2.1
@[irreducible] noncomputable def hf := pickr6.2.2.1
@[irreducible] noncomputable def th := pickr6.2.2.2.1
@[irreducible] noncomputable def mk1 := pickr6.2.2.2.2.1
@[irreducible] noncomputable def b1 := pickr6.2.2.2.2.2.1
noncomputable def pickr7 := pickr6.2.2.2.2.2.2
@[irreducible] noncomputable def k1 := pickr7
theorem go : Stm w dp un gd L fa ccd A₀ base h₀ p loose mean mg mb m s Q E F V U1 x1 wl st du oW oY wlo sto c0 its stis nw ns nd Y sts hf th mk1 b1 k1 := by
  intro B KX TP hdp hun FR N hoY hne M1 apV hFV hcW hoW hwl hwc hwd hws hst hsc hsd hsts hdu e_steps e_half e_one e_due hf0 hYc hY hYn hstp cl1 hb1 hk1 ret
  refine kf ?_
  k_fill
  intro _
  refine wpAny_noRaise ?_
  (conv in (lawBody.drop 14) => whnf)
  (repeat' (first | walk_at "u" | ((fail_if_success with_reducible first | show G31 | show G9 | show G25 | show G26 | show G23); walk1)))
  refine nameX_C (by assumption) rfl (mct _ (List.mem_append_left _ hcW)) hoW ?_ rfl rfl
  (repeat' (first | walk_at "u" | ((fail_if_success with_reducible first | show G31 | show G9 | show G25 | show G26 | show G23); walk1)))
  have hwsV : WaysIn w V Y its := hws.mono hFV
  refine (answers_meets (V := (L + 4, oY) :: V) (U := U1) (qs := Y) M1 (mct _ hwl) hwc hwd (hwsV.mono fun e he => mct _ he) (fun y hy => ?_) hYn).call B (by assumption) KX (by assumption) TP rfl (room hdp) (room hun) ?_
  · exact le_small (hY y hy).2
  rintro r7 s7 W7 K7 F7 N7 ⟨a7, n7, rfl, rfl, ha7⟩
  simp only [List.cons_append] at N7
  (repeat' (first | walk_at "u" | ((fail_if_success with_reducible first | show G31 | show G9 | show G25 | show G26 | show G23); walk1)))
  refine ne_bools (by assumption) List.mem_cons_self (show (du, boolsObj (answers mk1 Y) nd) ∈ _ from mct _ (mct _ (List.mem_append_left _ hdu))) rfl (room0 hun) ?_
  (repeat' (first | walk_at "u" | ((fail_if_success with_reducible first | show G31 | show G9 | show G25 | show G26 | show G23); walk1)))
  refine mach_init.call B (by assumption) KX N7 TP rfl (room hdp) (room hun) ?_
  rintro r8 s8 W8 K8 F8 N8 ⟨x2, U2, rfl, rfl, ap8, M2⟩
  replace M2 := M2 F
  simp only [List.cons_append] at N8
  (repeat' (first | walk_at "u" | ((fail_if_success with_reducible first | show G31 | show G9 | show G25 | show G26 | show G23); walk1)))
  refine nameX_C (by assumption) rfl (mct _ (mct _ (List.mem_append_left _ (List.mem_append_left _ hcW)))) hoW ?_ rfl rfl
  (repeat' (first | walk_at "u" | ((fail_if_success with_reducible first | show G31 | show G9 | show G25 | show G26 | show G23); walk1)))
  refine (answers_meets (V := (a7, boolsObj (answers mk1 Y) n7) :: (L + 4, oY) :: (V ++ U1)) (U := U2) (qs := Y) M2 (mct _ (mct _ (List.mem_append_left _ hwl))) hwc hwd (hwsV.mono fun e he => mct _ (mct _ (List.mem_append_left _ he))) (fun y hy => ?_) hYn).call B (by assumption) KX (by assumption) TP rfl (room hdp) (room hun) ?_
  · exact le_small (hY y hy).2
  rintro r9 s9 W9 K9 F9 N9 ⟨a9, n9, rfl, rfl, ha9⟩
  simp only [List.cons_append] at N9
  (repeat' (first | walk_at "u" | ((fail_if_success with_reducible first | show G31 | show G9 | show G25 | show G26 | show G23); walk1)))
  refine true_in_bools (by assumption) List.mem_cons_self (answers_none Y) ?_
  (repeat' (first | walk_at "u" | ((fail_if_success with_reducible first | show G31 | show G9 | show G25 | show G26 | show G23); walk1)))
  have hret : ∀ s' m', Kin s9 s' → Fr h₀ L s'.heap m' → Q (.ret (.bool true)) s' := fun s' m' k f => ret s' m' (Kin.trans K7 (Kin.trans K8 (Kin.trans K9 k))) f
  have apU : Apart (V ++ U1) U2 := fun e he r hr => ap8 e (mct _ (mct _ he)) r hr
  refine tail17 (L := L) (th := th) (oY := oY) B KX TP hdp hun (F := F) (V := V) (U1 := U1) (U2 := U2) (by assumption) (news_drop N9 fun e he => ?_) hoY (fun e he => ?_) M1 M2 (Apart.join apV fun e he => apU e (List.mem_append_left _ he)) (fun e he => apU e (List.mem_append_right _ he)) hFV hcW hoW hwl hwc hwd hws hst hsc hsd hsts hdu ?_ ?_ ?_ ?_ ?_ hf0 hYc hY hYn hstp cl1 hb1 hk1 hret
  · refine sub_go he ?_
    walk_at "sub"
  · rcases List.mem_append.mp he with h | h
    · exact hne e (List.mem_append_left _ h)
    · rcases List.mem_append.mp h with h | h
      · exact hne e (List.mem_append_right _ h)
      · exact Ne.symm (ap8 (L + 4, oY) (mct _ List.mem_cons_self) e h)
  · refine (if_neg (by decide)).trans ?_; assumption
  · refine (if_neg (by decide)).trans ?_; assumption
  · refine (if_neg (by decide)).trans ?_; assumption
  · exact if_pos rfl
  · refine (if_neg (by decide)).trans ?_; assumption
theorem all (x : Dat) : Stm x.1 x.2.1 x.2.2.1 x.2.2.2.1 x.2.2.2.2.1 x.2.2.2.2.2.1 x.2.2.2.2.2.2.1 x.2.2.2.2.2.2.2.1 x.2.2.2.2.2.2.2.2.1 x.2.2.2.2.2.2.2.2.2.1 x.2.2.2.2.2.2.2.2.2.2.1 x.2.2.2.2.2.2.2.2.2.2.2.1 x.2.2.2.2.2.2.2.2.2.2.2.2.1 x.2.2.2.2.2.2.2.2.2.2.2.2.2.1 x.2.2.2.2.2.2.2.2.2.2.2.2.2.2.1 x.2.2.2.2.2.2.2.2.2.2.2.2.2.2.2.1 x.2.2.2.2.2.2.2.2.2.2.2.2.2.2.2.2.1 x.2.2.2.2.2.2.2.2.2.2.2.2.2.2.2.2.2.1 x.2.2.2.2.2.2.2.2.2.2.2.2.2.2.2.2.2.2.1 x.2.2.2.2.2.2.2.2.2.2.2.2.2.2.2.2.2.2.2.1 x.2.2.2.2.2.2.2.2.2.2.2.2.2.2.2.2.2.2.2.2.1 x.2.2.2.2.2.2.2.2.2.2.2.2.2.2.2.2.2.2.2.2.2.1 x.2.2.2.2.2.2.2.2.2.2.2.2.2.2.2.2.2.2.2.2.2.2.1 x.2.2.2.2.2.2.2.2.2.2.2.2.2.2.2.2.2.2.2.2.2.2.2.1 x.2.2.2.2.2.2.2.2.2.2.2.2.2.2.2.2.2.2.2.2.2.2.2.2.1 x.2.2.2.2.2.2.2.2.2.2.2.2.2.2.2.2.2.2.2.2.2.2.2.2.2.1 x.2.2.2.2.2.2.2.2.2.2.2.2.2.2.2.2.2.2.2.2.2.2.2.2.2.2.1 x.2.2.2.2.2.2.2.2.2.2.2.2.2.2.2.2.2.2.2.2.2.2.2.2.2.2.2.1 x.2.2.2.2.2.2.2.2.2.2.2.2.2.2.2.2.2.2.2.2.2.2.2.2.2.2.2.2.1 x.2.2.2.2.2.2.2.2.2.2.2.2.2.2.2.2.2.2.2.2.2.2.2.2.2.2.2.2.2.1 x.2.2.2.2.2.2.2.2.2.2.2.2.2.2.2.2.2.2.2.2.2.2.2.2.2.2.2.2.2.2.1 x.2.2.2.2.2.2.2.2.2.2.2.2.2.2.2.2.2.2.2.2.2.2.2.2.2.2.2.2.2.2.2.1 x.2.2.2.2.2.2.2.2.2.2.2.2.2.2.2.2.2.2.2.2.2.2.2.2.2.2.2.2.2.2.2.2.1 x.2.2.2.2.2.2.2.2.2.2.2.2.2.2.2.2.2.2.2.2.2.2.2.2.2.2.2.2.2.2.2.2.2.1 x.2.2.2.2.2.2.2.2.2.2.2.2.2.2.2.2.2.2.2.2.2.2.2.2.2.2.2.2.2.2.2.2.2.2.1 x.2.2.2.2.2.2.2.2.2.2.2.2.2.2.2.2.2.2.2.2.2.2.2.2.2.2.2.2.2.2.2.2.2.2.2.1 x.2.2.2.2.2.2.2.2.2.2.2.2.2.2.2.2.2.2.2.2.2.2.2.2.2.2.2.2.2.2.2.2.2.2.2.2.1 x.2.2.2.2.2.2.2.2.2.2.2.2.2.2.2.2.2.2.2.2.2.2.2.2.2.2.2.2.2.2.2.2.2.2.2.2.2.1 x.2.2.2.2.2.2.2.2.2.2.2.2.2.2.2.2.2.2.2.2.2.2.2.2.2.2.2.2.2.2.2.2.2.2.2.2.2.2.1 x.2.2.2.2.2.2.2.2.2.2.2.2.2.2.2.2.2.2.2.2.2.2.2.2.2.2.2.2.2.2.2.2.2.2.2.2.2.2.2.1 x.2.2.2.2.2.2.2.2.2.2.2.2.2.2.2.2.2.2.2.2.2.2.2.2.2.2.2.2.2.2.2.2.2.2.2.2.2.2.2.2.1 x.2.2.2.2.2.2.2.2.2.2.2.2.2.2.2.2.2.2.2.2.2.2.2.2.2.2.2.2.2.2.2.2.2.2.2.2.2.2.2.2.2.1 x.2.2.2.2.2.2.2.2.2.2.2.2.2.2.2.2.2.2.2.2.2.2.2.2.2.2.2.2.2.2.2.2.2.2.2.2.2.2.2.2.2.2 := eps_all ne (fun x => Stm x.1 x.2.1 x.2.2.1 x.2.2.2.1 x.2.2.2.2.1 x.2.2.2.2.2.1 x.2.2.2.2.2.2.1 x.2.2.2.2.2.2.2.1 x.2.2.2.2.2.2.2.2.1 x.2.2.2.2.2.2.2.2.2.1 x.2.2.2.2.2.2.2.2.2.2.1 x.2.2.2.2.2.2.2.2.2.2.2.1 x.2.2.2.2.2.2.2.2.2.2.2.2.1 x.2.2.2.2.2.2.2.2.2.2.2.2.2.1 x.2.2.2.2.2.2.2.2.2.2.2.2.2.2.1 x.2.2.2.2.2.2.2.2.2.2.2.2.2.2.2.1 x.2.2.2.2.2.2.2.2.2.2.2.2.2.2.2.2.1 x.2.2.2.2.2.2.2.2.2.2.2.2.2.2.2.2.2.1 x.2.2.2.2.2.2.2.2.2.2.2.2.2.2.2.2.2.2.1 x.2.2.2.2.2.2.2.2.2.2.2.2.2.2.2.2.2.2.2.1 x.2.2.2.2.2.2.2.2.2.2.2.2.2.2.2.2.2.2.2.2.1 x.2.2.2.2.2.2.2.2.2.2.2.2.2.2.2.2.2.2.2.2.2.1 x.2.2.2.2.2.2.2.2.2.2.2.2.2.2.2.2.2.2.2.2.2.2.1 x.2.2.2.2.2.2.2.2.2.2.2.2.2.2.2.2.2.2.2.2.2.2.2.1 x.2.2.2.2.2.2.2.2.2.2.2.2.2.2.2.2.2.2.2.2.2.2.2.2.1 x.2.2.2.2.2.2.2.2.2.2.2.2.2.2.2.2.2.2.2.2.2.2.2.2.2.1 x.2.2.2.2.2.2.2.2.2.2.2.2.2.2.2.2.2.2.2.2.2.2.2.2.2.2.1 x.2.2.2.2.2.2.2.2.2.2.2.2.2.2.2.2.2.2.2.2.2.2.2.2.2.2.2.1 x.2.2.2.2.2.2.2.2.2.2.2.2.2.2.2.2.2.2.2.2.2.2.2.2.2.2.2.2.1 x.2.2.2.2.2.2.2.2.2.2.2.2.2.2.2.2.2.2.2.2.2.2.2.2.2.2.2.2.2.1 x.2.2.2.2.2.2.2.2.2.2.2.2.2.2.2.2.2.2.2.2.2.2.2.2.2.2.2.2.2.2.1 x.2.2.2.2.2.2.2.2.2.2.2.2.2.2.2.2.2.2.2.2.2.2.2.2.2.2.2.2.2.2.2.1 x.2.2.2.2.2.2.2.2.2.2.2.2.2.2.2.2.2.2.2.2.2.2.2.2.2.2.2.2.2.2.2.2.1 x.2.2.2.2.2.2.2.2.2.2.2.2.2.2.2.2.2.2.2.2.2.2.2.2.2.2.2.2.2.2.2.2.2.1 x.2.2.2.2.2.2.2.2.2.2.2.2.2.2.2.2.2.2.2.2.2.2.2.2.2.2.2.2.2.2.2.2.2.2.1 x.2.2.2.2.2.2.2.2.2.2.2.2.2.2.2.2.2.2.2.2.2.2.2.2.2.2.2.2.2.2.2.2.2.2.2.1 x.2.2.2.2.2.2.2.2.2.2.2.2.2.2.2.2.2.2.2.2.2.2.2.2.2.2.2.2.2.2.2.2.2.2.2.2.1 x.2.2.2.2.2.2.2.2.2.2.2.2.2.2.2.2.2.2.2.2.2.2.2.2.2.2.2.2.2.2.2.2.2.2.2.2.2.1 x.2.2.2.2.2.2.2.2.2.2.2.2.2.2.2.2.2.2.2.2.2.2.2.2.2.2.2.2.2.2.2.2.2.2.2.2.2.2.1 x.2.2.2.2.2.2.2.2.2.2.2.2.2.2.2.2.2.2.2.2.2.2.2.2.2.2.2.2.2.2.2.2.2.2.2.2.2.2.2.1 x.2.2.2.2.2.2.2.2.2.2.2.2.2.2.2.2.2.2.2.2.2.2.2.2.2.2.2.2.2.2.2.2.2.2.2.2.2.2.2.2.1 x.2.2.2.2.2.2.2.2.2.2.2.2.2.2.2.2.2.2.2.2.2.2.2.2.2.2.2.2.2.2.2.2.2.2.2.2.2.2.2.2.2.1 x.2.2.2.2.2.2.2.2.2.2.2.2.2.2.2.2.2.2.2.2.2.2.2.2.2.2.2.2.2.2.2.2.2.2.2.2.2.2.2.2.2.2) (by with_unfolding_all exact go) x
end E_tail14
theorem tail14 {w : World} {dp : Nat} {un : Nat} {gd : Option (List Code)} {L : Nat} {fa : Addr} {ccd : Value} {A₀ : Around} {base : Heap} {h₀ : Heap} {p : PySem.Program} {loose : List Str} {mean : ExcName → Option Value} {mg : Str → Option Value} {mb : Str → Option Value} {m : Str → Option Value} {s : Shared} {Q : Flow → Shared → Prop} {E : Value → Shared → Prop} {F : Led} {V : Led} {U1 : Led} {x1 : Addr} {wl : Addr} {st : Addr} {du : Addr} {oW : Obj} {oY : Obj} {wlo : Obj} {sto : Obj} {c0 : Option Value} {its : List Value} {stis : List Value} {nw : Nat} {ns : Nat} {nd : Nat} {Y : List (List Str)} {sts : List (Int × List Str)} {hf : Int} {th : Tok} {mk1 : Marks} {b1 : Nat} {k1 : Nat}  (B : Below A₀ base [] h₀) (KX : (hd.heap_39 w.params).In h₀) (TP : Top p loose mean mg mb h₀) (hdp : dp + 40 < recursionLimit) (hun : un + 400 < cLine) (FR : Fr h₀ L s.heap m) (N : News h₀ L s.heap ((L + 4, oY) :: (V ++ U1))) (hoY : oY.data = .cell c0) (hne : ∀ p ∈ V ++ U1, @Ne Nat p.1 (L + 4)) (M1 : Mach w F U1 x1 mk1 (fun _ => False) b1 k1) (apV : Apart V U1) (hFV : ∀ e ∈ F, e ∈ V) (hcW : (L + 3, oW) ∈ V) (hoW : oW.data = .cell (some (.ref wl))) (hwl : (wl, wlo) ∈ V) (hwc : wlo.cls = .type "list") (hwd : wlo.data = .seq its.toArray nw) (hws : WaysIn w F Y its) (hst : (st, sto) ∈ V) (hsc : sto.cls = .type "list") (hsd : sto.data = .seq stis.toArray ns) (hsts : StepsIn w F sts stis) (hdu : (du, boolsObj (answers mk1 Y) nd) ∈ V) (e_steps : m (Str.ofString "steps") = some (.ref st)) (e_half : m (Str.ofString "half") = some (.int hf th)) (e_one : m (Str.ofString "one") = some (.ref x1)) (e_due : m (Str.ofString "due") = some (.ref du)) (hf0 : 0 ≤ hf) (hYc : Closed Y) (hY : ∀ y ∈ Y, cc ∉ y ∧ y.length ≤ 25) (hYn : Y.length < 20000) (hstp : ∀ k ∈ sts, k.2 ∈ Y ∧ (k.1.fmod 5 ≠ 3 → k.2 ≠ [])) (cl1 : Clean mk1) (hb1 : b1 + 25 * sts.length < 5000000) (hk1 : k1 + sts.length < 70) (ret : ∀ s' m', Kin s s' → Fr h₀ L s'.heap m' → Q (.ret (.bool true)) s') : wpAny (model PP w) (ktrTop dp un gd (Str.ofString "law") lawScope L fa ccd (lawCells L) []) (execs (lawBody.drop 14) (envX (Str.ofString "law") lawScope L fa ccd (lawCells L))) Q E s :=
  E_tail14.all (w, dp, un, gd, L, fa, ccd, A₀, base, h₀, p, loose, mean, mg, mb, m, s, Q, E, F, V, U1, x1, wl, st, du, oW, oY, wlo, sto, c0, its, stis, nw, ns, nd, Y, sts, hf, th, mk1, b1, k1) B KX TP hdp hun FR N hoY hne M1 apV hFV hcW hoW hwl hwc hwd hws hst hsc hsd hsts hdu e_steps e_half e_one e_due hf0 hYc hY hYn hstp cl1 hb1 hk1 ret
end

section
open PySem PySem.W PyProof.Rows
theorem way_off {w : World} {W : Led} {h₀ h : Heap} {L a d : Nat} {o : Obj} {q : List Str} (N : News h₀ L h W) (K : WayIn w W a q) (hm : (d, o) ∈ W) (ho : o.cls = .type "tuple" → ∀ its n, o.data ≠ .seq its n) : @Ne Nat a d := by
  rintro rfl
  obtain ⟨o', its, n, hm', hc, hd, _⟩ := K
  have e : o' = o := news_fun N hm' hm
  subst e
  exact ho hc _ _ hd
namespace E_tail12
noncomputable abbrev Dat : Type := (World) × (Nat) × (Nat) × (Option (List Code)) × (Nat) × (Addr) × (Value) × (Around) × (Heap) × (Heap) × (PySem.Program) × (List Str) × (ExcName → Option Value) × (Str → Option Value) × (Str → Option Value) × (Str → Option Value) × (Shared) × (Flow → Shared → Prop) × (Value → Shared → Prop) × (Led) × (Led) × (Led) × (Addr) × (Addr) × (Addr) × (Addr) × (Obj) × (Obj) × (Obj) × (Obj) × (Obj) × (Obj) × (Option Value) × (Option Value) × (List Value) × (List Value) × (List Value) × (Nat) × (Nat) × (Nat) × (List (List Str)) × (List (Int × List Str)) × (ML) × (Int) × (Tok) × (Marks) × (Nat) × (Nat)
theorem ne : Nonempty Dat := ⟨({ draws := fun _ _ => 0, params := { strHash := fun _ => 0, shareClass := fun _ => 0, mergeTok := id, idOf := fun _ => 0, idOfShared := fun _ _ => 0, followText := fun _ => false, idOfImm := fun _ => 0 } }, default, default, default, default, default, default, {}, default, default, default, default, default, default, default, default, {}, default, default, default, default, default, default, default, default, default, default, default, default, default, default, default, default, default, default, default, default, default, default, default, default, default, default, default, default, default, default, default)⟩
noncomputable def Stm (w : World) (dp : Nat) (un : Nat) (gd : Option (List Code)) (L : Nat) (fa : Addr) (ccd : Value) (A₀ : Around) (base : Heap) (h₀ : Heap) (p : PySem.Program) (loose : List Str) (mean : ExcName → Option Value) (mg : Str → Option Value) (mb : Str → Option Value) (m : Str → Option Value) (s : Shared) (Q : Flow → Shared → Prop) (E : Value → Shared → Prop) (F : Led) (V : Led) (U1 : Led) (x1 : Addr) (wl : Addr) (st : Addr) (ma : Addr) (oW : Obj) (oY : Obj) (oA : Obj) (wlo : Obj) (sto : Obj) (mo : Obj) (c0 : Option Value) (cA : Option Value) (its : List Value) (stis : List Value) (mits : List Value) (nw : Nat) (ns : Nat) (nm : Nat) (Y : List (List Str)) (sts : List (Int × List Str)) (l : ML) (hf : Int) (th : Tok) (mk1 : Marks) (b1 : Nat) (k1 : Nat) : Prop := ∀  (B : Below A₀ base [] h₀) (KX : (hd.heap_39 w.params).In h₀) (TP : Top p loose mean mg mb h₀) (hdp : dp + 40 < recursionLimit) (hun : un + 400 < cLine) (FR : Fr h₀ L s.heap m) (N : News h₀ L s.heap ((L + 4, oY) :: (L + 5, oA) :: (V ++ U1))) (hoY : oY.data = .cell c0) (hoA : oA.data = .cell cA) (hne : ∀ p ∈ V ++ U1, @Ne Nat p.1 (L + 4)) (hneA : ∀ p ∈ V ++ U1, @Ne Nat p.1 (L + 5)) (M1 : Mach w F U1 x1 mk1 (fun _ => False) b1 k1) (apV : Apart V U1) (hFV : ∀ e ∈ F, e ∈ V) (hcW : (L + 3, oW) ∈ V) (hoW : oW.data = .cell (some (.ref wl))) (hwl : (wl, wlo) ∈ V) (hwc : wlo.cls = .type "list") (hwd : wlo.data = .seq its.toArray nw) (hws : WaysIn w F Y its) (hst : (st, sto) ∈ V) (hsc : sto.cls = .type "list") (hsd : sto.data = .seq stis.toArray ns) (hsts : StepsIn w F sts stis) (hma : (ma, mo) ∈ V) (hmc : mo.cls = .type "list") (hmd : mo.data = .seq mits.toArray nm) (hms : MarksIn w V l mits) (hll : l.length < 1000) (hlp : ∀ k ∈ l, k.1.length < 500) (rep : RepM mk1 l) (e_steps : m (Str.ofString "steps") = some (.ref st)) (e_half : m (Str.ofString "half") = some (.int hf th)) (e_one : m (Str.ofString "one") = some (.ref x1)) (e_marks : m (Str.ofString "marks") = some (.ref ma)) (hf0 : 0 ≤ hf) (hYc : Closed Y) (hY : ∀ y ∈ Y, cc ∉ y ∧ y.length ≤ 25) (hYn : Y.length < 19000) (hstp : ∀ k ∈ sts, k.2 ∈ Y ∧ (k.1.fmod 5 ≠ 3 → k.2 ≠ [])) (cl1 : Clean mk1) (hb1 : b1 + 25 * sts.length < 5000000) (hk1 : k1 + sts.length < 70) (ret : ∀ s' m', Kin s s' → Fr h₀ L s'.heap m' → Q (.ret (.bool true)) s'), wpAny (model PP w) (ktrTop dp un gd (Str.ofString "law") lawScope L fa ccd (lawCells L) []) (execs (lawBody.drop 12) (envX (Str.ofString "law") lawScope L fa ccd (lawCells L))) Q E s
@[irreducible] noncomputable def pick : Dat := @Classical.epsilon Dat ne fun d => ¬ Stm d.1 d.2.1 d.2.2.1 d.2.2.2.1 d.2.2.2.2.1 d.2.2.2.2.2.1 d.2.2.2.2.2.2.1 d.2.2.2.2.2.2.2.1 d.2.2.2.2.2.2.2.2.1 d.2.2.2.2.2.2.2.2.2.1 d.2.2.2.2.2.2.2.2.2.2.1 d.2.2.2.2.2.2.2.2.2.2.2.1 d.2.2.2.2.2.2.2.2.2.2.2.2.1 d.2.2.2.2.2.2.2.2.2.2.2.2.2.1 d.2.2.2.2.2.2.2.2.2.2.2.2.2.2.1 d.2.2.2.2.2.2.2.2.2.2.2.2.2.2.2.1 d.2.2.2.2.2.2.2.2.2.2.2.2.2.2.2.2.1 d.2.2.2.2.2.2.2.2.2.2.2.2.2.2.2.2.2.1 d.2.2.2.2.2.2.2.2.2.2.2.2.2.2.2.2.2.2.1 d.2.2.2.2.2.2.2.2.2.2.2.2.2.2.2.2.2.2.2.1 d.2.2.2.2.2.2.2.2.2.2.2.2.2.2.2.2.2.2.2.2.1 d.2.2.2.2.2.2.2.2.2.2.2.2.2.2.2.2.2.2.2.2.2.1 d.2.2.2.2.2.2.2.2.2.2.2.2.2.2.2.2.2.2.2.2.2.2.1 d.2.2.2.2.2.2.2.2.2.2.2.2.2.2.2.2.2.2.2.2.2.2.2.1 d.2.2.2.2.2.2.2.2.2.2.2.2.2.2.2.2.2.2.2.2.2.2.2.2.1 d.2.2.2.2.2.2.2.2.2.2.2.2.2.2.2.2.2.2.2.2.2.2.2.2.2.1 d.2.2.2.2.2.2.2.2.2.2.2.2.2.2.2.2.2.2.2.2.2.2.2.2.2.2.1 d.2.2.2.2.2.2.2.2.2.2.2.2.2.2.2.2.2.2.2.2.2.2.2.2.2.2.2.1 d.2.2.2.2.2.2.2.2.2.2.2.2.2.2.2.2.2.2.2.2.2.2.2.2.2.2.2.2.1 d.2.2.2.2.2.2.2.2.2.2.2.2.2.2.2.2.2.2.2.2.2.2.2.2.2.2.2.2.2.1 d.2.2.2.2.2.2.2.2.2.2.2.2.2.2.2.2.2.2.2.2.2.2.2.2.2.2.2.2.2.2.1 d.2.2.2.2.2.2.2.2.2.2.2.2.2.2.2.2.2.2.2.2.2.2.2.2.2.2.2.2.2.2.2.1 d.2.2.2.2.2.2.2.2.2.2.2.2.2.2.2.2.2.2.2.2.2.2.2.2.2.2.2.2.2.2.2.2.1 d.2.2.2.2.2.2.2.2.2.2.2.2.2.2.2.2.2.2.2.2.2.2.2.2.2.2.2.2.2.2.2.2.2.1 d.2.2.2.2.2.2.2.2.2.2.2.2.2.2.2.2.2.2.2.2.2.2.2.2.2.2.2.2.2.2.2.2.2.2.1 d.2.2.2.2.2.2.2.2.2.2.2.2.2.2.2.2.2.2.2.2.2.2.2.2.2.2.2.2.2.2.2.2.2.2.2.1 d.2.2.2.2.2.2.2.2.2.2.2.2.2.2.2.2.2.2.2.2.2.2.2.2.2.2.2.2.2.2.2.2.2.2.2.2.1 d.2.2.2.2.2.2.2.2.2.2.2.2.2.2.2.2.2.2.2.2.2.2.2.2.2.2.2.2.2.2.2.2.2.2.2.2.2.1 d.2.2.2.2.2.2.2.2.2.2.2.2.2.2.2.2.2.2.2.2.2.2.2.2.2.2.2.2.2.2.2.2.2.2.2.2.2.2.1 d.2.2.2.2.2.2.2.2.2.2.2.2.2.2.2.2.2.2.2.2.2.2.2.2.2.2.2.2.2.2.2.2.2.2.2.2.2.2.2.1 d.2.2.2.2.2.2.2.2.2.2.2.2.2.2.2.2.2.2.2.2.2.2.2.2.2.2.2.2.2.2.2.2.2.2.2.2.2.2.2.2.1 d.2.2.2.2.2.2.2.2.2.2.2.2.2.2.2.2.2.2.2.2.2.2.2.2.2.2.2.2.2.2.2.2.2.2.2.2.2.2.2.2.2.1 d.2.2.2.2.2.2.2.2.2.2.2.2.2.2.2.2.2.2.2.2.2.2.2.2.2.2.2.2.2.2.2.2.2.2.2.2.2.2.2.2.2.2.1 d.2.2.2.2.2.2.2.2.2.2.2.2.2.2.2.2.2.2.2.2.2.2.2.2.2.2.2.2.2.2.2.2.2.2.2.2.2.2.2.2.2.2.2.1 d.2.2.2.2.2.2.2.2.2.2.2.2.2.2.2.2.2.2.2.2.2.2.2.2.2.2.2.2.2.2.2.2.2.2.2.2.2.2.2.2.2.2.2.2.1 d.2.2.2.2.2.2.2.2.2.2.2.2.2.2.2.2.2.2.2.2.2.2.2.2.2.2.2.2.2.2.2.2.2.2.2.2.2.2.2.2.2.2.2.2.2.1 d.2.2.2.2.2.2.2.2.2.2.2.2.2.2.2.2.2.2.2.2.2.2.2.2.2.2.2.2.2.2.2.2.2.2.2.2.2.2.2.2.2.2.2.2.2.2.1 d.2.2.2.2.2.2.2.2.2.2.2.2.2.2.2.2.2.2.2.2.2.2.2.2.2.2.2.2.2.2.2.2.2.2.2.2.2.2.2.2.2.2.2.2.2.2.2
@[irreducible] noncomputable def w := pick.1
@[irreducible] noncomputable def dp := pick.2.1
@[irreducible] noncomputable def un := pick.2.2.1
@[irreducible] noncomputable def gd := pick.2.2.2.1
@[irreducible] noncomputable def L := pick.2.2.2.2.1
@[irreducible] noncomputable def fa := pick.2.2.2.2.2.1
noncomputable def pickr1 := pick.2.2.2.2.2.2
@[irreducible] noncomputable def ccd := pickr1.1
@[irreducible] noncomputable def A₀ := pickr1.2.1
@[irreducible] noncomputable def base := pickr1.2.2.1
@[irreducible] noncomputable def h₀ := pickr1.2.2.2.1
@[irreducible] noncomputable def p := pickr1.2.2.2.2.1
@[irreducible] noncomputable def loose := pickr1.2.2.2.2.2.1
noncomputable def pickr2 := pickr1.2.2.2.2.2.2
@[irreducible] noncomputable def mean := pickr2.1
@[irreducible] noncomputable def mg := pickr2.2.1
@[irreducible] noncomputable def mb := pickr2.2.2.1
@[irreducible] noncomputable def m := pickr2.2.2.2.1
@[irreducible] noncomputable def s := pickr2.2.2.2.2.1
@[irreducible] noncomputable def Q := pickr2.2.2.2.2.2.1
noncomputable def pickr3 := pickr2.2.2.2.2.2.2
@[irreducible] noncomputable def E := pickr3.1
@[irreducible] noncomputable def F := pickr3.2.1
@[irreducible] noncomputable def V := pickr3.2.2.1
@[irreducible] noncomputable def U1 := pickr3.2.2.2.1
@[irreducible] noncomputable def x1 := pickr3.2.2.2.2.1
@[irreducible] noncomputable def wl := pickr3.2.2.2.2.2.1
noncomputable def pickr4 := pickr3.2.2.2.2.2.2
@[irreducible] noncomputable def st := pickr4.1
@[irreducible] noncomputable def ma := pickr4.2.1
@[irreducible] noncomputable def oW := pickr4.2.2.1
@[irreducible] noncomputable def oY := pickr4.2.2.2.1
@[irreducible] noncomputable def oA := pickr4.2.2.2.2.1
@[irreducible] noncomputable def wlo := pickr4.2.2.2.2.2.1
noncomputable def pickr5 := pickr4.2.2.2.2.2.2
@[irreducible] noncomputable def sto := pickr5.1
@[irreducible] noncomputable def mo := pickr5.2.1
@[irreducible] noncomputable def c0 := pickr5.2.2.1
@[irreducible] noncomputable def cA := pickr5.2.2.2.1
@[irreducible] noncomputable def its := pickr5.2.2.2.2.1
@[irreducible] noncomputable def stis := pickr5.2.2.2.2.2.1
noncomputable def pickr6 := pickr5.2.2.2.2.2.2
@[irreducible] noncomputable def mits := pickr6.1
@[irreducible] noncomputable def nw := pickr6.2.1
@[irreducible] noncomputable def ns := pickr6.2.2.1
@[irreducible] noncomputable def nm := pickr6.2.2.2.1
@[irreducible] noncomputable def Y := pickr6.2.2.2.2.1
@[irreducible] noncomputable def sts := pickr6.2.2.2.2.2.1
noncomputable def pickr7 := pickr6.2.2.2.2.2.2
@[irreducible] noncomputable def l := pickr7.1
@[irreducible] noncomputable def hf := pickr7.2.1
@[irreducible] noncomputable def th := pickr7.2.2.1
@[irreducible] noncomputable def mk1 := pickr7.2.2.2.1
@[irreducible] noncomputable def b1 := pickr7.2.2.2.2.1
@[irreducible] noncomputable def k1 := pickr7.2.2.2.2.2
theorem go : Stm w dp un gd L fa ccd A₀ base h₀ p loose mean mg mb m s Q E F V U1 x1 wl st ma oW oY oA wlo sto mo c0 cA its stis mits nw ns nm Y sts l hf th mk1 b1 k1 := by
  intro B KX TP hdp hun FR N hoY hoA hne hneA M1 apV hFV hcW hoW hwl hwc hwd hws hst hsc hsd hsts hma hmc hmd hms hll hlp rep e_steps e_half e_one e_marks hf0 hYc hY hYn hstp cl1 hb1 hk1 ret
  refine kf ?_
  k_fill
  intro _
  refine wpAny_noRaise ?_
  (conv in (lawBody.drop 12) => whnf)
  (repeat' (first | walk_at "u" | ((fail_if_success with_reducible first | show G32 | show G33 | show G34 | show G35 | show G25 | show G24 | show G27 | show G36 | show G2); walk1)))
  refine For_led (by assumption) ?_
  (repeat' (first | walk_at "u" | ((fail_if_success with_reducible first | show G32 | show G33 | show G34 | show G35 | show G25 | show G24 | show G27 | show G36 | show G2); walk1)))
  rename_i D h1 lD hA FA NA
  refine nameX_C (by assumption) rfl (mct _ (mct _ (mct _ (List.mem_append_left _ hcW)))) hoW ?_ rfl rfl
  have h4D : @LT.lt Nat _ (L + 4) D := lD.1
  have h5D : @LT.lt Nat _ (L + 5) D := lD.2.1
  have hVD : ∀ e ∈ V ++ U1, @LT.lt Nat _ e.1 D := fun e he => allLt_mem lD.2.2 e he
  have NA' : News h₀ L hA ((L + 4, oY) :: (L + 5, oA) :: (D, boolsObj (answers mk1 (Y.take 0)) 0) :: (V ++ U1)) := news_drop NA fun e he => by
    simp only [List.mem_cons] at he ⊢
    rcases he with h | h | h | h
    · exact .inr (.inl h)
    · exact .inr (.inr (.inl h))
    · exact .inl h
    · exact .inr (.inr (.inr h))
  clear NA
  obtain ⟨m₁, hm1⟩ : ∃ m₁ : Str → Option Value, m₁ = (fun y => if y = Str.ofString "due" then some (.ref D) else m y) := ⟨_, rfl⟩
  rw [← hm1] at FA
  have e_due : m₁ (Str.ofString "due") = some (.ref D) := by rw [hm1]; exact if_pos rfl
  have e_marks1 : m₁ (Str.ofString "marks") = some (.ref ma) := by rw [hm1]; exact (if_neg (by decide)).trans e_marks
  have e_steps1 : m₁ (Str.ofString "steps") = some (.ref st) := by rw [hm1]; exact (if_neg (by decide)).trans e_steps
  have e_half1 : m₁ (Str.ofString "half") = some (.int hf th) := by rw [hm1]; exact (if_neg (by decide)).trans e_half
  have e_one1 : m₁ (Str.ofString "one") = some (.ref x1) := by rw [hm1]; exact (if_neg (by decide)).trans e_one
  clear hm1
  refine iter_list (by rfl) FA NA' (mct _ (mct _ (mct _ (List.mem_append_left _ hwl)))) hwc hwd (fun i m' W' => ∃ oY oA c c' n u, W' = (L + 4, oY) :: (L + 5, oA) :: (D, boolsObj (answers mk1 (Y.take i)) n) :: (V ++ U1) ∧ oY.data = .cell c ∧ oA.data = .cell c' ∧ m' = (fun y => if y = Str.ofString "here" then u else m₁ y))
    ⟨oY, oA, c0, cA, 0, m₁ (Str.ofString "here"), rfl, hoY, hoA, ?_⟩ ?_ ?_ ?_
  · funext y
    by_cases h1 : y = Str.ofString "here"
    · subst h1; exact (if_pos rfl).symm
    · exact (if_neg h1).symm
  · rintro i m' W' ⟨oY, oA, c, c', n, u, rfl, _⟩
    exact mct _ (mct _ (mct _ (List.mem_append_left _ hwl)))
  · rintro i v m' W' oI s3 hv ⟨oY, oA, c, c', n, u, rfl, hoY, hoA, rfl⟩ hoff F3 N3 K3 hlow
    obtain ⟨qa, q, rfl, hq, hqa⟩ := hws.get hv
    have hqY : q ∈ Y := List.mem_of_getElem? hq
    obtain ⟨hqc, hql⟩ := hY q hqY
    have hiY : i < Y.length := (List.getElem?_eq_some_iff.mp hq).1
    intro Qo hQo
    show wpAny _ _ _ _ _ _
    (repeat' (first | walk_at "u" | ((fail_if_success with_reducible first | show G32 | show G33 | show G34 | show G35 | show G25 | show G24 | show G27 | show G36 | show G2); walk1)))
    have h4I : @LT.lt Nat _ (L + 4) hA.objs.size := hlow (L + 4, _) List.mem_cons_self
    have h5I : @LT.lt Nat _ (L + 5) hA.objs.size := hlow (L + 5, _) (mct _ List.mem_cons_self)
    have hDI : @LT.lt Nat _ D hA.objs.size := hlow (D, _) (mct _ (mct _ List.mem_cons_self))
    have hVI : ∀ e ∈ V ++ U1, @LT.lt Nat _ e.1 hA.objs.size := fun e he => hlow e (mct _ (mct _ (mct _ he)))
    refine cell_store (c := L + 4) (o := oY) (W := (hA.objs.size, oI) :: (L + 5, oA) :: (D, boolsObj (answers mk1 (Y.take i)) n) :: (V ++ U1)) (by assumption) (news_drop (by assumption) fun e he => ?_) rfl ?_ hoY (fun o4 s4 K4 ho4 F4 N4 => ?_) rfl rfl
    · refine sub_go he ?_
      walk_at "sub"
    · intro e he
      refine all_cons he ?_ fun he => all_cons he ?_ fun he => all_cons he ?_ fun he => ?_
      · exact Nat.ne_of_gt h4I
      · exact Nat.succ_ne_self (L + 4)
      · exact Nat.ne_of_gt h4D
      · exact hne e he
    (repeat' (first | walk_at "u" | ((fail_if_success with_reducible first | show G32 | show G33 | show G34 | show G35 | show G25 | show G24 | show G27 | show G36 | show G2); walk1)))
    refine For_led (by assumption) ?_
    (repeat' (first | walk_at "u" | ((fail_if_success with_reducible first | show G32 | show G33 | show G34 | show G35 | show G25 | show G24 | show G27 | show G36 | show G2); walk1)))
    refine nameX_C (by assumption) rfl List.mem_cons_self ho4 ?_ rfl rfl
    (repeat' (first | walk_at "u" | ((fail_if_success with_reducible first | show G32 | show G33 | show G34 | show G35 | show G25 | show G24 | show G27 | show G36 | show G2); walk1)))
    refine nameX_C (by assumption) rfl List.mem_cons_self ho4 ?_ rfl rfl
    (repeat' (first | walk_at "u" | ((fail_if_success with_reducible first | show G32 | show G33 | show G34 | show G35 | show G25 | show G24 | show G27 | show G36 | show G2); walk1)))
    rename_i Tc hc5 F5 N5 l5
    have KTc : WayIn w ((Tc, ({ cls := .type "tuple", data := .seq #[.str (Str.ofString "c") s4.toks] } : Obj)) :: (L + 4, o4) :: (hA.objs.size, oI) :: (L + 5, oA) :: (D, boolsObj (answers mk1 (Y.take i)) n) :: (V ++ U1)) Tc [cc] := ⟨_, [.str (Str.ofString "c") s4.toks], 0, List.mem_cons_self, rfl, rfl, .cons (strKind_is PP w _ _) .nil⟩
    have Kq5 : WayIn w ((Tc, ({ cls := .type "tuple", data := .seq #[.str (Str.ofString "c") s4.toks] } : Obj)) :: (L + 4, o4) :: (hA.objs.size, oI) :: (L + 5, oA) :: (D, boolsObj (answers mk1 (Y.take i)) n) :: (V ++ U1)) qa q := hqa.mono fun e he => by (have h9 := hFV e he; walk_at "mem")
    refine way_add (by assumption) (by assumption) Kq5 KTc (by simp; omega) fun c1 o1 s6 K6 F6 N6 KW6 ap6 hd6 => ?_
    have hc1D : @Ne Nat c1 D := way_off N6 KW6 (d := D) (o := boolsObj (answers mk1 (Y.take i)) n) (by walk_at "mem") (fun e => absurd (Value.type.inj e) (by decide))
    have hc15 : @Ne Nat c1 (L + 5) := way_off N6 KW6 (d := L + 5) (o := oA) (by walk_at "mem") (fun _ a b e => by rw [hoA] at e; cases e)
    have hc14 : @Ne Nat c1 (L + 4) := way_off N6 KW6 (d := L + 4) (o := o4) (by walk_at "mem") (fun _ a b e => by rw [ho4] at e; cases e)
    have KcU : ∀ W' : Led, (∀ e ∈ W', e ∈ (c1, o1) :: W') → ((c1, o1) ∈ W') → WayIn w W' c1 (q ++ [cc]) := by
      intro W' _ hm
      obtain ⟨o', its', n', hm', r⟩ := KW6
      have e : o' = o1 := news_fun N6 hm' List.mem_cons_self
      subst e
      exact ⟨o', its', n', hm, r⟩
    (repeat' (first | walk_at "u" | ((fail_if_success with_reducible first | show G32 | show G33 | show G34 | show G35 | show G25 | show G24 | show G27 | show G36 | show G2); walk1)))
    rename_i T h7 F7 N7 l7
    have hT5 : @LT.lt Nat _ (L + 5) T := l7.2.2.2.2.1
    have hT4 : @LT.lt Nat _ (L + 4) T := l7.2.2.1
    have hTD : @LT.lt Nat _ D T := l7.2.2.2.2.2.1
    have hTI : @LT.lt Nat _ hA.objs.size T := l7.2.2.2.1
    obtain ⟨X, hX⟩ : ∃ X, X = (T, ({ cls := .type "tuple", data := .seq #[.ref qa, .ref c1] } : Obj)) :: (c1, o1) :: (L + 4, o4) :: (hA.objs.size, oI) :: (V ++ U1) := ⟨_, rfl⟩
    have hX5 : ∀ e ∈ X, @Ne Nat e.1 (L + 5) := fun e he => by
      rw [hX] at he
      refine all_cons he ?_ fun he => all_cons he ?_ fun he => all_cons he ?_ fun he => all_cons he ?_ fun he => ?_
      · exact Nat.ne_of_gt hT5
      · exact hc15
      · exact Nat.ne_of_lt (Nat.lt_succ_self (L + 4))
      · exact Nat.ne_of_gt h5I
      · exact hneA e he
    have hXD : ∀ e ∈ X, @Ne Nat e.1 D := fun e he => by
      rw [hX] at he
      refine all_cons he ?_ fun he => all_cons he ?_ fun he => all_cons he ?_ fun he => all_cons he ?_ fun he => ?_
      · exact Nat.ne_of_gt hTD
      · exact hc1D
      · exact Nat.ne_of_lt h4D
      · exact Nat.ne_of_gt hDI
      · exact Nat.ne_of_lt (hVD e he)
    have hVX : ∀ e ∈ V, e ∈ X := fun e he => by rw [hX]; walk_at "mem"
    have hTX : (T, ({ cls := .type "tuple", data := .seq #[.ref qa, .ref c1] } : Obj)) ∈ X := by rw [hX]; exact List.mem_cons_self
    have KqX : WayIn w X qa q := hqa.mono fun e he => hVX e (hFV e he)
    have KcX : WayIn w X c1 (q ++ [cc]) := KcU X (fun e he => mct _ he) (by rw [hX]; walk_at "mem")
    have N7' : News h₀ L h7 ((L + 5, oA) :: (D, boolsObj (answers mk1 (Y.take i) ++ (ansOf mk1 q).take (2 * 0)) n) :: X) := news_drop N7 fun e he => by
      rw [hX, Nat.mul_zero, List.take_zero, List.append_nil] at he
      refine sub_go he ?_
      walk_at "sub"
    refine iter_tuple (its := [.ref qa, .ref c1]) rfl F7 N7' (mct _ (mct _ hTX)) rfl rfl (fun j m' W' => ∃ oA c' n u, W' = (L + 5, oA) :: (D, boolsObj (answers mk1 (Y.take i) ++ (ansOf mk1 q).take (2 * j)) n) :: X ∧ oA.data = .cell c' ∧ m' = (fun y => if y = Str.ofString "here" then u else m₁ y))
      ⟨oA, c', n, u, rfl, hoA, rfl⟩ ?_ ?_ ?_
    · rintro j m' W' ⟨oA, c', n, u, rfl, _⟩
      exact mct _ (mct _ hTX)
    · rintro j v m' W' oJ s8 hv ⟨oA, c', n, u, rfl, hoA, rfl⟩ hoffJ F8 N8 K8 hlowJ
      have hve : j < 2 ∧ ∃ e a, v = .ref a ∧ WayIn w X a e ∧ (ansOf mk1 q).take (2 * (j + 1)) = (ansOf mk1 q).take (2 * j) ++ [isAt mk1 e 0, isAt mk1 e 1] ∧ e.length ≤ 26 := by
        match j, hv with
        | 0, hv => exact ⟨by omega, q, qa, (Option.some.inj hv).symm, KqX, rfl, by omega⟩
        | 1, hv => exact ⟨by omega, q ++ [cc], c1, (Option.some.inj hv).symm, KcX, rfl, by rw [List.length_append]; simp; omega⟩
        | j + 2, hv => simp at hv
      obtain ⟨hj, e, ea, rfl, Ke, hans, hel⟩ := hve
      intro Qi hQi
      show wpAny _ _ _ _ _ _
      (repeat' (first | walk_at "u" | ((fail_if_success with_reducible first | show G32 | show G33 | show G34 | show G35 | show G25 | show G24 | show G27 | show G36 | show G2); walk1)))
      have h5J : @LT.lt Nat _ (L + 5) h7.objs.size := hlowJ (L + 5, _) List.mem_cons_self
      have hDJ : @LT.lt Nat _ D h7.objs.size := hlowJ (D, _) (mct _ List.mem_cons_self)
      have hXJ : ∀ e ∈ X, @LT.lt Nat _ e.1 h7.objs.size := fun e he => hlowJ e (mct _ (mct _ he))
      refine cell_store (c := L + 5) (o := oA) (W := (D, boolsObj (answers mk1 (Y.take i) ++ (ansOf mk1 q).take (2 * j)) n) :: (h7.objs.size, oJ) :: X) (by assumption) (news_drop (by assumption) fun e he => ?_) rfl ?_ hoA (fun o9 s9 K9 ho9 F9 N9 => ?_) rfl rfl
      · refine sub_go he ?_
        walk_at "sub"
      · intro e he
        refine all_cons he ?_ fun he => all_cons he ?_ fun he => ?_
        · exact Nat.ne_of_gt h5D
        · exact Nat.ne_of_gt h5J
        · exact hX5 e he
      have hXup : ∀ e ∈ X, e ∈ (L + 5, o9) :: (h7.objs.size, oJ) :: X := fun e he => mct _ (mct _ he)
      refine here_turn (V := (L + 5, o9) :: (h7.objs.size, oJ) :: X) (D := D) (q := e) (bs := answers mk1 (Y.take i) ++ (ansOf mk1 q).take (2 * j)) (n := n) B KX TP hdp hun F9 (news_drop N9 fun e he => ?_) (fun e he => ?_) List.mem_cons_self ho9 (Ke.mono hXup) (hXup _ (hVX _ hma)) hmc hmd (hms.mono fun e he => hXup _ (hVX _ he)) ?_ ?_ hll hlp (by omega) ?_ rep cl1 ?_
      · refine sub_go he ?_
        walk_at "sub"
      · refine all_cons he ?_ fun he => all_cons he ?_ fun he => ?_
        · exact Nat.ne_of_lt h5D
        · exact Nat.ne_of_gt hDJ
        · exact hXD e he
      · exact (if_neg (by decide)).trans e_marks1
      · exact (if_neg (by decide)).trans e_due
      · rw [List.length_append, answers_length, List.length_take, List.length_take]
        show _ + min (2 * j) 4 < 80000
        omega
      · intro s10 n10 u10 K10 F10 N10
        refine hQi .next _ ?_
        show NextHere _ _ _ _ _ _ _
        refine NextHere.intro F10 N10 (W' := (L + 5, o9) :: (D, boolsObj (answers mk1 (Y.take i) ++ (ansOf mk1 q).take (2 * (j + 1))) n10) :: X) (fun e he => ?_) (fun e he => ?_) ⟨o9, _, n10, u10, rfl, ho9, ?_⟩ (Kin.trans K8 (Kin.trans K9 K10))
        · rw [hans, ← List.append_assoc] at he
          refine sub_go he ?_
          walk_at "sub"
        · refine all_cons he ?_ fun he => all_cons he ?_ fun he => ?_
          · exact Nat.ne_of_lt h5J
          · exact Nat.ne_of_lt hDJ
          · exact Nat.ne_of_lt (hXJ e he)
        · funext y
          by_cases h1 : y = Str.ofString "here"
          · subst h1; rfl
          · simp only [if_neg h1]
    · rintro m' W' s8 ⟨oA, c', n, u, rfl, hoA, rfl⟩ F8 N8 K8
      (repeat' (first | walk_at "u" | ((fail_if_success with_reducible first | show G32 | show G33 | show G34 | show G35 | show G25 | show G24 | show G27 | show G36 | show G2); walk1)))
      refine hQo .next _ ?_
      show NextHere _ _ _ _ _ _ _
      have hans : answers mk1 (Y.take i) ++ (ansOf mk1 q).take (2 * [Value.ref qa, Value.ref c1].length) = answers mk1 (Y.take (i + 1)) := (answers_take hq).symm
      rw [hans] at N8
      refine NextHere.intro F8 N8 (W' := (L + 4, o4) :: (L + 5, oA) :: (D, boolsObj (answers mk1 (Y.take (i + 1))) n) :: (V ++ U1)) (fun e he => ?_) (fun e he => ?_) ⟨o4, oA, _, c', n, u, rfl, ho4, hoA, rfl⟩ (Kin.trans K3 (Kin.trans K4 (Kin.trans K6 K8)))
      · rw [hX]
        refine sub_go he ?_
        walk_at "sub"
      · refine all_cons he ?_ fun he => all_cons he ?_ fun he => all_cons he ?_ fun he => ?_
        · exact Nat.ne_of_lt h4I
        · exact Nat.ne_of_lt h5I
        · exact Nat.ne_of_lt hDI
        · exact Nat.ne_of_lt (hVI e he)
  · rintro m' W' s8 ⟨oY, oA, c, c', n, u, rfl, hoY, hoA, rfl⟩ F8 N8 K8
    (repeat' (first | walk_at "u" | ((fail_if_success with_reducible first | show G32 | show G33 | show G34 | show G35 | show G25 | show G24 | show G27 | show G36 | show G2); walk1)))
    rw [hws.1, List.take_length] at N8
    have hret : ∀ s' m', Kin s8 s' → Fr h₀ L s'.heap m' → Q (.ret (.bool true)) s' := fun s' m' k f => ret s' m' (Kin.trans K8 k) f
    refine tail14 (L := L) (th := th) (oY := oY) B KX TP hdp hun (F := F) (V := (D, boolsObj (answers mk1 Y) n) :: (L + 5, oA) :: V) (U1 := U1) F8 (news_drop N8 fun e he => ?_) hoY (fun e he => ?_) M1 (fun e he r hr => ?_) (fun e he => mct _ (mct _ (hFV e he))) (mct _ (mct _ hcW)) hoW (mct _ (mct _ hwl)) hwc hwd hws (mct _ (mct _ hst)) hsc hsd hsts List.mem_cons_self ?_ ?_ ?_ ?_ hf0 hYc hY (by lia) hstp cl1 hb1 hk1 hret
    · refine sub_go he ?_
      walk_at "sub"
    · refine all_cons he ?_ fun he => all_cons he ?_ fun he => ?_
      · exact Nat.ne_of_gt h4D
      · exact Nat.succ_ne_self (L + 4)
      · exact hne e he
    · refine all_cons he ?_ fun he => all_cons he ?_ fun he => ?_
      · exact Nat.ne_of_gt (hVD r (List.mem_append_right _ hr))
      · exact Ne.symm (hneA r (List.mem_append_right _ hr))
      · exact apV e he r hr
    · exact (if_neg (by decide)).trans e_steps1
    · exact (if_neg (by decide)).trans e_half1
    · exact (if_neg (by decide)).trans e_one1
    · exact (if_neg (by decide)).trans e_due
theorem all (x : Dat) : Stm x.1 x.2.1 x.2.2.1 x.2.2.2.1 x.2.2.2.2.1 x.2.2.2.2.2.1 x.2.2.2.2.2.2.1 x.2.2.2.2.2.2.2.1 x.2.2.2.2.2.2.2.2.1 x.2.2.2.2.2.2.2.2.2.1 x.2.2.2.2.2.2.2.2.2.2.1 x.2.2.2.2.2.2.2.2.2.2.2.1 x.2.2.2.2.2.2.2.2.2.2.2.2.1 x.2.2.2.2.2.2.2.2.2.2.2.2.2.1 x.2.2.2.2.2.2.2.2.2.2.2.2.2.2.1 x.2.2.2.2.2.2.2.2.2.2.2.2.2.2.2.1 x.2.2.2.2.2.2.2.2.2.2.2.2.2.2.2.2.1 x.2.2.2.2.2.2.2.2.2.2.2.2.2.2.2.2.2.1 x.2.2.2.2.2.2.2.2.2.2.2.2.2.2.2.2.2.2.1 x.2.2.2.2.2.2.2.2.2.2.2.2.2.2.2.2.2.2.2.1 x.2.2.2.2.2.2.2.2.2.2.2.2.2.2.2.2.2.2.2.2.1 x.2.2.2.2.2.2.2.2.2.2.2.2.2.2.2.2.2.2.2.2.2.1 x.2.2.2.2.2.2.2.2.2.2.2.2.2.2.2.2.2.2.2.2.2.2.1 x.2.2.2.2.2.2.2.2.2.2.2.2.2.2.2.2.2.2.2.2.2.2.2.1 x.2.2.2.2.2.2.2.2.2.2.2.2.2.2.2.2.2.2.2.2.2.2.2.2.1 x.2.2.2.2.2.2.2.2.2.2.2.2.2.2.2.2.2.2.2.2.2.2.2.2.2.1 x.2.2.2.2.2.2.2.2.2.2.2.2.2.2.2.2.2.2.2.2.2.2.2.2.2.2.1 x.2.2.2.2.2.2.2.2.2.2.2.2.2.2.2.2.2.2.2.2.2.2.2.2.2.2.2.1 x.2.2.2.2.2.2.2.2.2.2.2.2.2.2.2.2.2.2.2.2.2.2.2.2.2.2.2.2.1 x.2.2.2.2.2.2.2.2.2.2.2.2.2.2.2.2.2.2.2.2.2.2.2.2.2.2.2.2.2.1 x.2.2.2.2.2.2.2.2.2.2.2.2.2.2.2.2.2.2.2.2.2.2.2.2.2.2.2.2.2.2.1 x.2.2.2.2.2.2.2.2.2.2.2.2.2.2.2.2.2.2.2.2.2.2.2.2.2.2.2.2.2.2.2.1 x.2.2.2.2.2.2.2.2.2.2.2.2.2.2.2.2.2.2.2.2.2.2.2.2.2.2.2.2.2.2.2.2.1 x.2.2.2.2.2.2.2.2.2.2.2.2.2.2.2.2.2.2.2.2.2.2.2.2.2.2.2.2.2.2.2.2.2.1 x.2.2.2.2.2.2.2.2.2.2.2.2.2.2.2.2.2.2.2.2.2.2.2.2.2.2.2.2.2.2.2.2.2.2.1 x.2.2.2.2.2.2.2.2.2.2.2.2.2.2.2.2.2.2.2.2.2.2.2.2.2.2.2.2.2.2.2.2.2.2.2.1 x.2.2.2.2.2.2.2.2.2.2.2.2.2.2.2.2.2.2.2.2.2.2.2.2.2.2.2.2.2.2.2.2.2.2.2.2.1 x.2.2.2.2.2.2.2.2.2.2.2.2.2.2.2.2.2.2.2.2.2.2.2.2.2.2.2.2.2.2.2.2.2.2.2.2.2.1 x.2.2.2.2.2.2.2.2.2.2.2.2.2.2.2.2.2.2.2.2.2.2.2.2.2.2.2.2.2.2.2.2.2.2.2.2.2.2.1 x.2.2.2.2.2.2.2.2.2.2.2.2.2.2.2.2.2.2.2.2.2.2.2.2.2.2.2.2.2.2.2.2.2.2.2.2.2.2.2.1 x.2.2.2.2.2.2.2.2.2.2.2.2.2.2.2.2.2.2.2.2.2.2.2.2.2.2.2.2.2.2.2.2.2.2.2.2.2.2.2.2.1 x.2.2.2.2.2.2.2.2.2.2.2.2.2.2.2.2.2.2.2.2.2.2.2.2.2.2.2.2.2.2.2.2.2.2.2.2.2.2.2.2.2.1 x.2.2.2.2.2.2.2.2.2.2.2.2.2.2.2.2.2.2.2.2.2.2.2.2.2.2.2.2.2.2.2.2.2.2.2.2.2.2.2.2.2.2.1 x.2.2.2.2.2.2.2.2.2.2.2.2.2.2.2.2.2.2.2.2.2.2.2.2.2.2.2.2.2.2.2.2.2.2.2.2.2.2.2.2.2.2.2.1 x.2.2.2.2.2.2.2.2.2.2.2.2.2.2.2.2.2.2.2.2.2.2.2.2.2.2.2.2.2.2.2.2.2.2.2.2.2.2.2.2.2.2.2.2.1 x.2.2.2.2.2.2.2.2.2.2.2.2.2.2.2.2.2.2.2.2.2.2.2.2.2.2.2.2.2.2.2.2.2.2.2.2.2.2.2.2.2.2.2.2.2.1 x.2.2.2.2.2.2.2.2.2.2.2.2.2.2.2.2.2.2.2.2.2.2.2.2.2.2.2.2.2.2.2.2.2.2.2.2.2.2.2.2.2.2.2.2.2.2.1 x.2.2.2.2.2.2.2.2.2.2.2.2.2.2.2.2.2.2.2.2.2.2.2.2.2.2.2.2.2.2.2.2.2.2.2.2.2.2.2.2.2.2.2.2.2.2.2 := eps_all ne (fun x => Stm x.1 x.2.1 x.2.2.1 x.2.2.2.1 x.2.2.2.2.1 x.2.2.2.2.2.1 x.2.2.2.2.2.2.1 x.2.2.2.2.2.2.2.1 x.2.2.2.2.2.2.2.2.1 x.2.2.2.2.2.2.2.2.2.1 x.2.2.2.2.2.2.2.2.2.2.1 x.2.2.2.2.2.2.2.2.2.2.2.1 x.2.2.2.2.2.2.2.2.2.2.2.2.1 x.2.2.2.2.2.2.2.2.2.2.2.2.2.1 x.2.2.2.2.2.2.2.2.2.2.2.2.2.2.1 x.2.2.2.2.2.2.2.2.2.2.2.2.2.2.2.1 x.2.2.2.2.2.2.2.2.2.2.2.2.2.2.2.2.1 x.2.2.2.2.2.2.2.2.2.2.2.2.2.2.2.2.2.1 x.2.2.2.2.2.2.2.2.2.2.2.2.2.2.2.2.2.2.1 x.2.2.2.2.2.2.2.2.2.2.2.2.2.2.2.2.2.2.2.1 x.2.2.2.2.2.2.2.2.2.2.2.2.2.2.2.2.2.2.2.2.1 x.2.2.2.2.2.2.2.2.2.2.2.2.2.2.2.2.2.2.2.2.2.1 x.2.2.2.2.2.2.2.2.2.2.2.2.2.2.2.2.2.2.2.2.2.2.1 x.2.2.2.2.2.2.2.2.2.2.2.2.2.2.2.2.2.2.2.2.2.2.2.1 x.2.2.2.2.2.2.2.2.2.2.2.2.2.2.2.2.2.2.2.2.2.2.2.2.1 x.2.2.2.2.2.2.2.2.2.2.2.2.2.2.2.2.2.2.2.2.2.2.2.2.2.1 x.2.2.2.2.2.2.2.2.2.2.2.2.2.2.2.2.2.2.2.2.2.2.2.2.2.2.1 x.2.2.2.2.2.2.2.2.2.2.2.2.2.2.2.2.2.2.2.2.2.2.2.2.2.2.2.1 x.2.2.2.2.2.2.2.2.2.2.2.2.2.2.2.2.2.2.2.2.2.2.2.2.2.2.2.2.1 x.2.2.2.2.2.2.2.2.2.2.2.2.2.2.2.2.2.2.2.2.2.2.2.2.2.2.2.2.2.1 x.2.2.2.2.2.2.2.2.2.2.2.2.2.2.2.2.2.2.2.2.2.2.2.2.2.2.2.2.2.2.1 x.2.2.2.2.2.2.2.2.2.2.2.2.2.2.2.2.2.2.2.2.2.2.2.2.2.2.2.2.2.2.2.1 x.2.2.2.2.2.2.2.2.2.2.2.2.2.2.2.2.2.2.2.2.2.2.2.2.2.2.2.2.2.2.2.2.1 x.2.2.2.2.2.2.2.2.2.2.2.2.2.2.2.2.2.2.2.2.2.2.2.2.2.2.2.2.2.2.2.2.2.1 x.2.2.2.2.2.2.2.2.2.2.2.2.2.2.2.2.2.2.2.2.2.2.2.2.2.2.2.2.2.2.2.2.2.2.1 x.2.2.2.2.2.2.2.2.2.2.2.2.2.2.2.2.2.2.2.2.2.2.2.2.2.2.2.2.2.2.2.2.2.2.2.1 x.2.2.2.2.2.2.2.2.2.2.2.2.2.2.2.2.2.2.2.2.2.2.2.2.2.2.2.2.2.2.2.2.2.2.2.2.1 x.2.2.2.2.2.2.2.2.2.2.2.2.2.2.2.2.2.2.2.2.2.2.2.2.2.2.2.2.2.2.2.2.2.2.2.2.2.1 x.2.2.2.2.2.2.2.2.2.2.2.2.2.2.2.2.2.2.2.2.2.2.2.2.2.2.2.2.2.2.2.2.2.2.2.2.2.2.1 x.2.2.2.2.2.2.2.2.2.2.2.2.2.2.2.2.2.2.2.2.2.2.2.2.2.2.2.2.2.2.2.2.2.2.2.2.2.2.2.1 x.2.2.2.2.2.2.2.2.2.2.2.2.2.2.2.2.2.2.2.2.2.2.2.2.2.2.2.2.2.2.2.2.2.2.2.2.2.2.2.2.1 x.2.2.2.2.2.2.2.2.2.2.2.2.2.2.2.2.2.2.2.2.2.2.2.2.2.2.2.2.2.2.2.2.2.2.2.2.2.2.2.2.2.1 x.2.2.2.2.2.2.2.2.2.2.2.2.2.2.2.2.2.2.2.2.2.2.2.2.2.2.2.2.2.2.2.2.2.2.2.2.2.2.2.2.2.2.1 x.2.2.2.2.2.2.2.2.2.2.2.2.2.2.2.2.2.2.2.2.2.2.2.2.2.2.2.2.2.2.2.2.2.2.2.2.2.2.2.2.2.2.2.1 x.2.2.2.2.2.2.2.2.2.2.2.2.2.2.2.2.2.2.2.2.2.2.2.2.2.2.2.2.2.2.2.2.2.2.2.2.2.2.2.2.2.2.2.2.1 x.2.2.2.2.2.2.2.2.2.2.2.2.2.2.2.2.2.2.2.2.2.2.2.2.2.2.2.2.2.2.2.2.2.2.2.2.2.2.2.2.2.2.2.2.2.1 x.2.2.2.2.2.2.2.2.2.2.2.2.2.2.2.2.2.2.2.2.2.2.2.2.2.2.2.2.2.2.2.2.2.2.2.2.2.2.2.2.2.2.2.2.2.2.1 x.2.2.2.2.2.2.2.2.2.2.2.2.2.2.2.2.2.2.2.2.2.2.2.2.2.2.2.2.2.2.2.2.2.2.2.2.2.2.2.2.2.2.2.2.2.2.2) (by with_unfolding_all exact go) x
end E_tail12
theorem tail12 {w : World} {dp : Nat} {un : Nat} {gd : Option (List Code)} {L : Nat} {fa : Addr} {ccd : Value} {A₀ : Around} {base : Heap} {h₀ : Heap} {p : PySem.Program} {loose : List Str} {mean : ExcName → Option Value} {mg : Str → Option Value} {mb : Str → Option Value} {m : Str → Option Value} {s : Shared} {Q : Flow → Shared → Prop} {E : Value → Shared → Prop} {F : Led} {V : Led} {U1 : Led} {x1 : Addr} {wl : Addr} {st : Addr} {ma : Addr} {oW : Obj} {oY : Obj} {oA : Obj} {wlo : Obj} {sto : Obj} {mo : Obj} {c0 : Option Value} {cA : Option Value} {its : List Value} {stis : List Value} {mits : List Value} {nw : Nat} {ns : Nat} {nm : Nat} {Y : List (List Str)} {sts : List (Int × List Str)} {l : ML} {hf : Int} {th : Tok} {mk1 : Marks} {b1 : Nat} {k1 : Nat}  (B : Below A₀ base [] h₀) (KX : (hd.heap_39 w.params).In h₀) (TP : Top p loose mean mg mb h₀) (hdp : dp + 40 < recursionLimit) (hun : un + 400 < cLine) (FR : Fr h₀ L s.heap m) (N : News h₀ L s.heap ((L + 4, oY) :: (L + 5, oA) :: (V ++ U1))) (hoY : oY.data = .cell c0) (hoA : oA.data = .cell cA) (hne : ∀ p ∈ V ++ U1, @Ne Nat p.1 (L + 4)) (hneA : ∀ p ∈ V ++ U1, @Ne Nat p.1 (L + 5)) (M1 : Mach w F U1 x1 mk1 (fun _ => False) b1 k1) (apV : Apart V U1) (hFV : ∀ e ∈ F, e ∈ V) (hcW : (L + 3, oW) ∈ V) (hoW : oW.data = .cell (some (.ref wl))) (hwl : (wl, wlo) ∈ V) (hwc : wlo.cls = .type "list") (hwd : wlo.data = .seq its.toArray nw) (hws : WaysIn w F Y its) (hst : (st, sto) ∈ V) (hsc : sto.cls = .type "list") (hsd : sto.data = .seq stis.toArray ns) (hsts : StepsIn w F sts stis) (hma : (ma, mo) ∈ V) (hmc : mo.cls = .type "list") (hmd : mo.data = .seq mits.toArray nm) (hms : MarksIn w V l mits) (hll : l.length < 1000) (hlp : ∀ k ∈ l, k.1.length < 500) (rep : RepM mk1 l) (e_steps : m (Str.ofString "steps") = some (.ref st)) (e_half : m (Str.ofString "half") = some (.int hf th)) (e_one : m (Str.ofString "one") = some (.ref x1)) (e_marks : m (Str.ofString "marks") = some (.ref ma)) (hf0 : 0 ≤ hf) (hYc : Closed Y) (hY : ∀ y ∈ Y, cc ∉ y ∧ y.length ≤ 25) (hYn : Y.length < 19000) (hstp : ∀ k ∈ sts, k.2 ∈ Y ∧ (k.1.fmod 5 ≠ 3 → k.2 ≠ [])) (cl1 : Clean mk1) (hb1 : b1 + 25 * sts.length < 5000000) (hk1 : k1 + sts.length < 70) (ret : ∀ s' m', Kin s s' → Fr h₀ L s'.heap m' → Q (.ret (.bool true)) s') : wpAny (model PP w) (ktrTop dp un gd (Str.ofString "law") lawScope L fa ccd (lawCells L) []) (execs (lawBody.drop 12) (envX (Str.ofString "law") lawScope L fa ccd (lawCells L))) Q E s :=
  E_tail12.all (w, dp, un, gd, L, fa, ccd, A₀, base, h₀, p, loose, mean, mg, mb, m, s, Q, E, F, V, U1, x1, wl, st, ma, oW, oY, oA, wlo, sto, mo, c0, cA, its, stis, mits, nw, ns, nm, Y, sts, l, hf, th, mk1, b1, k1) B KX TP hdp hun FR N hoY hoA hne hneA M1 apV hFV hcW hoW hwl hwc hwd hws hst hsc hsd hsts hma hmc hmd hms hll hlp rep e_steps e_half e_one e_marks hf0 hYc hY hYn hstp cl1 hb1 hk1 ret
end

section
open PySem
noncomputable def newY (Y : List (List Str)) (q : List Str) (i : Nat) : List (List Str) := ((List.range i).map fun k => q.take (k + 1)).filter fun y => !decide (y ∈ Y)
noncomputable def extY (Y : List (List Str)) (q : List Str) : List (List Str) := Y ++ newY Y q q.length
noncomputable def endY (Y : List (List Str)) (pls : List (List Str)) : List (List Str) := pls.foldl extY Y
theorem newY_succ (Y : List (List Str)) (q : List Str) (i : Nat) : newY Y q (i + 1) = newY Y q i ++ if q.take (i + 1) ∈ Y then [] else [q.take (i + 1)] := by
  unfold newY
  rw [List.range_succ, List.map_append, List.filter_append]
  congr 1
  by_cases h : q.take (i + 1) ∈ Y <;> simp [h]
theorem newY_length (Y : List (List Str)) (q : List Str) (i : Nat) : (newY Y q i).length ≤ i := by
  refine Nat.le_trans (List.length_filter_le _ _) ?_
  rw [List.length_map, List.length_range]
  exact Nat.le_refl _
theorem mem_newY {Y : List (List Str)} {q y : List Str} {i : Nat} (h : y ∈ newY Y q i) : y <+: q := by
  obtain ⟨h1, _⟩ := List.mem_filter.mp h
  obtain ⟨k, _, rfl⟩ := List.mem_map.mp h1
  exact List.take_prefix _ _
theorem prefix_ext {Y : List (List Str)} {q y : List Str} (hy : y <+: q) (h0 : y ≠ []) : y ∈ extY Y q := by
  unfold extY
  rw [List.mem_append]
  by_cases h : y ∈ Y
  · exact .inl h
  · refine .inr ?_
    unfold newY
    refine List.mem_filter.mpr ⟨List.mem_map.mpr ⟨y.length - 1, ?_, ?_⟩, by simp [h]⟩
    · have l1 := hy.length_le
      have : y.length ≠ 0 := fun e => h0 (List.length_eq_zero_iff.mp e)
      rw [List.mem_range]; omega
    · have : y.length ≠ 0 := fun e => h0 (List.length_eq_zero_iff.mp e)
      rw [show y.length - 1 + 1 = y.length by lia]
      exact (List.prefix_iff_eq_take.mp hy).symm
structure GoodY (Y : List (List Str)) : Prop where
  closed : Closed Y
  nil : [] ∈ Y
  good : ∀ y ∈ Y, cc ∉ y ∧ y.length ≤ 25
theorem GoodY.ext {Y : List (List Str)} {q : List Str} (h : GoodY Y) (hc : cc ∉ q) (hl : q.length ≤ 25) : GoodY (extY Y q) := by
  refine ⟨fun y hy p hp => ?_, List.mem_append_left _ h.nil, fun y hy => ?_⟩
  · rcases List.mem_append.mp hy with hy | hy
    · exact List.mem_append_left _ (h.closed y hy p hp)
    · by_cases h0 : p = []
      · subst h0; exact List.mem_append_left _ h.nil
      · exact prefix_ext (hp.trans (mem_newY hy)) h0
  · rcases List.mem_append.mp hy with hy | hy
    · exact h.good y hy
    · have hp := mem_newY hy
      exact ⟨fun hx => hc (hp.subset hx), Nat.le_trans hp.length_le hl⟩
theorem endY_good : ∀ {pls : List (List Str)} {Y : List (List Str)}, GoodY Y → (∀ q ∈ pls, cc ∉ q ∧ q.length ≤ 25) → GoodY (endY Y pls)
  | [], _, h, _ => h
  | q :: r, _, h, hp => endY_good (pls := r) (h.ext (hp q List.mem_cons_self).1 (hp q List.mem_cons_self).2) fun x hx => hp x (mct _ hx)
theorem endY_mono : ∀ {pls : List (List Str)} {Y : List (List Str)} {y : List Str}, y ∈ Y → y ∈ endY Y pls
  | [], _, _, h => h
  | q :: r, _, _, h => endY_mono (pls := r) (List.mem_append_left _ h)
theorem endY_mem : ∀ {pls : List (List Str)} {Y : List (List Str)} {q : List Str}, q ∈ pls → q ≠ [] → q ∈ endY Y pls
  | p :: r, _, q, h, h0 => by
    rcases List.mem_cons.mp h with rfl | h
    · exact endY_mono (pls := r) (prefix_ext (List.prefix_refl _) h0)
    · exact endY_mem (pls := r) h h0
theorem extY_length (Y : List (List Str)) (q : List Str) (hl : q.length ≤ 25) : (extY Y q).length ≤ Y.length + 25 := by
  unfold extY
  rw [List.length_append]
  have := newY_length Y q q.length
  lia
theorem endY_length : ∀ {pls : List (List Str)} {Y : List (List Str)}, (∀ q ∈ pls, q.length ≤ 25) → (endY Y pls).length ≤ Y.length + 25 * pls.length
  | [], _, _ => by simp [endY]
  | q :: r, Y, hp => by
    have h1 := extY_length Y q (hp q List.mem_cons_self)
    have h2 := endY_length (pls := r) (Y := extY Y q) fun x hx => hp x (mct _ hx)
    show (endY (extY Y q) r).length ≤ _
    rw [List.length_cons]
    lia
theorem endY_take {pls : List (List Str)} {Y : List (List Str)} {i : Nat} {q : List Str} (h : pls[i]? = some q) : endY Y (pls.take (i + 1)) = extY (endY Y (pls.take i)) q := by
  unfold endY
  rw [List.take_add_one, h, List.foldl_append]
  rfl
end

section
open PySem PySem.W PyProof.Rows
namespace E_ext_turn
noncomputable abbrev Dat : Type := (World) × (Nat) × (Nat) × (Option (List Code)) × (Nat) × (Addr) × (Value) × (Around) × (Heap) × (Heap) × (PySem.Program) × (List Str) × (ExcName → Option Value) × (Str → Option Value) × (Str → Option Value) × (Str → Option Value) × (Shared) × (Flow → Shared → Prop) × (Value → Shared → Prop) × (Led) × (Led) × (Obj) × (Obj) × (Obj) × (Nat) × (Nat) × (Nat) × (Nat) × (List Str) × (List Value) × (List Value) × (List (List Str))
theorem ne : Nonempty Dat := ⟨({ draws := fun _ _ => 0, params := { strHash := fun _ => 0, shareClass := fun _ => 0, mergeTok := id, idOf := fun _ => 0, idOfShared := fun _ _ => 0, followText := fun _ => false, idOfImm := fun _ => 0 } }, default, default, default, default, default, default, {}, default, default, default, default, default, default, default, default, {}, default, default, default, default, default, default, default, default, default, default, default, default, default, default, default)⟩
noncomputable def Stm (w : World) (dp : Nat) (un : Nat) (gd : Option (List Code)) (L : Nat) (fa : Addr) (ccd : Value) (A₀ : Around) (base : Heap) (h₀ : Heap) (p : PySem.Program) (loose : List Str) (mean : ExcName → Option Value) (mg : Str → Option Value) (mb : Str → Option Value) (m : Str → Option Value) (s : Shared) (Q : Flow → Shared → Prop) (E : Value → Shared → Prop) (V : Led) (R : Led) (o4 : Obj) (oW : Obj) (oq : Obj) (qa : Nat) (wl : Nat) (nw : Nat) (nq : Nat) (q : List Str) (its : List Value) (qits : List Value) (Y : List (List Str)) : Prop := ∀  (B : Below A₀ base [] h₀) (KX : (hd.heap_39 w.params).In h₀) (TP : Top p loose mean mg mb h₀) (hdp : dp + 40 < recursionLimit) (hun : un + 400 < cLine) (FR : Fr h₀ L s.heap m) (N : News h₀ L s.heap ((L + 4, o4) :: (wl, W.listOf its.toArray nw) :: V)) (h4w : L + 4 ≠ wl) (hV : ∀ p ∈ V, @Ne Nat p.1 (L + 4) ∧ @Ne Nat p.1 wl) (hR : ∀ e ∈ R, e ∈ V) (ho4 : o4.data = .cell (some (.ref qa))) (hcW : (L + 3, oW) ∈ V) (hoW : oW.data = .cell (some (.ref wl))) (hqm : (qa, oq) ∈ R) (hqc : oq.cls = .type "tuple") (hqd : oq.data = .seq qits.toArray nq) (hqi : ItemsAre (SK w) q qits) (hql : q.length ≤ 25) (hws : WaysIn w R Y its) (hYn : Y.length < 19000) (next : ∀ s' nw' its' G', Kin s s' → Fr h₀ L s'.heap m → News h₀ L s'.heap ((L + 4, o4) :: (wl, W.listOf (List.toArray its') nw') :: (G' ++ V)) → WaysIn w (G' ++ R) (extY Y q) its' →
      (∀ e ∈ G', e.1 = qa ∨ ∀ r ∈ (L + 4, o4) :: (wl, W.listOf its.toArray nw) :: V, @LT.lt Nat _ r.1 e.1) → Q .next s'), wpAny (model PP w) (ktrTop dp un gd (Str.ofString "law") lawScope L fa ccd (lawCells L) []) (execs (forBodyOf (headStmt (lawBody.drop 4))) (envX (Str.ofString "law") lawScope L fa ccd (lawCells L))) Q E s
@[irreducible] noncomputable def pick : Dat := @Classical.epsilon Dat ne fun d => ¬ Stm d.1 d.2.1 d.2.2.1 d.2.2.2.1 d.2.2.2.2.1 d.2.2.2.2.2.1 d.2.2.2.2.2.2.1 d.2.2.2.2.2.2.2.1 d.2.2.2.2.2.2.2.2.1 d.2.2.2.2.2.2.2.2.2.1 d.2.2.2.2.2.2.2.2.2.2.1 d.2.2.2.2.2.2.2.2.2.2.2.1 d.2.2.2.2.2.2.2.2.2.2.2.2.1 d.2.2.2.2.2.2.2.2.2.2.2.2.2.1 d.2.2.2.2.2.2.2.2.2.2.2.2.2.2.1 d.2.2.2.2.2.2.2.2.2.2.2.2.2.2.2.1 d.2.2.2.2.2.2.2.2.2.2.2.2.2.2.2.2.1 d.2.2.2.2.2.2.2.2.2.2.2.2.2.2.2.2.2.1 d.2.2.2.2.2.2.2.2.2.2.2.2.2.2.2.2.2.2.1 d.2.2.2.2.2.2.2.2.2.2.2.2.2.2.2.2.2.2.2.1 d.2.2.2.2.2.2.2.2.2.2.2.2.2.2.2.2.2.2.2.2.1 d.2.2.2.2.2.2.2.2.2.2.2.2.2.2.2.2.2.2.2.2.2.1 d.2.2.2.2.2.2.2.2.2.2.2.2.2.2.2.2.2.2.2.2.2.2.1 d.2.2.2.2.2.2.2.2.2.2.2.2.2.2.2.2.2.2.2.2.2.2.2.1 d.2.2.2.2.2.2.2.2.2.2.2.2.2.2.2.2.2.2.2.2.2.2.2.2.1 d.2.2.2.2.2.2.2.2.2.2.2.2.2.2.2.2.2.2.2.2.2.2.2.2.2.1 d.2.2.2.2.2.2.2.2.2.2.2.2.2.2.2.2.2.2.2.2.2.2.2.2.2.2.1 d.2.2.2.2.2.2.2.2.2.2.2.2.2.2.2.2.2.2.2.2.2.2.2.2.2.2.2.1 d.2.2.2.2.2.2.2.2.2.2.2.2.2.2.2.2.2.2.2.2.2.2.2.2.2.2.2.2.1 d.2.2.2.2.2.2.2.2.2.2.2.2.2.2.2.2.2.2.2.2.2.2.2.2.2.2.2.2.2.1 d.2.2.2.2.2.2.2.2.2.2.2.2.2.2.2.2.2.2.2.2.2.2.2.2.2.2.2.2.2.2.1 d.2.2.2.2.2.2.2.2.2.2.2.2.2.2.2.2.2.2.2.2.2.2.2.2.2.2.2.2.2.2.2
@[irreducible] noncomputable def w := pick.1
@[irreducible] noncomputable def dp := pick.2.1
@[irreducible] noncomputable def un := pick.2.2.1
@[irreducible] noncomputable def gd := pick.2.2.2.1
@[irreducible] noncomputable def L := pick.2.2.2.2.1
@[irreducible] noncomputable def fa := pick.2.2.2.2.2.1
noncomputable def pickr1 := pick.2.2.2.2.2.2
@[irreducible] noncomputable def ccd := pickr1.1
@[irreducible] noncomputable def A₀ := pickr1.2.1
@[irreducible] noncomputable def base := pickr1.2.2.1
@[irreducible] noncomputable def h₀ := pickr1.2.2.2.1
@[irreducible] noncomputable def p := pickr1.2.2.2.2.1
@[irreducible] noncomputable def loose := pickr1.2.2.2.2.2.1
noncomputable def pickr2 := pickr1.2.2.2.2.2.2
@[irreducible] noncomputable def mean := pickr2.1
@[irreducible] noncomputable def mg := pickr2.2.1
@[irreducible] noncomputable def mb := pickr2.2.2.1
@[irreducible] noncomputable def m := pickr2.2.2.2.1
@[irreducible] noncomputable def s := pickr2.2.2.2.2.1
@[irreducible] noncomputable def Q := pickr2.2.2.2.2.2.1
noncomputable def pickr3 := pickr2.2.2.2.2.2.2
@[irreducible] noncomputable def E := pickr3.1
@[irreducible] noncomputable def V := pickr3.2.1
@[irreducible] noncomputable def R := pickr3.2.2.1
@[irreducible] noncomputable def o4 := pickr3.2.2.2.1
@[irreducible] noncomputable def oW := pickr3.2.2.2.2.1
@[irreducible] noncomputable def oq := pickr3.2.2.2.2.2.1
noncomputable def pickr4 := pickr3.2.2.2.2.2.2
@[irreducible] noncomputable def qa := pickr4.1
@[irreducible] noncomputable def wl := pickr4.2.1
@[irreducible] noncomputable def nw := pickr4.2.2.1
@[irreducible] noncomputable def nq := pickr4.2.2.2.1
@[irreducible] noncomputable def q := pickr4.2.2.2.2.1
@[irreducible] noncomputable def its := pickr4.2.2.2.2.2.1
noncomputable def pickr5 := pickr4.2.2.2.2.2.2
@[irreducible] noncomputable def qits := pickr5.1
@[irreducible] noncomputable def Y := pickr5.2
theorem go : Stm w dp un gd L fa ccd A₀ base h₀ p loose mean mg mb m s Q E V R o4 oW oq qa wl nw nq q its qits Y := by
  intro B KX TP hdp hun FR N h4w hV hR ho4 hcW hoW hqm hqc hqd hqi hql hws hYn next
  refine kf ?_
  k_fill
  intro _
  refine wpAny_noRaise ?_
  (conv in (forBodyOf (headStmt (lawBody.drop 4))) => whnf)
  (repeat' (first | walk_at "u" | ((fail_if_success with_reducible first | show G14 | show G9 | show G19 | show G37 | show G18 | show G20 | show G38 | show G2 | show G24 | show G25 | show G22 | show G35); walk1)))
  refine nameX_C (by assumption) rfl (mct _ (mct _ hcW)) hoW ?_ rfl rfl
  (repeat' (first | walk_at "u" | ((fail_if_success with_reducible first | show G14 | show G9 | show G19 | show G37 | show G18 | show G20 | show G38 | show G2 | show G24 | show G25 | show G22 | show G35); walk1)))
  refine ListComp_led (cl := [(Str.ofString "ways", L + 3), (Str.ofString "way", L + 4)]) (S := { kind := .function, names := [(Str.ofString ".0", .local), (Str.ofString "size", .local), (Str.ofString "way", .cell), (Str.ofString "ways", .cell)], isGenerator := false, isCoroutine := false }) (by assumption) ?s3 ?s4 ?s45 ?s5 ?s6 ?s7 ?s8 ?s9 ?s10
  case s3 => rfl
  case s4 => rfl
  case s45 => decide
  case s5 => rfl
  case s6 => decide
  case s7 => decide
  case s8 => intro x; rfl
  case s9 =>
    intro C g' hg' x
    simp only [List.mem_cons, List.not_mem_nil, or_false] at hg'
    rcases hg' with rfl <;> rfl
  (repeat' (first | walk_at "u" | ((fail_if_success with_reducible first | show G14 | show G9 | show G19 | show G37 | show G18 | show G20 | show G38 | show G2 | show G24 | show G25 | show G22 | show G35); walk1)))
  refine nameX_C (by assumption) rfl List.mem_cons_self ho4 ?_ rfl rfl
  (repeat' (first | walk_at "u" | ((fail_if_success with_reducible first | show G14 | show G9 | show G19 | show G37 | show G18 | show G20 | show G38 | show G2 | show G24 | show G25 | show G22 | show G35); walk1)))
  have Kq0 : WayIn w V qa q := ⟨oq, qits, nq, hR _ hqm, hqc, hqd, hqi⟩
  refine len_way (by assumption) (Kq0.mono fun e he => mct _ (mct _ he)) (by omega) ?_
  (repeat' (first | walk_at "u" | ((fail_if_success with_reducible first | show G14 | show G9 | show G19 | show G37 | show G18 | show G20 | show G38 | show G2 | show G24 | show G25 | show G22 | show G35); walk1)))
  refine range_two (V := (L + 4, o4) :: (wl, W.listOf its.toArray nw) :: V) (by assumption) (by assumption) fun r t1 u1 v1 s1 K1 hr F1 N1 => ?_
  (repeat' (first | walk_at "u" | ((fail_if_success with_reducible first | show G14 | show G9 | show G19 | show G37 | show G18 | show G20 | show G38 | show G2 | show G24 | show G25 | show G22 | show G35); walk1)))
  refine led_range (k := q.length) F1 N1 List.mem_cons_self (by lia) (by lia) (by omega) fun I h7 hI7 F7 N7 => ?_
  obtain ⟨X, hX⟩ : ∃ X : Led, X = (L + 4, o4) :: (wl, W.listOf its.toArray nw) :: V := ⟨_, rfl⟩
  refine ⟨_, _, F7, news_drop (W' := (I, rangeIt 1 q.length) :: X) N7 (fun e he => by rw [hX] at he; refine sub_go he ?_; walk_at "sub"), fun H C oL s3 K3 nsL hH hLH hHC F3 N3 => ?_⟩
  have hL1 : @LT.lt Nat _ L H := hLH
  have hIH : @LT.lt Nat _ I H := hH _ List.mem_cons_self
  have hXH : ∀ e ∈ X, @LT.lt Nat _ e.1 H := fun e he => hH _ (mct _ he)
  have hXI : ∀ e ∈ X, @LT.lt Nat _ e.1 I := fun e he => hI7 _ (by rw [hX] at he; exact mct _ he)
  have hVX : ∀ e ∈ V, e ∈ X := fun e he => by rw [hX]; walk_at "mem"
  have hRX : ∀ e ∈ R, e ∈ X := fun e he => hVX e (hR e he)
  have h4X : (L + 4, o4) ∈ X := by rw [hX]; exact List.mem_cons_self
  have hwX : (wl, W.listOf its.toArray nw) ∈ X := by rw [hX]; exact mct _ List.mem_cons_self
  rw [← hX] at N
  have hXL : ∀ e ∈ X, @Ne Nat e.1 L := fun e he => (N e he).2.1
  have hIL : @LT.lt Nat _ L I := Nat.lt_of_le_of_lt (Nat.le_add_right L 4) (hXI _ h4X)
  have hqX : (qa, oq) ∈ X := hRX _ hqm
  obtain ⟨m₂, hmm, hm₂⟩ : ∃ m₂ : Str → Option Value, m₂ = m ∧ LCg.NsObj oL m₂ := ⟨_, rfl, nsL⟩
  refine body_range (a := 1) (n := q.length) (W := (L, oL) :: (H, W.listOf #[] 0) :: X) rfl (fun i m' W' => ∃ oL hs nh u G, LCg.NsObj oL m₂ ∧ W' = (L, oL) :: (H, W.listOf (List.toArray hs) nh) :: (G ++ X) ∧ WaysIn w (G ++ R) (newY Y q i) hs ∧ (∀ e ∈ G, e.1 = qa ∨ @LT.lt Nat _ H e.1) ∧ m' = fun y => if y = Str.ofString "size" then u else none) F3 (news_drop N3 ?_) ?_ ?_ ?_ ?_
  · intro e he
    refine sub_go he ?_
    walk_at "sub"
  · intro e he
    refine all_cons he ?_ fun he => all_cons he ?_ fun he => ?_
    · exact Nat.ne_of_lt hIL
    · exact Nat.ne_of_gt hIH
    · exact Nat.ne_of_lt (hXI e he)
  · refine ⟨oL, [], 0, none, [], hm₂, rfl, WaysIn.nil, fun e he => absurd he (by simp), ?_⟩
    funext y
    simp
  · rintro i t m' W' oI2 s4 hi ⟨oL2, hs, nh, u, G, nsL2, rfl, hwsn, hG, rfl⟩ hoff F4 N4 K4 QQk hQk
    have hofft : ∀ e ∈ G ++ X, @Ne Nat e.1 I ∧ @Ne Nat e.1 H ∧ @Ne Nat e.1 L := fun e he => by
      rcases List.mem_append.mp he with h | h
      · rcases hG e h with h1 | h1
        · rw [h1]; exact ⟨Nat.ne_of_lt (hXI _ hqX), Nat.ne_of_lt (hXH _ hqX), hXL _ hqX⟩
        · exact ⟨Nat.ne_of_gt (Nat.lt_trans hIH h1), Nat.ne_of_gt h1, Nat.ne_of_gt (Nat.lt_trans hL1 h1)⟩
      · exact ⟨Nat.ne_of_lt (hXI e h), Nat.ne_of_lt (hXH e h), hXL e h⟩
    have upX : ∀ e ∈ X, e ∈ (I, oI2) :: (L, oL2) :: (H, W.listOf (List.toArray hs) nh) :: (G ++ X) := fun e he => by walk_at "mem"
    have e1 : q.take (upto (1 + (i : Int)) q.length) = q.take (i + 1) := by
      have : upto (1 + (i : Int)) q.length = min (i + 1) q.length := by unfold upto; rw [if_neg (by lia)]; congr 1; lia
      rw [this, Nat.min_eq_left (by lia)]
    have em : ∀ z : Option Value, (fun y => if y = Str.ofString "size" then some (Value.int (1 + (i : Int)) t) else if y = Str.ofString "size" then z else none) = (fun y => if y = Str.ofString "size" then some (Value.int (1 + (i : Int)) t) else none) := fun z => by
      funext y
      by_cases h1 : y = Str.ofString "size"
      · subst h1; rfl
      · simp only [if_neg h1]
    (repeat' (first | walk_at "u" | ((fail_if_success with_reducible first | show G14 | show G9 | show G19 | show G37 | show G18 | show G20 | show G38 | show G2 | show G24 | show G25 | show G22 | show G35); walk1)))
    refine tests_one ?_
    (repeat' (first | walk_at "u" | ((fail_if_success with_reducible first | show G14 | show G9 | show G19 | show G37 | show G18 | show G20 | show G38 | show G2 | show G24 | show G25 | show G22 | show G35); walk1)))
    refine cname_C (o := o4) (by assumption) rfl (upX _ h4X) ho4 ?_ rfl rfl
    (repeat' (first | walk_at "u" | ((fail_if_success with_reducible first | show G14 | show G9 | show G19 | show G37 | show G18 | show G20 | show G38 | show G2 | show G24 | show G25 | show G22 | show G35); walk1)))
    refine slice_way3 (by assumption) (by assumption) (upX _ hqX) hqc hqd hqi (by omega) fun sl osl s7 K7 F7' N7' KW7 ne7 => ?_
    rw [e1] at KW7
    (repeat' (first | walk_at "u" | ((fail_if_success with_reducible first | show G14 | show G9 | show G19 | show G37 | show G18 | show G20 | show G38 | show G2 | show G24 | show G25 | show G22 | show G35); walk1)))
    refine cname_C (o := oW) (by assumption) rfl (mct _ (upX _ (hVX _ hcW))) hoW ?_ rfl rfl
    (repeat' (first | walk_at "u" | ((fail_if_success with_reducible first | show G14 | show G9 | show G19 | show G37 | show G18 | show G20 | show G38 | show G2 | show G24 | show G25 | show G22 | show G35); walk1)))
    by_cases hin : q.take (i + 1) ∈ Y
    · refine way_notIn (by assumption) (mct _ (upX _ hwX)) rfl rfl (hws.mono fun e he => mct _ (upX _ (hRX e he))) (KW7 _ List.mem_cons_self) (room hun) (r := false) (by simp [hin]) ?_
      (repeat' (first | walk_at "u" | ((fail_if_success with_reducible first | show G14 | show G9 | show G19 | show G37 | show G18 | show G20 | show G38 | show G2 | show G24 | show G25 | show G22 | show G35); walk1)))
      have N8 : News h₀ C s7.heap ((I, oI2) :: (L, oL2) :: (H, W.listOf hs.toArray nh) :: (G ++ X)) := news_drop N7' fun e he => mct _ he
      refine hQk _ ?_
      refine NextHere.intro F7' N8 (W' := (L, oL2) :: (H, W.listOf (List.toArray hs) nh) :: (G ++ X)) (fun e he => he) hoff ⟨oL2, hs, nh, some (.int (1 + (i : Int)) t), G, nsL2, rfl, ?_, hG, em u⟩ (Kin.trans K4 K7)
      rw [newY_succ, if_pos hin, List.append_nil]; exact hwsn
    · refine way_notIn (by assumption) (mct _ (upX _ hwX)) rfl rfl (hws.mono fun e he => mct _ (upX _ (hRX e he))) (KW7 _ List.mem_cons_self) (room hun) (r := true) (by simp [hin]) ?_
      (repeat' (first | walk_at "u" | ((fail_if_success with_reducible first | show G14 | show G9 | show G19 | show G37 | show G18 | show G20 | show G38 | show G2 | show G24 | show G25 | show G22 | show G35); walk1)))
      have N8 : News h₀ C s7.heap ((I, oI2) :: (L, oL2) :: (H, W.listOf hs.toArray nh) :: (G ++ X)) := news_drop N7' fun e he => mct _ he
      clear N7' KW7 ne7
      show wpAny _ _ (eval _ _) _ _ _
      (repeat' (first | walk_at "u" | ((fail_if_success with_reducible first | show G14 | show G9 | show G19 | show G37 | show G18 | show G20 | show G38 | show G2 | show G24 | show G25 | show G22 | show G35); walk1)))
      refine cname_C (o := o4) (by assumption) rfl (upX _ h4X) ho4 ?_ rfl rfl
      (repeat' (first | walk_at "u" | ((fail_if_success with_reducible first | show G14 | show G9 | show G19 | show G37 | show G18 | show G20 | show G38 | show G2 | show G24 | show G25 | show G22 | show G35); walk1)))
      refine slice_way3 (by assumption) (by assumption) (upX _ hqX) hqc hqd hqi (by omega) fun sl2 osl2 s9 K9 F9 N9 KW9 ne9 => ?_
      rw [e1] at KW9
      (repeat' (first | walk_at "u" | ((fail_if_success with_reducible first | show G14 | show G9 | show G19 | show G37 | show G18 | show G20 | show G38 | show G2 | show G24 | show G25 | show G22 | show G35); walk1)))
      have hsl : @Ne Nat sl2 I ∧ @Ne Nat sl2 H ∧ (sl2 = qa ∨ @LT.lt Nat _ H sl2) := by
        rcases ne9 with h | h
        · have := hofft (qa, oq) (List.mem_append_right _ hqX)
          rw [h]
          exact ⟨this.1, this.2.1, .inl rfl⟩
        · have h1 := h (H, W.listOf hs.toArray nh) (by walk_at "mem")
          exact ⟨Nat.ne_of_gt (h (I, oI2) List.mem_cons_self), Nat.ne_of_gt h1, .inr h1⟩
      refine list_app (pre := [(sl2, osl2), (I, oI2), (L, oL2)]) (post := G ++ X) (D := H) (its := hs.toArray) (n := nh) F9 N9 (fun e he => ?_) (fun e he => (hofft e he).2.1) (by rw [List.size_toArray, hwsn.1]; have := newY_length Y q i; lia) fun h10 F10 N10 => ?_
      · refine all_cons he ?_ fun he => all_cons he ?_ fun he => all_one he ?_
        · exact hsl.2.1
        · exact Nat.ne_of_lt hIH
        · exact Nat.ne_of_lt hL1
      rw [show hs.toArray.push (Value.ref sl2) = (hs ++ [Value.ref sl2]).toArray by simp] at N10
      refine hQk _ ?_
      refine NextHere.intro F10 N10 (W' := (L, oL2) :: (H, W.listOf (List.toArray (hs ++ [.ref sl2])) (nh + 1)) :: (((sl2, osl2) :: G) ++ X)) (fun e he => ?_) (fun e he => ?_) ⟨oL2, _, nh + 1, some (.int (1 + (i : Int)) t), (sl2, osl2) :: G, nsL2, rfl, ?_, ?_, em u⟩ (Kin.trans K4 (Kin.trans K7 K9))
      · refine sub_go he ?_
        walk_at "sub"
      · refine all_cons he ?_ fun he => all_cons he ?_ fun he => all_cons he ?_ fun he => ?_
        · exact Nat.ne_of_lt hIL
        · exact Nat.ne_of_gt hIH
        · exact hsl.1
        · exact (hofft e he).1
      · rw [newY_succ, if_neg hin]
        exact (hwsn.mono fun e he => mct _ he).append (WaysIn.one (KW9 _ List.mem_cons_self))
      · intro e he
        rcases List.mem_cons.mp he with rfl | he
        · exact hsl.2.2
        · exact hG e he
  · rintro m' W' s4 ⟨oL4, hs, nh, u, G, nsL4, rfl, hwsn, hG, rfl⟩ F4 N4 K4
    refine ⟨_, (H, W.listOf (List.toArray hs) nh) :: (G ++ X), oL4, hmm ▸ nsL4, F4, N4, ?_, fun s5 K5 F5 N5 => ?_⟩
    · intro e he
      rcases List.mem_cons.mp he with rfl | h
      · exact Nat.ne_of_gt hL1
      · rcases List.mem_append.mp h with h | h
        · rcases hG e h with h1 | h1
          · rw [h1]; exact hXL _ hqX
          · exact Nat.ne_of_gt (Nat.lt_trans hL1 h1)
        · exact hXL e h
    (repeat' (first | walk_at "u" | ((fail_if_success with_reducible first | show G14 | show G9 | show G19 | show G37 | show G18 | show G20 | show G38 | show G2 | show G24 | show G25 | show G22 | show G35); walk1)))
    have hwH : @LT.lt Nat _ wl H := hXH _ hwX
    have hqw : @Ne Nat qa wl := (hV _ (hR _ hqm)).2
    refine list_ext (pre := (H, W.listOf hs.toArray nh) :: (G ++ [(L + 4, o4)])) (post := V) (D := wl) (its := its.toArray) (its2 := hs.toArray) (n := nw) (n2 := nh) F5 (news_drop N5 fun e he => ?_) (List.mem_append_left _ List.mem_cons_self) (fun e he => ?_) (fun e he => (hV e he).2) (by rw [List.size_toArray, List.size_toArray, hws.1, hwsn.1]; have := newY_length Y q q.length; lia) fun h9 n9 F9 N9 => ?_
    · rw [hX]
      refine sub_go he ?_
      walk_at "sub"
    · refine all_cons he ?_ fun he => all_app he (fun h => ?_) fun he => all_one he ?_
      · exact Nat.ne_of_gt hwH
      · rcases hG e h with h1 | h1
        · rw [h1]; exact hqw
        · exact Nat.ne_of_gt (Nat.lt_trans hwH h1)
      · exact h4w
    rw [show its.toArray ++ hs.toArray = (its ++ hs).toArray by simp] at N9
    (repeat' (first | walk_at "u" | ((fail_if_success with_reducible first | show G14 | show G9 | show G19 | show G37 | show G18 | show G20 | show G38 | show G2 | show G24 | show G25 | show G22 | show G35); walk1)))
    refine next _ n9 (its ++ hs) G (Kin.trans K1 (Kin.trans K3 (Kin.trans K4 K5))) F9 (news_drop N9 fun e he => ?_) ((hws.mono fun e he => List.mem_append_right _ he).append hwsn) (fun e he => ?_)
    · refine sub_go he ?_
      walk_at "sub"
    · rcases hG e he with h1 | h1
      · exact .inl h1
      · exact .inr fun r hr => Nat.lt_trans (hXH r (by rw [hX]; exact hr)) h1
theorem all (x : Dat) : Stm x.1 x.2.1 x.2.2.1 x.2.2.2.1 x.2.2.2.2.1 x.2.2.2.2.2.1 x.2.2.2.2.2.2.1 x.2.2.2.2.2.2.2.1 x.2.2.2.2.2.2.2.2.1 x.2.2.2.2.2.2.2.2.2.1 x.2.2.2.2.2.2.2.2.2.2.1 x.2.2.2.2.2.2.2.2.2.2.2.1 x.2.2.2.2.2.2.2.2.2.2.2.2.1 x.2.2.2.2.2.2.2.2.2.2.2.2.2.1 x.2.2.2.2.2.2.2.2.2.2.2.2.2.2.1 x.2.2.2.2.2.2.2.2.2.2.2.2.2.2.2.1 x.2.2.2.2.2.2.2.2.2.2.2.2.2.2.2.2.1 x.2.2.2.2.2.2.2.2.2.2.2.2.2.2.2.2.2.1 x.2.2.2.2.2.2.2.2.2.2.2.2.2.2.2.2.2.2.1 x.2.2.2.2.2.2.2.2.2.2.2.2.2.2.2.2.2.2.2.1 x.2.2.2.2.2.2.2.2.2.2.2.2.2.2.2.2.2.2.2.2.1 x.2.2.2.2.2.2.2.2.2.2.2.2.2.2.2.2.2.2.2.2.2.1 x.2.2.2.2.2.2.2.2.2.2.2.2.2.2.2.2.2.2.2.2.2.2.1 x.2.2.2.2.2.2.2.2.2.2.2.2.2.2.2.2.2.2.2.2.2.2.2.1 x.2.2.2.2.2.2.2.2.2.2.2.2.2.2.2.2.2.2.2.2.2.2.2.2.1 x.2.2.2.2.2.2.2.2.2.2.2.2.2.2.2.2.2.2.2.2.2.2.2.2.2.1 x.2.2.2.2.2.2.2.2.2.2.2.2.2.2.2.2.2.2.2.2.2.2.2.2.2.2.1 x.2.2.2.2.2.2.2.2.2.2.2.2.2.2.2.2.2.2.2.2.2.2.2.2.2.2.2.1 x.2.2.2.2.2.2.2.2.2.2.2.2.2.2.2.2.2.2.2.2.2.2.2.2.2.2.2.2.1 x.2.2.2.2.2.2.2.2.2.2.2.2.2.2.2.2.2.2.2.2.2.2.2.2.2.2.2.2.2.1 x.2.2.2.2.2.2.2.2.2.2.2.2.2.2.2.2.2.2.2.2.2.2.2.2.2.2.2.2.2.2.1 x.2.2.2.2.2.2.2.2.2.2.2.2.2.2.2.2.2.2.2.2.2.2.2.2.2.2.2.2.2.2.2 := eps_all ne (fun x => Stm x.1 x.2.1 x.2.2.1 x.2.2.2.1 x.2.2.2.2.1 x.2.2.2.2.2.1 x.2.2.2.2.2.2.1 x.2.2.2.2.2.2.2.1 x.2.2.2.2.2.2.2.2.1 x.2.2.2.2.2.2.2.2.2.1 x.2.2.2.2.2.2.2.2.2.2.1 x.2.2.2.2.2.2.2.2.2.2.2.1 x.2.2.2.2.2.2.2.2.2.2.2.2.1 x.2.2.2.2.2.2.2.2.2.2.2.2.2.1 x.2.2.2.2.2.2.2.2.2.2.2.2.2.2.1 x.2.2.2.2.2.2.2.2.2.2.2.2.2.2.2.1 x.2.2.2.2.2.2.2.2.2.2.2.2.2.2.2.2.1 x.2.2.2.2.2.2.2.2.2.2.2.2.2.2.2.2.2.1 x.2.2.2.2.2.2.2.2.2.2.2.2.2.2.2.2.2.2.1 x.2.2.2.2.2.2.2.2.2.2.2.2.2.2.2.2.2.2.2.1 x.2.2.2.2.2.2.2.2.2.2.2.2.2.2.2.2.2.2.2.2.1 x.2.2.2.2.2.2.2.2.2.2.2.2.2.2.2.2.2.2.2.2.2.1 x.2.2.2.2.2.2.2.2.2.2.2.2.2.2.2.2.2.2.2.2.2.2.1 x.2.2.2.2.2.2.2.2.2.2.2.2.2.2.2.2.2.2.2.2.2.2.2.1 x.2.2.2.2.2.2.2.2.2.2.2.2.2.2.2.2.2.2.2.2.2.2.2.2.1 x.2.2.2.2.2.2.2.2.2.2.2.2.2.2.2.2.2.2.2.2.2.2.2.2.2.1 x.2.2.2.2.2.2.2.2.2.2.2.2.2.2.2.2.2.2.2.2.2.2.2.2.2.2.1 x.2.2.2.2.2.2.2.2.2.2.2.2.2.2.2.2.2.2.2.2.2.2.2.2.2.2.2.1 x.2.2.2.2.2.2.2.2.2.2.2.2.2.2.2.2.2.2.2.2.2.2.2.2.2.2.2.2.1 x.2.2.2.2.2.2.2.2.2.2.2.2.2.2.2.2.2.2.2.2.2.2.2.2.2.2.2.2.2.1 x.2.2.2.2.2.2.2.2.2.2.2.2.2.2.2.2.2.2.2.2.2.2.2.2.2.2.2.2.2.2.1 x.2.2.2.2.2.2.2.2.2.2.2.2.2.2.2.2.2.2.2.2.2.2.2.2.2.2.2.2.2.2.2) (by with_unfolding_all exact go) x
end E_ext_turn
theorem ext_turn {w : World} {dp : Nat} {un : Nat} {gd : Option (List Code)} {L : Nat} {fa : Addr} {ccd : Value} {A₀ : Around} {base : Heap} {h₀ : Heap} {p : PySem.Program} {loose : List Str} {mean : ExcName → Option Value} {mg : Str → Option Value} {mb : Str → Option Value} {m : Str → Option Value} {s : Shared} {Q : Flow → Shared → Prop} {E : Value → Shared → Prop} {V : Led} {R : Led} {o4 : Obj} {oW : Obj} {oq : Obj} {qa : Nat} {wl : Nat} {nw : Nat} {nq : Nat} {q : List Str} {its : List Value} {qits : List Value} {Y : List (List Str)}  (B : Below A₀ base [] h₀) (KX : (hd.heap_39 w.params).In h₀) (TP : Top p loose mean mg mb h₀) (hdp : dp + 40 < recursionLimit) (hun : un + 400 < cLine) (FR : Fr h₀ L s.heap m) (N : News h₀ L s.heap ((L + 4, o4) :: (wl, W.listOf its.toArray nw) :: V)) (h4w : L + 4 ≠ wl) (hV : ∀ p ∈ V, @Ne Nat p.1 (L + 4) ∧ @Ne Nat p.1 wl) (hR : ∀ e ∈ R, e ∈ V) (ho4 : o4.data = .cell (some (.ref qa))) (hcW : (L + 3, oW) ∈ V) (hoW : oW.data = .cell (some (.ref wl))) (hqm : (qa, oq) ∈ R) (hqc : oq.cls = .type "tuple") (hqd : oq.data = .seq qits.toArray nq) (hqi : ItemsAre (SK w) q qits) (hql : q.length ≤ 25) (hws : WaysIn w R Y its) (hYn : Y.length < 19000) (next : ∀ s' nw' its' G', Kin s s' → Fr h₀ L s'.heap m → News h₀ L s'.heap ((L + 4, o4) :: (wl, W.listOf (List.toArray its') nw') :: (G' ++ V)) → WaysIn w (G' ++ R) (extY Y q) its' →
      (∀ e ∈ G', e.1 = qa ∨ ∀ r ∈ (L + 4, o4) :: (wl, W.listOf its.toArray nw) :: V, @LT.lt Nat _ r.1 e.1) → Q .next s') : wpAny (model PP w) (ktrTop dp un gd (Str.ofString "law") lawScope L fa ccd (lawCells L) []) (execs (forBodyOf (headStmt (lawBody.drop 4))) (envX (Str.ofString "law") lawScope L fa ccd (lawCells L))) Q E s :=
  E_ext_turn.all (w, dp, un, gd, L, fa, ccd, A₀, base, h₀, p, loose, mean, mg, mb, m, s, Q, E, V, R, o4, oW, oq, qa, wl, nw, nq, q, its, qits, Y) B KX TP hdp hun FR N h4w hV hR ho4 hcW hoW hqm hqc hqd hqi hql hws hYn next
end

section
open PySem PySem.W PyProof.Rows
theorem bool_list {h : Heap} {a n : Nat} {its : List Value} (ho : h.get? a = some (W.listOf its.toArray n)) : h.IsList a its.toArray := ⟨_, ho, rfl, n, rfl⟩
theorem map_same {m : Str → Option Value} {ma wa : Nat} (e_marks : m (Str.ofString "marks") = some (.ref ma)) (e_waits : m (Str.ofString "waits") = some (.ref wa)) :
    m = (fun y => if y = Str.ofString "marks" then some (.ref ma) else if y = Str.ofString "waits" then some (.ref wa) else m y) := by
  funext y
  by_cases h1 : y = Str.ofString "marks"
  · subst h1; rw [if_pos rfl]; exact e_marks
  · rw [if_neg h1]
    by_cases h2 : y = Str.ofString "waits"
    · subst h2; rw [if_pos rfl]; exact e_waits
    · rw [if_neg h2]
namespace E_mark_turn
noncomputable abbrev Dat : Type := (World) × (Nat) × (Nat) × (Option (List Code)) × (Nat) × (Addr) × (Value) × (Around) × (Heap) × (Heap) × (PySem.Program) × (List Str) × (ExcName → Option Value) × (Str → Option Value) × (Str → Option Value) × (Str → Option Value) × (Shared) × (Flow → Shared → Prop) × (Value → Shared → Prop) × (Led) × (Led) × (Obj) × (Addr) × (Nat) × (Nat) × (Nat) × (Nat) × (List Str) × (List Value) × (List Value) × (ML) × (WL) × (Int) × (Tok)
theorem ne : Nonempty Dat := ⟨({ draws := fun _ _ => 0, params := { strHash := fun _ => 0, shareClass := fun _ => 0, mergeTok := id, idOf := fun _ => 0, idOfShared := fun _ _ => 0, followText := fun _ => false, idOfImm := fun _ => 0 } }, default, default, default, default, default, default, {}, default, default, default, default, default, default, default, default, {}, default, default, default, default, default, default, default, default, default, default, default, default, default, default, default, default, default)⟩
noncomputable def Stm (w : World) (dp : Nat) (un : Nat) (gd : Option (List Code)) (L : Nat) (fa : Addr) (ccd : Value) (A₀ : Around) (base : Heap) (h₀ : Heap) (p : PySem.Program) (loose : List Str) (mean : ExcName → Option Value) (mg : Str → Option Value) (mb : Str → Option Value) (m : Str → Option Value) (s : Shared) (Q : Flow → Shared → Prop) (E : Value → Shared → Prop) (V : Led) (R : Led) (o4 : Obj) (qa : Addr) (ma : Nat) (wa : Nat) (nm : Nat) (nw : Nat) (q : List Str) (mits : List Value) (wits : List Value) (l : ML) (wl : WL) (n : Int) (t : Tok) : Prop := ∀  (B : Below A₀ base [] h₀) (KX : (hd.heap_39 w.params).In h₀) (TP : Top p loose mean mg mb h₀) (hdp : dp + 40 < recursionLimit) (hun : un + 400 < cLine) (FR : Fr h₀ L s.heap m) (N : News h₀ L s.heap ((L + 4, o4) :: (ma, W.listOf mits.toArray nm) :: (wa, W.listOf wits.toArray nw) :: V)) (h4m : L + 4 ≠ ma) (h4w : L + 4 ≠ wa) (hmw : ma ≠ wa) (hV : ∀ p ∈ V, @Ne Nat p.1 (L + 4) ∧ @Ne Nat p.1 ma ∧ @Ne Nat p.1 wa) (ho4 : o4.data = .cell (some (.ref qa))) (hR : ∀ e ∈ R, e ∈ V) (Kq : WayIn w R qa q) (hql : q.length ≤ 25) (hms : MarksIn w R l mits) (hws : MarksIn w R (asMarks wl) wits) (hll : l.length + wl.length < 1000) (hlp : ∀ k ∈ l, k.1.length ≤ 25) (e_x : m (Str.ofString "x") = some (.int n t)) (e_marks : m (Str.ofString "marks") = some (.ref ma)) (e_waits : m (Str.ofString "waits") = some (.ref wa)) (next : ∀ s' ma' wa' mits' wits' nm' nw' G', Kin s s' → Fr h₀ L s'.heap (fun y => if y = Str.ofString "marks" then some (.ref ma') else if y = Str.ofString "waits" then some (.ref wa') else m y) →
      News h₀ L s'.heap ((L + 4, o4) :: (ma', W.listOf (List.toArray mits') nm') :: (wa', W.listOf (List.toArray wits') nw') :: (G' ++ V)) → L + 4 ≠ ma' → L + 4 ≠ wa' → ma' ≠ wa' →
      (∀ p ∈ G' ++ V, @Ne Nat p.1 (L + 4) ∧ @Ne Nat p.1 ma' ∧ @Ne Nat p.1 wa') → Apart G' V → MarksIn w (G' ++ R) (stepM n q l wl) mits' → MarksIn w (G' ++ R) (asMarks (stepW n q wl)) wits' → Q .next s'), wpAny (model PP w) (ktrTop dp un gd (Str.ofString "law") lawScope L fa ccd (lawCells L) []) (execs ((forBodyOf (headStmt (lawBody.drop 11))).drop 1) (envX (Str.ofString "law") lawScope L fa ccd (lawCells L))) Q E s
@[irreducible] noncomputable def pick : Dat := @Classical.epsilon Dat ne fun d => ¬ Stm d.1 d.2.1 d.2.2.1 d.2.2.2.1 d.2.2.2.2.1 d.2.2.2.2.2.1 d.2.2.2.2.2.2.1 d.2.2.2.2.2.2.2.1 d.2.2.2.2.2.2.2.2.1 d.2.2.2.2.2.2.2.2.2.1 d.2.2.2.2.2.2.2.2.2.2.1 d.2.2.2.2.2.2.2.2.2.2.2.1 d.2.2.2.2.2.2.2.2.2.2.2.2.1 d.2.2.2.2.2.2.2.2.2.2.2.2.2.1 d.2.2.2.2.2.2.2.2.2.2.2.2.2.2.1 d.2.2.2.2.2.2.2.2.2.2.2.2.2.2.2.1 d.2.2.2.2.2.2.2.2.2.2.2.2.2.2.2.2.1 d.2.2.2.2.2.2.2.2.2.2.2.2.2.2.2.2.2.1 d.2.2.2.2.2.2.2.2.2.2.2.2.2.2.2.2.2.2.1 d.2.2.2.2.2.2.2.2.2.2.2.2.2.2.2.2.2.2.2.1 d.2.2.2.2.2.2.2.2.2.2.2.2.2.2.2.2.2.2.2.2.1 d.2.2.2.2.2.2.2.2.2.2.2.2.2.2.2.2.2.2.2.2.2.1 d.2.2.2.2.2.2.2.2.2.2.2.2.2.2.2.2.2.2.2.2.2.2.1 d.2.2.2.2.2.2.2.2.2.2.2.2.2.2.2.2.2.2.2.2.2.2.2.1 d.2.2.2.2.2.2.2.2.2.2.2.2.2.2.2.2.2.2.2.2.2.2.2.2.1 d.2.2.2.2.2.2.2.2.2.2.2.2.2.2.2.2.2.2.2.2.2.2.2.2.2.1 d.2.2.2.2.2.2.2.2.2.2.2.2.2.2.2.2.2.2.2.2.2.2.2.2.2.2.1 d.2.2.2.2.2.2.2.2.2.2.2.2.2.2.2.2.2.2.2.2.2.2.2.2.2.2.2.1 d.2.2.2.2.2.2.2.2.2.2.2.2.2.2.2.2.2.2.2.2.2.2.2.2.2.2.2.2.1 d.2.2.2.2.2.2.2.2.2.2.2.2.2.2.2.2.2.2.2.2.2.2.2.2.2.2.2.2.2.1 d.2.2.2.2.2.2.2.2.2.2.2.2.2.2.2.2.2.2.2.2.2.2.2.2.2.2.2.2.2.2.1 d.2.2.2.2.2.2.2.2.2.2.2.2.2.2.2.2.2.2.2.2.2.2.2.2.2.2.2.2.2.2.2.1 d.2.2.2.2.2.2.2.2.2.2.2.2.2.2.2.2.2.2.2.2.2.2.2.2.2.2.2.2.2.2.2.2.1 d.2.2.2.2.2.2.2.2.2.2.2.2.2.2.2.2.2.2.2.2.2.2.2.2.2.2.2.2.2.2.2.2.2
@[irreducible] noncomputable def w := pick.1
@[irreducible] noncomputable def dp := pick.2.1
@[irreducible] noncomputable def un := pick.2.2.1
@[irreducible] noncomputable def gd := pick.2.2.2.1
@[irreducible] noncomputable def L := pick.2.2.2.2.1
@[irreducible] noncomputable def fa := pick.2.2.2.2.2.1
noncomputable def pickr1 := pick.2.2.2.2.2.2
@[irreducible] noncomputable def ccd := pickr1.1
@[irreducible] noncomputable def A₀ := pickr1.2.1
@[irreducible] noncomputable def base := pickr1.2.2.1
@[irreducible] noncomputable def h₀ := pickr1.2.2.2.1
@[irreducible] noncomputable def p := pickr1.2.2.2.2.1
@[irreducible] noncomputable def loose := pickr1.2.2.2.2.2.1
noncomputable def pickr2 := pickr1.2.2.2.2.2.2
@[irreducible] noncomputable def mean := pickr2.1
@[irreducible] noncomputable def mg := pickr2.2.1
@[irreducible] noncomputable def mb := pickr2.2.2.1
@[irreducible] noncomputable def m := pickr2.2.2.2.1
@[irreducible] noncomputable def s := pickr2.2.2.2.2.1
@[irreducible] noncomputable def Q := pickr2.2.2.2.2.2.1
noncomputable def pickr3 := pickr2.2.2.2.2.2.2
@[irreducible] noncomputable def E := pickr3.1
@[irreducible] noncomputable def V := pickr3.2.1
@[irreducible] noncomputable def R := pickr3.2.2.1
@[irreducible] noncomputable def o4 := pickr3.2.2.2.1
@[irreducible] noncomputable def qa := pickr3.2.2.2.2.1
@[irreducible] noncomputable def ma := pickr3.2.2.2.2.2.1
noncomputable def pickr4 := pickr3.2.2.2.2.2.2
@[irreducible] noncomputable def wa := pickr4.1
@[irreducible] noncomputable def nm := pickr4.2.1
@[irreducible] noncomputable def nw := pickr4.2.2.1
@[irreducible] noncomputable def q := pickr4.2.2.2.1
@[irreducible] noncomputable def mits := pickr4.2.2.2.2.1
@[irreducible] noncomputable def wits := pickr4.2.2.2.2.2.1
noncomputable def pickr5 := pickr4.2.2.2.2.2.2
@[irreducible] noncomputable def l := pickr5.1
@[irreducible] noncomputable def wl := pickr5.2.1
@[irreducible] noncomputable def n := pickr5.2.2.1
@[irreducible] noncomputable def t := pickr5.2.2.2
theorem go : Stm w dp un gd L fa ccd A₀ base h₀ p loose mean mg mb m s Q E V R o4 qa ma wa nm nw q mits wits l wl n t := by
  intro B KX TP hdp hun FR N h4m h4w hmw hV ho4 hR Kq hql hms hws hll hlp e_x e_marks e_waits next
  refine kf ?_
  k_fill
  intro _
  refine wpAny_noRaise ?_
  (conv in ((forBodyOf (headStmt (lawBody.drop 11))).drop 1) => whnf)
  (repeat' (first | walk_at "u" | ((fail_if_success with_reducible first | show G15 | show G9 | show G19 | show G20 | show G18 | show G39 | show G2 | show G24 | show G22 | show G35); walk1)))
  · have h2 : n.fmod 5 = 2 := by assumption
    refine nameX_C (by assumption) rfl List.mem_cons_self ho4 ?_ rfl rfl
    (repeat' (first | walk_at "u" | ((fail_if_success with_reducible first | show G15 | show G9 | show G19 | show G20 | show G18 | show G39 | show G2 | show G24 | show G22 | show G35); walk1)))
    rename_i T h5 F5 N5 l5
    obtain ⟨u5, hu5⟩ : ∃ u, u = tk + 1 := ⟨_, rfl⟩
    rw [← hu5] at N5
    have hT4 : @LT.lt Nat _ (L + 4) T := l5.1
    have hTm : @LT.lt Nat _ ma T := l5.2.1
    have hTw : @LT.lt Nat _ wa T := l5.2.2.1
    have hTV : ∀ e ∈ V, @LT.lt Nat _ e.1 T := fun e he => allLt_mem l5.2.2.2 e he
    refine list_app (pre := [(T, _), (L + 4, o4), (ma, W.listOf mits.toArray nm)]) (post := V) (D := wa) (its := wits.toArray) (n := nw) F5 N5 (fun e he => ?_) (fun e he => (hV e he).2.2) ?_ fun h6 F6 N6 => ?_
    · refine all_cons he ?_ fun he => all_cons he ?_ fun he => all_one he ?_
      · exact Nat.ne_of_gt hTw
      · exact h4w
      · exact hmw
    · rw [List.size_toArray, hws.1]; unfold asMarks; rw [List.length_map]; lia
    rw [show wits.toArray.push (Value.ref T) = (wits ++ [Value.ref T]).toArray by simp] at N6
    (repeat' (first | walk_at "u" | ((fail_if_success with_reducible first | show G15 | show G9 | show G19 | show G20 | show G18 | show G39 | show G2 | show G24 | show G22 | show G35); walk1)))
    refine next _ ma wa mits (wits ++ [.ref T]) nm (nw + 1) [(T, ({ cls := .type "tuple", data := .seq #[.ref qa, .int (n.fmod 2) u5, .bool false] } : Obj))] ⟨rfl, rfl⟩ (by rw [← map_same e_marks e_waits]; exact F6) (news_drop N6 fun e he => ?_) h4m h4w hmw (fun e he => ?_) (fun e he r hr => ?_) ?_ ?_
    · refine sub_go he ?_
      walk_at "sub"
    · refine all_cons he ?_ fun he => ?_
      · exact ⟨Nat.ne_of_gt hT4, Nat.ne_of_gt hTm, Nat.ne_of_gt hTw⟩
      · exact hV e he
    · simp only [List.mem_cons, List.not_mem_nil, or_false] at he
      subst he
      exact Nat.ne_of_gt (hTV r hr)
    · unfold stepM
      rw [if_pos h2]
      exact hms.mono fun e he => List.mem_append_right _ he
    · unfold stepW
      rw [if_pos h2]
      unfold asMarks
      rw [List.map_append]
      exact (hws.mono fun e he => List.mem_append_right _ he).append (MarksIn.one ⟨_, qa, _, 0, List.mem_append_left _ List.mem_cons_self, rfl, rfl, Kq.mono fun e he => List.mem_append_right _ he⟩)
  · have h2 : n.fmod 5 ≠ 2 := by assumption
    have h3 : n.fmod 5 = 3 := by assumption
    have hVs : ∀ e ∈ (L + 4, o4) :: (ma, W.listOf mits.toArray nm) :: (wa, W.listOf wits.toArray nw) :: V, @LT.lt Nat _ e.1 s.heap.objs.size := fun e he => Heap.lt_size (N e he).1
    refine add_lists (vs := mits) (ws := wits) (by assumption) (by assumption) (bool_list (N _ (mct _ List.mem_cons_self)).1) (bool_list (N _ (mct _ (mct _ List.mem_cons_self))).1) (fun h5 F5 N5 => ?_) (by rw [hms.1, hws.1, sizeLine_eq]; unfold asMarks; rw [List.length_map]; lia)
    (repeat' (first | walk_at "u" | ((fail_if_success with_reducible first | show G15 | show G9 | show G19 | show G20 | show G18 | show G39 | show G2 | show G24 | show G22 | show G35); walk1)))
    rename_i T h6 l6 h7 F7 N7
    have hDT : @LT.lt Nat _ s.heap.objs.size T := l6.1
    have hT4 : @LT.lt Nat _ (L + 4) T := l6.2.1
    have hTV : ∀ e ∈ V, @LT.lt Nat _ e.1 T := fun e he => allLt_mem l6.2.2.2.2 e he
    have hD4 : @LT.lt Nat _ (L + 4) s.heap.objs.size := hVs _ List.mem_cons_self
    have hDV : ∀ e ∈ V, @LT.lt Nat _ e.1 s.heap.objs.size := fun e he => hVs e (mct _ (mct _ (mct _ he)))
    have em : (fun y => if y = Str.ofString "waits" then some (Value.ref T) else if y = Str.ofString "marks" then some (Value.ref s.heap.objs.size) else m y) = (fun y => if y = Str.ofString "marks" then some (.ref s.heap.objs.size) else if y = Str.ofString "waits" then some (.ref T) else m y) := by
      funext y
      by_cases h1 : y = Str.ofString "marks"
      · subst h1; rw [if_neg (by decide), if_pos rfl, if_pos rfl]
      · rw [if_neg h1, if_neg h1]
    refine next _ s.heap.objs.size T (mits ++ wits) [] 0 0 [] ⟨rfl, rfl⟩ (by rw [← em]; exact F7) (news_drop N7 fun e he => ?_) (Nat.ne_of_lt hD4) (Nat.ne_of_lt hT4) (Nat.ne_of_lt hDT) (fun e he => ⟨(hV e he).1, Nat.ne_of_lt (hDV e he), Nat.ne_of_lt (hTV e he)⟩) (fun e he => absurd he (by simp)) ?_ ?_
    · simp only [List.mem_cons, List.nil_append] at he ⊢
      rcases he with h | h | h | h
      · exact .inr (.inr (.inl h))
      · exact .inr (.inl h)
      · exact .inl h
      · simp only [h, or_true]
    · unfold stepM
      rw [if_neg h2, if_pos h3]
      exact hms.append hws
    · unfold stepW
      rw [if_neg h2, if_pos h3]
      exact MarksIn.nil
  · have h2 : n.fmod 5 ≠ 2 := by assumption
    have h3 : n.fmod 5 ≠ 3 := by assumption
    have h4 : n.fmod 5 = 4 := by assumption
    refine Assign_ListComp_led (cl := [(Str.ofString "way", L + 4)]) (S := { kind := .function, names := [(Str.ofString ".0", .local), (Str.ofString "mark", .local), (Str.ofString "len", .globalImplicit), (Str.ofString "way", .cell)], isGenerator := false, isCoroutine := false }) (by assumption) rfl ?s1 ?s2 ?s3 ?s4 ?s45 ?s5 ?s6 ?s7 ?s8 ?s9 ?s10 ?_
    case s1 => rfl
    case s2 => rfl
    case s3 => rfl
    case s4 => rfl
    case s45 => rfl
    case s5 => decide
    case s6 => rfl
    case s7 => decide
    case s8 => decide
    case s9 => intro x; rfl
    case s10 =>
      intro C g' hg' x
      simp only [List.mem_cons, List.not_mem_nil, or_false] at hg'
      rcases hg' with rfl <;> rfl
    (repeat' (first | walk_at "u" | ((fail_if_success with_reducible first | show G15 | show G9 | show G19 | show G20 | show G18 | show G39 | show G2 | show G24 | show G22 | show G35); walk1)))
    refine led_list (its := mits) (n := nm) (by assumption) (by assumption) (mct _ List.mem_cons_self) rfl rfl fun I oI h7 hI7 F7 N7 hoI => ?_
    refine ⟨_, _, F7, N7, fun H C oL s3 K3 nsL hH hLH hHC F3 N3 => ?_⟩
    have hL1 : @LT.lt Nat _ L H := hLH
    obtain ⟨X, hX⟩ : ∃ X, X = (L + 4, o4) :: (ma, W.listOf mits.toArray nm) :: (wa, W.listOf wits.toArray nw) :: V := ⟨_, rfl⟩
    rw [← hX] at N3 hH hI7 N
    have hIH : @LT.lt Nat _ I H := hH _ List.mem_cons_self
    have hXH : ∀ e ∈ X, @LT.lt Nat _ e.1 H := fun e he => hH _ (mct _ he)
    have hXI : ∀ e ∈ X, @LT.lt Nat _ e.1 I := fun e he => hI7 _ he
    have h4X : (L + 4, o4) ∈ X := by rw [hX]; exact List.mem_cons_self
    have hmX : (ma, W.listOf mits.toArray nm) ∈ X := by rw [hX]; exact mct _ List.mem_cons_self
    have hVX : ∀ e ∈ V, e ∈ X := fun e he => by rw [hX]; walk_at "mem"
    have hXL : ∀ e ∈ X, @Ne Nat e.1 L := fun e he => (N e he).2.1
    have hIL : @LT.lt Nat _ L I := Nat.lt_of_le_of_lt (Nat.le_add_right L 4) (hXI _ h4X)
    obtain ⟨m₂, hmm, hm₂⟩ : ∃ m₂ : Str → Option Value, m₂ = m ∧ LCg.NsObj oL m₂ := ⟨_, rfl, nsL⟩
    refine body_list (W := (L, oL) :: (H, W.listOf #[] 0) :: X) (o := W.listOf mits.toArray nm) (its := mits) (n := nm) rfl (fun i m' W' => ∃ oL hs nh u1, LCg.NsObj oL m₂ ∧ W' = (L, oL) :: (H, W.listOf (List.toArray hs) nh) :: X ∧ MarksIn w R ((l.take i).filter fun k => !decide (k.1.take q.length = q)) hs ∧ m' = fun y => if y = Str.ofString "mark" then u1 else none) F3 (news_drop N3 ?_) hoI ?_ rfl rfl ?_ ?_ ?_ ?_
    · intro e he
      refine sub_go he ?_
      walk_at "sub"
    · intro e he
      refine all_cons he ?_ fun he => all_cons he ?_ fun he => ?_
      · exact Nat.ne_of_lt hIL
      · exact Nat.ne_of_gt hIH
      · exact Nat.ne_of_lt (hXI e he)
    · rintro i m' W' ⟨oL, hs, nh, u1, _, rfl, _⟩
      exact mct _ (mct _ hmX)
    · refine ⟨oL, [], 0, none, hm₂, rfl, MarksIn.nil, ?_⟩
      funext y
      simp
    · rintro i v m' W' oI2 s4 hv ⟨oL2, hs, nh, u1, nsL2, rfl, hints, rfl⟩ hoff F4 N4 K4 QQk hQk
      obtain ⟨ka, ⟨kp, ki, kd⟩, rfl, hk, Kk⟩ := hms.get hv
      have KkV := Kk
      obtain ⟨ko, kb, kt, kn, hkm, hkc, hkd, hkb⟩ := Kk
      obtain ⟨ocl, odi, oda, osl⟩ := ko
      dsimp only at hkc hkd hkb
      subst hkc hkd
      have hkX := mct (I, oI2) (mct (L, oL2) (mct (H, W.listOf (List.toArray hs) nh) (hVX _ (hR _ hkm))))
      have upX : ∀ e ∈ X, e ∈ (I, oI2) :: (L, oL2) :: (H, W.listOf (List.toArray hs) nh) :: X := fun e he => mct _ (mct _ (mct _ he))
      have Kb := hkb.mono fun e he => upX e (hVX e (hR e he))
      have Kq' := Kq.mono fun e he => upX e (hVX e (hR e he))
      have hkl := hlp _ (List.mem_of_getElem? hk)
      dsimp only at hkl
      (repeat' (first | walk_at "u" | ((fail_if_success with_reducible first | show G15 | show G9 | show G19 | show G20 | show G18 | show G39 | show G2 | show G24 | show G22 | show G35); walk1)))
      refine tests_one ?_
      (repeat' (first | walk_at "u" | ((fail_if_success with_reducible first | show G15 | show G9 | show G19 | show G20 | show G18 | show G39 | show G2 | show G24 | show G22 | show G35); walk1)))
      refine cname_C (o := o4) (by assumption) rfl (upX _ h4X) ho4 ?_ rfl rfl
      (repeat' (first | walk_at "u" | ((fail_if_success with_reducible first | show G15 | show G9 | show G19 | show G20 | show G18 | show G39 | show G2 | show G24 | show G22 | show G35); walk1)))
      refine len_way (by assumption) Kq' (by omega) ?_
      (repeat' (first | walk_at "u" | ((fail_if_success with_reducible first | show G15 | show G9 | show G19 | show G20 | show G18 | show G39 | show G2 | show G24 | show G22 | show G35); walk1)))
      refine slice_way2 (by assumption) (by assumption) Kb (by lia) fun sl osl s7 K7 F7' N7' KW7 ne7 => ?_
      (repeat' (first | walk_at "u" | ((fail_if_success with_reducible first | show G15 | show G9 | show G19 | show G20 | show G18 | show G39 | show G2 | show G24 | show G22 | show G35); walk1)))
      refine cname_C (o := o4) (by assumption) rfl (mct _ (upX _ h4X)) ho4 ?_ rfl rfl
      (repeat' (first | walk_at "u" | ((fail_if_success with_reducible first | show G15 | show G9 | show G19 | show G20 | show G18 | show G39 | show G2 | show G24 | show G22 | show G35); walk1)))
      have e1 : kp.take (upto (q.length : Int) kp.length) = kp.take q.length := by
        have : upto (q.length : Int) kp.length = min q.length kp.length := by unfold upto; rw [if_neg (by lia), Int.toNat_natCast]
        rw [this]
        by_cases hle : q.length ≤ kp.length
        · rw [Nat.min_eq_left hle]
        · rw [Nat.min_eq_right (by omega), List.take_of_length_le (Nat.le_refl _), List.take_of_length_le (by omega)]
      rw [e1] at KW7
      have efil : (l.take (i + 1)).filter (fun k => !decide (k.1.take q.length = q)) = (l.take i).filter (fun k => !decide (k.1.take q.length = q)) ++ if kp.take q.length = q then [] else [(kp, ki, kd)] := by
        rw [List.take_add_one, hk, Option.toList_some, List.filter_append]
        congr 1
        rw [List.filter_cons, List.filter_nil]
        by_cases hz : kp.take q.length = q <;> simp [hz]
      have em : ∀ z : Option Value, (fun y => if y = Str.ofString "mark" then some (Value.ref ka) else if y = Str.ofString "mark" then z else none) = (fun y => if y = Str.ofString "mark" then some (Value.ref ka) else none) := fun z => by
        funext y
        by_cases h1 : y = Str.ofString "mark"
        · subst h1; rfl
        · simp only [if_neg h1]
      by_cases hz : kp.take q.length = q
      · refine way_ne (by assumption) KW7 (Kq'.mono fun e he => mct _ he) (room0 hun) (r := false) (by simp [hz]) ?_
        (repeat' (first | walk_at "u" | ((fail_if_success with_reducible first | show G15 | show G9 | show G19 | show G20 | show G18 | show G39 | show G2 | show G24 | show G22 | show G35); walk1)))
        refine hQk _ ?_
        refine NextHere.intro (by assumption) (by assumption) (W' := (L, oL2) :: (H, W.listOf (List.toArray hs) nh) :: X) (fun e he => ?_) (fun e he => ?_) ⟨oL2, hs, nh, some (.ref ka), nsL2, rfl, ?_, em u1⟩ (Kin.trans K4 K7)
        · refine sub_go he ?_
          walk_at "sub"
        · refine all_cons he ?_ fun he => all_cons he ?_ fun he => ?_
          · exact Nat.ne_of_lt hIL
          · exact Nat.ne_of_gt hIH
          · exact Nat.ne_of_lt (hXI e he)
        · rw [efil, if_pos hz, List.append_nil]; exact hints
      · refine way_ne (by assumption) KW7 (Kq'.mono fun e he => mct _ he) (room0 hun) (r := true) (by simp [hz]) ?_
        (repeat' (first | walk_at "u" | ((fail_if_success with_reducible first | show G15 | show G9 | show G19 | show G20 | show G18 | show G39 | show G2 | show G24 | show G22 | show G35); walk1)))
        refine emit_its (v := .ref ka) (nh := nh) (hs := hs) (X := X) (by assumption) rfl (news_drop (by assumption) fun e he => mct _ he) (Nat.ne_of_lt hIH) (Nat.ne_of_lt hL1) (fun e he => Nat.ne_of_lt (hXH e he)) (by rw [hints.1]; have := List.length_filter_le (fun k : List Str × Int × Bool => !decide (k.1.take q.length = q)) (l.take i); rw [List.length_take] at this; lia) rfl rfl (by decide) fun s5 K5 F5 N5 => ?_
        refine hQk _ ?_
        refine NextHere.intro F5 N5 (W' := (L, oL2) :: (H, W.listOf (List.toArray (hs ++ [.ref ka])) (nh + 1)) :: X) (fun e he => he) (fun e he => ?_) ⟨oL2, _, nh + 1, some (.ref ka), nsL2, rfl, ?_, em u1⟩ (Kin.trans K4 (Kin.trans K7 K5))
        · refine all_cons he ?_ fun he => all_cons he ?_ fun he => ?_
          · exact Nat.ne_of_lt hIL
          · exact Nat.ne_of_gt hIH
          · exact Nat.ne_of_lt (hXI e he)
        · rw [efil, if_neg hz]
          exact hints.append (MarksIn.one KkV)
    · rintro m' W' s4 ⟨oL4, hs, nh, u1, nsL4, rfl, hints, rfl⟩ F4 N4 K4
      rw [hms.1, List.take_length] at hints
      refine ⟨_, (H, W.listOf (List.toArray hs) nh) :: X, oL4, hmm ▸ nsL4, F4, N4, ?_, fun s5 K5 F5 N5 => ?_⟩
      · intro e he
        rcases List.mem_cons.mp he with rfl | h
        · exact Nat.ne_of_gt hL1
        · exact hXL e h
      (repeat' (first | walk_at "u" | ((fail_if_success with_reducible first | show G15 | show G9 | show G19 | show G20 | show G18 | show G39 | show G2 | show G24 | show G22 | show G35); walk1)))
      have em : (fun y => if y = Str.ofString "marks" then some (Value.ref H) else m y) = (fun y => if y = Str.ofString "marks" then some (Value.ref H) else if y = Str.ofString "waits" then some (.ref wa) else m y) := by
        funext y
        by_cases h1 : y = Str.ofString "marks"
        · subst h1; rw [if_pos rfl, if_pos rfl]
        · rw [if_neg h1, if_neg h1]
          by_cases h2 : y = Str.ofString "waits"
          · subst h2; rw [if_pos rfl]; exact e_waits
          · rw [if_neg h2]
      refine next _ H wa hs wits nh nw [] (Kin.trans K3 (Kin.trans K4 K5)) (by rw [← em]; exact F5) (news_drop N5 fun e he => ?_) (Nat.ne_of_lt (hXH _ h4X)) h4w (Ne.symm (Nat.ne_of_lt (hXH (wa, W.listOf wits.toArray nw) (by rw [hX]; walk_at "mem")))) (fun e he => ⟨(hV e he).1, Nat.ne_of_lt (hXH e (hVX e he)), (hV e he).2.2⟩) (fun e he => absurd he (by simp)) ?_ ?_
      · rw [hX]
        refine sub_go he ?_
        walk_at "sub"
      · unfold stepM
        rw [if_neg h2, if_neg h3, if_pos h4]
        exact hints
      · unfold stepW
        rw [if_neg h2, if_neg h3]
        exact hws
  · have h2 : n.fmod 5 ≠ 2 := by assumption
    have h3 : n.fmod 5 ≠ 3 := by assumption
    have h4 : n.fmod 5 ≠ 4 := by assumption
    refine nameX_C (by assumption) rfl List.mem_cons_self ho4 ?_ rfl rfl
    (repeat' (first | walk_at "u" | ((fail_if_success with_reducible first | show G15 | show G9 | show G19 | show G20 | show G18 | show G39 | show G2 | show G24 | show G22 | show G35); walk1)))
    rename_i T h5 F5 N5 l5
    obtain ⟨u5, hu5⟩ : ∃ u, u = tk + 1 := ⟨_, rfl⟩
    rw [← hu5] at N5
    have hT4 : @LT.lt Nat _ (L + 4) T := l5.1
    have hTm : @LT.lt Nat _ ma T := l5.2.1
    have hTw : @LT.lt Nat _ wa T := l5.2.2.1
    have hTV : ∀ e ∈ V, @LT.lt Nat _ e.1 T := fun e he => allLt_mem l5.2.2.2 e he
    refine list_app (pre := [(T, _), (L + 4, o4)]) (post := (wa, W.listOf wits.toArray nw) :: V) (D := ma) (its := mits.toArray) (n := nm) F5 N5 (fun e he => ?_) (fun e he => ?_) ?_ fun h6 F6 N6 => ?_
    · refine all_cons he ?_ fun he => all_one he ?_
      · exact Nat.ne_of_gt hTm
      · exact h4m
    · rcases List.mem_cons.mp he with rfl | he
      · exact Ne.symm hmw
      · exact (hV e he).2.1
    · rw [List.size_toArray, hms.1]; lia
    rw [show mits.toArray.push (Value.ref T) = (mits ++ [Value.ref T]).toArray by simp] at N6
    (repeat' (first | walk_at "u" | ((fail_if_success with_reducible first | show G15 | show G9 | show G19 | show G20 | show G18 | show G39 | show G2 | show G24 | show G22 | show G35); walk1)))
    refine next _ ma wa (mits ++ [.ref T]) wits (nm + 1) nw [(T, ({ cls := .type "tuple", data := .seq #[.ref qa, .int (n.fmod 2) u5, .bool (n.fmod 5 == 1)] } : Obj))] ⟨rfl, rfl⟩ (by rw [← map_same e_marks e_waits]; exact F6) (news_drop N6 fun e he => ?_) h4m h4w hmw (fun e he => ?_) (fun e he r hr => ?_) ?_ ?_
    · refine sub_go he ?_
      walk_at "sub"
    · refine all_cons he ?_ fun he => ?_
      · exact ⟨Nat.ne_of_gt hT4, Nat.ne_of_gt hTm, Nat.ne_of_gt hTw⟩
      · exact hV e he
    · simp only [List.mem_cons, List.not_mem_nil, or_false] at he
      subst he
      exact Nat.ne_of_gt (hTV r hr)
    · unfold stepM
      rw [if_neg h2, if_neg h3, if_neg h4]
      exact (hms.mono fun e he => List.mem_append_right _ he).append (MarksIn.one ⟨_, qa, _, 0, List.mem_append_left _ List.mem_cons_self, rfl, rfl, Kq.mono fun e he => List.mem_append_right _ he⟩)
    · unfold stepW
      rw [if_neg h2, if_neg h3]
      exact hws.mono fun e he => List.mem_append_right _ he
theorem all (x : Dat) : Stm x.1 x.2.1 x.2.2.1 x.2.2.2.1 x.2.2.2.2.1 x.2.2.2.2.2.1 x.2.2.2.2.2.2.1 x.2.2.2.2.2.2.2.1 x.2.2.2.2.2.2.2.2.1 x.2.2.2.2.2.2.2.2.2.1 x.2.2.2.2.2.2.2.2.2.2.1 x.2.2.2.2.2.2.2.2.2.2.2.1 x.2.2.2.2.2.2.2.2.2.2.2.2.1 x.2.2.2.2.2.2.2.2.2.2.2.2.2.1 x.2.2.2.2.2.2.2.2.2.2.2.2.2.2.1 x.2.2.2.2.2.2.2.2.2.2.2.2.2.2.2.1 x.2.2.2.2.2.2.2.2.2.2.2.2.2.2.2.2.1 x.2.2.2.2.2.2.2.2.2.2.2.2.2.2.2.2.2.1 x.2.2.2.2.2.2.2.2.2.2.2.2.2.2.2.2.2.2.1 x.2.2.2.2.2.2.2.2.2.2.2.2.2.2.2.2.2.2.2.1 x.2.2.2.2.2.2.2.2.2.2.2.2.2.2.2.2.2.2.2.2.1 x.2.2.2.2.2.2.2.2.2.2.2.2.2.2.2.2.2.2.2.2.2.1 x.2.2.2.2.2.2.2.2.2.2.2.2.2.2.2.2.2.2.2.2.2.2.1 x.2.2.2.2.2.2.2.2.2.2.2.2.2.2.2.2.2.2.2.2.2.2.2.1 x.2.2.2.2.2.2.2.2.2.2.2.2.2.2.2.2.2.2.2.2.2.2.2.2.1 x.2.2.2.2.2.2.2.2.2.2.2.2.2.2.2.2.2.2.2.2.2.2.2.2.2.1 x.2.2.2.2.2.2.2.2.2.2.2.2.2.2.2.2.2.2.2.2.2.2.2.2.2.2.1 x.2.2.2.2.2.2.2.2.2.2.2.2.2.2.2.2.2.2.2.2.2.2.2.2.2.2.2.1 x.2.2.2.2.2.2.2.2.2.2.2.2.2.2.2.2.2.2.2.2.2.2.2.2.2.2.2.2.1 x.2.2.2.2.2.2.2.2.2.2.2.2.2.2.2.2.2.2.2.2.2.2.2.2.2.2.2.2.2.1 x.2.2.2.2.2.2.2.2.2.2.2.2.2.2.2.2.2.2.2.2.2.2.2.2.2.2.2.2.2.2.1 x.2.2.2.2.2.2.2.2.2.2.2.2.2.2.2.2.2.2.2.2.2.2.2.2.2.2.2.2.2.2.2.1 x.2.2.2.2.2.2.2.2.2.2.2.2.2.2.2.2.2.2.2.2.2.2.2.2.2.2.2.2.2.2.2.2.1 x.2.2.2.2.2.2.2.2.2.2.2.2.2.2.2.2.2.2.2.2.2.2.2.2.2.2.2.2.2.2.2.2.2 := eps_all ne (fun x => Stm x.1 x.2.1 x.2.2.1 x.2.2.2.1 x.2.2.2.2.1 x.2.2.2.2.2.1 x.2.2.2.2.2.2.1 x.2.2.2.2.2.2.2.1 x.2.2.2.2.2.2.2.2.1 x.2.2.2.2.2.2.2.2.2.1 x.2.2.2.2.2.2.2.2.2.2.1 x.2.2.2.2.2.2.2.2.2.2.2.1 x.2.2.2.2.2.2.2.2.2.2.2.2.1 x.2.2.2.2.2.2.2.2.2.2.2.2.2.1 x.2.2.2.2.2.2.2.2.2.2.2.2.2.2.1 x.2.2.2.2.2.2.2.2.2.2.2.2.2.2.2.1 x.2.2.2.2.2.2.2.2.2.2.2.2.2.2.2.2.1 x.2.2.2.2.2.2.2.2.2.2.2.2.2.2.2.2.2.1 x.2.2.2.2.2.2.2.2.2.2.2.2.2.2.2.2.2.2.1 x.2.2.2.2.2.2.2.2.2.2.2.2.2.2.2.2.2.2.2.1 x.2.2.2.2.2.2.2.2.2.2.2.2.2.2.2.2.2.2.2.2.1 x.2.2.2.2.2.2.2.2.2.2.2.2.2.2.2.2.2.2.2.2.2.1 x.2.2.2.2.2.2.2.2.2.2.2.2.2.2.2.2.2.2.2.2.2.2.1 x.2.2.2.2.2.2.2.2.2.2.2.2.2.2.2.2.2.2.2.2.2.2.2.1 x.2.2.2.2.2.2.2.2.2.2.2.2.2.2.2.2.2.2.2.2.2.2.2.2.1 x.2.2.2.2.2.2.2.2.2.2.2.2.2.2.2.2.2.2.2.2.2.2.2.2.2.1 x.2.2.2.2.2.2.2.2.2.2.2.2.2.2.2.2.2.2.2.2.2.2.2.2.2.2.1 x.2.2.2.2.2.2.2.2.2.2.2.2.2.2.2.2.2.2.2.2.2.2.2.2.2.2.2.1 x.2.2.2.2.2.2.2.2.2.2.2.2.2.2.2.2.2.2.2.2.2.2.2.2.2.2.2.2.1 x.2.2.2.2.2.2.2.2.2.2.2.2.2.2.2.2.2.2.2.2.2.2.2.2.2.2.2.2.2.1 x.2.2.2.2.2.2.2.2.2.2.2.2.2.2.2.2.2.2.2.2.2.2.2.2.2.2.2.2.2.2.1 x.2.2.2.2.2.2.2.2.2.2.2.2.2.2.2.2.2.2.2.2.2.2.2.2.2.2.2.2.2.2.2.1 x.2.2.2.2.2.2.2.2.2.2.2.2.2.2.2.2.2.2.2.2.2.2.2.2.2.2.2.2.2.2.2.2.1 x.2.2.2.2.2.2.2.2.2.2.2.2.2.2.2.2.2.2.2.2.2.2.2.2.2.2.2.2.2.2.2.2.2) (by with_unfolding_all exact go) x
end E_mark_turn
theorem mark_turn {w : World} {dp : Nat} {un : Nat} {gd : Option (List Code)} {L : Nat} {fa : Addr} {ccd : Value} {A₀ : Around} {base : Heap} {h₀ : Heap} {p : PySem.Program} {loose : List Str} {mean : ExcName → Option Value} {mg : Str → Option Value} {mb : Str → Option Value} {m : Str → Option Value} {s : Shared} {Q : Flow → Shared → Prop} {E : Value → Shared → Prop} {V : Led} {R : Led} {o4 : Obj} {qa : Addr} {ma : Nat} {wa : Nat} {nm : Nat} {nw : Nat} {q : List Str} {mits : List Value} {wits : List Value} {l : ML} {wl : WL} {n : Int} {t : Tok}  (B : Below A₀ base [] h₀) (KX : (hd.heap_39 w.params).In h₀) (TP : Top p loose mean mg mb h₀) (hdp : dp + 40 < recursionLimit) (hun : un + 400 < cLine) (FR : Fr h₀ L s.heap m) (N : News h₀ L s.heap ((L + 4, o4) :: (ma, W.listOf mits.toArray nm) :: (wa, W.listOf wits.toArray nw) :: V)) (h4m : L + 4 ≠ ma) (h4w : L + 4 ≠ wa) (hmw : ma ≠ wa) (hV : ∀ p ∈ V, @Ne Nat p.1 (L + 4) ∧ @Ne Nat p.1 ma ∧ @Ne Nat p.1 wa) (ho4 : o4.data = .cell (some (.ref qa))) (hR : ∀ e ∈ R, e ∈ V) (Kq : WayIn w R qa q) (hql : q.length ≤ 25) (hms : MarksIn w R l mits) (hws : MarksIn w R (asMarks wl) wits) (hll : l.length + wl.length < 1000) (hlp : ∀ k ∈ l, k.1.length ≤ 25) (e_x : m (Str.ofString "x") = some (.int n t)) (e_marks : m (Str.ofString "marks") = some (.ref ma)) (e_waits : m (Str.ofString "waits") = some (.ref wa)) (next : ∀ s' ma' wa' mits' wits' nm' nw' G', Kin s s' → Fr h₀ L s'.heap (fun y => if y = Str.ofString "marks" then some (.ref ma') else if y = Str.ofString "waits" then some (.ref wa') else m y) →
      News h₀ L s'.heap ((L + 4, o4) :: (ma', W.listOf (List.toArray mits') nm') :: (wa', W.listOf (List.toArray wits') nw') :: (G' ++ V)) → L + 4 ≠ ma' → L + 4 ≠ wa' → ma' ≠ wa' →
      (∀ p ∈ G' ++ V, @Ne Nat p.1 (L + 4) ∧ @Ne Nat p.1 ma' ∧ @Ne Nat p.1 wa') → Apart G' V → MarksIn w (G' ++ R) (stepM n q l wl) mits' → MarksIn w (G' ++ R) (asMarks (stepW n q wl)) wits' → Q .next s') : wpAny (model PP w) (ktrTop dp un gd (Str.ofString "law") lawScope L fa ccd (lawCells L) []) (execs ((forBodyOf (headStmt (lawBody.drop 11))).drop 1) (envX (Str.ofString "law") lawScope L fa ccd (lawCells L))) Q E s :=
  E_mark_turn.all (w, dp, un, gd, L, fa, ccd, A₀, base, h₀, p, loose, mean, mg, mb, m, s, Q, E, V, R, o4, qa, ma, wa, nm, nw, q, mits, wits, l, wl, n, t) B KX TP hdp hun FR N h4m h4w hmw hV ho4 hR Kq hql hms hws hll hlp e_x e_marks e_waits next
end

section
open PySem PySem.W PyProof.Rows
theorem Mach.zero {w : World} {F U : Led} {x : Addr} {mk : Marks} {b k : Nat} (M : Mach w F U x mk (fun _ => False) b k) : Mach w F U x mk (fun _ => False) b 0 := by
  obtain ⟨T, Tp, g, c, np, rfl, ap, X, PI, hb, hk⟩ := M
  obtain ⟨o, vals, h1, h2, h3, h4, h5⟩ := PI
  have hv : vals = [] := List.eq_nil_iff_forall_not_mem.mpr fun v hv => by
    obtain ⟨_, _, _, _, _, h⟩ := h4 v hv
    exact h
  subst hv
  exact ⟨T, Tp, g, c, 0, rfl, ap, X, ⟨o, [], h1, h2, Nat.le_refl _, h4, h5⟩, by lia, Nat.le_refl _⟩
theorem StepsIn.append {w : World} {W : Led} {qs rs : List (Int × List Str)} {its jts : List Value} (h : StepsIn w W qs its) (g : StepsIn w W rs jts) : StepsIn w W (qs ++ rs) (its ++ jts) :=
  ⟨by rw [List.length_append, List.length_append, h.1, g.1], fun i q hq => by
    by_cases hi : i < qs.length
    · rw [List.getElem?_append_left hi] at hq
      rw [List.getElem?_append_left (by rw [h.1]; exact hi)]
      exact h.2 i q hq
    · rw [List.getElem?_append_right (by omega)] at hq
      rw [List.getElem?_append_right (by rw [h.1]; omega), h.1]
      exact g.2 _ q hq⟩
theorem StepsIn.one {w : World} {W : Led} {a : Addr} {k : Int × List Str} (h : StepIn w W a k) : StepsIn w W [k] [.ref a] :=
  ⟨rfl, fun i q hq => by
    cases i with
    | zero => obtain rfl := Option.some.inj hq; exact ⟨a, rfl, h⟩
    | succ i => simp at hq⟩
theorem stepM_count (n : Int) (q : List Str) (l : ML) (wl : WL) : (stepM n q l wl).length + (stepW n q wl).length ≤ l.length + wl.length + 1 := by
  unfold stepM stepW
  split
  · rw [List.length_append, List.length_singleton]; lia
  · split
    · rw [List.length_append, List.length_nil]; unfold asMarks; rw [List.length_map]; lia
    · split
      · have := List.length_filter_le (fun k : List Str × Int × Bool => !decide (k.1.take q.length = q)) l; lia
      · rw [List.length_append, List.length_singleton]; lia
theorem stepM_len {n : Int} {q : List Str} {l : ML} {wl : WL} (hl : ∀ k ∈ l, k.1.length ≤ 25) (hw : ∀ k ∈ wl, k.1.length ≤ 25) (hq : q.length ≤ 25) : ∀ k ∈ stepM n q l wl, k.1.length ≤ 25 := by
  unfold stepM
  intro k hk
  split at hk
  · exact hl k hk
  · split at hk
    · rcases List.mem_append.mp hk with h | h
      · exact hl k h
      · unfold asMarks at h
        obtain ⟨z, hz, rfl⟩ := List.mem_map.mp h
        exact hw z hz
    · split at hk
      · exact hl k (List.mem_filter.mp hk).1
      · rcases List.mem_append.mp hk with h | h
        · exact hl k h
        · rw [List.mem_singleton.mp h]; exact hq
structure Inv10 (w : World) (L : Nat) (F' V' : Led) (x1 : Addr) (S' : List (Int × List Str)) (b k i : Nat) (G U1 : Led) (mk : Marks) (P : Wait) (l : ML) (wl : WL) (ma wa : Nat) (mits wits : List Value) : Prop where
  h4m : @Ne Nat (L + 4) ma
  h4w : @Ne Nat (L + 4) wa
  hmw : @Ne Nat ma wa
  h5m : @Ne Nat (L + 5) ma
  h5w : @Ne Nat (L + 5) wa
  hsep : ∀ e ∈ G ++ (V' ++ U1), @Ne Nat e.1 (L + 4) ∧ @Ne Nat e.1 (L + 5) ∧ @Ne Nat e.1 ma ∧ @Ne Nat e.1 wa
  apG : Apart G U1
  apV : Apart V' U1
  M1 : Mach w F' U1 x1 mk P b k
  hms : MarksIn w (G ++ V') l mits
  hwts : MarksIn w (G ++ V') (asMarks wl) wits
  rep : RepM mk l
  repw : RepW P wl
  cl1 : Clean mk
  wc : WClean P
  hcount : l.length + wl.length ≤ 2 + i
  hlp : ∀ k ∈ l, k.1.length ≤ 25
  hlast : ∀ k, S'[i - 1]? = some k → 0 < i → k.1.fmod 5 = 3 → P = fun _ => False
namespace E_tail10
noncomputable abbrev Dat : Type := (World) × (Nat) × (Nat) × (Option (List Code)) × (Nat) × (Addr) × (Value) × (Around) × (Heap) × (Heap) × (PySem.Program) × (List Str) × (ExcName → Option Value) × (Str → Option Value) × (Str → Option Value) × (Str → Option Value) × (Shared) × (Flow → Shared → Prop) × (Value → Shared → Prop) × (Led) × (Led) × (Led) × (Addr) × (Addr) × (Addr) × (Addr) × (Obj) × (Obj) × (Obj) × (Obj) × (Obj) × (Option Value) × (Option Value) × (List Value) × (List Value) × (List Value) × (Nat) × (Nat) × (Nat) × (List (List Str)) × (List (Int × List Str)) × (ML) × (Int) × (Tok) × (Marks) × (Nat) × (Nat)
theorem ne : Nonempty Dat := ⟨({ draws := fun _ _ => 0, params := { strHash := fun _ => 0, shareClass := fun _ => 0, mergeTok := id, idOf := fun _ => 0, idOfShared := fun _ _ => 0, followText := fun _ => false, idOfImm := fun _ => 0 } }, default, default, default, default, default, default, {}, default, default, default, default, default, default, default, default, {}, default, default, default, default, default, default, default, default, default, default, default, default, default, default, default, default, default, default, default, default, default, default, default, default, default, default, default, default, default, default)⟩
noncomputable def Stm (w : World) (dp : Nat) (un : Nat) (gd : Option (List Code)) (L : Nat) (fa : Addr) (ccd : Value) (A₀ : Around) (base : Heap) (h₀ : Heap) (p : PySem.Program) (loose : List Str) (mean : ExcName → Option Value) (mg : Str → Option Value) (mb : Str → Option Value) (m : Str → Option Value) (s : Shared) (Q : Flow → Shared → Prop) (E : Value → Shared → Prop) (F : Led) (V : Led) (U1 : Led) (x1 : Addr) (wl : Addr) (st : Addr) (ma : Addr) (oW : Obj) (oY : Obj) (oA : Obj) (wlo : Obj) (sto : Obj) (c0 : Option Value) (cA : Option Value) (its : List Value) (stis : List Value) (mits : List Value) (nw : Nat) (ns : Nat) (nm : Nat) (Y : List (List Str)) (sts : List (Int × List Str)) (l : ML) (hf : Int) (th : Tok) (mk1 : Marks) (b1 : Nat) (k1 : Nat) : Prop := ∀  (B : Below A₀ base [] h₀) (KX : (hd.heap_39 w.params).In h₀) (TP : Top p loose mean mg mb h₀) (hdp : dp + 40 < recursionLimit) (hun : un + 400 < cLine) (FR : Fr h₀ L s.heap m) (N : News h₀ L s.heap ((L + 4, oY) :: (L + 5, oA) :: (ma, W.listOf mits.toArray nm) :: (V ++ U1))) (hoY : oY.data = .cell c0) (hoA : oA.data = .cell cA) (hne : ∀ p ∈ V ++ U1, @Ne Nat p.1 (L + 4) ∧ @Ne Nat p.1 (L + 5) ∧ @Ne Nat p.1 ma) (h4m : @Ne Nat (L + 4) ma) (h5m : @Ne Nat (L + 5) ma) (M1 : Mach w F U1 x1 mk1 (fun _ => False) b1 k1) (apV : Apart V U1) (hFV : ∀ e ∈ F, e ∈ V) (hcW : (L + 3, oW) ∈ V) (hoW : oW.data = .cell (some (.ref wl))) (hwl : (wl, wlo) ∈ V) (hwc : wlo.cls = .type "list") (hwd : wlo.data = .seq its.toArray nw) (hws : WaysIn w F Y its) (hst : (st, sto) ∈ V) (hsc : sto.cls = .type "list") (hsd : sto.data = .seq stis.toArray ns) (hsts : StepsIn w F sts stis) (hms : MarksIn w V l mits) (hll : l.length ≤ 2) (hlp : ∀ k ∈ l, k.1.length ≤ 25) (rep : RepM mk1 l) (e_steps : m (Str.ofString "steps") = some (.ref st)) (e_half : m (Str.ofString "half") = some (.int hf th)) (e_one : m (Str.ofString "one") = some (.ref x1)) (e_marks : m (Str.ofString "marks") = some (.ref ma)) (hf0 : 0 ≤ hf) (hYc : Closed Y) (hY : ∀ y ∈ Y, cc ∉ y ∧ y.length ≤ 25) (hYn : Y.length < 19000) (hstp : ∀ k ∈ sts, k.2 ∈ Y ∧ (k.1.fmod 5 ≠ 3 → k.2 ≠ [])) (cl1 : Clean mk1) (hb1 : b1 + 25 * 140 < 5000000) (hk1 : k1 + (sts.length + 1) < 70) (ret : ∀ s' m', Kin s s' → Fr h₀ L s'.heap m' → Q (.ret (.bool true)) s'), wpAny (model PP w) (ktrTop dp un gd (Str.ofString "law") lawScope L fa ccd (lawCells L) []) (execs (lawBody.drop 10) (envX (Str.ofString "law") lawScope L fa ccd (lawCells L))) Q E s
@[irreducible] noncomputable def pick : Dat := @Classical.epsilon Dat ne fun d => ¬ Stm d.1 d.2.1 d.2.2.1 d.2.2.2.1 d.2.2.2.2.1 d.2.2.2.2.2.1 d.2.2.2.2.2.2.1 d.2.2.2.2.2.2.2.1 d.2.2.2.2.2.2.2.2.1 d.2.2.2.2.2.2.2.2.2.1 d.2.2.2.2.2.2.2.2.2.2.1 d.2.2.2.2.2.2.2.2.2.2.2.1 d.2.2.2.2.2.2.2.2.2.2.2.2.1 d.2.2.2.2.2.2.2.2.2.2.2.2.2.1 d.2.2.2.2.2.2.2.2.2.2.2.2.2.2.1 d.2.2.2.2.2.2.2.2.2.2.2.2.2.2.2.1 d.2.2.2.2.2.2.2.2.2.2.2.2.2.2.2.2.1 d.2.2.2.2.2.2.2.2.2.2.2.2.2.2.2.2.2.1 d.2.2.2.2.2.2.2.2.2.2.2.2.2.2.2.2.2.2.1 d.2.2.2.2.2.2.2.2.2.2.2.2.2.2.2.2.2.2.2.1 d.2.2.2.2.2.2.2.2.2.2.2.2.2.2.2.2.2.2.2.2.1 d.2.2.2.2.2.2.2.2.2.2.2.2.2.2.2.2.2.2.2.2.2.1 d.2.2.2.2.2.2.2.2.2.2.2.2.2.2.2.2.2.2.2.2.2.2.1 d.2.2.2.2.2.2.2.2.2.2.2.2.2.2.2.2.2.2.2.2.2.2.2.1 d.2.2.2.2.2.2.2.2.2.2.2.2.2.2.2.2.2.2.2.2.2.2.2.2.1 d.2.2.2.2.2.2.2.2.2.2.2.2.2.2.2.2.2.2.2.2.2.2.2.2.2.1 d.2.2.2.2.2.2.2.2.2.2.2.2.2.2.2.2.2.2.2.2.2.2.2.2.2.2.1 d.2.2.2.2.2.2.2.2.2.2.2.2.2.2.2.2.2.2.2.2.2.2.2.2.2.2.2.1 d.2.2.2.2.2.2.2.2.2.2.2.2.2.2.2.2.2.2.2.2.2.2.2.2.2.2.2.2.1 d.2.2.2.2.2.2.2.2.2.2.2.2.2.2.2.2.2.2.2.2.2.2.2.2.2.2.2.2.2.1 d.2.2.2.2.2.2.2.2.2.2.2.2.2.2.2.2.2.2.2.2.2.2.2.2.2.2.2.2.2.2.1 d.2.2.2.2.2.2.2.2.2.2.2.2.2.2.2.2.2.2.2.2.2.2.2.2.2.2.2.2.2.2.2.1 d.2.2.2.2.2.2.2.2.2.2.2.2.2.2.2.2.2.2.2.2.2.2.2.2.2.2.2.2.2.2.2.2.1 d.2.2.2.2.2.2.2.2.2.2.2.2.2.2.2.2.2.2.2.2.2.2.2.2.2.2.2.2.2.2.2.2.2.1 d.2.2.2.2.2.2.2.2.2.2.2.2.2.2.2.2.2.2.2.2.2.2.2.2.2.2.2.2.2.2.2.2.2.2.1 d.2.2.2.2.2.2.2.2.2.2.2.2.2.2.2.2.2.2.2.2.2.2.2.2.2.2.2.2.2.2.2.2.2.2.2.1 d.2.2.2.2.2.2.2.2.2.2.2.2.2.2.2.2.2.2.2.2.2.2.2.2.2.2.2.2.2.2.2.2.2.2.2.2.1 d.2.2.2.2.2.2.2.2.2.2.2.2.2.2.2.2.2.2.2.2.2.2.2.2.2.2.2.2.2.2.2.2.2.2.2.2.2.1 d.2.2.2.2.2.2.2.2.2.2.2.2.2.2.2.2.2.2.2.2.2.2.2.2.2.2.2.2.2.2.2.2.2.2.2.2.2.2.1 d.2.2.2.2.2.2.2.2.2.2.2.2.2.2.2.2.2.2.2.2.2.2.2.2.2.2.2.2.2.2.2.2.2.2.2.2.2.2.2.1 d.2.2.2.2.2.2.2.2.2.2.2.2.2.2.2.2.2.2.2.2.2.2.2.2.2.2.2.2.2.2.2.2.2.2.2.2.2.2.2.2.1 d.2.2.2.2.2.2.2.2.2.2.2.2.2.2.2.2.2.2.2.2.2.2.2.2.2.2.2.2.2.2.2.2.2.2.2.2.2.2.2.2.2.1 d.2.2.2.2.2.2.2.2.2.2.2.2.2.2.2.2.2.2.2.2.2.2.2.2.2.2.2.2.2.2.2.2.2.2.2.2.2.2.2.2.2.2.1 d.2.2.2.2.2.2.2.2.2.2.2.2.2.2.2.2.2.2.2.2.2.2.2.2.2.2.2.2.2.2.2.2.2.2.2.2.2.2.2.2.2.2.2.1 d.2.2.2.2.2.2.2.2.2.2.2.2.2.2.2.2.2.2.2.2.2.2.2.2.2.2.2.2.2.2.2.2.2.2.2.2.2.2.2.2.2.2.2.2.1 d.2.2.2.2.2.2.2.2.2.2.2.2.2.2.2.2.2.2.2.2.2.2.2.2.2.2.2.2.2.2.2.2.2.2.2.2.2.2.2.2.2.2.2.2.2.1 d.2.2.2.2.2.2.2.2.2.2.2.2.2.2.2.2.2.2.2.2.2.2.2.2.2.2.2.2.2.2.2.2.2.2.2.2.2.2.2.2.2.2.2.2.2.2
@[irreducible] noncomputable def w := pick.1
@[irreducible] noncomputable def dp := pick.2.1
@[irreducible] noncomputable def un := pick.2.2.1
@[irreducible] noncomputable def gd := pick.2.2.2.1
@[irreducible] noncomputable def L := pick.2.2.2.2.1
@[irreducible] noncomputable def fa := pick.2.2.2.2.2.1
noncomputable def pickr1 := pick.2.2.2.2.2.2
@[irreducible] noncomputable def ccd := pickr1.1
@[irreducible] noncomputable def A₀ := pickr1.2.1
@[irreducible] noncomputable def base := pickr1.2.2.1
@[irreducible] noncomputable def h₀ := pickr1.2.2.2.1
@[irreducible] noncomputable def p := pickr1.2.2.2.2.1
@[irreducible] noncomputable def loose := pickr1.2.2.2.2.2.1
noncomputable def pickr2 := pickr1.2.2.2.2.2.2
@[irreducible] noncomputable def mean := pickr2.1
@[irreducible] noncomputable def mg := pickr2.2.1
@[irreducible] noncomputable def mb := pickr2.2.2.1
@[irreducible] noncomputable def m := pickr2.2.2.2.1
@[irreducible] noncomputable def s := pickr2.2.2.2.2.1
@[irreducible] noncomputable def Q := pickr2.2.2.2.2.2.1
noncomputable def pickr3 := pickr2.2.2.2.2.2.2
@[irreducible] noncomputable def E := pickr3.1
@[irreducible] noncomputable def F := pickr3.2.1
@[irreducible] noncomputable def V := pickr3.2.2.1
@[irreducible] noncomputable def U1 := pickr3.2.2.2.1
@[irreducible] noncomputable def x1 := pickr3.2.2.2.2.1
@[irreducible] noncomputable def wl := pickr3.2.2.2.2.2.1
noncomputable def pickr4 := pickr3.2.2.2.2.2.2
@[irreducible] noncomputable def st := pickr4.1
@[irreducible] noncomputable def ma := pickr4.2.1
@[irreducible] noncomputable def oW := pickr4.2.2.1
@[irreducible] noncomputable def oY := pickr4.2.2.2.1
@[irreducible] noncomputable def oA := pickr4.2.2.2.2.1
@[irreducible] noncomputable def wlo := pickr4.2.2.2.2.2.1
noncomputable def pickr5 := pickr4.2.2.2.2.2.2
@[irreducible] noncomputable def sto := pickr5.1
@[irreducible] noncomputable def c0 := pickr5.2.1
@[irreducible] noncomputable def cA := pickr5.2.2.1
@[irreducible] noncomputable def its := pickr5.2.2.2.1
@[irreducible] noncomputable def stis := pickr5.2.2.2.2.1
@[irreducible] noncomputable def mits := pickr5.2.2.2.2.2.1
noncomputable def pickr6 := pickr5.2.2.2.2.2.2
@[irreducible] noncomputable def nw := pickr6.1
@[irreducible] noncomputable def ns := pickr6.2.1
@[irreducible] noncomputable def nm := pickr6.2.2.1
@[irreducible] noncomputable def Y := pickr6.2.2.2.1
@[irreducible] noncomputable def sts := pickr6.2.2.2.2.1
@[irreducible] noncomputable def l := pickr6.2.2.2.2.2.1
noncomputable def pickr7 := pickr6.2.2.2.2.2.2
@[irreducible] noncomputable def hf := pickr7.1
@[irreducible] noncomputable def th := pickr7.2.1
@[irreducible] noncomputable def mk1 := pickr7.2.2.1
@[irreducible] noncomputable def b1 := pickr7.2.2.2.1
@[irreducible] noncomputable def k1 := pickr7.2.2.2.2
noncomputable def pack1 : PSigma (fun P : (Addr) → (Heap) → (Heap) → (Nat) → (Nat) → (Shared) → (Addr) → (Heap) → (Addr) → (Heap) → (Addr) → (Heap) → (Heap) → (Nat) → (Obj) → (Led) → (Led) → Prop => (∀ x0 x1 x2 x3 x4 x5 x6 x7 x8 x9 x10 x11 x12 x13 x14 x15 x16, P x0 x1 x2 x3 x4 x5 x6 x7 x8 x9 x10 x11 x12 x13 x14 x15 x16) → Stm w dp un gd L fa ccd A₀ base h₀ p loose mean mg mb m s Q E F V U1 x1 wl st ma oW oY oA wlo sto c0 cA its stis mits nw ns nm Y sts l hf th mk1 b1 k1) := by
  apply PSigma.mk
  case snd =>
    intro hP1
    intro B KX TP hdp hun FR N hoY hoA hne h4m h5m M1 apV hFV hcW hoW hwl hwc hwd hws hst hsc hsd hsts hms hll hlp rep e_steps e_half e_one e_marks hf0 hYc hY hYn hstp cl1 hb1 hk1 ret
    refine kf ?_
    k_fill
    intro _
    refine wpAny_noRaise ?_
    (conv in (lawBody.drop 10) => whnf)
    (repeat' (first | walk_at "u" | ((fail_if_success with_reducible first | show G32 | show G33 | show G40 | show G9 | show G35 | show G39 | show G24 | show G27 | show G2); walk1)))
    refine For_led (by assumption) ?_
    (repeat' (first | walk_at "u" | ((fail_if_success with_reducible first | show G32 | show G33 | show G40 | show G9 | show G35 | show G39 | show G24 | show G27 | show G2); walk1)))
    rename_i wa h1 lW h2 FW NW
    refine list_upto FW NW (mct _ (mct _ (mct _ (mct _ (List.mem_append_left _ hst))))) hsc hsd hf0 (by rw [hsts.1]; lia) fun D s2 K2 hD F2 N2 => ?_
    (repeat' (first | walk_at "u" | ((fail_if_success with_reducible first | show G32 | show G33 | show G40 | show G9 | show G35 | show G39 | show G24 | show G27 | show G2); walk1)))
    rename_i T0 h3 l3 T1 h4 l4 Ls h5 F5 N5 l5
    have hT0V : ∀ e ∈ V ++ U1, @LT.lt Nat _ e.1 T0 := fun e he => allLt_mem l3.2.2.2.2.2 e he
    have hT1V : ∀ e ∈ V ++ U1, @LT.lt Nat _ e.1 T1 := fun e he => allLt_mem l4.2.2.2.2.2.2 e he
    have hWV : ∀ e ∈ V ++ U1, @LT.lt Nat _ e.1 wa := fun e he => allLt_mem lW.2.2.2 e he
    have h5V : ∀ e ∈ (Ls, W.listOf #[Value.ref T1] 0) :: (T1, ({ cls := Value.type "tuple", data := Data.seq #[Value.int 3 s2.toks, Value.ref T0] } : Obj)) :: (T0, ({ cls := Value.type "tuple", data := Data.seq #[] } : Obj)) :: (D, W.listOf (List.take hf.toNat stis).toArray 0) :: (wa, W.listOf #[] 0) :: (L + 4, oY) :: (L + 5, oA) :: (ma, W.listOf mits.toArray nm) :: (V ++ U1), @LT.lt Nat _ e.1 h5.objs.size := fun e he => Heap.lt_size (N5 e he).1
    refine add_lists (vs := stis.take hf.toNat) (ws := [.ref T1]) F5 N5 (bool_list (N5 (D, _) (mct _ (mct _ (mct _ List.mem_cons_self)))).1) (bool_list (N5 _ List.mem_cons_self).1) (fun h6 F6 N6 => ?_) (by rw [List.length_take, hsts.1, sizeLine_eq]; show _ + 1 ≤ _; omega)
    obtain ⟨S, hS⟩ : ∃ S, S = h5.objs.size := ⟨_, rfl⟩
    simp only at N6 ⊢
    rw [← hS] at N6 h5V ⊢
    obtain ⟨So, hSo⟩ : ∃ So : Obj, So = { cls := .type "list", data := .seq (stis.take hf.toNat ++ [Value.ref T1]).toArray } := ⟨_, rfl⟩
    rw [← hSo] at N6
    have hSc : So.cls = .type "list" := by rw [hSo]
    have hSd : So.data = .seq (stis.take hf.toNat ++ [Value.ref T1]).toArray 0 := by rw [hSo]
    clear hSo
    obtain ⟨F', hF'⟩ : ∃ F' : Led, F' = (T1, ({ cls := Value.type "tuple", data := Data.seq #[Value.int 3 s2.toks, Value.ref T0] } : Obj)) :: (T0, ({ cls := Value.type "tuple", data := Data.seq #[] } : Obj)) :: F := ⟨_, rfl⟩
    obtain ⟨V', hV'⟩ : ∃ V' : Led, V' = (S, So) :: (T1, ({ cls := Value.type "tuple", data := Data.seq #[Value.int 3 s2.toks, Value.ref T0] } : Obj)) :: (T0, ({ cls := Value.type "tuple", data := Data.seq #[] } : Obj)) :: V := ⟨_, rfl⟩
    have hFF' : ∀ e ∈ F, e ∈ F' := fun e he => by rw [hF']; walk_at "mem"
    have hVV' : ∀ e ∈ V, e ∈ V' := fun e he => by rw [hV']; walk_at "mem"
    have hF'V' : ∀ e ∈ F', e ∈ V' := fun e he => by
      rw [hF'] at he; rw [hV']
      simp only [List.mem_cons] at he ⊢
      rcases he with h | h | h
      · simp only [h, true_or, or_true]
      · simp only [h, true_or, or_true]
      · simp only [hFV e h, or_true]
    have hsts' : StepsIn w F' (sts.take hf.toNat ++ [(3, [])]) (stis.take hf.toNat ++ [Value.ref T1]) := by
      refine ((hsts.take hf.toNat).mono hFF').append (StepsIn.one ⟨_, T0, s2.toks, 0, by rw [hF']; exact List.mem_cons_self, rfl, rfl, ?_⟩)
      exact ⟨_, [], 0, by rw [hF']; exact mct _ List.mem_cons_self, rfl, rfl, .nil⟩
    have hgood : ∀ k ∈ sts.take hf.toNat ++ [(3, [])], cc ∉ k.2 ∧ k.2.length ≤ 25 ∧ (k.1.fmod 5 ≠ 3 → k.2 ≠ []) := fun k hk => by
      rcases List.mem_append.mp hk with h | h
      · have h' := List.mem_of_mem_take h
        obtain ⟨a, b⟩ := hY _ (hstp k h').1
        exact ⟨a, b, (hstp k h').2⟩
      · rw [List.mem_singleton.mp h]
        exact ⟨by simp, by simp, fun h => absurd (by decide) h⟩
    have hlen : (sts.take hf.toNat ++ [((3 : Int), ([] : List Str))]).length ≤ sts.length + 1 := by rw [List.length_append, List.length_take]; simp; omega
    have apV' : Apart V' U1 := fun e he r hr => by
      rw [hV'] at he
      refine all_cons he ?_ fun he => all_cons he ?_ fun he => all_cons he ?_ fun he => ?_
      · exact Nat.ne_of_gt (h5V r (by walk_at "mem"))
      · exact Nat.ne_of_gt (hT1V r (List.mem_append_right _ hr))
      · exact Nat.ne_of_gt (hT0V r (List.mem_append_right _ hr))
      · exact apV e he r hr
    have hfar : ∀ z : Nat, z = L + 4 ∨ z = L + 5 ∨ z = ma ∨ z = wa → ∀ e ∈ V' ++ U1, @Ne Nat e.1 z := fun z hz e he => by
      have hlow : ∀ X : Nat, (@LT.lt Nat _ (L + 4) X ∧ @LT.lt Nat _ (L + 5) X ∧ @LT.lt Nat _ ma X ∧ @LT.lt Nat _ wa X) → @Ne Nat X z := fun X hX => by
        rcases hz with rfl | rfl | rfl | rfl
        · exact Nat.ne_of_gt hX.1
        · exact Nat.ne_of_gt hX.2.1
        · exact Nat.ne_of_gt hX.2.2.1
        · exact Nat.ne_of_gt hX.2.2.2
      have hold : ∀ e ∈ V ++ U1, @Ne Nat e.1 z := fun e he => by
        rcases hz with rfl | rfl | rfl | rfl
        · exact (hne e he).1
        · exact (hne e he).2.1
        · exact (hne e he).2.2
        · exact Nat.ne_of_lt (hWV e he)
      rw [hV'] at he
      refine all_cons he ?_ fun he => all_cons he ?_ fun he => all_cons he ?_ fun he => ?_
      · exact hlow S ⟨h5V (L + 4, oY) (by walk_at "mem"), h5V (L + 5, oA) (by walk_at "mem"), h5V (ma, W.listOf mits.toArray nm) (by walk_at "mem"), h5V (wa, W.listOf #[] 0) (by walk_at "mem")⟩
      · exact hlow T1 ⟨l4.2.2.2.1, l4.2.2.2.2.1, l4.2.2.2.2.2.1, l4.2.2.1⟩
      · exact hlow T0 ⟨l3.2.2.1, l3.2.2.2.1, l3.2.2.2.2.1, l3.2.1⟩
      · exact hold e he
    have hWm : @Ne Nat ma wa := Nat.ne_of_lt lW.2.2.1
    have hW4 : @Ne Nat (L + 4) wa := Nat.ne_of_lt lW.1
    have hW5 : @Ne Nat (L + 5) wa := Nat.ne_of_lt lW.2.1
    have N6' : News h₀ L h6 ((L + 4, oY) :: (L + 5, oA) :: (ma, W.listOf mits.toArray nm) :: (wa, W.listOf (List.toArray []) 0) :: ([] ++ (V' ++ U1))) := news_drop N6 fun e he => by
      rw [hV'] at he
      refine sub_go he ?_
      walk_at "sub"
    clear N6 N5 h5V
    rename_i z1_0
    revert N6'; revert hW5; revert hW4; revert hWm; revert hfar; revert apV'; revert hlen; revert hgood; revert hsts'; revert hF'V'; revert hVV'; revert hFF'; revert hV'; revert hF'
    revert hSd; revert hSc; revert hS; revert F6; revert hWV; revert hT1V; revert hT0V; revert l5; revert F5; revert l4; revert l3; revert hD; revert K2; revert lW
    revert ret; revert hk1; revert hb1; revert cl1; revert hstp; revert hYn; revert hY; revert hYc; revert hf0; revert e_marks; revert e_one; revert e_half; revert e_steps; revert rep
    revert hlp; revert hll; revert hms; revert hsts; revert hsd; revert hsc; revert hst; revert hws; revert hwd; revert hwc; revert hwl; revert hoW; revert hcW; revert hFV
    revert apV; revert M1; revert h5m; revert h4m; revert hne; revert hoA; revert hoY; revert hun; revert hdp; revert TP; revert KX; revert B
    exact hP1 wa h1 h2 tk D s2 T0 h3 T1 h4 Ls h5 h6 S So F' V'
namespace K1
noncomputable abbrev Dat1 : Type := (Addr) × (Heap) × (Heap) × (Nat) × (Nat) × (Shared) × (Addr) × (Heap) × (Addr) × (Heap) × (Addr) × (Heap) × (Heap) × (Nat) × (Obj) × (Led) × (Led)
theorem ne1 : Nonempty Dat1 := ⟨(default, default, default, default, default, {}, default, default, default, default, default, default, default, default, default, default, default)⟩
@[irreducible] noncomputable def pick1 : Dat1 := @Classical.epsilon Dat1 ne1 fun d => ¬ pack1.1 d.1 d.2.1 d.2.2.1 d.2.2.2.1 d.2.2.2.2.1 d.2.2.2.2.2.1 d.2.2.2.2.2.2.1 d.2.2.2.2.2.2.2.1 d.2.2.2.2.2.2.2.2.1 d.2.2.2.2.2.2.2.2.2.1 d.2.2.2.2.2.2.2.2.2.2.1 d.2.2.2.2.2.2.2.2.2.2.2.1 d.2.2.2.2.2.2.2.2.2.2.2.2.1 d.2.2.2.2.2.2.2.2.2.2.2.2.2.1 d.2.2.2.2.2.2.2.2.2.2.2.2.2.2.1 d.2.2.2.2.2.2.2.2.2.2.2.2.2.2.2.1 d.2.2.2.2.2.2.2.2.2.2.2.2.2.2.2.2
@[irreducible] noncomputable def wa := pick1.1
@[irreducible] noncomputable def h1 := pick1.2.1
@[irreducible] noncomputable def h2 := pick1.2.2.1
@[irreducible] noncomputable def tk := pick1.2.2.2.1
@[irreducible] noncomputable def D := pick1.2.2.2.2.1
@[irreducible] noncomputable def s2 := pick1.2.2.2.2.2.1
noncomputable def pick1r1 := pick1.2.2.2.2.2.2
@[irreducible] noncomputable def T0 := pick1r1.1
@[irreducible] noncomputable def h3 := pick1r1.2.1
@[irreducible] noncomputable def T1 := pick1r1.2.2.1
@[irreducible] noncomputable def h4 := pick1r1.2.2.2.1
@[irreducible] noncomputable def Ls := pick1r1.2.2.2.2.1
@[irreducible] noncomputable def h5 := pick1r1.2.2.2.2.2.1
noncomputable def pick1r2 := pick1r1.2.2.2.2.2.2
@[irreducible] noncomputable def h6 := pick1r2.1
@[irreducible] noncomputable def S := pick1r2.2.1
@[irreducible] noncomputable def So := pick1r2.2.2.1
@[irreducible] noncomputable def F' := pick1r2.2.2.2.1
@[irreducible] noncomputable def V' := pick1r2.2.2.2.2
noncomputable def pack2 : PSigma (fun P : (Nat) → (Obj) → (Shared) → (Obj) → (Option Value) → (List (Nat × Obj)) → (List (Nat × Obj)) → (Marks) → (Wait) → (ML) → (WL) → (Nat) → (Nat) → (List Value) → (List Value) → (Nat) → (Nat) → (Option Value) → (Addr) → (Int) → (List Str) → (Addr) → (Tok) → (Nat) → (Option Addr) → (Array (Option Value)) → (Flow → Shared → Prop) → Prop => (∀ x0 x1 x2 x3 x4 x5 x6 x7 x8 x9 x10 x11 x12 x13 x14 x15 x16 x17 x18 x19 x20 x21 x22 x23 x24 x25 x26, P x0 x1 x2 x3 x4 x5 x6 x7 x8 x9 x10 x11 x12 x13 x14 x15 x16 x17 x18 x19 x20 x21 x22 x23 x24 x25 x26) → pack1.1 wa h1 h2 tk D s2 T0 h3 T1 h4 Ls h5 h6 S So F' V') := by
  apply PSigma.mk
  case snd =>
    intro hP2
    intro B KX TP hdp hun hoY hoA hne h4m h5m M1 apV hFV hcW hoW hwl hwc hwd hws hst hsc hsd hsts hms hll hlp rep e_steps e_half e_one e_marks hf0 hYc hY hYn hstp cl1 hb1 hk1 ret lW K2 hD l3 l4 F5 l5 hT0V hT1V hWV F6 hS hSc hSd hF' hV' hFF' hVV' hF'V' hsts' hgood hlen apV' hfar hWm hW4 hW5 N6'
    refine kf ?_
    k_fill
    intro _
    refine iter_list (by rfl) F6 N6' (mct _ (mct _ (mct _ (mct _ (by rw [hV']; exact List.mem_cons_self))))) hSc hSd (fun i m' W' => i ≤ (sts.take hf.toNat ++ [((3 : Int), ([] : List Str))]).length ∧ ∃ oY c G U1 mk P l wl ma wa mits wits nm nwt ux, W' = (L + 4, oY) :: (L + 5, oA) :: (ma, W.listOf (List.toArray mits) nm) :: (wa, W.listOf (List.toArray wits) nwt) :: (G ++ (V' ++ U1)) ∧ oY.data = .cell c ∧
        m' = (fun y => if y = Str.ofString "marks" then some (.ref ma) else if y = Str.ofString "waits" then some (.ref wa) else if y = Str.ofString "x" then ux else m y) ∧ Inv10 w L F' V' x1 (sts.take hf.toNat ++ [((3 : Int), ([] : List Str))]) (b1 + 25 * i) (k1 + i) i G U1 mk P l wl ma wa mits wits)
      ⟨Nat.zero_le _, oY, c0, [], U1, mk1, _, l, [], ma, wa, mits, [], nm, 0, m (Str.ofString "x"), rfl, hoY, ?_, ⟨h4m, hW4, hWm, h5m, hW5, fun e he => ⟨hfar _ (.inl rfl) e he, hfar _ (.inr (.inl rfl)) e he, hfar _ (.inr (.inr (.inl rfl))) e he, hfar _ (.inr (.inr (.inr rfl))) e he⟩, fun e he => absurd he (by simp), apV', M1.frame hFF', hms.mono hVV', MarksIn.nil, rep, fun k => by simp, cl1, fun k hk => hk.elim, by simpa using hll, hlp, fun _ _ h => absurd h (Nat.lt_irrefl 0)⟩⟩ ?_ ?_ ?_
    · funext y
      by_cases h1 : y = Str.ofString "marks"
      · subst h1; rw [if_pos rfl, if_neg (by decide)]; exact e_marks
      · rw [if_neg h1]
        by_cases h2 : y = Str.ofString "waits"
        · subst h2; rw [if_pos rfl, if_pos rfl]
        · rw [if_neg h2, if_neg h2]
          by_cases h3 : y = Str.ofString "x"
          · subst h3; rw [if_pos rfl]
          · rw [if_neg h3]
    · rintro i m' W' ⟨_, oY, c, G, U1, mk, P, l, wl, ma, wa, mits, wits, nm, nwt, ux, rfl, _⟩
      exact mct _ (mct _ (mct _ (mct _ (List.mem_append_right _ (List.mem_append_left _ (by rw [hV']; exact List.mem_cons_self))))))
    · clear hfar apV' hW5 hW4 hWm hms hlp rep cl1 M1
      rintro i v m' W' oI s3 hv ⟨hi, oY, c, G, U1, mk, P, l, wl, ma, wa, mits, wits, nm, nwt, ux, rfl, hoY, rfl, ⟨h4m, h4w, hmw, h5m, h5w, hsep, apG, apV', M1, hms, hwts, rep, repw, cl1, wc, hcount, hlp, hlast⟩⟩ hoff F3 N3 K3 hlow
      obtain ⟨sa, ⟨n, q⟩, rfl, hq, hsa⟩ := hsts'.get hv
      obtain ⟨hqc, hql, hq0⟩ := hgood _ (List.mem_of_getElem? hq)
      dsimp only at hqc hql hq0
      have hlt : i < (sts.take hf.toNat ++ [((3 : Int), ([] : List Str))]).length := (List.getElem?_eq_some_iff.mp hq).1
      obtain ⟨so, qb, tn, nn, hsm, hsc2, hsd2, hqb⟩ := hsa
      obtain ⟨ocl, odi, oda, osl⟩ := so
      dsimp only at hsc2 hsd2
      subst hsc2 hsd2
      have hsm' := mct (h6.objs.size, oI) (mct (L + 4, oY) (mct (L + 5, oA) (mct (ma, W.listOf (List.toArray mits) nm) (mct (wa, W.listOf (List.toArray wits) nwt) (List.mem_append_right G (List.mem_append_left U1 (hF'V' _ hsm)))))))
      intro Qo hQo
      replace F3 : Fr h₀ L s3.heap _ := F3
      replace N3 : News h₀ L s3.heap ((h6.objs.size, oI) :: (L + 4, oY) :: (L + 5, oA) :: (ma, W.listOf (List.toArray mits) nm) :: (wa, W.listOf (List.toArray wits) nwt) :: (G ++ (V' ++ U1))) := N3
      rename_i z2_0 z2_1 z2_2 z2_3
      revert N3; revert F3; revert hQo; revert hsm'; revert hsm; revert hqb; revert hlt; revert hq0; revert hql; revert hqc; revert hq; revert hv; revert hlow; revert K3
      revert hoff; revert hlast; revert hlp; revert hcount; revert wc; revert cl1; revert repw; revert rep; revert hwts; revert hms; revert M1; revert apV'; revert apG; revert hsep
      revert h5w; revert h5m; revert hmw; revert h4w; revert h4m; revert hoY; revert hi; revert N6'; revert hlen; revert hgood; revert hsts'; revert hF'V'; revert hVV'; revert hFF'
      revert hV'; revert hF'; revert hSd; revert hSc; revert hS; revert F6; revert hWV; revert hT1V; revert hT0V; revert l5; revert F5; revert l4; revert l3; revert hD
      revert K2; revert lW; revert ret; revert hk1; revert hb1; revert hstp; revert hYn; revert hY; revert hYc; revert hf0; revert e_marks; revert e_one; revert e_half; revert e_steps
      revert hll; revert hsts; revert hsd; revert hsc; revert hst; revert hws; revert hwd; revert hwc; revert hwl; revert hoW; revert hcW; revert hFV; revert apV; revert hne
      revert hoA; revert hun; revert hdp; revert TP; revert KX; revert B
      exact hP2 i oI s3 oY c G U1 mk P l wl ma wa mits wits nm nwt ux sa n q qb tn nn odi osl Qo
    · rintro m' W' s3 ⟨_, oY, c, G, U1, mk, P, l, wl, ma, wa, mits, wits, nm, nwt, ux, rfl, hoY, rfl, ⟨h4m, h4w, hmw, h5m, h5w, hsep, apG, apV', M1, hms, hwts, rep, repw, cl1, wc, hcount, hlp, hlast⟩⟩ F3 N3 K3
      have hN : (stis.take hf.toNat ++ [Value.ref T1]).length = (sts.take hf.toNat).length + 1 := by rw [hsts'.1, List.length_append, List.length_singleton]
      rw [hN] at M1 hlast hcount
      have hP : P = fun _ => False := hlast (3, []) (by rw [Nat.add_sub_cancel, List.getElem?_append_right (Nat.le_refl _), Nat.sub_self]; rfl) (by lia) (by decide)
      subst hP
      have hT : (sts.take hf.toNat).length ≤ sts.length := by rw [List.length_take]; omega
      have M2 := M1.zero
      (repeat' (first | walk_at "u" | ((fail_if_success with_reducible first | show G32 | show G33 | show G40 | show G9 | show G35 | show G39 | show G24 | show G27 | show G2); walk1)))
      have hret : ∀ s' m', Kin s3 s' → Fr h₀ L s'.heap m' → Q (.ret (.bool true)) s' := fun s' m' k f => ret s' m' (Kin.trans K2 (Kin.trans K3 k)) f
      have hV'X : ∀ e ∈ V', e ∈ (ma, W.listOf (List.toArray mits) nm) :: (G ++ V') := fun e he => mct _ (List.mem_append_right _ he)
      refine tail12 (L := L) (th := th) (oY := oY) (oA := oA) (l := l) B KX TP hdp hun (F := F') (V := (ma, W.listOf (List.toArray mits) nm) :: (G ++ V')) (U1 := U1) F3 (news_drop N3 fun e he => ?_) hoY hoA (fun e he => ?_) (fun e he => ?_) M2 (fun e he r hr => ?_) (fun e he => hV'X e (hF'V' e he)) (hV'X _ (hVV' _ hcW)) hoW (hV'X _ (hVV' _ hwl)) hwc hwd (hws.mono hFF') (hV'X _ (hVV' _ hst)) hsc hsd (hsts.mono hFF') List.mem_cons_self rfl rfl (hms.mono fun e he => mct _ he) (by lia) (fun k hk => by have := hlp k hk; lia) rep ?_ ?_ ?_ ?_ hf0 hYc hY hYn hstp cl1 (by lia) (by lia) hret
      · refine sub_go he ?_
        walk_at "sub"
      · refine all_cons he ?_ fun he => all_app he (fun he => all_app he (fun h => ?_) fun h => ?_) fun h => ?_
        · exact Ne.symm h4m
        · exact (hsep e (by walk_at "mem")).1
        · exact (hsep e (by walk_at "mem")).1
        · exact (hsep e (by walk_at "mem")).1
      · refine all_cons he ?_ fun he => all_app he (fun he => all_app he (fun h => ?_) fun h => ?_) fun h => ?_
        · exact Ne.symm h5m
        · exact (hsep e (by walk_at "mem")).2.1
        · exact (hsep e (by walk_at "mem")).2.1
        · exact (hsep e (by walk_at "mem")).2.1
      · refine all_cons he ?_ fun he => all_app he (fun h => ?_) fun h => ?_
        · exact Ne.symm (hsep r (by walk_at "mem")).2.2.1
        · exact apG e h r hr
        · exact apV' e h r hr
      · exact (if_neg (by decide)).trans ((if_neg (by decide)).trans ((if_neg (by decide)).trans e_steps))
      · exact (if_neg (by decide)).trans ((if_neg (by decide)).trans ((if_neg (by decide)).trans e_half))
      · exact (if_neg (by decide)).trans ((if_neg (by decide)).trans ((if_neg (by decide)).trans e_one))
      · exact if_pos rfl
namespace K2
noncomputable abbrev Dat2 : Type := (Nat) × (Obj) × (Shared) × (Obj) × (Option Value) × (List (Nat × Obj)) × (List (Nat × Obj)) × (Marks) × (Wait) × (ML) × (WL) × (Nat) × (Nat) × (List Value) × (List Value) × (Nat) × (Nat) × (Option Value) × (Addr) × (Int) × (List Str) × (Addr) × (Tok) × (Nat) × (Option Addr) × (Array (Option Value)) × (Flow → Shared → Prop)
theorem ne2 : Nonempty Dat2 := ⟨(default, default, {}, default, default, default, default, default, default, default, default, default, default, default, default, default, default, default, default, default, default, default, default, default, default, default, default)⟩
@[irreducible] noncomputable def pick2 : Dat2 := @Classical.epsilon Dat2 ne2 fun d => ¬ pack2.1 d.1 d.2.1 d.2.2.1 d.2.2.2.1 d.2.2.2.2.1 d.2.2.2.2.2.1 d.2.2.2.2.2.2.1 d.2.2.2.2.2.2.2.1 d.2.2.2.2.2.2.2.2.1 d.2.2.2.2.2.2.2.2.2.1 d.2.2.2.2.2.2.2.2.2.2.1 d.2.2.2.2.2.2.2.2.2.2.2.1 d.2.2.2.2.2.2.2.2.2.2.2.2.1 d.2.2.2.2.2.2.2.2.2.2.2.2.2.1 d.2.2.2.2.2.2.2.2.2.2.2.2.2.2.1 d.2.2.2.2.2.2.2.2.2.2.2.2.2.2.2.1 d.2.2.2.2.2.2.2.2.2.2.2.2.2.2.2.2.1 d.2.2.2.2.2.2.2.2.2.2.2.2.2.2.2.2.2.1 d.2.2.2.2.2.2.2.2.2.2.2.2.2.2.2.2.2.2.1 d.2.2.2.2.2.2.2.2.2.2.2.2.2.2.2.2.2.2.2.1 d.2.2.2.2.2.2.2.2.2.2.2.2.2.2.2.2.2.2.2.2.1 d.2.2.2.2.2.2.2.2.2.2.2.2.2.2.2.2.2.2.2.2.2.1 d.2.2.2.2.2.2.2.2.2.2.2.2.2.2.2.2.2.2.2.2.2.2.1 d.2.2.2.2.2.2.2.2.2.2.2.2.2.2.2.2.2.2.2.2.2.2.2.1 d.2.2.2.2.2.2.2.2.2.2.2.2.2.2.2.2.2.2.2.2.2.2.2.2.1 d.2.2.2.2.2.2.2.2.2.2.2.2.2.2.2.2.2.2.2.2.2.2.2.2.2.1 d.2.2.2.2.2.2.2.2.2.2.2.2.2.2.2.2.2.2.2.2.2.2.2.2.2.2
@[irreducible] noncomputable def i := pick2.1
@[irreducible] noncomputable def oI := pick2.2.1
@[irreducible] noncomputable def s3 := pick2.2.2.1
@[irreducible] noncomputable def oY := pick2.2.2.2.1
@[irreducible] noncomputable def c := pick2.2.2.2.2.1
@[irreducible] noncomputable def G := pick2.2.2.2.2.2.1
noncomputable def pick2r1 := pick2.2.2.2.2.2.2
@[irreducible] noncomputable def U1 := pick2r1.1
@[irreducible] noncomputable def mk := pick2r1.2.1
@[irreducible] noncomputable def P := pick2r1.2.2.1
@[irreducible] noncomputable def l := pick2r1.2.2.2.1
@[irreducible] noncomputable def wl := pick2r1.2.2.2.2.1
@[irreducible] noncomputable def ma := pick2r1.2.2.2.2.2.1
noncomputable def pick2r2 := pick2r1.2.2.2.2.2.2
@[irreducible] noncomputable def wa := pick2r2.1
@[irreducible] noncomputable def mits := pick2r2.2.1
@[irreducible] noncomputable def wits := pick2r2.2.2.1
@[irreducible] noncomputable def nm := pick2r2.2.2.2.1
@[irreducible] noncomputable def nwt := pick2r2.2.2.2.2.1
@[irreducible] noncomputable def ux := pick2r2.2.2.2.2.2.1
noncomputable def pick2r3 := pick2r2.2.2.2.2.2.2
@[irreducible] noncomputable def sa := pick2r3.1
@[irreducible] noncomputable def n := pick2r3.2.1
@[irreducible] noncomputable def q := pick2r3.2.2.1
@[irreducible] noncomputable def qb := pick2r3.2.2.2.1
@[irreducible] noncomputable def tn := pick2r3.2.2.2.2.1
@[irreducible] noncomputable def nn := pick2r3.2.2.2.2.2.1
noncomputable def pick2r4 := pick2r3.2.2.2.2.2.2
@[irreducible] noncomputable def odi := pick2r4.1
@[irreducible] noncomputable def osl := pick2r4.2.1
@[irreducible] noncomputable def Qo := pick2r4.2.2
theorem go_b1_b2 : pack2.1 i oI s3 oY c G U1 mk P l wl ma wa mits wits nm nwt ux sa n q qb tn nn odi osl Qo := by
  intro B KX TP hdp hun hoA hne apV hFV hcW hoW hwl hwc hwd hws hst hsc hsd hsts hll e_steps e_half e_one e_marks hf0 hYc hY hYn hstp hb1 hk1 ret lW K2 hD l3 l4 F5 l5 hT0V hT1V hWV F6 hS hSc hSd hF' hV' hFF' hVV' hF'V' hsts' hgood hlen N6' hi hoY h4m h4w hmw h5m h5w hsep apG apV' M1 hms hwts rep repw cl1 wc hcount hlp hlast hoff K3 hlow hv hq hqc hql hq0 hlt hqb hsm hsm' hQo F3 N3
  refine kf ?_
  k_fill
  intro _
  show wpAny _ _ _ _ _ _
  (repeat' (first | walk_at "u" | ((fail_if_success with_reducible first | show G32 | show G33 | show G40 | show G9 | show G35 | show G39 | show G24 | show G27 | show G2); walk1)))
  have h4I : @LT.lt Nat _ (L + 4) h6.objs.size := hlow (L + 4, _) List.mem_cons_self
  have h5I : @LT.lt Nat _ (L + 5) h6.objs.size := hlow (L + 5, _) (mct _ List.mem_cons_self)
  have hV'I : ∀ e ∈ V', @LT.lt Nat _ e.1 h6.objs.size := fun e he => hlow e (mct _ (mct _ (mct _ (mct _ (List.mem_append_right _ (List.mem_append_left _ he))))))
  have hoffm : @Ne Nat ma h6.objs.size := hoff (ma, W.listOf (List.toArray mits) nm) (by walk_at "mem")
  have hoffw : @Ne Nat wa h6.objs.size := hoff (wa, W.listOf (List.toArray wits) nwt) (by walk_at "mem")
  have hoffG : ∀ e ∈ G ++ (V' ++ U1), @Ne Nat e.1 h6.objs.size := fun e he => hoff e (by walk_at "mem")
  refine cell_store (c := L + 4) (o := oY) (W := (h6.objs.size, oI) :: (L + 5, oA) :: (ma, W.listOf (List.toArray mits) nm) :: (wa, W.listOf (List.toArray wits) nwt) :: (G ++ (V' ++ U1))) (by assumption) (news_drop (by assumption) fun e he => ?_) rfl ?_ hoY (fun o4 s4 K4 ho4 F4 N4 => ?_) rfl rfl
  · refine sub_go he ?_
    walk_at "sub"
  · intro e he
    refine all_cons he ?_ fun he => all_cons he ?_ fun he => all_cons he ?_ fun he => all_cons he ?_ fun he => ?_
    · exact Nat.ne_of_gt h4I
    · exact Nat.succ_ne_self (L + 4)
    · exact Ne.symm h4m
    · exact Ne.symm h4w
    · exact (hsep e he).1
  (repeat' (first | walk_at "u" | ((fail_if_success with_reducible first | show G32 | show G33 | show G40 | show G9 | show G35 | show G39 | show G24 | show G27 | show G2); walk1)))
  refine nameX_C (by assumption) rfl List.mem_cons_self ho4 ?_ rfl rfl
  (repeat' (first | walk_at "u" | ((fail_if_success with_reducible first | show G32 | show G33 | show G40 | show G9 | show G35 | show G39 | show G24 | show G27 | show G2); walk1)))
  obtain ⟨X, hX⟩ : ∃ X : Led, X = (h6.objs.size, oI) :: (L + 5, oA) :: (G ++ V') := ⟨_, rfl⟩
  have hXU : Apart ((L + 4, o4) :: (ma, W.listOf (List.toArray mits) nm) :: (wa, W.listOf (List.toArray wits) nwt) :: X) U1 := fun e he r hr => by
    have hr' : r ∈ G ++ (V' ++ U1) := List.mem_append_right _ (List.mem_append_right _ hr)
    rw [hX] at he
    refine all_cons he ?_ fun he => all_cons he ?_ fun he => all_cons he ?_ fun he => all_cons he ?_ fun he => all_cons he ?_ fun he => all_app he (fun he => ?_) fun he => ?_
    · exact Ne.symm (hsep r hr').1
    · exact Ne.symm (hsep r hr').2.2.1
    · exact Ne.symm (hsep r hr').2.2.2
    · exact Ne.symm (hoffG r hr')
    · exact Ne.symm (hsep r hr').2.1
    · exact apG e he r hr
    · exact apV' e he r hr
  have hF'X : ∀ e ∈ F', e ∈ X := fun e he => by rw [hX]; (have h9 := hF'V' e he; walk_at "mem")
  refine (step_meets (V := (L + 4, o4) :: (ma, W.listOf (List.toArray mits) nm) :: (wa, W.listOf (List.toArray wits) nwt) :: X) (U := U1) M1 (fun e he => mct _ (mct _ (mct _ (hF'X e he)))) hqb hql hq0 hXU (by omega) (fun k hk => ⟨(wc k hk).2.2.2, (wc k hk).2.2.1⟩) (by omega)).call B (by assumption) KX (news_drop (by assumption) fun e he => ?_) TP rfl (room hdp) (room hun) ?_
  · rw [hX] at he
    refine sub_go he ?_
    walk_at "sub"
  rintro r5 s5 W5 K5 F5 N5 ⟨rfl, U1', mk1', P1', rfl, apU1, M1', st1⟩
  simp only [List.cons_append] at N5
  (repeat' (first | walk_at "u" | ((fail_if_success with_reducible first | show G32 | show G33 | show G40 | show G9 | show G35 | show G39 | show G24 | show G27 | show G2); walk1)))
  have hsep5 : ∀ e ∈ X ++ U1', @Ne Nat e.1 (L + 4) ∧ @Ne Nat e.1 ma ∧ @Ne Nat e.1 wa := fun e he => by
    rcases List.mem_append.mp he with he | he
    · rw [hX] at he
      refine all_cons he ?_ fun he => all_cons he ?_ fun he => ?_
      · exact ⟨Nat.ne_of_gt h4I, Ne.symm hoffm, Ne.symm hoffw⟩
      · exact ⟨Nat.succ_ne_self (L + 4), h5m, h5w⟩
      · have := hsep e (by refine sub_go he ?_; walk_at "sub")
        exact ⟨this.1, this.2.2⟩
    · exact ⟨Ne.symm (apU1 (L + 4, o4) List.mem_cons_self e he), Ne.symm (apU1 (ma, W.listOf (List.toArray mits) nm) (by walk_at "mem") e he), Ne.symm (apU1 (wa, W.listOf (List.toArray wits) nwt) (by walk_at "mem") e he)⟩
  have hGX : ∀ e ∈ G ++ V', e ∈ X ++ U1' := fun e he => List.mem_append_left _ (by rw [hX]; exact mct _ (mct _ he))
  refine mark_turn (L := L) (n := n) (t := tn) (q := q) (qa := qb) (wl := wl) (l := l) (V := X ++ U1') (R := G ++ V') B KX TP hdp hun (by assumption) N5 h4m h4w hmw hsep5 ho4 hGX (hqb.mono fun e he => List.mem_append_right _ (hF'V' e he)) hql hms hwts (by omega) hlp ?_ ?_ ?_ ?_
  · exact if_pos rfl
  · exact (if_neg (by decide)).trans (if_pos rfl)
  · exact (if_neg (by decide)).trans ((if_neg (by decide)).trans (if_pos rfl))
  · intro s6 ma' wa' mits' wits' nm' nw' G' K6 F6 N6 h4m' h4w' hmw' hsep6 apG' hms' hwts'
    obtain ⟨rep', repw'⟩ := rep_step rep repw st1
    obtain ⟨cl1', wc'⟩ := Step.clean cl1 wc hqc hq0 hql st1
    refine hQo .next _ ?_
    show NextHere _ _ _ _ _ _ _
    have hIX : ((h6.objs.size, oI) : Addr × Obj) ∈ G' ++ (X ++ U1') := by rw [hX]; exact List.mem_append_right _ (List.mem_append_left _ List.mem_cons_self)
    have h5X : (L + 5, oA) ∈ G' ++ (X ++ U1') := by rw [hX]; exact List.mem_append_right _ (List.mem_append_left _ (mct _ List.mem_cons_self))
    have hnew : ∀ e ∈ (G' ++ G) ++ (V' ++ U1'), e ∈ G' ++ (X ++ U1') := fun e he => by
      rw [hX]
      refine sub_go he ?_
      walk_at "sub"
    refine NextHere.intro F6 N6 (W' := (L + 4, o4) :: (L + 5, oA) :: (ma', W.listOf (List.toArray mits') nm') :: (wa', W.listOf (List.toArray wits') nw') :: ((G' ++ G) ++ (V' ++ U1'))) (fun e he => ?_) (fun e he => ?_) ⟨hlt, o4, _, G' ++ G, U1', mk1', P1', _, _, ma', wa', mits', wits', nm', nw', some (.int n tn), rfl, ho4, ?_, ⟨h4m', h4w', hmw', (hsep6 _ h5X).2.1, (hsep6 _ h5X).2.2, fun e he => ?_, ?_, ?_, M1'.grow (by omega) (by omega), (by rw [List.append_assoc]; exact hms'), (by rw [List.append_assoc]; exact hwts'), rep', repw', cl1', wc', ?_, ?_, ?_⟩⟩ (Kin.trans K3 (Kin.trans K4 (Kin.trans K5 K6)))
    · simp only [List.mem_cons] at he
      rcases he with h | h | h | h | h | he
      · exact mct _ (mct _ (mct _ (h ▸ hIX)))
      · rw [h]; exact List.mem_cons_self
      · exact mct _ (mct _ (mct _ (h ▸ h5X)))
      · rw [h]; exact mct _ List.mem_cons_self
      · rw [h]; exact mct _ (mct _ List.mem_cons_self)
      · exact mct _ (mct _ (mct _ (hnew e he)))
    · have hIX' : ((h6.objs.size, oI) : Addr × Obj) ∈ X := by rw [hX]; exact List.mem_cons_self
      refine all_cons he ?_ fun he => all_cons he ?_ fun he => all_cons he ?_ fun he => all_cons he ?_ fun he => all_app he (fun he => all_app he (fun he => ?_) fun he => ?_) fun he => all_app he (fun he => ?_) fun he => ?_
      · exact Nat.ne_of_lt h4I
      · exact Nat.ne_of_lt h5I
      · exact Ne.symm (hsep6 _ hIX).2.1
      · exact Ne.symm (hsep6 _ hIX).2.2
      · exact apG' e he _ (List.mem_append_left _ hIX')
      · exact hoffG e (List.mem_append_left _ he)
      · exact Nat.ne_of_lt (hV'I e he)
      · exact Ne.symm (apU1 _ (mct _ (mct _ (mct _ hIX'))) e he)
    · funext y
      by_cases h1 : y = Str.ofString "marks"
      · subst h1; rfl
      · by_cases h2 : y = Str.ofString "waits"
        · subst h2; rfl
        · by_cases h3 : y = Str.ofString "x"
          · subst h3; rfl
          · simp only [if_neg h1, if_neg h2, if_neg h3]
    · have h6 := hsep6 e (hnew e he)
      have h5X' : (L + 5, oA) ∈ X := by rw [hX]; exact mct _ List.mem_cons_self
      refine ⟨h6.1, ?_, h6.2.1, h6.2.2⟩
      refine all_app he (fun he => all_app he (fun he => ?_) fun he => ?_) fun he => all_app he (fun he => ?_) fun he => ?_
      · exact apG' e he _ (List.mem_append_left _ h5X')
      · exact (hsep e (List.mem_append_left _ he)).2.1
      · exact (hsep e (List.mem_append_right _ (List.mem_append_left _ he))).2.1
      · exact Ne.symm (apU1 _ (mct _ (mct _ (mct _ h5X'))) e he)
    · intro e he r hr
      rcases List.mem_append.mp he with he | he
      · exact apG' e he r (List.mem_append_right _ hr)
      · exact apU1 e (mct _ (mct _ (mct _ (by rw [hX]; walk_at "mem")))) r hr
    · intro e he r hr
      exact apU1 e (mct _ (mct _ (mct _ (by rw [hX]; walk_at "mem")))) r hr
    · show (stepM n q l wl).length + (stepW n q wl).length ≤ 2 + (i + 1)
      have hsc := stepM_count n q l wl
      omega
    · exact stepM_len hlp (fun k hk => (wc k ((repw k).mpr hk)).2.2.2) hql
    · intro k hk _ h3
      rw [Nat.add_sub_cancel] at hk
      rw [hq] at hk
      obtain rfl := Option.some.inj hk
      rcases st1 with ⟨e, _⟩ | ⟨e, _⟩ | ⟨e, _⟩ | ⟨e, _, e2⟩ | ⟨e, _⟩
      all_goals first
        | exact e2
        | (exfalso; dsimp only at h3; omega)
theorem all2 (x : Dat2) : pack2.1 x.1 x.2.1 x.2.2.1 x.2.2.2.1 x.2.2.2.2.1 x.2.2.2.2.2.1 x.2.2.2.2.2.2.1 x.2.2.2.2.2.2.2.1 x.2.2.2.2.2.2.2.2.1 x.2.2.2.2.2.2.2.2.2.1 x.2.2.2.2.2.2.2.2.2.2.1 x.2.2.2.2.2.2.2.2.2.2.2.1 x.2.2.2.2.2.2.2.2.2.2.2.2.1 x.2.2.2.2.2.2.2.2.2.2.2.2.2.1 x.2.2.2.2.2.2.2.2.2.2.2.2.2.2.1 x.2.2.2.2.2.2.2.2.2.2.2.2.2.2.2.1 x.2.2.2.2.2.2.2.2.2.2.2.2.2.2.2.2.1 x.2.2.2.2.2.2.2.2.2.2.2.2.2.2.2.2.2.1 x.2.2.2.2.2.2.2.2.2.2.2.2.2.2.2.2.2.2.1 x.2.2.2.2.2.2.2.2.2.2.2.2.2.2.2.2.2.2.2.1 x.2.2.2.2.2.2.2.2.2.2.2.2.2.2.2.2.2.2.2.2.1 x.2.2.2.2.2.2.2.2.2.2.2.2.2.2.2.2.2.2.2.2.2.1 x.2.2.2.2.2.2.2.2.2.2.2.2.2.2.2.2.2.2.2.2.2.2.1 x.2.2.2.2.2.2.2.2.2.2.2.2.2.2.2.2.2.2.2.2.2.2.2.1 x.2.2.2.2.2.2.2.2.2.2.2.2.2.2.2.2.2.2.2.2.2.2.2.2.1 x.2.2.2.2.2.2.2.2.2.2.2.2.2.2.2.2.2.2.2.2.2.2.2.2.2.1 x.2.2.2.2.2.2.2.2.2.2.2.2.2.2.2.2.2.2.2.2.2.2.2.2.2.2 := eps_all ne2 (fun x => pack2.1 x.1 x.2.1 x.2.2.1 x.2.2.2.1 x.2.2.2.2.1 x.2.2.2.2.2.1 x.2.2.2.2.2.2.1 x.2.2.2.2.2.2.2.1 x.2.2.2.2.2.2.2.2.1 x.2.2.2.2.2.2.2.2.2.1 x.2.2.2.2.2.2.2.2.2.2.1 x.2.2.2.2.2.2.2.2.2.2.2.1 x.2.2.2.2.2.2.2.2.2.2.2.2.1 x.2.2.2.2.2.2.2.2.2.2.2.2.2.1 x.2.2.2.2.2.2.2.2.2.2.2.2.2.2.1 x.2.2.2.2.2.2.2.2.2.2.2.2.2.2.2.1 x.2.2.2.2.2.2.2.2.2.2.2.2.2.2.2.2.1 x.2.2.2.2.2.2.2.2.2.2.2.2.2.2.2.2.2.1 x.2.2.2.2.2.2.2.2.2.2.2.2.2.2.2.2.2.2.1 x.2.2.2.2.2.2.2.2.2.2.2.2.2.2.2.2.2.2.2.1 x.2.2.2.2.2.2.2.2.2.2.2.2.2.2.2.2.2.2.2.2.1 x.2.2.2.2.2.2.2.2.2.2.2.2.2.2.2.2.2.2.2.2.2.1 x.2.2.2.2.2.2.2.2.2.2.2.2.2.2.2.2.2.2.2.2.2.2.1 x.2.2.2.2.2.2.2.2.2.2.2.2.2.2.2.2.2.2.2.2.2.2.2.1 x.2.2.2.2.2.2.2.2.2.2.2.2.2.2.2.2.2.2.2.2.2.2.2.2.1 x.2.2.2.2.2.2.2.2.2.2.2.2.2.2.2.2.2.2.2.2.2.2.2.2.2.1 x.2.2.2.2.2.2.2.2.2.2.2.2.2.2.2.2.2.2.2.2.2.2.2.2.2.2) (by with_unfolding_all exact go_b1_b2) x
end K2
theorem go_b1 : pack1.1 wa h1 h2 tk D s2 T0 h3 T1 h4 Ls h5 h6 S So F' V' :=
  pack2.2 (fun x0 x1 x2 x3 x4 x5 x6 x7 x8 x9 x10 x11 x12 x13 x14 x15 x16 x17 x18 x19 x20 x21 x22 x23 x24 x25 x26 => K2.all2 (x0, x1, x2, x3, x4, x5, x6, x7, x8, x9, x10, x11, x12, x13, x14, x15, x16, x17, x18, x19, x20, x21, x22, x23, x24, x25, x26))
theorem all1 (x : Dat1) : pack1.1 x.1 x.2.1 x.2.2.1 x.2.2.2.1 x.2.2.2.2.1 x.2.2.2.2.2.1 x.2.2.2.2.2.2.1 x.2.2.2.2.2.2.2.1 x.2.2.2.2.2.2.2.2.1 x.2.2.2.2.2.2.2.2.2.1 x.2.2.2.2.2.2.2.2.2.2.1 x.2.2.2.2.2.2.2.2.2.2.2.1 x.2.2.2.2.2.2.2.2.2.2.2.2.1 x.2.2.2.2.2.2.2.2.2.2.2.2.2.1 x.2.2.2.2.2.2.2.2.2.2.2.2.2.2.1 x.2.2.2.2.2.2.2.2.2.2.2.2.2.2.2.1 x.2.2.2.2.2.2.2.2.2.2.2.2.2.2.2.2 := eps_all ne1 (fun x => pack1.1 x.1 x.2.1 x.2.2.1 x.2.2.2.1 x.2.2.2.2.1 x.2.2.2.2.2.1 x.2.2.2.2.2.2.1 x.2.2.2.2.2.2.2.1 x.2.2.2.2.2.2.2.2.1 x.2.2.2.2.2.2.2.2.2.1 x.2.2.2.2.2.2.2.2.2.2.1 x.2.2.2.2.2.2.2.2.2.2.2.1 x.2.2.2.2.2.2.2.2.2.2.2.2.1 x.2.2.2.2.2.2.2.2.2.2.2.2.2.1 x.2.2.2.2.2.2.2.2.2.2.2.2.2.2.1 x.2.2.2.2.2.2.2.2.2.2.2.2.2.2.2.1 x.2.2.2.2.2.2.2.2.2.2.2.2.2.2.2.2) (by with_unfolding_all exact go_b1) x
end K1
theorem go : Stm w dp un gd L fa ccd A₀ base h₀ p loose mean mg mb m s Q E F V U1 x1 wl st ma oW oY oA wlo sto c0 cA its stis mits nw ns nm Y sts l hf th mk1 b1 k1 :=
  pack1.2 (fun x0 x1 x2 x3 x4 x5 x6 x7 x8 x9 x10 x11 x12 x13 x14 x15 x16 => K1.all1 (x0, x1, x2, x3, x4, x5, x6, x7, x8, x9, x10, x11, x12, x13, x14, x15, x16))
theorem all (x : Dat) : Stm x.1 x.2.1 x.2.2.1 x.2.2.2.1 x.2.2.2.2.1 x.2.2.2.2.2.1 x.2.2.2.2.2.2.1 x.2.2.2.2.2.2.2.1 x.2.2.2.2.2.2.2.2.1 x.2.2.2.2.2.2.2.2.2.1 x.2.2.2.2.2.2.2.2.2.2.1 x.2.2.2.2.2.2.2.2.2.2.2.1 x.2.2.2.2.2.2.2.2.2.2.2.2.1 x.2.2.2.2.2.2.2.2.2.2.2.2.2.1 x.2.2.2.2.2.2.2.2.2.2.2.2.2.2.1 x.2.2.2.2.2.2.2.2.2.2.2.2.2.2.2.1 x.2.2.2.2.2.2.2.2.2.2.2.2.2.2.2.2.1 x.2.2.2.2.2.2.2.2.2.2.2.2.2.2.2.2.2.1 x.2.2.2.2.2.2.2.2.2.2.2.2.2.2.2.2.2.2.1 x.2.2.2.2.2.2.2.2.2.2.2.2.2.2.2.2.2.2.2.1 x.2.2.2.2.2.2.2.2.2.2.2.2.2.2.2.2.2.2.2.2.1 x.2.2.2.2.2.2.2.2.2.2.2.2.2.2.2.2.2.2.2.2.2.1 x.2.2.2.2.2.2.2.2.2.2.2.2.2.2.2.2.2.2.2.2.2.2.1 x.2.2.2.2.2.2.2.2.2.2.2.2.2.2.2.2.2.2.2.2.2.2.2.1 x.2.2.2.2.2.2.2.2.2.2.2.2.2.2.2.2.2.2.2.2.2.2.2.2.1 x.2.2.2.2.2.2.2.2.2.2.2.2.2.2.2.2.2.2.2.2.2.2.2.2.2.1 x.2.2.2.2.2.2.2.2.2.2.2.2.2.2.2.2.2.2.2.2.2.2.2.2.2.2.1 x.2.2.2.2.2.2.2.2.2.2.2.2.2.2.2.2.2.2.2.2.2.2.2.2.2.2.2.1 x.2.2.2.2.2.2.2.2.2.2.2.2.2.2.2.2.2.2.2.2.2.2.2.2.2.2.2.2.1 x.2.2.2.2.2.2.2.2.2.2.2.2.2.2.2.2.2.2.2.2.2.2.2.2.2.2.2.2.2.1 x.2.2.2.2.2.2.2.2.2.2.2.2.2.2.2.2.2.2.2.2.2.2.2.2.2.2.2.2.2.2.1 x.2.2.2.2.2.2.2.2.2.2.2.2.2.2.2.2.2.2.2.2.2.2.2.2.2.2.2.2.2.2.2.1 x.2.2.2.2.2.2.2.2.2.2.2.2.2.2.2.2.2.2.2.2.2.2.2.2.2.2.2.2.2.2.2.2.1 x.2.2.2.2.2.2.2.2.2.2.2.2.2.2.2.2.2.2.2.2.2.2.2.2.2.2.2.2.2.2.2.2.2.1 x.2.2.2.2.2.2.2.2.2.2.2.2.2.2.2.2.2.2.2.2.2.2.2.2.2.2.2.2.2.2.2.2.2.2.1 x.2.2.2.2.2.2.2.2.2.2.2.2.2.2.2.2.2.2.2.2.2.2.2.2.2.2.2.2.2.2.2.2.2.2.2.1 x.2.2.2.2.2.2.2.2.2.2.2.2.2.2.2.2.2.2.2.2.2.2.2.2.2.2.2.2.2.2.2.2.2.2.2.2.1 x.2.2.2.2.2.2.2.2.2.2.2.2.2.2.2.2.2.2.2.2.2.2.2.2.2.2.2.2.2.2.2.2.2.2.2.2.2.1 x.2.2.2.2.2.2.2.2.2.2.2.2.2.2.2.2.2.2.2.2.2.2.2.2.2.2.2.2.2.2.2.2.2.2.2.2.2.2.1 x.2.2.2.2.2.2.2.2.2.2.2.2.2.2.2.2.2.2.2.2.2.2.2.2.2.2.2.2.2.2.2.2.2.2.2.2.2.2.2.1 x.2.2.2.2.2.2.2.2.2.2.2.2.2.2.2.2.2.2.2.2.2.2.2.2.2.2.2.2.2.2.2.2.2.2.2.2.2.2.2.2.1 x.2.2.2.2.2.2.2.2.2.2.2.2.2.2.2.2.2.2.2.2.2.2.2.2.2.2.2.2.2.2.2.2.2.2.2.2.2.2.2.2.2.1 x.2.2.2.2.2.2.2.2.2.2.2.2.2.2.2.2.2.2.2.2.2.2.2.2.2.2.2.2.2.2.2.2.2.2.2.2.2.2.2.2.2.2.1 x.2.2.2.2.2.2.2.2.2.2.2.2.2.2.2.2.2.2.2.2.2.2.2.2.2.2.2.2.2.2.2.2.2.2.2.2.2.2.2.2.2.2.2.1 x.2.2.2.2.2.2.2.2.2.2.2.2.2.2.2.2.2.2.2.2.2.2.2.2.2.2.2.2.2.2.2.2.2.2.2.2.2.2.2.2.2.2.2.2.1 x.2.2.2.2.2.2.2.2.2.2.2.2.2.2.2.2.2.2.2.2.2.2.2.2.2.2.2.2.2.2.2.2.2.2.2.2.2.2.2.2.2.2.2.2.2.1 x.2.2.2.2.2.2.2.2.2.2.2.2.2.2.2.2.2.2.2.2.2.2.2.2.2.2.2.2.2.2.2.2.2.2.2.2.2.2.2.2.2.2.2.2.2.2 := eps_all ne (fun x => Stm x.1 x.2.1 x.2.2.1 x.2.2.2.1 x.2.2.2.2.1 x.2.2.2.2.2.1 x.2.2.2.2.2.2.1 x.2.2.2.2.2.2.2.1 x.2.2.2.2.2.2.2.2.1 x.2.2.2.2.2.2.2.2.2.1 x.2.2.2.2.2.2.2.2.2.2.1 x.2.2.2.2.2.2.2.2.2.2.2.1 x.2.2.2.2.2.2.2.2.2.2.2.2.1 x.2.2.2.2.2.2.2.2.2.2.2.2.2.1 x.2.2.2.2.2.2.2.2.2.2.2.2.2.2.1 x.2.2.2.2.2.2.2.2.2.2.2.2.2.2.2.1 x.2.2.2.2.2.2.2.2.2.2.2.2.2.2.2.2.1 x.2.2.2.2.2.2.2.2.2.2.2.2.2.2.2.2.2.1 x.2.2.2.2.2.2.2.2.2.2.2.2.2.2.2.2.2.2.1 x.2.2.2.2.2.2.2.2.2.2.2.2.2.2.2.2.2.2.2.1 x.2.2.2.2.2.2.2.2.2.2.2.2.2.2.2.2.2.2.2.2.1 x.2.2.2.2.2.2.2.2.2.2.2.2.2.2.2.2.2.2.2.2.2.1 x.2.2.2.2.2.2.2.2.2.2.2.2.2.2.2.2.2.2.2.2.2.2.1 x.2.2.2.2.2.2.2.2.2.2.2.2.2.2.2.2.2.2.2.2.2.2.2.1 x.2.2.2.2.2.2.2.2.2.2.2.2.2.2.2.2.2.2.2.2.2.2.2.2.1 x.2.2.2.2.2.2.2.2.2.2.2.2.2.2.2.2.2.2.2.2.2.2.2.2.2.1 x.2.2.2.2.2.2.2.2.2.2.2.2.2.2.2.2.2.2.2.2.2.2.2.2.2.2.1 x.2.2.2.2.2.2.2.2.2.2.2.2.2.2.2.2.2.2.2.2.2.2.2.2.2.2.2.1 x.2.2.2.2.2.2.2.2.2.2.2.2.2.2.2.2.2.2.2.2.2.2.2.2.2.2.2.2.1 x.2.2.2.2.2.2.2.2.2.2.2.2.2.2.2.2.2.2.2.2.2.2.2.2.2.2.2.2.2.1 x.2.2.2.2.2.2.2.2.2.2.2.2.2.2.2.2.2.2.2.2.2.2.2.2.2.2.2.2.2.2.1 x.2.2.2.2.2.2.2.2.2.2.2.2.2.2.2.2.2.2.2.2.2.2.2.2.2.2.2.2.2.2.2.1 x.2.2.2.2.2.2.2.2.2.2.2.2.2.2.2.2.2.2.2.2.2.2.2.2.2.2.2.2.2.2.2.2.1 x.2.2.2.2.2.2.2.2.2.2.2.2.2.2.2.2.2.2.2.2.2.2.2.2.2.2.2.2.2.2.2.2.2.1 x.2.2.2.2.2.2.2.2.2.2.2.2.2.2.2.2.2.2.2.2.2.2.2.2.2.2.2.2.2.2.2.2.2.2.1 x.2.2.2.2.2.2.2.2.2.2.2.2.2.2.2.2.2.2.2.2.2.2.2.2.2.2.2.2.2.2.2.2.2.2.2.1 x.2.2.2.2.2.2.2.2.2.2.2.2.2.2.2.2.2.2.2.2.2.2.2.2.2.2.2.2.2.2.2.2.2.2.2.2.1 x.2.2.2.2.2.2.2.2.2.2.2.2.2.2.2.2.2.2.2.2.2.2.2.2.2.2.2.2.2.2.2.2.2.2.2.2.2.1 x.2.2.2.2.2.2.2.2.2.2.2.2.2.2.2.2.2.2.2.2.2.2.2.2.2.2.2.2.2.2.2.2.2.2.2.2.2.2.1 x.2.2.2.2.2.2.2.2.2.2.2.2.2.2.2.2.2.2.2.2.2.2.2.2.2.2.2.2.2.2.2.2.2.2.2.2.2.2.2.1 x.2.2.2.2.2.2.2.2.2.2.2.2.2.2.2.2.2.2.2.2.2.2.2.2.2.2.2.2.2.2.2.2.2.2.2.2.2.2.2.2.1 x.2.2.2.2.2.2.2.2.2.2.2.2.2.2.2.2.2.2.2.2.2.2.2.2.2.2.2.2.2.2.2.2.2.2.2.2.2.2.2.2.2.1 x.2.2.2.2.2.2.2.2.2.2.2.2.2.2.2.2.2.2.2.2.2.2.2.2.2.2.2.2.2.2.2.2.2.2.2.2.2.2.2.2.2.2.1 x.2.2.2.2.2.2.2.2.2.2.2.2.2.2.2.2.2.2.2.2.2.2.2.2.2.2.2.2.2.2.2.2.2.2.2.2.2.2.2.2.2.2.2.1 x.2.2.2.2.2.2.2.2.2.2.2.2.2.2.2.2.2.2.2.2.2.2.2.2.2.2.2.2.2.2.2.2.2.2.2.2.2.2.2.2.2.2.2.2.1 x.2.2.2.2.2.2.2.2.2.2.2.2.2.2.2.2.2.2.2.2.2.2.2.2.2.2.2.2.2.2.2.2.2.2.2.2.2.2.2.2.2.2.2.2.2.1 x.2.2.2.2.2.2.2.2.2.2.2.2.2.2.2.2.2.2.2.2.2.2.2.2.2.2.2.2.2.2.2.2.2.2.2.2.2.2.2.2.2.2.2.2.2.2) (by with_unfolding_all exact go) x
end E_tail10
theorem tail10 {w : World} {dp : Nat} {un : Nat} {gd : Option (List Code)} {L : Nat} {fa : Addr} {ccd : Value} {A₀ : Around} {base : Heap} {h₀ : Heap} {p : PySem.Program} {loose : List Str} {mean : ExcName → Option Value} {mg : Str → Option Value} {mb : Str → Option Value} {m : Str → Option Value} {s : Shared} {Q : Flow → Shared → Prop} {E : Value → Shared → Prop} {F : Led} {V : Led} {U1 : Led} {x1 : Addr} {wl : Addr} {st : Addr} {ma : Addr} {oW : Obj} {oY : Obj} {oA : Obj} {wlo : Obj} {sto : Obj} {c0 : Option Value} {cA : Option Value} {its : List Value} {stis : List Value} {mits : List Value} {nw : Nat} {ns : Nat} {nm : Nat} {Y : List (List Str)} {sts : List (Int × List Str)} {l : ML} {hf : Int} {th : Tok} {mk1 : Marks} {b1 : Nat} {k1 : Nat}  (B : Below A₀ base [] h₀) (KX : (hd.heap_39 w.params).In h₀) (TP : Top p loose mean mg mb h₀) (hdp : dp + 40 < recursionLimit) (hun : un + 400 < cLine) (FR : Fr h₀ L s.heap m) (N : News h₀ L s.heap ((L + 4, oY) :: (L + 5, oA) :: (ma, W.listOf mits.toArray nm) :: (V ++ U1))) (hoY : oY.data = .cell c0) (hoA : oA.data = .cell cA) (hne : ∀ p ∈ V ++ U1, @Ne Nat p.1 (L + 4) ∧ @Ne Nat p.1 (L + 5) ∧ @Ne Nat p.1 ma) (h4m : @Ne Nat (L + 4) ma) (h5m : @Ne Nat (L + 5) ma) (M1 : Mach w F U1 x1 mk1 (fun _ => False) b1 k1) (apV : Apart V U1) (hFV : ∀ e ∈ F, e ∈ V) (hcW : (L + 3, oW) ∈ V) (hoW : oW.data = .cell (some (.ref wl))) (hwl : (wl, wlo) ∈ V) (hwc : wlo.cls = .type "list") (hwd : wlo.data = .seq its.toArray nw) (hws : WaysIn w F Y its) (hst : (st, sto) ∈ V) (hsc : sto.cls = .type "list") (hsd : sto.data = .seq stis.toArray ns) (hsts : StepsIn w F sts stis) (hms : MarksIn w V l mits) (hll : l.length ≤ 2) (hlp : ∀ k ∈ l, k.1.length ≤ 25) (rep : RepM mk1 l) (e_steps : m (Str.ofString "steps") = some (.ref st)) (e_half : m (Str.ofString "half") = some (.int hf th)) (e_one : m (Str.ofString "one") = some (.ref x1)) (e_marks : m (Str.ofString "marks") = some (.ref ma)) (hf0 : 0 ≤ hf) (hYc : Closed Y) (hY : ∀ y ∈ Y, cc ∉ y ∧ y.length ≤ 25) (hYn : Y.length < 19000) (hstp : ∀ k ∈ sts, k.2 ∈ Y ∧ (k.1.fmod 5 ≠ 3 → k.2 ≠ [])) (cl1 : Clean mk1) (hb1 : b1 + 25 * 140 < 5000000) (hk1 : k1 + (sts.length + 1) < 70) (ret : ∀ s' m', Kin s s' → Fr h₀ L s'.heap m' → Q (.ret (.bool true)) s') : wpAny (model PP w) (ktrTop dp un gd (Str.ofString "law") lawScope L fa ccd (lawCells L) []) (execs (lawBody.drop 10) (envX (Str.ofString "law") lawScope L fa ccd (lawCells L))) Q E s :=
  E_tail10.all (w, dp, un, gd, L, fa, ccd, A₀, base, h₀, p, loose, mean, mg, mb, m, s, Q, E, F, V, U1, x1, wl, st, ma, oW, oY, oA, wlo, sto, c0, cA, its, stis, mits, nw, ns, nm, Y, sts, l, hf, th, mk1, b1, k1) B KX TP hdp hun FR N hoY hoA hne h4m h5m M1 apV hFV hcW hoW hwl hwc hwd hws hst hsc hsd hsts hms hll hlp rep e_steps e_half e_one e_marks hf0 hYc hY hYn hstp cl1 hb1 hk1 ret
end

section
open PySem PySem.W PyProof.Rows
noncomputable abbrev sa : Str := Str.ofString "a"
noncomputable abbrev saa : Str := Str.ofString "a.a"
namespace E_tail6
noncomputable abbrev Dat : Type := (World) × (Nat) × (Nat) × (Option (List Code)) × (Nat) × (Addr) × (Value) × (Around) × (Heap) × (Heap) × (PySem.Program) × (List Str) × (ExcName → Option Value) × (Str → Option Value) × (Str → Option Value) × (Str → Option Value) × (Shared) × (Flow → Shared → Prop) × (Value → Shared → Prop) × (Led) × (Addr) × (Addr) × (Obj) × (Obj) × (Obj) × (Obj) × (Obj) × (Option Value) × (Option Value) × (List Value) × (List Value) × (Nat) × (Nat) × (List (List Str)) × (List (Int × List Str)) × (Int) × (Tok)
theorem ne : Nonempty Dat := ⟨({ draws := fun _ _ => 0, params := { strHash := fun _ => 0, shareClass := fun _ => 0, mergeTok := id, idOf := fun _ => 0, idOfShared := fun _ _ => 0, followText := fun _ => false, idOfImm := fun _ => 0 } }, default, default, default, default, default, default, {}, default, default, default, default, default, default, default, default, {}, default, default, default, default, default, default, default, default, default, default, default, default, default, default, default, default, default, default, default, default)⟩
noncomputable def Stm (w : World) (dp : Nat) (un : Nat) (gd : Option (List Code)) (L : Nat) (fa : Addr) (ccd : Value) (A₀ : Around) (base : Heap) (h₀ : Heap) (p : PySem.Program) (loose : List Str) (mean : ExcName → Option Value) (mg : Str → Option Value) (mb : Str → Option Value) (m : Str → Option Value) (s : Shared) (Q : Flow → Shared → Prop) (E : Value → Shared → Prop) (V : Led) (wl : Addr) (st : Addr) (oW : Obj) (oY : Obj) (oA : Obj) (wlo : Obj) (sto : Obj) (c0 : Option Value) (cA : Option Value) (its : List Value) (stis : List Value) (nw : Nat) (ns : Nat) (Y : List (List Str)) (sts : List (Int × List Str)) (hf : Int) (th : Tok) : Prop := ∀  (B : Below A₀ base [] h₀) (KX : (hd.heap_39 w.params).In h₀) (TP : Top p loose mean mg mb h₀) (hdp : dp + 40 < recursionLimit) (hun : un + 400 < cLine) (FR : Fr h₀ L s.heap m) (N : News h₀ L s.heap ((L + 4, oY) :: (L + 5, oA) :: V)) (hoY : oY.data = .cell c0) (hoA : oA.data = .cell cA) (hne : ∀ p ∈ V, @Ne Nat p.1 (L + 4) ∧ @Ne Nat p.1 (L + 5)) (hcW : (L + 3, oW) ∈ V) (hoW : oW.data = .cell (some (.ref wl))) (hwl : (wl, wlo) ∈ V) (hwc : wlo.cls = .type "list") (hwd : wlo.data = .seq its.toArray nw) (hws : WaysIn w V Y its) (hst : (st, sto) ∈ V) (hsc : sto.cls = .type "list") (hsd : sto.data = .seq stis.toArray ns) (hsts : StepsIn w V sts stis) (e_steps : m (Str.ofString "steps") = some (.ref st)) (e_half : m (Str.ofString "half") = some (.int hf th)) (hf0 : 0 ≤ hf) (hYc : Closed Y) (hY : ∀ y ∈ Y, cc ∉ y ∧ y.length ≤ 25) (hYn : Y.length < 19000) (hstp : ∀ k ∈ sts, k.2 ∈ Y ∧ (k.1.fmod 5 ≠ 3 → k.2 ≠ [])) (hk1 : sts.length + 1 < 70) (ret : ∀ s' m', Kin s s' → Fr h₀ L s'.heap m' → Q (.ret (.bool true)) s'), wpAny (model PP w) (ktrTop dp un gd (Str.ofString "law") lawScope L fa ccd (lawCells L) []) (execs (lawBody.drop 6) (envX (Str.ofString "law") lawScope L fa ccd (lawCells L))) Q E s
@[irreducible] noncomputable def pick : Dat := @Classical.epsilon Dat ne fun d => ¬ Stm d.1 d.2.1 d.2.2.1 d.2.2.2.1 d.2.2.2.2.1 d.2.2.2.2.2.1 d.2.2.2.2.2.2.1 d.2.2.2.2.2.2.2.1 d.2.2.2.2.2.2.2.2.1 d.2.2.2.2.2.2.2.2.2.1 d.2.2.2.2.2.2.2.2.2.2.1 d.2.2.2.2.2.2.2.2.2.2.2.1 d.2.2.2.2.2.2.2.2.2.2.2.2.1 d.2.2.2.2.2.2.2.2.2.2.2.2.2.1 d.2.2.2.2.2.2.2.2.2.2.2.2.2.2.1 d.2.2.2.2.2.2.2.2.2.2.2.2.2.2.2.1 d.2.2.2.2.2.2.2.2.2.2.2.2.2.2.2.2.1 d.2.2.2.2.2.2.2.2.2.2.2.2.2.2.2.2.2.1 d.2.2.2.2.2.2.2.2.2.2.2.2.2.2.2.2.2.2.1 d.2.2.2.2.2.2.2.2.2.2.2.2.2.2.2.2.2.2.2.1 d.2.2.2.2.2.2.2.2.2.2.2.2.2.2.2.2.2.2.2.2.1 d.2.2.2.2.2.2.2.2.2.2.2.2.2.2.2.2.2.2.2.2.2.1 d.2.2.2.2.2.2.2.2.2.2.2.2.2.2.2.2.2.2.2.2.2.2.1 d.2.2.2.2.2.2.2.2.2.2.2.2.2.2.2.2.2.2.2.2.2.2.2.1 d.2.2.2.2.2.2.2.2.2.2.2.2.2.2.2.2.2.2.2.2.2.2.2.2.1 d.2.2.2.2.2.2.2.2.2.2.2.2.2.2.2.2.2.2.2.2.2.2.2.2.2.1 d.2.2.2.2.2.2.2.2.2.2.2.2.2.2.2.2.2.2.2.2.2.2.2.2.2.2.1 d.2.2.2.2.2.2.2.2.2.2.2.2.2.2.2.2.2.2.2.2.2.2.2.2.2.2.2.1 d.2.2.2.2.2.2.2.2.2.2.2.2.2.2.2.2.2.2.2.2.2.2.2.2.2.2.2.2.1 d.2.2.2.2.2.2.2.2.2.2.2.2.2.2.2.2.2.2.2.2.2.2.2.2.2.2.2.2.2.1 d.2.2.2.2.2.2.2.2.2.2.2.2.2.2.2.2.2.2.2.2.2.2.2.2.2.2.2.2.2.2.1 d.2.2.2.2.2.2.2.2.2.2.2.2.2.2.2.2.2.2.2.2.2.2.2.2.2.2.2.2.2.2.2.1 d.2.2.2.2.2.2.2.2.2.2.2.2.2.2.2.2.2.2.2.2.2.2.2.2.2.2.2.2.2.2.2.2.1 d.2.2.2.2.2.2.2.2.2.2.2.2.2.2.2.2.2.2.2.2.2.2.2.2.2.2.2.2.2.2.2.2.2.1 d.2.2.2.2.2.2.2.2.2.2.2.2.2.2.2.2.2.2.2.2.2.2.2.2.2.2.2.2.2.2.2.2.2.2.1 d.2.2.2.2.2.2.2.2.2.2.2.2.2.2.2.2.2.2.2.2.2.2.2.2.2.2.2.2.2.2.2.2.2.2.2.1 d.2.2.2.2.2.2.2.2.2.2.2.2.2.2.2.2.2.2.2.2.2.2.2.2.2.2.2.2.2.2.2.2.2.2.2.2
@[irreducible] noncomputable def w := pick.1
@[irreducible] noncomputable def dp := pick.2.1
@[irreducible] noncomputable def un := pick.2.2.1
@[irreducible] noncomputable def gd := pick.2.2.2.1
@[irreducible] noncomputable def L := pick.2.2.2.2.1
@[irreducible] noncomputable def fa := pick.2.2.2.2.2.1
noncomputable def pickr1 := pick.2.2.2.2.2.2
@[irreducible] noncomputable def ccd := pickr1.1
@[irreducible] noncomputable def A₀ := pickr1.2.1
@[irreducible] noncomputable def base := pickr1.2.2.1
@[irreducible] noncomputable def h₀ := pickr1.2.2.2.1
@[irreducible] noncomputable def p := pickr1.2.2.2.2.1
@[irreducible] noncomputable def loose := pickr1.2.2.2.2.2.1
noncomputable def pickr2 := pickr1.2.2.2.2.2.2
@[irreducible] noncomputable def mean := pickr2.1
@[irreducible] noncomputable def mg := pickr2.2.1
@[irreducible] noncomputable def mb := pickr2.2.2.1
@[irreducible] noncomputable def m := pickr2.2.2.2.1
@[irreducible] noncomputable def s := pickr2.2.2.2.2.1
@[irreducible] noncomputable def Q := pickr2.2.2.2.2.2.1
noncomputable def pickr3 := pickr2.2.2.2.2.2.2
@[irreducible] noncomputable def E := pickr3.1
@[irreducible] noncomputable def V := pickr3.2.1
@[irreducible] noncomputable def wl := pickr3.2.2.1
@[irreducible] noncomputable def st := pickr3.2.2.2.1
@[irreducible] noncomputable def oW := pickr3.2.2.2.2.1
@[irreducible] noncomputable def oY := pickr3.2.2.2.2.2.1
noncomputable def pickr4 := pickr3.2.2.2.2.2.2
@[irreducible] noncomputable def oA := pickr4.1
@[irreducible] noncomputable def wlo := pickr4.2.1
@[irreducible] noncomputable def sto := pickr4.2.2.1
@[irreducible] noncomputable def c0 := pickr4.2.2.2.1
@[irreducible] noncomputable def cA := pickr4.2.2.2.2.1
@[irreducible] noncomputable def its := pickr4.2.2.2.2.2.1
noncomputable def pickr5 := pickr4.2.2.2.2.2.2
@[irreducible] noncomputable def stis := pickr5.1
@[irreducible] noncomputable def nw := pickr5.2.1
@[irreducible] noncomputable def ns := pickr5.2.2.1
@[irreducible] noncomputable def Y := pickr5.2.2.2.1
@[irreducible] noncomputable def sts := pickr5.2.2.2.2.1
@[irreducible] noncomputable def hf := pickr5.2.2.2.2.2.1
noncomputable def pickr6 := pickr5.2.2.2.2.2.2
@[irreducible] noncomputable def th := pickr6
theorem go : Stm w dp un gd L fa ccd A₀ base h₀ p loose mean mg mb m s Q E V wl st oW oY oA wlo sto c0 cA its stis nw ns Y sts hf th := by
  intro B KX TP hdp hun FR N hoY hoA hne hcW hoW hwl hwc hwd hws hst hsc hsd hsts e_steps e_half hf0 hYc hY hYn hstp hk1 ret
  refine kf ?_
  k_fill
  intro _
  refine wpAny_noRaise ?_
  (conv in (lawBody.drop 6) => whnf)
  (repeat' (first | walk_at "u" | ((fail_if_success with_reducible first | show G32 | show G41 | show G9 | show G35); walk1)))
  refine mach_init.call B (by assumption) KX N TP rfl (room hdp) (room hun) ?_
  rintro r1 s1 W1 K1 F1 N1 ⟨x1, U1, rfl, rfl, ap1, M1⟩
  replace M1 := M1 V
  obtain ⟨dx1, r1, ps1, n11, t11, n12, t12, kk1, xi1, xd1⟩ := M1.heads
  replace xi1 := List.mem_append_right ((L + 4, oY) :: (L + 5, oA) :: V) xi1
  replace xd1 := List.mem_append_right ((L + 4, oY) :: (L + 5, oA) :: V) xd1
  (repeat' (first | walk_at "u" | ((fail_if_success with_reducible first | show G32 | show G41 | show G9 | show G35); walk1)))
  rename_i h2 Ta h3 F3 N3 l3
  obtain ⟨W0, hW0⟩ : ∃ W0 : Led, W0 = (Ta, ({ cls := Value.type "tuple", data := Data.seq #[Value.str (Str.ofString "a") (s1.toks + 1)] } : Obj)) :: (L + 4, oY) :: (L + 5, oA) :: V := ⟨_, rfl⟩
  have hW0V : ∀ e ∈ (L + 4, oY) :: (L + 5, oA) :: V, e ∈ W0 := fun e he => by rw [hW0]; exact mct _ he
  have KTa : WayIn w W0 Ta [sa] := by rw [hW0]; exact ⟨_, [.str (Str.ofString "a") (s1.toks + 1)], 0, List.mem_cons_self, rfl, rfl, .cons (strKind_is PP w _ _) .nil⟩
  have ap3 : Apart W0 U1 := by
    rw [hW0]
    intro e he r hr
    rcases List.mem_cons.mp he with rfl | he
    · exact Nat.ne_of_gt (l3 r (List.mem_append_right _ hr))
    · exact ap1 e he r hr
  refine (mach_set (V := W0) (F := V) (d := true) M1 KTa (by simp) (by simp) (.inl rfl) ap3 (by lia)).call B (by assumption) KX (news_drop N3 fun e he => by rw [hW0] at he; exact he) TP rfl (room hdp) (room hun) ?_
  rintro r4 s4 W4 K4 F4 N4 ⟨rfl, U4, rfl, ap4, M4⟩
  obtain ⟨dx2, r2, ps2, n21, t21, n22, t22, kk2, xi2, xd2⟩ := M4.heads
  replace xi2 := List.mem_append_right W0 xi2
  replace xd2 := List.mem_append_right W0 xd2
  clear xi1 xd1
  (repeat' (first | walk_at "u" | ((fail_if_success with_reducible first | show G32 | show G41 | show G9 | show G35); walk1)))
  rename_i Tb h5 F5 N5 l5
  obtain ⟨W2, hW2⟩ : ∃ W2 : Led, W2 = (Tb, ({ cls := Value.type "tuple", data := Data.seq #[Value.str (Str.ofString "a") s4.toks, Value.str (Str.ofString "a.a") (s4.toks + 1)] } : Obj)) :: W0 := ⟨_, rfl⟩
  have hW2V : ∀ e ∈ (L + 4, oY) :: (L + 5, oA) :: V, e ∈ W2 := fun e he => by rw [hW2]; exact mct _ (hW0V e he)
  have KTb : WayIn w W2 Tb [sa, saa] := by rw [hW2]; exact ⟨_, [.str (Str.ofString "a") s4.toks, .str (Str.ofString "a.a") (s4.toks + 1)], 0, List.mem_cons_self, rfl, rfl, .cons (strKind_is PP w _ _) (.cons (strKind_is PP w _ _) .nil)⟩
  have ap5 : Apart W2 U4 := by
    rw [hW2]
    intro e he r hr
    rcases List.mem_cons.mp he with rfl | he
    · exact Nat.ne_of_gt (l5 r (List.mem_append_right _ hr))
    · exact ap4 e he r hr
  refine (mach_set (V := W2) (F := V) (d := false) M4 KTb (by simp) (by simp) (.inl rfl) ap5 (by lia)).call B (by assumption) KX (news_drop N5 fun e he => by rw [hW2] at he; exact he) TP rfl (room hdp) (room hun) ?_
  rintro r6 s6 W6 K6 F6 N6 ⟨rfl, U6, rfl, ap6, M6⟩
  clear xi2 xd2
  replace N6 : News h₀ L s6.heap ((L + 4, oY) :: (L + 5, oA) :: (V ++ U6)) := news_drop N6 fun e he => by
    refine all_cons he ?_ fun he => all_cons he ?_ fun he => all_app he (fun he => ?_) fun he => ?_
    · exact List.mem_append_left _ (hW2V _ (by walk_at "mem"))
    · exact List.mem_append_left _ (hW2V _ (by walk_at "mem"))
    · exact List.mem_append_left _ (hW2V _ (by walk_at "mem"))
    · exact List.mem_append_right _ he
  have ap7 : Apart ((L + 4, oY) :: (L + 5, oA) :: V) U6 := fun e he r hr => ap6 e (hW2V e he) r hr
  clear ap6 ap5 ap4 ap3 KTa KTb hW2V hW0V hW2 hW0
  (repeat' (first | walk_at "u" | ((fail_if_success with_reducible first | show G32 | show G41 | show G9 | show G35); walk1)))
  rename_i D1 g1 k1 D2 g2 k2 D3 g3 k3 D4 g4 k4 Lm g5 k5 g6 F7 N7
  obtain ⟨V', hV'⟩ : ∃ V' : Led, V' = (D4, ({ cls := Value.type "tuple", data := Data.seq #[Value.ref D3, Value.int 0 (s6.toks + 1 + 1 + 1 + 1), Value.bool false] } : Obj)) :: (D3, ({ cls := Value.type "tuple", data := Data.seq #[Value.str (Str.ofString "a") (s6.toks + 1 + 1), Value.str (Str.ofString "a.a") (s6.toks + 1 + 1 + 1)] } : Obj)) ::
      (D2, ({ cls := Value.type "tuple", data := Data.seq #[Value.ref D1, Value.int 0 (s6.toks + 1), Value.bool true] } : Obj)) :: (D1, ({ cls := Value.type "tuple", data := Data.seq #[Value.str (Str.ofString "a") s6.toks] } : Obj)) :: V := ⟨_, rfl⟩
  have hVV' : ∀ e ∈ V, e ∈ V' := fun e he => by rw [hV']; walk_at "mem"
  have hMA : MarkIn w V' D2 ([sa], 0, true) := by
    rw [hV']
    exact ⟨_, D1, s6.toks + 1, 0, mct _ (mct _ List.mem_cons_self), rfl, rfl, _, [.str (Str.ofString "a") s6.toks], 0, mct _ (mct _ (mct _ List.mem_cons_self)), rfl, rfl, .cons (strKind_is PP w _ _) .nil⟩
  have hMB : MarkIn w V' D4 ([sa, saa], 0, false) := by
    rw [hV']
    exact ⟨_, D3, s6.toks + 1 + 1 + 1 + 1, 0, List.mem_cons_self, rfl, rfl, _, [.str (Str.ofString "a") (s6.toks + 1 + 1), .str (Str.ofString "a.a") (s6.toks + 1 + 1 + 1)], 0, mct _ List.mem_cons_self, rfl, rfl, .cons (strKind_is PP w _ _) (.cons (strKind_is PP w _ _) .nil)⟩
  have hlow : ∀ e ∈ (L + 4, oY) :: (L + 5, oA) :: (V ++ U6), @LT.lt Nat _ e.1 D1 ∧ @LT.lt Nat _ e.1 D2 ∧ @LT.lt Nat _ e.1 D3 ∧ @LT.lt Nat _ e.1 D4 ∧ @LT.lt Nat _ e.1 Lm := fun e he => by
    refine all_cons he ?_ fun he => all_cons he ?_ fun he => ?_
    · exact ⟨k1.1, k2.2.1, k3.2.2.1, k4.2.2.2.1, k5.2.2.2.2.1⟩
    · exact ⟨k1.2.1, k2.2.2.1, k3.2.2.2.1, k4.2.2.2.2.1, k5.2.2.2.2.2.1⟩
    · exact ⟨allLt_mem k1.2.2 e he, allLt_mem k2.2.2.2 e he, allLt_mem k3.2.2.2.2 e he, allLt_mem k4.2.2.2.2.2 e he, allLt_mem k5.2.2.2.2.2.2 e he⟩
  have h4 := hlow (L + 4, oY) List.mem_cons_self
  have h5 := hlow (L + 5, oA) (mct _ List.mem_cons_self)
  have hret : ∀ s' m', Kin s6 s' → Fr h₀ L s'.heap m' → Q (.ret (.bool true)) s' := fun s' m' k f => ret s' m' (Kin.trans K1 (Kin.trans K4 (Kin.trans K6 k))) f
  have rep : RepM (setMk (setMk (fun _ _ _ => false) [sa] true 0) [sa, saa] false 0) [([sa], 0, true), ([sa, saa], 0, false)] := fun y e i => by
    rw [setMk_iff, setMk_iff]
    simp only [List.mem_cons, List.not_mem_nil, or_false, Prod.mk.injEq]
    constructor
    · rintro ((h | ⟨a, b, c⟩) | ⟨a, b, c⟩)
      · exact absurd h Bool.false_ne_true
      · exact .inl ⟨a, c, b⟩
      · exact .inr ⟨a, c, b⟩
    · rintro (⟨a, c, b⟩ | ⟨a, c, b⟩)
      · exact .inl (.inr ⟨a, b, c⟩)
      · exact .inr ⟨a, b, c⟩
  have cl : Clean (setMk (setMk (fun _ _ _ => false) [sa] true 0) [sa, saa] false 0) := fun y d f h => by
    have h' := (rep y d f).mp h
    simp only [List.mem_cons, List.not_mem_nil, or_false, Prod.mk.injEq] at h'
    rcases h' with ⟨rfl, rfl, rfl⟩ | ⟨rfl, rfl, rfl⟩
    · exact ⟨by decide, by simp, .inl rfl⟩
    · exact ⟨by decide, by simp, .inl rfl⟩
  refine tail10 (L := L) (th := th) (oY := oY) (oA := oA) (ma := Lm) (mits := [.ref D2, .ref D4]) (nm := 0) (l := [([sa], 0, true), ([sa, saa], 0, false)]) B KX TP hdp hun (F := V) (V := V') (U1 := U6) F7 (news_drop N7 fun e he => ?_) hoY hoA (fun e he => ?_) (Nat.ne_of_lt h4.2.2.2.2) (Nat.ne_of_lt h5.2.2.2.2) M6 (fun e he r hr => ?_) hVV' (hVV' _ hcW) hoW (hVV' _ hwl) hwc hwd hws (hVV' _ hst) hsc hsd hsts ((MarksIn.one hMA).append (MarksIn.one hMB)) (Nat.le_refl _) (fun k hk => ?_) rep ?_ ?_ ?_ ?_ hf0 hYc hY hYn hstp cl (by lia) (by lia) hret
  · rw [hV'] at he
    refine sub_go he ?_
    walk_at "sub"
  · rw [hV'] at he
    refine all_cons he ?_ fun he => all_cons he ?_ fun he => all_cons he ?_ fun he => all_cons he ?_ fun he => ?_
    · exact ⟨Nat.ne_of_gt h4.2.2.2.1, Nat.ne_of_gt h5.2.2.2.1, Nat.ne_of_lt k5.1⟩
    · exact ⟨Nat.ne_of_gt h4.2.2.1, Nat.ne_of_gt h5.2.2.1, Nat.ne_of_lt k5.2.1⟩
    · exact ⟨Nat.ne_of_gt h4.2.1, Nat.ne_of_gt h5.2.1, Nat.ne_of_lt k5.2.2.1⟩
    · exact ⟨Nat.ne_of_gt h4.1, Nat.ne_of_gt h5.1, Nat.ne_of_lt k5.2.2.2.1⟩
    · have hl := hlow e (mct _ (mct _ he))
      rcases List.mem_append.mp he with h | h
      · exact ⟨(hne e h).1, (hne e h).2, Nat.ne_of_lt hl.2.2.2.2⟩
      · exact ⟨Ne.symm (ap7 _ List.mem_cons_self e h), Ne.symm (ap7 _ (mct _ List.mem_cons_self) e h), Nat.ne_of_lt hl.2.2.2.2⟩
  · have hr' := hlow r (mct _ (mct _ (List.mem_append_right _ hr)))
    rw [hV'] at he
    refine all_cons he ?_ fun he => all_cons he ?_ fun he => all_cons he ?_ fun he => all_cons he ?_ fun he => ?_
    · exact Nat.ne_of_gt hr'.2.2.2.1
    · exact Nat.ne_of_gt hr'.2.2.1
    · exact Nat.ne_of_gt hr'.2.1
    · exact Nat.ne_of_gt hr'.1
    · exact ap7 e (mct _ (mct _ he)) r hr
  · simp only [List.mem_cons, List.not_mem_nil, or_false] at hk
    rcases hk with rfl | rfl <;> simp
  · exact (if_neg (by decide)).trans ((if_neg (by decide)).trans e_steps)
  · exact (if_neg (by decide)).trans ((if_neg (by decide)).trans e_half)
  · exact (if_neg (by decide)).trans (if_pos rfl)
  · exact if_pos rfl
theorem all (x : Dat) : Stm x.1 x.2.1 x.2.2.1 x.2.2.2.1 x.2.2.2.2.1 x.2.2.2.2.2.1 x.2.2.2.2.2.2.1 x.2.2.2.2.2.2.2.1 x.2.2.2.2.2.2.2.2.1 x.2.2.2.2.2.2.2.2.2.1 x.2.2.2.2.2.2.2.2.2.2.1 x.2.2.2.2.2.2.2.2.2.2.2.1 x.2.2.2.2.2.2.2.2.2.2.2.2.1 x.2.2.2.2.2.2.2.2.2.2.2.2.2.1 x.2.2.2.2.2.2.2.2.2.2.2.2.2.2.1 x.2.2.2.2.2.2.2.2.2.2.2.2.2.2.2.1 x.2.2.2.2.2.2.2.2.2.2.2.2.2.2.2.2.1 x.2.2.2.2.2.2.2.2.2.2.2.2.2.2.2.2.2.1 x.2.2.2.2.2.2.2.2.2.2.2.2.2.2.2.2.2.2.1 x.2.2.2.2.2.2.2.2.2.2.2.2.2.2.2.2.2.2.2.1 x.2.2.2.2.2.2.2.2.2.2.2.2.2.2.2.2.2.2.2.2.1 x.2.2.2.2.2.2.2.2.2.2.2.2.2.2.2.2.2.2.2.2.2.1 x.2.2.2.2.2.2.2.2.2.2.2.2.2.2.2.2.2.2.2.2.2.2.1 x.2.2.2.2.2.2.2.2.2.2.2.2.2.2.2.2.2.2.2.2.2.2.2.1 x.2.2.2.2.2.2.2.2.2.2.2.2.2.2.2.2.2.2.2.2.2.2.2.2.1 x.2.2.2.2.2.2.2.2.2.2.2.2.2.2.2.2.2.2.2.2.2.2.2.2.2.1 x.2.2.2.2.2.2.2.2.2.2.2.2.2.2.2.2.2.2.2.2.2.2.2.2.2.2.1 x.2.2.2.2.2.2.2.2.2.2.2.2.2.2.2.2.2.2.2.2.2.2.2.2.2.2.2.1 x.2.2.2.2.2.2.2.2.2.2.2.2.2.2.2.2.2.2.2.2.2.2.2.2.2.2.2.2.1 x.2.2.2.2.2.2.2.2.2.2.2.2.2.2.2.2.2.2.2.2.2.2.2.2.2.2.2.2.2.1 x.2.2.2.2.2.2.2.2.2.2.2.2.2.2.2.2.2.2.2.2.2.2.2.2.2.2.2.2.2.2.1 x.2.2.2.2.2.2.2.2.2.2.2.2.2.2.2.2.2.2.2.2.2.2.2.2.2.2.2.2.2.2.2.1 x.2.2.2.2.2.2.2.2.2.2.2.2.2.2.2.2.2.2.2.2.2.2.2.2.2.2.2.2.2.2.2.2.1 x.2.2.2.2.2.2.2.2.2.2.2.2.2.2.2.2.2.2.2.2.2.2.2.2.2.2.2.2.2.2.2.2.2.1 x.2.2.2.2.2.2.2.2.2.2.2.2.2.2.2.2.2.2.2.2.2.2.2.2.2.2.2.2.2.2.2.2.2.2.1 x.2.2.2.2.2.2.2.2.2.2.2.2.2.2.2.2.2.2.2.2.2.2.2.2.2.2.2.2.2.2.2.2.2.2.2.1 x.2.2.2.2.2.2.2.2.2.2.2.2.2.2.2.2.2.2.2.2.2.2.2.2.2.2.2.2.2.2.2.2.2.2.2.2 := eps_all ne (fun x => Stm x.1 x.2.1 x.2.2.1 x.2.2.2.1 x.2.2.2.2.1 x.2.2.2.2.2.1 x.2.2.2.2.2.2.1 x.2.2.2.2.2.2.2.1 x.2.2.2.2.2.2.2.2.1 x.2.2.2.2.2.2.2.2.2.1 x.2.2.2.2.2.2.2.2.2.2.1 x.2.2.2.2.2.2.2.2.2.2.2.1 x.2.2.2.2.2.2.2.2.2.2.2.2.1 x.2.2.2.2.2.2.2.2.2.2.2.2.2.1 x.2.2.2.2.2.2.2.2.2.2.2.2.2.2.1 x.2.2.2.2.2.2.2.2.2.2.2.2.2.2.2.1 x.2.2.2.2.2.2.2.2.2.2.2.2.2.2.2.2.1 x.2.2.2.2.2.2.2.2.2.2.2.2.2.2.2.2.2.1 x.2.2.2.2.2.2.2.2.2.2.2.2.2.2.2.2.2.2.1 x.2.2.2.2.2.2.2.2.2.2.2.2.2.2.2.2.2.2.2.1 x.2.2.2.2.2.2.2.2.2.2.2.2.2.2.2.2.2.2.2.2.1 x.2.2.2.2.2.2.2.2.2.2.2.2.2.2.2.2.2.2.2.2.2.1 x.2.2.2.2.2.2.2.2.2.2.2.2.2.2.2.2.2.2.2.2.2.2.1 x.2.2.2.2.2.2.2.2.2.2.2.2.2.2.2.2.2.2.2.2.2.2.2.1 x.2.2.2.2.2.2.2.2.2.2.2.2.2.2.2.2.2.2.2.2.2.2.2.2.1 x.2.2.2.2.2.2.2.2.2.2.2.2.2.2.2.2.2.2.2.2.2.2.2.2.2.1 x.2.2.2.2.2.2.2.2.2.2.2.2.2.2.2.2.2.2.2.2.2.2.2.2.2.2.1 x.2.2.2.2.2.2.2.2.2.2.2.2.2.2.2.2.2.2.2.2.2.2.2.2.2.2.2.1 x.2.2.2.2.2.2.2.2.2.2.2.2.2.2.2.2.2.2.2.2.2.2.2.2.2.2.2.2.1 x.2.2.2.2.2.2.2.2.2.2.2.2.2.2.2.2.2.2.2.2.2.2.2.2.2.2.2.2.2.1 x.2.2.2.2.2.2.2.2.2.2.2.2.2.2.2.2.2.2.2.2.2.2.2.2.2.2.2.2.2.2.1 x.2.2.2.2.2.2.2.2.2.2.2.2.2.2.2.2.2.2.2.2.2.2.2.2.2.2.2.2.2.2.2.1 x.2.2.2.2.2.2.2.2.2.2.2.2.2.2.2.2.2.2.2.2.2.2.2.2.2.2.2.2.2.2.2.2.1 x.2.2.2.2.2.2.2.2.2.2.2.2.2.2.2.2.2.2.2.2.2.2.2.2.2.2.2.2.2.2.2.2.2.1 x.2.2.2.2.2.2.2.2.2.2.2.2.2.2.2.2.2.2.2.2.2.2.2.2.2.2.2.2.2.2.2.2.2.2.1 x.2.2.2.2.2.2.2.2.2.2.2.2.2.2.2.2.2.2.2.2.2.2.2.2.2.2.2.2.2.2.2.2.2.2.2.1 x.2.2.2.2.2.2.2.2.2.2.2.2.2.2.2.2.2.2.2.2.2.2.2.2.2.2.2.2.2.2.2.2.2.2.2.2) (by with_unfolding_all exact go) x
end E_tail6
theorem tail6 {w : World} {dp : Nat} {un : Nat} {gd : Option (List Code)} {L : Nat} {fa : Addr} {ccd : Value} {A₀ : Around} {base : Heap} {h₀ : Heap} {p : PySem.Program} {loose : List Str} {mean : ExcName → Option Value} {mg : Str → Option Value} {mb : Str → Option Value} {m : Str → Option Value} {s : Shared} {Q : Flow → Shared → Prop} {E : Value → Shared → Prop} {V : Led} {wl : Addr} {st : Addr} {oW : Obj} {oY : Obj} {oA : Obj} {wlo : Obj} {sto : Obj} {c0 : Option Value} {cA : Option Value} {its : List Value} {stis : List Value} {nw : Nat} {ns : Nat} {Y : List (List Str)} {sts : List (Int × List Str)} {hf : Int} {th : Tok}  (B : Below A₀ base [] h₀) (KX : (hd.heap_39 w.params).In h₀) (TP : Top p loose mean mg mb h₀) (hdp : dp + 40 < recursionLimit) (hun : un + 400 < cLine) (FR : Fr h₀ L s.heap m) (N : News h₀ L s.heap ((L + 4, oY) :: (L + 5, oA) :: V)) (hoY : oY.data = .cell c0) (hoA : oA.data = .cell cA) (hne : ∀ p ∈ V, @Ne Nat p.1 (L + 4) ∧ @Ne Nat p.1 (L + 5)) (hcW : (L + 3, oW) ∈ V) (hoW : oW.data = .cell (some (.ref wl))) (hwl : (wl, wlo) ∈ V) (hwc : wlo.cls = .type "list") (hwd : wlo.data = .seq its.toArray nw) (hws : WaysIn w V Y its) (hst : (st, sto) ∈ V) (hsc : sto.cls = .type "list") (hsd : sto.data = .seq stis.toArray ns) (hsts : StepsIn w V sts stis) (e_steps : m (Str.ofString "steps") = some (.ref st)) (e_half : m (Str.ofString "half") = some (.int hf th)) (hf0 : 0 ≤ hf) (hYc : Closed Y) (hY : ∀ y ∈ Y, cc ∉ y ∧ y.length ≤ 25) (hYn : Y.length < 19000) (hstp : ∀ k ∈ sts, k.2 ∈ Y ∧ (k.1.fmod 5 ≠ 3 → k.2 ≠ [])) (hk1 : sts.length + 1 < 70) (ret : ∀ s' m', Kin s s' → Fr h₀ L s'.heap m' → Q (.ret (.bool true)) s') : wpAny (model PP w) (ktrTop dp un gd (Str.ofString "law") lawScope L fa ccd (lawCells L) []) (execs (lawBody.drop 6) (envX (Str.ofString "law") lawScope L fa ccd (lawCells L))) Q E s :=
  E_tail6.all (w, dp, un, gd, L, fa, ccd, A₀, base, h₀, p, loose, mean, mg, mb, m, s, Q, E, V, wl, st, oW, oY, oA, wlo, sto, c0, cA, its, stis, nw, ns, Y, sts, hf, th) B KX TP hdp hun FR N hoY hoA hne hcW hoW hwl hwc hwd hws hst hsc hsd hsts e_steps e_half hf0 hYc hY hYn hstp hk1 ret
end

section
open PySem PySem.W PyProof.Rows
namespace E_tail5
noncomputable abbrev Dat : Type := (World) × (Nat) × (Nat) × (Option (List Code)) × (Nat) × (Addr) × (Value) × (Around) × (Heap) × (Heap) × (PySem.Program) × (List Str) × (ExcName → Option Value) × (Str → Option Value) × (Str → Option Value) × (Str → Option Value) × (Shared) × (Flow → Shared → Prop) × (Value → Shared → Prop) × (Led) × (Addr) × (Addr) × (Addr) × (Obj) × (Obj) × (Obj) × (Obj) × (Obj) × (Obj) × (Obj) × (Obj) × (Option Value) × (Option Value) × (List Value) × (List Value) × (List Value) × (Nat) × (Nat) × (Nat) × (List (List Str)) × (List (List Str)) × (List Int) × (Int) × (Tok)
theorem ne : Nonempty Dat := ⟨({ draws := fun _ _ => 0, params := { strHash := fun _ => 0, shareClass := fun _ => 0, mergeTok := id, idOf := fun _ => 0, idOfShared := fun _ _ => 0, followText := fun _ => false, idOfImm := fun _ => 0 } }, default, default, default, default, default, default, {}, default, default, default, default, default, default, default, default, {}, default, default, default, default, default, default, default, default, default, default, default, default, default, default, default, default, default, default, default, default, default, default, default, default, default, default, default)⟩
noncomputable def Stm (w : World) (dp : Nat) (un : Nat) (gd : Option (List Code)) (L : Nat) (fa : Addr) (ccd : Value) (A₀ : Around) (base : Heap) (h₀ : Heap) (p : PySem.Program) (loose : List Str) (mean : ExcName → Option Value) (mg : Str → Option Value) (mb : Str → Option Value) (m : Str → Option Value) (s : Shared) (Q : Flow → Shared → Prop) (E : Value → Shared → Prop) (V : Led) (wl : Addr) (sl : Addr) (pl : Addr) (oW : Obj) (oY : Obj) (oA : Obj) (oS : Obj) (oP : Obj) (wlo : Obj) (slo : Obj) (plo : Obj) (c0 : Option Value) (cA : Option Value) (its : List Value) (vs : List Value) (pits : List Value) (nw : Nat) (nsl : Nat) (npl : Nat) (Y : List (List Str)) (pls : List (List Str)) (ns : List Int) (hf : Int) (th : Tok) : Prop := ∀  (B : Below A₀ base [] h₀) (KX : (hd.heap_39 w.params).In h₀) (TP : Top p loose mean mg mb h₀) (hdp : dp + 40 < recursionLimit) (hun : un + 400 < cLine) (FR : Fr h₀ L s.heap m) (N : News h₀ L s.heap ((L + 4, oY) :: (L + 5, oA) :: V)) (hoY : oY.data = .cell c0) (hoA : oA.data = .cell cA) (hne : ∀ p ∈ V, @Ne Nat p.1 (L + 4) ∧ @Ne Nat p.1 (L + 5)) (hcW : (L + 3, oW) ∈ V) (hoW : oW.data = .cell (some (.ref wl))) (hwl : (wl, wlo) ∈ V) (hwc : wlo.cls = .type "list") (hwd : wlo.data = .seq its.toArray nw) (hws : WaysIn w V Y its) (hcS : (L + 1, oS) ∈ V) (hoS : oS.data = .cell (some (.ref sl))) (hsl : (sl, slo) ∈ V) (hsc : slo.cls = .type "list") (hsd : slo.data = .seq vs.toArray nsl) (hvs : IntsAre vs ns) (hcP : (L + 2, oP) ∈ V) (hoP : oP.data = .cell (some (.ref pl))) (hpl : (pl, plo) ∈ V) (hpc : plo.cls = .type "list") (hpd : plo.data = .seq pits.toArray npl) (hps : WaysIn w V pls pits) (e_half : m (Str.ofString "half") = some (.int hf th)) (hlen : pls.length = ns.length) (hn63 : ns.length ≤ 63) (hf0 : 0 ≤ hf) (hYc : Closed Y) (hY : ∀ y ∈ Y, cc ∉ y ∧ y.length ≤ 25) (hYn : Y.length < 19000) (hY0 : [] ∈ Y) (hpY : ∀ q ∈ pls, q ∈ Y ∧ q ≠ []) (ret : ∀ s' m', Kin s s' → Fr h₀ L s'.heap m' → Q (.ret (.bool true)) s'), wpAny (model PP w) (ktrTop dp un gd (Str.ofString "law") lawScope L fa ccd (lawCells L) []) (execs (lawBody.drop 5) (envX (Str.ofString "law") lawScope L fa ccd (lawCells L))) Q E s
@[irreducible] noncomputable def pick : Dat := @Classical.epsilon Dat ne fun d => ¬ Stm d.1 d.2.1 d.2.2.1 d.2.2.2.1 d.2.2.2.2.1 d.2.2.2.2.2.1 d.2.2.2.2.2.2.1 d.2.2.2.2.2.2.2.1 d.2.2.2.2.2.2.2.2.1 d.2.2.2.2.2.2.2.2.2.1 d.2.2.2.2.2.2.2.2.2.2.1 d.2.2.2.2.2.2.2.2.2.2.2.1 d.2.2.2.2.2.2.2.2.2.2.2.2.1 d.2.2.2.2.2.2.2.2.2.2.2.2.2.1 d.2.2.2.2.2.2.2.2.2.2.2.2.2.2.1 d.2.2.2.2.2.2.2.2.2.2.2.2.2.2.2.1 d.2.2.2.2.2.2.2.2.2.2.2.2.2.2.2.2.1 d.2.2.2.2.2.2.2.2.2.2.2.2.2.2.2.2.2.1 d.2.2.2.2.2.2.2.2.2.2.2.2.2.2.2.2.2.2.1 d.2.2.2.2.2.2.2.2.2.2.2.2.2.2.2.2.2.2.2.1 d.2.2.2.2.2.2.2.2.2.2.2.2.2.2.2.2.2.2.2.2.1 d.2.2.2.2.2.2.2.2.2.2.2.2.2.2.2.2.2.2.2.2.2.1 d.2.2.2.2.2.2.2.2.2.2.2.2.2.2.2.2.2.2.2.2.2.2.1 d.2.2.2.2.2.2.2.2.2.2.2.2.2.2.2.2.2.2.2.2.2.2.2.1 d.2.2.2.2.2.2.2.2.2.2.2.2.2.2.2.2.2.2.2.2.2.2.2.2.1 d.2.2.2.2.2.2.2.2.2.2.2.2.2.2.2.2.2.2.2.2.2.2.2.2.2.1 d.2.2.2.2.2.2.2.2.2.2.2.2.2.2.2.2.2.2.2.2.2.2.2.2.2.2.1 d.2.2.2.2.2.2.2.2.2.2.2.2.2.2.2.2.2.2.2.2.2.2.2.2.2.2.2.1 d.2.2.2.2.2.2.2.2.2.2.2.2.2.2.2.2.2.2.2.2.2.2.2.2.2.2.2.2.1 d.2.2.2.2.2.2.2.2.2.2.2.2.2.2.2.2.2.2.2.2.2.2.2.2.2.2.2.2.2.1 d.2.2.2.2.2.2.2.2.2.2.2.2.2.2.2.2.2.2.2.2.2.2.2.2.2.2.2.2.2.2.1 d.2.2.2.2.2.2.2.2.2.2.2.2.2.2.2.2.2.2.2.2.2.2.2.2.2.2.2.2.2.2.2.1 d.2.2.2.2.2.2.2.2.2.2.2.2.2.2.2.2.2.2.2.2.2.2.2.2.2.2.2.2.2.2.2.2.1 d.2.2.2.2.2.2.2.2.2.2.2.2.2.2.2.2.2.2.2.2.2.2.2.2.2.2.2.2.2.2.2.2.2.1 d.2.2.2.2.2.2.2.2.2.2.2.2.2.2.2.2.2.2.2.2.2.2.2.2.2.2.2.2.2.2.2.2.2.2.1 d.2.2.2.2.2.2.2.2.2.2.2.2.2.2.2.2.2.2.2.2.2.2.2.2.2.2.2.2.2.2.2.2.2.2.2.1 d.2.2.2.2.2.2.2.2.2.2.2.2.2.2.2.2.2.2.2.2.2.2.2.2.2.2.2.2.2.2.2.2.2.2.2.2.1 d.2.2.2.2.2.2.2.2.2.2.2.2.2.2.2.2.2.2.2.2.2.2.2.2.2.2.2.2.2.2.2.2.2.2.2.2.2.1 d.2.2.2.2.2.2.2.2.2.2.2.2.2.2.2.2.2.2.2.2.2.2.2.2.2.2.2.2.2.2.2.2.2.2.2.2.2.2.1 d.2.2.2.2.2.2.2.2.2.2.2.2.2.2.2.2.2.2.2.2.2.2.2.2.2.2.2.2.2.2.2.2.2.2.2.2.2.2.2.1 d.2.2.2.2.2.2.2.2.2.2.2.2.2.2.2.2.2.2.2.2.2.2.2.2.2.2.2.2.2.2.2.2.2.2.2.2.2.2.2.2.1 d.2.2.2.2.2.2.2.2.2.2.2.2.2.2.2.2.2.2.2.2.2.2.2.2.2.2.2.2.2.2.2.2.2.2.2.2.2.2.2.2.2.1 d.2.2.2.2.2.2.2.2.2.2.2.2.2.2.2.2.2.2.2.2.2.2.2.2.2.2.2.2.2.2.2.2.2.2.2.2.2.2.2.2.2.2.1 d.2.2.2.2.2.2.2.2.2.2.2.2.2.2.2.2.2.2.2.2.2.2.2.2.2.2.2.2.2.2.2.2.2.2.2.2.2.2.2.2.2.2.2
@[irreducible] noncomputable def w := pick.1
@[irreducible] noncomputable def dp := pick.2.1
@[irreducible] noncomputable def un := pick.2.2.1
@[irreducible] noncomputable def gd := pick.2.2.2.1
@[irreducible] noncomputable def L := pick.2.2.2.2.1
@[irreducible] noncomputable def fa := pick.2.2.2.2.2.1
noncomputable def pickr1 := pick.2.2.2.2.2.2
@[irreducible] noncomputable def ccd := pickr1.1
@[irreducible] noncomputable def A₀ := pickr1.2.1
@[irreducible] noncomputable def base := pickr1.2.2.1
@[irreducible] noncomputable def h₀ := pickr1.2.2.2.1
@[irreducible] noncomputable def p := pickr1.2.2.2.2.1
@[irreducible] noncomputable def loose := pickr1.2.2.2.2.2.1
noncomputable def pickr2 := pickr1.2.2.2.2.2.2
@[irreducible] noncomputable def mean := pickr2.1
@[irreducible] noncomputable def mg := pickr2.2.1
@[irreducible] noncomputable def mb := pickr2.2.2.1
@[irreducible] noncomputable def m := pickr2.2.2.2.1
@[irreducible] noncomputable def s := pickr2.2.2.2.2.1
@[irreducible] noncomputable def Q := pickr2.2.2.2.2.2.1
noncomputable def pickr3 := pickr2.2.2.2.2.2.2
@[irreducible] noncomputable def E := pickr3.1
@[irreducible] noncomputable def V := pickr3.2.1
@[irreducible] noncomputable def wl := pickr3.2.2.1
@[irreducible] noncomputable def sl := pickr3.2.2.2.1
@[irreducible] noncomputable def pl := pickr3.2.2.2.2.1
@[irreducible] noncomputable def oW := pickr3.2.2.2.2.2.1
noncomputable def pickr4 := pickr3.2.2.2.2.2.2
@[irreducible] noncomputable def oY := pickr4.1
@[irreducible] noncomputable def oA := pickr4.2.1
@[irreducible] noncomputable def oS := pickr4.2.2.1
@[irreducible] noncomputable def oP := pickr4.2.2.2.1
@[irreducible] noncomputable def wlo := pickr4.2.2.2.2.1
@[irreducible] noncomputable def slo := pickr4.2.2.2.2.2.1
noncomputable def pickr5 := pickr4.2.2.2.2.2.2
@[irreducible] noncomputable def plo := pickr5.1
@[irreducible] noncomputable def c0 := pickr5.2.1
@[irreducible] noncomputable def cA := pickr5.2.2.1
@[irreducible] noncomputable def its := pickr5.2.2.2.1
@[irreducible] noncomputable def vs := pickr5.2.2.2.2.1
@[irreducible] noncomputable def pits := pickr5.2.2.2.2.2.1
noncomputable def pickr6 := pickr5.2.2.2.2.2.2
@[irreducible] noncomputable def nw := pickr6.1
@[irreducible] noncomputable def nsl := pickr6.2.1
@[irreducible] noncomputable def npl := pickr6.2.2.1
@[irreducible] noncomputable def Y := pickr6.2.2.2.1
@[irreducible] noncomputable def pls := pickr6.2.2.2.2.1
@[irreducible] noncomputable def ns := pickr6.2.2.2.2.2.1
noncomputable def pickr7 := pickr6.2.2.2.2.2.2
@[irreducible] noncomputable def hf := pickr7.1
@[irreducible] noncomputable def th := pickr7.2
theorem go : Stm w dp un gd L fa ccd A₀ base h₀ p loose mean mg mb m s Q E V wl sl pl oW oY oA oS oP wlo slo plo c0 cA its vs pits nw nsl npl Y pls ns hf th := by
  intro B KX TP hdp hun FR N hoY hoA hne hcW hoW hwl hwc hwd hws hcS hoS hsl hsc hsd hvs hcP hoP hpl hpc hpd hps e_half hlen hn63 hf0 hYc hY hYn hY0 hpY ret
  refine kf ?_
  k_fill
  intro _
  refine wpAny_noRaise ?_
  (conv in (lawBody.drop 5) => whnf)
  (repeat' (first | walk_at "u" | ((fail_if_success with_reducible first | show G42 | show G14 | show G9 | show G19 | show G37 | show G18 | show G38 | show G2 | show G43 | show G44 | show G35); walk1)))
  refine ListComp_led (cl := [(Str.ofString "script", L + 1), (Str.ofString "places", L + 2)]) (S := { kind := .function, names := [(Str.ofString ".0", .local), (Str.ofString "k", .local), (Str.ofString "places", .cell), (Str.ofString "script", .cell)], isGenerator := false, isCoroutine := false }) (by assumption) ?s3 ?s4 ?s45 ?s5 ?s6 ?s7 ?s8 ?s9 ?s10
  case s3 => rfl
  case s4 => rfl
  case s45 => decide
  case s5 => rfl
  case s6 => decide
  case s7 => decide
  case s8 => intro x; rfl
  case s9 =>
    intro C g' hg' x
    simp only [List.mem_cons, List.not_mem_nil, or_false] at hg'
    rcases hg' with rfl <;> rfl
  (repeat' (first | walk_at "u" | ((fail_if_success with_reducible first | show G42 | show G14 | show G9 | show G19 | show G37 | show G18 | show G38 | show G2 | show G43 | show G44 | show G35); walk1)))
  refine nameX_C (by assumption) rfl (mct _ (mct _ hcS)) hoS ?_ rfl rfl
  (repeat' (first | walk_at "u" | ((fail_if_success with_reducible first | show G42 | show G14 | show G9 | show G19 | show G37 | show G18 | show G38 | show G2 | show G43 | show G44 | show G35); walk1)))
  have hvl := hvs.length
  refine len_list (items := vs.toArray) ⟨slo, (N _ (mct _ (mct _ hsl))).1, hsc, nsl, hsd⟩ (by rw [List.size_toArray]; omega) ?_
  (repeat' (first | walk_at "u" | ((fail_if_success with_reducible first | show G42 | show G14 | show G9 | show G19 | show G37 | show G18 | show G38 | show G2 | show G43 | show G44 | show G35); walk1)))
  refine range_one (V := (L + 4, oY) :: (L + 5, oA) :: V) (by assumption) (by assumption) fun r t1 u1 v1 s1 K1 hr F1 N1 => ?_
  (repeat' (first | walk_at "u" | ((fail_if_success with_reducible first | show G42 | show G14 | show G9 | show G19 | show G37 | show G18 | show G38 | show G2 | show G43 | show G44 | show G35); walk1)))
  refine led_range (k := vs.length) F1 N1 List.mem_cons_self (by lia) (by rw [List.size_toArray]; lia) (by rw [List.size_toArray]; omega) fun I h7 hI7 F7 N7 => ?_
  refine ⟨_, _, F7, news_drop (W' := (I, rangeIt 0 vs.length) :: (L + 4, oY) :: (L + 5, oA) :: V) N7 (fun e he => by refine sub_go he ?_; walk_at "sub"), fun H C oL s3 K3 nsL hH hLH hHC F3 N3 => ?_⟩
  have hL1 : @LT.lt Nat _ L H := hLH
  obtain ⟨X, hX⟩ : ∃ X, X = (L + 4, oY) :: (L + 5, oA) :: V := ⟨_, rfl⟩
  rw [← hX] at N3 hH N
  have hIH : @LT.lt Nat _ I H := hH _ List.mem_cons_self
  have hXH : ∀ e ∈ X, @LT.lt Nat _ e.1 H := fun e he => hH _ (mct _ he)
  have hXI : ∀ e ∈ X, @LT.lt Nat _ e.1 I := fun e he => hI7 _ (by rw [hX] at he; exact mct _ he)
  have hVX : ∀ e ∈ V, e ∈ X := fun e he => by rw [hX]; walk_at "mem"
  have hXL : ∀ e ∈ X, @Ne Nat e.1 L := fun e he => (N e he).2.1
  have hIL : @LT.lt Nat _ L I := Nat.lt_of_le_of_lt (Nat.le_add_right L 1) (hXI _ (hVX _ hcS))
  obtain ⟨m₂, hmm, hm₂⟩ : ∃ m₂ : Str → Option Value, m₂ = m ∧ LCg.NsObj oL m₂ := ⟨_, rfl, nsL⟩
  refine body_range (a := 0) (n := vs.length) (W := (L, oL) :: (H, W.listOf #[] 0) :: X) rfl (fun i m' W' => ∃ oL hs nh u G, LCg.NsObj oL m₂ ∧ W' = (L, oL) :: (H, W.listOf (List.toArray hs) nh) :: (G ++ X) ∧ StepsIn w (G ++ X) ((ns.zip pls).take i) hs ∧ hs.length ≤ i ∧ (∀ e ∈ G, @LT.lt Nat _ H e.1) ∧ m' = fun y => if y = Str.ofString "k" then u else none) F3 (news_drop N3 ?_) ?_ ?_ ?_ ?_
  · intro e he
    refine sub_go he ?_
    walk_at "sub"
  · intro e he
    refine all_cons he ?_ fun he => all_cons he ?_ fun he => ?_
    · exact Nat.ne_of_lt hIL
    · exact Nat.ne_of_gt hIH
    · exact Nat.ne_of_lt (hXI e he)
  · refine ⟨oL, [], 0, none, [], hm₂, rfl, ⟨rfl, fun i q h => by simp at h⟩, Nat.le_refl _, fun e he => absurd he (by simp), ?_⟩
    funext y
    simp
  · rintro i t m' W' oI2 s4 hi ⟨oL2, hs, nh, u, G, nsL2, rfl, hst, hsz, hG, rfl⟩ hoff F4 N4 K4 QQk hQk
    have hin : i < ns.length := by lia
    have hip : i < pls.length := by lia
    obtain ⟨tn, hvn⟩ := ints_get hvs i (ns[i]) (List.getElem?_eq_getElem hin)
    obtain ⟨pa, hpa, Kpa⟩ := hps.2 i (pls[i]) (List.getElem?_eq_getElem hip)
    have upX : ∀ e ∈ X, e ∈ (I, oI2) :: (L, oL2) :: (H, W.listOf (List.toArray hs) nh) :: (G ++ X) := fun e he => by walk_at "mem"
    rw [Int.zero_add]
    (repeat' (first | walk_at "u" | ((fail_if_success with_reducible first | show G42 | show G14 | show G9 | show G19 | show G37 | show G18 | show G38 | show G2 | show G43 | show G44 | show G35); walk1)))
    refine tests_nil ?_
    show wpAny _ _ (eval _ _) _ _ _
    (try dsimp only)
    (repeat' (first | walk_at "u" | ((fail_if_success with_reducible first | show G42 | show G14 | show G9 | show G19 | show G37 | show G18 | show G38 | show G2 | show G43 | show G44 | show G35); walk1)))
    refine cname_C (o := oS) (by assumption) rfl (upX _ (hVX _ hcS)) hoS ?_ rfl rfl
    (repeat' (first | walk_at "u" | ((fail_if_success with_reducible first | show G42 | show G14 | show G9 | show G19 | show G37 | show G18 | show G38 | show G2 | show G43 | show G44 | show G35); walk1)))
    refine list_item (its := vs.toArray) (by assumption) (upX _ (hVX _ hsl)) hsc hsd (by omega) (by omega) (by rw [Int.toNat_natCast]; simpa using hvn) ?_
    (repeat' (first | walk_at "u" | ((fail_if_success with_reducible first | show G42 | show G14 | show G9 | show G19 | show G37 | show G18 | show G38 | show G2 | show G43 | show G44 | show G35); walk1)))
    refine cname_C (o := oP) (by assumption) rfl (upX _ (hVX _ hcP)) hoP ?_ rfl rfl
    (repeat' (first | walk_at "u" | ((fail_if_success with_reducible first | show G42 | show G14 | show G9 | show G19 | show G37 | show G18 | show G38 | show G2 | show G43 | show G44 | show G35); walk1)))
    refine list_item (its := pits.toArray) (by assumption) (upX _ (hVX _ hpl)) hpc hpd (by omega) (by omega) (by rw [Int.toNat_natCast]; simpa using hpa) ?_
    (repeat' (first | walk_at "u" | ((fail_if_success with_reducible first | show G42 | show G14 | show G9 | show G19 | show G37 | show G18 | show G38 | show G2 | show G43 | show G44 | show G35); walk1)))
    rename_i T h8 F8 N8 l8
    have hTI : @LT.lt Nat _ I T := l8.1
    have hTL : @LT.lt Nat _ L T := l8.2.1
    have hTH : @LT.lt Nat _ H T := l8.2.2.1
    obtain ⟨oT, hoT⟩ : ∃ oT : Obj, oT = { cls := .type "tuple", data := .seq #[.int ns[i] tn, .ref pa] } := ⟨_, rfl⟩
    rw [← hoT] at N8
    refine list_app (pre := [(T, oT), (I, oI2), (L, oL2)]) (post := G ++ X) (D := H) (its := hs.toArray) (n := nh) F8 N8 (fun e he => ?_) (fun e he => ?_) (by rw [List.size_toArray]; lia) fun h9 F9 N9 => ?_
    · refine all_cons he ?_ fun he => all_cons he ?_ fun he => all_one he ?_
      · exact Nat.ne_of_gt hTH
      · exact Nat.ne_of_lt hIH
      · exact Nat.ne_of_lt hL1
    · rcases List.mem_append.mp he with h | h
      · exact Nat.ne_of_gt (hG e h)
      · exact Nat.ne_of_lt (hXH e h)
    rw [show hs.toArray.push (Value.ref T) = (hs ++ [Value.ref T]).toArray by simp] at N9
    refine hQk _ ?_
    refine NextHere.intro F9 N9 (W' := (L, oL2) :: (H, W.listOf (List.toArray (hs ++ [.ref T])) (nh + 1)) :: (((T, oT) :: G) ++ X)) (fun e he => ?_) (fun e he => ?_) ⟨oL2, _, nh + 1, some (.int (i : Nat) t), (T, oT) :: G, nsL2, rfl, ?_, ?_, ?_, ?_⟩ K4
    · refine sub_go he ?_
      walk_at "sub"
    · refine all_cons he ?_ fun he => all_cons he ?_ fun he => all_cons he ?_ fun he => all_app he (fun he => ?_) fun he => ?_
      · exact Nat.ne_of_lt hIL
      · exact Nat.ne_of_gt hIH
      · exact Nat.ne_of_gt hTI
      · exact Nat.ne_of_gt (Nat.lt_trans hIH (hG e he))
      · exact Nat.ne_of_lt (hXI e he)
    · have hz : (ns.zip pls)[i]? = some (ns[i], pls[i]) := List.getElem?_eq_some_iff.mpr ⟨by rw [List.length_zip]; lia, by rw [List.getElem_zip]⟩
      rw [List.take_add_one, hz]
      refine StepsIn.append (hst.mono fun e he => mct _ he) (StepsIn.one ⟨oT, pa, tn, 0, List.mem_cons_self, by rw [hoT], by rw [hoT], Kpa.mono fun e he => ?_⟩)
      (have h9 := hVX e he; walk_at "mem")
    · rw [List.length_append, List.length_singleton]; lia
    · intro e he
      rcases List.mem_cons.mp he with rfl | he
      · exact hTH
      · exact hG e he
    · funext y
      by_cases h1 : y = Str.ofString "k"
      · subst h1; rfl
      · simp only [if_neg h1]
  · rintro m' W' s4 ⟨oL4, hs, nh, u, G, nsL4, rfl, hst, hsz, hG, rfl⟩ F4 N4 K4
    have hzl : (ns.zip pls).length = vs.length := by rw [List.length_zip]; lia
    rw [← hzl, List.take_length] at hst
    refine ⟨_, (H, W.listOf (List.toArray hs) nh) :: (G ++ X), oL4, hmm ▸ nsL4, F4, N4, ?_, fun s5 K5 F5 N5 => ?_⟩
    · intro e he
      rcases List.mem_cons.mp he with rfl | h
      · exact Nat.ne_of_gt hL1
      · rcases List.mem_append.mp h with h | h
        · exact Nat.ne_of_gt (Nat.lt_trans hL1 (hG e h))
        · exact hXL e h
    (repeat' (first | walk_at "u" | ((fail_if_success with_reducible first | show G42 | show G14 | show G9 | show G19 | show G37 | show G18 | show G38 | show G2 | show G43 | show G44 | show G35); walk1)))
    rename_i T0 g0 l0 T1 g1 l1 Ls g2 F6 N6 l2
    obtain ⟨V', hV'⟩ : ∃ V' : Led, V' = (T1, ({ cls := Value.type "tuple", data := Data.seq #[Value.int 3 s5.toks, Value.ref T0] } : Obj)) :: (T0, ({ cls := Value.type "tuple", data := Data.seq #[] } : Obj)) :: (G ++ V) := ⟨_, rfl⟩
    have hlow : ∀ e ∈ (Ls, W.listOf #[Value.ref T1] 0) :: (T1, ({ cls := Value.type "tuple", data := Data.seq #[Value.int 3 s5.toks, Value.ref T0] } : Obj)) :: (T0, ({ cls := Value.type "tuple", data := Data.seq #[] } : Obj)) :: (H, W.listOf hs.toArray nh) :: (G ++ X), @LT.lt Nat _ e.1 g2.objs.size := fun e he => Heap.lt_size (N6 e he).1
    refine add_lists (vs := hs) (ws := [.ref T1]) F6 N6 (bool_list (N6 (H, _) (mct _ (mct _ (mct _ List.mem_cons_self)))).1) (bool_list (N6 _ List.mem_cons_self).1) (fun h9 F9 N9 => ?_) (by rw [sizeLine_eq]; show _ + 1 ≤ _; lia)
    obtain ⟨Sx, hSx⟩ : ∃ Sx, Sx = g2.objs.size := ⟨_, rfl⟩
    simp only at N9 ⊢
    rw [← hSx] at N9 hlow ⊢
    (repeat' (first | walk_at "u" | ((fail_if_success with_reducible first | show G42 | show G14 | show G9 | show G19 | show G37 | show G18 | show G38 | show G2 | show G43 | show G44 | show G35); walk1)))
    rename_i h10 F10 N10
    obtain ⟨So, hSo⟩ : ∃ So : Obj, So = { cls := .type "list", data := .seq (hs ++ [Value.ref T1]).toArray } := ⟨_, rfl⟩
    rw [← hSo] at N10
    have hret : ∀ s' m', Kin s5 s' → Fr h₀ L s'.heap m' → Q (.ret (.bool true)) s' := fun s' m' k f => ret s' m' (Kin.trans K1 (Kin.trans K3 (Kin.trans K4 (Kin.trans K5 k)))) f
    have h4X : (L + 4, oY) ∈ X := by rw [hX]; exact List.mem_cons_self
    have h5X : (L + 5, oA) ∈ X := by rw [hX]; exact mct _ List.mem_cons_self
    have hfar : ∀ z : Nat, (∃ o, (z, o) ∈ X) → @Ne Nat Sx z ∧ @Ne Nat T1 z ∧ @Ne Nat T0 z ∧ ∀ e ∈ G, @Ne Nat e.1 z := fun z ⟨o, hz⟩ =>
      ⟨Nat.ne_of_gt (hlow (z, o) (by walk_at "mem")), Nat.ne_of_gt (allLt_mem l1.2.2 (z, o) (List.mem_append_right _ hz)), Nat.ne_of_gt (allLt_mem l0.2 (z, o) (List.mem_append_right _ hz)), fun e he => Nat.ne_of_gt (Nat.lt_trans (hXH _ hz) (hG e he))⟩
    have hf4 := hfar _ ⟨_, h4X⟩
    have hf5 := hfar _ ⟨_, h5X⟩
    have hGX : ∀ e ∈ G ++ V, e ∈ (Sx, So) :: V' := fun e he => by rw [hV']; walk_at "mem"
    have hVs : ∀ e ∈ V, e ∈ (Sx, So) :: V' := fun e he => hGX e (List.mem_append_right _ he)
    have hstsV : StepsIn w ((Sx, So) :: V') (ns.zip pls ++ [(3, [])]) (hs ++ [.ref T1]) := by
      refine StepsIn.append ?_ (StepsIn.one ⟨_, T0, s5.toks, 0, by rw [hV']; exact mct _ List.mem_cons_self, rfl, rfl, _, [], 0, by rw [hV']; exact mct _ (mct _ List.mem_cons_self), rfl, rfl, .nil⟩)
      refine ⟨hst.1, fun j k hk => ?_⟩
      obtain ⟨a, e1, o, b, t, n, e2, e3, e4, e5⟩ := hst.2 j k hk
      have toV : ∀ (z : Addr × Obj), z ∈ G ++ X → (∃ a n, z.2.data = .seq a n) → z ∈ (Sx, So) :: V' := fun z hz ⟨a, n, hd⟩ => by
        rcases List.mem_append.mp hz with h | h
        · exact hGX z (List.mem_append_left _ h)
        · rw [hX] at h
          rcases List.mem_cons.mp h with rfl | h
          · rw [hoY] at hd; cases hd
          · rcases List.mem_cons.mp h with rfl | h
            · rw [hoA] at hd; cases hd
            · exact hVs z h
      obtain ⟨o', its', n', f1, f2, f3, f4⟩ := e5
      exact ⟨a, e1, o, b, t, n, toV _ e2 ⟨_, _, e4⟩, e3, e4, o', its', n', toV _ f1 ⟨_, _, f3⟩, f2, f3, f4⟩
    refine tail6 (L := L) (th := th) (oY := oY) (oA := oA) (st := Sx) (sto := So) (stis := hs ++ [.ref T1]) (ns := 0) (sts := ns.zip pls ++ [(3, [])]) B KX TP hdp hun (V := (Sx, So) :: V') F10 (news_drop N10 fun e he => ?_) hoY hoA (fun e he => ?_) (hVs _ hcW) hoW (hVs _ hwl) hwc hwd (hws.mono hVs) List.mem_cons_self (by rw [hSo]) (by rw [hSo]) hstsV ?_ ?_ hf0 hYc hY hYn (fun k hk => ?_) ?_ hret
    · rw [hV'] at he
      refine sub_go he ?_
      walk_at "sub"
    · rw [hV'] at he
      refine all_cons he ?_ fun he => all_cons he ?_ fun he => all_cons he ?_ fun he => all_app he (fun h => ?_) fun h => ?_
      · exact ⟨hf4.1, hf5.1⟩
      · exact ⟨hf4.2.1, hf5.2.1⟩
      · exact ⟨hf4.2.2.1, hf5.2.2.1⟩
      · exact ⟨hf4.2.2.2 e h, hf5.2.2.2 e h⟩
      · exact hne e h
    · exact if_pos rfl
    · exact (if_neg (by decide)).trans e_half
    · rcases List.mem_append.mp hk with h | h
      · have := hpY k.2 (List.of_mem_zip (show (k.1, k.2) ∈ _ from h)).2
        exact ⟨this.1, fun _ => this.2⟩
      · rw [List.mem_singleton.mp h]
        exact ⟨hY0, fun h => absurd (by decide) h⟩
    · rw [List.length_append, List.length_zip, List.length_singleton]; lia
theorem all (x : Dat) : Stm x.1 x.2.1 x.2.2.1 x.2.2.2.1 x.2.2.2.2.1 x.2.2.2.2.2.1 x.2.2.2.2.2.2.1 x.2.2.2.2.2.2.2.1 x.2.2.2.2.2.2.2.2.1 x.2.2.2.2.2.2.2.2.2.1 x.2.2.2.2.2.2.2.2.2.2.1 x.2.2.2.2.2.2.2.2.2.2.2.1 x.2.2.2.2.2.2.2.2.2.2.2.2.1 x.2.2.2.2.2.2.2.2.2.2.2.2.2.1 x.2.2.2.2.2.2.2.2.2.2.2.2.2.2.1 x.2.2.2.2.2.2.2.2.2.2.2.2.2.2.2.1 x.2.2.2.2.2.2.2.2.2.2.2.2.2.2.2.2.1 x.2.2.2.2.2.2.2.2.2.2.2.2.2.2.2.2.2.1 x.2.2.2.2.2.2.2.2.2.2.2.2.2.2.2.2.2.2.1 x.2.2.2.2.2.2.2.2.2.2.2.2.2.2.2.2.2.2.2.1 x.2.2.2.2.2.2.2.2.2.2.2.2.2.2.2.2.2.2.2.2.1 x.2.2.2.2.2.2.2.2.2.2.2.2.2.2.2.2.2.2.2.2.2.1 x.2.2.2.2.2.2.2.2.2.2.2.2.2.2.2.2.2.2.2.2.2.2.1 x.2.2.2.2.2.2.2.2.2.2.2.2.2.2.2.2.2.2.2.2.2.2.2.1 x.2.2.2.2.2.2.2.2.2.2.2.2.2.2.2.2.2.2.2.2.2.2.2.2.1 x.2.2.2.2.2.2.2.2.2.2.2.2.2.2.2.2.2.2.2.2.2.2.2.2.2.1 x.2.2.2.2.2.2.2.2.2.2.2.2.2.2.2.2.2.2.2.2.2.2.2.2.2.2.1 x.2.2.2.2.2.2.2.2.2.2.2.2.2.2.2.2.2.2.2.2.2.2.2.2.2.2.2.1 x.2.2.2.2.2.2.2.2.2.2.2.2.2.2.2.2.2.2.2.2.2.2.2.2.2.2.2.2.1 x.2.2.2.2.2.2.2.2.2.2.2.2.2.2.2.2.2.2.2.2.2.2.2.2.2.2.2.2.2.1 x.2.2.2.2.2.2.2.2.2.2.2.2.2.2.2.2.2.2.2.2.2.2.2.2.2.2.2.2.2.2.1 x.2.2.2.2.2.2.2.2.2.2.2.2.2.2.2.2.2.2.2.2.2.2.2.2.2.2.2.2.2.2.2.1 x.2.2.2.2.2.2.2.2.2.2.2.2.2.2.2.2.2.2.2.2.2.2.2.2.2.2.2.2.2.2.2.2.1 x.2.2.2.2.2.2.2.2.2.2.2.2.2.2.2.2.2.2.2.2.2.2.2.2.2.2.2.2.2.2.2.2.2.1 x.2.2.2.2.2.2.2.2.2.2.2.2.2.2.2.2.2.2.2.2.2.2.2.2.2.2.2.2.2.2.2.2.2.2.1 x.2.2.2.2.2.2.2.2.2.2.2.2.2.2.2.2.2.2.2.2.2.2.2.2.2.2.2.2.2.2.2.2.2.2.2.1 x.2.2.2.2.2.2.2.2.2.2.2.2.2.2.2.2.2.2.2.2.2.2.2.2.2.2.2.2.2.2.2.2.2.2.2.2.1 x.2.2.2.2.2.2.2.2.2.2.2.2.2.2.2.2.2.2.2.2.2.2.2.2.2.2.2.2.2.2.2.2.2.2.2.2.2.1 x.2.2.2.2.2.2.2.2.2.2.2.2.2.2.2.2.2.2.2.2.2.2.2.2.2.2.2.2.2.2.2.2.2.2.2.2.2.2.1 x.2.2.2.2.2.2.2.2.2.2.2.2.2.2.2.2.2.2.2.2.2.2.2.2.2.2.2.2.2.2.2.2.2.2.2.2.2.2.2.1 x.2.2.2.2.2.2.2.2.2.2.2.2.2.2.2.2.2.2.2.2.2.2.2.2.2.2.2.2.2.2.2.2.2.2.2.2.2.2.2.2.1 x.2.2.2.2.2.2.2.2.2.2.2.2.2.2.2.2.2.2.2.2.2.2.2.2.2.2.2.2.2.2.2.2.2.2.2.2.2.2.2.2.2.1 x.2.2.2.2.2.2.2.2.2.2.2.2.2.2.2.2.2.2.2.2.2.2.2.2.2.2.2.2.2.2.2.2.2.2.2.2.2.2.2.2.2.2.1 x.2.2.2.2.2.2.2.2.2.2.2.2.2.2.2.2.2.2.2.2.2.2.2.2.2.2.2.2.2.2.2.2.2.2.2.2.2.2.2.2.2.2.2 := eps_all ne (fun x => Stm x.1 x.2.1 x.2.2.1 x.2.2.2.1 x.2.2.2.2.1 x.2.2.2.2.2.1 x.2.2.2.2.2.2.1 x.2.2.2.2.2.2.2.1 x.2.2.2.2.2.2.2.2.1 x.2.2.2.2.2.2.2.2.2.1 x.2.2.2.2.2.2.2.2.2.2.1 x.2.2.2.2.2.2.2.2.2.2.2.1 x.2.2.2.2.2.2.2.2.2.2.2.2.1 x.2.2.2.2.2.2.2.2.2.2.2.2.2.1 x.2.2.2.2.2.2.2.2.2.2.2.2.2.2.1 x.2.2.2.2.2.2.2.2.2.2.2.2.2.2.2.1 x.2.2.2.2.2.2.2.2.2.2.2.2.2.2.2.2.1 x.2.2.2.2.2.2.2.2.2.2.2.2.2.2.2.2.2.1 x.2.2.2.2.2.2.2.2.2.2.2.2.2.2.2.2.2.2.1 x.2.2.2.2.2.2.2.2.2.2.2.2.2.2.2.2.2.2.2.1 x.2.2.2.2.2.2.2.2.2.2.2.2.2.2.2.2.2.2.2.2.1 x.2.2.2.2.2.2.2.2.2.2.2.2.2.2.2.2.2.2.2.2.2.1 x.2.2.2.2.2.2.2.2.2.2.2.2.2.2.2.2.2.2.2.2.2.2.1 x.2.2.2.2.2.2.2.2.2.2.2.2.2.2.2.2.2.2.2.2.2.2.2.1 x.2.2.2.2.2.2.2.2.2.2.2.2.2.2.2.2.2.2.2.2.2.2.2.2.1 x.2.2.2.2.2.2.2.2.2.2.2.2.2.2.2.2.2.2.2.2.2.2.2.2.2.1 x.2.2.2.2.2.2.2.2.2.2.2.2.2.2.2.2.2.2.2.2.2.2.2.2.2.2.1 x.2.2.2.2.2.2.2.2.2.2.2.2.2.2.2.2.2.2.2.2.2.2.2.2.2.2.2.1 x.2.2.2.2.2.2.2.2.2.2.2.2.2.2.2.2.2.2.2.2.2.2.2.2.2.2.2.2.1 x.2.2.2.2.2.2.2.2.2.2.2.2.2.2.2.2.2.2.2.2.2.2.2.2.2.2.2.2.2.1 x.2.2.2.2.2.2.2.2.2.2.2.2.2.2.2.2.2.2.2.2.2.2.2.2.2.2.2.2.2.2.1 x.2.2.2.2.2.2.2.2.2.2.2.2.2.2.2.2.2.2.2.2.2.2.2.2.2.2.2.2.2.2.2.1 x.2.2.2.2.2.2.2.2.2.2.2.2.2.2.2.2.2.2.2.2.2.2.2.2.2.2.2.2.2.2.2.2.1 x.2.2.2.2.2.2.2.2.2.2.2.2.2.2.2.2.2.2.2.2.2.2.2.2.2.2.2.2.2.2.2.2.2.1 x.2.2.2.2.2.2.2.2.2.2.2.2.2.2.2.2.2.2.2.2.2.2.2.2.2.2.2.2.2.2.2.2.2.2.1 x.2.2.2.2.2.2.2.2.2.2.2.2.2.2.2.2.2.2.2.2.2.2.2.2.2.2.2.2.2.2.2.2.2.2.2.1 x.2.2.2.2.2.2.2.2.2.2.2.2.2.2.2.2.2.2.2.2.2.2.2.2.2.2.2.2.2.2.2.2.2.2.2.2.1 x.2.2.2.2.2.2.2.2.2.2.2.2.2.2.2.2.2.2.2.2.2.2.2.2.2.2.2.2.2.2.2.2.2.2.2.2.2.1 x.2.2.2.2.2.2.2.2.2.2.2.2.2.2.2.2.2.2.2.2.2.2.2.2.2.2.2.2.2.2.2.2.2.2.2.2.2.2.1 x.2.2.2.2.2.2.2.2.2.2.2.2.2.2.2.2.2.2.2.2.2.2.2.2.2.2.2.2.2.2.2.2.2.2.2.2.2.2.2.1 x.2.2.2.2.2.2.2.2.2.2.2.2.2.2.2.2.2.2.2.2.2.2.2.2.2.2.2.2.2.2.2.2.2.2.2.2.2.2.2.2.1 x.2.2.2.2.2.2.2.2.2.2.2.2.2.2.2.2.2.2.2.2.2.2.2.2.2.2.2.2.2.2.2.2.2.2.2.2.2.2.2.2.2.1 x.2.2.2.2.2.2.2.2.2.2.2.2.2.2.2.2.2.2.2.2.2.2.2.2.2.2.2.2.2.2.2.2.2.2.2.2.2.2.2.2.2.2.1 x.2.2.2.2.2.2.2.2.2.2.2.2.2.2.2.2.2.2.2.2.2.2.2.2.2.2.2.2.2.2.2.2.2.2.2.2.2.2.2.2.2.2.2) (by with_unfolding_all exact go) x
end E_tail5
theorem tail5 {w : World} {dp : Nat} {un : Nat} {gd : Option (List Code)} {L : Nat} {fa : Addr} {ccd : Value} {A₀ : Around} {base : Heap} {h₀ : Heap} {p : PySem.Program} {loose : List Str} {mean : ExcName → Option Value} {mg : Str → Option Value} {mb : Str → Option Value} {m : Str → Option Value} {s : Shared} {Q : Flow → Shared → Prop} {E : Value → Shared → Prop} {V : Led} {wl : Addr} {sl : Addr} {pl : Addr} {oW : Obj} {oY : Obj} {oA : Obj} {oS : Obj} {oP : Obj} {wlo : Obj} {slo : Obj} {plo : Obj} {c0 : Option Value} {cA : Option Value} {its : List Value} {vs : List Value} {pits : List Value} {nw : Nat} {nsl : Nat} {npl : Nat} {Y : List (List Str)} {pls : List (List Str)} {ns : List Int} {hf : Int} {th : Tok}  (B : Below A₀ base [] h₀) (KX : (hd.heap_39 w.params).In h₀) (TP : Top p loose mean mg mb h₀) (hdp : dp + 40 < recursionLimit) (hun : un + 400 < cLine) (FR : Fr h₀ L s.heap m) (N : News h₀ L s.heap ((L + 4, oY) :: (L + 5, oA) :: V)) (hoY : oY.data = .cell c0) (hoA : oA.data = .cell cA) (hne : ∀ p ∈ V, @Ne Nat p.1 (L + 4) ∧ @Ne Nat p.1 (L + 5)) (hcW : (L + 3, oW) ∈ V) (hoW : oW.data = .cell (some (.ref wl))) (hwl : (wl, wlo) ∈ V) (hwc : wlo.cls = .type "list") (hwd : wlo.data = .seq its.toArray nw) (hws : WaysIn w V Y its) (hcS : (L + 1, oS) ∈ V) (hoS : oS.data = .cell (some (.ref sl))) (hsl : (sl, slo) ∈ V) (hsc : slo.cls = .type "list") (hsd : slo.data = .seq vs.toArray nsl) (hvs : IntsAre vs ns) (hcP : (L + 2, oP) ∈ V) (hoP : oP.data = .cell (some (.ref pl))) (hpl : (pl, plo) ∈ V) (hpc : plo.cls = .type "list") (hpd : plo.data = .seq pits.toArray npl) (hps : WaysIn w V pls pits) (e_half : m (Str.ofString "half") = some (.int hf th)) (hlen : pls.length = ns.length) (hn63 : ns.length ≤ 63) (hf0 : 0 ≤ hf) (hYc : Closed Y) (hY : ∀ y ∈ Y, cc ∉ y ∧ y.length ≤ 25) (hYn : Y.length < 19000) (hY0 : [] ∈ Y) (hpY : ∀ q ∈ pls, q ∈ Y ∧ q ≠ []) (ret : ∀ s' m', Kin s s' → Fr h₀ L s'.heap m' → Q (.ret (.bool true)) s') : wpAny (model PP w) (ktrTop dp un gd (Str.ofString "law") lawScope L fa ccd (lawCells L) []) (execs (lawBody.drop 5) (envX (Str.ofString "law") lawScope L fa ccd (lawCells L))) Q E s :=
  E_tail5.all (w, dp, un, gd, L, fa, ccd, A₀, base, h₀, p, loose, mean, mg, mb, m, s, Q, E, V, wl, sl, pl, oW, oY, oA, oS, oP, wlo, slo, plo, c0, cA, its, vs, pits, nw, nsl, npl, Y, pls, ns, hf, th) B KX TP hdp hun FR N hoY hoA hne hcW hoW hwl hwc hwd hws hcS hoS hsl hsc hsd hvs hcP hoP hpl hpc hpd hps e_half hlen hn63 hf0 hYc hY hYn hY0 hpY ret
end

section
open PySem PySem.W PyProof.Rows
namespace E_tail4
noncomputable abbrev Dat : Type := (World) × (Nat) × (Nat) × (Option (List Code)) × (Nat) × (Addr) × (Value) × (Around) × (Heap) × (Heap) × (PySem.Program) × (List Str) × (ExcName → Option Value) × (Str → Option Value) × (Str → Option Value) × (Str → Option Value) × (Shared) × (Flow → Shared → Prop) × (Value → Shared → Prop) × (Led) × (Addr) × (Addr) × (Addr) × (Obj) × (Obj) × (Obj) × (Obj) × (Obj) × (Obj) × (Obj) × (Option Value) × (Option Value) × (List Value) × (List Value) × (List Value) × (Nat) × (Nat) × (Nat) × (List (List Str)) × (List (List Str)) × (List Int) × (Int) × (Tok)
theorem ne : Nonempty Dat := ⟨({ draws := fun _ _ => 0, params := { strHash := fun _ => 0, shareClass := fun _ => 0, mergeTok := id, idOf := fun _ => 0, idOfShared := fun _ _ => 0, followText := fun _ => false, idOfImm := fun _ => 0 } }, default, default, default, default, default, default, {}, default, default, default, default, default, default, default, default, {}, default, default, default, default, default, default, default, default, default, default, default, default, default, default, default, default, default, default, default, default, default, default, default, default, default, default)⟩
noncomputable def Stm (w : World) (dp : Nat) (un : Nat) (gd : Option (List Code)) (L : Nat) (fa : Addr) (ccd : Value) (A₀ : Around) (base : Heap) (h₀ : Heap) (p : PySem.Program) (loose : List Str) (mean : ExcName → Option Value) (mg : Str → Option Value) (mb : Str → Option Value) (m : Str → Option Value) (s : Shared) (Q : Flow → Shared → Prop) (E : Value → Shared → Prop) (V : Led) (wl : Addr) (sl : Addr) (pl : Addr) (oW : Obj) (oY : Obj) (oA : Obj) (oS : Obj) (oP : Obj) (slo : Obj) (plo : Obj) (c0 : Option Value) (cA : Option Value) (its : List Value) (vs : List Value) (pits : List Value) (nw : Nat) (nsl : Nat) (npl : Nat) (Y : List (List Str)) (pls : List (List Str)) (ns : List Int) (hf : Int) (th : Tok) : Prop := ∀  (B : Below A₀ base [] h₀) (KX : (hd.heap_39 w.params).In h₀) (TP : Top p loose mean mg mb h₀) (hdp : dp + 40 < recursionLimit) (hun : un + 400 < cLine) (FR : Fr h₀ L s.heap m) (N : News h₀ L s.heap ((L + 4, oY) :: (L + 5, oA) :: (wl, W.listOf its.toArray nw) :: V)) (hoY : oY.data = .cell c0) (hoA : oA.data = .cell cA) (hne : ∀ p ∈ V, @Ne Nat p.1 (L + 4) ∧ @Ne Nat p.1 (L + 5) ∧ @Ne Nat p.1 wl) (h4w : @Ne Nat (L + 4) wl) (h5w : @Ne Nat (L + 5) wl) (hcW : (L + 3, oW) ∈ V) (hoW : oW.data = .cell (some (.ref wl))) (hws : WaysIn w V Y its) (hcS : (L + 1, oS) ∈ V) (hoS : oS.data = .cell (some (.ref sl))) (hsl : (sl, slo) ∈ V) (hsc : slo.cls = .type "list") (hsd : slo.data = .seq vs.toArray nsl) (hvs : IntsAre vs ns) (hcP : (L + 2, oP) ∈ V) (hoP : oP.data = .cell (some (.ref pl))) (hpl : (pl, plo) ∈ V) (hpc : plo.cls = .type "list") (hpd : plo.data = .seq pits.toArray npl) (hps : WaysIn w V pls pits) (e_half : m (Str.ofString "half") = some (.int hf th)) (hlen : pls.length = ns.length) (hn63 : ns.length ≤ 63) (hf0 : 0 ≤ hf) (gY : GoodY Y) (hYn : Y.length ≤ 3) (hpY : ∀ q ∈ pls, cc ∉ q ∧ q.length ≤ 25 ∧ q ≠ []) (ret : ∀ s' m', Kin s s' → Fr h₀ L s'.heap m' → Q (.ret (.bool true)) s'), wpAny (model PP w) (ktrTop dp un gd (Str.ofString "law") lawScope L fa ccd (lawCells L) []) (execs (lawBody.drop 4) (envX (Str.ofString "law") lawScope L fa ccd (lawCells L))) Q E s
@[irreducible] noncomputable def pick : Dat := @Classical.epsilon Dat ne fun d => ¬ Stm d.1 d.2.1 d.2.2.1 d.2.2.2.1 d.2.2.2.2.1 d.2.2.2.2.2.1 d.2.2.2.2.2.2.1 d.2.2.2.2.2.2.2.1 d.2.2.2.2.2.2.2.2.1 d.2.2.2.2.2.2.2.2.2.1 d.2.2.2.2.2.2.2.2.2.2.1 d.2.2.2.2.2.2.2.2.2.2.2.1 d.2.2.2.2.2.2.2.2.2.2.2.2.1 d.2.2.2.2.2.2.2.2.2.2.2.2.2.1 d.2.2.2.2.2.2.2.2.2.2.2.2.2.2.1 d.2.2.2.2.2.2.2.2.2.2.2.2.2.2.2.1 d.2.2.2.2.2.2.2.2.2.2.2.2.2.2.2.2.1 d.2.2.2.2.2.2.2.2.2.2.2.2.2.2.2.2.2.1 d.2.2.2.2.2.2.2.2.2.2.2.2.2.2.2.2.2.2.1 d.2.2.2.2.2.2.2.2.2.2.2.2.2.2.2.2.2.2.2.1 d.2.2.2.2.2.2.2.2.2.2.2.2.2.2.2.2.2.2.2.2.1 d.2.2.2.2.2.2.2.2.2.2.2.2.2.2.2.2.2.2.2.2.2.1 d.2.2.2.2.2.2.2.2.2.2.2.2.2.2.2.2.2.2.2.2.2.2.1 d.2.2.2.2.2.2.2.2.2.2.2.2.2.2.2.2.2.2.2.2.2.2.2.1 d.2.2.2.2.2.2.2.2.2.2.2.2.2.2.2.2.2.2.2.2.2.2.2.2.1 d.2.2.2.2.2.2.2.2.2.2.2.2.2.2.2.2.2.2.2.2.2.2.2.2.2.1 d.2.2.2.2.2.2.2.2.2.2.2.2.2.2.2.2.2.2.2.2.2.2.2.2.2.2.1 d.2.2.2.2.2.2.2.2.2.2.2.2.2.2.2.2.2.2.2.2.2.2.2.2.2.2.2.1 d.2.2.2.2.2.2.2.2.2.2.2.2.2.2.2.2.2.2.2.2.2.2.2.2.2.2.2.2.1 d.2.2.2.2.2.2.2.2.2.2.2.2.2.2.2.2.2.2.2.2.2.2.2.2.2.2.2.2.2.1 d.2.2.2.2.2.2.2.2.2.2.2.2.2.2.2.2.2.2.2.2.2.2.2.2.2.2.2.2.2.2.1 d.2.2.2.2.2.2.2.2.2.2.2.2.2.2.2.2.2.2.2.2.2.2.2.2.2.2.2.2.2.2.2.1 d.2.2.2.2.2.2.2.2.2.2.2.2.2.2.2.2.2.2.2.2.2.2.2.2.2.2.2.2.2.2.2.2.1 d.2.2.2.2.2.2.2.2.2.2.2.2.2.2.2.2.2.2.2.2.2.2.2.2.2.2.2.2.2.2.2.2.2.1 d.2.2.2.2.2.2.2.2.2.2.2.2.2.2.2.2.2.2.2.2.2.2.2.2.2.2.2.2.2.2.2.2.2.2.1 d.2.2.2.2.2.2.2.2.2.2.2.2.2.2.2.2.2.2.2.2.2.2.2.2.2.2.2.2.2.2.2.2.2.2.2.1 d.2.2.2.2.2.2.2.2.2.2.2.2.2.2.2.2.2.2.2.2.2.2.2.2.2.2.2.2.2.2.2.2.2.2.2.2.1 d.2.2.2.2.2.2.2.2.2.2.2.2.2.2.2.2.2.2.2.2.2.2.2.2.2.2.2.2.2.2.2.2.2.2.2.2.2.1 d.2.2.2.2.2.2.2.2.2.2.2.2.2.2.2.2.2.2.2.2.2.2.2.2.2.2.2.2.2.2.2.2.2.2.2.2.2.2.1 d.2.2.2.2.2.2.2.2.2.2.2.2.2.2.2.2.2.2.2.2.2.2.2.2.2.2.2.2.2.2.2.2.2.2.2.2.2.2.2.1 d.2.2.2.2.2.2.2.2.2.2.2.2.2.2.2.2.2.2.2.2.2.2.2.2.2.2.2.2.2.2.2.2.2.2.2.2.2.2.2.2.1 d.2.2.2.2.2.2.2.2.2.2.2.2.2.2.2.2.2.2.2.2.2.2.2.2.2.2.2.2.2.2.2.2.2.2.2.2.2.2.2.2.2.1 d.2.2.2.2.2.2.2.2.2.2.2.2.2.2.2.2.2.2.2.2.2.2.2.2.2.2.2.2.2.2.2.2.2.2.2.2.2.2.2.2.2.2
@[irreducible] noncomputable def w := pick.1
@[irreducible] noncomputable def dp := pick.2.1
@[irreducible] noncomputable def un := pick.2.2.1
@[irreducible] noncomputable def gd := pick.2.2.2.1
@[irreducible] noncomputable def L := pick.2.2.2.2.1
@[irreducible] noncomputable def fa := pick.2.2.2.2.2.1
noncomputable def pickr1 := pick.2.2.2.2.2.2
@[irreducible] noncomputable def ccd := pickr1.1
@[irreducible] noncomputable def A₀ := pickr1.2.1
@[irreducible] noncomputable def base := pickr1.2.2.1
@[irreducible] noncomputable def h₀ := pickr1.2.2.2.1
@[irreducible] noncomputable def p := pickr1.2.2.2.2.1
@[irreducible] noncomputable def loose := pickr1.2.2.2.2.2.1
noncomputable def pickr2 := pickr1.2.2.2.2.2.2
@[irreducible] noncomputable def mean := pickr2.1
@[irreducible] noncomputable def mg := pickr2.2.1
@[irreducible] noncomputable def mb := pickr2.2.2.1
@[irreducible] noncomputable def m := pickr2.2.2.2.1
@[irreducible] noncomputable def s := pickr2.2.2.2.2.1
@[irreducible] noncomputable def Q := pickr2.2.2.2.2.2.1
noncomputable def pickr3 := pickr2.2.2.2.2.2.2
@[irreducible] noncomputable def E := pickr3.1
@[irreducible] noncomputable def V := pickr3.2.1
@[irreducible] noncomputable def wl := pickr3.2.2.1
@[irreducible] noncomputable def sl := pickr3.2.2.2.1
@[irreducible] noncomputable def pl := pickr3.2.2.2.2.1
@[irreducible] noncomputable def oW := pickr3.2.2.2.2.2.1
noncomputable def pickr4 := pickr3.2.2.2.2.2.2
@[irreducible] noncomputable def oY := pickr4.1
@[irreducible] noncomputable def oA := pickr4.2.1
@[irreducible] noncomputable def oS := pickr4.2.2.1
@[irreducible] noncomputable def oP := pickr4.2.2.2.1
@[irreducible] noncomputable def slo := pickr4.2.2.2.2.1
@[irreducible] noncomputable def plo := pickr4.2.2.2.2.2.1
noncomputable def pickr5 := pickr4.2.2.2.2.2.2
@[irreducible] noncomputable def c0 := pickr5.1
@[irreducible] noncomputable def cA := pickr5.2.1
@[irreducible] noncomputable def its := pickr5.2.2.1
@[irreducible] noncomputable def vs := pickr5.2.2.2.1
@[irreducible] noncomputable def pits := pickr5.2.2.2.2.1
@[irreducible] noncomputable def nw := pickr5.2.2.2.2.2.1
noncomputable def pickr6 := pickr5.2.2.2.2.2.2
@[irreducible] noncomputable def nsl := pickr6.1
@[irreducible] noncomputable def npl := pickr6.2.1
@[irreducible] noncomputable def Y := pickr6.2.2.1
@[irreducible] noncomputable def pls := pickr6.2.2.2.1
@[irreducible] noncomputable def ns := pickr6.2.2.2.2.1
@[irreducible] noncomputable def hf := pickr6.2.2.2.2.2.1
noncomputable def pickr7 := pickr6.2.2.2.2.2.2
@[irreducible] noncomputable def th := pickr7
theorem go : Stm w dp un gd L fa ccd A₀ base h₀ p loose mean mg mb m s Q E V wl sl pl oW oY oA oS oP slo plo c0 cA its vs pits nw nsl npl Y pls ns hf th := by
  intro B KX TP hdp hun FR N hoY hoA hne h4w h5w hcW hoW hws hcS hoS hsl hsc hsd hvs hcP hoP hpl hpc hpd hps e_half hlen hn63 hf0 gY hYn hpY ret
  refine kf ?_
  k_fill
  intro _
  refine wpAny_noRaise ?_
  (conv in (lawBody.drop 4) => whnf)
  (repeat' (first | walk_at "u" | ((fail_if_success with_reducible first | show G32 | show G45 | show G46 | show G44 | show G27 | show G2); walk1)))
  refine For_led (by assumption) ?_
  (repeat' (first | walk_at "u" | ((fail_if_success with_reducible first | show G32 | show G45 | show G46 | show G44 | show G27 | show G2); walk1)))
  refine nameX_C (by assumption) rfl (mct _ (mct _ (mct _ hcP))) hoP ?_ rfl rfl
  have hVup : ∀ e ∈ V, ∀ A B C : Addr × Obj, ∀ G : Led, e ∈ A :: B :: C :: (G ++ V) := fun e he _ _ _ _ => mct _ (mct _ (mct _ (List.mem_append_right _ he)))
  refine iter_list (by rfl) FR (news_drop (W' := (L + 4, oY) :: (L + 5, oA) :: (wl, W.listOf its.toArray nw) :: ([] ++ V)) N fun e he => he) (hVup _ hpl _ _ _ _) hpc hpd (fun i m' W' => ∃ oY c its nw G, W' = (L + 4, oY) :: (L + 5, oA) :: (wl, W.listOf (List.toArray its) nw) :: (G ++ V) ∧ oY.data = .cell c ∧ m' = m ∧ WaysIn w (G ++ V) (endY Y (pls.take i)) its ∧ (∀ e ∈ G, @Ne Nat e.1 (L + 4) ∧ @Ne Nat e.1 (L + 5) ∧ @Ne Nat e.1 wl))
    ⟨oY, c0, its, nw, [], rfl, hoY, rfl, hws, fun e he => absurd he (by simp)⟩ ?_ ?_ ?_
  · rintro i m' W' ⟨oY, c, its, nw, G, rfl, _⟩
    exact hVup _ hpl _ _ _ _
  · rintro i v m' W' oI s3 hv ⟨oY, c, its, nw, G, rfl, hoY, rfl, hws, hG⟩ hoff F3 N3 K3 hlow
    obtain ⟨qa, q, rfl, hq, hqa⟩ := hps.get hv
    obtain ⟨hqc, hql, hq0⟩ := hpY q (List.mem_of_getElem? hq)
    obtain ⟨oq, qits, nq, hqm, hqcl, hqd, hqi⟩ := hqa
    intro Qo hQo
    show wpAny _ _ _ _ _ _
    (repeat' (first | walk_at "u" | ((fail_if_success with_reducible first | show G32 | show G45 | show G46 | show G44 | show G27 | show G2); walk1)))
    have h4I : @LT.lt Nat _ (L + 4) s.heap.objs.size := hlow (L + 4, _) List.mem_cons_self
    have h5I : @LT.lt Nat _ (L + 5) s.heap.objs.size := hlow (L + 5, _) (mct _ List.mem_cons_self)
    have hwI : @Ne Nat wl s.heap.objs.size := hoff (wl, W.listOf (List.toArray its) nw) (by walk_at "mem")
    have hGI : ∀ e ∈ G ++ V, @Ne Nat e.1 s.heap.objs.size := fun e he => hoff e (by walk_at "mem")
    have hsep : ∀ e ∈ G ++ V, @Ne Nat e.1 (L + 4) ∧ @Ne Nat e.1 (L + 5) ∧ @Ne Nat e.1 wl := fun e he => by
      rcases List.mem_append.mp he with h | h
      · exact hG e h
      · exact hne e h
    refine cell_store (c := L + 4) (o := oY) (W := (wl, W.listOf (List.toArray its) nw) :: (s.heap.objs.size, oI) :: (L + 5, oA) :: (G ++ V)) (by assumption) (news_drop (by assumption) fun e he => ?_) rfl ?_ hoY (fun o4 s4 K4 ho4 F4 N4 => ?_) rfl rfl
    · refine sub_go he ?_
      walk_at "sub"
    · intro e he
      refine all_cons he ?_ fun he => all_cons he ?_ fun he => all_cons he ?_ fun he => ?_
      · exact Ne.symm h4w
      · exact Nat.ne_of_gt h4I
      · exact Nat.succ_ne_self (L + 4)
      · exact (hsep e he).1
    (repeat' (first | walk_at "u" | ((fail_if_success with_reducible first | show G32 | show G45 | show G46 | show G44 | show G27 | show G2); walk1)))
    have hpl25 : ∀ x ∈ pls.take i, x.length ≤ 25 := fun x hx => (hpY x (List.mem_of_mem_take hx)).2.1
    have hYl := endY_length (Y := Y) hpl25
    have hil : (pls.take i).length ≤ 63 := by rw [List.length_take]; omega
    refine ext_turn (L := L) (wl := wl) (its := its) (nw := nw) (V := (s.heap.objs.size, oI) :: (L + 5, oA) :: (G ++ V)) (R := G ++ V) (q := q) (Y := endY Y (pls.take i)) B KX TP hdp hun F4 N4 h4w (fun e he => ?_) (fun e he => mct _ (mct _ he)) ho4 (mct _ (mct _ (List.mem_append_right _ hcW))) hoW (List.mem_append_right _ hqm) hqcl hqd hqi hql hws (by omega) ?_
    · refine all_cons he ?_ fun he => all_cons he ?_ fun he => ?_
      · exact ⟨Nat.ne_of_gt h4I, Ne.symm hwI⟩
      · exact ⟨Nat.succ_ne_self (L + 4), h5w⟩
      · exact ⟨(hsep e he).1, (hsep e he).2.2⟩
    · intro s6 nw' its' G' K6 F6 N6 hws' hG'
      refine hQo .next _ ?_
      show NextHere _ _ _ _ _ _ _
      have hG3 : ∀ e ∈ G', @Ne Nat e.1 (L + 4) ∧ @Ne Nat e.1 (L + 5) ∧ @Ne Nat e.1 wl ∧ @Ne Nat e.1 s.heap.objs.size := fun e he => by
        rcases hG' e he with h1 | h1
        · rw [h1]
          have := hne _ hqm
          exact ⟨this.1, this.2.1, this.2.2, hGI _ (List.mem_append_right _ hqm)⟩
        · exact ⟨Nat.ne_of_gt (h1 (L + 4, o4) List.mem_cons_self), Nat.ne_of_gt (h1 (L + 5, oA) (by walk_at "mem")), Nat.ne_of_gt (h1 (wl, W.listOf (List.toArray its) nw) (by walk_at "mem")), Nat.ne_of_gt (h1 (s.heap.objs.size, oI) (by walk_at "mem"))⟩
      refine NextHere.intro F6 N6 (W' := (L + 4, o4) :: (L + 5, oA) :: (wl, W.listOf (List.toArray its') nw') :: ((G' ++ G) ++ V)) (fun e he => ?_) (fun e he => ?_) ⟨o4, _, its', nw', G' ++ G, rfl, ho4, rfl, ?_, fun e he => ?_⟩ (Kin.trans K3 (Kin.trans K4 K6))
      · refine sub_go he ?_
        walk_at "sub"
      · refine all_cons he ?_ fun he => all_cons he ?_ fun he => all_cons he ?_ fun he => ?_
        · exact Nat.ne_of_lt h4I
        · exact Nat.ne_of_lt h5I
        · exact hwI
        · rw [List.append_assoc] at he
          rcases List.mem_append.mp he with h | h
          · exact (hG3 e h).2.2.2
          · exact hGI e h
      · rw [endY_take hq, List.append_assoc]; exact hws'
      · rcases List.mem_append.mp he with h | h
        · exact ⟨(hG3 e h).1, (hG3 e h).2.1, (hG3 e h).2.2.1⟩
        · exact hG e h
  · rintro m' W' s3 ⟨oY, c, its, nw, G, rfl, hoY, rfl, hws, hG⟩ F3 N3 K3
    rw [hps.1, List.take_length] at hws
    (repeat' (first | walk_at "u" | ((fail_if_success with_reducible first | show G32 | show G45 | show G46 | show G44 | show G27 | show G2); walk1)))
    have hret : ∀ s' m', Kin s3 s' → Fr h₀ L s'.heap m' → Q (.ret (.bool true)) s' := fun s' m' k f => ret s' m' (Kin.trans K3 k) f
    have gE := endY_good gY (pls := pls) fun x hx => ⟨(hpY x hx).1, (hpY x hx).2.1⟩
    have hYl := endY_length (Y := Y) (pls := pls) fun x hx => (hpY x hx).2.1
    have hVu : ∀ e ∈ V, e ∈ (wl, W.listOf (List.toArray its) nw) :: (G ++ V) := fun e he => mct _ (List.mem_append_right _ he)
    refine tail5 (L := L) (th := th) (oY := oY) (oA := oA) (wlo := W.listOf (List.toArray its) nw) (Y := endY Y pls) (pls := pls) (ns := ns) B KX TP hdp hun (V := (wl, W.listOf (List.toArray its) nw) :: (G ++ V)) F3 N3 hoY hoA (fun e he => ?_) (hVu _ hcW) hoW List.mem_cons_self rfl rfl (hws.mono fun e he => mct _ he) (hVu _ hcS) hoS (hVu _ hsl) hsc hsd hvs (hVu _ hcP) hoP (hVu _ hpl) hpc hpd (hps.mono hVu) e_half hlen hn63 hf0 gE.closed gE.good (by lia) gE.nil (fun q hq => ⟨endY_mem hq (hpY q hq).2.2, (hpY q hq).2.2⟩) hret
    refine all_cons he ?_ fun he => all_app he (fun h => ?_) fun h => ?_
    · exact ⟨Ne.symm h4w, Ne.symm h5w⟩
    · exact ⟨(hG e h).1, (hG e h).2.1⟩
    · exact ⟨(hne e h).1, (hne e h).2.1⟩
theorem all (x : Dat) : Stm x.1 x.2.1 x.2.2.1 x.2.2.2.1 x.2.2.2.2.1 x.2.2.2.2.2.1 x.2.2.2.2.2.2.1 x.2.2.2.2.2.2.2.1 x.2.2.2.2.2.2.2.2.1 x.2.2.2.2.2.2.2.2.2.1 x.2.2.2.2.2.2.2.2.2.2.1 x.2.2.2.2.2.2.2.2.2.2.2.1 x.2.2.2.2.2.2.2.2.2.2.2.2.1 x.2.2.2.2.2.2.2.2.2.2.2.2.2.1 x.2.2.2.2.2.2.2.2.2.2.2.2.2.2.1 x.2.2.2.2.2.2.2.2.2.2.2.2.2.2.2.1 x.2.2.2.2.2.2.2.2.2.2.2.2.2.2.2.2.1 x.2.2.2.2.2.2.2.2.2.2.2.2.2.2.2.2.2.1 x.2.2.2.2.2.2.2.2.2.2.2.2.2.2.2.2.2.2.1 x.2.2.2.2.2.2.2.2.2.2.2.2.2.2.2.2.2.2.2.1 x.2.2.2.2.2.2.2.2.2.2.2.2.2.2.2.2.2.2.2.2.1 x.2.2.2.2.2.2.2.2.2.2.2.2.2.2.2.2.2.2.2.2.2.1 x.2.2.2.2.2.2.2.2.2.2.2.2.2.2.2.2.2.2.2.2.2.2.1 x.2.2.2.2.2.2.2.2.2.2.2.2.2.2.2.2.2.2.2.2.2.2.2.1 x.2.2.2.2.2.2.2.2.2.2.2.2.2.2.2.2.2.2.2.2.2.2.2.2.1 x.2.2.2.2.2.2.2.2.2.2.2.2.2.2.2.2.2.2.2.2.2.2.2.2.2.1 x.2.2.2.2.2.2.2.2.2.2.2.2.2.2.2.2.2.2.2.2.2.2.2.2.2.2.1 x.2.2.2.2.2.2.2.2.2.2.2.2.2.2.2.2.2.2.2.2.2.2.2.2.2.2.2.1 x.2.2.2.2.2.2.2.2.2.2.2.2.2.2.2.2.2.2.2.2.2.2.2.2.2.2.2.2.1 x.2.2.2.2.2.2.2.2.2.2.2.2.2.2.2.2.2.2.2.2.2.2.2.2.2.2.2.2.2.1 x.2.2.2.2.2.2.2.2.2.2.2.2.2.2.2.2.2.2.2.2.2.2.2.2.2.2.2.2.2.2.1 x.2.2.2.2.2.2.2.2.2.2.2.2.2.2.2.2.2.2.2.2.2.2.2.2.2.2.2.2.2.2.2.1 x.2.2.2.2.2.2.2.2.2.2.2.2.2.2.2.2.2.2.2.2.2.2.2.2.2.2.2.2.2.2.2.2.1 x.2.2.2.2.2.2.2.2.2.2.2.2.2.2.2.2.2.2.2.2.2.2.2.2.2.2.2.2.2.2.2.2.2.1 x.2.2.2.2.2.2.2.2.2.2.2.2.2.2.2.2.2.2.2.2.2.2.2.2.2.2.2.2.2.2.2.2.2.2.1 x.2.2.2.2.2.2.2.2.2.2.2.2.2.2.2.2.2.2.2.2.2.2.2.2.2.2.2.2.2.2.2.2.2.2.2.1 x.2.2.2.2.2.2.2.2.2.2.2.2.2.2.2.2.2.2.2.2.2.2.2.2.2.2.2.2.2.2.2.2.2.2.2.2.1 x.2.2.2.2.2.2.2.2.2.2.2.2.2.2.2.2.2.2.2.2.2.2.2.2.2.2.2.2.2.2.2.2.2.2.2.2.2.1 x.2.2.2.2.2.2.2.2.2.2.2.2.2.2.2.2.2.2.2.2.2.2.2.2.2.2.2.2.2.2.2.2.2.2.2.2.2.2.1 x.2.2.2.2.2.2.2.2.2.2.2.2.2.2.2.2.2.2.2.2.2.2.2.2.2.2.2.2.2.2.2.2.2.2.2.2.2.2.2.1 x.2.2.2.2.2.2.2.2.2.2.2.2.2.2.2.2.2.2.2.2.2.2.2.2.2.2.2.2.2.2.2.2.2.2.2.2.2.2.2.2.1 x.2.2.2.2.2.2.2.2.2.2.2.2.2.2.2.2.2.2.2.2.2.2.2.2.2.2.2.2.2.2.2.2.2.2.2.2.2.2.2.2.2.1 x.2.2.2.2.2.2.2.2.2.2.2.2.2.2.2.2.2.2.2.2.2.2.2.2.2.2.2.2.2.2.2.2.2.2.2.2.2.2.2.2.2.2 := eps_all ne (fun x => Stm x.1 x.2.1 x.2.2.1 x.2.2.2.1 x.2.2.2.2.1 x.2.2.2.2.2.1 x.2.2.2.2.2.2.1 x.2.2.2.2.2.2.2.1 x.2.2.2.2.2.2.2.2.1 x.2.2.2.2.2.2.2.2.2.1 x.2.2.2.2.2.2.2.2.2.2.1 x.2.2.2.2.2.2.2.2.2.2.2.1 x.2.2.2.2.2.2.2.2.2.2.2.2.1 x.2.2.2.2.2.2.2.2.2.2.2.2.2.1 x.2.2.2.2.2.2.2.2.2.2.2.2.2.2.1 x.2.2.2.2.2.2.2.2.2.2.2.2.2.2.2.1 x.2.2.2.2.2.2.2.2.2.2.2.2.2.2.2.2.1 x.2.2.2.2.2.2.2.2.2.2.2.2.2.2.2.2.2.1 x.2.2.2.2.2.2.2.2.2.2.2.2.2.2.2.2.2.2.1 x.2.2.2.2.2.2.2.2.2.2.2.2.2.2.2.2.2.2.2.1 x.2.2.2.2.2.2.2.2.2.2.2.2.2.2.2.2.2.2.2.2.1 x.2.2.2.2.2.2.2.2.2.2.2.2.2.2.2.2.2.2.2.2.2.1 x.2.2.2.2.2.2.2.2.2.2.2.2.2.2.2.2.2.2.2.2.2.2.1 x.2.2.2.2.2.2.2.2.2.2.2.2.2.2.2.2.2.2.2.2.2.2.2.1 x.2.2.2.2.2.2.2.2.2.2.2.2.2.2.2.2.2.2.2.2.2.2.2.2.1 x.2.2.2.2.2.2.2.2.2.2.2.2.2.2.2.2.2.2.2.2.2.2.2.2.2.1 x.2.2.2.2.2.2.2.2.2.2.2.2.2.2.2.2.2.2.2.2.2.2.2.2.2.2.1 x.2.2.2.2.2.2.2.2.2.2.2.2.2.2.2.2.2.2.2.2.2.2.2.2.2.2.2.1 x.2.2.2.2.2.2.2.2.2.2.2.2.2.2.2.2.2.2.2.2.2.2.2.2.2.2.2.2.1 x.2.2.2.2.2.2.2.2.2.2.2.2.2.2.2.2.2.2.2.2.2.2.2.2.2.2.2.2.2.1 x.2.2.2.2.2.2.2.2.2.2.2.2.2.2.2.2.2.2.2.2.2.2.2.2.2.2.2.2.2.2.1 x.2.2.2.2.2.2.2.2.2.2.2.2.2.2.2.2.2.2.2.2.2.2.2.2.2.2.2.2.2.2.2.1 x.2.2.2.2.2.2.2.2.2.2.2.2.2.2.2.2.2.2.2.2.2.2.2.2.2.2.2.2.2.2.2.2.1 x.2.2.2.2.2.2.2.2.2.2.2.2.2.2.2.2.2.2.2.2.2.2.2.2.2.2.2.2.2.2.2.2.2.1 x.2.2.2.2.2.2.2.2.2.2.2.2.2.2.2.2.2.2.2.2.2.2.2.2.2.2.2.2.2.2.2.2.2.2.1 x.2.2.2.2.2.2.2.2.2.2.2.2.2.2.2.2.2.2.2.2.2.2.2.2.2.2.2.2.2.2.2.2.2.2.2.1 x.2.2.2.2.2.2.2.2.2.2.2.2.2.2.2.2.2.2.2.2.2.2.2.2.2.2.2.2.2.2.2.2.2.2.2.2.1 x.2.2.2.2.2.2.2.2.2.2.2.2.2.2.2.2.2.2.2.2.2.2.2.2.2.2.2.2.2.2.2.2.2.2.2.2.2.1 x.2.2.2.2.2.2.2.2.2.2.2.2.2.2.2.2.2.2.2.2.2.2.2.2.2.2.2.2.2.2.2.2.2.2.2.2.2.2.1 x.2.2.2.2.2.2.2.2.2.2.2.2.2.2.2.2.2.2.2.2.2.2.2.2.2.2.2.2.2.2.2.2.2.2.2.2.2.2.2.1 x.2.2.2.2.2.2.2.2.2.2.2.2.2.2.2.2.2.2.2.2.2.2.2.2.2.2.2.2.2.2.2.2.2.2.2.2.2.2.2.2.1 x.2.2.2.2.2.2.2.2.2.2.2.2.2.2.2.2.2.2.2.2.2.2.2.2.2.2.2.2.2.2.2.2.2.2.2.2.2.2.2.2.2.1 x.2.2.2.2.2.2.2.2.2.2.2.2.2.2.2.2.2.2.2.2.2.2.2.2.2.2.2.2.2.2.2.2.2.2.2.2.2.2.2.2.2.2) (by with_unfolding_all exact go) x
end E_tail4
theorem tail4 {w : World} {dp : Nat} {un : Nat} {gd : Option (List Code)} {L : Nat} {fa : Addr} {ccd : Value} {A₀ : Around} {base : Heap} {h₀ : Heap} {p : PySem.Program} {loose : List Str} {mean : ExcName → Option Value} {mg : Str → Option Value} {mb : Str → Option Value} {m : Str → Option Value} {s : Shared} {Q : Flow → Shared → Prop} {E : Value → Shared → Prop} {V : Led} {wl : Addr} {sl : Addr} {pl : Addr} {oW : Obj} {oY : Obj} {oA : Obj} {oS : Obj} {oP : Obj} {slo : Obj} {plo : Obj} {c0 : Option Value} {cA : Option Value} {its : List Value} {vs : List Value} {pits : List Value} {nw : Nat} {nsl : Nat} {npl : Nat} {Y : List (List Str)} {pls : List (List Str)} {ns : List Int} {hf : Int} {th : Tok}  (B : Below A₀ base [] h₀) (KX : (hd.heap_39 w.params).In h₀) (TP : Top p loose mean mg mb h₀) (hdp : dp + 40 < recursionLimit) (hun : un + 400 < cLine) (FR : Fr h₀ L s.heap m) (N : News h₀ L s.heap ((L + 4, oY) :: (L + 5, oA) :: (wl, W.listOf its.toArray nw) :: V)) (hoY : oY.data = .cell c0) (hoA : oA.data = .cell cA) (hne : ∀ p ∈ V, @Ne Nat p.1 (L + 4) ∧ @Ne Nat p.1 (L + 5) ∧ @Ne Nat p.1 wl) (h4w : @Ne Nat (L + 4) wl) (h5w : @Ne Nat (L + 5) wl) (hcW : (L + 3, oW) ∈ V) (hoW : oW.data = .cell (some (.ref wl))) (hws : WaysIn w V Y its) (hcS : (L + 1, oS) ∈ V) (hoS : oS.data = .cell (some (.ref sl))) (hsl : (sl, slo) ∈ V) (hsc : slo.cls = .type "list") (hsd : slo.data = .seq vs.toArray nsl) (hvs : IntsAre vs ns) (hcP : (L + 2, oP) ∈ V) (hoP : oP.data = .cell (some (.ref pl))) (hpl : (pl, plo) ∈ V) (hpc : plo.cls = .type "list") (hpd : plo.data = .seq pits.toArray npl) (hps : WaysIn w V pls pits) (e_half : m (Str.ofString "half") = some (.int hf th)) (hlen : pls.length = ns.length) (hn63 : ns.length ≤ 63) (hf0 : 0 ≤ hf) (gY : GoodY Y) (hYn : Y.length ≤ 3) (hpY : ∀ q ∈ pls, cc ∉ q ∧ q.length ≤ 25 ∧ q ≠ []) (ret : ∀ s' m', Kin s s' → Fr h₀ L s'.heap m' → Q (.ret (.bool true)) s') : wpAny (model PP w) (ktrTop dp un gd (Str.ofString "law") lawScope L fa ccd (lawCells L) []) (execs (lawBody.drop 4) (envX (Str.ofString "law") lawScope L fa ccd (lawCells L))) Q E s :=
  E_tail4.all (w, dp, un, gd, L, fa, ccd, A₀, base, h₀, p, loose, mean, mg, mb, m, s, Q, E, V, wl, sl, pl, oW, oY, oA, oS, oP, slo, plo, c0, cA, its, vs, pits, nw, nsl, npl, Y, pls, ns, hf, th) B KX TP hdp hun FR N hoY hoA hne h4w h5w hcW hoW hws hcS hoS hsl hsc hsd hvs hcP hoP hpl hpc hpd hps e_half hlen hn63 hf0 gY hYn hpY ret
end

section
open PySem PySem.W PyProof.Rows
namespace E_tail2
noncomputable abbrev Dat : Type := (World) × (Nat) × (Nat) × (Option (List Code)) × (Nat) × (Addr) × (Value) × (Around) × (Heap) × (Heap) × (PySem.Program) × (List Str) × (ExcName → Option Value) × (Str → Option Value) × (Str → Option Value) × (Str → Option Value) × (Shared) × (Flow → Shared → Prop) × (Value → Shared → Prop) × (Nat) × (Obj) × (Obj) × (Obj) × (Obj) × (Obj) × (Obj) × (Option Value) × (Option Value) × (Option Value) × (Option Value) × (List Value) × (Nat) × (List Int) × (Int) × (Tok)
theorem ne : Nonempty Dat := ⟨({ draws := fun _ _ => 0, params := { strHash := fun _ => 0, shareClass := fun _ => 0, mergeTok := id, idOf := fun _ => 0, idOfShared := fun _ _ => 0, followText := fun _ => false, idOfImm := fun _ => 0 } }, default, default, default, default, default, default, {}, default, default, default, default, default, default, default, default, {}, default, default, default, default, default, default, default, default, default, default, default, default, default, default, default, default, default, default)⟩
noncomputable def Stm (w : World) (dp : Nat) (un : Nat) (gd : Option (List Code)) (L : Nat) (fa : Addr) (ccd : Value) (A₀ : Around) (base : Heap) (h₀ : Heap) (p : PySem.Program) (loose : List Str) (mean : ExcName → Option Value) (mg : Str → Option Value) (mb : Str → Option Value) (m : Str → Option Value) (s : Shared) (Q : Flow → Shared → Prop) (E : Value → Shared → Prop) (sl : Nat) (oW : Obj) (oY : Obj) (oA : Obj) (oS : Obj) (oP : Obj) (slo : Obj) (c0 : Option Value) (cA : Option Value) (cP : Option Value) (cW : Option Value) (vs : List Value) (nsl : Nat) (ns : List Int) (hf : Int) (th : Tok) : Prop := ∀  (B : Below A₀ base [] h₀) (KX : (hd.heap_39 w.params).In h₀) (TP : Top p loose mean mg mb h₀) (hdp : dp + 40 < recursionLimit) (hun : un + 400 < cLine) (FR : Fr h₀ L s.heap m) (N : News h₀ L s.heap [(L + 2, oP), (L + 3, oW), (L + 4, oY), (L + 5, oA), (L + 1, oS), (sl, slo)]) (hoY : oY.data = .cell c0) (hoA : oA.data = .cell cA) (hoP : oP.data = .cell cP) (hoW : oW.data = .cell cW) (hLs : L + 5 < sl) (hoS : oS.data = .cell (some (.ref sl))) (hsc : slo.cls = .type "list") (hsd : slo.data = .seq vs.toArray nsl) (hvs : IntsAre vs ns) (e_half : m (Str.ofString "half") = some (.int hf th)) (hn63 : ns.length ≤ 63) (hf0 : 0 ≤ hf) (ret : ∀ s' m', Kin s s' → Fr h₀ L s'.heap m' → Q (.ret (.bool true)) s'), wpAny (model PP w) (ktrTop dp un gd (Str.ofString "law") lawScope L fa ccd (lawCells L) []) (execs (lawBody.drop 2) (envX (Str.ofString "law") lawScope L fa ccd (lawCells L))) Q E s
@[irreducible] noncomputable def pick : Dat := @Classical.epsilon Dat ne fun d => ¬ Stm d.1 d.2.1 d.2.2.1 d.2.2.2.1 d.2.2.2.2.1 d.2.2.2.2.2.1 d.2.2.2.2.2.2.1 d.2.2.2.2.2.2.2.1 d.2.2.2.2.2.2.2.2.1 d.2.2.2.2.2.2.2.2.2.1 d.2.2.2.2.2.2.2.2.2.2.1 d.2.2.2.2.2.2.2.2.2.2.2.1 d.2.2.2.2.2.2.2.2.2.2.2.2.1 d.2.2.2.2.2.2.2.2.2.2.2.2.2.1 d.2.2.2.2.2.2.2.2.2.2.2.2.2.2.1 d.2.2.2.2.2.2.2.2.2.2.2.2.2.2.2.1 d.2.2.2.2.2.2.2.2.2.2.2.2.2.2.2.2.1 d.2.2.2.2.2.2.2.2.2.2.2.2.2.2.2.2.2.1 d.2.2.2.2.2.2.2.2.2.2.2.2.2.2.2.2.2.2.1 d.2.2.2.2.2.2.2.2.2.2.2.2.2.2.2.2.2.2.2.1 d.2.2.2.2.2.2.2.2.2.2.2.2.2.2.2.2.2.2.2.2.1 d.2.2.2.2.2.2.2.2.2.2.2.2.2.2.2.2.2.2.2.2.2.1 d.2.2.2.2.2.2.2.2.2.2.2.2.2.2.2.2.2.2.2.2.2.2.1 d.2.2.2.2.2.2.2.2.2.2.2.2.2.2.2.2.2.2.2.2.2.2.2.1 d.2.2.2.2.2.2.2.2.2.2.2.2.2.2.2.2.2.2.2.2.2.2.2.2.1 d.2.2.2.2.2.2.2.2.2.2.2.2.2.2.2.2.2.2.2.2.2.2.2.2.2.1 d.2.2.2.2.2.2.2.2.2.2.2.2.2.2.2.2.2.2.2.2.2.2.2.2.2.2.1 d.2.2.2.2.2.2.2.2.2.2.2.2.2.2.2.2.2.2.2.2.2.2.2.2.2.2.2.1 d.2.2.2.2.2.2.2.2.2.2.2.2.2.2.2.2.2.2.2.2.2.2.2.2.2.2.2.2.1 d.2.2.2.2.2.2.2.2.2.2.2.2.2.2.2.2.2.2.2.2.2.2.2.2.2.2.2.2.2.1 d.2.2.2.2.2.2.2.2.2.2.2.2.2.2.2.2.2.2.2.2.2.2.2.2.2.2.2.2.2.2.1 d.2.2.2.2.2.2.2.2.2.2.2.2.2.2.2.2.2.2.2.2.2.2.2.2.2.2.2.2.2.2.2.1 d.2.2.2.2.2.2.2.2.2.2.2.2.2.2.2.2.2.2.2.2.2.2.2.2.2.2.2.2.2.2.2.2.1 d.2.2.2.2.2.2.2.2.2.2.2.2.2.2.2.2.2.2.2.2.2.2.2.2.2.2.2.2.2.2.2.2.2.1 d.2.2.2.2.2.2.2.2.2.2.2.2.2.2.2.2.2.2.2.2.2.2.2.2.2.2.2.2.2.2.2.2.2.2
@[irreducible] noncomputable def w := pick.1
@[irreducible] noncomputable def dp := pick.2.1
@[irreducible] noncomputable def un := pick.2.2.1
@[irreducible] noncomputable def gd := pick.2.2.2.1
@[irreducible] noncomputable def L := pick.2.2.2.2.1
@[irreducible] noncomputable def fa := pick.2.2.2.2.2.1
noncomputable def pickr1 := pick.2.2.2.2.2.2
@[irreducible] noncomputable def ccd := pickr1.1
@[irreducible] noncomputable def A₀ := pickr1.2.1
@[irreducible] noncomputable def base := pickr1.2.2.1
@[irreducible] noncomputable def h₀ := pickr1.2.2.2.1
@[irreducible] noncomputable def p := pickr1.2.2.2.2.1
@[irreducible] noncomputable def loose := pickr1.2.2.2.2.2.1
noncomputable def pickr2 := pickr1.2.2.2.2.2.2
@[irreducible] noncomputable def mean := pickr2.1
@[irreducible] noncomputable def mg := pickr2.2.1
@[irreducible] noncomputable def mb := pickr2.2.2.1
@[irreducible] noncomputable def m := pickr2.2.2.2.1
@[irreducible] noncomputable def s := pickr2.2.2.2.2.1
@[irreducible] noncomputable def Q := pickr2.2.2.2.2.2.1
noncomputable def pickr3 := pickr2.2.2.2.2.2.2
@[irreducible] noncomputable def E := pickr3.1
@[irreducible] noncomputable def sl := pickr3.2.1
@[irreducible] noncomputable def oW := pickr3.2.2.1
@[irreducible] noncomputable def oY := pickr3.2.2.2.1
@[irreducible] noncomputable def oA := pickr3.2.2.2.2.1
@[irreducible] noncomputable def oS := pickr3.2.2.2.2.2.1
noncomputable def pickr4 := pickr3.2.2.2.2.2.2
@[irreducible] noncomputable def oP := pickr4.1
@[irreducible] noncomputable def slo := pickr4.2.1
@[irreducible] noncomputable def c0 := pickr4.2.2.1
@[irreducible] noncomputable def cA := pickr4.2.2.2.1
@[irreducible] noncomputable def cP := pickr4.2.2.2.2.1
@[irreducible] noncomputable def cW := pickr4.2.2.2.2.2.1
noncomputable def pickr5 := pickr4.2.2.2.2.2.2
@[irreducible] noncomputable def vs := pickr5.1
@[irreducible] noncomputable def nsl := pickr5.2.1
@[irreducible] noncomputable def ns := pickr5.2.2.1
@[irreducible] noncomputable def hf := pickr5.2.2.2.1
@[irreducible] noncomputable def th := pickr5.2.2.2.2
theorem go : Stm w dp un gd L fa ccd A₀ base h₀ p loose mean mg mb m s Q E sl oW oY oA oS oP slo c0 cA cP cW vs nsl ns hf th := by
  intro B KX TP hdp hun FR N hoY hoA hoP hoW hLs hoS hsc hsd hvs e_half hn63 hf0 ret
  refine kf ?_
  k_fill
  intro _
  refine wpAny_noRaise ?_
  (conv in (lawBody.drop 2) => whnf)
  (repeat' (first | walk_at "u" | ((fail_if_success with_reducible first | show G14 | show G31 | show G9 | show G19 | show G37 | show G18 | show G38 | show G2 | show G43 | show G47 | show G48); walk1)))
  refine ListComp_led (cl := [(Str.ofString "script", L + 1)]) (S := { kind := .function, names := [(Str.ofString ".0", .local), (Str.ofString "k", .local), (Str.ofString "_law_way", .globalImplicit), (Str.ofString "abs", .globalImplicit), (Str.ofString "script", .cell)], isGenerator := false, isCoroutine := false }) (by assumption) ?s3 ?s4 ?s45 ?s5 ?s6 ?s7 ?s8 ?s9 ?s10
  case s3 => rfl
  case s4 => rfl
  case s45 => decide
  case s5 => rfl
  case s6 => decide
  case s7 => decide
  case s8 => intro x; rfl
  case s9 =>
    intro C g' hg' x
    simp only [List.mem_cons, List.not_mem_nil, or_false] at hg'
    rcases hg' with rfl <;> rfl
  (repeat' (first | walk_at "u" | ((fail_if_success with_reducible first | show G14 | show G31 | show G9 | show G19 | show G37 | show G18 | show G38 | show G2 | show G43 | show G47 | show G48); walk1)))
  have hvl := hvs.length
  refine nameX_C (o := oS) (by assumption) rfl (by walk_at "mem") hoS ?_ rfl rfl
  (repeat' (first | walk_at "u" | ((fail_if_success with_reducible first | show G14 | show G31 | show G9 | show G19 | show G37 | show G18 | show G38 | show G2 | show G43 | show G47 | show G48); walk1)))
  refine len_list (items := vs.toArray) ⟨slo, (N (sl, slo) (by walk_at "mem")).1, hsc, nsl, hsd⟩ (by rw [List.size_toArray]; omega) ?_
  (repeat' (first | walk_at "u" | ((fail_if_success with_reducible first | show G14 | show G31 | show G9 | show G19 | show G37 | show G18 | show G38 | show G2 | show G43 | show G47 | show G48); walk1)))
  obtain ⟨X, hX⟩ : ∃ X : Led, X = [(L + 2, oP), (L + 3, oW), (L + 4, oY), (L + 5, oA), (L + 1, oS), (sl, slo)] := ⟨_, rfl⟩
  rw [← hX] at N
  refine range_one (V := X) (by assumption) (by assumption) fun r t1 u1 v1 s1 K1 hr F1 N1 => ?_
  (repeat' (first | walk_at "u" | ((fail_if_success with_reducible first | show G14 | show G31 | show G9 | show G19 | show G37 | show G18 | show G38 | show G2 | show G43 | show G47 | show G48); walk1)))
  refine led_range (k := vs.length) F1 N1 List.mem_cons_self (by lia) (by rw [List.size_toArray]; lia) (by rw [List.size_toArray]; omega) fun I h7 hI7 F7 N7 => ?_
  refine ⟨_, _, F7, news_drop (W' := (I, rangeIt 0 vs.length) :: X) N7 (fun e he => by refine sub_go he ?_; walk_at "sub"), fun H C oL s3 K3 nsL hH hLH hHC F3 N3 => ?_⟩
  have hL1 : @LT.lt Nat _ L H := hLH
  have hIH : @LT.lt Nat _ I H := hH _ List.mem_cons_self
  have hXH : ∀ e ∈ X, @LT.lt Nat _ e.1 H := fun e he => hH _ (mct _ he)
  have hXI : ∀ e ∈ X, @LT.lt Nat _ e.1 I := fun e he => hI7 _ (mct _ he)
  have h1X : (L + 1, oS) ∈ X := by rw [hX]; walk_at "mem"
  have hsX : (sl, slo) ∈ X := by rw [hX]; walk_at "mem"
  have hXL : ∀ e ∈ X, @Ne Nat e.1 L := fun e he => (N e he).2.1
  have hIL : @LT.lt Nat _ L I := Nat.lt_of_le_of_lt (Nat.le_add_right L 1) (hXI _ h1X)
  have habove : h₀.objs.size ≤ L := FR.above
  obtain ⟨m₂, hmm, hm₂⟩ : ∃ m₂ : Str → Option Value, m₂ = m ∧ LCg.NsObj oL m₂ := ⟨_, rfl, nsL⟩
  have hHC' : @LT.lt Nat _ H C := hHC
  refine body_range (a := 0) (n := vs.length) (W := (L, oL) :: (H, W.listOf #[] 0) :: X) rfl (fun i m' W' => ∃ oL hs nh u G qs, LCg.NsObj oL m₂ ∧ W' = (L, oL) :: (H, W.listOf (List.toArray hs) nh) :: (G ++ X) ∧ WaysIn w G qs hs ∧ qs.length = i ∧ (∀ q ∈ qs, cc ∉ q ∧ q.length ≤ 25 ∧ q ≠ []) ∧ (∀ e ∈ G, @LT.lt Nat _ H e.1) ∧ m' = fun y => if y = Str.ofString "k" then u else none) F3 (news_drop N3 ?_) ?_ ?_ ?_ ?_
  · intro e he
    refine sub_go he ?_
    walk_at "sub"
  · intro e he
    refine all_cons he ?_ fun he => all_cons he ?_ fun he => ?_
    · exact Nat.ne_of_lt hIL
    · exact Nat.ne_of_gt hIH
    · exact Nat.ne_of_lt (hXI e he)
  · refine ⟨oL, [], 0, none, [], [], hm₂, rfl, WaysIn.nil, rfl, fun q hq => absurd hq (by simp), fun e he => absurd he (by simp), ?_⟩
    funext y
    simp
  · rintro i t m' W' oI2 s4 hi ⟨oL2, hs, nh, u, G, qs, nsL2, rfl, hws, hqs, hgood, hG, rfl⟩ hoff F4 N4 K4 QQk hQk
    have hin : i < ns.length := by lia
    obtain ⟨tn, hvn⟩ := ints_get hvs i (ns[i]) (List.getElem?_eq_getElem hin)
    have upX : ∀ e ∈ X, e ∈ (I, oI2) :: (L, oL2) :: (H, W.listOf (List.toArray hs) nh) :: (G ++ X) := fun e he => by walk_at "mem"
    rw [Int.zero_add]
    (repeat' (first | walk_at "u" | ((fail_if_success with_reducible first | show G14 | show G31 | show G9 | show G19 | show G37 | show G18 | show G38 | show G2 | show G43 | show G47 | show G48); walk1)))
    refine tests_nil ?_
    show wpAny _ _ (eval _ _) _ _ _
    (try dsimp only)
    (repeat' (first | walk_at "u" | ((fail_if_success with_reducible first | show G14 | show G31 | show G9 | show G19 | show G37 | show G18 | show G38 | show G2 | show G43 | show G47 | show G48); walk1)))
    refine cname_C (o := oS) (by assumption) rfl (upX _ h1X) hoS ?_ rfl rfl
    (repeat' (first | walk_at "u" | ((fail_if_success with_reducible first | show G14 | show G31 | show G9 | show G19 | show G37 | show G18 | show G38 | show G2 | show G43 | show G47 | show G48); walk1)))
    refine list_item (its := vs.toArray) (by assumption) (upX _ hsX) hsc hsd (by lia) (by lia) (by rw [Int.toNat_natCast]; simpa using hvn) ?_
    (repeat' (first | walk_at "u" | ((fail_if_success with_reducible first | show G14 | show G31 | show G9 | show G19 | show G37 | show G18 | show G38 | show G2 | show G43 | show G47 | show G48); walk1)))
    have hofft : ∀ e ∈ G ++ X, @Ne Nat e.1 I ∧ @Ne Nat e.1 H ∧ @Ne Nat e.1 L := fun e he => by
      rcases List.mem_append.mp he with h | h
      · have h1 := hG e h
        exact ⟨Nat.ne_of_gt (Nat.lt_trans hIH h1), Nat.ne_of_gt h1, Nat.ne_of_gt (Nat.lt_trans hL1 h1)⟩
      · exact ⟨Nat.ne_of_lt (hXI e h), Nat.ne_of_lt (hXH e h), hXL e h⟩
    refine way_call (L := L) (oL := oL2) (W := (I, oI2) :: (H, W.listOf (List.toArray hs) nh) :: (G ++ X)) B (by assumption) KX (news_drop (by assumption) fun e he => ?_) nsL2 (fun e he => ?_) habove TP rfl (room hdp) (room hun) fun a o q s5 oL5 K5 nsL5 F5 N5 Kq hq0 hql hqc hfr hCa => ?_
    · refine sub_go he ?_
      walk_at "sub"
    · refine all_cons he ?_ fun he => all_cons he ?_ fun he => ?_
      · exact Nat.ne_of_gt hIL
      · exact Nat.ne_of_gt hL1
      · exact (hofft e he).2.2
    have haH : @LT.lt Nat _ H a := hfr (H, W.listOf (List.toArray hs) nh) (by walk_at "mem")
    refine list_app (pre := [(a, o), (L, oL5), (I, oI2)]) (post := G ++ X) (D := H) (its := hs.toArray) (n := nh) F5 N5 (fun e he => ?_) (fun e he => (hofft e he).2.1) (by rw [List.size_toArray, hws.1, hqs]; lia) fun h10 F10 N10 => ?_
    · refine all_cons he ?_ fun he => all_cons he ?_ fun he => all_one he ?_
      · exact Nat.ne_of_gt haH
      · exact Nat.ne_of_lt hL1
      · exact Nat.ne_of_lt hIH
    rw [show hs.toArray.push (Value.ref a) = (hs ++ [Value.ref a]).toArray by simp] at N10
    refine hQk _ ?_
    refine NextHere.intro F10 N10 (W' := (L, oL5) :: (H, W.listOf (List.toArray (hs ++ [.ref a])) (nh + 1)) :: (((a, o) :: G) ++ X)) (fun e he => ?_) (fun e he => ?_) ⟨oL5, _, nh + 1, some (.int (i : Int) t), (a, o) :: G, qs ++ [q], nsL5, rfl, ?_, ?_, ?_, ?_, ?_⟩ (Kin.trans K4 K5)
    · refine sub_go he ?_
      walk_at "sub"
    · refine all_cons he ?_ fun he => all_cons he ?_ fun he => all_cons he ?_ fun he => ?_
      · exact Nat.ne_of_lt hIL
      · exact Nat.ne_of_gt hIH
      · exact Nat.ne_of_gt (Nat.lt_trans hIH haH)
      · exact (hofft e he).1
    · exact (hws.mono fun e he => mct _ he).append (WaysIn.one (Kq _ List.mem_cons_self))
    · rw [List.length_append, hqs]; rfl
    · intro x hx
      rcases List.mem_append.mp hx with h | h
      · exact hgood x h
      · rw [List.mem_singleton.mp h]; exact ⟨hqc, hql, hq0⟩
    · intro e he
      rcases List.mem_cons.mp he with rfl | he
      · exact haH
      · exact hG e he
    · funext y
      by_cases h1 : y = Str.ofString "k"
      · subst h1; rfl
      · simp only [if_neg h1]
  · rintro m' W' s4 ⟨oL4, hs, nh, u, G, qs, nsL4, rfl, hws, hqs, hgood, hG, rfl⟩ F4 N4 K4
    refine ⟨_, (H, W.listOf (List.toArray hs) nh) :: (G ++ X), oL4, hmm ▸ nsL4, F4, N4, ?_, fun s5 K5 F5 N5 => ?_⟩
    · intro e he
      rcases List.mem_cons.mp he with rfl | h
      · exact Nat.ne_of_gt hL1
      · rcases List.mem_append.mp h with h | h
        · exact Nat.ne_of_gt (Nat.lt_trans hL1 (hG e h))
        · exact hXL e h
    (repeat' (first | walk_at "u" | ((fail_if_success with_reducible first | show G14 | show G31 | show G9 | show G19 | show G37 | show G18 | show G38 | show G2 | show G43 | show G47 | show G48); walk1)))
    have hsH : @LT.lt Nat _ sl H := hXH _ hsX
    have hGl : ∀ e ∈ G, @LT.lt Nat _ sl e.1 := fun e he => Nat.lt_trans hsH (hG e he)
    refine cell_store (c := L + 2) (o := oP) (W := (H, W.listOf (List.toArray hs) nh) :: (L + 3, oW) :: (L + 4, oY) :: (L + 5, oA) :: (L + 1, oS) :: (sl, slo) :: G) (by assumption) (news_drop (by assumption) fun e he => ?_) rfl ?_ hoP (fun o6 s6 K6 ho6 F6 N6 => ?_) rfl rfl
    · rw [hX]
      refine sub_go he ?_
      walk_at "sub"
    · intro e he
      refine all_cons he ?_ fun he => all_cons he ?_ fun he => all_cons he ?_ fun he => all_cons he ?_ fun he => all_cons he ?_ fun he => all_cons he ?_ fun he => ?_
      · show H ≠ L + 2; lia
      · show L + 3 ≠ L + 2; lia
      · show L + 4 ≠ L + 2; lia
      · show L + 5 ≠ L + 2; lia
      · show L + 1 ≠ L + 2; lia
      · show sl ≠ L + 2; omega
      · exact Nat.ne_of_gt (Nat.lt_trans (show @LT.lt Nat _ (L + 2) sl by omega) (hGl e he))
    (repeat' (first | walk_at "u" | ((fail_if_success with_reducible first | show G14 | show G31 | show G9 | show G19 | show G37 | show G18 | show G38 | show G2 | show G43 | show G47 | show G48); walk1)))
    rename_i T0 g0 l0 Ta g1 l1 Tb g2 l2 Wl g3 F8 N8 l3
    obtain ⟨V', hV'⟩ : ∃ V' : Led, V' = (Tb, ({ cls := Value.type "tuple", data := Data.seq #[Value.str (Str.ofString "a") (s6.toks + 1), Value.str (Str.ofString "a.a") (s6.toks + 1 + 1)] } : Obj)) :: (Ta, ({ cls := Value.type "tuple", data := Data.seq #[Value.str (Str.ofString "a") s6.toks] } : Obj)) :: (T0, ({ cls := Value.type "tuple", data := Data.seq #[] } : Obj)) ::
      (L + 2, o6) :: (H, W.listOf (List.toArray hs) nh) :: (L + 1, oS) :: (sl, slo) :: G := ⟨_, rfl⟩
    have hK0 : WayIn w V' T0 [] := by rw [hV']; exact ⟨_, [], 0, mct _ (mct _ List.mem_cons_self), rfl, rfl, .nil⟩
    have hKa : WayIn w V' Ta [sa] := by rw [hV']; exact ⟨_, [.str (Str.ofString "a") s6.toks], 0, mct _ List.mem_cons_self, rfl, rfl, .cons (strKind_is PP w _ _) .nil⟩
    have hKb : WayIn w V' Tb [sa, saa] := by rw [hV']; exact ⟨_, [.str (Str.ofString "a") (s6.toks + 1), .str (Str.ofString "a.a") (s6.toks + 1 + 1)], 0, List.mem_cons_self, rfl, rfl, .cons (strKind_is PP w _ _) (.cons (strKind_is PP w _ _) .nil)⟩
    have hGV : ∀ e ∈ G, e ∈ V' := fun e he => by rw [hV']; walk_at "mem"
    have hnum : ∀ z : Nat, z = L + 3 ∨ z = L + 4 ∨ z = L + 5 ∨ z = Wl → ∀ e ∈ V', @Ne Nat e.1 z := fun z hz e he => by
      have hsW : @LT.lt Nat _ sl Wl := l3.2.2.2.2.2.2.2.2.2.1
      have hs0 : @LT.lt Nat _ sl T0 := l0.2.2.2.2.2.2.1
      have hsa : @LT.lt Nat _ sl Ta := l1.2.2.2.2.2.2.2.1
      have hsb : @LT.lt Nat _ sl Tb := l2.2.2.2.2.2.2.2.2.1
      have hbW : @LT.lt Nat _ Tb Wl := l3.1
      have haW : @LT.lt Nat _ Ta Wl := l3.2.1
      have h0W : @LT.lt Nat _ T0 Wl := l3.2.2.1
      have hHW : @LT.lt Nat _ H Wl := l3.2.2.2.2.1
      rw [hV'] at he
      refine all_cons he ?_ fun he => all_cons he ?_ fun he => all_cons he ?_ fun he => all_cons he ?_ fun he => all_cons he ?_ fun he => all_cons he ?_ fun he => all_cons he ?_ fun he => ?_
      · show @Ne Nat Tb z; omega
      · show @Ne Nat Ta z; omega
      · show @Ne Nat T0 z; omega
      · show L + 2 ≠ z; omega
      · show H ≠ z; lia
      · show L + 1 ≠ z; omega
      · show sl ≠ z; omega
      · have h1 : @LT.lt Nat _ sl e.1 := hGl e he
        have h2 : @LT.lt Nat _ e.1 Wl := allLt_mem l3.2.2.2.2.2.2.2.2.2.2 e he
        have h3 : ∀ x : Nat, @LT.lt Nat _ sl x → @LT.lt Nat _ x Wl → x ≠ z := fun x _ _ => by lia
        exact h3 e.1 h1 h2
    have hW3 : @LT.lt Nat _ (L + 3) Wl := l3.2.2.2.2.2.1
    refine cell_store (c := L + 3) (o := oW) (W := (L + 4, oY) :: (L + 5, oA) :: (Wl, W.listOf [Value.ref T0, Value.ref Ta, Value.ref Tb].toArray 0) :: V') F8 (news_drop N8 fun e he => ?_) rfl (fun e he => ?_) hoW (fun o9 s9 K9 ho9 F9 N9 => ?_) rfl rfl
    · rw [hV'] at he
      refine sub_go he ?_
      walk_at "sub"
    · refine all_cons he ?_ fun he => all_cons he ?_ fun he => all_cons he ?_ fun he => ?_
      · show L + 4 ≠ L + 3; lia
      · show L + 5 ≠ L + 3; lia
      · exact Nat.ne_of_gt hW3
      · exact hnum _ (.inl rfl) e he
    (repeat' (first | walk_at "u" | ((fail_if_success with_reducible first | show G14 | show G31 | show G9 | show G19 | show G37 | show G18 | show G38 | show G2 | show G43 | show G47 | show G48); walk1)))
    have hret : ∀ s' m', Kin s9 s' → Fr h₀ L s'.heap m' → Q (.ret (.bool true)) s' := fun s' m' k f => ret s' m' (Kin.trans K1 (Kin.trans K3 (Kin.trans K4 (Kin.trans K5 (Kin.trans K6 (Kin.trans K9 k)))))) f
    have hVs : ∀ e ∈ V', e ∈ (L + 3, o9) :: V' := fun e he => mct _ he
    have h45W : @LT.lt Nat _ (L + 4) Wl ∧ @LT.lt Nat _ (L + 5) Wl := ⟨l3.2.2.2.2.2.2.1, l3.2.2.2.2.2.2.2.1⟩
    have gY : GoodY [[], [sa], [sa, saa]] := by
      refine ⟨fun y hy q hq => ?_, by simp, fun y hy => ?_⟩
      · simp only [List.mem_cons, List.not_mem_nil, or_false] at hy ⊢
        rcases hy with rfl | rfl | rfl
        · exact .inl (List.prefix_nil.mp hq)
        · rcases List.prefix_cons_iff.mp hq with rfl | ⟨t, rfl, ht⟩
          · exact .inl rfl
          · rw [List.prefix_nil.mp ht]; exact .inr (.inl rfl)
        · rcases List.prefix_cons_iff.mp hq with rfl | ⟨t, rfl, ht⟩
          · exact .inl rfl
          · rcases List.prefix_cons_iff.mp ht with rfl | ⟨u, rfl, hu⟩
            · exact .inr (.inl rfl)
            · rw [List.prefix_nil.mp hu]; exact .inr (.inr rfl)
      · refine all_cons hy ?_ fun hy => all_cons hy ?_ fun hy => all_one hy ?_
        · exact ⟨by simp, by simp⟩
        · exact ⟨by decide, by simp⟩
        · exact ⟨by decide, by simp⟩
    refine tail4 (L := L) (th := th) (oY := oY) (oA := oA) (oW := o9) (oP := o6) (oS := oS) (wl := Wl) (its := [.ref T0, .ref Ta, .ref Tb]) (nw := 0) (pl := H) (plo := W.listOf (List.toArray hs) nh) (pits := hs) (npl := nh) (pls := qs) (ns := ns) (Y := [[], [sa], [sa, saa]]) B KX TP hdp hun (V := (L + 3, o9) :: V') F9 (news_drop N9 fun e he => ?_) hoY hoA (fun e he => ?_) (Nat.ne_of_lt h45W.1) (Nat.ne_of_lt h45W.2) List.mem_cons_self ho9
      (((WaysIn.one hK0).append ((WaysIn.one hKa).append (WaysIn.one hKb))).mono hVs) (hVs _ (by rw [hV']; walk_at "mem")) hoS (hVs _ (by rw [hV']; walk_at "mem")) hsc hsd hvs (hVs _ (by rw [hV']; walk_at "mem")) ho6 (hVs _ (by rw [hV']; walk_at "mem")) rfl rfl (hws.mono fun e he => hVs e (hGV e he)) e_half (by lia) hn63 hf0 gY (Nat.le_refl _) hgood hret
    · refine sub_go he ?_
      walk_at "sub"
    · refine all_cons he ?_ fun he => ?_
      · exact ⟨by show L + 3 ≠ L + 4; lia, by show L + 3 ≠ L + 5; lia, Nat.ne_of_lt hW3⟩
      · exact ⟨hnum _ (.inr (.inl rfl)) e he, hnum _ (.inr (.inr (.inl rfl))) e he, hnum _ (.inr (.inr (.inr rfl))) e he⟩
theorem all (x : Dat) : Stm x.1 x.2.1 x.2.2.1 x.2.2.2.1 x.2.2.2.2.1 x.2.2.2.2.2.1 x.2.2.2.2.2.2.1 x.2.2.2.2.2.2.2.1 x.2.2.2.2.2.2.2.2.1 x.2.2.2.2.2.2.2.2.2.1 x.2.2.2.2.2.2.2.2.2.2.1 x.2.2.2.2.2.2.2.2.2.2.2.1 x.2.2.2.2.2.2.2.2.2.2.2.2.1 x.2.2.2.2.2.2.2.2.2.2.2.2.2.1 x.2.2.2.2.2.2.2.2.2.2.2.2.2.2.1 x.2.2.2.2.2.2.2.2.2.2.2.2.2.2.2.1 x.2.2.2.2.2.2.2.2.2.2.2.2.2.2.2.2.1 x.2.2.2.2.2.2.2.2.2.2.2.2.2.2.2.2.2.1 x.2.2.2.2.2.2.2.2.2.2.2.2.2.2.2.2.2.2.1 x.2.2.2.2.2.2.2.2.2.2.2.2.2.2.2.2.2.2.2.1 x.2.2.2.2.2.2.2.2.2.2.2.2.2.2.2.2.2.2.2.2.1 x.2.2.2.2.2.2.2.2.2.2.2.2.2.2.2.2.2.2.2.2.2.1 x.2.2.2.2.2.2.2.2.2.2.2.2.2.2.2.2.2.2.2.2.2.2.1 x.2.2.2.2.2.2.2.2.2.2.2.2.2.2.2.2.2.2.2.2.2.2.2.1 x.2.2.2.2.2.2.2.2.2.2.2.2.2.2.2.2.2.2.2.2.2.2.2.2.1 x.2.2.2.2.2.2.2.2.2.2.2.2.2.2.2.2.2.2.2.2.2.2.2.2.2.1 x.2.2.2.2.2.2.2.2.2.2.2.2.2.2.2.2.2.2.2.2.2.2.2.2.2.2.1 x.2.2.2.2.2.2.2.2.2.2.2.2.2.2.2.2.2.2.2.2.2.2.2.2.2.2.2.1 x.2.2.2.2.2.2.2.2.2.2.2.2.2.2.2.2.2.2.2.2.2.2.2.2.2.2.2.2.1 x.2.2.2.2.2.2.2.2.2.2.2.2.2.2.2.2.2.2.2.2.2.2.2.2.2.2.2.2.2.1 x.2.2.2.2.2.2.2.2.2.2.2.2.2.2.2.2.2.2.2.2.2.2.2.2.2.2.2.2.2.2.1 x.2.2.2.2.2.2.2.2.2.2.2.2.2.2.2.2.2.2.2.2.2.2.2.2.2.2.2.2.2.2.2.1 x.2.2.2.2.2.2.2.2.2.2.2.2.2.2.2.2.2.2.2.2.2.2.2.2.2.2.2.2.2.2.2.2.1 x.2.2.2.2.2.2.2.2.2.2.2.2.2.2.2.2.2.2.2.2.2.2.2.2.2.2.2.2.2.2.2.2.2.1 x.2.2.2.2.2.2.2.2.2.2.2.2.2.2.2.2.2.2.2.2.2.2.2.2.2.2.2.2.2.2.2.2.2.2 := eps_all ne (fun x => Stm x.1 x.2.1 x.2.2.1 x.2.2.2.1 x.2.2.2.2.1 x.2.2.2.2.2.1 x.2.2.2.2.2.2.1 x.2.2.2.2.2.2.2.1 x.2.2.2.2.2.2.2.2.1 x.2.2.2.2.2.2.2.2.2.1 x.2.2.2.2.2.2.2.2.2.2.1 x.2.2.2.2.2.2.2.2.2.2.2.1 x.2.2.2.2.2.2.2.2.2.2.2.2.1 x.2.2.2.2.2.2.2.2.2.2.2.2.2.1 x.2.2.2.2.2.2.2.2.2.2.2.2.2.2.1 x.2.2.2.2.2.2.2.2.2.2.2.2.2.2.2.1 x.2.2.2.2.2.2.2.2.2.2.2.2.2.2.2.2.1 x.2.2.2.2.2.2.2.2.2.2.2.2.2.2.2.2.2.1 x.2.2.2.2.2.2.2.2.2.2.2.2.2.2.2.2.2.2.1 x.2.2.2.2.2.2.2.2.2.2.2.2.2.2.2.2.2.2.2.1 x.2.2.2.2.2.2.2.2.2.2.2.2.2.2.2.2.2.2.2.2.1 x.2.2.2.2.2.2.2.2.2.2.2.2.2.2.2.2.2.2.2.2.2.1 x.2.2.2.2.2.2.2.2.2.2.2.2.2.2.2.2.2.2.2.2.2.2.1 x.2.2.2.2.2.2.2.2.2.2.2.2.2.2.2.2.2.2.2.2.2.2.2.1 x.2.2.2.2.2.2.2.2.2.2.2.2.2.2.2.2.2.2.2.2.2.2.2.2.1 x.2.2.2.2.2.2.2.2.2.2.2.2.2.2.2.2.2.2.2.2.2.2.2.2.2.1 x.2.2.2.2.2.2.2.2.2.2.2.2.2.2.2.2.2.2.2.2.2.2.2.2.2.2.1 x.2.2.2.2.2.2.2.2.2.2.2.2.2.2.2.2.2.2.2.2.2.2.2.2.2.2.2.1 x.2.2.2.2.2.2.2.2.2.2.2.2.2.2.2.2.2.2.2.2.2.2.2.2.2.2.2.2.1 x.2.2.2.2.2.2.2.2.2.2.2.2.2.2.2.2.2.2.2.2.2.2.2.2.2.2.2.2.2.1 x.2.2.2.2.2.2.2.2.2.2.2.2.2.2.2.2.2.2.2.2.2.2.2.2.2.2.2.2.2.2.1 x.2.2.2.2.2.2.2.2.2.2.2.2.2.2.2.2.2.2.2.2.2.2.2.2.2.2.2.2.2.2.2.1 x.2.2.2.2.2.2.2.2.2.2.2.2.2.2.2.2.2.2.2.2.2.2.2.2.2.2.2.2.2.2.2.2.1 x.2.2.2.2.2.2.2.2.2.2.2.2.2.2.2.2.2.2.2.2.2.2.2.2.2.2.2.2.2.2.2.2.2.1 x.2.2.2.2.2.2.2.2.2.2.2.2.2.2.2.2.2.2.2.2.2.2.2.2.2.2.2.2.2.2.2.2.2.2) (by with_unfolding_all exact go) x
end E_tail2
theorem tail2 {w : World} {dp : Nat} {un : Nat} {gd : Option (List Code)} {L : Nat} {fa : Addr} {ccd : Value} {A₀ : Around} {base : Heap} {h₀ : Heap} {p : PySem.Program} {loose : List Str} {mean : ExcName → Option Value} {mg : Str → Option Value} {mb : Str → Option Value} {m : Str → Option Value} {s : Shared} {Q : Flow → Shared → Prop} {E : Value → Shared → Prop} {sl : Nat} {oW : Obj} {oY : Obj} {oA : Obj} {oS : Obj} {oP : Obj} {slo : Obj} {c0 : Option Value} {cA : Option Value} {cP : Option Value} {cW : Option Value} {vs : List Value} {nsl : Nat} {ns : List Int} {hf : Int} {th : Tok}  (B : Below A₀ base [] h₀) (KX : (hd.heap_39 w.params).In h₀) (TP : Top p loose mean mg mb h₀) (hdp : dp + 40 < recursionLimit) (hun : un + 400 < cLine) (FR : Fr h₀ L s.heap m) (N : News h₀ L s.heap [(L + 2, oP), (L + 3, oW), (L + 4, oY), (L + 5, oA), (L + 1, oS), (sl, slo)]) (hoY : oY.data = .cell c0) (hoA : oA.data = .cell cA) (hoP : oP.data = .cell cP) (hoW : oW.data = .cell cW) (hLs : L + 5 < sl) (hoS : oS.data = .cell (some (.ref sl))) (hsc : slo.cls = .type "list") (hsd : slo.data = .seq vs.toArray nsl) (hvs : IntsAre vs ns) (e_half : m (Str.ofString "half") = some (.int hf th)) (hn63 : ns.length ≤ 63) (hf0 : 0 ≤ hf) (ret : ∀ s' m', Kin s s' → Fr h₀ L s'.heap m' → Q (.ret (.bool true)) s') : wpAny (model PP w) (ktrTop dp un gd (Str.ofString "law") lawScope L fa ccd (lawCells L) []) (execs (lawBody.drop 2) (envX (Str.ofString "law") lawScope L fa ccd (lawCells L))) Q E s :=
  E_tail2.all (w, dp, un, gd, L, fa, ccd, A₀, base, h₀, p, loose, mean, mg, mb, m, s, Q, E, sl, oW, oY, oA, oS, oP, slo, c0, cA, cP, cW, vs, nsl, ns, hf, th) B KX TP hdp hun FR N hoY hoA hoP hoW hLs hoS hsc hsd hvs e_half hn63 hf0 ret
end

section
open PySem PySem.W PyProof.Rows
theorem law_holds : PySem.Challenge.rw_aa0048_01.Holds := by
  refine hd (by rfl) (by rfl) (by rfl) ?_
  k_fill
  intro w s₀ s₁ mg mb G Y fa o pm cd doc dV kV ho hg' hcd hD hmg hg args vals as hpre hlay hrd hwl hlo
  have KX := kIn_of Y
  have V := (Ground.X G).2
  have GL := glob_more (Ground.glob G (by decide +kernel) (by decide +kernel)) V
  refine Ground.open G ?_
  intro T _ D TE TW
  refine guard_noD D (by decide +kernel) ?_
  clear D
  obtain ⟨_, _, M⟩ := bmod_of_top T
  obtain ⟨_, _, he, _⟩ := based_of_top T rfl hmg ho hg'
  obtain rfl : cd = _ := he
  clear hmg
  wrow_args hpre hlay hrd hwl hlo
  refine enter_call ?_
  w_top on
  refine codeAny_mono ?_ (fun _ _ g => GoodW.toG g)
  have K0 := below_caller (Top.heap T)
  w_call any ho hg' hcd hD T F
  k_drop
  (repeat' (first | walk_at "u" | ((fail_if_success with_reducible first | show G34); walk1)))
  rename_i w1 w2 ccd w4 ns hs hlay0 hL hr hl2 w6 w7 sl0 vs0 w9 hLs ra w1' r0 hI hr' hcond hcond' h1 tk1 o5 o4 o3 o2 o1 d5 d4 d3 d2 d1 X0 sl vs h2 hI2 hC2 hL2 l1 h3 oS dS h4 F N
  have hL5 : @LT.lt Nat _ (s₁.heap.objs.size + 5) sl := l1.1
  have hlen : (List.take 63 ns).length ≤ 63 := by rw [List.length_take]; omega
  have hhalf : (0 : Int) ≤ ((List.take 63 ns).length : Int).fdiv 2 := Int.fdiv_nonneg (by lia) (by omega)
  refine tail2 (w := w) (dp := 1 + claimMargin + 1) (un := 7) (gd := some []) (L := s₁.heap.objs.size) (fa := fa) (ccd := .ref ccd) (sl := sl) (slo := W.listOf vs.toArray 0) (vs := vs) (nsl := 0) (ns := List.take 63 ns) (oP := o2) (oW := o3) (oY := o4) (oA := o5) (oS := oS) K0 KX T ?_ ?_ F (news_drop N fun e he => ?_) d4 d5 d2 d3 hL5 dS rfl rfl hI2 (if_pos rfl) hlen hhalf ?_
  · decide
  · decide
  · refine sub_go he ?_
    walk_at "sub"
  · intro s' m' k f
    (show GoodW _ _ _ _ _ (.ok (.ret (.bool true))) _)
    refine goodW_bool f (k.2.trans hg) (raisesW_false ?_) ?_ k.1
    · wrow_none_raised
    · wrow_post
end

end Mine

theorem PySem.Challenge.cw_aa0048_01_holds : PySem.Challenge.rw_aa0048_01.Holds :=
  Mine.law_holds
