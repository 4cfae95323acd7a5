import PyProof.Rows.All
import Wide.All
import OpenK.AllK
import Wide.FinOn
import PySem.Challenge.RW_ta0036_02
set_option Elab.async false
section
open PySem PySem.W PyProof.Rows
namespace Mine
set_option maxRecDepth 100000
section
open PySem.Calls
/-- the object of the k-th row's def -/
noncomputable def fnO (k c : Nat) (df kw m : Value) : Obj := match (PySem.Challenge.pw_ta0036_02).main.body[k]? with
  | some (.FunctionDef n a b _ _ _ s _ _ _) => ⟨.type "function", none, .func { name := n, qualname := n, params := a, body := .stmts b, scope := s, globals := 3, closure := [], defaults := df, kwdefaults := kw, pyModule := m, code := .ref c }, #[]⟩
  | _ => default
noncomputable def hd.heap_39 (P : Params) : Frag := (nat_lit 3, { cls := Value.type "dict", data := Data.dict #[{ hash := PyData.keyHash P (Str.ofString "__name__"), key := Value.str (Str.ofString "__name__") 165, val := Value.str (Str.ofString "law_ta0036_02") 337 }, { hash := PyData.keyHash P (Str.ofString "__doc__"), key := Value.str (Str.ofString "__doc__") 166, val := Value.none }, { hash := PyData.keyHash P (Str.ofString "__package__"), key := Value.str (Str.ofString "__package__") 167, val := Value.none }, { hash := PyData.keyHash P (Str.ofString "__loader__"), key := Value.str (Str.ofString "__loader__") 168, val := Value.builtin "__main__.__loader__#opaque" }, { hash := PyData.keyHash P (Str.ofString "__spec__"), key := Value.str (Str.ofString "__spec__") 169, val := Value.none }, { hash := PyData.keyHash P (Str.ofString "__annotations__"), key := Value.str (Str.ofString "__annotations__") 170, val := Value.ref 6 }, { hash := PyData.keyHash P (Str.ofString "__builtins__"), key := Value.str (Str.ofString "__builtins__") 171, val := Value.ref 4 }, { hash := PyData.keyHash P (Str.ofString "__file__"), key := Value.str (Str.ofString "__file__") 173, val := Value.str (Str.ofString "/claim/cut.py") 172 }, { hash := PyData.keyHash P (Str.ofString "__cached__"), key := Value.str (Str.ofString "__cached__") 174, val := Value.none }, { hash := PyData.keyHash P (Str.ofString "insort_right"), key := Value.str (Str.ofString "insort_right") 201, val := Value.ref 23 }, { hash := PyData.keyHash P (Str.ofString "bisect_right"), key := Value.str (Str.ofString "bisect_right") 215, val := Value.ref 32 }, { hash := PyData.keyHash P (Str.ofString "insort_left"), key := Value.str (Str.ofString "insort_left") 228, val := Value.ref 41 }, { hash := PyData.keyHash P (Str.ofString "bisect_left"), key := Value.str (Str.ofString "bisect_left") 242, val := Value.ref 50 }, { hash := PyData.keyHash P (Str.ofString "_DIV_LIMIT"), key := Value.str (Str.ofString "_DIV_LIMIT") 246, val := Value.int 4000 245 }, { hash := PyData.keyHash P (Str.ofString "_div2n1n"), key := Value.str (Str.ofString "_div2n1n") 263, val := Value.ref 57 }, { hash := PyData.keyHash P (Str.ofString "_div3n2n"), key := Value.str (Str.ofString "_div3n2n") 277, val := Value.ref 64 }, { hash := PyData.keyHash P (Str.ofString "_int2digits"), key := Value.str (Str.ofString "_int2digits") 288, val := Value.ref 71 }, { hash := PyData.keyHash P (Str.ofString "_digits2int"), key := Value.str (Str.ofString "_digits2int") 299, val := Value.ref 78 }, { hash := PyData.keyHash P (Str.ofString "_divmod_pos"), key := Value.str (Str.ofString "_divmod_pos") 314, val := Value.ref 85 }, { hash := PyData.keyHash P (Str.ofString "int_divmod"), key := Value.str (Str.ofString "int_divmod") 324, val := Value.ref 92 }, { hash := PyData.keyHash P (Str.ofString "Int2AP"), key := Value.str (Str.ofString "Int2AP") 336, val := Value.ref 99 }, { hash := PyData.keyHash P (Str.ofString "_law_cells"), key := Value.str (Str.ofString "_law_cells") 344, val := Value.ref 104 }, { hash := PyData.keyHash P (Str.ofString "_law_steps"), key := Value.str (Str.ofString "_law_steps") 360, val := Value.ref 111 }, { hash := PyData.keyHash P (Str.ofString "_law_word"), key := Value.str (Str.ofString "_law_word") 371, val := Value.ref 118 }, { hash := PyData.keyHash P (Str.ofString "_law_value"), key := Value.str (Str.ofString "_law_value") 377, val := Value.ref 123 }, { hash := PyData.keyHash P (Str.ofString "_law_refusals"), key := Value.str (Str.ofString "_law_refusals") 388, val := Value.ref 130 }, { hash := PyData.keyHash P (Str.ofString "_law_within"), key := Value.str (Str.ofString "_law_within") 398, val := Value.ref 137 }, { hash := PyData.keyHash P (Str.ofString "law"), key := Value.str (Str.ofString "law") 404, val := Value.ref 142 }] 28 }) ::
  (nat_lit 15, { cls := Value.type "tuple", data := Data.seq #[Value.int 0 189, Value.none] }) ::
  (nat_lit 16, { cls := Value.type "dict", data := Data.dict #[{ hash := PyData.keyHash P (Str.ofString "key"), key := Value.str (Str.ofString "key") 190, val := Value.none }] 1 }) ::
  (nat_lit 22, { cls := Value.type "code", data := Data.fields #[Value.str (Str.ofString "insort_right") 191, Value.str (Str.ofString "insort_right") 192, Value.str (Str.ofString "/claim/cut.py") 193, Value.int 2 0, Value.int 4 0, Value.int 0 0, Value.int 1 0, Value.int 3 0, Value.ref 17, Value.bool true, Value.int 181 0, Value.ref 18, Value.none, Value.ref 19, Value.ref 20, Value.ref 21, Value.int 199 0, Value.int 2 0, Value.str (Str.ofString "/claim/cut.py") 200] }) ::
  (nat_lit 23, fnO 1 22 (Value.ref 15) (Value.ref 16) (Value.str (Str.ofString "cpy313.bisect") 187)) ::
  (nat_lit 24, { cls := Value.type "tuple", data := Data.seq #[Value.int 0 202, Value.none] }) ::
  (nat_lit 25, { cls := Value.type "dict", data := Data.dict #[{ hash := PyData.keyHash P (Str.ofString "key"), key := Value.str (Str.ofString "key") 203, val := Value.none }] 1 }) ::
  (nat_lit 31, { cls := Value.type "code", data := Data.fields #[Value.str (Str.ofString "bisect_right") 204, Value.str (Str.ofString "bisect_right") 205, Value.str (Str.ofString "/claim/cut.py") 206, Value.int 8 0, Value.int 4 0, Value.int 0 0, Value.int 1 0, Value.int 3 0, Value.ref 26, Value.bool true, Value.int 181 0, Value.ref 27, Value.none, Value.ref 28, Value.ref 29, Value.ref 30, Value.int 213 0, Value.int 8 0, Value.str (Str.ofString "/claim/cut.py") 214] }) ::
  (nat_lit 32, fnO 2 31 (Value.ref 24) (Value.ref 25) (Value.str (Str.ofString "cpy313.bisect") 187)) ::
  (nat_lit 33, { cls := Value.type "tuple", data := Data.seq #[Value.int 0 216, Value.none] }) ::
  (nat_lit 34, { cls := Value.type "dict", data := Data.dict #[{ hash := PyData.keyHash P (Str.ofString "key"), key := Value.str (Str.ofString "key") 217, val := Value.none }] 1 }) ::
  (nat_lit 40, { cls := Value.type "code", data := Data.fields #[Value.str (Str.ofString "insort_left") 218, Value.str (Str.ofString "insort_left") 219, Value.str (Str.ofString "/claim/cut.py") 220, Value.int 28 0, Value.int 4 0, Value.int 0 0, Value.int 1 0, Value.int 3 0, Value.ref 35, Value.bool true, Value.int 181 0, Value.ref 36, Value.none, Value.ref 37, Value.ref 38, Value.ref 39, Value.int 226 0, Value.int 28 0, Value.str (Str.ofString "/claim/cut.py") 227] }) ::
  (nat_lit 41, fnO 3 40 (Value.ref 33) (Value.ref 34) (Value.str (Str.ofString "cpy313.bisect") 187)) ::
  (nat_lit 42, { cls := Value.type "tuple", data := Data.seq #[Value.int 0 229, Value.none] }) ::
  (nat_lit 43, { cls := Value.type "dict", data := Data.dict #[{ hash := PyData.keyHash P (Str.ofString "key"), key := Value.str (Str.ofString "key") 230, val := Value.none }] 1 }) ::
  (nat_lit 49, { cls := Value.type "code", data := Data.fields #[Value.str (Str.ofString "bisect_left") 231, Value.str (Str.ofString "bisect_left") 232, Value.str (Str.ofString "/claim/cut.py") 233, Value.int 34 0, Value.int 4 0, Value.int 0 0, Value.int 1 0, Value.int 3 0, Value.ref 44, Value.bool true, Value.int 181 0, Value.ref 45, Value.none, Value.ref 46, Value.ref 47, Value.ref 48, Value.int 240 0, Value.int 34 0, Value.str (Str.ofString "/claim/cut.py") 241] }) ::
  (nat_lit 50, fnO 4 49 (Value.ref 42) (Value.ref 43) (Value.str (Str.ofString "cpy313.bisect") 187)) ::
  (nat_lit 56, { cls := Value.type "code", data := Data.fields #[Value.str (Str.ofString "_div2n1n") 247, Value.str (Str.ofString "_div2n1n") 248, Value.str (Str.ofString "/claim/cut.py") 249, Value.int 56 0, Value.int 3 0, Value.int 0 0, Value.int 0 0, Value.int 3 0, Value.ref 51, Value.bool true, Value.int 181 0, Value.ref 52, Value.none, Value.ref 53, Value.ref 54, Value.ref 55, Value.int 261 0, Value.int 56 0, Value.str (Str.ofString "/claim/cut.py") 262] }) ::
  (nat_lit 57, fnO 7 56 (Value.none) (Value.none) (Value.str (Str.ofString "cpy313._pylong") 243)) ::
  (nat_lit 63, { cls := Value.type "code", data := Data.fields #[Value.str (Str.ofString "_div3n2n") 264, Value.str (Str.ofString "_div3n2n") 265, Value.str (Str.ofString "/claim/cut.py") 266, Value.int 72 0, Value.int 6 0, Value.int 0 0, Value.int 0 0, Value.int 3 0, Value.ref 58, Value.bool true, Value.int 181 0, Value.ref 59, Value.none, Value.ref 60, Value.ref 61, Value.ref 62, Value.int 275 0, Value.int 72 0, Value.str (Str.ofString "/claim/cut.py") 276] }) ::
  (nat_lit 64, fnO 8 63 (Value.none) (Value.none) (Value.str (Str.ofString "cpy313._pylong") 243)) ::
  (nat_lit 70, { cls := Value.type "code", data := Data.fields #[Value.str (Str.ofString "_int2digits") 278, Value.str (Str.ofString "_int2digits") 279, Value.str (Str.ofString "/claim/cut.py") 280, Value.int 82 0, Value.int 2 0, Value.int 0 0, Value.int 0 0, Value.int 3 0, Value.ref 65, Value.bool true, Value.int 181 0, Value.ref 66, Value.none, Value.ref 67, Value.ref 68, Value.ref 69, Value.int 286 0, Value.int 82 0, Value.str (Str.ofString "/claim/cut.py") 287] }) ::
  (nat_lit 71, fnO 9 70 (Value.none) (Value.none) (Value.str (Str.ofString "cpy313._pylong") 243)) ::
  (nat_lit 77, { cls := Value.type "code", data := Data.fields #[Value.str (Str.ofString "_digits2int") 289, Value.str (Str.ofString "_digits2int") 290, Value.str (Str.ofString "/claim/cut.py") 291, Value.int 98 0, Value.int 2 0, Value.int 0 0, Value.int 0 0, Value.int 3 0, Value.ref 72, Value.bool true, Value.int 181 0, Value.ref 73, Value.none, Value.ref 74, Value.ref 75, Value.ref 76, Value.int 297 0, Value.int 98 0, Value.str (Str.ofString "/claim/cut.py") 298] }) ::
  (nat_lit 78, fnO 10 77 (Value.none) (Value.none) (Value.str (Str.ofString "cpy313._pylong") 243)) ::
  (nat_lit 84, { cls := Value.type "code", data := Data.fields #[Value.str (Str.ofString "_divmod_pos") 300, Value.str (Str.ofString "_divmod_pos") 301, Value.str (Str.ofString "/claim/cut.py") 302, Value.int 107 0, Value.int 2 0, Value.int 0 0, Value.int 0 0, Value.int 3 0, Value.ref 79, Value.bool true, Value.int 181 0, Value.ref 80, Value.none, Value.ref 81, Value.ref 82, Value.ref 83, Value.int 312 0, Value.int 107 0, Value.str (Str.ofString "/claim/cut.py") 313] }) ::
  (nat_lit 85, fnO 11 84 (Value.none) (Value.none) (Value.str (Str.ofString "cpy313._pylong") 243)) ::
  (nat_lit 91, { cls := Value.type "code", data := Data.fields #[Value.str (Str.ofString "int_divmod") 315, Value.str (Str.ofString "int_divmod") 316, Value.str (Str.ofString "/claim/cut.py") 317, Value.int 118 0, Value.int 2 0, Value.int 0 0, Value.int 0 0, Value.int 3 0, Value.ref 86, Value.bool true, Value.int 181 0, Value.ref 87, Value.none, Value.ref 88, Value.ref 89, Value.ref 90, Value.int 322 0, Value.int 118 0, Value.str (Str.ofString "/claim/cut.py") 323] }) ::
  (nat_lit 92, fnO 12 91 (Value.none) (Value.none) (Value.str (Str.ofString "cpy313._pylong") 243)) ::
  (nat_lit 98, { cls := Value.type "code", data := Data.fields #[Value.str (Str.ofString "Int2AP") 327, Value.str (Str.ofString "Int2AP") 328, Value.str (Str.ofString "/claim/cut.py") 329, Value.int 130 0, Value.int 1 0, Value.int 0 0, Value.int 0 0, Value.int 3 0, Value.ref 93, Value.bool true, Value.int 181 0, Value.ref 94, Value.none, Value.ref 95, Value.ref 96, Value.ref 97, Value.int 334 0, Value.int 130 0, Value.str (Str.ofString "/claim/cut.py") 335] }) ::
  (nat_lit 99, fnO 14 98 (Value.none) (Value.none) (Value.str (Str.ofString "cpy313.imaplib") 325)) ::
  (nat_lit 103, { cls := Value.type "code", data := Data.fields #[Value.str (Str.ofString "_law_cells") 339, Value.str (Str.ofString "_law_cells") 340, Value.str (Str.ofString "/claim/cut.py") 341, Value.int 139 0, Value.int 2 0, Value.int 0 0, Value.int 0 0, Value.int 3 0, Value.ref 100, Value.bool true, Value.int 181 0, Value.ref 101, Value.none, Value.none, Value.none, Value.ref 102, Value.int 342 0, Value.int 139 0, Value.str (Str.ofString "/claim/cut.py") 343] }) ::
  (nat_lit 104, fnO 16 103 (Value.none) (Value.none) (Value.str (Str.ofString "law_ta0036_02") 337)) ::
  (nat_lit 110, { cls := Value.type "code", data := Data.fields #[Value.str (Str.ofString "_law_steps") 345, Value.str (Str.ofString "_law_steps") 346, Value.str (Str.ofString "/claim/cut.py") 347, Value.int 142 0, Value.int 3 0, Value.int 0 0, Value.int 0 0, Value.int 3 0, Value.ref 105, Value.bool true, Value.int 181 0, Value.ref 106, Value.none, Value.ref 107, Value.ref 108, Value.ref 109, Value.int 358 0, Value.int 142 0, Value.str (Str.ofString "/claim/cut.py") 359] }) ::
  (nat_lit 111, fnO 17 110 (Value.none) (Value.none) (Value.str (Str.ofString "law_ta0036_02") 337)) ::
  (nat_lit 117, { cls := Value.type "code", data := Data.fields #[Value.str (Str.ofString "_law_word") 361, Value.str (Str.ofString "_law_word") 362, Value.str (Str.ofString "/claim/cut.py") 363, Value.int 155 0, Value.int 2 0, Value.int 0 0, Value.int 0 0, Value.int 3 0, Value.ref 112, Value.bool true, Value.int 181 0, Value.ref 113, Value.none, Value.ref 114, Value.ref 115, Value.ref 116, Value.int 369 0, Value.int 155 0, Value.str (Str.ofString "/claim/cut.py") 370] }) ::
  (nat_lit 118, fnO 18 117 (Value.none) (Value.none) (Value.str (Str.ofString "law_ta0036_02") 337)) ::
  (nat_lit 122, { cls := Value.type "code", data := Data.fields #[Value.str (Str.ofString "_law_value") 372, Value.str (Str.ofString "_law_value") 373, Value.str (Str.ofString "/claim/cut.py") 374, Value.int 162 0, Value.int 2 0, Value.int 0 0, Value.int 0 0, Value.int 3 0, Value.ref 119, Value.bool true, Value.int 181 0, Value.ref 120, Value.none, Value.none, Value.none, Value.ref 121, Value.int 375 0, Value.int 162 0, Value.str (Str.ofString "/claim/cut.py") 376] }) ::
  (nat_lit 123, fnO 19 122 (Value.none) (Value.none) (Value.str (Str.ofString "law_ta0036_02") 337)) ::
  (nat_lit 129, { cls := Value.type "code", data := Data.fields #[Value.str (Str.ofString "_law_refusals") 378, Value.str (Str.ofString "_law_refusals") 379, Value.str (Str.ofString "/claim/cut.py") 380, Value.int 179 0, Value.int 3 0, Value.int 0 0, Value.int 0 0, Value.int 3 0, Value.ref 124, Value.bool true, Value.int 181 0, Value.ref 125, Value.none, Value.ref 126, Value.ref 127, Value.ref 128, Value.int 386 0, Value.int 179 0, Value.str (Str.ofString "/claim/cut.py") 387] }) ::
  (nat_lit 130, fnO 20 129 (Value.none) (Value.none) (Value.str (Str.ofString "law_ta0036_02") 337)) ::
  (nat_lit 136, { cls := Value.type "code", data := Data.fields #[Value.str (Str.ofString "_law_within") 389, Value.str (Str.ofString "_law_within") 390, Value.str (Str.ofString "/claim/cut.py") 391, Value.int 190 0, Value.int 3 0, Value.int 0 0, Value.int 0 0, Value.int 3 0, Value.ref 131, Value.bool true, Value.int 181 0, Value.ref 132, Value.none, Value.ref 133, Value.ref 134, Value.ref 135, Value.int 396 0, Value.int 190 0, Value.str (Str.ofString "/claim/cut.py") 397] }) ::
  (nat_lit 137, fnO 21 136 (Value.none) (Value.none) (Value.str (Str.ofString "law_ta0036_02") 337)) ::
  (nat_lit 141, { cls := Value.type "code", data := Data.fields #[Value.str (Str.ofString "law") 399, Value.str (Str.ofString "law") 400, Value.str (Str.ofString "/claim/cut.py") 401, Value.int 197 0, Value.int 1 0, Value.int 0 0, Value.int 0 0, Value.int 3 0, Value.ref 138, Value.bool true, Value.int 181 0, Value.ref 139, Value.none, Value.none, Value.none, Value.ref 140, Value.int 402 0, Value.int 197 0, Value.str (Str.ofString "/claim/cut.py") 403] }) ::
  (nat_lit 142, fnO 22 141 (Value.none) (Value.none) (Value.str (Str.ofString "law_ta0036_02") 337)) :: []
noncomputable def hd.view_39 : Program := { PySem.Challenge.pw_ta0036_02 with main := { (PySem.Challenge.pw_ta0036_02).main with body := [6, 7, 8, 9, 10, 11, 12, 14, 16, 17, 18, 19, 20, 21, 22].filterMap fun k => (PySem.Challenge.pw_ta0036_02).main.body[k]? } }
noncomputable def hd.loose : List Str := [Str.ofString "insort_right", Str.ofString "bisect_right", Str.ofString "insort_left", Str.ofString "bisect_left"]
theorem hd.at : ∀ P, (3 :: 15 :: 16 :: 22 :: 23 :: 24 :: 25 :: 31 :: 32 :: 33 :: 34 :: 40 :: 41 :: 42 :: 43 :: 49 :: 50 :: 56 :: 57 :: 63 :: 64 :: 70 :: 71 :: 77 :: 78 :: 84 :: 85 :: 91 :: 92 :: 98 :: 99 :: 103 :: 104 :: 110 :: 111 :: 117 :: 118 :: 122 :: 123 :: 129 :: 130 :: 136 :: 137 :: 141 :: 142 :: []) = (hd.heap_39 P).map (·.1) := fun _ => by kernel_rfl
noncomputable abbrev hd.hook : Hook := kmHook hd.heap_39 (3 :: 15 :: 16 :: 22 :: 23 :: 24 :: 25 :: 31 :: 32 :: 33 :: 34 :: 40 :: 41 :: 42 :: 43 :: 49 :: 50 :: 56 :: 57 :: 63 :: 64 :: 70 :: 71 :: 77 :: 78 :: 84 :: 85 :: 91 :: 92 :: 98 :: 99 :: 103 :: 104 :: 110 :: 111 :: 117 :: 118 :: 122 :: 123 :: 129 :: 130 :: 136 :: 137 :: 141 :: 142 :: []) hd.at [73, 66, 139]
noncomputable abbrev hd.ok (s : Shared) : Bool := xlAt hd.view_39 [] s && recOk (RowW.records (PySem.Challenge.rw_ta0036_02).row.toRowW) s
theorem left_of_run {p q : Program} {loose : List Str} {Xt : Shared → Bool} {α : Type} {Yf : Shared → α} {Ya : World → α} {N : Nat} {g0 : Bool} {m₀ : Nat} {ann : Option Value}
    (op : opening p = plainProg p.main.scope.names) (fen : ∀ s, fenceModules? p s = some s) (hN : Nat.ble 600 N = true)
    (size : ∀ w : World, ((boot_heap w.params).isNs mainGlobals && (Array.mk [] : Array GenState).size == 0, (boot_heap w.params).objs.size, (boot_heap w.params).nsMap mainGlobals "__annotations__") = (true, m₀, ann))
    (run : ∀ (w : World) (os : OsState), (topRun treeTable p w m₀ ann N ⟨boot_heap w.params, Array.mk [], boot_drawn, boot_toks, os⟩ (topStub p)).map (fun s =>
        (staticsOk (importedModules p.main.body) (boot_heap w.params) s.heap && namesBound p s.heap && gensDone s && laidKept (boot_heap w.params) s.heap, openSeen q loose (importedModules p.main.body) Xt g0 s, Yf s)) =
      some (true, openGood q loose, Ya w)) : LeftO p q loose Xt Yf Ya N g0 := fun w => by
  obtain ⟨⟨h, gs, d, k, os⟩, e, e'⟩ := Option.map_eq_some_iff.mp (boot_open (p := p) (N := N) op hN fen w)
  obtain ⟨rfl, rfl, rfl, rfl⟩ : h = boot_heap w.params ∧ gs = Array.mk [] ∧ d = boot_drawn ∧ k = boot_toks := by simpa using e'
  obtain ⟨z1, z2, z3⟩ : _ ∧ _ ∧ _ := by simpa only [Prod.mk.injEq] using size w
  obtain ⟨s, r, r'⟩ := Option.map_eq_some_iff.mp (run w os)
  obtain ⟨l1, l2, l3⟩ : _ ∧ _ ∧ _ := by simpa only [Prod.mk.injEq] using r'
  have t : topFrom treeTable p w N ⟨boot_heap w.params, Array.mk [], boot_drawn, boot_toks, os⟩ = some s := by
    unfold topFrom
    dsimp only
    rw [z1, z2, z3, r]
    show (match staticsOk (importedModules p.main.body) (boot_heap w.params) s.heap && namesBound p s.heap && gensDone s && laidKept (boot_heap w.params) s.heap with | true => _ | false => _) = _
    rw [l1]
  unfold openEnds
  rw [e]
  show (topFrom treeTable p w N _).map _ = _
  rw [t]
  exact congrArg some (Prod.ext l2 l3)
theorem hd.ws : OpenLaw.wellSaid PySem.Challenge.rw_ta0036_02 = true := by
  unfold OpenLaw.wellSaid OpenRow.wellSaid OpenRow.partSaid looksOpen
  rw [PySem.W.Fast.te8326940854005059898, PySem.W.Fast.te17119622794617984870, PySem.W.Fast.te8179353310426384613, PySem.W.Fast.te9558739934217749035, PySem.W.Fast.te16286561074155671207, PySem.W.Fast.te10501279942588096481]
  repeat' (with_reducible apply look_both)
  all_goals decide +kernel
theorem hd.size (w : World) : ((boot_heap w.params).isNs mainGlobals && (Array.mk [] : Array GenState).size == 0, (boot_heap w.params).objs.size, (boot_heap w.params).nsMap mainGlobals "__annotations__") = (true, 11, some (Value.ref 6)) := by kernel_rfl
theorem hd.run (w : World) (os : OsState) : (topRun treeTable PySem.Challenge.pw_ta0036_02 w 11 (some (Value.ref 6)) 1600 ⟨boot_heap w.params, Array.mk [], boot_drawn, boot_toks, os⟩ (topStub PySem.Challenge.pw_ta0036_02)).map (fun s =>
        (staticsOk (importedModules (PySem.Challenge.pw_ta0036_02).main.body) (boot_heap w.params) s.heap && namesBound PySem.Challenge.pw_ta0036_02 s.heap && gensDone s && laidKept (boot_heap w.params) s.heap, openSeen hd.view_39 hd.loose (importedModules (PySem.Challenge.pw_ta0036_02).main.body) hd.ok true s, hd.hook.obs s)) =
      some (true, openGood hd.view_39 hd.loose, hd.hook.val w) := by
  rw [PySem.W.Fast.te14082659384304107361, PySem.W.Fast.te14364793385576792824, PySem.W.Fast.te4187177175401517315]
  kernel_rfl
theorem hd.left : LeftO PySem.Challenge.pw_ta0036_02 hd.view_39 hd.loose hd.ok hd.hook.obs hd.hook.val 1600 :=
  left_of_run (by rfl) (fun _ => by rfl) (by rfl) hd.size hd.run
end
theorem hd {d : DefRec} {kwd : List (Str × Expr)} (hdef : defOf hd.view_39 (PySem.Challenge.rw_ta0036_02).row.name = some (d, kwd)) (hp : (PySem.Challenge.rw_ta0036_02).row.prog.theDef (PySem.Challenge.rw_ta0036_02).row.name = some (d.params, d.body, d.scope)) (hk : kwWritten? d.params.kwonlyargs d.params.kw_defaults = some kwd)
    (h : WalkO hd.view_39 hd.loose (XL hd.view_39 []) (kmHook hd.heap_39 (3 :: 15 :: 16 :: 22 :: 23 :: 24 :: 25 :: 31 :: 32 :: 33 :: 34 :: 40 :: 41 :: 42 :: 43 :: 49 :: 50 :: 56 :: 57 :: 63 :: 64 :: 70 :: 71 :: 77 :: 78 :: 84 :: 85 :: 91 :: 92 :: 98 :: 99 :: 103 :: 104 :: 110 :: 111 :: 117 :: 118 :: 122 :: 123 :: 129 :: 130 :: 136 :: 137 :: 141 :: 142 :: []) hd.at [73, 66, 139]).says (PySem.Challenge.rw_ta0036_02).row.toRowW d kwd fun f vs => PySem.call f vs) : (PySem.Challenge.rw_ta0036_02).Holds := by
  refine holds_law hd.ws fun said => ?_
  refine holds_open (r := (PySem.Challenge.rw_ta0036_02).row) (q := hd.view_39) (loose := hd.loose) (Xt := hd.ok) (XP := XL hd.view_39 []) (Yf := hd.hook.obs) (Ya := hd.hook.val) (YP := hd.hook.says) (N := 1600) hd.left hd.hook.of hd.hook.keeps (fun s e => xl_of s (Bool.and_eq_true_iff.mp e).1) XL.keeps hdef hp hk (fun s e => recFacts_of (Bool.and_eq_true_iff.mp e).2) (by rfl) said (by decide +kernel) ⟨rfl, rfl, rfl, rfl, rfl, by decide +kernel⟩ ?hw h
  w_witness2
end Mine
end
section
open PySem PySem.W PyProof.Rows
namespace Mine
open PySem.Calls PySem.Spec

noncomputable abbrev Led := List (Addr × Obj)
/-- a fact of the ground or of the ledger -/
noncomputable def Hs (h₀ : Heap) (fz : Led) (a : Addr) (o : Obj) : Prop := h₀.get? a = some o ∨ (a, o) ∈ fz
noncomputable abbrev Fact := Addr → Obj → Prop
noncomputable def FSub (X Y : Fact) : Prop := ∀ a o, X a o → Y a o
theorem FSub.refl (X : Fact) : FSub X X := fun _ _ h => h
theorem FSub.trans {X Y Z : Fact} (a : FSub X Y) (b : FSub Y Z) : FSub X Z := fun _ _ h => b _ _ (a _ _ h)
noncomputable def Sub (l l' : Led) : Prop := ∀ p ∈ l, p ∈ l'
theorem Sub.refl (l : Led) : Sub l l := fun _ h => h
theorem Sub.trans {a b c : Led} (x : Sub a b) (y : Sub b c) : Sub a c := fun _ h => y _ (x _ h)
theorem Sub.cons {p : Addr × Obj} {l : Led} : Sub l (p :: l) := fun _ h => .tail _ h
theorem Hs.mono {h₀ g : Heap} {fz fz' : Led} (k : ∀ b o, h₀.get? b = some o → g.get? b = some o) (s : Sub fz fz') : FSub (Hs h₀ fz) (Hs g fz') :=
  fun _ _ h => h.imp (k _ _) (s _)
theorem Hs.sub {h₀ : Heap} {fz fz' : Led} (s : Sub fz fz') : FSub (Hs h₀ fz) (Hs h₀ fz') := Hs.mono (fun _ _ e => e) s

mutual
/-- a value bears a datum, by facts -/
inductive Rep (X : Fact) : Value → Dat → Prop
  | none : Rep X .none .none
  | bool (b : Bool) : Rep X (.bool b) (.bool b)
  | int (i : Int) (t : Tok) : Rep X (.int i t) (.int i)
  | str (x : Str) (t : Tok) : Rep X (.str x t) (.str x)
  | bytes (b : Array UInt8) (t : Tok) : Rep X (.bytes b t) (.bytes b)
  | tuple {a : Addr} {o : Obj} {vs : List Value} {n : Nat} {ds : List Dat} : X a o → o.cls = .type "tuple" → o.data = .seq vs.toArray n → RepA X vs ds → Rep X (.ref a) (.tuple ds)
  | list {a : Addr} {o : Obj} {vs : List Value} {n : Nat} {ds : List Dat} : X a o → o.cls = .type "list" → o.data = .seq vs.toArray n → RepA X vs ds → Rep X (.ref a) (.list ds)
inductive RepA (X : Fact) : List Value → List Dat → Prop
  | nil : RepA X [] []
  | cons {v : Value} {vs : List Value} {d : Dat} {ds : List Dat} : Rep X v d → RepA X vs ds → RepA X (v :: vs) (d :: ds)
end
mutual
theorem Rep.mono {X Y : Fact} (s : FSub X Y) : ∀ {v : Value} {d : Dat}, Rep X v d → Rep Y v d
  | _, _, .none => .none
  | _, _, .bool b => .bool b
  | _, _, .int i t => .int i t
  | _, _, .str x t => .str x t
  | _, _, .bytes b t => .bytes b t
  | _, _, .tuple h c d r => .tuple (s _ _ h) c d (RepA.mono s r)
  | _, _, .list h c d r => .list (s _ _ h) c d (RepA.mono s r)
theorem RepA.mono {X Y : Fact} (s : FSub X Y) : ∀ {vs : List Value} {ds : List Dat}, RepA X vs ds → RepA Y vs ds
  | _, _, .nil => .nil
  | _, _, .cons h r => .cons (Rep.mono s h) (RepA.mono s r)
end
section
variable {X : Fact} {v : Value} {d : Dat} {vs ws : List Value} {ds es : List Dat}
theorem RepA.length (h : RepA X vs ds) : vs.length = ds.length := by
  induction vs generalizing ds with
  | nil => cases h; rfl
  | cons v vs ih => cases h with | cons _ r => rw [List.length_cons, List.length_cons, ih r]
theorem RepA.append (h : RepA X vs ds) (k : RepA X ws es) : RepA X (vs ++ ws) (ds ++ es) := by
  induction vs generalizing ds with
  | nil => cases h; exact k
  | cons v vs ih => cases h with | cons h r => exact .cons h (ih r)
theorem RepA.inv2 {a b : Dat} (h : RepA X vs [a, b]) : ∃ v1 v2, vs = [v1, v2] ∧ Rep X v1 a ∧ Rep X v2 b := by
  cases h with
  | cons r1 h =>
  cases h with
  | cons r2 h => cases h; exact ⟨_, _, rfl, r1, r2⟩
theorem Rep.tup (h : Rep X v (.tuple ds)) : ∃ l o vs n, v = .ref l ∧ X l o ∧ o.cls = .type "tuple" ∧ o.data = .seq (List.toArray vs) n ∧ RepA X vs ds := by
  cases h with
  | tuple a b c d => exact ⟨_, _, _, _, rfl, a, b, c, d⟩
theorem RepA.one (h : Rep X v d) : RepA X [v] [d] := .cons h .nil
theorem RepA.get (h : RepA X vs ds) {k : Nat} {d : Dat} (hk : ds[k]? = some d) : ∃ v, vs[k]? = some v ∧ Rep X v d := by
  induction vs generalizing ds k with
  | nil => cases h; simp at hk
  | cons v vs ih =>
    cases h with
    | cons h r =>
      cases k with
      | zero => simp at hk; subst hk; exact ⟨v, rfl, h⟩
      | succ k => simpa using ih r (by simpa using hk)
theorem RepA.get' (h : RepA X vs ds) {k : Nat} {v : Value} (hk : vs[k]? = some v) : ∃ d, ds[k]? = some d ∧ Rep X v d := by
  have hl : k < ds.length := by
    have := (List.getElem?_eq_some_iff.mp hk).1
    rw [← h.length]; exact this
  obtain ⟨v', e, r⟩ := h.get (List.getElem?_eq_getElem hl)
  rw [hk] at e; cases e
  exact ⟨_, List.getElem?_eq_getElem hl, r⟩
theorem RepA.of_get (hl : vs.length = ds.length) (h : ∀ (k : Nat) (v : Value) (d : Dat), vs[k]? = some v → ds[k]? = some d → Rep X v d) : RepA X vs ds := by
  induction vs generalizing ds with
  | nil => cases ds with
    | nil => exact .nil
    | cons _ _ => simp at hl
  | cons v vs ih => cases ds with
    | nil => simp at hl
    | cons d ds => exact .cons (h 0 v d rfl rfl) (ih (by simpa using hl) fun (k : Nat) (v : Value) (d : Dat) a b => h (k + 1) v d (by simpa using a) (by simpa using b))
theorem RepA.take (h : RepA X vs ds) (k : Nat) : RepA X (vs.take k) (ds.take k) := by
  induction vs generalizing ds k with
  | nil => cases h; simpa using RepA.nil
  | cons v vs ih => cases h with
    | cons h r => cases k with
      | zero => exact .nil
      | succ k => exact .cons h (ih r k)
theorem RepA.drop (h : RepA X vs ds) (k : Nat) : RepA X (vs.drop k) (ds.drop k) := by
  induction vs generalizing ds k with
  | nil => cases h; simpa using RepA.nil
  | cons v vs ih => cases h with
    | cons h r => cases k with
      | zero => exact .cons h r
      | succ k => exact ih r k
theorem RepA.reverse (h : RepA X vs ds) : RepA X vs.reverse ds.reverse := by
  induction vs generalizing ds with
  | nil => cases h; exact .nil
  | cons v vs ih => cases h with
    | cons h r => rw [List.reverse_cons, List.reverse_cons]; exact (ih r).append (.one h)
theorem RepA.ints {ns : List Int} (h : RepA X vs (ns.map Dat.int)) : IntsAre vs ns := by
  induction vs generalizing ns with
  | nil => cases ns with
    | nil => exact .nil
    | cons _ _ => cases h
  | cons v vs ih => cases ns with
    | nil => cases h
    | cons n ns => cases h with
      | cons h r => cases h; exact .cons _ _ (ih r)
theorem RepA.of_ints {ns : List Int} (h : IntsAre vs ns) : RepA X vs (ns.map Dat.int) := by
  induction h with
  | nil => exact .nil
  | cons n t _ ih => exact .cons (.int n t) ih
end

structure Ld (h₀ : Heap) (L : Addr) (h : Heap) (l : Led) : Prop where
  news : News h₀ L h l
  nodup : (l.map (·.1)).Nodup

noncomputable def setL (l : Led) (d : Addr) (o' : Obj) : Led := l.map fun p => if p.1 = d then (d, o') else p
theorem setL_fst (l : Led) (d : Addr) (o' : Obj) : (setL l d o').map (·.1) = l.map (·.1) := by
  unfold setL
  rw [List.map_map]
  refine List.map_congr_left fun p _ => ?_
  show (if p.1 = d then (d, o') else p).1 = p.1
  split
  · rename_i h; exact h.symm
  · rfl
theorem setL_append (l k : Led) (d : Addr) (o' : Obj) : setL (l ++ k) d o' = setL l d o' ++ setL k d o' := List.map_append ..
theorem setL_off {l : Led} {d : Addr} {o' : Obj} (h : ∀ p ∈ l, p.1 ≠ d) : setL l d o' = l := by
  unfold setL
  conv => rhs; rw [← List.map_id l]
  refine List.map_congr_left fun p hp => ?_
  rw [if_neg (h p hp)]; rfl
theorem mem_setL_ne {l : Led} {d : Addr} {o' : Obj} {p : Addr × Obj} (h : p ∈ l) (hn : p.1 ≠ d) : p ∈ setL l d o' :=
  List.mem_map.mpr ⟨p, h, if_neg hn⟩
theorem mem_setL_self {l : Led} {d : Addr} {o o' : Obj} (h : (d, o) ∈ l) : (d, o') ∈ setL l d o' :=
  List.mem_map.mpr ⟨_, h, if_pos rfl⟩
theorem of_mem_setL {l : Led} {d : Addr} {o' : Obj} {p : Addr × Obj} (h : p ∈ setL l d o') : p = (d, o') ∨ (p ∈ l ∧ p.1 ≠ d) := by
  obtain ⟨q, hq, e⟩ := List.mem_map.mp h
  by_cases hd : q.1 = d
  · rw [if_pos hd] at e; exact .inl e.symm
  · rw [if_neg hd] at e; subst e; exact .inr ⟨hq, hd⟩

section
variable {h₀ h h' : Heap} {L : Addr} {m m' : Str → Option Value} {l l' : Led}
theorem Ld.perm (x : Ld h₀ L h l) (p : l.Perm l') : Ld h₀ L h l' :=
  ⟨fun q hq => x.news q (p.mem_iff.mpr hq), (p.map _).nodup_iff.mp x.nodup⟩
theorem Ld.sublist (x : Ld h₀ L h l) (p : l'.Sublist l) : Ld h₀ L h l' :=
  ⟨fun q hq => x.news q (p.subset hq), (p.map _).nodup x.nodup⟩
theorem Ld.grown (x : Ld h₀ L h l) (k : ∀ b o, h.get? b = some o → h'.get? b = some o) : Ld h₀ L h' l := ⟨x.news.grown k, x.nodup⟩
theorem Ld.sameBut (x : Ld h₀ L h l) (k : Heap.SameBut L h h') : Ld h₀ L h' l := ⟨x.news.set k, x.nodup⟩
theorem Ld.add {D : Addr} {o : Obj} (F : Fr h₀ L h m) (x : Ld h₀ L h l) (k : ∀ b o, h.get? b = some o → h'.get? b = some o) (hD : h.get? D = none) (ho : h'.get? D = some o) : Ld h₀ L h' ((D, o) :: l) := by
  have nb : ∀ b, (∃ o, h.get? b = some o) → D ≠ b := fun b ⟨o, e⟩ q => by rw [q, e] at hD; cases hD
  refine ⟨fun q hq => ?_, ?_⟩
  · rcases List.mem_cons.mp hq with rfl | hq
    · refine ⟨ho, nb L (by obtain ⟨oL, _, _, e, _⟩ := F.ns; exact ⟨oL, e⟩), ?_⟩
      cases e : h₀.get? D with
      | none => rfl
      | some o' => rw [F.keep _ _ e] at hD; cases hD
    · exact x.news.grown k q hq
  · rw [List.map_cons, List.nodup_cons]
    refine ⟨fun hm => ?_, x.nodup⟩
    obtain ⟨q, hq, e⟩ := List.mem_map.mp hm
    exact nb q.1 ⟨_, (x.news q hq).1⟩ e.symm
theorem Ld.set {d : Addr} {o o' : Obj} (F : Fr h₀ L h m) (x : Ld h₀ L h l) (hm : (d, o) ∈ l) (hs : ∀ b o, b ≠ d → h.get? b = some o → h'.get? b = some o) (ho : h'.get? d = some o') : Fr h₀ L h' m ∧ Ld h₀ L h' (setL l d o') := by
  have D := x.news _ hm
  refine ⟨⟨F.ns.at' fun o e => hs _ _ (Ne.symm D.2.1) e, fun b ob e => hs b ob (fun q => ?_) (F.keep b ob e), F.above⟩, fun q hq => ?_, ?_⟩
  · rw [q, D.2.2] at e; cases e
  · rcases of_mem_setL hq with rfl | ⟨hq, hn⟩
    · exact ⟨ho, D.2⟩
    · exact ⟨hs _ _ hn (x.news q hq).1, (x.news q hq).2⟩
  · rw [setL_fst]; exact x.nodup
end

/-- what stands for the whole proof -/
structure Wd where
  prog : Program
  w : World
  K : Frag
  base : Heap
  kb : K.In base
  p : Program
  loose : List Str
  mean : ExcName → Option Value
  mg : Str → Option Value
  mb : Str → Option Value
  tb : Top p loose mean mg mb base
  Gl : Led → Fact → Prop
  glMono : ∀ {g X Y}, FSub X Y → Gl g X → Gl g Y
  glDrop : ∀ {g : Led} {X Y : Fact}, (∀ a o, X a o → Y a o ∨ ∃ (vs : Array Value) (n : Nat), o.data = .seq vs n) → Gl g X → Gl g Y

/-- the state of a frame -/
structure SS (W : Wd) (h₀ : Heap) (L : Addr) (m : Str → Option Value) (mu fz : Led) (h : Heap) : Prop where
  fr : Fr h₀ L h m
  led : ∃ gl, W.Gl gl (Hs W.base fz) ∧ Ld h₀ L h (gl ++ (mu ++ fz))
  bs : ∀ b o, W.base.get? b = some o → h₀.get? b = some o

section
variable {W : Wd} {h₀ h h' : Heap} {L : Addr} {m m' : Str → Option Value} {mu fz fz' : Led}
theorem SS.news (x : SS W h₀ L m mu fz h) : ∀ p ∈ mu ++ fz, h.get? p.1 = some p.2 := by
  obtain ⟨_, ⟨gl, _, l⟩, _⟩ := x
  exact fun p hp => (l.news p (List.mem_append_right _ hp)).1
theorem SS.has {a : Addr} {o : Obj} (x : SS W h₀ L m mu fz h) (e : Hs W.base fz a o) : h.get? a = some o :=
  e.elim (fun q => x.fr.keep _ _ (x.bs _ _ q)) fun q => x.news _ (List.mem_append_right _ q)
theorem SS.ofMu {a : Addr} {o : Obj} (x : SS W h₀ L m mu fz h) (e : (a, o) ∈ mu) : h.get? a = some o := x.news _ (List.mem_append_left _ e)
/-- the heap has grown, nothing was told -/
theorem SS.grown (x : SS W h₀ L m mu fz h) (k : ∀ b o, h.get? b = some o → h'.get? b = some o) : SS W h₀ L m mu fz h' := by
  obtain ⟨F, ⟨gl, g, l⟩, bs⟩ := x
  exact ⟨F.keeps k, ⟨gl, g, l.grown k⟩, bs⟩
/-- a new thing that will not be turned -/
theorem SS.add {D : Addr} {o : Obj} (x : SS W h₀ L m mu fz h) (k : ∀ b o, h.get? b = some o → h'.get? b = some o) (hD : h.get? D = none) (ho : h'.get? D = some o) : SS W h₀ L m mu ((D, o) :: fz) h' := by
  obtain ⟨F, ⟨gl, g, l⟩, bs⟩ := x
  refine ⟨F.keeps k, ⟨gl, W.glMono (Hs.sub .cons) g, (l.add F k hD ho).perm ?_⟩, bs⟩
  rw [← List.append_assoc, ← List.append_assoc]
  exact List.perm_middle.symm
theorem SS.push (x : SS W h₀ L m mu fz h) (o : Obj) (hf : o.isFreed = false := by rfl) : SS W h₀ L m mu ((h.objs.size, o) :: fz) (h.push o) := by
  refine x.add (fun b o' e => Heap.get?_push_of_some _ e) ?_ (Heap.get?_push_size _ hf)
  cases e : h.get? h.objs.size with
  | none => rfl
  | some o' => exact absurd (Heap.lt_size e) (Nat.lt_irrefl _)
/-- a new thing that may be turned -/
theorem SS.addMu {D : Addr} {o : Obj} (x : SS W h₀ L m mu fz h) (k : ∀ b o, h.get? b = some o → h'.get? b = some o) (hD : h.get? D = none) (ho : h'.get? D = some o) : SS W h₀ L m ((D, o) :: mu) fz h' := by
  obtain ⟨F, ⟨gl, g, l⟩, bs⟩ := x
  refine ⟨F.keeps k, ⟨gl, g, (l.add F k hD ho).perm ?_⟩, bs⟩
  exact List.perm_middle.symm
theorem SS.pushMu (x : SS W h₀ L m mu fz h) (o : Obj) (hf : o.isFreed = false := by rfl) : SS W h₀ L m ((h.objs.size, o) :: mu) fz (h.push o) := by
  refine x.addMu (fun b o' e => Heap.get?_push_of_some _ e) ?_ (Heap.get?_push_size _ hf)
  cases e : h.get? h.objs.size with
  | none => rfl
  | some o' => exact absurd (Heap.lt_size e) (Nat.lt_irrefl _)
theorem SS.perm {mu' : Led} (x : SS W h₀ L m mu fz h) (p : mu.Perm mu') : SS W h₀ L m mu' fz h := by
  obtain ⟨F, ⟨gl, g, l⟩, bs⟩ := x
  exact ⟨F, ⟨gl, g, l.perm ((p.append_right _).append_left _)⟩, bs⟩
theorem SS.sublist {mu' : Led} (x : SS W h₀ L m mu fz h) (p : mu'.Sublist mu) : SS W h₀ L m mu' fz h := by
  obtain ⟨F, ⟨gl, g, l⟩, bs⟩ := x
  exact ⟨F, ⟨gl, g, l.sublist ((p.append_right _).append_left _)⟩, bs⟩
/-- what will not be turned any more -/
theorem SS.freeze {p : Addr × Obj} (x : SS W h₀ L m (p :: mu) fz h) : SS W h₀ L m mu (p :: fz) h := by
  obtain ⟨F, ⟨gl, g, l⟩, bs⟩ := x
  exact ⟨F, ⟨gl, W.glMono (Hs.sub .cons) g, l.perm (List.Perm.append_left _ List.perm_middle.symm)⟩, bs⟩
theorem SS.set {d : Addr} {o o' : Obj} (x : SS W h₀ L m mu fz h) (hm : (d, o) ∈ mu) (hs : ∀ b o, b ≠ d → h.get? b = some o → h'.get? b = some o) (ho : h'.get? d = some o') : SS W h₀ L m (setL mu d o') fz h' := by
  obtain ⟨F, ⟨gl, g, l⟩, bs⟩ := x
  obtain ⟨F', l'⟩ := l.set F (List.mem_append_right _ (List.mem_append_left _ hm)) hs ho
  refine ⟨F', ⟨gl, g, ?_⟩, bs⟩
  rw [setL_append, setL_append] at l'
  have nd := l.nodup
  rw [List.map_append, List.map_append, List.nodup_append] at nd
  obtain ⟨n1, n2, n3⟩ := nd
  rw [List.nodup_append] at n2
  have hd : d ∈ mu.map (·.1) := List.mem_map.mpr ⟨_, hm, rfl⟩
  have e1 : setL gl d o' = gl := setL_off fun p hp q => n3 p.1 (List.mem_map.mpr ⟨p, hp, rfl⟩) d (List.mem_append_left _ hd) q
  have e2 : setL fz d o' = fz := setL_off fun p hp q => n2.2.2 d hd p.1 (List.mem_map.mpr ⟨p, hp, rfl⟩) q.symm
  rw [e1, e2] at l'
  exact l'
theorem SS.store (x : SS W h₀ L m mu fz h) (F : Fr h₀ L h' m') (hs : Heap.SameBut L h h') : SS W h₀ L m' mu fz h' := by
  obtain ⟨_, ⟨gl, g, l⟩, bs⟩ := x
  exact ⟨F, ⟨gl, g, l.sameBut hs⟩, bs⟩
theorem SS.ne {p q : Addr × Obj} (x : SS W h₀ L m mu fz h) (hp : p ∈ mu) (hq : q ∈ fz) : p.1 ≠ q.1 := by
  obtain ⟨_, ⟨gl, g, l⟩, bs⟩ := x
  have nd := l.nodup
  rw [List.map_append, List.map_append, List.nodup_append] at nd
  obtain ⟨n1, n2, n3⟩ := nd
  rw [List.nodup_append] at n2
  exact n2.2.2 p.1 (List.mem_map.mpr ⟨p, hp, rfl⟩) q.1 (List.mem_map.mpr ⟨q, hq, rfl⟩)
theorem SS.neL {p : Addr × Obj} (x : SS W h₀ L m mu fz h) (hp : p ∈ mu ++ fz) : p.1 ≠ L := by
  obtain ⟨_, ⟨gl, g, l⟩, bs⟩ := x
  exact (l.news p (List.mem_append_right _ hp)).2.1
theorem SS.nodupMu (x : SS W h₀ L m mu fz h) : (mu.map (·.1)).Nodup := by
  obtain ⟨_, ⟨gl, g, l⟩, bs⟩ := x
  have nd := l.nodup
  rw [List.map_append, List.map_append, List.nodup_append] at nd
  exact (List.nodup_append.mp nd.2.1).1
theorem SS.inj {a : Addr} {o o' : Obj} (x : SS W h₀ L m mu fz h) (h1 : (a, o) ∈ mu ++ fz) (h2 : (a, o') ∈ mu ++ fz) : o = o' := by
  have := x.news _ h1; rw [x.news _ h2] at this; exact (Option.some.inj this).symm
theorem SS.setLoc {loc : Led} {d : Addr} {o o' : Obj} (x : SS W h₀ L m (loc ++ mu) fz h) (hm : (d, o) ∈ loc) (hs : ∀ b o, b ≠ d → h.get? b = some o → h'.get? b = some o) (ho : h'.get? d = some o') : SS W h₀ L m (setL loc d o' ++ mu) fz h' := by
  have y := x.set (List.mem_append_left _ hm) hs ho
  rw [setL_append] at y
  have nd := x.nodupMu
  rw [List.map_append, List.nodup_append] at nd
  have e : setL mu d o' = mu := setL_off fun p hp q => nd.2.2 d (List.mem_map.mpr ⟨_, hm, rfl⟩) p.1 (List.mem_map.mpr ⟨p, hp, rfl⟩) q.symm
  rwa [e] at y
/-- one thing is let go of, whatever became of it -/
theorem SS.drop {p : Addr × Obj} (x : SS W h₀ L m (p :: mu) fz h) (hs : ∀ b o, b ≠ p.1 → h.get? b = some o → h'.get? b = some o) : SS W h₀ L m mu fz h' := by
  have hne : ∀ q ∈ mu ++ fz, q.1 ≠ p.1 := by
    obtain ⟨_, ⟨gl, g, l⟩, bs⟩ := x
    have nd := (l.sublist (List.sublist_append_right gl _)).nodup
    rw [List.cons_append, List.map_cons, List.nodup_cons] at nd
    exact fun q hq e => nd.1 (List.mem_map.mpr ⟨q, hq, e⟩)
  have hb : ∀ b o, h₀.get? b = some o → b ≠ p.1 := by
    obtain ⟨_, ⟨gl, g, l⟩, bs⟩ := x
    intro b o e q
    have := (l.news p (List.mem_append_right _ (.head _))).2.2
    rw [← q, e] at this; cases this
  have hg : ∃ gl, W.Gl gl (Hs W.base fz) ∧ Ld h₀ L h (gl ++ (mu ++ fz)) ∧ ∀ q ∈ gl, q.1 ≠ p.1 := by
    obtain ⟨_, ⟨gl, g, l⟩, bs⟩ := x
    refine ⟨gl, g, l.sublist ((List.sublist_cons_self _ _).append_left _), fun q hq e => ?_⟩
    have nd := l.nodup
    rw [List.map_append, List.nodup_append] at nd
    exact nd.2.2 q.1 (List.mem_map.mpr ⟨q, hq, rfl⟩) p.1 (by simp) e
  obtain ⟨gl, g, l, hgl⟩ := hg
  refine ⟨⟨x.fr.ns.at' fun o e => hs _ _ (fun q => x.neL (p := p) (by simp) q.symm) e, fun b o e => hs b o (hb b o e) (x.fr.keep b o e), x.fr.above⟩, ⟨gl, g, fun q hq => ?_, l.nodup⟩, x.bs⟩
  have hq' : q.1 ≠ p.1 := (List.mem_append.mp hq).elim (hgl q) (hne q)
  exact ⟨hs _ _ hq' (l.news q hq).1, (l.news q hq).2⟩
theorem SS.below {p : Addr × Obj} (x : SS W h₀ L m mu fz h) (hp : p ∈ mu ++ fz) : p.1 < h.objs.size := Heap.lt_size (x.news p hp)
end
end Mine
end
section
open PySem PySem.W PyProof.Rows
namespace Mine
open PySem.Calls PySem.Spec

/-- the room and the frames around an evaluation -/
structure AOk (W : Wd) (lv : Nat) (A : Around) (h₀ : Heap) (fenv : Env) (L : Addr) : Prop where
  hh : A.handled = none
  fr : ∃ outer A₀, A.frames = some (fenv :: outer) ∧ Below A₀ W.base outer h₀
  hf : fenv.frame = some L
  hk : fenv.scope.kind = .function
  dp : A.depth + lv < recursionLimit
  un : A.units + (16 * lv + 64) < cLine
  K : W.K.In h₀
  T : Top W.p W.loose W.mean W.mg W.mb h₀
theorem AOk.less {W : Wd} {lv lv' : Nat} {A : Around} {h₀ : Heap} {fenv : Env} {L : Addr} (x : AOk W lv A h₀ fenv L) (h : lv' ≤ lv) : AOk W lv' A h₀ fenv L :=
  { x with dp := by have := x.dp; (clear x; lia), un := by have := x.un; (clear x; lia) }

/-- an environment under the names of a written scope -/
structure EnvOk (env : Env) (sc : Scope) : Prop where
  kind : env.scope.kind = .function
  glob : env.globals = mainGlobals
  blt : env.builtins = builtinsNs
  gl : ∀ n, sc.names.lookup n = some .globalImplicit → env.kindOf n = some .globalImplicit
  cells : ∀ n k, sc.names.lookup n = some k → (k = .cell ∨ k = .free) → (env.kindOf n = some .cell ∨ env.kindOf n = some .free) ∧ (env.cells.lookup n).isSome = true
  inj : ∀ x y c, env.cells.lookup x = some c → env.cells.lookup y = some c → x = y
  code : ∀ c, sc.more.lookup ("@code" : Str) = some (.int c) → env.code = .ref c.toNat
  qual : ∀ q, sc.more.lookup ("@qual" : Str) = some (.str q) → env.qual = q
  lc : ∀ n, sc.names.lookup n = some .local → env.kindOf n = some .local

noncomputable def ObjNs (o : Obj) (mm : Str → Option Value) : Prop := ∃ es ep, o.data = .dict es ep ∧ StrKeys es ∧ ∀ name, nsFind es name = mm name
theorem ObjNs.ns {o : Obj} {mm : Str → Option Value} {h : Heap} {a : Addr} (x : ObjNs o mm) (e : h.get? a = some o) : h.Ns a mm := let ⟨es, ep, r⟩ := x; ⟨o, es, ep, e, r⟩
theorem ObjNs.of {h : Heap} {a : Addr} {mm : Str → Option Value} (x : h.Ns a mm) : ∃ o, h.get? a = some o ∧ ObjNs o mm := let ⟨o, es, ep, e, r⟩ := x; ⟨o, e, es, ep, r⟩

/-- what a name gives -/
inductive Loads (env : Env) (L : Addr) (m : Str → Option Value) (N : Led) (x : Str) : Value → Prop
  | here {v : Value} : env.locals = L → env.kindOf x = some .local → m x = some v → Loads env L m N x v
  | block {o : Obj} {mm : Str → Option Value} {v : Value} : env.kindOf x = some .local → (env.locals, o) ∈ N → ObjNs o mm → mm x = some v → Loads env L m N x v
  | cell {c : Addr} {o : Obj} {v : Value} : (env.kindOf x = some .cell ∨ env.kindOf x = some .free) → env.cells.lookup x = some c → (c, o) ∈ N → o.data = .cell (some v) → Loads env L m N x v
theorem Loads.mono {env : Env} {L : Addr} {m : Str → Option Value} {N N' : Led} {x : Str} {v : Value} (s : Sub N N') : Loads env L m N x v → Loads env L m N' x v
  | .here a b c => .here a b c
  | .block a b c d => .block a (s _ b) c d
  | .cell a b c d => .cell a b (s _ c) d
noncomputable def PlainName (x : Str) : Prop := (x == ("__debug__" : Str)) = false ∧ (x == ("__classdict__" : Str)) = false

/-- the answer of an evaluation -/
noncomputable def Cont (W : Wd) (h₀ : Heap) (L : Addr) (m : Str → Option Value) (mu fz : Led) (s : Shared) (P : Fact → Value → Prop) (Q : Value → Shared → Prop) : Prop :=
  ∀ v fz' h' tk', Sub fz fz' → SS W h₀ L m mu fz' h' → P (Hs W.base fz') v → Q v { s with heap := h', toks := tk' }

/-- a function value that gives F of its arguments -/
noncomputable def CallOk (W : Wd) (lv : Nat) (X : Fact) (v : Value) (F : List Dat → Option Dat) : Prop :=
  ∃ a o fd, v = .ref a ∧ X a o ∧ o.data = .func fd ∧
    ∀ (A : Around) (h₀ : Heap) (fenv : Env) (L : Addr) (m : Str → Option Value) (mu fz : Led) (s : Shared) (vs : List Value) (ds : List Dat) (d : Dat) (Q E : Value → Shared → Prop),
      AOk W lv A h₀ fenv L → FSub X (Hs W.base fz) → SS W h₀ L m mu fz s.heap → RepA (Hs W.base fz) vs ds → F ds = some d →
      Cont W h₀ L m mu fz s (fun X v => Rep X v d) Q → wpAny (model W.prog W.w) A (call v vs) Q E s
theorem CallOk.mono {W : Wd} {lv : Nat} {X Y : Fact} {v : Value} {F : List Dat → Option Dat} (s : FSub X Y) : CallOk W lv X v F → CallOk W lv Y v F := by
  rintro ⟨a, o, fd, e, h, d, k⟩
  exact ⟨a, o, fd, e, s _ _ h, d, fun A h₀ fenv L m mu fz s₁ vs ds d' Q E hA hX => k A h₀ fenv L m mu fz s₁ vs ds d' Q E hA (s.trans hX)⟩

/-- what a name may stand for -/
inductive PV where
  | dat (d : Dat)
  | lst (ds : List Dat)
  | fn (lv : Nat) (F : List Dat → Option Dat)
noncomputable def PRep (W : Wd) (X : Fact) (MU : Led) (v : Value) : PV → Prop
  | .dat d => Rep X v d
  | .lst ds => ∃ l o vs n, v = .ref l ∧ (l, o) ∈ MU ∧ o.cls = .type "list" ∧ o.dict = none ∧ o.data = .seq (List.toArray vs) n ∧ RepA X vs ds
  | .fn lv F => CallOk W lv X v F
theorem PRep.mono {W : Wd} {X Y : Fact} {MU MU' : Led} {v : Value} {pv : PV} (s : FSub X Y) (t : Sub MU MU') (h : PRep W X MU v pv) : PRep W Y MU' v pv := by
  cases pv with
  | dat d => exact Rep.mono s h
  | lst ds => obtain ⟨l, o, vs, n, a, b, c, d, e, f⟩ := h; exact ⟨l, o, vs, n, a, t _ b, c, d, e, f.mono s⟩
  | fn lv F => exact CallOk.mono s h

noncomputable abbrev Names := List (Str × PV)
noncomputable def NamesOk (W : Wd) (env : Env) (L : Addr) (m : Str → Option Value) (mu N : Led) (X : Fact) (ρ : Names) : Prop :=
  ∀ x pv, ρ.lookup x = some pv → PlainName x ∧ ∃ v, Loads env L m N x v ∧ PRep W X mu v pv
theorem NamesOk.mono {W : Wd} {env : Env} {L : Addr} {m : Str → Option Value} {mu N N' : Led} {X Y : Fact} {ρ : Names} (s : FSub X Y) (t : Sub N N') (h : NamesOk W env L m mu N X ρ) : NamesOk W env L m mu N' Y ρ :=
  fun x pv hx => let ⟨a, v, b, c⟩ := h x pv hx; ⟨a, v, b.mono t, c.mono s (Sub.refl _)⟩
theorem NamesOk.sup {W : Wd} {env : Env} {L : Addr} {m : Str → Option Value} {mu mu' N N' : Led} {X Y : Fact} {ρ : Names} (s : FSub X Y) (u : Sub mu mu') (t : Sub N N') (h : NamesOk W env L m mu N X ρ) : NamesOk W env L m mu' N' Y ρ :=
  fun x pv hx => let ⟨a, v, b, c⟩ := h x pv hx; ⟨a, v, b.mono t, c.mono s u⟩
theorem NamesOk.sub {W : Wd} {env : Env} {L : Addr} {m : Str → Option Value} {mu N : Led} {X : Fact} {ρ ρ' : Names} (s : ∀ x pv, ρ'.lookup x = some pv → ρ.lookup x = some pv) (h : NamesOk W env L m mu N X ρ) : NamesOk W env L m mu N X ρ' :=
  fun x pv hx => h x pv (s x pv hx)
theorem NamesOk.grow {W : Wd} {env : Env} {L : Addr} {m : Str → Option Value} {mu fz fz' : Led} {ρ : Names} (s : Sub fz fz') (h : NamesOk W env L m mu (mu ++ fz) (Hs W.base fz) ρ) : NamesOk W env L m mu (mu ++ fz') (Hs W.base fz') ρ :=
  h.mono (Hs.sub s) fun _ hp => (List.mem_append.mp hp).elim (fun a => List.mem_append_left _ a) fun a => List.mem_append_right _ (s _ a)

theorem load_name {W : Wd} {env : Env} {L : Addr} {m : Str → Option Value} {mu fz : Led} {h₀ : Heap} {x : Str} {v : Value} {A : Around} {Q E : Value → Shared → Prop} {s : Shared} {M : Model} {sc : Scope}
    (hE : EnvOk env sc) (S : SS W h₀ L m mu fz s.heap) (l : Loads env L m (mu ++ fz) x v) (hp : PlainName x) (h : Q v s) : wpAny M A (loadName env x) Q E s := by
  cases l with
  | here a b c => exact wpAny_loadName_local hE.kind b (by rw [a]; exact S.fr.ns) c h
  | block a b c d => exact wpAny_loadName_local hE.kind a (c.ns (S.news _ b)) d h
  | cell a b c d =>
    rcases a with a | a
    · exact wpAny_loadName_cell hE.kind a b ⟨_, S.news _ c, d⟩ h
    · exact wpAny_loadName_free hE.kind a b ⟨_, S.news _ c, d⟩ h hp.2
theorem eval_name {W : Wd} {env : Env} {L : Addr} {m : Str → Option Value} {mu fz : Led} {h₀ : Heap} {x : Str} {pos : Pos} {v : Value} {A : Around} {Q E : Value → Shared → Prop} {s : Shared} {M : Model} {sc : Scope}
    (hE : EnvOk env sc) (S : SS W h₀ L m mu fz s.heap) (l : Loads env L m (mu ++ fz) x v) (hp : PlainName x) (h : Q v s) : wpAny M A (eval (.Name x pos) env) Q E s :=
  wpAny_Name (load_name hE S l hp h) hp.1

/-- an expression under the names ρ gives pv -/
noncomputable def EV (W : Wd) (lv : Nat) (sc : Scope) (ρ : Names) (e : Expr) (pv : PV) : Prop :=
  ∀ (A : Around) (h₀ : Heap) (fenv : Env) (L : Addr) (m : Str → Option Value) (mu fz : Led) (env : Env) (s : Shared) (Q E : Value → Shared → Prop),
    AOk W lv A h₀ fenv L → EnvOk env sc → SS W h₀ L m mu fz s.heap → NamesOk W env L m mu (mu ++ fz) (Hs W.base fz) ρ →
    Cont W h₀ L m mu fz s (fun X v => PRep W X mu v pv) Q → wpAny (model W.prog W.w) A (eval e env) Q E s
/-- its truth -/
noncomputable def ET (W : Wd) (lv : Nat) (sc : Scope) (ρ : Names) (e : Expr) (b : Bool) : Prop :=
  ∀ (A : Around) (h₀ : Heap) (fenv : Env) (L : Addr) (m : Str → Option Value) (mu fz : Led) (env : Env) (s : Shared) (Q : Bool → Shared → Prop) (E : Value → Shared → Prop),
    AOk W lv A h₀ fenv L → EnvOk env sc → SS W h₀ L m mu fz s.heap → NamesOk W env L m mu (mu ++ fz) (Hs W.base fz) ρ →
    (∀ fz' h' tk', Sub fz fz' → SS W h₀ L m mu fz' h' → Q b { s with heap := h', toks := tk' }) → wpAny (model W.prog W.w) A (isTrue e env (eval e env)) Q E s
/-- an operation on values -/
noncomputable def OpOk (W : Wd) (lv : Nat) (ins : List Dat) (t : List Value → Sem Value) (d : Dat) : Prop :=
  ∀ (A : Around) (h₀ : Heap) (fenv : Env) (L : Addr) (m : Str → Option Value) (mu fz : Led) (s : Shared) (vs : List Value) (Q E : Value → Shared → Prop),
    AOk W lv A h₀ fenv L → SS W h₀ L m mu fz s.heap → RepA (Hs W.base fz) vs ins → Cont W h₀ L m mu fz s (fun X v => Rep X v d) Q → wpAny (model W.prog W.w) A (t vs) Q E s

section
variable {W : Wd} {lv : Nat} {sc : Scope} {ρ : Names}
theorem ev_name {x : Str} {pos : Pos} {pv : PV} (h : ρ.lookup x = some pv) : EV W lv sc ρ (.Name x pos) pv := by
  intro A h₀ fenv L m mu fz env s Q E hA hE S hN k
  obtain ⟨hp, v, l, r⟩ := hN x pv h
  exact eval_name hE S l hp (k v fz _ _ (Sub.refl _) S r)
theorem ev_int {i : Int} {kd : Nat} {pos : Pos} : EV W lv sc ρ (.Constant (.int i) kd pos) (.dat (.int i)) := by
  intro A h₀ fenv L m mu fz env s Q E hA hE S hN k
  exact wpAny_Constant_int (k _ fz _ _ (Sub.refl _) S (.int i _))
theorem ev_str {x : Str} {kd : Nat} {pos : Pos} : EV W lv sc ρ (.Constant (.str x) kd pos) (.dat (.str x)) := by
  intro A h₀ fenv L m mu fz env s Q E hA hE S hN k
  exact wpAny_Constant_str (k _ fz _ _ (Sub.refl _) S (.str x _))
theorem ev_bytes {b : List UInt8} {kd : Nat} {pos : Pos} : EV W lv sc ρ (.Constant (.bytes b) kd pos) (.dat (.bytes b.toArray)) := by
  intro A h₀ fenv L m mu fz env s Q E hA hE S hN k
  intro Γ p hΓ
  exact k _ fz s.heap (s.toks + 1) (Sub.refl _) S (.bytes _ _)
theorem ev_bool {b : Bool} {kd : Nat} {pos : Pos} : EV W lv sc ρ (.Constant (.bool b) kd pos) (.dat (.bool b)) := by
  intro A h₀ fenv L m mu fz env s Q E hA hE S hN k
  exact wpAny_Constant_bool (k _ fz _ _ (Sub.refl _) S (.bool b))
theorem ev_none {kd : Nat} {pos : Pos} : EV W lv sc ρ (.Constant .none kd pos) (.dat .none) := by
  intro A h₀ fenv L m mu fz env s Q E hA hE S hN k
  exact wpAny_Constant_none (k _ fz _ _ (Sub.refl _) S .none)
theorem ev_bin {op : Operator} {l r : Expr} {pos : Pos} {d₁ d₂ d : Dat} (h₁ : EV W lv sc ρ l (.dat d₁)) (h₂ : EV W lv sc ρ r (.dat d₂))
    (ho : OpOk W lv [d₁, d₂] (fun vs => binaryOp op (vs.getD 0 .none) (vs.getD 1 .none)) d) : EV W lv sc ρ (.BinOp l op r pos) (.dat d) := by
  intro A h₀ fenv L m mu fz env s Q E hA hE S hN k
  refine wpAny_BinOp (h₁ A h₀ fenv L m mu fz env s _ _ hA hE S hN fun v₁ fz₁ h₁' t₁ s₁ S₁ R₁ => ?_)
  refine h₂ A h₀ fenv L m mu fz₁ env _ _ _ hA hE S₁ (hN.grow s₁) fun v₂ fz₂ h₂' t₂ s₂ S₂ R₂ => ?_
  exact ho A h₀ fenv L m mu fz₂ _ [v₁, v₂] _ _ hA S₂ (.cons (Rep.mono (Hs.sub s₂) R₁) (.cons R₂ .nil)) fun v fz' h' t' s' => k v fz' h' t' (s₁.trans (s₂.trans s'))
theorem ev_un {op : UnaryOp} {x : Expr} {pos : Pos} {d₁ d : Dat} (h₁ : EV W lv sc ρ x (.dat d₁))
    (ho : OpOk W lv [d₁] (fun vs => unaryOp op (vs.getD 0 .none)) d) : EV W lv sc ρ (.UnaryOp op x pos) (.dat d) := by
  intro A h₀ fenv L m mu fz env s Q E hA hE S hN k
  refine wpAny_UnaryOp (h₁ A h₀ fenv L m mu fz env s _ _ hA hE S hN fun v₁ fz₁ h₁' t₁ s₁ S₁ R₁ => ?_)
  exact ho A h₀ fenv L m mu fz₁ _ [v₁] _ _ hA S₁ (.cons R₁ .nil) fun v fz' h' t' s' => k v fz' h' t' (s₁.trans s')
theorem ev_cmp {op : CmpOp} {l r : Expr} {pos : Pos} {d₁ d₂ d : Dat} (h₁ : EV W lv sc ρ l (.dat d₁)) (h₂ : EV W lv sc ρ r (.dat d₂))
    (ho : OpOk W lv [d₁, d₂] (fun vs => compareOp op (vs.getD 0 .none) (vs.getD 1 .none)) d) (hm : behindInMarks op r = false := by with_unfolding_all rfl) : EV W lv sc ρ (.Compare l [op] [r] pos) (.dat d) := by
  intro A h₀ fenv L m mu fz env s Q E hA hE S hN k
  refine wpAny_Compare1 (h₁ A h₀ fenv L m mu fz env s _ _ hA hE S hN fun v₁ fz₁ h₁' t₁ s₁ S₁ R₁ => ?_) hm
  refine h₂ A h₀ fenv L m mu fz₁ env _ _ _ hA hE S₁ (hN.grow s₁) fun v₂ fz₂ h₂' t₂ s₂ S₂ R₂ => ?_
  exact ho A h₀ fenv L m mu fz₂ _ [v₁, v₂] _ _ hA S₂ (.cons (Rep.mono (Hs.sub s₂) R₁) (.cons R₂ .nil)) fun v fz' h' t' s' => k v fz' h' t' (s₁.trans (s₂.trans s'))
end

/-! ints -/
section
variable {W : Wd} {lv : Nat} {a b : Int}
theorem op_of_ints {t : Value → Value → Sem Value} {d : Dat} (h : ∀ (A : Around) (E : Value → Shared → Prop) (s : Shared) (u u' : Tok) (Q : Value → Shared → Prop), A.handled = none → (∀ v tk', (∀ X, Rep X v d) → Q v { s with toks := tk' }) → wpAny (model W.prog W.w) A (t (.int a u) (.int b u')) Q E s) :
    OpOk W lv [.int a, .int b] (fun vs => t (vs.getD 0 .none) (vs.getD 1 .none)) d := by
  intro A h₀ fenv L m mu fz s vs Q E hA S R k
  cases R with
  | cons r1 R => cases R with
    | cons r2 R => cases R; cases r1; cases r2; exact h A E s _ _ Q hA.hh fun v tk' hr => k v fz s.heap tk' (Sub.refl _) S (hr _)
theorem op_of_int {t : Value → Sem Value} {d : Dat} (h : ∀ (A : Around) (E : Value → Shared → Prop) (s : Shared) (u : Tok) (Q : Value → Shared → Prop), A.handled = none → (∀ v tk', (∀ X, Rep X v d) → Q v { s with toks := tk' }) → wpAny (model W.prog W.w) A (t (.int a u)) Q E s) :
    OpOk W lv [.int a] (fun vs => t (vs.getD 0 .none)) d := by
  intro A h₀ fenv L m mu fz s vs Q E hA S R k
  cases R with
  | cons r1 R => cases R; cases r1; exact h A E s _ Q hA.hh fun v tk' hr => k v fz s.heap tk' (Sub.refl _) S (hr _)
theorem op_add : OpOk W lv [.int a, .int b] (fun vs => binaryOp .Add (vs.getD 0 .none) (vs.getD 1 .none)) (.int (a + b)) :=
  op_of_ints fun _ _ _ _ _ _ _ k => AutoIntOps.add_0 (k _ _ fun _ => .int _ _)
theorem op_sub : OpOk W lv [.int a, .int b] (fun vs => binaryOp .Sub (vs.getD 0 .none) (vs.getD 1 .none)) (.int (a - b)) :=
  op_of_ints fun _ _ _ _ _ _ _ k => AutoIntOps.sub_0 (k _ _ fun _ => .int _ _)
theorem op_mul (h : IntMulOk a b) : OpOk W lv [.int a, .int b] (fun vs => binaryOp .Mult (vs.getD 0 .none) (vs.getD 1 .none)) (.int (a * b)) :=
  op_of_ints fun _ _ _ _ _ _ _ k => AutoIntOps.mul_0 (k _ _ fun _ => .int _ _) h
theorem op_fdiv (h : b ≠ 0) (hp : Builtin.divisionGoesByPylong a b = false) : OpOk W lv [.int a, .int b] (fun vs => binaryOp .FloorDiv (vs.getD 0 .none) (vs.getD 1 .none)) (.int (a.fdiv b)) :=
  op_of_ints fun _ _ _ _ _ _ _ k => AutoIntOps.floordiv_1 (by simpa using h) (by simp [hp]) (k _ _ fun _ => .int _ _)
theorem op_mod (h : b ≠ 0) : OpOk W lv [.int a, .int b] (fun vs => binaryOp .Mod (vs.getD 0 .none) (vs.getD 1 .none)) (.int (a.fmod b)) :=
  op_of_ints fun _ _ _ _ _ _ _ k => AutoIntOps.mod_1 (by simpa using h) (k _ _ fun _ => .int _ _)
end
end Mine
end
section
open PySem PySem.W PyProof.Rows
set_option maxRecDepth 100000
namespace Mine
open PySem.Calls PySem.Spec PySem.SeqAt

/-! == of data -/
noncomputable def deqL (f : Dat → Dat → Option Bool) : List Dat → List Dat → Option Bool
  | [], [] => some true
  | x :: xs, y :: ys => match f x y, deqL f xs ys with
    | some a, some b => some (a && b)
    | _, _ => none
  | _, _ => some false
noncomputable def deqn : Nat → Dat → Dat → Option Bool
  | _, .none, .none => some true
  | _, .bool a, .bool b => some (a == b)
  | _, .int a, .int b => some (a == b)
  | _, .str a, .str b => some (a == b)
  | _, .bytes a, .bytes b => some (decide (a.toList = b.toList))
  | k + 1, .tuple a, .tuple b => if a.length = b.length then deqL (deqn k) a b else none
  | k + 1, .list a, .list b => if a.length = b.length then deqL (deqn k) a b else some false
  | _, _, _ => none
theorem deqL_spec {f : Dat → Dat → Option Bool} : ∀ {a b : List Dat} {r : Bool}, a.length = b.length → deqL f a b = some r →
    ∃ e : Nat → Bool, (∀ (j : Nat) (x y : Dat), a[j]? = some x → b[j]? = some y → f x y = some (e j)) ∧ (List.range a.length).all e = r
  | [], [], r, _, h => ⟨fun _ => true, fun j x y hx => by simp at hx, by simp [deqL] at h; simp [h]⟩
  | [], _ :: _, _, hl, _ => by simp at hl
  | _ :: _, [], _, hl, _ => by simp at hl
  | x :: xs, y :: ys, r, hl, h => by
    unfold deqL at h
    cases h1 : f x y with
    | none => rw [h1] at h; simp at h
    | some p =>
      cases h2 : deqL f xs ys with
      | none => rw [h1, h2] at h; simp at h
      | some q =>
        rw [h1, h2] at h
        obtain ⟨e, he, hr⟩ := deqL_spec (by simpa using hl) h2
        refine ⟨fun j => match j with | 0 => p | j + 1 => e j, fun j u v hu hv => ?_, ?_⟩
        · cases j with
          | zero => simp at hu hv; subst hu; subst hv; exact h1
          | succ j => exact he j u v (by simpa using hu) (by simpa using hv)
        · simp only [List.length_cons, List.range_succ_eq_map, List.all_cons, List.all_map]
          have e2 : ((fun j => match j with | 0 => p | j + 1 => e j) ∘ Nat.succ) = e := by funext j; rfl
          rw [e2, hr]
          simpa using h
theorem deqL_refl {f : Dat → Dat → Option Bool} (hf : ∀ d b, f d d = some b → b = true) : ∀ {a : List Dat} {r : Bool}, deqL f a a = some r → r = true
  | [], r, h => by simp [deqL] at h; exact h
  | x :: xs, r, h => by
    unfold deqL at h
    cases h1 : f x x with
    | none => rw [h1] at h; simp at h
    | some p =>
      cases h2 : deqL f xs xs with
      | none => rw [h1, h2] at h; simp at h
      | some q =>
        rw [h1, h2] at h
        have := hf _ _ h1; have := deqL_refl hf h2
        subst p; subst q; simpa using h.symm
theorem deqn_refl : ∀ (k : Nat) (d : Dat) (b : Bool), deqn k d d = some b → b = true
  | 0, d, b, h => by cases d <;> simp [deqn] at h <;> exact h
  | k + 1, d, b, h => by
    cases d with
    | tuple a => simp only [deqn, if_true] at h; exact deqL_refl (deqn_refl k) h
    | list a => simp only [deqn, if_true] at h; exact deqL_refl (deqn_refl k) h
    | none => simp [deqn] at h; exact h
    | bool _ => simp [deqn] at h; exact h
    | int _ => simp [deqn] at h; exact h
    | str _ => simp [deqn] at h; exact h
    | bytes _ => simp [deqn] at h; exact h
mutual
theorem Rep.inj {X : Fact} (hX : ∀ a o o', X a o → X a o' → o = o') : ∀ {v : Value} {d e : Dat}, Rep X v d → Rep X v e → d = e
  | _, _, _, .none, .none => rfl
  | _, _, _, .bool _, .bool _ => rfl
  | _, _, _, .int _ _, .int _ _ => rfl
  | _, _, _, .str _ _, .str _ _ => rfl
  | _, _, _, .bytes _ _, .bytes _ _ => rfl
  | _, _, _, .tuple (vs := vs) h c d r, .tuple (vs := vs') h' c' d' r' => by
    have := hX _ _ _ h h'; subst this
    rw [d] at d'; injection d' with e1 e2
    have e3 : vs = vs' := by have := congrArg Array.toList e1; simpa using this
    subst e3
    rw [RepA.inj hX r r']
  | _, _, _, .list (vs := vs) h c d r, .list (vs := vs') h' c' d' r' => by
    have := hX _ _ _ h h'; subst this
    rw [d] at d'; injection d' with e1 e2
    have e3 : vs = vs' := by have := congrArg Array.toList e1; simpa using this
    subst e3
    rw [RepA.inj hX r r']
  | _, _, _, .tuple h c _ _, .list h' c' _ _ => by have := hX _ _ _ h h'; subst this; rw [c] at c'; simp at c'
  | _, _, _, .list h c _ _, .tuple h' c' _ _ => by have := hX _ _ _ h h'; subst this; rw [c] at c'; simp at c'
theorem RepA.inj {X : Fact} (hX : ∀ a o o', X a o → X a o' → o = o') : ∀ {vs : List Value} {ds es : List Dat}, RepA X vs ds → RepA X vs es → ds = es
  | _, _, _, .nil, .nil => rfl
  | _, _, _, .cons h r, .cons h' r' => by rw [Rep.inj hX h h', RepA.inj hX r r']
end

theorem EqAt.bytes_bytes {A : Around} {s : Shared} (a : Array UInt8) (t : Tok) (b : Array UInt8) (u : Tok) : EqAt A s (.bytes a t) (.bytes b u) (decide (a.toList = b.toList)) :=
  fun _ _ _ _ hq => eqBool_bytes hq
theorem RcAt.bytes_bytes {A : Around} {s : Shared} (a : Array UInt8) (t : Tok) (b : Array UInt8) (u : Tok) : RcAt A s (.bytes a t) (.bytes b u) (decide (a.toList = b.toList)) :=
  fun _ _ _ _ hq => eq_bytes (by rw [show (a.toList == b.toList) = decide (a.toList = b.toList) by rw [Bool.eq_iff_iff]; simp]; exact hq)
theorem RcNeAt.bytes_bytes {A : Around} {s : Shared} (a : Array UInt8) (t : Tok) (b : Array UInt8) (u : Tok) : RcNeAt A s (.bytes a t) (.bytes b u) (!decide (a.toList = b.toList)) :=
  fun _ _ _ _ hq => ne_bytes (by rw [show (a.toList != b.toList) = !decide (a.toList = b.toList) by rw [bne, Bool.not_eq_eq_eq_not, Bool.not_not, Bool.eq_iff_iff]; simp]; exact hq)

/-- all facts of == at once -/
structure EqAll (A : Around) (s : Shared) (v w : Value) (b : Bool) : Prop where
  eq : EqAt A s v w b
  rc : RcAt A s v w b
  ne : RcNeAt A s v w (!b)
theorem eq_all {X : Fact} {s : Shared} (hX : ∀ a o, X a o → s.heap.get? a = some o) : ∀ (k : Nat) {A : Around} {v w : Value} {d e : Dat} {b : Bool}, A.units + k < cLine → Rep X v d → Rep X w e → deqn k d e = some b → EqAll A s v w b := by
  have inj : ∀ a o o', X a o → X a o' → o = o' := fun a o o' h h' => by have := hX _ _ h; rw [hX _ _ h'] at this; exact (Option.some.inj this).symm
  have flat : ∀ (k : Nat) {A : Around} {v w : Value} {d e : Dat} {b : Bool}, Rep X v d → Rep X w e → deqn k d e = some b → (∀ a, v ≠ .ref a) → EqAll A s v w b := by
    intro k A v w d e b rv rw h hn
    cases rv with
    | none => cases rw <;> simp [deqn] at h; subst h; exact ⟨EqAt.same _, RcAt.none_none, RcNeAt.none_none⟩
    | bool x => cases rw <;> simp [deqn] at h; subst h; exact ⟨EqAt.bool_bool _ _, RcAt.bool_bool _ _, RcNeAt.bool_bool _ _⟩
    | int x t => cases rw <;> simp [deqn] at h; subst h; exact ⟨EqAt.int_int _ _ _ _, RcAt.int_int _ _ _ _, RcNeAt.int_int _ _ _ _⟩
    | str x t => cases rw <;> simp [deqn] at h; subst h; exact ⟨EqAt.str_str _ _ _ _, RcAt.str_str _ _ _ _, RcNeAt.str_str _ _ _ _⟩
    | bytes x t => cases rw <;> simp only [deqn, reduceCtorEq, Option.some.injEq] at h; subst h; exact ⟨EqAt.bytes_bytes _ _ _ _, RcAt.bytes_bytes _ _ _ _, RcNeAt.bytes_bytes _ _ _ _⟩
    | tuple => exact absurd rfl (hn _)
    | list => exact absurd rfl (hn _)
  intro k
  induction k with
  | zero =>
    intro A v w d e b hu rv rw h
    refine flat 0 rv rw h fun a q => ?_
    subst q
    cases rv <;> cases rw <;> simp [deqn] at h
  | succ k ih =>
    intro A v w d e b hu rv rw h
    have sub : ∀ {vs ws : List Value} {ds es : List Dat} {r : Bool}, RepA X vs ds → RepA X ws es → ds.length = es.length → deqL (deqn k) ds es = some r →
        ∃ e : Nat → Bool, (∀ j (h1 : j < vs.toArray.size) (h2 : j < ws.toArray.size), EqAt A.in1 s vs.toArray[j] ws.toArray[j] (e j)) ∧ (List.range vs.toArray.size).all e = r := by
      intro vs ws ds es r hv hw hl hd
      obtain ⟨e, he, hr⟩ := deqL_spec hl hd
      refine ⟨e, fun j h1 h2 => ?_, by rw [List.size_toArray, hv.length]; exact hr⟩
      have g1 : vs[j]? = some vs.toArray[j] := by simp at h1 ⊢
      have g2 : ws[j]? = some ws.toArray[j] := by simp at h2 ⊢
      obtain ⟨x, hx, rx⟩ := hv.get' g1
      obtain ⟨y, hy, ry⟩ := hw.get' g2
      exact (ih (A := A.in1) (by show A.units + 1 + k < cLine; (clear ry hy rx hx g2 g1 h2 h1 hr he hd hl hw hv h rw rv ih flat inj hX; lia)) rx ry (he j x y hx hy)).eq
    cases rv with
    | none => exact flat _ .none rw h (fun a q => nomatch q)
    | bool x => exact flat _ (.bool x) rw h (fun a q => nomatch q)
    | int x t => exact flat _ (.int x t) rw h (fun a q => nomatch q)
    | str x t => exact flat _ (.str x t) rw h (fun a q => nomatch q)
    | bytes x t => exact flat _ (.bytes x t) rw h (fun a q => nomatch q)
    | @tuple l o vs n ds hl hc hd hr =>
      cases rw with
      | @tuple l' o' ws n' es hl' hc' hd' hr' =>
        simp only [deqn] at h
        by_cases hlen : ds.length = es.length
        · rw [if_pos hlen] at h
          obtain ⟨e, he, hrr⟩ := sub hr hr' hlen h
          have il : s.heap.IsTuple l vs.toArray := ⟨o, hX _ _ hl, hc, n, hd⟩
          have il' : s.heap.IsTuple l' ws.toArray := ⟨o', hX _ _ hl', hc', n', hd'⟩
          have hsz : vs.toArray.size = ws.toArray.size := by rw [List.size_toArray, List.size_toArray, hr.length, hr'.length, hlen]
          have e0 : ((List.range (min vs.toArray.size ws.toArray.size)).all e && vs.toArray.size == ws.toArray.size) = b := by rw [hsz, Nat.min_self, ← hsz, hrr]; simp
          have rc := RcAt.tuples il il' (by (clear e0 hsz il' il hrr he hlen h hr' hd' hc' hl' hr hd hc hl sub ih flat inj hX; lia)) he
          have ne := RcNeAt.tuples il il' (by (clear rc e0 hsz il' il hrr he hlen h hr' hd' hc' hl' hr hd hc hl sub ih flat inj hX; lia)) he
          rw [e0] at rc ne
          refine ⟨?_, rc, ne⟩
          by_cases hll : l = l'
          · subst hll
            have e1 := Rep.inj inj (.tuple hl hc hd hr) (.tuple hl' hc' hd' hr')
            injection e1 with e1; subst e1
            have : b = true := deqL_refl (deqn_refl k) h
            subst this
            exact EqAt.same _
          · exact EqAt.of_refs hll rc
        · rw [if_neg hlen] at h; cases h
      | none => simp [deqn] at h
      | bool _ => simp [deqn] at h
      | int _ _ => simp [deqn] at h
      | str _ _ => simp [deqn] at h
      | bytes _ _ => simp [deqn] at h
      | list _ _ _ _ => simp [deqn] at h
    | @list l o vs n ds hl hc hd hr =>
      cases rw with
      | @list l' o' ws n' es hl' hc' hd' hr' =>
        simp only [deqn] at h
        have il : s.heap.IsList l vs.toArray := ⟨o, hX _ _ hl, hc, n, hd⟩
        have il' : s.heap.IsList l' ws.toArray := ⟨o', hX _ _ hl', hc', n', hd'⟩
        by_cases hlen : ds.length = es.length
        · rw [if_pos hlen] at h
          obtain ⟨e, he, hrr⟩ := sub hr hr' hlen h
          have hsz : vs.toArray.size = ws.toArray.size := by rw [List.size_toArray, List.size_toArray, hr.length, hr'.length, hlen]
          have rc := RcAt.lists il il' hsz (by (clear hsz hrr he hlen il' il h hr' hd' hc' hl' hr hd hc hl sub ih flat inj hX; lia)) he
          have ne := RcNeAt.lists il il' hsz (by (clear rc hsz hrr he hlen il' il h hr' hd' hc' hl' hr hd hc hl sub ih flat inj hX; lia)) he
          rw [hrr] at rc ne
          refine ⟨?_, rc, ne⟩
          by_cases hll : l = l'
          · subst hll
            have e1 := Rep.inj inj (.list hl hc hd hr) (.list hl' hc' hd' hr')
            injection e1 with e1; subst e1
            have : b = true := deqL_refl (deqn_refl k) h
            subst this
            exact EqAt.same _
          · exact EqAt.of_refs hll rc
        · rw [if_neg hlen] at h
          cases h
          have hsz : (vs.toArray.size != ws.toArray.size) = true := by
            rw [List.size_toArray, List.size_toArray, hr.length, hr'.length]; simpa using hlen
          have rc := RcAt.lists_lengths il il' hsz (by (clear hsz hlen il' il hr' hd' hc' hl' hr hd hc hl sub ih flat inj hX; lia) : A.units < cLine)
          refine ⟨EqAt.of_refs (fun q => ?_) rc, rc, RcNeAt.lists_lengths il il' hsz (by (clear rc hsz hlen il' il hr' hd' hc' hl' hr hd hc hl sub ih flat inj hX; lia))⟩
          subst q
          have e1 := Rep.inj inj (.list hl hc hd hr) (.list hl' hc' hd' hr')
          injection e1 with e1; subst e1; exact hlen rfl
      | none => simp [deqn] at h
      | bool _ => simp [deqn] at h
      | int _ _ => simp [deqn] at h
      | str _ _ => simp [deqn] at h
      | bytes _ _ => simp [deqn] at h
      | tuple _ _ _ _ => simp [deqn] at h

/-- all of a datum's facts hold -/
theorem SS.facts {W : Wd} {h₀ : Heap} {L : Addr} {m : Str → Option Value} {mu fz : Led} {s : Shared} (S : SS W h₀ L m mu fz s.heap) : ∀ a o, Hs W.base fz a o → s.heap.get? a = some o := fun _ _ h => S.has h

section
variable {W : Wd} {lv : Nat} {d e : Dat} {b : Bool}
theorem op_eq (h : deqn 8 d e = some b) : OpOk W lv [d, e] (fun vs => compareOp .Eq (vs.getD 0 .none) (vs.getD 1 .none)) (.bool b) := by
  intro A h₀ fenv L m mu fz s vs Q E hA S R k
  cases R with
  | cons r1 R => cases R with
    | cons r2 R =>
      cases R
      have := hA.un
      exact (eq_all S.facts 8 (by (clear r2 r1 k S hA h; lia)) r1 r2 h).rc W.prog W.w E Q (k _ fz s.heap s.toks (Sub.refl _) S (.bool b))
theorem op_ne (h : deqn 8 d e = some b) : OpOk W lv [d, e] (fun vs => compareOp .NotEq (vs.getD 0 .none) (vs.getD 1 .none)) (.bool (!b)) := by
  intro A h₀ fenv L m mu fz s vs Q E hA S R k
  cases R with
  | cons r1 R => cases R with
    | cons r2 R =>
      cases R
      have := hA.un
      exact (eq_all S.facts 8 (by (clear r2 r1 k S hA h; lia)) r1 r2 h).ne W.prog W.w E Q (k _ fz s.heap s.toks (Sub.refl _) S (.bool (!b)))
end
end Mine
end
section
open PySem PySem.W PyProof.Rows
set_option maxRecDepth 100000
namespace Mine
open PySem.Calls PySem.Spec PySem.SeqAt

/-! truth -/
noncomputable def truthD : Dat → Option Bool
  | .bool b => some b
  | .int i => some (i != 0)
  | .none => some false
  | .list ds => if ds.length ≤ 1048576 then some (!ds.isEmpty) else none
  | _ => none
theorem truthy_dat {W : Wd} {h₀ : Heap} {L : Addr} {m : Str → Option Value} {mu fz : Led} {A : Around} {s : Shared} {v : Value} {d : Dat} {b : Bool} {Q : Bool → Shared → Prop} {E : Value → Shared → Prop}
    (S : SS W h₀ L m mu fz s.heap) (R : Rep (Hs W.base fz) v d) (h : truthD d = some b) (k : ∀ tk', Q b { s with toks := tk' }) : wpAny (model W.prog W.w) A (truthy v) Q E s := by
  cases R with
  | none => cases h; exact PyProof.Rows.truthy_none (k s.toks)
  | bool b' => cases h; exact wpAny_truthy_bool (k s.toks)
  | int i t => cases h; exact truthy_int (k s.toks)
  | str x t => cases h
  | bytes b' t => cases h
  | tuple _ _ _ _ => cases h
  | @list a o vs n ds ho hc hd r =>
    simp only [truthD] at h
    split at h
    · rename_i hl
      cases h
      refine wpAny_truthy_list ⟨o, S.has ho, hc, n, hd⟩ ?_ ?_
      · rw [List.size_toArray, r.length]; lia
      · have e : (!vs.toArray.isEmpty) = !ds.isEmpty := by
          have := r.length
          cases vs <;> cases ds <;> simp_all
        rw [e]; exact k _
    · cases h

section
variable {W : Wd} {lv : Nat} {sc : Scope} {ρ : Names}
theorem et_cmp {op : CmpOp} {l r : Expr} {pos : Pos} {d₁ d₂ : Dat} {b : Bool} (h₁ : EV W lv sc ρ l (.dat d₁)) (h₂ : EV W lv sc ρ r (.dat d₂))
    (ho : OpOk W lv [d₁, d₂] (fun vs => compareOp op (vs.getD 0 .none) (vs.getD 1 .none)) (.bool b)) (hm : behindInMarks op r = false := by with_unfolding_all rfl) : ET W lv sc ρ (.Compare l [op] [r] pos) b := by
  intro A h₀ fenv L m mu fz env s Q E hA hE S hN k
  refine wpAny_isTrue_Compare1 (h₁ A h₀ fenv L m mu fz env s _ _ hA hE S hN fun v₁ fz₁ h₁' t₁ s₁ S₁ R₁ => ?_) hm
  refine h₂ A h₀ fenv L m mu fz₁ env _ _ _ hA hE S₁ (hN.grow s₁) fun v₂ fz₂ h₂' t₂ s₂ S₂ R₂ => ?_
  refine ho A h₀ fenv L m mu fz₂ _ [v₁, v₂] _ _ hA S₂ (.cons (Rep.mono (Hs.sub s₂) R₁) (.cons R₂ .nil)) fun v fz' h' t' s' S' R' => ?_
  cases R'
  exact wpAny_truthy_bool (k fz' h' t' (s₁.trans (s₂.trans s')) S')
theorem et_chain2 {op op' : CmpOp} {l r r' : Expr} {pos : Pos} {d₁ d₂ d₃ : Dat} {b b' : Bool} (h₁ : EV W lv sc ρ l (.dat d₁)) (h₂ : EV W lv sc ρ r (.dat d₂)) (h₃ : EV W lv sc ρ r' (.dat d₃))
    (ho : OpOk W lv [d₁, d₂] (fun vs => compareOp op (vs.getD 0 .none) (vs.getD 1 .none)) (.bool b))
    (ho' : OpOk W lv [d₂, d₃] (fun vs => compareOp op' (vs.getD 0 .none) (vs.getD 1 .none)) (.bool b')) (hm : lastMarks [op, op'] [r, r'] = false := by with_unfolding_all rfl) : ET W lv sc ρ (.Compare l [op, op'] [r, r'] pos) (b && b') := by
  intro A h₀ fenv L m mu fz env s Q E hA hE S hN k
  refine isTrue_chain (h₁ A h₀ fenv L m mu fz env s _ _ hA hE S hN fun v₁ fz₁ h₁' t₁ s₁ S₁ R₁ => ?_) hm
  refine test_link (h₂ A h₀ fenv L m mu fz₁ env _ _ _ hA hE S₁ (hN.grow s₁) fun v₂ fz₂ h₂' t₂ s₂ S₂ R₂ => ?_)
  refine ho A h₀ fenv L m mu fz₂ _ [v₁, v₂] _ _ hA S₂ (.cons (Rep.mono (Hs.sub s₂) R₁) (.cons R₂ .nil)) fun v fz' h' t' s' S' R' => ?_
  cases R'
  refine wpAny_truthy_bool ?_
  cases b with
  | false => exact k fz' h' t' (s₁.trans (s₂.trans s')) S'
  | true =>
    refine test_last (h₃ A h₀ fenv L m mu fz' env _ _ _ hA hE S' (hN.grow (s₁.trans (s₂.trans s'))) fun v₃ fz₃ h₃' t₃ s₃ S₃ R₃ => ?_)
    refine ho' A h₀ fenv L m mu fz₃ _ [v₂, v₃] _ _ hA S₃ (.cons (Rep.mono (Hs.sub (s'.trans s₃)) R₂) (.cons R₃ .nil)) fun v fz₄ h₄ t₄ s₄ S₄ R₄ => ?_
    cases R₄
    exact wpAny_truthy_bool (k fz₄ h₄ t₄ (s₁.trans (s₂.trans (s'.trans (s₃.trans s₄)))) S₄)
theorem et_not {x : Expr} {pos : Pos} {b : Bool} (h : ET W lv sc ρ x b) : ET W lv sc ρ (.UnaryOp .Not x pos) (!b) := by
  intro A h₀ fenv L m mu fz env s Q E hA hE S hN k
  exact wpAny_isTrue_Not (h A h₀ fenv L m mu fz env s _ E hA hE S hN fun fz' h' t' s' S' => k fz' h' t' s' S')
/-- of plain expressions: names, calls, items -/
theorem et_val {e : Expr} {d : Dat} {b : Bool} (h : EV W lv sc ρ e (.dat d)) (ht : truthD d = some b) (he : ∀ env whole, isTrue e env whole = (do let v ← whole; standAt e.pos; holding [v] (truthy v)) := by intros; rfl) : ET W lv sc ρ e b := by
  intro A h₀ fenv L m mu fz env s Q E hA hE S hN k
  refine wpAny_isTrue_value (h A h₀ fenv L m mu fz env s _ _ hA hE S hN fun v fz' h' t' s' S' R' => ?_) (he _ _)
  exact truthy_dat S' R' ht fun tk' => k fz' h' tk' s' S'

inductive ETs (W : Wd) (lv : Nat) (sc : Scope) (ρ : Names) (op : BoolOp) : List Expr → Bool → Prop
  | nil : ETs W lv sc ρ op [] (match op with | .And => true | .Or => false)
  | stop {x : Expr} {xs : List Expr} {b : Bool} : ET W lv sc ρ x b → b = (match op with | .And => false | .Or => true) → ETs W lv sc ρ op (x :: xs) b
  | go {x : Expr} {xs : List Expr} {b c : Bool} : ET W lv sc ρ x b → b = (match op with | .And => true | .Or => false) → ETs W lv sc ρ op xs c → ETs W lv sc ρ op (x :: xs) c
theorem et_all {op : BoolOp} {xs : List Expr} {b : Bool} (h : ETs W lv sc ρ op xs b) : ∀ (A : Around) (h₀ : Heap) (fenv : Env) (L : Addr) (m : Str → Option Value) (mu fz : Led) (env : Env) (s : Shared) (Q : Bool → Shared → Prop) (E : Value → Shared → Prop),
    AOk W lv A h₀ fenv L → EnvOk env sc → SS W h₀ L m mu fz s.heap → NamesOk W env L m mu (mu ++ fz) (Hs W.base fz) ρ →
    (∀ fz' h' tk', Sub fz fz' → SS W h₀ L m mu fz' h' → Q b { s with heap := h', toks := tk' }) → wpAny (model W.prog W.w) A (allTrue op xs env) Q E s := by
  induction h with
  | nil =>
    intro A h₀ fenv L m mu fz env s Q E hA hE S hN k
    cases op with
    | And => exact wpAny_allTrue_And_nil (k fz _ _ (Sub.refl _) S)
    | Or => exact wpAny_allTrue_Or_nil (k fz _ _ (Sub.refl _) S)
  | stop h hb =>
    intro A h₀ fenv L m mu fz env s Q E hA hE S hN k
    subst hb
    cases op with
    | And => exact wpAny_allTrue_And_cons (h A h₀ fenv L m mu fz env s _ E hA hE S hN fun fz' h' t' s' S' => k fz' h' t' s' S')
    | Or => exact wpAny_allTrue_Or_cons (h A h₀ fenv L m mu fz env s _ E hA hE S hN fun fz' h' t' s' S' => k fz' h' t' s' S')
  | go h hb _ ih =>
    intro A h₀ fenv L m mu fz env s Q E hA hE S hN k
    subst hb
    cases op with
    | And => exact wpAny_allTrue_And_cons (h A h₀ fenv L m mu fz env s _ E hA hE S hN fun fz' h' t' s' S' => ih A h₀ fenv L m mu fz' env _ Q E hA hE S' (hN.grow s') fun fz₂ h₂ t₂ s₂ S₂ => k fz₂ h₂ t₂ (s'.trans s₂) S₂)
    | Or => exact wpAny_allTrue_Or_cons (h A h₀ fenv L m mu fz env s _ E hA hE S hN fun fz' h' t' s' S' => ih A h₀ fenv L m mu fz' env _ Q E hA hE S' (hN.grow s') fun fz₂ h₂ t₂ s₂ S₂ => k fz₂ h₂ t₂ (s'.trans s₂) S₂)
theorem et_bool {op : BoolOp} {xs : List Expr} {pos : Pos} {b : Bool} (h : ETs W lv sc ρ op xs b) : ET W lv sc ρ (.BoolOp op xs pos) b := by
  intro A h₀ fenv L m mu fz env s Q E hA hE S hN k
  exact wpAny_isTrue_BoolOp (et_all h A h₀ fenv L m mu fz env s Q E hA hE S hN k)
theorem et_or2 {x y : Expr} {pos : Pos} {a b : Bool} (h : ET W lv sc ρ x a) (k : a = false → ET W lv sc ρ y b) : ET W lv sc ρ (.BoolOp .Or [x, y] pos) (a || b) := by
  cases a with
  | true => exact et_bool (.stop h rfl)
  | false => exact et_bool (.go h rfl (by cases b with
    | true => exact .stop (k rfl) rfl
    | false => exact .go (k rfl) rfl .nil))
theorem et_or3 {x y z : Expr} {pos : Pos} {a b c : Bool} (h : ET W lv sc ρ x a) (k : a = false → ET W lv sc ρ y b) (l : a = false → b = false → ET W lv sc ρ z c) : ET W lv sc ρ (.BoolOp .Or [x, y, z] pos) (a || (b || c)) := by
  cases a with
  | true => exact et_bool (.stop h rfl)
  | false => exact et_bool (.go h rfl (by cases b with
    | true => exact .stop (k rfl) rfl
    | false => exact .go (k rfl) rfl (by cases c with
      | true => exact .stop (l rfl rfl) rfl
      | false => exact .go (l rfl rfl) rfl .nil)))
theorem ev_ifexp {t x y : Expr} {pos : Pos} {b : Bool} {pv : PV} (h : ET W lv sc ρ t b) (hx : b = true → EV W lv sc ρ x pv) (hy : b = false → EV W lv sc ρ y pv) : EV W lv sc ρ (.IfExp t x y pos) pv := by
  intro A h₀ fenv L m mu fz env s Q E hA hE S hN k
  refine wpAny_IfExp (h A h₀ fenv L m mu fz env s _ E hA hE S hN fun fz' h' t' s' S' => ?_)
  cases b with
  | true => exact hx rfl A h₀ fenv L m mu fz' env _ Q E hA hE S' (hN.grow s') fun v fz₂ h₂ t₂ s₂ => k v fz₂ h₂ t₂ (s'.trans s₂)
  | false => exact hy rfl A h₀ fenv L m mu fz' env _ Q E hA hE S' (hN.grow s') fun v fz₂ h₂ t₂ s₂ => k v fz₂ h₂ t₂ (s'.trans s₂)
end

/-! lists of expressions -/
noncomputable def PRepA (W : Wd) (X : Fact) (MU : Led) : List Value → List PV → Prop
  | [], [] => True
  | v :: vs, p :: ps => PRep W X MU v p ∧ PRepA W X MU vs ps
  | _, _ => False
theorem PRepA.mono {W : Wd} {X Y : Fact} {MU MU' : Led} (s : FSub X Y) (t : Sub MU MU') : ∀ {vs : List Value} {ps : List PV}, PRepA W X MU vs ps → PRepA W Y MU' vs ps
  | [], [], _ => trivial
  | _ :: _, _ :: _, h => ⟨h.1.mono s t, h.2.mono s t⟩
theorem PRepA.dats {W : Wd} {X : Fact} {MU : Led} : ∀ {vs : List Value} {ds : List Dat}, PRepA W X MU vs (ds.map .dat) → RepA X vs ds
  | [], [], _ => .nil
  | _ :: _, _ :: _, h => .cons h.1 (PRepA.dats h.2)
  | [], _ :: _, h => h.elim
  | _ :: _, [], h => h.elim
noncomputable def nStar : Expr → Bool
  | .Starred .. => false
  | _ => true
theorem starEach_cons {e : Expr} {rest : List Expr} {env : Env} (h : nStar e = true) : starEach (e :: rest) env = (false, eval e env) :: starEach rest env := by
  cases e <;> first | rfl | cases h
theorem backTo_cons {pos : Pos} {t : Sem Value} {ts : List (Bool × Sem Value)} : backTo pos ((false, t) :: ts) = (false, t) :: backTo pos ts := rfl
inductive EVs (W : Wd) (lv : Nat) (sc : Scope) (ρ : Names) : List Expr → List PV → Prop
  | nil : EVs W lv sc ρ [] []
  | cons {e : Expr} {es : List Expr} {p : PV} {ps : List PV} : nStar e = true → EV W lv sc ρ e p → EVs W lv sc ρ es ps → EVs W lv sc ρ (e :: es) (p :: ps)

noncomputable def ContA (W : Wd) (h₀ : Heap) (L : Addr) (m : Str → Option Value) (mu fz : Led) (s : Shared) (ps : List PV) (Q : List Value → Shared → Prop) : Prop :=
  ∀ vs fz' h' tk', Sub fz fz' → SS W h₀ L m mu fz' h' → PRepA W (Hs W.base fz') mu vs ps → Q vs { s with heap := h', toks := tk' }
section
variable {W : Wd} {lv : Nat} {sc : Scope} {ρ : Names}
theorem spliced_ok {es : List Expr} {ps : List PV} {pos : Pos} (h : EVs W lv sc ρ es ps) : ∀ (A : Around) (h₀ : Heap) (fenv : Env) (L : Addr) (m : Str → Option Value) (mu fz : Led) (env : Env) (s : Shared) (Q : List Value → Shared → Prop) (E : Value → Shared → Prop),
    AOk W lv A h₀ fenv L → EnvOk env sc → SS W h₀ L m mu fz s.heap → NamesOk W env L m mu (mu ++ fz) (Hs W.base fz) ρ → ContA W h₀ L m mu fz s ps Q →
    wpAny (model W.prog W.w) A (spliced (backTo pos (starEach es env))) Q E s := by
  induction h with
  | nil =>
    intro A h₀ fenv L m mu fz env s Q E hA hE S hN k
    exact Calls.spliced_nil (k [] fz s.heap s.toks (Sub.refl _) S trivial)
  | cons hn h _ ih =>
    intro A h₀ fenv L m mu fz env s Q E hA hE S hN k
    rw [starEach_cons hn, backTo_cons]
    refine Calls.spliced_cons (h A h₀ fenv L m mu fz env s _ E hA hE S hN fun v fz' h' t' s' S' R' => ?_)
    refine ih A h₀ fenv L m mu fz' env _ _ E hA hE S' (hN.grow s') fun vs fz₂ h₂ t₂ s₂ S₂ R₂ => ?_
    exact k _ fz₂ h₂ t₂ (s'.trans s₂) S₂ ⟨R'.mono (Hs.sub s₂) (Sub.refl _), R₂⟩
theorem evs_star {es : List Expr} {ps : List PV} {pos : Pos} {env : Env} (h : EVs W lv sc ρ es ps) : (backTo pos (starEach es env)).any (·.1) = false := by
  induction h with
  | nil => rfl
  | cons hn h _ ih => rw [starEach_cons hn, backTo_cons, List.any_cons, ih]; rfl
theorem evalArgs_ok {es : List Expr} {ps : List PV} {pos : Pos} {f : Value} (h : EVs W lv sc ρ es ps) (A : Around) (h₀ : Heap) (fenv : Env) (L : Addr) (m : Str → Option Value) (mu fz : Led) (env : Env) (s : Shared) (Q : Args → Shared → Prop) (E : Value → Shared → Prop)
    (hA : AOk W lv A h₀ fenv L) (hE : EnvOk env sc) (S : SS W h₀ L m mu fz s.heap) (hN : NamesOk W env L m mu (mu ++ fz) (Hs W.base fz) ρ) (k : ContA W h₀ L m mu fz s ps fun vs s' => Q ⟨vs, []⟩ s') :
    wpAny (model W.prog W.w) A (evalArgs f true (backTo pos (starEach es env)) []) Q E s := by
  cases h with
  | nil => exact PySem.evalArgs_none (k [] fz s.heap s.toks (Sub.refl _) S trivial)
  | cons hn h hs =>
    have := spliced_ok (pos := pos) (.cons hn h hs) A h₀ fenv L m mu fz env s _ E hA hE S hN k
    rw [starEach_cons hn, backTo_cons] at this ⊢
    exact Calls.evalArgs_plain this
theorem ev_tuple {es : List Expr} {ds : List Dat} {kd : Nat} {pos : Pos} (h : EVs W lv sc ρ es (ds.map .dat)) (hz : ds.length ≤ 1048576 := by decide) : EV W lv sc ρ (.Tuple es kd pos) (.dat (.tuple ds)) := by
  intro A h₀ fenv L m mu fz env s Q E hA hE S hN k
  refine wpAny_Tuple (spliced_ok h A h₀ fenv L m mu fz env s _ E hA hE S hN fun vs fz' h' t' s' S' R' => ⟨?_, ?_⟩)
  · have := R'.dats.length; rw [sizeLine_eq]; (clear R' S' s' k hN S hE hA h; lia)
  · exact k _ _ _ _ (s'.trans .cons) (S'.push _) (.tuple (.inr (.head _)) rfl rfl (R'.dats.mono (Hs.sub .cons)))
theorem ev_list {es : List Expr} {ds : List Dat} {pos : Pos} (h : EVs W lv sc ρ es (ds.map .dat)) (hz : ds.length ≤ 1048576 := by decide) : EV W lv sc ρ (.List es pos) (.dat (.list ds)) := by
  intro A h₀ fenv L m mu fz env s Q E hA hE S hN k
  refine wpAny_List (spliced_ok h A h₀ fenv L m mu fz env s _ E hA hE S hN fun vs fz' h' t' s' S' R' => ⟨?_, ?_⟩)
  · have := R'.dats.length; rw [sizeLine_eq]; (clear R' S' s' k hN S hE hA h; lia)
  · exact k _ _ _ _ (s'.trans .cons) (S'.push _) (.list (.inr (.head _)) rfl rfl (R'.dats.mono (Hs.sub .cons)))
/-- a list display whose list may be turned later -/
noncomputable def EF (W : Wd) (lv : Nat) (sc : Scope) (ρ : Names) (e : Expr) (ds : List Dat) : Prop :=
  ∀ (A : Around) (h₀ : Heap) (fenv : Env) (L : Addr) (m : Str → Option Value) (mu fz : Led) (env : Env) (s : Shared) (Q E : Value → Shared → Prop),
    AOk W lv A h₀ fenv L → EnvOk env sc → SS W h₀ L m mu fz s.heap → NamesOk W env L m mu (mu ++ fz) (Hs W.base fz) ρ →
    (∀ l vs n fz' h' tk', Sub fz fz' → SS W h₀ L m ((l, listOf (List.toArray vs) n) :: mu) fz' h' → RepA (Hs W.base fz') vs ds → Q (.ref l) { s with heap := h', toks := tk' }) →
    wpAny (model W.prog W.w) A (eval e env) Q E s
theorem ef_list {es : List Expr} {ds : List Dat} {pos : Pos} (h : EVs W lv sc ρ es (ds.map .dat)) (hz : ds.length ≤ 1048576 := by decide) : EF W lv sc ρ (.List es pos) ds := by
  intro A h₀ fenv L m mu fz env s Q E hA hE S hN k
  refine wpAny_List (spliced_ok h A h₀ fenv L m mu fz env s _ E hA hE S hN fun vs fz' h' t' s' S' R' => ⟨?_, ?_⟩)
  · have := R'.dats.length; rw [sizeLine_eq]; (clear R' S' s' k hN S hE hA h; lia)
  · exact k _ vs 0 _ _ _ s' (S'.pushMu _) R'.dats

/-! names of the top -/
theorem eval_glob {x : Str} {pos : Pos} {v : Value} {A : Around} {h₀ : Heap} {fenv : Env} {L : Addr} {m : Str → Option Value} {mu fz : Led} {env : Env} {s : Shared} {Q E : Value → Shared → Prop}
    (hA : AOk W lv A h₀ fenv L) (hE : EnvOk env sc) (S : SS W h₀ L m mu fz s.heap) (hx : sc.names.lookup x = some .globalImplicit) (hp : (x == ("__debug__" : Str)) = false) (e : nsIn W.K mainGlobals x = some (some v)) (h : Q v s) :
    wpAny (model W.prog W.w) A (eval (.Name x pos) env) Q E s :=
  Name_function_global hE.kind (hE.gl x hx) (loadGlobal_global (env := env) (by rw [hE.glob]; exact hA.T.g.keeps S.fr.keep) (mg_of hA.K hA.T.g e) h) hp
theorem eval_boot {x : Str} {pos : Pos} {v : Value} {A : Around} {h₀ : Heap} {fenv : Env} {L : Addr} {m : Str → Option Value} {mu fz : Led} {env : Env} {s : Shared} {Q E : Value → Shared → Prop}
    (hA : AOk W lv A h₀ fenv L) (hE : EnvOk env sc) (S : SS W h₀ L m mu fz s.heap) (hx : sc.names.lookup x = some .globalImplicit) (hp : (x == ("__debug__" : Str)) = false) (hn : x ≠ "__name__") (e : nsIn W.K mainGlobals x = some none) (hb : bootBuiltins x = some v) (h : Q v s) :
    wpAny (model W.prog W.w) A (eval (.Name x pos) env) Q E s :=
  Name_function_global hE.kind (hE.gl x hx) (loadGlobal_builtin (env := env) (by rw [hE.glob]; exact hA.T.g.keeps S.fr.keep) (mg_none_of hA.K hA.T.g e) (by rw [hE.blt]; exact hA.T.b.keeps S.fr.keep) ((hA.T.builtins x hn).trans hb) h) hp

/-- what is asked of a built-in's name -/
structure Boot (W : Wd) (sc : Scope) (x : Str) (v : Value) : Prop where
  sc : sc.names.lookup x = some .globalImplicit
  dbg : (x == ("__debug__" : Str)) = false
  nm : x ≠ "__name__"
  top : nsIn W.K mainGlobals x = some none
  boot : bootBuiltins x = some v
theorem ev_bcall {x : Str} {np pos : Pos} {id : String} {es : List Expr} {ds : List Dat} {d : Dat} (hb : Boot W sc x (.builtin id)) (h : EVs W lv sc ρ es (ds.map .dat)) (ho : OpOk W lv ds (fun vs => call (.builtin id) vs) d) :
    EV W lv sc ρ (.Call (.Name x np) es [] pos) (.dat d) := by
  intro A h₀ fenv L m mu fz env s Q E hA hE S hN k
  refine wpAny_Call_ofName (eval_boot hA hE S hb.sc hb.dbg hb.nm hb.top hb.boot ?_)
  refine Calls.callWith_builtin (evs_star h) (evalArgs_ok h A h₀ fenv L m mu fz env s _ E hA hE S hN fun vs fz' h' t' s' S' R' => ?_)
  exact ho A h₀ fenv L m mu fz' _ vs _ _ hA S' R'.dats fun v fz₂ h₂ t₂ s₂ => k v fz₂ h₂ t₂ (s'.trans s₂)
theorem ev_tcall {x : Str} {np pos : Pos} {T : String} {es : List Expr} {ds : List Dat} {d : Dat} (hb : Boot W sc x (.type T)) (h : EVs W lv sc ρ es (ds.map .dat)) (ho : OpOk W lv ds (fun vs => call (.type T) vs) d) :
    EV W lv sc ρ (.Call (.Name x np) es [] pos) (.dat d) := by
  intro A h₀ fenv L m mu fz env s Q E hA hE S hN k
  refine wpAny_Call_ofName (eval_boot hA hE S hb.sc hb.dbg hb.nm hb.top hb.boot ?_)
  refine PySem.callWith_type (evs_star h) (evalArgs_ok h A h₀ fenv L m mu fz env s _ E hA hE S hN fun vs fz' h' t' s' S' R' => ?_)
  exact ho A h₀ fenv L m mu fz' _ vs _ _ hA S' R'.dats fun v fz₂ h₂ t₂ s₂ => k v fz₂ h₂ t₂ (s'.trans s₂)
/-- a call of a function value that a name holds -/
theorem ev_fcall {x : Str} {np pos : Pos} {es : List Expr} {ds : List Dat} {d : Dat} {lf : Nat} {F : List Dat → Option Dat} (hx : ρ.lookup x = some (.fn lf F)) (h : EVs W lv sc ρ es (ds.map .dat)) (hF : F ds = some d) (hl : lf ≤ lv) :
    EV W lv sc ρ (.Call (.Name x np) es [] pos) (.dat d) := by
  intro A h₀ fenv L m mu fz env s Q E hA hE S hN k
  obtain ⟨hp, v, l, r⟩ := hN x _ hx
  refine wpAny_Call_ofName (eval_name hE S l hp ?_)
  obtain ⟨a, o, fd, rfl, ho, hd, hc⟩ := r
  refine Calls.callWith_function (o := o) (fd := fd) (evalArgs_ok h A h₀ fenv L m mu fz env s _ E hA hE S hN fun vs fz' h' t' s' S' R' => ?_)
  refine ⟨⟨S'.has (Hs.sub s' _ _ ho), hd⟩, ?_⟩
  exact hc A h₀ fenv L m mu fz' _ vs ds d _ _ (hA.less hl) (Hs.sub s') S' R'.dats hF fun v fz₂ h₂ t₂ s₂ => k v fz₂ h₂ t₂ (s'.trans s₂)

/-! functions of the top -/
noncomputable def KRepA (W : Wd) (X : Fact) (MU : Led) : List (Str × Value) → List (Str × PV) → Prop
  | [], [] => True
  | v :: vs, p :: ps => v.1 = p.1 ∧ PRep W X MU v.2 p.2 ∧ KRepA W X MU vs ps
  | _, _ => False
/-- a def of the top that gives G of its arguments and turns nothing -/
noncomputable def GCall (W : Wd) (lv : Nat) (a : Addr) (G : List PV → List (Str × PV) → Dat → Prop) : Prop :=
  ∀ (A : Around) (h₀ : Heap) (fenv : Env) (L : Addr) (m : Str → Option Value) (mu fz : Led) (s : Shared) (vs : List Value) (kvs : List (Str × Value)) (ps : List PV) (kps : List (Str × PV)) (d : Dat) (Q E : Value → Shared → Prop),
    AOk W lv A h₀ fenv L → SS W h₀ L m mu fz s.heap → PRepA W (Hs W.base fz) mu vs ps → KRepA W (Hs W.base fz) mu kvs kps → G ps kps d →
    Cont W h₀ L m mu fz s (fun X v => Rep X v d) Q → wpAny (model W.prog W.w) A (call (.ref a) vs kvs) Q E s
/-- what is asked of a def's name -/
structure Glb (W : Wd) (sc : Scope) (x : Str) (a : Addr) : Prop where
  sc : sc.names.lookup x = some .globalImplicit
  dbg : (x == ("__debug__" : Str)) = false
  top : nsIn W.K mainGlobals x = some (some (.ref a))
  fn : ∃ o fd, W.K.lookup a = some o ∧ o.data = .func fd
theorem ev_gcall {x : Str} {np pos : Pos} {a : Addr} {es : List Expr} {ps : List PV} {d : Dat} {lf : Nat} {G : List PV → List (Str × PV) → Dat → Prop} (hb : Glb W sc x a) (hc : GCall W lf a G) (h : EVs W lv sc ρ es ps) (hG : G ps [] d) (hl : lf ≤ lv) :
    EV W lv sc ρ (.Call (.Name x np) es [] pos) (.dat d) := by
  intro A h₀ fenv L m mu fz env s Q E hA hE S hN k
  refine wpAny_Call_ofName (eval_glob hA hE S hb.sc hb.dbg hb.top ?_)
  obtain ⟨o, fd, hK, hd⟩ := hb.fn
  refine Calls.callWith_function (o := o) (fd := fd) (evalArgs_ok h A h₀ fenv L m mu fz env s _ E hA hE S hN fun vs fz' h' t' s' S' R' => ?_)
  refine ⟨⟨S'.fr.keep _ _ (hA.K _ _ hK), hd⟩, ?_⟩
  exact hc A h₀ fenv L m mu fz' _ vs [] ps [] d _ _ (hA.less hl) S' R' trivial hG fun v fz₂ h₂ t₂ s₂ => k v fz₂ h₂ t₂ (s'.trans s₂)
end
end Mine
end
section
open PySem PySem.W PyProof.Rows
set_option maxRecDepth 100000
namespace Mine
open PySem.Calls PySem.Spec PySem.SeqAt
section
variable {W : Wd} {X : Fact} {MU : Led} {vs : List Value} {kvs : List (Str × Value)} {p q r t : PV} {ps : List PV} {x : Str} {kps : List (Str × PV)}
theorem PRepA.i0 (h : PRepA W X MU vs []) : vs = [] := by
  cases vs with
  | nil => rfl
  | cons _ _ => cases h
theorem PRepA.ic (h : PRepA W X MU vs (p :: ps)) : ∃ v ws, vs = v :: ws ∧ PRep W X MU v p ∧ PRepA W X MU ws ps := by
  cases vs with
  | nil => cases h
  | cons v ws => exact ⟨v, ws, rfl, h.1, h.2⟩
theorem PRepA.i1 (h : PRepA W X MU vs [p]) : ∃ v1, vs = [v1] ∧ PRep W X MU v1 p := by
  obtain ⟨v1, _, rfl, h1, h⟩ := h.ic
  cases h.i0
  exact ⟨_, rfl, h1⟩
theorem PRepA.i2 (h : PRepA W X MU vs [p, q]) : ∃ v1 v2, vs = [v1, v2] ∧ PRep W X MU v1 p ∧ PRep W X MU v2 q := by
  obtain ⟨v1, _, rfl, h1, h⟩ := h.ic
  obtain ⟨v2, _, rfl, h2, h⟩ := h.ic
  cases h.i0
  exact ⟨_, _, rfl, h1, h2⟩
theorem PRepA.i3 (h : PRepA W X MU vs [p, q, r]) : ∃ v1 v2 v3, vs = [v1, v2, v3] ∧ PRep W X MU v1 p ∧ PRep W X MU v2 q ∧ PRep W X MU v3 r := by
  obtain ⟨v1, _, rfl, h1, h⟩ := h.ic
  obtain ⟨v2, v3, rfl, h2, h3⟩ := h.i2
  exact ⟨_, _, _, rfl, h1, h2, h3⟩
theorem PRepA.i4 (h : PRepA W X MU vs [p, q, r, t]) : ∃ v1 v2 v3 v4, vs = [v1, v2, v3, v4] ∧ PRep W X MU v1 p ∧ PRep W X MU v2 q ∧ PRep W X MU v3 r ∧ PRep W X MU v4 t := by
  obtain ⟨v1, _, rfl, h1, h⟩ := h.ic
  obtain ⟨v2, v3, v4, rfl, h2, h3⟩ := h.i3
  exact ⟨_, _, _, _, rfl, h1, h2, h3⟩
theorem KRepA.i0 (h : KRepA W X MU kvs []) : kvs = [] := by
  cases kvs with
  | nil => rfl
  | cons _ _ => cases h
theorem KRepA.i1 (h : KRepA W X MU kvs [(x, p)]) : ∃ v, kvs = [(x, v)] ∧ PRep W X MU v p := by
  cases kvs with
  | nil => cases h
  | cons a as =>
    obtain ⟨n, v⟩ := a
    obtain ⟨h1, h2, h3⟩ := h
    cases KRepA.i0 h3
    have h1 : n = x := h1
    subst h1
    exact ⟨v, rfl, h2⟩
end

section
variable {W : Wd} {h₀ h h' : Heap} {L : Addr} {m : Str → Option Value} {mu fz : Led}
/-- for rules that hand on a frame and a ledger -/
theorem SS.use (x : SS W h₀ L m mu fz h) : ∃ all : Led, News h₀ L h all ∧ (∀ h', Fr h₀ L h' m → News h₀ L h' all → SS W h₀ L m mu fz h') ∧
    (∀ h' D o, Fr h₀ L h' m → News h₀ L h' ((D, o) :: all) → (∀ p ∈ all, p.1 < D) → SS W h₀ L m mu ((D, o) :: fz) h') := by
  obtain ⟨F, ⟨gl, g, l⟩, bs⟩ := x
  refine ⟨gl ++ (mu ++ fz), l.news, fun h' F' N' => ⟨F', ⟨gl, g, N', l.nodup⟩, bs⟩, fun h' D o F' N' hD => ⟨F', ⟨gl, W.glMono (Hs.sub .cons) g, ?_⟩, bs⟩⟩
  have l' : Ld h₀ L h' ((D, o) :: (gl ++ (mu ++ fz))) := ⟨N', by
    rw [List.map_cons, List.nodup_cons]
    refine ⟨fun hm => ?_, l.nodup⟩
    obtain ⟨q, hq, e⟩ := List.mem_map.mp hm
    exact absurd (hD q hq) (by rw [e]; exact Nat.lt_irrefl _)⟩
  refine l'.perm ?_
  rw [← List.append_assoc, ← List.append_assoc]
  exact List.perm_middle.symm
end

noncomputable def noneD : Dat → Bool
  | .none => true
  | _ => false
/-! ints, more -/
section
variable {W : Wd} {lv : Nat} {a b : Int}
theorem op_pow (hn : 0 ≤ b) (hsz : (Builtin.Int.intBits a : Int) * b ≤ 2 ^ 27) : OpOk W lv [.int a, .int b] (fun vs => binaryOp .Pow (vs.getD 0 .none) (vs.getD 1 .none)) (.int (a ^ b.toNat)) :=
  op_of_ints fun _ _ _ _ _ _ _ k => PyProof.Rows.pow_int hn hsz (k _ _ fun _ => .int _ _)
theorem op_shl (hn : 0 ≤ b) (hsz : (Builtin.Int.intBits a : Int) + b ≤ 2 ^ 27) : OpOk W lv [.int a, .int b] (fun vs => binaryOp .LShift (vs.getD 0 .none) (vs.getD 1 .none)) (.int (a * 2 ^ b.toNat)) :=
  op_of_ints fun _ _ _ _ _ _ _ k => PyProof.Rows.lshift_int hn hsz (k _ _ fun _ => .int _ _)
theorem op_shr (hn : 0 ≤ b) : OpOk W lv [.int a, .int b] (fun vs => binaryOp .RShift (vs.getD 0 .none) (vs.getD 1 .none)) (.int (a.fdiv (2 ^ b.toNat))) :=
  op_of_ints fun _ _ _ _ _ _ _ k => PyProof.Rows.rshift_int hn (k _ _ fun _ => .int _ _)
theorem op_xor : OpOk W lv [.int a, .int b] (fun vs => binaryOp .BitXor (vs.getD 0 .none) (vs.getD 1 .none)) (.int (Builtin.bitXor a b)) :=
  op_of_ints fun _ _ _ _ _ _ _ k => PyProof.Rows.xor_int (k _ _ fun _ => .int _ _)
theorem op_neg : OpOk W lv [.int a] (fun vs => unaryOp .USub (vs.getD 0 .none)) (.int (-a)) :=
  op_of_int fun _ _ _ _ _ _ k => P.neg_int (k _ _ fun _ => .int _ _)
theorem op_lt : OpOk W lv [.int a, .int b] (fun vs => compareOp .Lt (vs.getD 0 .none) (vs.getD 1 .none)) (.bool (decide (a < b))) :=
  op_of_ints fun _ _ s _ _ _ _ k => P.lt_int (k _ s.toks fun _ => .bool _)
theorem op_le : OpOk W lv [.int a, .int b] (fun vs => compareOp .LtE (vs.getD 0 .none) (vs.getD 1 .none)) (.bool (decide (a ≤ b))) :=
  op_of_ints fun _ _ s _ _ _ _ k => P.le_int (k _ s.toks fun _ => .bool _)
theorem op_eqi : OpOk W lv [.int a, .int b] (fun vs => compareOp .Eq (vs.getD 0 .none) (vs.getD 1 .none)) (.bool (a == b)) :=
  op_of_ints fun _ _ s _ _ _ _ k => P.eq_int (k _ s.toks fun _ => .bool _)
theorem op_nei : OpOk W lv [.int a, .int b] (fun vs => compareOp .NotEq (vs.getD 0 .none) (vs.getD 1 .none)) (.bool (a != b)) :=
  op_of_ints fun _ _ s _ _ _ _ k => P.ne_int (k _ s.toks fun _ => .bool _)
theorem op_is_none {d : Dat} : OpOk W lv [d, .none] (fun vs => compareOp .Is (vs.getD 0 .none) (vs.getD 1 .none)) (.bool (noneD d)) := by
  intro A h₀ fenv L m mu fz s vs Q E hA S R k
  cases R with
  | cons r1 R => cases R with
    | cons r2 R =>
      cases R; cases r2
      refine is_none ?_
      have := k (.bool (noneD d)) fz s.heap s.toks (Sub.refl _) S (.bool _)
      cases r1 <;> exact this
theorem op_divmod (h : b ≠ 0) (hp : Builtin.divisionGoesByPylong a b = false) : OpOk W lv [.int a, .int b] (fun vs => call (.builtin "divmod") vs) (.tuple [.int (a.fdiv b), .int (a.fmod b)]) := by
  intro A h₀ fenv L m mu fz s vs Q E hA S R k
  cases R with
  | cons r1 R => cases R with
    | cons r2 R =>
      cases R; cases r1; cases r2
      refine divmod_int h ?_ (.inl hp)
      exact k _ _ _ _ .cons (S.push _) (.tuple (vs := [_, _]) (.inr (.head _)) rfl rfl (.cons (.int _ _) (.cons (.int _ _) .nil)))
theorem op_abs : OpOk W lv [.int a] (fun vs => call (.builtin "abs") vs) (.int (a.natAbs : Int)) := by
  intro A h₀ fenv L m mu fz s vs Q E hA S R k
  cases R with
  | cons r1 R =>
    cases R; cases r1
    refine call_abs_int fun u tk => ?_
    have e : (if a < 0 then -a else a) = (a.natAbs : Int) := by split <;> (clear k S hA; lia)
    rw [e]
    exact k _ fz s.heap tk (Sub.refl _) S (.int _ _)
theorem op_int_int : OpOk W lv [.int a] (fun vs => call (.type "int") vs) (.int a) := by
  intro A h₀ fenv L m mu fz s vs Q E hA S R k
  cases R with
  | cons r1 R =>
    cases R; cases r1
    exact PySem.call_int_int (k _ fz s.heap s.toks (Sub.refl _) S (.int _ _))
theorem op_min : OpOk W lv [.int a, .int b] (fun vs => call (.builtin "min") vs) (.int (if b < a then b else a)) := by
  intro A h₀ fenv L m mu fz s vs Q E hA S R k
  cases R with
  | cons r1 R => cases R with
    | cons r2 R =>
      cases R; cases r1; cases r2
      obtain ⟨all, N, back, _⟩ := S.use
      exact min_two_N hA.hh S.fr N fun h' tk F' N' => k _ fz h' tk (Sub.refl _) (back h' F' N') (.int _ _)
theorem op_max : OpOk W lv [.int a, .int b] (fun vs => call (.builtin "max") vs) (.int (if b > a then b else a)) := by
  intro A h₀ fenv L m mu fz s vs Q E hA S R k
  cases R with
  | cons r1 R => cases R with
    | cons r2 R =>
      cases R; cases r1; cases r2
      obtain ⟨all, N, back, _⟩ := S.use
      exact max_two_N hA.hh S.fr N fun h' tk F' N' => k _ fz h' tk (Sub.refl _) (back h' F' N') (.int _ _)
end

/-! lists -/
theorem Rep.isList {X : Fact} {v : Value} {ds : List Dat} {h : Heap} (r : Rep X v (.list ds)) (hX : ∀ a o, X a o → h.get? a = some o) : ∃ l vs, v = .ref l ∧ h.IsList l (List.toArray vs) ∧ RepA X vs ds := by
  cases r with
  | @list l o vs n ds hx hc hd r => exact ⟨l, vs, rfl, ⟨o, hX _ _ hx, hc, n, hd⟩, r⟩
theorem Rep.isTup {X : Fact} {v : Value} {ds : List Dat} {h : Heap} (r : Rep X v (.tuple ds)) (hX : ∀ a o, X a o → h.get? a = some o) : ∃ l vs, v = .ref l ∧ IsTup h l (List.toArray vs) ∧ h.IsTuple l (List.toArray vs) ∧ RepA X vs ds := by
  cases r with
  | @tuple l o vs n ds hx hc hd r => exact ⟨l, vs, rfl, ⟨o, hX _ _ hx, hc, n, hd⟩, ⟨o, hX _ _ hx, hc, n, hd⟩, r⟩
theorem RepA.flat_replicate {X : Fact} {vs : List Value} {ds : List Dat} (r : RepA X vs ds) : ∀ n : Nat, RepA X (List.replicate n vs).flatten (List.replicate n ds).flatten
  | 0 => .nil
  | n + 1 => by rw [List.replicate_succ, List.replicate_succ, List.flatten_cons, List.flatten_cons]; exact r.append (RepA.flat_replicate r n)
theorem IntsAre.items {vs : List Value} {ns : List Int} (h : IntsAre vs ns) : ∃ xs : Array (Int × Tok), vs.toArray = intItems xs ∧ preSum (numAt xs) xs.size = ns.sum := by
  obtain ⟨xs, e⟩ := h.allInts.items
  refine ⟨xs, e, ?_⟩
  rw [preSum_eq, List.take_of_length_le (by simp), ← nums_intItems, ← e]
  show (numsOf vs).sum = _
  rw [h.numsOf]
section
variable {W : Wd} {lv : Nat} {ds es : List Dat}
theorem op_len_tuple (hz : ds.length ≤ 1048576) : OpOk W lv [.tuple ds] (fun vs => call (.builtin "len") vs) (.int ds.length) := by
  intro A h₀ fenv L m mu fz s vs Q E hA S R k
  cases R with
  | cons r1 R =>
    cases R
    obtain ⟨l, vs, rfl, it, _, ra⟩ := r1.isTup S.facts
    refine PyProof.Rows.len_tuple it (by rw [List.size_toArray, ra.length]; lia) ?_
    rw [List.size_toArray, ra.length]
    exact k _ fz s.heap _ (Sub.refl _) S (.int _ _)
theorem op_sum {ns : List Int} : OpOk W lv [.list (ns.map .int)] (fun vs => call (.builtin "sum") vs) (.int ns.sum) := by
  intro A h₀ fenv L m mu fz s vs Q E hA S R k
  cases R with
  | cons r1 R =>
    cases R
    obtain ⟨l, vs, rfl, il, ra⟩ := r1.isList S.facts
    obtain ⟨xs, e, hs⟩ := IntsAre.items ra.ints
    rw [e] at il
    refine sum_intListG hA.hh il fun h' tk t' hk => ?_
    rw [hs]
    exact k _ fz h' tk (Sub.refl _) (S.grown hk) (.int _ _)
theorem op_add_list (hz : ds.length + es.length ≤ 1048576) : OpOk W lv [.list ds, .list es] (fun vs => binaryOp .Add (vs.getD 0 .none) (vs.getD 1 .none)) (.list (ds ++ es)) := by
  intro A h₀ fenv L m mu fz s vs Q E hA S R k
  cases R with
  | cons r1 R => cases R with
    | cons r2 R =>
      cases R
      obtain ⟨l, vs, rfl, il, ra⟩ := r1.isList S.facts
      obtain ⟨l', vs', rfl, il', ra'⟩ := r2.isList S.facts
      obtain ⟨all, N, _, back⟩ := S.use
      refine add_lists S.fr N il il' (fun h' F' N' => ?_) (by rw [ra.length, ra'.length, sizeLine_eq]; (clear back N ra' il' r2 ra il r1 k S hA; lia))
      exact k _ _ h' s.toks .cons (back h' _ _ F' N' fun p hp => Heap.lt_size (N p hp).1) (.list (.inr (.head _)) rfl rfl ((ra.append ra').mono (Hs.sub .cons)))
theorem op_mul_list {x : Int} (hlo : -(2 ^ 63 : Int) ≤ x) (hhi : x < 2 ^ 63) (hz : ds.length * x.toNat ≤ 256) : OpOk W lv [.list ds, .int x] (fun vs => binaryOp .Mult (vs.getD 0 .none) (vs.getD 1 .none)) (.list (List.replicate x.toNat ds).flatten) := by
  intro A h₀ fenv L m mu fz s vs Q E hA S R k
  cases R with
  | cons r1 R => cases R with
    | cons r2 R =>
      cases R; cases r2
      obtain ⟨l, vs, rfl, il, ra⟩ := r1.isList S.facts
      obtain ⟨all, N, _, back⟩ := S.use
      refine KMa.mul S.fr N il hlo hhi (by rw [ra.length]; exact hz) rfl fun D h' F' N' hD => ?_
      exact k _ _ h' s.toks .cons (back h' _ _ F' N' hD) (.list (.inr (.head _)) rfl rfl ((ra.flat_replicate _).mono (Hs.sub .cons)))
end
/-! bytes -/
section
variable {W : Wd} {lv : Nat} {b c : Array UInt8}
theorem op_add_bytes (hz : b.size + c.size ≤ 16777216) : OpOk W lv [.bytes b, .bytes c] (fun vs => binaryOp .Add (vs.getD 0 .none) (vs.getD 1 .none)) (.bytes (b ++ c)) := by
  intro A h₀ fenv L m mu fz s vs Q E hA S R k
  cases R with
  | cons r1 R => cases R with
    | cons r2 R =>
      cases R; cases r1; cases r2
      exact KBy.add_bytes hz fun t' k' => k _ fz s.heap k' (Sub.refl _) S (.bytes _ _)
theorem op_bytes {ns : List Int} (hr : ∀ n ∈ ns, 0 ≤ n ∧ n < 256) (hz : ns.length ≤ 1048576) : OpOk W lv [.list (ns.map .int)] (fun vs => call (.type "bytes") vs) (.bytes (byteArr ns)) := by
  intro A h₀ fenv L m mu fz s vs Q E hA S R k
  cases R with
  | cons r1 R =>
    cases R
    obtain ⟨l, vs, rfl, il, ra⟩ := r1.isList S.facts
    refine call_bytes_ints il ra.ints hr (by rw [ra.length, List.length_map, sizeLine_eq]; (clear ra il r1 k S hA hr; lia)) hA.hh fun h' t k' hk => ?_
    exact k _ fz h' k' (Sub.refl _) (S.grown hk) (.bytes _ _)
end
end Mine
end
section
open PySem PySem.W PyProof.Rows
set_option maxRecDepth 100000
namespace Mine
open PySem.Calls PySem.Spec PySem.SeqAt

noncomputable def PV.items? : PV → Option (List Dat)
  | .dat (.list ds) => some ds
  | .lst ds => some ds
  | _ => none
theorem PRep.items {W : Wd} {h₀ h : Heap} {L : Addr} {m : Str → Option Value} {mu fz : Led} {v : Value} {pv : PV} {ds : List Dat} (S : SS W h₀ L m mu fz h) (r : PRep W (Hs W.base fz) mu v pv) (e : pv.items? = some ds) :
    ∃ l vs, v = .ref l ∧ h.IsList l (List.toArray vs) ∧ RepA (Hs W.base fz) vs ds := by
  cases pv with
  | dat d =>
    cases d <;> simp [PV.items?] at e
    subst e
    exact Rep.isList r fun _ _ q => S.has q
  | lst es =>
    simp [PV.items?] at e
    subst e
    obtain ⟨l, o, vs, n, rfl, hm, hc, _, hd, ra⟩ := r
    exact ⟨l, vs, rfl, ⟨o, S.ofMu hm, hc, n, hd⟩, ra⟩
  | fn _ _ => simp [PV.items?] at e

theorem subscripted_any (slice : Expr) (o i : Value) : ∃ ops, subscripted slice false o i = operate ops (getItem o i) := by
  unfold subscripted
  split
  · exact ⟨_, rfl⟩
  · rename_i h; cases h
  · exact ⟨_, rfl⟩

/-- the place that an int says -/
noncomputable def seqAt {α : Type} (l : List α) (i : Int) : Option α := if i < 0 then (if -(l.length : Int) ≤ i then l[(i + l.length).toNat]? else none) else l[i.toNat]?
theorem seqAt_idx {α : Type} {l : List α} {i : Int} {x : α} (h : seqAt l i = some x) : ∃ k, seqIndex? i l.length = some k ∧ l[k]? = some x := by
  unfold seqAt at h
  unfold seqIndex?
  by_cases h0 : i < 0
  · rw [if_pos h0] at h
    by_cases h1 : -(l.length : Int) ≤ i
    · rw [if_pos h1] at h
      refine ⟨_, ?_, h⟩
      have h2 : 0 ≤ i + (l.length : Int) := by (clear h0 h; lia)
      have h3 : i + (l.length : Int) < l.length := by (clear h2 h1 h; lia)
      simp [h0, h2, h3]
    · rw [if_neg h1] at h; cases h
  · rw [if_neg h0] at h
    refine ⟨_, ?_, h⟩
    have h1 := (List.getElem?_eq_some_iff.mp h).1
    have h2 : 0 ≤ i := by (clear h1 h; lia)
    have h3 : i < (l.length : Int) := by (clear h2 h; lia)
    simp [h0, h2, h3]

section
variable {W : Wd} {lv : Nat} {sc : Scope} {ρ : Names}
theorem ev_item {e i : Expr} {pos : Pos} {pv : PV} {ds : List Dat} {k : Int} {d : Dat} (h : EV W lv sc ρ e pv) (hi : pv.items? = some ds) (hk : EV W lv sc ρ i (.dat (.int k))) (hd : seqAt ds k = some d) (hz : ds.length ≤ 1048576) :
    EV W lv sc ρ (.Subscript e i pos) (.dat d) := by
  intro A h₀ fenv L m mu fz env s Q E hA hE S hN c
  refine Subscript_ (h A h₀ fenv L m mu fz env s _ E hA hE S hN fun v fz₁ h₁ t₁ s₁ S₁ R₁ => ?_)
  refine hk A h₀ fenv L m mu fz₁ env _ _ E hA hE S₁ (hN.grow s₁) fun vi fz₂ h₂ t₂ s₂ S₂ R₂ => ?_
  obtain ⟨u, rfl⟩ : ∃ u, vi = .int k u := by cases R₂; exact ⟨_, rfl⟩
  obtain ⟨l, vs, rfl, il, ra⟩ := PRep.items S₂ (R₁.mono (Hs.sub s₂) (Sub.refl _)) hi
  obtain ⟨ops, hops⟩ := subscripted_any i (.ref l) (.int k u)
  have hlen := ra.length
  have fin : ∀ j v, vs[j]? = some v → ds[j]? = some d → Q v { s with heap := h₂, toks := t₂ } := fun j v hv hd' => by
    obtain ⟨d', e1, r⟩ := ra.get' hv
    rw [hd'] at e1; cases e1
    exact c v fz₂ h₂ t₂ (s₁.trans s₂) S₂ r
  refine PyProof.Rows.tail_any il.typeIs slot_list_getitem.lookup ?_ hops
  unfold seqAt at hd
  by_cases h0 : k < 0
  · rw [if_pos h0] at hd
    by_cases h1 : -(ds.length : Int) ≤ k
    · rw [if_pos h1] at hd
      have hlt := (List.getElem?_eq_some_iff.mp hd).1
      obtain ⟨v, hv⟩ : ∃ v, vs[(k + ds.length).toNat]? = some v := ⟨_, List.getElem?_eq_getElem (by rw [hlen]; exact hlt)⟩
      refine wpAny_getItem_list_neg il h0 (by rw [List.size_toArray, hlen]; exact h1) (by (clear hv hlt h0 fin hops ra il R₁ R₂ S₂ s₂ S₁ s₁ c hN S hE hA hd hk hi h; lia)) (x := v) ?_ (fin _ _ hv hd)
      rw [List.size_toArray, hlen, List.getElem?_toArray]; exact hv
    · rw [if_neg h1] at hd; cases hd
  · rw [if_neg h0] at hd
    have hlt := (List.getElem?_eq_some_iff.mp hd).1
    obtain ⟨v, hv⟩ : ∃ v, vs[k.toNat]? = some v := ⟨_, List.getElem?_eq_getElem (by rw [hlen]; exact hlt)⟩
    exact wpAny_getItem_list il (by (clear hv hlt fin hlen hops ra il R₁ R₂ S₂ s₂ S₁ s₁ c hN S hE hA hz hd hk hi h; lia)) (by (clear hv h0 fin hops ra il R₁ R₂ S₂ s₂ S₁ s₁ c hN S hE hA hd hk hi h; lia)) (x := v) (by rw [List.getElem?_toArray]; exact hv) (fin _ _ hv hd)
theorem ev_titem {e i : Expr} {pos : Pos} {ds : List Dat} {k : Int} {d : Dat} (h : EV W lv sc ρ e (.dat (.tuple ds))) (hk : EV W lv sc ρ i (.dat (.int k))) (hd : seqAt ds k = some d) (hz : ds.length ≤ 1048576 := by decide) :
    EV W lv sc ρ (.Subscript e i pos) (.dat d) := by
  intro A h₀ fenv L m mu fz env s Q E hA hE S hN c
  refine Subscript_ (h A h₀ fenv L m mu fz env s _ E hA hE S hN fun v fz₁ h₁ t₁ s₁ S₁ R₁ => ?_)
  refine hk A h₀ fenv L m mu fz₁ env _ _ E hA hE S₁ (hN.grow s₁) fun vi fz₂ h₂ t₂ s₂ S₂ R₂ => ?_
  obtain ⟨u, rfl⟩ : ∃ u, vi = .int k u := by cases R₂; exact ⟨_, rfl⟩
  obtain ⟨l, vs, rfl, it, it', ra⟩ := Rep.isTup (Rep.mono (Hs.sub s₂) R₁) fun _ _ q => S₂.has q
  obtain ⟨ops, hops⟩ := subscripted_any i (.ref l) (.int k u)
  have hlen := ra.length
  obtain ⟨j, hj, hdj⟩ := seqAt_idx hd
  have hlt := (List.getElem?_eq_some_iff.mp hdj).1
  obtain ⟨v, hv⟩ : ∃ v, vs[j]? = some v := ⟨_, List.getElem?_eq_getElem (by rw [hlen]; exact hlt)⟩
  have hk2 : -(ds.length : Int) ≤ k ∧ k < (ds.length : Int) := by
    unfold seqAt at hd
    by_cases h0 : k < 0
    · rw [if_pos h0] at hd
      by_cases h1 : -(ds.length : Int) ≤ k
      · exact ⟨h1, by (clear hv hlt hdj hj hops ra it' it R₁ R₂ S₂ s₂ S₁ s₁ c hN S hE hA hz hd hk h; lia)⟩
      · rw [if_neg h1] at hd; cases hd
    · rw [if_neg h0] at hd
      have := (List.getElem?_eq_some_iff.mp hd).1
      (clear hv hlt hdj hj hops ra it' it R₁ R₂ S₂ s₂ S₁ s₁ c hN S hE hA hd hk h; lia)
  refine PyProof.Rows.tail_any it'.typeIs F.slot_tuple_getitem.lookup (PyProof.Rows.getItem_tuple it (by (clear hv hlt hdj hj hops ra it' it R₁ R₂ S₂ s₂ S₁ s₁ c hN S hE hA hd hk h; lia)) (by (clear hv hlt hdj hj hops ra it' it R₁ R₂ S₂ s₂ S₁ s₁ c hN S hE hA hd hk h; lia)) (j := j) (x := v) (by rw [List.size_toArray, hlen]; exact hj) (by rw [List.getElem?_toArray]; exact hv) ?_) hops
  obtain ⟨d', e1, r⟩ := ra.get' hv
  rw [hdj] at e1; cases e1
  exact c _ fz₂ h₂ t₂ (s₁.trans s₂) S₂ r

/-! slices -/
noncomputable def pick {α : Type} (l : List α) (lo hi st : Option Int) : List α :=
  (sliceRange (sliceBounds lo hi st l.length).1 (sliceBounds lo hi st l.length).2.1 (sliceBounds lo hi st l.length).2.2).filterMap (l[·]?)
theorem RepA.pick {X : Fact} {vs : List Value} {ds : List Dat} (ra : RepA X vs ds) (lo hi st : Option Int) : RepA X (slicePick vs.toArray lo hi st).toList (Mine.pick ds lo hi st) := by
  unfold slicePick Mine.pick
  rw [List.size_toArray, ra.length]
  generalize sliceRange _ _ _ = ix
  show RepA X (ix.filterMap (vs.toArray[·]?)) _
  induction ix with
  | nil => exact .nil
  | cons i ix ih =>
    rw [List.filterMap_cons, List.filterMap_cons]
    have e : vs.toArray[i]? = vs[i]? := by simp
    rw [e]
    cases hv : vs[i]? with
    | none =>
      have hd : ds[i]? = none := by
        rw [List.getElem?_eq_none_iff] at hv ⊢; rw [← ra.length]; exact hv
      rw [hd]; exact ih
    | some v =>
      obtain ⟨d, hd, r⟩ := ra.get' hv
      rw [hd]; exact .cons r ih
inductive EP (W : Wd) (lv : Nat) (sc : Scope) (ρ : Names) : Option Expr → Option Int → Prop
  | none : EP W lv sc ρ none none
  | some {e : Expr} {i : Int} : EV W lv sc ρ e (.dat (.int i)) → EP W lv sc ρ (some e) (some i)
theorem ep_ok {oe : Option Expr} {oi : Option Int} (h : EP W lv sc ρ oe oi) (A : Around) (h₀ : Heap) (fenv : Env) (L : Addr) (m : Str → Option Value) (mu fz : Led) (env : Env) (s : Shared) (Q E : Value → Shared → Prop)
    (hA : AOk W lv A h₀ fenv L) (hE : EnvOk env sc) (S : SS W h₀ L m mu fz s.heap) (hN : NamesOk W env L m mu (mu ++ fz) (Hs W.base fz) ρ)
    (k : ∀ v fz' h' tk', Sub fz fz' → SS W h₀ L m mu fz' h' → IsPart v oi → Q v { s with heap := h', toks := tk' }) : wpAny (model W.prog W.w) A (evalPart oe env) Q E s := by
  cases h with
  | none => exact wpAny_pure (k _ fz s.heap s.toks (Sub.refl _) S .none)
  | some h => exact h A h₀ fenv L m mu fz env s Q E hA hE S hN fun v fz' h' t' s' S' R' => by cases R'; exact k _ fz' h' t' s' S' (.int _ _)
theorem ev_slice {e : Expr} {lo hi st : Option Expr} {a b c : Option Int} {sp pos : Pos} {pv : PV} {ds : List Dat} (h : EV W lv sc ρ e pv) (hi' : pv.items? = some ds) (ha : EP W lv sc ρ lo a) (hb : EP W lv sc ρ hi b) (hc : EP W lv sc ρ st c) (h0 : c ≠ some 0) (hz : ds.length ≤ 1048576) :
    EV W lv sc ρ (.Subscript e (.Slice lo hi st sp) pos) (.dat (.list (pick ds a b c))) := by
  intro A h₀ fenv L m mu fz env s Q E hA hE S hN k
  refine Subscript_ (h A h₀ fenv L m mu fz env s _ E hA hE S hN fun v fz₁ h₁ t₁ s₁ S₁ R₁ => ?_)
  refine wpAny_Slice (ep_ok ha A h₀ fenv L m mu fz₁ env _ _ E hA hE S₁ (hN.grow s₁) fun va fz₂ h₂ t₂ s₂ S₂ R₂ => ?_)
  refine ep_ok hb A h₀ fenv L m mu fz₂ env _ _ E hA hE S₂ (hN.grow (s₁.trans s₂)) fun vb fz₃ h₃ t₃ s₃ S₃ R₃ => ?_
  refine ep_ok hc A h₀ fenv L m mu fz₃ env _ _ E hA hE S₃ (hN.grow (s₁.trans (s₂.trans s₃))) fun vc fz₄ h₄ t₄ s₄ S₄ R₄ => ?_
  have S₅ := S₄.push { cls := .type "slice", data := .fields #[va, vb, vc] }
  obtain ⟨l, vs, rfl, il, ra⟩ := PRep.items S₅ (R₁.mono (Hs.sub (s₂.trans (s₃.trans (s₄.trans .cons)))) (Sub.refl _)) hi'
  obtain ⟨ops, hops⟩ := subscripted_any (.Slice lo hi st sp) (.ref l) (.ref h₄.objs.size)
  refine PyProof.Rows.tail_any il.typeIs slot_list_getitem.lookup (wpAny_getItem_list_slice il (Heap.IsSliceOf.new _ _ _ _) R₂ R₃ R₄ h0 ?_ (by rw [List.size_toArray, ra.length, sizeLine_eq]; (clear hops ra il R₁ S₅ R₄ S₄ s₄ R₃ S₃ s₃ R₂ S₂ s₂ S₁ s₁ k hN S hE hA h0 hc hb ha hi' h; lia))) hops
  refine k _ _ _ _ (s₁.trans (s₂.trans (s₃.trans (s₄.trans (Sub.cons.trans .cons))))) (S₅.push _) ?_
  exact Rep.list (vs := (slicePick vs.toArray a b c).toList) (n := 0) (.inr (.head _)) rfl (by simp) ((ra.pick a b c).mono (Hs.sub .cons))
theorem ev_bslice {e : Expr} {lo hi : Option Expr} {a b : Option Int} {sp pos : Pos} {x : Array UInt8} (h : EV W lv sc ρ e (.dat (.bytes x))) (ha : EP W lv sc ρ lo a) (hb : EP W lv sc ρ hi b) (hz : x.size ≤ 1048576) :
    EV W lv sc ρ (.Subscript e (.Slice lo hi none sp) pos) (.dat (.bytes (KBy.picked x a b))) := by
  intro A h₀ fenv L m mu fz env s Q E hA hE S hN k
  refine Subscript_ (h A h₀ fenv L m mu fz env s _ E hA hE S hN fun v fz₁ h₁ t₁ s₁ S₁ R₁ => ?_)
  obtain ⟨u, rfl⟩ : ∃ u, v = .bytes x u := by cases R₁; exact ⟨_, rfl⟩
  refine wpAny_Slice (ep_ok ha A h₀ fenv L m mu fz₁ env _ _ E hA hE S₁ (hN.grow s₁) fun va fz₂ h₂ t₂ s₂ S₂ R₂ => ?_)
  refine ep_ok hb A h₀ fenv L m mu fz₂ env _ _ E hA hE S₂ (hN.grow (s₁.trans s₂)) fun vb fz₃ h₃ t₃ s₃ S₃ R₃ => ?_
  refine wpAny_pure ?_
  have S₅ := S₃.push { cls := .type "slice", data := .fields #[va, vb, .none] }
  obtain ⟨ops, hops⟩ := subscripted_any (.Slice lo hi none sp) (.bytes x u) (.ref h₃.objs.size)
  refine PyProof.Rows.tail_any (typeIs_bytes _ _ _) FB.slot_bytes_getitem.lookup (getItem_meets (typeIs_bytes _ _ _) (by decide) FB.slot_bytes_getitem FB.entry_bytes_getitem (FB.args_bytes_getitem_2 _ _) (KBc.meets_slice2 x _ _ R₂ R₃) ?_) hops
  refine ⟨Heap.IsSliceOf.new _ _ _ _, Nat.le_trans (KBc.size_picked_le x a b) (by rw [sizeLine_eq]; (clear hops S₅ R₃ S₃ s₃ R₂ S₂ s₂ R₁ S₁ s₁ k hN S hE hA hb ha h; lia)), fun t' k' => ?_⟩
  exact k _ _ _ k' (s₁.trans (s₂.trans (s₃.trans .cons))) S₅ (.bytes _ _)

/-! methods -/
theorem ev_bitlen {e : Expr} {apos pos : Pos} {i : Int} (h : EV W lv sc ρ e (.dat (.int i))) (hbase : ∀ env, attributeBase e (Str.ofString "bit_length") env (eval e env) = eval e env := by intro _; rfl) (hline : (apos.endLine == pos.line) = true := by rfl) :
    EV W lv sc ρ (.Call (.Attribute e (Str.ofString "bit_length") apos) [] [] pos) (.dat (.int (Builtin.Int.intBits i : Nat))) := by
  intro A h₀ fenv L m mu fz env s Q E hA hE S hN k
  refine wpAny_Call_method0_late (hbase env) hline (h A h₀ fenv L m mu fz env s _ E hA hE S hN fun v fz₁ h₁ t₁ s₁ S₁ R₁ => ?_)
  cases R₁
  refine ⟨"int", "int.bit_length", F.plainAttrs_int, F.slot_int_bit_length, F.type_int_bit_length, typeIs_int _ _ _, (fun a q => nomatch q), ?_⟩
  refine Calls.callWith_builtin rfl (PySem.evalArgs_none ?_)
  exact call_int_bit_length (k _ fz₁ h₁ _ s₁ S₁ (.int _ _))
/-- isinstance(x, T) where it holds -/
noncomputable def typeOfD : Dat → String
  | .none => "NoneType"
  | .bool _ => "bool"
  | .int _ => "int"
  | .str _ => "str"
  | .bytes _ => "bytes"
  | .tuple _ => "tuple"
  | .list _ => "list"
theorem Rep.typeIs {X : Fact} {v : Value} {d : Dat} {s : Shared} (r : Rep X v d) (hX : ∀ a o, X a o → s.heap.get? a = some o) : s.TypeIs v (typeOfD d) := by
  cases r with
  | none => exact rfl
  | bool _ => exact rfl
  | int _ _ => exact rfl
  | str _ _ => exact rfl
  | bytes _ _ => exact rfl
  | tuple h c _ _ => exact ⟨_, hX _ _ h, c⟩
  | list h c _ _ => exact ⟨_, hX _ _ h, c⟩
theorem ev_isinst {e : Expr} {x T : Str} {Ts : String} {np tp pos : Pos} {d : Dat} (hb : Boot W sc x (.builtin "isinstance")) (hT : Boot W sc T (.type Ts)) (h : EV W lv sc ρ e (.dat d)) (hn : nStar e = true) (hd : typeOfD d = Ts) (hty : typeOf (.type Ts) = pure (.type "type")) (hsub : isSubtype (.type Ts) (.type Ts) = pure true) :
    EV W lv sc ρ (.Call (.Name x np) [e, .Name T tp] [] pos) (.dat (.bool true)) := by
  intro A h₀ fenv L m mu fz env s Q E hA hE S hN k
  refine wpAny_Call_ofName (eval_boot hA hE S hb.sc hb.dbg hb.nm hb.top hb.boot ?_)
  rw [starEach_cons hn, starEach_cons (e := .Name T tp) rfl, backTo_cons, backTo_cons]
  refine Calls.callWith_builtin rfl (Calls.evalArgs_plain (Calls.spliced_cons (h A h₀ fenv L m mu fz env s _ E hA hE S hN fun v fz₁ h₁ t₁ s₁ S₁ R₁ => ?_)))
  refine Calls.spliced_cons (eval_boot hA hE S₁ hT.sc hT.dbg hT.nm hT.top hT.boot (Calls.spliced_nil ?_))
  refine call_isinstance (isinstance_true hty hsub) ⟨hd ▸ Rep.typeIs R₁ (fun _ _ q => S₁.has q), ?_⟩
  exact k _ fz₁ h₁ t₁ s₁ S₁ (.bool true)
end
end Mine
end
section
open PySem PySem.W PyProof.Rows
set_option maxRecDepth 100000
namespace Mine
open PySem.Calls PySem.Spec PySem.SeqAt

/-! storing a name -/
/-- a name that the frame's own store reaches -/
noncomputable def Sto (env : Env) (L : Addr) (loc : Led) (x : Str) : Prop :=
  (env.kindOf x = some .local ∧ (env.locals = L ∨ ∃ o mm, (env.locals, o) ∈ loc ∧ ObjNs o mm)) ∨
  (env.kindOf x = some .cell ∧ ∃ c o v₀, env.cells.lookup x = some c ∧ (c, o) ∈ loc ∧ o.data = .cell v₀)

/-- what a store of x leaves as it was -/
structure Stored (env : Env) (L : Addr) (m : Str → Option Value) (loc : Led) (m' : Str → Option Value) (loc' : Led) (x : Str) (v : Value) : Prop where
  new : ∀ N, Loads env L m' (loc' ++ N) x v
  old : ∀ N y u, y ≠ x → (∀ a o o', (a, o) ∈ loc ++ N → (a, o') ∈ loc ++ N → o = o') → Loads env L m (loc ++ N) y u → Loads env L m' (loc' ++ N) y u
  sto : ∀ y, Sto env L loc y → Sto env L loc' y
  fst : loc'.map (·.1) = loc.map (·.1)
  mm : env.locals ≠ L → m' = m
  keep : ∀ a o, (a, o) ∈ loc → (∀ es n, o.data ≠ .dict es n) → (∀ v, o.data ≠ .cell v) → (a, o) ∈ loc'

/-- what a store leaves of the heap -/
noncomputable def Kept (h h' : Heap) : Prop := ∀ b o, h.get? b = some o → (∀ es n, o.data ≠ .dict es n) → (∀ v, o.data ≠ .cell v) → h'.get? b = some o
theorem Kept.but {a : Addr} {oa : Obj} {h h' : Heap} (ha : h.get? a = some oa) (hd : (∃ es n, oa.data = .dict es n) ∨ ∃ v, oa.data = .cell v) (hb : Heap.SameBut a h h') : Kept h h' := fun b o e h1 h2 => hb.extBut b o (fun q => by
  rw [q, ha] at e; cases e
  rcases hd with ⟨es, n, hd⟩ | ⟨v, hd⟩
  · exact h1 _ _ hd
  · exact h2 _ hd) e
theorem store_kept {W : Wd} {env : Env} {sc : Scope} {L : Addr} {m : Str → Option Value} {loc mu fz : Led} {h₀ : Heap} {s : Shared} {x : Str} {v : Value} {M : Model} {A : Around} {Q : Unit → Shared → Prop} {E : Value → Shared → Prop}
    (hE : EnvOk env sc) (S : SS W h₀ L m (loc ++ mu) fz s.heap) (hs : Sto env L loc x)
    (k : ∀ m' loc' h' tk', SS W h₀ L m' (loc' ++ mu) fz h' → Stored env L m loc m' loc' x v → Kept s.heap h' → Q () { s with heap := h', toks := tk' }) :
    wpAny M A (storeName env x v) Q E s := by
  have hp : (env.scope.kind == .class || (env.scope.kind == .module && env.locals != env.globals)) = false := by rw [hE.kind]; rfl
  rcases hs with ⟨hk, hl | ⟨o, mm, hm, hn⟩⟩ | ⟨hk, c, o, v₀, hc, hm, hd⟩
  · -- the frame's own names
    refine wpAny_storeName_local hk (by rw [hl]; exact S.fr.ns) (fun h' hn hb => ?_) hp
    rw [hl] at hn hb
    refine k _ loc h' _ (S.store (S.fr.set hn hb) hb) ⟨fun N => .here hl hk (by simp), fun N y u hy hinj l => ?_, fun y hy => hy, rfl, fun q => absurd hl q, fun a o h _ _ => h⟩ (by obtain ⟨oL, es, ep, e1, e2, _⟩ := S.fr.ns; exact .but e1 (.inl ⟨_, _, e2⟩) hb)
    cases l with
    | here a b c => exact .here a b (by rw [if_neg hy]; exact c)
    | block a b c d =>
      -- the dict at L is no ledger's
      exact .block a b c d
    | cell a b c d => exact .cell a b c d
  · -- a block's names
    have ho := S.ofMu (List.mem_append_left _ hm)
    refine wpAny_storeName_local hk (hn.ns ho) (fun h' hn' hb => ?_) hp
    obtain ⟨o', ho', hn''⟩ := ObjNs.of hn'
    have S' := S.setLoc hm (fun b o hbd e => hb.extBut b o hbd e) ho'
    refine k m _ h' _ S' ⟨fun N => .block hk (List.mem_append_left _ (mem_setL_self hm)) hn'' (by simp), fun N y u hy hinj l => ?_, fun y hy => ?_, setL_fst .., fun _ => rfl, fun a o₂ h h1 h2 => ?_⟩ (by obtain ⟨es, ep, e1, _⟩ := hn; exact .but ho (.inl ⟨_, _, e1⟩) hb)
    · cases l with
      | here a b c => exact .here a b c
      | @block o₂ mm₂ _ a b c d =>
        have := hinj _ _ _ b (List.mem_append_left _ hm)
        subst this
        obtain ⟨es, ep, e1, e2, e3⟩ := c
        obtain ⟨es', ep', f1, f2, f3⟩ := hn
        rw [e1] at f1; cases f1
        refine .block a (List.mem_append_left _ (mem_setL_self hm)) hn'' ?_
        show (if y = x then some v else mm y) = some u
        rw [if_neg hy, ← f3, e3, d]
      | @cell c₂ o₂ _ a b c d =>
        have hne : c₂ ≠ env.locals := fun q => by
          rw [q] at c
          have := hinj _ _ _ c (List.mem_append_left _ hm)
          subst this
          obtain ⟨es, ep, e1, _⟩ := hn
          rw [e1] at d; cases d
        refine .cell a b ?_ d
        rcases List.mem_append.mp c with c | c
        · exact List.mem_append_left _ (mem_setL_ne c hne)
        · exact List.mem_append_right _ c
    · rcases hy with ⟨a, b | ⟨o₂, mm₂, b, c⟩⟩ | ⟨a, c₂, o₂, v₂, b, c, d⟩
      · exact .inl ⟨a, .inl b⟩
      · exact .inl ⟨a, .inr ⟨_, _, mem_setL_self hm, hn''⟩⟩
      · have hne : c₂ ≠ env.locals := fun q => by
          rw [q] at c
          have := S.inj (List.mem_append_left _ (List.mem_append_left _ c)) (List.mem_append_left _ (List.mem_append_left _ hm))
          subst this
          obtain ⟨es, ep, e1, _⟩ := hn
          rw [e1] at d; cases d
        exact .inr ⟨a, c₂, o₂, v₂, b, mem_setL_ne c hne, d⟩
    · refine mem_setL_ne h fun q => ?_
      have q' : a = env.locals := q
      rw [q'] at h
      have := S.inj (List.mem_append_left _ (List.mem_append_left _ h)) (List.mem_append_left _ (List.mem_append_left _ hm))
      subst this
      obtain ⟨es, ep, e1, _⟩ := hn
      exact h1 _ _ e1
  · -- a cell
    have ho := S.ofMu (List.mem_append_left _ hm)
    refine wpAny_storeName_cell hE.kind hk hc ⟨o, ho, hd⟩ fun h' hv hb => ?_
    obtain ⟨o', ho', hd'⟩ := hv
    have S' := S.setLoc hm (fun b o hbd e => hb.extBut b o hbd e) ho'
    refine k m _ h' s.toks S' ⟨fun N => .cell (.inl hk) hc (List.mem_append_left _ (mem_setL_self hm)) hd', fun N y u hy hinj l => ?_, fun y hy => ?_, setL_fst .., fun _ => rfl, fun a o₂ h h1 h2 => ?_⟩ (.but ho (.inr ⟨_, hd⟩) hb)
    · cases l with
      | here a b c => exact .here a b c
      | @block o₂ mm₂ _ a b c' d =>
        have hne : env.locals ≠ c := fun q => by
          rw [q] at b
          have := hinj _ _ _ b (List.mem_append_left _ hm)
          subst this
          obtain ⟨es, ep, e1, _⟩ := c'
          rw [e1] at hd; cases hd
        refine .block a ?_ c' d
        rcases List.mem_append.mp b with b | b
        · exact List.mem_append_left _ (mem_setL_ne b hne)
        · exact List.mem_append_right _ b
      | @cell c₂ o₂ _ a b c' d =>
        have hne : c₂ ≠ c := fun q => by
          rw [q] at b
          exact hy (hE.inj _ _ _ b hc)
        refine .cell a b ?_ d
        rcases List.mem_append.mp c' with c' | c'
        · exact List.mem_append_left _ (mem_setL_ne c' hne)
        · exact List.mem_append_right _ c'
    · rcases hy with ⟨a, b | ⟨o₂, mm₂, b, c'⟩⟩ | ⟨a, c₂, o₂, v₂, b, c', d⟩
      · exact .inl ⟨a, .inl b⟩
      · have hne : env.locals ≠ c := fun q => by
          rw [q] at b
          have := S.inj (List.mem_append_left _ (List.mem_append_left _ b)) (List.mem_append_left _ (List.mem_append_left _ hm))
          subst this
          obtain ⟨es, ep, e1, _⟩ := c'
          rw [e1] at hd; cases hd
        exact .inl ⟨a, .inr ⟨o₂, mm₂, mem_setL_ne b hne, c'⟩⟩
      · by_cases hq : c₂ = c
        · subst hq
          exact .inr ⟨a, _, o', _, b, mem_setL_self hm, hd'⟩
        · exact .inr ⟨a, c₂, o₂, v₂, b, mem_setL_ne c' hq, d⟩
    · refine mem_setL_ne h fun q => ?_
      have q' : a = c := q
      rw [q'] at h
      have := S.inj (List.mem_append_left _ (List.mem_append_left _ h)) (List.mem_append_left _ (List.mem_append_left _ hm))
      subst this
      exact h2 _ hd
theorem store_ok {W : Wd} {env : Env} {sc : Scope} {L : Addr} {m : Str → Option Value} {loc mu fz : Led} {h₀ : Heap} {s : Shared} {x : Str} {v : Value} {M : Model} {A : Around} {Q : Unit → Shared → Prop} {E : Value → Shared → Prop}
    (hE : EnvOk env sc) (S : SS W h₀ L m (loc ++ mu) fz s.heap) (hs : Sto env L loc x)
    (k : ∀ m' loc' h' tk', SS W h₀ L m' (loc' ++ mu) fz h' → Stored env L m loc m' loc' x v → Q () { s with heap := h', toks := tk' }) :
    wpAny M A (storeName env x v) Q E s := store_kept hE S hs fun m' loc' h' tk' S' st _ => k m' loc' h' tk' S' st
end Mine
end
section
open PySem PySem.W PyProof.Rows
set_option linter.unusedVariables false
set_option maxRecDepth 100000
namespace Mine
open PySem.Calls PySem.Spec PySem.SeqAt

theorem SS.setHead {W : Wd} {h₀ h h' : Heap} {L : Addr} {m : Str → Option Value} {mu fz : Led} {d : Addr} {o o' : Obj} (x : SS W h₀ L m ((d, o) :: mu) fz h)
    (hs : ∀ b o, b ≠ d → h.get? b = some o → h'.get? b = some o) (ho : h'.get? d = some o') : SS W h₀ L m ((d, o') :: mu) fz h' := by
  have := x.setLoc (loc := [(d, o)]) (mu := mu) (.head _) hs ho
  simpa [setL] using this

/-- an object that no loop lets go of -/
noncomputable def quietO (o : Obj) : Prop := ∀ n vs, o.cls = .type n → o.data = .fields vs → ["enumerate", "zip", "dict_itemiterator", "dict_reverseitemiterator", "odict_iterator", "itertools.zip_longest", "itertools.pairwise"].contains n = false
noncomputable def fieldsO (o : Obj) : Prop := ∃ vs, o.data = .fields vs

/-- an iterator over the ledgers -/
structure Src (W : Wd) (A : Around) (X : Fact) (MU : Led) (I : Addr) (St : Nat → Heap → Prop) (items : List Dat) : Prop where
  obj : ∀ i h, St i h → ∃ o, h.get? I = some o ∧ quietO o ∧ fieldsO o
  frame : ∀ i h h', St i h → (∀ o, h.get? I = some o → h'.get? I = some o) → (∀ b o, X b o ∨ (b, o) ∈ MU → h'.get? b = some o) → St i h'
  item : ∀ i d (s : Shared) (Q : Option Value → Shared → Prop) (E : Value → Shared → Prop), items[i]? = some d → St i s.heap →
    (∀ v h' tk, Rep X v d → St (i + 1) h' → (∀ b o, b ≠ I → s.heap.get? b = some o → h'.get? b = some o) → Q (some v) { s with heap := h', toks := tk }) → wpAny (model W.prog W.w) A (pyNext (.ref I)) Q E s
  done : ∀ (s : Shared) (Q : Option Value → Shared → Prop) (E : Value → Shared → Prop), St items.length s.heap →
    (∀ h' tk, (∀ b o, b ≠ I → s.heap.get? b = some o → h'.get? b = some o) → Q none { s with heap := h', toks := tk }) → wpAny (model W.prog W.w) A (pyNext (.ref I)) Q E s
  self : ∀ i (s : Shared) (Q : Value → Shared → Prop) (E : Value → Shared → Prop), St i s.heap → Q (.ref I) s → wpAny (model W.prog W.w) A (pyIter (.ref I)) Q E s

theorem Src.mono {W : Wd} {A : Around} {X Y : Fact} {MU MU' : Led} {I : Addr} {St : Nat → Heap → Prop} {items : List Dat} (x : Src W A X MU I St items) (s : FSub X Y) (u : Sub MU MU') : Src W A Y MU' I St items :=
  ⟨x.obj, fun i h h' st h1 h2 => x.frame i h h' st h1 fun b o hb => h2 b o (hb.imp (s _ _) (u _)), fun i d s' Q E hi st k => x.item i d s' Q E hi st fun v h' tk r => k v h' tk (r.mono s), x.done, x.self⟩

/-- an expression whose iterator gives items; sel: which ledger the iterator leans on -/
noncomputable def EI (sel : Led → Led) (W : Wd) (lv : Nat) (sc : Scope) (ρ : Names) (e : Expr) (items : List Dat) : Prop :=
  ∀ (A : Around) (h₀ : Heap) (fenv : Env) (L : Addr) (m : Str → Option Value) (mu fz : Led) (env : Env) (s : Shared) (Q E : Value → Shared → Prop),
    AOk W lv A h₀ fenv L → EnvOk env sc → SS W h₀ L m mu fz s.heap → NamesOk W env L m mu (mu ++ fz) (Hs W.base fz) ρ →
    (∀ I St o fz' h' tk', Sub fz fz' → SS W h₀ L m ((I, o) :: mu) fz' h' → Src W A (Hs W.base fz') (sel mu) I St items → St 0 h' → Q (.ref I) { s with heap := h', toks := tk' }) →
    wpAny (model W.prog W.w) A (eval e env) (fun x s₁ => wpAny (model W.prog W.w) A (pyIter x) Q E s₁) E s

theorem EI.up {W : Wd} {lv : Nat} {sc : Scope} {ρ : Names} {e : Expr} {items : List Dat} (h : EI (fun _ => []) W lv sc ρ e items) : EI id W lv sc ρ e items := by
  intro A h₀ fenv L m mu fz env s Q E hA hE S hN k
  exact h A h₀ fenv L m mu fz env s Q E hA hE S hN fun I St o fz' h' tk' s' S' sr => k I St o fz' h' tk' s' S' (sr.mono (FSub.refl _) (fun _ h => by cases h))
section
variable {W : Wd} {lv : Nat} {sc : Scope} {ρ : Names}

theorem src_list {A : Around} {mu fz : Led} {I l : Addr} {vs : List Value} {ds : List Dat} {o : Obj} {n : Nat} (hh : A.handled = none)
    (hne : l ≠ I) (ho : Hs W.base fz l o ∨ (l, o) ∈ mu) (hc : o.cls = .type "list") (hd : o.data = .seq vs.toArray n) (hr : RepA (Hs W.base fz) vs ds) :
    Src W A (Hs W.base fz) mu I (fun i h => h.IsListIter I l i ∧ h.get? l = some o) ds := by
  have Wk := fun prog w => Walks.list (prog := prog) (w := w) (A := A) hh I l hne vs.toArray
  have hl : ∀ {h : Heap}, h.get? l = some o → h.IsList l vs.toArray := fun e => ⟨o, e, hc, n, hd⟩
  refine ⟨fun i h st => ?_, fun i h h' st h1 h2 => ⟨?_, h2 l o ho⟩, fun i d s Q E hi st k => ?_, fun s Q E st k => ?_, fun i s Q E st k => ?_⟩
  · obtain ⟨⟨o', e, c, d⟩, _⟩ := st
    refine ⟨o', e, fun n vs hn _ => ?_, ⟨_, d⟩⟩
    rw [c] at hn; cases hn; decide
  · obtain ⟨⟨o', e, r⟩, _⟩ := st
    exact ⟨o', h1 _ e, r⟩
  · obtain ⟨v, hv, rv⟩ := hr.get hi
    have hlt : i < vs.toArray.size := by simpa using (List.getElem?_eq_some_iff.mp hv).1
    refine (Wk _ _).item i s Q E hlt ⟨st.1, hl st.2⟩ fun v' h' tk hv' st' hk => ?_
    have : v' = v := by
      have e : vs.toArray[i]? = some v := by simpa using hv
      have hv'' : vs.toArray[i]? = some v' := hv'
      rw [e] at hv''; exact (Option.some.inj hv'').symm
    subst this
    have hk' : ∀ b o, b ≠ I → s.heap.get? b = some o → h'.get? b = some o := fun b o hb => hk b o (by simpa using hb)
    exact k _ h' tk rv ⟨st'.1, hk' _ _ hne st.2⟩ hk'
  · rw [← hr.length] at st
    refine (Wk _ _).done s Q E ⟨by simpa using st.1, hl st.2⟩ fun h' tk hk => k h' tk fun b o hb => hk b o (by simpa using hb)
  · exact (Wk _ _).self i s Q E ⟨st.1, hl st.2⟩ k
theorem src_tuple {A : Around} {mu fz : Led} {I l : Addr} {vs : List Value} {ds : List Dat} {o : Obj} {n : Nat} (hh : A.handled = none)
    (hne : l ≠ I) (ho : Hs W.base fz l o ∨ (l, o) ∈ mu) (hc : o.cls = .type "tuple") (hd : o.data = .seq vs.toArray n) (hr : RepA (Hs W.base fz) vs ds) :
    Src W A (Hs W.base fz) mu I (fun i h => h.IsTupleIter I l i ∧ h.get? l = some o) ds := by
  have Wk := fun prog w => Walks.tuple (prog := prog) (w := w) (A := A) hh I l hne vs.toArray
  have hl : ∀ {h : Heap}, h.get? l = some o → h.IsTuple l vs.toArray := fun e => ⟨o, e, hc, n, hd⟩
  refine ⟨fun i h st => ?_, fun i h h' st h1 h2 => ⟨?_, h2 l o ho⟩, fun i d s Q E hi st k => ?_, fun s Q E st k => ?_, fun i s Q E st k => ?_⟩
  · obtain ⟨⟨o', e, c, d⟩, _⟩ := st
    refine ⟨o', e, fun n vs hn _ => ?_, ⟨_, d⟩⟩
    rw [c] at hn; cases hn; decide
  · obtain ⟨⟨o', e, r⟩, _⟩ := st
    exact ⟨o', h1 _ e, r⟩
  · obtain ⟨v, hv, rv⟩ := hr.get hi
    have hlt : i < vs.toArray.size := by simpa using (List.getElem?_eq_some_iff.mp hv).1
    refine (Wk _ _).item i s Q E hlt ⟨st.1, hl st.2⟩ fun v' h' tk hv' st' hk => ?_
    have : v' = v := by
      have e : vs.toArray[i]? = some v := by simpa using hv
      have hv'' : vs.toArray[i]? = some v' := hv'
      rw [e] at hv''; exact (Option.some.inj hv'').symm
    subst this
    have hk' : ∀ b o, b ≠ I → s.heap.get? b = some o → h'.get? b = some o := fun b o hb => hk b o (by simpa using hb)
    exact k _ h' tk rv ⟨st'.1, hk' _ _ hne st.2⟩ hk'
  · rw [← hr.length] at st
    refine (Wk _ _).done s Q E ⟨by simpa using st.1, hl st.2⟩ fun h' tk hk => k h' tk fun b o hb => hk b o (by simpa using hb)
  · exact (Wk _ _).self i s Q E ⟨st.1, hl st.2⟩ k
theorem src_rev {A : Around} {mu fz : Led} {I l : Addr} {vs : List Value} {ds : List Dat} {o : Obj} {n : Nat} (hh : A.handled = none)
    (hne : l ≠ I) (ho : Hs W.base fz l o ∨ (l, o) ∈ mu) (hc : o.cls = .type "list") (hd : o.data = .seq vs.toArray n) (hr : RepA (Hs W.base fz) vs ds) :
    Src W A (Hs W.base fz) mu I (fun i h => i ≤ vs.toArray.size ∧ h.IsRevIter I l ((vs.toArray.size : Int) - 1 - (i : Int)) ∧ h.get? l = some o) ds.reverse := by
  have Wk := fun prog w => Walks.listRev (prog := prog) (w := w) (A := A) hh I l hne vs.toArray
  have hl : ∀ {h : Heap}, h.get? l = some o → h.IsList l vs.toArray := fun e => ⟨o, e, hc, n, hd⟩
  refine ⟨fun i h st => ?_, fun i h h' st h1 h2 => ⟨st.1, ?_, h2 l o ho⟩, fun i d s Q E hi st k => ?_, fun s Q E st k => ?_, fun i s Q E st k => ?_⟩
  · obtain ⟨_, ⟨o', e, c, d⟩, _⟩ := st
    refine ⟨o', e, fun n vs hn _ => ?_, ⟨_, d⟩⟩
    rw [c] at hn; cases hn; decide
  · obtain ⟨_, ⟨o', e, r⟩, _⟩ := st
    exact ⟨o', h1 _ e, r⟩
  · obtain ⟨v, hv, rv⟩ := hr.reverse.get hi
    have hlt : i < vs.length := by simpa using (List.getElem?_eq_some_iff.mp hv).1
    refine (Wk _ _).item i s Q E (by simpa using hlt) ⟨st.1, st.2.1, hl st.2.2⟩ fun v' h' tk hv' st' hk => ?_
    have : v' = v := by
      have e : vs.toArray[vs.toArray.size - 1 - i]? = some v := by
        rw [List.getElem?_reverse hlt] at hv
        simpa using hv
      have hv'' : vs.toArray[vs.toArray.size - 1 - i]? = some v' := hv'
      rw [e] at hv''; exact (Option.some.inj hv'').symm
    subst this
    have hk' : ∀ b o, b ≠ I → s.heap.get? b = some o → h'.get? b = some o := fun b o hb => hk b o (by simpa using hb)
    exact k _ h' tk rv ⟨st'.1, st'.2.1, hk' _ _ hne st.2.2⟩ hk'
  · rw [List.length_reverse, ← hr.length] at st
    refine (Wk _ _).done s Q E ⟨by simp, by simpa using st.2.1, hl st.2.2⟩ fun h' tk hk => k h' tk fun b o hb => hk b o (by simpa using hb)
  · exact (Wk _ _).self i s Q E ⟨st.1, st.2.1, hl st.2.2⟩ k
noncomputable def rangeD (a c : Int) (n : Nat) : List Dat := (List.range n).map fun (i : Nat) => Dat.int (a + (i : Int) * c)
theorem rangeD_length {a c : Int} {n : Nat} : (rangeD a c n).length = n := by simp [rangeD]
theorem src_range {A : Around} {X : Fact} {mu : Led} {I : Addr} (hh : A.handled = none) (a c : Int) (n : Nat) :
    Src W A X mu I (fun i h => IsRangeIter h I (a + (i : Nat) * c) ((n : Int) - (i : Nat)) c) (rangeD a c n) := by
  have Wk := fun prog w => Walks.range (prog := prog) (w := w) (A := A) hh I a c n
  refine ⟨fun i h st => ?_, fun i h h' st h1 h2 => h1 _ st, fun i d s Q E hi st k => ?_, fun s Q E st k => ?_, fun i s Q E st k => ?_⟩
  · refine ⟨_, st, fun n vs hn _ => ?_, ⟨_, rfl⟩⟩
    cases hn; decide
  · have hlt : i < n := by simpa [rangeD] using (List.getElem?_eq_some_iff.mp hi).1
    have hd : d = .int (a + (i : Int) * c) := by
      unfold rangeD at hi
      rw [List.getElem?_map, List.getElem?_range hlt] at hi
      exact (Option.some.inj hi).symm
    refine (Wk _ _).item i s Q E hlt st fun v' h' tk hv' st' hk => ?_
    obtain ⟨t, rfl⟩ := hv'
    subst hd
    exact k _ h' tk (.int _ _) st' fun b o hb => hk b o (by simpa using hb)
  · rw [rangeD_length] at st
    exact (Wk _ _).done s Q E st fun h' tk hk => k h' tk fun b o hb => hk b o (by simpa using hb)
  · exact (Wk _ _).self i s Q E st k
noncomputable def bytesD (b : Array UInt8) : List Dat := b.toList.map fun c => .int (c.toNat : Int)
theorem src_bytes {A : Around} {X : Fact} {mu : Led} {I : Addr} (hh : A.handled = none) (b : Array UInt8) (t : Tok) :
    Src W A X mu I (fun i h => KBw.IsBytesIter h I b t i) (bytesD b) := by
  have Wk := fun prog w => KBw.walks (prog := prog) (w := w) (A := A) hh I b t
  refine ⟨fun i h st => ?_, fun i h h' st h1 h2 => ?_, fun i d s Q E hi st k => ?_, fun s Q E st k => ?_, fun i s Q E st k => ?_⟩
  · obtain ⟨o', e, c, d⟩ := st
    refine ⟨o', e, fun n vs hn _ => ?_, ⟨_, d⟩⟩
    rw [c] at hn; cases hn; decide
  · obtain ⟨o', e, r⟩ := st
    exact ⟨o', h1 _ e, r⟩
  · have hlt : i < b.size := by simpa [bytesD] using (List.getElem?_eq_some_iff.mp hi).1
    refine (Wk _ _).item i s Q E hlt st fun v' h' tk hv' st' hk => ?_
    obtain ⟨c, u, hc, rfl⟩ := hv'
    have hd : d = .int (c.toNat : Int) := by
      unfold bytesD at hi
      rw [List.getElem?_map, Array.getElem?_toList, hc] at hi
      exact (Option.some.inj hi).symm
    subst hd
    exact k _ h' tk (.int _ _) st' fun b o hb => hk b o (by simpa using hb)
  · have e : (bytesD b).length = b.size := by simp [bytesD]
    rw [e] at st
    exact (Wk _ _).done s Q E st fun h' tk hk => k h' tk fun b o hb => hk b o (by simpa using hb)
  · exact (Wk _ _).self i s Q E st k

theorem SS.fresh {h₀ h : Heap} {L : Addr} {m : Str → Option Value} {mu fz : Led} (S : SS W h₀ L m mu fz h) {a : Addr} {o : Obj} (ho : Hs W.base fz a o ∨ (a, o) ∈ mu) : a ≠ h.objs.size := by
  have e : h.get? a = some o := ho.elim S.has S.ofMu
  exact Nat.ne_of_lt (Heap.lt_size e)

theorem PRep.obj {mu fz : Led} {v : Value} {pv : PV} {ds : List Dat} (r : PRep W (Hs W.base fz) mu v pv) (e : pv.items? = some ds) :
    ∃ l o vs n, v = .ref l ∧ (Hs W.base fz l o ∨ (l, o) ∈ mu) ∧ o.cls = .type "list" ∧ o.data = .seq (List.toArray vs) n ∧ RepA (Hs W.base fz) vs ds := by
  cases pv with
  | dat d =>
    cases d <;> first | (cases e; done) | skip
    rename_i l
    cases e
    cases r with
    | list a b c d => exact ⟨_, _, _, _, rfl, .inl a, b, c, d⟩
  | lst l =>
    cases e
    obtain ⟨l, o, vs, n, a, b, c, d, e, f⟩ := r
    exact ⟨l, o, vs, n, a, .inr b, c, e, f⟩
  | fn _ _ => cases e
theorem ei_list {e : Expr} {pv : PV} {ds : List Dat} (h : EV W lv sc ρ e pv) (hi : pv.items? = some ds) : EI id W lv sc ρ e ds := by
  intro A h₀ fenv L m mu fz env s Q E hA hE S hN k
  refine h A h₀ fenv L m mu fz env s _ E hA hE S hN fun v fz' h' t' s' S' R' => ?_
  obtain ⟨l, o, vs, n, rfl, ho, hc, hd, ra⟩ := R'.obj hi
  have e : h'.get? l = some o := ho.elim S'.has S'.ofMu
  refine wpAny_pyIter_list ⟨o, e, hc, n, hd⟩ ?_
  refine k _ _ _ fz' _ _ s' (S'.pushMu _) (src_list hA.hh (S'.fresh ho) ho hc hd ra) ⟨⟨_, Heap.get?_push_size _ rfl, rfl, rfl⟩, Heap.get?_push_of_some _ e⟩
theorem ei_tuple {e : Expr} {ds : List Dat} (h : EV W lv sc ρ e (.dat (.tuple ds))) : EI (fun _ => []) W lv sc ρ e ds := by
  intro A h₀ fenv L m mu fz env s Q E hA hE S hN k
  refine h A h₀ fenv L m mu fz env s _ E hA hE S hN fun v fz' h' t' s' S' R' => ?_
  cases R' with
  | @tuple l o vs n _ ho hc hd ra =>
    have e : h'.get? l = some o := S'.has ho
    refine wpAny_pyIter_tuple ⟨o, e, hc, n, hd⟩ ?_
    refine k _ _ _ fz' _ _ s' (S'.pushMu _) (src_tuple hA.hh (S'.fresh (.inl ho)) (.inl ho) hc hd ra) ⟨⟨_, Heap.get?_push_size _ rfl, rfl, rfl⟩, Heap.get?_push_of_some _ e⟩
theorem ei_bytes {e : Expr} {b : Array UInt8} (h : EV W lv sc ρ e (.dat (.bytes b))) : EI (fun _ => []) W lv sc ρ e (bytesD b) := by
  intro A h₀ fenv L m mu fz env s Q E hA hE S hN k
  refine h A h₀ fenv L m mu fz env s _ E hA hE S hN fun v fz' h' t' s' S' R' => ?_
  cases R' with
  | bytes _ t =>
    refine KBw.pyIter_bytes ?_
    exact k _ _ _ fz' _ _ s' (S'.pushMu _) (src_bytes hA.hh b t) ⟨_, Heap.get?_push_size _ rfl, rfl, rfl⟩
theorem ei_range1 {x : Str} {np pos : Pos} {e : Expr} {a : Int} {n : Nat} (hb : Boot W sc x (.type "range")) (hn : nStar e = true) (h : EV W lv sc ρ e (.dat (.int a)))
    (hs : Builtin.Range.small 0 a 1 = true) (hz : Builtin.Range.rangeSize 0 a 1 = n) : EI (fun _ => []) W lv sc ρ (.Call (.Name x np) [e] [] pos) (rangeD 0 1 n) := by
  intro A h₀ fenv L m mu fz env s Q E hA hE S hN k
  refine wpAny_Call_ofName (eval_boot hA hE S hb.sc hb.dbg hb.nm hb.top hb.boot ?_)
  have hv : EVs W lv sc ρ [e] [.dat (.int a)] := .cons hn h .nil
  refine PySem.callWith_type (evs_star hv) (evalArgs_ok hv A h₀ fenv L m mu fz env s _ E hA hE S hN fun vs fz' h' t' s' S' R' => ?_)
  match vs, R' with
  | [v], ⟨R', _⟩ =>
  have R' : Rep (Hs W.base fz') v (.int a) := R'
  cases R' with
  | int _ t =>
  refine call_range_1 ?_
  refine wpAny_pyIter_range (a := 0) (b := a) (c := 1) (Heap.get?_push_size _ rfl) hs ?_
  refine k _ _ _ _ _ _ (s'.trans .cons) ((S'.push _).pushMu _) (src_range hA.hh 0 1 n) ?_
  have e := Heap.get?_push_size (h'.push { cls := .type "range", data := .fields #[.int 0 t', .int a t, .int 1 (t' + 1)] }) (o := { cls := .type "range_iterator", data := .fields #[rawInt 0, rawInt (Builtin.Range.rangeSize 0 a 1), rawInt 1] }) rfl
  rw [hz] at e ⊢
  simpa using e
theorem ei_range3 {x : Str} {np pos : Pos} {e e2 e3 : Expr} {a b c : Int} {n : Nat} (hb : Boot W sc x (.type "range")) (hn : nStar e = true) (h : EV W lv sc ρ e (.dat (.int a))) (hn2 : nStar e2 = true) (h2 : EV W lv sc ρ e2 (.dat (.int b)))
    (hn3 : nStar e3 = true) (h3 : EV W lv sc ρ e3 (.dat (.int c))) (h0 : c ≠ 0) (hp : Builtin.divisionGoesByPylong (b - a) c = false)
    (hs : Builtin.Range.small a b c = true) (hz : Builtin.Range.rangeSize a b c = n) : EI (fun _ => []) W lv sc ρ (.Call (.Name x np) [e, e2, e3] [] pos) (rangeD a c n) := by
  intro A h₀ fenv L m mu fz env s Q E hA hE S hN k
  refine wpAny_Call_ofName (eval_boot hA hE S hb.sc hb.dbg hb.nm hb.top hb.boot ?_)
  have hv : EVs W lv sc ρ [e, e2, e3] [.dat (.int a), .dat (.int b), .dat (.int c)] := .cons hn h (.cons hn2 h2 (.cons hn3 h3 .nil))
  refine PySem.callWith_type (evs_star hv) (evalArgs_ok hv A h₀ fenv L m mu fz env s _ E hA hE S hN fun vs fz' h' t' s' S' R' => ?_)
  match vs, R' with
  | [v, v2, v3], ⟨R', R2, R3, _⟩ =>
  have R' : Rep (Hs W.base fz') v (.int a) := R'
  have R2 : Rep (Hs W.base fz') v2 (.int b) := R2
  have R3 : Rep (Hs W.base fz') v3 (.int c) := R3
  cases R' with
  | int _ t =>
  cases R2 with
  | int _ t2 =>
  cases R3 with
  | int _ t3 =>
  refine call_range_3 h0 ?_ (.inl hp)
  refine wpAny_pyIter_range (a := a) (b := b) (c := c) (Heap.get?_push_size _ rfl) hs ?_
  refine k _ _ _ _ _ _ (s'.trans .cons) ((S'.push _).pushMu _) (src_range hA.hh a c n) ?_
  have e := Heap.get?_push_size (h'.push { cls := .type "range", data := .fields #[.int a t, .int b t2, .int c t3] }) (o := { cls := .type "range_iterator", data := .fields #[rawInt a, rawInt (Builtin.Range.rangeSize a b c), rawInt c] }) rfl
  rw [hz] at e ⊢
  simpa using e
end
end Mine
end
section
open PySem PySem.W PyProof.Rows
set_option linter.unusedVariables false
set_option maxRecDepth 100000
namespace Mine
open PySem.Calls PySem.Spec PySem.SeqAt

theorem nd_inj {l : Led} (h : (l.map (·.1)).Nodup) {a : Addr} {o o' : Obj} (h1 : (a, o) ∈ l) (h2 : (a, o') ∈ l) : o = o' := by
  induction l with
  | nil => cases h1
  | cons p l ih =>
    rw [List.map_cons, List.nodup_cons] at h
    rcases List.mem_cons.mp h1 with e1 | h1 <;> rcases List.mem_cons.mp h2 with e2 | h2
    · rw [← e1] at e2; exact (Prod.mk.inj e2).2.symm
    · exact absurd (List.mem_map.mpr ⟨_, h2, by rw [← e1]⟩) h.1
    · exact absurd (List.mem_map.mpr ⟨_, h1, by rw [← e2]⟩) h.1
    · exact ih h.2 h1 h2

/-- the ledger after some names were laid -/
structure Moved (W : Wd) (env : Env) (L : Addr) (m : Str → Option Value) (loc : Led) (m' : Str → Option Value) (loc' : Led) (X : Fact) (bs : Names) : Prop where
  names : ∀ MU N Y ρ, FSub X Y → ((loc ++ N).map (·.1)).Nodup → NamesOk W env L m MU (loc ++ N) Y ρ → NamesOk W env L m' MU (loc' ++ N) Y (bs ++ ρ)
  old : ∀ N y u, y ∉ bs.map (·.1) → ((loc ++ N).map (·.1)).Nodup → Loads env L m (loc ++ N) y u → Loads env L m' (loc' ++ N) y u
  sto : ∀ y, Sto env L loc y → Sto env L loc' y
  fst : loc'.map (·.1) = loc.map (·.1)
  mm : env.locals ≠ L → m' = m

theorem Stored.moved {W : Wd} {env : Env} {L : Addr} {m m' : Str → Option Value} {loc loc' : Led} {x : Str} {v : Value} {X : Fact} {pv : PV} (h : Stored env L m loc m' loc' x v) (hp : PlainName x)
    (hr : ∀ MU Y, FSub X Y → PRep W Y MU v pv) : Moved W env L m loc m' loc' X [(x, pv)] := by
  refine ⟨fun MU N Y ρ s nd hN y q hy => ?_, fun N y u hy nd l => h.old N y u (fun e => hy (by simp [e])) (fun a o o' => nd_inj nd) l, h.sto, h.fst, h.mm⟩
  rw [List.cons_append, List.nil_append, List.lookup_cons] at hy
  cases hb : y == x with
  | true =>
    rw [hb] at hy; cases hy
    have e := beq_iff_eq.mp hb
    subst e
    exact ⟨hp, v, h.new N, hr _ _ s⟩
  | false =>
    rw [hb] at hy
    obtain ⟨a, u, l, r⟩ := hN y q hy
    exact ⟨a, u, h.old N y u (fun e => by rw [e, beq_self_eq_true] at hb; cases hb) (fun a o o' => nd_inj nd) l, r⟩
theorem Moved.trans {W : Wd} {env : Env} {L : Addr} {m m' m'' : Str → Option Value} {loc loc' loc'' : Led} {X : Fact} {bs bs' : Names} (h : Moved W env L m loc m' loc' X bs) (k : Moved W env L m' loc' m'' loc'' X bs') : Moved W env L m loc m'' loc'' X (bs' ++ bs) := by
  have nd' : ∀ {N : Led}, ((loc ++ N).map (·.1)).Nodup → ((loc' ++ N).map (·.1)).Nodup := fun nd => by rwa [List.map_append, h.fst, ← List.map_append]
  refine ⟨fun MU N Y ρ s nd hN => ?_, fun N y u hy nd l => ?_, fun y hy => k.sto y (h.sto y hy), k.fst.trans h.fst, fun e => (k.mm e).trans (h.mm e)⟩
  · rw [List.append_assoc]
    exact k.names MU N Y _ s (nd' nd) (h.names MU N Y ρ s nd hN)
  · rw [List.map_append, List.mem_append] at hy
    exact k.old N y u (fun q => hy (.inl q)) (nd' nd) (h.old N y u (fun q => hy (.inr q)) nd l)

/-- targets -/
noncomputable def bindT : Expr → Dat → Option Names
  | .Name x _, d => some [(x, .dat d)]
  | .Tuple [.Name x _, .Name y _] _ _, .tuple [a, b] => some [(y, .dat b), (x, .dat a)]
  | _, _ => none
noncomputable def tn : Expr → List Str
  | .Name x _ => [x]
  | .Tuple [.Name x _, .Name y _] _ _ => [y, x]
  | _ => []
theorem bindT_names {e : Expr} {d : Dat} {bs : Names} (h : bindT e d = some bs) : bs.map (·.1) = tn e := by
  unfold bindT at h
  split at h
  · cases h; rfl
  · cases h; rfl
  · cases h
theorem lookup_none {bs : Names} {x : Str} (h : x ∉ bs.map (·.1)) : bs.lookup x = none := by
  induction bs with
  | nil => rfl
  | cons p bs ih =>
    obtain ⟨y, q⟩ := p
    rw [List.map_cons, List.mem_cons] at h
    rw [List.lookup_cons]
    have : (x == y) = false := by
      cases e : x == y with
      | false => rfl
      | true => exact absurd (.inl (beq_iff_eq.mp e)) h
    rw [this]; exact ih fun k => h (.inr k)
theorem lookup_append {bs ρ : Names} {x : Str} : (bs ++ ρ).lookup x = (bs.lookup x <|> ρ.lookup x) := by
  induction bs with
  | nil => simp
  | cons p bs ih =>
    obtain ⟨y, q⟩ := p
    rw [List.cons_append, List.lookup_cons, List.lookup_cons]
    cases x == y with
    | true => simp
    | false => exact ih
theorem lookup_back {bs ρ : Names} (h : ∀ x ∈ bs.map (·.1), ρ.lookup x = none) : ∀ x pv, ρ.lookup x = some pv → (bs ++ ρ).lookup x = some pv := by
  intro x pv hx
  rw [lookup_append, lookup_none (fun k => by rw [h x k] at hx; cases hx)]
  simpa using hx

theorem assign_ok {W : Wd} {env : Env} {sc : Scope} {L : Addr} {m : Str → Option Value} {loc mu fz : Led} {h₀ : Heap} {s : Shared} {t : Expr} {v : Value} {d : Dat} {bs : Names} {A : Around} {Q : Unit → Shared → Prop} {E : Value → Shared → Prop}
    (hh : A.handled = none) (hE : EnvOk env sc) (S : SS W h₀ L m (loc ++ mu) fz s.heap) (hs : ∀ x ∈ tn t, Sto env L loc x ∧ PlainName x) (hr : Rep (Hs W.base fz) v d) (hb : bindT t d = some bs)
    (k : ∀ m' loc' h' tk', SS W h₀ L m' (loc' ++ mu) fz h' → Moved W env L m loc m' loc' (Hs W.base fz) bs → Q () { s with heap := h', toks := tk' }) :
    wpAny (model W.prog W.w) A (assign t env v) Q E s := by
  unfold bindT at hb
  split at hb
  · cases hb
    obtain ⟨h1, h2⟩ := hs _ (.head _)
    refine wpAny_assign_Name (store_ok hE S h1 fun m' loc' h' tk' S' st => k m' loc' h' tk' S' (st.moved h2 fun MU Y s => hr.mono s))
  · rename_i x px y py kd pos a b
    cases hb
    · obtain ⟨l, o, vs, n, rfl, ho, hc, hd, ra⟩ := hr.tup
      obtain ⟨v1, v2, rfl, r1, r2⟩ := ra.inv2
      refine wpAny_assign_Tuple hh ⟨o, S.has ho, hc, n, hd⟩ rfl rfl fun h₁ k₁ => ?_
      have S₁ : SS W h₀ L m (loc ++ mu) fz h₁ := S.grown fun b o e => k₁ b o (Nat.ne_of_lt (Heap.lt_size e)) e
      show wpAny _ A (assignInOrder [assign (.Name x px) env, assign (.Name y py) env] [v1, v2]) Q E _
      obtain ⟨a1, a2⟩ := hs x (.tail _ (.head _))
      obtain ⟨b1, b2⟩ := hs y (.head _)
      refine wpAny_bind (wpAny_holding (wpAny_assign_Name (store_ok hE S₁ a1 fun m₂ loc₂ h₂ tk₂ S₂ st₂ => ?_)))
      refine wpAny_bind (wpAny_holding (wpAny_assign_Name (store_ok hE S₂ (st₂.sto _ b1) fun m₃ loc₃ h₃ tk₃ S₃ st₃ => ?_)))
      exact wpAny_pure (k m₃ loc₃ h₃ tk₃ S₃ ((st₂.moved (pv := .dat a) a2 fun MU Y s => r1.mono s).trans (st₃.moved (pv := .dat b) b2 fun MU Y s => r2.mono s)))
  · cases hb

theorem letOwned_ok {W : Wd} {A : Around} {s : Shared} {t : Expr} {I : Addr} {v : Value} {o : Obj} {Q : Unit → Shared → Prop} {E : Value → Shared → Prop} (ho : s.heap.get? I = some o) (hq : quietO o) (h : Q () s) :
    wpAny (model W.prog W.w) A (letOwnedTupleGo t (.ref I) v) Q E s := by
  unfold letOwnedTupleGo
  split
  iterate 2
    · cases v with
      | ref a =>
        refine wpAny_bind (wpAny_load ho ?_)
        split
        · rename_i n vs hn hvs
          rw [hq n vs hn hvs, Bool.false_and, if_neg Bool.false_ne_true]
          exact wpAny_pure h
        · exact wpAny_pure h
      | _ => exact wpAny_pure h
  · exact wpAny_pure h
end Mine
end
section
open PySem PySem.W PyProof.Rows
set_option linter.unusedVariables false
set_option maxRecDepth 100000
namespace Mine
open PySem.Calls PySem.Spec PySem.SeqAt

section
variable {prog : Program} {w : World} {A : Around} {E : Value → Shared → Prop} {R : Result → Shared → Prop} {s : Shared}
theorem codeAny_compStart_at {elt : Expr} {gens : List Comprehension} {scope : Scope} {pos : Pos} {k : Nat} {it acc : Value} {env : Env} {target iter : Expr} {ifs : List Expr} (hg : gens[k]? = some ⟨target, iter, ifs, 0⟩)
    (h0 : codeAny (model prog w) A (.compLoop (.ListComp elt gens scope pos) k it acc env) R s)
    (h : wpAny (model prog w) A (pyIter it) (fun it' s' => codeAny (model prog w) A (.compLoop (.ListComp elt gens scope pos) k it' acc env) R s')
      (notedBy (model prog w) A env fun x s' => R (.error x) s') s) :
    codeAny (model prog w) A (.compStart (.ListComp elt gens scope pos) k it acc env) R s := by
  refine codeAny_of_tree ?_
  show wpAny _ _ ((compStart (.ListComp elt gens scope pos) k it acc env).onRaise (fun x => do noteFrame x env; standAt theWindowsPlace)) _ _ s
  refine wpAny_notedAt ?_
  unfold compStart
  have hc : (clausesOf (.ListComp elt gens scope pos)) = gens := rfl
  rw [hc, hg]
  show wpAny _ _ (ask >>= _) _ _ s
  refine wpAny_bind (wpAny_askSetting (wpAny_ite ?_))
  split
  · first
      | exact wpAny_bind (wpAny_pure (wpAny_pure (And.intro rfl h0)))
      | exact wpAny_pure (And.intro rfl h0)
  · refine wpAny_bind (wpAny_rule ?_)
    show wpAny _ _ (standAt iter.pos >>= _) _ _ s
    exact wpAny_bind (wpAny_standAt (wpAny_bind (wpAny_mono h (fun it' s' h' => wpAny_pure (And.intro rfl h')) fun _ _ x => x)))
end

/-- the tests of a clause -/
theorem tests_ok {W : Wd} {lv : Nat} {sc : Scope} {ρ : Names} {ifs : List Expr} {b : Bool} (h : ETs W lv sc ρ .And ifs b) : ∀ (A : Around) (h₀ : Heap) (fenv : Env) (L : Addr) (m : Str → Option Value) (mu fz : Led) (env : Env) (s : Shared) (Q : Bool → Shared → Prop) (E : Value → Shared → Prop),
    AOk W lv A h₀ fenv L → EnvOk env sc → SS W h₀ L m mu fz s.heap → NamesOk W env L m mu (mu ++ fz) (Hs W.base fz) ρ →
    (∀ fz' h' tk', Sub fz fz' → SS W h₀ L m mu fz' h' → Q b { s with heap := h', toks := tk' }) →
    wpAny (model W.prog W.w) A (forIn ifs true fun c r => if r = true then do let ok ← isTrue c env (eval c env); pure (ForInStep.yield ok) else pure (ForInStep.yield r)) Q E s := by
  have dead : ∀ (M : Model) (xs : List Expr) (env : Env) (A : Around) (s : Shared) (Q : Bool → Shared → Prop) (E : Value → Shared → Prop), Q false s →
      wpAny M A (forIn xs false fun c r => if r = true then do let ok ← isTrue c env (eval c env); pure (ForInStep.yield ok) else pure (ForInStep.yield r)) Q E s := by
    intro M xs env A s Q E h
    induction xs with
    | nil => exact wpAny_pure h
    | cons x xs ih =>
      rw [List.forIn_cons, if_neg Bool.false_ne_true]
      exact wpAny_bind (wpAny_pure ih)
  induction h with
  | nil =>
    intro A h₀ fenv L m mu fz env s Q E hA hE S hN k
    exact wpAny_pure (k fz _ _ (Sub.refl _) S)
  | stop h hb =>
    intro A h₀ fenv L m mu fz env s Q E hA hE S hN k
    subst hb
    rw [List.forIn_cons, if_pos rfl]
    refine wpAny_bind (wpAny_bind (h A h₀ fenv L m mu fz env s _ E hA hE S hN fun fz' h' t' s' S' => wpAny_pure ?_))
    exact dead _ _ _ _ _ _ _ (k fz' h' t' s' S')
  | go h hb _ ih =>
    intro A h₀ fenv L m mu fz env s Q E hA hE S hN k
    subst hb
    rw [List.forIn_cons, if_pos rfl]
    refine wpAny_bind (wpAny_bind (h A h₀ fenv L m mu fz env s _ E hA hE S hN fun fz' h' t' s' S' => wpAny_pure ?_))
    exact ih A h₀ fenv L m mu fz' env _ Q E hA hE S' (hN.grow s') fun fz₂ h₂ t₂ s₂ S₂ => k fz₂ h₂ t₂ (s'.trans s₂) S₂

/-- what a comprehension gives out -/
noncomputable def CB (W : Wd) (lv : Nat) (sc : Scope) (elt : Expr) : List Comprehension → Names → List Dat → Prop
  | [], ρ, out => ∃ d, EV W lv sc ρ elt (.dat d) ∧ out = [d]
  | g :: gs, ρ, out => g.is_async = 0 ∧ (∀ x env, foldedSetIterable g.iter env x = pure x) ∧ (∀ x ∈ tn g.target, ρ.lookup x = none) ∧ ∃ items, EI (fun _ => []) W lv sc ρ g.iter items ∧
    ∃ f : Dat → List Dat, out = items.flatMap f ∧ ∀ d ∈ items, ∃ bs b, bindT g.target d = some bs ∧ ETs W lv sc (bs ++ ρ) .And g.ifs b ∧ (b = true → CB W lv sc elt gs (bs ++ ρ) (f d)) ∧ (b = false → f d = [])
noncomputable def tns : List Comprehension → List Str
  | [] => []
  | g :: gs => tn g.target ++ tns gs

/-- the state of a comprehension: its own names, the list laid, the running iterators -/
structure CS (W : Wd) (h₀ : Heap) (L : Addr) (m : Str → Option Value) (loc : Led) (D : Addr) (vs : List Value) (n : Nat) (its mn fz : Led) (env : Env) (ρ : Names) (ts : List Str) (h : Heap) : Prop where
  ss : SS W h₀ L m (loc ++ (D, listOf vs.toArray n) :: (its ++ mn)) fz h
  nm : NamesOk W env L m mn (loc ++ (mn ++ fz)) (Hs W.base fz) ρ
  st : ∀ x ∈ ts, Sto env L loc x ∧ PlainName x
section
variable {W : Wd} {h₀ h : Heap} {L : Addr} {m : Str → Option Value} {loc : Led} {D : Addr} {vs : List Value} {n : Nat} {its mn fz : Led} {env : Env} {ρ : Names} {ts : List Str}
theorem CS.full (x : CS W h₀ L m loc D vs n its mn fz env ρ ts h) :
    NamesOk W env L m (loc ++ (D, listOf vs.toArray n) :: (its ++ mn)) ((loc ++ (D, listOf vs.toArray n) :: (its ++ mn)) ++ fz) (Hs W.base fz) ρ := by
  refine x.nm.sup (FSub.refl _) (fun p hp => List.mem_append_right _ (.tail _ (List.mem_append_right _ hp))) fun p hp => ?_
  rcases List.mem_append.mp hp with h | h
  · exact List.mem_append_left _ (List.mem_append_left _ h)
  · rcases List.mem_append.mp h with h | h
    · exact List.mem_append_left _ (List.mem_append_right _ (.tail _ (List.mem_append_right _ h)))
    · exact List.mem_append_right _ h
theorem CS.nd (x : CS W h₀ L m loc D vs n its mn fz env ρ ts h) : ((loc ++ (mn ++ fz)).map (·.1)).Nodup := by
  have e : ((loc ++ (D, listOf vs.toArray n) :: (its ++ mn) ++ fz).map (·.1)).Nodup := by
    obtain ⟨_, ⟨gl, _, l⟩, _⟩ := x.ss
    exact (l.sublist (List.sublist_append_right gl _)).nodup
  refine List.Nodup.sublist (List.Sublist.map _ ?_) e
  rw [List.append_assoc]
  refine List.Sublist.append_left (List.Sublist.cons _ ?_) loc
  exact List.Sublist.append_right (List.sublist_append_right its mn) fz
theorem CS.grow {fz' : Led} {h' : Heap} (x : CS W h₀ L m loc D vs n its mn fz env ρ ts h) (s : Sub fz fz') (S : SS W h₀ L m (loc ++ (D, listOf vs.toArray n) :: (its ++ mn)) fz' h') : CS W h₀ L m loc D vs n its mn fz' env ρ ts h' := by
  refine ⟨S, x.nm.sup (Hs.sub s) (Sub.refl _) fun p hp => ?_, x.st⟩
  rcases List.mem_append.mp hp with h | h
  · exact List.mem_append_left _ h
  · exact List.mem_append_right _ ((List.mem_append.mp h).elim (List.mem_append_left _) fun h => List.mem_append_right _ (s _ h))
theorem CS.sub {ρ' : Names} {ts' : List Str} (x : CS W h₀ L m loc D vs n its mn fz env ρ ts h) (hρ : ∀ x pv, ρ'.lookup x = some pv → ρ.lookup x = some pv) (ht : ∀ x ∈ ts', x ∈ ts) : CS W h₀ L m loc D vs n its mn fz env ρ' ts' h :=
  ⟨x.ss, x.nm.sub hρ, fun y hy => x.st y (ht y hy)⟩
theorem CS.moved {m' : Str → Option Value} {loc' : Led} {h' : Heap} {bs : Names} (x : CS W h₀ L m loc D vs n its mn fz env ρ ts h) (hne : env.locals ≠ L) (S : SS W h₀ L m' (loc' ++ (D, listOf vs.toArray n) :: (its ++ mn)) fz h')
    (mv : Moved W env L m loc m' loc' (Hs W.base fz) bs) : CS W h₀ L m loc' D vs n its mn fz env (bs ++ ρ) ts h' := by
  have e := mv.mm hne
  subst e
  exact ⟨S, mv.names _ _ _ _ (FSub.refl _) x.nd x.nm, fun y hy => ⟨mv.sto y (x.st y hy).1, (x.st y hy).2⟩⟩
theorem CS.next {h' : Heap} {I : Addr} {o o' : Obj} (x : CS W h₀ L m loc D vs n ((I, o) :: its) mn fz env ρ ts h) (hs : ∀ b o, b ≠ I → h.get? b = some o → h'.get? b = some o) (ho : h'.get? I = some o') :
    CS W h₀ L m loc D vs n ((I, o') :: its) mn fz env ρ ts h' := by
  refine ⟨?_, x.nm, x.st⟩
  have e : ∀ o : Obj, (loc ++ (D, listOf vs.toArray n) :: ((I, o) :: its ++ mn)).Perm ((I, o) :: ((loc ++ [(D, listOf vs.toArray n)]) ++ (its ++ mn))) := fun o => by
    have := List.perm_middle (a := (I, o)) (l₁ := loc ++ [(D, listOf vs.toArray n)]) (l₂ := its ++ mn)
    simpa using this
  exact ((x.ss.perm (e o)).setHead hs ho).perm (e o').symm
theorem CS.laid {h' : Heap} {vs' : List Value} {n' : Nat} (x : CS W h₀ L m loc D vs n its mn fz env ρ ts h) (hs : ∀ b o, b ≠ D → h.get? b = some o → h'.get? b = some o) (ho : h'.get? D = some (listOf vs'.toArray n')) :
    CS W h₀ L m loc D vs' n' its mn fz env ρ ts h' :=
  ⟨((x.ss.perm List.perm_middle).setHead hs ho).perm List.perm_middle.symm, x.nm, x.st⟩
theorem CS.drop {I : Addr} {o : Obj} {h' : Heap} (x : CS W h₀ L m loc D vs n ((I, o) :: its) mn fz env ρ ts h) (hs : ∀ b o, b ≠ I → h.get? b = some o → h'.get? b = some o) : CS W h₀ L m loc D vs n its mn fz env ρ ts h' := by
  refine ⟨?_, x.nm, x.st⟩
  have e : (loc ++ (D, listOf vs.toArray n) :: ((I, o) :: its ++ mn)).Perm ((I, o) :: (loc ++ (D, listOf vs.toArray n) :: (its ++ mn))) := by
    have := List.perm_middle (a := (I, o)) (l₁ := loc ++ [(D, listOf vs.toArray n)]) (l₂ := its ++ mn)
    simpa using this
  exact (x.ss.perm e).drop hs
theorem CS.pushIt {I : Addr} {o : Obj} {h' : Heap} (x : CS W h₀ L m loc D vs n its mn fz env ρ ts h) (S : SS W h₀ L m ((I, o) :: (loc ++ (D, listOf vs.toArray n) :: (its ++ mn))) fz h') : CS W h₀ L m loc D vs n ((I, o) :: its) mn fz env ρ ts h' := by
  refine ⟨S.perm ?_, x.nm, x.st⟩
  have := List.perm_middle (a := (I, o)) (l₁ := loc ++ [(D, listOf vs.toArray n)]) (l₂ := its ++ mn)
  simpa using this.symm
end

/-- the rest of a turn, from clause k on: a further clause's own loop, or the element laid -/
noncomputable def onward (elt : Expr) (gens : List Comprehension) (scope : Scope) (pos : Pos) (k : Nat) (D : Addr) (env : Env) (kont : Sem PySem.Fin) : Option Comprehension → Sem PySem.Fin
  | none => (eval elt env >>= fun v => call (.builtin "list.append") [.ref D, v] >>= fun _ => pure ()) >>= fun _ => kont
  | some g => eval g.iter env >>= fun x => standAt g.iter.pos >>= fun _ => foldedSetIterable g.iter env x >>= fun y => holding [y] (pyIter y) >>= fun i => runOwn (.compStart (.ListComp elt gens scope pos) k i (.ref D) env) env >>= fun _ => kont
noncomputable def EmitOk (W : Wd) (lv : Nat) (csc : Scope) (elt : Expr) (gens : List Comprehension) (scope : Scope) (pos : Pos) (k : Nat) (ρ : Names) (ts : List Str) (out : List Dat) : Prop :=
  (∀ g, gens[k]? = some g → g.is_async = 0) ∧ ∀ (A : Around) (h₀ : Heap) (fenv : Env) (L : Addr) (m : Str → Option Value) (loc : Led) (D : Addr) (vs : List Value) (n : Nat) (its mn fz : Led) (env : Env) (s : Shared) (kont : Sem PySem.Fin) (Q : PySem.Fin → Shared → Prop) (E : Value → Shared → Prop),
    AOk W lv A h₀ fenv L → EnvOk env csc → env.locals ≠ L → CS W h₀ L m loc D vs n its mn fz env ρ ts s.heap → vs.length + out.length ≤ 1048576 →
    (∀ loc' vs' n' fz' h' tk', Sub fz fz' → CS W h₀ L m loc' D (vs ++ vs') n' its mn fz' env ρ ts h' → RepA (Hs W.base fz') vs' out → (∀ y, Sto env L loc y → Sto env L loc' y) → wpAny (model W.prog W.w) A kont Q E { s with heap := h', toks := tk' }) →
    wpAny (model W.prog W.w) A (onward elt gens scope pos k D env kont gens[k]?) Q E s

/-- what stands ahead of each turn -/
inductive LoopI (W : Wd) (items : List Dat) (f : Dat → List Dat) (h₀ : Heap) (L : Addr) (m : Str → Option Value) (loc : Led) (D : Addr) (vs : List Value) (I : Addr) (its mn fz : Led) (St : Nat → Heap → Prop) (env : Env) (ρ : Names) (ts : List Str) (s : Shared) : Nat → Shared → Prop
  | mk {N i : Nat} {loc' : Led} {vs' : List Value} {n' : Nat} {o' : Obj} {fz' : Led} {h' : Heap} {tk' : Nat} (s' : Sub fz fz') (x : CS W h₀ L m loc' D (vs ++ vs') n' ((I, o') :: its) mn fz' env ρ ts h') (r : RepA (Hs W.base fz') vs' ((items.take i).flatMap f)) (st : St i h')
      (so : ∀ y, Sto env L loc y → Sto env L loc' y) (hi : i ≤ items.length) (hN : N = items.length + 1 - i) : LoopI W items f h₀ L m loc D vs I its mn fz St env ρ ts s N { s with heap := h', toks := tk' }
section
variable {W : Wd} {lv : Nat} {csc : Scope} {elt : Expr} {gens : List Comprehension} {scope : Scope} {pos : Pos} {k : Nat} {ρ : Names} {ts : List Str}
theorem emit_nil {d : Dat} (hk : gens[k]? = none) (h : EV W lv csc ρ elt (.dat d)) : EmitOk W lv csc elt gens scope pos k ρ ts [d] := by
  refine ⟨fun g hg => (by rw [hk] at hg; cases hg), fun A h₀ fenv L m loc D vs n its mn fz env s kont Q E hA hE hne x hz c => ?_⟩
  rw [hk]
  refine wpAny_bind (wpAny_bind (h A h₀ fenv L m _ fz env s _ _ hA hE x.ss x.full fun v fz' h' t' s' S' R' => wpAny_bind ?_))
  have x' := x.grow s' S'
  have hp : h'.PlainList D vs.toArray := ⟨n, x'.ss.ofMu (List.mem_append_right _ (.head _))⟩
  have hsz : vs.toArray.size ≤ sizeLine := by
    rw [List.size_toArray, sizeLine_eq]; simp at hz; (clear hp x' R' S' s' c x hne hE hA h hk; lia)
  refine wpAny_list_append_plain (hsz := hsz) hp fun h₂ hl₂ hs₂ => ?_
  · obtain ⟨n₂, e₂⟩ := hl₂
    have e₃ : vs.toArray.push v = (vs ++ [v]).toArray := by simp
    rw [e₃] at e₂
    exact wpAny_pure (c loc [v] n₂ fz' h₂ t' s' (x'.laid (fun b o hb e => hs₂.extBut b o hb e) e₂) (.one R') fun _ h => h)

theorem loop_ok {t iter : Expr} {ifs : List Expr} {items : List Dat} {f : Dat → List Dat} {ts' : List Str} (hg : gens[k]? = some ⟨t, iter, ifs, 0⟩) (hts : ts = tn t ++ ts') (hdis : ∀ x ∈ tn t, ρ.lookup x = none)
    (hf : ∀ d ∈ items, ∃ bs b, bindT t d = some bs ∧ ETs W lv csc (bs ++ ρ) .And ifs b ∧ (b = true → EmitOk W lv csc elt gens scope pos (k + 1) (bs ++ ρ) ts' (f d)) ∧ (b = false → f d = [])) :
    ∀ (A : Around) (h₀ : Heap) (fenv : Env) (L : Addr) (m : Str → Option Value) (loc : Led) (D : Addr) (vs : List Value) (n : Nat) (I : Addr) (o : Obj) (its mn fz : Led) (St : Nat → Heap → Prop) (env : Env) (s : Shared) (R : Result → Shared → Prop),
      AOk W lv A h₀ fenv L → EnvOk env csc → env.locals ≠ L → CS W h₀ L m loc D vs n ((I, o) :: its) mn fz env ρ ts s.heap → Src W A (Hs W.base fz) mn I St items → St 0 s.heap → vs.length + (items.flatMap f).length ≤ 1048576 →
      (∀ loc' vs' n' fz' h' tk', Sub fz fz' → CS W h₀ L m loc' D (vs ++ vs') n' its mn fz' env ρ ts h' → RepA (Hs W.base fz') vs' (items.flatMap f) → (∀ y, Sto env L loc y → Sto env L loc' y) → R (.ok .next) { s with heap := h', toks := tk' }) →
      codeAny (model W.prog W.w) A (.compLoop (.ListComp elt gens scope pos) k (.ref I) (.ref D) env) R s := by
  intro A h₀ fenv L m loc D vs n I o its mn fz St env s R hA hE hne x sr st hz c
  refine codeAny_loop rfl (LoopI W items f h₀ L m loc D vs I its mn fz St env ρ ts s) ?_ (items.length + 1)
    (.mk (i := 0) (vs' := []) (tk' := s.toks) (Sub.refl _) (by simpa using x) .nil st (fun _ h => h) (Nat.zero_le _) rfl)
  rintro _ _ ⟨s', x', r', st', so', hi, rfl⟩
  rename_i i loc' vs' n' o' fz' h' tk'
  show wpAny _ A ((compTurn (.ListComp elt gens scope pos) k (.ref I) (.ref D) env).onRaise (fun x => do noteFrame x env; theTreesLotGoes x)) _ _ _
  refine wpAny_noted ?_
  unfold compTurn
  simp only [hg]
  refine wpAny_bind (wpAny_standAt (wpAny_bind ?_))
  show wpAny _ _ (pyNext (.ref I)) _ _ _
  by_cases hlt : i < items.length
  · obtain ⟨d, hd⟩ : ∃ d, items[i]? = some d := ⟨items[i], List.getElem?_eq_getElem hlt⟩
    refine sr.item i d _ _ _ hd st' fun v h₁ tk₁ rv st₁ hk₁ => ?_
    obtain ⟨o₁, ho₁, hq₁, _⟩ := sr.obj _ _ st₁
    have x₁ := x'.next hk₁ ho₁
    obtain ⟨bs, b, hbs, htest, htrue, hfalse⟩ := hf d (List.mem_of_getElem? hd)
    refine wpAny_bind (letOwned_ok ho₁ hq₁ (wpAny_bind ?_))
    have hmem : (I, o₁) ∈ loc' ++ (D, listOf (vs ++ vs').toArray n') :: ((I, o₁) :: its ++ mn) := List.mem_append_right _ (.tail _ (.head _))
    have frame : ∀ {fz'' : Led} {loc'' : Led} {vs'' : List Value} {n'' : Nat} {ρ'' : Names} {ts'' : List Str} {h₂ : Heap}, Sub fz' fz'' → CS W h₀ L m loc'' D vs'' n'' ((I, o₁) :: its) mn fz'' env ρ'' ts'' h₂ → St (i + 1) h₂ := by
      intro fz'' loc'' vs'' n'' ρ'' ts'' h₂ s₂ x₂
      refine sr.frame _ _ _ st₁ (fun o e => ?_) fun b o hb => ?_
      · rw [ho₁] at e; cases e
        exact x₂.ss.ofMu (List.mem_append_right _ (.tail _ (.head _)))
      · rcases hb with hb | hb
        · exact x₂.ss.has (Hs.sub (s'.trans s₂) _ _ hb)
        · exact x₂.ss.ofMu (List.mem_append_right _ (.tail _ (List.mem_append_right _ hb)))
    refine assign_ok hA.hh hE x₁.ss (fun y hy => x₁.st y (hts ▸ List.mem_append_left _ hy)) (rv.mono (Hs.sub s')) hbs fun m₂ loc₂ h₂ tk₂ S₂ mv₂ => ?_
    have x₂ := x₁.moved hne S₂ mv₂
    refine wpAny_bind (tests_ok htest A h₀ fenv L m _ fz' env _ _ _ hA hE x₂.ss x₂.full fun fz₃ h₃ tk₃ s₃ S₃ => ?_)
    have x₃ := x₂.grow s₃ S₃
    have back : ∀ x pv, ρ.lookup x = some pv → (bs ++ ρ).lookup x = some pv := lookup_back fun x hx => hdis x (by rw [bindT_names hbs] at hx; exact hx)
    have etake : (items.take (i + 1)).flatMap f = (items.take i).flatMap f ++ f d := by
      rw [List.take_add_one, hd]; simp
    have elen : ((items.take i).flatMap f ++ f d).length ≤ (items.flatMap f).length := by
      rw [← etake]
      have : items.flatMap f = (items.take (i + 1)).flatMap f ++ (items.drop (i + 1)).flatMap f := by rw [← List.flatMap_append, List.take_append_drop]
      rw [this, List.length_append]; (clear this etake back x₃ S₃ s₃ x₂ mv₂ S₂ frame hmem hfalse htrue htest hbs x₁ hq₁ ho₁ hk₁ st₁ rv hd hlt hi so' st' r' x' s' c hz st sr x hne hE hA hf hdis hts hg; lia)
    cases b with
    | false =>
      rw [if_neg Bool.false_ne_true]
      refine wpAny_pure ⟨rfl, items.length + 1 - (i + 1), by (clear hfalse htrue htest elen etake back x₃ S₃ s₃ x₂ mv₂ S₂ frame hmem hbs x₁ hq₁ ho₁ hk₁ st₁ rv hd hi so' st' r' x' s' c hz st sr x hne hE hA hf hdis hts hg; omega), .mk (i := i + 1) (s'.trans s₃) (x₃.sub back (fun _ h => h)) ?_ (frame s₃ x₃) (fun y hy => mv₂.sto y (so' y hy)) hlt rfl⟩
      rw [etake, hfalse rfl, List.append_nil]
      exact r'.mono (Hs.sub s₃)
    | true =>
      rw [if_pos rfl]
      obtain ⟨has, go⟩ := htrue rfl
      suffices w : wpAny (model W.prog W.w) A (onward elt gens scope pos (k + 1) D env (again (.compLoop (.ListComp elt gens scope pos) k (.ref I) (.ref D) env)) gens[k + 1]?) _ _ { s with heap := h₃, toks := tk₃ } by
        cases hq : gens[k + 1]? with
        | none => rw [hq] at w; exact w
        | some g =>
          rw [hq] at w
          obtain ⟨t', i', f', a'⟩ := g
          cases has _ hq
          exact w
      refine go A h₀ fenv L m loc₂ D (vs ++ vs') n' ((I, o₁) :: its) mn fz₃ env { s with heap := h₃, toks := tk₃ } (again (.compLoop (.ListComp elt gens scope pos) k (.ref I) (.ref D) env)) _ _ hA hE hne (x₃.sub (fun _ _ h => h) (fun y hy => hts ▸ List.mem_append_right _ hy)) ?_ fun loc₄ vs₄ n₄ fz₄ h₄ tk₄ s₄ x₄ r₄ so₄ => ?_
      · have := r'.length
        rw [List.length_append] at elen ⊢; (clear go has hfalse htrue htest etake back x₃ S₃ s₃ x₂ mv₂ S₂ frame hmem hbs x₁ hq₁ ho₁ hk₁ st₁ rv hd hlt hi so' st' r' x' s' c st sr x hne hE hA hf hdis hts hg; lia)
      · have x₅ : CS W h₀ L m loc₄ D (vs ++ (vs' ++ vs₄)) n₄ ((I, o₁) :: its) mn fz₄ env ρ ts h₄ := by
          rw [← List.append_assoc]
          exact ⟨x₄.ss, x₄.nm.sub back, fun y hy => ⟨so₄ y (x₃.st y hy).1, (x₃.st y hy).2⟩⟩
        refine wpAny_pure ⟨rfl, items.length + 1 - (i + 1), by (clear x₅ so₄ r₄ x₄ s₄ go has hfalse htrue htest elen etake back x₃ S₃ s₃ x₂ mv₂ S₂ frame hmem hbs x₁ hq₁ ho₁ hk₁ st₁ rv hd hi so' st' r' x' s' c hz st sr x hne hE hA hf hdis hts hg; omega), .mk (i := i + 1) (s'.trans (s₃.trans s₄)) x₅ ?_ (frame (s₃.trans s₄) x₄) (fun y hy => so₄ y (mv₂.sto y (so' y hy))) hlt rfl⟩
        rw [etake]
        exact (r'.mono (Hs.sub (s₃.trans s₄))).append r₄
  · have hin : i = items.length := by (clear so' st' r' x' s' c hz st sr x hne hE hA hf hdis hts hg; lia)
    subst hin
    refine sr.done _ _ _ st' fun h₁ tk₁ hk₁ => ?_
    rw [List.take_length] at r'
    exact wpAny_pure (c loc' vs' n' fz' h₁ tk₁ s' (x'.drop hk₁) r' so')
end
end Mine
end
section
open PySem PySem.W PyProof.Rows
set_option linter.unusedVariables false
set_option maxRecDepth 100000
namespace Mine
open PySem.Calls PySem.Spec PySem.SeqAt

section
variable {W : Wd} {lv : Nat} {csc : Scope} {elt : Expr} {gens : List Comprehension} {scope : Scope} {pos : Pos} {k : Nat} {ρ : Names} {ts : List Str}
theorem emit_cons {t iter : Expr} {ifs : List Expr} {items : List Dat} {f : Dat → List Dat} {ts' : List Str} (hg : gens[k]? = some ⟨t, iter, ifs, 0⟩) (hts : ts = tn t ++ ts') (hdis : ∀ x ∈ tn t, ρ.lookup x = none)
    (hset : ∀ x env, foldedSetIterable iter env x = pure x) (hi : EI (fun _ => []) W lv csc ρ iter items)
    (hf : ∀ d ∈ items, ∃ bs b, bindT t d = some bs ∧ ETs W lv csc (bs ++ ρ) .And ifs b ∧ (b = true → EmitOk W lv csc elt gens scope pos (k + 1) (bs ++ ρ) ts' (f d)) ∧ (b = false → f d = [])) :
    EmitOk W lv csc elt gens scope pos k ρ ts (items.flatMap f) := by
  refine ⟨fun g h => (by rw [hg] at h; cases h; rfl), fun A h₀ fenv L m loc D vs n its mn fz env s kont Q E hA hE hne x hz c => ?_⟩
  rw [hg]
  have key := hi A h₀ fenv L m _ fz env s (fun it s' => wpAny (model W.prog W.w) A (do
      let _ ← runOwn (.compStart (.ListComp elt gens scope pos) k it (.ref D) env) env
      kont) Q E s') E hA hE x.ss x.full fun I St o fz' h' tk' s' S' sr st => ?_
  · refine wpAny_bind (wpAny_mono key (fun x s₁ h₁ => wpAny_bind (wpAny_standAt ?_)) fun _ _ e => e)
    refine wpAny_bind (m := foldedSetIterable iter env x) ?_
    rw [hset]
    refine wpAny_pure (wpAny_bind (m := holding [x] (pyIter x)) (wpAny_holding ?_))
    exact h₁
  · have x₁ := (x.grow s' (S'.sublist (List.sublist_cons_self _ _))).pushIt S'
    refine wpAny_bind (wpAny_runOwn ?_)
    have loop : ∀ s₁ : Shared, s₁ = { s with heap := h', toks := tk' } → codeAny (model W.prog W.w) A (.compLoop (.ListComp elt gens scope pos) k (.ref I) (.ref D) env)
        (fun r s' => match r with | .ok f => wpAny (model W.prog W.w) A kont Q E s' | .error e => cameBackBy (model W.prog W.w) A env E e s') s₁ := by
      rintro s₁ rfl
      exact loop_ok hg hts hdis hf A h₀ fenv L m loc D vs n I o its mn fz' St env _ _ hA hE hne x₁ (sr.mono (FSub.refl _) (fun _ h => by cases h)) st hz
        fun loc' vs' n' fz₂ h₂ tk₂ s₂ x₂ r₂ so₂ => c loc' vs' n' fz₂ h₂ tk₂ (s'.trans s₂) x₂ r₂ so₂
    exact codeAny_compStart_at hg (loop _ rfl) (sr.self 0 _ _ _ st (loop _ rfl))
end
section
variable {W : Wd} {lv : Nat} {csc : Scope} {elt : Expr} {gens : List Comprehension} {scope : Scope} {pos : Pos}
theorem emit_ok : ∀ (gs : List Comprehension) (k : Nat) (ρ : Names) (out : List Dat), gens.drop k = gs → CB W lv csc elt gs ρ out → EmitOk W lv csc elt gens scope pos k ρ (tns gs) out
  | [], k, ρ, out, hk, h => by
    obtain ⟨d, h, rfl⟩ := h
    exact emit_nil (by rw [← List.head?_drop, hk]; rfl) h
  | ⟨t, iter, ifs, ia⟩ :: gs, k, ρ, out, hk, h => by
    obtain ⟨h0, hset, hdis, items, hi, f, rfl, hf⟩ := h
    have h0 : ia = 0 := h0
    subst h0
    have hg : gens[k]? = some ⟨t, iter, ifs, 0⟩ := by rw [← List.head?_drop, hk]; rfl
    have hk' : gens.drop (k + 1) = gs := by rw [← List.tail_drop, hk]; rfl
    refine emit_cons hg rfl hdis hset hi fun d hd => ?_
    obtain ⟨bs, b, h1, h2, h3, h4⟩ := hf d hd
    exact ⟨bs, b, h1, h2, fun e => emit_ok gs (k + 1) _ _ hk' (h3 e), h4⟩
end

/-! own cells -/
noncomputable def cellO : Obj := { cls := .type "cell", data := .cell none }
theorem cellsFrom_skip {x : Str} : ∀ (names : List (Str × NameKind)) (n : Nat) (acc : List (Str × Addr)), (x, NameKind.cell) ∉ names → (cellsFrom n names acc).lookup x = acc.lookup x
  | [], _, _, _ => rfl
  | (y, kd) :: r, n, acc, h => by
    have hr : (x, NameKind.cell) ∉ r := fun q => h (.tail _ q)
    unfold cellsFrom
    split
    · rename_i hk
      rw [cellsFrom_skip r _ _ hr, List.lookup_cons]
      have : (x == y) = false := by
        cases e : x == y with
        | false => rfl
        | true =>
          have e1 := beq_iff_eq.mp e
          have e2 : kd = .cell := by cases kd <;> first | rfl | cases hk
          exact absurd (by rw [e1, e2]; exact .head _) h
      rw [this]
    · exact cellsFrom_skip r _ _ hr
theorem cellsFrom_inj : ∀ (names : List (Str × NameKind)) (n : Nat) (acc : List (Str × Addr)), (∀ x c, acc.lookup x = some c → c < n) → (∀ x y c, acc.lookup x = some c → acc.lookup y = some c → x = y) →
    ∀ x y c, (cellsFrom n names acc).lookup x = some c → (cellsFrom n names acc).lookup y = some c → x = y
  | [], n, acc, h1, h2 => h2
  | (z, kd) :: r, n, acc, h1, h2 => by
    unfold cellsFrom
    split
    · refine cellsFrom_inj r (n + 1) _ (fun x c hx => ?_) fun x y c hx hy => ?_
      · rw [List.lookup_cons] at hx
        split at hx
        · cases hx; exact Nat.lt_succ_self _
        · exact Nat.lt_succ_of_lt (h1 x c hx)
      · rw [List.lookup_cons] at hx hy
        split at hx <;> split at hy
        · rename_i a _ b; rw [beq_iff_eq.mp a, beq_iff_eq.mp b]
        · cases hx; exact absurd (h1 _ _ hy) (Nat.lt_irrefl _)
        · cases hy; exact absurd (h1 _ _ hx) (Nat.lt_irrefl _)
        · exact h2 x y c hx hy
    · exact cellsFrom_inj r n acc h1 h2
theorem lay_cells {W : Wd} {h₀ : Heap} {L : Addr} {m : Str → Option Value} {fz : Led} : ∀ (names : List (Str × NameKind)) (h : Heap) (acc : List (Str × Addr)) (mu : Led), SS W h₀ L m mu fz h →
    ∃ cells : Led, SS W h₀ L m (cells ++ mu) fz (pushCells h names) ∧ (∀ p ∈ cells, p.2 = cellO ∧ h.objs.size ≤ p.1) ∧
      ∀ x, (x, NameKind.cell) ∈ names → ∃ c, (cellsFrom h.objs.size names acc).lookup x = some c ∧ (c, cellO) ∈ cells
  | [], h, acc, mu, S => ⟨[], S, (fun _ h => nomatch h), (fun _ h => nomatch h)⟩
  | (y, kd) :: r, h, acc, mu, S => by
    unfold pushCells cellsFrom
    split
    · obtain ⟨cells, S', a1, a2⟩ := lay_cells r (h.push cellO) ((y, h.objs.size) :: acc) _ (S.pushMu cellO)
      rw [Heap.size_push] at a1 a2
      refine ⟨cells ++ [(h.objs.size, cellO)], by rw [List.append_assoc]; exact S', fun p hp => ?_, fun x hx => ?_⟩
      · rcases List.mem_append.mp hp with hp | hp
        · exact ⟨(a1 p hp).1, Nat.le_of_succ_le (a1 p hp).2⟩
        · simp at hp; subst hp; exact ⟨rfl, Nat.le_refl _⟩
      · by_cases hr : (x, NameKind.cell) ∈ r
        · obtain ⟨c, e1, e2⟩ := a2 x hr
          exact ⟨c, e1, List.mem_append_left _ e2⟩
        · have e : x = y := by
            rcases List.mem_cons.mp hx with e | e
            · exact (Prod.mk.inj e).1
            · exact absurd e hr
          subst e
          exact ⟨h.objs.size, by rw [cellsFrom_skip r _ _ hr]; simp, by simp⟩
    · rename_i hk
      obtain ⟨cells, S', a1, a2⟩ := lay_cells r h acc mu S
      refine ⟨cells, S', a1, fun x hx => ?_⟩
      rcases List.mem_cons.mp hx with e | e
      · cases e; exact absurd rfl hk
      · exact a2 x e

/-! closures -/
noncomputable def closL (cells : List (Str × Addr)) : List (Str × NameKind) → List (Str × Addr) → List (Str × Addr)
  | [], acc => acc
  | (x, kd) :: r, acc => if kd == .free then (match cells.lookup x with | some c => closL cells r ((x, c) :: acc) | none => closL cells r acc) else closL cells r acc
theorem closL_for {env : Env} (f : Str × NameKind → List (Str × Addr) → Sem (ForInStep (List (Str × Addr))))
    (hf : ∀ x kd cs, f (x, kd) cs = if kd == .free then (do let a ← cellOf env x; pure (.yield ((x, a) :: cs))) else pure (.yield cs)) : ∀ (names : List (Str × NameKind)) (acc : List (Str × Addr)), (∀ x, (x, NameKind.free) ∈ names → (env.cells.lookup x).isSome = true) →
    forIn names acc f = pure (closL env.cells names acc)
  | [], acc, _ => by rw [List.forIn_nil]; rfl
  | (x, kd) :: r, acc, h => by
    have hr : ∀ x, (x, NameKind.free) ∈ r → (env.cells.lookup x).isSome = true := fun x hx => h x (.tail _ hx)
    rw [List.forIn_cons, hf]
    unfold closL
    split
    · rename_i hk
      have e : kd = .free := by cases kd <;> first | rfl | cases hk
      subst e
      obtain ⟨c, hc⟩ := Option.isSome_iff_exists.mp (h x (.head _))
      have hco : cellOf env x = pure c := by unfold cellOf; rw [hc]
      rw [hc, hco]
      exact closL_for f hf r _ hr
    · exact closL_for f hf r _ hr
theorem closureFor_ok {scope : Scope} {env : Env} (h : ∀ x, (x, NameKind.free) ∈ scope.names → (env.cells.lookup x).isSome = true) : closureFor scope env = pure (closL env.cells scope.names []) := by
  unfold closureFor
  dsimp only
  rw [closL_for (env := env) _ (fun x kd cs => by cases hk : kd == NameKind.free <;> simp) scope.names [] h]
  rfl
theorem closL_skip {cells : List (Str × Addr)} {x : Str} : ∀ (names : List (Str × NameKind)) (acc : List (Str × Addr)), (x, NameKind.free) ∉ names → (closL cells names acc).lookup x = acc.lookup x
  | [], _, _ => rfl
  | (y, kd) :: r, acc, h => by
    have hr : (x, NameKind.free) ∉ r := fun q => h (.tail _ q)
    unfold closL
    split
    · rename_i hk
      have e2 : kd = .free := by cases kd <;> first | rfl | cases hk
      split
      · rw [closL_skip r _ hr, List.lookup_cons]
        have : (x == y) = false := by
          cases e : x == y with
          | false => rfl
          | true => exact absurd (by rw [beq_iff_eq.mp e, e2]; exact .head _) h
        rw [this]
      · exact closL_skip r _ hr
    · exact closL_skip r _ hr
theorem closL_at {cells : List (Str × Addr)} {x : Str} {c : Addr} (hc : cells.lookup x = some c) : ∀ (names : List (Str × NameKind)) (acc : List (Str × Addr)), (x, NameKind.free) ∈ names → (closL cells names acc).lookup x = some c
  | (y, kd) :: r, acc, h => by
    by_cases hr : (x, NameKind.free) ∈ r
    · unfold closL
      split
      · split
        · exact closL_at hc r _ hr
        · exact closL_at hc r _ hr
      · exact closL_at hc r _ hr
    · rcases List.mem_cons.mp h with e | e
      · cases e
        unfold closL
        rw [if_pos (by rfl), hc]
        show (closL cells r ((x, c) :: acc)).lookup x = _
        rw [closL_skip r _ hr]; simp
      · exact absurd e hr
theorem closL_of {cells : List (Str × Addr)} {x : Str} {c : Addr} : ∀ (names : List (Str × NameKind)) (acc : List (Str × Addr)), (∀ x c, acc.lookup x = some c → cells.lookup x = some c) → (closL cells names acc).lookup x = some c → cells.lookup x = some c
  | [], acc, h, k => h _ _ k
  | (y, kd) :: r, acc, h, k => by
    unfold closL at k
    split at k
    · split at k
      · rename_i c' hc'
        refine closL_of r _ (fun x c hx => ?_) k
        rw [List.lookup_cons] at hx
        split at hx
        · rename_i e; cases hx; rw [beq_iff_eq.mp e]; exact hc'
        · exact h x c hx
      · exact closL_of r _ h k
    · exact closL_of r _ h k
end Mine
end
section
open PySem PySem.W PyProof.Rows
set_option linter.unusedVariables false
set_option maxRecDepth 100000
namespace Mine
open PySem.Calls PySem.Spec PySem.SeqAt

/-- what a comprehension's scope must be under a written one -/
noncomputable def compSc (sc cs : Scope) : Bool := cs.kind == .function && cs.more.isEmpty && (cs.names.lookup (".0" : Str) == some .local) && cs.names.all fun p =>
  (cs.names.lookup p.1 == some p.2) && (p.2 != .free || sc.names.lookup p.1 == some .cell || sc.names.lookup p.1 == some .free)
theorem lookup_mapKind {g : Str → NameKind → NameKind} : ∀ {names : List (Str × NameKind)} {x : Str}, (names.map fun p => (p.1, g p.1 p.2)).lookup x = (names.lookup x).map (g x)
  | [], x => rfl
  | (y, k) :: r, x => by
    have ih := @lookup_mapKind g r x
    rw [List.map_cons, List.lookup_cons, List.lookup_cons]
    cases h : x == y with
    | true => rw [beq_iff_eq.mp h]; rfl
    | false => exact ih
theorem relabel_names {scope : Scope} {env : Env} : (relabel scope env).names = scope.names.map fun p => (p.1, if (p.2 == .free && env.scope.kind == .function && env.kindOf p.1 == some .cell) then .cell else p.2) := by
  unfold relabel
  refine List.map_congr_left fun p _ => ?_
  obtain ⟨n, k⟩ := p
  show (if _ then _ else _) = _
  split <;> rfl
theorem relabel_lookup {scope : Scope} {env : Env} {x : Str} : (relabel scope env).names.lookup x = (scope.names.lookup x).map fun k => if (k == .free && env.scope.kind == .function && env.kindOf x == some .cell) then .cell else k := by
  rw [relabel_names]
  exact lookup_mapKind (g := fun y k => if (k == .free && env.scope.kind == .function && env.kindOf y == some .cell) then .cell else k)

/-- the names that a comprehension brings along -/
noncomputable def SubF (names : List (Str × NameKind)) (ρ : Names) : Names → Prop
  | [] => True
  | (x, pv) :: r => (ρ.lookup x = some pv ∧ names.lookup x = some .free) ∧ SubF names ρ r
theorem SubF.mem {names : List (Str × NameKind)} {ρ : Names} : ∀ {ρ' : Names}, SubF names ρ ρ' → ∀ {x pv}, (x, pv) ∈ ρ' → ρ.lookup x = some pv ∧ names.lookup x = some .free
  | (y, q) :: r, h, x, pv, hm => by
    rcases List.mem_cons.mp hm with e | hm
    · cases e; exact h.1
    · exact SubF.mem h.2 hm
noncomputable def FreeAll (ρ : Names) (names : List (Str × NameKind)) : Bool := names.all fun p => p.2 != .free || (ρ.lookup p.1).isSome

noncomputable def blockO : Obj := { cls := .type "dict", data := .dict #[] }
theorem blockNs (h : Heap) : ObjNs blockO (fun _ => none) := by
  obtain ⟨o, e, n⟩ := ObjNs.of (Heap.Ns.new h (.type "dict"))
  have e2 : (h.push blockO).get? h.objs.size = some blockO := Heap.get?_push_size _ rfl
  have e3 : (h.push blockO).get? h.objs.size = some o := e
  rw [e2] at e3; cases e3; exact n

/-- a comprehension's frame -/
structure CEnv (W : Wd) (env : Env) (scope : Scope) (L : Addr) (cenv : Env) (m : Str → Option Value) (loc mu fz : Led) (h₀ : Heap) (ρ' : Names) : Prop where
  ok : EnvOk cenv scope
  ne : cenv.locals ≠ L
  nm : NamesOk W cenv L m mu (loc ++ (mu ++ fz)) (Hs W.base fz) ρ'
  st : ∀ x, scope.names.lookup x = some .local ∨ scope.names.lookup x = some .cell → Sto cenv L loc x
  lk : cenv.kindOf (".0" : Str) = some .local

section
variable {W : Wd} {sc scope : Scope} {ρ ρ' : Names} {env : Env} {L : Addr} {m : Str → Option Value} {mu its fz : Led} {h₀ : Heap} {A : Around} {E : Value → Shared → Prop} {s : Shared} {D : Addr} {oD : Obj} {M : Model}
theorem comp_env (hsc : compSc sc scope = true) (hρ : SubF scope.names ρ ρ') (hfree : FreeAll ρ scope.names = true) (hE : EnvOk env sc) (S : SS W h₀ L m ((D, oD) :: (its ++ mu)) fz s.heap)
    (hN : NamesOk W env L m mu (mu ++ fz) (Hs W.base fz) ρ) {Q : Env → Shared → Prop}
    (k : ∀ cenv loc h', (∀ b o, s.heap.get? b = some o → h'.get? b = some o) → SS W h₀ L m (loc ++ (D, oD) :: (its ++ mu)) fz h' → CEnv W env scope L { cenv with scope := relabel scope env } m loc mu fz h₀ ρ' → Q cenv { s with heap := h' }) :
    closureFor scope env = pure (closL env.cells scope.names []) ∧
    wpAny M A (newFunctionEnv scope env.globals (closL env.cells scope.names []) [] env.qual none .none (some env)) Q E s := by
  simp only [compSc, Bool.and_eq_true, beq_iff_eq, List.all_eq_true, Bool.or_eq_true] at hsc
  obtain ⟨⟨⟨hkind, hmore⟩, hdot⟩, hall⟩ := hsc
  simp only [FreeAll, List.all_eq_true, Bool.or_eq_true] at hfree
  have sck : ∀ x, (x, NameKind.free) ∈ scope.names → sc.names.lookup x = some .cell ∨ sc.names.lookup x = some .free := by
    intro x hx
    obtain ⟨_, h⟩ := hall _ hx
    rcases h with (h | h) | h
    · cases h
    · exact .inl h
    · exact .inr h
  -- every free name has a cell of the ledger
  have cellAt : ∀ x pv, scope.names.lookup x = some .free → ρ.lookup x = some pv → ∃ c o v, env.cells.lookup x = some c ∧ (c, o) ∈ mu ++ fz ∧ o.data = .cell (some v) ∧ PRep W (Hs W.base fz) mu v pv ∧ PlainName x := by
    intro x pv hx hp
    obtain ⟨hpn, v, l, r⟩ := hN x pv hp
    have hk : env.kindOf x = some .cell ∨ env.kindOf x = some .free := by
      rcases sck x (mem_of_lookup hx) with h | h
      · exact (hE.cells x _ h (.inl rfl)).1
      · exact (hE.cells x _ h (.inr rfl)).1
    cases l with
    | here a b _ => rw [b] at hk; rcases hk with h | h <;> cases h
    | block a _ _ _ => rw [a] at hk; rcases hk with h | h <;> cases h
    | @cell c o _ a b c' d => exact ⟨c, o, v, b, c', d, r, hpn⟩
  have memLook : ∀ x kd, (x, kd) ∈ scope.names → scope.names.lookup x = some kd := fun x kd hx => (hall _ hx).1
  have freeCell : ∀ x, (x, NameKind.free) ∈ scope.names → ∃ c o v, env.cells.lookup x = some c ∧ (c, o) ∈ mu ++ fz ∧ o.data = .cell (some v) := by
    intro x hx
    have := hfree _ hx
    rcases this with h | h
    · cases h
    · obtain ⟨pv, hpv⟩ := Option.isSome_iff_exists.mp h
      obtain ⟨c, o, v, a, b, d, _⟩ := cellAt x pv (memLook _ _ hx) hpv
      exact ⟨c, o, v, a, b, d⟩
  refine ⟨closureFor_ok fun x hx => ?_, ?_⟩
  · obtain ⟨c, _, _, e, _⟩ := freeCell x hx
    rw [e]; rfl
  simp only [newFunctionEnv, Option.isSome_some, if_true]
  refine wpAny_bind (wpAny_alloc ?_)
  refine wpAny_bind (wpAny_layCells _ (fun name kind cells => by cases hkc : kind == NameKind.cell <;> simp) _ _ _ _ ?_)
  have S₁ := S.pushMu blockO
  obtain ⟨cells, S₂, c1, c2⟩ := lay_cells scope.names _ (closL env.cells scope.names []) _ S₁
  rw [List.forIn_nil]
  refine wpAny_bind (wpAny_pure (wpAny_pure ?_))
  have muIn : ∀ p ∈ mu ++ fz, p ∈ ((D, oD) :: (its ++ mu)) ++ fz := fun p hp => by
    rcases List.mem_append.mp hp with h | h
    · exact List.mem_append_left _ (.tail _ (List.mem_append_right _ h))
    · exact List.mem_append_right _ h
  have lt : ∀ x c, (closL env.cells scope.names []).lookup x = some c → c < s.heap.objs.size ∧ env.cells.lookup x = some c ∧ (x, NameKind.free) ∈ scope.names := by
    intro x c hx
    have e := closL_of _ _ (fun _ _ h => by cases h) hx
    by_cases hf : (x, NameKind.free) ∈ scope.names
    · obtain ⟨c', o, _, e', hm, _⟩ := freeCell x hf
      rw [e] at e'; cases e'
      exact ⟨S.below (p := (c, o)) (muIn _ hm), e, hf⟩
    · rw [closL_skip _ _ hf] at hx; cases hx
  have hsz : (s.heap.push blockO).objs.size = s.heap.objs.size + 1 := Heap.size_push ..
  refine k _ (cells ++ [(s.heap.objs.size, blockO)]) _ (fun b o e => pushCells_keeps _ _ b o (Heap.get?_push_of_some _ e)) (by rw [List.append_assoc]; exact S₂) ⟨⟨?_, hE.glob, hE.blt, fun n hn => ?_, fun n kd hn hk => ?_, fun x y c hx hy => ?_, fun c hc => ?_, fun c hc => ?_, fun n hn => ?_⟩, ?_, ?_, fun x hx => ?_, ?_⟩
  · show (relabel scope env).kind = _
    exact hkind
  · show (relabel scope env).names.lookup n = _
    rw [relabel_lookup, hn]; rfl
  · have hkd : Env.kindOf { scope := relabel scope env, locals := 0, globals := 0, cells := [], qual := env.qual, func := none, code := .none, frame := none, builtins := 0 } n = some .cell ∨ Env.kindOf { scope := relabel scope env, locals := 0, globals := 0, cells := [], qual := env.qual, func := none, code := .none, frame := none, builtins := 0 } n = some .free := by
      show (relabel scope env).names.lookup n = _ ∨ (relabel scope env).names.lookup n = _
      rw [relabel_lookup, hn]
      rcases hk with rfl | rfl
      · exact .inl rfl
      · simp only [Option.map_some]
        split
        · exact .inl rfl
        · exact .inr rfl
    refine ⟨hkd, ?_⟩
    rcases hk with rfl | rfl
    · obtain ⟨c, e, _⟩ := c2 n (mem_of_lookup hn)
      show (List.lookup n (cellsFrom _ _ _)).isSome = true
      exact (congrArg Option.isSome e).trans rfl
    · have hne : (n, NameKind.cell) ∉ scope.names := fun q => by
        have := memLook _ _ q
        rw [hn] at this; cases this
      obtain ⟨c, _, _, e, _⟩ := freeCell n (mem_of_lookup hn)
      show (List.lookup n (cellsFrom _ _ _)).isSome = true
      rw [cellsFrom_skip _ _ _ hne, closL_at e _ _ (mem_of_lookup hn)]; rfl
  · refine cellsFrom_inj scope.names _ _ (fun x c hx => ?_) (fun x y c hx hy => ?_) x y c hx hy
    · exact Nat.lt_of_lt_of_le (lt x c hx).1 (by show _ ≤ (s.heap.push blockO).objs.size; rw [hsz]; exact Nat.le_succ _)
    · exact hE.inj x y c (lt x c hx).2.1 (lt y c hy).2.1
  · rw [List.isEmpty_iff] at hmore
    rw [hmore] at hc; cases hc
  · rw [List.isEmpty_iff] at hmore
    rw [hmore] at hc; cases hc
  · show (relabel scope env).names.lookup n = _
    rw [relabel_lookup, hn]; rfl
  · show s.heap.objs.size ≠ L
    obtain ⟨oL, _, _, e, _⟩ := S.fr.ns
    exact Nat.ne_of_gt (Heap.lt_size e)
  · intro x pv hx
    obtain ⟨h1, h2⟩ := hρ.mem (mem_of_lookup hx)
    obtain ⟨c, o, v, e, hm, hd, r, hpn⟩ := cellAt x pv h2 h1
    have hne : (x, NameKind.cell) ∉ scope.names := fun q => by
      have := memLook _ _ q
      rw [h2] at this; cases this
    refine ⟨hpn, v, .cell ?_ ?_ (List.mem_append_right _ hm) hd, r⟩
    · show (relabel scope env).names.lookup x = _ ∨ (relabel scope env).names.lookup x = _
      rw [relabel_lookup, h2]
      simp only [Option.map_some]
      split
      · exact .inl rfl
      · exact .inr rfl
    · show List.lookup x (cellsFrom _ _ _) = _
      rw [cellsFrom_skip _ _ _ hne, closL_at e _ _ (mem_of_lookup h2)]
  · rcases hx with hx | hx
    · refine .inl ⟨?_, .inr ⟨blockO, fun _ => none, List.mem_append_right _ (.head _), blockNs s.heap⟩⟩
      show (relabel scope env).names.lookup x = _
      rw [relabel_lookup, hx]; rfl
    · obtain ⟨c, e, hm⟩ := c2 x (mem_of_lookup hx)
      refine .inr ⟨?_, c, cellO, none, e, List.mem_append_left _ hm, rfl⟩
      show (relabel scope env).names.lookup x = _
      rw [relabel_lookup, hx]; rfl
  · show (relabel scope env).names.lookup _ = _
    rw [relabel_lookup, hdot]; rfl
end

noncomputable def tgtOk (scope : Scope) (gens : List Comprehension) : Prop := ∀ x ∈ tns gens, (scope.names.lookup x = some .local ∨ scope.names.lookup x = some .cell) ∧ PlainName x
/-- the first clause's turns -/
noncomputable def CTop (W : Wd) (lv : Nat) (scope : Scope) (elt t : Expr) (ifs : List Expr) (gs : List Comprehension) (ρ' : Names) (items : List Dat) (f : Dat → List Dat) : Prop :=
  ∀ d ∈ items, ∃ bs b, bindT t d = some bs ∧ ETs W lv scope (bs ++ ρ') .And ifs b ∧ (b = true → CB W lv scope elt gs (bs ++ ρ') (f d)) ∧ (b = false → f d = [])
section
variable {W : Wd} {lv : Nat} {sc scope : Scope} {ρ ρ' : Names} {elt t iter : Expr} {ifs : List Expr} {gs : List Comprehension} {pos : Pos} {items : List Dat} {f : Dat → List Dat}
theorem comp_core (hsc : compSc sc scope = true) (hρ : SubF scope.names ρ ρ') (hfree : FreeAll ρ scope.names = true) (htg : tgtOk scope (⟨t, iter, ifs, 0⟩ :: gs)) (hdis : ∀ x ∈ tn t, ρ'.lookup x = none)
    (hf : CTop W lv scope elt t ifs gs ρ' items f) (hz : (items.flatMap f).length ≤ 1048576)
    (A : Around) (h₀ : Heap) (fenv : Env) (L : Addr) (m : Str → Option Value) (mu fz : Led) (env : Env) (s : Shared) (E : Value → Shared → Prop) (RR : Value → Addr → Result → Shared → Prop) (I : Addr) (o : Obj) (St : Nat → Heap → Prop)
    (hA : AOk W lv A h₀ fenv L) (hE : EnvOk env sc) (S : SS W h₀ L m ((I, o) :: mu) fz s.heap) (hN : NamesOk W env L m mu (mu ++ fz) (Hs W.base fz) ρ) (sr : Src W A (Hs W.base fz) mu I St items) (st : St 0 s.heap)
    (k : ∀ D C oC vs n fz' h' tk', Sub fz fz' → SS W h₀ L m ((C, oC) :: (D, listOf vs.toArray n) :: mu) fz' h' → (∃ mm, ObjNs oC mm) → RepA (Hs W.base fz') vs (items.flatMap f) → RR (.ref D) C (.ok .next) { s with heap := h', toks := tk' }) :
    closureFor scope env = pure (closL env.cells scope.names []) ∧
    wpAny (model W.prog W.w) A (newList []) (fun acc s₃ => wpAny (model W.prog W.w) A (newFunctionEnv scope env.globals (closL env.cells scope.names []) [] env.qual none .none (some env)) (fun cenv s₄ =>
      codeAny (model W.prog W.w) A (.compStart (.ListComp elt (⟨t, iter, ifs, 0⟩ :: gs) scope pos) 0 (.ref I) acc { cenv with scope := relabel scope env }) (RR acc cenv.locals) s₄) E s₃) E s := by
  have S₁ := S.pushMu (listOf ([] : List Value).toArray 0)
  refine ⟨(comp_env (M := model W.prog W.w) (A := A) (E := E) (s := { s with heap := s.heap.push (listOf ([] : List Value).toArray 0) }) (its := [(I, o)]) (Q := fun _ _ => True) hsc hρ hfree hE S₁ hN fun _ _ _ _ _ _ => trivial).1, ?_⟩
  refine wpAny_newObj_type ?_
  refine (comp_env (M := model W.prog W.w) (A := A) (E := E) (its := [(I, o)]) hsc hρ hfree hE S₁ hN fun cenv loc h' kp S₂ ce => ?_).2
  have cs : CS W h₀ L m loc s.heap.objs.size [] 0 [(I, o)] mu fz { cenv with scope := relabel scope env } ρ' (tns (⟨t, iter, ifs, 0⟩ :: gs)) h' :=
    ⟨S₂, ce.nm, fun x hx => ⟨ce.st x (htg x hx).1, (htg x hx).2⟩⟩
  have st₁ : St 0 h' := by
    refine sr.frame _ _ _ st (fun o' e => kp _ _ (Heap.get?_push_of_some _ e)) fun b ob hb => ?_
    rcases hb with hb | hb
    · exact S₂.has hb
    · exact S₂.ofMu (List.mem_append_right _ (.tail _ (List.mem_append_right _ hb)))
  have loop : ∀ s₁ : Shared, s₁ = { s with heap := h' } → codeAny (model W.prog W.w) A (.compLoop (.ListComp elt (⟨t, iter, ifs, 0⟩ :: gs) scope pos) 0 (.ref I) (.ref s.heap.objs.size) { cenv with scope := relabel scope env })
      (RR (.ref s.heap.objs.size) cenv.locals) s₁ := by
    rintro s₁ rfl
    refine loop_ok (csc := scope) rfl rfl hdis (fun d hd => ?_) A h₀ fenv L m loc _ [] 0 I o [] mu fz St _ _ _ hA ce.ok ce.ne cs sr st₁ (by simpa using hz) fun loc' vs' n' fz' h₂ tk₂ s₂ x₂ r₂ so₂ => ?_
    · obtain ⟨bs, b, h1, h2, h3, h4⟩ := hf d hd
      exact ⟨bs, b, h1, h2, fun e => emit_ok gs 1 _ _ rfl (h3 e), h4⟩
    · have s0 := so₂ (".0" : Str) (ce.st (".0" : Str) (.inl ?_))
      · rcases s0 with ⟨_, q | ⟨oC, mm, hm, hn⟩⟩ | ⟨q, _⟩
        · exact absurd q ce.ne
        · obtain ⟨l₁, l₂, e⟩ := List.append_of_mem hm
          refine k _ _ oC _ n' fz' h₂ tk₂ s₂ ?_ ⟨mm, hn⟩ r₂
          have x₃ := x₂.ss
          rw [e] at x₃
          refine (x₃.perm (mu' := (cenv.locals, oC) :: (l₁ ++ l₂ ++ (s.heap.objs.size, listOf ([] ++ vs').toArray n') :: mu)) ?_).sublist ?_
          · simpa using List.perm_middle (a := (cenv.locals, oC)) (l₁ := l₁) (l₂ := l₂ ++ (s.heap.objs.size, listOf ([] ++ vs').toArray n') :: mu)
          · exact List.Sublist.cons_cons _ (List.sublist_append_right (l₁ ++ l₂) _)
        · rw [ce.lk] at q; cases q
      · simp only [compSc, Bool.and_eq_true, beq_iff_eq] at hsc
        exact hsc.1.2
  exact codeAny_compStart_at rfl (loop _ rfl) (sr.self 0 _ _ _ st₁ (loop _ rfl))

theorem ef_comp (hsc : compSc sc scope = true) (hρ : SubF scope.names ρ ρ') (hfree : FreeAll ρ scope.names = true) (htg : tgtOk scope (⟨t, iter, ifs, 0⟩ :: gs)) (hdis : ∀ x ∈ tn t, ρ'.lookup x = none)
    (hset : ∀ x env, foldedSetIterable iter env x = pure x) (hi : EI id W lv sc ρ iter items) (hf : CTop W lv scope elt t ifs gs ρ' items f) (hz : (items.flatMap f).length ≤ 1048576) :
    EF W lv sc ρ (.ListComp elt (⟨t, iter, ifs, 0⟩ :: gs) scope pos) (items.flatMap f) := by
  intro A h₀ fenv L m mu fz env s Q E hA hE S hN k
  have hsc' := hsc
  simp only [compSc, Bool.and_eq_true, beq_iff_eq, List.all_eq_true] at hsc'
  obtain ⟨⟨⟨hkind, hmore⟩, hdot⟩, hall⟩ := hsc'
  have hclos : closureFor scope env = pure (closL env.cells scope.names []) :=
    (comp_env (M := model W.prog W.w) (A := A) (E := E) (s := { s with heap := s.heap.push blockO }) (its := []) (Q := fun _ _ => True) hsc hρ hfree hE (S.pushMu blockO) hN fun _ _ _ _ _ _ => trivial).1
  rw [eval_ListComp]
  refine wpAny_comprehension_free (use := none) rfl (fun x => hset x env) hclos hkind (fun x hx hl => by rw [← hl]; exact (hall x hx).1) ?_
  refine hi A h₀ fenv L m mu fz env s _ E hA hE S hN fun I St o fz' h' tk' s' S' sr st => ?_
  refine (comp_core (pos := pos) (iter := iter) hsc hρ hfree htg hdis hf hz A h₀ fenv L m mu fz' env _ E (fun acc C => compPost (model W.prog W.w) A E none Q acc C) I o St hA hE S' (hN.grow s') sr st
    fun D C oC vs n fz₂ h₂ tk₂ s₂ S₂ hn r₂ => ?_).2
  obtain ⟨mm, hn⟩ := hn
  refine ⟨mm, hn.ns (S₂.ofMu (.head _)), fun h₃ hs₃ => ?_⟩
  exact k D vs n fz₂ h₃ tk₂ (s'.trans s₂) (S₂.drop fun b o hb e => hs₃.extBut b o hb e) r₂
theorem EF.ev {e : Expr} {ds : List Dat} (h : EF W lv sc ρ e ds) : EV W lv sc ρ e (.dat (.list ds)) := by
  intro A h₀ fenv L m mu fz env s Q E hA hE S hN k
  refine h A h₀ fenv L m mu fz env s _ E hA hE S hN fun l vs n fz' h' tk' s' S' r => ?_
  exact k _ _ h' tk' (s'.trans .cons) S'.freeze (.list (.inr (.head _)) rfl rfl (r.mono (Hs.sub .cons)))
end
end Mine
end
section
open PySem PySem.W PyProof.Rows
set_option linter.unusedVariables false
set_option maxRecDepth 100000
namespace Mine
open PySem.Calls PySem.Spec PySem.SeqAt

/-- a list of the ledger -/
noncomputable def ListAt (MU : Led) (X : Fact) (a : Addr) (ds : List Dat) : Prop := ∃ vs n, (a, listOf (List.toArray vs) n) ∈ MU ∧ RepA X vs ds
theorem ListAt.mono {MU MU' : Led} {X Y : Fact} {a : Addr} {ds : List Dat} (h : ListAt MU X a ds) (s : FSub X Y) (u : Sub MU MU') : ListAt MU' Y a ds :=
  let ⟨vs, n, a, b⟩ := h; ⟨vs, n, u _ a, b.mono s⟩
theorem ListAt.prep {W : Wd} {MU : Led} {X : Fact} {a : Addr} {ds : List Dat} (h : ListAt MU X a ds) : PRep W X MU (.ref a) (.lst ds) :=
  let ⟨vs, n, h1, h2⟩ := h; ⟨a, _, vs, n, rfl, h1, rfl, rfl, rfl, h2⟩

/-- the state of a function's frame: own cells, own lists, the caller's ledger, the names -/
structure FS (W : Wd) (sc : Scope) (ps : List Str) (h₀ : Heap) (L : Addr) (m : Str → Option Value) (loc own par fz : Led) (env : Env) (ad : Str → Addr) (ρ : Names) (h : Heap) : Prop where
  ss : SS W h₀ L m (loc ++ (own ++ par)) fz h
  nm : NamesOk W env L m (own ++ par) (loc ++ ((own ++ par) ++ fz)) (Hs W.base fz) ρ
  ls : ∀ x ds, ρ.lookup x = some (.lst ds) → Loads env L m (loc ++ ((own ++ par) ++ fz)) x (.ref (ad x)) ∧ ListAt (if x ∈ ps then par else own) (Hs W.base fz) (ad x) ds
  ij : ∀ x y ds es, ρ.lookup x = some (.lst ds) → ρ.lookup y = some (.lst es) → ad x = ad y → x = y
  st : ∀ x, sc.names.lookup x = some .local ∨ sc.names.lookup x = some .cell → Sto env L loc x
  pp : ∀ x ∈ ps, ∃ o, (ad x, o) ∈ par

/-- what became of the caller's ledger -/
noncomputable def Par (ps : List Str) (ad : Str → Addr) (par par' : Led) : Prop := par'.map (·.1) = par.map (·.1) ∧ ∀ p ∈ par, (∀ x ∈ ps, p.1 ≠ ad x) → p ∈ par'
theorem Par.refl (ps : List Str) (ad : Str → Addr) (par : Led) : Par ps ad par par := ⟨rfl, fun _ h _ => h⟩
theorem Par.trans {ps : List Str} {ad ad' : Str → Addr} {a b c : Led} (h : Par ps ad a b) (k : Par ps ad' b c) (e : ∀ x ∈ ps, ad' x = ad x) : Par ps ad a c :=
  ⟨k.1.trans h.1, fun p hp hn => k.2 p (h.2 p hp hn) fun x hx => by rw [e x hx]; exact hn x hx⟩

inductive Out where
  | next (ρ : Names)
  | ret (d : Dat) (ρ : Names)
  | esc (d : Dat)
noncomputable def Out.plain : Out → Bool
  | .esc _ => false
  | _ => true
noncomputable def Out.names : Out → Names
  | .next ρ => ρ
  | .ret _ ρ => ρ
  | .esc _ => []
/-- an end behind an exception that was met: the ledger stands, the frames but for their slots -/
noncomputable def EscOk (W : Wd) (h₀ : Heap) (L : Addr) (led fz : Led) (h : Heap) : Prop :=
  (∀ b o, W.base.get? b = some o → h.get? b = some o) ∧ (∃ gl, W.Gl gl (Hs W.base fz) ∧ Ld h₀ L h (gl ++ (led ++ fz))) ∧ h₀.UpToSlots h
/-- the frame's state at the end; a frame that is left may have frozen cells -/
noncomputable def Out.fs (o : Out) (W : Wd) (sc : Scope) (ps : List Str) (h₀ : Heap) (L : Addr) (m : Str → Option Value) (loc own par fz : Led) (env : Env) (ad : Str → Addr) (h : Heap) : Prop :=
  match o with
  | .next ρ => FS W sc ps h₀ L m loc own par fz env ad ρ h
  | .ret _ ρ => ∃ sc₂, FS W sc₂ ps h₀ L m loc own par fz env ad ρ h
  | .esc _ => EscOk W h₀ L (loc ++ (own ++ par)) fz h
noncomputable def Out.flow (X : Fact) : Out → Flow → Prop
  | .next _, f => f = .next
  | .ret d _, f => ∃ v, f = .ret v ∧ Rep X v d
  | .esc d, f => ∃ v, f = .ret v ∧ Rep X v d

noncomputable abbrev LocT (a b : Led) : Prop := True = True
/-- statements under the names ρ end so -/
noncomputable def EX (W : Wd) (lv : Nat) (sc : Scope) (ps : List Str) (ρ : Names) (t : Env → Sem Flow) (out : Out) : Prop :=
  ∀ (A : Around) (h₀ : Heap) (L : Addr) (m : Str → Option Value) (loc own par fz : Led) (env : Env) (ad : Str → Addr) (s : Shared) (Q : Flow → Shared → Prop) (E : Value → Shared → Prop),
    AOk W lv A h₀ env L → EnvOk env sc → FS W sc ps h₀ L m loc own par fz env ad ρ s.heap →
    (∀ fl m' loc' own' par' fz' ad' h' tk', Sub fz fz' → out.fs W sc ps h₀ L m' loc' own' par' fz' env ad' h' → out.flow (Hs W.base fz') fl → Par ps ad par par' → (∀ x ∈ ps, ad' x = ad x) →
      LocT loc' loc → Q fl { s with heap := h', toks := tk' }) →
    wpAny (model W.prog W.w) A (t env) Q E s
noncomputable abbrev EXS (W : Wd) (lv : Nat) (sc : Scope) (ps : List Str) (ρ : Names) (l : List Stmt) (out : Out) : Prop := EX W lv sc ps ρ (execs l) out
noncomputable abbrev EX1 (W : Wd) (lv : Nat) (sc : Scope) (ps : List Str) (ρ : Names) (l : Stmt) (out : Out) : Prop := EX W lv sc ps ρ (exec l) out

section
variable {W : Wd} {sc : Scope} {ps : List Str} {h₀ h h' : Heap} {L : Addr} {m : Str → Option Value} {loc own par fz fz' : Led} {env : Env} {ad : Str → Addr} {ρ ρ' : Names}
theorem FS.nd (x : FS W sc ps h₀ L m loc own par fz env ad ρ h) : ((loc ++ ((own ++ par) ++ fz)).map (·.1)).Nodup := by
  obtain ⟨_, ⟨gl, _, l⟩, _⟩ := x.ss
  rw [← List.append_assoc]
  exact (l.sublist (List.sublist_append_right gl _)).nodup
/-- the names, for expressions -/
theorem FS.full (x : FS W sc ps h₀ L m loc own par fz env ad ρ h) : NamesOk W env L m (loc ++ (own ++ par)) ((loc ++ (own ++ par)) ++ fz) (Hs W.base fz) ρ := by
  rw [List.append_assoc]
  exact x.nm.sup (FSub.refl _) (fun p hp => List.mem_append_right _ hp) (Sub.refl _)
theorem FS.grow (x : FS W sc ps h₀ L m loc own par fz env ad ρ h) (s : Sub fz fz') (S : SS W h₀ L m (loc ++ (own ++ par)) fz' h') : FS W sc ps h₀ L m loc own par fz' env ad ρ h' := by
  have N : Sub (loc ++ ((own ++ par) ++ fz)) (loc ++ ((own ++ par) ++ fz')) := fun p hp => by
    rcases List.mem_append.mp hp with h | h
    · exact List.mem_append_left _ h
    · exact List.mem_append_right _ ((List.mem_append.mp h).elim (List.mem_append_left _) fun h => List.mem_append_right _ (s _ h))
  refine ⟨S, x.nm.sup (Hs.sub s) (Sub.refl _) N, fun y ds hy => ?_, x.ij, x.st, x.pp⟩
  obtain ⟨a, b⟩ := x.ls y ds hy
  exact ⟨a.mono N, b.mono (Hs.sub s) (Sub.refl _)⟩
theorem FS.sub (x : FS W sc ps h₀ L m loc own par fz env ad ρ h) (hρ : ∀ x pv, ρ'.lookup x = some pv → ρ.lookup x = some pv) : FS W sc ps h₀ L m loc own par fz env ad ρ' h :=
  ⟨x.ss, x.nm.sub hρ, fun y ds hy => x.ls y ds (hρ _ _ hy), fun y z ds es hy hz => x.ij y z ds es (hρ _ _ hy) (hρ _ _ hz), x.st, x.pp⟩
noncomputable def allDat (bs : Names) : Bool := bs.all fun p => match p.2 with
  | .lst _ => false
  | _ => true
theorem allDat_lookup {bs ρ : Names} {x : Str} {ds : List Dat} (h : allDat bs = true) (hx : (bs ++ ρ).lookup x = some (.lst ds)) : x ∉ bs.map (·.1) ∧ ρ.lookup x = some (.lst ds) := by
  induction bs with
  | nil => exact ⟨by simp, hx⟩
  | cons p bs ih =>
    obtain ⟨y, q⟩ := p
    simp only [allDat, List.all_cons, Bool.and_eq_true] at h
    rw [List.cons_append, List.lookup_cons] at hx
    cases e : x == y with
    | true =>
      rw [e] at hx
      cases hx
      cases h.1
    | false =>
      rw [e] at hx
      obtain ⟨a, b⟩ := ih h.2 hx
      refine ⟨fun k => ?_, b⟩
      rw [List.map_cons, List.mem_cons] at k
      rcases k with k | k
      · rw [k, beq_self_eq_true] at e; cases e
      · exact a k
theorem FS.moved {m' : Str → Option Value} {loc' : Led} {bs : Names} (x : FS W sc ps h₀ L m loc own par fz env ad ρ h) (S : SS W h₀ L m' (loc' ++ (own ++ par)) fz h') (mv : Moved W env L m loc m' loc' (Hs W.base fz) bs) (hb : allDat bs = true) :
    FS W sc ps h₀ L m' loc' own par fz env ad (bs ++ ρ) h' := by
  refine ⟨S, mv.names _ _ _ _ (FSub.refl _) x.nd x.nm, fun y ds hy => ?_, fun y z ds es hy hz => ?_, fun y hy => mv.sto y (x.st y hy), x.pp⟩
  · obtain ⟨a, b⟩ := allDat_lookup hb hy
    obtain ⟨c, d⟩ := x.ls y ds b
    exact ⟨mv.old _ _ _ a x.nd c, d⟩
  · exact x.ij y z ds es (allDat_lookup hb hy).2 (allDat_lookup hb hz).2
end

/-! sequences -/
section
variable {W : Wd} {lv : Nat} {sc : Scope} {ps : List Str} {ρ ρ' : Names}
theorem ex_nil : EXS W lv sc ps ρ [] (.next ρ) := by
  intro A h₀ L m loc own par fz env ad s Q E hA hE x k
  exact wpAny_execs_nil (k _ _ _ _ _ _ _ s.heap s.toks (Sub.refl _) x rfl (Par.refl _ _ _) (fun _ _ => rfl) rfl)
theorem ex_seq {st : Stmt} {rest : List Stmt} {out : Out} (h : EX1 W lv sc ps ρ st (.next ρ')) (k : EXS W lv sc ps ρ' rest out) : EXS W lv sc ps ρ (st :: rest) out := by
  intro A h₀ L m loc own par fz env ad s Q E hA hE x c
  refine wpAny_execs_cons (h A h₀ L m loc own par fz env ad s _ E hA hE x fun fl m₁ loc₁ own₁ par₁ fz₁ ad₁ h₁ t₁ s₁ x₁ f₁ p₁ a₁ l₁ => ?_)
  cases f₁
  exact k A h₀ L m₁ loc₁ own₁ par₁ fz₁ env ad₁ _ Q E hA hE x₁ fun fl m₂ loc₂ own₂ par₂ fz₂ ad₂ h₂ t₂ s₂ x₂ f₂ p₂ a₂ l₂ =>
    c fl m₂ loc₂ own₂ par₂ fz₂ ad₂ h₂ t₂ (s₁.trans s₂) x₂ f₂ (p₁.trans p₂ a₁) (fun y hy => (a₂ y hy).trans (a₁ y hy)) (l₂.trans l₁)
theorem ex_ret {st : Stmt} {rest : List Stmt} {d : Dat} (h : EX1 W lv sc ps ρ st (.ret d ρ')) : EXS W lv sc ps ρ (st :: rest) (.ret d ρ') := by
  intro A h₀ L m loc own par fz env ad s Q E hA hE x c
  refine wpAny_execs_cons (h A h₀ L m loc own par fz env ad s _ E hA hE x fun fl m₁ loc₁ own₁ par₁ fz₁ ad₁ h₁ t₁ s₁ x₁ f₁ p₁ a₁ l₁ => ?_)
  obtain ⟨v, rfl, r⟩ := f₁
  exact c _ m₁ loc₁ own₁ par₁ fz₁ ad₁ h₁ t₁ s₁ x₁ ⟨v, rfl, r⟩ p₁ a₁ l₁
theorem EX.sub {t : Env → Sem Flow} {out : Out} (h : EX W lv sc ps ρ' t out) (hρ : ∀ x pv, ρ'.lookup x = some pv → ρ.lookup x = some pv) : EX W lv sc ps ρ t out :=
  fun A h₀ L m loc own par fz env ad s Q E hA hE x c => h A h₀ L m loc own par fz env ad s Q E hA hE (x.sub hρ) c
theorem EX.forget {t : Env → Sem Flow} (h : EX W lv sc ps ρ t (.next ρ')) {ρ'' : Names} (hρ : ∀ x pv, ρ''.lookup x = some pv → ρ'.lookup x = some pv) : EX W lv sc ps ρ t (.next ρ'') :=
  fun A h₀ L m loc own par fz env ad s Q E hA hE x c => h A h₀ L m loc own par fz env ad s Q E hA hE x fun fl m₁ loc₁ own₁ par₁ fz₁ ad₁ h₁ t₁ s₁ x₁ f₁ p₁ a₁ l₁ =>
    c fl m₁ loc₁ own₁ par₁ fz₁ ad₁ h₁ t₁ s₁ (FS.sub x₁ hρ) f₁ p₁ a₁ l₁

noncomputable def slot (sc : Scope) (x : Str) : Prop := sc.names.lookup x = some .local ∨ sc.names.lookup x = some .cell
/-- x = e -/
theorem ex_assign {x : Str} {px pos : Pos} {e : Expr} {d : Dat} (h : EV W lv sc ρ e (.dat d)) (hx : slot sc x) (hp : PlainName x) (hs : ∀ env, swapsWith e (some (.Name x px)) pos.line env = pure false := by intro _; rfl) :
    EX1 W lv sc ps ρ (.Assign [.Name x px] e pos) (.next ((x, .dat d) :: ρ)) := by
  intro A h₀ L m loc own par fz env ad s Q E hA hE x₀ c
  refine wpAny_Assign_Name (h A h₀ env L m _ fz env s _ E hA hE x₀.ss x₀.full fun v fz' h' t' s' S' R' => ?_) (hs env)
  have x₁ := x₀.grow s' S'
  have hq : EnvOk env sc := hE
  refine store_ok hE x₁.ss (x₁.st x hx) fun m' loc' h₂ tk₂ S₂ st₂ => ?_
  exact c _ m' loc' own par fz' ad h₂ tk₂ s' (x₁.moved (bs := [(x, .dat d)]) S₂ (st₂.moved (pv := .dat d) hp fun MU Y q => Rep.mono q R') rfl) rfl (Par.refl _ _ _) (fun _ _ => rfl) rfl
/-- x, y = e -/
theorem ex_unpack {x y : Str} {px py : Pos} {kd : Nat} {tp pos : Pos} {e : Expr} {a b : Dat} (h : EV W lv sc ρ e (.dat (.tuple [a, b]))) (hx : slot sc x) (hp : PlainName x) (hy : slot sc y) (hq : PlainName y)
    (hs : ∀ env, swapsWithSole [.Tuple [.Name x px, .Name y py] kd tp] e pos.line env = pure false := by intro _; rfl) (hw : ∀ env, swappedStores [.Tuple [.Name x px, .Name y py] kd tp] e env = pure none := by intro _; rfl) :
    EX1 W lv sc ps ρ (.Assign [.Tuple [.Name x px, .Name y py] kd tp] e pos) (.next ((y, .dat b) :: (x, .dat a) :: ρ)) := by
  intro A h₀ L m loc own par fz env ad s Q E hA hE x₀ c
  have ht : ∀ z ∈ tn (.Tuple [.Name x px, .Name y py] kd tp), slot sc z ∧ PlainName z := by
    intro z hz
    rcases List.mem_cons.mp hz with rfl | hz
    · exact ⟨hy, hq⟩
    · rcases List.mem_cons.mp hz with rfl | hz
      · exact ⟨hx, hp⟩
      · cases hz
  refine Assign_Tuple (h A h₀ env L m _ fz env s _ E hA hE x₀.ss x₀.full fun v fz' h' t' s' S' R' => ?_) (hs env) (hw env)
  have x₁ := x₀.grow s' S'
  refine assign_ok hA.hh hE x₁.ss (fun z hz => ⟨x₁.st z (ht z hz).1, (ht z hz).2⟩) R' rfl fun m' loc' h₂ tk₂ S₂ mv => ?_
  exact c _ m' loc' own par fz' ad h₂ tk₂ s' (x₁.moved S₂ mv rfl) rfl (Par.refl _ _ _) (fun _ _ => rfl) rfl
theorem ex_if {t : Expr} {body orelse : List Stmt} {pos : Pos} {b : Bool} {out : Out} (h : ET W lv sc ρ t b) (h1 : b = true → EXS W lv sc ps ρ body out) (h2 : b = false → EXS W lv sc ps ρ orelse out) : EX1 W lv sc ps ρ (.If t body orelse pos) out := by
  intro A h₀ L m loc own par fz env ad s Q E hA hE x c
  refine wpAny_If (h A h₀ env L m _ fz env s _ E hA hE x.ss x.full fun fz' h' t' s' S' => ?_)
  have x₁ := x.grow s' S'
  cases b with
  | true => exact h1 rfl A h₀ L m loc own par fz' env ad _ Q E hA hE x₁ fun fl m₂ loc₂ own₂ par₂ fz₂ ad₂ h₂ t₂ s₂ x₂ => c fl m₂ loc₂ own₂ par₂ fz₂ ad₂ h₂ t₂ (s'.trans s₂) x₂
  | false => exact h2 rfl A h₀ L m loc own par fz' env ad _ Q E hA hE x₁ fun fl m₂ loc₂ own₂ par₂ fz₂ ad₂ h₂ t₂ s₂ x₂ => c fl m₂ loc₂ own₂ par₂ fz₂ ad₂ h₂ t₂ (s'.trans s₂) x₂
theorem ex_return {e : Expr} {pos : Pos} {d : Dat} (h : EV W lv sc ρ e (.dat d)) : EX1 W lv sc ps ρ (.Return (some e) pos) (.ret d ρ) := by
  intro A h₀ L m loc own par fz env ad s Q E hA hE x c
  refine wpAny_Return_some (h A h₀ env L m _ fz env s _ E hA hE x.ss x.full fun v fz' h' t' s' S' R' => ?_)
  exact c _ m loc own par fz' ad h' t' s' ⟨sc, x.grow s' S'⟩ ⟨v, rfl, R'⟩ (Par.refl _ _ _) (fun _ _ => rfl) rfl
theorem ex_return_none {pos : Pos} : EX1 W lv sc ps ρ (.Return none pos) (.ret .none ρ) := by
  intro A h₀ L m loc own par fz env ad s Q E hA hE x c
  exact wpAny_Return_none (c _ m loc own par fz ad s.heap s.toks (Sub.refl _) ⟨sc, x⟩ ⟨_, rfl, .none⟩ (Par.refl _ _ _) (fun _ _ => rfl) rfl)
end

/-! lists that turn -/
theorem Loads.keep {env : Env} {L : Addr} {m : Str → Option Value} {N N' : Led} {x : Str} {v : Value} (h : ∀ a o, (a, o) ∈ N → ((∃ es n, o.data = .dict es n) ∨ ∃ v, o.data = .cell v) → (a, o) ∈ N') : Loads env L m N x v → Loads env L m N' x v
  | .here a b c => .here a b c
  | .block a b c d => .block a (h _ _ b (.inl (by obtain ⟨es, ep, e, _⟩ := c; exact ⟨es, ep, e⟩))) c d
  | .cell a b c d => .cell a b (h _ _ c (.inr ⟨_, d⟩)) d
section
variable {W : Wd} {sc : Scope} {ps : List Str} {h₀ h h' : Heap} {L : Addr} {m : Str → Option Value} {loc own par fz fz' : Led} {env : Env} {ad : Str → Addr} {ρ ρ' : Names}
theorem FS.listAt (x : FS W sc ps h₀ L m loc own par fz env ad ρ h) {y : Str} {ds : List Dat} (hy : ρ.lookup y = some (.lst ds)) : ListAt (own ++ par) (Hs W.base fz) (ad y) ds := by
  have := (x.ls y ds hy).2
  split at this
  · exact this.mono (FSub.refl _) fun p hp => List.mem_append_right _ hp
  · exact this.mono (FSub.refl _) fun p hp => List.mem_append_left _ hp
/-- the list of the name y has become another -/
theorem FS.turnS (x : FS W sc ps h₀ L m loc own par fz env ad ρ h) (sf : Sub fz fz') {y : Str} {ds ds' : List Dat} {vs' : List Value} {n' : Nat} (hy : ρ.lookup y = some (.lst ds))
    (S : SS W h₀ L m (setL (loc ++ (own ++ par)) (ad y) (listOf vs'.toArray n')) fz' h') (hr : RepA (Hs W.base fz') vs' ds') :
    ∃ own' par', FS W sc ps h₀ L m loc own' par' fz' env ad ((y, .lst ds') :: ρ) h' ∧ Par ps ad par par' := by
  obtain ⟨vs, n, hm, _⟩ := x.listAt hy
  have hmN : (ad y, listOf vs.toArray n) ∈ loc ++ ((own ++ par) ++ fz) := List.mem_append_right _ (List.mem_append_left _ hm)
  let o' : Obj := listOf vs'.toArray n'
  rw [setL_append, setL_append] at S
  have hloc : setL loc (ad y) (listOf vs'.toArray n') = loc := setL_off fun p hp e => by
    have nd := x.nd
    rw [List.map_append, List.nodup_append] at nd
    exact nd.2.2 p.1 (List.mem_map.mpr ⟨p, hp, rfl⟩) (ad y) (List.mem_map.mpr ⟨_, List.mem_append_left _ hm, rfl⟩) e
  rw [hloc] at S
  have up : ∀ a o, (a, o) ∈ loc ++ ((own ++ par) ++ fz) → a ≠ ad y → (a, o) ∈ loc ++ ((setL own (ad y) o' ++ setL par (ad y) o') ++ fz') := by
    intro a o h hn
    rcases List.mem_append.mp h with h | h
    · exact List.mem_append_left _ h
    · refine List.mem_append_right _ ?_
      rcases List.mem_append.mp h with h | h
      · refine List.mem_append_left _ ?_
        rcases List.mem_append.mp h with h | h
        · exact List.mem_append_left _ (mem_setL_ne h hn)
        · exact List.mem_append_right _ (mem_setL_ne h hn)
      · exact List.mem_append_right _ (sf _ h)
  have lk : ∀ {z : Str} {v : Value}, Loads env L m (loc ++ ((own ++ par) ++ fz)) z v → Loads env L m (loc ++ ((setL own (ad y) o' ++ setL par (ad y) o') ++ fz')) z v := fun l => l.keep fun a o h hd => up a o h fun e => by
    rw [e] at h
    have := nd_inj x.nd h hmN
    subst this
    rcases hd with ⟨_, _, hd⟩ | ⟨_, hd⟩
    · cases hd
    · cases hd
  have la : ∀ {z : Str} {es : List Dat} {MU : Led}, ad z ≠ ad y → ListAt MU (Hs W.base fz) (ad z) es → ListAt (setL MU (ad y) o') (Hs W.base fz') (ad z) es := fun hn q => by
    obtain ⟨vs, n, a, b⟩ := q
    exact ⟨vs, n, mem_setL_ne a hn, b.mono (Hs.sub sf)⟩
  have self : ListAt (if y ∈ ps then setL par (ad y) o' else setL own (ad y) o') (Hs W.base fz') (ad y) ds' := by
    have := (x.ls y ds hy).2
    split at this
    · rename_i hps
      rw [if_pos hps]
      obtain ⟨_, _, a, _⟩ := this
      exact ⟨vs', n', mem_setL_self a, hr⟩
    · rename_i hps
      rw [if_neg hps]
      obtain ⟨_, _, a, _⟩ := this
      exact ⟨vs', n', mem_setL_self a, hr⟩
  have self' : ListAt (setL own (ad y) o' ++ setL par (ad y) o') (Hs W.base fz') (ad y) ds' := by
    split at self
    · exact self.mono (FSub.refl _) fun p hp => List.mem_append_right _ hp
    · exact self.mono (FSub.refl _) fun p hp => List.mem_append_left _ hp
  have look : ∀ {z : Str} {q : PV}, ((y, PV.lst ds') :: ρ).lookup z = some q → (z = y ∧ q = .lst ds') ∨ (z ≠ y ∧ ρ.lookup z = some q) := by
    intro z q hz
    rw [List.lookup_cons] at hz
    cases e : z == y with
    | true => rw [e] at hz; cases hz; exact .inl ⟨beq_iff_eq.mp e, rfl⟩
    | false =>
      rw [e] at hz
      exact .inr ⟨fun q => (by rw [q, beq_self_eq_true] at e; cases e), hz⟩
  refine ⟨setL own (ad y) o', setL par (ad y) o', ⟨S, fun z q hz => ?_, fun z es hz => ?_, fun z w es fs hz hw => ?_, x.st, fun z hz => ?_⟩, ⟨setL_fst .., fun p hp hn => ?_⟩⟩
  · rcases look hz with ⟨rfl, rfl⟩ | ⟨hne, hz⟩
    · exact ⟨(x.nm z _ hy).1, _, lk (x.ls z ds hy).1, self'.prep⟩
    · cases q with
      | dat d =>
        obtain ⟨a, v, l, r⟩ := x.nm z _ hz
        exact ⟨a, v, lk l, Rep.mono (Hs.sub sf) r⟩
      | fn lf F =>
        obtain ⟨a, v, l, r⟩ := x.nm z _ hz
        exact ⟨a, v, lk l, CallOk.mono (Hs.sub sf) r⟩
      | lst es =>
        have hn : ad z ≠ ad y := fun e => hne (x.ij z y es ds hz hy e)
        have := la hn (x.listAt hz)
        rw [setL_append] at this
        exact ⟨(x.nm z _ hz).1, _, lk (x.ls z es hz).1, this.prep⟩
  · rcases look hz with ⟨rfl, e⟩ | ⟨hne, hz⟩
    · cases e
      exact ⟨lk (x.ls z ds hy).1, self⟩
    · have hn : ad z ≠ ad y := fun e => hne (x.ij z y es ds hz hy e)
      obtain ⟨a, b⟩ := x.ls z es hz
      refine ⟨lk a, ?_⟩
      split at b
      · rename_i hps; rw [if_pos hps]; exact la hn b
      · rename_i hps; rw [if_neg hps]; exact la hn b
  · intro e
    rcases look hz with ⟨e1, _⟩ | ⟨_, hz⟩ <;> rcases look hw with ⟨e2, _⟩ | ⟨_, hw⟩
    · rw [e1, e2]
    · rw [e1] at e ⊢; exact x.ij _ _ _ _ hy hw e
    · rw [e2] at e ⊢; exact x.ij _ _ _ _ hz hy e
    · exact x.ij _ _ _ _ hz hw e
  · obtain ⟨o, ho⟩ := x.pp z hz
    by_cases e : ad z = ad y
    · rw [e] at ho ⊢; exact ⟨_, mem_setL_self ho⟩
    · exact ⟨o, mem_setL_ne ho e⟩
  · refine mem_setL_ne hp fun e => ?_
    by_cases hps : y ∈ ps
    · exact hn y hps e
    · have := (x.ls y ds hy).2
      rw [if_neg hps] at this
      obtain ⟨_, _, a, _⟩ := this
      have nd := x.nd
      rw [List.map_append, List.nodup_append, List.map_append, List.nodup_append, List.map_append, List.nodup_append] at nd
      exact nd.2.1.1.2.2 (ad y) (List.mem_map.mpr ⟨_, a, rfl⟩) p.1 (List.mem_map.mpr ⟨p, hp, rfl⟩) e.symm
theorem FS.turn (x : FS W sc ps h₀ L m loc own par fz env ad ρ h) {y : Str} {ds ds' : List Dat} {vs' : List Value} {n' : Nat} (hy : ρ.lookup y = some (.lst ds)) (hs : ∀ b o, b ≠ ad y → h.get? b = some o → h'.get? b = some o)
    (ho : h'.get? (ad y) = some (listOf vs'.toArray n')) (hr : RepA (Hs W.base fz) vs' ds') :
    ∃ own' par', FS W sc ps h₀ L m loc own' par' fz env ad ((y, .lst ds') :: ρ) h' ∧ Par ps ad par par' := by
  obtain ⟨vs, n, hm, _⟩ := x.listAt hy
  exact x.turnS (Sub.refl _) hy (x.ss.set (List.mem_append_right loc hm) hs ho) hr
end
section
variable {W : Wd} {lv : Nat} {sc : Scope} {ps : List Str} {ρ ρ' : Names}
/-- y.append(e) -/
theorem ex_append {y : Str} {py ap pos spos : Pos} {e : Expr} {ds : List Dat} {d : Dat} (hy : ρ.lookup y = some (.lst ds)) (h : EV W lv sc ρ e (.dat d)) (hz : ds.length ≤ 1048576) (hn : nStar e = true)
    (hbase : ∀ env, attributeBase (.Name y py) (Str.ofString "append") env (eval (.Name y py) env) = eval (.Name y py) env := by intro _; rfl) (hline : (ap.endLine == pos.line) = true := by rfl) :
    EX1 W lv sc ps ρ (.Expr (.Call (.Attribute (.Name y py) (Str.ofString "append") ap) [e] [] pos) spos) (.next ((y, .lst (ds ++ [d])) :: ρ)) := by
  intro A h₀ L m loc own par fz env ad s Q E hA hE x c
  refine wpAny_Expr_any (wpAny_Call_method1_late (hbase env) hline (by rw [starEach_cons hn]; rfl) ?_) (by show (env.scope.kind == .module && _) = false; rw [hE.kind]; rfl) rfl
  have hN : Sub (loc ++ ((own ++ par) ++ fz)) ((loc ++ (own ++ par)) ++ fz) := by rw [List.append_assoc loc]; exact Sub.refl _
  refine eval_name hE x.ss ((x.ls y ds hy).1.mono hN) (x.nm y _ hy).1 ?_
  obtain ⟨vs, n, hm, hr⟩ := x.listAt hy
  have ho := x.ss.ofMu (List.mem_append_right loc hm)
  refine ⟨"list", "list.append", F.plainAttrs_list, slot_list_append, type_list_append, ⟨_, ho, rfl⟩, fun a q => ⟨_, by cases q; exact ho, rfl⟩, ?_⟩
  refine P.append_list (h A h₀ env L m _ fz env s _ E hA hE x.ss x.full fun v fz' h' t' s' S' R' => ?_)
  have x₁ := x.grow s' S'
  have ho₁ := x₁.ss.ofMu (List.mem_append_right loc hm)
  have hz' : vs.toArray.size ≤ sizeLine := by rw [List.size_toArray, sizeLine_eq, hr.length]; (clear ho₁ x₁ R' S' s' ho hr hm hN c x hE hA hline hbase hn h hy; lia)
  refine ⟨_, _, hz', ho₁, ?_⟩
  have hup := (show IsL h' (ad y) vs.toArray n from ho₁).update (fun xs => xs.push v)
  have ho₂ : (h'.update (ad y) (Obj.mapSeq fun xs => xs.push v)).get? (ad y) = some (listOf (vs ++ [v]).toArray (n + 1)) := by
    rw [hup]; simp [PySem.W.listOf]
  obtain ⟨own', par', x₂, p₂⟩ := x₁.turn (ds' := ds ++ [d]) hy (fun b o hb e => (Heap.get?_update_other h' _ (Ne.symm hb)).trans e) ho₂ ((hr.mono (Hs.sub s')).append (.one R'))
  exact c _ m loc own' par' fz' ad _ t' s' x₂ rfl p₂ (fun _ _ => rfl) rfl
end
end Mine
end
section
open PySem PySem.W PyProof.Rows
set_option linter.unusedVariables false
set_option maxRecDepth 100000
namespace Mine
open PySem.Calls PySem.Spec PySem.SeqAt

section
variable {W : Wd} {sc : Scope} {ps : List Str} {h₀ h h' : Heap} {L : Addr} {m : Str → Option Value} {loc own par fz fz' : Led} {env : Env} {ad : Str → Addr} {ρ ρ' : Names}
theorem led_mid {loc own par : Led} {p : Addr × Obj} : (loc ++ (own ++ p :: par)).Perm (p :: (loc ++ (own ++ par))) := by
  have := List.perm_middle (a := p) (l₁ := loc ++ own) (l₂ := par)
  simpa using this
/-- an iterator is laid beside the caller's ledger -/
theorem FS.withIt {I : Addr} {o : Obj} (x : FS W sc ps h₀ L m loc own par fz env ad ρ h) (S : SS W h₀ L m ((I, o) :: (loc ++ (own ++ par))) fz h') : FS W sc ps h₀ L m loc own ((I, o) :: par) fz env ad ρ h' := by
  have N : Sub (loc ++ ((own ++ par) ++ fz)) (loc ++ ((own ++ (I, o) :: par) ++ fz)) := fun p hp => by
    rcases List.mem_append.mp hp with h | h
    · exact List.mem_append_left _ h
    · refine List.mem_append_right _ ?_
      rcases List.mem_append.mp h with h | h
      · refine List.mem_append_left _ ?_
        exact (List.mem_append.mp h).elim (List.mem_append_left _) fun h => List.mem_append_right _ (.tail _ h)
      · exact List.mem_append_right _ h
  refine ⟨S.perm led_mid.symm, x.nm.sup (FSub.refl _) (fun p hp => ?_) N, fun y ds hy => ?_, x.ij, x.st, fun y hy => ?_⟩
  · exact (List.mem_append.mp hp).elim (List.mem_append_left _) fun h => List.mem_append_right _ (.tail _ h)
  · obtain ⟨a, b⟩ := x.ls y ds hy
    refine ⟨a.mono N, ?_⟩
    split at b
    · rename_i e; rw [if_pos e]; exact b.mono (FSub.refl _) fun p hp => .tail _ hp
    · rename_i e; rw [if_neg e]; exact b
  · obtain ⟨o', ho'⟩ := x.pp y hy
    exact ⟨o', .tail _ ho'⟩
/-- and taken away -/
theorem FS.dropIt {I : Addr} {o : Obj} (x : FS W sc ps h₀ L m loc own ((I, o) :: par) fz env ad ρ h) (hI : ∀ y ∈ ps, ad y ≠ I) (hf : fieldsO o) (hs : ∀ b o, b ≠ I → h.get? b = some o → h'.get? b = some o) : FS W sc ps h₀ L m loc own par fz env ad ρ h' := by
  have S : SS W h₀ L m (loc ++ (own ++ par)) fz h' := (x.ss.perm led_mid).drop hs
  have lk : ∀ {z : Str} {v : Value}, Loads env L m (loc ++ ((own ++ (I, o) :: par) ++ fz)) z v → Loads env L m (loc ++ ((own ++ par) ++ fz)) z v := fun l => l.keep fun a oo hm hd => by
    have key : (a, oo) = (I, o) ∨ (a, oo) ∈ loc ++ ((own ++ par) ++ fz) := by
      simp only [List.mem_append, List.mem_cons] at hm ⊢
      rcases hm with h | (h | h | h) | h
      · exact .inr (.inl h)
      · exact .inr (.inr (.inl (.inl h)))
      · exact .inl h
      · exact .inr (.inr (.inl (.inr h)))
      · exact .inr (.inr (.inr h))
    rcases key with e | e
    · cases e
      obtain ⟨vs, hv⟩ := hf
      rcases hd with ⟨_, _, hd⟩ | ⟨_, hd⟩
      · rw [hv] at hd; cases hd
      · rw [hv] at hd; cases hd
    · exact e
  have la : ∀ y ds, ρ.lookup y = some (.lst ds) → ListAt (if y ∈ ps then par else own) (Hs W.base fz) (ad y) ds := by
    intro y ds hy
    have b := (x.ls y ds hy).2
    split at b
    · rename_i e
      rw [if_pos e]
      obtain ⟨vs, n, a, r⟩ := b
      rcases List.mem_cons.mp a with q | q
      · exact absurd (Prod.mk.inj q).1 (hI y e)
      · exact ⟨vs, n, q, r⟩
    · rename_i e; rw [if_neg e]; exact b
  refine ⟨S, fun y q hy => ?_, fun y ds hy => ⟨lk (x.ls y ds hy).1, la y ds hy⟩, x.ij, x.st, fun y hy => ?_⟩
  · cases q with
    | dat d => obtain ⟨a, v, l, r⟩ := x.nm y _ hy; exact ⟨a, v, lk l, r⟩
    | fn lf F => obtain ⟨a, v, l, r⟩ := x.nm y _ hy; exact ⟨a, v, lk l, r⟩
    | lst ds =>
      refine ⟨(x.nm y _ hy).1, _, lk (x.ls y ds hy).1, ?_⟩
      have := la y ds hy
      split at this
      · exact (this.mono (FSub.refl _) fun p hp => List.mem_append_right _ hp).prep
      · exact (this.mono (FSub.refl _) fun p hp => List.mem_append_left _ hp).prep
  · obtain ⟨o', ho'⟩ := x.pp y hy
    rcases List.mem_cons.mp ho' with q | q
    · exact absurd (Prod.mk.inj q).1 (hI y hy)
    · exact ⟨o', q⟩
theorem FS.ndPar (x : FS W sc ps h₀ L m loc own par fz env ad ρ h) : (par.map (·.1)).Nodup := by
  have nd := x.nd
  rw [List.map_append, List.nodup_append, List.map_append, List.nodup_append, List.map_append, List.nodup_append] at nd
  exact nd.2.1.1.2.1
theorem Par.cons {p : Addr × Obj} {par' : Led} (h : Par ps ad (p :: par) par') (hI : ∀ y ∈ ps, ad y ≠ p.1) (nd : (par'.map (·.1)).Nodup) (ndp : ((p :: par).map (·.1)).Nodup) : ∃ par'', par' = p :: par'' ∧ Par ps ad par par'' := by
  obtain ⟨h1, h2⟩ := h
  cases par' with
  | nil => cases h1
  | cons q par' =>
    rw [List.map_cons, List.map_cons, List.cons.injEq] at h1
    have hq : p ∈ q :: par' := h2 p (.head _) fun y hy e => hI y hy e.symm
    have e : q = p := by
      rcases List.mem_cons.mp hq with e | hq
      · exact e.symm
      · rw [List.map_cons, List.nodup_cons] at nd
        exact absurd (List.mem_map.mpr ⟨p, hq, h1.1.symm⟩) nd.1
    subst e
    refine ⟨par', rfl, h1.2, fun r hr hn => ?_⟩
    rcases List.mem_cons.mp (h2 r (.tail _ hr) hn) with e | e
    · subst e
      rw [List.map_cons, List.nodup_cons] at ndp
      exact absurd (List.mem_map.mpr ⟨_, hr, rfl⟩) ndp.1
    · exact e
end

/-- the turns of a for loop -/
inductive ForR (W : Wd) (lv : Nat) (sc : Scope) (ps : List Str) (t : Expr) (body : List Stmt) : List Dat → Names → Out → Prop
  | nil {ρ : Names} : ForR W lv sc ps t body [] ρ (.next ρ)
  | cons {d : Dat} {ds : List Dat} {ρ ρ' bs : Names} {out : Out} : bindT t d = some bs → EXS W lv sc ps (bs ++ ρ) body (.next ρ') → ForR W lv sc ps t body ds ρ' out → ForR W lv sc ps t body (d :: ds) ρ out
  | ret {d r : Dat} {ds : List Dat} {ρ ρ' bs : Names} : bindT t d = some bs → EXS W lv sc ps (bs ++ ρ) body (.ret r ρ') → ForR W lv sc ps t body (d :: ds) ρ (.ret r ρ')
  | esc {d r : Dat} {ds : List Dat} {ρ bs : Names} : bindT t d = some bs → EXS W lv sc ps (bs ++ ρ) body (.esc r) → ForR W lv sc ps t body (d :: ds) ρ (.esc r)
theorem bindT_allDat {t : Expr} {d : Dat} {bs : Names} (h : bindT t d = some bs) : allDat bs = true := by
  unfold bindT at h
  split at h
  · cases h; rfl
  · cases h; rfl
  · cases h
/-- the turns of a while loop -/
inductive WhileR (W : Wd) (lv : Nat) (sc : Scope) (ps : List Str) (test : Expr) (body : List Stmt) : Nat → Names → Names → Prop
  | done {ρ : Names} : ET W lv sc ρ test false → WhileR W lv sc ps test body 0 ρ ρ
  | turn {n : Nat} {ρ ρ' ρ'' : Names} : ET W lv sc ρ test true → EXS W lv sc ps ρ body (.next ρ') → WhileR W lv sc ps test body n ρ' ρ'' → WhileR W lv sc ps test body (n + 1) ρ ρ''
/-- what stands ahead of each turn -/
inductive ForI (W : Wd) (lv : Nat) (sc : Scope) (ps : List Str) (t : Expr) (body : List Stmt) (out : Out) (items : List Dat) (fz₁ : Led) (h₀ : Heap) (L I : Addr) (env : Env) (ad : Str → Addr) (par loc : Led) (St : Nat → Heap → Prop) (s : Shared) : Nat → Shared → Prop
  | mk {ds : List Dat} {ρ₁ : Names} {i : Nat} {m' : Str → Option Value} {loc' own' par' : Led} {oI : Obj} {fz' : Led} {ad' : Str → Addr} {h' : Heap} {tk' : Nat} (hr : ForR W lv sc ps t body ds ρ₁ out) (hd : items.drop i = ds) (hi : i ≤ items.length) (s' : Sub fz₁ fz')
      (x : FS W sc ps h₀ L m' loc' own' ((I, oI) :: par') fz' env ad' ρ₁ h') (p : Par ps ad par par') (a : ∀ y ∈ ps, ad' y = ad y) (l : LocT loc' loc) (st : St i h') (f : fieldsO oI) : ForI W lv sc ps t body out items fz₁ h₀ L I env ad par loc St s (ds.length + 1) { s with heap := h', toks := tk' }
inductive WhileI (W : Wd) (lv : Nat) (sc : Scope) (ps : List Str) (test : Expr) (body : List Stmt) (ρ' : Names) (fz : Led) (h₀ : Heap) (L : Addr) (env : Env) (ad : Str → Addr) (par loc : Led) (s : Shared) : Nat → Shared → Prop
  | mk {n : Nat} {ρ₁ : Names} {m' : Str → Option Value} {loc' own' par' fz' : Led} {ad' : Str → Addr} {h' : Heap} {tk' : Nat} (hr : WhileR W lv sc ps test body n ρ₁ ρ') (s' : Sub fz fz') (x : FS W sc ps h₀ L m' loc' own' par' fz' env ad' ρ₁ h')
      (p : Par ps ad par par') (a : ∀ y ∈ ps, ad' y = ad y) (l : LocT loc' loc) : WhileI W lv sc ps test body ρ' fz h₀ L env ad par loc s n { s with heap := h', toks := tk' }
section
variable {W : Wd} {lv : Nat} {sc : Scope} {ps : List Str} {ρ ρ' : Names}
theorem ex_for {t iter : Expr} {body : List Stmt} {pos : Pos} {items : List Dat} {out : Out} (hset : ∀ x env, foldedSetIterable iter env x = pure x) (hi : EI (fun _ => []) W lv sc ρ iter items) (ht : ∀ x ∈ tn t, slot sc x ∧ PlainName x) (hr : ForR W lv sc ps t body items ρ out) :
    EX1 W lv sc ps ρ (.For t iter body [] pos) out := by
  intro A h₀ L m loc own par fz env ad s Q E hA hE x c
  refine wpAny_For (hs := fun x => hset x env) (hi A h₀ env L m _ fz env s _ E hA hE x.ss x.full fun I St o fz₁ h₁ t₁ s₁ S₁ sr st => ?_)
  have x₁ := (x.grow s₁ (S₁.sublist (List.sublist_cons_self _ _))).withIt S₁
  have hI : ∀ y ∈ ps, ad y ≠ I := fun y hy e => by
    obtain ⟨o', ho'⟩ := x.pp y hy
    have nd := x₁.ndPar
    rw [List.map_cons, List.nodup_cons] at nd
    exact nd.1 (List.mem_map.mpr ⟨_, ho', e⟩)
  obtain ⟨o', ho', _, hfo⟩ := sr.obj _ _ st
  have eo : o' = o := by
    have := x₁.ss.ofMu (List.mem_append_right loc (List.mem_append_right own (.head par)))
    have this : h₁.get? I = some o := this
    rw [this] at ho'; exact (Option.some.inj ho').symm
  subst eo
  refine codeAny_forLoop_any (ForI W lv sc ps t body out items fz₁ h₀ L I env ad par loc St s) ?_ (items.length + 1)
    (.mk (m' := m) (own' := own) (tk' := t₁) hr rfl (Nat.zero_le _) (Sub.refl _) x₁ (Par.refl _ _ _) (fun _ _ => rfl) rfl st hfo)
  rintro _ _ ⟨hr', hdrop, hile, s', x', p', a', l', st', hf'⟩
  rename_i ds ρ₁ i m' loc' own' par' oI fz' ad' h' tk'
  have hI' : ∀ y ∈ ps, ad' y ≠ I := fun y hy => by rw [a' y hy]; exact hI y hy
  by_cases hlt : i < items.length
  · obtain ⟨d, hd⟩ : ∃ d, items[i]? = some d := ⟨items[i], List.getElem?_eq_getElem hlt⟩
    have hcons : ds = d :: items.drop (i + 1) := by
      rw [← hdrop, List.drop_eq_getElem_cons hlt]
      rw [List.getElem?_eq_getElem hlt] at hd
      cases hd; rfl
    refine sr.item i d _ _ _ hd st' fun v h₂ tk₂ rv st₂ hk₂ => ?_
    obtain ⟨o₂, ho₂, hq₂, hf₂⟩ := sr.obj _ _ st₂
    have x₂ := (x'.dropIt hI' hf' hk₂).withIt (I := I) (o := o₂) ((x'.ss.perm led_mid).setHead hk₂ ho₂)
    refine letOwned_ok ho₂ hq₂ ?_
    have frame : ∀ {m₃ loc₃ own₃ par₃ fz₃ ad₃ ρ₃ h₃}, Sub fz' fz₃ → FS W sc ps h₀ L m₃ loc₃ own₃ ((I, o₂) :: par₃) fz₃ env ad₃ ρ₃ h₃ → St (i + 1) h₃ := by
      intro m₃ loc₃ own₃ par₃ fz₃ ad₃ ρ₃ h₃ s₃ x₃
      refine sr.frame _ _ _ st₂ (fun o e => ?_) fun b ob hb => ?_
      · rw [ho₂] at e; cases e
        exact x₃.ss.ofMu (List.mem_append_right _ (List.mem_append_right _ (.head _)))
      · rcases hb with hb | hb
        · exact x₃.ss.has (Hs.sub (s'.trans s₃) _ _ hb)
        · cases hb
    have asg : ∀ bs, bindT t d = some bs → ∀ (Q' : Unit → Shared → Prop) (E' : Value → Shared → Prop),
        (∀ m₃ loc₃ h₃ tk₃, FS W sc ps h₀ L m₃ loc₃ own' ((I, o₂) :: par') fz' env ad' (bs ++ ρ₁) h₃ → LocT loc₃ loc' → Q' () { s with heap := h₃, toks := tk₃ }) → wpAny (model W.prog W.w) A (assign t env v) Q' E' { s with heap := h₂, toks := tk₂ } := by
      intro bs hb Q' E' k'
      exact assign_ok hA.hh hE x₂.ss (fun y hy => ⟨x₂.st y (ht y hy).1, (ht y hy).2⟩) (rv.mono (Hs.sub s')) hb fun m₃ loc₃ h₃ tk₃ S₃ mv => k' m₃ loc₃ h₃ tk₃ (x₂.moved S₃ mv (bindT_allDat hb)) rfl
    subst hcons
    cases hr' with
    | cons hb hx hrest =>
      refine asg _ hb _ _ fun m₃ loc₃ h₃ tk₃ x₃ l₃ => ?_
      refine hx A h₀ L m₃ loc₃ own' ((I, o₂) :: par') fz' env ad' _ _ _ hA hE x₃ fun fl m₄ loc₄ own₄ par₄ fz₄ ad₄ h₄ tk₄ s₄ x₄ f₄ p₄ a₄ l₄ => ?_
      cases f₄
      have x₄ : FS W sc ps h₀ L m₄ loc₄ own₄ par₄ fz₄ env ad₄ _ h₄ := x₄
      obtain ⟨par₅, e₅, p₅⟩ := p₄.cons (par := par') hI' x₄.ndPar x₃.ndPar
      subst e₅
      exact ⟨_, Nat.lt_succ_self _, .mk hrest rfl hlt (s'.trans s₄) x₄ (p'.trans p₅ a') (fun y hy => (a₄ y hy).trans (a' y hy)) (l₄.trans (l₃.trans l')) (frame s₄ x₄) hf₂⟩
    | ret hb hx =>
      refine asg _ hb _ _ fun m₃ loc₃ h₃ tk₃ x₃ l₃ => ?_
      refine hx A h₀ L m₃ loc₃ own' ((I, o₂) :: par') fz' env ad' _ _ _ hA hE x₃ fun fl m₄ loc₄ own₄ par₄ fz₄ ad₄ h₄ tk₄ s₄ x₄ f₄ p₄ a₄ l₄ => ?_
      obtain ⟨w, rfl, rw₄⟩ := f₄
      obtain ⟨sc₂, x₄⟩ := x₄
      obtain ⟨par₅, e₅, p₅⟩ := p₄.cons (par := par') hI' x₄.ndPar x₃.ndPar
      subst e₅
      exact c _ m₄ loc₄ own₄ par₅ fz₄ ad₄ h₄ tk₄ (s₁.trans (s'.trans s₄)) ⟨sc₂, x₄.dropIt (fun y hy => by rw [a₄ y hy]; exact hI' y hy) hf₂ fun b o _ e => e⟩ ⟨w, rfl, rw₄⟩ (p'.trans p₅ a') (fun y hy => (a₄ y hy).trans (a' y hy)) (l₄.trans (l₃.trans l'))
    | esc hb hx =>
      refine asg _ hb _ _ fun m₃ loc₃ h₃ tk₃ x₃ l₃ => ?_
      refine hx A h₀ L m₃ loc₃ own' ((I, o₂) :: par') fz' env ad' _ _ _ hA hE x₃ fun fl m₄ loc₄ own₄ par₄ fz₄ ad₄ h₄ tk₄ s₄ x₄ f₄ p₄ a₄ l₄ => ?_
      obtain ⟨w, rfl, rw₄⟩ := f₄
      obtain ⟨e1, ⟨gl, hg, l⟩, e3⟩ := x₄
      have nd₄ : (par₄.map (·.1)).Nodup := by
        have nd := l.nodup
        rw [List.map_append, List.nodup_append, List.map_append, List.nodup_append, List.map_append, List.nodup_append, List.map_append, List.nodup_append] at nd
        exact nd.2.1.1.2.1.2.1
      obtain ⟨par₅, e₅, p₅⟩ := p₄.cons (par := par') hI' nd₄ x₃.ndPar
      subst e₅
      refine c _ m₄ loc₄ own₄ par₅ fz₄ ad₄ h₄ tk₄ (s₁.trans (s'.trans s₄)) ⟨e1, ⟨gl, hg, l.sublist (List.Sublist.append_left (List.Sublist.append_right (List.Sublist.append_left (List.Sublist.append_left (List.sublist_cons_self _ _) _) _) _) _)⟩, e3⟩ ⟨w, rfl, rw₄⟩ (p'.trans p₅ a') (fun y hy => (a₄ y hy).trans (a' y hy)) (l₄.trans (l₃.trans l'))
  · have hin : i = items.length := by (clear hI' hf' st' l' a' p' x' s' hdrop hr' x₁ S₁ hfo ho' hI st sr s₁ c x hE hA hr ht hi hset; lia)
    subst hin
    rw [List.drop_length] at hdrop
    subst hdrop
    cases hr'
    refine sr.done _ _ _ st' fun h₂ tk₂ hk₂ => ?_
    exact wpAny_execs_nil (c _ m' loc' own' par' fz' ad' h₂ tk₂ (s₁.trans s') (x'.dropIt hI' hf' hk₂) rfl p' a' l')
theorem ex_while {test : Expr} {body : List Stmt} {pos : Pos} {n : Nat} (hr : WhileR W lv sc ps test body n ρ ρ') : EX1 W lv sc ps ρ (.While test body [] pos) (.next ρ') := by
  intro A h₀ L m loc own par fz env ad s Q E hA hE x c
  refine wpAny_While (codeAny_whileLoop (WhileI W lv sc ps test body ρ' fz h₀ L env ad par loc s) ?_ n (.mk (tk' := s.toks) hr (Sub.refl _) x (Par.refl _ _ _) (fun _ _ => rfl) rfl))
  rintro _ _ ⟨hr', s', x', p', a', l'⟩
  rename_i n ρ₁ m' loc' own' par' fz' ad' h' tk'
  cases hr' with
  | done ht =>
    refine ht A h₀ env L m' _ fz' env _ _ _ hA hE x'.ss x'.full fun fz₂ h₂ tk₂ s₂ S₂ => ?_
    exact wpAny_execs_nil (c _ m' loc' own' par' fz₂ ad' h₂ tk₂ (s'.trans s₂) (x'.grow s₂ S₂) rfl p' a' l')
  | @turn n _ ρ₂ _ ht hx hrest =>
    refine ht A h₀ env L m' _ fz' env _ _ _ hA hE x'.ss x'.full fun fz₂ h₂ tk₂ s₂ S₂ => ?_
    refine hx A h₀ L m' loc' own' par' fz₂ env ad' _ _ _ hA hE (x'.grow s₂ S₂) fun fl m₄ loc₄ own₄ par₄ fz₄ ad₄ h₄ tk₄ s₄ x₄ f₄ p₄ a₄ l₄ => ?_
    cases f₄
    exact ⟨n, Nat.lt_succ_self _, .mk hrest (s'.trans (s₂.trans s₄)) x₄ (p'.trans p₄ a') (fun y hy => (a₄ y hy).trans (a' y hy)) (l₄.trans l')⟩
end
end Mine
end
section
open PySem PySem.W PyProof.Rows
set_option linter.unusedVariables false
set_option maxRecDepth 100000
namespace Mine
open PySem.Calls PySem.Spec PySem.SeqAt

/-! entering and leaving a def -/
theorem Par.eq {ad : Str → Addr} {a b : Led} (h : Par [] ad a b) (nd : (b.map (·.1)).Nodup) : b = a := by
  induction a generalizing b with
  | nil =>
    have := h.1
    cases b with
    | nil => rfl
    | cons _ _ => cases this
  | cons p a ih =>
    have ndp : ((p :: a).map (·.1)).Nodup := by rw [← h.1]; exact nd
    obtain ⟨b', rfl, h'⟩ := h.cons (fun _ h => by cases h) nd ndp
    rw [List.map_cons, List.nodup_cons] at nd
    rw [ih h' nd.2]

theorem cellsFrom_addr : ∀ (names : List (Str × NameKind)) (n : Nat) (acc : List (Str × Addr)) (lo : Nat), lo ≤ n → (∀ p ∈ acc, lo ≤ p.2 ∧ p.2 < n) → (acc.map (·.2)).Nodup → (∀ p ∈ cellsFrom n names acc, lo ≤ p.2) ∧ ((cellsFrom n names acc).map (·.2)).Nodup
  | [], n, acc, lo, h0, h1, h2 => ⟨fun p hp => (h1 p hp).1, h2⟩
  | (x, kd) :: r, n, acc, lo, h0, h1, h2 => by
    unfold cellsFrom
    split
    · refine cellsFrom_addr r (n + 1) _ lo (Nat.le_succ_of_le h0) (fun p hp => ?_) ?_
      · rcases List.mem_cons.mp hp with rfl | hp
        · exact ⟨h0, Nat.lt_succ_self _⟩
        · exact ⟨(h1 p hp).1, Nat.lt_succ_of_lt (h1 p hp).2⟩
      · rw [List.map_cons, List.nodup_cons]
        refine ⟨fun hm => ?_, h2⟩
        obtain ⟨p, hp, e⟩ := List.mem_map.mp hm
        have := (h1 p hp).2
        have e : p.2 = n := e
        rw [e] at this; exact absurd this (Nat.lt_irrefl _)
    · exact cellsFrom_addr r n acc lo h0 h1 h2
theorem cellsAre_fst {cm : Str → Option Value} {cs : List (Str × Addr)} {cells : Led} (h : CellsAre cm cs cells) : cells.map (·.1) = cs.map (·.2) := by
  induction h with
  | nil => rfl
  | cons _ _ ih => rw [List.map_cons, List.map_cons, ih]
theorem cellsAre_at {cm : Str → Option Value} {cs : List (Str × Addr)} {cells : Led} (h : CellsAre cm cs cells) {x : Str} {c : Addr} (hx : cs.lookup x = some c) : ∃ o, (c, o) ∈ cells ∧ o.data = .cell (cm x) := by
  induction h with
  | nil => cases hx
  | @cons n c' o cs cells hd _ ih =>
    rw [List.lookup_cons] at hx
    cases e : x == n with
    | true =>
      rw [e] at hx; cases hx
      exact ⟨o, .head _, by rw [beq_iff_eq.mp e]; exact hd⟩
    | false =>
      rw [e] at hx
      obtain ⟨o', a, b⟩ := ih hx
      exact ⟨o', .tail _ a, b⟩
theorem bindL_keep {kindOf : Str → Option NameKind} {y : Str} : ∀ {binds : List (Str × Value)} {m : Str → Option Value}, y ∉ binds.map (·.1) → bindL kindOf binds m y = m y
  | [], m, _ => rfl
  | (n, v) :: r, m, h => by
    unfold bindL
    rw [List.map_cons, List.mem_cons] at h
    rw [bindL_keep fun q => h (.inr q)]
    split
    · exact if_neg fun q => h (.inl q)
    · rfl
theorem bindL_at {kindOf : Str → Option NameKind} {y : Str} {v : Value} (hk : kindOf y = some .local) : ∀ {binds : List (Str × Value)} {m : Str → Option Value}, (binds.map (·.1)).Nodup → binds.lookup y = some v → bindL kindOf binds m y = some v
  | (n, w) :: r, m, nd, h => by
    rw [List.map_cons, List.nodup_cons] at nd
    rw [List.lookup_cons] at h
    unfold bindL
    cases e : y == n with
    | true =>
      rw [e] at h; cases h
      have e := beq_iff_eq.mp e
      subst e
      rw [bindL_keep nd.1, if_pos hk, if_pos rfl]
    | false => rw [e] at h; exact bindL_at hk nd.2 h
theorem bindC_keep {kindOf : Str → Option NameKind} {y : Str} : ∀ {binds : List (Str × Value)} {m : Str → Option Value}, y ∉ binds.map (·.1) → bindC kindOf binds m y = m y
  | [], m, _ => rfl
  | (n, v) :: r, m, h => by
    unfold bindC
    rw [List.map_cons, List.mem_cons] at h
    rw [bindC_keep fun q => h (.inr q)]
    split
    · rfl
    · exact if_neg fun q => h (.inl q)
theorem bindC_at {kindOf : Str → Option NameKind} {y : Str} {v : Value} (hk : kindOf y ≠ some .local) : ∀ {binds : List (Str × Value)} {m : Str → Option Value}, (binds.map (·.1)).Nodup → binds.lookup y = some v → bindC kindOf binds m y = some v
  | (n, w) :: r, m, nd, h => by
    rw [List.map_cons, List.nodup_cons] at nd
    rw [List.lookup_cons] at h
    unfold bindC
    cases e : y == n with
    | true =>
      rw [e] at h; cases h
      have e := beq_iff_eq.mp e
      subst e
      rw [bindC_keep nd.1, if_neg hk, if_pos rfl]
    | false => rw [e] at h; exact bindC_at hk nd.2 h
theorem revLookup {y : Str} {v : Value} {binds : List (Str × Value)} (nd : (binds.map (·.1)).Nodup) (h : binds.lookup y = some v) : binds.reverse.lookup y = some v := by
  induction binds with
  | nil => cases h
  | cons p r ih =>
    obtain ⟨n, w⟩ := p
    rw [List.map_cons, List.nodup_cons] at nd
    rw [List.lookup_cons] at h
    have la : ∀ (a b : List (Str × Value)), (a ++ b).lookup y = (a.lookup y <|> b.lookup y) := fun a b => by
      induction a with
      | nil => simp
      | cons q a ih =>
        obtain ⟨k, u⟩ := q
        rw [List.cons_append, List.lookup_cons, List.lookup_cons]
        cases y == k with
        | true => simp
        | false => exact ih
    rw [List.reverse_cons, la]
    cases e : y == n with
    | true =>
      rw [e] at h; cases h
      have hn : r.reverse.lookup y = none := by
        cases q : r.reverse.lookup y with
        | none => rfl
        | some u =>
          have := PySem.mem_of_lookup q
          rw [beq_iff_eq.mp e] at this
          exact absurd (List.mem_map.mpr ⟨_, List.mem_reverse.mp this, rfl⟩) nd.1
      rw [hn]; simp [List.lookup_cons, e]
    | false =>
      rw [e] at h
      rw [ih nd.2 h]; simp

/-- the parameters' names -/
noncomputable def BindR (W : Wd) (X : Fact) (mu : Led) (ps : List Str) (ad : Str → Addr) (binds : List (Str × Value)) (ρ : Names) : Prop :=
  ∀ x pv, ρ.lookup x = some pv → PlainName x ∧ ∃ v, binds.lookup x = some v ∧ PRep W X mu v pv ∧ ∀ ds, pv = .lst ds → x ∈ ps ∧ v = .ref (ad x) ∧ ListAt mu X (ad x) ds
noncomputable def scC (scope : Scope) : Bool := scope.kind == .function && scope.names.all fun p => scope.names.lookup p.1 == some p.2 && (p.2 == .local || p.2 == .cell || p.2 == .globalImplicit)

section
variable {W : Wd} {lv : Nat} {scope sc : Scope} {ps : List Str} {ρ : Names} {out : Out} {A : Around} {h₀ : Heap} {fenv : Env} {L : Addr} {m : Str → Option Value} {mu fz : Led} {s : Shared} {E : Value → Shared → Prop}
  {name qual : Str} {params : Arguments} {body : List Stmt} {dV kV doc pm cdv ct : Value} {an : Option Addr} {fo : Obj} {f : Addr} {vs : List Value} {kvs : List (Str × Value)} {binds : List (Str × Value)} {ad : Str → Addr}
/-- the answer of a call -/
noncomputable def RetR (out : Out) (X : Fact) (v : Value) : Prop :=
  match out with
  | .next _ => v = .none
  | .ret d _ => Rep X v d
  | .esc d => Rep X v d
theorem SS.leave {g : Heap} {L' : Addr} {m' : Str → Option Value} {loc own par : Led} {fz' : Led} {s' : Shared} (st : h₀.StaysIn g) (bs : ∀ b o, W.base.get? b = some o → h₀.get? b = some o) (x : SS W g L' m' (loc ++ (own ++ par)) fz' s'.heap)
    {R : Result → Shared → Prop} {v : Value} (k : SS W h₀ L m par fz' s'.heap → R (.ok (.ret v)) s') : LeaveK h₀ L m g R v s' := by
  obtain ⟨F, ⟨gl, g', l⟩, _⟩ := x
  have l' : Ld g L' s'.heap (gl ++ (par ++ fz')) := l.sublist (by
    refine List.Sublist.append_left ?_ gl
    rw [List.append_assoc, List.append_assoc]
    exact (List.sublist_append_right own _).trans (List.sublist_append_right loc _))
  exact ⟨L', m', gl ++ (par ++ fz'), F, l'.news, fun F' N' => k ⟨F', ⟨gl, g', N', l'.nodup⟩, bs⟩⟩
theorem call_C (hA : AOk W (lv + 1) A h₀ fenv L) (S : SS W h₀ L m mu fz s.heap) (hf : Hs W.base fz f fo) (hd : fo.data = .func (fnX name qual params body scope [] dV kV doc pm an cdv ct))
    (hcd : ∀ h : Heap, (∀ a o, Hs W.base fz a o → h.get? a = some o) → h.CodeRec cdv qual) (hbind : BindsTo s (fnX name qual params body scope [] dV kV doc pm an cdv ct) ⟨vs, kvs⟩ binds)
    (hsc : scC scope = true) (hin : (binds.all fun y => scope.names.lookup y.1 == some .local || scope.names.lookup y.1 == some .cell) = true) (hnd : ((cellsFrom 0 scope.names []).map (·.1)).Nodup) (hbn : (binds.map (·.1)).Nodup)
    (hB : BindR W (Hs W.base fz) mu ps ad binds ρ) (hpp : ∀ x ∈ ps, ∃ o, (ad x, o) ∈ mu) (hij : ∀ x ∈ ps, ∀ y ∈ ps, ad x = ad y → x = y) (hns : sc.names = scope.names) (hcc : ∀ c, sc.more.lookup ("@code" : Str) = some (.int c) → cdv = .ref c.toNat) (hqq : ∀ q, sc.more.lookup ("@qual" : Str) = some (.str q) → qual ++ ".<locals>." = q) (hb : EXS W lv sc ps ρ body out) (Q : Value → Shared → Prop)
    (k : ∀ v fz' mu' (ad' : Str → Addr) h' tk', Sub fz fz' → SS W h₀ L m mu' fz' h' → RetR out (Hs W.base fz') v → Par ps ad mu mu' → (∀ x ∈ ps, ad' x = ad x) → (∀ x ∈ ps, ∀ ds, out.names.lookup x = some (.lst ds) → ListAt mu' (Hs W.base fz') (ad x) ds) → Q v { s with heap := h', toks := tk' })
    (hco : scope.isCoroutine = false := by rfl) (hgen : scope.isGenerator = false := by rfl) (hpl : out.plain = true := by rfl) :
    wpAny (model W.prog W.w) A (call (.ref f) vs kvs) Q E s := by
  obtain ⟨outer, A₀, hfr, B⟩ := hA.fr
  have S0 := S
  obtain ⟨F, ⟨gl, hg, l⟩, bs⟩ := S
  simp only [scC, Bool.and_eq_true, beq_iff_eq, List.all_eq_true, Bool.or_eq_true] at hsc
  obtain ⟨hkind, hall⟩ := hsc
  refine wpAny_call (callX_cells B F l.news hA.T.nolimit hfr hA.hf hA.hk (S0.has hf) hd (hcd _ fun a o e => S0.has e) (by have := hA.dp; (clear hall hkind l hg bs F S0 B hfr hpl hgen hco k hb hqq hcc hns hij hpp hB hbn hnd hin hbind hcd hd hf hA; lia)) hbind (kindsX hin) hnd (fun g L' h₁ tk₁ cells FG F' N' CA B' st hlt => ?_) hco hgen hkind)
  have A' : AOk W lv (A.deeper (envOfC qual scope L' f cdv)) g (envOfC qual scope L' f cdv) L' := by
    refine ⟨hA.hh, ⟨fenv :: outer, A, ?_, B'⟩, rfl, hkind, ?_, ?_, hA.K.keeps st, hA.T.keeps st⟩
    · show A.frames.map _ = _
      rw [hfr]; rfl
    · have := hA.dp; show A.depth + 1 + lv < _; (clear hlt st B' CA N' F' FG hall hkind l hg bs F S0 B hfr hpl hgen hco k hb hqq hcc hns hij hpp hB hbn hnd hin hbind hcd hd hf hA; lia)
    · have := hA.un; show A.units + 3 + (16 * lv + 64) < _; (clear hlt st B' CA N' F' FG hall hkind l hg bs F S0 B hfr hpl hgen hco k hb hqq hcc hns hij hpp hB hbn hnd hin hbind hcd hd hf hA; lia)
  obtain ⟨ca1, ca2⟩ := cellsFrom_addr scope.names (L' + 1) [] (L' + 1) (Nat.le_refl _) (fun _ h => by cases h) List.nodup_nil
  have cfst := cellsAre_fst CA
  have clt : ∀ p ∈ cells, L' + 1 ≤ p.1 := fun p hp => by
    have : p.1 ∈ cells.map (·.1) := List.mem_map.mpr ⟨p, hp, rfl⟩
    rw [cfst] at this
    obtain ⟨q, hq, e⟩ := List.mem_map.mp this
    rw [← e]; exact ca1 q hq
  have S' : SS W g L' (bindL (envOfC qual scope L' f cdv).kindOf binds fun _ => none) (cells ++ ([] ++ mu)) fz h₁ := by
    refine ⟨F', ⟨gl, hg, ?_⟩, fun b o e => st b o (bs b o e)⟩
    have l1 : Ld g L' h₁ (cells ++ (gl ++ (mu ++ fz))) := by
      refine ⟨N', ?_⟩
      rw [List.map_append, List.nodup_append]
      refine ⟨by rw [cfst]; exact ca2, l.nodup, fun a ha b hb e => ?_⟩
      obtain ⟨p, hp, rfl⟩ := List.mem_map.mp ha
      obtain ⟨q, hq, rfl⟩ := List.mem_map.mp hb
      have h1 := clt p hp
      have h2 := hlt q hq
      rw [e] at h1
      exact absurd (Nat.lt_trans h2 (Nat.lt_succ_self _)) (Nat.not_lt.mpr h1)
    refine l1.perm ?_
    rw [List.nil_append, List.append_assoc, ← List.append_assoc, ← List.append_assoc gl]
    exact List.Perm.append_right _ List.perm_append_comm
  have hkn : ∀ y, (envOfC qual scope L' f cdv).kindOf y = scope.names.lookup y := fun y => rfl
  have cellAt : ∀ x, scope.names.lookup x = some .cell → ∃ c o, (cellsFrom (L' + 1) scope.names []).lookup x = some c ∧ (c, o) ∈ cells ∧ o.data = .cell (bindC (envOfC qual scope L' f cdv).kindOf binds (fun _ => none) x) := by
    intro x hx
    obtain ⟨c, hc⟩ := Option.isSome_iff_exists.mp (cellsFrom_some (x := x) scope.names (L' + 1) [] (.inl hx))
    obtain ⟨o, a, b⟩ := cellsAre_at CA hc
    exact ⟨c, o, hc, a, b⟩
  have loads : ∀ x v, binds.lookup x = some v → Loads (envOfC qual scope L' f cdv) L' (bindL (envOfC qual scope L' f cdv).kindOf binds fun _ => none) (cells ++ (([] ++ mu) ++ fz)) x v := by
    intro x v hx
    have hm := List.all_eq_true.mp hin (x, v) (PySem.mem_of_lookup hx)
    simp only [Bool.or_eq_true, beq_iff_eq] at hm
    rcases hm with hm | hm
    · exact .here rfl hm (bindL_at hm hbn hx)
    · obtain ⟨c, o, a, b, d⟩ := cellAt x hm
      rw [bindC_at (by rw [hkn, hm]; decide) hbn hx] at d
      exact .cell (.inl hm) a (List.mem_append_left _ b) d
  have E' : EnvOk (envOfC qual scope L' f cdv) sc := by
    refine ⟨hkind, rfl, rfl, fun n hn => by rw [hns] at hn; exact hn, fun n kd hn hk => ?_, fun x y c hx hy => ?_, fun c hc => hcc c hc, fun q hq => hqq q hq, fun n hn => by rw [hns] at hn; exact hn⟩
    · rw [hns] at hn
      have h1 := hall _ (PySem.mem_of_lookup hn)
      rcases hk with rfl | rfl
      · obtain ⟨c, o, a, _⟩ := cellAt n hn
        exact ⟨.inl hn, by show (List.lookup n (cellsFrom _ _ _)).isSome = true; rw [a]; rfl⟩
      · obtain ⟨_, h1⟩ := h1
        rcases h1 with (h1 | h1) | h1 <;> cases h1
    · exact cellsFrom_inj scope.names (L' + 1) [] (fun _ _ h => by cases h) (fun _ _ _ h => by cases h) x y c hx hy
  have fs : FS W sc ps g L' (bindL (envOfC qual scope L' f cdv).kindOf binds fun _ => none) cells [] mu fz (envOfC qual scope L' f cdv) ad ρ h₁ := by
    refine ⟨S', fun x pv hx => ?_, fun x ds hx => ?_, fun x y ds es hx hy e => ?_, fun x hx => ?_, hpp⟩
    · obtain ⟨hp, v, hv, r, _⟩ := hB x pv hx
      exact ⟨hp, v, loads x v hv, r.mono (FSub.refl _) (by rw [List.nil_append]; exact Sub.refl _)⟩
    · obtain ⟨hp, v, hv, r, hl⟩ := hB x _ hx
      obtain ⟨h1, rfl, h3⟩ := hl ds rfl
      rw [if_pos h1]
      exact ⟨loads x _ hv, h3⟩
    · obtain ⟨_, _, _, _, h1⟩ := hB x _ hx
      obtain ⟨_, _, _, _, h2⟩ := hB y _ hy
      exact hij x (h1 _ rfl).1 y (h2 _ rfl).1 e
    · rw [hns] at hx
      rcases hx with hx | hx
      · exact .inl ⟨hx, .inl rfl⟩
      · obtain ⟨c, o, a, b, d⟩ := cellAt x hx
        exact .inr ⟨hx, c, o, _, a, b, d⟩
  refine hb _ g L' _ cells [] mu fz _ ad _ _ _ A' E' fs fun fl m'' loc'' own'' par'' fz'' ad'' h'' tk'' s'' x'' f'' p'' a'' l'' => ?_
  cases out with
  | esc _ => cases hpl
  | next ρ' =>
    cases f''
    have x'' : FS W sc ps g L' m'' loc'' own'' par'' fz'' _ ad'' ρ' h'' := x''
    refine SS.leave st bs x''.ss fun S₂ => k _ fz'' par'' ad'' h'' tk'' s'' S₂ rfl p'' a'' fun x hx ds hl => ?_
    have := (x''.ls x ds hl).2
    rw [if_pos hx, a'' x hx] at this
    exact this
  | ret d ρ' =>
    obtain ⟨v, rfl, rv⟩ := f''
    obtain ⟨sc₂, x''⟩ := x''
    refine SS.leave st bs x''.ss fun S₂ => k _ fz'' par'' ad'' h'' tk'' s'' S₂ rv p'' a'' fun x hx ds hl => ?_
    have := (x''.ls x ds hl).2
    rw [if_pos hx, a'' x hx] at this
    exact this
end
end Mine
end
section
open PySem PySem.W PyProof.Rows
set_option linter.unusedVariables false
set_option maxRecDepth 100000
namespace Mine
open PySem.Calls PySem.Spec PySem.SeqAt

/-- statements that give d back -/
noncomputable def EXR (W : Wd) (lv : Nat) (sc : Scope) (ρ : Names) (l : List Stmt) (d : Dat) : Prop := ∃ ρ', EXS W lv sc [] ρ l (.ret d ρ')
theorem exr_seq {W : Wd} {lv : Nat} {sc : Scope} {ρ ρ' : Names} {st : Stmt} {rest : List Stmt} {d : Dat} (h : EX1 W lv sc [] ρ st (.next ρ')) (k : EXR W lv sc ρ' rest d) : EXR W lv sc ρ (st :: rest) d :=
  let ⟨r, k⟩ := k; ⟨r, ex_seq h k⟩
theorem exr_ret {W : Wd} {lv : Nat} {sc : Scope} {ρ : Names} {e : Expr} {pos : Pos} {rest : List Stmt} {d : Dat} (h : EV W lv sc ρ e (.dat d)) : EXR W lv sc ρ (.Return (some e) pos :: rest) d := ⟨ρ, ex_ret (ex_return h)⟩
theorem exr_of {W : Wd} {lv : Nat} {sc : Scope} {ρ ρ' : Names} {st : Stmt} {rest : List Stmt} {d : Dat} (h : EX1 W lv sc [] ρ st (.ret d ρ')) : EXR W lv sc ρ (st :: rest) d := ⟨ρ', ex_ret h⟩
/-- an if whose branch goes on -/
theorem exr_if {W : Wd} {lv : Nat} {sc : Scope} {ρ : Names} {t : Expr} {body orelse rest : List Stmt} {pos : Pos} {d : Dat} {b : Bool} (h : ET W lv sc ρ t b) (h1 : b = true → EXR W lv sc ρ body d) (h2 : b = false → orelse = [] ∧ EXR W lv sc ρ rest d) : EXR W lv sc ρ (.If t body orelse pos :: rest) d := by
  cases b with
  | true =>
    obtain ⟨r, k⟩ := h1 rfl
    exact ⟨r, ex_ret (ex_if h (fun _ => k) (fun q => by cases q))⟩
  | false =>
    obtain ⟨e, r, k⟩ := h2 rfl
    subst e
    exact ⟨r, ex_seq (ex_if h (fun q => by cases q) (fun _ => ex_nil)) k⟩
theorem exr_ifelse {W : Wd} {lv : Nat} {sc : Scope} {ρ : Names} {t : Expr} {body orelse rest : List Stmt} {pos : Pos} {d : Dat} {b : Bool} (h : ET W lv sc ρ t b) (h1 : b = true → EXR W lv sc ρ body d) (h2 : b = false → EXR W lv sc ρ orelse d) : EXR W lv sc ρ (.If t body orelse pos :: rest) d := by
  cases b with
  | true => obtain ⟨r, k⟩ := h1 rfl; exact ⟨r, ex_ret (ex_if h (fun _ => k) (fun q => by cases q))⟩
  | false => obtain ⟨r, k⟩ := h2 rfl; exact ⟨r, ex_ret (ex_if h (fun q => by cases q) (fun _ => k))⟩
section
variable {W : Wd} {lv : Nat} {scope sc : Scope} {ps : List Str} {ρ : Names} {out : Out} {A : Around} {h₀ : Heap} {fenv : Env} {L : Addr} {m : Str → Option Value} {mu fz : Led} {s : Shared} {E : Value → Shared → Prop}
  {name qual : Str} {params : Arguments} {body : List Stmt} {dV kV doc pm cdv ct oc : Value} {an od : Option Addr} {osl : Array (Option Value)} {f : Addr} {vs : List Value} {kvs : List (Str × Value)} {binds : List (Str × Value)} {ad : Str → Addr}
theorem call_K (hK : W.K.lookup f = some ⟨oc, od, .func (fnX name qual params body scope [] dV kV doc pm an cdv ct), osl⟩) (hcode : codeIn W.K cdv qual = true)
    (hsc : scC scope = true) (hnd : ((cellsFrom 0 scope.names []).map (·.1)).Nodup)
    (hA : AOk W (lv + 1) A h₀ fenv L) (S : SS W h₀ L m mu fz s.heap) (hbind : BindsTo s (fnX name qual params body scope [] dV kV doc pm an cdv ct) ⟨vs, kvs⟩ binds)
    (hin : (binds.all fun y => scope.names.lookup y.1 == some .local || scope.names.lookup y.1 == some .cell) = true) {nsb : List Str} (hbn : binds.map (·.1) = nsb) (hnb : nsb.Nodup)
    (hB : BindR W (Hs W.base fz) mu ps ad binds ρ) (hpp : ∀ x ∈ ps, ∃ o, (ad x, o) ∈ mu) (hij : ∀ x ∈ ps, ∀ y ∈ ps, ad x = ad y → x = y) (hns : sc.names = scope.names) (hcc : ∀ c, sc.more.lookup ("@code" : Str) = some (.int c) → cdv = .ref c.toNat) (hqq : ∀ q, sc.more.lookup ("@qual" : Str) = some (.str q) → qual ++ ".<locals>." = q) (hb : EXS W lv sc ps ρ body out) (Q : Value → Shared → Prop)
    (k : ∀ v fz' mu' (ad' : Str → Addr) h' tk', Sub fz fz' → SS W h₀ L m mu' fz' h' → RetR out (Hs W.base fz') v → Par ps ad mu mu' → (∀ x ∈ ps, ad' x = ad x) → (∀ x ∈ ps, ∀ ds, out.names.lookup x = some (.lst ds) → ListAt mu' (Hs W.base fz') (ad x) ds) → Q v { s with heap := h', toks := tk' })
    (hco : scope.isCoroutine = false := by rfl) (hgen : scope.isGenerator = false := by rfl) (hpl : out.plain = true := by rfl) :
    wpAny (model W.prog W.w) A (call (.ref f) vs kvs) Q E s :=
  call_C hA S (.inl (W.kb _ _ hK)) rfl (fun h hh => codeRec_of (fun a o e => hh a o (.inl (W.kb a o e))) hcode) hbind hsc hin hnd (hbn ▸ hnb) hB hpp hij hns hcc hqq hb Q k hco hgen hpl
/-- of a def that turns nothing -/
theorem call_K0 (hK : W.K.lookup f = some ⟨oc, od, .func (fnX name qual params body scope [] dV kV doc pm an cdv ct), osl⟩) (hcode : codeIn W.K cdv qual = true)
    (hsc : scC scope = true) (hnd : ((cellsFrom 0 scope.names []).map (·.1)).Nodup) {d : Dat}
    (hA : AOk W (lv + 1) A h₀ fenv L) (S : SS W h₀ L m mu fz s.heap) (hbind : BindsTo s (fnX name qual params body scope [] dV kV doc pm an cdv ct) ⟨vs, kvs⟩ binds)
    (hin : (binds.all fun y => scope.names.lookup y.1 == some .local || scope.names.lookup y.1 == some .cell) = true) {nsb : List Str} (hbn : binds.map (·.1) = nsb) (hnb : nsb.Nodup)
    (hB : BindR W (Hs W.base fz) mu [] (fun _ => 0) binds ρ) (hns : sc.names = scope.names) (hcc : ∀ c, sc.more.lookup ("@code" : Str) = some (.int c) → cdv = .ref c.toNat) (hqq : ∀ q, sc.more.lookup ("@qual" : Str) = some (.str q) → qual ++ ".<locals>." = q) (hb : EXR W lv sc ρ body d) (Q : Value → Shared → Prop)
    (k : Cont W h₀ L m mu fz s (fun X v => Rep X v d) Q)
    (hco : scope.isCoroutine = false := by rfl) (hgen : scope.isGenerator = false := by rfl) :
    wpAny (model W.prog W.w) A (call (.ref f) vs kvs) Q E s := by
  obtain ⟨ρ', hb⟩ := hb
  refine call_K hK hcode hsc hnd hA S hbind hin hbn hnb hB (fun _ h => by cases h) (fun _ h => by cases h) hns hcc hqq hb Q (fun v fz' mu' ad' h' tk' s' S' r p _ _ => ?_) hco hgen
  have e := p.eq (by
    obtain ⟨_, ⟨gl, _, l⟩, _⟩ := S'
    have nd := l.nodup
    rw [List.map_append, List.nodup_append, List.map_append, List.nodup_append] at nd
    exact nd.2.1.1)
  subst e
  exact k v fz' h' tk' s' S' r
end
/-- names kept -/
noncomputable def SubN (ρ : Names) : Names → Prop
  | [] => True
  | (x, pv) :: r => ρ.lookup x = some pv ∧ SubN ρ r
theorem SubN.look {ρ : Names} : ∀ {ρ' : Names}, SubN ρ ρ' → ∀ x pv, ρ'.lookup x = some pv → ρ.lookup x = some pv
  | (y, q) :: r, h, x, pv, hx => by
    rw [List.lookup_cons] at hx
    cases e : x == y with
    | true => rw [e] at hx; cases hx; rw [beq_iff_eq.mp e]; exact h.1
    | false => rw [e] at hx; exact SubN.look h.2 x pv hx
theorem EX.to {W : Wd} {lv : Nat} {sc : Scope} {ps : List Str} {ρ ρ' ρ'' : Names} {t : Env → Sem Flow} (h : EX W lv sc ps ρ t (.next ρ')) (k : SubN ρ' ρ'') : EX W lv sc ps ρ t (.next ρ'') := h.forget k.look
theorem EX.from {W : Wd} {lv : Nat} {sc : Scope} {ps : List Str} {ρ ρ' : Names} {t : Env → Sem Flow} {out : Out} (h : EX W lv sc ps ρ' t out) (k : SubN ρ ρ') : EX W lv sc ps ρ t out := h.sub k.look
theorem ex_while_ex {W : Wd} {lv : Nat} {sc : Scope} {ps : List Str} {ρ ρ' : Names} {test : Expr} {body : List Stmt} {pos : Pos} (h : ∃ n, WhileR W lv sc ps test body n ρ ρ') : EX1 W lv sc ps ρ (.While test body [] pos) (.next ρ') := let ⟨_, h⟩ := h; ex_while h
theorem BindR.nil {W : Wd} {X : Fact} {mu : Led} {ps : List Str} {ad : Str → Addr} {binds : List (Str × Value)} : BindR W X mu ps ad binds [] := fun _ _ h => by cases h
theorem BindR.cons {W : Wd} {X : Fact} {mu : Led} {ps : List Str} {ad : Str → Addr} {binds : List (Str × Value)} {ρ : Names} {x : Str} {pv : PV} {v : Value} (hp : PlainName x) (hv : binds.lookup x = some v) (r : PRep W X mu v pv)
    (hl : ∀ ds, pv = .lst ds → x ∈ ps ∧ v = .ref (ad x) ∧ ListAt mu X (ad x) ds) (h : BindR W X mu ps ad binds ρ) : BindR W X mu ps ad binds ((x, pv) :: ρ) := by
  intro y q hy
  rw [List.lookup_cons] at hy
  cases e : y == x with
  | true =>
    rw [e] at hy; cases hy
    rw [beq_iff_eq.mp e]
    exact ⟨hp, v, hv, r, hl⟩
  | false => rw [e] at hy; exact h y q hy
theorem BindR.dat {W : Wd} {X : Fact} {mu : Led} {ps : List Str} {ad : Str → Addr} {binds : List (Str × Value)} {ρ : Names} {x : Str} {d : Dat} {v : Value} (hp : PlainName x) (hv : binds.lookup x = some v) (r : Rep X v d)
    (h : BindR W X mu ps ad binds ρ) : BindR W X mu ps ad binds ((x, .dat d) :: ρ) := .cons hp hv r (fun _ h => by cases h) h
theorem EV.cast {W : Wd} {lv : Nat} {sc : Scope} {ρ : Names} {e : Expr} {pv pv' : PV} (h : EV W lv sc ρ e pv) (q : pv = pv') : EV W lv sc ρ e pv' := q ▸ h
theorem OpOk.cast {W : Wd} {lv : Nat} {ins : List Dat} {t : List Value → Sem Value} {d d' : Dat} (h : OpOk W lv ins t d) (q : d = d') : OpOk W lv ins t d' := q ▸ h
theorem ET.cast {W : Wd} {lv : Nat} {sc : Scope} {ρ : Names} {e : Expr} {b b' : Bool} (h : ET W lv sc ρ e b) (q : b = b') : ET W lv sc ρ e b' := q ▸ h
theorem EVs.one {W : Wd} {lv : Nat} {sc : Scope} {ρ : Names} {e : Expr} {p : PV} (h : EV W lv sc ρ e p) (hn : nStar e = true := by rfl) : EVs W lv sc ρ [e] [p] := .cons hn h .nil
theorem EVs.two {W : Wd} {lv : Nat} {sc : Scope} {ρ : Names} {e f : Expr} {p q : PV} (h : EV W lv sc ρ e p) (k : EV W lv sc ρ f q) (hn : nStar e = true := by rfl) (hm : nStar f = true := by rfl) : EVs W lv sc ρ [e, f] [p, q] := .cons hn h (.cons hm k .nil)
end Mine
end
section
open PySem PySem.W PyProof.Rows
set_option linter.unusedVariables false
set_option maxRecDepth 100000
namespace Mine
open PySem.Calls PySem.Spec PySem.SeqAt

section
variable {W : Wd} {sc : Scope} {ps : List Str} {h₀ h h' : Heap} {L : Addr} {m : Str → Option Value} {loc own par fz fz' : Led} {env : Env} {ad : Str → Addr} {ρ ρ' : Names}
theorem led_own {loc own par : Led} {p : Addr × Obj} : (loc ++ (p :: own ++ par)).Perm (p :: (loc ++ (own ++ par))) := by
  have := List.perm_middle (a := p) (l₁ := loc) (l₂ := own ++ par)
  simpa using this
/-- a new thing of one's own -/
theorem FS.withOwn {I : Addr} {o : Obj} (x : FS W sc ps h₀ L m loc own par fz env ad ρ h) (S : SS W h₀ L m ((I, o) :: (loc ++ (own ++ par))) fz h') : FS W sc ps h₀ L m loc ((I, o) :: own) par fz env ad ρ h' := by
  have N : Sub (loc ++ ((own ++ par) ++ fz)) (loc ++ (((I, o) :: own ++ par) ++ fz)) := fun p hp => by
    rcases List.mem_append.mp hp with h | h
    · exact List.mem_append_left _ h
    · refine List.mem_append_right _ ?_
      rcases List.mem_append.mp h with h | h
      · exact List.mem_append_left _ (.tail _ h)
      · exact List.mem_append_right _ h
  refine ⟨S.perm led_own.symm, x.nm.sup (FSub.refl _) (fun p hp => .tail _ hp) N, fun y ds hy => ?_, x.ij, x.st, x.pp⟩
  obtain ⟨a, b⟩ := x.ls y ds hy
  refine ⟨a.mono N, ?_⟩
  split at b
  · rename_i e; rw [if_pos e]; exact b
  · rename_i e; rw [if_neg e]; exact b.mono (FSub.refl _) fun p hp => .tail _ hp
theorem look_cons {y : Str} {q₀ : PV} {z : Str} {q : PV} (hz : ((y, q₀) :: ρ).lookup z = some q) : (z = y ∧ q = q₀) ∨ (z ≠ y ∧ ρ.lookup z = some q) := by
  rw [List.lookup_cons] at hz
  cases e : z == y with
  | true => rw [e] at hz; cases hz; exact .inl ⟨beq_iff_eq.mp e, rfl⟩
  | false =>
    rw [e] at hz
    exact .inr ⟨fun q => (by rw [q, beq_self_eq_true] at e; cases e), hz⟩
theorem FS.adNe {I : Addr} {o : Obj} (x : FS W sc ps h₀ L m loc own par fz env ad ρ h) (S : SS W h₀ L m ((I, o) :: (loc ++ (own ++ par))) fz' h') {y : Str} {ds : List Dat} (hy : ρ.lookup y = some (.lst ds)) : ad y ≠ I := by
  intro e
  obtain ⟨vs, n, a, _⟩ := x.listAt hy
  have nd := S.nodupMu
  rw [List.map_cons, List.nodup_cons] at nd
  exact nd.1 (List.mem_map.mpr ⟨_, List.mem_append_right loc a, e⟩)
/-- a name is bound to a list of one's own -/
theorem FS.bindLst {m' : Str → Option Value} {loc' : Led} {x : Str} {l : Addr} {vs : List Value} {n : Nat} {ds : List Dat} (F : FS W sc ps h₀ L m loc own par fz env ad ρ h) (S : SS W h₀ L m' (loc' ++ (own ++ par)) fz h')
    (st : Stored env L m loc m' loc' x (.ref l)) (hp : PlainName x) (hps : x ∉ ps) (hm : (l, listOf vs.toArray n) ∈ own) (hr : RepA (Hs W.base fz) vs ds) (hne : ∀ y es, ρ.lookup y = some (.lst es) → y ≠ x → ad y ≠ l) :
    FS W sc ps h₀ L m' loc' own par fz env (fun y => if y = x then l else ad y) ((x, .lst ds) :: ρ) h' := by
  have inj := fun a o o' => nd_inj F.nd (a := a) (o := o) (o' := o')
  have self : ListAt own (Hs W.base fz) l ds := ⟨vs, n, hm, hr⟩
  refine ⟨S, fun y q hy => ?_, fun y es hy => ?_, fun y z es fs hy hz e => ?_, fun y hy => st.sto y (F.st y hy), fun y hy => ?_⟩
  · rcases look_cons hy with ⟨rfl, rfl⟩ | ⟨hn, hy⟩
    · exact ⟨hp, _, st.new _, (self.mono (FSub.refl _) fun p hp => List.mem_append_left _ hp).prep⟩
    · obtain ⟨a, v, b, c⟩ := F.nm y q hy
      exact ⟨a, v, st.old _ _ _ hn inj b, c⟩
  · rcases look_cons hy with ⟨rfl, e⟩ | ⟨hn, hy⟩
    · cases e
      rw [if_neg hps, if_pos rfl]
      exact ⟨st.new _, self⟩
    · rw [if_neg hn]
      obtain ⟨a, b⟩ := F.ls y es hy
      exact ⟨st.old _ _ _ hn inj a, b⟩
  · rcases look_cons hy with ⟨e1, _⟩ | ⟨n1, hy⟩ <;> rcases look_cons hz with ⟨e2, _⟩ | ⟨n2, hz⟩
    · rw [e1, e2]
    · have e : (if y = x then l else ad y) = (if z = x then l else ad z) := e
      rw [if_pos e1, if_neg n2] at e
      exact absurd e.symm (hne z _ hz n2)
    · have e : (if y = x then l else ad y) = (if z = x then l else ad z) := e
      rw [if_neg n1, if_pos e2] at e
      exact absurd e (hne y _ hy n1)
    · have e : (if y = x then l else ad y) = (if z = x then l else ad z) := e
      rw [if_neg n1, if_neg n2] at e
      exact F.ij y z _ _ hy hz e
  · have : y ≠ x := fun e => hps (e ▸ hy)
    show ∃ o, ((if y = x then l else ad y), o) ∈ par
    rw [if_neg this]
    exact F.pp y hy
/-- a list of one's own turns no more -/
theorem FS.freeze {x : Str} {ds : List Dat} (F : FS W sc ps h₀ L m loc own par fz env ad ρ h) (hx : ρ.lookup x = some (.lst ds)) (hps : x ∉ ps) :
    ∃ own' o, FS W sc ps h₀ L m loc own' par ((ad x, o) :: fz) env ad ((x, .dat (.list ds)) :: ρ) h := by
  obtain ⟨hl, hla⟩ := F.ls x ds hx
  rw [if_neg hps] at hla
  obtain ⟨vs, n, hm, hr⟩ := hla
  obtain ⟨s, t, e⟩ := List.append_of_mem hm
  subst e
  have N : Sub (loc ++ (((s ++ (ad x, listOf vs.toArray n) :: t) ++ par) ++ fz)) (loc ++ (((s ++ t) ++ par) ++ (ad x, listOf vs.toArray n) :: fz)) := fun p hp => by
    simp only [List.mem_append, List.mem_cons] at hp ⊢
    rcases hp with h | ((h | h | h) | h) | h
    · exact .inl h
    · exact .inr (.inl (.inl (.inl h)))
    · exact .inr (.inr (.inl h))
    · exact .inr (.inl (.inl (.inr h)))
    · exact .inr (.inl (.inr h))
    · exact .inr (.inr (.inr h))
  have la : ∀ y es, ρ.lookup y = some (.lst es) → y ≠ x → ListAt (if y ∈ ps then par else s ++ t) (Hs W.base ((ad x, listOf vs.toArray n) :: fz)) (ad y) es := by
    intro y es hy hne
    have hn : ad y ≠ ad x := fun e => hne (F.ij y x es ds hy hx e)
    have b := (F.ls y es hy).2
    split at b
    · rename_i q; rw [if_pos q]; exact b.mono (Hs.sub .cons) (Sub.refl _)
    · rename_i q; rw [if_neg q]
      obtain ⟨ws, k, a, r⟩ := b
      refine ⟨ws, k, ?_, r.mono (Hs.sub .cons)⟩
      rcases List.mem_append.mp a with a | a
      · exact List.mem_append_left _ a
      · rcases List.mem_cons.mp a with a | a
        · exact absurd (Prod.mk.inj a).1 hn
        · exact List.mem_append_right _ a
  refine ⟨s ++ t, listOf vs.toArray n, ⟨(F.ss.perm ?_).freeze, fun y q hy => ?_, fun y es hy => ?_, fun y z es fs hy hz e => ?_, F.st, F.pp⟩⟩
  · have := List.perm_middle (a := (ad x, listOf vs.toArray n)) (l₁ := loc ++ s) (l₂ := t ++ par)
    simpa using this
  · rcases look_cons hy with ⟨rfl, rfl⟩ | ⟨hn, hy⟩
    · exact ⟨(F.nm y _ hx).1, _, hl.mono N, .list (.inr (.head _)) rfl rfl (hr.mono (Hs.sub .cons))⟩
    · obtain ⟨a, v, b, c⟩ := F.nm y q hy
      cases q with
      | dat d => exact ⟨a, v, b.mono N, Rep.mono (Hs.sub .cons) c⟩
      | fn lf G => exact ⟨a, v, b.mono N, CallOk.mono (Hs.sub .cons) c⟩
      | lst es =>
        refine ⟨a, _, (F.ls y es hy).1.mono N, ?_⟩
        have := la y es hy hn
        split at this
        · exact (this.mono (FSub.refl _) fun p hp => List.mem_append_right _ hp).prep
        · exact (this.mono (FSub.refl _) fun p hp => List.mem_append_left _ hp).prep
  · rcases look_cons hy with ⟨_, e⟩ | ⟨hn, hy⟩
    · cases e
    · exact ⟨(F.ls y es hy).1.mono N, la y es hy hn⟩
  · rcases look_cons hy with ⟨_, e1⟩ | ⟨n1, hy⟩ <;> rcases look_cons hz with ⟨_, e2⟩ | ⟨n2, hz⟩
    · cases e1
    · cases e1
    · cases e2
    · exact F.ij y z _ _ hy hz e
end
section
variable {W : Wd} {lv : Nat} {sc : Scope} {ps : List Str} {ρ ρ' : Names}
/-- x = [..], a list that may turn -/
theorem ex_assign_lst {x : Str} {px pos : Pos} {e : Expr} {ds : List Dat} (h : EF W lv sc ρ e ds) (hx : slot sc x) (hp : PlainName x) (hps : x ∉ ps) (hs : ∀ env, swapsWith e (some (.Name x px)) pos.line env = pure false := by intro _; rfl) :
    EX1 W lv sc ps ρ (.Assign [.Name x px] e pos) (.next ((x, .lst ds) :: ρ)) := by
  intro A h₀ L m loc own par fz env ad s Q E hA hE F c
  refine wpAny_Assign_Name (h A h₀ env L m _ fz env s _ E hA hE F.ss F.full fun l vs n fz' h' t' s' S' r => ?_) (hs env)
  have F₁ := (F.grow s' (S'.sublist (List.sublist_cons_self _ _))).withOwn S'
  refine store_ok hE F₁.ss (F₁.st x hx) fun m' loc' h₂ tk₂ S₂ st₂ => ?_
  refine c _ m' loc' _ par fz' _ h₂ tk₂ s' (F₁.bindLst S₂ st₂ hp hps (.head _) r fun y es hy _ => F.adNe S' hy) rfl (Par.refl _ _ _) (fun y hy => ?_) rfl
  show (if y = x then l else ad y) = ad y
  rw [if_neg fun e : y = x => hps (e ▸ hy)]
theorem ex_freeze {t : Env → Sem Flow} {x : Str} {ds : List Dat} {out : Out} (hx : ρ.lookup x = some (.lst ds)) (hps : x ∉ ps) (h : EX W lv sc ps ((x, .dat (.list ds)) :: ρ) t out) : EX W lv sc ps ρ t out := by
  intro A h₀ L m loc own par fz env ad s Q E hA hE F c
  obtain ⟨own', o, F'⟩ := F.freeze hx hps
  exact h A h₀ L m loc own' par _ env ad s Q E hA hE F' fun fl m₂ loc₂ own₂ par₂ fz₂ ad₂ h₂ t₂ s₂ => c fl m₂ loc₂ own₂ par₂ fz₂ ad₂ h₂ t₂ (Sub.trans .cons s₂)
theorem exr_freeze {x : Str} {ds : List Dat} {l : List Stmt} {d : Dat} (hx : ρ.lookup x = some (.lst ds)) (h : EXR W lv sc ((x, .dat (.list ds)) :: ρ) l d) : EXR W lv sc ρ l d := let ⟨r, h⟩ := h; ⟨r, ex_freeze hx (by simp) h⟩
theorem exr_ret_lst {x : Str} {px pos : Pos} {ds : List Dat} {rest : List Stmt} (hx : ρ.lookup x = some (.lst ds)) : EXR W lv sc ρ (.Return (some (.Name x px)) pos :: rest) (.list ds) := exr_freeze hx (exr_ret (ev_name (by rw [List.lookup_cons, beq_self_eq_true])))
theorem ev_len {x : Str} {np pos : Pos} {e : Expr} {pv : PV} {ds : List Dat} (hb : Boot W sc x (.builtin "len")) (h : EV W lv sc ρ e pv) (hi : pv.items? = some ds) (hz : ds.length ≤ 1048576) (hn : nStar e = true := by rfl) :
    EV W lv sc ρ (.Call (.Name x np) [e] [] pos) (.dat (.int ds.length)) := by
  intro A h₀ fenv L m mu fz env s Q E hA hE S hN k
  refine wpAny_Call_ofName (eval_boot hA hE S hb.sc hb.dbg hb.nm hb.top hb.boot ?_)
  have hv : EVs W lv sc ρ [e] [pv] := .one h hn
  refine Calls.callWith_builtin (evs_star hv) (evalArgs_ok hv A h₀ fenv L m mu fz env s _ E hA hE S hN fun vs fz' h' t' s' S' R' => ?_)
  match vs, R' with
  | [v], ⟨R', _⟩ =>
  obtain ⟨a, vs, rfl, il, ra⟩ := PRep.items S' R' hi
  refine call_len_list il (by rw [List.size_toArray, ra.length]; lia) ?_
  rw [List.size_toArray, ra.length]
  exact k _ fz' h' _ s' S' (.int _ _)
end
end Mine
end
section
open PySem PySem.W PyProof.Rows
set_option linter.unusedVariables false
set_option maxRecDepth 100000
namespace Mine
open PySem.Calls PySem.Spec PySem.SeqAt

theorem SS.kin {W : Wd} {h₀ h : Heap} {L : Addr} {m : Str → Option Value} {mu fz : Led} (S : SS W h₀ L m mu fz h) : W.K.In h := fun a o e => S.has (.inl (W.kb a o e))
theorem SS.binds {W : Wd} {h₀ : Heap} {L : Addr} {m : Str → Option Value} {mu fz : Led} {s : Shared} {fd : FuncData} {args : Args} {binds : List (Str × Value)} (S : SS W h₀ L m mu fz s.heap) (e : ∀ S, peek W.K S (bindArgs fd args) = some binds) : BindsTo s fd args binds := kp_binds S.kin e

section
variable {W : Wd} {lv : Nat} {sc : Scope} {ρ : Names}
/-- arguments with one keyword -/
theorem evalArgs_okk {es : List Expr} {ps : List PV} {pos kp : Pos} {f : Value} {x : Str} {e : Expr} {pv : PV} (h : EVs W lv sc ρ es ps) (hk : EV W lv sc ρ e pv) (A : Around) (h₀ : Heap) (fenv : Env) (L : Addr) (m : Str → Option Value) (mu fz : Led) (env : Env) (s : Shared) (Q : Args → Shared → Prop) (E : Value → Shared → Prop)
    (hA : AOk W lv A h₀ fenv L) (hE : EnvOk env sc) (S : SS W h₀ L m mu fz s.heap) (hN : NamesOk W env L m mu (mu ++ fz) (Hs W.base fz) ρ) (hes : es ≠ [])
    (k : ∀ vs v fz' h' tk', Sub fz fz' → SS W h₀ L m mu fz' h' → PRepA W (Hs W.base fz') mu vs ps → PRep W (Hs W.base fz') mu v pv → Q ⟨vs, [(x, v)]⟩ { s with heap := h', toks := tk' }) :
    wpAny (model W.prog W.w) A (evalArgs f true (backTo pos (starEach es env)) (backToKw pos (keywordEach [⟨some x, e, kp⟩] env))) Q E s := by
  cases h with
  | nil => exact absurd rfl hes
  | cons hn h hs =>
    have sp := spliced_ok (pos := pos) (.cons hn h hs) A h₀ fenv L m mu fz env s (fun vs s₁ => wpAny (model W.prog W.w) A (evalAll ((backToKw pos (keywordEach [⟨some x, e, kp⟩] env)).map (·.2))) (fun ks s₂ => Q ⟨vs, ((backToKw pos (keywordEach [⟨some x, e, kp⟩] env)).filterMap (·.1)).zip ks⟩ s₂) E s₁) E hA hE S hN
      fun vs fz' h' t' s' S' R' => ?_
    · rw [starEach_cons hn, backTo_cons] at sp ⊢
      exact evalArgs_kw rfl sp
    · show wpAny _ A (evalAll [do let v ← eval e env; standAt pos; pure v]) _ _ _
      refine wpAny_evalAll_cons (wpAny_bind (hk A h₀ fenv L m mu fz' env _ _ E hA hE S' (hN.grow s') fun v fz₂ h₂ t₂ s₂ S₂ R₂ => wpAny_bind (wpAny_standAt (wpAny_pure (wpAny_evalAll_nil ?_)))))
      exact k vs v fz₂ h₂ t₂ (s'.trans s₂) S₂ (R'.mono (Hs.sub s₂) (Sub.refl _)) R₂
/-- a call of a top def with one keyword -/
theorem ev_gcallk {x y : Str} {np pos kp : Pos} {a : Addr} {es : List Expr} {ps : List PV} {e : Expr} {pv : PV} {d : Dat} {lf : Nat} {G : List PV → List (Str × PV) → Dat → Prop} (hb : Glb W sc x a) (hc : GCall W lf a G) (h : EVs W lv sc ρ es ps) (hes : es ≠ []) (hk : EV W lv sc ρ e pv) (hG : G ps [(y, pv)] d) (hl : lf ≤ lv) :
    EV W lv sc ρ (.Call (.Name x np) es [⟨some y, e, kp⟩] pos) (.dat d) := by
  intro A h₀ fenv L m mu fz env s Q E hA hE S hN k
  refine wpAny_Call_ofName (eval_glob hA hE S hb.sc hb.dbg hb.top ?_)
  obtain ⟨o, fd, hK, hd⟩ := hb.fn
  refine callWith_function_kw (o := o) (fd := fd) (evalArgs_okk h hk A h₀ fenv L m mu fz env s _ E hA hE S hN hes fun vs v fz' h' t' s' S' R' Rk => ?_)
  refine ⟨⟨S'.fr.keep _ _ (hA.K _ _ hK), hd⟩, ?_⟩
  exact hc A h₀ fenv L m mu fz' _ vs [(y, v)] ps [(y, pv)] d _ _ (hA.less hl) S' R' ⟨rfl, Rk, trivial⟩ hG fun v fz₂ h₂ t₂ s₂ => k v fz₂ h₂ t₂ (s'.trans s₂)
end
end Mine
end
section
open PySem PySem.W PyProof.Rows
set_option linter.unusedVariables false
set_option maxRecDepth 100000
namespace Mine
open PySem.Calls PySem.Spec PySem.SeqAt

/-- an expression that may turn named lists -/
noncomputable def EVM (W : Wd) (lv : Nat) (sc : Scope) (ps : List Str) (ρ : Names) (e : Expr) (d : Dat) (ρ' : Names) : Prop :=
  ∀ (A : Around) (h₀ : Heap) (L : Addr) (m : Str → Option Value) (loc own par fz : Led) (env : Env) (ad : Str → Addr) (s : Shared) (Q : Value → Shared → Prop) (E : Value → Shared → Prop),
    AOk W lv A h₀ env L → EnvOk env sc → FS W sc ps h₀ L m loc own par fz env ad ρ s.heap →
    (∀ v own' par' fz' h' tk', Sub fz fz' → FS W sc ps h₀ L m loc own' par' fz' env ad ρ' h' → Rep (Hs W.base fz') v d → Par ps ad par par' → Q v { s with heap := h', toks := tk' }) →
    wpAny (model W.prog W.w) A (eval e env) Q E s
/-- what a call did to one list -/
noncomputable def Turned (mu mu' : Led) (X : Fact) (l : Addr) (ds : List Dat) : Prop := Par [("" : Str)] (fun _ => l) mu mu' ∧ ListAt mu' X l ds
/-- a def of the top that turns the list it is handed first, and gives None -/
noncomputable def GIns (W : Wd) (lv : Nat) (a : Addr) (G : List Dat → List PV → List (Str × PV) → List Dat → Prop) : Prop :=
  ∀ (A : Around) (h₀ : Heap) (fenv : Env) (L : Addr) (m : Str → Option Value) (mu fz : Led) (s : Shared) (l : Addr) (ds : List Dat) (vs : List Value) (kvs : List (Str × Value)) (ps : List PV) (kps : List (Str × PV)) (ds' : List Dat) (Q E : Value → Shared → Prop),
    AOk W lv A h₀ fenv L → SS W h₀ L m mu fz s.heap → ListAt mu (Hs W.base fz) l ds → PRepA W (Hs W.base fz) mu vs ps → KRepA W (Hs W.base fz) mu kvs kps → G ds ps kps ds' →
    (∀ fz' mu' h' tk', Sub fz fz' → SS W h₀ L m mu' fz' h' → Turned mu mu' (Hs W.base fz') l ds' → Q .none { s with heap := h', toks := tk' }) →
    wpAny (model W.prog W.w) A (call (.ref a) (.ref l :: vs) kvs) Q E s

theorem Par.eqSet {x : Str} {l : Addr} {mu mu' : Led} {o' : Obj} (h : Par [x] (fun _ => l) mu mu') (hm : (l, o') ∈ mu') (nd : (mu'.map (·.1)).Nodup) : mu' = setL mu l o' := by
  obtain ⟨h1, h2⟩ := h
  induction mu generalizing mu' with
  | nil =>
    cases mu' with
    | nil => rfl
    | cons _ _ => cases h1
  | cons p mu ih =>
    cases mu' with
    | nil => cases h1
    | cons q mu' =>
      rw [List.map_cons, List.map_cons, List.cons.injEq] at h1
      have ndq := nd
      rw [List.map_cons, List.nodup_cons] at nd
      have ndp : ((p :: mu).map (·.1)).Nodup := by rw [List.map_cons, ← h1.1, ← h1.2, ← List.map_cons]; exact ndq
      rw [List.map_cons, List.nodup_cons] at ndp
      have inj : ∀ a o o', (a, o) ∈ q :: mu' → (a, o') ∈ q :: mu' → o = o' := fun a o o' => nd_inj ndq
      have hq : q = if p.1 = l then (l, o') else p := by
        obtain ⟨qa, qo⟩ := q
        split
        · rename_i e
          have e1 : qa = l := by rw [← e]; exact h1.1
          subst e1
          rw [inj _ _ _ (.head _) hm]
        · rename_i e
          have hp := h2 p (.head _) fun y hy => by simpa using e
          obtain ⟨pa, po⟩ := p
          have e1 : qa = pa := h1.1
          subst e1
          rw [inj _ _ _ (.head _) hp]
      have rest : mu' = setL mu l o' := by
        by_cases e : p.1 = l
        · -- the list stands at the head: the rest is as it was
          have hl : ∀ r ∈ mu, r.1 ≠ l := fun r hr q' => ndp.1 (List.mem_map.mpr ⟨r, hr, by rw [q', e]⟩)
          rw [setL_off hl]
          refine Par.eq (ad := fun _ => l) ⟨h1.2, fun r hr _ => ?_⟩ nd.2
          rcases List.mem_cons.mp (h2 r (.tail _ hr) fun y hy => hl r hr) with e2 | e2
          · have : q.1 = p.1 := h1.1
            exact absurd (by rw [e2, this, e]) (hl r hr)
          · exact e2
        · refine ih (mu' := mu') ?_ nd.2 h1.2 fun r hr hn => ?_
          · rcases List.mem_cons.mp hm with e2 | e2
            · have : q.1 = p.1 := h1.1
              exact absurd (by rw [← this, ← e2]) e
            · exact e2
          · rcases List.mem_cons.mp (h2 r (.tail _ hr) hn) with e2 | e2
            · have : q.1 = p.1 := h1.1
              exact absurd (List.mem_map.mpr ⟨r, hr, by rw [e2, this]⟩) ndp.1
            · exact e2
      rw [hq, rest]
      rfl
section
variable {W : Wd} {sc : Scope} {ps : List Str} {h₀ h h' : Heap} {L : Addr} {m : Str → Option Value} {loc own par fz fz' : Led} {env : Env} {ad : Str → Addr} {ρ ρ' : Names}
theorem FS.turned (x : FS W sc ps h₀ L m loc own par fz env ad ρ h) (sf : Sub fz fz') {y : Str} {ds ds' : List Dat} {mu' : Led} (hy : ρ.lookup y = some (.lst ds))
    (S : SS W h₀ L m mu' fz' h') (hT : Turned (loc ++ (own ++ par)) mu' (Hs W.base fz') (ad y) ds') :
    ∃ own' par', FS W sc ps h₀ L m loc own' par' fz' env ad ((y, .lst ds') :: ρ) h' ∧ Par ps ad par par' := by
  obtain ⟨hp, vs', n', hm, hr⟩ := hT
  have e := hp.eqSet hm S.nodupMu
  subst e
  exact x.turnS sf hy S hr
end
section
variable {W : Wd} {lv : Nat} {sc : Scope} {ps : List Str} {ρ ρ' : Names}
theorem FS.loadsFull {h₀ h : Heap} {L : Addr} {m : Str → Option Value} {loc own par fz : Led} {env : Env} {ad : Str → Addr} (x : FS W sc ps h₀ L m loc own par fz env ad ρ h) {y : Str} {ds : List Dat} (hy : ρ.lookup y = some (.lst ds)) :
    Loads env L m ((loc ++ (own ++ par)) ++ fz) y (.ref (ad y)) := by
  rw [List.append_assoc]; exact (x.ls y ds hy).1
/-- f(y, ..) where f turns y -/
theorem evm_ins {f y : Str} {np py pos : Pos} {a : Addr} {es : List Expr} {pvs : List PV} {lf : Nat} {G : List Dat → List PV → List (Str × PV) → List Dat → Prop} {ds ds' : List Dat} (hb : Glb W sc f a) (hc : GIns W lf a G) (hy : ρ.lookup y = some (.lst ds)) (h : EVs W lv sc ρ es pvs) (hG : G ds pvs [] ds') (hl : lf ≤ lv) :
    EVM W lv sc ps ρ (.Call (.Name f np) (.Name y py :: es) [] pos) .none ((y, .lst ds') :: ρ) := by
  intro A h₀ L m loc own par fz env ad s Q E hA hE x k
  refine wpAny_Call_ofName (eval_glob hA hE x.ss hb.sc hb.dbg hb.top ?_)
  obtain ⟨o, fd, hK, hd⟩ := hb.fn
  refine Calls.callWith_function (o := o) (fd := fd) ?_
  rw [starEach_cons rfl, backTo_cons]
  refine Calls.evalArgs_plain (Calls.spliced_cons (eval_name hE x.ss (x.loadsFull hy) (x.nm y _ hy).1 ?_))
  refine spliced_ok h A h₀ env L m _ fz env s _ E hA hE x.ss x.full fun vs fz' h' t' s' S' R' => ?_
  have x₁ := x.grow s' S'
  refine ⟨⟨S'.fr.keep _ _ (hA.K _ _ hK), hd⟩, ?_⟩
  refine hc A h₀ env L m _ fz' _ (ad y) ds vs [] pvs [] ds' _ _ (hA.less hl) S' ((x₁.listAt hy).mono (FSub.refl _) fun p hp => List.mem_append_right _ hp) R' trivial hG fun fz₂ mu₂ h₂ t₂ s₂ S₂ T₂ => ?_
  obtain ⟨own', par', F, P⟩ := x₁.turned s₂ hy S₂ T₂
  exact k _ own' par' fz₂ h₂ t₂ (s'.trans s₂) F .none P
theorem evm_insk {f y x : Str} {np py pos kp : Pos} {a : Addr} {es : List Expr} {pvs : List PV} {e : Expr} {pv : PV} {lf : Nat} {G : List Dat → List PV → List (Str × PV) → List Dat → Prop} {ds ds' : List Dat} (hb : Glb W sc f a) (hc : GIns W lf a G) (hy : ρ.lookup y = some (.lst ds)) (h : EVs W lv sc ρ es pvs) (hk : EV W lv sc ρ e pv)
    (hG : G ds pvs [(x, pv)] ds') (hl : lf ≤ lv) : EVM W lv sc ps ρ (.Call (.Name f np) (.Name y py :: es) [⟨some x, e, kp⟩] pos) .none ((y, .lst ds') :: ρ) := by
  intro A h₀ L m loc own par fz env ad s Q E hA hE x₀ k
  refine wpAny_Call_ofName (eval_glob hA hE x₀.ss hb.sc hb.dbg hb.top ?_)
  obtain ⟨o, fd, hK, hd⟩ := hb.fn
  refine callWith_function_kw (o := o) (fd := fd) ?_
  rw [starEach_cons rfl, backTo_cons]
  refine evalArgs_kw rfl (Calls.spliced_cons (eval_name hE x₀.ss (x₀.loadsFull hy) (x₀.nm y _ hy).1 ?_))
  refine spliced_ok h A h₀ env L m _ fz env s _ E hA hE x₀.ss x₀.full fun vs fz' h' t' s' S' R' => ?_
  show wpAny _ A (evalAll [do let v ← eval e env; standAt pos; pure v]) _ _ _
  have x₁ := x₀.grow s' S'
  refine wpAny_evalAll_cons (wpAny_bind (hk A h₀ env L m _ fz' env _ _ E hA hE x₁.ss x₁.full fun v fz₂ h₂ t₂ s₂ S₂ R₂ => wpAny_bind (wpAny_standAt (wpAny_pure (wpAny_evalAll_nil ?_)))))
  have x₂ := x₁.grow s₂ S₂
  refine ⟨⟨S₂.fr.keep _ _ (hA.K _ _ hK), hd⟩, ?_⟩
  refine hc A h₀ env L m _ fz₂ _ (ad y) ds vs [(x, v)] pvs [(x, pv)] ds' _ _ (hA.less hl) S₂ ((x₂.listAt hy).mono (FSub.refl _) fun p hp => List.mem_append_right _ hp) (R'.mono (Hs.sub s₂) (Sub.refl _)) ⟨rfl, R₂, trivial⟩ hG fun fz₃ mu₃ h₃ t₃ s₃ S₃ T₃ => ?_
  obtain ⟨own', par', F, P⟩ := x₂.turned s₃ hy S₃ T₃
  exact k _ own' par' fz₃ h₃ t₃ (s'.trans (s₂.trans s₃)) F .none P
theorem evm_ifexp {t x y : Expr} {pos : Pos} {b : Bool} {d : Dat} (h : ET W lv sc ρ t b) (hx : b = true → EVM W lv sc ps ρ x d ρ') (hy : b = false → EVM W lv sc ps ρ y d ρ') : EVM W lv sc ps ρ (.IfExp t x y pos) d ρ' := by
  intro A h₀ L m loc own par fz env ad s Q E hA hE x₀ k
  refine wpAny_IfExp (h A h₀ env L m _ fz env s _ E hA hE x₀.ss x₀.full fun fz' h' t' s' S' => ?_)
  have x₁ := x₀.grow s' S'
  cases b with
  | true => exact hx rfl A h₀ L m loc own par fz' env ad _ Q E hA hE x₁ fun v own₂ par₂ fz₂ h₂ t₂ s₂ => k v own₂ par₂ fz₂ h₂ t₂ (s'.trans s₂)
  | false => exact hy rfl A h₀ L m loc own par fz' env ad _ Q E hA hE x₁ fun v own₂ par₂ fz₂ h₂ t₂ s₂ => k v own₂ par₂ fz₂ h₂ t₂ (s'.trans s₂)
/-- y.append(e) where e turns lists -/
theorem ex_appendM {y : Str} {py ap pos spos : Pos} {e : Expr} {ds : List Dat} {d : Dat} (hy : ρ.lookup y = some (.lst ds)) (h : EVM W lv sc ps ρ e d ρ') (hy' : ρ'.lookup y = some (.lst ds)) (hz : ds.length ≤ 1048576) (hn : nStar e = true)
    (hbase : ∀ env, attributeBase (.Name y py) (Str.ofString "append") env (eval (.Name y py) env) = eval (.Name y py) env := by intro _; rfl) (hline : (ap.endLine == pos.line) = true := by rfl) :
    EX1 W lv sc ps ρ (.Expr (.Call (.Attribute (.Name y py) (Str.ofString "append") ap) [e] [] pos) spos) (.next ((y, .lst (ds ++ [d])) :: ρ')) := by
  intro A h₀ L m loc own par fz env ad s Q E hA hE x c
  refine wpAny_Expr_any (wpAny_Call_method1_late (hbase env) hline (by rw [starEach_cons hn]; rfl) ?_) (by show (env.scope.kind == .module && _) = false; rw [hE.kind]; rfl) rfl
  refine eval_name hE x.ss (x.loadsFull hy) (x.nm y _ hy).1 ?_
  obtain ⟨vs, n, hm, hr⟩ := x.listAt hy
  have ho := x.ss.ofMu (List.mem_append_right loc hm)
  refine ⟨"list", "list.append", F.plainAttrs_list, slot_list_append, type_list_append, ⟨_, ho, rfl⟩, fun a q => ⟨_, by cases q; exact ho, rfl⟩, ?_⟩
  refine P.append_list (h A h₀ L m loc own par fz env ad s _ E hA hE x fun v own₁ par₁ fz' h' t' s' x₁ R' p₁ => ?_)
  obtain ⟨vs, n, hm, hr⟩ := x₁.listAt hy'
  have ho₁ := x₁.ss.ofMu (List.mem_append_right loc hm)
  have hz' : vs.toArray.size ≤ sizeLine := by rw [List.size_toArray, sizeLine_eq, hr.length]; (clear ho₁ hr hm p₁ R' x₁ s' ho c x hE hA hline hbase hn hy' h hy; lia)
  refine ⟨_, _, hz', ho₁, ?_⟩
  have hup := (show IsL h' (ad y) vs.toArray n from ho₁).update (fun xs => xs.push v)
  have ho₂ : (h'.update (ad y) (Obj.mapSeq fun xs => xs.push v)).get? (ad y) = some (listOf (vs ++ [v]).toArray (n + 1)) := by
    rw [hup]; simp [PySem.W.listOf]
  obtain ⟨own', par', x₂, p₂⟩ := x₁.turn (ds' := ds ++ [d]) hy' (fun b o hb e => (Heap.get?_update_other h' _ (Ne.symm hb)).trans e) ho₂ (hr.append (.one R'))
  exact c _ m loc own' par' fz' ad _ t' s' x₂ rfl (p₁.trans p₂ fun _ _ => rfl) (fun _ _ => rfl) rfl
/-- x = [e, f] where both turn lists -/
theorem ex_assign_lst2 {x : Str} {px pos lp : Pos} {e f : Expr} {d d' : Dat} {ρ₁ : Names} (h : EVM W lv sc ps ρ e d ρ₁) (k' : EVM W lv sc ps ρ₁ f d' ρ') (hn : nStar e = true) (hn' : nStar f = true) (hx : slot sc x) (hp : PlainName x) (hps : x ∉ ps) :
    EX1 W lv sc ps ρ (.Assign [.Name x px] (.List [e, f] lp) pos) (.next ((x, .lst [d, d']) :: ρ')) := by
  intro A h₀ L m loc own par fz env ad s Q E hA hE F c
  refine wpAny_Assign_Name (wpAny_List ?_) rfl
  rw [starEach_cons hn, backTo_cons, starEach_cons hn', backTo_cons]
  refine Calls.spliced_cons (h A h₀ L m loc own par fz env ad s _ E hA hE F fun v own₁ par₁ fz₁ h₁ t₁ s₁ x₁ r₁ p₁ => ?_)
  refine Calls.spliced_cons (k' A h₀ L m loc own₁ par₁ fz₁ env ad _ _ E hA hE x₁ fun v' own₂ par₂ fz₂ h₂ t₂ s₂ x₂ r₂ p₂ => ?_)
  refine Calls.spliced_nil ⟨by rw [sizeLine_eq]; simp, ?_⟩
  have S₃ := x₂.ss.pushMu (listOf [v, v'].toArray 0)
  have F₃ := x₂.withOwn S₃
  refine store_ok hE F₃.ss (F₃.st x hx) fun m' loc' h₄ tk₄ S₄ st₄ => ?_
  refine c _ m' loc' _ par₂ fz₂ _ h₄ tk₄ (s₁.trans s₂) (F₃.bindLst S₄ st₄ hp hps (.head _) (.cons (r₁.mono (Hs.sub s₂)) (.one r₂)) fun y es hy _ => x₂.adNe S₃ hy) rfl (p₁.trans p₂ fun _ _ => rfl) (fun y hy => ?_) rfl
  show (if y = x then _ else ad y) = ad y
  rw [if_neg fun e : y = x => hps (e ▸ hy)]
end
end Mine
end
section
open PySem PySem.W PyProof.Rows
set_option linter.unusedVariables false
set_option maxRecDepth 100000
namespace Mine
open PySem.Calls PySem.Spec PySem.SeqAt

/-- the tables of codes: of each table its code, its place, the name that its codes bear -/
noncomputable def GlT (tabs : List (Addr × Addr × Str)) (gl : Led) (X : Fact) : Prop :=
  gl.map (·.1) = tabs.map (·.2.1) ∧ ∀ t ∈ tabs, ∃ ps : Array Value, (t.2.1, tabObj ps) ∈ gl ∧ TriplesOk ps.toList ∧
    ∀ pos v, codeAmong pos ps.toList = some v → ∃ c oc vs tk, v = .ref c ∧ X c oc ∧ oc.data = .fields vs ∧ vs[1]? = some (.str t.2.2 tk)
theorem GlT.mono {tabs : List (Addr × Addr × Str)} {g : Led} {X Y : Fact} (s : FSub X Y) (h : GlT tabs g X) : GlT tabs g Y :=
  ⟨h.1, fun t ht => let ⟨ps, a, b, c⟩ := h.2 t ht; ⟨ps, a, b, fun pos v e => let ⟨c', oc, vs, tk, e1, e2, e3, e4⟩ := c pos v e; ⟨c', oc, vs, tk, e1, s _ _ e2, e3, e4⟩⟩⟩
theorem GlT.drop {tabs : List (Addr × Addr × Str)} {g : Led} {X Y : Fact} (s : ∀ a o, X a o → Y a o ∨ ∃ (vs : Array Value) (n : Nat), o.data = .seq vs n) (h : GlT tabs g X) : GlT tabs g Y := by
  obtain ⟨h1, h2⟩ := h
  refine ⟨h1, fun t ht => ?_⟩
  obtain ⟨ps, a, b, c⟩ := h2 t ht
  refine ⟨ps, a, b, fun pos v hv => ?_⟩
  obtain ⟨c, oc, vs, tk, e1, e2, e3, e4⟩ := c pos v hv
  refine ⟨c, oc, vs, tk, e1, ?_, e3, e4⟩
  rcases s _ _ e2 with h | ⟨ws, n, h⟩
  · exact h
  · rw [e3] at h; cases h
/-- a code of the facts -/
noncomputable def CodeX (X : Fact) (cdv : Value) (q : Str) : Prop := ∃ c oc vs tk, cdv = .ref c ∧ X c oc ∧ oc.data = .fields vs ∧ vs[1]? = some (.str q tk)
theorem CodeX.mono {X Y : Fact} {c : Value} {q : Str} (s : FSub X Y) (h : CodeX X c q) : CodeX Y c q := let ⟨a, b, c, d, e, f, g, i⟩ := h; ⟨a, b, c, d, e, s _ _ f, g, i⟩
theorem CodeX.rec {X : Fact} {c : Value} {q : Str} (h : CodeX X c q) {hp : Heap} (k : ∀ a o, X a o → hp.get? a = some o) : hp.CodeRec c q := let ⟨a, b, c, d, e, f, g, i⟩ := h; ⟨a, b, c, d, e, k _ _ f, g, i⟩

theorem TriplesOk.snoc {a b c : Value} {l : List Value} (h : TriplesOk l) (ha : ∃ i t, a = .int i t) (hb : ∃ i t, b = .int i t) : TriplesOk (l ++ [a, b, c]) := by
  obtain ⟨i, t, rfl⟩ := ha
  obtain ⟨j, u, rfl⟩ := hb
  match l, h with
  | [], _ => exact trivial
  | .int _ _ :: .int _ _ :: _ :: rest, h => exact TriplesOk.snoc (l := rest) h ⟨i, t, rfl⟩ ⟨j, u, rfl⟩
theorem codeAmong_of_snoc {pos : Pos} {a b : Int} {ta tb : Tok} {c v : Value} : ∀ {l : List Value}, TriplesOk l → codeAmong pos (l ++ [.int a ta, .int b tb, c]) = some v → codeAmong pos l = some v ∨ v = c
  | [], _, h => by
    simp only [List.nil_append, codeAmong] at h
    split at h
    · cases h; exact .inr rfl
    · cases h
  | .int _ _ :: .int _ _ :: x :: rest, hl, h => by
    simp only [List.cons_append, codeAmong] at h ⊢
    split at h
    · rename_i e; rw [if_pos e]; exact .inl h
    · rename_i e; rw [if_neg e]; exact codeAmong_of_snoc (l := rest) hl h

section
variable {W : Wd} {h₀ h h' : Heap} {L : Addr} {m : Str → Option Value} {mu fz : Led} {tabs : List (Addr × Addr × Str)}
theorem SS.noBase (S : SS W h₀ L m mu fz h) {a : Addr} {o : Obj} (hm : (a, o) ∈ fz) : W.base.get? a = none := by
  obtain ⟨_, ⟨gl, _, l⟩, bs⟩ := S
  have := (l.news (a, o) (List.mem_append_right _ (List.mem_append_right _ hm))).2.2
  cases q : W.base.get? a with
  | none => rfl
  | some o' => rw [bs _ _ q] at this; cases this
/-- what a making of a function needs and leaves -/
theorem SS.made (hG : W.Gl = GlT tabs) (S : SS W h₀ L m mu fz h) {t : Addr × Addr × Str} (ht : t ∈ tabs) (hnd : (tabs.map (·.2.1)).Nodup) :
    ∃ ps : Array Value, h.get? t.2.1 = some (tabObj ps) ∧ TriplesOk ps.toList ∧ (∀ pos v, codeAmong pos ps.toList = some v → CodeX (Hs W.base fz) v t.2.2) ∧ t.2.1 ≠ L ∧ h₀.get? t.2.1 = none ∧
      (∀ (h' : Heap) c oc vs tk line col f fo, h.get? c = none → c < f → h'.get? c = some oc → oc.data = .fields vs → vs[1]? = some (.str t.2.2 tk) → h'.get? f = some fo → h.objs.size ≤ f → h'.get? t.2.1 = some (tabObj (ps ++ #[rawInt line, rawInt col, .ref c])) →
        (∀ b o, b ≠ t.2.1 → h.get? b = some o → h'.get? b = some o) → SS W h₀ L m mu ((f, fo) :: (c, oc) :: fz) h' ∧ CodeX (Hs W.base ((f, fo) :: (c, oc) :: fz)) (.ref c) t.2.2) := by
  obtain ⟨F, ⟨gl, g, l⟩, bs⟩ := S
  rw [hG] at g
  obtain ⟨ps, hm, htr, hc⟩ := g.2 t ht
  have hN := l.news _ (List.mem_append_left _ hm)
  refine ⟨ps, hN.1, htr, fun pos v e => hc pos v e, hN.2.1, hN.2.2, fun h' c oc vs tk line col f fo hcn hcf ho hd hv hfo hfs hP hs => ?_⟩
  have cx : CodeX (Hs W.base ((f, fo) :: (c, oc) :: fz)) (.ref c) t.2.2 := ⟨c, oc, vs, tk, rfl, .inr (.tail _ (.head _)), hd, hv⟩
  have hfn : h.get? f = none := Heap.get?_none_of_le hfs
  obtain ⟨F₁, l₁⟩ := l.set F (List.mem_append_left _ hm) hs hP
  have nd := l.nodup
  rw [List.map_append, List.nodup_append] at nd
  have off : ∀ p ∈ mu ++ fz, p.1 ≠ t.2.1 := fun p hp e => nd.2.2 t.2.1 (List.mem_map.mpr ⟨_, hm, rfl⟩) p.1 (List.mem_map.mpr ⟨p, hp, rfl⟩) e.symm
  have offm : setL mu t.2.1 (tabObj (ps ++ #[rawInt line, rawInt col, .ref c])) = mu := setL_off fun p hp => off p (List.mem_append_left _ hp)
  have offf : setL fz t.2.1 (tabObj (ps ++ #[rawInt line, rawInt col, .ref c])) = fz := setL_off fun p hp => off p (List.mem_append_right _ hp)
  rw [setL_append, setL_append, offm, offf] at l₁
  have fresh : ∀ b, h.get? b = none → b ≠ L ∧ h₀.get? b = none ∧ ∀ p ∈ gl ++ (mu ++ fz), p.1 ≠ b := by
    intro b hb
    refine ⟨fun e => ?_, ?_, fun p hp e => ?_⟩
    · obtain ⟨o, _, _, q, _⟩ := F.ns
      rw [e, q] at hb; cases hb
    · cases q : h₀.get? b with
      | none => rfl
      | some o => rw [F.keep _ _ q] at hb; cases hb
    · rw [← e, (l.news p hp).1] at hb; cases hb
  obtain ⟨c1, c2, c3⟩ := fresh c hcn
  obtain ⟨f1, f2, f3⟩ := fresh f hfn
  have ndl := l₁.nodup
  have c3' : c ∉ (setL gl t.2.1 (tabObj (ps ++ #[rawInt line, rawInt col, .ref c])) ++ (mu ++ fz)).map (·.1) := by
    rw [List.map_append, setL_fst, ← List.map_append]
    intro q
    obtain ⟨p, hp, e⟩ := List.mem_map.mp q
    exact c3 p hp e
  have f3' : f ∉ (setL gl t.2.1 (tabObj (ps ++ #[rawInt line, rawInt col, .ref c])) ++ (mu ++ fz)).map (·.1) := by
    rw [List.map_append, setL_fst, ← List.map_append]
    intro q
    obtain ⟨p, hp, e⟩ := List.mem_map.mp q
    exact f3 p hp e
  have l₂ : Ld h₀ L h' ((f, fo) :: (c, oc) :: (setL gl t.2.1 (tabObj (ps ++ #[rawInt line, rawInt col, .ref c])) ++ (mu ++ fz))) := by
    refine ⟨fun p hp => ?_, ?_⟩
    · rcases List.mem_cons.mp hp with rfl | hp
      · exact ⟨hfo, f1, f2⟩
      · rcases List.mem_cons.mp hp with rfl | hp
        · exact ⟨ho, c1, c2⟩
        · exact l₁.news p hp
    · rw [List.map_cons, List.nodup_cons, List.map_cons, List.nodup_cons]
      refine ⟨fun q => ?_, c3', ndl⟩
      rcases List.mem_cons.mp q with e | q
      · exact Nat.ne_of_gt hcf e
      · exact f3' q
  refine ⟨⟨F₁, ⟨setL gl t.2.1 (tabObj (ps ++ #[rawInt line, rawInt col, .ref c])), ?_, l₂.perm ?_⟩, bs⟩, cx⟩
  · rw [hG]
    have sub2 : FSub (Hs W.base fz) (Hs W.base ((f, fo) :: (c, oc) :: fz)) := Hs.sub (Sub.cons.trans .cons)
    refine ⟨by rw [setL_fst]; exact g.1, fun t' ht' => ?_⟩
    obtain ⟨ps', hm', htr', hc'⟩ := g.2 t' ht'
    by_cases e : t'.2.1 = t.2.1
    · have et : t' = t := by
        have : ∀ {l : List (Addr × Addr × Str)}, (l.map (·.2.1)).Nodup → t' ∈ l → t ∈ l → t' = t := by
          intro l
          induction l with
          | nil => intro _ h; cases h
          | cons x l ih =>
            intro nd a b
            rw [List.map_cons, List.nodup_cons] at nd
            rcases List.mem_cons.mp a with a | a <;> rcases List.mem_cons.mp b with b | b
            · rw [a, b]
            · exact absurd (List.mem_map.mpr ⟨t, b, by rw [← e, a]⟩) nd.1
            · exact absurd (List.mem_map.mpr ⟨t', a, by rw [e, b]⟩) nd.1
            · exact ih nd.2 a b
        exact this hnd ht' ht
      subst et
      refine ⟨ps ++ #[rawInt line, rawInt col, .ref c], mem_setL_self hm, ?_, fun pos v hv' => ?_⟩
      · rw [Array.toList_append]
        exact TriplesOk.snoc htr ⟨_, _, rfl⟩ ⟨_, _, rfl⟩
      · rw [Array.toList_append] at hv'
        rcases codeAmong_of_snoc htr hv' with q | q
        · obtain ⟨c', oc', vs', tk', a1, a2, a3, a4⟩ := hc pos v q
          exact ⟨c', oc', vs', tk', a1, sub2 _ _ a2, a3, a4⟩
        · subst q; exact cx
    · refine ⟨ps', mem_setL_ne hm' e, htr', fun pos v hv' => ?_⟩
      obtain ⟨c', oc', vs', tk', a1, a2, a3, a4⟩ := hc' pos v hv'
      exact ⟨c', oc', vs', tk', a1, sub2 _ _ a2, a3, a4⟩
  · have e1 := List.perm_middle (a := (f, fo)) (l₁ := setL gl t.2.1 (tabObj (ps ++ #[rawInt line, rawInt col, .ref c])) ++ mu) (l₂ := (c, oc) :: fz)
    have e2 := List.perm_middle (a := (c, oc)) (l₁ := setL gl t.2.1 (tabObj (ps ++ #[rawInt line, rawInt col, .ref c])) ++ mu) (l₂ := fz)
    rw [← List.append_assoc, ← List.append_assoc]
    exact ((List.Perm.cons _ e2.symm).trans e1.symm)
end

section
variable {W : Wd} {h₀ : Heap} {L : Addr} {m : Str → Option Value} {mu fz : Led} {tabs : List (Addr × Addr × Str)} {A : Around} {lv : Nat} {fenv env : Env} {s : Shared} {E Q : Value → Shared → Prop} {t : Addr × Addr × Str}
  {name : Str} {params : Arguments} {scope : Scope} {clos : List (Str × Addr)} {pos : Pos} {firstLine : Nat}
theorem builtAt (hA : AOk W lv A h₀ fenv L) (S : SS W h₀ L m mu fz s.heap) {P : Addr} {o : Obj} (hP : s.heap.get? P = some o) (hc : o.cls = .none) (hd : ∃ vs, o.data = .fields vs) (hn : h₀.get? P = none) : s.heap.Ns mainGlobals W.mg ∧ mainGlobals ≠ P ∧ s.heap.BuiltinsAt W.mg P := by
  have hgs := hA.T.g.keeps S.fr.keep
  obtain ⟨bm, ob, b1, b2, b3, b4, b5, b6⟩ := hA.T.bmain
  have hgP : mainGlobals ≠ P := fun q => by
    obtain ⟨o', es, ep, e, hd', _⟩ := hgs
    obtain ⟨vs, hd⟩ := hd
    rw [q, hP] at e; cases e; rw [hd] at hd'; cases hd'
  have hbP : bm ≠ P := fun q => by
    rw [q, hn] at b3; cases b3
  have hbG : bm ≠ mainGlobals := fun q => by
    obtain ⟨o, es, ep, e, hd, _⟩ := hA.T.g
    rw [q, e] at b3; cases b3; rw [hd] at b6; cases b6
  exact ⟨hgs, hgP, bm, ob, b1, b2, hbG, hbP, S.fr.keep _ _ b3, b4, b5, b6⟩
/-- a def or a lambda is made -/
theorem make_def {body : List Stmt} (hA : AOk W lv A h₀ fenv L) (hG : W.Gl = GlT tabs) (ht : t ∈ tabs) (hnd : (tabs.map (·.2.1)).Nodup) (hC : CodeHd W.base t.1 t.2.1) (S : SS W h₀ L m mu fz s.heap) (hcl : closureFor scope env = pure clos) (hg : env.globals = mainGlobals) (hcode : env.code = .ref t.1)
    (k : ∀ f fz' h' tk' c ctv doc pm, Sub fz fz' → SS W h₀ L m mu fz' h' → (f, fnMade name t.2.2 params body scope clos doc pm c ctv) ∈ fz' → CodeX (Hs W.base fz') (.ref c) t.2.2 → Q (.ref f) { s with heap := h', toks := tk' }) :
    wpAny (model W.prog W.w) A (makeFunction name t.2.2 params (.stmts body) scope env [] [] [] pos firstLine) Q E s := by
  obtain ⟨ps, hP, htr, hc, hPL, hPn, made⟩ := S.made hG ht hnd
  obtain ⟨g1, g2, g3⟩ := builtAt hA S hP rfl ⟨_, rfl⟩ hPn
  have C' : CodeHd s.heap t.1 t.2.1 := hC.keeps fun b o e => S.fr.keep _ _ (S.bs _ _ e)
  cases hf : codeAmong pos ps.toList with
  | none =>
    refine makeFunction_K (mg := W.mg) hcl hg g1 hcode C' hP htr hf g2 g3 fun c' ctv doc h' tk hx hge hlt hrec htb => ?_
    obtain ⟨c₂, oc, vs, tq, e2, hoc, hd, hv⟩ := hrec
    cases e2
    obtain ⟨S', cx⟩ := made (h'.push (fnMade name t.2.2 params body scope clos doc ((W.mg "__name__").getD .none) c' ctv)) c' oc vs tq pos.line pos.col h'.objs.size _ (Heap.get?_none_of_le hge) hlt (Heap.get?_push_of_some _ hoc) hd hv (Heap.get?_push_size _ rfl)
      (Nat.le_trans hge (Nat.le_of_lt hlt)) (Heap.get?_push_of_some _ htb) fun b o hb e => Heap.get?_push_of_some _ (hx b o hb e)
    exact k _ _ _ tk c' ctv doc _ (Sub.cons.trans .cons) S' (.head _) cx
  | some cv =>
    obtain ⟨c, oc, vs, tk, rfl, hx⟩ := hc pos cv hf
    refine makeFunction_hit (mg := W.mg) hcl hg g1 hcode C' hP htr hf g3 fun ctv doc h' tk hk hsz => ?_
    exact k _ _ _ tk c ctv doc _ .cons ((S.grown hk).push (fnMade name t.2.2 params body scope clos doc ((W.mg "__name__").getD .none) c ctv)) (.head _) (CodeX.mono (Hs.sub .cons) ⟨c, oc, vs, _, rfl, hx⟩)
theorem make_lam {body : Expr} (hA : AOk W lv A h₀ fenv L) (hG : W.Gl = GlT tabs) (ht : t ∈ tabs) (hnd : (tabs.map (·.2.1)).Nodup) (hC : CodeHd W.base t.1 t.2.1) (S : SS W h₀ L m mu fz s.heap) (hcl : closureFor scope env = pure clos) (hg : env.globals = mainGlobals) (hcode : env.code = .ref t.1)
    (k : ∀ f fz' h' tk' c ctv pm, Sub fz fz' → SS W h₀ L m mu fz' h' → (f, kla_obj name t.2.2 params body scope clos pm c ctv) ∈ fz' → CodeX (Hs W.base fz') (.ref c) t.2.2 → Q (.ref f) { s with heap := h', toks := tk' }) :
    wpAny (model W.prog W.w) A (makeFunction name t.2.2 params (.expr body) scope env [] [] [] pos firstLine) Q E s := by
  obtain ⟨ps, hP, htr, hc, hPL, hPn, made⟩ := S.made hG ht hnd
  obtain ⟨g1, g2, g3⟩ := builtAt hA S hP rfl ⟨_, rfl⟩ hPn
  have C' : CodeHd s.heap t.1 t.2.1 := hC.keeps fun b o e => S.fr.keep _ _ (S.bs _ _ e)
  cases hf : codeAmong pos ps.toList with
  | none =>
    refine kla_makeFunction (mg := W.mg) hcl hg g1 hcode C' hP htr hf g2 g3 fun c' ctv h' tk hx hge hlt hrec htb => ?_
    obtain ⟨c₂, oc, vs, tq, e2, hoc, hd, hv⟩ := hrec
    cases e2
    obtain ⟨S', cx⟩ := made (h'.push (kla_obj name t.2.2 params body scope clos ((W.mg "__name__").getD .none) c' ctv)) c' oc vs tq pos.line pos.col h'.objs.size _ (Heap.get?_none_of_le hge) hlt (Heap.get?_push_of_some _ hoc) hd hv (Heap.get?_push_size _ rfl)
      (Nat.le_trans hge (Nat.le_of_lt hlt)) (Heap.get?_push_of_some _ htb) fun b o hb e => Heap.get?_push_of_some _ (hx b o hb e)
    exact k _ _ _ tk c' ctv _ (Sub.cons.trans .cons) S' (.head _) cx
  | some cv =>
    obtain ⟨c, oc, vs, tk, rfl, hx⟩ := hc pos cv hf
    refine kla_makeFunctionHit (mg := W.mg) hcl hg g1 hcode C' hP htr hf g3 fun ctv h' tk hk hsz => ?_
    exact k _ _ _ tk c ctv _ .cons ((S.grown hk).push (kla_obj name t.2.2 params body scope clos ((W.mg "__name__").getD .none) c ctv)) (.head _) (CodeX.mono (Hs.sub .cons) ⟨c, oc, vs, _, rfl, hx⟩)
end
end Mine
end
section
open PySem PySem.W PyProof.Rows
set_option linter.unusedVariables false
set_option maxRecDepth 100000
namespace Mine
open PySem.Calls PySem.Spec PySem.SeqAt

/-- the names that a closure brings -/
noncomputable def ClR (W : Wd) (X : Fact) (mu : Led) (ps : List Str) (ad : Str → Addr) (names : List (Str × NameKind)) (cl : List (Str × Addr)) (ρ : Names) : Prop :=
  ∀ x pv, ρ.lookup x = some pv → PlainName x ∧ names.lookup x = some .free ∧ ∃ c o v, cl.lookup x = some c ∧ X c o ∧ W.base.get? c = none ∧ o.data = .cell (some v) ∧ PRep W X mu v pv ∧
    ∀ ds, pv = .lst ds → x ∈ ps ∧ v = .ref (ad x) ∧ ListAt mu X (ad x) ds
structure ClosOk (names : List (Str × NameKind)) (cl : List (Str × Addr)) : Prop where
  all : ∀ x, names.lookup x = some .free → (cl.lookup x).isSome = true
  inj : ∀ x y c, cl.lookup x = some c → cl.lookup y = some c → x = y
noncomputable def scP' (scope : Scope) : Bool := scope.kind == .function && scope.names.all fun p => scope.names.lookup p.1 == some p.2 && (p.2 == .local || p.2 == .free || p.2 == .globalImplicit)

section
variable {W : Wd} {lv : Nat} {scope sc : Scope} {ps : List Str} {ρ ρc : Names} {out : Out} {A : Around} {h₀ : Heap} {fenv : Env} {L : Addr} {m : Str → Option Value} {mu fz : Led} {s : Shared} {E : Value → Shared → Prop}
  {name qual : Str} {params : Arguments} {body : List Stmt} {dV kV doc pm cdv ct : Value} {an : Option Addr} {fo : Obj} {f : Addr} {vs : List Value} {kvs : List (Str × Value)} {binds : List (Str × Value)} {ad : Str → Addr} {cl : List (Str × Addr)}
/-- the frame of a closure's call -/
theorem enterP {g h₁ : Heap} {L' : Addr} {gl : Led} {cdv : Value} (hsc : scP' scope = true) (hin : (binds.all fun y => scope.names.lookup y.1 == some .local) = true) (hbn : (binds.map (·.1)).Nodup) (hco : ClosOk scope.names cl)
    (hB : BindR W (Hs W.base fz) mu ps ad binds ρ) (hC : ClR W (Hs W.base fz) mu ps ad scope.names cl ρc) (hpp : ∀ x ∈ ps, ∃ o, (ad x, o) ∈ mu) (hij : ∀ x ∈ ps, ∀ y ∈ ps, ad x = ad y → x = y) (hns : sc.names = scope.names) (hmo : sc.more = [])
    (hA : AOk W (lv + 1) A h₀ fenv L) (hg : W.Gl gl (Hs W.base fz)) (l : Ld h₀ L s.heap (gl ++ (mu ++ fz))) (bs : ∀ b o, W.base.get? b = some o → h₀.get? b = some o)
    (F' : Fr g L' h₁ (fun y => binds.reverse.lookup y)) (N' : News g L' h₁ (gl ++ (mu ++ fz))) (B' : Below A W.base (fenv :: (A.frames.getD []).tail) g ∧ A.frames = some (fenv :: (A.frames.getD []).tail)) (st : h₀.StaysIn g) :
    AOk W lv (A.deeper (envX qual scope L' f cdv cl)) g (envX qual scope L' f cdv cl) L' ∧ EnvOk (envX qual scope L' f cdv cl) sc ∧
      FS W sc ps g L' (fun y => binds.reverse.lookup y) [] [] mu fz (envX qual scope L' f cdv cl) ad (ρ ++ ρc) h₁ := by
  simp only [scP', Bool.and_eq_true, beq_iff_eq, List.all_eq_true, Bool.or_eq_true] at hsc
  obtain ⟨hkind, hall⟩ := hsc
  have S' : SS W g L' (fun y => binds.reverse.lookup y) ([] ++ ([] ++ mu)) fz h₁ := ⟨F', ⟨gl, hg, N', l.nodup⟩, fun b o e => st b o (bs b o e)⟩
  have hkn : ∀ y, (envX qual scope L' f cdv cl).kindOf y = scope.names.lookup y := fun y => rfl
  have noCell : ∀ x, scope.names.lookup x ≠ some .cell := fun x hx => by
    obtain ⟨_, h1⟩ := hall _ (PySem.mem_of_lookup hx)
    rcases h1 with (h1 | h1) | h1 <;> cases h1
  have inFz : ∀ c o, Hs W.base fz c o → W.base.get? c = none → (c, o) ∈ fz := fun c o h hn => by
    rcases h with h | h
    · rw [hn] at h; cases h
    · exact h
  have loads : ∀ x v, binds.lookup x = some v → Loads (envX qual scope L' f cdv cl) L' (fun y => binds.reverse.lookup y) ([] ++ (([] ++ mu) ++ fz)) x v := by
    intro x v hx
    have hm := List.all_eq_true.mp hin (x, v) (PySem.mem_of_lookup hx)
    have hm : scope.names.lookup x = some .local := by simpa using hm
    exact .here rfl hm (revLookup hbn hx)
  have loadc : ∀ x c o v, scope.names.lookup x = some .free → cl.lookup x = some c → Hs W.base fz c o → W.base.get? c = none → o.data = .cell (some v) → Loads (envX qual scope L' f cdv cl) L' (fun y => binds.reverse.lookup y) ([] ++ (([] ++ mu) ++ fz)) x v := by
    intro x c o v h1 h2 h3 h4 h5
    exact .cell (.inr h1) h2 (List.mem_append_right _ (List.mem_append_right _ (inFz c o h3 h4))) h5
  have look : ∀ x pv, (ρ ++ ρc).lookup x = some pv → ρ.lookup x = some pv ∨ ρc.lookup x = some pv := by
    intro x pv hx
    rw [lookup_append] at hx
    cases e : ρ.lookup x with
    | none => rw [e] at hx; exact .inr (by simpa using hx)
    | some q => rw [e] at hx; exact .inl (by simpa using hx)
  have all : ∀ x pv, (ρ ++ ρc).lookup x = some pv → PlainName x ∧ ∃ v, Loads (envX qual scope L' f cdv cl) L' (fun y => binds.reverse.lookup y) ([] ++ (([] ++ mu) ++ fz)) x v ∧ PRep W (Hs W.base fz) mu v pv ∧ ∀ ds, pv = .lst ds → x ∈ ps ∧ v = .ref (ad x) ∧ ListAt mu (Hs W.base fz) (ad x) ds := by
    intro x pv hx
    rcases look x pv hx with hx | hx
    · obtain ⟨a, v, b, c, d⟩ := hB x pv hx
      exact ⟨a, v, loads x v b, c, d⟩
    · obtain ⟨a, b, c, o, v, d, e, e', g', i, j⟩ := hC x pv hx
      exact ⟨a, v, loadc x c o v b d e e' g', i, j⟩
  obtain ⟨hB1, hB2⟩ := B'
  refine ⟨⟨hA.hh, ⟨_, A, ?_, hB1⟩, rfl, hkind, ?_, ?_, hA.K.keeps st, hA.T.keeps st⟩, ⟨hkind, rfl, rfl, fun n hn => by rw [hns] at hn; exact hn, fun n kd hn hk => ?_, hco.inj, fun c hc => (by rw [hmo] at hc; cases hc), fun c hc => (by rw [hmo] at hc; cases hc), fun n hn => (by rw [hns] at hn; exact hn)⟩,
    ⟨S', fun x pv hx => ?_, fun x ds hx => ?_, fun x y ds es hx hy e => ?_, fun x hx => ?_, hpp⟩⟩
  · show A.frames.map _ = _
    rw [hB2]; rfl
  · have := hA.dp; show A.depth + 1 + lv < _; (clear hB2 hB1 all look loadc loads inFz noCell hkn S' hall hkind st N' F' bs l hg hA hmo hns hij hpp hC hB hco hbn hin; lia)
  · have := hA.un; show A.units + 3 + (16 * lv + 64) < _; (clear hB2 hB1 all look loadc loads inFz noCell hkn S' hall hkind st N' F' bs l hg hA hmo hns hij hpp hC hB hco hbn hin; lia)
  · rw [hns] at hn
    rcases hk with rfl | rfl
    · exact absurd hn (noCell n)
    · exact ⟨.inr hn, hco.all n hn⟩
  · obtain ⟨a, v, b, c, d⟩ := all x pv hx
    exact ⟨a, v, b, by rw [List.nil_append]; exact c⟩
  · obtain ⟨a, v, b, c, d⟩ := all x _ hx
    obtain ⟨h1, rfl, h3⟩ := d ds rfl
    rw [if_pos h1]
    exact ⟨b, h3⟩
  · obtain ⟨_, _, _, _, d⟩ := all x _ hx
    obtain ⟨_, _, _, _, d'⟩ := all y _ hy
    exact hij x (d _ rfl).1 y (d' _ rfl).1 e
  · rw [hns] at hx
    rcases hx with hx | hx
    · exact .inl ⟨hx, .inl rfl⟩
    · exact absurd hx (noCell x)
theorem call_P (hA : AOk W (lv + 1) A h₀ fenv L) (S : SS W h₀ L m mu fz s.heap) (hf : Hs W.base fz f fo) (hd : fo.data = .func (fnX name qual params body scope cl dV kV doc pm an cdv ct))
    (hcd : CodeX (Hs W.base fz) cdv qual) (hbind : BindsTo s (fnX name qual params body scope cl dV kV doc pm an cdv ct) ⟨vs, kvs⟩ binds)
    (hsc : scP' scope = true) (hin : (binds.all fun y => scope.names.lookup y.1 == some .local) = true) (hbn : (binds.map (·.1)).Nodup) (hcl : ClosOk scope.names cl)
    (hB : BindR W (Hs W.base fz) mu ps ad binds ρ) (hC : ClR W (Hs W.base fz) mu ps ad scope.names cl ρc) (hpp : ∀ x ∈ ps, ∃ o, (ad x, o) ∈ mu) (hij : ∀ x ∈ ps, ∀ y ∈ ps, ad x = ad y → x = y) (hns : sc.names = scope.names) (hmo : sc.more = []) (hb : EXS W lv sc ps (ρ ++ ρc) body out) (Q : Value → Shared → Prop)
    (k : ∀ v fz' mu' (ad' : Str → Addr) h' tk', Sub fz fz' → SS W h₀ L m mu' fz' h' → RetR out (Hs W.base fz') v → Par ps ad mu mu' → (∀ x ∈ ps, ad' x = ad x) → (∀ x ∈ ps, ∀ ds, out.names.lookup x = some (.lst ds) → ListAt mu' (Hs W.base fz') (ad x) ds) → Q v { s with heap := h', toks := tk' })
    (hco : scope.isCoroutine = false := by rfl) (hgen : scope.isGenerator = false := by rfl) (hpl : out.plain = true := by rfl) :
    wpAny (model W.prog W.w) A (call (.ref f) vs kvs) Q E s := by
  obtain ⟨outer, A₀, hfr, B⟩ := hA.fr
  have S0 := S
  obtain ⟨F, ⟨gl, hg, l⟩, bs⟩ := S
  have hsc0 := hsc
  simp only [scP', Bool.and_eq_true, beq_iff_eq, List.all_eq_true, Bool.or_eq_true] at hsc
  obtain ⟨hkind, hall⟩ := hsc
  refine wpAny_call (callX_plain B F l.news hA.T.nolimit hfr hA.hf hA.hk (S0.has hf) hd (hcd.rec fun a o e => S0.has e) (by have := hA.dp; (clear hall hkind hsc0 l hg bs F S0 B hfr hpl hgen hco k hb hmo hns hij hpp hC hB hcl hbn hin hbind hcd hd hf hA; lia)) hbind (fun y hy => by have := List.all_eq_true.mp hin y hy; simpa using this) (fun g L' h₁ FG F' N' B' st hlt => ?_) (fun x hx e => ?_) hco hgen hkind)
  · obtain ⟨A', E', fs⟩ := enterP (qual := qual) (f := f) (cdv := cdv) hsc0 hin hbn hcl hB hC hpp hij hns hmo hA hg l bs F' N' ⟨by rw [hfr]; exact B', by rw [hfr]; rfl⟩ st
    refine hb _ g L' _ [] [] mu fz _ ad _ _ _ A' E' fs fun fl m'' loc'' own'' par'' fz'' ad'' h'' tk'' s'' x'' f'' p'' a'' l'' => ?_
    cases out with
    | esc _ => cases hpl
    | next ρ' =>
      cases f''
      have x'' : FS W sc ps g L' m'' loc'' own'' par'' fz'' _ ad'' ρ' h'' := x''
      refine SS.leave st bs x''.ss fun S₂ => k _ fz'' par'' ad'' h'' tk'' s'' S₂ rfl p'' a'' fun x hx ds hl => ?_
      have := (x''.ls x ds hl).2
      rw [if_pos hx, a'' x hx] at this
      exact this
    | ret d ρ' =>
      obtain ⟨v, rfl, rv⟩ := f''
      obtain ⟨sc₂, x''⟩ := x''
      refine SS.leave st bs x''.ss fun S₂ => k _ fz'' par'' ad'' h'' tk'' s'' S₂ rv p'' a'' fun x hx ds hl => ?_
      have := (x''.ls x ds hl).2
      rw [if_pos hx, a'' x hx] at this
      exact this
  · obtain ⟨_, h1⟩ := hall x hx
    rw [e] at h1
    rcases h1 with (h1 | h1) | h1 <;> cases h1
end
end Mine
end
section
open PySem PySem.W PyProof.Rows
set_option linter.unusedVariables false
set_option maxRecDepth 100000
namespace Mine
open PySem.Calls PySem.Spec PySem.SeqAt

/-- parameters and their data -/
noncomputable def zipD : List Str → List Dat → Names
  | x :: xs, d :: ds => (x, .dat d) :: zipD xs ds
  | _, _ => []
theorem bindR_zip {W : Wd} {X : Fact} {mu : Led} {ps : List Str} {ad : Str → Addr} : ∀ {pn : List Str} {vs : List Value} {ds : List Dat}, (∀ x ∈ pn, PlainName x) → pn.Nodup → vs.length = pn.length → RepA X vs ds → BindR W X mu ps ad (pn.zip vs) (zipD pn ds)
  | [], _, _, _, _, _, _ => by intro x pv hx; cases hx
  | x :: pn, v :: vs, d :: ds, hp, nd, hl, .cons r rs => by
    rw [List.nodup_cons] at nd
    have ih := bindR_zip (W := W) (mu := mu) (ps := ps) (ad := ad) (fun y hy => hp y (.tail _ hy)) nd.2 (by simpa using hl) rs
    refine .dat (hp x (.head _)) (by simp) r fun y pv hy => ?_
    obtain ⟨a, w, b, c⟩ := ih y pv hy
    refine ⟨a, w, ?_, c⟩
    rw [List.zip_cons_cons, List.lookup_cons]
    have : (y == x) = false := by
      cases e : y == x with
      | false => rfl
      | true =>
        have := PySem.mem_of_lookup b
        rw [beq_iff_eq.mp e] at this
        exact absurd (List.of_mem_zip this).1 nd.1
    rw [this]; exact b
  | x :: pn, v :: vs, [], _, _, _, r => by cases r
  | x :: pn, [], _, _, _, hl, _ => by simp at hl

section
variable {W : Wd} {lv : Nat} {scope sc : Scope} {ρc : Names} {X : Fact} {name qual : Str} {params : Arguments} {body : List Stmt} {dV kV doc pm cdv ct : Value} {an : Option Addr} {fo : Obj} {f : Addr} {cl : List (Str × Addr)} {F : List Dat → Option Dat} {pn : List Str}
theorem ClR.mono {Y : Fact} {mu : Led} {ad : Str → Addr} {names : List (Str × NameKind)} (s : FSub X Y) (h : ClR W X [] [] ad names cl ρc) : ClR W Y mu [] ad names cl ρc := by
  intro x pv hx
  obtain ⟨a, b, c, o, v, d, e, e', g, i, j⟩ := h x pv hx
  refine ⟨a, b, c, o, v, d, s _ _ e, e', g, i.mono s (fun _ h => by cases h), fun ds hl => ?_⟩
  obtain ⟨h1, _⟩ := j ds hl
  cases h1
/-- a def that closes over data is a function on data -/
theorem callok_P (hf : X f fo) (hd : fo.data = .func (fnX name qual params body scope cl dV kV doc pm an cdv ct)) (hcd : CodeX X cdv qual) (hbind : ∀ vs : List Value, vs.length = pn.length → bindArgs (fnX name qual params body scope cl dV kV doc pm an cdv ct) ⟨vs, []⟩ = pure (pn.zip vs))
    (hsc : scP' scope = true) (hpn : (pn.all fun y => scope.names.lookup y == some .local) = true) (hnd : pn.Nodup) (hpl : ∀ x ∈ pn, PlainName x) (hcl : ClosOk scope.names cl) (hC : ClR W X [] [] (fun _ => 0) scope.names cl ρc) (hns : sc.names = scope.names) (hmo : sc.more = [])
    (hb : ∀ ds d, F ds = some d → ds.length = pn.length ∧ EXR W lv sc (zipD pn ds ++ ρc) body d) (hco : scope.isCoroutine = false := by rfl) (hgen : scope.isGenerator = false := by rfl) : CallOk W (lv + 1) X (.ref f) F := by
  refine ⟨f, fo, _, rfl, hf, hd, fun A h₀ fenv L m mu fz s vs ds d Q E hA hX S hr hF k => ?_⟩
  obtain ⟨hl, ρ', hb⟩ := hb ds d hF
  have hvl : vs.length = pn.length := by rw [hr.length, hl]
  refine call_P (ps := []) (ad := fun _ => 0) (sc := sc) hA S (hX _ _ hf) hd (hcd.mono hX) (BindsTo.of_eq (hbind vs hvl)) hsc (List.all_eq_true.mpr fun p hp => ?_) ?_ hcl (bindR_zip hpl hnd hvl hr) (ClR.mono hX hC) (fun _ h => by cases h) (fun _ h => by cases h) hns hmo hb Q (fun v fz' mu' ad' h' tk' s' S' r p _ _ => ?_) hco hgen
  · exact List.all_eq_true.mp hpn p.1 (List.of_mem_zip hp).1
  · rw [List.map_fst_zip (by (clear hb hl k hF hr S hX hA hgen hco hmo hns hC hcl hpl hnd hpn hsc hbind hcd hd hf; lia))]; exact hnd
  · have e := p.eq (by
      obtain ⟨_, ⟨gl, _, l⟩, _⟩ := S'
      have nd := l.nodup
      rw [List.map_append, List.nodup_append, List.map_append, List.nodup_append] at nd
      exact nd.2.1.1)
    subst e
    exact k v fz' h' tk' s' S' r
/-- a lambda is one -/
theorem callok_L {body : Expr} {ctv : Value} {c' : Addr} (hf : X f (kla_obj name qual params body scope cl pm c' ctv)) (hfn : W.base.get? f = none) (hcd : CodeX X (.ref c') qual) (hbind : ∀ vs : List Value, vs.length = pn.length → bindArgs (kla_fn name qual params body scope cl pm (.ref c') ctv) ⟨vs, []⟩ = pure (pn.zip vs))
    (hsc : scP' scope = true) (hpn : (pn.all fun y => scope.names.lookup y == some .local) = true) (hnd : pn.Nodup) (hpl : ∀ x ∈ pn, PlainName x) (hcl : ClosOk scope.names cl) (hC : ClR W X [] [] (fun _ => 0) scope.names cl ρc) (hns : sc.names = scope.names) (hmo : sc.more = [])
    (hb : ∀ ds d, F ds = some d → ds.length = pn.length ∧ EV W lv sc (zipD pn ds ++ ρc) body (.dat d)) (hco : scope.isCoroutine = false := by rfl) (hgen : scope.isGenerator = false := by rfl) : CallOk W (lv + 1) X (.ref f) F := by
  refine ⟨f, _, _, rfl, hf, rfl, fun A h₀ fenv L m mu fz s vs ds d Q E hA hX S hr hF k => ?_⟩
  obtain ⟨hl, hb⟩ := hb ds d hF
  have hvl : vs.length = pn.length := by rw [hr.length, hl]
  obtain ⟨outer, A₀, hfr, B⟩ := hA.fr
  have S0 := S
  obtain ⟨F₀, ⟨gl, hg, l⟩, bs⟩ := S
  have hsc0 := hsc
  simp only [scP', Bool.and_eq_true, beq_iff_eq, List.all_eq_true, Bool.or_eq_true] at hsc
  obtain ⟨hkind, hall⟩ := hsc
  have hfz : (f, kla_obj name qual params body scope cl pm c' ctv) ∈ fz := by
    rcases hX _ _ hf with h | h
    · rw [hfn] at h; cases h
    · exact h
  have hin : ((pn.zip vs).all fun y => scope.names.lookup y.1 == some .local) = true := List.all_eq_true.mpr fun p hp => List.all_eq_true.mp hpn p.1 (List.of_mem_zip hp).1
  refine wpAny_call (kla_code (K := W.K) B F₀ hA.K l.news hA.T hfr hA.hf hA.hk (List.mem_append_right _ (List.mem_append_right _ hfz)) ((hcd.mono hX).rec fun a o e => S0.has e) (by have := hA.dp; (clear hin hfz hall hkind hsc0 l hg bs F₀ S0 B hfr hvl hb hl k hF hr hX hA hgen hco hmo hns hC hcl hpl hnd hpn hbind hcd hfn hf; lia)) (hbind vs hvl) (fun y hy => by have := List.all_eq_true.mp hin y hy; simpa using this) (fun g L' h₁ FG F' N' B' Kg Tg => ?_) hco hgen hkind (fun x hx e => ?_))
  · have st : h₀.StaysIn g := FG.keep
    obtain ⟨A', E', fs⟩ := enterP (sc := sc) (qual := qual) (f := f) (cdv := .ref c') (ps := []) (ad := fun _ => 0) hsc0 hin (by rw [List.map_fst_zip (by (clear st Tg Kg B' N' F' FG hin hfz hall hkind hsc0 l hg bs F₀ S0 B hfr hb hl k hF hr hX hA hgen hco hmo hns hC hcl hpl hnd hpn hbind hcd hfn hf; lia))]; exact hnd) hcl (bindR_zip hpl hnd hvl hr) (ClR.mono hX hC) (fun _ h => by cases h) (fun _ h => by cases h) hns hmo hA hg l bs F' N' ⟨by rw [hfr]; exact B', by rw [hfr]; rfl⟩ st
    refine hb _ g _ L' _ _ fz _ _ _ _ A' E' fs.ss fs.full fun v fz' h' tk' s' S' R' => ?_
    exact SS.leave st bs S' fun S₂ => k v fz' h' tk' s' S₂ R'
  · obtain ⟨_, h1⟩ := hall x hx
    rw [e] at h1
    rcases h1 with (h1 | h1) | h1 <;> cases h1
end
end Mine
end
section
open PySem PySem.W PyProof.Rows
set_option linter.unusedVariables false
set_option maxRecDepth 100000
namespace Mine
open PySem.Calls PySem.Spec PySem.SeqAt

/-- y's cell turns no more -/
noncomputable def unslot (sc : Scope) (y : Str) : Scope := { sc with names := sc.names.map fun p => (p.1, if p.1 == y then .free else p.2) }
theorem unslot_lookup {sc : Scope} {y x : Str} : (unslot sc y).names.lookup x = (sc.names.lookup x).map fun k => if x == y then .free else k :=
  lookup_mapKind (g := fun n k => if n == y then .free else k)
theorem unslot_self {sc : Scope} {y : Str} {k : NameKind} (h : sc.names.lookup y = some k) : (unslot sc y).names.lookup y = some .free := by
  rw [unslot_lookup, h]; simp
theorem unslot_ne {sc : Scope} {y x : Str} (h : x ≠ y) : (unslot sc y).names.lookup x = sc.names.lookup x := by
  rw [unslot_lookup]
  have : (x == y) = false := beq_eq_false_iff_ne.mpr h
  rw [this]
  cases sc.names.lookup x <;> rfl
theorem EnvOk.unslot {env : Env} {sc : Scope} {y : Str} (hE : EnvOk env sc) (hk : sc.names.lookup y = some .cell) : EnvOk env (Mine.unslot sc y) := by
  refine ⟨hE.kind, hE.glob, hE.blt, fun n hn => ?_, fun n k hn hkk => ?_, hE.inj, hE.code, hE.qual, fun n hn => ?_⟩
  · by_cases e : n = y
    · subst e; rw [unslot_self hk] at hn; cases hn
    · rw [unslot_ne e] at hn; exact hE.gl n hn
  · by_cases e : n = y
    · subst e; exact hE.cells n _ hk (.inl rfl)
    · rw [unslot_ne e] at hn; exact hE.cells n k hn hkk
  · by_cases e : n = y
    · subst e; rw [unslot_self hk] at hn; cases hn
    · rw [unslot_ne e] at hn; exact hE.lc n hn

section
variable {W : Wd} {sc : Scope} {ps : List Str} {h₀ h h' : Heap} {L : Addr} {m : Str → Option Value} {loc own par fz fz' : Led} {env : Env} {ad : Str → Addr} {ρ ρ' : Names}
theorem FS.freezeCellV (F : FS W sc ps h₀ L m loc own par fz env ad ρ h) (hE : EnvOk env sc) {y : Str} {v : Value} (hl : Loads env L m (loc ++ ((own ++ par) ++ fz)) y v) (hk : sc.names.lookup y = some .cell) :
    ∃ loc' c o, env.cells.lookup y = some c ∧ o.data = .cell (some v) ∧ W.base.get? c = none ∧ FS W (unslot sc y) ps h₀ L m loc' own par ((c, o) :: fz) env ad ρ h ∧ Loads env L m (loc' ++ ((own ++ par) ++ (c, o) :: fz)) y v := by
  obtain ⟨hkind, _⟩ := hE.cells y _ hk (.inl rfl)
  -- its cell
  obtain ⟨c, o₁, v₁, hc, hm₁, _⟩ : ∃ c o v₀, env.cells.lookup y = some c ∧ (c, o) ∈ loc ∧ o.data = .cell v₀ := by
    rcases F.st y (.inr hk) with ⟨q, _⟩ | ⟨_, q⟩
    · rw [q] at hkind; rcases hkind with e | e <;> cases e
    · exact q
  obtain ⟨o, hm, hd⟩ : ∃ o, (c, o) ∈ loc ∧ o.data = .cell (some v) := by
    cases hl with
    | here _ b _ => rw [b] at hkind; rcases hkind with e | e <;> cases e
    | block a _ _ _ => rw [a] at hkind; rcases hkind with e | e <;> cases e
    | @cell c₂ o₂ _ _ b c' d =>
      rw [hc] at b; cases b
      have := nd_inj F.nd (List.mem_append_left _ hm₁) c'
      subst this
      exact ⟨_, hm₁, d⟩
  obtain ⟨s, t, e⟩ := List.append_of_mem hm
  subst e
  have hb : W.base.get? c = none := by
    obtain ⟨_, ⟨gl, _, l⟩, bs⟩ := F.ss
    have := (l.news (c, o) (List.mem_append_right _ (List.mem_append_left _ (List.mem_append_left _ hm)))).2.2
    cases q : W.base.get? c with
    | none => rfl
    | some o' => rw [bs _ _ q] at this; cases this
  have N : Sub ((s ++ (c, o) :: t) ++ ((own ++ par) ++ fz)) ((s ++ t) ++ ((own ++ par) ++ (c, o) :: fz)) := fun p hp => by
    simp only [List.mem_append, List.mem_cons] at hp ⊢
    rcases hp with (h | h | h) | (h | h) | h
    · exact .inl (.inl h)
    · exact .inr (.inr (.inl h))
    · exact .inl (.inr h)
    · exact .inr (.inl (.inl h))
    · exact .inr (.inl (.inr h))
    · exact .inr (.inr (.inr h))
  refine ⟨s ++ t, c, o, hc, hd, hb, ⟨(F.ss.perm ?_).freeze, F.nm.sup (Hs.sub .cons) (Sub.refl _) N, fun z ds hz => ?_, F.ij, fun z hz => ?_, F.pp⟩, hl.mono N⟩
  · have := List.perm_middle (a := (c, o)) (l₁ := s) (l₂ := t ++ (own ++ par))
    simpa using this
  · obtain ⟨a, b⟩ := F.ls z ds hz
    exact ⟨a.mono N, b.mono (Hs.sub .cons) (Sub.refl _)⟩
  · have hzy : z ≠ y := fun e => by
      subst e
      rw [unslot_self hk] at hz
      rcases hz with e | e <;> cases e
    rw [unslot_ne hzy] at hz
    have drop : ∀ a o', (a, o') ∈ s ++ (c, o) :: t → a ≠ c → (a, o') ∈ s ++ t := fun a o' hm hn => by
      rcases List.mem_append.mp hm with h | h
      · exact List.mem_append_left _ h
      · rcases List.mem_cons.mp h with h | h
        · exact absurd (Prod.mk.inj h).1 hn
        · exact List.mem_append_right _ h
    rcases F.st z hz with ⟨a, b | ⟨o', mm, b, b'⟩⟩ | ⟨a, c', o', v', b, b', b''⟩
    · exact .inl ⟨a, .inl b⟩
    · refine .inl ⟨a, .inr ⟨o', mm, drop _ _ b fun e => ?_, b'⟩⟩
      rw [e] at b
      have := nd_inj F.nd (List.mem_append_left _ b) (List.mem_append_left _ hm)
      subst this
      obtain ⟨es, ep, q, _⟩ := b'
      rw [hd] at q; cases q
    · exact .inr ⟨a, c', o', v', b, drop _ _ b' fun e => hzy (hE.inj z y c (e ▸ b) hc), b''⟩
theorem FS.freezeCell (F : FS W sc ps h₀ L m loc own par fz env ad ρ h) (hE : EnvOk env sc) {y : Str} {pv : PV} (hy : ρ.lookup y = some pv) (hk : sc.names.lookup y = some .cell) :
    ∃ loc' c o v, env.cells.lookup y = some c ∧ o.data = .cell (some v) ∧ PRep W (Hs W.base fz) (own ++ par) v pv ∧ (∀ ds, pv = .lst ds → v = .ref (ad y)) ∧ W.base.get? c = none ∧ FS W (unslot sc y) ps h₀ L m loc' own par ((c, o) :: fz) env ad ρ h := by
  obtain ⟨v, hl, hr, hlst⟩ : ∃ v, Loads env L m (loc ++ ((own ++ par) ++ fz)) y v ∧ PRep W (Hs W.base fz) (own ++ par) v pv ∧ ∀ ds, pv = .lst ds → v = .ref (ad y) := by
    cases pv with
    | lst ds => exact ⟨_, (F.ls y ds hy).1, (F.listAt hy).prep, fun _ _ => rfl⟩
    | dat d => obtain ⟨_, v, a, b⟩ := F.nm y _ hy; exact ⟨v, a, b, fun _ h => by cases h⟩
    | fn lf G => obtain ⟨_, v, a, b⟩ := F.nm y _ hy; exact ⟨v, a, b, fun _ h => by cases h⟩
  obtain ⟨loc', c, o, a, b, b', F', _⟩ := F.freezeCellV hE hl hk
  exact ⟨loc', c, o, v, a, b, hr, hlst, b', F'⟩
theorem FS.setName (F : FS W sc ps h₀ L m loc own par fz env ad ρ h) {x : Str} {v : Value} {pv : PV} (hl : Loads env L m (loc ++ ((own ++ par) ++ fz)) x v) (hp : PlainName x) (hr : PRep W (Hs W.base fz) (own ++ par) v pv) (hn : ∀ ds, pv ≠ .lst ds) :
    FS W sc ps h₀ L m loc own par fz env ad ((x, pv) :: ρ) h := by
  have lk : ∀ {z ds}, ((x, pv) :: ρ).lookup z = some (.lst ds) → ρ.lookup z = some (.lst ds) := fun {z ds} hz => by
    rw [List.lookup_cons] at hz
    split at hz
    · cases hz; exact absurd rfl (hn ds)
    · exact hz
  refine ⟨F.ss, fun z q hz => ?_, fun z ds hz => F.ls z ds (lk hz), fun y z ds es hy hz => F.ij y z ds es (lk hy) (lk hz), F.st, F.pp⟩
  rw [List.lookup_cons] at hz
  split at hz
  · rename_i e; cases hz; rw [beq_iff_eq.mp e]; exact ⟨hp, v, hl, hr⟩
  · exact F.nm z q hz
noncomputable def unslots (sc : Scope) : List Str → Scope
  | [] => sc
  | y :: ys => unslots (unslot sc y) ys
/-- cells captured -/
noncomputable def CapR (W : Wd) (X : Fact) (mu fz : Led) (env : Env) (ad : Str → Addr) (ρc : Names) : Prop :=
  ∀ y pv, (y, pv) ∈ ρc → ∃ c o v, env.cells.lookup y = some c ∧ (c, o) ∈ fz ∧ W.base.get? c = none ∧ o.data = .cell (some v) ∧ PRep W X mu v pv ∧ ∀ ds, pv = .lst ds → v = .ref (ad y)
theorem FS.freezeCells : ∀ (ρc : Names) {sc : Scope} {loc fz : Led}, FS W sc ps h₀ L m loc own par fz env ad ρ h → EnvOk env sc → (∀ p ∈ ρc, ρ.lookup p.1 = some p.2 ∧ sc.names.lookup p.1 = some .cell) → (ρc.map (·.1)).Nodup →
    ∃ loc' fz', Sub fz fz' ∧ FS W (unslots sc (ρc.map (·.1))) ps h₀ L m loc' own par fz' env ad ρ h ∧ EnvOk env (unslots sc (ρc.map (·.1))) ∧ CapR W (Hs W.base fz') (own ++ par) fz' env ad ρc
  | [], sc, loc, fz, F, hE, _, _ => ⟨loc, fz, Sub.refl _, F, hE, fun _ _ h => by cases h⟩
  | (y, pv) :: r, sc, loc, fz, F, hE, hρ, nd => by
    rw [List.map_cons, List.nodup_cons] at nd
    obtain ⟨h1, h2⟩ := hρ (y, pv) (.head _)
    obtain ⟨loc₁, c, o, v, e1, e2, e3, e4, e5, F₁⟩ := F.freezeCell hE h1 h2
    obtain ⟨loc₂, fz₂, s₂, F₂, hE₂, C₂⟩ := FS.freezeCells r F₁ (hE.unslot h2) (fun p hp => ⟨(hρ p (.tail _ hp)).1, by
      have hne : p.1 ≠ y := fun e => nd.1 (List.mem_map.mpr ⟨p, hp, e⟩)
      rw [unslot_ne hne]; exact (hρ p (.tail _ hp)).2⟩) nd.2
    refine ⟨loc₂, fz₂, Sub.trans .cons s₂, F₂, hE₂, fun z q hz => ?_⟩
    rcases List.mem_cons.mp hz with e | hz
    · cases e
      exact ⟨c, o, v, e1, s₂ _ (.head _), e5, e2, e3.mono (Hs.sub (Sub.trans .cons s₂)) (Sub.refl _), e4⟩
    · exact C₂ z q hz
theorem unslots_glob {x : Str} {k : NameKind} : ∀ {ys : List Str} {sc : Scope}, x ∉ ys → (unslots sc ys).names.lookup x = sc.names.lookup x
  | [], _, _ => rfl
  | y :: ys, sc, h => by
    rw [List.mem_cons] at h
    show (unslots (unslot sc y) ys).names.lookup x = _
    rw [unslots_glob (k := k) (fun q => h (.inr q)), unslot_ne fun e => h (.inl e)]
end
end Mine
end
section
open PySem PySem.W PyProof.Rows
set_option linter.unusedVariables false
set_option maxRecDepth 100000
namespace Mine
open PySem.Calls PySem.Spec PySem.SeqAt

/-- what is asked of a scope of an inner def or lambda, of what it captures -/
structure Inner (lsc : Scope) (ρc : Names) : Prop where
  sc : scP' lsc = true
  free : ∀ y, lsc.names.lookup y = some .free → y ∈ ρc.map (·.1)
  cap : ∀ p ∈ ρc, lsc.names.lookup p.1 = some .free
  nd : (ρc.map (·.1)).Nodup
  pl : ∀ p ∈ ρc, PlainName p.1
noncomputable def innerB (lsc : Scope) (keys : List Str) : Bool := scP' lsc && (lsc.names.all fun p => p.2 != .free || keys.contains p.1) && (keys.all fun y => lsc.names.lookup y == some .free) && (keys.all fun y => !(y == ("__debug__" : Str)) && !(y == ("__classdict__" : Str)))
theorem innerOk {lsc : Scope} {ρc : Names} {keys : List Str} (h : innerB lsc keys = true) (nd : keys.Nodup) (e : ρc.map (·.1) = keys) : Inner lsc ρc := by
  subst e
  simp only [innerB, Bool.and_eq_true, List.all_eq_true, beq_iff_eq, Bool.or_eq_true] at h
  obtain ⟨⟨⟨h1, h2⟩, h3⟩, h4⟩ := h
  refine ⟨h1, fun y hy => ?_, fun p hp => h3 p.1 (List.mem_map.mpr ⟨p, hp, rfl⟩), nd, fun p hp => ?_⟩
  · rcases h2 _ (PySem.mem_of_lookup hy) with q | q
    · cases q
    · simpa using q
  · obtain ⟨a, b⟩ := h4 p.1 (List.mem_map.mpr ⟨p, hp, rfl⟩)
    exact ⟨by simpa using a, by simpa using b⟩
/-- captured names as they stand -/
noncomputable def CapN (ρ : Names) (sc : Scope) : Names → Prop
  | [] => True
  | (x, pv) :: r => (ρ.lookup x = some pv ∧ sc.names.lookup x = some .cell) ∧ CapN ρ sc r
theorem CapN.all {ρ : Names} {sc : Scope} : ∀ {ρc : Names}, CapN ρ sc ρc → ∀ p ∈ ρc, ρ.lookup p.1 = some p.2 ∧ sc.names.lookup p.1 = some .cell
  | (x, pv) :: r, h, p, hp => by
    rcases List.mem_cons.mp hp with e | hp
    · cases e; exact h.1
    · exact CapN.all h.2 p hp
theorem plainAll {l : List Str} (h : (l.all fun y => !(y == ("__debug__" : Str)) && !(y == ("__classdict__" : Str))) = true) : ∀ y ∈ l, PlainName y := fun y hy => by
  have := List.all_eq_true.mp h y hy
  simp only [Bool.and_eq_true] at this
  exact ⟨by simpa using this.1, by simpa using this.2⟩
/-- what is asked of the tables -/
structure Tabs (W : Wd) (tabs : List (Addr × Addr × Str)) (t : Addr × Addr × Str) : Prop where
  gl : W.Gl = GlT tabs
  mem : t ∈ tabs
  nd : (tabs.map (·.2.1)).Nodup
  code : CodeHd W.base t.1 t.2.1
theorem capR_closed {W : Wd} {X : Fact} {mu fz : Led} {env : Env} {ad : Str → Addr} {ρc : Names} {lsc : Scope} (I : Inner lsc ρc) (hinj : ∀ x y c, env.cells.lookup x = some c → env.cells.lookup y = some c → x = y) (C : CapR W X mu fz env ad ρc) :
    closureFor lsc env = pure (closL env.cells lsc.names []) ∧ ClosOk lsc.names (closL env.cells lsc.names []) ∧ ∀ y, lsc.names.lookup y = some .free → ∃ c, env.cells.lookup y = some c := by
  have hc : ∀ y, lsc.names.lookup y = some .free → ∃ c, env.cells.lookup y = some c := fun y hy => by
    obtain ⟨p, hp, e⟩ := List.mem_map.mp (I.free y hy)
    obtain ⟨c, _, _, q, _⟩ := C p.1 p.2 hp
    exact ⟨c, by rw [← e]; exact q⟩
  have hmem : ∀ y, (y, NameKind.free) ∈ lsc.names → lsc.names.lookup y = some .free := fun y hy => by
    have := I.sc
    simp only [scP', Bool.and_eq_true, List.all_eq_true, beq_iff_eq] at this
    exact (this.2 _ hy).1
  refine ⟨closureFor_ok fun y hy => ?_, ⟨fun y hy => ?_, fun x y c hx hy => ?_⟩, hc⟩
  · obtain ⟨c, q⟩ := hc y (hmem y hy)
    rw [q]; rfl
  · obtain ⟨c, q⟩ := hc y hy
    rw [closL_at q _ _ (PySem.mem_of_lookup hy)]; rfl
  · exact hinj x y c (closL_of _ _ (fun _ _ h => by cases h) hx) (closL_of _ _ (fun _ _ h => by cases h) hy)
theorem capR_clR {W : Wd} {X : Fact} {mu fz : Led} {env : Env} {ad : Str → Addr} {ρc : Names} {lsc : Scope} (I : Inner lsc ρc) (hX : ∀ a o, (a, o) ∈ fz → X a o) (C : CapR W X mu fz env ad ρc) (hd : allDat ρc = true) :
    ClR W X [] [] (fun _ => 0) lsc.names (closL env.cells lsc.names []) ρc := by
  intro y pv hy
  have hm := PySem.mem_of_lookup hy
  obtain ⟨c, o, v, e1, e2, e3, e4, e5, e6⟩ := C y pv hm
  have hne : ∀ ds, pv ≠ .lst ds := fun ds q => by
    have := List.all_eq_true.mp hd _ hm
    subst q
    cases this
  refine ⟨I.pl _ hm, I.cap _ hm, c, o, v, closL_at e1 _ _ (PySem.mem_of_lookup (I.cap _ hm)), hX _ _ e2, e3, e4, ?_, fun ds q => absurd q (hne ds)⟩
  cases pv with
  | dat d => exact e5
  | fn lf G => exact e5
  | lst ds => exact absurd rfl (hne ds)
section
variable {W : Wd} {lv lf : Nat} {sc lsc lsc' : Scope} {ρ ρc : Names} {tabs : List (Addr × Addr × Str)} {t : Addr × Addr × Str} {x : Str} {px pos lpos : Pos} {params : Arguments} {F : List Dat → Option Dat} {pn : List Str} {q : Str} {rest : List Stmt} {d : Dat}
/-- the function of depth n-1 -/
noncomputable def below (F : Nat → List Dat → Option Dat) : Nat → List Dat → Option Dat
  | 0 => fun _ => none
  | n + 1 => F n
/-- def x(..): .. that captures names that turn no more, and itself -/
theorem exr_def {body : List Stmt} {ρ₁ : Names} (hT : Tabs W tabs t) (hcode : sc.more.lookup ("@code" : Str) = some (.int t.1)) (hqual : sc.more.lookup ("@qual" : Str) = some (.str q)) (hq : q ++ x = t.2.2)
    (I : ∀ pv, Inner lsc ((x, pv) :: ρ₁)) (hρ : ∀ p ∈ ρ₁, ρ.lookup p.1 = some p.2 ∧ sc.names.lookup p.1 = some .cell) (hd : allDat ρ₁ = true) (hx : sc.names.lookup x = some .cell) (hp : PlainName x)
    (hd0 : params.defaults = []) (hk0 : params.kw_defaults = []) (ha : ∀ env, annTrees params none env = []) (hbind : ∀ (vs : List Value) (cl : List (Str × Addr)) (doc pm cdv ctv : Value), vs.length = pn.length → bindArgs (fnX x t.2.2 params body lsc cl .none .none doc pm none cdv ctv) ⟨vs, []⟩ = pure (pn.zip vs))
    (hpn : (pn.all fun y => lsc.names.lookup y == some .local) = true) (hnd : pn.Nodup) (hpl : ∀ y ∈ pn, PlainName y) (hns : lsc'.names = lsc.names) (hmo : lsc'.more = []) (F : Nat → List Dat → Option Dat)
    (hb : ∀ n ds d, F n ds = some d → ds.length = pn.length ∧ EXR W n lsc' (zipD pn ds ++ ((x, .fn n (below F n)) :: ρ₁)) body d) (hco : lsc.isCoroutine = false) (hgen : lsc.isGenerator = false) (N : Nat)
    (k : EXR W lv (unslot (unslots sc (ρ₁.map (·.1))) x) ((x, .fn (N + 1) (F N)) :: ρ) rest d) : EXR W lv sc ρ (.FunctionDef x params body [] none [] lsc none x pos :: rest) d := by
  obtain ⟨ρ', k⟩ := k
  refine ⟨ρ', ?_⟩
  intro A h₀ L m loc own par fz env ad s Q E hA hE F₀ c
  have I0 := I (.dat .none)
  have nd1 := I0.nd
  rw [List.map_cons, List.nodup_cons] at nd1
  obtain ⟨loc₁, fz₁, s₁, F₁, hE₁, C₁⟩ := F₀.freezeCells ρ₁ hE hρ nd1.2
  have hxc : ∃ cx, env.cells.lookup x = some cx := Option.isSome_iff_exists.mp (hE.cells x _ hx (.inl rfl)).2
  obtain ⟨cx, hcx⟩ := hxc
  have hfree : ∀ y, lsc.names.lookup y = some .free → ∃ c, env.cells.lookup y = some c := fun y hy => by
    have := I0.free y hy
    rw [List.map_cons, List.mem_cons] at this
    rcases this with e | hm
    · rw [e]; exact ⟨cx, hcx⟩
    · obtain ⟨p, hp', e⟩ := List.mem_map.mp hm
      obtain ⟨c, _, _, q', _⟩ := C₁ p.1 p.2 hp'
      exact ⟨c, by rw [← e]; exact q'⟩
  have hmem : ∀ y, (y, NameKind.free) ∈ lsc.names → lsc.names.lookup y = some .free := fun y hy => by
    have := I0.sc
    simp only [scP', Bool.and_eq_true, List.all_eq_true, beq_iff_eq] at this
    exact (this.2 _ hy).1
  have hcl : closureFor lsc env = pure (closL env.cells lsc.names []) := closureFor_ok fun y hy => by
    obtain ⟨c, q'⟩ := hfree y (hmem y hy)
    rw [q']; rfl
  have hclos : ClosOk lsc.names (closL env.cells lsc.names []) := ⟨fun y hy => by
    obtain ⟨c, q'⟩ := hfree y hy
    rw [closL_at q' _ _ (PySem.mem_of_lookup hy)]; rfl, fun a b c ha' hb' => hE.inj a b c (closL_of _ _ (fun _ _ h => by cases h) ha') (closL_of _ _ (fun _ _ h => by cases h) hb')⟩
  have hqe : qualnameIn env x x = t.2.2 := by
    have hk := (hE.cells x _ hx (.inl rfl)).1
    unfold qualnameIn
    rw [if_neg (fun e => by
      have e : env.kindOf x = some .globalExplicit := by simpa using e
      rw [e] at hk; rcases hk with h | h <;> cases h), hE.qual q hqual]
    exact hq
  have hce : env.code = .ref t.1 := by have := hE.code _ hcode; simpa using this
  refine wpAny_execs_cons (nestDef_K hd0 hk0 (ha env) ?_)
  rw [hqe]
  refine make_def hA hT.gl hT.mem hT.nd hT.code F₁.ss hcl hE.glob hce fun f fz₂ h₂ tk₂ c' ctv doc pm s₂ S₂ hf hcx' => ?_
  have F₂ := F₁.grow s₂ S₂
  have hx₁ : (unslots sc (ρ₁.map (·.1))).names.lookup x = some .cell := by rw [unslots_glob (k := .cell) nd1.1]; exact hx
  refine store_ok hE₁ F₂.ss (F₂.st x (.inr hx₁)) fun m' loc' h₃ tk₃ S₃ st₃ => ?_
  have none0 : ∀ (X : Fact), X f (fnMade x t.2.2 params body lsc (closL env.cells lsc.names []) doc pm c' ctv) → CallOk W 0 X (.ref f) (fun _ => none) := fun X hX => ⟨f, _, _, rfl, hX, rfl, fun _ _ _ _ _ _ _ _ _ _ _ _ _ _ _ _ _ hF => by cases hF⟩
  have F₃ := F₂.moved (bs := [(x, .fn 0 fun _ => none)]) S₃ (st₃.moved (pv := .fn 0 fun _ => none) hp fun MU Y qq => none0 _ (qq _ _ (.inr hf))) rfl
  obtain ⟨loc₄, c₄, o₄, e1, e2, e3, F₄, hl₄⟩ := F₃.freezeCellV hE₁ (st₃.new _) hx₁
  have C₂ : CapR W (Hs W.base ((c₄, o₄) :: fz₂)) (own ++ par) ((c₄, o₄) :: fz₂) env ad ρ₁ := fun y pv hy => by
    obtain ⟨c, o, v, a1, a2, a3, a4, a5, a6⟩ := C₁ y pv hy
    exact ⟨c, o, v, a1, .tail _ (s₂ _ a2), a3, a4, a5.mono (Hs.sub (s₂.trans .cons)) (Sub.refl _), a6⟩
  have ok : ∀ n, CallOk W n (Hs W.base ((c₄, o₄) :: fz₂)) (.ref f) (below F n) := by
    intro n
    induction n with
    | zero => exact none0 _ (.inr (.tail _ hf))
    | succ n ih =>
      have I' := I (.fn n (below F n))
      have Cn : CapR W (Hs W.base ((c₄, o₄) :: fz₂)) (own ++ par) ((c₄, o₄) :: fz₂) env ad ((x, .fn n (below F n)) :: ρ₁) := fun y pv hy => by
        rcases List.mem_cons.mp hy with e | hy
        · cases e
          exact ⟨c₄, o₄, .ref f, e1, .head _, e3, e2, ih, fun _ h => by cases h⟩
        · exact C₂ y pv hy
      exact callok_P (lv := n) (F := F n) (.inr (.tail _ hf)) rfl (hcx'.mono (Hs.sub .cons)) (fun vs hv => hbind vs _ _ _ _ _ hv) I'.sc hpn hnd hpl hclos (capR_clR I' (fun a o h => .inr h) Cn (by simpa [allDat] using hd)) hns hmo (hb n) hco hgen
  have F₅ := F₄.setName (pv := .fn (N + 1) (F N)) hl₄ hp (ok (N + 1)) (fun _ h => by cases h)
  have hE₅ := hE₁.unslot hx₁
  refine k A h₀ L m' loc₄ own par _ env ad _ Q E hA hE₅ (F₅.sub fun y pv hy => ?_) fun fl m₆ loc₆ own₆ par₆ fz₆ ad₆ h₆ tk₆ s₆ x₆ f₆ p₆ a₆ l₆ => ?_
  · rw [List.lookup_cons] at hy ⊢
    cases e : y == x with
    | true => rw [e] at hy; exact hy
    | false =>
      rw [e] at hy
      show List.lookup y ((x, _) :: ρ) = _
      rw [List.lookup_cons, e]; exact hy
  · exact c fl m₆ loc₆ own₆ par₆ fz₆ ad₆ h₆ tk₆ (s₁.trans (s₂.trans (Sub.trans .cons s₆))) x₆ f₆ p₆ a₆ rfl
end
end Mine
end
section
open PySem PySem.W PyProof.Rows
set_option linter.unusedVariables false
set_option maxRecDepth 100000
namespace Mine
open PySem.Calls PySem.Spec PySem.SeqAt

section
variable {W : Wd} {lv : Nat} {sc : Scope} {ps : List Str} {ρ ρ' : Names}
/-- y[i] = e -/
theorem ex_setitem {y : Str} {py tp pos : Pos} {i e : Expr} {ds : List Dat} {d : Dat} {k : Nat} (h : EV W lv sc ρ e (.dat d)) (hy : ρ.lookup y = some (.lst ds)) (hi : EV W lv sc ρ i (.dat (.int k))) (hk : k < ds.length) (hz : ds.length ≤ 1048576)
    (hs : ∀ env, swapsWith e (some (.Subscript (.Name y py) i tp)) pos.line env = pure false := by intro _; rfl) :
    EX1 W lv sc ps ρ (.Assign [.Subscript (.Name y py) i tp] e pos) (.next ((y, .lst (ds.set k d)) :: ρ)) := by
  intro A h₀ L m loc own par fz env ad s Q E hA hE x c
  refine wpAny_Assign_Subscript (h A h₀ env L m _ fz env s _ E hA hE x.ss x.full fun v fz₁ h₁ t₁ s₁ S₁ R₁ => ?_) (hs env)
  have x₁ := x.grow s₁ S₁
  refine eval_name hE x₁.ss (x₁.loadsFull hy) (x₁.nm y _ hy).1 ?_
  refine hi A h₀ env L m _ fz₁ env _ _ E hA hE x₁.ss x₁.full fun w fz₂ h₂ t₂ s₂ S₂ R₂ => ?_
  have x₂ := x₁.grow s₂ S₂
  obtain ⟨u, rfl⟩ : ∃ u, w = .int k u := by
    have R₂ : Rep (Hs W.base fz₂) w (.int k) := R₂
    cases R₂; exact ⟨_, rfl⟩
  obtain ⟨vs, n, hm, hr⟩ := x₂.listAt hy
  have ho := x₂.ss.ofMu (List.mem_append_right loc hm)
  have hl : vs.length = ds.length := hr.length
  refine ki_setAt ho (Int.natCast_nonneg _) (by (clear ho hr hm R₂ x₂ S₂ s₂ x₁ R₁ S₁ s₁ c x hE hA hs hi hy h; lia)) (by rw [List.size_toArray]; (clear ho hr hm R₂ x₂ S₂ s₂ x₁ R₁ S₁ s₁ c x hE hA hs hz hi hy h; lia)) ?_
  have hup := (show IsL h₂ (ad y) vs.toArray n from ho).update (fun xs => xs.setIfInBounds k v)
  have ho₂ : (h₂.update (ad y) (Obj.mapSeq fun xs => xs.setIfInBounds k v)).get? (ad y) = some (listOf (vs.set k v).toArray n) := by
    rw [hup]; simp [PySem.W.listOf]
  have hr' : RepA (Hs W.base fz₂) (vs.set k v) (ds.set k d) := by
    refine RepA.of_get (by simp [hl]) fun j a b ha hb => ?_
    rw [List.getElem?_set] at ha hb
    split at ha
    · rename_i e
      subst e
      rw [if_pos rfl] at hb
      split at ha
      · split at hb
        · cases ha; cases hb; exact Rep.mono (Hs.sub s₂) R₁
        · rename_i q; exact absurd hk q
      · cases ha
    · rename_i e
      rw [if_neg e] at hb
      obtain ⟨b', hb', r⟩ := hr.get' ha
      rw [hb] at hb'; cases hb'; exact r
  obtain ⟨own', par', x₃, p₃⟩ := x₂.turn (ds' := ds.set k d) hy (fun b o hb e => (Heap.get?_update_other h₂ _ (Ne.symm hb)).trans e) ho₂ hr'
  exact c _ m loc own' par' fz₂ ad _ t₂ (s₁.trans s₂) x₃ rfl p₃ (fun _ _ => rfl) rfl
end
end Mine
end
section
open PySem PySem.W PyProof.Rows
set_option linter.unusedVariables false
set_option maxRecDepth 100000
namespace Mine
open PySem.Calls PySem.Spec PySem.SeqAt

section
variable {W : Wd} {lv : Nat} {scope sc : Scope} {ps : List Str} {ρ ρc : Names} {out : Out} {A : Around} {h₀ : Heap} {fenv : Env} {L : Addr} {m : Str → Option Value} {mu fz : Led} {s : Shared} {E : Value → Shared → Prop}
  {name qual : Str} {params : Arguments} {body : List Stmt} {dV kV doc pm cdv ct : Value} {an : Option Addr} {fo : Obj} {f : Addr} {vs : List Value} {kvs : List (Str × Value)} {binds : List (Str × Value)} {ad : Str → Addr} {cl : List (Str × Addr)}
theorem call_Ps (hA : AOk W (lv + 1) A h₀ fenv L) (S : SS W h₀ L m mu fz s.heap) (hf : Hs W.base fz f fo) (hd : fo.data = .func (fnX name qual params body scope cl dV kV doc pm an cdv ct))
    (hcd : CodeX (Hs W.base fz) cdv qual) (hbind : BindsTo s (fnX name qual params body scope cl dV kV doc pm an cdv ct) ⟨vs, kvs⟩ binds)
    (hsc : scP' scope = true) (hin : (binds.all fun y => scope.names.lookup y.1 == some .local) = true) (hbn : (binds.map (·.1)).Nodup) (hcl : ClosOk scope.names cl)
    (hB : BindR W (Hs W.base fz) mu ps ad binds ρ) (hC : ClR W (Hs W.base fz) mu ps ad scope.names cl ρc) (hpp : ∀ x ∈ ps, ∃ o, (ad x, o) ∈ mu) (hij : ∀ x ∈ ps, ∀ y ∈ ps, ad x = ad y → x = y) (hns : sc.names = scope.names) (hmo : sc.more = []) (hb : ∀ (A' : Around) (g : Heap) (L' : Addr) (m' : Str → Option Value) (env' : Env) (s' : Shared) (Q' : Flow → Shared → Prop) (E' : Value → Shared → Prop), AOk W lv A' g env' L' → EnvOk env' sc → env'.cells = cl → FS W sc ps g L' m' [] [] mu fz env' ad (ρ ++ ρc) s'.heap →
      (∀ fl m' loc' own' par' fz' ad' h' tk', Sub fz fz' → out.fs W sc ps g L' m' loc' own' par' fz' env' ad' h' → out.flow (Hs W.base fz') fl → Par ps ad mu par' → (∀ x ∈ ps, ad' x = ad x) → Q' fl { s' with heap := h', toks := tk' }) → wpAny (model W.prog W.w) A' (execs body env') Q' E' s') (Q : Value → Shared → Prop)
    (k : ∀ v fz' mu' (ad' : Str → Addr) h' tk', Sub fz fz' → SS W h₀ L m mu' fz' h' → RetR out (Hs W.base fz') v → Par ps ad mu mu' → (∀ x ∈ ps, ad' x = ad x) → (∀ x ∈ ps, ∀ ds, out.names.lookup x = some (.lst ds) → ListAt mu' (Hs W.base fz') (ad x) ds) → Q v { s with heap := h', toks := tk' })
    (hco : scope.isCoroutine = false := by rfl) (hgen : scope.isGenerator = false := by rfl) (hpl : out.plain = true := by rfl) :
    wpAny (model W.prog W.w) A (call (.ref f) vs kvs) Q E s := by
  obtain ⟨outer, A₀, hfr, B⟩ := hA.fr
  have S0 := S
  obtain ⟨F, ⟨gl, hg, l⟩, bs⟩ := S
  have hsc0 := hsc
  simp only [scP', Bool.and_eq_true, beq_iff_eq, List.all_eq_true, Bool.or_eq_true] at hsc
  obtain ⟨hkind, hall⟩ := hsc
  refine wpAny_call (callX_plain B F l.news hA.T.nolimit hfr hA.hf hA.hk (S0.has hf) hd (hcd.rec fun a o e => S0.has e) (by have := hA.dp; (clear hall hkind hsc0 l hg bs F S0 B hfr hpl hgen hco k hb hmo hns hij hpp hC hB hcl hbn hin hbind hcd hd hf hA; lia)) hbind (fun y hy => by have := List.all_eq_true.mp hin y hy; simpa using this) (fun g L' h₁ FG F' N' B' st hlt => ?_) (fun x hx e => ?_) hco hgen hkind)
  · obtain ⟨A', E', fs⟩ := enterP (qual := qual) (f := f) (cdv := cdv) hsc0 hin hbn hcl hB hC hpp hij hns hmo hA hg l bs F' N' ⟨by rw [hfr]; exact B', by rw [hfr]; rfl⟩ st
    refine hb _ g L' _ _ _ _ _ A' E' rfl fs fun fl m'' loc'' own'' par'' fz'' ad'' h'' tk'' s'' x'' f'' p'' a'' => ?_
    cases out with
    | esc _ => cases hpl
    | next ρ' =>
      cases f''
      have x'' : FS W sc ps g L' m'' loc'' own'' par'' fz'' _ ad'' ρ' h'' := x''
      refine SS.leave st bs x''.ss fun S₂ => k _ fz'' par'' ad'' h'' tk'' s'' S₂ rfl p'' a'' fun x hx ds hl => ?_
      have := (x''.ls x ds hl).2
      rw [if_pos hx, a'' x hx] at this
      exact this
    | ret d ρ' =>
      obtain ⟨v, rfl, rv⟩ := f''
      obtain ⟨sc₂, x''⟩ := x''
      refine SS.leave st bs x''.ss fun S₂ => k _ fz'' par'' ad'' h'' tk'' s'' S₂ rv p'' a'' fun x hx ds hl => ?_
      have := (x''.ls x ds hl).2
      rw [if_pos hx, a'' x hx] at this
      exact this
  · obtain ⟨_, h1⟩ := hall x hx
    rw [e] at h1
    rcases h1 with (h1 | h1) | h1 <;> cases h1
end
/-- a closure's function that turns the list at l -/
noncomputable def MutCall (W : Wd) (lv : Nat) (fz : Led) (f l : Addr) (G : List Dat → List Dat → List Dat → Prop) : Prop :=
  ∃ o fd, (f, o) ∈ fz ∧ o.data = .func fd ∧ ∀ (A : Around) (h₀ : Heap) (fenv : Env) (L : Addr) (m : Str → Option Value) (mu fz' : Led) (s : Shared) (vs : List Value) (args ds ds' : List Dat) (Q E : Value → Shared → Prop),
    AOk W lv A h₀ fenv L → Sub fz fz' → SS W h₀ L m mu fz' s.heap → ListAt mu (Hs W.base fz') l ds → RepA (Hs W.base fz') vs args → G args ds ds' →
    (∀ fz₂ mu₂ h₂ tk₂, Sub fz' fz₂ → SS W h₀ L m mu₂ fz₂ h₂ → Turned mu mu₂ (Hs W.base fz₂) l ds' → Q .none { s with heap := h₂, toks := tk₂ }) → wpAny (model W.prog W.w) A (call (.ref f) vs) Q E s
theorem MutCall.mono {W : Wd} {lv : Nat} {fz fz' : Led} {f l : Addr} {G : List Dat → List Dat → List Dat → Prop} (h : MutCall W lv fz f l G) (s : Sub fz fz') : MutCall W lv fz' f l G :=
  let ⟨o, fd, a, b, c⟩ := h; ⟨o, fd, s _ a, b, fun A h₀ fenv L m mu fz₂ s₁ vs args ds ds' Q E hA hs => c A h₀ fenv L m mu fz₂ s₁ vs args ds ds' Q E hA (s.trans hs)⟩
section
variable {W : Wd} {lv : Nat} {sc : Scope} {ps : List Str} {ρ ρ' : Names}
/-- x(..) alone on its row, x a function that turns the list of y -/
theorem mut_stmt {x y : Str} {np pos spos : Pos} {es : List Expr} {args ds ds' : List Dat} {lf : Nat} {f : Addr} {G : List Dat → List Dat → List Dat → Prop} {A : Around} {h₀ : Heap} {L : Addr} {m : Str → Option Value} {loc own par fz : Led} {env : Env} {ad : Str → Addr} {s : Shared} {Q : Flow → Shared → Prop} {E : Value → Shared → Prop}
    (hA : AOk W lv A h₀ env L) (hE : EnvOk env sc) (F : FS W sc ps h₀ L m loc own par fz env ad ρ s.heap) (hx : Loads env L m (loc ++ ((own ++ par) ++ fz)) x (.ref f)) (hp : PlainName x) (M : MutCall W lf fz f (ad y) G) (hl : lf ≤ lv) (hy : ρ.lookup y = some (.lst ds)) (h : EVs W lv sc ρ es (args.map .dat)) (hG : G args ds ds')
    (k : ∀ own' par' fz' h' tk', Sub fz fz' → FS W sc ps h₀ L m loc own' par' fz' env ad ((y, .lst ds') :: ρ) h' → Par ps ad par par' → Q .next { s with heap := h', toks := tk' }) :
    wpAny (model W.prog W.w) A (exec (.Expr (.Call (.Name x np) es [] pos) spos) env) Q E s := by
  refine wpAny_Expr_any ?_ (by show (env.scope.kind == .module && _) = false; rw [hE.kind]; rfl) rfl
  refine wpAny_Call_ofName (eval_name hE F.ss (by rw [List.append_assoc]; exact hx) hp ?_)
  obtain ⟨o, fd, hf, hd, hc⟩ := M
  refine Calls.callWith_function (o := o) (fd := fd) (evalArgs_ok h A h₀ env L m _ fz env s _ E hA hE F.ss F.full fun vs fz' h' t' s' S' R' => ?_)
  have F₁ := F.grow s' S'
  refine ⟨⟨S'.has (.inr (s' _ hf)), hd⟩, ?_⟩
  refine hc A h₀ env L m _ fz' _ vs args ds ds' _ _ (hA.less hl) s' S' ((F₁.listAt hy).mono (FSub.refl _) fun p hp => List.mem_append_right _ hp) R'.dats hG fun fz₂ mu₂ h₂ t₂ s₂ S₂ T₂ => ?_
  obtain ⟨own', par', F₂, P⟩ := F₁.turned s₂ hy S₂ T₂
  exact k own' par' fz₂ h₂ t₂ (s'.trans s₂) F₂ P
end
end Mine
end
section
open PySem PySem.W PyProof.Rows
set_option linter.unusedVariables false
set_option maxRecDepth 100000
namespace Mine
open PySem.Calls PySem.Spec PySem.SeqAt

theorem SS.useMu {W : Wd} {h₀ h : Heap} {L : Addr} {m : Str → Option Value} {mu fz : Led} (x : SS W h₀ L m mu fz h) : ∃ all : Led, News h₀ L h all ∧
    ∀ h' D o, Fr h₀ L h' m → News h₀ L h' ((D, o) :: all) → (∀ p ∈ all, p.1 < D) → SS W h₀ L m ((D, o) :: mu) fz h' := by
  obtain ⟨F, ⟨gl, g, l⟩, bs⟩ := x
  refine ⟨gl ++ (mu ++ fz), l.news, fun h' D o F' N' hD => ⟨F', ⟨gl, g, ?_⟩, bs⟩⟩
  have l' : Ld h₀ L h' ((D, o) :: (gl ++ (mu ++ fz))) := ⟨N', by
    rw [List.map_cons, List.nodup_cons]
    refine ⟨fun hm => ?_, l.nodup⟩
    obtain ⟨q, hq, e⟩ := List.mem_map.mp hm
    exact absurd (hD q hq) (by rw [e]; exact Nat.lt_irrefl _)⟩
  exact l'.perm List.perm_middle.symm
section
variable {W : Wd} {lv : Nat} {sc : Scope} {ρ : Names}
/-- [..] * k, a list that may turn -/
theorem ef_mul {l r : Expr} {pos : Pos} {ns : List Int} {x : Int} (h₁ : EV W lv sc ρ l (.dat (.list (ns.map .int)))) (h₂ : EV W lv sc ρ r (.dat (.int x))) (hlo : -(2 ^ 63 : Int) ≤ x) (hhi : x < 2 ^ 63) (hz : ns.length * x.toNat ≤ 2 ^ 24) :
    EF W lv sc ρ (.BinOp l .Mult r pos) ((List.replicate x.toNat ns).flatten.map .int) := by
  intro A h₀ fenv L m mu fz env s Q E hA hE S hN k
  refine wpAny_BinOp (h₁ A h₀ fenv L m mu fz env s _ _ hA hE S hN fun v₁ fz₁ h₁' t₁ s₁ S₁ R₁ => ?_)
  refine h₂ A h₀ fenv L m mu fz₁ env _ _ _ hA hE S₁ (hN.grow s₁) fun v₂ fz₂ h₂' t₂ s₂ S₂ R₂ => ?_
  have r1 : Rep (Hs W.base fz₂) v₁ (.list (ns.map .int)) := Rep.mono (Hs.sub s₂) R₁
  obtain ⟨u, rfl⟩ : ∃ u, v₂ = .int x u := by
    have R₂ : Rep (Hs W.base fz₂) v₂ (.int x) := R₂
    cases R₂; exact ⟨_, rfl⟩
  obtain ⟨a, vs, rfl, il, ra⟩ := r1.isList (SS.facts (s := { s with heap := h₂', toks := t₂ }) S₂)
  obtain ⟨all, N, back⟩ := S₂.useMu
  refine KM.mul S₂.fr N il ra.ints hlo hhi (by rw [ra.length, List.length_map]; exact hz) fun D h' F' N' hD hI _ _ _ _ _ => ?_
  exact k _ _ _ fz₂ h' _ (s₁.trans s₂) (back h' _ _ F' N' hD) (RepA.of_ints hI)
end
end Mine
end
section
open PySem PySem.W PyProof.Rows
set_option linter.unusedVariables false
set_option maxRecDepth 100000
namespace Mine
open PySem.Calls PySem.Spec PySem.SeqAt

/-- an element: a datum, or a fresh list -/
noncomputable def EL (W : Wd) (lv : Nat) (sc : Scope) (ρ : Names) (e : Expr) : PV → Prop
  | .dat d => EV W lv sc ρ e (.dat d)
  | .lst ds => EF W lv sc ρ e ds
  | .fn _ _ => False
/-- what an element's value is -/
noncomputable def ElV (own : Led) (X : Fact) (v : Value) : PV → Prop
  | .dat d => Rep X v d
  | .lst ds => ∃ l vs n, v = .ref l ∧ (l, listOf (List.toArray vs) n) ∈ own ∧ RepA X vs ds
  | .fn _ _ => False
noncomputable def elAd (v : Value) (pv : PV) (x : Str) (ad : Str → Addr) : Str → Addr :=
  match pv, v with
  | .lst _, .ref l => fun y => if y = x then l else ad y
  | _, _ => ad
section
variable {W : Wd} {lv : Nat} {sc : Scope} {ps : List Str} {ρ ρ' : Names} {h₀ h h' : Heap} {L : Addr} {m : Str → Option Value} {loc own par fz fz' : Led} {env : Env} {ad : Str → Addr}
theorem ElV.mono {own' : Led} {X Y : Fact} {v : Value} {pv : PV} (s : FSub X Y) (u : Sub own own') (h : ElV own X v pv) : ElV own' Y v pv := by
  cases pv with
  | dat d => exact Rep.mono s h
  | lst ds => obtain ⟨l, vs, n, a, b, c⟩ := h; exact ⟨l, vs, n, a, u _ b, c.mono s⟩
  | fn _ _ => exact h
/-- the list of an element is none of the names' -/
noncomputable def ElN (ρ : Names) (ad : Str → Addr) (v : Value) : PV → Prop
  | .lst _ => ∀ y es, ρ.lookup y = some (.lst es) → v ≠ .ref (ad y)
  | _ => True
theorem el_ok {A : Around} {s : Shared} {e : Expr} {pv : PV} {Q E : Value → Shared → Prop} (h : EL W lv sc ρ e pv) (hA : AOk W lv A h₀ env L) (hE : EnvOk env sc) (F : FS W sc ps h₀ L m loc own par fz env ad ρ s.heap)
    (k : ∀ v own' fz' h' tk', Sub fz fz' → Sub own own' → FS W sc ps h₀ L m loc own' par fz' env ad ρ h' → ElV own' (Hs W.base fz') v pv → ElN ρ ad v pv → (∀ l ds, pv = .lst ds → v = .ref l → ∀ p ∈ own, p.1 ≠ l) → Q v { s with heap := h', toks := tk' }) :
    wpAny (model W.prog W.w) A (eval e env) Q E s := by
  cases pv with
  | dat d =>
    exact h A h₀ env L m _ fz env s _ E hA hE F.ss F.full fun v fz' h' t' s' S' R' => k v own fz' h' t' s' (Sub.refl _) (F.grow s' S') R' trivial (fun _ _ h => by cases h)
  | lst ds =>
    refine h A h₀ env L m _ fz env s _ E hA hE F.ss F.full fun l vs n fz' h' t' s' S' r => ?_
    have F₁ := F.grow s' (S'.sublist (List.sublist_cons_self _ _))
    refine k _ _ fz' h' t' s' .cons (F₁.withOwn S') ⟨l, vs, n, rfl, .head _, r⟩ (fun y es hy q => F₁.adNe S' hy (by cases q; rfl)) fun l' _ _ q p hp e => ?_
    cases q
    have nd := S'.nodupMu
    rw [List.map_cons, List.nodup_cons] at nd
    exact nd.1 (List.mem_map.mpr ⟨p, List.mem_append_right _ (List.mem_append_left _ hp), e⟩)
  | fn _ _ => exact h.elim
/-- an element is stored -/
theorem el_store {A : Around} {s : Shared} {x : Str} {v : Value} {pv : PV} {Q : Unit → Shared → Prop} {E : Value → Shared → Prop} {M : Model} (hE : EnvOk env sc) (F : FS W sc ps h₀ L m loc own par fz env ad ρ s.heap) (hv : ElV own (Hs W.base fz) v pv) (hn : ElN ρ ad v pv) (hx : slot sc x) (hp : PlainName x) (hps : x ∉ ps)
    (k : ∀ m' loc' h' tk', FS W sc ps h₀ L m' loc' own par fz env (elAd v pv x ad) ((x, pv) :: ρ) h' → Q () { s with heap := h', toks := tk' }) : wpAny M A (storeName env x v) Q E s := by
  refine store_ok hE F.ss (F.st x hx) fun m' loc' h₂ tk₂ S₂ st₂ => ?_
  cases pv with
  | dat d => exact k m' loc' h₂ tk₂ (F.moved (bs := [(x, .dat d)]) S₂ (st₂.moved (pv := .dat d) hp fun MU Y q => Rep.mono q hv) rfl)
  | lst ds =>
    obtain ⟨l, vs, n, rfl, hm, hr⟩ := hv
    exact k m' loc' h₂ tk₂ (F.bindLst S₂ st₂ hp hps hm hr fun y es hy _ q => hn y es hy (by rw [q]))
  | fn _ _ => exact hv.elim
end
section
variable {W : Wd} {lv : Nat} {sc : Scope} {ps : List Str} {ρ ρ' : Names}
/-- x, y = e, f, both of the function's own names, on one row -/
theorem ex_swap2 {x y : Str} {px py : Pos} {kd kd' : Nat} {tp pos vp : Pos} {e f : Expr} {p q : PV} (h : EL W lv sc ρ e p) (h' : EL W lv sc ρ f q) (hn : nStar e = true) (hn' : nStar f = true) (hx : sc.names.lookup x = some .local) (hp : PlainName x) (hy : sc.names.lookup y = some .local) (hq : PlainName y) (hxy : x ≠ y) (hxs : x ∉ ps) (hys : y ∉ ps)
    (hs : ∀ env, swapsWithSole [.Tuple [.Name x px, .Name y py] kd tp] (.Tuple [e, f] kd' vp) pos.line env = pure false := by intro _; rfl)
    (hw : ∀ env : Env, env.scope.kind = .function → env.kindOf x = some .local → env.kindOf y = some .local → swappedStores [.Tuple [.Name x px, .Name y py] kd tp] (.Tuple [e, f] kd' vp) env = pure (some [x, y])) :
    EX1 W lv sc ps ρ (.Assign [.Tuple [.Name x px, .Name y py] kd tp] (.Tuple [e, f] kd' vp) pos) (.next ((x, p) :: (y, q) :: ρ)) := by
  intro A h₀ L m loc own par fz env ad s Q E hA hE F c
  refine Assign_Tuple_swapped (names := [x, y]) (wpAny_Tuple ?_) (hs env) (hw env hE.kind (hE.lc x hx) (hE.lc y hy))
  rw [starEach_cons hn, backTo_cons, starEach_cons hn', backTo_cons]
  refine Calls.spliced_cons (el_ok h hA hE F fun v own₁ fz₁ h₁ t₁ s₁ u₁ F₁ e₁ n₁ _ => ?_)
  refine Calls.spliced_cons (el_ok h' hA hE F₁ fun w own₂ fz₂ h₂ t₂ s₂ u₂ F₂ e₂ n₂ d₂ => ?_)
  refine Calls.spliced_nil ⟨by rw [sizeLine_eq]; simp, ?_⟩
  have S₃ := F₂.ss.push { cls := .type "tuple", data := .seq [v, w].toArray }
  have F₃ := F₂.grow .cons S₃
  refine wpAny_unpackItems_tuple (items := [v, w].toArray) hA.hh ⟨_, Heap.get?_push_size _ rfl, rfl, _, rfl⟩ fun h₄ k₄ => ?_
  have F₄ := F₃.grow (Sub.refl _) (S₃.grown fun b o e => k₄ b o (Nat.ne_of_lt (Heap.lt_size e)) e)
  show wpAny _ A (assignInOrder [bindName env y, bindName env x] [w, v]) _ _ _
  refine wpAny_bind (wpAny_holding (wpAny_bindName (el_store hE F₄ (e₂.mono (Hs.sub .cons) (Sub.refl _)) n₂ (.inl hy) hq hys fun m₅ loc₅ h₅ tk₅ F₅ => ?_)))
  have adne : ∀ (v : Value) (pv : PV) (x z : Str) (ad : Str → Addr), z ≠ x → elAd v pv x ad z = ad z := by
    intro v pv x z ad hz
    unfold elAd
    split
    · exact if_neg hz
    · rfl
  have n₁' : ElN ((y, q) :: ρ) (elAd w q y ad) v p := by
    cases p with
    | dat d => trivial
    | fn _ _ => trivial
    | lst ds =>
      intro z es hz
      rcases look_cons hz with ⟨rfl, e⟩ | ⟨hne, hz⟩
      · subst e
        obtain ⟨l₁, vs₁, k₁, rfl, a₁, _⟩ := e₁
        obtain ⟨l₂, vs₂, k₂, rfl, a₂, _⟩ := e₂
        intro q'
        have q' : l₁ = (if z = z then l₂ else ad z) := by cases q'; rfl
        rw [if_pos rfl] at q'
        exact d₂ l₂ es rfl rfl _ a₁ q'
      · rw [adne _ _ _ _ _ hne]
        exact n₁ z es hz
  refine wpAny_bind (wpAny_holding (wpAny_bindName (el_store hE F₅ (e₁.mono (Hs.sub (s₂.trans .cons)) u₂) n₁' (.inl hx) hp hxs fun m₆ loc₆ h₆ tk₆ F₆ => ?_)))
  refine wpAny_pure (c _ m₆ loc₆ own₂ par _ _ h₆ tk₆ (s₁.trans (s₂.trans .cons)) F₆ rfl (Par.refl _ _ _) (fun z hz => ?_) rfl)
  rw [adne _ _ _ _ _ fun e : z = x => hxs (e ▸ hz), adne _ _ _ _ _ fun e : z = y => hys (e ▸ hz)]
end
end Mine
end
section
open PySem PySem.W PyProof.Rows
set_option linter.unusedVariables false
set_option maxRecDepth 100000
namespace Mine
open PySem.Calls PySem.Spec PySem.SeqAt

section
variable {W : Wd} {lv : Nat} {sc scope : Scope} {ps : List Str} {ρ ρ' : Names} {elt t iter : Expr} {ifs : List Expr} {gs : List Comprehension} {cpos : Pos} {items : List Dat} {f : Dat → List Dat}
/-- x = [.. for ..], on either road -/
theorem ex_assign_comp {x : Str} {px pos : Pos} (hsc : compSc sc scope = true) (hρ : SubF scope.names ρ ρ') (hfree : FreeAll ρ scope.names = true) (htg : tgtOk scope (⟨t, iter, ifs, 0⟩ :: gs)) (hdis : ∀ x ∈ tn t, ρ'.lookup x = none)
    (hset : ∀ x env, foldedSetIterable iter env x = pure x) (hi : EI id W lv sc ρ iter items) (hf : CTop W lv scope elt t ifs gs ρ' items f) (hz : (items.flatMap f).length ≤ 1048576) (hx : slot sc x) (hp : PlainName x) :
    EX1 W lv sc ps ρ (.Assign [.Name x px] (.ListComp elt (⟨t, iter, ifs, 0⟩ :: gs) scope cpos) pos) (.next ((x, .dat (.list (items.flatMap f))) :: ρ)) := by
  intro A h₀ L m loc own par fz env ad s Q E hA hE F c
  obtain ⟨b, hsw⟩ : ∃ b, swapsWith (.ListComp elt (⟨t, iter, ifs, 0⟩ :: gs) scope cpos) (some (.Name x px)) pos.line env = pure b := ⟨_, rfl⟩
  cases b with
  | false =>
    refine wpAny_Assign_Name ((ef_comp hsc hρ hfree htg hdis hset hi hf hz).ev A h₀ env L m _ fz env s _ E hA hE F.ss F.full fun v fz' h' t' s' S' R' => ?_) hsw
    have F₁ := F.grow s' S'
    refine store_ok hE F₁.ss (F₁.st x hx) fun m' loc' h₂ tk₂ S₂ st₂ => ?_
    exact c _ m' loc' own par fz' ad h₂ tk₂ s' (F₁.moved (bs := [(x, .dat (.list (items.flatMap f)))]) S₂ (st₂.moved (pv := .dat (.list (items.flatMap f))) hp fun MU Y q => Rep.mono q R') rfl) rfl (Par.refl _ _ _) (fun _ _ => rfl) rfl
  | true =>
    have hsc' := hsc
    simp only [compSc, Bool.and_eq_true, beq_iff_eq, List.all_eq_true] at hsc'
    obtain ⟨⟨⟨hkind, hmore⟩, hdot⟩, hall⟩ := hsc'
    have hclos : closureFor scope env = pure (closL env.cells scope.names []) :=
      (comp_env (M := model W.prog W.w) (A := A) (E := E) (s := { s with heap := s.heap.push blockO }) (its := []) (Q := fun _ _ => True) hsc hρ hfree hE (F.ss.pushMu blockO) F.full fun _ _ _ _ _ _ => trivial).1
    rw [exec_Assign_Name_used _ _ _ _ hsw]
    refine wpAny_bind (wpAny_standAt (wpAny_bind ?_))
    show wpAny _ A (do let _ ← comprehension (.ListComp elt (⟨t, iter, ifs, 0⟩ :: gs) scope cpos) scope env _ (newList []) false (eval iter env) (some (assign (.Name x px) env))) _ _ s
    refine wpAny_bind (wpAny_mono (wpAny_comprehension_free (use := some (assign (.Name x px) env)) (Q := fun _ s' => Q .next s') rfl (fun x => hset x env) hclos hkind (fun x hx hl => by rw [← hl]; exact (hall x hx).1) ?_) (fun _ s' hq => wpAny_pure (wpAny_pure hq)) fun _ _ e => e)
    refine hi A h₀ env L m _ fz env s _ E hA hE F.ss F.full fun I St o fz₁ h₁ tk₁ s₁ S₁ sr st => ?_
    refine (comp_core (pos := cpos) (iter := iter) hsc hρ hfree htg hdis hf hz A h₀ env L m _ fz₁ env _ E (fun acc C => compPost (model W.prog W.w) A E (some (assign (.Name x px) env)) (fun _ s' => Q .next s') acc C) I o St hA hE S₁ ((NamesOk.grow s₁ F.full)) sr st
      fun D C oC vs n fz₂ h₂ tk₂ s₂ S₂ hn r₂ => ?_).2
    obtain ⟨mm, hn⟩ := hn
    have S₃ : SS W h₀ L m ((C, oC) :: (loc ++ (own ++ par))) ((D, listOf vs.toArray n) :: fz₂) h₂ := (S₂.perm (List.Perm.swap _ _ _)).freeze
    have S₄ : SS W h₀ L m (loc ++ (C, oC) :: (own ++ par)) ((D, listOf vs.toArray n) :: fz₂) h₂ := S₃.perm List.perm_middle.symm
    have F₂ := F.grow (s₁.trans (s₂.trans .cons)) (S₃.sublist (List.sublist_cons_self _ _))
    show wpAny _ A (assign (.Name x px) env (.ref D)) _ _ _
    refine wpAny_assign_Name (store_ok hE S₄ (F₂.st x hx) fun m' loc' h₅ tk₅ S₅ st₅ => ?_)
    refine ⟨mm, hn.ns (S₅.ofMu (List.mem_append_right _ (.head _))), fun h₆ hs₆ => ?_⟩
    have S₆ : SS W h₀ L m' (loc' ++ (own ++ par)) ((D, listOf vs.toArray n) :: fz₂) h₆ := (S₅.perm List.perm_middle).drop fun b o hb e => hs₆.extBut b o hb e
    have R : Rep (Hs W.base ((D, listOf vs.toArray n) :: fz₂)) (.ref D) (.list (items.flatMap f)) := .list (.inr (.head _)) rfl rfl (r₂.mono (Hs.sub .cons))
    exact c _ m' loc' own par _ ad h₆ tk₅ (s₁.trans (s₂.trans .cons)) (F₂.moved (bs := [(x, .dat (.list (items.flatMap f)))]) S₆ (st₅.moved (pv := .dat (.list (items.flatMap f))) hp fun MU Y q => Rep.mono q R) rfl) rfl (Par.refl _ _ _) (fun _ _ => rfl) rfl
end
end Mine
end
section
open PySem PySem.W PyProof.Rows
set_option linter.unusedVariables false
set_option maxRecDepth 100000
namespace Mine

theorem pick_map {α β : Type} (f : α → β) (l : List α) (lo hi st : Option Int) : pick (l.map f) lo hi st = (pick l lo hi st).map f := by
  unfold pick
  rw [List.length_map, List.map_filterMap]
  congr 1
  funext i
  simp
/-- what is so of indices is so of all -/
theorem pick_of {α : Type} (l : List α) (lo hi st : Option Int) (g : List Nat) (h : slicePick ((List.range l.length).map fun i => Value.int (i : Nat) 0).toArray lo hi st = (g.map fun i => Value.int (i : Nat) 0).toArray) : pick l lo hi st = g.filterMap (l[·]?) := by
  have e : pick (List.range l.length) lo hi st = g := by
    have h1 : (slicePick ((List.range l.length).map fun i => Value.int (i : Nat) 0).toArray lo hi st).toList = pick ((List.range l.length).map fun i => Value.int (i : Nat) 0) lo hi st := by
      unfold slicePick pick
      simp
    rw [h, pick_map] at h1
    have inj : ∀ {a b : List Nat}, (a.map fun i => Value.int (i : Nat) 0) = (b.map fun i => Value.int (i : Nat) 0) → a = b := by
      intro a b hab
      refine List.map_inj_right (f := fun i : Nat => Value.int (i : Nat) 0) (fun x y hxy => ?_) |>.mp hab
      have : ((x : Nat) : Int) = (y : Nat) := by injection hxy
      exact Int.ofNat_inj.mp this
    exact (inj (by simpa using h1)).symm
  have : pick l lo hi st = (pick (List.range l.length) lo hi st).filterMap (l[·]?) := by
    unfold pick
    rw [List.length_range, List.filterMap_filterMap]
    congr 1
    funext i
    by_cases hi : i < l.length
    · simp [hi]
    · simp [hi]
  rw [this, e]
theorem fm_range {α : Type} (l : List α) : ∀ k, (List.range k).filterMap (l[·]?) = l.take k
  | 0 => by simp
  | k + 1 => by
    rw [List.range_succ, List.filterMap_append, fm_range l k, List.take_add_one]
    cases h : l[k]? <;> simp [h]
theorem pick_upto {α : Type} (l : List α) (b : Nat) : pick l none (some b) none = l.take b := by
  rw [pick_of l none (some b) none ((List.range l.length).take b) (by rw [slicePick_upto', List.map_take])]
  rw [List.take_range, fm_range]
  rw [List.take_eq_take_iff]; lia
theorem pick_mem {α : Type} {l : List α} {lo hi st : Option Int} {x : α} (h : x ∈ pick l lo hi st) : x ∈ l := by
  unfold pick at h
  obtain ⟨i, _, e⟩ := List.mem_filterMap.mp h
  exact List.mem_of_getElem? e
end Mine
end
section
open PySem PySem.W PyProof.Rows
set_option linter.unusedVariables false
set_option maxRecDepth 100000
namespace Mine
open PySem.Calls PySem.Spec PySem.SeqAt

/-- statements in a frame where x is a function that turns the list y -/
noncomputable def EXm (W : Wd) (lv : Nat) (sc : Scope) (ps : List Str) (ρ : Names) (x y : Str) (lf : Nat) (G : List Dat → List Dat → List Dat → Prop) (t : Env → Sem Flow) (out : Out) : Prop :=
  ∀ (A : Around) (h₀ : Heap) (L : Addr) (m : Str → Option Value) (loc own par fz : Led) (env : Env) (ad : Str → Addr) (s : Shared) (Q : Flow → Shared → Prop) (E : Value → Shared → Prop) (f c : Addr) (o : Obj),
    AOk W lv A h₀ env L → EnvOk env sc → FS W sc ps h₀ L m loc own par fz env ad ρ s.heap → env.cells.lookup x = some c → (c, o) ∈ fz → o.data = .cell (some (.ref f)) → MutCall W lf fz f (ad y) G →
    (∀ fl m' loc' own' par' fz' ad' h' tk', Sub fz fz' → out.fs W sc ps h₀ L m' loc' own' par' fz' env ad' h' → out.flow (Hs W.base fz') fl → Par ps ad par par' → (∀ x ∈ ps, ad' x = ad x) → Q fl { s with heap := h', toks := tk' }) →
    wpAny (model W.prog W.w) A (t env) Q E s
section
variable {W : Wd} {lv lf : Nat} {sc : Scope} {ps : List Str} {ρ ρ' : Names} {x y : Str} {G : List Dat → List Dat → List Dat → Prop}
theorem exm_of {t : Env → Sem Flow} {out : Out} (h : EX W lv sc ps ρ t out) : EXm W lv sc ps ρ x y lf G t out := by
  intro A h₀ L m loc own par fz env ad s Q E f c o hA hE F hc ho hd M k
  exact h A h₀ L m loc own par fz env ad s Q E hA hE F fun fl m₁ loc₁ own₁ par₁ fz₁ ad₁ h₁ t₁ s₁ x₁ f₁ p₁ a₁ l₁ => k fl m₁ loc₁ own₁ par₁ fz₁ ad₁ h₁ t₁ s₁ x₁ f₁ p₁ a₁
theorem exm_seq {st : Stmt} {rest : List Stmt} {out : Out} (hy : y ∈ ps) (h : EX1 W lv sc ps ρ st (.next ρ')) (k : EXm W lv sc ps ρ' x y lf G (execs rest) out) : EXm W lv sc ps ρ x y lf G (execs (st :: rest)) out := by
  intro A h₀ L m loc own par fz env ad s Q E f c o hA hE F hc ho hd M k'
  refine wpAny_execs_cons (h A h₀ L m loc own par fz env ad s _ E hA hE F fun fl m₁ loc₁ own₁ par₁ fz₁ ad₁ h₁ t₁ s₁ x₁ f₁ p₁ a₁ l₁ => ?_)
  cases f₁
  exact k A h₀ L m₁ loc₁ own₁ par₁ fz₁ env ad₁ _ Q E f c o hA hE x₁ hc (s₁ _ ho) hd (by rw [a₁ y hy]; exact M.mono s₁) fun fl m₂ loc₂ own₂ par₂ fz₂ ad₂ h₂ t₂ s₂ x₂ f₂ p₂ a₂ =>
    k' fl m₂ loc₂ own₂ par₂ fz₂ ad₂ h₂ t₂ (s₁.trans s₂) x₂ f₂ (p₁.trans p₂ a₁) (fun y hy => (a₂ y hy).trans (a₁ y hy))
theorem exm_call {np pos spos : Pos} {es : List Expr} {args ds ds' : List Dat} {rest : List Stmt} {out : Out} (hx : sc.names.lookup x = some .free) (hp : PlainName x) (hl : lf ≤ lv) (hy : ρ.lookup y = some (.lst ds)) (h : EVs W lv sc ρ es (args.map .dat)) (hG : G args ds ds')
    (k : EXm W lv sc ps ((y, .lst ds') :: ρ) x y lf G (execs rest) out) : EXm W lv sc ps ρ x y lf G (execs (.Expr (.Call (.Name x np) es [] pos) spos :: rest)) out := by
  intro A h₀ L m loc own par fz env ad s Q E f c o hA hE F hc ho hd M k'
  refine wpAny_execs_cons (mut_stmt hA hE F (.cell (hE.cells x _ hx (.inr rfl)).1 hc (List.mem_append_right _ (List.mem_append_right _ ho)) hd) hp M hl hy h hG fun own' par' fz' h' tk' s' F' P' => ?_)
  exact k A h₀ L m loc own' par' fz' env ad _ Q E f c o hA hE F' hc (s' _ ho) hd (M.mono s') fun fl m₂ loc₂ own₂ par₂ fz₂ ad₂ h₂ t₂ s₂ x₂ f₂ p₂ a₂ =>
    k' fl m₂ loc₂ own₂ par₂ fz₂ ad₂ h₂ t₂ (s'.trans s₂) x₂ f₂ (P'.trans p₂ fun _ _ => rfl) a₂
theorem exm_ift {t : Expr} {body orelse rest : List Stmt} {pos : Pos} {d : Dat} (h : ET W lv sc ρ t true) (k : EXS W lv sc ps ρ body (.ret d ρ')) : EXm W lv sc ps ρ x y lf G (execs (.If t body orelse pos :: rest)) (.ret d ρ') :=
  exm_of (ex_ret (ex_if h (fun _ => k) (fun q => by cases q)))
theorem exm_iff {t : Expr} {body rest : List Stmt} {pos : Pos} {out : Out} (h : ET W lv sc ρ t false) (k : EXm W lv sc ps ρ x y lf G (execs rest) out) : EXm W lv sc ps ρ x y lf G (execs (.If t body [] pos :: rest)) out := by
  intro A h₀ L m loc own par fz env ad s Q E f c o hA hE F hc ho hd M k'
  refine wpAny_execs_cons (wpAny_If (h A h₀ env L m _ fz env s _ E hA hE F.ss F.full fun fz' h' t' s' S' => ?_))
  refine wpAny_execs_nil ?_
  exact k A h₀ L m loc own par fz' env ad _ Q E f c o hA hE (F.grow s' S') hc (s' _ ho) hd (M.mono s') fun fl m₂ loc₂ own₂ par₂ fz₂ ad₂ h₂ t₂ s₂ => k' fl m₂ loc₂ own₂ par₂ fz₂ ad₂ h₂ t₂ (s'.trans s₂)
theorem exm_if_call {t : Expr} {np pos cpos spos : Pos} {es : List Expr} {args ds ds' : List Dat} {rest : List Stmt} {out : Out} {b : Bool} (ht : ET W lv sc ρ t b) (hx : sc.names.lookup x = some .free) (hp : PlainName x) (hl : lf ≤ lv) (hy : ρ.lookup y = some (.lst ds))
    (h : b = true → EVs W lv sc ρ es (args.map .dat)) (hG : b = true → G args ds ds') (k : b = true → EXS W lv sc ps ((y, .lst ds') :: ρ) rest out) (k₀ : b = false → EXS W lv sc ps ρ rest out) :
    EXm W lv sc ps ρ x y lf G (execs (.If t [.Expr (.Call (.Name x np) es [] cpos) spos] [] pos :: rest)) out := by
  cases b with
  | false => exact exm_iff ht (exm_of (k₀ rfl))
  | true =>
    intro A h₀ L m loc own par fz env ad s Q E f c o hA hE F hc ho hd M k'
    refine wpAny_execs_cons (wpAny_If (ht A h₀ env L m _ fz env s _ E hA hE F.ss F.full fun fz' h' t' s' S' => ?_))
    have F₁ := F.grow s' S'
    refine wpAny_execs_cons (mut_stmt hA hE F₁ (.cell (hE.cells x _ hx (.inr rfl)).1 hc (List.mem_append_right _ (List.mem_append_right _ (s' _ ho))) hd) hp (M.mono s') hl hy (h rfl) (hG rfl) fun own' par' fz₂ h₂ tk₂ s₂ F₂ P₂ => ?_)
    refine wpAny_execs_nil ?_
    exact k rfl A h₀ L m loc own' par' fz₂ env ad _ Q E hA hE F₂ fun fl m₃ loc₃ own₃ par₃ fz₃ ad₃ h₃ t₃ s₃ x₃ f₃ p₃ a₃ l₃ => k' fl m₃ loc₃ own₃ par₃ fz₃ ad₃ h₃ t₃ (s'.trans (s₂.trans s₃)) x₃ f₃ (P₂.trans p₃ fun _ _ => rfl) a₃
end
theorem EX.retNil {W : Wd} {lv : Nat} {sc : Scope} {ps : List Str} {ρ ρ' : Names} {t : Env → Sem Flow} {d : Dat} (h : EX W lv sc ps ρ t (.ret d ρ')) : EX W lv sc ps ρ t (.ret d []) :=
  fun A h₀ L m loc own par fz env ad s Q E hA hE x c => h A h₀ L m loc own par fz env ad s Q E hA hE x fun fl m₁ loc₁ own₁ par₁ fz₁ ad₁ h₁ t₁ s₁ x₁ f₁ p₁ a₁ l₁ =>
    c fl m₁ loc₁ own₁ par₁ fz₁ ad₁ h₁ t₁ s₁ (let ⟨sc₂, y₁⟩ := x₁; ⟨sc₂, FS.sub y₁ fun _ _ h => by cases h⟩) f₁ p₁ a₁ l₁
noncomputable def belowR (G : Nat → List Dat → List Dat → List Dat → Prop) : Nat → List Dat → List Dat → List Dat → Prop
  | 0 => fun _ _ _ => False
  | n + 1 => G n
noncomputable def Out.isNone : Out → Prop
  | .next _ => True
  | .ret d _ => d = .none
  | .esc _ => False
theorem Out.isNone.plain {o : Out} (h : o.isNone) : o.plain = true := by cases o <;> first | rfl | exact h.elim
section
variable {W : Wd} {lv lf : Nat} {sc lsc lsc' : Scope} {ρ ρc : Names} {tabs : List (Addr × Addr × Str)} {t : Addr × Addr × Str} {x y : Str} {px pos lpos : Pos} {params : Arguments} {F : List Dat → Option Dat} {pn : List Str} {q : Str} {rest : List Stmt} {d : Dat}
/-- def x(..): .. that captures data, a list that it turns, and itself -/
theorem exr_def_mut {body : List Stmt} {ρ₁ ρ' : Names} {ds₀ : List Dat} (hT : Tabs W tabs t) (hcode : sc.more.lookup ("@code" : Str) = some (.int t.1)) (hqual : sc.more.lookup ("@qual" : Str) = some (.str q)) (hq : q ++ x = t.2.2)
    (I : ∀ pv qv, Inner lsc ((x, pv) :: (y, qv) :: ρ₁)) (hρ : ∀ p ∈ (y, .lst ds₀) :: ρ₁, ρ.lookup p.1 = some p.2 ∧ sc.names.lookup p.1 = some .cell) (hd : allDat ρ₁ = true) (hx : sc.names.lookup x = some .cell) (hp : PlainName x)
    (hd0 : params.defaults = []) (hk0 : params.kw_defaults = []) (ha : ∀ env, annTrees params none env = []) (hbind : ∀ (vs : List Value) (cl : List (Str × Addr)) (doc pm cdv ctv : Value), vs.length = pn.length → bindArgs (fnX x t.2.2 params body lsc cl .none .none doc pm none cdv ctv) ⟨vs, []⟩ = pure (pn.zip vs))
    (hpn : (pn.all fun y => lsc.names.lookup y == some .local) = true) (hnd : pn.Nodup) (hpl : ∀ y ∈ pn, PlainName y) (hns : lsc'.names = lsc.names) (hmo : lsc'.more = []) (G : Nat → List Dat → List Dat → List Dat → Prop)
    (hb : ∀ n args ds ds', G n args ds ds' → args.length = pn.length ∧ ∃ out, out.isNone ∧ out.names.lookup y = some (.lst ds') ∧ EXm W n lsc' [y] (zipD pn args ++ (y, .lst ds) :: ρ₁) x y n (belowR G n) (execs body) out)
    (hco : lsc.isCoroutine = false) (hgen : lsc.isGenerator = false) (N : Nat)
    (k : EXm W lv (unslot (unslots sc (y :: ρ₁.map (·.1))) x) [] ρ x y (N + 1) (G N) (execs rest) (.ret d ρ')) (hxρ : ρ.lookup x = none) : EXR W lv sc ρ (.FunctionDef x params body [] none [] lsc none x pos :: rest) d := by
  refine ⟨ρ', ?_⟩
  intro A h₀ L m loc own par fz env ad s Q E hA hE F₀ c
  have I0 := I (.dat .none) (.dat .none)
  have nd1 := I0.nd
  rw [List.map_cons, List.nodup_cons] at nd1
  obtain ⟨loc₁, fz₁, s₁, F₁, hE₁, C₁⟩ := F₀.freezeCells ((y, .lst ds₀) :: ρ₁) hE hρ nd1.2
  have hxc : ∃ cx, env.cells.lookup x = some cx := Option.isSome_iff_exists.mp (hE.cells x _ hx (.inl rfl)).2
  obtain ⟨cx, hcx⟩ := hxc
  have hfree : ∀ z, lsc.names.lookup z = some .free → ∃ c, env.cells.lookup z = some c := fun z hz => by
    have := I0.free z hz
    rw [List.map_cons, List.mem_cons] at this
    rcases this with e | hm
    · rw [e]; exact ⟨cx, hcx⟩
    · rw [List.map_cons, List.mem_cons] at hm
      rcases hm with e | hm
      · obtain ⟨c, _, _, q', _⟩ := C₁ y (.lst ds₀) (.head _)
        exact ⟨c, by rw [e]; exact q'⟩
      · obtain ⟨p, hp', e⟩ := List.mem_map.mp hm
        obtain ⟨c, _, _, q', _⟩ := C₁ p.1 p.2 (.tail _ hp')
        exact ⟨c, by rw [← e]; exact q'⟩
  have hmem : ∀ y, (y, NameKind.free) ∈ lsc.names → lsc.names.lookup y = some .free := fun y hy => by
    have := I0.sc
    simp only [scP', Bool.and_eq_true, List.all_eq_true, beq_iff_eq] at this
    exact (this.2 _ hy).1
  have hcl : closureFor lsc env = pure (closL env.cells lsc.names []) := closureFor_ok fun y hy => by
    obtain ⟨c, q'⟩ := hfree y (hmem y hy)
    rw [q']; rfl
  have hclos : ClosOk lsc.names (closL env.cells lsc.names []) := ⟨fun y hy => by
    obtain ⟨c, q'⟩ := hfree y hy
    rw [closL_at q' _ _ (PySem.mem_of_lookup hy)]; rfl, fun a b c ha' hb' => hE.inj a b c (closL_of _ _ (fun _ _ h => by cases h) ha') (closL_of _ _ (fun _ _ h => by cases h) hb')⟩
  have hqe : qualnameIn env x x = t.2.2 := by
    have hk := (hE.cells x _ hx (.inl rfl)).1
    unfold qualnameIn
    rw [if_neg (fun e => by
      have e : env.kindOf x = some .globalExplicit := by simpa using e
      rw [e] at hk; rcases hk with h | h <;> cases h), hE.qual q hqual]
    exact hq
  have hce : env.code = .ref t.1 := by have := hE.code _ hcode; simpa using this
  refine wpAny_execs_cons (nestDef_K hd0 hk0 (ha env) ?_)
  rw [hqe]
  refine make_def hA hT.gl hT.mem hT.nd hT.code F₁.ss hcl hE.glob hce fun f fz₂ h₂ tk₂ c' ctv doc pm s₂ S₂ hf hcx' => ?_
  have F₂ := F₁.grow s₂ S₂
  have hx₁ : (unslots sc (y :: ρ₁.map (·.1))).names.lookup x = some .cell := (unslots_glob (k := .cell) (by simpa using nd1.1)).trans hx
  refine store_ok hE₁ F₂.ss (F₂.st x (.inr hx₁)) fun m' loc' h₃ tk₃ S₃ st₃ => ?_
  have none0 : ∀ (X : Fact), X f (fnMade x t.2.2 params body lsc (closL env.cells lsc.names []) doc pm c' ctv) → CallOk W 0 X (.ref f) (fun _ => none) := fun X hX => ⟨f, _, _, rfl, hX, rfl, fun _ _ _ _ _ _ _ _ _ _ _ _ _ _ _ _ _ hF => by cases hF⟩
  have F₃ := F₂.moved (bs := [(x, .fn 0 fun _ => none)]) S₃ (st₃.moved (pv := .fn 0 fun _ => none) hp fun MU Y qq => none0 _ (qq _ _ (.inr hf))) rfl
  obtain ⟨loc₄, c₄, o₄, e1, e2, e3, F₄, hl₄⟩ := F₃.freezeCellV hE₁ (st₃.new _) hx₁
  have C₂ : CapR W (Hs W.base ((c₄, o₄) :: fz₂)) (own ++ par) ((c₄, o₄) :: fz₂) env ad ((y, .lst ds₀) :: ρ₁) := fun y pv hy => by
    obtain ⟨c, o, v, a1, a2, a3, a4, a5, a6⟩ := C₁ y pv hy
    exact ⟨c, o, v, a1, .tail _ (s₂ _ a2), a3, a4, a5.mono (Hs.sub (s₂.trans .cons)) (Sub.refl _), a6⟩
  obtain ⟨cy, oy, vy, y1, y2, y3, y4, y5, y6⟩ := C₂ y (.lst ds₀) (.head _)
  have y6 := y6 ds₀ rfl
  subst y6
  have hcell : (closL env.cells lsc.names []).lookup x = some c₄ := closL_at e1 _ _ (PySem.mem_of_lookup (I0.cap (x, .dat .none) (.head _)))
  have ok : ∀ n, MutCall W n ((c₄, o₄) :: fz₂) f (ad y) (belowR G n) := by
    intro n
    induction n with
    | zero => exact ⟨_, _, .tail _ hf, rfl, fun A h₀ fenv L m mu fz' s vs args ds ds' Q E hA hs S hl hr hG => hG.elim⟩
    | succ n ih =>
      refine ⟨_, _, .tail _ hf, rfl, fun A h₀ fenv L m mu fz' s vs args ds ds' Q E hA hs S hl hr hG kk => ?_⟩
      obtain ⟨hlen, out, ho1, ho2, hbody⟩ := hb n args ds ds' hG
      have hvl : vs.length = pn.length := by rw [hr.length, hlen]
      have hcxz : CodeX (Hs W.base fz') (.ref c') t.2.2 := hcx'.mono (Hs.sub (Sub.trans .cons hs))
      refine call_Ps (ps := [y]) (ad := fun _ => ad y) (sc := lsc') (ρ := zipD pn args) (ρc := (y, .lst ds) :: ρ₁) (out := out) hA S (.inr (hs _ (.tail _ hf))) rfl hcxz (BindsTo.of_eq (hbind vs _ _ _ _ _ hvl)) I0.sc (List.all_eq_true.mpr fun p hp => ?_) ?_ hclos (bindR_zip hpl hnd hvl hr) ?_ ?_ ?_ hns hmo ?_ Q (fun v fz₃ mu₃ ad₃ h₃ tk₃ s₃ S₃ r₃ p₃ a₃ l₃ => ?_) hco hgen ho1.plain
      · exact List.all_eq_true.mp hpn p.1 (List.of_mem_zip hp).1
      · rw [List.map_fst_zip (by (clear hcxz hbody ho2 ho1 hlen kk hG hr hl S hs hA ih hcell y6 y5 y4 y3 y2 y1 C₂ hl₄ F₄ e3 e2 e1 F₃ none0 st₃ S₃ hx₁ F₂ hcx' hf S₂ s₂ hce hqe hclos hcl hmem hfree hcx C₁ hE₁ F₁ s₁ nd1 I0 c F₀ hE hxρ k hgen hco hb hmo hns hpl hnd hpn hbind ha hk0 hd0 hp hx hd hρ I hq hqual hcode hT; lia))]; exact hnd
      · intro z pv hz
        rw [List.lookup_cons] at hz
        cases e : z == y with
        | true =>
          rw [e] at hz; cases hz
          have e := beq_iff_eq.mp e
          subst e
          exact ⟨I0.pl (z, .dat .none) (.tail _ (.head _)), I0.cap (z, .dat .none) (.tail _ (.head _)), cy, oy, .ref (ad z), closL_at y1 _ _ (PySem.mem_of_lookup (I0.cap (z, .dat .none) (.tail _ (.head _)))), .inr (hs _ y2), y3, y4, hl.prep, fun es he => by cases he; exact ⟨.head _, rfl, hl⟩⟩
        | false =>
          rw [e] at hz
          have hm := PySem.mem_of_lookup hz
          obtain ⟨c, o, v, a1, a2, a3, a4, a5, a6⟩ := C₂ z pv (.tail _ hm)
          have hne : ∀ ds, pv ≠ .lst ds := fun ds q => by
            have := List.all_eq_true.mp hd _ hm
            subst q
            cases this
          refine ⟨I0.pl (z, pv) (.tail _ (.tail _ hm)), I0.cap (z, pv) (.tail _ (.tail _ hm)), c, o, v, closL_at a1 _ _ (PySem.mem_of_lookup (I0.cap (z, pv) (.tail _ (.tail _ hm)))), .inr (hs _ a2), a3, a4, ?_, fun es q => absurd q (hne es)⟩
          cases pv with
          | dat d => exact Rep.mono (Hs.sub hs) a5
          | fn lf G => exact CallOk.mono (Hs.sub hs) a5
          | lst ds => exact absurd rfl (hne ds)
      · intro z hz
        obtain ⟨vs', n', hm, _⟩ := hl
        exact ⟨_, hm⟩
      · intro a ha b hb' _
        cases List.mem_singleton.mp ha; cases List.mem_singleton.mp hb'; rfl
      · intro A' g L' m' env' s' Q' E' hA' hE' hcells FF kk'
        exact hbody A' g L' m' [] [] mu fz' env' _ s' Q' E' f c₄ o₄ hA' hE' FF (by rw [hcells]; exact hcell) (hs _ (.head _)) e2 (ih.mono hs) kk'
      · have hv : v = .none := by
          cases out with
          | next _ => exact r₃
          | ret d _ =>
            have ho1 : d = .none := ho1
            subst ho1
            have r₃ : Rep (Hs W.base fz₃) v .none := r₃
            cases r₃; rfl
          | esc _ => exact ho1.elim
        subst hv
        exact kk fz₃ mu₃ h₃ tk₃ s₃ S₃ ⟨⟨p₃.1, fun p hp hne => p₃.2 p hp fun z hz => hne "" (.head _)⟩, l₃ y (.head _) ds' ho2⟩
  have hE₅ := hE₁.unslot hx₁
  refine k A h₀ L m' loc₄ own par _ env ad _ Q E f c₄ o₄ hA hE₅ (F₄.sub fun z pv hz => ?_) e1 (.head _) e2 (ok (N + 1)) fun fl m₆ loc₆ own₆ par₆ fz₆ ad₆ h₆ tk₆ s₆ x₆ f₆ p₆ a₆ => ?_
  · show List.lookup z ((x, _) :: ρ) = _
    rw [List.lookup_cons]
    cases e : z == x with
    | true => rw [beq_iff_eq.mp e, hxρ] at hz; cases hz
    | false => exact hz
  · exact c fl m₆ loc₆ own₆ par₆ fz₆ ad₆ h₆ tk₆ (s₁.trans (s₂.trans (Sub.trans .cons s₆))) x₆ f₆ p₆ a₆ rfl
end
end Mine
end
section
open PySem PySem.W PyProof.Rows
set_option linter.unusedVariables false
set_option maxRecDepth 100000
namespace Mine
open PySem.Calls PySem.Spec PySem.SeqAt

section
variable {W : Wd} {lv : Nat} {sc : Scope} {ps : List Str} {ρ ρ' : Names}
/-- y.reverse() -/
theorem ex_reverse {y : Str} {py ap pos spos : Pos} {ds : List Dat} (hy : ρ.lookup y = some (.lst ds)) (hz : ds.length ≤ 1048576)
    (hbase : ∀ env, attributeBase (.Name y py) (Str.ofString "reverse") env (eval (.Name y py) env) = eval (.Name y py) env := by intro _; rfl) (hline : (ap.endLine == pos.line) = true := by rfl) :
    EX1 W lv sc ps ρ (.Expr (.Call (.Attribute (.Name y py) (Str.ofString "reverse") ap) [] [] pos) spos) (.next ((y, .lst ds.reverse) :: ρ)) := by
  intro A h₀ L m loc own par fz env ad s Q E hA hE x c
  refine wpAny_Expr_any (wpAny_Call_method0_late (hbase env) hline ?_) (by show (env.scope.kind == .module && _) = false; rw [hE.kind]; rfl) rfl
  refine eval_name hE x.ss (x.loadsFull hy) (x.nm y _ hy).1 ?_
  obtain ⟨vs, n, hm, hr⟩ := x.listAt hy
  have ho := x.ss.ofMu (List.mem_append_right loc hm)
  refine ⟨"list", "list.reverse", F.plainAttrs_list, F.slot_list_reverse, F.type_list_reverse, ⟨_, ho, rfl⟩, fun a q => ⟨_, by cases q; exact ho, rfl⟩, ?_⟩
  refine P.reverse_list (show IsL s.heap (ad y) vs.toArray n from ho) ?_ (by rw [List.size_toArray, sizeLine_eq, hr.length]; (clear ho hr hm c x hE hA hline hbase hy; lia))
  have hup := (show IsL s.heap (ad y) vs.toArray n from ho).update (fun xs => xs.reverse)
  have ho₂ : (s.heap.update (ad y) (Obj.mapSeq fun xs => xs.reverse)).get? (ad y) = some (listOf vs.reverse.toArray n) := by
    rw [hup]; simp [PySem.W.listOf]
  obtain ⟨own', par', x₂, p₂⟩ := x.turn (ds' := ds.reverse) hy (fun b o hb e => (Heap.get?_update_other s.heap _ (Ne.symm hb)).trans e) ho₂ hr.reverse
  exact c _ m loc own' par' fz ad _ s.toks (Sub.refl _) x₂ rfl p₂ (fun _ _ => rfl) rfl
/-- y.insert(i, e) -/
theorem ex_insert {y : Str} {py ap pos spos : Pos} {i e : Expr} {ds : List Dat} {d : Dat} {k : Nat} (hy : ρ.lookup y = some (.lst ds)) (hi : EV W lv sc ρ i (.dat (.int k))) (h : EV W lv sc ρ e (.dat d)) (hk : k ≤ ds.length) (hz : ds.length ≤ 1048576) (hn : nStar i = true) (hn' : nStar e = true)
    (hbase : ∀ env, attributeBase (.Name y py) (Str.ofString "insert") env (eval (.Name y py) env) = eval (.Name y py) env := by intro _; rfl) (hline : (ap.endLine == pos.line) = true := by rfl) :
    EX1 W lv sc ps ρ (.Expr (.Call (.Attribute (.Name y py) (Str.ofString "insert") ap) [i, e] [] pos) spos) (.next ((y, .lst (ds.take k ++ d :: ds.drop k)) :: ρ)) := by
  intro A h₀ L m loc own par fz env ad s Q E hA hE x c
  refine wpAny_Expr_any (wpAny_Call_method2_late (hbase env) hline (by rw [starEach_cons hn, starEach_cons hn']; rfl) ?_) (by show (env.scope.kind == .module && _) = false; rw [hE.kind]; rfl) rfl
  refine eval_name hE x.ss (x.loadsFull hy) (x.nm y _ hy).1 ?_
  obtain ⟨vs, n, hm, hr⟩ := x.listAt hy
  have ho := x.ss.ofMu (List.mem_append_right loc hm)
  refine ⟨"list", "list.insert", F.plainAttrs_list, F.slot_list_insert, F.type_list_insert, ⟨_, ho, rfl⟩, fun a q => ⟨_, by cases q; exact ho, rfl⟩, ?_⟩
  refine method_meets F.slot_list_insert F.entry_list_insert rfl (Calls.evalArgs_plain (Calls.spliced_cons (hi A h₀ env L m _ fz env s _ E hA hE x.ss x.full fun v₁ fz₁ h₁ t₁ s₁ S₁ R₁ => Calls.spliced_cons (h A h₀ env L m _ fz₁ env _ _ E hA hE S₁ (x.grow s₁ S₁).full fun v₂ fz₂ h₂ t₂ s₂ S₂ R₂ => Calls.spliced_nil ⟨rfl, ?_⟩))))
  have x₁ := x.grow (s₁.trans s₂) S₂
  have ho₁ : IsL h₂ (ad y) vs.toArray n := x₁.ss.ofMu (List.mem_append_right loc hm)
  obtain ⟨j, hj⟩ : ∃ j : Int, j = (k : Int) := ⟨_, rfl⟩
  have R₁' : Rep (Hs W.base fz₁) v₁ (.int j) := by rw [hj]; exact R₁
  have hfit : Builtin.List.listFitsIndex j = true := fitsIndex_of (by (clear R₁' ho₁ x₁ R₂ S₂ s₂ R₁ S₁ s₁ ho hr hm c x hE hA hline hbase hn' hn hz hk h hi hy; lia)) (by (clear R₁' ho₁ x₁ R₂ S₂ s₂ R₁ S₁ s₁ ho hr hm c x hE hA hline hbase hn' hn h hi hy; lia))
  cases R₁' with
  | int _ u =>
  have hsz : vs.toArray.size ≤ sizeLine := by rw [List.size_toArray, sizeLine_eq, hr.length]; (clear R₁ hfit hj ho₁ x₁ R₂ S₂ s₂ S₁ s₁ ho hr hm c x hE hA hline hbase hn' hn hk h hi hy; lia)
  have hfit' : ¬(!Builtin.List.listFitsIndex j) = true := by rw [hfit]; exact Bool.false_ne_true
  have M := AutoSeq1.list_insert_list_int_val_1 (ad y) vs.toArray n j u v₂ hfit' hsz
  refine ⟨⟨_, ho₁, rfl⟩, F.args_list_insert_3 _ _ _, _, M, ?_⟩
  refine ⟨ho₁, ?_⟩
  have hup := ho₁.update (fun xs => have k := if j < 0 then (j + (xs.size : Int)).toNat else min j.toNat xs.size; (xs.extract 0 k).push v₂ ++ xs.extract k)
  have hl : vs.length = ds.length := hr.length
  have ho₂ : (h₂.update (ad y) (Obj.mapSeq fun xs => have k := if j < 0 then (j + (xs.size : Int)).toNat else min j.toNat xs.size; (xs.extract 0 k).push v₂ ++ xs.extract k)).get? (ad y) = some (listOf (vs.take k ++ v₂ :: vs.drop k).toArray (n + 1)) := by
    rw [hup]
    have e : (have k := if j < 0 then (j + (vs.toArray.size : Int)).toNat else min j.toNat vs.toArray.size; (vs.toArray.extract 0 k).push v₂ ++ vs.toArray.extract k) = (vs.take k ++ v₂ :: vs.drop k).toArray := by
      have e0 : (if j < 0 then (j + (vs.toArray.size : Int)).toNat else min j.toNat vs.toArray.size) = k := by
        rw [if_neg (by (clear hl hup M hfit' hsz R₁ hfit ho₁ x₁ R₂ S₂ s₂ S₁ s₁ ho hr hm c x hE hA hline hbase hn' hn hz hk h hi hy; lia)), List.size_toArray]; (clear hup M hfit' hsz R₁ hfit ho₁ x₁ R₂ S₂ s₂ S₁ s₁ ho hr hm c x hE hA hline hbase hn' hn h hi hy; lia)
      show (vs.toArray.extract 0 (if j < 0 then (j + (vs.toArray.size : Int)).toNat else min j.toNat vs.toArray.size)).push v₂ ++ vs.toArray.extract (if j < 0 then (j + (vs.toArray.size : Int)).toNat else min j.toNat vs.toArray.size) = _
      rw [e0]
      apply Array.toList_inj.mp
      have ee : (vs.drop k).take (vs.length - k) = vs.drop k := List.take_of_length_le (by rw [List.length_drop]; (clear e0 hl hup M hfit' hsz R₁ hfit hj ho₁ x₁ R₂ S₂ s₂ S₁ s₁ ho hr hm c x hE hA hline hbase hn' hn hz hk h hi hy; lia))
      simp [List.extract, ee]
    show some _ = some _
    rw [e, if_neg (by simp; (clear e hup M hfit' hsz R₁ hfit ho₁ x₁ R₂ S₂ s₂ S₁ s₁ ho hr hm c x hE hA hline hbase hn' hn hz h hi hy; lia))]
  have hr' : RepA (Hs W.base fz₂) (vs.take k ++ v₂ :: vs.drop k) (ds.take k ++ d :: ds.drop k) := ((hr.mono (Hs.sub (s₁.trans s₂))).take k).append (.cons R₂ ((hr.mono (Hs.sub (s₁.trans s₂))).drop k))
  obtain ⟨own', par', x₂, p₂⟩ := x₁.turn (ds' := ds.take k ++ d :: ds.drop k) hy (fun b o hb e => (Heap.get?_update_other h₂ _ (Ne.symm hb)).trans e) ho₂ hr'
  exact c _ m loc own' par' fz₂ ad _ t₂ (s₁.trans s₂) x₂ rfl p₂ (fun _ _ => rfl) rfl
theorem ei_dreversed {x : Str} {np pos : Pos} {e : Expr} {ds : List Dat} (hb : Boot W sc x (.type "reversed")) (hn : nStar e = true) (h : EV W lv sc ρ e (.dat (.list ds))) : EI (fun _ => []) W lv sc ρ (.Call (.Name x np) [e] [] pos) ds.reverse := by
  intro A h₀ fenv L m mu fz env s Q E hA hE S hN k
  refine wpAny_Call_ofName (eval_boot hA hE S hb.sc hb.dbg hb.nm hb.top hb.boot ?_)
  have hv : EVs W lv sc ρ [e] [.dat (.list ds)] := .cons hn h .nil
  refine PySem.callWith_type (evs_star hv) (evalArgs_ok hv A h₀ fenv L m mu fz env s _ E hA hE S hN fun vs fz' h' t' s' S' R' => ?_)
  match vs, R' with
  | [v], ⟨R', _⟩ =>
  have R' : Rep (Hs W.base fz') v (.list ds) := R'
  cases R' with
  | @list l o vs n _ ho hc hd ra =>
  have e : h'.get? l = some o := S'.has ho
  refine call_reversed_list ⟨o, e, hc, n, hd⟩ ?_
  have hne := S'.fresh (.inl ho)
  refine wpAny_pyIter_revIter (l := l) (i := (vs.toArray.size : Int) - 1) ⟨_, Heap.get?_push_size _ rfl, rfl, rfl⟩ ?_
  refine k _ _ _ fz' _ _ s' (S'.pushMu _) (src_rev hA.hh hne (.inl ho) hc hd ra) ⟨Nat.zero_le _, ⟨_, Heap.get?_push_size _ rfl, rfl, ?_⟩, Heap.get?_push_of_some _ e⟩
  simp [revObj]
end
end Mine
end
section
open PySem PySem.W PyProof.Rows
set_option linter.unusedVariables false
namespace Mine
/-- the digits of x, the lowest first -/
noncomputable def digs (n : Nat) : Nat → Nat → List Nat
  | 0, _ => []
  | k + 1, x => x % 2 ^ n :: digs n k (x / 2 ^ n)
theorem digs_length (n : Nat) : ∀ k x, (digs n k x).length = k
  | 0, _ => rfl
  | k + 1, x => by rw [digs, List.length_cons, digs_length n k]
theorem digs_add (n : Nat) : ∀ k j x, digs n (k + j) x = digs n k x ++ digs n j (x / 2 ^ (n * k))
  | 0, j, x => by simp [digs]
  | k + 1, j, x => by
    rw [Nat.add_right_comm, digs, digs_add n k j, digs, List.cons_append, Nat.div_div_eq_div_mul, ← Nat.pow_add, Nat.mul_succ, Nat.add_comm n]
theorem digs_mod (n : Nat) : ∀ k x, digs n k (x % 2 ^ (n * k)) = digs n k x
  | 0, _ => rfl
  | k + 1, x => by
    have e : 2 ^ (n * (k + 1)) = 2 ^ n * 2 ^ (n * k) := by rw [Nat.mul_succ, Nat.add_comm, Nat.pow_add]
    rw [digs, digs, e, Nat.mod_mul_right_mod, Nat.mod_mul_right_div_self, digs_mod n k]
theorem digs_lt (n : Nat) : ∀ k x d, d ∈ digs n k x → d < 2 ^ n
  | k + 1, x, d, h => by
    rcases List.mem_cons.mp h with rfl | h
    · exact Nat.mod_lt _ (Nat.pow_pos (by decide))
    · exact digs_lt n k _ d h
theorem digs_one (n x : Nat) (h : x < 2 ^ n) : digs n 1 x = [x] := by
  simp [digs, Nat.mod_eq_of_lt h]
/-- digits back to the number -/
theorem digs_sum (n : Nat) : ∀ k x, x < 2 ^ (n * k) → (digs n k x).foldr (fun d r => d + 2 ^ n * r) 0 = x
  | 0, x, h => by simp at h; simp [digs, h]
  | k + 1, x, h => by
    have e : 2 ^ (n * (k + 1)) = 2 ^ n * 2 ^ (n * k) := by rw [Nat.mul_succ, Nat.add_comm, Nat.pow_add]
    rw [e] at h
    rw [digs, List.foldr_cons, digs_sum n k _ (Nat.div_lt_of_lt_mul h)]
    exact Nat.mod_add_div x (2 ^ n)
/-- long division, the highest digit first: the rest, and the quotient's digits, the highest first -/
noncomputable def ldiv (n b : Nat) : Nat → List Nat → Nat × List Nat
  | r, [] => (r, [])
  | r, d :: ds => let x := r * 2 ^ n + d; let p := ldiv n b (x % b) ds; (p.1, x / b :: p.2)
theorem and_shift (x s : Nat) : x &&& ((x / 2 ^ s) * 2 ^ s) = (x / 2 ^ s) * 2 ^ s := by
  refine Nat.eq_of_testBit_eq fun i => ?_
  rw [Nat.testBit_and, Nat.testBit_mul_two_pow, Nat.testBit_div_two_pow]
  by_cases h : i < s
  · have h' : ¬ s ≤ i := by lia
    simp [h']
  · have h' : s ≤ i := by lia
    have e : s + (i - s) = i := by (clear h'; lia)
    simp [h', e]
theorem bitXor_shift (x s : Nat) : Builtin.bitXor (x : Int) (((x / 2 ^ s) * 2 ^ s : Nat) : Int) = ((x % 2 ^ s : Nat) : Int) := by
  rw [PyProof.Rows.bitXor_and, PyProof.Rows.bitAnd_pp (Int.natCast_nonneg _) (Int.natCast_nonneg _)]
  have e : (x : Int).toNat &&& (((x / 2 ^ s) * 2 ^ s : Nat) : Int).toNat = (x / 2 ^ s) * 2 ^ s := by
    rw [Int.toNat_natCast, Int.toNat_natCast, and_shift]
  rw [e]
  have := Nat.div_add_mod x (2 ^ s)
  have e2 : 2 ^ s * (x / 2 ^ s) = x / 2 ^ s * 2 ^ s := Nat.mul_comm _ _
  (clear e; lia)
/-- digits to a number, the lowest first -/
noncomputable def dn (n : Nat) (l : List Nat) : Nat := l.foldr (fun d r => d + 2 ^ n * r) 0
theorem dn_append (n : Nat) : ∀ a b : List Nat, dn n (a ++ b) = dn n a + 2 ^ (n * a.length) * dn n b
  | [], b => by simp [dn]
  | x :: a, b => by
    have ih := dn_append n a b
    show x + 2 ^ n * dn n (a ++ b) = x + 2 ^ n * dn n a + 2 ^ (n * (a.length + 1)) * dn n b
    rw [ih, Nat.mul_add, Nat.mul_succ, Nat.add_comm (n * a.length) n, Nat.pow_add, Nat.mul_assoc, Nat.add_assoc]
theorem ldiv_len (n b : Nat) : ∀ (ds : List Nat) (r : Nat), (ldiv n b r ds).2.length = ds.length
  | [], _ => rfl
  | d :: ds, r => by simp only [ldiv, List.length_cons]; rw [ldiv_len n b ds]
theorem ldiv_spec (n b : Nat) (hb : 0 < b) : ∀ (ds : List Nat) (r : Nat), r < b → (∀ d ∈ ds, d < 2 ^ n) →
    (ldiv n b r ds).1 < b ∧ (∀ q ∈ (ldiv n b r ds).2, q < 2 ^ n) ∧ r * 2 ^ (n * ds.length) + dn n ds.reverse = b * dn n (ldiv n b r ds).2.reverse + (ldiv n b r ds).1
  | [], r, h, _ => by
    refine ⟨h, ?_, ?_⟩
    · intro q hq; cases hq
    · simp [ldiv, dn]
  | d :: ds, r, h, hd => by
    have hx : (r * 2 ^ n + d) / b < 2 ^ n := by
      refine Nat.div_lt_of_lt_mul ?_
      have h1 : (r + 1) * 2 ^ n ≤ b * 2 ^ n := Nat.mul_le_mul_right _ h
      rw [Nat.add_mul, Nat.one_mul] at h1
      have h2 := hd d (.head _)
      (clear hd h hb; omega)
    obtain ⟨i1, i2, i3⟩ := ldiv_spec n b hb ds ((r * 2 ^ n + d) % b) (Nat.mod_lt _ hb) fun x hx => hd x (.tail _ hx)
    refine ⟨i1, fun q hq => ?_, ?_⟩
    · rcases List.mem_cons.mp hq with rfl | hq
      · exact hx
      · exact i2 q hq
    · simp only [ldiv, List.reverse_cons, List.length_cons]
      rw [dn_append, dn_append, List.length_reverse, List.length_reverse, ldiv_len]
      have e0 : ∀ x, dn n [x] = x := fun x => by simp [dn]
      rw [e0, e0]
      have e1 := Nat.div_add_mod (r * 2 ^ n + d) b
      have e2 : r * 2 ^ (n * (ds.length + 1)) = r * 2 ^ n * 2 ^ (n * ds.length) := by rw [Nat.mul_succ, Nat.add_comm, Nat.pow_add, Nat.mul_assoc]
      rw [e2]
      have e3 : (r * 2 ^ n + d) * 2 ^ (n * ds.length) = (b * ((r * 2 ^ n + d) / b) + (r * 2 ^ n + d) % b) * 2 ^ (n * ds.length) := by rw [e1]
      rw [Nat.add_mul, Nat.add_mul] at e3
      rw [Nat.mul_add, Nat.mul_comm (2 ^ (n * ds.length)) d, Nat.mul_comm (2 ^ (n * ds.length)) ((r * 2 ^ n + d) / b), ← Nat.mul_assoc]
      (clear e2 e1 e0 i2 i1 hx hd h hb; omega)
theorem ldiv_all (n b k a : Nat) (hb : 0 < b) (ha : a < 2 ^ (n * k)) : (ldiv n b 0 (digs n k a).reverse).1 = a % b ∧ dn n (ldiv n b 0 (digs n k a).reverse).2.reverse = a / b := by
  obtain ⟨h1, h2, h3⟩ := ldiv_spec n b hb (digs n k a).reverse 0 hb fun d hd => digs_lt n k a d (List.mem_reverse.mp hd)
  rw [List.reverse_reverse, show dn n (digs n k a) = a from digs_sum n k a ha, Nat.zero_mul, Nat.zero_add] at h3
  generalize dn n (ldiv n b 0 (digs n k a).reverse).2.reverse = q at *
  generalize (ldiv n b 0 (digs n k a).reverse).1 = r at *
  rw [h3]
  constructor
  · rw [Nat.mul_add_mod, Nat.mod_eq_of_lt h1]
  · rw [Nat.mul_add_div hb, Nat.div_eq_of_lt h1, Nat.add_zero]
end Mine
end
section
open PySem PySem.W PyProof.Rows
set_option linter.unusedVariables false
set_option maxRecDepth 100000
namespace Mine
open PySem.Calls PySem.Spec PySem.SeqAt

section
variable {W : Wd} {lv : Nat} {sc : Scope} {ps : List Str} {ρ ρ' : Names}
theorem op_inv {a : Int} : OpOk W lv [.int a] (fun vs => unaryOp .Invert (vs.getD 0 .none)) (.int (Builtin.bitNot a)) :=
  op_of_int fun _ _ _ _ _ _ k => invert_int (k _ _ fun _ => .int _ _)
theorem EVs.three {e f g : Expr} {p q r : PV} (h : EV W lv sc ρ e p) (k : EV W lv sc ρ f q) (l : EV W lv sc ρ g r) (hn : nStar e = true := by rfl) (hm : nStar f = true := by rfl) (ho : nStar g = true := by rfl) : EVs W lv sc ρ [e, f, g] [p, q, r] := .cons hn h (.two k l hm ho)
theorem ev_tup2 {e f : Expr} {a b : Dat} {kd : Nat} {pos : Pos} (h : EV W lv sc ρ e (.dat a)) (k : EV W lv sc ρ f (.dat b)) (hn : nStar e = true := by rfl) (hm : nStar f = true := by rfl) : EV W lv sc ρ (.Tuple [e, f] kd pos) (.dat (.tuple [a, b])) :=
  ev_tuple (ds := [a, b]) (.two h k hn hm) (by simp)
end
end Mine
end
section
open PySem PySem.W PyProof.Rows
set_option linter.unusedVariables false
set_option maxRecDepth 100000
namespace Mine
open PySem.Calls PySem.Spec PySem.SeqAt

/-! bytes < bytes -/
theorem slot_bytes_lt : Slot "bytes" (cmpInfo .Lt).2.1 "bytes.__lt__" :=
  .of (owner := "bytes") (n := "__lt__") (by rw [typeLookup_type, builtinLookup_eq_fast]; kernel_rfl) (by decide +kernel) (by decide +kernel) (by decide +kernel)
    (by first | exact .inl (by decide +kernel) | exact .inr (by decide +kernel)) (by rw [isSubtype_type]; kernel_rfl)
theorem entry_bytes_lt : entryFor table "bytes.__lt__" = some Builtin.«bytes.__lt__» := entryFor_of_tree (by kernel_rfl)
theorem args_bytes_lt_2 (a b : Value) : argsOk "bytes.__lt__" ⟨[a, b], []⟩ := by
  unfold argsOk; rw [signature?_of (id := "bytes.__lt__") (n := ['_', '_', 't', 'l', '_', '_']) (o := ['s', 'e', 't', 'y', 'b']) (by kernel_rfl) PySem.W.FB.owner_bytes]; kernel_rfl
/-- the order of bytes -/
noncomputable def bltL : List UInt8 → List UInt8 → Bool
  | [], [] => false
  | [], _ :: _ => true
  | _ :: _, [] => false
  | x :: a, y :: b => if x < y then true else if x > y then false else bltL a b
theorem bltL_order : ∀ a b : List UInt8, Builtin.Bytes.holds "__lt__" (Builtin.Bytes.order a b) = bltL a b
  | [], [] => rfl
  | [], _ :: _ => rfl
  | _ :: _, [] => rfl
  | x :: a, y :: b => by
    unfold Builtin.Bytes.order bltL
    by_cases h1 : x < y
    · rw [if_pos h1, if_pos h1]; rfl
    · rw [if_neg h1, if_neg h1]
      by_cases h2 : x > y
      · rw [if_pos h2, if_pos h2]; rfl
      · rw [if_neg h2, if_neg h2]; exact bltL_order a b
theorem gives_bytes_lt (b c : Array UInt8) (t u : Tok) : Gives (Builtin.«bytes.__lt__» ⟨[.bytes b t, .bytes c u], []⟩) (.val (.bool (bltL b.toList c.toList))) := by
  refine .of_wp fun M A E s Q hq => ?_
  show wpAny M A (isInstance (.bytes c u) (.type "bytes") >>= fun r => _) _ E s
  refine wpAny_bind (wpAny_isInstance (PySem.W.typeIs_bytes s c u) F.sub_bytes_bytes ?_)
  exact wpAny_pure ⟨_, rfl, by rw [← bltL_order] at hq; exact hq⟩
noncomputable def ltD : Dat → Dat → Option Bool
  | .int a, .int b => some (decide (a < b))
  | .bytes a, .bytes b => some (bltL a.toList b.toList)
  | _, _ => none
section
variable {W : Wd} {lv : Nat} {d e : Dat} {r : Bool}
theorem op_ltD (h : ltD d e = some r) : OpOk W lv [d, e] (fun vs => compareOp .Lt (vs.getD 0 .none) (vs.getD 1 .none)) (.bool r) := by
  unfold ltD at h
  split at h
  · cases h; exact op_lt
  · cases h
    rename_i a b
    intro A h₀ fenv L m mu fz s vs Q E hA S R k
    cases R with
    | cons r1 R => cases R with
      | cons r2 R => cases R; cases r1; cases r2; exact compareOp_gives (op := .Lt) (PySem.W.typeIs_bytes s _ _) (PySem.W.typeIs_bytes s _ _) slot_bytes_lt entry_bytes_lt (args_bytes_lt_2 _ _) (gives_bytes_lt _ _ _ _) (fun e => nomatch e) (k _ fz s.heap s.toks (Sub.refl _) S (.bool _))
  · cases h
end
/-! a list that does not turn in a call -/
theorem perm_front {l : Led} {p : Addr × Obj} (nd : (l.map (·.1)).Nodup) (h : p ∈ l) : l.Perm (p :: l.filter fun q => !(q.1 == p.1)) := by
  induction l with
  | nil => cases h
  | cons q l ih =>
    rw [List.map_cons, List.nodup_cons] at nd
    by_cases e : q = p
    · subst e
      have : (l.filter fun r => !(r.1 == q.1)) = l := List.filter_eq_self.mpr fun r hr => by
        have : r.1 ≠ q.1 := fun e => nd.1 (List.mem_map.mpr ⟨r, hr, e⟩)
        simp [this]
      simp [List.filter_cons, this]
    · have hp : p ∈ l := by
        rcases List.mem_cons.mp h with rfl | h
        · exact absurd rfl e
        · exact h
      have hne : q.1 ≠ p.1 := fun e' => nd.1 (List.mem_map.mpr ⟨p, hp, e'.symm⟩)
      have : (q :: l).filter (fun r => !(r.1 == p.1)) = q :: l.filter fun r => !(r.1 == p.1) := by simp [List.filter_cons, hne]
      rw [this]
      exact ((ih nd.2 hp).cons q).trans (.swap _ _ _)
section
variable {W : Wd} {h₀ h : Heap} {L : Addr} {m : Str → Option Value} {mu fz : Led}
theorem SS.unfreeze {p : Addr × Obj} (x : SS W h₀ L m mu fz h) (hp : p ∈ fz) (hs : ∃ (vs : Array Value) (n : Nat), p.2.data = .seq vs n) : SS W h₀ L m (p :: mu) (fz.filter fun q => !(q.1 == p.1)) h := by
  obtain ⟨F, ⟨gl, g, l⟩, bs⟩ := x
  have nd := l.nodup
  rw [List.map_append, List.nodup_append, List.map_append, List.nodup_append] at nd
  refine ⟨F, ⟨gl, W.glDrop (fun a o q => ?_) g, l.perm (List.Perm.append_left _ ?_)⟩, bs⟩
  · rcases q with q | q
    · exact .inl (.inl q)
    · by_cases e : a = p.1
      · have : (a, o) = p := by
          have h1 := (l.news (a, o) (by simp [q])).1
          have h2 := (l.news p (by simp [hp])).1
          simp only at h1
          rw [e, h2] at h1
          cases h1
          rw [e]
        rw [← this] at hs
        exact .inr hs
      · exact .inl (.inr (List.mem_filter.mpr ⟨q, by simp [e]⟩))
  · exact ((perm_front nd.2.1.2.1 hp).append_left mu).trans List.perm_middle
end
theorem PRepA.noLst {W : Wd} {X : Fact} {MU MU' : Led} : ∀ {vs : List Value} {ps : List PV}, (∀ p ∈ ps, ∀ ds, p ≠ .lst ds) → PRepA W X MU vs ps → PRepA W X MU' vs ps
  | [], [], _, _ => trivial
  | v :: vs, p :: ps, h, ⟨a, b⟩ => by
    refine ⟨?_, PRepA.noLst (fun q hq => h q (.tail _ hq)) b⟩
    cases p with
    | dat d => exact a
    | fn lf F => exact a
    | lst ds => exact absurd rfl (h _ (.head _) ds)
theorem KRepA.noLst {W : Wd} {X Y : Fact} {MU MU' : Led} (s : FSub X Y) : ∀ {vs : List (Str × Value)} {ps : List (Str × PV)}, (∀ p ∈ ps, ∀ ds, p.2 ≠ .lst ds) → KRepA W X MU vs ps → KRepA W Y MU' vs ps
  | [], [], _, _ => trivial
  | v :: vs, p :: ps, h, ⟨e, a, b⟩ => by
    refine ⟨e, ?_, KRepA.noLst s (fun q hq => h q (.tail _ hq)) b⟩
    obtain ⟨x, p⟩ := p
    cases p with
    | dat d => exact Rep.mono s a
    | fn lf F => exact CallOk.mono s a
    | lst ds => exact absurd rfl (h _ (.head _) ds)
/-- a def that reads a list may be handed one that turns -/
theorem gcall_ro {W : Wd} {lv : Nat} {a : Addr} {H : List Dat → List PV → List (Str × PV) → Dat → Prop}
    (h : GCall W lv a (fun ps kps d => ∃ ds rest, ps = .dat (.list ds) :: rest ∧ H ds rest kps d)) (hd : ∀ ds rest kps d, H ds rest kps d → ∃ i, d = .int i)
    (hr : ∀ ds rest kps d, H ds rest kps d → (∀ p ∈ rest, ∀ ds, p ≠ .lst ds) ∧ ∀ p ∈ kps, ∀ ds, p.2 ≠ .lst ds) :
    GCall W lv a (fun ps kps d => ∃ pv ds rest, pv.items? = some ds ∧ ps = pv :: rest ∧ H ds rest kps d) := by
  intro A h₀ fenv L m mu fz s vs kvs ps kps d Q E hA S hps hkps hG k
  obtain ⟨pv, ds, rest, hi, rfl, hH⟩ := hG
  unfold PV.items? at hi
  split at hi
  · cases hi; exact h A h₀ fenv L m mu fz s vs kvs _ kps d Q E hA S hps hkps ⟨ds, rest, rfl, hH⟩ k
  · cases hi
    rename_i ds'
    match vs, hps with
    | v :: vs, ⟨hv, hvs⟩ =>
    obtain ⟨l, o, ws, n, rfl, hm, hc, hdi, hda, hre⟩ := hv
    obtain ⟨h1, h2⟩ := hr _ _ _ _ hH
    have S₁ := (S.perm (perm_front S.nodupMu hm)).freeze
    have s₁ : Sub fz ((l, o) :: fz) := .cons
    have nl : ∀ p ∈ fz, p.1 ≠ l := fun p hp e => S.ne (p := (l, o)) (q := p) hm hp e.symm
    refine h A h₀ fenv L m _ ((l, o) :: fz) s (.ref l :: vs) kvs (.dat (.list ds) :: rest) kps d Q E hA S₁ ⟨.list (.inr (.head _)) hc hda (hre.mono (Hs.sub s₁)), ?_⟩ (KRepA.noLst (Hs.sub s₁) h2 hkps) ⟨ds, rest, rfl, hH⟩ fun v fz' h' tk' s' S' R' => ?_
    · exact PRepA.noLst h1 (hvs.mono (Hs.sub s₁) (Sub.refl _))
    · have S₂ := S'.unfreeze (p := (l, o)) (s' _ (.head _)) ⟨_, _, hda⟩
      have S₃ := S₂.perm (perm_front S.nodupMu hm).symm
      refine k v _ h' tk' (fun p hp => List.mem_filter.mpr ⟨s' _ (.tail _ hp), by simp [nl p hp]⟩) S₃ ?_
      obtain ⟨i, rfl⟩ := hd _ _ _ _ hH
      cases R' with
      | int _ t => exact .int _ t
  · cases hi
end Mine
end
section
open PySem PySem.W PyProof.Rows
set_option linter.unusedVariables false
set_option maxRecDepth 100000
namespace Mine
open PySem.Calls PySem.Spec PySem.SeqAt
section
variable {W : Wd} {lv : Nat} {sc : Scope} {ps : List Str} {ρ ρ' : Names}
theorem et_fn_is_none {x : Str} {np cp pos : Pos} {kd lf : Nat} {F : List Dat → Option Dat} (hx : ρ.lookup x = some (.fn lf F)) : ET W lv sc ρ (.Compare (.Name x np) [.Is] [.Constant .none kd cp] pos) false := by
  intro A h₀ fenv L m mu fz env s Q E hA hE S hN k
  refine wpAny_isTrue_Compare1 ((ev_name hx) A h₀ fenv L m mu fz env s _ _ hA hE S hN fun v₁ fz₁ h₁' t₁ s₁ S₁ R₁ => ?_) (by with_unfolding_all rfl)
  refine ev_none A h₀ fenv L m mu fz₁ env _ _ _ hA hE S₁ (hN.grow s₁) fun v₂ fz₂ h₂' t₂ s₂ S₂ R₂ => ?_
  have R₂ : Rep (Hs W.base fz₂) v₂ .none := R₂
  cases R₂
  obtain ⟨a, o, fd, rfl, _⟩ := R₁
  refine is_none ?_
  exact wpAny_truthy_bool (k fz₂ h₂' t₂ (s₁.trans s₂) S₂)
theorem et_dat_is_none {x : Str} {np cp pos : Pos} {kd : Nat} {d : Dat} (hx : ρ.lookup x = some (.dat d)) : ET W lv sc ρ (.Compare (.Name x np) [.Is] [.Constant .none kd cp] pos) (noneD d) :=
  et_cmp (ev_name hx) ev_none op_is_none (by with_unfolding_all rfl)
end
/-- the turns of a while loop, some names kept -/
noncomputable def WhileX (W : Wd) (lv : Nat) (sc : Scope) (ps : List Str) (test : Expr) (body : List Stmt) (ρ ρ' : Names) : Prop := ∃ n ρe, WhileR W lv sc ps test body n ρ ρe ∧ SubN ρe ρ'
section
variable {W : Wd} {lv : Nat} {sc : Scope} {ps : List Str} {ρ ρ₁ ρ' : Names} {test : Expr} {body : List Stmt}
theorem ex_last {st : Stmt} (h : EX1 W lv sc ps ρ st (.next ρ₁)) (k : SubN ρ₁ ρ') : EXS W lv sc ps ρ [st] (.next ρ') := ex_seq (h.to k) ex_nil
theorem WhileX.done (h : ET W lv sc ρ test false) (k : SubN ρ ρ') : WhileX W lv sc ps test body ρ ρ' := ⟨0, ρ, .done h, k⟩
theorem WhileX.turn (h : ET W lv sc ρ test true) (k : EXS W lv sc ps ρ body (.next ρ₁)) (r : WhileX W lv sc ps test body ρ₁ ρ') : WhileX W lv sc ps test body ρ ρ' := let ⟨n, e, a, b⟩ := r; ⟨n + 1, e, .turn h k a, b⟩
theorem ex_whileX {pos : Pos} (h : WhileX W lv sc ps test body ρ ρ') : EX1 W lv sc ps ρ (.While test body [] pos) (.next ρ') := let ⟨_, _, a, b⟩ := h; (ex_while a).to b
end
/-- the program's function at an address -/
noncomputable def fdOf (K : Frag) (a : Addr) : FuncData := match K.lookup a with
  | some o => match o.data with
    | .func fd => fd
    | _ => default
  | none => default
end Mine
end
section
open PySem PySem.W PyProof.Rows
set_option linter.unusedVariables false
set_option maxRecDepth 100000
namespace Mine
open PySem.Calls PySem.Spec PySem.SeqAt

/-! ranges -/
theorem rangeSize_ofNat {a b : Int} {n : Nat} (h : b - a = n) : Builtin.Range.rangeSize a b 1 = (n : Int) := by
  rw [rangeSize_one]
  split <;> lia
theorem small1 {a b : Int} (ha : -1000000000000 ≤ a) (ha' : a ≤ 1000000000000) (hb : -1000000000000 ≤ b) (hb' : b ≤ 1000000000000) : Builtin.Range.small a b 1 = true := small_one (by (clear hb' hb; lia)) (by lia) (by (clear ha' ha; lia)) (by (clear ha' ha; lia))
theorem rangeD_zero (n : Nat) : rangeD 0 1 n = (List.range n).map fun i : Nat => Dat.int i := by
  unfold rangeD
  refine List.map_congr_left fun i _ => ?_
  congr 1; lia
section
variable {W : Wd} {lv : Nat} {sc scope : Scope} {ps : List Str} {ρ ρ' : Names}
theorem ei_rangeN {x : Str} {np pos : Pos} {e : Expr} {n : Nat} (hb : Boot W sc x (.type "range")) (h : EV W lv sc ρ e (.dat (.int n))) (hn : n ≤ 1000000000 := by omega) (hs : nStar e = true := by rfl) : EI (fun _ => []) W lv sc ρ (.Call (.Name x np) [e] [] pos) ((List.range n).map fun i : Nat => Dat.int i) := by
  rw [← rangeD_zero]
  exact ei_range1 hb hs h (small1 (by (clear hs hn h hb; lia)) (by (clear hs hn h hb; lia)) (by (clear hs h hb; lia)) (by (clear hs h hb; lia))) (rangeSize_ofNat (by (clear hs hn h hb; lia)))

/-! comprehensions over typed items -/
open Classical in
noncomputable def unInj {α : Type} (inj : α → Dat) (out : α → List Dat) (d : Dat) : List Dat := if h : ∃ x, inj x = d then out h.choose else []
theorem unInj_inj {α : Type} {inj : α → Dat} (hinj : ∀ x y, inj x = inj y → x = y) (out : α → List Dat) (x : α) : unInj inj out (inj x) = out x := by
  unfold unInj
  have h : ∃ y, inj y = inj x := ⟨x, rfl⟩
  rw [dif_pos h]
  rw [hinj _ _ h.choose_spec]
theorem unInj_map {α : Type} {inj : α → Dat} (hinj : ∀ x y, inj x = inj y → x = y) (out : α → List Dat) (xs : List α) : (xs.map inj).flatMap (unInj inj out) = xs.flatMap out := by
  rw [List.flatMap_map]
  congr 1; funext x
  exact unInj_inj hinj out x
/-- the turns of a clause, its items typed -/
noncomputable def CMap {α : Type} (W : Wd) (lv : Nat) (scope : Scope) (elt t : Expr) (ifs : List Expr) (gs : List Comprehension) (ρ' : Names) (inj : α → Dat) (xs : List α) (out : α → List Dat) : Prop :=
  ∀ x ∈ xs, ∃ bs b, bindT t (inj x) = some bs ∧ ETs W lv scope (bs ++ ρ') .And ifs b ∧ (b = true → CB W lv scope elt gs (bs ++ ρ') (out x)) ∧ (b = false → out x = [])
theorem CMap.top {α : Type} {elt t : Expr} {ifs : List Expr} {gs : List Comprehension} {inj : α → Dat} {xs : List α} {out : α → List Dat} (hinj : ∀ x y, inj x = inj y → x = y) (h : CMap W lv scope elt t ifs gs ρ' inj xs out) : CTop W lv scope elt t ifs gs ρ' (xs.map inj) (unInj inj out) := by
  intro d hd
  obtain ⟨x, hx, rfl⟩ := List.mem_map.mp hd
  obtain ⟨bs, b, h1, h2, h3, h4⟩ := h x hx
  exact ⟨bs, b, h1, h2, fun e => by rw [unInj_inj hinj]; exact h3 e, fun e => by rw [unInj_inj hinj]; exact h4 e⟩
theorem flatMap_one {α β : Type} (xs : List α) (g : α → β) : xs.flatMap (fun x => [g x]) = xs.map g := by
  induction xs with
  | nil => rfl
  | cons x xs ih => rw [List.flatMap_cons, ih]; rfl
theorem flatMap_filter {α β : Type} (xs : List α) (p : α → Bool) (g : α → β) : xs.flatMap (fun x => if p x then [g x] else []) = (xs.filter p).map g := by
  induction xs with
  | nil => rfl
  | cons x xs ih =>
    rw [List.flatMap_cons, ih, List.filter_cons]
    split <;> simp
variable {α : Type} {elt t iter : Expr} {ifs : List Expr} {gs : List Comprehension} {pos px cpos : Pos} {inj : α → Dat} {xs : List α} {out : α → List Dat} {g : α → Dat} {p : α → Bool}
/-- [elt for t in iter] -/
theorem cmap_map (hb : ∀ x ∈ xs, ∃ bs, bindT t (inj x) = some bs ∧ EV W lv scope (bs ++ ρ') elt (.dat (g x))) : CMap W lv scope elt t [] [] ρ' inj xs (fun x => [g x]) := fun x hx => by
  obtain ⟨bs, h1, h2⟩ := hb x hx
  exact ⟨bs, true, h1, .nil, fun _ => ⟨g x, h2, rfl⟩, fun e => by cases e⟩
/-- [elt for t in iter if c] -/
theorem cmap_filter {c : Expr} (hb : ∀ x ∈ xs, ∃ bs, bindT t (inj x) = some bs ∧ ET W lv scope (bs ++ ρ') c (p x) ∧ (p x = true → EV W lv scope (bs ++ ρ') elt (.dat (g x)))) : CMap W lv scope elt t [c] [] ρ' inj xs (fun x => if p x then [g x] else []) := fun x hx => by
  obtain ⟨bs, h1, h2, h3⟩ := hb x hx
  refine ⟨bs, p x, h1, ?_, fun e => ⟨g x, h3 e, by simp [e]⟩, fun e => by simp [e]⟩
  cases e : p x with
  | true => rw [e] at h2; exact .go h2 rfl .nil
  | false => rw [e] at h2; exact .stop h2 rfl
/-- side conditions of a comprehension's scope -/
structure CSide (sc scope : Scope) (ρ ρ' : Names) (t iter : Expr) (ifs : List Expr) (gs : List Comprehension) : Prop where
  sc : compSc sc scope = true
  sub : SubF scope.names ρ ρ'
  free : FreeAll ρ scope.names = true
  tgt : tgtOk scope (⟨t, iter, ifs, 0⟩ :: gs)
  dis : ∀ x ∈ tn t, ρ'.lookup x = none
  set : ∀ x env, foldedSetIterable iter env x = pure x
theorem ef_cmap (hc : CSide sc scope ρ ρ' t iter ifs gs) (hinj : ∀ x y, inj x = inj y → x = y) (hi : EI id W lv sc ρ iter (xs.map inj)) (hm : CMap W lv scope elt t ifs gs ρ' inj xs out) (hz : (xs.flatMap out).length ≤ 1048576) :
    EF W lv sc ρ (.ListComp elt (⟨t, iter, ifs, 0⟩ :: gs) scope cpos) (xs.flatMap out) := by
  rw [← unInj_map hinj] at hz ⊢
  exact ef_comp hc.sc hc.sub hc.free hc.tgt hc.dis hc.set hi (hm.top hinj) hz
theorem ev_cmap (hc : CSide sc scope ρ ρ' t iter ifs gs) (hinj : ∀ x y, inj x = inj y → x = y) (hi : EI id W lv sc ρ iter (xs.map inj)) (hm : CMap W lv scope elt t ifs gs ρ' inj xs out) (hz : (xs.flatMap out).length ≤ 1048576) :
    EV W lv sc ρ (.ListComp elt (⟨t, iter, ifs, 0⟩ :: gs) scope cpos) (.dat (.list (xs.flatMap out))) := (ef_cmap hc hinj hi hm hz).ev
theorem ev_map (hc : CSide sc scope ρ ρ' t iter [] []) (hinj : ∀ x y, inj x = inj y → x = y) (hi : EI id W lv sc ρ iter (xs.map inj)) (hb : ∀ x ∈ xs, ∃ bs, bindT t (inj x) = some bs ∧ EV W lv scope (bs ++ ρ') elt (.dat (g x))) (hz : xs.length ≤ 1048576) :
    EV W lv sc ρ (.ListComp elt [⟨t, iter, [], 0⟩] scope cpos) (.dat (.list (xs.map g))) := by
  rw [← flatMap_one]
  exact ev_cmap hc hinj hi (cmap_map hb) (by rw [flatMap_one, List.length_map]; exact hz)
theorem ev_filter {c : Expr} (hc : CSide sc scope ρ ρ' t iter [c] []) (hinj : ∀ x y, inj x = inj y → x = y) (hi : EI id W lv sc ρ iter (xs.map inj)) (hb : ∀ x ∈ xs, ∃ bs, bindT t (inj x) = some bs ∧ ET W lv scope (bs ++ ρ') c (p x) ∧ (p x = true → EV W lv scope (bs ++ ρ') elt (.dat (g x)))) (hz : xs.length ≤ 1048576) :
    EV W lv sc ρ (.ListComp elt [⟨t, iter, [c], 0⟩] scope cpos) (.dat (.list ((xs.filter p).map g))) := by
  rw [← flatMap_filter]
  exact ev_cmap hc hinj hi (cmap_filter hb) (by rw [flatMap_filter, List.length_map]; exact Nat.le_trans (List.length_filter_le _ _) hz)
theorem exa_cmap {x : Str} (hc : CSide sc scope ρ ρ' t iter ifs gs) (hinj : ∀ x y, inj x = inj y → x = y) (hi : EI id W lv sc ρ iter (xs.map inj)) (hm : CMap W lv scope elt t ifs gs ρ' inj xs out) (hz : (xs.flatMap out).length ≤ 1048576) (hx : slot sc x) (hp : PlainName x) :
    EX1 W lv sc ps ρ (.Assign [.Name x px] (.ListComp elt (⟨t, iter, ifs, 0⟩ :: gs) scope cpos) pos) (.next ((x, .dat (.list (xs.flatMap out))) :: ρ)) := by
  have := ex_assign_comp (ps := ps) (px := px) (pos := pos) (cpos := cpos) hc.sc hc.sub hc.free hc.tgt hc.dis hc.set hi (hm.top hinj) (by rw [unInj_map hinj]; exact hz) hx hp
  rw [unInj_map hinj] at this
  exact this
theorem exa_map {x : Str} (hc : CSide sc scope ρ ρ' t iter [] []) (hinj : ∀ x y, inj x = inj y → x = y) (hi : EI id W lv sc ρ iter (xs.map inj)) (hb : ∀ x ∈ xs, ∃ bs, bindT t (inj x) = some bs ∧ EV W lv scope (bs ++ ρ') elt (.dat (g x))) (hz : xs.length ≤ 1048576) (hx : slot sc x) (hp : PlainName x) :
    EX1 W lv sc ps ρ (.Assign [.Name x px] (.ListComp elt [⟨t, iter, [], 0⟩] scope cpos) pos) (.next ((x, .dat (.list (xs.map g))) :: ρ)) := by
  rw [← flatMap_one]
  exact exa_cmap hc hinj hi (cmap_map hb) (by rw [flatMap_one, List.length_map]; exact hz) hx hp
theorem exa_filter {c : Expr} {x : Str} (hc : CSide sc scope ρ ρ' t iter [c] []) (hinj : ∀ x y, inj x = inj y → x = y) (hi : EI id W lv sc ρ iter (xs.map inj)) (hb : ∀ x ∈ xs, ∃ bs, bindT t (inj x) = some bs ∧ ET W lv scope (bs ++ ρ') c (p x) ∧ (p x = true → EV W lv scope (bs ++ ρ') elt (.dat (g x)))) (hz : xs.length ≤ 1048576) (hx : slot sc x) (hp : PlainName x) :
    EX1 W lv sc ps ρ (.Assign [.Name x px] (.ListComp elt [⟨t, iter, [c], 0⟩] scope cpos) pos) (.next ((x, .dat (.list ((xs.filter p).map g))) :: ρ)) := by
  rw [← flatMap_filter]
  exact exa_cmap hc hinj hi (cmap_filter hb) (by rw [flatMap_filter, List.length_map]; exact Nat.le_trans (List.length_filter_le _ _) hz) hx hp
end
theorem inj_int (x y : Int) (h : Dat.int x = Dat.int y) : x = y := by cases h; rfl
theorem inj_nat (x y : Nat) (h : Dat.int (x : Int) = Dat.int (y : Int)) : x = y := by injection h with h; lia
theorem tgtOk1 {scope : Scope} {x : Str} {p : Pos} {iter : Expr} {ifs : List Expr} (h : scope.names.lookup x = some .local ∨ scope.names.lookup x = some .cell) (hp : PlainName x) : tgtOk scope [⟨.Name x p, iter, ifs, 0⟩] := by
  intro y hy
  have hy : y ∈ [x] := hy
  rw [List.mem_singleton.mp hy]
  exact ⟨h, hp⟩
theorem dis1 {x : Str} {p : Pos} {ρ : Names} (h : ρ.lookup x = none) : ∀ y ∈ tn (.Name x p), ρ.lookup y = none := by
  intro y hy
  have hy : y ∈ [x] := hy
  rw [List.mem_singleton.mp hy]
  exact h
theorem cb_cmap {W : Wd} {lv : Nat} {sc : Scope} {ρ : Names} {α : Type} {elt t iter : Expr} {ifs : List Expr} {gs : List Comprehension} {inj : α → Dat} {xs : List α} {out : α → List Dat} (hset : ∀ x env, foldedSetIterable iter env x = pure x) (hdis : ∀ x ∈ tn t, ρ.lookup x = none) (hinj : ∀ x y, inj x = inj y → x = y)
    (hi : EI (fun _ => []) W lv sc ρ iter (xs.map inj)) (hm : CMap W lv sc elt t ifs gs ρ inj xs out) : CB W lv sc elt (⟨t, iter, ifs, 0⟩ :: gs) ρ (xs.flatMap out) :=
  ⟨rfl, hset, hdis, _, hi, unInj inj out, (unInj_map hinj out xs).symm, hm.top hinj⟩
theorem tgtOk2 {scope : Scope} {x y : Str} {p q : Pos} {iter iter' : Expr} {ifs ifs' : List Expr} (h : scope.names.lookup x = some .local ∨ scope.names.lookup x = some .cell) (hp : PlainName x) (h' : scope.names.lookup y = some .local ∨ scope.names.lookup y = some .cell) (hq : PlainName y) : tgtOk scope [⟨.Name x p, iter, ifs, 0⟩, ⟨.Name y q, iter', ifs', 0⟩] := by
  intro z hz
  have hz : z ∈ [x, y] := hz
  rcases List.mem_cons.mp hz with rfl | hz
  · exact ⟨h, hp⟩
  · rw [List.mem_singleton.mp hz]; exact ⟨h', hq⟩
theorem tgtOkT {scope : Scope} {x y : Str} {p q tp : Pos} {kd : Nat} {iter : Expr} {ifs : List Expr} (h : scope.names.lookup x = some .local ∨ scope.names.lookup x = some .cell) (hp : PlainName x) (h' : scope.names.lookup y = some .local ∨ scope.names.lookup y = some .cell) (hq : PlainName y) : tgtOk scope [⟨.Tuple [.Name x p, .Name y q] kd tp, iter, ifs, 0⟩] := by
  intro z hz
  have hz : z ∈ [y, x] := hz
  rcases List.mem_cons.mp hz with rfl | hz
  · exact ⟨h', hq⟩
  · rw [List.mem_singleton.mp hz]; exact ⟨h, hp⟩
theorem disT {x y : Str} {p q tp : Pos} {kd : Nat} {ρ : Names} (h : ρ.lookup x = none) (h' : ρ.lookup y = none) : ∀ z ∈ tn (.Tuple [.Name x p, .Name y q] kd tp), ρ.lookup z = none := by
  intro z hz
  have hz : z ∈ [y, x] := hz
  rcases List.mem_cons.mp hz with rfl | hz
  · exact h'
  · rw [List.mem_singleton.mp hz]; exact h
end Mine
end
section
open PySem PySem.W PyProof.Rows
set_option linter.unusedVariables false
set_option maxRecDepth 100000
namespace Mine
open PySem.Calls PySem.Spec PySem.SeqAt

/-! a built-in's name, whatever is being handled -/
theorem eval_boot' {W : Wd} {sc : Scope} {x : Str} {pos : Pos} {v : Value} {A : Around} {env : Env} {s : Shared} {Q E : Value → Shared → Prop}
    (hE : EnvOk env sc) (hk : ∀ b o, W.base.get? b = some o → s.heap.get? b = some o) (hb : Boot W sc x v) (h : Q v s) :
    wpAny (model W.prog W.w) A (eval (.Name x pos) env) Q E s :=
  Name_function_global hE.kind (hE.gl x hb.sc) (loadGlobal_builtin (env := env) (by rw [hE.glob]; exact W.tb.g.keeps hk) (mg_none_of W.kb W.tb.g hb.top) (by rw [hE.blt]; exact W.tb.b.keeps hk) ((W.tb.builtins x hb.nm).trans hb.boot) h) hb.dbg

/-- what is known of an exception's arguments -/
noncomputable def ArgsAt (o : Option Str) (a0 : Value) (h : Heap) : Prop := match o with
  | none => True
  | some msg => ∃ t tk, a0 = .ref t ∧ h.TupAt t [.str msg tk]
theorem ArgsAt.up {o : Option Str} {a0 : Value} {h h' : Heap} (x : ArgsAt o a0 h) (k : h.UpToSlots h') : ArgsAt o a0 h' := by
  cases o with
  | none => trivial
  | some m => obtain ⟨t, tk, e, y⟩ := x; exact ⟨t, tk, e, y.of_slots k⟩
/-- the ledger stands in B -/
noncomputable def Cov (W : Wd) (h₀ : Heap) (L : Addr) (led fz : Led) (fs : List Addr) (h₁ B : Heap) : Prop :=
  (∀ b o, W.base.get? b = some o → B.get? b = some o) ∧ ∃ gl, W.Gl gl (Hs W.base fz) ∧ Ld h₀ L h₁ (gl ++ (led ++ fz)) ∧ (∀ p ∈ gl ++ (led ++ fz), B.get? p.1 = some p.2) ∧ ∀ b o, h₀.get? b = some o → b ∉ fs → B.get? b = some o
/-- an exception in flight in the frame env: h₁ the heap ahead of it, h now -/
structure Fly (W : Wd) (h₀ : Heap) (L : Addr) (led fz : Led) (A : Around) (env : Env) (cls : String) (o : Option Str) (e : Addr) (a0 : Value) (h₁ h : Heap) : Prop where
  up : h₁.UpToSlots h
  args : ArgsAt o a0 h
  fl : ∃ outer B, A.frames = some (env :: outer) ∧ Heap.FlyingW B (env :: outer) e (.type cls) a0 h ∧ Cov W h₀ L led fz (outer.filterMap (·.frame)) h₁ B
/-- one just made -/
structure Fresh (cls : String) (o : Option Str) (e : Addr) (a0 : Value) (h₁ h : Heap) : Prop where
  keeps : ∀ b ob, h₁.get? b = some ob → h.get? b = some ob
  new : h₁.get? e = none
  args : ArgsAt o a0 h
  there : ∃ oe vs, h.get? e = some oe ∧ oe.cls = .type cls ∧ oe.data = .fields vs ∧ vs[0]? = some a0 ∧ vs[1]? = some .none
noncomputable def Up (W : Wd) (h₀ : Heap) (L : Addr) (led fz : Led) (A : Around) (env : Env) (cls : String) (o : Option Str) (e : Addr) (a0 : Value) (h₁ h : Heap) : Prop := Fresh cls o e a0 h₁ h ∨ Fly W h₀ L led fz A env cls o e a0 h₁ h

theorem Ld.out {h₀ g h : Heap} {L L' : Addr} {m : Str → Option Value} {gl led mu fz : Led} (l : Ld g L' h (gl ++ ((led ++ mu) ++ fz))) (FG : Fr h₀ L g m) (st : h₀.StaysIn g) : Ld h₀ L h (gl ++ (mu ++ fz)) := by
  obtain ⟨oL, es, ep, hL, hLd, hLk, hLf⟩ := FG.ns
  refine ⟨fun p hp => ?_, ?_⟩
  · have hp' : p ∈ gl ++ ((led ++ mu) ++ fz) := by
      rcases List.mem_append.mp hp with hp | hp
      · exact List.mem_append_left _ hp
      · rw [List.append_assoc]; exact List.mem_append_right _ (List.mem_append_right _ hp)
    obtain ⟨a, b, c⟩ := l.news p hp'
    refine ⟨a, fun q => ?_, ?_⟩
    · rw [q, hL] at c; cases c
    · cases q : h₀.get? p.1 with
      | none => rfl
      | some o => rw [st _ _ q] at c; cases c
  · refine ((List.Sublist.append_left ?_ gl).map _).nodup l.nodup
    rw [List.append_assoc]
    exact List.sublist_append_right _ _
theorem SS.out {W : Wd} {h₀ g h : Heap} {L L' : Addr} {m m' : Str → Option Value} {led mu fz : Led} (x : SS W g L' m' (led ++ mu) fz h) (FG : Fr h₀ L g m) (st : h₀.StaysIn g) (bs : ∀ b o, W.base.get? b = some o → h₀.get? b = some o) : SS W h₀ L m mu fz h := by
  obtain ⟨F, ⟨gl, hg, l⟩, _⟩ := x
  obtain ⟨oL, es, ep, hL, hLd, hLk, hLf⟩ := FG.ns
  exact ⟨⟨⟨oL, es, ep, F.keep L oL hL, hLd, hLk, hLf⟩, fun b o e => F.keep b o (st b o e), FG.above⟩, ⟨gl, hg, l.out FG st⟩, bs⟩

section
variable {W : Wd} {lv : Nat} {A : Around} {E : Value → Shared → Prop} {M : Model}
theorem noFrame {g h₁ : Heap} {L' : Addr} {l : Led} {outer : List Env} {base : Heap} {env' : Env} (hf : env'.frame = some L') (ld : Ld g L' h₁ l) (ff : g.FunFrames base outer) {p : Addr × Obj} (hp : p ∈ l) : p.1 ∉ (env' :: outer).filterMap (·.frame) := by
  intro hm
  rw [List.filterMap_cons, hf] at hm
  rcases List.mem_cons.mp hm with q | hm
  · exact (ld.news p hp).2.1 q
  · obtain ⟨_, o, ho, _⟩ := ff.mem hm
    rw [(ld.news p hp).2.2] at ho; cases ho
theorem noFrameB {W : Wd} {g h₁ : Heap} {L' : Addr} {m' : Str → Option Value} {outer : List Env} {env' : Env} (hf : env'.frame = some L') (F : Fr g L' h₁ m') (bs : ∀ b o, W.base.get? b = some o → g.get? b = some o) (ff : g.FunFrames W.base outer) {b : Addr} {o : Obj} (hb : W.base.get? b = some o) : b ∉ (env' :: outer).filterMap (·.frame) := by
  intro hm
  rw [List.filterMap_cons, hf] at hm
  rcases List.mem_cons.mp hm with q | hm
  · have := Heap.lt_size (bs b o hb)
    have h2 := F.above
    rw [q] at this
    exact absurd (Nat.lt_of_lt_of_le this h2) (Nat.lt_irrefl _)
  · rw [(ff.mem hm).1] at hb; cases hb
/-- just made: all frames put aside -/
theorem fresh_cov {g h₁ : Heap} {L' : Addr} {m' : Str → Option Value} {led fz : Led} {outer : List Env} {env' : Env} {A₀ : Around} (hf : env'.frame = some L') (S : SS W g L' m' led fz h₁) (B : Below A₀ W.base outer g) : Cov W g L' led fz (outer.filterMap (·.frame)) h₁ (hideAll h₁ ((env' :: outer).filterMap (·.frame))) := by
  obtain ⟨F, ⟨gl, hg, l⟩, bs⟩ := S
  refine ⟨fun b o hb => hideAll_get _ (F.keep b o (bs b o hb)) (noFrameB hf F bs B.frames hb), gl, hg, l, fun p hp => hideAll_get _ (l.news p hp).1 (noFrame hf l B.frames hp), fun b o hb hn => hideAll_get _ (F.keep b o hb) fun hm => ?_⟩
  rw [List.filterMap_cons, hf] at hm
  rcases List.mem_cons.mp hm with q | hm
  · rw [q, kts_self F] at hb; cases hb
  · exact hn hm
/-- the exception leaves the callee's frame -/
theorem up_leaves {h₀ g h₁ : Heap} {L L' : Addr} {m m' : Str → Option Value} {env env' : Env} {outer : List Env} {led mu fz : Led} {cls : String} {o : Option Str} {e : Addr} {a0 : Value} {s : Shared} {Q : Unit → Shared → Prop}
    (hfr : (A.deeper env').frames = some (env' :: env :: outer)) (hA : A.frames = some (env :: outer)) (hf : env'.frame = some L') (hf0 : env.frame = some L) (hk' : env'.scope.kind = .function) (S : SS W g L' m' (led ++ mu) fz h₁) (FG : Fr h₀ L g m) (st : h₀.StaysIn g) (B : Below A W.base (env :: outer) g) (U : Up W g L' (led ++ mu) fz (A.deeper env') env' cls o e a0 h₁ s.heap)
    (k : ∀ h', Fly W h₀ L mu fz A env cls o e a0 h₁ h' → Q () { s with heap := h' }) : wpAny M (A.deeper env') (leaving env' (.ref e)) Q E s := by
  have sub : ∀ {gl : Led} {p : Addr × Obj}, p ∈ gl ++ (mu ++ fz) → p ∈ gl ++ ((led ++ mu) ++ fz) := fun hp => by
    rcases List.mem_append.mp hp with hp | hp
    · exact List.mem_append_left _ hp
    · rw [List.append_assoc]; exact List.mem_append_right _ (List.mem_append_right _ hp)
  have c6 : ∀ {B' : Heap}, (∀ b o, g.get? b = some o → b ∉ (env :: outer).filterMap (·.frame) → B'.get? b = some o) → ∀ b o, h₀.get? b = some o → b ∉ outer.filterMap (·.frame) → B'.get? b = some o := fun c b o hb hn => c b o (st b o hb) fun hm => by
    obtain ⟨en, he, hf⟩ := List.mem_filterMap.mp hm
    rcases List.mem_cons.mp he with rfl | he
    · rw [hf0] at hf; cases hf; rw [kts_self FG] at hb; cases hb
    · exact hn (List.mem_filterMap.mpr ⟨en, he, hf⟩)
  rcases U with U | U
  · have B₁ := pushX B S.fr hf hk'
    have hin : ∀ en ∈ (env' :: env :: outer), ∀ a, en.frame = some a → a ∈ (env' :: env :: outer).filterMap (·.frame) := fun en he b hb => List.mem_filterMap.mpr ⟨en, he, hb⟩
    have ff := funFrames_hide B₁.frames hin
    obtain ⟨oe, vs, he, hc, hd, h0, h1⟩ := U.there
    have st' : (hideAll h₁ ((env' :: env :: outer).filterMap (·.frame))).StaysIn s.heap := fun b o q => U.keeps b o (of_hideAll _ q)
    have ff' : s.heap.FunFrames (hideAll h₁ ((env' :: env :: outer).filterMap (·.frame))) (env' :: env :: outer) := ff.of_keeps fun b o q _ => ⟨o, U.keeps b o q, rfl⟩
    have hen : (hideAll h₁ ((env' :: env :: outer).filterMap (·.frame))).get? e = none := by
      cases q : (hideAll h₁ ((env' :: env :: outer).filterMap (·.frame))).get? e with
      | none => rfl
      | some o => have := of_hideAll _ q; rw [U.new] at this; cases this
    obtain ⟨c1, gl, c2, c3, c4, c5⟩ := fresh_cov (env' := env') hf S B
    refine wpAny_leaving_firstW hfr ff' hf he st' hen hd h1 h0 fun h' hL => ?_
    obtain ⟨k1, ⟨_, _, k2⟩, k3, k4⟩ := hL
    rw [hc] at k3
    exact k h' ⟨(Heap.UpToSlots.of_keeps U.keeps).trans k4, U.args.up k4, outer, _, hA, ⟨k1, hen, k2, k3⟩, c1, gl, c2, c3.out FG st, fun p hp => c4 p (sub hp), c6 c5⟩
  · obtain ⟨outer', B', hfr', fl, c1, gl, c2, c3, c4, c5⟩ := U.fl
    have e1 : outer' = env :: outer := by
      rw [hfr] at hfr'; injection hfr' with q; injection q with _ q; exact q.symm
    subst e1
    refine wpAny_leaves_onW hfr hf fl fun h' x1 x2 => ?_
    exact k h' ⟨U.up.trans x2, U.args.up x2, outer, B', hA, x1, c1, gl, c2, c3.out FG st, fun p hp => c4 p (sub hp), c6 c5⟩
end
/-! statements that raise -/
/-- under the names ρ an exception of the class cls comes, the names then being ρ' -/
noncomputable def RX (W : Wd) (lv : Nat) (sc : Scope) (ρ : Names) (t : Env → Sem Flow) (cls : String) (o : Option Str) (ρ' : Names) : Prop :=
  ∀ (A : Around) (h₀ : Heap) (L : Addr) (m : Str → Option Value) (loc own par fz : Led) (env : Env) (ad : Str → Addr) (s : Shared) (Q : Flow → Shared → Prop) (E : Value → Shared → Prop),
    AOk W lv A h₀ env L → EnvOk env sc → FS W sc [] h₀ L m loc own par fz env ad ρ s.heap →
    (∀ e a0 m' loc' own' fz' ad' h₁ h' tk', Sub fz fz' → FS W sc [] h₀ L m' loc' own' par fz' env ad' ρ' h₁ → Up W h₀ L (loc' ++ (own' ++ par)) fz' A env cls o e a0 h₁ h' → E (.ref e) { s with heap := h', toks := tk' }) →
    wpAny (model W.prog W.w) A (t env) Q E s
/-- a def of the top that raises -/
noncomputable def GRaise (W : Wd) (lv : Nat) (a : Addr) (cls : String) (o : Option Str) (G : List PV → List (Str × PV) → Prop) : Prop :=
  ∀ (A : Around) (h₀ : Heap) (fenv : Env) (L : Addr) (m : Str → Option Value) (mu fz : Led) (s : Shared) (vs : List Value) (kvs : List (Str × Value)) (ps : List PV) (kps : List (Str × PV)) (Q E : Value → Shared → Prop),
    AOk W lv A h₀ fenv L → SS W h₀ L m mu fz s.heap → PRepA W (Hs W.base fz) mu vs ps → KRepA W (Hs W.base fz) mu kvs kps → G ps kps →
    (∀ e a0 fz' h₁ h' tk', Sub fz fz' → SS W h₀ L m mu fz' h₁ → Fly W h₀ L mu fz' A fenv cls o e a0 h₁ h' → E (.ref e) { s with heap := h', toks := tk' }) → wpAny (model W.prog W.w) A (call (.ref a) vs kvs) Q E s
section
variable {W : Wd} {lv : Nat} {sc : Scope} {ρ ρ' ρ'' : Names} {cls : String} {o : Option Str}
theorem rx_head {st : Stmt} {rest : List Stmt} (h : RX W lv sc ρ (exec st) cls o ρ') : RX W lv sc ρ (execs (st :: rest)) cls o ρ' := by
  intro A h₀ L m loc own par fz env ad s Q E hA hE x c
  exact wpAny_execs_cons (h A h₀ L m loc own par fz env ad s _ E hA hE x c)
theorem rx_if {t : Expr} {body orelse : List Stmt} {pos : Pos} {b : Bool} (h : ET W lv sc ρ t b) (h1 : b = true → RX W lv sc ρ (execs body) cls o ρ') (h2 : b = false → RX W lv sc ρ (execs orelse) cls o ρ') : RX W lv sc ρ (exec (.If t body orelse pos)) cls o ρ' := by
  intro A h₀ L m loc own par fz env ad s Q E hA hE x c
  refine wpAny_If (h A h₀ env L m _ fz env s _ E hA hE x.ss x.full fun fz' h' t' s' S' => ?_)
  have x₁ := x.grow s' S'
  cases b with
  | true => exact h1 rfl A h₀ L m loc own par fz' env ad _ Q E hA hE x₁ fun e a0 m₂ loc₂ own₂ fz₂ ad₂ h₂ h₃ t₂ s₂ => c e a0 m₂ loc₂ own₂ fz₂ ad₂ h₂ h₃ t₂ (s'.trans s₂)
  | false => exact h2 rfl A h₀ L m loc own par fz' env ad _ Q E hA hE x₁ fun e a0 m₂ loc₂ own₂ fz₂ ad₂ h₂ h₃ t₂ s₂ => c e a0 m₂ loc₂ own₂ fz₂ ad₂ h₂ h₃ t₂ (s'.trans s₂)
/-- raise X(text) -/
theorem rx_raise_text {x msg : Str} {np cpos ap pos : Pos} {kd : Nat} {newId initId : String} (hb : Boot W sc x (.type cls)) (FC : ExcCallFacts cls newId initId) (FR : ExcRaiseFacts cls) : RX W lv sc ρ (exec (.Raise (some (.Call (.Name x np) [.Constant (.str msg) kd ap] [] cpos)) none pos)) cls (some msg) ρ := by
  intro A h₀ L m loc own par fz env ad s Q E hA hE F c
  refine Raise_madeB FC FR hA.hh (eval_boot hA hE F.ss hb.sc hb.dbg hb.nm hb.top hb.boot ⟨rfl, ?_⟩)
  refine Calls.spliced_cons ?_
  refine wpAny_Constant_str (k := kd) (pos := ap) ?_
  refine Calls.spliced_nil ⟨by rw [sizeLine_eq]; simp, fun h' e hm => ?_⟩
  obtain ⟨t, ht, htn, htt⟩ := hm.there
  exact c e _ m loc own fz ad s.heap h' _ (Sub.refl _) F (.inl ⟨hm.keeps, hm.new, ⟨t, _, rfl, _, _, htt, rfl, rfl⟩, _, _, ht, rfl, rfl, rfl, rfl⟩)
end
end Mine
end
section
open PySem PySem.W PyProof.Rows
set_option linter.unusedVariables false
set_option maxRecDepth 100000
namespace Mine
open PySem.Calls PySem.Spec PySem.SeqAt

noncomputable def scN (scope : Scope) : Bool := scP' scope && scope.names.all fun p => p.2 != .free && p.2 != .cell
section
variable {W : Wd} {lv : Nat} {scope sc : Scope} {ρ ρ' : Names} {A : Around} {h₀ : Heap} {fenv : Env} {L : Addr} {m : Str → Option Value} {mu fz : Led} {s : Shared}
  {name qual : Str} {params : Arguments} {body : List Stmt} {dV kV doc pm cdv ct oc : Value} {an od : Option Addr} {osl : Array (Option Value)} {f : Addr} {vs : List Value} {kvs : List (Str × Value)} {binds : List (Str × Value)} {cls : String} {o : Option Str}
theorem scN_facts (h : scN scope = true) : scP' scope = true ∧ (∀ x ∈ scope.names, x.2 ≠ .cell) ∧ ClosOk scope.names [] ∧ scope.kind = .function := by
  simp only [scN, Bool.and_eq_true, List.all_eq_true, bne_iff_ne, ne_eq] at h
  obtain ⟨h1, h2⟩ := h
  refine ⟨h1, fun x hx => (h2 x hx).2, ⟨fun x hx => absurd rfl (h2 _ (PySem.mem_of_lookup hx)).1, fun x y c hx => by cases hx⟩, ?_⟩
  simp only [scP', Bool.and_eq_true, beq_iff_eq] at h1
  exact h1.1
/-- a call of a def of the top that raises -/
theorem call_R (hK : W.K.lookup f = some ⟨oc, od, .func (fnX name qual params body scope [] dV kV doc pm an cdv ct), osl⟩) (hcode : codeIn W.K cdv qual = true)
    (hsc : scN scope = true) (hA : AOk W (lv + 1) A h₀ fenv L) (S : SS W h₀ L m mu fz s.heap) (hbind : BindsTo s (fnX name qual params body scope [] dV kV doc pm an cdv ct) ⟨vs, kvs⟩ binds)
    (hin : (binds.all fun y => scope.names.lookup y.1 == some .local) = true) {nsb : List Str} (hbn : binds.map (·.1) = nsb) (hnb : nsb.Nodup)
    (hB : BindR W (Hs W.base fz) mu [] (fun _ => 0) binds ρ) (hns : sc.names = scope.names) (hmo : sc.more = []) (hb : RX W lv sc ρ (execs body) cls o ρ') {Q E : Value → Shared → Prop}
    (k : ∀ e a0 fz' h₁ h' tk', Sub fz fz' → SS W h₀ L m mu fz' h₁ → Fly W h₀ L mu fz' A fenv cls o e a0 h₁ h' → E (.ref e) { s with heap := h', toks := tk' })
    (hco : scope.isCoroutine = false := by rfl) (hgen : scope.isGenerator = false := by rfl) : wpAny (model W.prog W.w) A (call (.ref f) vs kvs) Q E s := by
  obtain ⟨outer, A₀, hfr, B⟩ := hA.fr
  obtain ⟨hscp, hcell, hclos, hkind⟩ := scN_facts hsc
  have S0 := S
  obtain ⟨F, ⟨gl, hg, l⟩, bs⟩ := S
  refine wpAny_call (callX_plain B F l.news hA.T.nolimit hfr hA.hf hA.hk (S0.has (.inl (W.kb _ _ hK))) rfl (codeRec_of S0.kin hcode) (by have := hA.dp; (clear l hg bs F S0 hkind hclos hcell hscp B hfr hgen hco k hb hmo hns hB hnb hbn hin hbind hA hsc hcode hK; lia)) hbind (fun y hy => by have := List.all_eq_true.mp hin y hy; simpa using this) (fun g L' h₁ FG F' N' B' st hlt => ?_) hcell hco hgen hkind)
  obtain ⟨A', E', fs⟩ := enterP (qual := qual) (f := f) (cdv := cdv) (ps := []) (ad := fun _ => 0) (sc := sc) (ρc := []) hscp hin (hbn ▸ hnb) hclos hB (fun _ _ h => by cases h) (fun _ h => by cases h) (fun _ h => by cases h) hns hmo hA hg l bs F' N' ⟨by rw [hfr]; exact B', by rw [hfr]; rfl⟩ st
  rw [List.append_nil] at fs
  refine hb _ g L' _ [] [] mu fz _ _ _ _ _ A' E' fs fun e a0 m' loc' own' fz' ad' h₂ h' tk' s' x' U => ?_
  have ss := x'.ss
  rw [← List.append_assoc] at ss U
  have hfr' : (A.deeper (envX qual scope L' f cdv [])).frames = some (envX qual scope L' f cdv [] :: fenv :: outer) := by
    show A.frames.map _ = _
    rw [hfr]; rfl
  exact up_leaves hfr' hfr rfl hA.hf hkind ss FG st B' U fun h'' fly => k e a0 fz' h₂ h'' tk' s' (ss.out FG st bs) fly
end
/-! raising calls within expressions -/
noncomputable def RE (W : Wd) (lv : Nat) (sc : Scope) (ρ : Names) (e : Expr) (cls : String) (o : Option Str) : Prop :=
  ∀ (A : Around) (h₀ : Heap) (L : Addr) (m : Str → Option Value) (mu fz : Led) (env : Env) (s : Shared) (Q E : Value → Shared → Prop),
    AOk W lv A h₀ env L → EnvOk env sc → SS W h₀ L m mu fz s.heap → NamesOk W env L m mu (mu ++ fz) (Hs W.base fz) ρ →
    (∀ e a0 fz' h₁ h' tk', Sub fz fz' → SS W h₀ L m mu fz' h₁ → Fly W h₀ L mu fz' A env cls o e a0 h₁ h' → E (.ref e) { s with heap := h', toks := tk' }) → wpAny (model W.prog W.w) A (eval e env) Q E s
/-- statements into which an exception flies -/
noncomputable def RXc (W : Wd) (lv : Nat) (sc : Scope) (ρ : Names) (t : Env → Sem Flow) (cls : String) (o : Option Str) : Prop :=
  ∀ (A : Around) (h₀ : Heap) (L : Addr) (m : Str → Option Value) (loc own par fz : Led) (env : Env) (ad : Str → Addr) (s : Shared) (Q : Flow → Shared → Prop) (E : Value → Shared → Prop),
    AOk W lv A h₀ env L → EnvOk env sc → FS W sc [] h₀ L m loc own par fz env ad ρ s.heap →
    (∀ e a0 fz' h₁ h' tk', Sub fz fz' → FS W sc [] h₀ L m loc own par fz' env ad ρ h₁ → Fly W h₀ L (loc ++ (own ++ par)) fz' A env cls o e a0 h₁ h' → E (.ref e) { s with heap := h', toks := tk' }) →
    wpAny (model W.prog W.w) A (t env) Q E s
section
variable {W : Wd} {lv : Nat} {sc : Scope} {ρ ρ' : Names} {cls : String} {o : Option Str}
theorem RXc.rx {t : Env → Sem Flow} (h : RXc W lv sc ρ t cls o) : RX W lv sc ρ t cls o ρ := fun A h₀ L m loc own par fz env ad s Q E hA hE F c =>
  h A h₀ L m loc own par fz env ad s Q E hA hE F fun e a0 fz' h₁ h' tk' s' F' fly => c e a0 m loc own fz' ad h₁ h' tk' s' F' (.inr fly)
theorem re_callk {x y : Str} {np pos kp : Pos} {a : Addr} {es : List Expr} {ps : List PV} {e : Expr} {pv : PV} {lf : Nat} {G : List PV → List (Str × PV) → Prop} (hb : Glb W sc x a) (hc : GRaise W lf a cls o G) (h : EVs W lv sc ρ es ps) (hes : es ≠ []) (hk : EV W lv sc ρ e pv) (hG : G ps [(y, pv)]) (hl : lf ≤ lv) :
    RE W lv sc ρ (.Call (.Name x np) es [⟨some y, e, kp⟩] pos) cls o := by
  intro A h₀ L m mu fz env s Q E hA hE S hN k
  refine wpAny_Call_ofName (eval_glob hA hE S hb.sc hb.dbg hb.top ?_)
  obtain ⟨ob, fd, ho, hd⟩ := hb.fn
  refine callWith_function_kw (o := ob) (fd := fd) (evalArgs_okk h hk A h₀ env L m mu fz env s _ E hA hE S hN hes fun vs v fz' h' t' s' S' R' r' => ?_)
  refine ⟨⟨S'.has (.inl (W.kb _ _ ho)), hd⟩, ?_⟩
  exact hc A h₀ env L m mu fz' _ vs [(y, v)] ps [(y, pv)] _ _ (hA.less hl) S' R' ⟨rfl, r', trivial⟩ hG fun e a0 fz₂ h₁ h₂ tk₂ s₂ S₂ fly => k e a0 fz₂ h₁ h₂ tk₂ (s'.trans s₂) S₂ fly
theorem RE.go {e : Expr} (h : RE W lv sc ρ e cls o) {A : Around} {h₀ : Heap} {L : Addr} {m : Str → Option Value} {loc own par fz : Led} {env : Env} {ad : Str → Addr} {s : Shared} {Q E : Value → Shared → Prop}
    (hA : AOk W lv A h₀ env L) (hE : EnvOk env sc) (F : FS W sc [] h₀ L m loc own par fz env ad ρ s.heap)
    (c : ∀ e a0 fz' h₁ h' tk', Sub fz fz' → FS W sc [] h₀ L m loc own par fz' env ad ρ h₁ → Fly W h₀ L (loc ++ (own ++ par)) fz' A env cls o e a0 h₁ h' → E (.ref e) { s with heap := h', toks := tk' }) : wpAny (model W.prog W.w) A (eval e env) Q E s :=
  h A h₀ L m _ fz env s Q E hA hE F.ss F.full fun e a0 fz' h₁ h' tk' s' S' fly => c e a0 fz' h₁ h' tk' s' (F.grow s' S') fly
theorem rxc_assign {x : Str} {px pos : Pos} {e : Expr} (h : RE W lv sc ρ e cls o) (hs : ∀ env, swapsWith e (some (.Name x px)) pos.line env = pure false := by intro _; rfl) : RXc W lv sc ρ (exec (.Assign [.Name x px] e pos)) cls o := by
  intro A h₀ L m loc own par fz env ad s Q E hA hE F c
  exact wpAny_Assign_Name (h.go hA hE F c) (hs env)
theorem rxc_expr {e : Expr} {pos : Pos} (h : RE W lv sc ρ e cls o) (hs : ∀ env, swapsWith e none pos.line env = pure false := by intro _; rfl) : RXc W lv sc ρ (exec (.Expr e pos)) cls o := by
  intro A h₀ L m loc own par fz env ad s Q E hA hE F c
  exact wpAny_Expr_any (h.go hA hE F c) (by show (env.scope.kind == .module && _) = false; rw [hE.kind]; rfl) (hs env)
theorem rxc_head {st : Stmt} {rest : List Stmt} (h : RXc W lv sc ρ (exec st) cls o) : RXc W lv sc ρ (execs (st :: rest)) cls o := by
  intro A h₀ L m loc own par fz env ad s Q E hA hE F c
  exact wpAny_execs_cons (h A h₀ L m loc own par fz env ad s _ E hA hE F c)
end
/-! the frame right above the base -/
/-- a def of the top that may meet exceptions, called by the outermost frame -/
noncomputable def GEsc (W : Wd) (lv : Nat) (a : Addr) (G : List PV → List (Str × PV) → Dat → Prop) : Prop :=
  ∀ (A : Around) (fenv : Env) (L : Addr) (m : Str → Option Value) (mu fz : Led) (s : Shared) (vs : List Value) (kvs : List (Str × Value)) (ps : List PV) (kps : List (Str × PV)) (d : Dat) (Q E : Value → Shared → Prop),
    AOk W lv A W.base fenv L → SS W W.base L m mu fz s.heap → PRepA W (Hs W.base fz) mu vs ps → KRepA W (Hs W.base fz) mu kvs kps → G ps kps d →
    Cont W W.base L m mu fz s (fun X v => Rep X v d) Q → wpAny (model W.prog W.w) A (call (.ref a) vs kvs) Q E s
section
variable {W : Wd} {lv : Nat} {scope sc : Scope} {ρ ρ' : Names} {A : Around} {fenv : Env} {L : Addr} {m : Str → Option Value} {mu fz : Led} {s : Shared} {E : Value → Shared → Prop}
  {name qual : Str} {params : Arguments} {body : List Stmt} {dV kV doc pm cdv ct oc : Value} {an od : Option Addr} {osl : Array (Option Value)} {f : Addr} {vs : List Value} {kvs : List (Str × Value)} {binds : List (Str × Value)}
theorem call_E (hK : W.K.lookup f = some ⟨oc, od, .func (fnX name qual params body scope [] dV kV doc pm an cdv ct), osl⟩) (hcode : codeIn W.K cdv qual = true)
    (hsc : scN scope = true) {d : Dat} (hA : AOk W (lv + 1) A W.base fenv L) (S : SS W W.base L m mu fz s.heap) (hbind : BindsTo s (fnX name qual params body scope [] dV kV doc pm an cdv ct) ⟨vs, kvs⟩ binds)
    (hin : (binds.all fun y => scope.names.lookup y.1 == some .local) = true) {nsb : List Str} (hbn : binds.map (·.1) = nsb) (hnb : nsb.Nodup)
    (hB : BindR W (Hs W.base fz) mu [] (fun _ => 0) binds ρ) (hns : sc.names = scope.names) (hmo : sc.more = []) (hb : EXS W lv sc [] ρ body (.esc d)) (Q : Value → Shared → Prop)
    (k : Cont W W.base L m mu fz s (fun X v => Rep X v d) Q)
    (hco : scope.isCoroutine = false := by rfl) (hgen : scope.isGenerator = false := by rfl) : wpAny (model W.prog W.w) A (call (.ref f) vs kvs) Q E s := by
  obtain ⟨outer, A₀, hfr, B⟩ := hA.fr
  obtain ⟨hscp, hcell, hclos, hkind⟩ := scN_facts hsc
  have S0 := S
  obtain ⟨F, ⟨gl, hg, l⟩, bs⟩ := S
  obtain ⟨FG, BG, st, _⟩ := groundX (R := fun _ _ => True) B F l.news hfr hA.hf hA.hk
  refine wpAny_call ?_
  refine codeAny_call_def (fd := fnX name qual params body scope [] dV kV doc pm an cdv ct) (body := body) (binds := binds) (by have := hA.dp; (clear st BG FG l hg bs F S0 hkind hclos hcell hscp B hfr hgen hco k hb hmo hns hB hnb hbn hin hbind hA hsc hcode hK; lia)) (S0.has (.inl (W.kb _ _ hK))) rfl (hA.T.nolimit.keeps F.keep) (codeRec_of S0.kin hcode) rfl hbind hcell (fun y hy => by have := List.all_eq_true.mp hin y hy; simpa using this) (fun h₁ hns₁ hk₁ => ?_) hco hgen hkind
  have F' : Fr (hideAll s.heap ((gl ++ (mu ++ fz)).map (·.1))) s.heap.objs.size h₁ (fun y => binds.reverse.lookup y) := ⟨hns₁, fun b o e => hk₁ b o (of_hideAll _ e), Nat.le_of_eq (hideAll_size _ _)⟩
  have N' : News (hideAll s.heap ((gl ++ (mu ++ fz)).map (·.1))) s.heap.objs.size h₁ (gl ++ (mu ++ fz)) := fun p hp => ⟨hk₁ _ _ (l.news p hp).1, Nat.ne_of_lt (Heap.lt_size (l.news p hp).1), hideAll_none _ (List.mem_map_of_mem hp)⟩
  obtain ⟨A', E', fs⟩ := enterP (qual := qual) (f := f) (cdv := cdv) (ps := []) (ad := fun _ => 0) (sc := sc) (ρc := []) hscp hin (hbn ▸ hnb) hclos hB (fun _ _ h => by cases h) (fun _ h => by cases h) (fun _ h => by cases h) hns hmo hA hg l bs F' N' ⟨by rw [hfr]; exact BG, by rw [hfr]; rfl⟩ st
  rw [List.append_nil] at fs
  refine hb _ _ _ _ [] [] mu fz _ _ _ _ _ A' E' fs fun fl m' loc' own' par' fz' ad' h' tk' s' x' f' p' a' l' => ?_
  obtain ⟨v, rfl, rv⟩ := f'
  obtain ⟨e1, ⟨gl', hg', l''⟩, e3⟩ := x'
  have nd : (par'.map (·.1)).Nodup := by
    have nd := l''.nodup
    rw [List.map_append, List.nodup_append, List.map_append, List.nodup_append, List.map_append, List.nodup_append, List.map_append, List.nodup_append] at nd
    exact nd.2.1.1.2.1.2.1
  have e := p'.eq nd
  subst e
  rw [← List.append_assoc loc'] at l''
  have lo := l''.out FG st
  refine k v fz' h' tk' s' ⟨⟨e3.ns FG.ns, e1, F.above⟩, ⟨gl', hg', lo⟩, fun b o q => q⟩ rv
end
/-- statements of the outermost frame, that give d back -/
noncomputable def EXL (W : Wd) (lv : Nat) (sc : Scope) (ρ : Names) (t : Env → Sem Flow) (d : Dat) : Prop :=
  ∀ (A : Around) (L : Addr) (m : Str → Option Value) (loc own par fz : Led) (env : Env) (ad : Str → Addr) (s : Shared) (Q : Flow → Shared → Prop) (E : Value → Shared → Prop),
    AOk W lv A W.base env L → EnvOk env sc → FS W sc [] W.base L m loc own par fz env ad ρ s.heap →
    (∀ v m' loc' own' fz' h' tk', Sub fz fz' → SS W W.base L m' (loc' ++ (own' ++ par)) fz' h' → Rep (Hs W.base fz') v d → Q (.ret v) { s with heap := h', toks := tk' }) →
    wpAny (model W.prog W.w) A (t env) Q E s
section
variable {W : Wd} {lv : Nat} {sc : Scope} {ρ ρ' : Names} {d : Dat}
theorem exl_of {t : Env → Sem Flow} (h : EX W lv sc [] ρ t (.ret d ρ')) : EXL W lv sc ρ t d := by
  intro A L m loc own par fz env ad s Q E hA hE F c
  refine h A _ L m loc own par fz env ad s Q E hA hE F fun fl m' loc' own' par' fz' ad' h' tk' s' x' f' p' a' l' => ?_
  obtain ⟨v, rfl, rv⟩ := f'
  obtain ⟨sc₂, x'⟩ := x'
  have e := p'.eq x'.ndPar
  subst e
  exact c v m' loc' own' fz' h' tk' s' x'.ss rv
theorem exl_exr {l : List Stmt} (h : EXR W lv sc ρ l d) : EXL W lv sc ρ (execs l) d := let ⟨_, h⟩ := h; exl_of h
theorem exl_seq {st : Stmt} {rest : List Stmt} (h : EX1 W lv sc [] ρ st (.next ρ')) (k : EXL W lv sc ρ' (execs rest) d) : EXL W lv sc ρ (execs (st :: rest)) d := by
  intro A L m loc own par fz env ad s Q E hA hE F c
  refine wpAny_execs_cons (h A _ L m loc own par fz env ad s _ E hA hE F fun fl m₁ loc₁ own₁ par₁ fz₁ ad₁ h₁ t₁ s₁ x₁ f₁ p₁ a₁ l₁ => ?_)
  cases f₁
  have x₁ : FS W sc [] W.base L m₁ loc₁ own₁ par₁ fz₁ env ad₁ ρ' h₁ := x₁
  have e := p₁.eq x₁.ndPar
  subst e
  exact k A L m₁ loc₁ own₁ _ fz₁ env ad₁ _ Q E hA hE x₁ fun v m' loc' own' fz' h' tk' s' => c v m' loc' own' fz' h' tk' (s₁.trans s')
theorem exl_freeze {x : Str} {ds : List Dat} {t : Env → Sem Flow} (hx : ρ.lookup x = some (.lst ds)) (h : EXL W lv sc ((x, .dat (.list ds)) :: ρ) t d) : EXL W lv sc ρ t d := by
  intro A L m loc own par fz env ad s Q E hA hE F c
  obtain ⟨own', o, F'⟩ := F.freeze hx (by simp)
  exact h A L m loc own' par _ env ad s Q E hA hE F' fun v m' loc' own' fz' h' tk' s' => c v m' loc' own' fz' h' tk' (Sub.trans .cons s')
end
end Mine
end
section
open PySem PySem.W PyProof.Rows
set_option linter.unusedVariables false
set_option maxRecDepth 100000
namespace Mine
open PySem.Calls PySem.Spec PySem.SeqAt
section
variable {W : Wd} {lv lf : Nat} {sc lsc lsc' : Scope} {ρ ρc ρ' : Names} {tabs : List (Addr × Addr × Str)} {t : Addr × Addr × Str} {x : Str} {px pos lpos : Pos} {params : Arguments} {F : List Dat → Option Dat} {pn : List Str} {q : Str} {rest : List Stmt} {d : Dat}
/-- x = lambda ..: in the outermost frame -/
theorem exl_lambda {body : Expr} (hT : Tabs W tabs t) (hcode : sc.more.lookup ("@code" : Str) = some (.int t.1)) (hqual : sc.more.lookup ("@qual" : Str) = some (.str q)) (hq : q ++ "<lambda>" = t.2.2)
    (I : Inner lsc ρc) (hρ : ∀ p ∈ ρc, ρ.lookup p.1 = some p.2 ∧ sc.names.lookup p.1 = some .cell) (hd : allDat ρc = true) (hx : slot sc x) (hxc : x ∉ ρc.map (·.1)) (hp : PlainName x)
    (hdef : ∀ env, defaultsOf params env = ([], [])) (hbind : ∀ (vs : List Value) (cl : List (Str × Addr)) (pm cdv ctv : Value), vs.length = pn.length → bindArgs (kla_fn "<lambda>" t.2.2 params body lsc cl pm cdv ctv) ⟨vs, []⟩ = pure (pn.zip vs))
    (hpn : (pn.all fun y => lsc.names.lookup y == some .local) = true) (hnd : pn.Nodup) (hpl : ∀ y ∈ pn, PlainName y) (hns : lsc'.names = lsc.names) (hmo : lsc'.more = [])
    (hb : ∀ ds d, F ds = some d → ds.length = pn.length ∧ EV W lf lsc' (zipD pn ds ++ ρc) body (.dat d)) (hco : lsc.isCoroutine = false) (hgen : lsc.isGenerator = false)
    (k : EXL W lv (unslots sc (ρc.map (·.1))) ((x, .fn (lf + 1) F) :: ρ) (execs rest) d) : EXL W lv sc ρ (execs (.Assign [.Name x px] (.Lambda params body lsc lpos) pos :: rest)) d := by
  intro A L m loc own par fz env ad s Q E hA hE F₀ c
  obtain ⟨loc₁, fz₁, s₁, F₁, hE₁, C₁⟩ := F₀.freezeCells ρc hE hρ I.nd
  obtain ⟨hcl, hclos, _⟩ := capR_closed I hE.inj C₁
  refine wpAny_execs_cons (wpAny_Assign_Name (kla_eval (hdef env) ?_) rfl)
  have hqe : env.qual ++ "<lambda>" = t.2.2 := by rw [hE.qual q hqual]; exact hq
  have hce : env.code = .ref t.1 := by have := hE.code _ hcode; simpa using this
  rw [hqe]
  refine make_lam hA hT.gl hT.mem hT.nd hT.code F₁.ss hcl hE.glob hce fun f fz₂ h₂ tk₂ c' ctv pm s₂ S₂ hf hcx => ?_
  have F₂ := F₁.grow s₂ S₂
  have hfn : W.base.get? f = none := S₂.noBase hf
  have C₂ : ClR W (Hs W.base fz₂) [] [] (fun _ => 0) lsc.names (closL env.cells lsc.names []) ρc := ClR.mono (Hs.sub s₂) (capR_clR I (fun a o h => .inr h) C₁ hd)
  have hok : CallOk W (lf + 1) (Hs W.base fz₂) (.ref f) F := callok_L (.inr hf) hfn hcx (fun vs hv => hbind vs _ _ _ _ hv) I.sc hpn hnd hpl hclos C₂ hns hmo hb hco hgen
  have hx₁ : slot (unslots sc (ρc.map (·.1))) x := by
    unfold slot; rw [unslots_glob (k := .local) hxc]; exact hx
  refine store_ok hE₁ F₂.ss (F₂.st x hx₁) fun m' loc' h₃ tk₃ S₃ st₃ => ?_
  have F₃ := F₂.moved (bs := [(x, .fn (lf + 1) F)]) S₃ (st₃.moved (pv := .fn (lf + 1) F) hp fun MU Y qq => CallOk.mono qq hok) rfl
  refine k A L m' loc' own par fz₂ env ad _ Q E hA hE₁ F₃ fun v m₄ loc₄ own₄ fz₄ h₄ tk₄ s₄ => ?_
  exact c v m₄ loc₄ own₄ fz₄ h₄ tk₄ (s₁.trans (s₂.trans s₄))
theorem exl_ret {e : Expr} {rest : List Stmt} (h : EV W lv sc ρ e (.dat d)) : EXL W lv sc ρ (execs (.Return (some e) pos :: rest)) d := exl_exr (exr_ret h)
theorem exl_sub {t : Env → Sem Flow} (h : EXL W lv sc ρ' t d) (k : SubN ρ ρ') : EXL W lv sc ρ t d := by
  intro A L m loc own par fz env ad s Q E hA hE F c
  exact h A L m loc own par fz env ad s Q E hA hE (F.sub k.look) c
end
noncomputable def bodyOf (fd : FuncData) : List Stmt := match fd.body with
  | .stmts b => b
  | _ => []
noncomputable def noStars (es : List Expr) : Bool := !(es.any fun | .Starred .. => true | _ => false)
noncomputable def nmOf (env : Env) (l : Nat) (ts : List Expr) : List Str := ts.filterMap fun
    | .Name id pos => if env.kindOf id == some .local && pos.line == l then some id else none
    | _ => none
theorem swapped_core {ts vs : List Expr} {env : Env} {kd kd' : Nat} {tp vp : Pos} {names : List Str} (hk : env.scope.kind = .function) (hlen : (!(ts.length == 2 || ts.length == 3) || vs.length != ts.length) = false) (hs : noStars vs = true)
    (hn : nmOf env ((ts.head?.map (·.pos.line)).getD 0) ts = names) (hn2 : (names.length != ts.length || names.eraseDups.length != names.length) = false) (h1 : (vs.all (foldedForSure 8)) = false) (h2 : vs.all (constantsAlone 8) = false) : swappedStores [.Tuple ts kd tp] (.Tuple vs kd' vp) env = pure (some names) := by
  have hb : (env.blockKind != .function) = false := by unfold Env.blockKind; rw [hk]; rfl
  subst hn
  unfold swappedStores
  simp only [hb, hlen, Bool.or_false]
  refine (if_neg ?_).trans ?_
  · decide
  refine (if_neg ?_).trans ?_
  · intro q
    have : noStars vs = false := by unfold noStars; rw [Bool.not_eq_false']; exact q
    rw [hs] at this; cases this
  refine (if_neg ?_).trans ?_
  · intro q
    have q : ((nmOf env ((ts.head?.map (·.pos.line)).getD 0) ts).length != ts.length || (nmOf env ((ts.head?.map (·.pos.line)).getD 0) ts).eraseDups.length != (nmOf env ((ts.head?.map (·.pos.line)).getD 0) ts).length) = true := q
    rw [hn2] at q; cases q
  rw [h1, h2]
  rfl
theorem swapped2 {x y : Str} {px py tp vp : Pos} {kd kd' : Nat} {e f : Expr} {env : Env} (hk : env.scope.kind = .function) (hx : env.kindOf x = some .local) (hy : env.kindOf y = some .local) (hl : (py.line == px.line) = true) (hd : [x, y].eraseDups.length = 2)
    (hs : noStars [e, f] = true) (h1 : ([e, f].all (foldedForSure 8)) = false) (h2 : [e, f].all (constantsAlone 8) = false) : swappedStores [.Tuple [.Name x px, .Name y py] kd tp] (.Tuple [e, f] kd' vp) env = pure (some [x, y]) :=
  swapped_core hk rfl hs (by
    show nmOf env px.line _ = _
    unfold nmOf
    simp [List.filterMap_cons, hx, hy, eq_of_beq hl]) (by rw [hd]; rfl) h1 h2
theorem swapped3 {x y z : Str} {px py pz tp vp : Pos} {kd kd' : Nat} {e f g : Expr} {env : Env} (hk : env.scope.kind = .function) (hx : env.kindOf x = some .local) (hy : env.kindOf y = some .local) (hz : env.kindOf z = some .local) (hl : (py.line == px.line) = true) (hl' : (pz.line == px.line) = true) (hd : [x, y, z].eraseDups.length = 3)
    (hs : noStars [e, f, g] = true) (h1 : ([e, f, g].all (foldedForSure 8)) = false) (h2 : [e, f, g].all (constantsAlone 8) = false) : swappedStores [.Tuple [.Name x px, .Name y py, .Name z pz] kd tp] (.Tuple [e, f, g] kd' vp) env = pure (some [x, y, z]) :=
  swapped_core hk rfl hs (by
    show nmOf env px.line _ = _
    unfold nmOf
    simp [List.filterMap_cons, hx, hy, hz, eq_of_beq hl, eq_of_beq hl']) (by rw [hd]; rfl) h1 h2
end Mine
end
section
open PySem PySem.W PyProof.Rows
set_option linter.unusedVariables false
namespace Mine
/-- the place that a search by halves finds -/
noncomputable def bis (c : Nat → Bool) : Nat → Nat → Nat → Nat
  | 0, lo, _ => lo
  | f + 1, lo, hi => if lo < hi then (if c ((lo + hi) / 2) then bis c f lo ((lo + hi) / 2) else bis c f ((lo + hi) / 2 + 1) hi) else lo
theorem bis_spec {c : Nat → Bool} : ∀ (f lo hi k : Nat), lo ≤ k → k ≤ hi → hi - lo ≤ f → (∀ m, lo ≤ m → m < k → c m = false) → (∀ m, k ≤ m → m < hi → c m = true) → bis c f lo hi = k
  | 0, lo, hi, k, h1, h2, h3, _, _ => by unfold bis; lia
  | f + 1, lo, hi, k, h1, h2, h3, h4, h5 => by
    unfold bis
    by_cases h : lo < hi
    · rw [if_pos h]
      by_cases hk : (lo + hi) / 2 < k
      · rw [h4 _ (by (clear hk h5 h4 h3 h2 h1; lia)) hk, if_neg (by decide)]
        exact bis_spec f _ hi k (by (clear h h5 h4 h3 h2 h1; lia)) h2 (by (clear hk h5 h4 h2 h1; lia)) (fun m a b => h4 m (by (clear hk h h5 h4 h3 h1; lia)) b) h5
      · rw [h5 _ (by (clear h h5 h4 h3 h2 h1; lia)) (by (clear h5 h4 h3 h2; lia)), if_pos rfl]
        exact bis_spec f lo _ k h1 (by (clear h h5 h4 h3 h2 h1; lia)) (by (clear hk h5 h4 h2 h1; lia)) h4 (fun m a b => h5 m a (by (clear a hk h5 h4 h3 h2 h1; lia)))
    · rw [if_neg h]; (clear h5 h4 h3; lia)
theorem bis_le {c : Nat → Bool} : ∀ (f lo hi : Nat), lo ≤ hi → lo ≤ bis c f lo hi ∧ bis c f lo hi ≤ hi
  | 0, lo, hi, h => by unfold bis; lia
  | f + 1, lo, hi, h => by
    unfold bis
    split
    · split
      · have := bis_le (c := c) f lo ((lo + hi) / 2) (by (clear h; lia)); (clear h; lia)
      · have := bis_le (c := c) f ((lo + hi) / 2 + 1) hi (by (clear h; lia)); (clear h; lia)
    · lia
end Mine
end
section
open PySem PySem.W PyProof.Rows
set_option linter.unusedVariables false
set_option maxRecDepth 100000
namespace Mine
open PySem.Calls PySem.Spec PySem.SeqAt

/-! a try whose clause binds the exception, notes its text, and goes on -/
section
variable {W : Wd} {lv : Nat} {sc : Scope} {ρ ρ' : Names} {cls : String} {h₀ h h₁ B : Heap} {L : Addr} {m m' : Str → Option Value} {loc loc' own par fz : Led} {env : Env} {ad : Str → Addr}
/-- a name of the frame is unbound -/
theorem gone_ok {mu : Led} {s : Shared} {n : Str} {pos : Pos} {M : Model} {A : Around} {Q : Unit → Shared → Prop} {E : Value → Shared → Prop}
    (hE : EnvOk env sc) (S : SS W h₀ L m (loc ++ mu) fz s.heap) (hl : env.kindOf n = some .local) (hs : Sto env L loc n)
    (k : ∀ m' loc' h' tk', SS W h₀ L m' (loc' ++ mu) fz h' → (∀ N y u, y ≠ n → (∀ a o o', (a, o) ∈ loc ++ N → (a, o') ∈ loc ++ N → o = o') → Loads env L m (loc ++ N) y u → Loads env L m' (loc' ++ N) y u) → (∀ y, Sto env L loc y → Sto env L loc' y) → loc'.map (·.1) = loc.map (·.1) → Q () { s with heap := h', toks := tk' }) :
    wpAny M A (do bindName env n .none; unbindBehindTheSuite env n pos) Q E s := by
  have hp : (env.scope.kind == .class || (env.scope.kind == .module && env.locals != env.globals)) = false := by rw [hE.kind]; rfl
  rcases hs with ⟨hk, hl' | ⟨o, mm, hm, hn⟩⟩ | ⟨hk, _⟩
  · refine wpAny_nameGoes_keeps hl (by rw [hl']; exact S.fr.ns) hp fun h' v hn hb => ?_
    rw [hl'] at hn hb
    refine k _ loc h' _ (S.store (S.fr.set hn hb) hb) (fun N y u hy hinj l => ?_) (fun y hy => hy) rfl
    cases l with
    | here a b c => exact .here a b (by rw [if_neg hy]; exact c)
    | block a b c d => exact .block a b c d
    | cell a b c d => exact .cell a b c d
  · have ho := S.ofMu (List.mem_append_left _ hm)
    refine wpAny_nameGoes_keeps hl (hn.ns ho) hp fun h' v hn' hb => ?_
    obtain ⟨o', ho', hn''⟩ := ObjNs.of hn'
    have S' := S.setLoc hm (fun b o hbd e => hb.extBut b o hbd e) ho'
    refine k m _ h' _ S' (fun N y u hy hinj l => ?_) (fun y hy => ?_) (setL_fst ..)
    · cases l with
      | here a b c => exact .here a b c
      | @block o₂ mm₂ _ a b c d =>
        have := hinj _ _ _ b (List.mem_append_left _ hm)
        subst this
        obtain ⟨es, ep, e1, e2, e3⟩ := c
        obtain ⟨es', ep', f1, f2, f3⟩ := hn
        rw [e1] at f1; cases f1
        refine .block a (List.mem_append_left _ (mem_setL_self hm)) hn'' ?_
        show (if y = n then v else mm y) = some u
        rw [if_neg hy, ← f3, e3, d]
      | @cell c₂ o₂ _ a b c d =>
        have hne : c₂ ≠ env.locals := fun q => by
          rw [q] at c
          have := hinj _ _ _ c (List.mem_append_left _ hm)
          subst this
          obtain ⟨es, ep, e1, _⟩ := hn
          rw [e1] at d; cases d
        refine .cell a b ?_ d
        rcases List.mem_append.mp c with c | c
        · exact List.mem_append_left _ (mem_setL_ne c hne)
        · exact List.mem_append_right _ c
    · rcases hy with ⟨a, b | ⟨o₂, mm₂, b, c⟩⟩ | ⟨a, c₂, o₂, v₂, b, c, d⟩
      · exact .inl ⟨a, .inl b⟩
      · exact .inl ⟨a, .inr ⟨_, _, mem_setL_self hm, hn''⟩⟩
      · have hne : c₂ ≠ env.locals := fun q => by
          rw [q] at c
          have := S.inj (List.mem_append_left _ (List.mem_append_left _ c)) (List.mem_append_left _ (List.mem_append_left _ hm))
          subst this
          obtain ⟨es, ep, e1, _⟩ := hn
          rw [e1] at d; cases d
        exact .inr ⟨a, c₂, o₂, v₂, b, mem_setL_ne c hne, d⟩
  · rw [hl] at hk; cases hk
/-- names that stand aside of the one stored or unbound -/
theorem FS.aside {n : Str} (x : FS W sc [] h₀ L m loc own par fz env ad ρ h) (S : SS W h₀ L m' (loc' ++ (own ++ par)) fz h') (hn : ρ.lookup n = none)
    (old : ∀ N y u, y ≠ n → (∀ a o o', (a, o) ∈ loc ++ N → (a, o') ∈ loc ++ N → o = o') → Loads env L m (loc ++ N) y u → Loads env L m' (loc' ++ N) y u) (sto : ∀ y, Sto env L loc y → Sto env L loc' y) : FS W sc [] h₀ L m' loc' own par fz env ad ρ h' := by
  have hy : ∀ y pv, ρ.lookup y = some pv → y ≠ n := fun y pv e q => by rw [q, hn] at e; cases e
  have inj : ∀ a o o', (a, o) ∈ loc ++ ((own ++ par) ++ fz) → (a, o') ∈ loc ++ ((own ++ par) ++ fz) → o = o' := fun a o o' => nd_inj x.nd
  refine ⟨S, fun y q e => ?_, fun y ds e => ?_, x.ij, fun y e => sto y (x.st y e), x.pp⟩
  · obtain ⟨a, v, l, r⟩ := x.nm y q e
    exact ⟨a, v, old _ y v (hy y q e) inj l, r⟩
  · obtain ⟨l, r⟩ := x.ls y ds e
    exact ⟨old _ y _ (hy y _ e) inj l, r⟩
/-- the ground, the frames' slots turned -/
theorem ground_on {A₀ : Around} {outer : List Env} (K : Below A₀ W.base outer h₀) (F : Fr h₀ L h₁ m) (hB : ∀ b o, h₀.get? b = some o → b ∉ outer.filterMap (·.frame) → B.get? b = some o) (hBh : B.StaysIn h) (up : h₁.UpToSlots h) :
    ∃ g', KtsTurn (outer.filterMap (·.frame)) h₀ g' ∧ Fr g' L h m ∧ Below A₀ W.base outer g' := by
  obtain ⟨T, S⟩ := kts_turn_at (h := h) (fs := outer.filterMap (·.frame)) (g := h₀)
    (fun b hb => by obtain ⟨_, o, ho, _⟩ := K.frames.mem hb; exact ⟨o, ho⟩)
    (fun b o e nm => hBh b o (hB b o e nm))
    (fun b o e hm => by
      obtain ⟨_, o', ho', hd⟩ := K.frames.mem hm
      rw [e] at ho'; cases ho'
      exact up b o (F.keep b o e) hd)
  refine ⟨_, T, ⟨up.ns F.ns, S, by rw [T.size]; exact F.above⟩, ⟨K.stack, fun b o e => T.other b o (K.stays b o e) (fun hm => by
    rw [(K.frames.mem hm).1] at e; cases e), K.frames.of_keeps fun b o e _ => ?_⟩⟩
  obtain ⟨sl, hs⟩ := T.up e
  exact ⟨_, hs, rfl⟩
end
section
variable {W : Wd} {lv : Nat} {sc : Scope} {ρ ρ' : Names} {cls : String}
theorem esc_of_ret {t : Env → Sem Flow} {d : Dat} (h : EX W lv sc [] ρ t (.ret d ρ')) : EX W lv sc [] ρ t (.esc d) := by
  intro A h₀ L m loc own par fz env ad s Q E hA hE F c
  refine h A h₀ L m loc own par fz env ad s Q E hA hE F fun fl m' loc' own' par' fz' ad' h' tk' s' x' f' p' a' l' => ?_
  obtain ⟨sc₂, x'⟩ := x'
  have x' : FS W sc₂ [] h₀ L m' loc' own' par' fz' env ad' ρ' h' := x'
  obtain ⟨Fr', hg, bs⟩ := x'.ss
  exact c fl m' loc' own' par' fz' ad' h' tk' s' ⟨fun b o q => Fr'.keep b o (bs b o q), hg, Heap.UpToSlots.of_keeps Fr'.keep⟩ f' p' a' l'
theorem esc_of_exr {l : List Stmt} {d : Dat} (h : EXR W lv sc ρ l d) : EXS W lv sc [] ρ l (.esc d) := let ⟨_, h⟩ := h; esc_of_ret h
theorem ex_try_as {body rest : List Stmt} {y X n msg : Str} {T nm : String} {np yp ap cp sp xp pos' pos'' hp pos : Pos} {ds : List Dat} {d : Dat} (hx : RXc W lv sc ρ (execs body) cls (some msg)) (hb : Boot W sc X (.type T))
    (hexc : isSubtype (.type T) (.type "BaseException") = pure true) (hnt : isSubtype (.type ((Manifest.find? T).elim "type" fun x => x.metatype)) (.type "tuple") = pure false) (hsub : isSubtype (.type cls) (.type T) = pure true)
    (hy : ρ.lookup y = some (.lst ds)) (hn : ρ.lookup n = none) (hnl : sc.names.lookup n = some .local) (hnp : PlainName n) (hst : Boot W sc (Str.ofString "str") (.type "str")) (FX : ExcStrFacts cls nm) (hz : ds.length ≤ 1048575)
    (k : EXS W lv sc [] ((y, .lst (ds ++ [.str msg])) :: ρ) rest (.esc d))
    (hbase : ∀ env, attributeBase (.Name y yp) (Str.ofString "append") env (eval (.Name y yp) env) = eval (.Name y yp) env := by intro _; rfl) (hline : (ap.endLine == pos'.line) = true := by rfl) :
    EXS W lv sc [] ρ (.Try body [.ExceptHandler (some (.Name X np)) (some n) [.Expr (.Call (.Attribute (.Name y yp) (Str.ofString "append") ap) [.Call (.Name (Str.ofString "str") sp) [.Name n xp] [] cp] [] pos') pos''] hp] [] [] pos :: rest) (.esc d) := by
  intro A h₀ L m loc own par fz env ad s Q E hA hE F c
  refine wpAny_execs_cons (wpAny_Try_except (hx A h₀ L m loc own par fz env ad s _ _ hA hE F fun e a0 fz' h₁ h₂ tk s' F' fly => ?_))
  obtain ⟨outer, B, hfr, fl, c1, gl, c2, c3, c4, c5⟩ := fly.fl
  refine wpAny_looks_onW hfr hA.hf fl fun h₃ held x1 => ?_
  refine wpAny_landsW held fun h₄ fl₄ x2 => ?_
  obtain ⟨ob, hob, hobc⟩ := fl₄.there
  refine wpAny_handleBy_builtin_as (X := cls) (T := T) (b := true) hexc hnt hsub (eval_boot' hE (fun b o q => fl₄.1 b o (c1 b o q)) hb ⟨rfl, ⟨ob, hob, hobc⟩, ?_⟩)
  rw [if_pos rfl]
  refine lands_againW fl₄ fun h₅ fl₅ x3 => ?_
  have up := fly.up.trans (x1.trans (x2.trans x3))
  have args := fly.args.up (x1.trans (x2.trans x3))
  obtain ⟨outer', A₀, hfr', K⟩ := hA.fr
  have eo : outer' = outer := by rw [hfr] at hfr'; injection hfr' with q; injection q with _ q; exact q.symm
  subst eo
  obtain ⟨g', T', F₅, K₅⟩ := ground_on K F'.ss.fr c5 fl₅.1 up
  have ss₅ : SS W g' L m (loc ++ (own ++ par)) fz' h₅ := ⟨F₅, ⟨gl, c2, ⟨fun p hp => ⟨fl₅.1 _ _ (c4 p hp), (c3.news p hp).2.1, T'.none_ _ (c3.news p hp).2.2⟩, c3.nodup⟩⟩, K₅.stays⟩
  have x₅ : FS W sc [] g' L m loc own par fz' env ad ρ h₅ := ⟨ss₅, F'.nm, F'.ls, F'.ij, F'.st, F'.pp⟩
  have exc₅ : h₅.ExcAt e cls a0 := by
    obtain ⟨_, _, _, oe, vs, _, _, _, he, ⟨hc, h0⟩, hd, _⟩ := fl₅
    exact ⟨oe, vs, he, hc, hd, h0⟩
  obtain ⟨t, tk₀, rfl, tup₅⟩ := args
  refine store_kept hE ss₅ (x₅.st n (.inl hnl)) fun m₆ loc₆ h₆ tk₆ S₆ st₆ kp₆ => ?_
  have x₆ := x₅.aside S₆ hn (fun N y u => st₆.old N y u) st₆.sto
  have exc₆ : h₆.ExcAt e cls (.ref t) := by
    obtain ⟨oe, vs, he, hc, hd, h0⟩ := exc₅
    exact ⟨oe, vs, kp₆ _ _ he (fun _ _ q => by rw [hd] at q; cases q) (fun _ q => by rw [hd] at q; cases q), hc, hd, h0⟩
  have tup₆ : h₆.TupAt t [.str msg tk₀] := by
    obtain ⟨ot, nt, he, hc, hd⟩ := tup₅
    exact ⟨ot, nt, kp₆ _ _ he (fun _ _ q => by rw [hd] at q; cases q) (fun _ q => by rw [hd] at q; cases q), hc, hd⟩
  have hN : ∀ {loc : Led}, Sub (loc ++ ((own ++ par) ++ fz')) ((loc ++ (own ++ par)) ++ fz') := fun {loc} => by rw [List.append_assoc loc]; exact Sub.refl _
  refine wpAny_execs_cons (wpAny_Expr_any (wpAny_Call_method1_late (hbase env) hline rfl ?_) (by show (env.scope.kind == .module && _) = false; rw [hE.kind]; rfl) rfl)
  refine eval_name hE x₆.ss ((x₆.ls y ds hy).1.mono hN) (x₆.nm y _ hy).1 ?_
  obtain ⟨vs, n', hm, hr⟩ := x₆.listAt hy
  have ho := x₆.ss.ofMu (List.mem_append_right loc₆ hm)
  refine ⟨"list", "list.append", PySem.F.plainAttrs_list, slot_list_append, type_list_append, ⟨_, ho, rfl⟩, fun a q => ⟨_, by cases q; exact ho, rfl⟩, ?_⟩
  refine P.append_list ?_
  refine wpAny_Call_ofName (eval_boot' hE (fun b o q => x₆.ss.has (.inl q)) hst ?_)
  refine PySem.callWith_type rfl (Calls.evalArgs_plain (Calls.spliced_cons (eval_name hE x₆.ss (st₆.new _ |>.mono hN) hnp ?_)))
  refine Calls.spliced_nil ?_
  refine P.str_of_exc_one FX (by show A.units + 2 < cLine; have := hA.un; (clear ho hr hm hN tup₆ exc₆ x₆ kp₆ st₆ S₆ exc₅ fl₅ fl₄ held fl fly tup₅ x₅ ss₅ K₅ F₅ T' c5 hfr K hfr' up x3 hobc hob x2 x1 c4 c3 c2 c1 F' s' c F hE hA hline hbase k hz FX hst hnp hnl hn hy hsub hnt hexc hb hx; lia)) exc₆ tup₆ ?_
  have hz' : vs.toArray.size ≤ sizeLine := by rw [List.size_toArray, sizeLine_eq, hr.length]; (clear ho hr hm hN tup₆ exc₆ x₆ kp₆ st₆ S₆ exc₅ fl₅ fl₄ held fl fly tup₅ x₅ ss₅ K₅ F₅ T' c5 hfr K hfr' up x3 hobc hob x2 x1 c4 c3 c2 c1 F' s' c F hE hA hline hbase k FX hst hnp hnl hn hy hsub hnt hexc hb hx; lia)
  refine ⟨_, _, hz', ho, ?_⟩
  have hup := (show IsL h₆ (ad y) vs.toArray n' from ho).update (fun xs => xs.push (Value.str msg tk₀))
  have ho₂ : (h₆.update (ad y) (Obj.mapSeq fun xs => xs.push (Value.str msg tk₀))).get? (ad y) = some (listOf (vs ++ [Value.str msg tk₀]).toArray (n' + 1)) := by
    rw [hup]; simp [PySem.W.listOf]
  obtain ⟨own', par', x₇, p₇⟩ := x₆.turn (ds' := ds ++ [.str msg]) hy (fun b o hb e => (Heap.get?_update_other h₆ _ (Ne.symm hb)).trans e) ho₂ (hr.append (.one (.str msg tk₀)))
  have ep := p₇.eq x₇.ndPar
  subst ep
  have hn' : List.lookup n ((y, PV.lst (ds ++ [.str msg])) :: ρ) = none := by
    rw [List.lookup_cons]
    cases q : n == y with
    | true => rw [beq_iff_eq.mp q, hy] at hn; cases hn
    | false => exact hn
  refine wpAny_execs_nil (gone_ok hE x₇.ss (hE.lc n hnl) (x₇.st n (.inl hnl)) fun m₈ loc₈ h₈ tk₈ S₈ old₈ sto₈ fst₈ => ?_)
  have x₈ := x₇.aside S₈ hn' old₈ sto₈
  have hA' : AOk W lv A g' env L := ⟨hA.hh, ⟨_, A₀, hfr, K₅⟩, hA.hf, hA.hk, hA.dp, hA.un, fun a o q => K₅.stays a o (W.kb a o q), W.tb.keeps K₅.stays⟩
  refine k A g' L m₈ loc₈ own' _ fz' env ad _ Q E hA' hE x₈ fun fl' m₉ loc₉ own₉ par₉ fz₉ ad₉ h₉ tk₉ s₉ x₉ f₉ p₉ a₉ l₉ => ?_
  obtain ⟨e1, ⟨gl', hg', l'⟩, e3⟩ := x₉
  have none' : ∀ b, g'.get? b = none → h₀.get? b = none := fun b q => by
    cases q' : h₀.get? b with
    | none => rfl
    | some o => obtain ⟨sl, q2⟩ := T'.up q'; rw [q] at q2; cases q2
  refine c fl' m₉ loc₉ own₉ par₉ fz₉ ad₉ h₉ tk₉ (s'.trans s₉) ⟨e1, ⟨gl', hg', ⟨fun p hp => ⟨(l'.news p hp).1, (l'.news p hp).2.1, none' _ (l'.news p hp).2.2⟩, l'.nodup⟩⟩, ?_⟩ f₉ p₉ a₉ l₉
  exact Heap.UpToSlots.trans (h₂ := g') (fun b o q _ => T'.up q) e3
end
end Mine
end
section
open PySem PySem.W PyProof.Rows
set_option linter.unusedVariables false
set_option maxRecDepth 100000
namespace Mine
open PySem.Calls PySem.Spec PySem.SeqAt

/-! a list of lists that turn -/
section
variable {W : Wd} {lv : Nat} {sc : Scope} {ρ ρ' : Names}
/-- a slice that may be turned later -/
theorem ef_slice {e : Expr} {lo hi st : Option Expr} {a b c : Option Int} {sp pos : Pos} {pv : PV} {ds : List Dat} (h : EV W lv sc ρ e pv) (hi' : pv.items? = some ds) (ha : EP W lv sc ρ lo a) (hb : EP W lv sc ρ hi b) (hc : EP W lv sc ρ st c) (h0 : c ≠ some 0) (hz : ds.length ≤ 1048576) :
    EF W lv sc ρ (.Subscript e (.Slice lo hi st sp) pos) (pick ds a b c) := by
  intro A h₀ fenv L m mu fz env s Q E hA hE S hN k
  refine Subscript_ (h A h₀ fenv L m mu fz env s _ E hA hE S hN fun v fz₁ h₁ t₁ s₁ S₁ R₁ => ?_)
  refine wpAny_Slice (ep_ok ha A h₀ fenv L m mu fz₁ env _ _ E hA hE S₁ (hN.grow s₁) fun va fz₂ h₂ t₂ s₂ S₂ R₂ => ?_)
  refine ep_ok hb A h₀ fenv L m mu fz₂ env _ _ E hA hE S₂ (hN.grow (s₁.trans s₂)) fun vb fz₃ h₃ t₃ s₃ S₃ R₃ => ?_
  refine ep_ok hc A h₀ fenv L m mu fz₃ env _ _ E hA hE S₃ (hN.grow (s₁.trans (s₂.trans s₃))) fun vc fz₄ h₄ t₄ s₄ S₄ R₄ => ?_
  have S₅ := S₄.push { cls := .type "slice", data := .fields #[va, vb, vc] }
  obtain ⟨l, vs, rfl, il, ra⟩ := PRep.items S₅ (R₁.mono (Hs.sub (s₂.trans (s₃.trans (s₄.trans .cons)))) (Sub.refl _)) hi'
  obtain ⟨ops, hops⟩ := subscripted_any (.Slice lo hi st sp) (.ref l) (.ref h₄.objs.size)
  refine PyProof.Rows.tail_any il.typeIs slot_list_getitem.lookup (wpAny_getItem_list_slice il (Heap.IsSliceOf.new _ _ _ _) R₂ R₃ R₄ h0 ?_ (by rw [List.size_toArray, ra.length, sizeLine_eq]; (clear hops ra il R₁ S₅ R₄ S₄ s₄ R₃ S₃ s₃ R₂ S₂ s₂ S₁ s₁ k hN S hE hA h0 hc hb ha hi' h; lia))) hops
  refine k _ (slicePick vs.toArray a b c).toList 0 _ _ _ (s₁.trans (s₂.trans (s₃.trans (s₄.trans .cons)))) ?_ (ra.pick a b c)
  have := S₅.pushMu (PySem.W.listOf (slicePick vs.toArray a b c) 0)
  simpa [PySem.W.listOf] using this
end

/-- the lists' objects, where they stand, what they hold -/
inductive LAll (X : Fact) : Led → List Addr → List (List Dat) → Prop
  | nil : LAll X [] [] []
  | cons {a : Addr} {vs : List Value} {n : Nat} {ds : List Dat} {os : Led} {as : List Addr} {dss : List (List Dat)} : RepA X vs ds → LAll X os as dss → LAll X ((a, listOf vs.toArray n) :: os) (a :: as) (ds :: dss)
section
variable {X Y : Fact} {os : Led} {as : List Addr} {dss : List (List Dat)} {k : Nat} {a : Addr} {ds ds' : List Dat}
theorem LAll.mono (s : FSub X Y) (h : LAll X os as dss) : LAll Y os as dss := by
  induction h with
  | nil => exact .nil
  | cons r _ ih => exact .cons (r.mono s) ih
theorem LAll.len (h : LAll X os as dss) : as.length = dss.length := by
  induction h with
  | nil => rfl
  | cons _ _ ih => rw [List.length_cons, List.length_cons, ih]
theorem LAll.addrs (h : LAll X os as dss) : os.map (·.1) = as := by
  induction h with
  | nil => rfl
  | cons _ _ ih => rw [List.map_cons, ih]
theorem LAll.get (h : LAll X os as dss) (hd : dss[k]? = some ds) : ∃ a, as[k]? = some a ∧ ListAt os X a ds := by
  induction h generalizing k with
  | nil => simp at hd
  | @cons a vs n d os as dss r h ih =>
    cases k with
    | zero => simp at hd; subst hd; exact ⟨a, rfl, vs, n, .head _, r⟩
    | succ k =>
      obtain ⟨b, e, ws, q, m, r'⟩ := ih (k := k) (by simpa using hd)
      exact ⟨b, by simpa using e, ws, q, .tail _ m, r'⟩
theorem LAll.set {vs' : List Value} {n' : Nat} (s : FSub X Y) (h : LAll X os as dss) (nd : as.Nodup) (ha : as[k]? = some a) (r' : RepA Y vs' ds') : LAll Y (setL os a (listOf vs'.toArray n')) as (dss.set k ds') := by
  induction h generalizing k with
  | nil => simp at ha
  | @cons b vs n d os as dss r h ih =>
    rw [List.nodup_cons] at nd
    cases k with
    | zero =>
      simp at ha; subst ha
      have off : setL os b (listOf vs'.toArray n') = os := setL_off fun p hp e => nd.1 (by rw [← h.addrs]; exact List.mem_map.mpr ⟨p, hp, e⟩)
      show LAll Y ((if b = b then (b, listOf vs'.toArray n') else (b, listOf vs.toArray n)) :: setL os b (listOf vs'.toArray n')) _ _
      rw [if_pos rfl, off]
      exact .cons r' (h.mono s)
    | succ k =>
      have ha : as[k]? = some a := by simpa using ha
      have hne : b ≠ a := fun e => nd.1 (e ▸ List.mem_of_getElem? ha)
      show LAll Y ((if b = a then (a, listOf vs'.toArray n') else (b, listOf vs.toArray n)) :: setL os a (listOf vs'.toArray n')) _ _
      rw [if_neg hne]
      exact .cons (r.mono s) (ih nd.2 ha)
end
section
variable {W : Wd} {lv : Nat} {sc : Scope} {ρ ρ' : Names}
/-- list displays' items that may be turned -/
inductive EFs (W : Wd) (lv : Nat) (sc : Scope) (ρ : Names) : List Expr → List (List Dat) → Prop
  | nil : EFs W lv sc ρ [] []
  | cons {e : Expr} {es : List Expr} {ds : List Dat} {dss : List (List Dat)} : nStar e = true → EF W lv sc ρ e ds → EFs W lv sc ρ es dss → EFs W lv sc ρ (e :: es) (ds :: dss)
theorem efs_ok {es : List Expr} {dss : List (List Dat)} {pos : Pos} (h : EFs W lv sc ρ es dss) : ∀ (A : Around) (h₀ : Heap) (fenv : Env) (L : Addr) (m : Str → Option Value) (mu fz : Led) (env : Env) (s : Shared) (Q : List Value → Shared → Prop) (E : Value → Shared → Prop),
    AOk W lv A h₀ fenv L → EnvOk env sc → SS W h₀ L m mu fz s.heap → NamesOk W env L m mu (mu ++ fz) (Hs W.base fz) ρ →
    (∀ os as fz' h' tk', Sub fz fz' → SS W h₀ L m (os ++ mu) fz' h' → LAll (Hs W.base fz') os as dss → Q (as.map Value.ref) { s with heap := h', toks := tk' }) →
    wpAny (model W.prog W.w) A (spliced (backTo pos (starEach es env))) Q E s := by
  induction h with
  | nil =>
    intro A h₀ fenv L m mu fz env s Q E hA hE S hN k
    exact Calls.spliced_nil (k [] [] fz s.heap s.toks (Sub.refl _) S .nil)
  | cons hn h _ ih =>
    intro A h₀ fenv L m mu fz env s Q E hA hE S hN k
    rw [starEach_cons hn, backTo_cons]
    refine Calls.spliced_cons (h A h₀ fenv L m mu fz env s _ E hA hE S hN fun l vs n fz' h' t' s' S' R' => ?_)
    refine ih A h₀ fenv L m _ fz' env _ _ E hA hE S' ((hN.grow s').sup (FSub.refl _) (fun p hp => .tail _ hp) (fun p hp => .tail _ hp)) fun os as fz₂ h₂ t₂ s₂ S₂ R₂ => ?_
    exact k ((l, listOf vs.toArray n) :: os) (l :: as) fz₂ h₂ t₂ (s'.trans s₂) (S₂.perm List.perm_middle) (.cons (R'.mono (Hs.sub s₂)) R₂)
variable {h₀ h h' : Heap} {L : Addr} {m m' : Str → Option Value} {loc loc' own par fz fz' : Led} {env : Env} {ad : Str → Addr}
theorem FS.withOwns {os : Led} (x : FS W sc [] h₀ L m loc own par fz env ad ρ h) : ∀ (S : SS W h₀ L m (os ++ (loc ++ (own ++ par))) fz h'), FS W sc [] h₀ L m loc (os ++ own) par fz env ad ρ h' := by
  induction os with
  | nil => exact fun S => x.grow (Sub.refl _) S
  | cons p os ih =>
    intro S
    have y := ih (S.sublist (List.sublist_cons_self _ _))
    refine y.withOwn (S.perm (List.Perm.cons _ ?_))
    show (os ++ (loc ++ (own ++ par))).Perm (loc ++ ((os ++ own) ++ par))
    rw [List.append_assoc os]
    exact List.perm_append_comm_assoc os loc (own ++ par)
end
section
variable {W : Wd} {lv : Nat} {sc : Scope} {ρ ρ' : Names} {h₀ h h' : Heap} {L : Addr} {m m' : Str → Option Value} {loc loc' own par fz fz' : Led} {env : Env} {ad : Str → Addr}
/-- one of the frame's own lists, that no name holds, has become another -/
theorem FS.setOwn (x : FS W sc [] h₀ L m loc own par fz env ad ρ h) (hno : ∀ y ds, ρ.lookup y ≠ some (.lst ds)) {a : Addr} {vs vs' : List Value} {n n' : Nat} (hm : (a, listOf vs.toArray n) ∈ own) (sf : Sub fz fz') (S : SS W h₀ L m (setL (loc ++ (own ++ par)) a (listOf vs'.toArray n')) fz' h') :
    FS W sc [] h₀ L m loc (setL own a (listOf vs'.toArray n')) par fz' env ad ρ h' ∧ ∀ z v, Loads env L m (loc ++ ((own ++ par) ++ fz)) z v → Loads env L m (loc ++ ((setL own a (listOf vs'.toArray n') ++ par) ++ fz')) z v := by
  have nd := x.nd
  rw [List.map_append, List.nodup_append, List.map_append, List.nodup_append, List.map_append, List.nodup_append] at nd
  obtain ⟨n1, ⟨⟨n2, n3, n4⟩, n5, n6⟩, n7⟩ := nd
  have ha : a ∈ own.map (·.1) := List.mem_map.mpr ⟨_, hm, rfl⟩
  have hloc : setL loc a (listOf vs'.toArray n') = loc := setL_off fun p hp e => n7 p.1 (List.mem_map.mpr ⟨p, hp, rfl⟩) a (List.mem_append_left _ (List.mem_append_left _ ha)) e
  have hpar : setL par a (listOf vs'.toArray n') = par := setL_off fun p hp e => n4 a ha p.1 (List.mem_map.mpr ⟨p, hp, rfl⟩) e.symm
  rw [setL_append, setL_append, hloc, hpar] at S
  have lk : ∀ z v, Loads env L m (loc ++ ((own ++ par) ++ fz)) z v → Loads env L m (loc ++ ((setL own a (listOf vs'.toArray n') ++ par) ++ fz')) z v := fun z v l => l.keep fun b o hb hd => by
    rcases List.mem_append.mp hb with hb | hb
    · exact List.mem_append_left _ hb
    · refine List.mem_append_right _ ?_
      rcases List.mem_append.mp hb with hb | hb
      · refine List.mem_append_left _ ?_
        rcases List.mem_append.mp hb with hb | hb
        · refine List.mem_append_left _ (mem_setL_ne hb fun e => ?_)
          have e : b = a := e
          subst e
          have := nd_inj n2 hb hm
          subst this
          rcases hd with ⟨_, _, hd⟩ | ⟨_, hd⟩ <;> cases hd
        · exact List.mem_append_right _ hb
      · exact List.mem_append_right _ (sf _ hb)
  refine ⟨⟨S, fun y q hy => ?_, fun y ds hy => absurd hy (hno y ds), fun y z ds es hy => absurd hy (hno y ds), x.st, fun y hy => by cases hy⟩, lk⟩
  obtain ⟨a', v, l, r⟩ := x.nm y q hy
  refine ⟨a', v, lk _ _ l, ?_⟩
  cases q with
  | dat d => exact Rep.mono (Hs.sub sf) r
  | fn lf F =>
    have r' : PRep W (Hs W.base fz) [] v (.fn lf F) := r
    exact r'.mono (Hs.sub sf) (fun p hp => by cases hp)
  | lst ds => exact absurd hy (hno y ds)
/-- a frame that holds a list of lists by the name x -/
structure LS (W : Wd) (sc : Scope) (h₀ : Heap) (L : Addr) (m : Str → Option Value) (loc own par fz : Led) (env : Env) (ad : Str → Addr) (ρ : Names) (h : Heap) (x : Str) (dss : List (List Dat)) : Prop where
  fs : FS W sc [] h₀ L m loc own par fz env ad ρ h
  lay : ∃ D n as os own₀, own = (D, listOf (as.map Value.ref).toArray n) :: (os ++ own₀) ∧ LAll (Hs W.base fz) os as dss ∧ Loads env L m (loc ++ ((own ++ par) ++ fz)) x (.ref D)
noncomputable def EXD (W : Wd) (lv : Nat) (sc : Scope) (ρ : Names) (x : Str) (dss : List (List Dat)) (t : Env → Sem Flow) (d : Dat) : Prop :=
  ∀ (A : Around) (h₀ : Heap) (L : Addr) (m : Str → Option Value) (loc own par fz : Led) (env : Env) (ad : Str → Addr) (s : Shared) (Q : Flow → Shared → Prop) (E : Value → Shared → Prop),
    AOk W lv A h₀ env L → EnvOk env sc → LS W sc h₀ L m loc own par fz env ad ρ s.heap x dss →
    (∀ v m' loc' own' fz' h' tk', Sub fz fz' → SS W h₀ L m' (loc' ++ (own' ++ par)) fz' h' → Rep (Hs W.base fz') v d → Q (.ret v) { s with heap := h', toks := tk' }) →
    wpAny (model W.prog W.w) A (t env) Q E s
theorem exd_start {x : Str} {es : List Expr} {dss : List (List Dat)} {px lp pos : Pos} {rest : List Stmt} {d : Dat} (h : EFs W lv sc ρ es dss) (hx : slot sc x) (hn : ρ.lookup x = none) (hz : dss.length ≤ 1048576) (k : EXD W lv sc ρ x dss (execs rest) d)
    (hs : ∀ env, swapsWith (.List es lp) (some (.Name x px)) pos.line env = pure false := by intro _; rfl) : EXR W lv sc ρ (.Assign [.Name x px] (.List es lp) pos :: rest) d := by
  refine ⟨[], ?_⟩
  intro A h₀ L m loc own par fz env ad s Q E hA hE F c
  refine wpAny_execs_cons (wpAny_Assign_Name (wpAny_List (efs_ok h A h₀ env L m _ fz env s _ E hA hE F.ss F.full fun os as fz' h' t' s' S' R' => ⟨?_, ?_⟩)) (hs env))
  · rw [List.length_map, R'.len, sizeLine_eq]; (clear R' S' s' c F hE hA hs k hn hx h; lia)
  have S₁ := S'.pushMu (PySem.W.listOf (as.map Value.ref).toArray 0)
  have F₁ := (F.grow s' (S'.sublist (List.sublist_append_right os _))).withOwns (os := (h'.objs.size, PySem.W.listOf (as.map Value.ref).toArray 0) :: os) S₁
  refine store_ok hE F₁.ss (F₁.st x hx) fun m₂ loc₂ h₂ tk₂ S₂ st₂ => ?_
  have F₂ := F₁.aside S₂ hn (fun N y u => st₂.old N y u) st₂.sto
  refine k A h₀ L m₂ loc₂ _ par fz' env ad _ Q E hA hE ⟨F₂, _, 0, as, os, own, rfl, R', st₂.new _⟩ fun v m' loc' own' fz'' h'' tk' s'' S'' r'' => ?_
  exact c (.ret v) m' loc' own' par fz'' ad h'' tk' (s'.trans s'') ⟨{ sc with names := [] }, S'', (fun y q hy => by cases hy), (fun y q hy => by cases hy), (fun y z q q' hy => by cases hy), (fun y hy => by rcases hy with hy | hy <;> cases hy), fun y hy => by cases hy⟩ ⟨v, rfl, r''⟩ (Par.refl _ _ _) (fun _ _ => rfl) rfl
theorem exd_step {f x y : Str} {np px pos kp sp spos ip : Pos} {kd : Nat} {a : Addr} {es : List Expr} {pvs : List PV} {e : Expr} {pv : PV} {lf k : Nat} {G : List Dat → List PV → List (Str × PV) → List Dat → Prop} {dss : List (List Dat)} {ds ds' : List Dat} {rest : List Stmt} {d : Dat}
    (hno : ∀ y ds, ρ.lookup y ≠ some (.lst ds)) (hp : PlainName x) (hb : Glb W sc f a) (hc : GIns W lf a G) (hk : dss[k]? = some ds) (hk63 : dss.length < 1000) (h : EVs W lv sc ρ es pvs) (hkw : EV W lv sc ρ e pv) (hG : G ds pvs [(y, pv)] ds') (hl : lf ≤ lv) (next : EXD W lv sc ρ x (dss.set k ds') (execs rest) d)
    (hs : ∀ env, swapsWith (.Call (.Name f np) (.Subscript (.Name x px) (.Constant (.int (k : Nat)) kd ip) sp :: es) [⟨some y, e, kp⟩] pos) none spos.line env = pure false := by intro _; rfl) :
    EXD W lv sc ρ x dss (execs (.Expr (.Call (.Name f np) (.Subscript (.Name x px) (.Constant (.int (k : Nat)) kd ip) sp :: es) [⟨some y, e, kp⟩] pos) spos :: rest)) d := by
  intro A h₀ L m loc own par fz env ad s Q E hA hE ls c
  obtain ⟨F, D, n, as, os, own₀, hown, la, ld⟩ := ls
  refine wpAny_execs_cons (wpAny_Expr_any ?_ (by show (env.scope.kind == .module && _) = false; rw [hE.kind]; rfl) (hs env))
  refine wpAny_Call_ofName (eval_glob hA hE F.ss hb.sc hb.dbg hb.top ?_)
  obtain ⟨o, fd, hK, hd⟩ := hb.fn
  refine callWith_function_kw (o := o) (fd := fd) ?_
  rw [starEach_cons rfl, backTo_cons]
  obtain ⟨b, hab, ws, nb, hmb, rb⟩ := la.get hk
  have hlen := la.len
  have hD := F.ss.ofMu (List.mem_append_right loc (List.mem_append_left par (hown ▸ List.mem_cons_self)))
  have il : s.heap.IsList D (as.map Value.ref).toArray := ⟨_, hD, rfl, n, rfl⟩
  have hab' : (as.map Value.ref)[k]? = some (.ref b) := by rw [List.getElem?_map, hab]; rfl
  have hkl : k < as.length := (List.getElem?_eq_some_iff.mp hab).1
  obtain ⟨ops, hops⟩ := subscripted_any (.Constant (.int (k : Nat)) kd ip) (.ref D) (.int (k : Nat) s.toks)
  have hld : Loads env L m ((loc ++ (own ++ par)) ++ fz) x (.ref D) := by rw [List.append_assoc]; exact ld
  refine evalArgs_kw rfl (Calls.spliced_cons (Subscript_ (eval_name hE F.ss hld hp (wpAny_Constant_int (PyProof.Rows.tail_any il.typeIs slot_list_getitem.lookup (wpAny_getItem_list il (by (clear hld hops hkl hab' il hD hlen rb hmb hab hd hK ld la hown F c hE hA hs next hl hG hkw h hk63 hk hc hb hp hno; lia)) (by (clear hld hops hab' il hD rb hmb hab hd hK ld la hown F c hE hA hs next hl hG hkw h hk hc hb hp hno; lia)) (x := .ref b) (by rw [List.getElem?_toArray]; exact hab') ?_) hops)))))
  refine spliced_ok h A h₀ env L m _ fz env _ _ E hA hE F.ss F.full fun vs fz₁ h₁ t₁ s₁ S₁ R₁ => ?_
  show wpAny _ A (evalAll [do let v ← eval e env; standAt pos; pure v]) _ _ _
  have F₁ := F.grow s₁ S₁
  refine wpAny_evalAll_cons (wpAny_bind (hkw A h₀ env L m _ fz₁ env _ _ E hA hE F₁.ss F₁.full fun v fz₂ h₂ t₂ s₂ S₂ R₂ => wpAny_bind (wpAny_standAt (wpAny_pure (wpAny_evalAll_nil ?_)))))
  have F₂ := F₁.grow s₂ S₂
  refine ⟨⟨S₂.fr.keep _ _ (hA.K _ _ hK), hd⟩, ?_⟩
  have s₁₂ := s₁.trans s₂
  have hmO : (b, PySem.W.listOf ws.toArray nb) ∈ own := hown ▸ List.mem_cons_of_mem _ (List.mem_append_left _ hmb)
  refine hc A h₀ env L m _ fz₂ _ b ds vs [(y, v)] pvs [(y, pv)] ds' _ _ (hA.less hl) S₂ ⟨ws, nb, List.mem_append_right loc (List.mem_append_left par hmO), rb.mono (Hs.sub s₁₂)⟩ (R₁.mono (Hs.sub s₂) (Sub.refl _)) ⟨rfl, R₂, trivial⟩ hG fun fz₃ mu₃ h₃ t₃ s₃ S₃ T₃ => ?_
  obtain ⟨hpar, ws', n', hm', hr'⟩ := T₃
  have e3 := hpar.eqSet hm' S₃.nodupMu
  subst e3
  obtain ⟨F₃, lk⟩ := F₂.setOwn hno hmO s₃ S₃
  have ndo : (own.map (·.1)).Nodup := by
    have nd := F.ss.nodupMu
    rw [List.map_append, List.nodup_append, List.map_append, List.nodup_append] at nd
    exact nd.2.1.1
  rw [hown, List.map_cons, List.map_append, List.nodup_cons, List.nodup_append, la.addrs] at ndo
  obtain ⟨d1, d2, d3, d4⟩ := ndo
  have hbas : b ∈ as := List.mem_of_getElem? hab
  have eo : setL own b (PySem.W.listOf ws'.toArray n') = (D, PySem.W.listOf (as.map Value.ref).toArray n) :: (setL os b (PySem.W.listOf ws'.toArray n') ++ own₀) := by
    rw [hown]
    show (if D = b then _ else _) :: setL (os ++ own₀) b _ = _
    rw [if_neg (fun q => d1 (by rw [q]; exact List.mem_append_left _ hbas)), setL_append, setL_off (l := own₀) fun p hp q => d4 b hbas p.1 (List.mem_map.mpr ⟨p, hp, rfl⟩) q.symm]
  refine next A h₀ L m loc _ par fz₃ env ad _ Q E hA hE ⟨F₃, D, n, as, _, own₀, eo, la.set (Hs.sub (s₁₂.trans s₃)) d2 hab hr', lk _ _ (ld.mono fun p hp => ?_)⟩ fun v m' loc' own' fz' h' tk' s' S' r' => c v m' loc' own' fz' h' tk' (s₁₂.trans (s₃.trans s')) S' r'
  rcases List.mem_append.mp hp with hp | hp
  · exact List.mem_append_left _ hp
  · refine List.mem_append_right _ ?_
    rcases List.mem_append.mp hp with hp | hp
    · exact List.mem_append_left _ hp
    · exact List.mem_append_right _ (s₁₂ _ hp)
theorem SS.freezes {mu : Led} : ∀ {os fz : Led}, SS W h₀ L m (os ++ mu) fz h → ∃ fz', Sub (os ++ fz) fz' ∧ SS W h₀ L m mu fz' h
  | [], fz, S => ⟨fz, Sub.refl _, S⟩
  | p :: os, fz, S => by
    obtain ⟨fz', s, S'⟩ := SS.freezes (os := os) (SS.freeze S)
    refine ⟨fz', fun q hq => s q ?_, S'⟩
    rcases List.mem_append.mp hq with hq | hq
    · rcases List.mem_cons.mp hq with rfl | hq
      · exact List.mem_append_right _ (.head _)
      · exact List.mem_append_left _ hq
    · exact List.mem_append_right _ (.tail _ hq)
theorem LAll.reps {X Y : Fact} {os : Led} {as : List Addr} {dss : List (List Dat)} (h : LAll X os as dss) (s : FSub X Y) (t : ∀ p ∈ os, Y p.1 p.2) : RepA Y (as.map Value.ref) (dss.map Dat.list) := by
  induction h with
  | nil => exact .nil
  | cons r _ ih => exact .cons (.list (t _ (.head _)) rfl rfl (r.mono s)) (ih fun p hp => t p (.tail _ hp))
theorem exd_ret {x : Str} {px pos : Pos} {rest : List Stmt} {dss : List (List Dat)} (hp : PlainName x) : EXD W lv sc ρ x dss (execs (.Return (some (.Name x px)) pos :: rest)) (.list (dss.map Dat.list)) := by
  intro A h₀ L m loc own par fz env ad s Q E hA hE ls c
  obtain ⟨F, D, n, as, os, own₀, hown, la, ld⟩ := ls
  have hld : Loads env L m ((loc ++ (own ++ par)) ++ fz) x (.ref D) := by rw [List.append_assoc]; exact ld
  refine wpAny_execs_cons (wpAny_Return_some (eval_name hE F.ss hld hp ?_))
  have S := F.ss
  subst hown
  have S' : SS W h₀ L m (((D, PySem.W.listOf (as.map Value.ref).toArray n) :: os) ++ (loc ++ (own₀ ++ par))) fz s.heap := by
    refine S.perm ?_
    have e : loc ++ (((D, PySem.W.listOf (as.map Value.ref).toArray n) :: (os ++ own₀)) ++ par) = loc ++ (((D, PySem.W.listOf (as.map Value.ref).toArray n) :: os) ++ (own₀ ++ par)) := by simp
    rw [e]
    exact List.perm_append_comm_assoc _ _ _
  obtain ⟨fz', sf, S₂⟩ := S'.freezes
  have s₂ : Sub fz fz' := fun p hp => sf p (List.mem_append_right _ hp)
  exact c (.ref D) m loc own₀ fz' s.heap s.toks s₂ S₂ (.list (.inr (sf _ (.head _))) rfl rfl (la.reps (Hs.sub s₂) fun p hp => .inr (sf p (List.mem_append_left _ (.tail _ hp)))))
end
end Mine
end
section
open PySem PySem.W PyProof.Rows
set_option linter.unusedVariables false
set_option maxRecDepth 100000
namespace Mine
open PySem.Calls PySem.Spec PySem.SeqAt
section
variable {W : Wd} {lv : Nat} {sc : Scope} {ps : List Str} {ρ ρ' : Names} {ad : Str → Addr} {d : Dat}
theorem elAd_ne {v : Value} {pv : PV} {x z : Str} (hz : z ≠ x) : elAd v pv x ad z = ad z := by
  unfold elAd
  split
  · exact if_neg hz
  · rfl
/-- the list of v is none of the names', w bound to y too -/
theorem eln_step {own own' : Led} {X Y : Fact} {v w : Value} {p q : PV} {y : Str} (n : ElN ρ ad v p) (e : ElV own X v p) (f : ElV own' Y w q) (hne : ∀ l ds, q = .lst ds → w = .ref l → ∀ r ∈ own, r.1 ≠ l) : ElN ((y, q) :: ρ) (elAd w q y ad) v p := by
  cases p with
  | dat d => trivial
  | fn _ _ => trivial
  | lst ds =>
    intro z es hz
    rcases look_cons hz with ⟨rfl, e'⟩ | ⟨hn, hz⟩
    · subst e'
      obtain ⟨l₁, vs₁, k₁, rfl, a₁, _⟩ := e
      obtain ⟨l₂, vs₂, k₂, rfl, a₂, _⟩ := f
      intro q'
      have q' : l₁ = (if z = z then l₂ else ad z) := by cases q'; rfl
      rw [if_pos rfl] at q'
      exact hne l₂ es rfl rfl _ a₁ q'
    · rw [elAd_ne hn]
      exact n z es hz
/-- x, y, z = e, f, g, all of the function's own names, on one row -/
theorem ex_swap3 {x y z : Str} {px py pz : Pos} {kd kd' : Nat} {tp pos vp : Pos} {e f g : Expr} {p q r : PV} (h : EL W lv sc ρ e p) (h' : EL W lv sc ρ f q) (h'' : EL W lv sc ρ g r) (hn : nStar e = true) (hn' : nStar f = true) (hn'' : nStar g = true)
    (hx : sc.names.lookup x = some .local) (hp : PlainName x) (hy : sc.names.lookup y = some .local) (hq : PlainName y) (hz : sc.names.lookup z = some .local) (hr : PlainName z) (hxs : x ∉ ps) (hys : y ∉ ps) (hzs : z ∉ ps)
    (hs : ∀ env, swapsWithSole [.Tuple [.Name x px, .Name y py, .Name z pz] kd tp] (.Tuple [e, f, g] kd' vp) pos.line env = pure false := by intro _; rfl)
    (hw : ∀ env : Env, env.scope.kind = .function → env.kindOf x = some .local → env.kindOf y = some .local → env.kindOf z = some .local → swappedStores [.Tuple [.Name x px, .Name y py, .Name z pz] kd tp] (.Tuple [e, f, g] kd' vp) env = pure (some [x, y, z])) :
    EX1 W lv sc ps ρ (.Assign [.Tuple [.Name x px, .Name y py, .Name z pz] kd tp] (.Tuple [e, f, g] kd' vp) pos) (.next ((x, p) :: (y, q) :: (z, r) :: ρ)) := by
  intro A h₀ L m loc own par fz env ad s Q E hA hE F c
  refine Assign_Tuple_swapped (names := [x, y, z]) (wpAny_Tuple ?_) (hs env) (hw env hE.kind (hE.lc x hx) (hE.lc y hy) (hE.lc z hz))
  rw [starEach_cons hn, backTo_cons, starEach_cons hn', backTo_cons, starEach_cons hn'', backTo_cons]
  refine Calls.spliced_cons (el_ok h hA hE F fun v own₁ fz₁ h₁ t₁ s₁ u₁ F₁ e₁ n₁ _ => ?_)
  refine Calls.spliced_cons (el_ok h' hA hE F₁ fun w own₂ fz₂ h₂ t₂ s₂ u₂ F₂ e₂ n₂ d₂ => ?_)
  refine Calls.spliced_cons (el_ok h'' hA hE F₂ fun u own₃ fz₃ h₃ t₃ s₃ u₃ F₃ e₃ n₃ d₃ => ?_)
  refine Calls.spliced_nil ⟨by rw [sizeLine_eq]; simp, ?_⟩
  have S₄ := F₃.ss.push { cls := .type "tuple", data := .seq [v, w, u].toArray }
  have F₄ := F₃.grow .cons S₄
  refine wpAny_unpackItems_tuple (items := [v, w, u].toArray) hA.hh ⟨_, Heap.get?_push_size _ rfl, rfl, _, rfl⟩ fun h₅ k₅ => ?_
  have F₅ := F₄.grow (Sub.refl _) (S₄.grown fun b o e => k₅ b o (Nat.ne_of_lt (Heap.lt_size e)) e)
  show wpAny _ A (assignInOrder [bindName env z, bindName env y, bindName env x] [u, w, v]) _ _ _
  have e₁' := e₁.mono (Hs.sub (s₂.trans s₃)) (u₂.trans u₃)
  have e₂' := e₂.mono (Hs.sub s₃) u₃
  refine wpAny_bind (wpAny_holding (wpAny_bindName (el_store hE F₅ (e₃.mono (Hs.sub .cons) (Sub.refl _)) n₃ (.inl hz) hr hzs fun m₆ loc₆ h₆ tk₆ F₆ => ?_)))
  have n₂' : ElN ((z, r) :: ρ) (elAd u r z ad) w q := eln_step n₂ e₂ e₃ d₃
  have n₁' : ElN ((z, r) :: ρ) (elAd u r z ad) v p := eln_step n₁ e₁ e₃ fun l ds a b t ht => d₃ l ds a b t (u₂ _ ht)
  refine wpAny_bind (wpAny_holding (wpAny_bindName (el_store hE F₆ (e₂'.mono (Hs.sub .cons) (Sub.refl _)) n₂' (.inl hy) hq hys fun m₇ loc₇ h₇ tk₇ F₇ => ?_)))
  have n₁'' := eln_step (y := y) n₁' e₁ e₂ d₂
  refine wpAny_bind (wpAny_holding (wpAny_bindName (el_store hE F₇ (e₁'.mono (Hs.sub .cons) (Sub.refl _)) n₁'' (.inl hx) hp hxs fun m₈ loc₈ h₈ tk₈ F₈ => ?_)))
  refine wpAny_pure (c _ m₈ loc₈ own₃ par _ _ h₈ tk₈ (s₁.trans (s₂.trans (s₃.trans .cons))) F₈ rfl (Par.refl _ _ _) (fun t ht => ?_) rfl)
  rw [elAd_ne fun e : t = x => hxs (e ▸ ht), elAd_ne fun e : t = y => hys (e ▸ ht), elAd_ne fun e : t = z => hzs (e ▸ ht)]
/-- if x or f(..) != e: .., f one that meets exceptions: here it does not leave -/
theorem exl_if_or_call {x e : Expr} {f : Str} {np cpos p2 p3 pos : Pos} {a : Addr} {es : List Expr} {pvs : List PV} {lf : Nat} {G : List PV → List (Str × PV) → Dat → Prop} {d' : Dat} {body rest : List Stmt} (hx : ET W lv sc ρ x false) (hb : Glb W sc f a) (hc : GEsc W lf a G) (h : EVs W lv sc ρ es pvs) (hG : G pvs [] d') (hl : lf ≤ lv) (he : EV W lv sc ρ e (.dat d')) (hd : deqn 8 d' d' = some true)
    (k : EXL W lv sc ρ (execs rest) d) (hm : behindInMarks .NotEq e = false := by with_unfolding_all rfl) : EXL W lv sc ρ (execs (.If (.BoolOp .Or [x, .Compare (.Call (.Name f np) es [] cpos) [.NotEq] [e] p2] p3) body [] pos :: rest)) d := by
  intro A L m loc own par fz env ad s Q E hA hE F c
  refine wpAny_execs_cons (wpAny_If (wpAny_isTrue_BoolOp ?_))
  refine wpAny_allTrue_Or_cons (hx A _ env L m _ fz env s _ E hA hE F.ss F.full fun fz₁ h₁ t₁ s₁ S₁ => ?_)
  have F₁ := F.grow s₁ S₁
  refine wpAny_allTrue_Or_cons (wpAny_isTrue_Compare1 ?_ hm)
  refine wpAny_Call_ofName (eval_glob hA hE F₁.ss hb.sc hb.dbg hb.top ?_)
  obtain ⟨ob, fd, ho, hfd⟩ := hb.fn
  refine Calls.callWith_function (o := ob) (fd := fd) (evalArgs_ok h A _ env L m _ fz₁ env _ _ E hA hE F₁.ss F₁.full fun vs fz₂ h₂ t₂ s₂ S₂ R₂ => ?_)
  refine ⟨⟨S₂.has (.inl (W.kb _ _ ho)), hfd⟩, ?_⟩
  refine hc A env L m _ fz₂ _ vs [] pvs [] d' _ _ (hA.less hl) S₂ R₂ trivial hG fun v fz₃ h₃ t₃ s₃ S₃ R₃ => ?_
  have F₃ := F₁.grow (s₂.trans s₃) S₃
  refine he A _ env L m _ fz₃ env _ _ E hA hE F₃.ss F₃.full fun w fz₄ h₄ t₄ s₄ S₄ R₄ => ?_
  refine op_ne (W := W) (lv := lv) hd A _ env L m _ fz₄ _ [v, w] _ _ hA S₄ (.cons (Rep.mono (Hs.sub s₄) R₃) (.cons R₄ .nil)) fun b fz₅ h₅ t₅ s₅ S₅ R₅ => ?_
  cases R₅
  have F₅ := F₃.grow (s₄.trans s₅) S₅
  refine wpAny_truthy_bool (wpAny_allTrue_Or_nil (wpAny_execs_nil ?_))
  exact k A L m loc own par fz₅ env ad _ Q E hA hE F₅ fun v' m' loc' own' fz' h' tk' s' => c v' m' loc' own' fz' h' tk' (s₁.trans (s₂.trans (s₃.trans (s₄.trans (s₅.trans s')))))
end
end Mine
end
section
open PySem PySem.W PyProof.Rows
set_option linter.unusedVariables false
set_option maxRecDepth 100000
namespace Mine
open PySem.Calls PySem.Spec PySem.SeqAt
/-- the outermost frame, as the head leaves it -/
theorem enter_top {W : Wd} {scope sc : Scope} {ρ : Names} {qual : Str} {L fa : Addr} {cdv : Value} {h₁ : Heap} {binds : List (Str × Value)} {cells tl : Led}
    (B : Below callerA W.base [] W.base) (F' : Fr W.base L h₁ (bindL (envOfC qual scope L fa cdv).kindOf binds fun _ => none)) (N' : News W.base L h₁ (cells ++ tl)) (CA : CellsAre (bindC (envOfC qual scope L fa cdv).kindOf binds fun _ => none) (cellsFrom (L + 1) scope.names []) cells)
    (hg : W.Gl tl (Hs W.base [])) (ndt : (tl.map (·.1)).Nodup) (hlt : ∀ p ∈ tl, p.1 < L)
    (hsc : scC scope = true) (hin : (binds.all fun y => scope.names.lookup y.1 == some .local || scope.names.lookup y.1 == some .cell) = true) (hbn : (binds.map (·.1)).Nodup)
    (hB : BindR W (Hs W.base []) [] [] (fun _ => 0) binds ρ) (hns : sc.names = scope.names) (hcc : ∀ c, sc.more.lookup ("@code" : Str) = some (.int c) → cdv = .ref c.toNat) (hqq : ∀ q, sc.more.lookup ("@qual" : Str) = some (.str q) → qual ++ ".<locals>." = q) :
    AOk W 200 (callerA.deeper (envOfC qual scope L fa cdv)) W.base (envOfC qual scope L fa cdv) L ∧ EnvOk (envOfC qual scope L fa cdv) sc ∧
      FS W sc [] W.base L (bindL (envOfC qual scope L fa cdv).kindOf binds fun _ => none) cells [] [] [] (envOfC qual scope L fa cdv) (fun _ => 0) ρ h₁ := by
  simp only [scC, Bool.and_eq_true, beq_iff_eq, List.all_eq_true, Bool.or_eq_true] at hsc
  obtain ⟨hkind, hall⟩ := hsc
  have A' : AOk W 200 (callerA.deeper (envOfC qual scope L fa cdv)) W.base (envOfC qual scope L fa cdv) L := by
    refine ⟨rfl, ⟨[], callerA, rfl, B⟩, rfl, hkind, ?_, ?_, W.kb, W.tb⟩
    · show 1 + claimMargin + 1 + 200 < recursionLimit
      decide
    · show 4 + 3 + (16 * 200 + 64) < cLine
      decide
  obtain ⟨ca1, ca2⟩ := cellsFrom_addr scope.names (L + 1) [] (L + 1) (Nat.le_refl _) (fun _ h => by cases h) List.nodup_nil
  have cfst := cellsAre_fst CA
  have clt : ∀ p ∈ cells, L + 1 ≤ p.1 := fun p hp => by
    have : p.1 ∈ cells.map (·.1) := List.mem_map.mpr ⟨p, hp, rfl⟩
    rw [cfst] at this
    obtain ⟨q, hq, e⟩ := List.mem_map.mp this
    rw [← e]; exact ca1 q hq
  have S' : SS W W.base L (bindL (envOfC qual scope L fa cdv).kindOf binds fun _ => none) (cells ++ ([] ++ [])) [] h₁ := by
    refine ⟨F', ⟨tl, hg, ?_⟩, fun b o e => e⟩
    have l1 : Ld W.base L h₁ (cells ++ tl) := by
      refine ⟨N', ?_⟩
      rw [List.map_append, List.nodup_append]
      refine ⟨by rw [cfst]; exact ca2, ndt, fun a ha b hb e => ?_⟩
      obtain ⟨p, hp, rfl⟩ := List.mem_map.mp ha
      obtain ⟨q, hq, rfl⟩ := List.mem_map.mp hb
      have h1 := clt p hp
      have h2 := hlt q hq
      rw [e] at h1
      exact absurd (Nat.lt_trans h2 (Nat.lt_succ_self _)) (Nat.not_lt.mpr h1)
    refine l1.perm ?_
    rw [List.append_nil, List.append_nil, List.append_nil]
    exact List.perm_append_comm
  have hkn : ∀ y, (envOfC qual scope L fa cdv).kindOf y = scope.names.lookup y := fun y => rfl
  have cellAt : ∀ x, scope.names.lookup x = some .cell → ∃ c o, (cellsFrom (L + 1) scope.names []).lookup x = some c ∧ (c, o) ∈ cells ∧ o.data = .cell (bindC (envOfC qual scope L fa cdv).kindOf binds (fun _ => none) x) := by
    intro x hx
    obtain ⟨c, hc⟩ := Option.isSome_iff_exists.mp (cellsFrom_some (x := x) scope.names (L + 1) [] (.inl hx))
    obtain ⟨o, a, b⟩ := cellsAre_at CA hc
    exact ⟨c, o, hc, a, b⟩
  have loads : ∀ x v, binds.lookup x = some v → Loads (envOfC qual scope L fa cdv) L (bindL (envOfC qual scope L fa cdv).kindOf binds fun _ => none) (cells ++ (([] ++ []) ++ [])) x v := by
    intro x v hx
    have hm := List.all_eq_true.mp hin (x, v) (PySem.mem_of_lookup hx)
    simp only [Bool.or_eq_true, beq_iff_eq] at hm
    rcases hm with hm | hm
    · exact .here rfl hm (bindL_at hm hbn hx)
    · obtain ⟨c, o, a, b, d⟩ := cellAt x hm
      rw [bindC_at (by rw [hkn, hm]; decide) hbn hx] at d
      exact .cell (.inl hm) a (List.mem_append_left _ b) d
  have E' : EnvOk (envOfC qual scope L fa cdv) sc := by
    refine ⟨hkind, rfl, rfl, fun n hn => by rw [hns] at hn; exact hn, fun n kd hn hk => ?_, fun x y c hx hy => ?_, fun c hc => hcc c hc, fun q hq => hqq q hq, fun n hn => by rw [hns] at hn; exact hn⟩
    · rw [hns] at hn
      have h1 := hall _ (PySem.mem_of_lookup hn)
      rcases hk with rfl | rfl
      · obtain ⟨c, o, a, _⟩ := cellAt n hn
        exact ⟨.inl hn, by show (List.lookup n (cellsFrom _ _ _)).isSome = true; rw [a]; rfl⟩
      · obtain ⟨_, h1⟩ := h1
        rcases h1 with (h1 | h1) | h1 <;> cases h1
    · exact cellsFrom_inj scope.names (L + 1) [] (fun _ _ h => by cases h) (fun _ _ _ h => by cases h) x y c hx hy
  refine ⟨A', E', S', fun x pv hx => ?_, fun x ds hx => ?_, fun x y ds es hx hy e => ?_, fun x hx => ?_, fun x hx => by cases hx⟩
  · obtain ⟨hp, v, hv, r, _⟩ := hB x pv hx
    exact ⟨hp, v, loads x v hv, r⟩
  · obtain ⟨hp, v, hv, r, hl⟩ := hB x _ hx
    obtain ⟨h1, _⟩ := hl ds rfl
    cases h1
  · obtain ⟨_, _, _, _, h1⟩ := hB x _ hx
    cases (h1 _ rfl).1
  · rw [hns] at hx
    rcases hx with hx | hx
    · exact .inl ⟨hx, .inl rfl⟩
    · obtain ⟨c, o, a, b, d⟩ := cellAt x hx
      exact .inr ⟨hx, c, o, _, a, b, d⟩
/-- the tables, as they are at the end -/
theorem grown_of {tabs : List (Addr × Addr × Str)} {gl : Led} {X : Fact} {h : Heap} (g : GlT tabs gl X) (hk : ∀ p ∈ gl, h.get? p.1 = some p.2) : ∀ t ∈ tabs, ∃ ps : Array Value, h.get? t.2.1 = some (tabObj ps) ∧ TriplesOk ps.toList := fun t ht => by
  obtain ⟨ps, a, b, _⟩ := g.2 t ht
  exact ⟨ps, hk _ a, b⟩
end Mine
end
section
open PySem PySem.W PyProof.Rows
set_option linter.unusedVariables false
set_option maxRecDepth 100000
namespace Mine
open PySem.Calls PySem.Spec PySem.SeqAt
local macro_rules | `(tactic| walk_at "nm") => `(tactic| first | exact ⟨rfl, rfl⟩ | exact ⟨by decide, by decide⟩)
local macro_rules | `(tactic| walk_at "slot") => `(tactic| first | exact .inl rfl | exact .inr rfl)
local macro_rules | `(tactic| walk_at "sub") => `(tactic| repeat (first | exact trivial | refine ⟨rfl, ?_⟩))
local macro_rules | `(tactic| walk_at "boot") => `(tactic| exact boot (by assumption) (by rfl) (by rfl) (by decide) (by rfl) (by rfl))
local macro_rules | `(tactic| walk_at "glb") => `(tactic| exact glb (by assumption) (by rfl) (by rfl) (by rfl) ⟨_, _, rfl, rfl⟩)
local macro_rules | `(tactic| walk_at "op") => `(tactic| first | exact op_add | exact op_sub | exact op_lt | exact op_le | exact op_gt | exact op_ge | exact op_eqi | exact op_nei | exact op_neg | exact op_and | exact op_or | exact op_xor | exact op_mod (by decide) | skip)
local macro_rules | `(tactic| walk_at "ev1") => `(tactic| first | exact ev_name rfl | exact ev_int | exact ev_bytes | exact ev_bool | exact ev_none | exact ev_str | apply ev_bin | apply ev_cmp | apply ev_un | exact op_add | exact op_sub | exact op_lt | exact op_le | exact op_gt | exact op_ge | exact op_eqi | exact op_nei | exact op_neg | exact op_and | exact op_or | exact op_xor | exact op_mod (by decide))
local macro_rules | `(tactic| walk_at "evs") => `(tactic| repeat' (walk_at "ev1"))
local macro_rules | `(tactic| walk_at "ev") => `(tactic| (walk_at "evs"; done))
local macro_rules | `(tactic| walk_at "side") => `(tactic| first | exact ⟨by rfl, by walk_at "subf", by rfl, tgtOk1 (by walk_at "slot") (by walk_at "nm"), dis1 (by rfl), fun _ _ => rfl⟩ | exact ⟨by rfl, by walk_at "subf", by rfl, tgtOk2 (by walk_at "slot") (by walk_at "nm") (by walk_at "slot") (by walk_at "nm"), dis1 (by rfl), fun _ _ => rfl⟩ | exact ⟨by rfl, by walk_at "subf", by rfl, tgtOkT (by walk_at "slot") (by walk_at "nm") (by walk_at "slot") (by walk_at "nm"), disT (by rfl) (by rfl), fun _ _ => rfl⟩)
local macro_rules | `(tactic| walk_at "subf") => `(tactic| repeat (first | exact trivial | refine ⟨⟨rfl, rfl⟩, ?_⟩))

noncomputable def tabs : List (Addr × Addr × Str) := [(77, 73, "_digits2int.<locals>.inner"), (70, 66, "_int2digits.<locals>.inner"), (141, 139, "law.<locals>.<lambda>")]
structure WL (W : Wd) (P : Params) : Prop where
  K : W.K = Mine.hd.heap_39 P
  gl : W.Gl = GlT tabs
  c1 : CodeHd W.base 77 73
  c2 : CodeHd W.base 70 66
  c3 : CodeHd W.base 141 139
theorem boot {W : Wd} {P : Params} {sc : Scope} {x : Str} {v : Value} (hW : WL W P) (a : sc.names.lookup x = some .globalImplicit) (b : (x == ("__debug__" : Str)) = false) (c : x ≠ "__name__") (d : nsIn (Mine.hd.heap_39 P) mainGlobals x = some none) (e : bootBuiltins x = some v) : Boot W sc x v := ⟨a, b, c, by rw [hW.K]; exact d, e⟩
theorem glb {W : Wd} {P : Params} {sc : Scope} {x : Str} {f : Addr} (hW : WL W P) (a : sc.names.lookup x = some .globalImplicit) (b : (x == ("__debug__" : Str)) = false) (d : nsIn (Mine.hd.heap_39 P) mainGlobals x = some (some (.ref f))) (e : ∃ o fd, (Mine.hd.heap_39 P).lookup f = some o ∧ o.data = .func fd) : Glb W sc x f := ⟨a, b, by rw [hW.K]; exact d, by rw [hW.K]; exact e⟩
/-- an int of the top -/
theorem ev_gint {W : Wd} {lv : Nat} {sc : Scope} {ρ : Names} {x : Str} {pos : Pos} {i : Int} {t : Tok} (hx : sc.names.lookup x = some .globalImplicit) (hp : (x == ("__debug__" : Str)) = false) (e : nsIn W.K mainGlobals x = some (some (.int i t))) : EV W lv sc ρ (.Name x pos) (.dat (.int i)) := by
  intro A h₀ fenv L m mu fz env s Q E hA hE S hN k
  exact eval_glob hA hE S hx hp e (k _ fz s.heap s.toks (Sub.refl _) S (.int i t))
end Mine
end
section
open PySem PySem.W PyProof.Rows
set_option linter.unusedVariables false
set_option maxRecDepth 100000
namespace Mine
open PySem.Calls PySem.Spec PySem.SeqAt
local macro_rules | `(tactic| walk_at "nm") => `(tactic| first | exact ⟨rfl, rfl⟩ | exact ⟨by decide, by decide⟩)
local macro_rules | `(tactic| walk_at "slot") => `(tactic| first | exact .inl rfl | exact .inr rfl)
local macro_rules | `(tactic| walk_at "sub") => `(tactic| repeat (first | exact trivial | refine ⟨rfl, ?_⟩))
local macro_rules | `(tactic| walk_at "boot") => `(tactic| exact boot (by assumption) (by rfl) (by rfl) (by decide) (by rfl) (by rfl))
local macro_rules | `(tactic| walk_at "glb") => `(tactic| exact glb (by assumption) (by rfl) (by rfl) (by rfl) ⟨_, _, rfl, rfl⟩)
local macro_rules | `(tactic| walk_at "op") => `(tactic| first | exact op_add | exact op_sub | exact op_lt | exact op_le | exact op_gt | exact op_ge | exact op_eqi | exact op_nei | exact op_neg | exact op_and | exact op_or | exact op_xor | exact op_mod (by decide) | skip)
local macro_rules | `(tactic| walk_at "ev1") => `(tactic| first | exact ev_name rfl | exact ev_int | exact ev_bytes | exact ev_bool | exact ev_none | exact ev_str | apply ev_bin | apply ev_cmp | apply ev_un | exact op_add | exact op_sub | exact op_lt | exact op_le | exact op_gt | exact op_ge | exact op_eqi | exact op_nei | exact op_neg | exact op_and | exact op_or | exact op_xor | exact op_mod (by decide))
local macro_rules | `(tactic| walk_at "evs") => `(tactic| repeat' (walk_at "ev1"))
local macro_rules | `(tactic| walk_at "ev") => `(tactic| (walk_at "evs"; done))
local macro_rules | `(tactic| walk_at "side") => `(tactic| first | exact ⟨by rfl, by walk_at "subf", by rfl, tgtOk1 (by walk_at "slot") (by walk_at "nm"), dis1 (by rfl), fun _ _ => rfl⟩ | exact ⟨by rfl, by walk_at "subf", by rfl, tgtOk2 (by walk_at "slot") (by walk_at "nm") (by walk_at "slot") (by walk_at "nm"), dis1 (by rfl), fun _ _ => rfl⟩ | exact ⟨by rfl, by walk_at "subf", by rfl, tgtOkT (by walk_at "slot") (by walk_at "nm") (by walk_at "slot") (by walk_at "nm"), disT (by rfl) (by rfl), fun _ _ => rfl⟩)
local macro_rules | `(tactic| walk_at "subf") => `(tactic| repeat (first | exact trivial | refine ⟨⟨rfl, rfl⟩, ?_⟩))
section
noncomputable def apF : Nat → Nat → List UInt8 → List UInt8
  | 0, _, acc => acc
  | f + 1, n, acc => if n = 0 then acc else apF f (n / 16) (UInt8.ofNat (65 + n % 16) :: acc)
theorem apF_len : ∀ (f n : Nat) (acc : List UInt8), (apF f n acc).length ≤ f + acc.length
  | 0, _, _ => by simp [apF]
  | f + 1, n, acc => by
    unfold apF
    split
    · lia
    · have := apF_len f (n / 16) (UInt8.ofNat (65 + n % 16) :: acc); rw [List.length_cons] at this; lia
noncomputable def apL : List UInt8 := [65, 66, 67, 68, 69, 70, 71, 72, 73, 74, 75, 76, 77, 78, 79, 80]
theorem ap_pick : ∀ k : Fin 16, KBy.picked apL.toArray (some (k.val : Int)) (some ((k.val : Int) + 1)) = [UInt8.ofNat (65 + k.val)].toArray := by decide +kernel
theorem c_Int2AP (W : Wd) (P : Params) (hW : WL W P) : GCall W 2 99 (fun ps kps d => ∃ i : Int, ps = [.dat (.int i)] ∧ kps = [] ∧ i.natAbs < 16 ^ 1000 ∧ d = .bytes (apF 1000 i.natAbs []).toArray) := by
  intro A h₀ fenv L m mu fz s vs kvs ps kps d Q E hA S hps hkps hG k
  obtain ⟨i, rfl, rfl, hi, rfl⟩ := hG
  obtain ⟨v, rfl, hv⟩ := PRepA.i1 hps
  cases KRepA.i0 hkps
  refine call_K0 (f := 99) (lv := 1) (by rw [hW.K]; rfl) (by rw [hW.K]; rfl) (by rfl) (by decide) hA S (binds := [("num", v)]) (nsb := ["num"]) (ρ := [("num", .dat (.int i))]) (BindsTo.of_eq rfl) (by rfl) (by rfl) (by decide) (.dat (by walk_at "nm") rfl hv .nil) rfl (fun c hc => by cases hc) (fun c hc => by cases hc) ?_ Q k
  refine exr_seq (ex_assign ev_bytes (by walk_at "slot") (by walk_at "nm")) ?_
  refine exr_seq (ex_assign ev_bytes (by walk_at "slot") (by walk_at "nm")) ?_
  refine exr_seq (ex_assign (ev_tcall (T := "int") (ds := [.int i.natAbs]) (by walk_at "boot") (.one (ev_bcall (id := "abs") (ds := [.int i]) (by walk_at "boot") (.one (by walk_at "ev")) op_abs)) op_int_int) (by walk_at "slot") (by walk_at "nm")) ?_
  refine exr_seq (ρ' := [("num", .dat (.int (0 : Nat))), ("val", .dat (.bytes (apF 1000 i.natAbs []).toArray)), ("AP", .dat (.bytes apL.toArray))]) (EX.from (ρ' := [("num", .dat (.int i.natAbs)), ("val", .dat (.bytes ([] : List UInt8).toArray)), ("AP", .dat (.bytes apL.toArray))]) (ex_while_ex ?_) (by walk_at "sub")) (exr_ret (by walk_at "ev"))
  have hz : 1000 + ([] : List UInt8).length ≤ 1048000 := by simp
  clear hv hps
  revert hi hz
  generalize i.natAbs = n
  generalize ([] : List UInt8) = acc
  generalize 1000 = f
  clear k
  intro hn hz
  induction f generalizing n acc with
  | zero =>
    have : n = 0 := by simpa using hn
    subst this
    exact ⟨0, .done (et_val (ev_name rfl) rfl)⟩
  | succ f ih =>
    by_cases h0 : n = 0
    · subst h0
      exact ⟨0, .done (et_val (ev_name rfl) rfl)⟩
    · have hdiv : n / 16 < 16 ^ f := by
        rw [Nat.pow_succ] at hn
        exact Nat.div_lt_of_lt_mul (by (clear h0 hz ih hkps S hA hW; lia))
      obtain ⟨k, hk⟩ := ih (n / 16) (UInt8.ofNat (65 + n % 16) :: acc) hdiv (by rw [List.length_cons]; (clear hdiv h0 hn ih hkps S hA hW; lia))
      refine ⟨k + 1, .turn (ρ' := [("num", .dat (.int (n / 16 : Nat))), ("val", .dat (.bytes (UInt8.ofNat (65 + n % 16) :: acc).toArray)), ("AP", .dat (.bytes apL.toArray))]) (et_val (ev_name rfl) (by simp [truthD, h0])) ?_ (by unfold apF; rw [if_neg h0]; exact hk)⟩
      have h16 : (n : Int).fdiv 16 = ((n / 16 : Nat) : Int) ∧ (n : Int).fmod 16 = ((n % 16 : Nat) : Int) := by
        constructor
        · rw [Int.fdiv_eq_ediv_of_nonneg _ (by decide)]; rfl
        · rw [Int.fmod_eq_emod_of_nonneg _ (by decide)]; rfl
      refine EX.to (ex_seq (ex_unpack (a := .int (n / 16 : Nat)) (b := .int (n % 16 : Nat)) ((ev_bcall (id := "divmod") (ds := [.int n, .int 16]) (by walk_at "boot") (.two (by walk_at "ev") (by walk_at "ev")) (op_divmod (by decide) (PyProof.noPylong_small (by decide)))).cast (by rw [h16.1, h16.2])) (by walk_at "slot") (by walk_at "nm") (by walk_at "slot") (by walk_at "nm"))
        (ex_seq (ex_assign (d := .bytes (UInt8.ofNat (65 + n % 16) :: acc).toArray) ((ev_bin (ev_bslice (a := some ((n % 16 : Nat) : Int)) (b := some (((n % 16 : Nat) : Int) + 1)) (ev_name rfl) (.some (by walk_at "ev")) (.some (by walk_at "ev")) (by decide)) (ev_name rfl) (op_add_bytes ?_)).cast ?_) (by walk_at "slot") (by walk_at "nm")) ex_nil)) (by walk_at "sub")
      · rw [ap_pick ⟨n % 16, Nat.mod_lt _ (by decide)⟩]; simp; (clear h16 hk hdiv h0 hn ih hkps S hA hW; lia)
      · rw [ap_pick ⟨n % 16, Nat.mod_lt _ (by decide)⟩]; simp
end
section
theorem c_div2n1n (W : Wd) (P : Params) (hW : WL W P) : GCall W 2 57 (fun ps kps d => ∃ (a b : Int) (n : Nat), ps = [.dat (.int a), .dat (.int b), .dat (.int n)] ∧ kps = [] ∧ Builtin.Int.intBits a ≤ 4000 ∧ b ≠ 0 ∧ b.natAbs.log2 < 9000 ∧ d = .tuple [.int (a.fdiv b), .int (a.fmod b)]) := by
  intro A h₀ fenv L m mu fz s vs kvs ps kps d Q E hA S hps hkps hG k
  obtain ⟨a, b, n, rfl, rfl, ha, hb, hlog, rfl⟩ := hG
  obtain ⟨v, w, u, rfl, hv, hw, hu⟩ := PRepA.i3 hps
  cases KRepA.i0 hkps
  refine call_K0 (f := 57) (lv := 1) (by rw [hW.K]; rfl) (by rw [hW.K]; rfl) (by rfl) (by decide) hA S (binds := [("a", v), ("b", w), ("n", u)]) (nsb := ["a", "b", "n"]) (ρ := [("a", .dat (.int a)), ("b", .dat (.int b)), ("n", .dat (.int n))]) (BindsTo.of_eq rfl) (by rfl) (by rfl) (by decide)
    (.dat (by walk_at "nm") rfl hv (.dat (by walk_at "nm") rfl hw (.dat (by walk_at "nm") rfl hu .nil))) rfl (fun c hc => by cases hc) (fun c hc => by cases hc) ?_ Q k
  refine exr_if (b := true) ((et_cmp (ev_bin (ev_bitlen (ev_name rfl)) (ev_name rfl) op_sub) (ev_gint (i := 4000) (t := 245) (by rfl) (by rfl) (by rw [hW.K]; rfl)) op_le).cast ?_) (fun _ => ?_) (fun e => by cases e)
  · exact decide_eq_true (by (clear hkps hu hw hv hps k hlog hb S hA hW; lia))
  · exact exr_ret (ev_bcall (id := "divmod") (ds := [.int a, .int b]) (by walk_at "boot") (.two (by walk_at "ev") (by walk_at "ev")) (op_divmod hb (PyProof.noPylong_of_log2 hlog)))
end
section
/-- digits to a number, the lowest first -/
noncomputable def d2i (n : Nat) : List Int → Int
  | [] => 0
  | x :: r => x + 2 ^ n * d2i n r
theorem d2i_append (n : Nat) : ∀ (a b : List Int), d2i n (a ++ b) = d2i n a + 2 ^ (n * a.length) * d2i n b
  | [], b => by simp [d2i]
  | x :: a, b => by
    rw [List.cons_append, d2i, d2i, d2i_append n a b, List.length_cons, Nat.mul_succ, Int.pow_add, Int.mul_add]
    rw [Int.add_assoc, Int.mul_comm (2 ^ (n * a.length)) (2 ^ n), Int.mul_assoc]
theorem d2i_bound (n : Nat) : ∀ (a : List Int), (∀ x ∈ a, 0 ≤ x ∧ x < 2 ^ n) → 0 ≤ d2i n a ∧ d2i n a < 2 ^ (n * a.length)
  | [], _ => by simp [d2i]
  | x :: a, h => by
    obtain ⟨h1, h2⟩ := d2i_bound n a fun y hy => h y (.tail _ hy)
    obtain ⟨h3, h4⟩ := h x (.head _)
    have hp : (0 : Int) < 2 ^ n := Int.pow_pos (by decide)
    rw [d2i, List.length_cons, Nat.mul_succ, Int.pow_add]
    have e1 : 0 ≤ 2 ^ n * d2i n a := Int.mul_nonneg (Int.le_of_lt hp) h1
    refine ⟨by (clear hp h4 h2 h1 h; lia), ?_⟩
    have e2 : 2 ^ n * (d2i n a + 1) ≤ 2 ^ n * 2 ^ (n * a.length) := Int.mul_le_mul_of_nonneg_left (by (clear e1 hp h4 h3 h1 h; lia)) (Int.le_of_lt hp)
    rw [Int.mul_add, Int.mul_one] at e2
    rw [Int.mul_comm (2 ^ (n * a.length)) (2 ^ n)]
    (clear e1 hp h3 h2 h1 h; lia)
noncomputable def segF (n : Nat) (xs : List Int) (m : Nat) : List Dat → Option Dat
  | [.int L, .int R] => if 0 ≤ L ∧ L < R ∧ R ≤ xs.length ∧ R - L ≤ m + 1 then some (.int (d2i n ((xs.drop L.toNat).take (R - L).toNat))) else none
  | _ => none
theorem c_d2i (W : Wd) (P : Params) (hW : WL W P) : GCall W 110 78 (fun ps kps d => ∃ (xs : List Int) (n : Nat), ps = [.dat (.list (xs.map .int)), .dat (.int n)] ∧ kps = [] ∧ n ≤ 64 ∧ xs.length ≤ 100 ∧ (∀ x ∈ xs, 0 ≤ x ∧ x < 2 ^ n) ∧ d = .int (d2i n xs)) := by
  intro A h₀ fenv L m mu fz s vs kvs ps kps d Q E hA S hps hkps hG k
  obtain ⟨xs, n, rfl, rfl, hn, hl, hxs, rfl⟩ := hG
  obtain ⟨v, w, rfl, hv, hw⟩ := PRepA.i2 hps
  cases KRepA.i0 hkps
  refine call_K0 (f := 78) (lv := 109) (sc := { kind := .function, names := [("digits", .cell), ("n", .cell), ("inner", .cell), ("len", .globalImplicit)], isGenerator := false, isCoroutine := false, more := [("@code", .int 77), ("@qual", .str "_digits2int.<locals>.")] }) (by rw [hW.K]; rfl) (by rw [hW.K]; rfl) (by rfl) (by decide) hA S (binds := [("digits", v), ("n", w)]) (nsb := ["digits", "n"]) (ρ := [("digits", .dat (.list (xs.map .int))), ("n", .dat (.int n))]) (BindsTo.of_eq rfl) (by rfl) (by rfl) (by decide) (.dat (by walk_at "nm") rfl hv (.dat (by walk_at "nm") rfl hw .nil)) (by rfl) (fun c hc => by cases hc; rfl) (fun c hc => by cases hc; rfl) ?_ Q k
  refine exr_def (t := (77, 73, "_digits2int.<locals>.inner")) (q := "_digits2int.<locals>.") (ρ₁ := [("digits", .dat (.list (xs.map .int))), ("n", .dat (.int n))]) (pn := ["L", "R"]) (F := segF n xs) (N := 100)
    ⟨hW.gl, by decide, by decide, hW.c1⟩ rfl rfl (by decide) (fun pv => innerOk (keys := ["inner", "digits", "n"]) (by rfl) (by decide) rfl) (CapN.all ⟨⟨rfl, rfl⟩, ⟨rfl, rfl⟩, trivial⟩) (by rfl) (by rfl) (by walk_at "nm") rfl rfl (fun _ => rfl) (fun vs cl doc pm cdv ctv hv => ?_) (by rfl) (by decide) (plainAll (by rfl)) rfl rfl ?_ rfl rfl ?_
  · match vs, hv with
    | [a, b], _ => rfl
  · -- the body of inner
    intro lv ds d hF
    match ds, hF with
    | [.int L, .int R], hF =>
    simp only [segF] at hF
    split at hF
    · rename_i hc
      cases hF
      obtain ⟨c1, c2, c3, c4⟩ := hc
      refine ⟨rfl, ?_⟩
      have seg : ∀ a b : Int, 0 ≤ a → a < b → b ≤ xs.length → 0 ≤ d2i n ((xs.drop a.toNat).take (b - a).toNat) ∧ d2i n ((xs.drop a.toNat).take (b - a).toNat) < 2 ^ (n * (b - a).toNat) := by
        intro a b h1 h2 h3
        have := d2i_bound n ((xs.drop a.toNat).take (b - a).toNat) fun x hx => hxs x (List.mem_of_mem_drop (List.mem_of_mem_take hx))
        rw [List.length_take, List.length_drop, Nat.min_eq_left (by (clear this c4 hF hkps hw hv hps k hxs hl hn S hA hW; lia))] at this
        exact this
      refine exr_if (b := (L + 1 == R)) (et_cmp (by walk_at "ev") (by walk_at "ev") op_eqi) (fun e => ?_) (fun e => ⟨rfl, ?_⟩)
      · have e : L + 1 = R := by simpa using e
        have hlt : L.toNat < xs.length := by (clear seg c4 c2 hF hkps hw hv hps k hxs hl hn S hA hW; lia)
        refine exr_ret ((ev_item (ev_name rfl) rfl (by walk_at "ev") (d := .int xs[L.toNat]) ?_ (by simp; (clear hlt e seg c4 c3 c2 c1 hF hkps hw hv hps k hxs hn S hA hW; lia))).cast ?_)
        · unfold seqAt
          rw [if_neg (by (clear hlt seg c4 c3 c2 hF hkps hw hv hps k hxs hl hn S hA hW; lia)), List.getElem?_map, List.getElem?_eq_getElem hlt]; rfl
        · have e1 : (R - L).toNat = 1 := by (clear hlt seg c4 c3 c2 c1 hF hkps hw hv hps k hxs hl hn S hA hW; lia)
          have e2 : (xs.drop L.toNat).take 1 = [xs[L.toNat]] := by rw [List.drop_eq_getElem_cons hlt]; rfl
          rw [e1, e2]
          simp [d2i]
      · have e : L + 1 ≠ R := by simpa using e
        obtain ⟨m, rfl⟩ : ∃ m, lv = m + 1 := ⟨lv - 1, by (clear seg c3 c1 hF hkps hw hv hps k hxs hl hn S hA hW; lia)⟩
        have hmid : (L + R).fdiv (2 ^ (1 : Int).toNat) = (L + R) / 2 := by
          rw [Int.fdiv_eq_ediv_of_nonneg _ (by decide)]; rfl
        generalize hM : (L + R) / 2 = M at hmid
        have m1 : L < M := by (clear c4 hF seg c3 c1 hkps hw hv hps k hxs hl hn S hA hW; lia)
        have m2 : M < R := by (clear c4 hF e seg c3 c2 c1 hkps hw hv hps k hxs hl hn S hA hW; lia)
        refine exr_seq (ex_assign (d := .int M) ((ev_bin (by walk_at "ev") (by walk_at "ev") (op_shr (by decide))).cast (by rw [hmid])) (by walk_at "slot") (by walk_at "nm")) ?_
        have hk : (M - L) * n = ((n * (M - L).toNat : Nat) : Int) := by
          rw [Int.mul_comm]; push_cast; rw [Int.toNat_of_nonneg (by (clear m2 hM c4 hF e seg c3 c2 c1 hkps hw hv hps k hxs hl hn S hA hW; omega))]
        refine exr_seq (ex_assign (d := .int ((n * (M - L).toNat : Nat) : Int)) ((ev_bin (by walk_at "ev") (ev_name rfl) (op_mul ?_)).cast (by rw [hk])) (by walk_at "slot") (by walk_at "nm")) ?_
        · exact IntMulOk.of_left (intBits_le_64 (by (clear hk m2 hM c4 hF e seg c3 c2 c1 hkps hw hv hps k hxs hl hn S hA hW; omega)) (by (clear hk m2 m1 c4 hF e seg hkps hw hv hps k hxs hn S hA hW; lia)))
        · obtain ⟨s1, s2⟩ := seg M R (by (clear hk m2 hM c4 hF e seg c3 c2 hkps hw hv hps k hxs hl hn S hA hW; omega)) m2 c3
          have big : ∀ j : Nat, j ≤ 100 → n * j ≤ 6400 := fun j hj => Nat.mul_le_mul hn hj
          refine exr_ret ((ev_bin (d₁ := .int (d2i n ((xs.drop M.toNat).take (R - M).toNat) * 2 ^ (n * (M - L).toNat))) (d₂ := .int (d2i n ((xs.drop L.toNat).take (M - L).toNat))) (ev_bin (d₁ := .int (d2i n ((xs.drop M.toNat).take (R - M).toNat))) (ev_fcall (ds := [.int M, .int R]) rfl (.two (by walk_at "ev") (by walk_at "ev")) ?_ (Nat.le_refl _)) (ev_name rfl) ((op_shl ?_ ?_).cast ?_)) (ev_fcall (ds := [.int L, .int M]) rfl (.two (by walk_at "ev") (by walk_at "ev")) ?_ (Nat.le_refl _)) op_add).cast ?_)
          · show segF n xs m [.int M, .int R] = _
            simp only [segF]
            rw [if_pos ⟨by (clear big s2 s1 hk m2 hM c4 hF e seg c3 c2 hkps hw hv hps k hxs hl hn S hA hW; omega), m2, c3, by (clear big s2 s1 hk m2 hM hF e seg c3 c2 c1 hkps hw hv hps k hxs hl hn S hA hW; omega)⟩]
          · exact Int.natCast_nonneg _
          · have h1 : Builtin.Int.intBits (d2i n ((xs.drop M.toNat).take (R - M).toNat)) ≤ n * (R - M).toNat := PyProof.Rows.intBits_le (by
              have : ((d2i n ((xs.drop M.toNat).take (R - M).toNat)).natAbs : Int) < ((2 ^ (n * (R - M).toNat) : Nat) : Int) := by
                rw [Int.natAbs_of_nonneg s1]; push_cast; exact s2
              exact Int.ofNat_lt.mp this)
            have h2 := big (R - M).toNat (by (clear h1 big s2 s1 hk m1 c4 hF e seg hkps hw hv hps k hxs hn S hA hW; lia))
            have h3 := big (M - L).toNat (by (clear h2 h1 big s2 s1 hk m2 c4 hF e seg hkps hw hv hps k hxs hn S hA hW; lia))
            (clear big s2 s1 hk m2 m1 hmid hM c4 hF e seg c3 c2 c1 hkps hw hv hps k hxs hl hn S hA hW; lia)
          · rw [Int.toNat_natCast]
          · show segF n xs m [.int L, .int M] = _
            simp only [segF]
            rw [if_pos ⟨c1, m1, by (clear big s2 s1 hk m1 hM c4 hF e seg c2 c1 hkps hw hv hps k hxs hl hn S hA hW; omega), by (clear big s2 s1 hk m1 hM hF e seg c3 c2 c1 hkps hw hv hps k hxs hl hn S hA hW; omega)⟩]
          · have e1 : (R - L).toNat = (M - L).toNat + (R - M).toNat := by (clear big s2 s1 hk hM c4 hF e seg c3 c1 hkps hw hv hps k hxs hl hn S hA hW; lia)
            have e2 : M.toNat = L.toNat + (M - L).toNat := by (clear e1 big s2 s1 hk c4 hF e seg hkps hw hv hps k hxs hn S hA hW; lia)
            have e3 : ((xs.drop L.toNat).take (M - L).toNat).length = (M - L).toNat := by rw [List.length_take, List.length_drop]; (clear e1 big s2 s1 hk c4 hF e seg hkps hw hv hps k hxs hn S hA hW; lia)
            rw [e1, List.take_add, d2i_append, e3, List.drop_drop, ← e2, Int.add_comm, Int.mul_comm]
    · cases hF
  · -- the call
    refine exr_ret (ev_ifexp (b := !xs.isEmpty) (et_val (ev_name rfl) ?_) (fun e => ?_) (fun e => ?_))
    · simp only [truthD, List.length_map]
      rw [if_pos (by (clear hkps hw hv hps k hxs hn S hA hW; lia))]
      cases xs <;> rfl
    · have hne : xs ≠ [] := by intro q; subst q; cases e
      have hl0 : 0 < xs.length := List.length_pos_iff.mpr hne
      refine ev_fcall (ds := [.int 0, .int xs.length]) rfl (.two ev_int ((ev_len (by walk_at "boot") (ev_name rfl) rfl (by simp; (clear hne e hkps hw hv hps k hxs hn S hA hW; lia))).cast (by simp))) ?_ (by decide)
      simp only [segF]
      rw [if_pos ⟨by decide, by (clear hne e hkps hw hv hps k hxs hn S hA hW; lia), by (clear hl0 hne e hkps hw hv hps k hxs hl hn S hA hW; lia), by (clear hne e hkps hw hv hps k hxs hn S hA hW; lia)⟩]
      simp
    · have : xs = [] := by simpa using e
      subst this
      exact ev_int
end
section
noncomputable def dI (l : List Nat) : List Dat := l.map fun x => Dat.int (x : Nat)
theorem dI_length (l : List Nat) : (dI l).length = l.length := List.length_map _
theorem dI_append (a b : List Nat) : dI (a ++ b) = dI a ++ dI b := List.map_append
noncomputable def i2dG (nb : Nat) (m : Nat) (args ds ds' : List Dat) : Prop :=
  ∃ X L R : Nat, args = [.int X, .int L, .int R] ∧ L < R ∧ R ≤ ds.length ∧ R - L ≤ m + 1 ∧ X < 2 ^ (nb * (R - L)) ∧ ds.length ≤ 100 ∧ ds' = ds.take L ++ (dI (digs nb (R - L) X) ++ ds.drop R)
theorem i2d_len {nb L R X : Nat} {ds : List Dat} (h1 : L < R) (h2 : R ≤ ds.length) : (ds.take L ++ (dI (digs nb (R - L) X) ++ ds.drop R)).length = ds.length := by
  rw [List.length_append, List.length_append, dI_length, digs_length, List.length_take, List.length_drop]; lia
theorem i2d_join {nb L M R X : Nat} {ds : List Dat} (h1 : L < M) (h2 : M < R) (h3 : R ≤ ds.length) :
    (ds.take L ++ (dI (digs nb (M - L) (X % 2 ^ (nb * (M - L)))) ++ ds.drop M)).take M ++ (dI (digs nb (R - M) (X / 2 ^ (nb * (M - L)))) ++ (ds.take L ++ (dI (digs nb (M - L) (X % 2 ^ (nb * (M - L)))) ++ ds.drop M)).drop R) = ds.take L ++ (dI (digs nb (R - L) X) ++ ds.drop R) := by
  have e1 : (ds.take L ++ dI (digs nb (M - L) (X % 2 ^ (nb * (M - L))))).length = M := by
    rw [List.length_append, dI_length, digs_length, List.length_take]; lia
  rw [← List.append_assoc (ds.take L), List.take_left' e1, List.drop_append, e1, List.drop_eq_nil_of_le (by (clear h3 h1; lia)), List.nil_append, List.drop_drop, show M + (R - M) = R by (clear h3 h1; lia),
    digs_mod, show R - L = (M - L) + (R - M) by (clear h3; lia), digs_add, dI_append]
  simp only [List.append_assoc]
theorem i2d_one {nb L X : Nat} {ds : List Dat} (h1 : L + 1 ≤ ds.length) (h : X < 2 ^ (nb * (L + 1 - L))) : ds.set L (.int X) = ds.take L ++ (dI (digs nb (L + 1 - L) X) ++ ds.drop (L + 1)) := by
  rw [show L + 1 - L = 1 by (clear h h1; lia)] at *
  rw [digs_one nb X (by simpa using h), List.set_eq_take_append_cons_drop, if_pos (by (clear h; lia))]
  rfl
theorem c_i2d (W : Wd) (P : Params) (hW : WL W P) : GCall W 110 71 (fun ps kps d => ∃ (a n : Nat), ps = [.dat (.int a), .dat (.int n)] ∧ kps = [] ∧ 0 < n ∧ n ≤ 64 ∧ (Builtin.Int.intBits a + n - 1) / n ≤ 100 ∧ d = .list (dI (digs n ((Builtin.Int.intBits a + n - 1) / n) a))) := by
  intro A h₀ fenv L m mu fz s vs kvs ps kps d Q E hA S hps hkps hG k
  obtain ⟨a, n, rfl, rfl, hn0, hn, hk, rfl⟩ := hG
  obtain ⟨v, w, rfl, hv, hw⟩ := PRepA.i2 hps
  cases KRepA.i0 hkps
  refine call_K0 (f := 71) (lv := 109) (sc := { kind := .function, names := [("a", .local), ("n", .cell), ("a_digits", .cell), ("inner", .cell), ("len", .globalImplicit)], isGenerator := false, isCoroutine := false, more := [("@code", .int 70), ("@qual", .str "_int2digits.<locals>.")] }) (by rw [hW.K]; rfl) (by rw [hW.K]; rfl) (by rfl) (by decide) hA S (binds := [("a", v), ("n", w)]) (nsb := ["a", "n"]) (ρ := [("a", .dat (.int a)), ("n", .dat (.int n))]) (BindsTo.of_eq rfl) (by rfl) (by rfl) (by decide) (.dat (by walk_at "nm") rfl hv (.dat (by walk_at "nm") rfl hw .nil)) (by rfl) (fun c hc => by cases hc; rfl) (fun c hc => by cases hc; rfl) ?_ Q k
  generalize hK : (Builtin.Int.intBits a + n - 1) / n = K at hk ⊢
  have hb : Builtin.Int.intBits a ≤ 6400 := by
    have h1 : Builtin.Int.intBits a + n - 1 < n * (K + 1) := by rw [← hK]; exact Nat.lt_mul_div_succ _ hn0
    have h2 : n * (K + 1) ≤ 64 * 101 := Nat.mul_le_mul hn (by (clear h1 hK hkps hw hv hps k hn hn0 S hA hW; lia))
    have h3 : n * K ≤ 64 * 100 := Nat.mul_le_mul hn hk
    rw [Nat.mul_succ] at h1
    (clear h2 hk hK hkps hw hv hps k S hA hW; lia)
  have hzero : ((List.replicate K [(0 : Int)]).flatten.map Dat.int) = List.replicate K (Dat.int 0) := by
    clear hK hk
    induction K with
    | zero => rfl
    | succ K ih => rw [List.replicate_succ, List.flatten_cons, List.map_append, ih, List.replicate_succ]; rfl
  refine exr_seq (ρ' := [("a_digits", .lst (List.replicate K (Dat.int 0))), ("a", .dat (.int a)), ("n", .dat (.int n))]) (EX.to (ex_assign_lst (ds := ((List.replicate (K : Int).toNat [(0 : Int)]).flatten.map Dat.int)) (ef_mul (x := (K : Int)) (ns := [0]) ?_ ?_ (by (clear hzero hb hK hkps hw hv hps k hn hn0 S hA hW; lia)) (by (clear hzero hb hK hkps hw hv hps k hn hn0 S hA hW; lia)) (by simp; (clear hzero hb hK hkps hw hv hps k hn hn0 S hA hW; lia))) (by walk_at "slot") (by walk_at "nm") (by simp)) ⟨by rw [Int.toNat_natCast, hzero]; rfl, rfl, rfl, trivial⟩) ?_
  · exact (ev_list (ds := [.int 0]) (EVs.one ev_int))
  · refine (ev_bin (d₁ := .int ((Builtin.Int.intBits a : Nat) + n - 1)) (d₂ := .int n) (ev_bin (ev_bin (ev_bitlen (ev_name rfl)) (ev_name rfl) op_add) ev_int op_sub) (ev_name rfl) (op_fdiv (by (clear hzero hb hk hK hkps hw hv hps k S hA hW; lia)) (PyProof.noPylong_small ?_))).cast ?_
    · (clear hzero hb hk hK hkps hw hv hps k S hA hW; omega)
    · rw [Int.fdiv_eq_ediv_of_nonneg _ (by (clear hzero hb hk hK hkps hw hv hps k S hA hW; lia)), ← hK]
      congr 2
      have : ((Builtin.Int.intBits a : Nat) : Int) + n - 1 = ((Builtin.Int.intBits a + n - 1 : Nat) : Int) := by (clear hzero hk hK hkps hw hv hps k S hA hW; lia)
      rw [this]; rfl
  refine exr_def_mut (t := (70, 66, "_int2digits.<locals>.inner")) (q := "_int2digits.<locals>.") (y := "a_digits") (ds₀ := List.replicate K (Dat.int 0)) (ρ₁ := [("n", .dat (.int n))]) (pn := ["x", "L", "R"]) (G := i2dG n) (N := 100) (ρ' := [])
    ⟨hW.gl, by decide, by decide, hW.c2⟩ rfl rfl (by decide) (fun pv qv => innerOk (keys := ["inner", "a_digits", "n"]) (by rfl) (by decide) rfl) (CapN.all ⟨⟨rfl, rfl⟩, ⟨rfl, rfl⟩, trivial⟩) (by rfl) (by rfl) (by walk_at "nm") rfl rfl (fun _ => rfl) (fun vs cl doc pm cdv ctv hv => ?_) (by rfl) (by decide) (plainAll (by rfl)) rfl rfl ?_ rfl rfl ?_ (by rfl)
  · match vs, hv with
    | [a, b, c], _ => rfl
  · intro lv args ds ds' hG
    obtain ⟨X, L, R, rfl, h1, h2, h3, h4, h5, rfl⟩ := hG
    refine ⟨rfl, ?_⟩
    by_cases e : L + 1 = R
    · subst e
      refine ⟨.ret .none [("a_digits", .lst (ds.set L (.int X)))], rfl, ?_, exm_ift ((et_cmp (by walk_at "ev") (by walk_at "ev") op_eqi).cast ?_) (EX.from (ρ' := [("x", .dat (.int X)), ("L", .dat (.int L)), ("a_digits", .lst ds)]) (ex_seq (ρ' := [("a_digits", .lst (ds.set L (.int X)))]) (EX.to (ex_setitem (k := L) (ev_name rfl) rfl (ev_name rfl) (by (clear h4 h3 h1 h5 hzero hb hk hK hkps hw hv hps k hn hn0 S hA hW; lia)) (by (clear h4 h3 h2 h1 hzero hb hk hK hkps hw hv hps k hn hn0 S hA hW; lia))) ⟨rfl, trivial⟩) (ex_ret ex_return_none)) ⟨rfl, rfl, rfl, trivial⟩)⟩
      · rw [← i2d_one h2 h4]; rfl
      · simp
    · obtain ⟨m, rfl⟩ : ∃ m, lv = m + 1 := ⟨lv - 1, by (clear h5 h4 h2 hzero hb hk hK hkps hw hv hps k hn hn0 S hA hW; lia)⟩
      have hmid : ((L : Int) + R).fdiv (2 ^ (1 : Int).toNat) = (((L + R) / 2 : Nat) : Int) := by
        rw [Int.fdiv_eq_ediv_of_nonneg _ (by decide)]; rfl
      generalize hM : (L + R) / 2 = M at hmid
      have m1 : L < M := by (clear h3 h5 h4 h2 hzero hb hk hK hkps hw hv hps k hn hn0 S hA hW; lia)
      have m2 : M < R := by (clear m1 h3 e h5 h4 h2 hzero hb hk hK hkps hw hv hps k hn hn0 S hA hW; lia)
      have bigM : n * (M - L) ≤ 64 * 100 := Nat.mul_le_mul hn (by (clear m2 h3 e h4 h1 hzero hb hk hK hkps hw hv hps k hn hn0 S hA hW; lia))
      have bigR : n * (R - L) ≤ 64 * 100 := Nat.mul_le_mul hn (by (clear bigM m2 m1 hmid hM h3 e h4 hzero hb hk hK hkps hw hv hps k hn hn0 S hA hW; lia))
      have hpow : 2 ^ (n * (R - L)) = 2 ^ (n * (M - L)) * 2 ^ (n * (R - M)) := by
        rw [← Nat.pow_add, ← Nat.mul_add]; congr 2; (clear bigR bigM hM h3 e h5 h4 h2 hzero hb hk hK hkps hw hv hps k hn hn0 S hA hW; lia)
      have hup : X / 2 ^ (n * (M - L)) < 2 ^ (n * (R - M)) := by
        refine Nat.div_lt_of_lt_mul ?_
        rw [← hpow]; exact h4
      have hlo : X % 2 ^ (n * (M - L)) < 2 ^ (n * (M - L)) := Nat.mod_lt _ (Nat.pow_pos (by decide))
      generalize hS : n * (M - L) = S at *
      refine ⟨.next [("a_digits", .lst (ds.take L ++ (dI (digs n (R - L) X) ++ ds.drop R)))], trivial, rfl, exm_iff ((et_cmp (by walk_at "ev") (by walk_at "ev") op_eqi).cast ?_) ?_⟩
      · simp only [beq_eq_false_iff_ne, ne_eq]; (clear hlo hup hpow bigM hS bigR m2 h3 e h5 h4 h2 h1 hzero hb hk hK hkps hw hv hps k hn hn0 hA hW; lia)
      · refine exm_seq (.head _) (ex_assign (d := .int M) ((ev_bin (by walk_at "ev") (by walk_at "ev") (op_shr (by decide))).cast (by rw [hmid])) (by walk_at "slot") (by walk_at "nm")) ?_
        refine exm_seq (.head _) (ex_assign (d := .int (S : Nat)) ((ev_bin (by walk_at "ev") (ev_name rfl) (op_mul (IntMulOk.of_left (intBits_le_64 (by (clear hlo hup hpow bigM hS bigR m2 hM h3 e h5 h4 h2 h1 hzero hb hk hK hkps hw hv hps k hn hn0 hA hW; lia)) (by (clear hlo hup hpow bigM hS bigR m2 m1 h3 e h4 h1 hzero hb hk hK hkps hw hv hps k hn hn0 hA hW; lia)))))).cast ?_) (by walk_at "slot") (by walk_at "nm")) ?_
        · rw [← hS, Int.mul_comm]; push_cast; rw [Int.ofNat_sub (by (clear hlo hup hpow bigM hS bigR m2 hM h3 e h5 h4 h2 h1 hzero hb hk hK hkps hw hv hps k hn hn0 hA hW; lia))]
        refine exm_seq (.head _) (ex_assign (d := .int (X / 2 ^ S : Nat)) ((ev_bin (ev_name rfl) (ev_name rfl) (op_shr (Int.natCast_nonneg _))).cast ?_) (by walk_at "slot") (by walk_at "nm")) ?_
        · rw [Int.toNat_natCast, Int.fdiv_eq_ediv_of_nonneg _ (Int.le_of_lt (Int.pow_pos (by decide)))]; push_cast; rfl
        refine exm_seq (.head _) (ex_assign (d := .int (X % 2 ^ S : Nat)) ((ev_bin (ev_name rfl) (ev_bin (d := .int ((X / 2 ^ S * 2 ^ S : Nat) : Int)) (ev_name rfl) (ev_name rfl) ((op_shl (Int.natCast_nonneg _) ?_).cast ?_)) op_xor).cast ?_) (by walk_at "slot") (by walk_at "nm")) ?_
        · have hb : Builtin.Int.intBits ((X / 2 ^ S : Nat) : Int) ≤ n * (R - M) := intBits_le_iff.mpr hup
          have : n * (R - M) ≤ 64 * 100 := Nat.mul_le_mul hn (by (clear hb hlo hup hpow bigM hS bigR m1 h3 e h4 hzero hk hK hkps hw hv hps k hn hn0 hA hW; lia))
          (clear hlo hup hpow bigR m2 m1 hmid hM h3 e h5 h4 h2 h1 hzero hk hK hkps hw hv hps k hn hn0 hA hW; lia)
        · rw [Int.toNat_natCast]; push_cast; rfl
        · rw [bitXor_shift]
        refine exm_call (args := [.int (X % 2 ^ S : Nat), .int L, .int M]) (by rfl) (by walk_at "nm") (by (clear hlo hup hpow bigM hS bigR m2 m1 hmid hM h3 e h5 h4 h2 h1 hzero hb hk hK hkps hw hv hps k hn hn0 hA hW; lia)) rfl (.cons rfl (ev_name rfl) (.two (ev_name rfl) (ev_name rfl))) ⟨X % 2 ^ S, L, M, rfl, m1, by (clear hlo hup hpow bigM hS bigR m1 hM h3 e h5 h4 h1 hzero hb hk hK hkps hw hv hps k hn hn0 hA hW; lia), by (clear hlo hup hpow bigM hS bigR hM e h5 h4 h2 hzero hb hk hK hkps hw hv hps k hn hn0 hA hW; omega), ?_, h5, rfl⟩ ?_
        · rw [hS]; exact hlo
        refine exm_call (args := [.int (X / 2 ^ S : Nat), .int M, .int R]) (by rfl) (by walk_at "nm") (by (clear hlo hup hpow bigM hS bigR m2 m1 hmid hM h3 e h5 h4 h2 h1 hzero hb hk hK hkps hw hv hps k hn hn0 hA hW; lia)) rfl (.cons rfl (ev_name rfl) (.two (ev_name rfl) (ev_name rfl))) ⟨X / 2 ^ S, M, R, rfl, m2, ?_, by (clear hlo hup hpow bigM hS bigR hM e h5 h4 h2 hzero hb hk hK hkps hw hv hps k hn hn0 hA hW; lia), hup, ?_, rfl⟩ ?_
        · rw [i2d_len m1 (by (clear hlo hup hpow bigM hS bigR m1 hM h3 e h5 h4 h1 hzero hb hk hK hkps hw hv hps k hn hn0 hA hW; lia))]; exact h2
        · rw [i2d_len m1 (by (clear hlo hup hpow bigM hS bigR m1 hM h3 e h5 h4 h1 hzero hb hk hK hkps hw hv hps k hn hn0 hA hW; lia))]; exact h5
        refine exm_of (ex_nil.forget (SubN.look ⟨?_, trivial⟩))
        rw [← hS, i2d_join m1 m2 h2]; rfl
  · have hlt : a < 2 ^ (n * K) := by
      have h1 := Nat.lt_mul_div_succ (Builtin.Int.intBits a + n - 1) hn0
      rw [hK, Nat.mul_succ] at h1
      exact intBits_le_iff.mp (show Builtin.Int.intBits (a : Int) ≤ n * K by (clear hzero hb hk hK hkps hw hv hps k hn hn0 S hA hW; omega))
    refine exm_if_call (b := decide (a ≠ 0)) (args := [.int a, .int 0, .int K]) (et_val (ev_name rfl) ?_) (by rfl) (by walk_at "nm") (by (clear hlt hzero hb hk hK hkps hw hv hps k hn hn0 S hA hW; lia)) rfl (fun _ => .cons rfl (ev_name rfl) (.two ev_int ((ev_len (by walk_at "boot") (ev_name rfl) rfl ?_).cast ?_))) (ds' := dI (digs n K a)) (fun e => ?_) (fun e => ?_) (fun e => ?_)
    · by_cases h : a = 0 <;> simp [truthD, h]
    · rw [List.length_replicate]; (clear hlt hzero hb hK hkps hw hv hps k hn hn0 S hA hW; lia)
    · rw [List.length_replicate]
    · have ha : a ≠ 0 := of_decide_eq_true e
      have hK0 : 0 < K := by
        rcases Nat.eq_zero_or_pos K with h | h
        · subst h; simp at hlt; (clear hzero hk hK e hb hkps hw hv hps k hn hn0 S hA hW; lia)
        · exact h
      refine ⟨a, 0, K, rfl, hK0, by rw [List.length_replicate]; (clear hK0 ha e hlt hzero hb hk hK hkps hw hv hps k hn hn0 S hA hW; lia), by (clear ha e hlt hzero hb hK hkps hw hv hps k hn hn0 S hA hW; lia), hlt, by rw [List.length_replicate]; exact hk, ?_⟩
      rw [List.take_zero, List.nil_append, List.drop_eq_nil_of_le (by rw [List.length_replicate]; (clear hK0 ha e hlt hzero hb hk hK hkps hw hv hps k hn hn0 S hA hW; lia)), List.append_nil]; rfl
    · obtain ⟨r, hr⟩ := exr_ret_lst (W := W) (lv := 109) (x := "a_digits") (ρ := [("a_digits", .lst (dI (digs n K a))), ("a_digits", .lst (List.replicate K (Dat.int 0))), ("a", .dat (.int a)), ("n", .dat (.int n))]) (ds := dI (digs n K a)) rfl
      exact hr.retNil
    · have ha : a = 0 := by simpa using e
      subst ha
      have hK1 : K = 0 := by
        rw [← hK, show Builtin.Int.intBits ((0 : Nat) : Int) = 0 from rfl]
        exact Nat.div_eq_of_lt (by (clear e hlt hb hK hv hps k hzero hk hkps hw S hA hW; lia))
      subst hK1
      obtain ⟨r, hr⟩ := exr_ret_lst (W := W) (lv := 109) (x := "a_digits") (ρ := [("a_digits", .lst (List.replicate 0 (Dat.int 0))), ("a", .dat (.int (0 : Nat))), ("n", .dat (.int n))]) (ds := dI (digs n 0 0)) rfl
      exact hr.retNil
end
section
theorem d2i_dn (n : Nat) : ∀ l : List Nat, d2i n (l.map fun x : Nat => (x : Int)) = (dn n l : Nat)
  | [] => rfl
  | x :: l => by
    show (x : Int) + 2 ^ n * d2i n (l.map fun x : Nat => (x : Int)) = ((x + 2 ^ n * dn n l : Nat) : Int)
    rw [d2i_dn n l]; push_cast; rfl
theorem dI_ints (l : List Nat) : dI l = (l.map fun x : Nat => (x : Int)).map Dat.int := by
  unfold dI; rw [List.map_map]; rfl
theorem dI_reverse (l : List Nat) : (dI l).reverse = dI l.reverse := List.map_reverse.symm
theorem c_divmod_pos (W : Wd) (P : Params) (hW : WL W P) : GCall W 112 85 (fun ps kps d => ∃ (a b : Nat), ps = [.dat (.int a), .dat (.int b)] ∧ kps = [] ∧ 0 < b ∧ Builtin.Int.intBits b ≤ 64 ∧ (Builtin.Int.intBits a + Builtin.Int.intBits b - 1) / Builtin.Int.intBits b ≤ 100 ∧ d = .tuple [.int (a / b : Nat), .int (a % b : Nat)]) := by
  intro A h₀ fenv L m mu fz s vs kvs ps kps d Q E hA S hps hkps hG k
  obtain ⟨a, b, rfl, rfl, hb0, hb64, hK, rfl⟩ := hG
  obtain ⟨v, w, rfl, hv, hw⟩ := PRepA.i2 hps
  cases KRepA.i0 hkps
  refine call_K0 (f := 85) (lv := 111) (by rw [hW.K]; rfl) (by rw [hW.K]; rfl) (by rfl) (by decide) hA S (binds := [("a", v), ("b", w)]) (nsb := ["a", "b"]) (ρ := [("a", .dat (.int a)), ("b", .dat (.int b))]) (BindsTo.of_eq rfl) (by rfl) (by rfl) (by decide)
    (.dat (by walk_at "nm") rfl hv (.dat (by walk_at "nm") rfl hw .nil)) rfl (fun c hc => by cases hc) (fun c hc => by cases hc) ?_ Q k
  have hn0 : 0 < Builtin.Int.intBits (b : Int) := by
    rcases Nat.eq_zero_or_pos (Builtin.Int.intBits (b : Int)) with h | h
    · have := intBits_le_iff.mp (show Builtin.Int.intBits (b : Int) ≤ 0 by (clear hkps hw hv hps k hK hb64 hb0 S hA hW; lia))
      simp at this; (clear h hkps hw hv hps k hK hb64 S hA hW; lia)
    · exact h
  have hbn : b < 2 ^ Builtin.Int.intBits (b : Int) := intBits_le_iff.mp (show Builtin.Int.intBits (b : Int) ≤ _ from Nat.le_refl _)
  refine exr_seq (ex_assign (ev_bitlen (ev_name rfl)) (by walk_at "slot") (by walk_at "nm")) ?_
  have hlt : a < 2 ^ (Builtin.Int.intBits (b : Int) * ((Builtin.Int.intBits a + Builtin.Int.intBits b - 1) / Builtin.Int.intBits b)) := by
    have h1 := Nat.lt_mul_div_succ (Builtin.Int.intBits a + Builtin.Int.intBits b - 1) hn0
    rw [Nat.mul_add, Nat.mul_one] at h1
    exact intBits_le_iff.mp (show Builtin.Int.intBits (a : Int) ≤ _ by (clear hbn hn0 hkps hw hv hps k hK hb64 hb0 S hA hW; omega))
  refine exr_seq (ex_assign (d := .list (dI (digs (Builtin.Int.intBits b) ((Builtin.Int.intBits a + Builtin.Int.intBits b - 1) / Builtin.Int.intBits b) a))) (ev_gcall (by walk_at "glb") (c_i2d W P hW) (.two (ev_name rfl) (ev_name rfl)) ⟨a, Builtin.Int.intBits b, rfl, rfl, hn0, hb64, hK, rfl⟩ (by decide)) (by walk_at "slot") (by walk_at "nm")) ?_
  generalize Builtin.Int.intBits (b : Int) = n at *
  generalize (Builtin.Int.intBits (a : Int) + n - 1) / n = K at *
  obtain ⟨r0, hr0⟩ : ∃ r0 : Nat, r0 = 0 := ⟨0, rfl⟩
  refine exr_seq (ex_assign (d := .int r0) (ev_int.cast (by rw [hr0]; rfl)) (by walk_at "slot") (by walk_at "nm")) ?_
  refine exr_seq (ex_assign_lst (ef_list (ds := []) .nil) (by walk_at "slot") (by walk_at "nm") (by simp)) ?_
  obtain ⟨s1, s2, s3⟩ := ldiv_spec n b hb0 (digs n K a).reverse 0 hb0 fun d hd => digs_lt n K a d (List.mem_reverse.mp hd)
  obtain ⟨v1, v2⟩ := ldiv_all n b K a hb0 hlt
  have hlen := ldiv_len n b (digs n K a).reverse 0
  rw [List.length_reverse, digs_length] at hlen
  rw [← hr0] at s1 s2 s3 v1 v2 hlen
  refine exr_seq (ρ' := [("r", .dat (.int ((ldiv n b r0 (digs n K a).reverse).1 : Nat))), ("q_digits", .lst (dI ([] ++ (ldiv n b r0 (digs n K a).reverse).2))), ("a_digits", .dat (.list (dI (digs n K a)))), ("n", .dat (.int n)), ("b", .dat (.int b))])
    (EX.from (ρ' := [("r", .dat (.int r0)), ("q_digits", .lst (dI [])), ("a_digits", .dat (.list (dI (digs n K a)))), ("n", .dat (.int n)), ("b", .dat (.int b))]) (ex_for (items := dI (digs n K a).reverse) (fun _ _ => rfl) ?_ ?_ ?loop) (by walk_at "sub")) ?_
  · rw [← dI_reverse]
    exact ei_dreversed (by walk_at "boot") rfl (ev_name rfl)
  · intro x hx
    rcases List.mem_cons.mp hx with rfl | hx
    · exact ⟨by walk_at "slot", by walk_at "nm"⟩
    · cases hx
  show EXR _ _ _ _ (_ :: _) _
  refine exr_seq (ex_reverse (y := "q_digits") (ds := dI ([] ++ (ldiv n b r0 (digs n K a).reverse).2)) rfl ?_) ?_
  · rw [dI_length, List.nil_append]; (clear v2 v1 s3 s2 s1 hr0 hlt hbn hn0 hb64 hkps hw hv hps k hb0 S hA hW; lia)
  refine exr_freeze (x := "q_digits") rfl ?_
  refine exr_seq (ex_assign (d := .int (a / b : Nat)) ((ev_gcall (by walk_at "glb") (c_d2i W P hW) (.two (ev_name rfl) (ev_name rfl)) ⟨((ldiv n b r0 (digs n K a).reverse).2.reverse.map fun x : Nat => (x : Int)), n, ?_, rfl, by (clear hlen v2 v1 s3 s2 s1 hr0 hlt hK hbn hkps hw hv hps k hb0 S hA hW; lia), ?_, ?_, rfl⟩ (by decide)).cast ?_) (by walk_at "slot") (by walk_at "nm")) ?_
  · rw [← dI_ints, dI_reverse]; rfl
  · rw [List.length_map, List.length_reverse]; (clear v2 v1 s3 s2 s1 hr0 hlt hbn hn0 hb64 hkps hw hv hps k hb0 S hA hW; lia)
  · intro x hx
    obtain ⟨y, hy, rfl⟩ := List.mem_map.mp hx
    have := s2 y (List.mem_reverse.mp hy)
    exact ⟨Int.natCast_nonneg _, by exact_mod_cast this⟩
  · rw [d2i_dn, v2]
  · rw [← v1]
    exact exr_ret (ev_tuple (ds := [.int (a / b : Nat), .int ((ldiv n b r0 (digs n K a).reverse).1 : Nat)]) (.two (ev_name rfl) (ev_name rfl)) (by simp))
  case loop =>
    have hr : r0 < b := by (clear hlen v2 s2 hlt hK hbn hn0 hb64 hkps hw hv hps k hb0 S hA hW; lia)
    have hd : ∀ d ∈ (digs n K a).reverse, d < 2 ^ n := fun d hd => digs_lt n K a d (List.mem_reverse.mp hd)
    have hl : ([] : List Nat).length + (digs n K a).reverse.length ≤ 1000 := by rw [List.length_reverse, digs_length, List.length_nil]; (clear hd hr v2 v1 s3 s2 s1 hr0 hlt hbn hn0 hb64 hkps hw hv hps k hb0 S hA hW; lia)
    clear s1 s2 s3 v1 v2 hlen k
    revert hr hd hl
    generalize (digs n K a).reverse = ds
    generalize dI (digs n K a) = adig
    generalize ([] : List Nat) = qs
    clear hr0
    intro hr hd hl
    induction ds generalizing r0 qs with
    | nil => simp only [ldiv, List.append_nil]; exact .nil
    | cons d ds ih =>
      have hx : r0 * 2 ^ n + d < 2 ^ (n + n) := by
        have h1 : (r0 + 1) * 2 ^ n ≤ 2 ^ n * 2 ^ n := Nat.mul_le_mul_right _ (by (clear hl hd ih hlt hK hn0 hb64 hkps hw hv hps hb0 S hA hW; lia))
        rw [Nat.add_mul, Nat.one_mul] at h1
        have h2 := hd d (.head _)
        rw [Nat.pow_add]; (clear hl hd hr ih hlt hK hbn hn0 hb64 hkps hw hv hps hb0 S hA hW; omega)
      have hdd : ((r0 * 2 ^ n + d : Nat) : Int).fdiv b = (((r0 * 2 ^ n + d) / b : Nat) : Int) ∧ ((r0 * 2 ^ n + d : Nat) : Int).fmod b = (((r0 * 2 ^ n + d) % b : Nat) : Int) := by
        constructor
        · rw [Int.fdiv_eq_ediv_of_nonneg _ (Int.natCast_nonneg _)]; rfl
        · rw [Int.fmod_eq_emod_of_nonneg _ (Int.natCast_nonneg _)]; rfl
      have e1 : qs ++ (ldiv n b r0 (d :: ds)).2 = (qs ++ [(r0 * 2 ^ n + d) / b]) ++ (ldiv n b ((r0 * 2 ^ n + d) % b) ds).2 := by simp [ldiv]
      have e2 : (ldiv n b r0 (d :: ds)).1 = (ldiv n b ((r0 * 2 ^ n + d) % b) ds).1 := rfl
      rw [e1, e2]
      refine .cons (bs := [("a_digit", .dat (.int d))]) rfl (ex_seq (ex_unpack (a := .int ((r0 * 2 ^ n + d) / b : Nat)) (b := .int ((r0 * 2 ^ n + d) % b : Nat)) ((ev_gcall (by walk_at "glb") (c_div2n1n W P hW) (.cons rfl (ev_bin (d := .int ((r0 * 2 ^ n + d : Nat) : Int)) (ev_bin (ev_name rfl) (ev_name rfl) (op_shl (Int.natCast_nonneg _) ?_)) (ev_name rfl) (op_add.cast ?_)) (.two (ev_name rfl) (ev_name rfl))) ⟨_, b, n, rfl, rfl, ?_, by (clear e2 e1 hdd hx hl hd hr ih hlt hK hbn hn0 hb64 hkps hw hv hps S hA hW; lia), ?_, rfl⟩ (by decide)).cast ?_) (by walk_at "slot") (by walk_at "nm") (by walk_at "slot") (by walk_at "nm"))
        (ex_seq (ρ' := [("r", .dat (.int ((r0 * 2 ^ n + d) % b : Nat))), ("q_digits", .lst (dI (qs ++ [(r0 * 2 ^ n + d) / b]))), ("a_digits", .dat (.list adig)), ("n", .dat (.int n)), ("b", .dat (.int b))]) (EX.to (ex_append (d := .int ((r0 * 2 ^ n + d) / b : Nat)) rfl (ev_name rfl) ?_ rfl) ⟨rfl, ?_, rfl, rfl, rfl, trivial⟩) ex_nil)) (ih _ _ (Nat.mod_lt _ hb0) (fun x hx => hd x (.tail _ hx)) ?_)
      · have h1 : Builtin.Int.intBits (r0 : Int) ≤ n := intBits_le_iff.mpr (show r0 < 2 ^ n by (clear e2 e1 hdd hx hl hd ih hlt hK hn0 hb64 hkps hw hv hps hb0 S hA hW; lia))
        (clear e2 e1 hdd hx hl hd hr ih hlt hK hbn hkps hw hv hps hb0 S hA hW; lia)
      · rw [Int.toNat_natCast]; push_cast; rfl
      · have h1 : Builtin.Int.intBits ((r0 * 2 ^ n + d : Nat) : Int) ≤ n + n := intBits_le_iff.mpr hx
        (clear e2 e1 hdd hx hl hd hr ih hlt hK hbn hkps hw hv hps hb0 S hA hW; lia)
      · have : (b : Nat).log2 < 64 ∨ b = 0 := by
          by_cases h : b = 0
          · exact .inr h
          · exact .inl ((Nat.log2_lt h).mpr (Nat.lt_of_lt_of_le hbn (Nat.pow_le_pow_right (by decide) hb64)))
        rw [Int.natAbs_natCast]; (clear e2 e1 hdd hx hl hd hr ih hlt hK hbn hn0 hb64 hkps hw hv hps S hA hW; lia)
      · rw [hdd.1, hdd.2]
      · rw [dI_length]; (clear e2 e1 hdd hx hd hr ih hlt hK hbn hn0 hb64 hkps hw hv hps hb0 S hA hW; lia)
      · rw [dI_append]; rfl
      · rw [List.length_append]; simp only [List.length_cons, List.length_nil] at hl ⊢; (clear e2 e1 hdd hx hd hr ih hlt hK hbn hn0 hb64 hkps hw hv hps hb0 S hA hW; lia)
end
section
/-- what int_divmod asks of its sizes -/
noncomputable def DmOk (a b : Int) : Prop := b ≠ 0 ∧ Builtin.Int.intBits b ≤ 64 ∧ (Builtin.Int.intBits a + Builtin.Int.intBits b - 1) / Builtin.Int.intBits b ≤ 100
theorem intBits_inv (a : Int) (h : a < 0) : Builtin.Int.intBits (Builtin.bitNot a) ≤ Builtin.Int.intBits a :=
  intBits_le_of_natAbs (by unfold Builtin.bitNot; omega) (Nat.le_refl _)
theorem intBits_neg (a : Int) : Builtin.Int.intBits (-a) = Builtin.Int.intBits a := by
  have h1 := intBits_neg_le (x := a) (m := Builtin.Int.intBits a) (Nat.le_refl _)
  have h2 := intBits_neg_le (x := -a) (m := Builtin.Int.intBits (-a)) (Nat.le_refl _)
  rw [Int.neg_neg] at h2; lia
theorem DmOk.of_le {a a' b : Int} (h : DmOk a b) (k : Builtin.Int.intBits a' ≤ Builtin.Int.intBits a) : DmOk a' b :=
  ⟨h.1, h.2.1, Nat.le_trans (Nat.div_le_div_right (by omega)) h.2.2⟩
theorem DmOk.neg {a b : Int} (h : DmOk a b) : DmOk (-a) (-b) := by
  unfold DmOk at *
  rw [intBits_neg, intBits_neg]
  exact ⟨by lia, h.2⟩
/-- small sizes do -/
theorem DmOk.small {a b : Int} (h0 : b ≠ 0) (ha : Builtin.Int.intBits a ≤ 100) (hb : Builtin.Int.intBits b ≤ 64) : DmOk a b := by
  have hn0 : 0 < Builtin.Int.intBits b := by
    rcases Nat.eq_zero_or_pos (Builtin.Int.intBits b) with h | h
    · have := intBits_le_iff.mp (show Builtin.Int.intBits b ≤ 0 by (clear hb ha h0; lia))
      simp at this; (clear h hb ha; lia)
    · exact h
  refine ⟨h0, hb, ?_⟩
  have : (Builtin.Int.intBits a + Builtin.Int.intBits b - 1) / Builtin.Int.intBits b < 101 := by
    refine Nat.div_lt_of_lt_mul ?_
    have : 100 * 1 ≤ 100 * Builtin.Int.intBits b := Nat.mul_le_mul_left _ hn0
    (clear this h0; lia)
  (clear hn0 hb ha h0; lia)
theorem cdm0 (W : Wd) (P : Params) (hW : WL W P) : GCall W 113 92 (fun ps kps d => ∃ (a b : Int), ps = [.dat (.int a), .dat (.int b)] ∧ kps = [] ∧ DmOk a b ∧ 0 ≤ a ∧ 0 < b ∧ d = .tuple [.int (a.fdiv b), .int (a.fmod b)]) := by
  intro A h₀ fenv L m mu fz s vs kvs ps kps d Q E hA S hps hkps hG k
  obtain ⟨a, b, rfl, rfl, hok, ha, hb, rfl⟩ := hG
  obtain ⟨v, w, rfl, hv, hw⟩ := PRepA.i2 hps
  cases KRepA.i0 hkps
  refine call_K0 (f := 92) (lv := 112) (by rw [hW.K]; rfl) (by rw [hW.K]; rfl) (by rfl) (by decide) hA S (binds := [("a", v), ("b", w)]) (nsb := ["a", "b"]) (ρ := [("a", .dat (.int a)), ("b", .dat (.int b))]) (BindsTo.of_eq rfl) (by rfl) (by rfl) (by decide)
    (.dat (by walk_at "nm") rfl hv (.dat (by walk_at "nm") rfl hw .nil)) rfl (fun c hc => by cases hc) (fun c hc => by cases hc) ?_ Q k
  refine exr_ifelse (b := false) ((et_cmp (by walk_at "ev") (by walk_at "ev") op_eqi).cast (by simp; (clear hkps hw hv hps k ha hok S hA hW; lia))) (fun e => by cases e) (fun _ => ?_)
  refine exr_ifelse (b := false) ((et_cmp (by walk_at "ev") (by walk_at "ev") op_lt).cast (by simp; (clear hkps hw hv hps k ha hok S hA hW; lia))) (fun e => by cases e) (fun _ => ?_)
  refine exr_ifelse (b := false) ((et_cmp (by walk_at "ev") (by walk_at "ev") op_lt).cast (by simp; (clear hkps hw hv hps k hb hok S hA hW; lia))) (fun e => by cases e) (fun _ => ?_)
  obtain ⟨x, rfl⟩ := Int.eq_ofNat_of_zero_le ha
  obtain ⟨y, rfl⟩ := Int.eq_ofNat_of_zero_le (Int.le_of_lt hb)
  refine exr_ret ((ev_gcall (by walk_at "glb") (c_divmod_pos W P hW) (.two (ev_name rfl) (ev_name rfl)) ⟨x, y, rfl, rfl, by lia, hok.2.1, hok.2.2, rfl⟩ (by decide)).cast ?_)
  rw [Int.fdiv_eq_ediv_of_nonneg _ (Int.natCast_nonneg _), Int.fmod_eq_emod_of_nonneg _ (Int.natCast_nonneg _)]
  rfl
theorem cdm1 (W : Wd) (P : Params) (hW : WL W P) : GCall W 114 92 (fun ps kps d => ∃ (a b : Int), ps = [.dat (.int a), .dat (.int b)] ∧ kps = [] ∧ DmOk a b ∧ 0 < b ∧ d = .tuple [.int (a.fdiv b), .int (a.fmod b)]) := by
  intro A h₀ fenv L m mu fz s vs kvs ps kps d Q E hA S hps hkps hG k
  obtain ⟨a, b, rfl, rfl, hok, hb, rfl⟩ := hG
  by_cases ha : 0 ≤ a
  · exact cdm0 W P hW A h₀ fenv L m mu fz s vs kvs _ _ _ Q E (hA.less (by decide)) S hps hkps ⟨a, b, rfl, rfl, hok, ha, hb, rfl⟩ k
  obtain ⟨v, w, rfl, hv, hw⟩ := PRepA.i2 hps
  cases KRepA.i0 hkps
  refine call_K0 (f := 92) (lv := 113) (by rw [hW.K]; rfl) (by rw [hW.K]; rfl) (by rfl) (by decide) hA S (binds := [("a", v), ("b", w)]) (nsb := ["a", "b"]) (ρ := [("a", .dat (.int a)), ("b", .dat (.int b))]) (BindsTo.of_eq rfl) (by rfl) (by rfl) (by decide)
    (.dat (by walk_at "nm") rfl hv (.dat (by walk_at "nm") rfl hw .nil)) rfl (fun c hc => by cases hc) (fun c hc => by cases hc) ?_ Q k
  refine exr_ifelse (b := false) ((et_cmp (by walk_at "ev") (by walk_at "ev") op_eqi).cast (by simp; (clear hkps hw hv hps ha k hok S hA hW; lia))) (fun e => by cases e) (fun _ => ?_)
  refine exr_ifelse (b := false) ((et_cmp (by walk_at "ev") (by walk_at "ev") op_lt).cast (by simp; (clear hkps hw hv hps ha k hok S hA hW; lia))) (fun e => by cases e) (fun _ => ?_)
  refine exr_ifelse (b := true) ((et_cmp (by walk_at "ev") (by walk_at "ev") op_lt).cast (by simp; (clear hkps hw hv hps k hb hok S hA hW; lia))) (fun _ => ?_) (fun e => by cases e)
  have hn0 : 0 ≤ Builtin.bitNot a := by unfold Builtin.bitNot; (clear hkps hw hv hps k hb hok S hA hW; lia)
  refine exr_seq (ex_unpack (ev_gcall (by walk_at "glb") (cdm0 W P hW) (.two (ev_un (ev_name rfl) op_inv) (ev_name rfl)) ⟨Builtin.bitNot a, b, rfl, rfl, hok.of_le (intBits_inv a (by (clear hn0 hkps hw hv hps k hb hok S hA hW; lia))), hn0, hb, rfl⟩ (by decide)) (by walk_at "slot") (by walk_at "nm") (by walk_at "slot") (by walk_at "nm")) ?_
  refine exr_ret ((ev_tup2 (ev_un (ev_name rfl) op_inv) (ev_bin (ev_name rfl) (ev_un (ev_name rfl) op_inv) op_add)).cast ?_)
  have e1 := Int.mul_fdiv_add_fmod a b
  have e2 := Int.mul_fdiv_add_fmod (Builtin.bitNot a) b
  have f1 := Int.fmod_nonneg_of_pos a hb
  have f2 := Int.fmod_lt_of_pos a hb
  have g1 := Int.fmod_nonneg_of_pos (Builtin.bitNot a) hb
  have g2 := Int.fmod_lt_of_pos (Builtin.bitNot a) hb
  have key : (Builtin.bitNot a).fdiv b = -a.fdiv b - 1 := by
    have h3 : Builtin.bitNot a = b * (-a.fdiv b - 1) + (b - 1 - a.fmod b) := by
      have : b * (-a.fdiv b - 1) = -(b * a.fdiv b) - b := by rw [Int.mul_sub, Int.mul_neg, Int.mul_one]
      rw [this]; unfold Builtin.bitNot; (clear this g2 g1 f2 f1 e2 hn0 hkps hw hv hps ha k hb hok S hA hW; lia)
    rw [h3, Int.fdiv_eq_ediv_of_nonneg _ (Int.le_of_lt hb), Int.mul_add_ediv_left _ _ (by (clear g2 g1 f2 f1 e1 hn0 hkps hw hv hps ha k hok S hA hW; lia)), Int.ediv_eq_zero_of_lt (by (clear g2 g1 f1 e1 hn0 hkps hw hv hps ha k hb hok S hA hW; lia)) (by (clear h3 g2 g1 f2 e2 e1 hn0 hkps hw hv hps ha k hb hok S hA hW; omega)), Int.add_zero]
  have key2 : (Builtin.bitNot a).fmod b = b - 1 - a.fmod b := by
    rw [key] at e2
    have : b * (-a.fdiv b - 1) = -(b * a.fdiv b) - b := by rw [Int.mul_sub, Int.mul_neg, Int.mul_one]
    rw [this] at e2
    unfold Builtin.bitNot at e2 ⊢
    (clear this key g2 g1 f2 f1 hn0 hkps hw hv hps ha k hb hok S hA hW; omega)
  rw [key, key2]
  have r1 : Builtin.bitNot (-a.fdiv b - 1) = a.fdiv b := by unfold Builtin.bitNot; (clear key2 key g2 g1 f2 f1 e2 e1 hn0 hkps hw hv hps ha k hb hok S hA hW; lia)
  have r2 : b + Builtin.bitNot (b - 1 - a.fmod b) = a.fmod b := by unfold Builtin.bitNot; (clear r1 key2 key g2 g1 f2 f1 e2 e1 hn0 hkps hw hv hps ha k hb hok S hA hW; lia)
  rw [r1, r2]
theorem c_dm (W : Wd) (P : Params) (hW : WL W P) : GCall W 115 92 (fun ps kps d => ∃ (a b : Int), ps = [.dat (.int a), .dat (.int b)] ∧ kps = [] ∧ DmOk a b ∧ d = .tuple [.int (a.fdiv b), .int (a.fmod b)]) := by
  intro A h₀ fenv L m mu fz s vs kvs ps kps d Q E hA S hps hkps hG k
  obtain ⟨a, b, rfl, rfl, hok, rfl⟩ := hG
  by_cases hb : 0 < b
  · exact cdm1 W P hW A h₀ fenv L m mu fz s vs kvs _ _ _ Q E (hA.less (by decide)) S hps hkps ⟨a, b, rfl, rfl, hok, hb, rfl⟩ k
  have hb0 := hok.1
  obtain ⟨v, w, rfl, hv, hw⟩ := PRepA.i2 hps
  cases KRepA.i0 hkps
  refine call_K0 (f := 92) (lv := 114) (by rw [hW.K]; rfl) (by rw [hW.K]; rfl) (by rfl) (by decide) hA S (binds := [("a", v), ("b", w)]) (nsb := ["a", "b"]) (ρ := [("a", .dat (.int a)), ("b", .dat (.int b))]) (BindsTo.of_eq rfl) (by rfl) (by rfl) (by decide)
    (.dat (by walk_at "nm") rfl hv (.dat (by walk_at "nm") rfl hw .nil)) rfl (fun c hc => by cases hc) (fun c hc => by cases hc) ?_ Q k
  refine exr_ifelse (b := false) ((et_cmp (by walk_at "ev") (by walk_at "ev") op_eqi).cast (by simp; (clear hkps hw hv hps hb k hok S hA hW; lia))) (fun e => by cases e) (fun _ => ?_)
  refine exr_ifelse (b := true) ((et_cmp (by walk_at "ev") (by walk_at "ev") op_lt).cast (by simp; (clear hkps hw hv hps k hok S hA hW; lia))) (fun _ => ?_) (fun e => by cases e)
  refine exr_seq (ex_unpack (ev_gcall (by walk_at "glb") (cdm1 W P hW) (.two (ev_un (ev_name rfl) op_neg) (ev_un (ev_name rfl) op_neg)) ⟨-a, -b, rfl, rfl, hok.neg, by (clear hkps hw hv hps k hok S hA hW; lia), rfl⟩ (by decide)) (by walk_at "slot") (by walk_at "nm") (by walk_at "slot") (by walk_at "nm")) ?_
  refine exr_ret ((ev_tup2 (ev_name rfl) (ev_un (ev_name rfl) op_neg)).cast ?_)
  rw [Int.neg_fdiv_neg]
  have e1 := Int.mul_fdiv_add_fmod a b
  have e2 := Int.mul_fdiv_add_fmod (-a) (-b)
  rw [Int.neg_fdiv_neg, Int.neg_mul] at e2
  have : -((-a).fmod (-b)) = a.fmod b := by (clear hkps hw hv hps hb0 hb k hok S hA hW; omega)
  rw [this]
end
section
/-- how the bisects and insorts are called: x, lo, hi, key -/
inductive BShape (x : Dat) : List PV → List (Str × PV) → Nat → Dat → PV → Prop
  | a1 : BShape x [.dat x] [] 0 .none (.dat .none)
  | a2 (lo : Nat) : BShape x [.dat x, .dat (.int lo)] [] lo .none (.dat .none)
  | a3 (lo : Nat) (hi : Dat) : BShape x [.dat x, .dat (.int lo), .dat hi] [] lo hi (.dat .none)
  | k1 (k : PV) : (∀ ds, k ≠ .lst ds) → BShape x [.dat x] [("key", k)] 0 .none k
  | k2 (lo : Nat) (k : PV) : (∀ ds, k ≠ .lst ds) → BShape x [.dat x, .dat (.int lo)] [("key", k)] lo .none k
  | k3 (lo : Nat) (hi : Dat) (k : PV) : (∀ ds, k ≠ .lst ds) → BShape x [.dat x, .dat (.int lo), .dat hi] [("key", k)] lo hi k
/-- the key's value -/
noncomputable def KeyOf (lv : Nat) : PV → Dat → Dat → Prop
  | .dat .none, e, kd => kd = e
  | .fn lf F, e, kd => lf ≤ lv ∧ F [e] = some kd
  | _, _, _ => False
theorem BShape.noLst {x : Dat} {rest : List PV} {kps : List (Str × PV)} {lo : Nat} {hi : Dat} {k : PV} (h : BShape x rest kps lo hi k) : (∀ p ∈ rest, ∀ ds, p ≠ .lst ds) ∧ ∀ p ∈ kps, ∀ ds, p.2 ≠ .lst ds := by
  cases h <;> constructor <;> intro p hp ds e <;> simp at hp <;> (try rcases hp with rfl | rfl | rfl) <;> (try rcases hp with rfl | rfl) <;> (try subst hp) <;> simp at e <;> rename_i hk <;> exact hk ds e
/-- what is asked of a bisect: hi, and the tests -/
structure BOk (lv : Nat) (ds : List Dat) (hiD : Dat) (hi : Nat) (k : PV) (t : Dat → Option Bool) (c : Nat → Bool) : Prop where
  top : (hiD = .none ∧ hi = ds.length) ∨ hiD = .int hi
  le : hi ≤ ds.length
  len : ds.length ≤ 1000
  key : k = .dat .none ∨ ∃ lf F, k = .fn lf F
  test : ∀ m, m < ds.length → ∃ e kd, ds[m]? = some e ∧ KeyOf lv k e kd ∧ t kd = some (c m)
noncomputable def bR (lv : Nat) (ds : List Dat) (rest : List PV) (kps : List (Str × PV)) (d : Dat) : Prop := ∃ x lo hiD hi k c, BShape x rest kps lo hiD k ∧ BOk lv ds hiD hi k (fun kd => ltD x kd) c ∧ d = .int (bis c (hi - lo) lo hi : Nat)
noncomputable def bL (lv : Nat) (ds : List Dat) (rest : List PV) (kps : List (Str × PV)) (d : Dat) : Prop := ∃ x lo hiD hi k c, BShape x rest kps lo hiD k ∧ BOk lv ds hiD hi k (fun kd => (ltD kd x).map (!·)) c ∧ d = .int (bis c (hi - lo) lo hi : Nat)
noncomputable def noneK : PV → Bool
  | .dat d => noneD d
  | _ => false
noncomputable abbrev lhN (lo hi : Nat) (ρ0 : Names) : Names := ("lo", .dat (.int lo)) :: ("hi", .dat (.int hi)) :: ρ0
theorem bis_while {W : Wd} {l : Nat} {sc : Scope} {ρ0 : Names} {test : Expr} {st ifs : Stmt} {c : Nat → Bool} {n : Nat}
    (ht : ∀ lo hi : Nat, ET W l sc (lhN lo hi ρ0) test (decide (lo < hi)))
    (hm : ∀ lo hi : Nat, EX1 W l sc [] (lhN lo hi ρ0) st (.next (("mid", .dat (.int ((lo + hi) / 2 : Nat))) :: lhN lo hi ρ0)))
    (h1 : ∀ lo hi : Nat, lo < hi → hi ≤ n → c ((lo + hi) / 2) = true → EX1 W l sc [] (("mid", .dat (.int ((lo + hi) / 2 : Nat))) :: lhN lo hi ρ0) ifs (.next (lhN lo ((lo + hi) / 2) ρ0)))
    (h2 : ∀ lo hi : Nat, lo < hi → hi ≤ n → c ((lo + hi) / 2) = false → EX1 W l sc [] (("mid", .dat (.int ((lo + hi) / 2 : Nat))) :: lhN lo hi ρ0) ifs (.next (lhN ((lo + hi) / 2 + 1) hi ρ0))) :
    ∀ f lo hi : Nat, hi - lo ≤ f → hi ≤ n → WhileX W l sc [] test [st, ifs] (lhN lo hi ρ0) [("lo", .dat (.int (bis c f lo hi : Nat)))]
  | 0, lo, hi, hf, hn => .done ((ht lo hi).cast (decide_eq_false (by (clear hn h2 h1 hm ht; lia)))) ⟨rfl, trivial⟩
  | f + 1, lo, hi, hf, hn => by
    by_cases hlt : lo < hi
    · unfold bis
      rw [if_pos hlt]
      by_cases hc : c ((lo + hi) / 2) = true
      · rw [if_pos hc]
        exact .turn ((ht lo hi).cast (decide_eq_true hlt)) (ex_seq (hm lo hi) (ex_seq (h1 lo hi hlt hn hc) ex_nil)) (bis_while ht hm h1 h2 f lo _ (by (clear hc hn h2 h1 hm ht; lia)) (by (clear hc hf h2 h1 hm ht; lia)))
      · rw [if_neg hc]
        exact .turn ((ht lo hi).cast (decide_eq_true hlt)) (ex_seq (hm lo hi) (ex_seq (h2 lo hi hlt hn (by simpa using hc)) ex_nil)) (bis_while ht hm h1 h2 f _ hi (by (clear hc hn h2 h1 hm ht; lia)) hn)
    · have : bis c (f + 1) lo hi = lo := by unfold bis; rw [if_neg hlt]
      rw [this]
      exact .done ((ht lo hi).cast (decide_eq_false hlt)) ⟨rfl, trivial⟩
theorem half_cast (lo hi : Nat) : ((lo : Int) + hi).fdiv 2 = (((lo + hi) / 2 : Nat) : Int) := by
  rw [Int.fdiv_eq_ediv_of_nonneg _ (by decide)]; rfl
theorem seqAt_nat {α : Type} {l : List α} {k : Nat} {x : α} (h : l[k]? = some x) : seqAt l (k : Int) = some x := by
  unfold seqAt
  rw [if_neg (by (clear h; lia)), Int.toNat_natCast]; exact h
theorem cd_bR (W : Wd) (P : Params) (hW : WL W P) (l : Nat) : GCall W (l + 1) 32 (fun ps kps d => ∃ ds rest, ps = .dat (.list ds) :: rest ∧ bR l ds rest kps d) := by
  intro A h₀ fenv L m mu fz s vs kvs ps kps d Q E hA S hps hkps hG k
  obtain ⟨ds, rest, rfl, x, lo, hiD, hi, kk, c, sh, ok, rfl⟩ := hG
  have main : ∀ (vs : List Value) (kvs : List (Str × Value)) (va vx vlo vhi vk : Value), BindsTo s (fdOf (Mine.hd.heap_39 P) 32) ⟨vs, kvs⟩ [("a", va), ("x", vx), ("lo", vlo), ("hi", vhi), ("key", vk)] →
      Rep (Hs W.base fz) va (.list ds) → Rep (Hs W.base fz) vx x → Rep (Hs W.base fz) vlo (.int lo) → Rep (Hs W.base fz) vhi hiD → PRep W (Hs W.base fz) mu vk kk → wpAny (model W.prog W.w) A (call (.ref 32) vs kvs) Q E s := by
    intro vs kvs va vx vlo vhi vk hb ra rx rlo rhi rk
    refine call_K0 (f := 32) (lv := l) (by rw [hW.K]; rfl) (by rw [hW.K]; rfl) (by rfl) (by decide) hA S (nsb := ["a", "x", "lo", "hi", "key"]) (ρ := [("a", .dat (.list ds)), ("x", .dat x), ("lo", .dat (.int lo)), ("hi", .dat hiD), ("key", kk)]) hb (by rfl) (by rfl) (by decide)
      (.dat (by walk_at "nm") rfl ra (.dat (by walk_at "nm") rfl rx (.dat (by walk_at "nm") rfl rlo (.dat (by walk_at "nm") rfl rhi (.cons (by walk_at "nm") rfl rk (fun es e => ?_) .nil))))) rfl (fun c hc => by cases hc) (fun c hc => by cases hc) ?_ Q k
    · rcases ok.key with h | ⟨lf, F, h⟩ <;> rw [h] at e <;> cases e
    refine exr_if (b := false) ((et_cmp (by walk_at "ev") (by walk_at "ev") op_lt).cast (by simp)) (fun e => by cases e) (fun _ => ⟨rfl, ?_⟩)
    refine exr_seq (ρ' := lhN lo hi [("a", .dat (.list ds)), ("x", .dat x), ("key", kk)]) (ex_if (b := noneD hiD) (et_dat_is_none rfl) (fun e => ?_) (fun e => ?_)) ?_
    · rcases ok.top with ⟨h1, h2⟩ | h1
      · subst h2
        exact ex_last (ex_assign (ev_len (by walk_at "boot") (ev_name rfl) rfl (by have := ok.len; (clear k ok h1 e rk rhi rlo rx ra hb sh hps hkps S hA hW; lia))) (by walk_at "slot") (by walk_at "nm")) ⟨rfl, rfl, rfl, rfl, rfl, trivial⟩
      · subst h1; cases e
    · rcases ok.top with ⟨h1, h2⟩ | h1
      · subst h1; cases e
      · subst h1; exact ex_nil.forget (SubN.look ⟨rfl, rfl, rfl, rfl, rfl, trivial⟩)
    have hle := ok.le
    have hlen := ok.len
    refine exr_seq (ρ' := [("lo", .dat (.int (bis c (hi - lo) lo hi : Nat)))]) (ex_if (b := noneK kk) ?_ (fun e => ?_) (fun e => ?_)) (exr_ret (ev_name rfl))
    · rcases ok.key with h | ⟨lf, F, h⟩
      · subst h; show ET _ _ _ _ _ (noneD .none); exact et_dat_is_none rfl
      · subst h; exact et_fn_is_none rfl
    · rcases ok.key with h | ⟨lf, F, h⟩
      · subst h
        refine ex_seq (ex_whileX (bis_while (n := ds.length) (c := c) (fun lo hi => (et_cmp (ev_name rfl) (ev_name rfl) op_lt).cast (by simp)) (fun lo hi => ex_assign (d := .int ((lo + hi) / 2 : Nat)) ((ev_bin (ev_bin (ev_name rfl) (ev_name rfl) op_add) ev_int (op_fdiv (by decide) (PyProof.noPylong_small (by decide)))).cast (by rw [half_cast])) (by walk_at "slot") (by walk_at "nm")) (fun lo hi a b hc => ?_) (fun lo hi a b hc => ?_) (hi - lo) lo hi (Nat.le_refl _) hle)) ex_nil
        · obtain ⟨e, kd, h1, h2, h3⟩ := ok.test ((lo + hi) / 2) (by (clear hc e rk ok sh hlen hle rhi rlo rx ra hb k hps hkps S hA hW; lia))
          rw [hc] at h3
          have h2 : kd = e := h2
          subst h2
          exact ex_if (b := true) (et_cmp (ev_name rfl) (ev_item (ev_name rfl) rfl (ev_name rfl) (seqAt_nat h1) (by (clear h2 h1 h3 hc b a e rk ok sh hle rhi rlo rx ra hb k hps hkps S hA hW; lia))) (op_ltD h3)) (fun _ => (ex_last (ex_assign (ev_name rfl) (by walk_at "slot") (by walk_at "nm")) ⟨rfl, rfl, rfl, rfl, rfl, trivial⟩)) (fun q => by cases q)
        · obtain ⟨e, kd, h1, h2, h3⟩ := ok.test ((lo + hi) / 2) (by (clear hc e rk ok sh hlen hle rhi rlo rx ra hb k hps hkps S hA hW; lia))
          rw [hc] at h3
          have h2 : kd = e := h2
          subst h2
          exact ex_if (b := false) (et_cmp (ev_name rfl) (ev_item (ev_name rfl) rfl (ev_name rfl) (seqAt_nat h1) (by (clear h2 h1 h3 hc b a e rk ok sh hle rhi rlo rx ra hb k hps hkps S hA hW; lia))) (op_ltD h3)) (fun q => by cases q) (fun _ => (ex_last (ex_assign ((ev_bin (ev_name rfl) ev_int op_add).cast (pv' := .dat (.int ((lo + hi) / 2 + 1 : Nat))) (by simp)) (by walk_at "slot") (by walk_at "nm")) ⟨rfl, rfl, rfl, rfl, rfl, trivial⟩))
      · subst h; cases e
    · rcases ok.key with h | ⟨lf, F, h⟩
      · subst h; cases e
      · subst h
        refine ex_seq (ex_whileX (bis_while (n := ds.length) (c := c) (fun lo hi => (et_cmp (ev_name rfl) (ev_name rfl) op_lt).cast (by simp)) (fun lo hi => ex_assign (d := .int ((lo + hi) / 2 : Nat)) ((ev_bin (ev_bin (ev_name rfl) (ev_name rfl) op_add) ev_int (op_fdiv (by decide) (PyProof.noPylong_small (by decide)))).cast (by rw [half_cast])) (by walk_at "slot") (by walk_at "nm")) (fun lo hi a b hc => ?_) (fun lo hi a b hc => ?_) (hi - lo) lo hi (Nat.le_refl _) hle)) ex_nil
        · obtain ⟨e, kd, h1, h2, h3⟩ := ok.test ((lo + hi) / 2) (by (clear hc e rk ok sh hlen hle rhi rlo rx ra hb k hps hkps S hA hW; lia))
          rw [hc] at h3
          obtain ⟨hl, h2⟩ := h2
          exact ex_if (b := true) (et_cmp (ev_name rfl) (ev_fcall rfl (.one (ev_item (ev_name rfl) rfl (ev_name rfl) (seqAt_nat h1) (by (clear h2 hl h3 h1 hc b a rk ok sh hle rhi rlo rx ra hb k hps hkps S hA hW; lia)))) h2 hl) (op_ltD h3)) (fun _ => (ex_last (ex_assign (ev_name rfl) (by walk_at "slot") (by walk_at "nm")) ⟨rfl, rfl, rfl, rfl, rfl, trivial⟩)) (fun q => by cases q)
        · obtain ⟨e, kd, h1, h2, h3⟩ := ok.test ((lo + hi) / 2) (by (clear hc e rk ok sh hlen hle rhi rlo rx ra hb k hps hkps S hA hW; lia))
          rw [hc] at h3
          obtain ⟨hl, h2⟩ := h2
          exact ex_if (b := false) (et_cmp (ev_name rfl) (ev_fcall rfl (.one (ev_item (ev_name rfl) rfl (ev_name rfl) (seqAt_nat h1) (by (clear h2 hl h3 h1 hc b a rk ok sh hle rhi rlo rx ra hb k hps hkps S hA hW; lia)))) h2 hl) (op_ltD h3)) (fun q => by cases q) (fun _ => (ex_last (ex_assign ((ev_bin (ev_name rfl) ev_int op_add).cast (pv' := .dat (.int ((lo + hi) / 2 + 1 : Nat))) (by simp)) (by walk_at "slot") (by walk_at "nm")) ⟨rfl, rfl, rfl, rfl, rfl, trivial⟩))
  obtain ⟨va, vs, rfl, hva, hps⟩ := PRepA.ic hps
  cases sh with
  | a1 =>
    obtain ⟨vx, rfl, hvx⟩ := PRepA.i1 hps
    cases KRepA.i0 hkps
    exact main _ _ va vx (Value.int 0 202) .none .none (S.binds fun S => by rw [hW.K]; kernel_rfl) hva hvx (.int 0 _) .none .none
  | a2 lo =>
    obtain ⟨vx, vlo, rfl, hvx, hvl⟩ := PRepA.i2 hps
    cases KRepA.i0 hkps
    exact main _ _ va vx vlo .none .none (S.binds fun S => by rw [hW.K]; kernel_rfl) hva hvx hvl .none .none
  | a3 lo hi =>
    obtain ⟨vx, vlo, vhi, rfl, hvx, hvl, hvh⟩ := PRepA.i3 hps
    cases KRepA.i0 hkps
    exact main _ _ va vx vlo vhi .none (S.binds fun S => by rw [hW.K]; kernel_rfl) hva hvx hvl hvh .none
  | k1 k hk =>
    obtain ⟨vx, rfl, hvx⟩ := PRepA.i1 hps
    obtain ⟨vk, rfl, hvk⟩ := KRepA.i1 hkps
    exact main _ _ va vx (Value.int 0 202) .none vk (S.binds fun S => by rw [hW.K]; kernel_rfl) hva hvx (.int 0 _) .none hvk
  | k2 lo k hk =>
    obtain ⟨vx, vlo, rfl, hvx, hvl⟩ := PRepA.i2 hps
    obtain ⟨vk, rfl, hvk⟩ := KRepA.i1 hkps
    exact main _ _ va vx vlo .none vk (S.binds fun S => by rw [hW.K]; kernel_rfl) hva hvx hvl .none hvk
  | k3 lo hi k hk =>
    obtain ⟨vx, vlo, vhi, rfl, hvx, hvl, hvh⟩ := PRepA.i3 hps
    obtain ⟨vk, rfl, hvk⟩ := KRepA.i1 hkps
    exact main _ _ va vx vlo vhi vk (S.binds fun S => by rw [hW.K]; kernel_rfl) hva hvx hvl hvh hvk
theorem cd_bL (W : Wd) (P : Params) (hW : WL W P) (l : Nat) : GCall W (l + 1) 50 (fun ps kps d => ∃ ds rest, ps = .dat (.list ds) :: rest ∧ bL l ds rest kps d) := by
  intro A h₀ fenv L m mu fz s vs kvs ps kps d Q E hA S hps hkps hG k
  obtain ⟨ds, rest, rfl, x, lo, hiD, hi, kk, c, sh, ok, rfl⟩ := hG
  have main : ∀ (vs : List Value) (kvs : List (Str × Value)) (va vx vlo vhi vk : Value), BindsTo s (fdOf (Mine.hd.heap_39 P) 50) ⟨vs, kvs⟩ [("a", va), ("x", vx), ("lo", vlo), ("hi", vhi), ("key", vk)] →
      Rep (Hs W.base fz) va (.list ds) → Rep (Hs W.base fz) vx x → Rep (Hs W.base fz) vlo (.int lo) → Rep (Hs W.base fz) vhi hiD → PRep W (Hs W.base fz) mu vk kk → wpAny (model W.prog W.w) A (call (.ref 50) vs kvs) Q E s := by
    intro vs kvs va vx vlo vhi vk hb ra rx rlo rhi rk
    refine call_K0 (f := 50) (lv := l) (by rw [hW.K]; rfl) (by rw [hW.K]; rfl) (by rfl) (by decide) hA S (nsb := ["a", "x", "lo", "hi", "key"]) (ρ := [("a", .dat (.list ds)), ("x", .dat x), ("lo", .dat (.int lo)), ("hi", .dat hiD), ("key", kk)]) hb (by rfl) (by rfl) (by decide)
      (.dat (by walk_at "nm") rfl ra (.dat (by walk_at "nm") rfl rx (.dat (by walk_at "nm") rfl rlo (.dat (by walk_at "nm") rfl rhi (.cons (by walk_at "nm") rfl rk (fun es e => ?_) .nil))))) rfl (fun c hc => by cases hc) (fun c hc => by cases hc) ?_ Q k
    · rcases ok.key with h | ⟨lf, F, h⟩ <;> rw [h] at e <;> cases e
    refine exr_if (b := false) ((et_cmp (by walk_at "ev") (by walk_at "ev") op_lt).cast (by simp)) (fun e => by cases e) (fun _ => ⟨rfl, ?_⟩)
    refine exr_seq (ρ' := lhN lo hi [("a", .dat (.list ds)), ("x", .dat x), ("key", kk)]) (ex_if (b := noneD hiD) (et_dat_is_none rfl) (fun e => ?_) (fun e => ?_)) ?_
    · rcases ok.top with ⟨h1, h2⟩ | h1
      · subst h2
        exact ex_last (ex_assign (ev_len (by walk_at "boot") (ev_name rfl) rfl (by have := ok.len; (clear k ok h1 e rk rhi rlo rx ra hb sh hps hkps S hA hW; lia))) (by walk_at "slot") (by walk_at "nm")) ⟨rfl, rfl, rfl, rfl, rfl, trivial⟩
      · subst h1; cases e
    · rcases ok.top with ⟨h1, h2⟩ | h1
      · subst h1; cases e
      · subst h1; exact ex_nil.forget (SubN.look ⟨rfl, rfl, rfl, rfl, rfl, trivial⟩)
    have hle := ok.le
    have hlen := ok.len
    refine exr_seq (ρ' := [("lo", .dat (.int (bis c (hi - lo) lo hi : Nat)))]) (ex_if (b := noneK kk) ?_ (fun e => ?_) (fun e => ?_)) (exr_ret (ev_name rfl))
    · rcases ok.key with h | ⟨lf, F, h⟩
      · subst h; show ET _ _ _ _ _ (noneD .none); exact et_dat_is_none rfl
      · subst h; exact et_fn_is_none rfl
    · rcases ok.key with h | ⟨lf, F, h⟩
      · subst h
        refine ex_seq (ex_whileX (bis_while (n := ds.length) (c := c) (fun lo hi => (et_cmp (ev_name rfl) (ev_name rfl) op_lt).cast (by simp)) (fun lo hi => ex_assign (d := .int ((lo + hi) / 2 : Nat)) ((ev_bin (ev_bin (ev_name rfl) (ev_name rfl) op_add) ev_int (op_fdiv (by decide) (PyProof.noPylong_small (by decide)))).cast (by rw [half_cast])) (by walk_at "slot") (by walk_at "nm")) (fun lo hi a b hc => ?_) (fun lo hi a b hc => ?_) (hi - lo) lo hi (Nat.le_refl _) hle)) ex_nil
        · obtain ⟨e, kd, h1, h2, h3⟩ := ok.test ((lo + hi) / 2) (by (clear hc e rk ok sh hlen hle rhi rlo rx ra hb k hps hkps S hA hW; lia))
          have h3 : ltD kd x = some false := by
            cases q : ltD kd x with
            | none => rw [q] at h3; cases h3
            | some r => rw [q, hc] at h3; cases r <;> simp at h3 ⊢
          have h2 : kd = e := h2
          subst h2
          exact ex_if (b := false) (et_cmp (ev_item (ev_name rfl) rfl (ev_name rfl) (seqAt_nat h1) (by (clear h2 h1 h3 hc b a e rk ok sh hle rhi rlo rx ra hb k hps hkps S hA hW; lia))) (ev_name rfl) (op_ltD h3)) (fun q => by cases q) (fun _ => (ex_last (ex_assign (ev_name rfl) (by walk_at "slot") (by walk_at "nm")) ⟨rfl, rfl, rfl, rfl, rfl, trivial⟩))
        · obtain ⟨e, kd, h1, h2, h3⟩ := ok.test ((lo + hi) / 2) (by (clear hc e rk ok sh hlen hle rhi rlo rx ra hb k hps hkps S hA hW; lia))
          have h3 : ltD kd x = some true := by
            cases q : ltD kd x with
            | none => rw [q] at h3; cases h3
            | some r => rw [q, hc] at h3; cases r <;> simp at h3 ⊢
          have h2 : kd = e := h2
          subst h2
          exact ex_if (b := true) (et_cmp (ev_item (ev_name rfl) rfl (ev_name rfl) (seqAt_nat h1) (by (clear h2 h1 h3 hc b a e rk ok sh hle rhi rlo rx ra hb k hps hkps S hA hW; lia))) (ev_name rfl) (op_ltD h3)) (fun _ => (ex_last (ex_assign ((ev_bin (ev_name rfl) ev_int op_add).cast (pv' := .dat (.int ((lo + hi) / 2 + 1 : Nat))) (by simp)) (by walk_at "slot") (by walk_at "nm")) ⟨rfl, rfl, rfl, rfl, rfl, trivial⟩)) (fun q => by cases q)
      · subst h; cases e
    · rcases ok.key with h | ⟨lf, F, h⟩
      · subst h; cases e
      · subst h
        refine ex_seq (ex_whileX (bis_while (n := ds.length) (c := c) (fun lo hi => (et_cmp (ev_name rfl) (ev_name rfl) op_lt).cast (by simp)) (fun lo hi => ex_assign (d := .int ((lo + hi) / 2 : Nat)) ((ev_bin (ev_bin (ev_name rfl) (ev_name rfl) op_add) ev_int (op_fdiv (by decide) (PyProof.noPylong_small (by decide)))).cast (by rw [half_cast])) (by walk_at "slot") (by walk_at "nm")) (fun lo hi a b hc => ?_) (fun lo hi a b hc => ?_) (hi - lo) lo hi (Nat.le_refl _) hle)) ex_nil
        · obtain ⟨e, kd, h1, h2, h3⟩ := ok.test ((lo + hi) / 2) (by (clear hc e rk ok sh hlen hle rhi rlo rx ra hb k hps hkps S hA hW; lia))
          have h3 : ltD kd x = some false := by
            cases q : ltD kd x with
            | none => rw [q] at h3; cases h3
            | some r => rw [q, hc] at h3; cases r <;> simp at h3 ⊢
          obtain ⟨hl, h2⟩ := h2
          exact ex_if (b := false) (et_cmp (ev_fcall rfl (.one (ev_item (ev_name rfl) rfl (ev_name rfl) (seqAt_nat h1) (by (clear h2 hl h3 h1 hc b a rk ok sh hle rhi rlo rx ra hb k hps hkps S hA hW; lia)))) h2 hl) (ev_name rfl) (op_ltD h3)) (fun q => by cases q) (fun _ => (ex_last (ex_assign (ev_name rfl) (by walk_at "slot") (by walk_at "nm")) ⟨rfl, rfl, rfl, rfl, rfl, trivial⟩))
        · obtain ⟨e, kd, h1, h2, h3⟩ := ok.test ((lo + hi) / 2) (by (clear hc e rk ok sh hlen hle rhi rlo rx ra hb k hps hkps S hA hW; lia))
          have h3 : ltD kd x = some true := by
            cases q : ltD kd x with
            | none => rw [q] at h3; cases h3
            | some r => rw [q, hc] at h3; cases r <;> simp at h3 ⊢
          obtain ⟨hl, h2⟩ := h2
          exact ex_if (b := true) (et_cmp (ev_fcall rfl (.one (ev_item (ev_name rfl) rfl (ev_name rfl) (seqAt_nat h1) (by (clear h2 hl h3 h1 hc b a rk ok sh hle rhi rlo rx ra hb k hps hkps S hA hW; lia)))) h2 hl) (ev_name rfl) (op_ltD h3)) (fun _ => (ex_last (ex_assign ((ev_bin (ev_name rfl) ev_int op_add).cast (pv' := .dat (.int ((lo + hi) / 2 + 1 : Nat))) (by simp)) (by walk_at "slot") (by walk_at "nm")) ⟨rfl, rfl, rfl, rfl, rfl, trivial⟩)) (fun q => by cases q)
  obtain ⟨va, vs, rfl, hva, hps⟩ := PRepA.ic hps
  cases sh with
  | a1 =>
    obtain ⟨vx, rfl, hvx⟩ := PRepA.i1 hps
    cases KRepA.i0 hkps
    exact main _ _ va vx (Value.int 0 229) .none .none (S.binds fun S => by rw [hW.K]; kernel_rfl) hva hvx (.int 0 _) .none .none
  | a2 lo =>
    obtain ⟨vx, vlo, rfl, hvx, hvl⟩ := PRepA.i2 hps
    cases KRepA.i0 hkps
    exact main _ _ va vx vlo .none .none (S.binds fun S => by rw [hW.K]; kernel_rfl) hva hvx hvl .none .none
  | a3 lo hi =>
    obtain ⟨vx, vlo, vhi, rfl, hvx, hvl, hvh⟩ := PRepA.i3 hps
    cases KRepA.i0 hkps
    exact main _ _ va vx vlo vhi .none (S.binds fun S => by rw [hW.K]; kernel_rfl) hva hvx hvl hvh .none
  | k1 k hk =>
    obtain ⟨vx, rfl, hvx⟩ := PRepA.i1 hps
    obtain ⟨vk, rfl, hvk⟩ := KRepA.i1 hkps
    exact main _ _ va vx (Value.int 0 229) .none vk (S.binds fun S => by rw [hW.K]; kernel_rfl) hva hvx (.int 0 _) .none hvk
  | k2 lo k hk =>
    obtain ⟨vx, vlo, rfl, hvx, hvl⟩ := PRepA.i2 hps
    obtain ⟨vk, rfl, hvk⟩ := KRepA.i1 hkps
    exact main _ _ va vx vlo .none vk (S.binds fun S => by rw [hW.K]; kernel_rfl) hva hvx hvl .none hvk
  | k3 lo hi k hk =>
    obtain ⟨vx, vlo, vhi, rfl, hvx, hvl, hvh⟩ := PRepA.i3 hps
    obtain ⟨vk, rfl, hvk⟩ := KRepA.i1 hkps
    exact main _ _ va vx vlo vhi vk (S.binds fun S => by rw [hW.K]; kernel_rfl) hva hvx hvl hvh hvk
/-- a list that turns may be handed, too -/
theorem c_bR (W : Wd) (P : Params) (hW : WL W P) (l : Nat) : GCall W (l + 1) 32 (fun ps kps d => ∃ pv ds rest, pv.items? = some ds ∧ ps = pv :: rest ∧ bR l ds rest kps d) :=
  gcall_ro (cd_bR W P hW l) (fun ds rest kps d h => by obtain ⟨x, lo, hiD, hi, k, c, _, _, rfl⟩ := h; exact ⟨_, rfl⟩) (fun ds rest kps d h => by obtain ⟨x, lo, hiD, hi, k, c, sh, _, rfl⟩ := h; exact sh.noLst)
theorem c_bL (W : Wd) (P : Params) (hW : WL W P) (l : Nat) : GCall W (l + 1) 50 (fun ps kps d => ∃ pv ds rest, pv.items? = some ds ∧ ps = pv :: rest ∧ bL l ds rest kps d) :=
  gcall_ro (cd_bL W P hW l) (fun ds rest kps d h => by obtain ⟨x, lo, hiD, hi, k, c, _, _, rfl⟩ := h; exact ⟨_, rfl⟩) (fun ds rest kps d h => by obtain ⟨x, lo, hiD, hi, k, c, sh, _, rfl⟩ := h; exact sh.noLst)
end
section
noncomputable def iR (lv : Nat) (ds : List Dat) (rest : List PV) (kps : List (Str × PV)) (ds' : List Dat) : Prop := ∃ x kx lo hiD hi k c, BShape x rest kps lo hiD k ∧ KeyOf lv k x kx ∧ BOk lv ds hiD hi k (fun kd => ltD kx kd) c ∧ lo ≤ hi ∧ ds' = ds.take (bis c (hi - lo) lo hi) ++ x :: ds.drop (bis c (hi - lo) lo hi)
theorem c_iR (W : Wd) (P : Params) (hW : WL W P) (l : Nat) : GIns W (l + 2) 23 (iR l) := by
  intro A h₀ fenv L m mu fz s a ds vs kvs ps kps ds' Q E hA S hla hps hkps hG k
  obtain ⟨x, kx, lo, hiD, hi, kk, c, sh, kxk, ok, hlh, rfl⟩ := hG
  have hr : bis c (hi - lo) lo hi ≤ ds.length := Nat.le_trans (bis_le _ _ _ hlh).2 ok.le
  have hlen := ok.len
  generalize hres : bis c (hi - lo) lo hi = r at hr k
  have main : ∀ (vs : List Value) (kvs : List (Str × Value)) (vx vlo vhi vk : Value), BindsTo s (fdOf (Mine.hd.heap_39 P) 23) ⟨.ref a :: vs, kvs⟩ [("a", .ref a), ("x", vx), ("lo", vlo), ("hi", vhi), ("key", vk)] →
      Rep (Hs W.base fz) vx x → Rep (Hs W.base fz) vlo (.int lo) → Rep (Hs W.base fz) vhi hiD → PRep W (Hs W.base fz) mu vk kk → wpAny (model W.prog W.w) A (call (.ref 23) (.ref a :: vs) kvs) Q E s := by
    intro vs kvs vx vlo vhi vk hb rx rlo rhi rk
    refine call_K (f := 23) (lv := l + 1) (ps := ["a"]) (ad := fun _ => a) (out := .next [("a", .lst (ds.take r ++ x :: ds.drop r))]) (by rw [hW.K]; rfl) (by rw [hW.K]; rfl) (by rfl) (by decide) hA S hb (by rfl) (nsb := ["a", "x", "lo", "hi", "key"]) (by rfl) (by decide) (ρ := [("a", .lst ds), ("x", .dat x), ("lo", .dat (.int lo)), ("hi", .dat hiD), ("key", kk)])
      (.cons (by walk_at "nm") rfl hla.prep (fun es e => by cases e; exact ⟨.head _, rfl, hla⟩) (.dat (by walk_at "nm") rfl rx (.dat (by walk_at "nm") rfl rlo (.dat (by walk_at "nm") rfl rhi (.cons (by walk_at "nm") rfl rk (fun es e => ?_) .nil)))))
      (fun y hy => ?_) (fun y hy z hz _ => ?_) rfl (fun c hc => by cases hc) (fun c hc => by cases hc) ?_ Q (fun v fz' mu' ad' h' tk' s' S' r' p' a' l' => ?_)
    · rcases ok.key with h | ⟨lf, F, h⟩ <;> rw [h] at e <;> cases e
    · obtain ⟨ws, n, hm, _⟩ := hla
      exact ⟨_, hm⟩
    · rw [List.mem_singleton.mp hy, List.mem_singleton.mp hz]
    · refine ex_seq (ρ' := [("lo", .dat (.int r)), ("a", .lst ds), ("x", .dat x)]) (ex_if (b := noneK kk) ?_ (fun e => ?_) (fun e => ?_)) (ex_last (ex_insert (k := r) rfl (ev_name rfl) (ev_name rfl) hr (by (clear rk rhi rlo rx hb k hr hres hlh ok kxk sh hkps hps hla S hA hW; lia)) rfl rfl) ⟨rfl, trivial⟩)
      · rcases ok.key with h | ⟨lf, F, h⟩
        · subst h; show ET _ _ _ _ _ (noneD .none); exact et_dat_is_none rfl
        · subst h; exact et_fn_is_none rfl
      · rcases ok.key with h | ⟨lf, F, h⟩
        · subst h
          have kxk : kx = x := kxk
          subst kxk
          exact ex_last (ex_assign (d := .int r) (ev_gcall (by walk_at "glb") (c_bR W P hW l) (.cons rfl (ev_name rfl) (.three (ev_name rfl) (ev_name rfl) (ev_name rfl))) ⟨.lst ds, ds, _, rfl, rfl, kx, lo, hiD, hi, .dat .none, c, .a3 lo hiD, ok, by rw [hres]⟩ (Nat.le_refl _)) (by walk_at "slot") (by walk_at "nm")) ⟨rfl, rfl, rfl, trivial⟩
        · subst h; cases e
      · rcases ok.key with h | ⟨lf, F, h⟩
        · subst h; cases e
        · subst h
          obtain ⟨hlf, hF⟩ := kxk
          exact ex_last (ex_assign (d := .int r) (ev_gcallk (by walk_at "glb") (c_bR W P hW l) (.cons rfl (ev_name rfl) (.three (ev_fcall rfl (.one (ev_name rfl)) hF (by (clear hF e rk ok sh rhi rlo rx hb k hr hres hlen hlh hkps hps hla S hA hW; lia))) (ev_name rfl) (ev_name rfl))) (by simp) (ev_name rfl) ⟨.lst ds, ds, _, rfl, rfl, kx, lo, hiD, hi, .fn lf F, c, .k3 lo hiD _ (fun _ h => by cases h), ok, by rw [hres]⟩ (Nat.le_refl _)) (by walk_at "slot") (by walk_at "nm")) ⟨rfl, rfl, rfl, trivial⟩
    · have hv : v = .none := r'
      subst hv
      exact k fz' mu' h' tk' s' S' ⟨⟨p'.1, fun p hp hne => p'.2 p hp fun z hz => hne "" (.head _)⟩, l' "a" (.head _) _ rfl⟩
  cases sh with
  | a1 =>
    obtain ⟨vx, rfl, hvx⟩ := PRepA.i1 hps
    cases KRepA.i0 hkps
    exact main _ _ vx (Value.int 0 189) .none .none (S.binds fun S => by rw [hW.K]; kernel_rfl) hvx (.int 0 _) .none .none
  | a2 lo =>
    obtain ⟨vx, vlo, rfl, hvx, hvl⟩ := PRepA.i2 hps
    cases KRepA.i0 hkps
    exact main _ _ vx vlo .none .none (S.binds fun S => by rw [hW.K]; kernel_rfl) hvx hvl .none .none
  | a3 lo hi =>
    obtain ⟨vx, vlo, vhi, rfl, hvx, hvl, hvh⟩ := PRepA.i3 hps
    cases KRepA.i0 hkps
    exact main _ _ vx vlo vhi .none (S.binds fun S => by rw [hW.K]; kernel_rfl) hvx hvl hvh .none
  | k1 k hk =>
    obtain ⟨vx, rfl, hvx⟩ := PRepA.i1 hps
    obtain ⟨vk, rfl, hvk⟩ := KRepA.i1 hkps
    exact main _ _ vx (Value.int 0 189) .none vk (S.binds fun S => by rw [hW.K]; kernel_rfl) hvx (.int 0 _) .none hvk
  | k2 lo k hk =>
    obtain ⟨vx, vlo, rfl, hvx, hvl⟩ := PRepA.i2 hps
    obtain ⟨vk, rfl, hvk⟩ := KRepA.i1 hkps
    exact main _ _ vx vlo .none vk (S.binds fun S => by rw [hW.K]; kernel_rfl) hvx hvl .none hvk
  | k3 lo hi k hk =>
    obtain ⟨vx, vlo, vhi, rfl, hvx, hvl, hvh⟩ := PRepA.i3 hps
    obtain ⟨vk, rfl, hvk⟩ := KRepA.i1 hkps
    exact main _ _ vx vlo vhi vk (S.binds fun S => by rw [hW.K]; kernel_rfl) hvx hvl hvh hvk
noncomputable def iL (lv : Nat) (ds : List Dat) (rest : List PV) (kps : List (Str × PV)) (ds' : List Dat) : Prop := ∃ x kx lo hiD hi k c, BShape x rest kps lo hiD k ∧ KeyOf lv k x kx ∧ BOk lv ds hiD hi k (fun kd => (ltD kd kx).map (!·)) c ∧ lo ≤ hi ∧ ds' = ds.take (bis c (hi - lo) lo hi) ++ x :: ds.drop (bis c (hi - lo) lo hi)
theorem c_iL (W : Wd) (P : Params) (hW : WL W P) (l : Nat) : GIns W (l + 2) 41 (iL l) := by
  intro A h₀ fenv L m mu fz s a ds vs kvs ps kps ds' Q E hA S hla hps hkps hG k
  obtain ⟨x, kx, lo, hiD, hi, kk, c, sh, kxk, ok, hlh, rfl⟩ := hG
  have hr : bis c (hi - lo) lo hi ≤ ds.length := Nat.le_trans (bis_le _ _ _ hlh).2 ok.le
  have hlen := ok.len
  generalize hres : bis c (hi - lo) lo hi = r at hr k
  have main : ∀ (vs : List Value) (kvs : List (Str × Value)) (vx vlo vhi vk : Value), BindsTo s (fdOf (Mine.hd.heap_39 P) 41) ⟨.ref a :: vs, kvs⟩ [("a", .ref a), ("x", vx), ("lo", vlo), ("hi", vhi), ("key", vk)] →
      Rep (Hs W.base fz) vx x → Rep (Hs W.base fz) vlo (.int lo) → Rep (Hs W.base fz) vhi hiD → PRep W (Hs W.base fz) mu vk kk → wpAny (model W.prog W.w) A (call (.ref 41) (.ref a :: vs) kvs) Q E s := by
    intro vs kvs vx vlo vhi vk hb rx rlo rhi rk
    refine call_K (f := 41) (lv := l + 1) (ps := ["a"]) (ad := fun _ => a) (out := .next [("a", .lst (ds.take r ++ x :: ds.drop r))]) (by rw [hW.K]; rfl) (by rw [hW.K]; rfl) (by rfl) (by decide) hA S hb (by rfl) (nsb := ["a", "x", "lo", "hi", "key"]) (by rfl) (by decide) (ρ := [("a", .lst ds), ("x", .dat x), ("lo", .dat (.int lo)), ("hi", .dat hiD), ("key", kk)])
      (.cons (by walk_at "nm") rfl hla.prep (fun es e => by cases e; exact ⟨.head _, rfl, hla⟩) (.dat (by walk_at "nm") rfl rx (.dat (by walk_at "nm") rfl rlo (.dat (by walk_at "nm") rfl rhi (.cons (by walk_at "nm") rfl rk (fun es e => ?_) .nil)))))
      (fun y hy => ?_) (fun y hy z hz _ => ?_) rfl (fun c hc => by cases hc) (fun c hc => by cases hc) ?_ Q (fun v fz' mu' ad' h' tk' s' S' r' p' a' l' => ?_)
    · rcases ok.key with h | ⟨lf, F, h⟩ <;> rw [h] at e <;> cases e
    · obtain ⟨ws, n, hm, _⟩ := hla
      exact ⟨_, hm⟩
    · rw [List.mem_singleton.mp hy, List.mem_singleton.mp hz]
    · refine ex_seq (ρ' := [("lo", .dat (.int r)), ("a", .lst ds), ("x", .dat x)]) (ex_if (b := noneK kk) ?_ (fun e => ?_) (fun e => ?_)) (ex_last (ex_insert (k := r) rfl (ev_name rfl) (ev_name rfl) hr (by (clear rk rhi rlo rx hb k hr hres hlh ok kxk sh hkps hps hla S hA hW; lia)) rfl rfl) ⟨rfl, trivial⟩)
      · rcases ok.key with h | ⟨lf, F, h⟩
        · subst h; show ET _ _ _ _ _ (noneD .none); exact et_dat_is_none rfl
        · subst h; exact et_fn_is_none rfl
      · rcases ok.key with h | ⟨lf, F, h⟩
        · subst h
          have kxk : kx = x := kxk
          subst kxk
          exact ex_last (ex_assign (d := .int r) (ev_gcall (by walk_at "glb") (c_bL W P hW l) (.cons rfl (ev_name rfl) (.three (ev_name rfl) (ev_name rfl) (ev_name rfl))) ⟨.lst ds, ds, _, rfl, rfl, kx, lo, hiD, hi, .dat .none, c, .a3 lo hiD, ok, by rw [hres]⟩ (Nat.le_refl _)) (by walk_at "slot") (by walk_at "nm")) ⟨rfl, rfl, rfl, trivial⟩
        · subst h; cases e
      · rcases ok.key with h | ⟨lf, F, h⟩
        · subst h; cases e
        · subst h
          obtain ⟨hlf, hF⟩ := kxk
          exact ex_last (ex_assign (d := .int r) (ev_gcallk (by walk_at "glb") (c_bL W P hW l) (.cons rfl (ev_name rfl) (.three (ev_fcall rfl (.one (ev_name rfl)) hF (by (clear hF e rk ok sh rhi rlo rx hb k hr hres hlen hlh hkps hps hla S hA hW; lia))) (ev_name rfl) (ev_name rfl))) (by simp) (ev_name rfl) ⟨.lst ds, ds, _, rfl, rfl, kx, lo, hiD, hi, .fn lf F, c, .k3 lo hiD _ (fun _ h => by cases h), ok, by rw [hres]⟩ (Nat.le_refl _)) (by walk_at "slot") (by walk_at "nm")) ⟨rfl, rfl, rfl, trivial⟩
    · have hv : v = .none := r'
      subst hv
      exact k fz' mu' h' tk' s' S' ⟨⟨p'.1, fun p hp hne => p'.2 p hp fun z hz => hne "" (.head _)⟩, l' "a" (.head _) _ rfl⟩
  cases sh with
  | a1 =>
    obtain ⟨vx, rfl, hvx⟩ := PRepA.i1 hps
    cases KRepA.i0 hkps
    exact main _ _ vx (Value.int 0 216) .none .none (S.binds fun S => by rw [hW.K]; kernel_rfl) hvx (.int 0 _) .none .none
  | a2 lo =>
    obtain ⟨vx, vlo, rfl, hvx, hvl⟩ := PRepA.i2 hps
    cases KRepA.i0 hkps
    exact main _ _ vx vlo .none .none (S.binds fun S => by rw [hW.K]; kernel_rfl) hvx hvl .none .none
  | a3 lo hi =>
    obtain ⟨vx, vlo, vhi, rfl, hvx, hvl, hvh⟩ := PRepA.i3 hps
    cases KRepA.i0 hkps
    exact main _ _ vx vlo vhi .none (S.binds fun S => by rw [hW.K]; kernel_rfl) hvx hvl hvh .none
  | k1 k hk =>
    obtain ⟨vx, rfl, hvx⟩ := PRepA.i1 hps
    obtain ⟨vk, rfl, hvk⟩ := KRepA.i1 hkps
    exact main _ _ vx (Value.int 0 216) .none vk (S.binds fun S => by rw [hW.K]; kernel_rfl) hvx (.int 0 _) .none hvk
  | k2 lo k hk =>
    obtain ⟨vx, vlo, rfl, hvx, hvl⟩ := PRepA.i2 hps
    obtain ⟨vk, rfl, hvk⟩ := KRepA.i1 hkps
    exact main _ _ vx vlo .none vk (S.binds fun S => by rw [hW.K]; kernel_rfl) hvx hvl .none hvk
  | k3 lo hi k hk =>
    obtain ⟨vx, vlo, vhi, rfl, hvx, hvl, hvh⟩ := PRepA.i3 hps
    obtain ⟨vk, rfl, hvk⟩ := KRepA.i1 hkps
    exact main _ _ vx vlo vhi vk (S.binds fun S => by rw [hW.K]; kernel_rfl) hvx hvl hvh hvk
end
section
noncomputable def few (ns : List Int) : List Int := (ns.take 60).map (·.fmod 1000000)
/-- the sum of each so many-th number from the k-th on -/
noncomputable def strideSum (l : List Int) (k n : Nat) : Int := (pick l (some (k : Int)) none (some (n : Int))).sum
noncomputable def cellsOf (ns bs : List Int) : List Int := (List.range bs.length).map fun k => bs.getD k 0 + strideSum (few ns) k bs.length
theorem c_cells (W : Wd) (P : Params) (hW : WL W P) : GCall W 3 104 (fun ps kps d => ∃ (ns bs : List Int), ps = [.dat (.list (ns.map .int)), .dat (.tuple (bs.map .int))] ∧ kps = [] ∧ ns.length ≤ 63 ∧ bs.length ≤ 10 ∧ d = .list ((cellsOf ns bs).map .int)) := by
  intro A h₀ fenv L m mu fz s vs kvs ps kps d Q E hA S hps hkps hG k
  obtain ⟨ns, bs, rfl, rfl, hl, hb, rfl⟩ := hG
  obtain ⟨v, w, rfl, hv, hw⟩ := PRepA.i2 hps
  cases KRepA.i0 hkps
  refine call_K0 (f := 104) (lv := 2) (by rw [hW.K]; rfl) (by rw [hW.K]; rfl) (by rfl) (by decide) hA S (binds := [("script", v), ("bases", w)]) (nsb := ["script", "bases"]) (ρ := [("script", .dat (.list (ns.map .int))), ("bases", .dat (.tuple (bs.map .int)))]) (BindsTo.of_eq rfl) (by rfl) (by rfl) (by decide)
    (.dat (by walk_at "nm") rfl hv (.dat (by walk_at "nm") rfl hw .nil)) rfl (fun c hc => by cases hc) (fun c hc => by cases hc) ?_ Q k
  have hfew : (few ns).length ≤ 60 := by unfold few; rw [List.length_map, List.length_take]; (clear hkps hw hv hps k hb S hA hW; lia)
  refine exr_seq (ρ' := [("few", .dat (.list ((few ns).map .int))), ("bases", .dat (.tuple (bs.map .int)))]) (EX.to (exa_map (xs := ns.take 60) (inj := Dat.int) (g := fun x => .int (x.fmod 1000000)) (ρ' := []) (by walk_at "side") inj_int (ei_list (EV.cast (pv' := .dat (.list ((ns.take 60).map .int))) (ev_slice (ev_name rfl) rfl .none (.some ev_int) .none (by decide) ?_) ?_) rfl) (fun x hx => ⟨_, rfl, by walk_at "ev"⟩) ?_ (by walk_at "slot") (by walk_at "nm")) ⟨?_, rfl, trivial⟩) ?_
  · simp; (clear hfew hkps hw hv hps k hb S hA hW; lia)
  · rw [show (60 : Int) = ((60 : Nat) : Int) from rfl, pick_upto, List.map_take]
  · rw [List.length_take]; (clear hfew hkps hw hv hps k hb S hA hW; lia)
  · unfold few; rw [List.map_map]; rfl
  · refine exr_ret ((ev_map (xs := List.range bs.length) (inj := fun i : Nat => .int i) (g := fun k => .int (bs.getD k 0 + strideSum (few ns) k bs.length)) (ρ' := [("few", .dat (.list ((few ns).map .int))), ("bases", .dat (.tuple (bs.map .int)))]) (by walk_at "side") inj_nat (ei_rangeN (by walk_at "boot") ?_).up (fun k hk => ⟨[("k", .dat (.int k))], rfl, ?_⟩) ?_).cast ?_)
    · exact (ev_bcall (id := "len") (ds := [.tuple (bs.map .int)]) (by walk_at "boot") (.one (ev_name rfl)) (op_len_tuple (by simp; (clear hfew hkps hw hv hps k hl S hA hW; lia)))).cast (by simp)
    · have hk : k < bs.length := List.mem_range.mp hk
      have hb : bs[k]? = some (bs.getD k 0) := by rw [List.getD_eq_getElem?_getD, List.getElem?_eq_getElem hk]; rfl
      refine ev_bin (ev_titem (d := .int (bs.getD k 0)) (ev_name rfl) (ev_name rfl) (seqAt_nat (by rw [List.getElem?_map, hb]; rfl)) (by simp; (clear hb hk hfew hkps hw hv hps hl S hA hW; lia))) (ev_bcall (id := "sum") (ds := [.list ((pick (few ns) (some (k : Int)) none (some (bs.length : Int))).map .int)]) (by walk_at "boot") (.one ?_) op_sum) op_add
      refine (ev_slice (ev_name rfl) rfl (.some (ev_name rfl)) .none (.some (EV.cast (pv' := .dat (.int bs.length)) (ev_bcall (id := "len") (ds := [.tuple (bs.map .int)]) (by walk_at "boot") (.one (ev_name rfl)) (op_len_tuple (by simp; (clear hb hk hfew hkps hw hv hps hl S hA hW; lia)))) (by simp))) ?_ (by simp; (clear hb hk hkps hw hv hps hl S hA hW; lia))).cast ?_
      · intro e; injection e with e; (clear hb hfew hkps hw hv hps hl S hA hW; lia)
      · rw [pick_map]
    · simp; (clear hfew hkps hw hv hps k hl S hA hW; lia)
    · unfold cellsOf
      rw [List.map_map]; rfl
end
section

end
section
/-! the steps of one fraction -/
noncomputable def bitN (ways k : Nat) : Nat := ways / 2 ^ k % 2
noncomputable def quo (b l u : Nat) : Nat := if b = 1 then (l + u - 1) / u else l / u
noncomputable def lef (b l u : Nat) : Nat := if b = 1 then quo 1 l u * u - l else l % u
noncomputable def sd (b : Nat) : Int := 1 - b * 2
noncomputable def stepsF (ways l : Nat) : Nat → Nat → Nat → List Nat
  | 0, _, _ => []
  | f + 1, k, u => if u = 0 then [] else quo (bitN ways k) l u :: stepsF ways l f (k + 1) (lef (bitN ways k) l u)
theorem bitN_lt (ways k : Nat) : bitN ways k = 0 ∨ bitN ways k = 1 := by unfold bitN; lia
theorem ceil_spec {l u : Nat} (hu : 0 < u) : l ≤ (l + u - 1) / u * u ∧ (l + u - 1) / u * u < l + u := by
  have h1 := Nat.div_add_mod (l + u - 1) u
  have h2 := Nat.mod_lt (l + u - 1) hu
  rw [Nat.mul_comm] at h1
  lia
theorem lef_lt {b l u : Nat} (hu : 0 < u) : lef b l u < u := by
  unfold lef quo
  split
  · have := ceil_spec (l := l) hu; simp only [if_true]; omega
  · exact Nat.mod_lt _ hu
theorem dmF {b l u : Nat} (hb : b = 0 ∨ b = 1) (hu : 0 < u) : (l : Int).fdiv (sd b * u) = sd b * quo b l u ∧ (l : Int).fmod (sd b * u) = sd b * lef b l u := by
  rcases hb with rfl | rfl
  · have e : sd 0 = 1 := rfl
    rw [e, Int.one_mul, Int.one_mul, Int.one_mul]
    refine (Int.fdiv_fmod_unique (by lia)).mpr ⟨?_, by (clear e hu; lia), ?_⟩
    · show ((l % u : Nat) : Int) + (u : Int) * ((l / u : Nat) : Int) = l
      have := Nat.mod_add_div l u
      exact_mod_cast this
    · have := Nat.mod_lt l hu
      show ((l % u : Nat) : Int) < u
      (clear e hu; lia)
  · have e : sd 1 = -1 := rfl
    have hc := ceil_spec (l := l) hu
    have h1 : lef 1 l u = (l + u - 1) / u * u - l := rfl
    have h2 : quo 1 l u = (l + u - 1) / u := rfl
    rw [e, Int.neg_one_mul, Int.neg_one_mul, Int.neg_one_mul, h1, h2]
    generalize hq : (l + u - 1) / u = q at hc
    refine (Int.fdiv_fmod_unique' (by (clear hc hq h2 h1 e; lia))).mpr ⟨?_, by (clear hq h2 h1 e hu; omega), by (clear hc hq h2 h1 e hu; lia)⟩
    rw [Int.neg_mul_neg, Int.mul_comm]
    have : (q : Int) * u = ((q * u : Nat) : Int) := by push_cast; rfl
    rw [this]; (clear this hq h2 h1 e hu; omega)
theorem sd_sq {b : Nat} (hb : b = 0 ∨ b = 1) (x : Int) : sd b * x * sd b = x := by
  rcases hb with rfl | rfl
  · show 1 * x * 1 = x; lia
  · show -1 * x * -1 = x; lia
theorem quo_le {b l u : Nat} (hb : b = 0 ∨ b = 1) (hu : 0 < u) (hl : 0 < l) : quo b l u ≤ l := by
  rcases hb with rfl | rfl
  · exact Nat.div_le_self _ _
  · show (l + u - 1) / u ≤ l
    rw [Nat.div_le_iff_le_mul_add_pred hu]
    have : l ≤ u * l := Nat.le_mul_of_pos_left _ hu
    lia
theorem quo_pos {b l u : Nat} (hb : b = 0 ∨ b = 1) (hu : 0 < u) (h : u ≤ l) : 1 ≤ quo b l u := by
  rcases hb with rfl | rfl
  · exact Nat.div_pos h hu
  · exact Nat.div_pos (by (clear hu; lia)) hu
theorem lef_eq {b l u : Nat} (hb : b = 0 ∨ b = 1) (hu : 0 < u) : (l : Int) = quo b l u * u + sd b * lef b l u := by
  rcases hb with rfl | rfl
  · have := Nat.mod_add_div l u
    show (l : Int) = ((l / u : Nat) : Int) * u + 1 * ((l % u : Nat) : Int)
    rw [Int.one_mul, Int.mul_comm, Int.add_comm]
    exact_mod_cast this.symm
  · have hc := ceil_spec (l := l) hu
    have h1 : lef 1 l u = (l + u - 1) / u * u - l := rfl
    have h2 : quo 1 l u = (l + u - 1) / u := rfl
    have e : sd 1 = -1 := rfl
    rw [h1, h2, e]
    generalize (l + u - 1) / u = q at hc
    have : (q : Int) * u = ((q * u : Nat) : Int) := by push_cast; rfl
    rw [this]; (clear this e h2 h1 hu; omega)
theorem sd_bits (b : Nat) (hb : b = 0 ∨ b = 1) : Builtin.Int.intBits (sd b) ≤ 64 := by rcases hb with rfl | rfl <;> decide
theorem pow_two_log (k : Nat) : ((2 : Int) ^ k).natAbs.log2 = k := by
  rw [Int.natAbs_pow]; exact Nat.log2_two_pow
theorem ty_tuple : typeOf (.type "tuple") = pure (.type "type") := by first | rfl | decide
theorem exr_forx {W : Wd} {lv : Nat} {sc : Scope} {ρ ρ₁ : Names} {t iter : Expr} {body rest : List Stmt} {pos : Pos} {items : List Dat} {d : Dat} (k : SubN ρ ρ₁) (hset : ∀ x env, foldedSetIterable iter env x = pure x) (hi : EI (fun _ => []) W lv sc ρ₁ iter items) (ht : ∀ x ∈ tn t, slot sc x ∧ PlainName x) (hr : ∃ ρe, ForR W lv sc [] t body items ρ₁ (.ret d ρe)) : EXR W lv sc ρ (.For t iter body [] pos :: rest) d :=
  let ⟨_, hr⟩ := hr; exr_of (EX.from (ex_for hset hi ht hr) k)
theorem c_steps (W : Wd) (P : Params) (hW : WL W P) : GCall W 116 111 (fun ps kps d => ∃ (u l ways : Nat), ps = [.dat (.int u), .dat (.int l), .dat (.int ways)] ∧ kps = [] ∧ u ≤ l ∧ 0 < l ∧ l ≤ 200 ∧ d = .list ((stepsF ways l (l + 1) 0 u).map fun n : Nat => Dat.int n)) := by
  intro A h₀ fenv L m mu fz s₀ vs kvs ps kps d Q E hA S hps hkps hG k
  obtain ⟨u, l, ways, rfl, rfl, hul, hl0, hl, rfl⟩ := hG
  obtain ⟨v1, v2, v3, rfl, hv1, hv2, hv3⟩ := PRepA.i3 hps
  cases KRepA.i0 hkps
  refine call_K0 (f := 111) (lv := 115) (by rw [hW.K]; rfl) (by rw [hW.K]; rfl) (by rfl) (by decide) hA S (binds := [("upper", v1), ("lower", v2), ("ways", v3)]) (nsb := ["upper", "lower", "ways"]) (ρ := [("upper", .dat (.int u)), ("lower", .dat (.int l)), ("ways", .dat (.int ways))]) (BindsTo.of_eq rfl) (by rfl) (by rfl) (by decide)
    (.dat (by walk_at "nm") rfl hv1 (.dat (by walk_at "nm") rfl hv2 (.dat (by walk_at "nm") rfl hv3 .nil))) rfl (fun c hc => by cases hc) (fun c hc => by cases hc) ?_ Q k
  refine exr_seq (ex_swap2 (p := .lst []) (q := .dat (.int u)) (ef_list (ds := []) .nil) (ev_name rfl) rfl rfl (by rfl) (by walk_at "nm") (by rfl) (by walk_at "nm") (by decide) (by simp) (by simp) (fun _ => rfl) ?_) ?_
  · exact fun env h1 h2 h3 => swapped2 h1 h2 h3 (by rfl) (by decide) (by rfl) (by rfl) (by rfl)
  obtain ⟨pre, hpre⟩ : ∃ pre : List Nat, pre = [] := ⟨_, rfl⟩
  obtain ⟨j, hj⟩ : ∃ j : Nat, j = 0 := ⟨_, rfl⟩
  obtain ⟨x, hx⟩ : ∃ x : Nat, x = u := ⟨_, rfl⟩
  have hst : stepsF ways l (l + 1) 0 u = pre ++ stepsF ways l (l + 1) j x := by rw [hpre, hj, hx]; rfl
  rw [hst]
  refine exr_forx (ρ₁ := [("steps", .lst (pre.map fun n : Nat => Dat.int n)), ("left", .dat (.int x)), ("lower", .dat (.int l)), ("ways", .dat (.int ways))]) (items := (List.range' j (l + 1)).map fun i : Nat => Dat.int i) ⟨by rw [hpre]; rfl, by rw [hx]; rfl, rfl, rfl, trivial⟩ (fun _ _ => rfl) ?_ ?_ ?_
  · rw [hj, ← List.range_eq_range']; exact ei_rangeN (by walk_at "boot") (by walk_at "ev")
  · intro x hx
    rcases List.mem_cons.mp hx with rfl | hx
    · exact ⟨by walk_at "slot", by walk_at "nm"⟩
    · cases hx
  have h1 : x < l + 1 := by (clear hst hj hpre hkps hv3 hv2 hv1 hps k hl hl0 S hA hW; lia)
  have h2 : j + (l + 1) ≤ 300 := by (clear h1 hst hx hpre hkps hv3 hv2 hv1 hps k hul S hA hW; lia)
  have h3 : pre.length + (l + 1) ≤ 300 := by rw [hpre]; simp; (clear h2 h1 hst hx hj hpre hkps hv3 hv2 hv1 hps k hul S hA hW; lia)
  have h4 : x ≤ l := by (clear h3 h2 h1 hst hj hpre hkps hv3 hv2 hv1 hps k hl hl0 S hA hW; lia)
  clear k hst hpre hj hx hv1 hv2 hv3 hps hul
  revert h1 h2 h3 h4
  generalize l + 1 = m
  intro h1 h2 h3 h4
  induction m generalizing j x pre with
  | zero => (clear h4 h3 h2 hkps hl hl0 S hA hW; lia)
  | succ m ih =>
    rw [List.range'_succ]
    by_cases hz : x = 0
    · have e : stepsF ways l (m + 1) j x = [] := by rw [stepsF, if_pos hz]
      rw [e, List.append_nil]
      refine ⟨_, ForR.ret (bs := [("k", .dat (.int j))]) (d := .int j) rfl (ex_ret (ex_if (b := true) ((et_cmp (ev_name rfl) ev_int op_eqi).cast (by rw [hz]; rfl)) (fun _ => ex_freeze (x := "steps") rfl (by simp) (ex_ret (ex_return (ev_name rfl)))) (fun h => by cases h)))⟩
    · have hx0 : 0 < x := by (clear h4 h3 h2 h1 ih hkps hl hl0 S hA hW; lia)
      have hb := bitN_lt ways j
      have hbe : bitN ways j = ways / 2 ^ j % 2 := rfl
      obtain ⟨d1, d2⟩ := dmF (l := l) hb hx0
      have hql := quo_le hb hx0 hl0
      have hll := lef_lt (b := bitN ways j) (l := l) hx0
      have hq2 := sd_sq hb (quo (bitN ways j) l x)
      have hl2 := sd_sq hb (lef (bitN ways j) l x)
      have hle := lef_eq (l := l) hb hx0
      have e : stepsF ways l (m + 1) j x = quo (bitN ways j) l x :: stepsF ways l m (j + 1) (lef (bitN ways j) l x) := by rw [stepsF, if_neg hz]
      rw [e]
      have e2 : pre ++ quo (bitN ways j) l x :: stepsF ways l m (j + 1) (lef (bitN ways j) l x) = (pre ++ [quo (bitN ways j) l x]) ++ stepsF ways l m (j + 1) (lef (bitN ways j) l x) := by simp
      rw [e2]
      obtain ⟨ρe, hih⟩ := ih (j := j + 1) (pre := pre ++ [quo (bitN ways j) l x]) (x := lef (bitN ways j) l x) (by (clear e2 e hle hq2 hql d2 d1 hbe hb hx0 hz h4 h3 h2 ih hkps hl hl0 S hA hW; lia)) (by (clear e2 e hle hl2 hq2 hll hql d2 d1 hbe hb hx0 hz h4 h3 h1 ih hkps hl hl0 S hA hW; lia)) (by simp; (clear e2 e hle hl2 hq2 hll hql d2 d1 hbe hb hx0 hz h4 h2 h1 ih hkps hl hl0 S hA hW; lia)) (by (clear e2 e hq2 hql d2 d1 hbe hb hx0 hz h3 h2 h1 ih hkps hl hl0 S hA hW; lia))
      refine ⟨ρe, ForR.cons (bs := [("k", .dat (.int j))]) (d := .int j) (ρ' := [("steps", .lst ((pre ++ [quo (bitN ways j) l x]).map fun n : Nat => Dat.int n)), ("left", .dat (.int (lef (bitN ways j) l x))), ("lower", .dat (.int l)), ("ways", .dat (.int ways))]) rfl ?_ hih⟩
      generalize quo (bitN ways j) l x = q at *
      generalize lef (bitN ways j) l x = y at *
      have hsb := sd_bits _ hb
      have hsx : Builtin.Int.intBits (sd (bitN ways j) * (x : Int)) ≤ 64 := by
        rcases hb with h | h <;> rw [h]
        · show Builtin.Int.intBits (1 * (x : Int)) ≤ 64; exact intBits_le_64 (by (clear h hsb hih e2 e hle hl2 hll d2 hq2 hql d1 hbe hz h4 h3 h2 h1 ih hkps hl hl0 S hA hW; lia)) (by (clear h hsb hih e2 e hle hl2 hll d2 hq2 hql d1 hbe hx0 hz h4 h3 ih hkps hl hl0 S hA hW; lia))
        · show Builtin.Int.intBits (-1 * (x : Int)) ≤ 64; exact intBits_le_64 (by (clear h hsb hih e2 e hle hl2 hll d2 hq2 hql d1 hbe hx0 hz h4 h3 ih hkps hl hl0 S hA hW; lia)) (by (clear h hsb hih e2 e hle hl2 hll d2 hq2 hql d1 hbe hz h4 h3 h2 h1 ih hkps hl hl0 S hA hW; lia))
      have hsx0 : sd (bitN ways j) * (x : Int) ≠ 0 := by
        rcases hb with h | h <;> rw [h]
        · show (1 * (x : Int)) ≠ 0; (clear h hsx hsb hih e2 e hle hl2 hll d2 hq2 hql d1 hbe hz h4 h3 h2 h1 ih hkps hl hl0 S hA hW; lia)
        · show (-1 * (x : Int)) ≠ 0; (clear h hsx hsb hih e2 e hle hl2 hll d2 hq2 hql d1 hbe hz h4 h3 h2 h1 ih hkps hl hl0 S hA hW; lia)
      have hsq : Builtin.Int.intBits (sd (bitN ways j) * (q : Int)) ≤ 64 := by
        rcases hb with h | h <;> rw [h]
        · show Builtin.Int.intBits (1 * (q : Int)) ≤ 64; exact intBits_le_64 (by (clear h hsx0 hsx hsb hih e2 e hle hl2 hll d2 hql d1 hbe hx0 hz h4 h3 h2 h1 ih hkps hl hl0 S hA hW; lia)) (by (clear h hsx0 hsx hsb hih e2 e hl2 hll d2 d1 hbe hx0 hz h4 h3 h2 h1 ih hkps S hA hW; lia))
        · show Builtin.Int.intBits (-1 * (q : Int)) ≤ 64; exact intBits_le_64 (by (clear h hsx0 hsx hsb hih e2 e hl2 hll d2 d1 hbe hx0 hz h4 h3 h2 h1 ih hkps S hA hW; lia)) (by (clear h hsx0 hsx hsb hih e2 e hle hl2 hll d2 hql d1 hbe hx0 hz h4 h3 h2 h1 ih hkps hl hl0 S hA hW; lia))
      have hsy : Builtin.Int.intBits (sd (bitN ways j) * (y : Int)) ≤ 64 := by
        rcases hb with h | h <;> rw [h]
        · show Builtin.Int.intBits (1 * (y : Int)) ≤ 64; exact intBits_le_64 (by (clear h hsq hsx0 hsx hsb hih e2 e hle hll d2 hq2 hql d1 hbe hx0 hz h4 h3 h2 h1 ih hkps hl hl0 S hA hW; lia)) (by (clear h hsq hsx0 hsx hsb hih e2 e hle d2 hq2 hql d1 hbe hx0 hz h4 h3 ih hkps hl hl0 S hA hW; lia))
        · show Builtin.Int.intBits (-1 * (y : Int)) ≤ 64; exact intBits_le_64 (by (clear h hsq hsx0 hsx hsb hih e2 e hle d2 hq2 hql d1 hbe hx0 hz h4 h3 ih hkps hl hl0 S hA hW; lia)) (by (clear h hsq hsx0 hsx hsb hih e2 e hle hll d2 hq2 hql d1 hbe hx0 hz h4 h3 h2 h1 ih hkps hl hl0 S hA hW; lia))
      have hq3 : Builtin.Int.intBits (q : Int) ≤ 64 := intBits_le_64 (by (clear hsy hsq hsx0 hsx hsb hih e2 e hle hl2 hll d2 hql d1 hbe hb hx0 hz h4 h3 h2 h1 ih hkps hl hl0 S hA hW; lia)) (by (clear hsy hsq hsx0 hsx hsb hih e2 e hl2 hll d2 d1 hbe hb hx0 hz h4 h3 h2 h1 ih hkps S hA hW; lia))
      have hp0 : (2 : Int) ^ j ≠ 0 := by have : 0 < (2 : Int) ^ j := Int.pow_pos (by decide); (clear hq3 hsy hsq hsx0 hsx hsb hih e2 e hle hl2 hll d2 hq2 hql d1 hbe hb hx0 hz h4 h3 h2 h1 ih hkps hl hl0 S hA hW; lia)
      refine ex_seq (ex_if (b := false) ((et_cmp (ev_name rfl) ev_int op_eqi).cast (by simpa using hz)) (fun h => by cases h) (fun _ => ex_nil)) ?_
      refine ex_seq (ex_assign (d := .int (sd (bitN ways j))) ((ev_bin (ev_int) (ev_bin (ev_bin (ev_bin (ev_name rfl) (ev_bin ev_int (ev_name rfl) (op_pow (by (clear hp0 hq3 hsy hsq hsx0 hsx hsb hih e2 e hle hl2 hll d2 hq2 hql d1 hbe hb hx0 hz h4 h3 h2 h1 ih hkps hl hl0 S hA hW; lia)) (by show (2 : Int) * j ≤ 2 ^ 27; (clear hp0 hq3 hsy hsq hsx0 hsx hsb hih e2 e hle hl2 hll d2 hq2 hql d1 hbe hb hx0 hz h4 h3 h1 ih hkps hl hl0 S hA hW; lia)))) (op_fdiv (by exact hp0) (PyProof.noPylong_of_log2 (by show ((2 : Int) ^ j).natAbs.log2 < 9000; rw [pow_two_log]; (clear hp0 hq3 hsy hsq hsx0 hsx hsb hih e2 e hle hl2 hll d2 hq2 hql d1 hbe hb hx0 hz h4 h3 h1 ih hkps hl hl0 S hA hW; lia))))) ev_int (op_mod (by decide))) ev_int (op_mul (IntMulOk.of_right (by decide)))) op_sub).cast ?_) (by walk_at "slot") (by walk_at "nm")) ?_
      · rw [hbe]; unfold sd
        show PV.dat (.int (1 - ((ways : Int).fdiv (2 ^ j)).fmod 2 * 2)) = PV.dat (.int (1 - ((ways / 2 ^ j % 2 : Nat) : Int) * 2))
        have e1 : (2 : Int) ^ j = ((2 ^ j : Nat) : Int) := by push_cast; rfl
        rw [e1, Int.fdiv_eq_ediv_of_nonneg _ (Int.natCast_nonneg _), Int.fmod_eq_emod_of_nonneg _ (by decide)]
        push_cast; rfl
      generalize sd (bitN ways j) = sg at *
      refine ex_seq (ex_assign (d := .tuple [.int (sg * q), .int (sg * y)]) ((ev_gcall (by walk_at "glb") (c_dm W P hW) (.two (ev_name rfl) (ev_bin (ev_name rfl) (ev_name rfl) (op_mul (IntMulOk.of_left hsb)))) ⟨l, sg * x, rfl, rfl, DmOk.small hsx0 (Nat.le_trans (intBits_le_64 (by (clear hsy hsq hsx0 hsx hsb hl2 d2 hq2 d1 hp0 hq3 hih e2 e hll hql hbe hb hx0 hz h4 h3 h2 h1 ih hkps S hA hW; lia)) (by (clear hsy hsq hsx0 hsx hsb hl2 d2 hq2 d1 hp0 hq3 hih e2 e hll hql hbe hb hx0 hz h4 h3 h2 h1 ih hkps S hA hW; lia))) (by decide)) hsx, rfl⟩ (by decide)).cast (by rw [d1, d2])) (by walk_at "slot") (by walk_at "nm")) ?_
      refine ex_seq (ex_unpack (a := .int (sg * q)) (b := .int (sg * y)) (ev_name rfl) (by walk_at "slot") (by walk_at "nm") (by walk_at "slot") (by walk_at "nm")) ?_
      refine ex_seq (ex_if (b := false) ((et_or3 (a := false) (b := false) (c := false) ((et_not (et_val (ev_isinst (Ts := "tuple") (d := .tuple [.int (sg * q), .int (sg * y)]) (by walk_at "boot") (by walk_at "boot") (ev_name rfl) rfl rfl ty_tuple PySem.F.sub_tuple_tuple) rfl)).cast rfl) (fun _ => (et_cmp (ev_bin (ev_bin (ev_bin (ev_name rfl) (ev_name rfl) (op_mul (IntMulOk.of_left hsq))) (ev_name rfl) (op_mul (IntMulOk.of_left (by rw [hq2]; exact hq3)))) (ev_name rfl) op_add) (ev_name rfl) op_nei).cast ?_) (fun _ _ => (et_not (et_chain2 ev_int (ev_bin (ev_name rfl) (ev_name rfl) (op_mul (IntMulOk.of_left hsy))) (ev_name rfl) op_le op_lt)).cast ?_)).cast rfl) (fun h => by cases h) (fun _ => ex_nil)) ?_
      · rw [hq2, ← hle]; simp
      · rw [hl2, decide_eq_true (by (clear hsy hsq hsx0 hsx hsb hle d2 hq2 d1 hp0 hq3 hih e2 e hll hql hbe hb hx0 hz h4 h3 h2 h1 ih hkps hl hl0 S hA hW; lia)), decide_eq_true (by (clear hsy hsq hsx0 hsx hsb hle d2 hq2 d1 hp0 hq3 hih e2 e hql hbe hb hx0 hz h4 h3 h2 h1 ih hkps hl hl0 S hA hW; lia))]; rfl
      refine ex_seq (ex_append (d := .int q) rfl ((ev_bin (ev_name rfl) (ev_name rfl) (op_mul (IntMulOk.of_left hsq))).cast (by rw [hq2])) (by simp; (clear hsy hsq hsx0 hsx hsb hle hl2 d2 hq2 d1 hp0 hq3 hih e2 e hll hql hbe hb hx0 hz h4 h2 h1 ih hkps hl hl0 S hA hW; lia)) rfl) ?_
      refine ex_last (ex_assign (d := .int y) ((ev_bin (ev_name rfl) (ev_name rfl) (op_mul (IntMulOk.of_left hsy))).cast (by rw [hl2])) (by walk_at "slot") (by walk_at "nm")) ⟨by simp; rfl, rfl, rfl, rfl, trivial⟩
end
section
/-! the word of the steps -/
theorem pick_rev {α : Type} (l : List α) : pick l none none (some (-1)) = l.reverse := by
  rw [pick_of l none none (some (-1)) (List.range l.length).reverse (by rw [krv_pick, List.map_reverse])]
  have e : (List.range l.length).reverse.filterMap (l[·]?) = ((List.range l.length).filterMap (l[·]?)).reverse := List.filterMap_reverse ..
  rw [e, fm_range, List.take_length]
noncomputable def codesW (ways : Nat) : Nat → Bool → List Nat → List Nat
  | _, ev, [] => [if ev then 0 else 255]
  | k, ev, q :: l => (if ev then 255 - q else q) :: codesW ways (k + 1) (ev == (bitN ways k == 1)) l
noncomputable def evW (ways : Nat) : Nat → Bool → List Nat → Bool
  | _, ev, [] => ev
  | k, ev, _ :: l => evW ways (k + 1) (ev == (bitN ways k == 1)) l
noncomputable def cdW (ways : Nat) : Nat → Bool → List Nat → List Nat
  | _, _, [] => []
  | k, ev, q :: l => (if ev then 255 - q else q) :: cdW ways (k + 1) (ev == (bitN ways k == 1)) l
theorem codesW_eq (ways : Nat) : ∀ (l : List Nat) (k : Nat) (ev : Bool), codesW ways k ev l = cdW ways k ev l ++ [if evW ways k ev l then 0 else 255]
  | [], _, _ => rfl
  | _ :: l, k, ev => by rw [codesW, codesW_eq ways l, cdW, evW]; rfl
theorem cdW_len (ways : Nat) : ∀ (l : List Nat) (k : Nat) (ev : Bool), (cdW ways k ev l).length = l.length
  | [], _, _ => rfl
  | _ :: l, k, ev => by rw [cdW, List.length_cons, cdW_len ways l]; rfl
theorem bit_op (ways j : Nat) : (((ways : Int).fdiv (2 ^ j)).fmod 2 == 1) = (bitN ways j == 1) := by
  have e1 : (2 : Int) ^ j = ((2 ^ j : Nat) : Int) := by push_cast; rfl
  have e2 : ((ways : Int).fdiv (2 ^ j)).fmod 2 = ((bitN ways j : Nat) : Int) := by
    rw [e1, Int.fdiv_eq_ediv_of_nonneg _ (Int.natCast_nonneg _), Int.fmod_eq_emod_of_nonneg _ (by decide)]
    unfold bitN; push_cast; rfl
  rw [e2]
  rcases bitN_lt ways j with h | h <;> rw [h] <;> rfl
theorem codesW_len (ways : Nat) : ∀ (l : List Nat) (k : Nat) (ev : Bool), (codesW ways k ev l).length = l.length + 1
  | [], _, _ => rfl
  | _ :: l, k, ev => by rw [codesW, List.length_cons, codesW_len ways l]; rfl
theorem codesW_lt (ways : Nat) : ∀ (l : List Nat) (k : Nat) (ev : Bool), (∀ q ∈ l, q ≤ 255) → ∀ x ∈ codesW ways k ev l, x < 256
  | [], _, ev, _, x, hx => by
    have : x = if ev then 0 else 255 := by simpa [codesW] using hx
    rw [this]; split <;> decide
  | q :: l, k, ev, h, x, hx => by
    rcases List.mem_cons.mp hx with rfl | hx
    · have := h q (.head _); split <;> omega
    · exact codesW_lt ways l _ _ (fun y hy => h y (.tail _ hy)) x hx
noncomputable def wordN (cs : List Nat) : Int := d2i 8 (cs.reverse.map fun n : Nat => (n : Int))
theorem wordN_bound {cs : List Nat} (h : ∀ x ∈ cs, x < 256) (hl : cs.length ≤ 100) : 0 ≤ wordN cs ∧ (wordN cs).natAbs < 16 ^ 1000 := by
  obtain ⟨h1, h2⟩ := d2i_bound 8 (cs.reverse.map fun n : Nat => (n : Int)) (fun x hx => by
    obtain ⟨n, hn, rfl⟩ := List.mem_map.mp hx
    have := h n (List.mem_reverse.mp hn)
    (clear hx hn hl h; lia))
  refine ⟨h1, ?_⟩
  have h3 : (wordN cs) < 2 ^ (8 * cs.length) := by
    unfold wordN
    rw [List.length_map, List.length_reverse] at h2
    exact h2
  have h4 : (wordN cs).natAbs < 2 ^ (8 * cs.length) := by
    have e : ((2 : Int) ^ (8 * cs.length)) = ((2 ^ (8 * cs.length) : Nat) : Int) := by push_cast; rfl
    rw [e] at h3
    have : 0 ≤ wordN cs := h1
    (clear h2 h1 hl h; lia)
  have h5 : 2 ^ (8 * cs.length) ≤ 2 ^ (4 * 1000) := Nat.pow_le_pow_right (by decide) (by (clear h4 h3 h2 h1 h; lia))
  rw [show (16 : Nat) = 2 ^ 4 from rfl, ← Nat.pow_mul]
  exact Nat.lt_of_lt_of_le h4 h5
noncomputable def wordF (ways : Nat) (l : List Nat) : Array UInt8 := (apF 1000 (wordN (codesW ways 0 true l)).natAbs []).toArray
theorem c_word (W : Wd) (P : Params) (hW : WL W P) : GCall W 116 118 (fun ps kps d => ∃ (l : List Nat) (ways : Nat), ps = [.dat (.list (l.map fun n : Nat => Dat.int n)), .dat (.int ways)] ∧ kps = [] ∧ l.length ≤ 90 ∧ (∀ q ∈ l, q ≤ 255) ∧ d = .bytes (wordF ways l)) := by
  intro A h₀ fenv L m mu fz s₀ vs kvs ps kps d Q E hA S hps hkps hG k
  obtain ⟨l, ways, rfl, rfl, hl, hq, rfl⟩ := hG
  obtain ⟨v1, v2, rfl, hv1, hv2⟩ := PRepA.i2 hps
  cases KRepA.i0 hkps
  refine call_K0 (f := 118) (lv := 115) (by rw [hW.K]; rfl) (by rw [hW.K]; rfl) (by rfl) (by decide) hA S (binds := [("steps", v1), ("ways", v2)]) (nsb := ["steps", "ways"]) (ρ := [("steps", .dat (.list (l.map fun n : Nat => Dat.int n))), ("ways", .dat (.int ways))]) (BindsTo.of_eq rfl) (by rfl) (by rfl) (by decide)
    (.dat (by walk_at "nm") rfl hv1 (.dat (by walk_at "nm") rfl hv2 .nil)) rfl (fun c hc => by cases hc) (fun c hc => by cases hc) ?_ Q k
  refine exr_seq (ex_swap2 (p := .lst []) (q := .dat (.bool true)) (ef_list (ds := []) .nil) ev_bool rfl rfl (by rfl) (by walk_at "nm") (by rfl) (by walk_at "nm") (by decide) (by simp) (by simp) (fun _ => rfl) ?_) ?_
  · exact fun env h1 h2 h3 => swapped2 h1 h2 h3 (by rfl) (by decide) (by rfl) (by rfl) (by rfl)
  obtain ⟨pre, hpre⟩ : ∃ pre : List Nat, pre = [] := ⟨_, rfl⟩
  obtain ⟨j, hj⟩ : ∃ j : Nat, j = 0 := ⟨_, rfl⟩
  obtain ⟨ev, hev⟩ : ∃ ev : Bool, ev = true := ⟨_, rfl⟩
  obtain ⟨l2, hl2⟩ : ∃ l2 : List Nat, l2 = l := ⟨_, rfl⟩
  refine exr_seq (ρ' := [("codes", .lst ((pre ++ cdW ways j ev l2).map fun n : Nat => Dat.int n)), ("even", .dat (.bool (evW ways j ev l2))), ("steps", .dat (.list (l.map fun n : Nat => Dat.int n))), ("ways", .dat (.int ways))]) (EX.from (ρ' := [("codes", .lst (pre.map fun n : Nat => Dat.int n)), ("even", .dat (.bool ev)), ("steps", .dat (.list (l.map fun n : Nat => Dat.int n))), ("ways", .dat (.int ways))]) (ex_for (items := (List.range' j l2.length).map fun i : Nat => Dat.int i) (fun _ _ => rfl) ?_ ?_ ?_) ⟨by rw [hpre]; rfl, by rw [hev]; rfl, rfl, rfl, trivial⟩) ?_
  · rw [hj, hl2, ← List.range_eq_range']; exact ei_rangeN (by walk_at "boot") ((ev_len (by walk_at "boot") (ev_name rfl) rfl (by simp; (clear hl2 hev hj hpre hkps hv2 hv1 hps k hq S hA hW; lia))).cast (by rw [List.length_map]))
  · intro x hx
    rcases List.mem_cons.mp hx with rfl | hx
    · exact ⟨by walk_at "slot", by walk_at "nm"⟩
    · cases hx
  · have h1 : l = l.take j ++ l2 := by rw [hj, hl2]; rfl
    have h2 : j + l2.length = l.length := by rw [hj, hl2]; simp
    have h3 : pre.length + l2.length ≤ 100 := by rw [hpre, hl2]; simp; (clear h1 hl2 hev hpre hkps hv2 hv1 hps k hq S hA hW; lia)
    clear k hpre hj hl2 hev hv1 hv2 hps
    revert h1 h2 h3
    intro h1 h2 h3
    induction l2 generalizing j pre ev with
    | nil => rw [cdW, List.append_nil]; exact .nil
    | cons q l2 ih =>
      rw [List.length_cons, List.range'_succ]
      simp only [List.length_cons] at h2 h3
      have hgq : l[j]? = some q := by rw [h1, List.getElem?_append_right (by rw [List.length_take]; (clear h3 h1 ih hkps hq hl S hA hW; lia)), List.length_take, Nat.min_eq_left (by (clear h3 h1 ih hkps hq hl S hA hW; lia)), Nat.sub_self]; rfl
      have hql := hq q (List.mem_of_getElem? hgq)
      have e1 : pre ++ cdW ways j ev (q :: l2) = (pre ++ [if ev then 255 - q else q]) ++ cdW ways (j + 1) (ev == (bitN ways j == 1)) l2 := by rw [cdW]; simp
      rw [e1, evW]
      refine ForR.cons (bs := [("k", .dat (.int j))]) (d := .int j) (ρ' := [("codes", .lst ((pre ++ [if ev then 255 - q else q]).map fun n : Nat => Dat.int n)), ("even", .dat (.bool (ev == (bitN ways j == 1)))), ("steps", .dat (.list (l.map fun n : Nat => Dat.int n))), ("ways", .dat (.int ways))]) rfl ?_ (ih (j := j + 1) (pre := pre ++ [if ev then 255 - q else q]) (ev := ev == (bitN ways j == 1)) ?_ (by (clear e1 hql hgq h3 h1 ih hkps hq hl S hA hW; lia)) (by simp; (clear e1 hql hgq h2 h1 ih hkps hq hl S hA hW; lia)))
      · have hit : ∀ {pos : Pos} {e1 e2 : Expr} {sp : Pos}, True := fun {_ _ _ _} => trivial
        have hp0 : (2 : Int) ^ j ≠ 0 := by have : 0 < (2 : Int) ^ j := Int.pow_pos (by decide); (clear hit e1 hql hgq h3 h2 h1 ih hkps hq hl S hA hW; lia)
        refine ex_seq (ex_append (d := .int (if ev then 255 - q else q : Nat)) rfl (ev_ifexp (b := ev) (et_val (ev_name rfl) rfl) (fun h => (ev_bin ev_int (ev_item (d := .int q) (ev_name rfl) rfl (ev_name rfl) (seqAt_nat (by rw [List.getElem?_map, hgq]; rfl)) (by simp; (clear h hp0 hit e1 hql hgq h3 h1 ih hkps hq S hA hW; lia))) op_sub).cast ?_) (fun h => (ev_item (d := .int q) (ev_name rfl) rfl (ev_name rfl) (seqAt_nat (by rw [List.getElem?_map, hgq]; rfl)) (by simp; (clear h hp0 hit e1 hql hgq h3 h1 ih hkps hq S hA hW; lia))).cast ?_)) (by simp; (clear hp0 hit e1 hql hgq h1 ih hkps hq S hA hW; lia)) rfl) ?_
        · rw [h, if_pos rfl]; congr 2; (clear h hp0 hit e1 hgq h3 h2 h1 ih hkps hq hl S hA hW; omega)
        · rw [h]; rfl
        refine ex_last (ex_assign (d := .bool (ev == (bitN ways j == 1))) (ev_cmp (ev_name rfl) ((ev_cmp (ev_bin (ev_bin (ev_name rfl) (ev_bin ev_int (ev_name rfl) (op_pow (by (clear hp0 hit e1 hql hgq h3 h2 h1 ih hkps hq hl S hA hW; lia)) (by show (2 : Int) * j ≤ 2 ^ 27; (clear hp0 hit e1 hql hgq h3 h1 ih hkps hq S hA hW; lia)))) (op_fdiv (by exact hp0) (PyProof.noPylong_of_log2 (by show ((2 : Int) ^ j).natAbs.log2 < 9000; rw [pow_two_log]; (clear hp0 hit e1 hql hgq h3 h1 ih hkps hq S hA hW; lia))))) ev_int (op_mod (by decide))) ev_int op_eqi).cast (by show PV.dat (.bool ((((ways : Int).fdiv (2 ^ j)).fmod 2 == 1))) = _; rw [bit_op])) (op_eq (by simp [deqn]))) (by walk_at "slot") (by walk_at "nm")) ⟨by simp; rfl, rfl, rfl, rfl, trivial⟩
      · conv => lhs; rw [h1]
        rw [List.take_add_one, hgq]; simp
  have hcs : codesW ways 0 true l = pre ++ cdW ways j ev l2 ++ [if evW ways j ev l2 then 0 else 255] := by rw [hpre, hj, hev, hl2]; exact codesW_eq ways l 0 true
  have hcl := codesW_len ways l 0 true
  have hcb := codesW_lt ways l 0 true hq
  unfold wordF
  rw [hcs] at hcl hcb ⊢
  generalize pre ++ cdW ways j ev l2 = cd at *
  generalize evW ways j ev l2 = e at *
  refine exr_seq (ex_append (d := .int (if e then 0 else 255 : Nat)) rfl (ev_ifexp (b := e) (et_val (ev_name rfl) rfl) (fun h => ev_int.cast (by rw [h]; rfl)) (fun h => ev_int.cast (by rw [h]; rfl))) (by simp at hcl ⊢; (clear hcb hcs hl2 hev hj hpre hkps hv2 hv1 hps k hq S hA hW; lia)) rfl) ?_
  have hm : (cd.map fun n : Nat => Dat.int n) ++ [.int (if e then 0 else 255 : Nat)] = ((cd ++ [if e then 0 else 255]).map fun n : Nat => (n : Int)).map Dat.int := by simp
  rw [hm]
  generalize cd ++ [if e then 0 else 255] = cs at *
  obtain ⟨w0, w1⟩ := wordN_bound hcb (by (clear hm hcb hcs hl2 hev hj hpre hkps hv2 hv1 hps k hq S hA hW; lia))
  refine exr_ret (ev_gcall (by walk_at "glb") (c_Int2AP W P hW) (.one (ev_un (ev_gcall (by walk_at "glb") (c_d2i W P hW) (.two (q := .dat (.int 8)) ((ev_slice (ev_name rfl) rfl .none .none (.some (ev_un ev_int op_neg)) (by decide) (by simp; (clear w1 w0 hm hcb hcs hl2 hev hj hpre hkps hv2 hv1 hps k hq S hA hW; lia))).cast (pv' := .dat (.list ((cs.reverse.map fun n : Nat => (n : Int)).map .int))) (by rw [pick_rev, ← List.map_reverse, ← List.map_reverse])) ev_int) ⟨cs.reverse.map fun n : Nat => (n : Int), 8, rfl, rfl, by decide, by simp; (clear w1 w0 hm hcb hcs hl2 hev hj hpre hkps hv2 hv1 hps k hq S hA hW; lia), fun x hx => ?_, rfl⟩ (by decide)) op_neg)) ⟨-wordN cs, rfl, rfl, by rw [Int.natAbs_neg]; exact w1, by rw [Int.natAbs_neg]⟩ (by decide))
  obtain ⟨n, hn, rfl⟩ := List.mem_map.mp hx
  have := hcb n (List.mem_reverse.mp hn)
  (clear hx hn w1 w0 hm hcb hcl hcs hl2 hev hj hpre hkps hv2 hv1 hps k hq hl S hA hW; lia)
end
section
/-! the word's number and its codes -/
noncomputable def n8 : List Nat → Nat
  | [] => 0
  | c :: r => c + 256 * n8 r
noncomputable def tp : List Nat → Bool
  | [] => false
  | [h] => decide (128 ≤ h)
  | _ :: r => tp r
theorem d2i_n8 : ∀ r : List Nat, d2i 8 (r.map fun n : Nat => (n : Int)) = (n8 r : Nat)
  | [] => rfl
  | c :: r => by rw [List.map_cons, d2i, d2i_n8 r, n8]; push_cast; rfl
theorem wordN_n8 (cs : List Nat) : wordN cs = (n8 cs.reverse : Nat) := d2i_n8 _
theorem n8_lt : ∀ r : List Nat, (∀ x ∈ r, x < 256) → n8 r < 2 ^ (8 * r.length)
  | [], _ => by decide
  | c :: r, h => by
    have h1 := n8_lt r fun x hx => h x (.tail _ hx)
    have h2 := h c (.head _)
    rw [n8, List.length_cons, Nat.mul_add, Nat.pow_add]; (clear h; lia)
theorem n8_ge : ∀ r : List Nat, tp r = true → 2 ^ (8 * (r.length - 1)) ≤ n8 r
  | [], h => by cases h
  | [c], h => by
    have : 128 ≤ c := by simpa [tp] using h
    simp [n8]; (clear h; lia)
  | c :: d :: r, h => by
    have h1 := n8_ge (d :: r) h
    have e : 8 * ((c :: d :: r).length - 1) = 8 * ((d :: r).length - 1) + 8 := by simp; (clear h1 h; lia)
    rw [n8, e, Nat.pow_add]; (clear e h; lia)
theorem n8_digs : ∀ r : List Nat, (∀ x ∈ r, x < 256) → digs 8 r.length (n8 r) = r
  | [], _ => rfl
  | c :: r, h => by
    have h2 := h c (.head _)
    have e1 : (c + 256 * n8 r) % 2 ^ 8 = c := by (clear h; lia)
    have e2 : (c + 256 * n8 r) / 2 ^ 8 = n8 r := by (clear h2 h; lia)
    rw [n8, List.length_cons, digs, e1, e2, n8_digs r fun x hx => h x (.tail _ hx)]
theorem n8_bits {r : List Nat} (h : ∀ x ∈ r, x < 256) (ht : tp r = true) : (Builtin.Int.intBits ((n8 r : Nat) : Int) + 8 - 1) / 8 = r.length := by
  have h1 := n8_lt r h
  have h2 := n8_ge r ht
  have h3 : 1 ≤ r.length := by cases r with
    | nil => cases ht
    | cons _ _ => simp
  have b1 : Builtin.Int.intBits ((n8 r : Nat) : Int) ≤ 8 * r.length := intBits_le_iff.mpr (by rw [Int.natAbs_natCast]; exact h1)
  have b2 : ¬ Builtin.Int.intBits ((n8 r : Nat) : Int) ≤ 8 * (r.length - 1) := fun e => by
    have := intBits_le_iff.mp e
    rw [Int.natAbs_natCast] at this; (clear e b1 h3 h1 ht h; lia)
  (clear h2 h1 ht h; lia)
theorem apF_zero : ∀ (f : Nat) (acc : List UInt8), apF f 0 acc = acc
  | 0, _ => rfl
  | f + 1, acc => by unfold apF; rw [if_pos rfl]
theorem apF_acc : ∀ (f n : Nat) (acc : List UInt8), apF f n acc = apF f n [] ++ acc
  | 0, n, acc => rfl
  | f + 1, n, acc => by
    unfold apF
    by_cases h : n = 0
    · rw [if_pos h, if_pos h]; rfl
    · rw [if_neg h, if_neg h, apF_acc f (n / 16) (_ :: acc), apF_acc f (n / 16) [_], List.append_assoc]; rfl
noncomputable def two (c : Nat) : List UInt8 := [UInt8.ofNat (65 + c / 16), UInt8.ofNat (65 + c % 16)]
theorem apF_two (f X c : Nat) (hc : c < 256) (h : X ≠ 0 ∨ 16 ≤ c) : apF (f + 2) (c + 256 * X) [] = apF f X [] ++ two c := by
  have e0 : c + 256 * X ≠ 0 := by lia
  have e1 : (c + 256 * X) / 16 = c / 16 + 16 * X := by (clear e0 h hc; lia)
  have e2 : (c + 256 * X) % 16 = c % 16 := by (clear e0 h hc; lia)
  have e3 : c / 16 + 16 * X ≠ 0 := by (clear e2; lia)
  have e4 : (c / 16 + 16 * X) / 16 = X := by (clear e3 e2 e0 h; lia)
  have e5 : (c / 16 + 16 * X) % 16 = c / 16 := by (clear e3 e2 e1 e0 h hc; lia)
  conv => lhs; unfold apF
  rw [if_neg e0, e1, e2]
  conv => lhs; unfold apF
  rw [if_neg e3, e4, e5, apF_acc]; rfl
theorem apF_n8 : ∀ (r : List Nat) (f : Nat), (∀ x ∈ r, x < 256) → tp r = true → 2 * r.length ≤ f → apF f (n8 r) [] = r.reverse.flatMap two
  | [], _, _, h, _ => by cases h
  | [c], f, hx, h, hf => by
    obtain ⟨g, rfl⟩ : ∃ g, f = g + 2 := ⟨f - 2, by simp at hf; (clear h hx; lia)⟩
    have h1 : 128 ≤ c := by simpa [tp] using h
    show apF (g + 2) (c + 256 * 0) [] = _
    rw [apF_two _ _ _ (hx c (.head _)) (.inr (by (clear hf h hx; lia))), apF_zero]; simp
  | c :: d :: r, f, hx, h, hf => by
    simp only [List.length_cons] at hf
    obtain ⟨g, rfl⟩ : ∃ g, f = g + 2 := ⟨f - 2, by (clear h hx; lia)⟩
    have h2 := n8_ge (d :: r) h
    have h3 : 0 < 2 ^ (8 * ((d :: r).length - 1)) := Nat.pow_pos (by decide)
    show apF (g + 2) (c + 256 * n8 (d :: r)) [] = _
    rw [apF_two _ _ _ (hx c (.head _)) (.inl (by (clear hf h hx; lia))), apF_n8 (d :: r) g (fun x h => hx x (.tail _ h)) h (by simp only [List.length_cons]; (clear h3 h2 h hx; lia)), List.reverse_cons (a := c), List.flatMap_append]; simp
noncomputable def numL (a : Nat) (x : UInt8) : Nat := 16 * a + (x.toNat - 65)
theorem apF_num : ∀ (f n : Nat) (acc : List UInt8), n < 16 ^ f → (apF f n acc).foldl numL 0 = acc.foldl numL n
  | 0, n, acc, h => by
    have : n = 0 := by simpa using h
    rw [this]; rfl
  | f + 1, n, acc, h => by
    unfold apF
    by_cases h0 : n = 0
    · rw [if_pos h0, h0]
    · rw [if_neg h0, apF_num f (n / 16) _ (by rw [Nat.pow_succ] at h; (clear h0; lia)), List.foldl_cons]
      congr 1
      unfold numL
      have : (UInt8.ofNat (65 + n % 16)).toNat = 65 + n % 16 := by
        rw [UInt8.toNat_ofNat']; (clear h0 h; lia)
      rw [this]; (clear h0 h; lia)
theorem apF_ge : ∀ (f n : Nat) (acc : List UInt8), (∀ x ∈ acc, 65 ≤ x.toNat) → ∀ x ∈ apF f n acc, 65 ≤ x.toNat
  | 0, n, acc, h => h
  | f + 1, n, acc, h => by
    unfold apF
    by_cases h0 : n = 0
    · rw [if_pos h0]; exact h
    · rw [if_neg h0]
      refine apF_ge f (n / 16) _ fun x hx => ?_
      rcases List.mem_cons.mp hx with rfl | hx
      · rw [UInt8.toNat_ofNat']; omega
      · exact h x hx
theorem cdW_twice (ways : Nat) : ∀ (l : List Nat) (k : Nat) (ev : Bool), (∀ q ∈ l, q ≤ 255) → cdW ways k ev (cdW ways k ev l) = l
  | [], _, _, _ => rfl
  | q :: l, k, ev, h => by
    have h1 := h q (.head _)
    rw [cdW, cdW, cdW_twice ways l _ _ fun x hx => h x (.tail _ hx)]
    cases ev
    · rfl
    · show (255 - (255 - q)) :: l = q :: l
      congr 1; (clear h; lia)
theorem evW_len (ways : Nat) : ∀ (l l' : List Nat) (k : Nat) (ev : Bool), l.length = l'.length → evW ways k ev l = evW ways k ev l'
  | [], [], _, _, _ => rfl
  | _ :: l, _ :: l', k, ev, h => by rw [evW, evW, evW_len ways l l' _ _ (by simpa using h)]
  | [], _ :: _, _, _, h => by cases h
  | _ :: _, [], _, _, h => by cases h
theorem tp_last : ∀ (r : List Nat) (h : Nat), 128 ≤ h → tp (r ++ [h]) = true
  | [], h, k => by simpa [tp] using k
  | [c], h, k => by simpa [tp] using k
  | c :: d :: r, h, k => by
    have := tp_last (d :: r) h k
    exact this
theorem tp_codes {ways q : Nat} {l : List Nat} (h : q ≤ 123) : tp (codesW ways 0 true (q :: l)).reverse = true := by
  rw [codesW, List.reverse_cons]
  exact tp_last _ _ (by simp; lia)
/-- the fraction that the steps tell -/
noncomputable def valW (ways : Nat) : Nat → List Nat → Int × Int
  | _, [] => (0, 1)
  | k, q :: l => (if bitN ways k == 1 then (valW ways (k + 1) l).2 + (valW ways (k + 1) l).1 else (valW ways (k + 1) l).2 - (valW ways (k + 1) l).1, q * (valW ways (k + 1) l).2)
end
section
noncomputable def downD : Nat → List Dat
  | 0 => []
  | m + 1 => .int m :: downD m
theorem rangeD_down : ∀ m : Nat, rangeD ((m : Int) - 1) (-1) m = downD m
  | 0 => rfl
  | m + 1 => by
    rw [downD, ← rangeD_down m]
    unfold rangeD
    rw [List.range_succ_eq_map, List.map_cons, List.map_map]
    refine congr (congrArg List.cons ?_) (List.map_congr_left fun i _ => ?_)
    · congr 1; push_cast; lia
    · simp only [Function.comp]; congr 1; push_cast; lia
theorem down_size (n : Nat) : Builtin.Range.rangeSize ((n : Int) - 1) (-1) (-1) = n := by
  unfold Builtin.Range.rangeSize
  rw [if_neg (by decide)]
  split
  · have e : (- -1 : Int) = 1 := by decide
    rw [e, Int.ediv_one]; (clear e; lia)
  · lia
theorem down_small (n : Nat) (h : n ≤ 1000) : Builtin.Range.small ((n : Int) - 1) (-1) (-1) = true := by
  unfold Builtin.Range.small
  rw [down_size]
  simp only [Builtin.Range.rangeFitsLong, Bool.and_eq_true, Bool.or_eq_true, decide_eq_true_eq, beq_iff_eq]
  rw [if_neg (by (clear h; lia))]
  simp only [Bool.and_eq_true, decide_eq_true_eq]
  lia
theorem pick_last1 {α : Type} (l : List α) (x : α) : pick (l ++ [x]) (some (-1)) none none = [x] := by
  rw [pick_of (l ++ [x]) (some (-1)) none none [l.length] (by
    have h := slicePick_last (((List.range (l ++ [x]).length).map fun i => Value.int (i : Nat) 0).toArray) 1 (by decide)
    refine h.trans ?_
    have e : ((List.range (l ++ [x]).length).map fun i => Value.int (i : Nat) 0) = ((List.range l.length).map fun i => Value.int (i : Nat) 0) ++ [Value.int (l.length : Nat) 0] := by
      rw [List.length_append, List.length_singleton, List.range_succ, List.map_append]; rfl
    rw [e]; simp)]
  simp
theorem swapped_const {ts vs : List Expr} {kd kd' : Nat} {tp vp : Pos} {env : Env} (h1 : vs.all (foldedForSure 8) = true) : swappedStores [.Tuple ts kd tp] (.Tuple vs kd' vp) env = pure none := by
  unfold swappedStores
  simp only [h1]
  (repeat' split) <;> first | rfl | contradiction | (simp_all; done)
theorem ty_bytes : typeOf (.type "bytes") = pure (.type "type") := by first | rfl | decide
theorem deqL_self {f : Dat → Dat → Option Bool} : ∀ {l : List Dat}, (∀ d ∈ l, f d d = some true) → deqL f l l = some true
  | [], _ => rfl
  | d :: l, h => by
    unfold deqL
    rw [h d (.head _), deqL_self fun x hx => h x (.tail _ hx)]; rfl
theorem deqn_list {k : Nat} {l : List Dat} (h : ∀ d ∈ l, deqn k d d = some true) : deqn (k + 1) (.list l) (.list l) = some true := by
  simp only [deqn, if_true]; exact deqL_self h
theorem deqn_int (k : Nat) (n : Int) : deqn k (.int n) (.int n) = some true := by simp [deqn]
theorem deqn_bytes (k : Nat) (b : Array UInt8) : deqn k (.bytes b) (.bytes b) = some true := by simp [deqn]
theorem valW_drop {ways m q : Nat} {l : List Nat} (h : l[m]? = some q) : valW ways m (l.drop m) = (if bitN ways m == 1 then (valW ways (m + 1) (l.drop (m + 1))).2 + (valW ways (m + 1) (l.drop (m + 1))).1 else (valW ways (m + 1) (l.drop (m + 1))).2 - (valW ways (m + 1) (l.drop (m + 1))).1, q * (valW ways (m + 1) (l.drop (m + 1))).2) := by
  obtain ⟨h1, h2⟩ := List.getElem?_eq_some_iff.mp h
  rw [List.drop_eq_getElem_cons h1, h2, valW]
theorem c_value (W : Wd) (P : Params) (hW : WL W P) : GCall W 116 123 (fun ps kps d => ∃ (l : List Nat) (ways : Nat), ps = [.dat (.bytes (wordF ways l)), .dat (.int ways)] ∧ kps = [] ∧ l ≠ [] ∧ l.length ≤ 90 ∧ (∀ q ∈ l, q ≤ 123) ∧ d = .tuple [.int (valW ways 0 l).1, .int (valW ways 0 l).2]) := by
  intro A h₀ fenv L m mu fz s₀ vs kvs ps kps d Q E hA S hps hkps hG k
  obtain ⟨l, ways, rfl, rfl, hne, hl, hq, rfl⟩ := hG
  obtain ⟨v1, v2, rfl, hv1, hv2⟩ := PRepA.i2 hps
  cases KRepA.i0 hkps
  refine call_K0 (f := 123) (lv := 115) (by rw [hW.K]; rfl) (by rw [hW.K]; rfl) (by rfl) (by decide) hA S (binds := [("word", v1), ("ways", v2)]) (nsb := ["word", "ways"]) (ρ := [("word", .dat (.bytes (wordF ways l))), ("ways", .dat (.int ways))]) (BindsTo.of_eq rfl) (by rfl) (by rfl) (by decide)
    (.dat (by walk_at "nm") rfl hv1 (.dat (by walk_at "nm") rfl hv2 .nil)) rfl (fun c hc => by cases hc) (fun c hc => by cases hc) ?_ Q k
  clear k hv1 hv2 hps
  have hq255 : ∀ q ∈ l, q ≤ 255 := fun q h => Nat.le_trans (hq q h) (by decide)
  have hcl := codesW_len ways l 0 true
  have hcb := codesW_lt ways l 0 true hq255
  have htp : tp (codesW ways 0 true l).reverse = true := by
    cases l with
    | nil => exact absurd rfl hne
    | cons q l => exact tp_codes (hq q (.head _))
  have hce := codesW_eq ways l 0 true
  have hcd : cdW ways 0 true (cdW ways 0 true l) = l := cdW_twice ways l 0 true hq255
  have hev : evW ways 0 true (cdW ways 0 true l) = evW ways 0 true l := evW_len ways _ _ 0 true (cdW_len ways l 0 true)
  have hcdl := cdW_len ways l 0 true
  obtain ⟨_, hN⟩ := wordN_bound hcb (by (clear hev hcd hce htp hcb hq255 hkps hq hne S hA hW; lia))
  have hwf : wordF ways l = (apF 1000 (n8 (codesW ways 0 true l).reverse) []).toArray := by unfold wordF; rw [wordN_n8, Int.natAbs_natCast]
  rw [wordN_n8, Int.natAbs_natCast] at hN
  have hrb : ∀ x ∈ (codesW ways 0 true l).reverse, x < 256 := fun x h => hcb x (List.mem_reverse.mp h)
  have hlet := apF_n8 _ 1000 hrb htp (by rw [List.length_reverse]; (clear hrb hwf hN hev hcd hce htp hcb hq255 hkps hq hne S hA hW; lia))
  rw [List.reverse_reverse] at hlet
  have hdig := n8_digs _ hrb
  have hbit := n8_bits hrb htp
  have hnum := apF_num 1000 (n8 (codesW ways 0 true l).reverse) [] hN
  have hge := apF_ge 1000 (n8 (codesW ways 0 true l).reverse) [] (fun x h => by cases h)
  have hwl : (apF 1000 (n8 (codesW ways 0 true l).reverse) []).length ≤ 1000 := by have := apF_len 1000 (n8 (codesW ways 0 true l).reverse) []; simpa using this
  rw [hwf]
  generalize hNe : n8 (codesW ways 0 true l).reverse = N at *
  generalize hws : apF 1000 N [] = ws at *
  generalize hcs : codesW ways 0 true l = cs at *
  generalize hcde : cdW ways 0 true l = cd at *
  generalize hte : evW ways 0 true l = te at *
  refine exr_seq (ex_assign (d := .int (0 : Nat)) ev_int (by walk_at "slot") (by walk_at "nm")) ?_
  obtain ⟨a, ha⟩ : ∃ a : Nat, a = 0 := ⟨_, rfl⟩
  rw [← ha] at hnum
  refine exr_seq (ρ' := [("number", .dat (.int (ws.foldl numL a : Nat))), ("word", .dat (.bytes ws.toArray)), ("ways", .dat (.int ways))]) (EX.from (ρ' := [("number", .dat (.int a)), ("word", .dat (.bytes ws.toArray)), ("ways", .dat (.int ways))]) (ex_for (items := ws.map fun x : UInt8 => Dat.int (x.toNat : Int)) (fun _ _ => rfl) ?_ ?_ ?_) ⟨by rw [ha]; rfl, rfl, rfl, trivial⟩) ?_
  · exact (ei_bytes (ev_name rfl))
  · intro x hx
    rcases List.mem_cons.mp hx with rfl | hx
    · exact ⟨by walk_at "slot", by walk_at "nm"⟩
    · cases hx
  · clear hws hlet hnum ha hwl hwf
    generalize PV.dat (Dat.bytes ws.toArray) = pw
    induction ws generalizing a with
    | nil => exact .nil
    | cons x ws ih =>
      have hx := hge x (.head _)
      refine ForR.cons (bs := [("letter", .dat (.int x.toNat))]) (d := .int x.toNat) (ρ' := [("number", .dat (.int (numL a x : Nat))), ("word", pw), ("ways", .dat (.int ways))]) rfl (ex_last (ex_assign (d := .int (numL a x : Nat)) ((ev_bin (ev_bin (ev_bin ev_int (ev_name rfl) (op_mul (IntMulOk.of_left (by decide)))) (ev_name rfl) op_add) ev_int op_sub).cast ?_) (by walk_at "slot") (by walk_at "nm")) ⟨rfl, rfl, rfl, trivial⟩) (ih (fun y hy => hge y (.tail _ hy)) (numL a x))
      unfold numL
      congr 2; (clear hge ih hce hev hte hcdl hcd hcde hbit hdig hNe hrb htp hcb hcl hcs hN hq255 hkps hq hl hne S hA hW; lia)
  rw [hnum]
  show EXR _ _ _ [("number", .dat (.int N)), _, _] _ _
  have hN8 : d2i 8 [] = 0 := rfl
  have hlen : cs.length = l.length + 1 := hcl
  have hcsl : (cs.map fun n : Nat => Dat.int n).length ≤ 1048576 := by simp; (clear hlen hN8 ha hnum hce hev hte hcd hcde hlet hbit hdig hNe hrb htp hcb hcs hwl hge hwf hws hN hq255 hkps hq hne S hA hW; lia)
  have hrl : cs.reverse.length = cs.length := List.length_reverse
  refine exr_seq (ex_assign (d := .list (cs.map fun n : Nat => Dat.int n)) ((ev_slice (ds := dI cs.reverse) ((ev_gcall (by walk_at "glb") (c_i2d W P hW) (.two (q := .dat (.int (8 : Nat))) (ev_name rfl) ev_int) ⟨N, 8, rfl, rfl, by decide, by decide, by rw [hbit, hrl]; (clear hrl hcsl hlen hN8 ha hnum hce hev hte hcd hcde hlet hbit hdig hNe hrb htp hcb hcs hwl hge hwf hws hN hq255 hkps hq hne S hA hW; lia), rfl⟩ (by decide)).cast (by rw [hbit, hdig])) rfl .none .none (.some (ev_un ev_int op_neg)) (by decide) (by rw [dI_length, hrl]; (clear hrl hcsl hlen hN8 ha hnum hce hev hte hcd hcde hlet hbit hdig hNe hrb htp hcb hcs hwl hge hwf hws hN hq255 hkps hq hne S hA hW; lia))).cast (by rw [pick_rev]; unfold dI; rw [← List.map_reverse, List.reverse_reverse])) (by walk_at "slot") (by walk_at "nm")) ?_
  refine exr_seq (ex_swap2 (p := .lst []) (q := .dat (.bool true)) (ef_list (ds := []) .nil) ev_bool rfl rfl (by rfl) (by walk_at "nm") (by rfl) (by walk_at "nm") (by decide) (by simp) (by simp) (fun _ => rfl) ?_) ?_
  · exact fun env h1 h2 h3 => swapped2 h1 h2 h3 (by rfl) (by decide) (by rfl) (by rfl) (by rfl)
  obtain ⟨pre, hpre⟩ : ∃ pre : List Nat, pre = [] := ⟨_, rfl⟩
  obtain ⟨j, hj⟩ : ∃ j : Nat, j = 0 := ⟨_, rfl⟩
  obtain ⟨ev, hev2⟩ : ∃ ev : Bool, ev = true := ⟨_, rfl⟩
  obtain ⟨l2, hl2⟩ : ∃ l2 : List Nat, l2 = cd := ⟨_, rfl⟩
  refine exr_seq (ρ' := [("steps", .lst ((pre ++ cdW ways j ev l2).map fun n : Nat => Dat.int n)), ("even", .dat (.bool (evW ways j ev l2))), ("codes", .dat (.list (cs.map fun n : Nat => Dat.int n))), ("word", .dat (.bytes ws.toArray)), ("ways", .dat (.int ways))]) (EX.from (ρ' := [("steps", .lst (pre.map fun n : Nat => Dat.int n)), ("even", .dat (.bool ev)), ("codes", .dat (.list (cs.map fun n : Nat => Dat.int n))), ("word", .dat (.bytes ws.toArray)), ("ways", .dat (.int ways))]) (ex_for (items := (List.range' j l2.length).map fun i : Nat => Dat.int i) (fun _ _ => rfl) ?_ ?_ ?_) ⟨by rw [hpre]; rfl, by rw [hev2]; rfl, rfl, rfl, rfl, trivial⟩) ?_
  · rw [hj, hl2, ← List.range_eq_range']; exact ei_rangeN (by walk_at "boot") ((ev_bin (ev_len (by walk_at "boot") (ev_name rfl) rfl hcsl) ev_int op_sub).cast (by rw [List.length_map, hlen, hcdl]; congr 2; (clear hl2 hev2 hj hpre hrl hcsl hlen hN8 ha hnum hce hev hte hcdl hcd hcde hlet hbit hdig hNe hrb htp hcb hcl hcs hwl hge hwf hws hN hq255 hkps hq hl hne S hA hW; lia)))
  · intro x hx
    rcases List.mem_cons.mp hx with rfl | hx
    · exact ⟨by walk_at "slot", by walk_at "nm"⟩
    · cases hx
  · have h1 : cs = cs.take j ++ (l2 ++ [if te then 0 else 255]) := by rw [hj, hl2]; exact hce
    have h2 : j + l2.length = l.length := by rw [hj, hl2]; (clear h1 hl2 hev2 hj hpre hrl hcsl hlen hN8 ha hnum hce hev hte hcd hcde hlet hbit hdig hNe hrb htp hcb hcs hwl hge hwf hws hN hq255 hkps hq hl hne S hA hW; lia)
    have h3 : pre.length + l2.length ≤ 100 := by rw [hpre, hl2]; simp; (clear h1 hl2 hev2 hpre hrl hcsl hlen hN8 ha hnum hce hev hte hcd hcde hlet hbit hdig hNe hrb htp hcb hcs hwl hge hwf hws hN hq255 hkps hq hne S hA hW; lia)
    have hcb' := hcb
    generalize PV.dat (Dat.bytes ws.toArray) = pw
    clear hpre hj hl2 hev2
    revert h1 h2 h3
    intro h1 h2 h3
    induction l2 generalizing j pre ev with
    | nil => rw [cdW, List.append_nil]; exact .nil
    | cons q l2 ih =>
      rw [List.length_cons, List.range'_succ]
      simp only [List.length_cons] at h2 h3
      have hgq : cs[j]? = some q := by rw [h1, List.getElem?_append_right (by rw [List.length_take]; (clear h3 h1 ih hcb' hrl hcsl hlen hN8 ha hnum hce hev hte hcd hcde hlet hbit hdig hNe hrb htp hcb hcs hwl hge hwf hws hN hq255 hkps hq hl hne S hA hW; lia)), List.length_take, Nat.min_eq_left (by (clear h3 h1 ih hcb' hrl hcsl hlen hN8 ha hnum hce hev hte hcd hcde hlet hbit hdig hNe hrb htp hcb hcs hwl hge hwf hws hN hq255 hkps hq hl hne S hA hW; lia)), Nat.sub_self]; rfl
      have hql := hcb' q (List.mem_of_getElem? hgq)
      have e1 : pre ++ cdW ways j ev (q :: l2) = (pre ++ [if ev then 255 - q else q]) ++ cdW ways (j + 1) (ev == (bitN ways j == 1)) l2 := by rw [cdW]; simp
      rw [e1, evW]
      refine ForR.cons (bs := [("k", .dat (.int j))]) (d := .int j) (ρ' := [("steps", .lst ((pre ++ [if ev then 255 - q else q]).map fun n : Nat => Dat.int n)), ("even", .dat (.bool (ev == (bitN ways j == 1)))), ("codes", .dat (.list (cs.map fun n : Nat => Dat.int n))), ("word", pw), ("ways", .dat (.int ways))]) rfl ?_ (ih (j := j + 1) (pre := pre ++ [if ev then 255 - q else q]) (ev := ev == (bitN ways j == 1)) ?_ (by (clear e1 hql hgq h3 h1 ih hcb' hrl hcsl hlen hN8 ha hnum hce hev hte hcd hcde hlet hbit hdig hNe hrb htp hcb hcs hwl hge hwf hws hN hq255 hkps hq hl hne S hA hW; lia)) (by simp; (clear e1 hql hgq h2 h1 ih hcb' hrl hcsl hlen hN8 ha hnum hce hev hte hcdl hcd hcde hlet hbit hdig hNe hrb htp hcb hcl hcs hwl hge hwf hws hN hq255 hkps hq hl hne S hA hW; lia)))
      · have hp0 : (2 : Int) ^ j ≠ 0 := by have : 0 < (2 : Int) ^ j := Int.pow_pos (by decide); (clear e1 hql hgq h3 h2 h1 ih hcb' hrl hcsl hlen hN8 ha hnum hce hev hte hcdl hcd hcde hlet hbit hdig hNe hrb htp hcb hcl hcs hwl hge hwf hws hN hq255 hkps hq hl hne S hA hW; lia)
        refine ex_seq (ex_append (d := .int (if ev then 255 - q else q : Nat)) rfl (ev_ifexp (b := ev) (et_val (ev_name rfl) rfl) (fun h => (ev_bin ev_int (ev_item (d := .int q) (ev_name rfl) rfl (ev_name rfl) (seqAt_nat (by rw [List.getElem?_map, hgq]; rfl)) hcsl) op_sub).cast ?_) (fun h => (ev_item (d := .int q) (ev_name rfl) rfl (ev_name rfl) (seqAt_nat (by rw [List.getElem?_map, hgq]; rfl)) hcsl).cast ?_)) (by simp; (clear hp0 e1 hql hgq h1 ih hcb' hrl hcsl hlen hN8 ha hnum hce hev hte hcd hcde hlet hbit hdig hNe hrb htp hcb hcs hwl hge hwf hws hN hq255 hkps hq hne S hA hW; lia)) rfl) ?_
        · rw [h, if_pos rfl]; congr 2; (clear h hp0 e1 hgq h3 h2 h1 ih hcb' hrl hcsl hlen hN8 ha hnum hce hev hte hcdl hcd hcde hlet hbit hdig hNe hrb htp hcb hcl hcs hwl hge hwf hws hN hq255 hkps hq hl hne S hA hW; omega)
        · rw [h]; rfl
        refine ex_last (ex_assign (d := .bool (ev == (bitN ways j == 1))) (ev_cmp (ev_name rfl) ((ev_cmp (ev_bin (ev_bin (ev_name rfl) (ev_bin ev_int (ev_name rfl) (op_pow (by (clear hp0 e1 hql hgq h3 h2 h1 ih hcb' hrl hcsl hlen hN8 ha hnum hce hev hte hcdl hcd hcde hlet hbit hdig hNe hrb htp hcb hcl hcs hwl hge hwf hws hN hq255 hkps hq hl hne S hA hW; lia)) (by show (2 : Int) * j ≤ 2 ^ 27; (clear hp0 e1 hql hgq h3 h1 ih hcb' hrl hcsl hlen hN8 ha hnum hce hev hte hcd hcde hlet hbit hdig hNe hrb htp hcb hcs hwl hge hwf hws hN hq255 hkps hq hne S hA hW; lia)))) (op_fdiv (by exact hp0) (PyProof.noPylong_of_log2 (by show ((2 : Int) ^ j).natAbs.log2 < 9000; rw [pow_two_log]; (clear hp0 e1 hql hgq h3 h1 ih hcb' hrl hcsl hlen hN8 ha hnum hce hev hte hcd hcde hlet hbit hdig hNe hrb htp hcb hcs hwl hge hwf hws hN hq255 hkps hq hne S hA hW; lia))))) ev_int (op_mod (by decide))) ev_int op_eqi).cast (by show PV.dat (.bool ((((ways : Int).fdiv (2 ^ j)).fmod 2 == 1))) = _; rw [bit_op])) (op_eq (by simp [deqn]))) (by walk_at "slot") (by walk_at "nm")) ⟨by simp; rfl, rfl, rfl, rfl, rfl, trivial⟩
      · conv => lhs; rw [h1]
        rw [List.take_add_one, hgq]; simp
  have hst : pre ++ cdW ways j ev l2 = l := by rw [hpre, hj, hev2, hl2]; exact hcd
  have hte : evW ways j ev l2 = te := by rw [hj, hev2, hl2]; exact hev
  rw [hst, hte]
  clear hst hte hpre hj hev2 hl2
  have hwb : ws.toArray = byteArr (cs.flatMap fun c => [(65 : Int) + ((c / 16 : Nat) : Int), 65 + ((c % 16 : Nat) : Int)]) := by
    rw [hlet]
    unfold byteArr
    congr 1
    rw [List.map_flatMap]
    rfl
  refine exr_seq (ex_assign (d := .bytes ws.toArray) ((ev_tcall (T := "bytes") (ds := [.list ((cs.flatMap fun c => [(65 : Int) + ((c / 16 : Nat) : Int), 65 + ((c % 16 : Nat) : Int)]).map .int)]) (by walk_at "boot") (.one ((ev_cmap (xs := cs) (inj := fun c : Nat => Dat.int c) (out := fun c => [Dat.int (65 + ((c / 16 : Nat) : Int)), .int (65 + ((c % 16 : Nat) : Int))]) (ρ' := []) (by walk_at "side") inj_nat (ei_list (ev_name rfl) rfl) (fun c hc => ⟨[("code", .dat (.int c))], true, rfl, .nil, fun _ => ?_, fun e => by cases e⟩) ?_).cast (by rw [List.map_flatMap]; rfl))) (op_bytes ?_ ?_)).cast (by rw [hwb])) (by walk_at "slot") (by walk_at "nm")) ?_
  · refine cb_cmap (xs := [c / 16, c % 16]) (inj := fun y : Nat => Dat.int y) (fun _ _ => rfl) (dis1 (by rfl)) inj_nat (ei_tuple (ev_tup2 ((ev_bin (ev_name rfl) ev_int (op_fdiv (by decide) (PyProof.noPylong_small (by decide)))).cast ?_) ((ev_bin (ev_name rfl) ev_int (op_mod (by decide))).cast ?_))) (cmap_map (g := fun y : Nat => Dat.int (65 + (y : Int))) fun y hy => ⟨[("figure", .dat (.int y))], rfl, ev_bin ev_int (ev_name rfl) op_add⟩)
    · rw [Int.fdiv_eq_ediv_of_nonneg _ (by decide)]; push_cast; rfl
    · rw [Int.fmod_eq_emod_of_nonneg _ (by decide)]; push_cast; rfl
  · rw [List.length_flatMap]
    have : ∀ l : List Nat, (l.map fun c => ([Dat.int (65 + ((c / 16 : Nat) : Int)), .int (65 + ((c % 16 : Nat) : Int))] : List Dat).length).sum = 2 * l.length := by
      intro l
      induction l with
      | nil => rfl
      | cons x l ih => rw [List.map_cons, List.sum_cons, ih]; show 2 + 2 * l.length = 2 * (l.length + 1); (clear ih hwb hrl hcsl hlen hN8 ha hnum hce hev hte hcdl hcd hcde hlet hbit hdig hNe hrb htp hcb hcl hcs hwl hge hwf hws hN hq255 hkps hq hl hne S hA hW; lia)
    rw [this]; (clear this hwb hrl hcsl hlen hN8 ha hnum hce hev hte hcd hcde hlet hbit hdig hNe hrb htp hcb hcs hwl hge hwf hws hN hq255 hkps hq hne S hA hW; lia)
  · intro n hn
    obtain ⟨c, hc, hn⟩ := List.mem_flatMap.mp hn
    have := hcb c hc
    simp only [List.mem_cons, List.not_mem_nil, or_false] at hn
    (clear hc hwb hrl hcsl hlen hN8 ha hnum hce hev hte hcdl hcd hcde hlet hbit hdig hNe hrb htp hcb hcl hcs hwl hge hwf hws hN hq255 hkps hq hl hne S hA hW; omega)
  · rw [List.length_flatMap]
    have : ∀ l : List Nat, (l.map fun c => ([(65 : Int) + ((c / 16 : Nat) : Int), 65 + ((c % 16 : Nat) : Int)] : List Int).length).sum = 2 * l.length := by
      intro l
      induction l with
      | nil => rfl
      | cons x l ih => rw [List.map_cons, List.sum_cons, ih]; show 2 + 2 * l.length = 2 * (l.length + 1); (clear ih hwb hrl hcsl hlen hN8 ha hnum hce hev hte hcdl hcd hcde hlet hbit hdig hNe hrb htp hcb hcl hcs hwl hge hwf hws hN hq255 hkps hq hl hne S hA hW; lia)
    rw [this]; (clear this hwb hrl hcsl hlen hN8 ha hnum hce hev hte hcd hcde hlet hbit hdig hNe hrb htp hcb hcs hwl hge hwf hws hN hq255 hkps hq hne S hA hW; lia)
  have hcm : cs.map (fun n : Nat => Dat.int n) = (cd.map fun n : Nat => Dat.int n) ++ [.int (if te then 0 else 255 : Nat)] := by rw [hce, List.map_append]; rfl
  refine exr_if (b := false) ((et_or3 (a := false) (b := false) (c := false) ((et_not (et_val (ev_isinst (Ts := "bytes") (d := .bytes ws.toArray) (by walk_at "boot") (by walk_at "boot") (ev_name rfl) rfl rfl ty_bytes PySem.F.sub_bytes_bytes) rfl)).cast rfl) (fun _ => (et_cmp (ev_name rfl) (ev_name rfl) (op_ne (deqn_bytes 8 _))).cast rfl) (fun _ _ => (et_cmp (ev_slice (ev_name rfl) rfl (.some (ev_un ev_int op_neg)) .none .none (by decide) hcsl) (ev_list (ds := [.int (if te then 0 else 255 : Nat)]) (.one (ev_ifexp (b := te) (et_val (ev_name rfl) rfl) (fun h => ev_int.cast (by rw [h]; rfl)) (fun h => ev_int.cast (by rw [h]; rfl)))) (by simp)) (op_ne (b := true) ?_)).cast rfl)).cast rfl) (fun h => by cases h) (fun _ => ⟨rfl, ?_⟩)
  · rw [hcm, pick_last1]
    exact deqn_list fun d hd => by
      rcases List.mem_cons.mp hd with rfl | hd
      · exact deqn_int 7 _
      · cases hd
  refine exr_seq (ex_unpack (a := .int 0) (b := .int 1) (ev_tup2 ev_int ev_int) (by walk_at "slot") (by walk_at "nm") (by walk_at "slot") (by walk_at "nm") (hw := fun _ => swapped_const rfl)) ?_
  obtain ⟨m, hm⟩ : ∃ m, m = l.length := ⟨_, rfl⟩
  have hv0 : valW ways m (l.drop m) = (0, 1) := by rw [hm, List.drop_length]; rfl
  refine exr_seq (ρ' := [("upper", .dat (.int (valW ways 0 (l.drop 0)).1)), ("lower", .dat (.int (valW ways 0 (l.drop 0)).2)), ("steps", .dat (.list (l.map fun n : Nat => Dat.int n))), ("ways", .dat (.int ways))]) (ex_freeze (x := "steps") rfl (by simp) (EX.from (ρ' := [("upper", .dat (.int (valW ways m (l.drop m)).1)), ("lower", .dat (.int (valW ways m (l.drop m)).2)), ("steps", .dat (.list (l.map fun n : Nat => Dat.int n))), ("ways", .dat (.int ways))]) (ex_for (items := downD m) (fun _ _ => rfl) ?_ ?_ ?_) ⟨by rw [hv0]; rfl, by rw [hv0]; rfl, rfl, rfl, trivial⟩)) ?_
  · rw [← rangeD_down]
    exact ei_range3 (by walk_at "boot") rfl ((ev_bin (ev_len (by walk_at "boot") (ev_name rfl) rfl (by simp; (clear hv0 hcm hwb hrl hcsl hlen hN8 ha hnum hce hev hte hcd hcde hlet hbit hdig hNe hrb htp hcb hcs hwl hge hwf hws hN hq255 hkps hq hne S hA hW; lia))) ev_int op_sub).cast (by rw [List.length_map, hm])) rfl (ev_un ev_int op_neg) rfl (ev_un ev_int op_neg) (by decide) (PyProof.noPylong_small (by decide)) (down_small m (by (clear hv0 hcm hwb hrl hcsl hlen hN8 ha hnum hce hev hte hcd hcde hlet hbit hdig hNe hrb htp hcb hcs hwl hge hwf hws hN hq255 hkps hq hne S hA hW; lia))) (down_size m)
  · intro x hx
    rcases List.mem_cons.mp hx with rfl | hx
    · exact ⟨by walk_at "slot", by walk_at "nm"⟩
    · cases hx
  · have hml : m ≤ l.length := by (clear hv0 hcm hwb hrl hcsl hlen hN8 ha hnum hce hev hte hcd hcde hlet hbit hdig hNe hrb htp hcb hcs hwl hge hwf hws hN hq255 hkps hq hl hne S hA hW; lia)
    clear hm hv0
    induction m with
    | zero => exact .nil
    | succ m ih =>
      have hgq : l[m]? = some (l[m]'(by (clear ih hcm hwb hrl hcsl hlen hN8 ha hnum hce hev hte hcd hcde hlet hbit hdig hNe hrb htp hcb hcs hwl hge hwf hws hN hq255 hkps hq hl hne S hA hW; lia))) := List.getElem?_eq_getElem (by (clear ih hcm hwb hrl hcsl hlen hN8 ha hnum hce hev hte hcd hcde hlet hbit hdig hNe hrb htp hcb hcs hwl hge hwf hws hN hq255 hkps hq hl hne S hA hW; lia))
      generalize l[m]'(by (clear hgq ih hcm hwb hrl hcsl hlen hN8 ha hnum hce hev hte hcd hcde hlet hbit hdig hNe hrb htp hcb hcs hwl hge hwf hws hN hq255 hkps hq hl hne S hA hW; lia)) = q at hgq
      have hql := hq q (List.mem_of_getElem? hgq)
      have hp0 : (2 : Int) ^ m ≠ 0 := by have : 0 < (2 : Int) ^ m := Int.pow_pos (by decide); (clear hql hgq hml ih hcm hwb hrl hcsl hlen hN8 ha hnum hce hev hte hcdl hcd hcde hlet hbit hdig hNe hrb htp hcb hcl hcs hwl hge hwf hws hN hq255 hkps hq hl hne S hA hW; lia)
      refine ForR.cons (bs := [("k", .dat (.int m))]) (d := .int m) (ρ' := [("upper", .dat (.int (valW ways m (l.drop m)).1)), ("lower", .dat (.int (valW ways m (l.drop m)).2)), ("steps", .dat (.list (l.map fun n : Nat => Dat.int n))), ("ways", .dat (.int ways))]) rfl ?_ (ih (by (clear hp0 hql hgq ih hcm hwb hrl hcsl hlen hN8 ha hnum hce hev hte hcd hcde hlet hbit hdig hNe hrb htp hcb hcs hwl hge hwf hws hN hq255 hkps hq hl hne S hA hW; lia)))
      rw [valW_drop hgq]
      generalize valW ways (m + 1) (l.drop (m + 1)) = v
      refine ex_seq (ex_assign (d := .int (if bitN ways m == 1 then v.2 + v.1 else v.2 - v.1)) (ev_ifexp (b := bitN ways m == 1) ((et_cmp (ev_bin (ev_bin (ev_name rfl) (ev_bin ev_int (ev_name rfl) (op_pow (by (clear hp0 hql hgq hml ih hcm hwb hrl hcsl hlen hN8 ha hnum hce hev hte hcdl hcd hcde hlet hbit hdig hNe hrb htp hcb hcl hcs hwl hge hwf hws hN hq255 hkps hq hl hne S hA hW; lia)) (by show (2 : Int) * m ≤ 2 ^ 27; (clear hp0 hql hgq ih hcm hwb hrl hcsl hlen hN8 ha hnum hce hev hte hcd hcde hlet hbit hdig hNe hrb htp hcb hcs hwl hge hwf hws hN hq255 hkps hq hne S hA hW; lia)))) (op_fdiv (by exact hp0) (PyProof.noPylong_of_log2 (by show ((2 : Int) ^ m).natAbs.log2 < 9000; rw [pow_two_log]; (clear hp0 hql hgq ih hcm hwb hrl hcsl hlen hN8 ha hnum hce hev hte hcd hcde hlet hbit hdig hNe hrb htp hcb hcs hwl hge hwf hws hN hq255 hkps hq hne S hA hW; lia))))) ev_int (op_mod (by decide))) ev_int op_eqi).cast (by show ((((ways : Int).fdiv (2 ^ m)).fmod 2 == 1)) = _; rw [bit_op])) (fun h => (ev_bin (ev_name rfl) (ev_name rfl) op_add).cast (by rw [h]; rfl)) (fun h => (ev_bin (ev_name rfl) (ev_name rfl) op_sub).cast (by rw [h]; rfl))) (by walk_at "slot") (by walk_at "nm")) ?_
      exact ex_last (ex_assign (d := .int (q * v.2)) (ev_bin (ev_item (d := .int q) (ev_name rfl) rfl (ev_name rfl) (seqAt_nat (by rw [List.getElem?_map, hgq]; rfl)) (by simp; (clear hp0 hql hgq hml ih hcm hwb hrl hcsl hlen hN8 ha hnum hce hev hte hcd hcde hlet hbit hdig hNe hrb htp hcb hcs hwl hge hwf hws hN hq255 hkps hq hne S hA hW; lia))) (ev_name rfl) (op_mul (IntMulOk.of_left (intBits_le_64 (by (clear hp0 hgq hml ih hcm hwb hrl hcsl hlen hN8 ha hnum hce hev hte hcdl hcd hcde hlet hbit hdig hNe hrb htp hcb hcl hcs hwl hge hwf hws hN hq255 hkps hq hl hne S hA hW; lia)) (by (clear hp0 hgq hml ih hcm hwb hrl hcsl hlen hN8 ha hnum hce hev hte hcdl hcd hcde hlet hbit hdig hNe hrb htp hcb hcl hcs hwl hge hwf hws hN hq255 hkps hq hl hne S hA hW; lia)))))) (by walk_at "slot") (by walk_at "nm")) ⟨rfl, rfl, rfl, rfl, trivial⟩
  rw [List.drop_zero]
  exact exr_ret (ev_tup2 (ev_name rfl) (ev_name rfl))
end
section
noncomputable abbrev noNeg : Str := Str.ofString "lo must be non-negative"
noncomputable def bX (lf : Nat) (F : List Dat → Option Dat) (ps : List PV) (kps : List (Str × PV)) : Prop := ∃ ds x lo, ps = [.dat (.list ds), .dat x, .dat (.int lo), .dat .none] ∧ kps = ([("key", .fn lf F)] : List (Str × PV)) ∧ lo < 0
theorem c_bRx (W : Wd) (P : Params) (hW : WL W P) (lf : Nat) (F : List Dat → Option Dat) : GRaise W 1 32 "ValueError" (some noNeg) (bX lf F) := by
  intro A h₀ fenv L m mu fz s vs kvs ps kps Q E hA S hps hkps hG k
  obtain ⟨ds, x, lo, rfl, rfl, hlo⟩ := hG
  obtain ⟨va, vx, vlo, vhi, rfl, ra, rx, rlo, rhi⟩ := PRepA.i4 hps
  obtain ⟨vk, rfl, hvk⟩ := KRepA.i1 hkps
  refine call_R (f := 32) (lv := 0) (by rw [hW.K]; rfl) (by rw [hW.K]; rfl) (by rfl) hA S (binds := [("a", va), ("x", vx), ("lo", vlo), ("hi", vhi), ("key", vk)]) (nsb := ["a", "x", "lo", "hi", "key"]) (ρ := [("a", .dat (.list ds)), ("x", .dat x), ("lo", .dat (.int lo)), ("hi", .dat .none), ("key", .fn lf F)]) (S.binds fun S => by rw [hW.K]; kernel_rfl) (by rfl) (by rfl) (by decide)
    (.dat (by walk_at "nm") rfl ra (.dat (by walk_at "nm") rfl rx (.dat (by walk_at "nm") rfl rlo (.dat (by walk_at "nm") rfl rhi (.cons (by walk_at "nm") rfl hvk (fun es e => by cases e) .nil))))) rfl rfl
    (rx_head (rx_if (b := true) ((et_cmp (ev_name rfl) ev_int op_lt).cast (by simpa using hlo)) (fun _ => rx_head (rx_raise_text (by walk_at "boot") PySem.F.excCall_ValueError PySem.F.excRaise_ValueError)) (fun e => by cases e))) k
theorem c_bLx (W : Wd) (P : Params) (hW : WL W P) (lf : Nat) (F : List Dat → Option Dat) : GRaise W 1 50 "ValueError" (some noNeg) (bX lf F) := by
  intro A h₀ fenv L m mu fz s vs kvs ps kps Q E hA S hps hkps hG k
  obtain ⟨ds, x, lo, rfl, rfl, hlo⟩ := hG
  obtain ⟨va, vx, vlo, vhi, rfl, ra, rx, rlo, rhi⟩ := PRepA.i4 hps
  obtain ⟨vk, rfl, hvk⟩ := KRepA.i1 hkps
  refine call_R (f := 50) (lv := 0) (by rw [hW.K]; rfl) (by rw [hW.K]; rfl) (by rfl) hA S (binds := [("a", va), ("x", vx), ("lo", vlo), ("hi", vhi), ("key", vk)]) (nsb := ["a", "x", "lo", "hi", "key"]) (ρ := [("a", .dat (.list ds)), ("x", .dat x), ("lo", .dat (.int lo)), ("hi", .dat .none), ("key", .fn lf F)]) (S.binds fun S => by rw [hW.K]; kernel_rfl) (by rfl) (by rfl) (by decide)
    (.dat (by walk_at "nm") rfl ra (.dat (by walk_at "nm") rfl rx (.dat (by walk_at "nm") rfl rlo (.dat (by walk_at "nm") rfl rhi (.cons (by walk_at "nm") rfl hvk (fun es e => by cases e) .nil))))) rfl rfl
    (rx_head (rx_if (b := true) ((et_cmp (ev_name rfl) ev_int op_lt).cast (by simpa using hlo)) (fun _ => rx_head (rx_raise_text (by walk_at "boot") PySem.F.excCall_ValueError PySem.F.excRaise_ValueError)) (fun e => by cases e))) k
noncomputable def iX (lf : Nat) (F : List Dat → Option Dat) (x : Dat) : Prop := lf ≤ 1 ∧ ∃ kx, F [x] = some kx
theorem c_iRx (W : Wd) (P : Params) (hW : WL W P) (lf : Nat) (F : List Dat → Option Dat) : GRaise W 2 23 "ValueError" (some noNeg) (fun ps kps => ∃ ds x lo, ps = [.dat (.list ds), .dat x, .dat (.int lo)] ∧ kps = ([("key", .fn lf F)] : List (Str × PV)) ∧ lo < 0 ∧ iX lf F x) := by
  intro A h₀ fenv L m mu fz s vs kvs ps kps Q E hA S hps hkps hG k
  obtain ⟨ds, x, lo, rfl, rfl, hlo, hx⟩ := hG
  obtain ⟨hlf, kx, hkx⟩ := hx
  obtain ⟨va, vx, vlo, rfl, ra, rx, rlo⟩ := PRepA.i3 hps
  obtain ⟨vk, rfl, hvk⟩ := KRepA.i1 hkps
  refine call_R (f := 23) (lv := 1) (by rw [hW.K]; rfl) (by rw [hW.K]; rfl) (by rfl) hA S (binds := [("a", va), ("x", vx), ("lo", vlo), ("hi", .none), ("key", vk)]) (nsb := ["a", "x", "lo", "hi", "key"]) (ρ := [("a", .dat (.list ds)), ("x", .dat x), ("lo", .dat (.int lo)), ("hi", .dat .none), ("key", .fn lf F)]) (ρ' := [("a", .dat (.list ds)), ("x", .dat x), ("lo", .dat (.int lo)), ("hi", .dat .none), ("key", .fn lf F)]) (S.binds fun S => by rw [hW.K]; kernel_rfl) (by rfl) (by rfl) (by decide)
    (.dat (by walk_at "nm") rfl ra (.dat (by walk_at "nm") rfl rx (.dat (by walk_at "nm") rfl rlo (.dat (by walk_at "nm") rfl .none (.cons (by walk_at "nm") rfl hvk (fun es e => by cases e) .nil))))) rfl rfl
    (rx_head (rx_if (b := false) (et_fn_is_none rfl) (fun e => by cases e) (fun _ => ?_))) k
  exact (rxc_head (rxc_assign (re_callk (by walk_at "glb") (c_bRx W P hW lf F) (.cons rfl (ev_name rfl) (.three (ev_fcall rfl (.one (ev_name rfl)) hkx hlf) (ev_name rfl) (ev_name rfl))) (by simp) (ev_name rfl) ⟨ds, kx, lo, rfl, rfl, hlo⟩ (by decide)))).rx
theorem c_iLx (W : Wd) (P : Params) (hW : WL W P) (lf : Nat) (F : List Dat → Option Dat) : GRaise W 2 41 "ValueError" (some noNeg) (fun ps kps => ∃ ds x lo, ps = [.dat (.list ds), .dat x, .dat (.int lo)] ∧ kps = ([("key", .fn lf F)] : List (Str × PV)) ∧ lo < 0 ∧ iX lf F x) := by
  intro A h₀ fenv L m mu fz s vs kvs ps kps Q E hA S hps hkps hG k
  obtain ⟨ds, x, lo, rfl, rfl, hlo, hx⟩ := hG
  obtain ⟨hlf, kx, hkx⟩ := hx
  obtain ⟨va, vx, vlo, rfl, ra, rx, rlo⟩ := PRepA.i3 hps
  obtain ⟨vk, rfl, hvk⟩ := KRepA.i1 hkps
  refine call_R (f := 41) (lv := 1) (by rw [hW.K]; rfl) (by rw [hW.K]; rfl) (by rfl) hA S (binds := [("a", va), ("x", vx), ("lo", vlo), ("hi", .none), ("key", vk)]) (nsb := ["a", "x", "lo", "hi", "key"]) (ρ := [("a", .dat (.list ds)), ("x", .dat x), ("lo", .dat (.int lo)), ("hi", .dat .none), ("key", .fn lf F)]) (ρ' := [("a", .dat (.list ds)), ("x", .dat x), ("lo", .dat (.int lo)), ("hi", .dat .none), ("key", .fn lf F)]) (S.binds fun S => by rw [hW.K]; kernel_rfl) (by rfl) (by rfl) (by decide)
    (.dat (by walk_at "nm") rfl ra (.dat (by walk_at "nm") rfl rx (.dat (by walk_at "nm") rfl rlo (.dat (by walk_at "nm") rfl .none (.cons (by walk_at "nm") rfl hvk (fun es e => by cases e) .nil))))) rfl rfl
    (rx_head (rx_if (b := false) (et_fn_is_none rfl) (fun e => by cases e) (fun _ => ?_))) k
  exact (rxc_head (rxc_assign (re_callk (by walk_at "glb") (c_bLx W P hW lf F) (.cons rfl (ev_name rfl) (.three (ev_fcall rfl (.one (ev_name rfl)) hkx hlf) (ev_name rfl) (ev_name rfl))) (by simp) (ev_name rfl) ⟨ds, kx, lo, rfl, rfl, hlo⟩ (by decide)))).rx
theorem c_refusals (W : Wd) (P : Params) (hW : WL W P) (lf : Nat) (F : List Dat → Option Dat) : GEsc W 3 130 (fun ps kps d => ∃ ds es, ps = [.dat (.list ds), .dat (.list es), .fn lf F] ∧ kps = [] ∧ iX lf F (.int 6) ∧ d = .list [.str noNeg, .str noNeg]) := by
  intro A fenv L m mu fz s₀ vs kvs ps kps d Q E hA S hps hkps hG k
  obtain ⟨ds, es, rfl, rfl, hx, rfl⟩ := hG
  obtain ⟨v1, v2, v3, rfl, hv1, hv2, hv3⟩ := PRepA.i3 hps
  cases KRepA.i0 hkps
  refine call_E (f := 130) (lv := 2) (by rw [hW.K]; rfl) (by rw [hW.K]; rfl) (by rfl) hA S (binds := [("row", v1), ("mirror", v2), ("key", v3)]) (nsb := ["row", "mirror", "key"]) (ρ := [("row", .dat (.list ds)), ("mirror", .dat (.list es)), ("key", .fn lf F)]) (BindsTo.of_eq rfl) (by rfl) (by rfl) (by decide)
    (.dat (by walk_at "nm") rfl hv1 (.dat (by walk_at "nm") rfl hv2 (.cons (by walk_at "nm") rfl hv3 (fun es e => by cases e) .nil))) rfl rfl ?_ Q k
  refine ex_seq (ex_assign_lst (ef_list (ds := []) .nil) (by walk_at "slot") (by walk_at "nm") (by simp)) ?_
  refine ex_try_as (cls := "ValueError") (msg := noNeg) (ds := []) (rxc_head (rxc_expr (re_callk (by walk_at "glb") (c_iLx W P hW lf F) (.three (ev_name rfl) ev_int (ev_un ev_int op_neg)) (by simp) (ev_name rfl) ⟨es, .int 6, -1, rfl, rfl, by decide, hx⟩ (by decide)))) (by walk_at "boot") PySem.F.isExc_ValueError PySem.F.notTuple_ValueError PySem.F.self_ValueError rfl rfl (by rfl) (by walk_at "nm") (by walk_at "boot") PySem.F.excStr_ValueError (by simp) ?_
  refine ex_try_as (cls := "ValueError") (msg := noNeg) (ds := [.str noNeg]) (rxc_head (rxc_expr (re_callk (by walk_at "glb") (c_iRx W P hW lf F) (.three (ev_name rfl) ev_int (ev_un ev_int op_neg)) (by simp) (ev_name rfl) ⟨ds, .int 6, -1, rfl, rfl, by decide, hx⟩ (by decide)))) (by walk_at "boot") PySem.F.isExc_ValueError PySem.F.notTuple_ValueError PySem.F.self_ValueError rfl rfl (by rfl) (by walk_at "nm") (by walk_at "boot") PySem.F.excStr_ValueError (by simp) ?_
  exact esc_of_exr (exr_ret_lst rfl)
end
section
theorem pick_all {α : Type} (l : List α) : pick l none none none = l := by
  rw [pick_of l none none none (List.range l.length) (by rw [slicePick_all]), fm_range, List.take_length]
theorem c_within (W : Wd) (P : Params) (hW : WL W P) (lf : Nat) (F : List Dat → Option Dat) : GCall W 4 137 (fun ps kps d => ∃ rs ms r0 r1 m0 m1, ps = [.dat (.list rs), .dat (.list ms), .fn lf F] ∧ kps = [] ∧ rs.length ≤ 1000 ∧ ms.length ≤ 1000 ∧
    iR 1 rs [.dat (.int 6), .dat (.int (0 : Nat)), .dat (.int (2 : Nat))] [("key", .fn lf F)] r0 ∧ iR 1 rs [.dat (.int 6), .dat (.int (5 : Nat))] [("key", .fn lf F)] r1 ∧ iL 1 ms [.dat (.int 6), .dat (.int (0 : Nat)), .dat (.int (2 : Nat))] [("key", .fn lf F)] m0 ∧ iL 1 ms [.dat (.int 6), .dat (.int (5 : Nat))] [("key", .fn lf F)] m1 ∧
    d = .list [.list r0, .list r1, .list m0, .list m1]) := by
  intro A h₀ fenv L m mu fz s₀ vs kvs ps kps d Q E hA S hps hkps hG k
  obtain ⟨rs, ms, r0, r1, m0, m1, rfl, rfl, hrs, hms, i0, i1, j0, j1, rfl⟩ := hG
  obtain ⟨v1, v2, v3, rfl, hv1, hv2, hv3⟩ := PRepA.i3 hps
  cases KRepA.i0 hkps
  refine call_K0 (f := 137) (lv := 3) (by rw [hW.K]; rfl) (by rw [hW.K]; rfl) (by rfl) (by decide) hA S (binds := [("row", v1), ("mirror", v2), ("key", v3)]) (nsb := ["row", "mirror", "key"]) (ρ := [("row", .dat (.list rs)), ("mirror", .dat (.list ms)), ("key", .fn lf F)]) (BindsTo.of_eq rfl) (by rfl) (by rfl) (by decide)
    (.dat (by walk_at "nm") rfl hv1 (.dat (by walk_at "nm") rfl hv2 (.cons (by walk_at "nm") rfl hv3 (fun es e => by cases e) .nil))) rfl (fun c hc => by cases hc) (fun c hc => by cases hc) ?_ Q k
  have hno : ∀ y ds, List.lookup y ([("row", .dat (.list rs)), ("mirror", .dat (.list ms)), ("key", .fn lf F)] : List (Str × PV)) ≠ some (.lst ds) := by
    intro y ds h
    simp only [List.lookup_cons, List.lookup_nil] at h
    split at h
    · cases h
    · split at h
      · cases h
      · split at h <;> cases h
  have sl : ∀ {sc : Scope} {ρ : Names} {x : Str} {px sp pos : Pos} {ds : List Dat}, ρ.lookup x = some (.dat (.list ds)) → ds.length ≤ 1000 → EF W 3 sc ρ (.Subscript (.Name x px) (.Slice none none none sp) pos) ds := fun {sc ρ x px sp pos ds} h hz => by
    have := ef_slice (pos := pos) (sp := sp) (ev_name (W := W) (lv := 3) (sc := sc) (pos := px) h) (ds := ds) rfl .none .none .none (by simp) (by (clear h hno hkps hv3 hv2 hv1 hps k j1 j0 i1 i0 hms hrs S hA hW; lia))
    rwa [pick_all] at this
  refine exd_start (dss := [rs, rs, ms, ms]) (.cons rfl (sl rfl hrs) (.cons rfl (sl rfl hrs) (.cons rfl (sl rfl hms) (.cons rfl (sl rfl hms) .nil)))) (by walk_at "slot") (by rfl) (by simp) ?_
  refine exd_step (k := 0) (ds := rs) (ds' := r0) hno (by walk_at "nm") (by walk_at "glb") (c_iR W P hW 1) rfl (by simp) (.three ev_int ev_int ev_int) (ev_name rfl) i0 (by decide) ?_
  refine exd_step (k := 1) (ds := rs) (ds' := r1) hno (by walk_at "nm") (by walk_at "glb") (c_iR W P hW 1) rfl (by simp) (.two ev_int ev_int) (ev_name rfl) i1 (by decide) ?_
  refine exd_step (k := 2) (ds := ms) (ds' := m0) hno (by walk_at "nm") (by walk_at "glb") (c_iL W P hW 1) rfl (by simp) (.three ev_int ev_int ev_int) (ev_name rfl) j0 (by decide) ?_
  refine exd_step (k := 3) (ds := ms) (ds' := m1) hno (by walk_at "nm") (by walk_at "glb") (c_iL W P hW 1) rfl (by simp) (.two ev_int ev_int) (ev_name rfl) j1 (by decide) ?_
  exact exd_ret (by walk_at "nm")
end
section
/-! the law's data -/
noncomputable abbrev NP := Nat × Nat
noncomputable def dP (r : NP) : Dat := .tuple [.int r.1, .int r.2]
noncomputable abbrev dN (n : Nat) : Dat := .int n
theorem inj_dP (x y : NP) (h : dP x = dP y) : x = y := by
  unfold dP at h
  injection h with h; injection h with h1 h; injection h1 with h1; injection h with h2 _; injection h2 with h2
  exact Prod.ext (by (clear h2; lia)) (by (clear h1; lia))
theorem getD_at {α : Type} (f : α → Dat) (d : α) {l : List α} {m : Nat} (h : m < l.length) : (l.map f)[m]? = some (f (l.getD m d)) := by
  rw [List.getElem?_map, List.getElem?_eq_getElem h, List.getD_eq_getElem?_getD, List.getElem?_eq_getElem h]; rfl
theorem pick_from {α : Type} (l : List α) (a : Nat) (h : a ≤ l.length) : pick l (some (a : Int)) none none = l.drop a := by
  rw [pick_of l (some (a : Int)) none none ((List.range l.length).drop a) (by
    refine (slicePick_from _ a (by simp; exact h)).trans ?_
    rw [List.map_drop])]
  have e1 : (List.range l.length).filterMap (l[·]?) = l := by rw [fm_range, List.take_length]
  have e2 : ((List.range l.length).take a).filterMap (l[·]?) = l.take a := by rw [List.take_range, Nat.min_eq_left h, fm_range]
  rw [← List.take_append_drop a (List.range l.length), List.filterMap_append, e2] at e1
  exact List.append_cancel_left (e1.trans (List.take_append_drop a l).symm)
noncomputable def stp (ways : Nat) (p : NP) : List Nat := stepsF ways p.2 (p.2 + 1) 0 p.1
noncomputable def wrd (ways : Nat) (p : NP) : Array UInt8 := wordF ways (stp ways p)
noncomputable abbrev o0 : NP := (0, 0)
structure F2 (ns : List Int) where
  x0 : Int
  x1 : Int
  x2 : Int
  x3 : Int
  x4 : Int
  x5 : Int
  x6 : Int
  hcs : cellsOf ns [22, 171, 661, 256, 1, 1599, 43] = [x0, x1, x2, x3, x4, x5, x6]
  ways : Nat
  hw : x0 = (ways : Int)
  dr : List NP
  hdr : ([x1, x2, x3, x4, x5, x6].map fun c : Int => Dat.tuple [.int (1 + (c.fdiv 40).fmod (2 + c.fmod 40)), .int (2 + c.fmod 40)]) = dr.map dP
  tm : Nat
  htm : 1 + (x6 + 1).fmod 3 = (tm : Int)
  tm3 : tm ≤ 3
  d0 : NP
  d5 : NP
  h0 : dr[0]? = some d0
  h5 : dr[5]? = some d5
  hdl : dr.length = 6
  wd : List NP
  hwd : dr.take 5 ++ [(tm * d0.1, tm * d0.2), d5] = wd
  hwl : wd.length = 7
  hb : ∀ p ∈ wd, 1 ≤ p.1 ∧ p.1 ≤ p.2 ∧ p.2 ≤ 123
  hst : ∀ p ∈ wd, stp ways p ≠ [] ∧ (stp ways p).length ≤ 90 ∧ ∀ q ∈ stp ways p, q ≤ 123
  hval : ∀ p ∈ wd, 0 < (valW ways 0 (stp ways p)).2 ∧ (valW ways 0 (stp ways p)).1 * p.2 = p.1 * (valW ways 0 (stp ways p)).2
  κ : Nat → Nat
  hlt : ∀ i < 7, ∀ j < 7, bltL (wrd ways (wd.getD i o0)).toList (wrd ways (wd.getD j o0)).toList = decide (κ i < κ j)
  heq : ∀ i < 7, ∀ j < 7, κ i = κ j → wrd ways (wd.getD i o0) = wrd ways (wd.getD j o0)
  hfl : ∀ i < 7, ∀ j < 7, decide ((wd.getD i o0).1 * (wd.getD j o0).2 < (wd.getD j o0).1 * (wd.getD i o0).2) = decide (κ i < κ j)
  hfe : ∀ i < 7, ∀ j < 7, ((wd.getD i o0).1 * (wd.getD j o0).2 == (wd.getD j o0).1 * (wd.getD i o0).2) = (κ i == κ j)
noncomputable def scLaw : Scope := { kind := .function, names := ([("script", .local), ("cells", .local), ("ways", .cell), ("drawn", .local), ("times", .local), ("world", .cell), ("upper", .cell), ("lower", .cell), ("k", .local), ("by_word", .local), ("row", .local), ("mirror", .local), ("plain", .local), ("answers", .local), ("less", .local), ("like", .local), ("behind", .local), ("first", .local), ("last", .local), ("due", .local), ("words", .cell)] : List (Str × NameKind)) ++ ([("_law_cells", .globalImplicit), ("range", .globalImplicit), ("_law_value", .globalImplicit), ("insort_right", .globalImplicit), ("insort_left", .globalImplicit), ("_law_refusals", .globalImplicit), ("len", .globalImplicit), ("bisect_left", .globalImplicit), ("bisect_right", .globalImplicit), ("min", .globalImplicit), ("max", .globalImplicit), ("_law_within", .globalImplicit)] : List (Str × NameKind)), isGenerator := false, isCoroutine := false, more := [("@code", .int 141), ("@qual", .str "law.<locals>.")] }
noncomputable def namesA {ns : List Int} (f : F2 ns) : Names := [("words", .dat (.list (f.wd.map fun p => .bytes (wrd f.ways p)))), ("world", .dat (.list (f.wd.map dP)))]
theorem law_walkA (W : Wd) (P : Params) (hW : WL W P) (ns : List Int) (hns : ns.length ≤ 63) (f : F2 ns) (next : EXL W 200 scLaw (namesA f) (execs ((bodyOf (fdOf (Mine.hd.heap_39 P) 142)).drop 7)) (.bool true)) : EXL W 200 scLaw [("script", .dat (.list (ns.map .int)))] (execs (bodyOf (fdOf (Mine.hd.heap_39 P) 142))) (.bool true) := by
  unfold namesA at next
  obtain ⟨x0, x1, x2, x3, x4, x5, x6, hcs, ways, hw, dr, hdr, tm, htm, tm3, d0, d5, h0, h5, hdl, wd, hwd, hwl, hb, hst, hval, κ, hlt, heq, hfl, hfe⟩ := f
  dsimp only at next
  show EXL _ _ _ _ (execs (_ :: _)) _
  refine exl_seq (ex_assign (d := .list ([x0, x1, x2, x3, x4, x5, x6].map .int)) (ev_gcall (by walk_at "glb") (c_cells W P hW) (.two (q := .dat (.tuple (([22, 171, 661, 256, 1, 1599, 43] : List Int).map .int))) (ev_name rfl) (ev_tuple (ds := ([22, 171, 661, 256, 1, 1599, 43] : List Int).map .int) (.cons rfl ev_int (.cons rfl ev_int (.cons rfl ev_int (.cons rfl ev_int (.three ev_int ev_int ev_int))))) (by simp))) ⟨ns, [22, 171, 661, 256, 1, 1599, 43], rfl, rfl, hns, by decide, by rw [hcs]⟩ (by decide)) (by walk_at "slot") (by walk_at "nm")) ?_
  refine exl_seq (ex_assign (d := .int ways) ((ev_item (k := 0) (d := .int x0) (ev_name rfl) rfl ev_int rfl (by simp)).cast (by rw [hw])) (by walk_at "slot") (by walk_at "nm")) ?_
  refine exl_seq (ρ' := [("drawn", .dat (.list (dr.map dP))), ("ways", .dat (.int ways)), ("cells", .dat (.list ([x0, x1, x2, x3, x4, x5, x6].map .int)))]) (EX.to (exa_map (xs := [x1, x2, x3, x4, x5, x6]) (inj := Dat.int) (g := fun c : Int => Dat.tuple [.int (1 + (c.fdiv 40).fmod (2 + c.fmod 40)), .int (2 + c.fmod 40)]) (ρ' := []) (by walk_at "side") inj_int (ei_list (EV.cast (pv' := .dat (.list ([x1, x2, x3, x4, x5, x6].map .int))) (ev_slice (ev_name rfl) rfl (.some ev_int) .none .none (by decide) (by simp)) ?_) rfl) (fun c hc => ⟨_, rfl, ev_tup2 (ev_bin ev_int (ev_bin (ev_bin (ev_name rfl) ev_int (op_fdiv (by decide) (PyProof.noPylong_small (by decide)))) (ev_bin ev_int (ev_bin (ev_name rfl) ev_int (op_mod (by decide))) op_add) (op_mod ?_)) op_add) (ev_bin ev_int (ev_bin (ev_name rfl) ev_int (op_mod (by decide))) op_add)⟩) (by simp) (by walk_at "slot") (by walk_at "nm")) ⟨by rw [hdr]; rfl, rfl, rfl, trivial⟩) ?_
  · rw [show (1 : Int) = ((1 : Nat) : Int) from rfl, pick_from _ _ (by simp)]; rfl
  · have := Int.fmod_nonneg_of_pos c (b := 40) (by decide); (clear hc next hfe hfl heq hlt hval hst hb hwl hwd hdl h5 h0 tm3 htm hdr hw hcs hns hW; omega)
  refine exl_seq (ex_assign (d := .int tm) ((ev_bin ev_int (ev_bin (ev_bin (ev_item (k := 6) (d := .int x6) (ev_name rfl) rfl ev_int rfl (by simp)) ev_int op_add) ev_int (op_mod (by decide))) op_add).cast (by rw [htm])) (by walk_at "slot") (by walk_at "nm")) ?_
  have hi0 : seqAt (dr.map dP) 0 = some (dP d0) := seqAt_nat (k := 0) (by rw [List.getElem?_map, h0]; rfl)
  have hi5 : seqAt (dr.map dP) 5 = some (dP d5) := seqAt_nat (k := 5) (by rw [List.getElem?_map, h5]; rfl)
  have hz : (dr.map dP).length ≤ 1048576 := by simp; (clear hi5 hi0 next hfe hfl heq hlt hval hst hb hwl hwd h5 h0 tm3 htm hdr hw hcs hns hW; lia)
  have tmb : Builtin.Int.intBits (tm : Int) ≤ 64 := intBits_le_64 (by (clear hz hi5 hi0 next hfe hfl heq hlt hval hst hb hwl hwd hdl h5 h0 htm hdr hw hcs hns hW; lia)) (by (clear hz hi5 hi0 next hfe hfl heq hlt hval hst hb hwl hwd hdl h5 h0 htm hdr hw hcs hns hW; lia))
  refine exl_seq (ρ' := [("world", .dat (.list (wd.map dP))), ("ways", .dat (.int ways))]) (EX.to (ex_assign (d := .list (((dr.take 5).map dP) ++ [dP (tm * d0.1, tm * d0.2), dP d5])) (ev_bin ((ev_slice (ev_name rfl) rfl .none (.some ev_int) .none (by decide) hz).cast ?_) (ev_list (ds := [dP (tm * d0.1, tm * d0.2), dP d5]) (.two (ev_tup2 ((ev_bin (ev_name rfl) (ev_titem (k := 0) (d := .int d0.1) (ev_item (k := 0) (ev_name rfl) rfl ev_int hi0 hz) ev_int rfl (by simp)) (op_mul (IntMulOk.of_left tmb))).cast ?_) ((ev_bin (ev_name rfl) (ev_titem (k := 1) (d := .int d0.2) (ev_item (k := 0) (ev_name rfl) rfl ev_int hi0 hz) ev_int rfl (by simp)) (op_mul (IntMulOk.of_left tmb))).cast ?_)) (ev_item (k := 5) (ev_name rfl) rfl ev_int hi5 hz)) (by simp)) (op_add_list ?_)) (by walk_at "slot") (by walk_at "nm")) ⟨?_, rfl, trivial⟩) ?_
  · rw [show (5 : Int) = ((5 : Nat) : Int) from rfl, pick_upto, List.map_take]
  · push_cast; rfl
  · push_cast; rfl
  · simp; (clear tmb hz hi5 hi0 next hfe hfl heq hlt hval hst hb hwl hwd h5 h0 tm3 htm hdr hw hcs hns hW; lia)
  · rw [← hwd, List.map_append]; rfl
  have hwz : (wd.map dP).length ≤ 1048576 := by simp; (clear tmb hz hi5 hi0 next hfe hfl heq hlt hval hst hb hwd hdl h5 h0 tm3 htm hdr hw hcs hns hW; lia)
  refine exl_seq (ρ' := [("words", .dat (.list (wd.map fun p => .bytes (wrd ways p)))), ("world", .dat (.list (wd.map dP))), ("ways", .dat (.int ways))]) (exa_map (xs := wd) (inj := dP) (g := fun p => .bytes (wrd ways p)) (ρ' := [("ways", .dat (.int ways))]) (by walk_at "side") inj_dP (ei_list (ev_name rfl) rfl) (fun p hp => ⟨[("lower", .dat (.int p.2)), ("upper", .dat (.int p.1))], rfl, ?_⟩) (by (clear hwz tmb hz hi5 hi0 next hfe hfl heq hlt hval hst hb hwd hdl h5 h0 tm3 htm hdr hw hcs hns hW; lia)) (by walk_at "slot") (by walk_at "nm")) ?_
  · obtain ⟨b1, b2, b3⟩ := hb p hp
    obtain ⟨s1, s2, s3⟩ := hst p hp
    exact ev_gcall (by walk_at "glb") (c_word W P hW) (.two (ev_gcall (by walk_at "glb") (c_steps W P hW) (.three (ev_name rfl) (ev_name rfl) (ev_name rfl)) ⟨p.1, p.2, ways, rfl, rfl, b2, by (clear s3 s2 s1 hp hwz tmb hz hi5 hi0 next hfe hfl heq hlt hval hst hb hwl hwd hdl h5 h0 tm3 htm hdr hw hcs hns hW; lia), by (clear s3 s2 s1 b2 b1 hp hwz tmb hz hi5 hi0 next hfe hfl heq hlt hval hst hb hwl hwd hdl h5 h0 tm3 htm hdr hw hcs hns hW; lia), rfl⟩ (by decide)) (ev_name rfl)) ⟨stp ways p, ways, rfl, rfl, s2, fun q hq => Nat.le_trans (s3 q hq) (by decide), rfl⟩ (by decide)
  refine exl_seq (ρ' := [("words", .dat (.list (wd.map fun p => .bytes (wrd ways p)))), ("world", .dat (.list (wd.map dP)))]) (EX.to (ρ' := [("words", .dat (.list (wd.map fun p => .bytes (wrd ways p)))), ("world", .dat (.list (wd.map dP))), ("ways", .dat (.int ways))]) (ex_for (items := (List.range 7).map fun i : Nat => Dat.int i) (fun _ _ => rfl) ?_ ?_ ?_) ⟨rfl, rfl, trivial⟩) next
  · exact ei_rangeN (by walk_at "boot") ev_int
  · intro x hx
    rcases List.mem_cons.mp hx with rfl | hx
    · exact ⟨by walk_at "slot", by walk_at "nm"⟩
    · cases hx
  have hall : ∀ k ∈ List.range 7, k < 7 := fun k hk => List.mem_range.mp hk
  revert hall
  generalize List.range 7 = ks
  intro hall
  induction ks with
  | nil => exact .nil
  | cons k ks ih =>
    have hk := hall k (.head _)
    have hkl : k < wd.length := by (clear hall ih hwz tmb hz hi5 hi0 next hfe hfl heq hlt hval hst hb hwd hdl h5 h0 tm3 htm hdr hw hcs hns hW; lia)
    have hm : wd.getD k o0 ∈ wd := by
      rw [List.getD_eq_getElem?_getD, List.getElem?_eq_getElem hkl]; exact List.getElem_mem hkl
    have hwk : seqAt (wd.map fun p => Dat.bytes (wrd ways p)) (k : Int) = some (.bytes (wrd ways (wd.getD k o0))) := seqAt_nat (getD_at (fun p => Dat.bytes (wrd ways p)) o0 hkl)
    have hpk : seqAt (wd.map dP) (k : Int) = some (dP (wd.getD k o0)) := seqAt_nat (getD_at dP o0 hkl)
    generalize wd.getD k o0 = p at hm hwk hpk
    obtain ⟨b1, b2, b3⟩ := hb p hm
    obtain ⟨s1, s2, s3⟩ := hst p hm
    obtain ⟨v1, v2⟩ := hval p hm
    refine ForR.cons (bs := [("k", .dat (.int k))]) (d := .int k) (ρ' := [("words", .dat (.list (wd.map fun p => .bytes (wrd ways p)))), ("world", .dat (.list (wd.map dP))), ("ways", .dat (.int ways))]) rfl ?_ (ih fun j hj => hall j (.tail _ hj))
    refine ex_seq (ex_unpack (a := .int (valW ways 0 (stp ways p)).1) (b := .int (valW ways 0 (stp ways p)).2) (ev_gcall (by walk_at "glb") (c_value W P hW) (.two (ev_item (ev_name rfl) rfl (ev_name rfl) hwk (by simp; (clear v2 v1 s3 s2 s1 b3 b2 b1 hpk hwk hm hkl hk hall ih hwz tmb hz hi5 hi0 next hfe hfl heq hlt hval hst hb hwd hdl h5 h0 tm3 htm hdr hw hcs hns hW; lia))) (ev_name rfl)) ⟨stp ways p, ways, rfl, rfl, s1, s2, s3, rfl⟩ (by decide)) (by walk_at "slot") (by walk_at "nm") (by walk_at "slot") (by walk_at "nm")) ?_
    refine ex_last (ex_if (b := false) ((et_or2 (a := false) (b := false) ((et_cmp (ev_name rfl) ev_int op_le).cast (by simp; (clear v2 s3 s2 s1 b3 b2 b1 hpk hwk hm hkl hk hall ih hwz tmb hz hi5 hi0 next hfe hfl heq hlt hval hst hb hwl hwd hdl h5 h0 tm3 htm hdr hw hcs hns hW; lia))) fun _ => (et_cmp (ev_bin (ev_name rfl) (ev_titem (k := 1) (d := .int p.2) (ev_item (ev_name rfl) rfl (ev_name rfl) hpk hwz) ev_int rfl (by simp)) (op_mul (IntMulOk.of_right (intBits_le_64 (by (clear v2 v1 s3 s2 s1 b2 b1 hpk hwk hm hkl hk hall ih hwz tmb hz hi5 hi0 next hfe hfl heq hlt hval hst hb hwl hwd hdl h5 h0 tm3 htm hdr hw hcs hns hW; lia)) (by (clear v2 v1 s3 s2 s1 b2 b1 hpk hwk hm hkl hk hall ih hwz tmb hz hi5 hi0 next hfe hfl heq hlt hval hst hb hwl hwd hdl h5 h0 tm3 htm hdr hw hcs hns hW; lia)))))) (ev_bin (ev_titem (k := 0) (d := .int p.1) (ev_item (ev_name rfl) rfl (ev_name rfl) hpk hwz) ev_int rfl (by simp)) (ev_name rfl) (op_mul (IntMulOk.of_left (intBits_le_64 (by (clear v2 v1 s3 s2 s1 b3 b2 hpk hwk hm hkl hk hall ih hwz tmb hz hi5 hi0 next hfe hfl heq hlt hval hst hb hwl hwd hdl h5 h0 tm3 htm hdr hw hcs hns hW; lia)) (by (clear v2 v1 s3 s2 s1 b1 hpk hwk hm hkl hk hall ih hwz tmb hz hi5 hi0 next hfe hfl heq hlt hval hst hb hwl hwd hdl h5 h0 tm3 htm hdr hw hcs hns hW; lia)))))) op_nei).cast ?_)) (fun e => by cases e) fun _ => ex_nil) ⟨rfl, rfl, rfl, trivial⟩
    rw [v2]; simp
end
section
noncomputable def insBy {α : Type} (c : Nat → Bool) (x : α) (l : List α) : List α := l.take (bis c (l.length - 0) 0 l.length) ++ x :: l.drop (bis c (l.length - 0) 0 l.length)
theorem insBy_map {α β : Type} (f : α → β) (c : Nat → Bool) (x : α) (l : List α) : (insBy c x l).map f = insBy c (f x) (l.map f) := by
  unfold insBy
  rw [List.map_append, List.map_cons, List.map_take, List.map_drop, List.length_map]
theorem insBy_length {α : Type} (c : Nat → Bool) (x : α) (l : List α) : (insBy c x l).length = l.length + 1 := by
  unfold insBy
  have := (bis_le (c := c) (l.length - 0) 0 l.length (Nat.zero_le _)).2
  rw [List.length_append, List.length_cons, List.length_take, List.length_drop]; lia
theorem insBy_mem {α : Type} {c : Nat → Bool} {x y : α} {l : List α} (h : y ∈ insBy c x l) : y = x ∨ y ∈ l := by
  unfold insBy at h
  rcases List.mem_append.mp h with h | h
  · exact .inr (List.mem_of_mem_take h)
  · rcases List.mem_cons.mp h with h | h
    · exact .inl h
    · exact .inr (List.mem_of_mem_drop h)
noncomputable def insR (κ : Nat → Nat) (l : List Nat) (x : Nat) : List Nat := insBy (fun m => decide (κ x < κ (l.getD m 0))) x l
noncomputable def insL (κ : Nat → Nat) (l : List Nat) (x : Nat) : List Nat := insBy (fun m => !decide (κ (l.getD m 0) < κ x)) x l
noncomputable abbrev Sh := List Nat × List Nat × List Nat
noncomputable def layK (κ : Nat → Nat) (S : Sh) (k : Nat) : Sh := (insR κ S.1 k, insL κ S.2.1 k, if k < 3 then insL κ S.2.2 k else insR κ S.2.2 k)
noncomputable def lay6 (κ : Nat → Nat) : Sh := (List.range 6).foldl (layK κ) ([], [], [])
noncomputable def byF (ws : List (Array UInt8)) : List Dat → Option Dat
  | [.int i] => if 0 ≤ i then (ws[i.toNat]?).map Dat.bytes else none
  | _ => none
theorem byF_at {ws : List (Array UInt8)} {k : Nat} (h : k < ws.length) : byF ws [dN k] = some (.bytes (ws.getD k #[])) := by
  show (if (0 : Int) ≤ (k : Int) then (ws[(k : Int).toNat]?).map Dat.bytes else none) = _
  rw [if_pos (Int.natCast_nonneg k), Int.toNat_natCast, List.getD_eq_getElem?_getD, List.getElem?_eq_getElem h]; rfl
section
variable {w : Nat → Array UInt8} {κ : Nat → Nat} {F : List Dat → Option Dat} {l : List Nat} {x : Nat}
theorem lt_at (hl : ∀ y ∈ l, y < 7) {m : Nat} (h : m < l.length) : l.getD m 0 < 7 := by
  rw [List.getD_eq_getElem?_getD, List.getElem?_eq_getElem h]; exact hl _ (List.getElem_mem h)
theorem ir_word (hlt : ∀ i < 7, ∀ j < 7, bltL (w i).toList (w j).toList = decide (κ i < κ j)) (hF : ∀ i < 7, F [dN i] = some (.bytes (w i))) (hl : ∀ y ∈ l, y < 7) (hx : x < 7) (hz : l.length ≤ 1000) : iR 10 (l.map dN) [.dat (dN x)] [("key", .fn 1 F)] ((insR κ l x).map dN) :=
  ⟨dN x, .bytes (w x), 0, .none, l.length, .fn 1 F, _, .k1 _ (fun _ h => by cases h), ⟨by decide, hF x hx⟩, ⟨.inl ⟨rfl, by rw [List.length_map]⟩, by rw [List.length_map]; exact Nat.le_refl _, by rw [List.length_map]; exact hz, .inr ⟨_, _, rfl⟩, fun m hm => by
    rw [List.length_map] at hm
    exact ⟨_, .bytes (w (l.getD m 0)), getD_at dN 0 hm, ⟨by decide, hF _ (lt_at hl hm)⟩, congrArg some (hlt x hx _ (lt_at hl hm))⟩⟩, Nat.zero_le _, by
    rw [insR, insBy_map]; unfold insBy; rw [List.length_map]⟩
theorem il_word (hlt : ∀ i < 7, ∀ j < 7, bltL (w i).toList (w j).toList = decide (κ i < κ j)) (hF : ∀ i < 7, F [dN i] = some (.bytes (w i))) (hl : ∀ y ∈ l, y < 7) (hx : x < 7) (hz : l.length ≤ 1000) : iL 10 (l.map dN) [.dat (dN x)] [("key", .fn 1 F)] ((insL κ l x).map dN) :=
  ⟨dN x, .bytes (w x), 0, .none, l.length, .fn 1 F, _, .k1 _ (fun _ h => by cases h), ⟨by decide, hF x hx⟩, ⟨.inl ⟨rfl, by rw [List.length_map]⟩, by rw [List.length_map]; exact Nat.le_refl _, by rw [List.length_map]; exact hz, .inr ⟨_, _, rfl⟩, fun m hm => by
    rw [List.length_map] at hm
    exact ⟨_, .bytes (w (l.getD m 0)), getD_at dN 0 hm, ⟨by decide, hF _ (lt_at hl hm)⟩, congrArg (fun b => some (!b)) (hlt _ (lt_at hl hm) x hx)⟩⟩, Nat.zero_le _, by
    rw [insL, insBy_map]; unfold insBy; rw [List.length_map]⟩
theorem ir_plain (hlt : ∀ i < 7, ∀ j < 7, bltL (w i).toList (w j).toList = decide (κ i < κ j)) (hl : ∀ y ∈ l, y < 7) (hx : x < 7) (hz : l.length ≤ 1000) : iR 10 (l.map fun j => .bytes (w j)) [.dat (.bytes (w x))] [] ((insR κ l x).map fun j => .bytes (w j)) :=
  ⟨.bytes (w x), .bytes (w x), 0, .none, l.length, .dat .none, _, .a1, rfl, ⟨.inl ⟨rfl, by rw [List.length_map]⟩, by rw [List.length_map]; exact Nat.le_refl _, by rw [List.length_map]; exact hz, .inl rfl, fun m hm => by
    rw [List.length_map] at hm
    exact ⟨_, _, getD_at (fun j => Dat.bytes (w j)) 0 hm, rfl, congrArg some (hlt x hx _ (lt_at hl hm))⟩⟩, Nat.zero_le _, by
    rw [insR, insBy_map]; unfold insBy; rw [List.length_map]⟩
theorem il_plain (hlt : ∀ i < 7, ∀ j < 7, bltL (w i).toList (w j).toList = decide (κ i < κ j)) (hl : ∀ y ∈ l, y < 7) (hx : x < 7) (hz : l.length ≤ 1000) : iL 10 (l.map fun j => .bytes (w j)) [.dat (.bytes (w x))] [] ((insL κ l x).map fun j => .bytes (w j)) :=
  ⟨.bytes (w x), .bytes (w x), 0, .none, l.length, .dat .none, _, .a1, rfl, ⟨.inl ⟨rfl, by rw [List.length_map]⟩, by rw [List.length_map]; exact Nat.le_refl _, by rw [List.length_map]; exact hz, .inl rfl, fun m hm => by
    rw [List.length_map] at hm
    exact ⟨_, _, getD_at (fun j => Dat.bytes (w j)) 0 hm, rfl, congrArg (fun b => some (!b)) (hlt _ (lt_at hl hm) x hx)⟩⟩, Nat.zero_le _, by
    rw [insL, insBy_map]; unfold insBy; rw [List.length_map]⟩
end
noncomputable def tabL : Addr × Addr × Str := (141, 139, "law.<locals>.<lambda>")
noncomputable def scLaw2 : Scope := unslots scLaw ["words"]
noncomputable def wsF {ns : List Int} (f : F2 ns) : List (Array UInt8) := f.wd.map (wrd f.ways)
noncomputable def namesB {ns : List Int} (f : F2 ns) : Names := [("row", .dat (.list ((lay6 f.κ).1.map dN))), ("mirror", .dat (.list ((lay6 f.κ).2.1.map dN))), ("by_word", .fn 1 (byF (wsF f))), ("words", .dat (.list ((wsF f).map Dat.bytes))), ("world", .dat (.list (f.wd.map dP)))]
theorem law_walkB (W : Wd) (P : Params) (hW : WL W P) (ns : List Int) (f : F2 ns) (h6 : ∀ x ∈ (lay6 f.κ).1, x < 6) (hpr : (lay6 f.κ).2.2.map (fun j => Dat.bytes ((wsF f).getD j #[])) = (lay6 f.κ).1.map fun j => Dat.bytes ((wsF f).getD j #[])) (hlen : (lay6 f.κ).1.length = 6)
    (next : EXL W 200 scLaw2 (namesB f) (execs ((bodyOf (fdOf (Mine.hd.heap_39 P) 142)).drop 11)) (.bool true)) : EXL W 200 scLaw (namesA f) (execs ((bodyOf (fdOf (Mine.hd.heap_39 P) 142)).drop 7)) (.bool true) := by
  have hws : namesA f = ([("words", .dat (.list ((wsF f).map Dat.bytes))), ("world", .dat (.list (f.wd.map dP)))] : Names) := by
    unfold namesA wsF; rw [List.map_map]; rfl
  rw [hws]
  unfold namesB at next
  have hwl : (wsF f).length = 7 := by unfold wsF; rw [List.length_map]; exact f.hwl
  have hlt : ∀ i < 7, ∀ j < 7, bltL ((wsF f).getD i #[]).toList ((wsF f).getD j #[]).toList = decide (f.κ i < f.κ j) := fun i hi j hj => by
    have := f.hlt i hi j hj
    have e : ∀ k < 7, (wsF f).getD k #[] = wrd f.ways (f.wd.getD k o0) := fun k hk => by
      unfold wsF
      have hk' : k < f.wd.length := by rw [f.hwl]; exact hk
      rw [List.getD_eq_getElem?_getD, List.getElem?_map, List.getD_eq_getElem?_getD, List.getElem?_eq_getElem hk']; rfl
    rw [e i hi, e j hj]; exact this
  generalize wsF f = ws at *
  generalize hκ : f.κ = κ at *
  generalize f.wd = wd at *
  clear hws hκ
  have hF : ∀ i < 7, byF ws [dN i] = some (.bytes (ws.getD i #[])) := fun i hi => byF_at (by (clear next hlt hpr hlen h6 hW; lia))
  show EXL _ _ _ _ (execs (_ :: _)) _
  refine exl_lambda (t := tabL) (q := "law.<locals>.") (ρc := [("words", .dat (.list (ws.map Dat.bytes)))]) (pn := ["one"]) (F := byF ws) (lf := 0)
    ⟨hW.gl, by decide, by decide, hW.c3⟩ rfl rfl (by decide) (innerOk (keys := ["words"]) (by rfl) (by decide) rfl) (CapN.all ⟨⟨rfl, rfl⟩, trivial⟩) (by rfl) (by walk_at "slot") (show (Str.ofString "by_word") ∉ [Str.ofString "words"] by decide) (by walk_at "nm") (fun _ => rfl) (fun vs cl pm cdv ctv hv => ?_) (by rfl) (by decide) (plainAll (by rfl)) rfl rfl ?_ rfl rfl ?_
  · match vs, hv with
    | [a], _ => rfl
  · intro ds d hF
    unfold byF at hF
    split at hF
    · rename_i i
      split at hF
      · rename_i hi
        refine ⟨rfl, ev_item (k := i) (ds := ws.map Dat.bytes) (ev_name rfl) rfl (ev_name rfl) ?_ (by simp; (clear hF hi next hlt hpr hlen h6 hW; lia))⟩
        unfold seqAt
        rw [if_neg (by (clear hF next hlt hpr hlen h6 hwl hW; lia)), List.getElem?_map]; exact hF
      · cases hF
    · cases hF
  generalize byF ws = F at *
  refine exl_seq (ex_swap3 (p := .lst []) (q := .lst []) (r := .lst []) (ef_list (ds := []) .nil) (ef_list (ds := []) .nil) (ef_list (ds := []) .nil) rfl rfl rfl (by rfl) (by walk_at "nm") (by rfl) (by walk_at "nm") (by rfl) (by walk_at "nm") (by simp) (by simp) (by simp) (fun _ => rfl) ?_) ?_
  · exact fun env h1 h2 h3 h4 => swapped3 h1 h2 h3 h4 (by rfl) (by rfl) (by decide) (by rfl) (by rfl) (by rfl)
  have hwi : ∀ k < 7, seqAt (ws.map Dat.bytes) ((k : Nat) : Int) = some (.bytes (ws.getD k #[])) := fun k hk => seqAt_nat (getD_at Dat.bytes #[] (by (clear hF next hlt hpr hlen h6 hW; lia)))
  have hwz : (ws.map Dat.bytes).length ≤ 1048576 := by simp; (clear hwi hF next hlt hpr hlen h6 hW; lia)
  obtain ⟨S, hS⟩ : ∃ S : Sh, S = ([], [], []) := ⟨_, rfl⟩
  obtain ⟨ks, hks⟩ : ∃ ks : List Nat, ks = List.range 6 := ⟨_, rfl⟩
  refine exl_sub (ρ' := [("row", .lst (S.1.map dN)), ("mirror", .lst (S.2.1.map dN)), ("plain", .lst (S.2.2.map fun j => .bytes (ws.getD j #[]))), ("by_word", .fn 1 F), ("words", .dat (.list (ws.map Dat.bytes))), ("world", .dat (.list (wd.map dP)))]) ?_ ⟨by rw [hS]; rfl, by rw [hS]; rfl, by rw [hS]; rfl, rfl, rfl, rfl, trivial⟩
  refine exl_seq (ρ' := [("row", .lst ((ks.foldl (layK κ) S).1.map dN)), ("mirror", .lst ((ks.foldl (layK κ) S).2.1.map dN)), ("plain", .lst ((ks.foldl (layK κ) S).2.2.map fun j => .bytes (ws.getD j #[]))), ("by_word", .fn 1 F), ("words", .dat (.list (ws.map Dat.bytes))), ("world", .dat (.list (wd.map dP)))]) (ex_for (items := ks.map fun i : Nat => Dat.int i) (fun _ _ => rfl) (by rw [hks]; exact ei_rangeN (by walk_at "boot") ev_int) ?_ ?_) ?_
  · intro x hx
    rcases List.mem_cons.mp hx with rfl | hx
    · exact ⟨by walk_at "slot", by walk_at "nm"⟩
    · cases hx
  · have hk : ∀ k ∈ ks, k < 6 := by rw [hks]; exact fun k hk => List.mem_range.mp hk
    have h1 : ∀ y ∈ S.1, y < 7 := by rw [hS]; exact fun y h => by cases h
    have h2 : ∀ y ∈ S.2.1, y < 7 := by rw [hS]; exact fun y h => by cases h
    have h3 : ∀ y ∈ S.2.2, y < 7 := by rw [hS]; exact fun y h => by cases h
    have l1 : S.1.length + ks.length ≤ 100 := by rw [hS, hks]; simp
    have l2 : S.2.1.length + ks.length ≤ 100 := by rw [hS, hks]; simp
    have l3 : S.2.2.length + ks.length ≤ 100 := by rw [hS, hks]; simp
    clear hS hks next hpr h6 hlen
    induction ks generalizing S with
    | nil => exact .nil
    | cons k ks ih =>
      simp only [List.length_cons] at l1 l2 l3
      have hk6 := hk k (.head _)
      have hk7 : k < 7 := by (clear l3 l2 l1 h3 h2 h1 hk ih hwz hwi hF hlt hwl hW; lia)
      have ne : ∀ {l : List Nat} {c : Nat → Bool}, (∀ y ∈ l, y < 7) → ∀ y ∈ insBy c k l, y < 7 := fun hl y hy => by
        rcases insBy_mem hy with rfl | hy
        · exact hk7
        · exact hl y hy
      have n3 : ∀ y ∈ (layK κ S k).2.2, y < 7 := by
        show ∀ y ∈ (if k < 3 then insL κ S.2.2 k else insR κ S.2.2 k), y < 7
        split
        · exact ne h3
        · exact ne h3
      have m3 : (layK κ S k).2.2.length = S.2.2.length + 1 := by
        show (if k < 3 then insL κ S.2.2 k else insR κ S.2.2 k).length = _
        split
        · exact insBy_length _ _ _
        · exact insBy_length _ _ _
      have m1 : (layK κ S k).1.length = S.1.length + 1 := insBy_length _ _ _
      have m2 : (layK κ S k).2.1.length = S.2.1.length + 1 := insBy_length _ _ _
      refine ForR.cons (d := .int k) (bs := [("k", .dat (.int k))]) (ρ' := [("row", .lst ((layK κ S k).1.map dN)), ("mirror", .lst ((layK κ S k).2.1.map dN)), ("plain", .lst ((layK κ S k).2.2.map fun j => .bytes (ws.getD j #[]))), ("by_word", .fn 1 F), ("words", .dat (.list (ws.map Dat.bytes))), ("world", .dat (.list (wd.map dP)))]) rfl ?_ (ih (layK κ S k) (fun j hj => hk j (.tail _ hj)) (ne h1) (ne h2) n3 (by (clear m2 m3 n3 ne hk7 hk6 l3 l2 h3 h2 h1 hk ih hwz hwi hF hlt hwl hW; lia)) (by (clear m1 m3 n3 ne hk7 hk6 l3 l1 h3 h2 h1 hk ih hwz hwi hF hlt hwl hW; lia)) (by (clear m2 m1 n3 ne hk7 hk6 l2 l1 h3 h2 h1 hk ih hwz hwi hF hlt hwl hW; lia)))
      refine ex_seq (ex_assign_lst2 (d := .none) (d' := .none) (evm_insk (by walk_at "glb") (c_iR W P hW 10) rfl (.one (ev_name rfl)) (ev_name rfl) (ir_word hlt hF h1 hk7 (by (clear m2 m3 n3 ne hk7 hk6 l3 l2 h3 h2 h1 hk ih hwz hwi hF hlt hwl hW; lia))) (by decide)) (evm_insk (by walk_at "glb") (c_iL W P hW 10) rfl (.one (ev_name rfl)) (ev_name rfl) (il_word hlt hF h2 hk7 (by (clear m1 m3 n3 ne hk7 hk6 l3 l1 h3 h2 h1 hk ih hwz hwi hF hlt hwl hW; lia))) (by decide)) rfl rfl (by walk_at "slot") (by walk_at "nm") (by simp)) ?_
      refine ex_seq (ex_appendM (ds := [.none, .none]) (d := .none) rfl (evm_ifexp (b := decide (k < 3)) ((et_cmp (ev_name rfl) ev_int op_lt).cast (by simp; (clear m2 m1 m3 n3 ne hk7 l3 l2 l1 h3 h2 h1 hk ih hwz hwi hF hlt hwl hW; lia))) (fun hb => evm_ins (by walk_at "glb") (c_iL W P hW 10) rfl (.one (ev_item (ev_name rfl) rfl (ev_name rfl) (hwi k hk7) hwz)) (ds' := (layK κ S k).2.2.map fun j => .bytes (ws.getD j #[])) ?_ (by decide)) (fun hb => evm_ins (by walk_at "glb") (c_iR W P hW 10) rfl (.one (ev_item (ev_name rfl) rfl (ev_name rfl) (hwi k hk7) hwz)) ?_ (by decide))) rfl (by simp) rfl) ?_
      · have e : (layK κ S k).2.2 = insL κ S.2.2 k := if_pos (of_decide_eq_true hb)
        rw [e]; exact il_plain hlt h3 hk7 (by (clear e hb m2 m1 n3 ne hk7 hk6 l2 l1 h3 h2 h1 hk ih hwz hwi hF hlt hwl hW; lia))
      · have e : (layK κ S k).2.2 = insR κ S.2.2 k := if_neg (of_decide_eq_false hb)
        rw [e]; exact ir_plain hlt h3 hk7 (by (clear e hb m2 m1 n3 ne hk7 hk6 l2 l1 h3 h2 h1 hk ih hwz hwi hF hlt hwl hW; lia))
      exact ex_last (ex_freeze (x := "answers") (ds := [.none, .none, .none]) rfl (by simp) (ex_if (b := false) ((et_cmp (ev_name rfl) (ev_list (ds := [.none, .none, .none]) (.three ev_none ev_none ev_none) (by simp)) (op_ne (b := true) (by simp [deqn, deqL]))).cast rfl) (fun e => by cases e) fun _ => ex_nil)) ⟨rfl, rfl, rfl, rfl, rfl, rfl, trivial⟩
  have e6 : ks.foldl (layK κ) S = lay6 κ := by rw [hS, hks]; rfl
  rw [e6]
  generalize lay6 κ = T at *
  refine exl_freeze (x := "row") rfl (exl_freeze (x := "mirror") rfl (exl_freeze (x := "plain") rfl ?_))
  refine exl_sub (ρ' := [("plain", .dat (.list (T.2.2.map fun j => .bytes (ws.getD j #[])))), ("row", .dat (.list (T.1.map dN))), ("mirror", .dat (.list (T.2.1.map dN))), ("by_word", .fn 1 F), ("words", .dat (.list (ws.map Dat.bytes))), ("world", .dat (.list (wd.map dP)))]) ?_ (by walk_at "sub")
  refine exl_if_or_call (d' := .list [.str noNeg, .str noNeg]) ((et_cmp (ev_name rfl) (ev_map (xs := T.1) (inj := dN) (g := fun j => Dat.bytes (ws.getD j #[])) (ρ' := [("words", .dat (.list (ws.map Dat.bytes)))]) (by walk_at "side") inj_nat (ei_list (ev_name rfl) rfl) (fun j hj => ⟨[("k", .dat (dN j))], rfl, ev_item (ev_name rfl) rfl (ev_name rfl) (hwi j (by have := h6 j hj; (clear hj e6 next hpr hlen h6 hks hS hwz hwi hF hlt hwl hW; lia))) hwz⟩) (by (clear e6 next hpr h6 hks hS hwz hwi hF hlt hwl hW; lia))) (op_ne (b := true) ?_)).cast rfl) (by walk_at "glb") (c_refusals W P hW 1 F) (.three (ev_name rfl) (ev_name rfl) (ev_name rfl)) ⟨_, _, rfl, rfl, ⟨by decide, _, hF 6 (by decide)⟩, rfl⟩ (by decide) ((ev_bin (ev_list (ds := [.str noNeg]) (.one ev_str) (by simp)) ev_int (op_mul_list (by decide) (by decide) (by decide))).cast rfl) (by simp [deqn, deqL]) ?_
  · rw [hpr]; exact deqn_list fun d hd => by
      obtain ⟨j, _, rfl⟩ := List.mem_map.mp hd; exact deqn_bytes _ _
  exact exl_sub next (by walk_at "sub")
end
section
noncomputable def lessK (κ : Nat → Nat) (k : Nat) : Nat := ((List.range 6).filter fun j => decide (κ j < κ k)).length
noncomputable def likeK (κ : Nat → Nat) (k : Nat) : List Nat := (List.range 6).filter fun j => κ j == κ k
noncomputable def behK (κ : Nat → Nat) (k : Nat) : Nat := lessK κ k + (likeK κ k).length
noncomputable def mn (a b : Nat) : Nat := if b < a then b else a
noncomputable def mx (a b : Nat) : Nat := if b > a then b else a
noncomputable def cR (κ : Nat → Nat) (l : List Nat) (k m : Nat) : Bool := decide (κ k < κ (l.getD m 0))
noncomputable def cL (κ : Nat → Nat) (l : List Nat) (k m : Nat) : Bool := !decide (κ (l.getD m 0) < κ k)
/-- what is asked of the layings -/
structure KF (κ : Nat → Nat) : Prop where
  r6 : ∀ x ∈ (lay6 κ).1, x < 6
  m6 : ∀ x ∈ (lay6 κ).2.1, x < 6
  rl : (lay6 κ).1.length = 6
  ml : (lay6 κ).2.1.length = 6
  like : ∀ k < 7, ((lay6 κ).1.drop (lessK κ k)).take (likeK κ k).length = likeK κ k
  liem : ∀ k < 7, ((lay6 κ).2.1.drop (lessK κ k)).take (likeK κ k).length = (likeK κ k).reverse
  bl : ∀ k < 7, bis (cL κ (lay6 κ).1 k) (6 - 0) 0 6 = lessK κ k
  br : ∀ k < 7, bis (cR κ (lay6 κ).1 k) (6 - 0) 0 6 = behK κ k
  w0 : bis (cR κ (lay6 κ).1 6) (2 - 0) 0 2 = mn (behK κ 6) 2
  w1 : bis (cR κ (lay6 κ).1 6) (6 - 5) 5 6 = mx (behK κ 6) 5
  w2 : bis (cL κ (lay6 κ).2.1 6) (2 - 0) 0 2 = mn (lessK κ 6) 2
  w3 : bis (cL κ (lay6 κ).2.1 6) (6 - 5) 5 6 = mx (lessK κ 6) 5
theorem decM (a b c d : Nat) : decide ((a : Int) * b < c * d) = decide (a * b < c * d) := decide_eq_decide.mpr (by rw [← Int.natCast_mul, ← Int.natCast_mul]; exact Int.ofNat_lt)
theorem eqM (a b c d : Nat) : (((a : Int) * b) == c * d) = (a * b == c * d) := by
  rw [Bool.eq_iff_iff, beq_iff_eq, beq_iff_eq, ← Int.natCast_mul, ← Int.natCast_mul]; exact Int.ofNat_inj
theorem pick_run {α : Type} (l : List α) (a b : Nat) (hb : b ≤ l.length) (hab : a ≤ b) : pick l (some (a : Int)) (some (b : Int)) none = (l.drop a).take (b - a) := by
  rw [pick_of l (some (a : Int)) (some (b : Int)) none (((List.range l.length).drop a).take (b - a)) (by
    refine (slicePick_run _ a b (by simp; exact hb) hab).trans ?_
    rw [List.map_take, List.map_drop])]
  have e1 : (List.range l.length).filterMap (l[·]?) = l := by rw [fm_range, List.take_length]
  have e2 : ((List.range l.length).take a).filterMap (l[·]?) = l.take a := by rw [List.take_range, Nat.min_eq_left (by (clear e1; lia)), fm_range]
  have e3 : ((List.range l.length).take b).filterMap (l[·]?) = l.take b := by rw [List.take_range, Nat.min_eq_left hb, fm_range]
  have e4 : (List.range l.length).take b = (List.range l.length).take a ++ ((List.range l.length).drop a).take (b - a) := by
    rw [← List.take_append_drop a (List.range l.length), List.take_append, List.length_take, List.length_range, Nat.min_eq_left (by (clear e3 e2 e1; lia)), List.take_of_length_le (l := List.take a _) (by rw [List.length_take]; (clear e3 e2 e1 hb; lia))]
    rw [List.take_append_drop]
  have e5 : l.take b = l.take a ++ (l.drop a).take (b - a) := by
    conv => lhs; rw [← List.take_append_drop a l, List.take_append, List.length_take, Nat.min_eq_left (by (clear e4 e3 e2 e1; lia)), List.take_of_length_le (l := List.take a l) (by rw [List.length_take]; (clear e4 e3 e2 e1 hb; lia))]
  rw [e4, List.filterMap_append, e2, e5] at e3
  exact List.append_cancel_left e3
theorem for7 {W : Wd} {lv : Nat} {sc : Scope} {t : Expr} {body : List Stmt} {ρ0 : Names} {ρk : Nat → Names} {x : Str} (ht : ∀ k : Nat, bindT t (.int k) = some [(x, .dat (.int k))]) (hs : ∀ k, SubN (ρk k) ρ0) (h : ∀ k < 7, EXS W lv sc [] ((x, .dat (.int (k : Nat))) :: ρ0) body (.next (ρk k))) :
    ForR W lv sc [] t body ((List.range 7).map fun i : Nat => Dat.int i) ρ0 (.next (ρk 6)) := by
  have hks : ∀ k ∈ List.range 6, k < 7 := fun k hk => by have := List.mem_range.mp hk; (clear hk h hs ht; lia)
  rw [show List.range 7 = List.range 6 ++ [6] from rfl]
  revert hks
  generalize List.range 6 = ks
  intro hks
  induction ks with
  | nil => exact ForR.cons (ht 6) (h 6 (by decide)) .nil
  | cons k ks ih => exact ForR.cons (ht k) (EX.to (h k (hks k (.head _))) (hs k)) (ih fun j hj => hks j (.tail _ hj))
theorem take_getD {wd : List NP} (hwl : wd.length = 7) : wd.take 6 = (List.range 6).map fun j => wd.getD j o0 := by
  refine List.ext_getElem (by rw [List.length_take, hwl, List.length_map, List.length_range]; rfl) fun j h1 h2 => ?_
  rw [List.length_map, List.length_range] at h2
  rw [List.getElem_take, List.getElem_map, List.getElem_range, List.getD_eq_getElem?_getD, List.getElem?_eq_getElem (by (clear h1; lia) : j < wd.length)]; rfl
theorem less_count {wd : List NP} {κ : Nat → Nat} {k : Nat} (hwl : wd.length = 7) (hk : k < 7) (hfl : ∀ i < 7, ∀ j < 7, decide ((wd.getD i o0).1 * (wd.getD j o0).2 < (wd.getD j o0).1 * (wd.getD i o0).2) = decide (κ i < κ j)) :
    ((wd.take 6).filter fun q => decide (q.1 * (wd.getD k o0).2 < (wd.getD k o0).1 * q.2)).length = lessK κ k := by
  rw [take_getD hwl, List.filter_map, List.length_map]
  unfold lessK
  congr 1
  refine List.filter_congr fun j hj => ?_
  exact hfl j (by have := List.mem_range.mp hj; (clear hj hfl hk hwl; lia)) k hk
noncomputable def namesC {ns : List Int} (f : F2 ns) : Names := [("less", .dat (.int (lessK f.κ 6))), ("behind", .dat (.int (behK f.κ 6))), ("row", .dat (.list ((lay6 f.κ).1.map dN))), ("mirror", .dat (.list ((lay6 f.κ).2.1.map dN))), ("by_word", .fn 1 (byF (wsF f)))]
theorem law_walkC (W : Wd) (P : Params) (hW : WL W P) (ns : List Int) (f : F2 ns) (kf : KF f.κ)
    (next : EXL W 200 scLaw2 (namesC f) (execs ((bodyOf (fdOf (Mine.hd.heap_39 P) 142)).drop 12)) (.bool true)) : EXL W 200 scLaw2 (namesB f) (execs ((bodyOf (fdOf (Mine.hd.heap_39 P) 142)).drop 11)) (.bool true) := by
  unfold namesB
  unfold namesC at next
  have hwsl : (wsF f).length = 7 := by unfold wsF; rw [List.length_map]; exact f.hwl
  have hlt : ∀ i < 7, ∀ j < 7, bltL ((wsF f).getD i #[]).toList ((wsF f).getD j #[]).toList = decide (f.κ i < f.κ j) := fun i hi j hj => by
    have := f.hlt i hi j hj
    have e : ∀ k < 7, (wsF f).getD k #[] = wrd f.ways (f.wd.getD k o0) := fun k hk => by
      unfold wsF
      have hk' : k < f.wd.length := by rw [f.hwl]; exact hk
      rw [List.getD_eq_getElem?_getD, List.getElem?_map, List.getD_eq_getElem?_getD, List.getElem?_eq_getElem hk']; rfl
    rw [e i hi, e j hj]; exact this
  have hb := f.hb
  have hfl := f.hfl
  have hfe := f.hfe
  have hwl := f.hwl
  generalize wsF f = ws at *
  generalize f.κ = κ at *
  generalize f.wd = wd at *
  obtain ⟨hr6, hm6, hrl, hml, hlike, hliem, hbl, hbr, hw0, hw1, hw2, hw3⟩ := kf
  generalize lay6 κ = T at *
  have hF : ∀ i < 7, byF ws [dN i] = some (.bytes (ws.getD i #[])) := fun i hi => byF_at (by (clear hw3 hw2 hw1 hw0 hbr hbl hliem hlike hml hrl hm6 hr6 next hfe hfl hwl hb hlt hW; lia))
  generalize byF ws = F at *
  have hwi : ∀ k < 7, seqAt (ws.map Dat.bytes) ((k : Nat) : Int) = some (.bytes (ws.getD k #[])) := fun k hk => seqAt_nat (getD_at Dat.bytes #[] (by (clear hF next hw3 hw2 hw1 hw0 hbr hbl hliem hlike hml hrl hm6 hr6 hfe hfl hwl hb hlt hW; lia)))
  have hwz : (ws.map Dat.bytes).length ≤ 1048576 := by simp; (clear hwi hF next hw3 hw2 hw1 hw0 hbr hbl hliem hlike hml hrl hm6 hr6 hfe hfl hwl hb hlt hW; lia)
  have hpi : ∀ k < 7, seqAt (wd.map dP) ((k : Nat) : Int) = some (dP (wd.getD k o0)) := fun k hk => seqAt_nat (getD_at dP o0 (by (clear hwz hwi hF next hw3 hw2 hw1 hw0 hbr hbl hliem hlike hml hrl hm6 hr6 hfe hfl hb hlt hwsl hW; lia)))
  have hpz : (wd.map dP).length ≤ 1048576 := by simp; (clear hpi hwz hwi hF next hw3 hw2 hw1 hw0 hbr hbl hliem hlike hml hrl hm6 hr6 hfe hfl hb hlt hwsl hW; lia)
  have hmem : ∀ k < 7, wd.getD k o0 ∈ wd := fun k hk => by
    rw [List.getD_eq_getElem?_getD, List.getElem?_eq_getElem (by (clear hpz hpi hwz hwi hF next hw3 hw2 hw1 hw0 hbr hbl hliem hlike hml hrl hm6 hr6 hfe hfl hb hlt hwsl hW; lia) : k < wd.length)]; exact List.getElem_mem _
  have hrz : (T.1.map dN).length = 6 := by rw [List.length_map, hrl]
  have hmz : (T.2.1.map dN).length = 6 := by rw [List.length_map, hml]
  have hl6 : ∀ k, (likeK κ k).length ≤ 6 := fun k => Nat.le_trans (List.length_filter_le _ _) (by simp)
  have hb6 : ∀ k < 7, behK κ k ≤ 6 := fun k hk => by rw [← hbr k hk]; exact (bis_le _ _ _ (by decide)).2
  show EXL _ _ _ _ (execs (_ :: _)) _
  have okL : ∀ k < 7, BOk 10 (T.1.map dN) .none 6 (.fn 1 F) (fun kd => (ltD kd (.bytes (ws.getD k #[]))).map (!·)) (cL κ T.1 k) := fun k hk =>
    ⟨.inl ⟨rfl, hrz.symm⟩, by (clear hk hb6 hl6 hmz hmem hpz hpi hwz hwi hF next hw3 hw2 hw1 hw0 hbr hbl hliem hlike hml hrl hm6 hr6 hfe hfl hwl hb hlt hwsl hW; lia), by (clear hk hb6 hl6 hmz hmem hpz hpi hwz hwi hF next hw3 hw2 hw1 hw0 hbr hbl hliem hlike hml hrl hm6 hr6 hfe hfl hwl hb hlt hwsl hW; lia), .inr ⟨_, _, rfl⟩, fun m hm => by
      have h7 : T.1.getD m 0 < 7 := lt_at (fun y hy => by have := hr6 y hy; (clear hy hm hk hb6 hl6 hmz hrz hmem hpz hpi hwz hwi hF next hw3 hw2 hw1 hw0 hbr hbl hliem hlike hml hrl hm6 hr6 hfe hfl hwl hb hlt hwsl hW; lia)) (by (clear hk hb6 hl6 hmz hmem hpz hpi hwz hwi hF next hw3 hw2 hw1 hw0 hbr hbl hliem hlike hml hm6 hr6 hfe hfl hwl hb hlt hwsl hW; lia))
      exact ⟨_, .bytes (ws.getD (T.1.getD m 0) #[]), getD_at dN 0 (by (clear h7 hk hb6 hl6 hmz hmem hpz hpi hwz hwi hF next hw3 hw2 hw1 hw0 hbr hbl hliem hlike hml hm6 hr6 hfe hfl hwl hb hlt hwsl hW; lia)), ⟨by decide, hF _ h7⟩, congrArg (fun b => some (!b)) (hlt _ h7 k hk)⟩⟩
  have okR : ∀ k < 7, BOk 10 (T.1.map dN) .none 6 (.fn 1 F) (fun kd => ltD (.bytes (ws.getD k #[])) kd) (cR κ T.1 k) := fun k hk =>
    ⟨.inl ⟨rfl, hrz.symm⟩, by (clear hk okL hb6 hl6 hmz hmem hpz hpi hwz hwi hF next hw3 hw2 hw1 hw0 hbr hbl hliem hlike hml hrl hm6 hr6 hfe hfl hwl hb hlt hwsl hW; lia), by (clear hk okL hb6 hl6 hmz hmem hpz hpi hwz hwi hF next hw3 hw2 hw1 hw0 hbr hbl hliem hlike hml hrl hm6 hr6 hfe hfl hwl hb hlt hwsl hW; lia), .inr ⟨_, _, rfl⟩, fun m hm => by
      have h7 : T.1.getD m 0 < 7 := lt_at (fun y hy => by have := hr6 y hy; (clear hy hm hk okL hb6 hl6 hmz hrz hmem hpz hpi hwz hwi hF next hw3 hw2 hw1 hw0 hbr hbl hliem hlike hml hrl hm6 hr6 hfe hfl hwl hb hlt hwsl hW; lia)) (by (clear hk okL hb6 hl6 hmz hmem hpz hpi hwz hwi hF next hw3 hw2 hw1 hw0 hbr hbl hliem hlike hml hm6 hr6 hfe hfl hwl hb hlt hwsl hW; lia))
      exact ⟨_, .bytes (ws.getD (T.1.getD m 0) #[]), getD_at dN 0 (by (clear h7 hk okL hb6 hl6 hmz hmem hpz hpi hwz hwi hF next hw3 hw2 hw1 hw0 hbr hbl hliem hlike hml hm6 hr6 hfe hfl hwl hb hlt hwsl hW; lia)), ⟨by decide, hF _ h7⟩, congrArg some (hlt k hk _ h7)⟩⟩
  refine exl_seq (ρ' := [("less", .dat (.int (lessK κ 6))), ("behind", .dat (.int (behK κ 6))), ("row", .dat (.list (T.1.map dN))), ("mirror", .dat (.list (T.2.1.map dN))), ("by_word", .fn 1 F), ("words", .dat (.list (ws.map Dat.bytes))), ("world", .dat (.list (wd.map dP)))])
    (ex_for (items := (List.range 7).map fun i : Nat => Dat.int i) (fun _ _ => rfl) (ei_rangeN (by walk_at "boot") ev_int) ?_ (for7 (x := "k") (ρk := fun k => [("less", .dat (.int (lessK κ k))), ("behind", .dat (.int (behK κ k))), ("row", .dat (.list (T.1.map dN))), ("mirror", .dat (.list (T.2.1.map dN))), ("by_word", .fn 1 F), ("words", .dat (.list (ws.map Dat.bytes))), ("world", .dat (.list (wd.map dP)))]) (fun _ => rfl) (fun k => ⟨rfl, rfl, rfl, rfl, rfl, trivial⟩) fun k hk => ?_)) (exl_sub next (by walk_at "sub"))
  · intro x hx
    rcases List.mem_cons.mp hx with rfl | hx
    · exact ⟨by walk_at "slot", by walk_at "nm"⟩
    · cases hx
  clear next
  have hcount := less_count hwl hk hfl
  have hfek := fun j hj => hfe j hj k hk
  have hm := hmem k hk
  have hp := hpi k hk
  generalize wd.getD k o0 = p at hcount hfek hm hp
  obtain ⟨b1, b2, b3⟩ := hb p hm
  have p1b : Builtin.Int.intBits (p.1 : Int) ≤ 64 := intBits_le_64 (by (clear b3 b2 hp hm hfek hcount hk okR okL hb6 hl6 hmz hrz hmem hpz hpi hwz hwi hF hw3 hw2 hw1 hw0 hbr hbl hliem hlike hml hrl hm6 hr6 hfe hfl hwl hb hlt hwsl hW; lia)) (by (clear b1 hp hm hfek hcount hk okR okL hb6 hl6 hmz hrz hmem hpz hpi hwz hwi hF hw3 hw2 hw1 hw0 hbr hbl hliem hlike hml hrl hm6 hr6 hfe hfl hwl hb hlt hwsl hW; lia))
  have p2b : Builtin.Int.intBits (p.2 : Int) ≤ 64 := intBits_le_64 (by (clear p1b b2 b1 hp hm hfek hcount hk okR okL hb6 hl6 hmz hrz hmem hpz hpi hwz hwi hF hw3 hw2 hw1 hw0 hbr hbl hliem hlike hml hrl hm6 hr6 hfe hfl hwl hb hlt hwsl hW; lia)) (by (clear p1b b2 b1 hp hm hfek hcount hk okR okL hb6 hl6 hmz hrz hmem hpz hpi hwz hwi hF hw3 hw2 hw1 hw0 hbr hbl hliem hlike hml hrl hm6 hr6 hfe hfl hwl hb hlt hwsl hW; lia))
  have hll : ((likeK κ k).map dN).length ≤ 1048576 := by have := hl6 k; rw [List.length_map]; (clear p2b p1b b3 b2 b1 hp hm hfek hcount hk okR okL hb6 hl6 hmz hrz hmem hpz hpi hwz hwi hF hw3 hw2 hw1 hw0 hbr hbl hliem hlike hml hrl hm6 hr6 hfe hfl hwl hb hlt hwsl hW; lia)
  refine ex_seq (ex_unpack (a := .int p.1) (b := .int p.2) (ev_item (ev_name rfl) rfl (ev_name rfl) hp hpz) (by walk_at "slot") (by walk_at "nm") (by walk_at "slot") (by walk_at "nm")) ?_
  refine ex_seq (ρ' := [("less", .dat (.int (lessK κ k))), ("lower", .dat (.int p.2)), ("upper", .dat (.int p.1)), ("k", .dat (.int k)), ("row", .dat (.list (T.1.map dN))), ("mirror", .dat (.list (T.2.1.map dN))), ("by_word", .fn 1 F), ("words", .dat (.list (ws.map Dat.bytes))), ("world", .dat (.list (wd.map dP)))]) (EX.to (ex_assign (ev_len (by walk_at "boot") (ev_filter (xs := wd.take 6) (inj := dP) (p := fun q => decide (q.1 * p.2 < p.1 * q.2)) (g := dP) (ρ' := [("upper", .dat (.int p.1)), ("lower", .dat (.int p.2))]) (by walk_at "side") inj_dP (ei_list ((ev_slice (ev_name rfl) rfl .none (.some ev_int) .none (by decide) hpz).cast (pv' := .dat (.list ((wd.take 6).map dP))) ?_) rfl) (fun q hq => ⟨_, rfl, (et_cmp (ev_bin (ev_titem (k := 0) (d := .int q.1) (ev_name rfl) ev_int rfl (by simp)) (ev_name rfl) (op_mul (IntMulOk.of_right p2b))) (ev_bin (ev_name rfl) (ev_titem (k := 1) (d := .int q.2) (ev_name rfl) ev_int rfl (by simp)) (op_mul (IntMulOk.of_left p1b))) op_lt).cast (decM _ _ _ _), fun _ => ev_name rfl⟩) (by rw [List.length_take]; (clear hll p2b p1b b3 b2 b1 hp hm hfek hcount hk okR okL hb6 hl6 hmz hrz hmem hpz hpi hwz hwi hF hw3 hw2 hw1 hw0 hbr hbl hliem hlike hml hrl hm6 hr6 hfe hfl hb hlt hwsl hW; lia))) rfl ?_) (by walk_at "slot") (by walk_at "nm")) ⟨?_, rfl, rfl, rfl, rfl, rfl, rfl, rfl, rfl, trivial⟩) ?_
  · rw [show (6 : Int) = ((6 : Nat) : Int) from rfl, pick_upto, List.map_take]
  · rw [List.length_map]; exact Nat.le_trans (List.length_filter_le _ _) (by rw [List.length_take]; (clear hll p2b p1b b3 b2 b1 hp hm hfek hcount hk okR okL hb6 hl6 hmz hrz hmem hpz hpi hwz hwi hF hw3 hw2 hw1 hw0 hbr hbl hliem hlike hml hrl hm6 hr6 hfe hfl hb hlt hwsl hW; lia))
  · rw [List.length_map, hcount]; rfl
  refine ex_seq (exa_filter (xs := List.range 6) (inj := dN) (p := fun j => κ j == κ k) (g := dN) (ρ' := [("world", .dat (.list (wd.map dP))), ("upper", .dat (.int p.1)), ("lower", .dat (.int p.2))]) (by walk_at "side") inj_nat (ei_rangeN (n := 6) (by walk_at "boot") ev_int (hn := by decide)).up (fun j hj => ⟨[("j", .dat (dN j))], rfl, (et_cmp (ev_bin (ev_titem (k := 0) (d := .int (wd.getD j o0).1) (ev_item (ev_name rfl) rfl (ev_name rfl) (hpi j (by have := List.mem_range.mp hj; (clear hj hll p2b p1b b3 b2 b1 hp hm hfek hcount hk okR okL hb6 hl6 hmz hrz hmem hpz hpi hwz hwi hF hw3 hw2 hw1 hw0 hbr hbl hliem hlike hml hrl hm6 hr6 hfe hfl hwl hb hlt hwsl hW; lia))) hpz) ev_int rfl (by simp)) (ev_name rfl) (op_mul (IntMulOk.of_right p2b))) (ev_bin (ev_name rfl) (ev_titem (k := 1) (d := .int (wd.getD j o0).2) (ev_item (ev_name rfl) rfl (ev_name rfl) (hpi j (by have := List.mem_range.mp hj; (clear hj hll p2b p1b b3 b2 b1 hp hm hfek hcount hk okR okL hb6 hl6 hmz hrz hmem hpz hpi hwz hwi hF hw3 hw2 hw1 hw0 hbr hbl hliem hlike hml hrl hm6 hr6 hfe hfl hwl hb hlt hwsl hW; lia))) hpz) ev_int rfl (by simp)) (op_mul (IntMulOk.of_left p1b))) op_eqi).cast ?_, fun _ => ev_name rfl⟩) (by simp) (by walk_at "slot") (by walk_at "nm")) ?_
  · rw [eqM]; exact hfek j (by have := List.mem_range.mp hj; (clear hj hll p2b p1b b3 b2 b1 hp hm hfek hcount hk okR okL hb6 hl6 hmz hrz hmem hpz hpi hwz hwi hF hw3 hw2 hw1 hw0 hbr hbl hliem hlike hml hrl hm6 hr6 hfe hfl hwl hb hlt hwsl hW; lia))
  have hbk := hb6 k hk
  have hbe : behK κ k = lessK κ k + (likeK κ k).length := rfl
  refine ex_seq (ex_assign (d := .int (behK κ k)) ((ev_bin (ev_name rfl) (ev_len (by walk_at "boot") (ev_name (pv := .dat (.list ((likeK κ k).map dN))) rfl) rfl hll) op_add).cast (by rw [List.length_map, hbe]; push_cast; rfl)) (by walk_at "slot") (by walk_at "nm")) ?_
  refine ex_seq (ex_if (b := false) (et_or2 (a := false) (b := false) ((et_cmp (ev_slice (ev_name rfl) rfl (.some (ev_name rfl)) (.some (ev_name rfl)) .none (by decide) (by (clear hbe hbk hll p2b p1b b3 b2 b1 hp hm hfek hcount hk okR okL hb6 hl6 hmz hmem hpz hpi hwz hwi hF hw3 hw2 hw1 hw0 hbr hbl hliem hlike hml hrl hm6 hr6 hfe hfl hwl hb hlt hwsl hW; lia))) (ev_name (pv := .dat (.list ((likeK κ k).map dN))) rfl) (op_ne (b := true) ?_)).cast rfl) fun _ => (et_cmp (ev_slice (ev_name rfl) rfl (.some (ev_name rfl)) (.some (ev_name rfl)) .none (by decide) (by (clear hbe hbk hll p2b p1b b3 b2 b1 hp hm hfek hcount hk okR okL hb6 hl6 hrz hmem hpz hpi hwz hwi hF hw3 hw2 hw1 hw0 hbr hbl hliem hlike hml hrl hm6 hr6 hfe hfl hwl hb hlt hwsl hW; lia))) (ev_slice (ev_name (pv := .dat (.list ((likeK κ k).map dN))) rfl) rfl .none .none (.some (ev_un ev_int op_neg)) (by decide) hll) (op_ne (b := true) ?_)).cast rfl) (fun e => by cases e) fun _ => ex_nil) ?_
  · rw [pick_run _ _ _ (by (clear hbe hll p2b p1b b3 b2 b1 hp hm hfek hcount hk okR okL hb6 hl6 hmz hmem hpz hpi hwz hwi hF hw3 hw2 hw1 hw0 hbr hbl hliem hlike hml hrl hm6 hr6 hfe hfl hwl hb hlt hwsl hW; lia)) (by (clear hbk hll p2b p1b b3 b2 b1 hp hm hfek hcount hk okR okL hb6 hl6 hmz hrz hmem hpz hpi hwz hwi hF hw3 hw2 hw1 hw0 hbr hbl hliem hlike hml hrl hm6 hr6 hfe hfl hwl hb hlt hwsl hW; lia)), ← List.map_drop, ← List.map_take, show behK κ k - lessK κ k = (likeK κ k).length by (clear hbk hll p2b p1b b3 b2 b1 hp hm hfek hcount hk okR okL hb6 hl6 hmz hrz hmem hpz hpi hwz hwi hF hw3 hw2 hw1 hw0 hbr hbl hliem hlike hml hrl hm6 hr6 hfe hfl hwl hb hlt hwsl hW; lia), hlike k hk]
    exact deqn_list fun d hd => by
      obtain ⟨j, _, rfl⟩ := List.mem_map.mp hd; exact deqn_int _ _
  · rw [pick_run _ _ _ (by (clear hbe hll p2b p1b b3 b2 b1 hp hm hfek hcount hk okR okL hb6 hl6 hrz hmem hpz hpi hwz hwi hF hw3 hw2 hw1 hw0 hbr hbl hliem hlike hml hrl hm6 hr6 hfe hfl hwl hb hlt hwsl hW; lia)) (by (clear hbk hll p2b p1b b3 b2 b1 hp hm hfek hcount hk okR okL hb6 hl6 hmz hrz hmem hpz hpi hwz hwi hF hw3 hw2 hw1 hw0 hbr hbl hliem hlike hml hrl hm6 hr6 hfe hfl hwl hb hlt hwsl hW; lia)), ← List.map_drop, ← List.map_take, show behK κ k - lessK κ k = (likeK κ k).length by (clear hbk hll p2b p1b b3 b2 b1 hp hm hfek hcount hk okR okL hb6 hl6 hmz hrz hmem hpz hpi hwz hwi hF hw3 hw2 hw1 hw0 hbr hbl hliem hlike hml hrl hm6 hr6 hfe hfl hwl hb hlt hwsl hW; lia), hliem k hk, pick_rev, List.map_reverse]
    exact deqn_list fun d hd => by
      obtain ⟨j, _, rfl⟩ := List.mem_map.mp (List.mem_reverse.mp hd); exact deqn_int _ _
  refine ex_last (ex_if (b := false) ((et_cmp (ev_tup2 (a := .int (lessK κ k)) (b := .int (behK κ k)) (ev_gcallk (by walk_at "glb") (c_bL W P hW 10) (.two (ev_name rfl) (ev_item (ev_name rfl) rfl (ev_name rfl) (hwi k hk) hwz)) (by simp) (ev_name rfl) ⟨_, _, _, rfl, rfl, .bytes (ws.getD k #[]), 0, .none, 6, .fn 1 F, _, .k1 _ (fun _ h => by cases h), okL k hk, by rw [hbl k hk]⟩ (by decide)) (ev_gcallk (by walk_at "glb") (c_bR W P hW 10) (.two (ev_name rfl) (ev_item (ev_name rfl) rfl (ev_name rfl) (hwi k hk) hwz)) (by simp) (ev_name rfl) ⟨_, _, _, rfl, rfl, .bytes (ws.getD k #[]), 0, .none, 6, .fn 1 F, _, .k1 _ (fun _ h => by cases h), okR k hk, by rw [hbr k hk]⟩ (by decide))) (ev_tup2 (ev_name rfl) (ev_name rfl)) (op_ne (b := true) (by simp [deqn, deqL]))).cast rfl) (fun e => by cases e) fun _ => ex_nil) ⟨rfl, rfl, rfl, rfl, rfl, rfl, rfl, trivial⟩
end
section
theorem mnI (a b : Nat) : (if (b : Int) < a then (b : Int) else a) = (mn a b : Nat) := by
  unfold mn
  by_cases h : b < a
  · rw [if_pos (by lia), if_pos h]
  · rw [if_neg (by lia), if_neg h]
theorem mxI (a b : Nat) : (if (b : Int) > a then (b : Int) else a) = (mx a b : Nat) := by
  unfold mx
  by_cases h : b > a
  · rw [if_pos (by lia), if_pos h]
  · rw [if_neg (by lia), if_neg h]
noncomputable abbrev LN := List Nat × Nat
noncomputable def dL (p : LN) : Dat := .tuple [.list (p.1.map dN), .int p.2]
theorem inj_dL (x y : LN) (h : dL x = dL y) : x = y := by
  unfold dL at h
  injection h with h; injection h with h1 h; injection h1 with h1; injection h with h2 _; injection h2 with h2
  exact Prod.ext ((List.map_inj_right (fun a b => inj_nat a b)).mp h1) (by (clear h1; lia))
noncomputable def lyd (p : LN) : List Nat := p.1.take p.2 ++ 6 :: p.1.drop p.2
theorem law_walkD (W : Wd) (P : Params) (hW : WL W P) (ns : List Int) (f : F2 ns) (kf : KF f.κ) : EXL W 200 scLaw2 (namesC f) (execs ((bodyOf (fdOf (Mine.hd.heap_39 P) 142)).drop 12)) (.bool true) := by
  unfold namesC
  have hwsl : (wsF f).length = 7 := by unfold wsF; rw [List.length_map]; exact f.hwl
  have hlt : ∀ i < 7, ∀ j < 7, bltL ((wsF f).getD i #[]).toList ((wsF f).getD j #[]).toList = decide (f.κ i < f.κ j) := fun i hi j hj => by
    have := f.hlt i hi j hj
    have e : ∀ k < 7, (wsF f).getD k #[] = wrd f.ways (f.wd.getD k o0) := fun k hk => by
      unfold wsF
      have hk' : k < f.wd.length := by rw [f.hwl]; exact hk
      rw [List.getD_eq_getElem?_getD, List.getElem?_map, List.getD_eq_getElem?_getD, List.getElem?_eq_getElem hk']; rfl
    rw [e i hi, e j hj]; exact this
  generalize wsF f = ws at *
  generalize f.κ = κ at *
  obtain ⟨hr6, hm6, hrl, hml, hlike, hliem, hbl, hbr, hw0, hw1, hw2, hw3⟩ := kf
  have hb6 : behK κ 6 ≤ 6 := by rw [← hbr 6 (by decide)]; exact (bis_le _ _ _ (by decide)).2
  have hl6 : lessK κ 6 ≤ 6 := by rw [← hbl 6 (by decide)]; exact (bis_le _ _ _ (by decide)).2
  generalize lay6 κ = T at *
  have hF : ∀ i < 7, byF ws [dN i] = some (.bytes (ws.getD i #[])) := fun i hi => byF_at (by (clear hw3 hw2 hw1 hw0 hbr hbl hliem hlike hml hrl hm6 hr6 hl6 hb6 hlt hW; lia))
  generalize byF ws = F at *
  have hrz : (T.1.map dN).length = 6 := by rw [List.length_map, hrl]
  have hmz : (T.2.1.map dN).length = 6 := by rw [List.length_map, hml]
  have hn2 : mn (behK κ 6) 2 ≤ 6 ∧ mx (behK κ 6) 5 ≤ 6 ∧ mn (lessK κ 6) 2 ≤ 6 ∧ mx (lessK κ 6) 5 ≤ 6 := by
    unfold mn mx
    refine ⟨?_, ?_, ?_, ?_⟩ <;> split <;> (clear hmz hrz hF hw3 hw2 hw1 hw0 hbr hbl hliem hlike hml hrl hm6 hr6 hlt hwsl hW; lia)
  have okR : ∀ hi : Nat, hi ≤ 6 → ∀ hiD, ((hiD = .none ∧ hi = 6) ∨ hiD = .int hi) → BOk 1 (T.1.map dN) hiD hi (.fn 1 F) (fun kd => ltD (.bytes (ws.getD 6 #[])) kd) (cR κ T.1 6) := fun hi hh hiD ht =>
    ⟨by rw [hrz]; exact ht, by (clear ht hn2 hmz hF hw3 hw2 hw1 hw0 hbr hbl hliem hlike hml hrl hm6 hr6 hl6 hb6 hlt hwsl hW; lia), by (clear ht hh hn2 hmz hF hw3 hw2 hw1 hw0 hbr hbl hliem hlike hml hrl hm6 hr6 hl6 hb6 hlt hwsl hW; lia), .inr ⟨_, _, rfl⟩, fun m hm => by
      have h7 : T.1.getD m 0 < 7 := lt_at (fun y hy => by have := hr6 y hy; (clear hy hm ht hh hn2 hmz hrz hF hw3 hw2 hw1 hw0 hbr hbl hliem hlike hml hrl hm6 hr6 hl6 hb6 hlt hwsl hW; lia)) (by (clear ht hh hn2 hmz hF hw3 hw2 hw1 hw0 hbr hbl hliem hlike hml hm6 hr6 hl6 hb6 hlt hwsl hW; lia))
      exact ⟨_, .bytes (ws.getD (T.1.getD m 0) #[]), getD_at dN 0 (by (clear h7 ht hh hn2 hmz hF hw3 hw2 hw1 hw0 hbr hbl hliem hlike hml hm6 hr6 hl6 hb6 hlt hwsl hW; lia)), ⟨by decide, hF _ h7⟩, congrArg some (hlt 6 (by decide) _ h7)⟩⟩
  have okL : ∀ hi : Nat, hi ≤ 6 → ∀ hiD, ((hiD = .none ∧ hi = 6) ∨ hiD = .int hi) → BOk 1 (T.2.1.map dN) hiD hi (.fn 1 F) (fun kd => (ltD kd (.bytes (ws.getD 6 #[]))).map (!·)) (cL κ T.2.1 6) := fun hi hh hiD ht =>
    ⟨by rw [hmz]; exact ht, by (clear ht okR hn2 hrz hF hw3 hw2 hw1 hw0 hbr hbl hliem hlike hml hrl hm6 hr6 hl6 hb6 hlt hwsl hW; lia), by (clear ht hh okR hn2 hrz hF hw3 hw2 hw1 hw0 hbr hbl hliem hlike hml hrl hm6 hr6 hl6 hb6 hlt hwsl hW; lia), .inr ⟨_, _, rfl⟩, fun m hm => by
      have h7 : T.2.1.getD m 0 < 7 := lt_at (fun y hy => by have := hm6 y hy; (clear hy hm ht hh okR hn2 hmz hrz hF hw3 hw2 hw1 hw0 hbr hbl hliem hlike hml hrl hm6 hr6 hl6 hb6 hlt hwsl hW; lia)) (by (clear ht hh okR hn2 hrz hF hw3 hw2 hw1 hw0 hbr hbl hliem hlike hrl hm6 hr6 hl6 hb6 hlt hwsl hW; lia))
      exact ⟨_, .bytes (ws.getD (T.2.1.getD m 0) #[]), getD_at dN 0 (by (clear h7 ht hh okR hn2 hrz hF hw3 hw2 hw1 hw0 hbr hbl hliem hlike hrl hm6 hr6 hl6 hb6 hlt hwsl hW; lia)), ⟨by decide, hF _ h7⟩, congrArg (fun b => some (!b)) (hlt _ h7 6 (by decide))⟩⟩
  have res : ∀ (l : List Nat) (p : Nat), (lyd (l, p)).map dN = (l.map dN).take p ++ dN 6 :: (l.map dN).drop p := fun l p => by
    show (l.take p ++ 6 :: l.drop p).map dN = _
    rw [List.map_append, List.map_cons, List.map_take, List.map_drop]
  show EXL _ _ _ _ (execs (_ :: _)) _
  refine exl_seq (ex_swap2 (p := .dat (.list (T.1.map dN))) (q := .dat (.list (T.2.1.map dN))) ((ev_slice (ev_name rfl) rfl .none (.some ev_int) .none (by decide) (by (clear res okL okR hn2 hmz hF hw3 hw2 hw1 hw0 hbr hbl hliem hlike hml hrl hm6 hr6 hl6 hb6 hlt hwsl hW; lia))).cast ?_) ((ev_slice (ev_name rfl) rfl .none (.some ev_int) .none (by decide) (by (clear res okL okR hn2 hrz hF hw3 hw2 hw1 hw0 hbr hbl hliem hlike hml hrl hm6 hr6 hl6 hb6 hlt hwsl hW; lia))).cast ?_) rfl rfl (by rfl) (by walk_at "nm") (by rfl) (by walk_at "nm") (by decide) (by simp) (by simp) (fun _ => rfl) ?_) ?_
  · rw [show (6 : Int) = ((6 : Nat) : Int) from rfl, pick_upto, List.take_of_length_le (by (clear res okL okR hn2 hmz hF hw3 hw2 hw1 hw0 hbr hbl hliem hlike hml hrl hm6 hr6 hl6 hb6 hlt hwsl hW; lia))]
  · rw [show (6 : Int) = ((6 : Nat) : Int) from rfl, pick_upto, List.take_of_length_le (by (clear res okL okR hn2 hrz hF hw3 hw2 hw1 hw0 hbr hbl hliem hlike hml hrl hm6 hr6 hl6 hb6 hlt hwsl hW; lia))]
  · exact fun env h1 h2 h3 => swapped2 h1 h2 h3 (by rfl) (by decide) (by rfl) (by rfl) (by rfl)
  refine exl_seq (ρ' := [("due", .dat (.list ([(T.1, mn (behK κ 6) 2), (T.1, mx (behK κ 6) 5), (T.2.1, mn (lessK κ 6) 2), (T.2.1, mx (lessK κ 6) 5)].map dL))), ("row", .dat (.list (T.1.map dN))), ("mirror", .dat (.list (T.2.1.map dN))), ("by_word", .fn 1 F)]) (EX.to (ex_assign (ev_list (ds := [dL (T.1, mn (behK κ 6) 2), dL (T.1, mx (behK κ 6) 5), dL (T.2.1, mn (lessK κ 6) 2), dL (T.2.1, mx (lessK κ 6) 5)])
    (.cons rfl (ev_tup2 (ev_name rfl) ((ev_bcall (id := "min") (ds := [.int (behK κ 6), .int (2 : Nat)]) (by walk_at "boot") (.two (ev_name rfl) ev_int) op_min).cast (by rw [mnI])))
      (.three (ev_tup2 (ev_name rfl) ((ev_bcall (id := "max") (ds := [.int (behK κ 6), .int (5 : Nat)]) (by walk_at "boot") (.two (ev_name rfl) ev_int) op_max).cast (by rw [mxI])))
        (ev_tup2 (ev_name rfl) ((ev_bcall (id := "min") (ds := [.int (lessK κ 6), .int (2 : Nat)]) (by walk_at "boot") (.two (ev_name rfl) ev_int) op_min).cast (by rw [mnI])))
        (ev_tup2 (ev_name rfl) ((ev_bcall (id := "max") (ds := [.int (lessK κ 6), .int (5 : Nat)]) (by walk_at "boot") (.two (ev_name rfl) ev_int) op_max).cast (by rw [mxI]))))) (by simp)) (by walk_at "slot") (by walk_at "nm")) ⟨rfl, rfl, rfl, rfl, trivial⟩) ?_
  have hD : ∀ p ∈ [(T.1, mn (behK κ 6) 2), (T.1, mx (behK κ 6) 5), (T.2.1, mn (lessK κ 6) 2), (T.2.1, mx (lessK κ 6) 5)], p.1.length = 6 ∧ p.2 ≤ 6 := by
    intro p hp
    simp only [List.mem_cons, List.not_mem_nil, or_false] at hp
    rcases hp with rfl | rfl | rfl | rfl
    · exact ⟨hrl, hn2.1⟩
    · exact ⟨hrl, hn2.2.1⟩
    · exact ⟨hml, hn2.2.2.1⟩
    · exact ⟨hml, hn2.2.2.2⟩
  refine exl_ret (ev_cmp (d₁ := .list ([(T.1, mn (behK κ 6) 2), (T.1, mx (behK κ 6) 5), (T.2.1, mn (lessK κ 6) 2), (T.2.1, mx (lessK κ 6) 5)].map fun p => Dat.list ((lyd p).map dN))) (ev_gcall (by walk_at "glb") (c_within W P hW 1 F) (.three (ev_name rfl) (ev_name rfl) (ev_name rfl)) ⟨T.1.map dN, T.2.1.map dN, _, _, _, _, rfl, rfl, by (clear hD res okL okR hn2 hmz hF hw3 hw2 hw1 hw0 hbr hbl hliem hlike hml hrl hm6 hr6 hl6 hb6 hlt hwsl hW; lia), by (clear hD res okL okR hn2 hrz hF hw3 hw2 hw1 hw0 hbr hbl hliem hlike hml hrl hm6 hr6 hl6 hb6 hlt hwsl hW; lia), ?_, ?_, ?_, ?_, rfl⟩ (by decide))
    (ev_map (xs := [(T.1, mn (behK κ 6) 2), (T.1, mx (behK κ 6) 5), (T.2.1, mn (lessK κ 6) 2), (T.2.1, mx (lessK κ 6) 5)]) (inj := dL) (g := fun p => Dat.list ((lyd p).map dN)) (ρ' := []) (by walk_at "side") inj_dL (ei_list (ev_name rfl) rfl) (fun p hp => ⟨[("at", .dat (.int p.2)), ("kept", .dat (.list (p.1.map dN)))], rfl, ?_⟩) (by simp)) (op_eq (b := true) (deqn_list fun d hd => ?_)))
  · exact ⟨dN 6, .bytes (ws.getD 6 #[]), 0, .int (2 : Nat), 2, .fn 1 F, cR κ T.1 6, .k3 0 _ _ (fun _ h => by cases h), ⟨by decide, hF 6 (by decide)⟩, okR 2 (by decide) _ (.inr rfl), by decide, by rw [hw0]; exact res _ _⟩
  · exact ⟨dN 6, .bytes (ws.getD 6 #[]), 5, .none, 6, .fn 1 F, cR κ T.1 6, .k2 5 _ (fun _ h => by cases h), ⟨by decide, hF 6 (by decide)⟩, okR 6 (by decide) _ (.inl ⟨rfl, rfl⟩), by decide, by rw [hw1]; exact res _ _⟩
  · exact ⟨dN 6, .bytes (ws.getD 6 #[]), 0, .int (2 : Nat), 2, .fn 1 F, cL κ T.2.1 6, .k3 0 _ _ (fun _ h => by cases h), ⟨by decide, hF 6 (by decide)⟩, okL 2 (by decide) _ (.inr rfl), by decide, by rw [hw2]; exact res _ _⟩
  · exact ⟨dN 6, .bytes (ws.getD 6 #[]), 5, .none, 6, .fn 1 F, cL κ T.2.1 6, .k2 5 _ (fun _ h => by cases h), ⟨by decide, hF 6 (by decide)⟩, okL 6 (by decide) _ (.inl ⟨rfl, rfl⟩), by decide, by rw [hw3]; exact res _ _⟩
  · obtain ⟨q1, q2⟩ := hD p hp
    have hz : (p.1.map dN).length = 6 := by rw [List.length_map, q1]
    refine (ev_bin (ev_bin ((ev_slice (ev_name rfl) rfl .none (.some (ev_name rfl)) .none (by decide) (by (clear q2 q1 hp hD res okL okR hn2 hmz hrz hF hw3 hw2 hw1 hw0 hbr hbl hliem hlike hml hrl hm6 hr6 hl6 hb6 hlt hwsl hW; lia))).cast (pv' := .dat (.list ((p.1.map dN).take p.2))) ?_) (ev_list (ds := [dN 6]) (.one ev_int) (by simp)) (op_add_list ?_)) ((ev_slice (ev_name rfl) rfl (.some (ev_name rfl)) .none .none (by decide) (by (clear q2 q1 hp hD res okL okR hn2 hmz hrz hF hw3 hw2 hw1 hw0 hbr hbl hliem hlike hml hrl hm6 hr6 hl6 hb6 hlt hwsl hW; lia))).cast (pv' := .dat (.list ((p.1.map dN).drop p.2))) ?_) (op_add_list ?_)).cast ?_
    · rw [pick_upto]
    · rw [List.length_take]; simp; (clear hz hp hD res okL okR hn2 hmz hrz hF hw3 hw2 hw1 hw0 hbr hbl hliem hlike hml hrl hm6 hr6 hl6 hb6 hlt hwsl hW; lia)
    · rw [pick_from _ _ (by (clear q1 hp hD res okL okR hn2 hmz hrz hF hw3 hw2 hw1 hw0 hbr hbl hliem hlike hml hrl hm6 hr6 hl6 hb6 hlt hwsl hW; lia))]
    · rw [List.length_append, List.length_take, List.length_drop]; simp; (clear hz hp hD res okL okR hn2 hmz hrz hF hw3 hw2 hw1 hw0 hbr hbl hliem hlike hml hrl hm6 hr6 hl6 hb6 hlt hwsl hW; lia)
    · rw [res p.1 p.2, List.append_assoc]; rfl
  · obtain ⟨p, _, rfl⟩ := List.mem_map.mp hd
    exact deqn_list fun d hd => by
      obtain ⟨j, _, rfl⟩ := List.mem_map.mp hd; exact deqn_int _ _
end
section
noncomputable def mkW (prog : Program) (w : World) (K : Frag) (g : Heap) (kb : K.In g) (p : Program) (loose : List Str) (mean : ExcName → Option Value) (mg mb : Str → Option Value) (tb : Top p loose mean mg mb g) : Wd :=
  { prog, w, K, base := g, kb, p, loose, mean, mg, mb, tb, Gl := GlT tabs, glMono := GlT.mono, glDrop := GlT.drop }
theorem join {w : World} {loose : List Str} {mean : ExcName → Option Value} {mg mb : Str → Option Value} {s₁ : Shared} {fa : Addr} {ns : List Int} {vs : List Value} {l : Addr} {h₁ : Heap} {tk : Nat} {g : Heap} {L : Addr} {qual : Str} {scope sc : Scope} {body : List Stmt} {cells : Led} {binds : List (Str × Value)} {prog : Program} {P : Params}
    (hbinds : binds = [((Str.ofString "script"), Value.ref l)]) (hsc : scC scope = true) (hscr : scope.names.lookup ("script" : Str) = some .local) (hns : sc.names = scope.names) (hcc : ∀ c, sc.more.lookup ("@code" : Str) = some (.int c) → (Value.ref 141) = .ref c.toNat) (hqq : ∀ q, sc.more.lookup ("@qual" : Str) = some (.str q) → qual ++ ".<locals>." = q)
    (hbody : ∀ W, WL W P → EXL W 200 sc [("script", .dat (.list (ns.map .int)))] (execs body) (.bool true))
    (X : (Mine.hd.heap_39 P).In g) (T : Top topProg loose mean mg mb g) (B : Below callerA g [] g)
    (F : Fr g L h₁ (bindL (envOfC qual scope L fa (.ref 141)).kindOf binds fun _ => none)) (N : News g L h₁ (cells ++ [(73, tabObj #[]), (66, tabObj #[]), (139, tabObj #[])]))
    (CA : CellsAre (bindC (envOfC qual scope L fa (.ref 141)).kindOf binds fun _ => none) (cellsFrom (L + 1) scope.names []) cells)
    (hl : g.IsList l vs.toArray) (hi : IntsAre vs ns) (c1 : CodeHd g 77 73) (c2 : CodeHd g 70 66) (c3 : CodeHd g 141 139) (hlt : 73 < L ∧ 66 < L ∧ 139 < L)
    {Q : Flow → Shared → Prop} {E : Value → Shared → Prop} (hQ : ∀ m' h' tk', Fr g L h' m' → GrownAll [(77, 73), (70, 66), (141, 139)] h' → Q (.ret (.bool true)) { s₁ with heap := h', toks := tk' }) :
    wpAny (model prog w) (callerA.deeper (envOfC qual scope L fa (.ref 141))) (execs body (envOfC qual scope L fa (.ref 141))) Q E { s₁ with heap := h₁, toks := tk } := by
  subst hbinds
  have HW : WL (mkW prog w (Mine.hd.heap_39 P) g X topProg loose mean mg mb T) P := ⟨rfl, rfl, c1, c2, c3⟩
  have hgl : GlT tabs [(73, tabObj #[]), (66, tabObj #[]), (139, tabObj #[])] (Hs g []) := by
    refine ⟨rfl, fun t ht => ?_⟩
    have nil : ∀ pos v, codeAmong pos (#[] : Array Value).toList = some v → False := fun pos v h => by cases h
    rcases List.mem_cons.mp ht with rfl | ht
    · exact ⟨#[], .head _, by unfold TriplesOk; trivial, fun pos v h => (nil pos v h).elim⟩
    rcases List.mem_cons.mp ht with rfl | ht
    · exact ⟨#[], .tail _ (.head _), by unfold TriplesOk; trivial, fun pos v h => (nil pos v h).elim⟩
    rcases List.mem_cons.mp ht with rfl | ht
    · exact ⟨#[], .tail _ (.tail _ (.head _)), by unfold TriplesOk; trivial, fun pos v h => (nil pos v h).elim⟩
    · cases ht
  have hr : Rep (Hs g []) (.ref l) (.list (ns.map .int)) := by
    obtain ⟨o, ho, hc, n, hd⟩ := hl
    exact .list (.inl ho) hc hd (RepA.of_ints hi)
  obtain ⟨A', E', fs⟩ := enter_top (W := mkW prog w (Mine.hd.heap_39 P) g X topProg loose mean mg mb T) (sc := sc) (ρ := [("script", .dat (.list (ns.map .int)))]) B F N CA hgl (by decide) (fun p hp => by
      rcases List.mem_cons.mp hp with rfl | hp
      · exact hlt.1
      rcases List.mem_cons.mp hp with rfl | hp
      · exact hlt.2.1
      rcases List.mem_cons.mp hp with rfl | hp
      · exact hlt.2.2
      · cases hp) hsc (by simp [hscr]) (by simp) (.dat ⟨by decide, by decide⟩ (by rfl) hr .nil) hns hcc hqq
  refine hbody _ HW _ L _ cells [] [] [] _ _ { s₁ with heap := h₁, toks := tk } Q E A' E' fs fun v m' loc' own' fz' h' tk' s' S' R' => ?_
  have R' : Rep (Hs g fz') v (.bool true) := R'
  cases R'
  refine hQ m' h' tk' S'.fr ?_
  obtain ⟨_, ⟨gl, hg, lg⟩, _⟩ := S'
  have gg := grown_of hg fun p hp => (lg.news p (List.mem_append_left _ hp)).1
  obtain ⟨p1, e1, _⟩ := gg (77, 73, "_digits2int.<locals>.inner") (.head _)
  obtain ⟨p2, e2, _⟩ := gg (70, 66, "_int2digits.<locals>.inner") (.tail _ (.head _))
  obtain ⟨p3, e3, _⟩ := gg (141, 139, "law.<locals>.<lambda>") (.tail _ (.tail _ (.head _)))
  exact ⟨⟨p1, e1⟩, ⟨p2, e2⟩, ⟨p3, e3⟩, trivial⟩
end
end Mine
end
section
open PySem PySem.W PyProof.Rows
set_option linter.unusedVariables false
namespace Mine
/-! the layings, by keys -/
theorem edge {c : Nat → Bool} : ∀ n : Nat, (∀ m m', m < m' → m' < n → c m = true → c m' = true) → ∃ k ≤ n, (∀ m < k, c m = false) ∧ (∀ m, k ≤ m → m < n → c m = true)
  | 0, _ => ⟨0, Nat.le_refl _, fun m h => by lia, fun m _ h => by lia⟩
  | n + 1, h => by
    obtain ⟨k, h1, h2, h3⟩ := edge n fun m m' a b => h m m' a (by (clear a h; lia))
    by_cases hk : k = n
    · subst hk
      by_cases hc : c k = true
      · refine ⟨k, by (clear hc h3 h1 h h2; lia), h2, fun m a b => ?_⟩
        have : m = k := by (clear hc h3 h1 h h2; lia)
        rw [this]; exact hc
      · refine ⟨k + 1, by (clear hc h3 h1 h h2; lia), fun m a => ?_, fun m a b => by (clear hc h3 h1 h h2; lia)⟩
        by_cases e : m = k
        · rw [e]; simpa using hc
        · exact h2 m (by (clear hc h3 h1 h h2; lia))
    · refine ⟨k, by (clear hk h3 h2 h; lia), h2, fun m a b => ?_⟩
      by_cases e : m = n
      · rw [e]; exact h k n (by (clear b a h3 h2 h; lia)) (by (clear e b a hk h3 h2 h1 h; lia)) (h3 k (Nat.le_refl _) (by (clear b a h3 h2 h; lia)))
      · exact h3 m a (by (clear a hk h3 h2 h1 h; lia))
theorem insBy_perm {α : Type} (c : Nat → Bool) (x : α) (l : List α) : (insBy c x l).Perm (x :: l) := by
  unfold insBy
  refine List.perm_middle.trans ?_
  rw [List.take_append_drop]
theorem insBy_sorted {α : Type} {R : α → α → Prop} {c : Nat → Bool} {x : α} {l : List α} (hl : l.Pairwise R) (hm : ∀ m m', m < m' → m' < l.length → c m = true → c m' = true) (h1 : ∀ m (h : m < l.length), c m = true → R x l[m]) (h2 : ∀ m (h : m < l.length), c m = false → R l[m] x) : (insBy c x l).Pairwise R := by
  obtain ⟨k, hk, e1, e2⟩ := edge l.length hm
  have e : bis c (l.length - 0) 0 l.length = k := bis_spec _ _ _ _ (Nat.zero_le _) hk (Nat.le_refl _) (fun m _ h => e1 m h) (fun m h h' => e2 m h h')
  unfold insBy
  rw [e]
  have hl' := hl
  rw [← List.take_append_drop k l, List.pairwise_append] at hl'
  have ht : ∀ y ∈ l.take k, R y x := by
    intro y hy
    obtain ⟨m, hm, rfl⟩ := List.mem_iff_getElem.mp hy
    rw [List.length_take] at hm
    rw [List.getElem_take]
    exact h2 m (by (clear hy hl' e2 e1 h2 h1 hl; lia)) (e1 m (by (clear hy hl' e2 e1 h2 h1 hl; lia)))
  have hd : ∀ y ∈ l.drop k, R x y := by
    intro y hy
    obtain ⟨m, hm, rfl⟩ := List.mem_iff_getElem.mp hy
    rw [List.length_drop] at hm
    rw [List.getElem_drop]
    exact h1 _ (by (clear hy ht hl' e2 e1 h2 h1 hl; lia)) (e2 _ (by (clear hy hm ht hl' e e2 e1 hk h2 h1 hl; lia)) (by (clear hy ht hl' e2 e1 h2 h1 hl; lia)))
  refine List.pairwise_append.mpr ⟨hl'.1, List.pairwise_cons.mpr ⟨hd, hl'.2.1⟩, fun y hy z hz => ?_⟩
  rcases List.mem_cons.mp hz with rfl | hz
  · exact ht y hy
  · exact hl'.2.2 y hy z hz
theorem getD_of_lt {α : Type} {l : List α} {m : Nat} (h : m < l.length) (d : α) : l.getD m d = l[m] := by
  rw [List.getD_eq_getElem?_getD, List.getElem?_eq_getElem h]; rfl
theorem pw_get {α : Type} {R : α → α → Prop} {l : List α} (h : l.Pairwise R) {m m' : Nat} (a : m < m') (b : m' < l.length) : R (l[m]'(by (clear h; lia))) l[m'] := List.pairwise_iff_getElem.mp h m m' (by (clear h; lia)) b a
section
variable {κ : Nat → Nat} {l : List Nat} {x v : Nat}
/-- insertion behind, or ahead of, the like ones -/
theorem insR_sorted {R : Nat → Nat → Prop} (hR : ∀ a b, R a b → κ a ≤ κ b) (hl : l.Pairwise R) (h1 : ∀ y ∈ l, κ x < κ y → R x y) (h2 : ∀ y ∈ l, κ y ≤ κ x → R y x) : (insR κ l x).Pairwise R := by
  refine insBy_sorted hl (fun m m' a b hc => ?_) (fun m h hc => ?_) fun m h hc => ?_
  · have := hR _ _ (pw_get hl a b)
    rw [getD_of_lt (by (clear this hc h2 h1 hl hR; lia))] at hc ⊢
    have hc := of_decide_eq_true hc
    exact decide_eq_true (by (clear h2 h1 hl hR; lia))
  · rw [getD_of_lt h] at hc
    exact h1 _ (List.getElem_mem h) (of_decide_eq_true hc)
  · rw [getD_of_lt h] at hc
    exact h2 _ (List.getElem_mem h) (by have := of_decide_eq_false hc; (clear hc h2 h1 hl hR; lia))
theorem insL_sorted {R : Nat → Nat → Prop} (hR : ∀ a b, R a b → κ a ≤ κ b) (hl : l.Pairwise R) (h1 : ∀ y ∈ l, κ x ≤ κ y → R x y) (h2 : ∀ y ∈ l, κ y < κ x → R y x) : (insL κ l x).Pairwise R := by
  refine insBy_sorted hl (fun m m' a b hc => ?_) (fun m h hc => ?_) fun m h hc => ?_
  · have := hR _ _ (pw_get hl a b)
    rw [getD_of_lt (by (clear this hc h2 h1 hl hR; lia))] at hc ⊢
    simp only [Bool.not_eq_true', decide_eq_false_iff_not] at hc ⊢
    (clear h2 h1 hl hR; lia)
  · rw [getD_of_lt h] at hc
    simp only [Bool.not_eq_true', decide_eq_false_iff_not] at hc
    exact h1 _ (List.getElem_mem h) (by (clear h2 h1 hl hR; lia))
  · rw [getD_of_lt h] at hc
    simp only [Bool.not_eq_false', decide_eq_true_eq] at hc
    exact h2 _ (List.getElem_mem h) hc
noncomputable def oR (κ : Nat → Nat) (a b : Nat) : Prop := κ a < κ b ∨ (κ a = κ b ∧ a < b)
noncomputable def oL (κ : Nat → Nat) (a b : Nat) : Prop := κ a < κ b ∨ (κ a = κ b ∧ b < a)
noncomputable def oP (κ : Nat → Nat) (a b : Nat) : Prop := κ a ≤ κ b
theorem lay_inv : ∀ n : Nat, let S := (List.range n).foldl (layK κ) ([], [], []); S.1.Perm (List.range n) ∧ S.2.1.Perm (List.range n) ∧ S.2.2.Perm (List.range n) ∧ S.1.Pairwise (oR κ) ∧ S.2.1.Pairwise (oL κ) ∧ S.2.2.Pairwise (oP κ)
  | 0 => ⟨.nil, .nil, .nil, .nil, .nil, .nil⟩
  | n + 1 => by
    obtain ⟨p1, p2, p3, s1, s2, s3⟩ := lay_inv n
    rw [List.range_succ, List.foldl_append]
    show let S := layK κ ((List.range n).foldl (layK κ) ([], [], [])) n; _
    generalize (List.range n).foldl (layK κ) ([], [], []) = S at *
    have q : ∀ {l : List Nat} {c : Nat → Bool}, l.Perm (List.range n) → (insBy c n l).Perm (List.range n ++ [n]) := fun h => ((insBy_perm _ _ _).trans (.cons _ h)).trans (List.perm_append_singleton n _).symm
    have lt1 : ∀ y ∈ S.1, y < n := fun y hy => List.mem_range.mp (p1.mem_iff.mp hy)
    have lt2 : ∀ y ∈ S.2.1, y < n := fun y hy => List.mem_range.mp (p2.mem_iff.mp hy)
    refine ⟨q p1, q p2, ?_, ?_, ?_, ?_⟩
    · show (if n < 3 then insL κ S.2.2 n else insR κ S.2.2 n).Perm _
      split
      · exact q p3
      · exact q p3
    · exact insR_sorted (fun a b h => by rcases h with h | h <;> (clear lt2 lt1 q s3 s2 s1 p3 p2 p1; lia)) s1 (fun y hy h => .inl h) fun y hy h => by
        have := lt1 y hy
        by_cases e : κ y = κ n
        · exact .inr ⟨e, this⟩
        · exact .inl (by (clear this hy lt2 lt1 q s3 s2 s1 p3 p2 p1; lia))
    · exact insL_sorted (fun a b h => by rcases h with h | h <;> (clear lt2 lt1 q s3 s2 s1 p3 p2 p1; lia)) s2 (fun y hy h => by
        have := lt2 y hy
        by_cases e : κ n = κ y
        · exact .inr ⟨e, this⟩
        · exact .inl (by (clear this hy lt2 lt1 q s3 s2 s1 p3 p2 p1; lia))) fun y hy h => .inl h
    · show (if n < 3 then insL κ S.2.2 n else insR κ S.2.2 n).Pairwise _
      split
      · exact insL_sorted (fun a b h => h) s3 (fun y hy h => h) fun y hy h => Nat.le_of_lt h
      · exact insR_sorted (fun a b h => h) s3 (fun y hy h => Nat.le_of_lt h) fun y hy h => h
/-- a list that rises by its keys: the smaller ones, the like ones, the greater ones -/
theorem split3 (v : Nat) : ∀ l : List Nat, l.Pairwise (oP κ) → l = (l.filter fun j => decide (κ j < v)) ++ ((l.filter fun j => κ j == v) ++ l.filter fun j => decide (v < κ j))
  | [], _ => rfl
  | x :: l, h => by
    rw [List.pairwise_cons] at h
    have ih := split3 v l h.2
    have no : ∀ {p : Nat → Bool}, (∀ y ∈ l, p y = false) → l.filter p = [] := fun hp => List.filter_eq_nil_iff.mpr fun y hy q => by rw [hp y hy] at q; cases q
    have hx : ∀ y ∈ l, κ x ≤ κ y := h.1
    rcases Nat.lt_trichotomy (κ x) v with c | c | c
    · rw [List.filter_cons_of_pos (by simpa using c), List.filter_cons_of_neg (by simp; (clear hx no ih h; lia)), List.filter_cons_of_neg (by simp; (clear hx no ih h; lia)), List.cons_append]
      exact congrArg _ ih
    · have e : l.filter (fun j => decide (κ j < v)) = [] := no fun y hy => by have := hx y hy; simp; (clear hy hx no ih h; lia)
      rw [e, List.nil_append] at ih
      rw [List.filter_cons_of_neg (by simp; (clear e hx no ih h; lia)), List.filter_cons_of_pos (by simpa using c), List.filter_cons_of_neg (by simp; (clear e hx no ih h; lia)), e, List.nil_append, List.cons_append]
      exact congrArg _ ih
    · have e1 : l.filter (fun j => decide (κ j < v)) = [] := no fun y hy => by have := hx y hy; simp; (clear hy hx no ih h; lia)
      have e2 : l.filter (fun j => κ j == v) = [] := no fun y hy => by have := hx y hy; simp; (clear hy e1 hx no ih h; lia)
      rw [e1, e2, List.nil_append, List.nil_append] at ih
      rw [List.filter_cons_of_neg (by simp; (clear e2 e1 hx no ih h; lia)), List.filter_cons_of_neg (by simp; (clear e2 e1 hx no ih h; lia)), List.filter_cons_of_pos (by simpa using c), e1, e2, List.nil_append, List.nil_append]
      exact congrArg _ ih
theorem bis_clip {c : Nat → Bool} {t n lo hi : Nat} (h1 : ∀ m < t, c m = false) (h2 : ∀ m, t ≤ m → m < n → c m = true) (hlo : lo ≤ hi) (hhi : hi ≤ n) : bis c (hi - lo) lo hi = if hi < t then hi else if t < lo then lo else t := by
  refine bis_spec _ _ _ _ ?_ ?_ (Nat.le_refl _) (fun m a b => ?_) fun m a b => ?_
  · split
    · (clear hhi h2 h1; lia)
    · split <;> (clear hhi hlo h2 h1; lia)
  · split
    · (clear hhi hlo h2 h1; lia)
    · split <;> (clear hhi h2 h1; lia)
  · refine h1 m ?_
    split at b
    · (clear a hhi hlo h2 h1; lia)
    · split at b <;> (clear hhi hlo h2 h1; lia)
  · refine h2 m ?_ (by (clear a hlo h2 h1; lia))
    split at a
    · (clear hhi hlo h2 h1; lia)
    · split at a <;> (clear b hhi hlo h2 h1; lia)
/-- where the tests turn -/
theorem thr (hs : l.Pairwise (oP κ)) (hp : l.Perm (List.range 6)) (k : Nat) :
    (∀ m < lessK κ k, cL κ l k m = false) ∧ (∀ m, lessK κ k ≤ m → m < 6 → cL κ l k m = true) ∧ (∀ m < behK κ k, cR κ l k m = false) ∧ (∀ m, behK κ k ≤ m → m < 6 → cR κ l k m = true) ∧
      (l.drop (lessK κ k)).take (likeK κ k).length = l.filter (fun j => κ j == κ k) := by
  have sp := split3 (κ k) l hs
  have e1 : (l.filter fun j => decide (κ j < κ k)).length = lessK κ k := (hp.filter _).length_eq
  have e2 : (l.filter fun j => κ j == κ k).length = (likeK κ k).length := (hp.filter _).length_eq
  have hl : l.length = 6 := by rw [hp.length_eq, List.length_range]
  have hb : behK κ k = lessK κ k + (likeK κ k).length := rfl
  generalize hA : (l.filter fun j => decide (κ j < κ k)) = A at *
  generalize hB : (l.filter fun j => κ j == κ k) = B at *
  generalize hC : (l.filter fun j => decide (κ k < κ j)) = C at *
  have mA : ∀ y ∈ A, κ y < κ k := fun y hy => by rw [← hA] at hy; simpa using (List.mem_filter.mp hy).2
  have mB : ∀ y ∈ B, κ y = κ k := fun y hy => by rw [← hB] at hy; simpa using (List.mem_filter.mp hy).2
  have mC : ∀ y ∈ C, κ k < κ y := fun y hy => by rw [← hC] at hy; simpa using (List.mem_filter.mp hy).2
  have gA : ∀ m < A.length, l.getD m 0 ∈ A := fun m hm => by
    rw [sp, List.getD_eq_getElem?_getD, List.getElem?_append_left hm, List.getElem?_eq_getElem hm]; exact List.getElem_mem hm
  have gB : ∀ m, A.length ≤ m → m < A.length + B.length → l.getD m 0 ∈ B := fun m h1 h2 => by
    rw [sp, List.getD_eq_getElem?_getD, List.getElem?_append_right h1, List.getElem?_append_left (by (clear gA mC mB mA sp hC e2 hB e1 hA hb hl hp hs; lia)), List.getElem?_eq_getElem (by (clear gA mC mB mA sp hC e2 hB e1 hA hb hl hp hs; lia))]; exact List.getElem_mem _
  have gC : ∀ m, A.length + B.length ≤ m → m < 6 → l.getD m 0 ∈ C := fun m h1 h2 => by
    have hc := congrArg List.length sp
    rw [hl, List.length_append, List.length_append] at hc
    rw [sp, List.getD_eq_getElem?_getD, List.getElem?_append_right (by (clear h2 gB gA mC mB mA sp hC hB e1 hA hb hl hp hs; lia)), List.getElem?_append_right (by (clear h2 gB gA mC mB mA sp hC hB e1 hA hb hl hp hs; lia)), List.getElem?_eq_getElem (by (clear gB gA mC mB mA sp hC e2 hB e1 hA hb hl hp hs; lia))]; exact List.getElem_mem _
  refine ⟨fun m hm => ?_, fun m h1 h2 => ?_, fun m hm => ?_, fun m h1 h2 => ?_, ?_⟩
  · unfold cL
    have := mA _ (gA m (by (clear gC gB gA mC mB mA sp hC e2 hB hA hb hl hp hs; lia)))
    simp only [Bool.not_eq_false', decide_eq_true_eq]; exact this
  · unfold cL
    simp only [Bool.not_eq_true', decide_eq_false_iff_not]
    by_cases q : m < A.length + B.length
    · have := mB _ (gB m (by (clear q h2 gC gB gA mC mB mA sp hC e2 hB hA hb hl hp hs; lia)) q); (clear q h2 h1 gC gB gA mC mB mA sp hC e2 hB e1 hA hb hl hp hs; lia)
    · have := mC _ (gC m (by (clear h2 h1 gC gB gA mC mB mA sp hC e2 hB e1 hA hb hl hp hs; lia)) h2); (clear q h2 h1 gC gB gA mC mB mA sp hC e2 hB e1 hA hb hl hp hs; lia)
  · unfold cR
    simp only [decide_eq_false_iff_not]
    by_cases q : m < A.length
    · have := mA _ (gA m q); (clear q hm gC gB gA mC mB mA sp hC e2 hB e1 hA hb hl hp hs; lia)
    · have := mB _ (gB m (by (clear hm gC gB gA mC mB mA sp hC e2 hB e1 hA hb hl hp hs; lia)) (by (clear q gC gB gA mC mB mA sp hC hB hA hl hp hs; lia))); (clear q hm gC gB gA mC mB mA sp hC e2 hB e1 hA hb hl hp hs; lia)
  · unfold cR
    simp only [decide_eq_true_eq]
    exact mC _ (gC m (by (clear h2 gC gB gA mC mB mA sp hC hB hA hl hp hs; lia)) h2)
  · rw [sp, ← e1, ← e2, List.drop_left, List.take_left]
end
theorem kf (κ : Nat → Nat) : KF κ := by
  obtain ⟨p1, p2, p3, s1, s2, s3⟩ := lay_inv (κ := κ) 6
  have t1 : (lay6 κ).1.Perm (List.range 6) := p1
  have t2 : (lay6 κ).2.1.Perm (List.range 6) := p2
  have u1 : (lay6 κ).1.Pairwise (oR κ) := s1
  have u2 : (lay6 κ).2.1.Pairwise (oL κ) := s2
  clear p1 p2 p3 s1 s2 s3
  generalize hT : lay6 κ = T at *
  have v1 : T.1.Pairwise (oP κ) := u1.imp fun h => by rcases h with h | h <;> unfold oP <;> (clear u2 u1 t2 t1 hT; lia)
  have v2 : T.2.1.Pairwise (oP κ) := u2.imp fun h => by rcases h with h | h <;> unfold oP <;> (clear v1 u2 u1 t2 t1 hT; lia)
  have hb : ∀ k, behK κ k ≤ 6 ∧ lessK κ k ≤ 6 := fun k => by
    have e1 : (T.1.filter fun j => decide (κ j < κ k)).length = lessK κ k := (t1.filter _).length_eq
    have e2 : (T.1.filter fun j => κ j == κ k).length = (likeK κ k).length := (t1.filter _).length_eq
    have sp := congrArg List.length (split3 (κ k) T.1 v1)
    rw [t1.length_eq, List.length_range, List.length_append, List.length_append] at sp
    have : behK κ k = lessK κ k + (likeK κ k).length := rfl
    (clear v2 v1 u2 u1 t2 t1 hT; lia)
  constructor
  · rw [hT]; exact fun x hx => List.mem_range.mp (t1.mem_iff.mp hx)
  · rw [hT]; exact fun x hx => List.mem_range.mp (t2.mem_iff.mp hx)
  · rw [hT, t1.length_eq, List.length_range]
  · rw [hT, t2.length_eq, List.length_range]
  · intro k hk
    rw [hT, (thr v1 t1 k).2.2.2.2]
    refine ((t1.filter _).eq_of_pairwise (le := fun a b => a < b) (fun a b _ _ h h' => by (clear hk hb v2 v1 u2 u1 t2 t1 hT; lia)) ?_ ?_)
    · refine List.pairwise_filter.mpr (u1.imp fun {a b} h ha hb => ?_)
      have ha := beq_iff_eq.mp ha; have hb := beq_iff_eq.mp hb
      rcases h with h | h
      · (clear hk v2 v1 u2 u1 t2 t1 hT; lia)
      · exact h.2
    · exact List.pairwise_filter.mpr (List.pairwise_lt_range.imp fun h _ _ => h)
  · intro k hk
    rw [hT, (thr v2 t2 k).2.2.2.2]
    refine ((((t2.filter _)).trans (List.reverse_perm _).symm).eq_of_pairwise (le := fun a b => b < a) (fun a b _ _ h h' => by (clear hk hb v2 v1 u2 u1 t2 t1 hT; lia)) ?_ ?_)
    · refine List.pairwise_filter.mpr (u2.imp fun {a b} h ha hb => ?_)
      have ha := beq_iff_eq.mp ha; have hb := beq_iff_eq.mp hb
      rcases h with h | h
      · (clear hk v2 v1 u2 u1 t2 t1 hT; lia)
      · exact h.2
    · rw [List.pairwise_reverse]
      exact List.pairwise_filter.mpr (List.pairwise_lt_range.imp fun h _ _ => h)
  · intro k hk
    obtain ⟨a, b, _⟩ := thr v1 t1 k
    have := hb k
    rw [hT, bis_clip a b (by decide) (by decide)]
    rw [if_neg (by (clear b a hk hb v2 v1 u2 u1 t2 t1 hT; lia)), if_neg (by (clear b a hk hb v2 v1 u2 u1 t2 t1 hT; lia))]
  · intro k hk
    obtain ⟨_, _, a, b, _⟩ := thr v1 t1 k
    have := hb k
    rw [hT, bis_clip a b (by decide) (by decide)]
    rw [if_neg (by (clear b a hk hb v2 v1 u2 u1 t2 t1 hT; lia)), if_neg (by (clear b a hk hb v2 v1 u2 u1 t2 t1 hT; lia))]
  · obtain ⟨_, _, a, b, _⟩ := thr v1 t1 6
    rw [hT, bis_clip a b (by decide) (by decide)]
    unfold mn
    (repeat' split) <;> (clear b a hb v2 v1 u2 u1 t2 t1 hT; lia)
  · obtain ⟨_, _, a, b, _⟩ := thr v1 t1 6
    have := hb 6
    rw [hT, bis_clip a b (by decide) (by decide)]
    unfold mx
    (repeat' split) <;> (clear b a hb v2 v1 u2 u1 t2 t1 hT; lia)
  · obtain ⟨a, b, _⟩ := thr v2 t2 6
    rw [hT, bis_clip a b (by decide) (by decide)]
    unfold mn
    (repeat' split) <;> (clear b a hb v2 v1 u2 u1 t2 t1 hT; lia)
  · obtain ⟨a, b, _⟩ := thr v2 t2 6
    have := hb 6
    rw [hT, bis_clip a b (by decide) (by decide)]
    unfold mx
    (repeat' split) <;> (clear b a hb v2 v1 u2 u1 t2 t1 hT; lia)
theorem plain_row (κ : Nat → Nat) : (lay6 κ).2.2.map κ = (lay6 κ).1.map κ ∧ ∀ x ∈ (lay6 κ).2.2, x < 6 := by
  obtain ⟨p1, p2, p3, s1, s2, s3⟩ := lay_inv (κ := κ) 6
  have t1 : (lay6 κ).1.Perm (List.range 6) := p1
  have t3 : (lay6 κ).2.2.Perm (List.range 6) := p3
  have u1 : (lay6 κ).1.Pairwise (oR κ) := s1
  have u3 : (lay6 κ).2.2.Pairwise (oP κ) := s3
  refine ⟨((t3.trans t1.symm).map κ).eq_of_pairwise (le := fun a b => a ≤ b) (fun a b _ _ h h' => by (clear u3 u1 t3 t1 s3 s2 s1 p3 p2 p1; lia)) ?_ ?_, fun x hx => List.mem_range.mp (t3.mem_iff.mp hx)⟩
  · rw [List.pairwise_map]; exact u3
  · rw [List.pairwise_map]; exact u1.imp fun h => by rcases h with h | h <;> (clear u3 u1 t3 t1 s3 s2 s1 p3 p2 p1; lia)
end Mine
end
section
open PySem PySem.W PyProof.Rows
set_option linter.unusedVariables false
namespace Mine
/-! the steps: how many, how great, what they tell, how their codes stand -/
theorem steps_len (ways l : Nat) : ∀ f k u : Nat, (stepsF ways l f k u).length ≤ u
  | 0, _, u => by simp [stepsF]
  | f + 1, k, u => by
    unfold stepsF
    split
    · exact Nat.zero_le _
    · have := lef_lt (b := bitN ways k) (l := l) (u := u) (by lia)
      have := steps_len ways l f (k + 1) (lef (bitN ways k) l u)
      rw [List.length_cons]; lia
theorem steps_le (ways l : Nat) (hl : 0 < l) : ∀ f k u : Nat, ∀ q ∈ stepsF ways l f k u, q ≤ l
  | 0, _, u => fun q h => by cases h
  | f + 1, k, u => fun q h => by
    unfold stepsF at h
    split at h
    · cases h
    · rcases List.mem_cons.mp h with rfl | h
      · exact quo_le (bitN_lt _ _) (by (clear h hl; lia)) hl
      · exact steps_le ways l hl f _ _ q h
theorem ceil_uniq {l u q : Nat} (hu : 0 < u) (h1 : l ≤ q * u) (h2 : q * u < l + u) : (l + u - 1) / u = q :=
  Nat.div_eq_of_lt_le (by (clear h1; omega)) (by rw [Nat.succ_mul]; omega)
theorem quo_scale {b l u t : Nat} (hb : b = 0 ∨ b = 1) (ht : 0 < t) (hu : 0 < u) : quo b (t * l) (t * u) = quo b l u ∧ lef b (t * l) (t * u) = t * lef b l u := by
  rcases hb with rfl | rfl
  · exact ⟨Nat.mul_div_mul_left l u ht, Nat.mul_mod_mul_left t l u⟩
  · obtain ⟨c1, c2⟩ := ceil_spec (l := l) hu
    have e : (t * l + t * u - 1) / (t * u) = (l + u - 1) / u := by
      refine ceil_uniq (Nat.mul_pos ht hu) ?_ ?_
      · calc t * l ≤ t * ((l + u - 1) / u * u) := Nat.mul_le_mul_left t c1
          _ = (l + u - 1) / u * (t * u) := by rw [Nat.mul_left_comm]
      · calc (l + u - 1) / u * (t * u) = t * ((l + u - 1) / u * u) := by rw [Nat.mul_left_comm]
          _ < t * (l + u) := Nat.mul_lt_mul_of_pos_left c2 ht
          _ = t * l + t * u := Nat.mul_add _ _ _
    refine ⟨e, ?_⟩
    show (t * l + t * u - 1) / (t * u) * (t * u) - t * l = t * ((l + u - 1) / u * u - l)
    rw [e, Nat.mul_left_comm, Nat.mul_sub]
theorem steps_scale (ways l t : Nat) (ht : 0 < t) : ∀ f g k u : Nat, u ≤ f → u ≤ g → stepsF ways (t * l) f k (t * u) = stepsF ways l g k u
  | 0, g, k, u, h1, h2 => by
    have : u = 0 := by (clear h2 ht; lia)
    subst this
    cases g with
    | zero => rfl
    | succ g => unfold stepsF; rw [if_pos rfl]
  | f + 1, 0, k, u, h1, h2 => by
    have : u = 0 := by (clear h1 ht; lia)
    subst this
    rw [Nat.mul_zero]; unfold stepsF; rw [if_pos rfl]
  | f + 1, g + 1, k, u, h1, h2 => by
    unfold stepsF
    by_cases hu : u = 0
    · subst hu; rw [Nat.mul_zero, if_pos rfl, if_pos rfl]
    · have hu : 0 < u := by (clear h2 h1 ht; lia)
      rw [if_neg (by have := Nat.mul_pos ht hu; (clear hu h2 h1 ht; lia)), if_neg (by (clear h2 h1 ht; lia))]
      obtain ⟨e1, e2⟩ := quo_scale (l := l) (bitN_lt ways k) ht hu
      have := lef_lt (b := bitN ways k) (l := l) hu
      rw [e1, e2, steps_scale ways l t ht f g (k + 1) _ (by (clear e2 e1 hu h2 ht; lia)) (by (clear e2 e1 hu h1 ht; lia))]
theorem value_ok (ways l : Nat) (hl : 0 < l) : ∀ f k u : Nat, u ≤ f → u ≤ l → 0 < (valW ways k (stepsF ways l f k u)).2 ∧ (valW ways k (stepsF ways l f k u)).1 * l = u * (valW ways k (stepsF ways l f k u)).2
  | 0, k, u, h1, _ => by
    have : u = 0 := by (clear hl; lia)
    subst this
    unfold stepsF valW; simp
  | f + 1, k, u, h1, h2 => by
    unfold stepsF
    by_cases hu : u = 0
    · subst hu; rw [if_pos rfl]; unfold valW; simp
    · have hu : 0 < u := by (clear h2 h1 hl; lia)
      rw [if_neg (by (clear h2 h1 hl; lia))]
      have hlt := lef_lt (b := bitN ways k) (l := l) hu
      obtain ⟨i1, i2⟩ := value_ok ways l hl f (k + 1) (lef (bitN ways k) l u) (by (clear hu h2 hl; lia)) (by (clear hu h1 hl; lia))
      have hq := quo_pos (l := l) (bitN_lt ways k) hu h2
      have he := lef_eq (l := l) (bitN_lt ways k) hu
      unfold valW
      generalize valW ways (k + 1) (stepsF ways l f (k + 1) (lef (bitN ways k) l u)) = v at i1 i2
      generalize quo (bitN ways k) l u = q at hq he
      generalize lef (bitN ways k) l u = r at i2 he
      refine ⟨Int.mul_pos (by (clear he i2 i1 hlt hu h2 h1 hl; lia)) i1, ?_⟩
      rcases bitN_lt ways k with hb | hb
      · rw [hb] at he ⊢
        have he : (l : Int) = q * u + 1 * r := he
        show (if ((0 : Nat) == 1) = true then v.2 + v.1 else v.2 - v.1) * (l : Int) = u * (q * v.2)
        rw [if_neg (by decide), Int.sub_mul, i2]
        have e : v.2 * (l : Int) = v.2 * (q * u) + v.2 * r := by
          conv => lhs; rw [he]
          rw [Int.one_mul, Int.mul_add]
        rw [e, Int.mul_comm (r : Int) v.2, Int.add_sub_cancel]
        rw [Int.mul_comm v.2, Int.mul_comm (q : Int) u, Int.mul_assoc]
      · rw [hb] at he ⊢
        have he : (l : Int) = q * u + -1 * r := he
        show (if ((1 : Nat) == 1) = true then v.2 + v.1 else v.2 - v.1) * (l : Int) = u * (q * v.2)
        rw [if_pos (by decide), Int.add_mul, i2]
        have e : v.2 * (l : Int) = v.2 * (q * u) - v.2 * r := by
          conv => lhs; rw [he]
          rw [Int.neg_mul, Int.one_mul, Int.mul_add, Int.mul_neg]; (clear he hb i2 hq i1 hlt hu h2 h1 hl; lia)
        rw [e, Int.mul_comm (r : Int) v.2, Int.sub_add_cancel]
        rw [Int.mul_comm v.2, Int.mul_comm (q : Int) u, Int.mul_assoc]
/-! order -/
noncomputable def lx : List Nat → List Nat → Bool
  | [], [] => false
  | [], _ :: _ => true
  | _ :: _, [] => false
  | x :: a, y :: b => if x < y then true else if x > y then false else lx a b
theorem lx_cons {x : Nat} {a b : List Nat} : lx (x :: a) (x :: b) = lx a b := by
  show (if x < x then true else if x > x then false else lx a b) = _
  rw [if_neg (by lia), if_neg (by lia)]
theorem lx_head {x y : Nat} {a b : List Nat} (h : x < y) : lx (x :: a) (y :: b) = true := if_pos h
noncomputable def bef (ev : Bool) (a b : List Nat) : Prop := (if ev then lx a b else lx b a) = true
theorem quo_lt {b l1 u1 l2 u2 : Nat} (hb : b = 0 ∨ b = 1) (h1 : 0 < u1) (h2 : 0 < u2) (h : quo b l1 u1 < quo b l2 u2) : u2 * l1 < u1 * l2 := by
  rcases hb with rfl | rfl
  · have h : l1 / u1 < l2 / u2 := h
    have a1 := Nat.lt_mul_div_succ l1 h1
    have a2 := Nat.mul_div_le l2 u2
    generalize l1 / u1 = q1 at h a1
    generalize l2 / u2 = q2 at h a2
    have c : u1 * (u2 * (q1 + 1)) ≤ u1 * (u2 * q2) := Nat.mul_le_mul_left _ (Nat.mul_le_mul_left _ (by (clear a2 a1 h2 h1; lia)))
    have d : u1 * (u2 * q2) ≤ u1 * l2 := Nat.mul_le_mul_left _ a2
    have e : u2 * l1 < u2 * (u1 * (q1 + 1)) := Nat.mul_lt_mul_of_pos_left a1 h2
    rw [Nat.mul_left_comm] at e
    (clear a2 h a1 h2 h1; omega)
  · have h : (l1 + u1 - 1) / u1 < (l2 + u2 - 1) / u2 := h
    obtain ⟨a1, _⟩ := ceil_spec (l := l1) h1
    obtain ⟨_, a2⟩ := ceil_spec (l := l2) h2
    generalize (l1 + u1 - 1) / u1 = q1 at h a1
    generalize (l2 + u2 - 1) / u2 = q2 at h a2
    have a3 : q1 * u2 < l2 := by
      have : (q1 + 1) * u2 ≤ q2 * u2 := Nat.mul_le_mul_right _ h
      rw [Nat.succ_mul] at this; (clear h a1 h2 h1; lia)
    have c : u2 * l1 ≤ u2 * (q1 * u1) := Nat.mul_le_mul_left _ a1
    have d : u1 * (q1 * u2) < u1 * l2 := Nat.mul_lt_mul_of_pos_left a3 h1
    have e : u2 * (q1 * u1) = u1 * (q1 * u2) := by rw [Nat.mul_comm q1 u1, Nat.mul_left_comm, Nat.mul_comm q1 u2]
    (clear a3 a2 h a1 h2 h1; lia)
theorem quo_same {b l1 u1 l2 u2 : Nat} (hb : b = 0 ∨ b = 1) (h1 : 0 < u1) (h2 : 0 < u2) (hq : 0 < quo b l1 u1) (h : quo b l1 u1 = quo b l2 u2) :
    (quo b l1 u1 : Int) * (u1 * l2 - u2 * l1) = sd b * (lef b l2 u2 * l1 - lef b l1 u1 * l2) := by
  have e1 := lef_eq (l := l1) hb h1
  have e2 := lef_eq (l := l2) hb h2
  rw [← h] at e2
  generalize quo b l1 u1 = q at *
  generalize lef b l1 u1 = r1 at *
  generalize lef b l2 u2 = r2 at *
  generalize sd b = s at *
  have x1 : (q : Int) * u1 = l1 - s * r1 := by (clear e2 h hq h2 h1 hb; lia)
  have x2 : (q : Int) * u2 = l2 - s * r2 := by (clear x1 e1 h hq h2 h1 hb; lia)
  rw [Int.mul_sub, ← Int.mul_assoc, ← Int.mul_assoc, x1, x2, Int.sub_mul, Int.sub_mul, Int.mul_sub, Int.mul_assoc, Int.mul_assoc, Int.mul_comm (l1 : Int) l2]
  (clear x2 x1 e2 e1 h hq h2 h1 hb; lia)
theorem codes_order (ways : Nat) : ∀ (f k : Nat) (ev : Bool) (u1 l1 u2 l2 : Nat), u1 ≤ f → u2 ≤ f → u1 ≤ l1 → u2 ≤ l2 → 0 < l1 → 0 < l2 → l1 ≤ 123 → l2 ≤ 123 →
    (u1 * l2 < u2 * l1 → bef ev (codesW ways k ev (stepsF ways l1 f k u1)) (codesW ways k ev (stepsF ways l2 f k u2))) ∧ (u1 * l2 = u2 * l1 → codesW ways k ev (stepsF ways l1 f k u1) = codesW ways k ev (stepsF ways l2 f k u2))
  | 0, k, ev, u1, l1, u2, l2, h1, h2, _, _, _, _, _, _ => by
    have e1 : u1 = 0 := by (clear h2; lia)
    have e2 : u2 = 0 := by (clear e1 h1; lia)
    subst e1; subst e2
    refine ⟨fun h => by (clear h2 h1; lia), fun _ => rfl⟩
  | f + 1, k, ev, u1, l1, u2, l2, h1, h2, b1, b2, p1, p2, c1, c2 => by
    unfold stepsF
    by_cases z1 : u1 = 0
    · by_cases z2 : u2 = 0
      · subst z1; subst z2
        rw [if_pos rfl, if_pos rfl]
        exact ⟨fun h => by (clear b2 h2 b1 h1 c2 c1 p2 p1; lia), fun _ => rfl⟩
      · subst z1
        rw [if_pos rfl, if_neg z2]
        have hu : 0 < u2 := by (clear b1 h1 c2 c1 p2 p1 b2 h2; lia)
        have hq1 := quo_pos (l := l2) (bitN_lt ways k) hu b2
        have hq2 := quo_le (l := l2) (bitN_lt ways k) hu p2
        refine ⟨fun _ => ?_, fun h => by have := Nat.mul_pos hu p1; (clear hq2 hq1 hu b1 h1 z2 c2 c1 p2 p1 b2 h2; lia)⟩
        unfold codesW bef
        cases ev with
        | true => exact lx_head (by simp; (clear hq1 hu b1 h1 z2 c1 p1 b2 h2; lia))
        | false => exact lx_head (by simp; (clear hq1 hu b1 h1 z2 c1 p1 b2 h2; lia))
    · by_cases z2 : u2 = 0
      · subst z2
        have := Nat.mul_pos (show 0 < u1 by (clear b2 h2 c2 c1 p2 p1 b1 h1; lia)) p2
        exact ⟨fun h => by (clear b2 h2 z1 c2 c1 p2 p1 b1 h1; lia), fun h => by (clear b2 h2 z1 c2 c1 p2 p1 b1 h1; lia)⟩
      · rw [if_neg z1, if_neg z2]
        have hu1 : 0 < u1 := by (clear c2 c1 p2 p1 b2 b1 h2 h1; lia)
        have hu2 : 0 < u2 := by (clear hu1 z1 c2 c1 p2 p1 b2 b1 h2 h1; lia)
        have q1p := quo_pos (l := l1) (bitN_lt ways k) hu1 b1
        have q1l := quo_le (l := l1) (bitN_lt ways k) hu1 p1
        have q2l := quo_le (l := l2) (bitN_lt ways k) hu2 p2
        rcases Nat.lt_trichotomy (quo (bitN ways k) l1 u1) (quo (bitN ways k) l2 u2) with c | c | c
        · have := quo_lt (bitN_lt ways k) hu1 hu2 c
          exact ⟨fun h => by (clear c q2l q1l q1p hu2 hu1 z2 z1 c2 c1 p2 p1 b2 b1 h2 h1; lia), fun h => by (clear c q2l q1l q1p hu2 hu1 z2 z1 c2 c1 p2 p1 b2 b1 h2 h1; lia)⟩
        · have sm := quo_same (bitN_lt ways k) hu1 hu2 q1p c
          have r1 := lef_lt (b := bitN ways k) (l := l1) hu1
          have r2 := lef_lt (b := bitN ways k) (l := l2) hu2
          unfold codesW
          rw [← c]
          generalize hq : quo (bitN ways k) l1 u1 = q at *
          generalize lef (bitN ways k) l1 u1 = s1 at *
          generalize lef (bitN ways k) l2 u2 = s2 at *
          have hq0 : (0 : Int) < (q : Int) := by (clear sm r2 r1 c q1l hq q2l hu2 hu1 z2 z1 c2 c1 p2 p1 b2 b1 h2 h1; lia)
          have e1 : (u1 : Int) * l2 = ((u1 * l2 : Nat) : Int) := by push_cast; rfl
          have e2 : (u2 : Int) * l1 = ((u2 * l1 : Nat) : Int) := by push_cast; rfl
          have e3 : (s1 : Int) * l2 = ((s1 * l2 : Nat) : Int) := by push_cast; rfl
          have e4 : (s2 : Int) * l1 = ((s2 * l1 : Nat) : Int) := by push_cast; rfl
          rw [e1, e2, e3, e4] at sm
          generalize u1 * l2 = A at *
          generalize u2 * l1 = B at *
          have neg : A < B → (q : Int) * (A - B) < 0 := fun h => Int.mul_neg_of_pos_of_neg hq0 (by (clear sm e2 e1 e4 e3 hq0 r2 r1 c q1l q1p hq q2l hu2 hu1 z2 z1 c2 c1 p2 p1 b2 b1 h2 h1; lia))
          rcases bitN_lt ways k with hb | hb
          · rw [hb] at sm ⊢
            have sm : (q : Int) * (A - B) = 1 * (((s2 * l1 : Nat) : Int) - ((s1 * l2 : Nat) : Int)) := sm
            obtain ⟨i1, i2⟩ := codes_order ways f (k + 1) (ev == ((0 : Nat) == 1)) s2 l2 s1 l1 (by (clear sm hb neg e2 e1 e4 e3 hq0 r1 c q1l q1p hq q2l hu2 hu1 z2 z1 c2 c1 p2 p1 b2 b1 h1; lia)) (by (clear sm hb neg e2 e1 e4 e3 hq0 r2 c q1l q1p hq q2l hu2 hu1 z2 z1 c2 c1 p2 p1 b2 b1 h2; lia)) (by (clear sm hb neg e2 e1 e4 e3 hq0 r1 c q1l q1p hq q2l hu2 hu1 z2 z1 c2 c1 p2 p1 b1 h2 h1; lia)) (by (clear sm hb neg e2 e1 e4 e3 hq0 r2 c q1l q1p hq q2l hu2 hu1 z2 z1 c2 c1 p2 p1 b2 h2 h1; lia)) p2 p1 c2 c1
            refine ⟨fun h => ?_, fun h => ?_⟩
            · have := neg h
              have := i1 (by (clear h i2 i1 hb neg e2 e1 e4 e3 hq0 r2 r1 c q1l q1p hq q2l hu2 hu1 z2 z1 c2 c1 p2 p1 b2 b1 h2 h1; omega))
              unfold bef at this ⊢
              rw [lx_cons, lx_cons]
              cases ev <;> exact this
            · subst h
              have : (q : Int) * ((A : Int) - A) = 0 := by rw [Int.sub_self, Int.mul_zero]
              rw [i2 (by (clear this neg e2 i2 i1 hb e1 e4 e3 hq0 r2 r1 c q1l q1p hq q2l hu2 hu1 z2 z1 c2 c1 p2 p1 b2 b1 h2 h1; lia))]
          · rw [hb] at sm ⊢
            have sm : (q : Int) * (A - B) = -1 * (((s2 * l1 : Nat) : Int) - ((s1 * l2 : Nat) : Int)) := sm
            obtain ⟨i1, i2⟩ := codes_order ways f (k + 1) (ev == ((1 : Nat) == 1)) s1 l1 s2 l2 (by (clear sm hb neg e2 e1 e4 e3 hq0 r2 c q1l q1p hq q2l hu2 hu1 z2 z1 c2 c1 p2 p1 b2 b1 h2; lia)) (by (clear sm hb neg e2 e1 e4 e3 hq0 r1 c q1l q1p hq q2l hu2 hu1 z2 z1 c2 c1 p2 p1 b2 b1 h1; lia)) (by (clear sm hb neg e2 e1 e4 e3 hq0 r2 c q1l q1p hq q2l hu2 hu1 z2 z1 c2 c1 p2 p1 b2 h2 h1; lia)) (by (clear sm hb neg e2 e1 e4 e3 hq0 r1 c q1l q1p hq q2l hu2 hu1 z2 z1 c2 c1 p2 p1 b1 h2 h1; lia)) p1 p2 c1 c2
            refine ⟨fun h => ?_, fun h => ?_⟩
            · have := neg h
              have := i1 (by (clear h i2 i1 hb neg e2 e1 e4 e3 hq0 r2 r1 c q1l q1p hq q2l hu2 hu1 z2 z1 c2 c1 p2 p1 b2 b1 h2 h1; omega))
              unfold bef at this ⊢
              rw [lx_cons, lx_cons]
              cases ev <;> exact this
            · subst h
              have : (q : Int) * ((A : Int) - A) = 0 := by rw [Int.sub_self, Int.mul_zero]
              rw [i2 (by (clear this neg e2 i2 i1 hb e1 e4 e3 hq0 r2 r1 c q1l q1p hq q2l hu2 hu1 z2 z1 c2 c1 p2 p1 b2 b1 h2 h1; lia))]
        · have := quo_lt (bitN_lt ways k) hu2 hu1 c
          refine ⟨fun _ => ?_, fun h => by (clear c q2l q1l q1p hu2 hu1 z2 z1 c2 c1 p2 p1 b2 b1 h2 h1; lia)⟩
          unfold codesW bef
          cases ev with
          | true => exact lx_head (by simp; (clear this q1p hu2 hu1 z2 z1 b2 b1 h2 h1; lia))
          | false => exact lx_head (by simp; (clear this q2l q1l q1p hu2 hu1 z2 z1 c2 c1 p2 p1 b2 b1 h2 h1; lia))
/-! words -/
theorem blt_irr : ∀ a : List UInt8, bltL a a = false
  | [] => rfl
  | x :: a => by
    show (if x < x then true else if x > x then false else bltL a a) = _
    rw [if_neg (UInt8.lt_irrefl x), if_neg (UInt8.lt_irrefl x)]; exact blt_irr a
theorem blt_asym : ∀ a b : List UInt8, bltL a b = true → bltL b a = false
  | [], [], h => by cases h
  | [], _ :: _, _ => rfl
  | _ :: _, [], h => by cases h
  | x :: a, y :: b, h => by
    have h : (if x < y then true else if x > y then false else bltL a b) = true := h
    show (if y < x then true else if y > x then false else bltL b a) = false
    by_cases h1 : x < y
    · rw [if_neg (fun q => absurd (UInt8.lt_trans h1 q) (UInt8.lt_irrefl x)), if_pos h1]
    · rw [if_neg h1] at h
      by_cases h2 : x > y
      · rw [if_pos h2] at h; cases h
      · rw [if_neg h2] at h
        rw [if_neg h2, if_neg h1]
        exact blt_asym a b h
theorem blt_app (c : List UInt8) (a b : List UInt8) : bltL (c ++ a) (c ++ b) = bltL a b := by
  induction c with
  | nil => rfl
  | cons x c ih =>
    show (if x < x then true else if x > x then false else bltL (c ++ a) (c ++ b)) = _
    rw [if_neg (UInt8.lt_irrefl x), if_neg (UInt8.lt_irrefl x)]; exact ih
theorem lett {m n : Nat} (hm : m < 16) (hn : n < 16) : (UInt8.ofNat (65 + m) < UInt8.ofNat (65 + n)) ↔ m < n := by
  rw [UInt8.lt_iff_toNat_lt, UInt8.toNat_ofNat', UInt8.toNat_ofNat']; lia
theorem two_lt {x y : Nat} {a b : List UInt8} (hx : x < 256) (hy : y < 256) (h : x < y) : bltL (two x ++ a) (two y ++ b) = true := by
  show (if UInt8.ofNat (65 + x / 16) < UInt8.ofNat (65 + y / 16) then true else if UInt8.ofNat (65 + x / 16) > UInt8.ofNat (65 + y / 16) then false else (if UInt8.ofNat (65 + x % 16) < UInt8.ofNat (65 + y % 16) then true else if UInt8.ofNat (65 + x % 16) > UInt8.ofNat (65 + y % 16) then false else bltL a b)) = true
  by_cases h1 : x / 16 < y / 16
  · rw [if_pos ((lett (by (clear h1 h hy; lia)) (by (clear h1; lia))).mpr h1)]
  · rw [if_neg (fun q => h1 ((lett (by (clear q h1 h hy; lia)) (by (clear q h hy; lia))).mp q)), if_neg (fun q => by have := (lett (by (clear q h hy; lia)) (by (clear q h1 h hy; lia))).mp q; (clear q h1 hy hx; lia)), if_pos ((lett (by (clear h1 h hy hx; lia)) (by (clear h1 h hy hx; lia))).mpr (by lia))]
theorem lx_blt : ∀ a b : List Nat, (∀ x ∈ a, x < 256) → (∀ x ∈ b, x < 256) → lx a b = true → bltL (a.flatMap two) (b.flatMap two) = true
  | [], [], _, _, h => by cases h
  | [], y :: b, _, _, _ => rfl
  | _ :: _, [], _, _, h => by cases h
  | x :: a, y :: b, ha, hb, h0 => by
    have h : (if x < y then true else if x > y then false else lx a b) = true := h0
    clear h0
    rw [List.flatMap_cons, List.flatMap_cons]
    by_cases h1 : x < y
    · exact two_lt (ha x (.head _)) (hb y (.head _)) h1
    · rw [if_neg h1] at h
      by_cases h2 : x > y
      · rw [if_pos h2] at h; cases h
      · rw [if_neg h2] at h
        have e : x = y := by (clear h hb ha; lia)
        subst e
        rw [blt_app]
        exact lx_blt a b (fun z hz => ha z (.tail _ hz)) (fun z hz => hb z (.tail _ hz)) h
theorem word_two {ways : Nat} {l : List Nat} (hne : l ≠ []) (hl : l.length ≤ 90) (hq : ∀ q ∈ l, q ≤ 123) : (wordF ways l).toList = (codesW ways 0 true l).flatMap two := by
  have hcb := codesW_lt ways l 0 true fun q h => Nat.le_trans (hq q h) (by decide)
  have htp : tp (codesW ways 0 true l).reverse = true := by
    cases l with
    | nil => exact absurd rfl hne
    | cons q l => exact tp_codes (hq q (.head _))
  have hcl := codesW_len ways l 0 true
  have hlet := apF_n8 (codesW ways 0 true l).reverse 1000 (fun x h => hcb x (List.mem_reverse.mp h)) htp (by rw [List.length_reverse]; (clear htp hcb hq hne; lia))
  rw [List.reverse_reverse] at hlet
  unfold wordF
  rw [wordN_n8, Int.natAbs_natCast, hlet]
end Mine
end
section
open PySem PySem.W PyProof.Rows
set_option linter.unusedVariables false
namespace Mine
/-! the law's data stand -/
theorem stride_nonneg (ns : List Int) (k n : Nat) : 0 ≤ strideSum (few ns) k n := by
  have hs : ∀ l : List Int, (∀ x ∈ l, 0 ≤ x) → 0 ≤ l.sum := fun l => by
    induction l with
    | nil => intro _; exact Int.le_refl _
    | cons x l ih => intro h; rw [List.sum_cons]; have := ih fun y hy => h y (.tail _ hy); have := h x (.head _); (clear h ih; lia)
  unfold strideSum
  refine hs _ fun x hx => ?_
  have hx := pick_mem hx
  unfold few at hx
  obtain ⟨y, _, rfl⟩ := List.mem_map.mp hx
  exact Int.fmod_nonneg_of_pos y (by decide)
noncomputable def prN (c : Int) : NP := ((1 + (c.fdiv 40).fmod (2 + c.fmod 40)).toNat, (2 + c.fmod 40).toNat)
theorem prN_ok (c : Int) : (1 ≤ (prN c).1 ∧ (prN c).1 ≤ (prN c).2 ∧ (prN c).2 ≤ 41) ∧ Dat.tuple [.int (1 + (c.fdiv 40).fmod (2 + c.fmod 40)), .int (2 + c.fmod 40)] = dP (prN c) := by
  have a1 := Int.fmod_nonneg_of_pos c (b := 40) (by decide)
  have a2 := Int.fmod_lt_of_pos c (b := 40) (by decide)
  have a3 := Int.fmod_nonneg_of_pos (c.fdiv 40) (b := 2 + c.fmod 40) (by lia)
  have a4 := Int.fmod_lt_of_pos (c.fdiv 40) (b := 2 + c.fmod 40) (by lia)
  unfold prN dP
  generalize (c.fdiv 40).fmod (2 + c.fmod 40) = e at *
  generalize c.fmod 40 = g at *
  refine ⟨⟨?_, ?_, ?_⟩, ?_⟩
  · show 1 ≤ (1 + e).toNat; (clear a4 a2 a1; lia)
  · show (1 + e).toNat ≤ (2 + g).toNat; lia
  · show (2 + g).toNat ≤ 41; (clear a4 a3; lia)
  · rw [Int.toNat_of_nonneg (by (clear a4 a2 a1; lia)), Int.toNat_of_nonneg (by (clear a4 a3; lia))]
theorem stp_fuel {ways : Nat} {p : NP} (h : p.1 ≤ p.2 + 1) (h2 : p.1 ≤ 200) : stp ways p = stepsF ways p.2 200 0 p.1 := by
  have := steps_scale ways p.2 1 (by decide) (p.2 + 1) 200 0 p.1 h h2
  rwa [Nat.one_mul, Nat.one_mul] at this
theorem stp_ne {ways : Nat} {p : NP} (h : 1 ≤ p.1) : stp ways p ≠ [] := by
  unfold stp stepsF
  rw [if_neg (by lia)]
  exact List.cons_ne_nil _ _
theorem word_ord {ways : Nat} {p q : NP} (hp : 1 ≤ p.1 ∧ p.1 ≤ p.2 ∧ p.2 ≤ 123) (hq : 1 ≤ q.1 ∧ q.1 ≤ q.2 ∧ q.2 ≤ 123) (lp : (stp ways p).length ≤ 90) (lq : (stp ways q).length ≤ 90) (bp : ∀ x ∈ stp ways p, x ≤ 123) (bq : ∀ x ∈ stp ways q, x ≤ 123) :
    (p.1 * q.2 < q.1 * p.2 → bltL (wrd ways p).toList (wrd ways q).toList = true) ∧ (p.1 * q.2 = q.1 * p.2 → wrd ways p = wrd ways q) := by
  have ep := stp_fuel (ways := ways) (p := p) (by (clear bq bp lq lp hq; lia)) (by (clear bq bp lq lp hq; lia))
  have eq := stp_fuel (ways := ways) (p := q) (by (clear ep bq bp lq lp hp; lia)) (by (clear ep bq bp lq lp hp; lia))
  obtain ⟨c1, c2⟩ := codes_order ways 200 0 true p.1 p.2 q.1 q.2 (by (clear eq ep bq bp lq lp hq; lia)) (by (clear eq ep bq bp lq lp hp; lia)) hp.2.1 hq.2.1 (by (clear eq ep bq bp lq lp hq; lia)) (by (clear eq ep bq bp lq lp hp; lia)) hp.2.2 hq.2.2
  rw [← ep, ← eq] at c1 c2
  refine ⟨fun h => ?_, fun h => ?_⟩
  · have c := c1 h
    unfold wrd
    rw [word_two (stp_ne hp.1) lp bp, word_two (stp_ne hq.1) lq bq]
    exact lx_blt _ _ (codesW_lt ways _ 0 true fun x hx => Nat.le_trans (bp x hx) (by decide)) (codesW_lt ways _ 0 true fun x hx => Nat.le_trans (bq x hx) (by decide)) c
  · unfold wrd wordF
    rw [c2 h]
theorem prod_dvd {x : Nat} : ∀ {l : List Nat}, x ∈ l → x ∣ l.foldr (· * ·) 1
  | y :: l, h => by
    rw [List.foldr_cons]
    rcases List.mem_cons.mp h with rfl | h
    · exact Nat.dvd_mul_right _ _
    · exact Nat.dvd_trans (prod_dvd h) (Nat.dvd_mul_left _ _)
theorem prod_pos : ∀ {l : List Nat}, (∀ x ∈ l, 0 < x) → 0 < l.foldr (· * ·) 1
  | [], _ => Nat.one_pos
  | y :: l, h => by rw [List.foldr_cons]; exact Nat.mul_pos (h y (.head _)) (prod_pos fun x hx => h x (.tail _ hx))
theorem kap {N l1 l2 u1 u2 : Nat} (hN : 0 < N) (d1 : l1 ∣ N) (d2 : l2 ∣ N) (p1 : 0 < l1) (p2 : 0 < l2) : (u1 * (N / l1) < u2 * (N / l2) ↔ u1 * l2 < u2 * l1) ∧ (u1 * (N / l1) = u2 * (N / l2) ↔ u1 * l2 = u2 * l1) := by
  have e1 : l1 * (N / l1) = N := Nat.mul_div_cancel' d1
  have e2 : l2 * (N / l2) = N := Nat.mul_div_cancel' d2
  generalize N / l1 = n1 at *
  generalize N / l2 = n2 at *
  have hp : 0 < l1 * l2 := Nat.mul_pos p1 p2
  have f1 : l1 * l2 * (u1 * n1) = N * (u1 * l2) := by rw [← e1]; ac_rfl
  have f2 : l1 * l2 * (u2 * n2) = N * (u2 * l1) := by rw [← e2]; ac_rfl
  refine ⟨?_, ?_⟩
  · rw [← Nat.mul_lt_mul_left hp, f1, f2, Nat.mul_lt_mul_left hN]
  · rw [← Nat.mul_right_inj (Nat.ne_of_gt hp), f1, f2, Nat.mul_right_inj (Nat.ne_of_gt hN)]
theorem facts2 (ns : List Int) : Nonempty (F2 ns) := by
  obtain ⟨x0, x1, x2, x3, x4, x5, x6, hcs⟩ : ∃ x0 x1 x2 x3 x4 x5 x6, cellsOf ns [22, 171, 661, 256, 1, 1599, 43] = [x0, x1, x2, x3, x4, x5, x6] := ⟨_, _, _, _, _, _, _, rfl⟩
  have hx0 : 0 ≤ x0 := by
    have h := congrArg (fun l => l.head?) hcs
    have h : some (22 + strideSum (few ns) 0 7) = some x0 := h
    have := Option.some.inj h
    have := stride_nonneg ns 0 7
    (clear h hcs; lia)
  have tm1 := Int.fmod_nonneg_of_pos (x6 + 1) (b := 3) (by decide)
  have tm2 := Int.fmod_lt_of_pos (x6 + 1) (b := 3) (by decide)
  obtain ⟨tm, htm⟩ : ∃ tm : Nat, 1 + (x6 + 1).fmod 3 = (tm : Int) := ⟨(1 + (x6 + 1).fmod 3).toNat, by (clear hx0 hcs; omega)⟩
  obtain ⟨ways, hw⟩ : ∃ ways : Nat, x0 = (ways : Int) := ⟨x0.toNat, by (clear htm tm2 tm1 hcs; lia)⟩
  have hdr : ([x1, x2, x3, x4, x5, x6].map fun c : Int => Dat.tuple [.int (1 + (c.fdiv 40).fmod (2 + c.fmod 40)), .int (2 + c.fmod 40)]) = ([x1, x2, x3, x4, x5, x6].map prN).map dP := by
    rw [List.map_map]
    exact List.map_congr_left fun c _ => (prN_ok c).2
  have hd : ∀ p ∈ [x1, x2, x3, x4, x5, x6].map prN, 1 ≤ p.1 ∧ p.1 ≤ p.2 ∧ p.2 ≤ 41 := fun p hp => by
    obtain ⟨c, _, rfl⟩ := List.mem_map.mp hp; exact (prN_ok c).1
  obtain ⟨wd, hwd⟩ : ∃ wd : List NP, ([x1, x2, x3, x4, x5, x6].map prN).take 5 ++ [(tm * (prN x1).1, tm * (prN x1).2), prN x6] = wd := ⟨_, rfl⟩
  have hwl : wd.length = 7 := by rw [← hwd]; rfl
  have hmem : ∀ p ∈ wd, (p ∈ [x1, x2, x3, x4, x5, x6].map prN) ∨ p = (tm * (prN x1).1, tm * (prN x1).2) := fun p hp => by
    rw [← hwd] at hp
    rcases List.mem_append.mp hp with hp | hp
    · exact .inl (List.mem_of_mem_take hp)
    · rcases List.mem_cons.mp hp with hp | hp
      · exact .inr hp
      · rw [List.mem_singleton.mp hp]
        exact .inl (List.mem_map.mpr ⟨x6, by simp, rfl⟩)
  have hall : ∀ p ∈ wd, (1 ≤ p.1 ∧ p.1 ≤ p.2 ∧ p.2 ≤ 123) ∧ (stp ways p).length ≤ 90 := fun p hp => by
    rcases hmem p hp with h | h
    · have b := hd p h
      have := steps_len ways p.2 (p.2 + 1) 0 p.1
      exact ⟨⟨b.1, b.2.1, by (clear this h hp hmem hwl hwd hd hdr hw htm tm2 tm1 hx0 hcs; lia)⟩, Nat.le_trans this (by (clear this h hp hmem hwl hwd hd hdr hw htm tm2 tm1 hx0 hcs; lia))⟩
    · subst h
      have b := (prN_ok x1).1
      generalize prN x1 = q at b
      have h1 : 1 * q.1 ≤ tm * q.1 := Nat.mul_le_mul_right _ (by (clear b hp hmem hwl hwd hd hdr hw hx0 hcs; omega))
      have h2 : tm * q.1 ≤ tm * q.2 := Nat.mul_le_mul_left _ b.2.1
      have h3 : tm * q.2 ≤ 3 * q.2 := Nat.mul_le_mul_right _ (by (clear h2 h1 b hp hmem hwl hwd hd hdr hw hx0 hcs; omega))
      refine ⟨⟨by show 1 ≤ tm * q.1; (clear h3 h2 hp hmem hwl hwd hd hdr hw htm tm2 tm1 hx0 hcs; lia), h2, by show tm * q.2 ≤ 123; (clear h2 h1 hp hmem hwl hwd hd hdr hw htm tm2 tm1 hx0 hcs; lia)⟩, ?_⟩
      have e := steps_scale ways q.2 tm (by (clear h3 h2 h1 b hp hmem hwl hwd hd hdr hw hx0 hcs; omega)) (tm * q.2 + 1) (q.2 + 1) 0 q.1 (by (clear h3 b hp hmem hwl hwd hd hdr hw htm tm2 tm1 hx0 hcs; lia)) (by (clear h3 h2 h1 hp hmem hwl hwd hd hdr hw htm tm2 tm1 hx0 hcs; lia))
      have e : stp ways (tm * q.1, tm * q.2) = stepsF ways q.2 (q.2 + 1) 0 q.1 := e
      rw [e]
      exact Nat.le_trans (steps_len _ _ _ _ _) (by (clear e h3 h2 h1 hp hmem hwl hwd hd hdr hw htm tm2 tm1 hx0 hcs; lia))
  have hst : ∀ p ∈ wd, stp ways p ≠ [] ∧ (stp ways p).length ≤ 90 ∧ ∀ q ∈ stp ways p, q ≤ 123 := fun p hp => by
    obtain ⟨b, l⟩ := hall p hp
    exact ⟨stp_ne b.1, l, fun q hq => Nat.le_trans (steps_le ways p.2 (by (clear hq l hp hall hmem hwl hwd hd hdr hw htm tm2 tm1 hx0 hcs; lia)) _ _ _ q hq) b.2.2⟩
  have hgm : ∀ i < 7, wd.getD i o0 ∈ wd := fun i hi => by
    rw [List.getD_eq_getElem?_getD, List.getElem?_eq_getElem (by (clear hst hall hmem hwd hd hdr hw htm tm2 tm1 hx0 hcs; lia) : i < wd.length)]; exact List.getElem_mem _
  have hNp : 0 < (wd.map (·.2)).foldr (· * ·) 1 := prod_pos fun x hx => by
    obtain ⟨p, hp, rfl⟩ := List.mem_map.mp hx
    have := (hall p hp).1; (clear hx hp hgm hst hall hmem hwl hwd hd hdr hw htm tm2 tm1 hx0 hcs; lia)
  have hNd : ∀ p ∈ wd, p.2 ∣ (wd.map (·.2)).foldr (· * ·) 1 := fun p hp => prod_dvd (List.mem_map.mpr ⟨p, hp, rfl⟩)
  generalize (wd.map (·.2)).foldr (· * ·) 1 = N at hNp hNd
  have hk : ∀ i < 7, ∀ j < 7, _ := fun i hi j hj => kap (u1 := (wd.getD i o0).1) (u2 := (wd.getD j o0).1) hNp (hNd _ (hgm i hi)) (hNd _ (hgm j hj)) (by have := (hall _ (hgm i hi)).1; (clear hj hi hNd hNp hgm hst hall hmem hwl hwd hd hdr hw htm tm2 tm1 hx0 hcs; lia)) (by have := (hall _ (hgm j hj)).1; (clear hj hi hNd hNp hgm hst hall hmem hwl hwd hd hdr hw htm tm2 tm1 hx0 hcs; lia))
  have ho : ∀ i < 7, ∀ j < 7, _ := fun i hi j hj => word_ord (ways := ways) (hall _ (hgm i hi)).1 (hall _ (hgm j hj)).1 (hst _ (hgm i hi)).2.1 (hst _ (hgm j hj)).2.1 (hst _ (hgm i hi)).2.2 (hst _ (hgm j hj)).2.2
  refine ⟨{ x0, x1, x2, x3, x4, x5, x6, hcs, ways, hw, dr := [x1, x2, x3, x4, x5, x6].map prN, hdr, tm, htm, tm3 := by (clear ho hk hNd hNp hgm hst hall hmem hwl hwd hd hdr hw hx0 hcs; omega), d0 := prN x1, d5 := prN x6, h0 := rfl, h5 := rfl, hdl := rfl, wd, hwd, hwl, hb := fun p hp => (hall p hp).1, hst, hval := fun p hp => ?_, κ := fun i => (wd.getD i o0).1 * (N / (wd.getD i o0).2), hlt := fun i hi j hj => ?_, heq := fun i hi j hj h => ?_, hfl := fun i hi j hj => ?_, hfe := fun i hi j hj => ?_ }⟩
  · have b := (hall p hp).1
    exact value_ok ways p.2 (by (clear hp ho hk hNd hNp hgm hst hall hmem hwl hwd hd hdr hw htm tm2 tm1 hx0 hcs; lia)) (p.2 + 1) 0 p.1 (by (clear hp ho hk hNd hNp hgm hst hall hmem hwl hwd hd hdr hw htm tm2 tm1 hx0 hcs; lia)) b.2.1
  · show _ = decide ((wd.getD i o0).1 * (N / (wd.getD i o0).2) < (wd.getD j o0).1 * (N / (wd.getD j o0).2))
    rw [decide_eq_decide.mpr (hk i hi j hj).1]
    obtain ⟨o1, o2⟩ := ho i hi j hj
    obtain ⟨o3, _⟩ := ho j hj i hi
    rcases Nat.lt_trichotomy ((wd.getD i o0).1 * (wd.getD j o0).2) ((wd.getD j o0).1 * (wd.getD i o0).2) with c | c | c
    · rw [o1 c, decide_eq_true c]
    · rw [o2 c, blt_irr, decide_eq_false (by (clear o3 o2 o1 hj hi ho hk hNd hNp hgm hst hall hmem hwl hwd hd hdr hw htm tm2 tm1 hx0 hcs; omega))]
    · rw [blt_asym _ _ (o3 c), decide_eq_false (by (clear o3 o2 o1 hj hi ho hk hNd hNp hgm hst hall hmem hwl hwd hd hdr hw htm tm2 tm1 hx0 hcs; omega))]
  · exact (ho i hi j hj).2 ((hk i hi j hj).2.mp h)
  · exact decide_eq_decide.mpr (hk i hi j hj).1.symm
  · show _ = ((wd.getD i o0).1 * (N / (wd.getD i o0).2) == (wd.getD j o0).1 * (N / (wd.getD j o0).2))
    rw [Bool.eq_iff_iff, beq_iff_eq, beq_iff_eq]
    exact (hk i hi j hj).2.symm
end Mine
end
section
open PySem PySem.W PyProof.Rows
set_option linter.unusedVariables false
namespace Mine
theorem row_plain {ns : List Int} (f : F2 ns) : (lay6 f.κ).2.2.map (fun j => Dat.bytes ((wsF f).getD j #[])) = (lay6 f.κ).1.map fun j => Dat.bytes ((wsF f).getD j #[]) := by
  obtain ⟨e, h3⟩ := plain_row f.κ
  have h1 := (kf f.κ).r6
  have heq : ∀ i < 6, ∀ j < 6, f.κ i = f.κ j → (wsF f).getD i #[] = (wsF f).getD j #[] := fun i hi j hj h => by
    have w : ∀ k < 7, (wsF f).getD k #[] = wrd f.ways (f.wd.getD k o0) := fun k hk => by
      unfold wsF
      have hk' : k < f.wd.length := by rw [f.hwl]; exact hk
      rw [List.getD_eq_getElem?_getD, List.getElem?_map, List.getD_eq_getElem?_getD, List.getElem?_eq_getElem hk']; rfl
    rw [w i (by (clear w h hj h1 h3 e; lia)), w j (by (clear w h hi h1 h3 e; lia))]
    exact f.heq i (by (clear w h hj h1 h3 e; lia)) j (by (clear w h hi h1 h3 e; lia)) h
  generalize lay6 f.κ = T at *
  have hl : T.2.2.length = T.1.length := by have := congrArg List.length e; rwa [List.length_map, List.length_map] at this
  refine List.ext_getElem (by rw [List.length_map, List.length_map, hl]) fun m a b => ?_
  rw [List.length_map] at a b
  rw [List.getElem_map, List.getElem_map]
  have := congrArg (fun l : List Nat => l[m]?) e
  have this : (T.2.2.map f.κ)[m]? = (T.1.map f.κ)[m]? := this
  rw [List.getElem?_map, List.getElem?_map, List.getElem?_eq_getElem a, List.getElem?_eq_getElem b] at this
  exact congrArg Dat.bytes (heq _ (h3 _ (List.getElem_mem a)) _ (h1 _ (List.getElem_mem b)) (Option.some.inj this))
theorem law_walk (W : Wd) (P : Params) (hW : WL W P) (ns : List Int) (hns : ns.length ≤ 63) (f : F2 ns) : EXL W 200 scLaw [("script", .dat (.list (ns.map .int)))] (execs (bodyOf (fdOf (Mine.hd.heap_39 P) 142))) (.bool true) :=
  law_walkA W P hW ns hns f (law_walkB W P hW ns f (kf f.κ).r6 (row_plain f) (kf f.κ).rl (law_walkC W P hW ns f (kf f.κ) (law_walkD W P hW ns f (kf f.κ))))
end Mine
end
open PySem PySem.W PyProof.Rows
set_option maxRecDepth 100000 in
set_option maxHeartbeats 8000000 in
theorem PySem.Challenge.cw_ta0036_02_holds : PySem.Challenge.rw_ta0036_02.Holds := by
  w_on
  refine Mine.hd (by rfl) (by rfl) (by rfl) ?_
  w_strict k_go0
  refine' Mine.join (sc := Mine.scLaw) ?hb ?s1 ?s2 ?s3 ?s4 ?s5 ?body ?X ?T ?B ?F ?N ?CA ?hl ?hi ?c1 ?c2 ?c3 ?lt ?hQ
  case X => assumption
  case F => assumption
  case CA => assumption
  case N => assumption
  case hl => assumption
  case hi => assumption
  case T => assumption
  case B => assumption
  case c1 => assumption
  case c2 => assumption
  case c3 => assumption
  case lt => assumption
  case hb => rfl
  case s1 => rfl
  case s2 => rfl
  case s3 => rfl
  case s4 => exact fun c hc => by cases hc; rfl
  case s5 => exact fun q hq => by cases hq; rfl
  case body => exact fun W hW => Mine.law_walk W _ hW _ (by lia) (Classical.choice (Mine.facts2 _))
  case hQ =>
    intro m' h' tk' F' G'
    refine ⟨goodW_bool F' (by assumption) (raisesW_false ?_) ?_, G'⟩
    · wrow_none_raised
    · wrow_post
