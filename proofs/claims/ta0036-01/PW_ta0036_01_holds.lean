import PyProof.Rows.All
import Wide.All
import OpenK.AllK
import Wide.FinOn
import PySem.Challenge.RW_ta0036_01
set_option Elab.async false
section
open PySem PySem.W PyProof.Rows
namespace Mine
set_option maxRecDepth 100000
section
open PySem.Calls
/-- the object of the k-th row's def -/
noncomputable def fnO (k c : Nat) (df kw m : Value) : Obj := match (PySem.Challenge.pw_ta0036_01).main.body[k]? with
  | some (.FunctionDef n a b _ _ _ s _ _ _) => ⟨.type "function", none, .func { name := n, qualname := n, params := a, body := .stmts b, scope := s, globals := 3, closure := [], defaults := df, kwdefaults := kw, pyModule := m, code := .ref c }, #[]⟩
  | _ => default
noncomputable def hd.heap_39 (P : Params) : Frag := (nat_lit 3, { cls := Value.type "dict", data := Data.dict #[{ hash := PyData.keyHash P (Str.ofString "__name__"), key := Value.str (Str.ofString "__name__") 165, val := Value.str (Str.ofString "law_ta0036_01") 337 }, { hash := PyData.keyHash P (Str.ofString "__doc__"), key := Value.str (Str.ofString "__doc__") 166, val := Value.none }, { hash := PyData.keyHash P (Str.ofString "__package__"), key := Value.str (Str.ofString "__package__") 167, val := Value.none }, { hash := PyData.keyHash P (Str.ofString "__loader__"), key := Value.str (Str.ofString "__loader__") 168, val := Value.builtin "__main__.__loader__#opaque" }, { hash := PyData.keyHash P (Str.ofString "__spec__"), key := Value.str (Str.ofString "__spec__") 169, val := Value.none }, { hash := PyData.keyHash P (Str.ofString "__annotations__"), key := Value.str (Str.ofString "__annotations__") 170, val := Value.ref 6 }, { hash := PyData.keyHash P (Str.ofString "__builtins__"), key := Value.str (Str.ofString "__builtins__") 171, val := Value.ref 4 }, { hash := PyData.keyHash P (Str.ofString "__file__"), key := Value.str (Str.ofString "__file__") 173, val := Value.str (Str.ofString "/claim/cut.py") 172 }, { hash := PyData.keyHash P (Str.ofString "__cached__"), key := Value.str (Str.ofString "__cached__") 174, val := Value.none }, { hash := PyData.keyHash P (Str.ofString "_DIV_LIMIT"), key := Value.str (Str.ofString "_DIV_LIMIT") 190, val := Value.int 4000 189 }, { hash := PyData.keyHash P (Str.ofString "_div2n1n"), key := Value.str (Str.ofString "_div2n1n") 207, val := Value.ref 21 }, { hash := PyData.keyHash P (Str.ofString "_div3n2n"), key := Value.str (Str.ofString "_div3n2n") 221, val := Value.ref 28 }, { hash := PyData.keyHash P (Str.ofString "_int2digits"), key := Value.str (Str.ofString "_int2digits") 232, val := Value.ref 35 }, { hash := PyData.keyHash P (Str.ofString "_digits2int"), key := Value.str (Str.ofString "_digits2int") 243, val := Value.ref 42 }, { hash := PyData.keyHash P (Str.ofString "_divmod_pos"), key := Value.str (Str.ofString "_divmod_pos") 258, val := Value.ref 49 }, { hash := PyData.keyHash P (Str.ofString "int_divmod"), key := Value.str (Str.ofString "int_divmod") 268, val := Value.ref 56 }, { hash := PyData.keyHash P (Str.ofString "insort_right"), key := Value.str (Str.ofString "insort_right") 283, val := Value.ref 65 }, { hash := PyData.keyHash P (Str.ofString "bisect_right"), key := Value.str (Str.ofString "bisect_right") 297, val := Value.ref 74 }, { hash := PyData.keyHash P (Str.ofString "insort_left"), key := Value.str (Str.ofString "insort_left") 310, val := Value.ref 83 }, { hash := PyData.keyHash P (Str.ofString "bisect_left"), key := Value.str (Str.ofString "bisect_left") 324, val := Value.ref 92 }, { hash := PyData.keyHash P (Str.ofString "Int2AP"), key := Value.str (Str.ofString "Int2AP") 336, val := Value.ref 99 }, { hash := PyData.keyHash P (Str.ofString "_law_cells"), key := Value.str (Str.ofString "_law_cells") 344, val := Value.ref 104 }, { hash := PyData.keyHash P (Str.ofString "_law_coins"), key := Value.str (Str.ofString "_law_coins") 350, val := Value.ref 109 }, { hash := PyData.keyHash P (Str.ofString "_law_paid"), key := Value.str (Str.ofString "_law_paid") 356, val := Value.ref 114 }, { hash := PyData.keyHash P (Str.ofString "_law_run"), key := Value.str (Str.ofString "_law_run") 368, val := Value.ref 121 }, { hash := PyData.keyHash P (Str.ofString "_law_corner"), key := Value.str (Str.ofString "_law_corner") 374, val := Value.ref 126 }, { hash := PyData.keyHash P (Str.ofString "law"), key := Value.str (Str.ofString "law") 380, val := Value.ref 131 }] 27 }) ::
  (nat_lit 20, { cls := Value.type "code", data := Data.fields #[Value.str (Str.ofString "_div2n1n") 191, Value.str (Str.ofString "_div2n1n") 192, Value.str (Str.ofString "/claim/cut.py") 193, Value.int 3 0, Value.int 3 0, Value.int 0 0, Value.int 0 0, Value.int 3 0, Value.ref 15, Value.bool true, Value.int 181 0, Value.ref 16, Value.none, Value.ref 17, Value.ref 18, Value.ref 19, Value.int 205 0, Value.int 3 0, Value.str (Str.ofString "/claim/cut.py") 206] }) ::
  (nat_lit 21, fnO 2 20 (Value.none) (Value.none) (Value.str (Str.ofString "cpy313._pylong") 187)) ::
  (nat_lit 27, { cls := Value.type "code", data := Data.fields #[Value.str (Str.ofString "_div3n2n") 208, Value.str (Str.ofString "_div3n2n") 209, Value.str (Str.ofString "/claim/cut.py") 210, Value.int 19 0, Value.int 6 0, Value.int 0 0, Value.int 0 0, Value.int 3 0, Value.ref 22, Value.bool true, Value.int 181 0, Value.ref 23, Value.none, Value.ref 24, Value.ref 25, Value.ref 26, Value.int 219 0, Value.int 19 0, Value.str (Str.ofString "/claim/cut.py") 220] }) ::
  (nat_lit 28, fnO 3 27 (Value.none) (Value.none) (Value.str (Str.ofString "cpy313._pylong") 187)) ::
  (nat_lit 34, { cls := Value.type "code", data := Data.fields #[Value.str (Str.ofString "_int2digits") 222, Value.str (Str.ofString "_int2digits") 223, Value.str (Str.ofString "/claim/cut.py") 224, Value.int 29 0, Value.int 2 0, Value.int 0 0, Value.int 0 0, Value.int 3 0, Value.ref 29, Value.bool true, Value.int 181 0, Value.ref 30, Value.none, Value.ref 31, Value.ref 32, Value.ref 33, Value.int 230 0, Value.int 29 0, Value.str (Str.ofString "/claim/cut.py") 231] }) ::
  (nat_lit 35, fnO 4 34 (Value.none) (Value.none) (Value.str (Str.ofString "cpy313._pylong") 187)) ::
  (nat_lit 41, { cls := Value.type "code", data := Data.fields #[Value.str (Str.ofString "_digits2int") 233, Value.str (Str.ofString "_digits2int") 234, Value.str (Str.ofString "/claim/cut.py") 235, Value.int 45 0, Value.int 2 0, Value.int 0 0, Value.int 0 0, Value.int 3 0, Value.ref 36, Value.bool true, Value.int 181 0, Value.ref 37, Value.none, Value.ref 38, Value.ref 39, Value.ref 40, Value.int 241 0, Value.int 45 0, Value.str (Str.ofString "/claim/cut.py") 242] }) ::
  (nat_lit 42, fnO 5 41 (Value.none) (Value.none) (Value.str (Str.ofString "cpy313._pylong") 187)) ::
  (nat_lit 48, { cls := Value.type "code", data := Data.fields #[Value.str (Str.ofString "_divmod_pos") 244, Value.str (Str.ofString "_divmod_pos") 245, Value.str (Str.ofString "/claim/cut.py") 246, Value.int 54 0, Value.int 2 0, Value.int 0 0, Value.int 0 0, Value.int 3 0, Value.ref 43, Value.bool true, Value.int 181 0, Value.ref 44, Value.none, Value.ref 45, Value.ref 46, Value.ref 47, Value.int 256 0, Value.int 54 0, Value.str (Str.ofString "/claim/cut.py") 257] }) ::
  (nat_lit 49, fnO 6 48 (Value.none) (Value.none) (Value.str (Str.ofString "cpy313._pylong") 187)) ::
  (nat_lit 55, { cls := Value.type "code", data := Data.fields #[Value.str (Str.ofString "int_divmod") 259, Value.str (Str.ofString "int_divmod") 260, Value.str (Str.ofString "/claim/cut.py") 261, Value.int 65 0, Value.int 2 0, Value.int 0 0, Value.int 0 0, Value.int 3 0, Value.ref 50, Value.bool true, Value.int 181 0, Value.ref 51, Value.none, Value.ref 52, Value.ref 53, Value.ref 54, Value.int 266 0, Value.int 65 0, Value.str (Str.ofString "/claim/cut.py") 267] }) ::
  (nat_lit 56, fnO 7 55 (Value.none) (Value.none) (Value.str (Str.ofString "cpy313._pylong") 187)) ::
  (nat_lit 57, { cls := Value.type "tuple", data := Data.seq #[Value.int 0 271, Value.none] }) ::
  (nat_lit 58, { cls := Value.type "dict", data := Data.dict #[{ hash := PyData.keyHash P (Str.ofString "key"), key := Value.str (Str.ofString "key") 272, val := Value.none }] 1 }) ::
  (nat_lit 64, { cls := Value.type "code", data := Data.fields #[Value.str (Str.ofString "insort_right") 273, Value.str (Str.ofString "insort_right") 274, Value.str (Str.ofString "/claim/cut.py") 275, Value.int 77 0, Value.int 4 0, Value.int 0 0, Value.int 1 0, Value.int 3 0, Value.ref 59, Value.bool true, Value.int 181 0, Value.ref 60, Value.none, Value.ref 61, Value.ref 62, Value.ref 63, Value.int 281 0, Value.int 77 0, Value.str (Str.ofString "/claim/cut.py") 282] }) ::
  (nat_lit 65, fnO 9 64 (Value.ref 57) (Value.ref 58) (Value.str (Str.ofString "cpy313.bisect") 269)) ::
  (nat_lit 66, { cls := Value.type "tuple", data := Data.seq #[Value.int 0 284, Value.none] }) ::
  (nat_lit 67, { cls := Value.type "dict", data := Data.dict #[{ hash := PyData.keyHash P (Str.ofString "key"), key := Value.str (Str.ofString "key") 285, val := Value.none }] 1 }) ::
  (nat_lit 73, { cls := Value.type "code", data := Data.fields #[Value.str (Str.ofString "bisect_right") 286, Value.str (Str.ofString "bisect_right") 287, Value.str (Str.ofString "/claim/cut.py") 288, Value.int 83 0, Value.int 4 0, Value.int 0 0, Value.int 1 0, Value.int 3 0, Value.ref 68, Value.bool true, Value.int 181 0, Value.ref 69, Value.none, Value.ref 70, Value.ref 71, Value.ref 72, Value.int 295 0, Value.int 83 0, Value.str (Str.ofString "/claim/cut.py") 296] }) ::
  (nat_lit 74, fnO 10 73 (Value.ref 66) (Value.ref 67) (Value.str (Str.ofString "cpy313.bisect") 269)) ::
  (nat_lit 75, { cls := Value.type "tuple", data := Data.seq #[Value.int 0 298, Value.none] }) ::
  (nat_lit 76, { cls := Value.type "dict", data := Data.dict #[{ hash := PyData.keyHash P (Str.ofString "key"), key := Value.str (Str.ofString "key") 299, val := Value.none }] 1 }) ::
  (nat_lit 82, { cls := Value.type "code", data := Data.fields #[Value.str (Str.ofString "insort_left") 300, Value.str (Str.ofString "insort_left") 301, Value.str (Str.ofString "/claim/cut.py") 302, Value.int 103 0, Value.int 4 0, Value.int 0 0, Value.int 1 0, Value.int 3 0, Value.ref 77, Value.bool true, Value.int 181 0, Value.ref 78, Value.none, Value.ref 79, Value.ref 80, Value.ref 81, Value.int 308 0, Value.int 103 0, Value.str (Str.ofString "/claim/cut.py") 309] }) ::
  (nat_lit 83, fnO 11 82 (Value.ref 75) (Value.ref 76) (Value.str (Str.ofString "cpy313.bisect") 269)) ::
  (nat_lit 84, { cls := Value.type "tuple", data := Data.seq #[Value.int 0 311, Value.none] }) ::
  (nat_lit 85, { cls := Value.type "dict", data := Data.dict #[{ hash := PyData.keyHash P (Str.ofString "key"), key := Value.str (Str.ofString "key") 312, val := Value.none }] 1 }) ::
  (nat_lit 91, { cls := Value.type "code", data := Data.fields #[Value.str (Str.ofString "bisect_left") 313, Value.str (Str.ofString "bisect_left") 314, Value.str (Str.ofString "/claim/cut.py") 315, Value.int 109 0, Value.int 4 0, Value.int 0 0, Value.int 1 0, Value.int 3 0, Value.ref 86, Value.bool true, Value.int 181 0, Value.ref 87, Value.none, Value.ref 88, Value.ref 89, Value.ref 90, Value.int 322 0, Value.int 109 0, Value.str (Str.ofString "/claim/cut.py") 323] }) ::
  (nat_lit 92, fnO 12 91 (Value.ref 84) (Value.ref 85) (Value.str (Str.ofString "cpy313.bisect") 269)) ::
  (nat_lit 98, { cls := Value.type "code", data := Data.fields #[Value.str (Str.ofString "Int2AP") 327, Value.str (Str.ofString "Int2AP") 328, Value.str (Str.ofString "/claim/cut.py") 329, Value.int 130 0, Value.int 1 0, Value.int 0 0, Value.int 0 0, Value.int 3 0, Value.ref 93, Value.bool true, Value.int 181 0, Value.ref 94, Value.none, Value.ref 95, Value.ref 96, Value.ref 97, Value.int 334 0, Value.int 130 0, Value.str (Str.ofString "/claim/cut.py") 335] }) ::
  (nat_lit 99, fnO 14 98 (Value.none) (Value.none) (Value.str (Str.ofString "cpy313.imaplib") 325)) ::
  (nat_lit 103, { cls := Value.type "code", data := Data.fields #[Value.str (Str.ofString "_law_cells") 339, Value.str (Str.ofString "_law_cells") 340, Value.str (Str.ofString "/claim/cut.py") 341, Value.int 139 0, Value.int 2 0, Value.int 0 0, Value.int 0 0, Value.int 3 0, Value.ref 100, Value.bool true, Value.int 181 0, Value.ref 101, Value.none, Value.none, Value.none, Value.ref 102, Value.int 342 0, Value.int 139 0, Value.str (Str.ofString "/claim/cut.py") 343] }) ::
  (nat_lit 104, fnO 16 103 (Value.none) (Value.none) (Value.str (Str.ofString "law_ta0036_01") 337)) ::
  (nat_lit 108, { cls := Value.type "code", data := Data.fields #[Value.str (Str.ofString "_law_coins") 345, Value.str (Str.ofString "_law_coins") 346, Value.str (Str.ofString "/claim/cut.py") 347, Value.int 142 0, Value.int 1 0, Value.int 0 0, Value.int 0 0, Value.int 3 0, Value.ref 105, Value.bool true, Value.int 181 0, Value.ref 106, Value.none, Value.none, Value.none, Value.ref 107, Value.int 348 0, Value.int 142 0, Value.str (Str.ofString "/claim/cut.py") 349] }) ::
  (nat_lit 109, fnO 17 108 (Value.none) (Value.none) (Value.str (Str.ofString "law_ta0036_01") 337)) ::
  (nat_lit 113, { cls := Value.type "code", data := Data.fields #[Value.str (Str.ofString "_law_paid") 351, Value.str (Str.ofString "_law_paid") 352, Value.str (Str.ofString "/claim/cut.py") 353, Value.int 147 0, Value.int 2 0, Value.int 0 0, Value.int 0 0, Value.int 3 0, Value.ref 110, Value.bool true, Value.int 181 0, Value.ref 111, Value.none, Value.none, Value.none, Value.ref 112, Value.int 354 0, Value.int 147 0, Value.str (Str.ofString "/claim/cut.py") 355] }) ::
  (nat_lit 114, fnO 18 113 (Value.none) (Value.none) (Value.str (Str.ofString "law_ta0036_01") 337)) ::
  (nat_lit 120, { cls := Value.type "code", data := Data.fields #[Value.str (Str.ofString "_law_run") 357, Value.str (Str.ofString "_law_run") 358, Value.str (Str.ofString "/claim/cut.py") 359, Value.int 152 0, Value.int 2 0, Value.int 0 0, Value.int 0 0, Value.int 3 0, Value.ref 115, Value.bool true, Value.int 181 0, Value.ref 116, Value.none, Value.ref 117, Value.ref 118, Value.ref 119, Value.int 366 0, Value.int 152 0, Value.str (Str.ofString "/claim/cut.py") 367] }) ::
  (nat_lit 121, fnO 19 120 (Value.none) (Value.none) (Value.str (Str.ofString "law_ta0036_01") 337)) ::
  (nat_lit 125, { cls := Value.type "code", data := Data.fields #[Value.str (Str.ofString "_law_corner") 369, Value.str (Str.ofString "_law_corner") 370, Value.str (Str.ofString "/claim/cut.py") 371, Value.int 161 0, Value.int 4 0, Value.int 0 0, Value.int 0 0, Value.int 3 0, Value.ref 122, Value.bool true, Value.int 181 0, Value.ref 123, Value.none, Value.none, Value.none, Value.ref 124, Value.int 372 0, Value.int 161 0, Value.str (Str.ofString "/claim/cut.py") 373] }) ::
  (nat_lit 126, fnO 20 125 (Value.none) (Value.none) (Value.str (Str.ofString "law_ta0036_01") 337)) ::
  (nat_lit 130, { cls := Value.type "code", data := Data.fields #[Value.str (Str.ofString "law") 375, Value.str (Str.ofString "law") 376, Value.str (Str.ofString "/claim/cut.py") 377, Value.int 165 0, Value.int 1 0, Value.int 0 0, Value.int 0 0, Value.int 3 0, Value.ref 127, Value.bool true, Value.int 181 0, Value.ref 128, Value.none, Value.none, Value.none, Value.ref 129, Value.int 378 0, Value.int 165 0, Value.str (Str.ofString "/claim/cut.py") 379] }) ::
  (nat_lit 131, fnO 21 130 (Value.none) (Value.none) (Value.str (Str.ofString "law_ta0036_01") 337)) :: []
noncomputable def hd.view_39 : Program := { PySem.Challenge.pw_ta0036_01 with main := { (PySem.Challenge.pw_ta0036_01).main with body := [1, 2, 3, 4, 5, 6, 7, 14, 16, 17, 18, 19, 20, 21].filterMap fun k => (PySem.Challenge.pw_ta0036_01).main.body[k]? } }
noncomputable def hd.loose : List Str := [Str.ofString "insort_right", Str.ofString "bisect_right", Str.ofString "insort_left", Str.ofString "bisect_left"]
theorem hd.at : ∀ P, (3 :: 20 :: 21 :: 27 :: 28 :: 34 :: 35 :: 41 :: 42 :: 48 :: 49 :: 55 :: 56 :: 57 :: 58 :: 64 :: 65 :: 66 :: 67 :: 73 :: 74 :: 75 :: 76 :: 82 :: 83 :: 84 :: 85 :: 91 :: 92 :: 98 :: 99 :: 103 :: 104 :: 108 :: 109 :: 113 :: 114 :: 120 :: 121 :: 125 :: 126 :: 130 :: 131 :: []) = (hd.heap_39 P).map (·.1) := fun _ => by kernel_rfl
noncomputable abbrev hd.hook : Hook := kmHook hd.heap_39 (3 :: 20 :: 21 :: 27 :: 28 :: 34 :: 35 :: 41 :: 42 :: 48 :: 49 :: 55 :: 56 :: 57 :: 58 :: 64 :: 65 :: 66 :: 67 :: 73 :: 74 :: 75 :: 76 :: 82 :: 83 :: 84 :: 85 :: 91 :: 92 :: 98 :: 99 :: 103 :: 104 :: 108 :: 109 :: 113 :: 114 :: 120 :: 121 :: 125 :: 126 :: 130 :: 131 :: []) hd.at [37, 30, 128]
noncomputable abbrev hd.ok (s : Shared) : Bool := xlAt hd.view_39 [] s && recOk (RowW.records (PySem.Challenge.rw_ta0036_01).row.toRowW) s
theorem left_of_run {p q : Program} {loose : List Str} {Xt : Shared → Bool} {α : Type} {Yf : Shared → α} {Ya : World → α} {N : Nat} {g0 : Bool} {m₀ : Nat} {ann : Option Value}
    (op : opening p = plainProg p.main.scope.names) (fen : ∀ s, fenceModules? p s = some s) (hN : Nat.ble 600 N = true)
    (size : ∀ w : World, ((boot_heap w.params).isNs mainGlobals && (Array.mk [] : Array GenState).size == 0, (boot_heap w.params).objs.size, (boot_heap w.params).nsMap mainGlobals "__annotations__") = (true, m₀, ann))
    (run : ∀ (w : World) (os : OsState), (topRun treeTable p w m₀ ann N ⟨boot_heap w.params, Array.mk [], boot_drawn, boot_toks, os⟩ (topStub p)).map (fun s =>
        (staticsOk (importedModules p.main.body) (boot_heap w.params) s.heap && namesBound p s.heap && gensDone s && laidKept (boot_heap w.params) s.heap, openSeen q loose (importedModules p.main.body) Xt g0 s, Yf s)) =
      some (true, openGood q loose, Ya w)) : LeftO p q loose Xt Yf Ya N g0 := fun w => by
  obtain ⟨⟨h, gs, d, k, os⟩, e, e'⟩ := Option.map_eq_some_iff.mp (boot_open (p := p) (N := N) op hN fen w)
  obtain ⟨rfl, rfl, rfl, rfl⟩ : h = boot_heap w.params ∧ gs = Array.mk [] ∧ d = boot_drawn ∧ k = boot_toks := by simpa using e'
  obtain ⟨z1, z2, z3⟩ : _ ∧ _ ∧ _ := by simpa only [Prod.mk.injEq] using size w
  obtain ⟨s, r, r'⟩ := Option.map_eq_some_iff.mp (run w os)
  obtain ⟨l1, l2, l3⟩ : _ ∧ _ ∧ _ := by simpa only [Prod.mk.injEq] using r'
  have t : topFrom treeTable p w N ⟨boot_heap w.params, Array.mk [], boot_drawn, boot_toks, os⟩ = some s := by
    unfold topFrom
    dsimp only
    rw [z1, z2, z3, r]
    show (match staticsOk (importedModules p.main.body) (boot_heap w.params) s.heap && namesBound p s.heap && gensDone s && laidKept (boot_heap w.params) s.heap with | true => _ | false => _) = _
    rw [l1]
  unfold openEnds
  rw [e]
  show (topFrom treeTable p w N _).map _ = _
  rw [t]
  exact congrArg some (Prod.ext l2 l3)
theorem hd.ws : OpenLaw.wellSaid PySem.Challenge.rw_ta0036_01 = true := by
  unfold OpenLaw.wellSaid OpenRow.wellSaid OpenRow.partSaid looksOpen
  rw [PySem.W.Fast.te8326940854005059898, PySem.W.Fast.te17119622794617984870, PySem.W.Fast.te8179353310426384613, PySem.W.Fast.te9558739934217749035, PySem.W.Fast.te16286561074155671207, PySem.W.Fast.te10501279942588096481]
  repeat' (with_reducible apply look_both)
  all_goals decide +kernel
theorem hd.size (w : World) : ((boot_heap w.params).isNs mainGlobals && (Array.mk [] : Array GenState).size == 0, (boot_heap w.params).objs.size, (boot_heap w.params).nsMap mainGlobals "__annotations__") = (true, 11, some (Value.ref 6)) := by kernel_rfl
theorem hd.run (w : World) (os : OsState) : (topRun treeTable PySem.Challenge.pw_ta0036_01 w 11 (some (Value.ref 6)) 1600 ⟨boot_heap w.params, Array.mk [], boot_drawn, boot_toks, os⟩ (topStub PySem.Challenge.pw_ta0036_01)).map (fun s =>
        (staticsOk (importedModules (PySem.Challenge.pw_ta0036_01).main.body) (boot_heap w.params) s.heap && namesBound PySem.Challenge.pw_ta0036_01 s.heap && gensDone s && laidKept (boot_heap w.params) s.heap, openSeen hd.view_39 hd.loose (importedModules (PySem.Challenge.pw_ta0036_01).main.body) hd.ok true s, hd.hook.obs s)) =
      some (true, openGood hd.view_39 hd.loose, hd.hook.val w) := by
  rw [PySem.W.Fast.te14082659384304107361, PySem.W.Fast.te14364793385576792824, PySem.W.Fast.te4187177175401517315]
  kernel_rfl
theorem hd.left : LeftO PySem.Challenge.pw_ta0036_01 hd.view_39 hd.loose hd.ok hd.hook.obs hd.hook.val 1600 :=
  left_of_run (by rfl) (fun _ => by rfl) (by rfl) hd.size hd.run
end
theorem hd {d : DefRec} {kwd : List (Str × Expr)} (hdef : defOf hd.view_39 (PySem.Challenge.rw_ta0036_01).row.name = some (d, kwd)) (hp : (PySem.Challenge.rw_ta0036_01).row.prog.theDef (PySem.Challenge.rw_ta0036_01).row.name = some (d.params, d.body, d.scope)) (hk : kwWritten? d.params.kwonlyargs d.params.kw_defaults = some kwd)
    (h : WalkO hd.view_39 hd.loose (XL hd.view_39 []) (kmHook hd.heap_39 (3 :: 20 :: 21 :: 27 :: 28 :: 34 :: 35 :: 41 :: 42 :: 48 :: 49 :: 55 :: 56 :: 57 :: 58 :: 64 :: 65 :: 66 :: 67 :: 73 :: 74 :: 75 :: 76 :: 82 :: 83 :: 84 :: 85 :: 91 :: 92 :: 98 :: 99 :: 103 :: 104 :: 108 :: 109 :: 113 :: 114 :: 120 :: 121 :: 125 :: 126 :: 130 :: 131 :: []) hd.at [37, 30, 128]).says (PySem.Challenge.rw_ta0036_01).row.toRowW d kwd fun f vs => PySem.call f vs) : (PySem.Challenge.rw_ta0036_01).Holds := by
  refine holds_law hd.ws fun said => ?_
  refine holds_open (r := (PySem.Challenge.rw_ta0036_01).row) (q := hd.view_39) (loose := hd.loose) (Xt := hd.ok) (XP := XL hd.view_39 []) (Yf := hd.hook.obs) (Ya := hd.hook.val) (YP := hd.hook.says) (N := 1600) hd.left hd.hook.of hd.hook.keeps (fun s e => xl_of s (Bool.and_eq_true_iff.mp e).1) XL.keeps hdef hp hk (fun s e => recFacts_of (Bool.and_eq_true_iff.mp e).2) (by rfl) said (by decide +kernel) ⟨rfl, rfl, rfl, rfl, rfl, by decide +kernel⟩ ?hw h
  w_witness2
end Mine
end
section
open PySem PySem.W PyProof.Rows
namespace Mine
open PySem.Calls PySem.Spec

noncomputable abbrev Led := List (Addr × Obj)
/-- a fact of the ground or of the ledger -/
noncomputable def Hs (h₀ : Heap) (fz : Led) (a : Addr) (o : Obj) : Prop := h₀.get? a = some o ∨ (a, o) ∈ fz
noncomputable abbrev Fact := Addr → Obj → Prop
noncomputable def FSub (X Y : Fact) : Prop := ∀ a o, X a o → Y a o
theorem FSub.refl (X : Fact) : FSub X X := fun _ _ h => h
theorem FSub.trans {X Y Z : Fact} (a : FSub X Y) (b : FSub Y Z) : FSub X Z := fun _ _ h => b _ _ (a _ _ h)
noncomputable def Sub (l l' : Led) : Prop := ∀ p ∈ l, p ∈ l'
theorem Sub.refl (l : Led) : Sub l l := fun _ h => h
theorem Sub.trans {a b c : Led} (x : Sub a b) (y : Sub b c) : Sub a c := fun _ h => y _ (x _ h)
theorem Sub.cons {p : Addr × Obj} {l : Led} : Sub l (p :: l) := fun _ h => .tail _ h
theorem Hs.mono {h₀ g : Heap} {fz fz' : Led} (k : ∀ b o, h₀.get? b = some o → g.get? b = some o) (s : Sub fz fz') : FSub (Hs h₀ fz) (Hs g fz') :=
  fun _ _ h => h.imp (k _ _) (s _)
theorem Hs.sub {h₀ : Heap} {fz fz' : Led} (s : Sub fz fz') : FSub (Hs h₀ fz) (Hs h₀ fz') := Hs.mono (fun _ _ e => e) s

mutual
/-- a value bears a datum, by facts -/
inductive Rep (X : Fact) : Value → Dat → Prop
  | none : Rep X .none .none
  | bool (b : Bool) : Rep X (.bool b) (.bool b)
  | int (i : Int) (t : Tok) : Rep X (.int i t) (.int i)
  | str (x : Str) (t : Tok) : Rep X (.str x t) (.str x)
  | bytes (b : Array UInt8) (t : Tok) : Rep X (.bytes b t) (.bytes b)
  | tuple {a : Addr} {o : Obj} {vs : List Value} {n : Nat} {ds : List Dat} : X a o → o.cls = .type "tuple" → o.data = .seq vs.toArray n → RepA X vs ds → Rep X (.ref a) (.tuple ds)
  | list {a : Addr} {o : Obj} {vs : List Value} {n : Nat} {ds : List Dat} : X a o → o.cls = .type "list" → o.data = .seq vs.toArray n → RepA X vs ds → Rep X (.ref a) (.list ds)
inductive RepA (X : Fact) : List Value → List Dat → Prop
  | nil : RepA X [] []
  | cons {v : Value} {vs : List Value} {d : Dat} {ds : List Dat} : Rep X v d → RepA X vs ds → RepA X (v :: vs) (d :: ds)
end
mutual
theorem Rep.mono {X Y : Fact} (s : FSub X Y) : ∀ {v : Value} {d : Dat}, Rep X v d → Rep Y v d
  | _, _, .none => .none
  | _, _, .bool b => .bool b
  | _, _, .int i t => .int i t
  | _, _, .str x t => .str x t
  | _, _, .bytes b t => .bytes b t
  | _, _, .tuple h c d r => .tuple (s _ _ h) c d (RepA.mono s r)
  | _, _, .list h c d r => .list (s _ _ h) c d (RepA.mono s r)
theorem RepA.mono {X Y : Fact} (s : FSub X Y) : ∀ {vs : List Value} {ds : List Dat}, RepA X vs ds → RepA Y vs ds
  | _, _, .nil => .nil
  | _, _, .cons h r => .cons (Rep.mono s h) (RepA.mono s r)
end
section
variable {X : Fact} {v : Value} {d : Dat} {vs ws : List Value} {ds es : List Dat}
theorem RepA.length (h : RepA X vs ds) : vs.length = ds.length := by
  induction vs generalizing ds with
  | nil => cases h; rfl
  | cons v vs ih => cases h with | cons _ r => rw [List.length_cons, List.length_cons, ih r]
theorem RepA.append (h : RepA X vs ds) (k : RepA X ws es) : RepA X (vs ++ ws) (ds ++ es) := by
  induction vs generalizing ds with
  | nil => cases h; exact k
  | cons v vs ih => cases h with | cons h r => exact .cons h (ih r)
theorem RepA.inv2 {a b : Dat} (h : RepA X vs [a, b]) : ∃ v1 v2, vs = [v1, v2] ∧ Rep X v1 a ∧ Rep X v2 b := by
  cases h with
  | cons r1 h =>
  cases h with
  | cons r2 h => cases h; exact ⟨_, _, rfl, r1, r2⟩
theorem RepA.inv3 {a b c : Dat} (h : RepA X vs [a, b, c]) : ∃ v1 v2 v3, vs = [v1, v2, v3] ∧ Rep X v1 a ∧ Rep X v2 b ∧ Rep X v3 c := by
  cases h with
  | cons r1 h => obtain ⟨v2, v3, rfl, r2, r3⟩ := h.inv2; exact ⟨_, _, _, rfl, r1, r2, r3⟩
theorem Rep.tup (h : Rep X v (.tuple ds)) : ∃ l o vs n, v = .ref l ∧ X l o ∧ o.cls = .type "tuple" ∧ o.data = .seq (List.toArray vs) n ∧ RepA X vs ds := by
  cases h with
  | tuple a b c d => exact ⟨_, _, _, _, rfl, a, b, c, d⟩
theorem RepA.one (h : Rep X v d) : RepA X [v] [d] := .cons h .nil
theorem RepA.get (h : RepA X vs ds) {k : Nat} {d : Dat} (hk : ds[k]? = some d) : ∃ v, vs[k]? = some v ∧ Rep X v d := by
  induction vs generalizing ds k with
  | nil => cases h; simp at hk
  | cons v vs ih =>
    cases h with
    | cons h r =>
      cases k with
      | zero => simp at hk; subst hk; exact ⟨v, rfl, h⟩
      | succ k => simpa using ih r (by simpa using hk)
theorem RepA.get' (h : RepA X vs ds) {k : Nat} {v : Value} (hk : vs[k]? = some v) : ∃ d, ds[k]? = some d ∧ Rep X v d := by
  have hl : k < ds.length := by
    have := (List.getElem?_eq_some_iff.mp hk).1
    rw [← h.length]; exact this
  obtain ⟨v', e, r⟩ := h.get (List.getElem?_eq_getElem hl)
  rw [hk] at e; cases e
  exact ⟨_, List.getElem?_eq_getElem hl, r⟩
theorem RepA.of_get (hl : vs.length = ds.length) (h : ∀ (k : Nat) (v : Value) (d : Dat), vs[k]? = some v → ds[k]? = some d → Rep X v d) : RepA X vs ds := by
  induction vs generalizing ds with
  | nil => cases ds with
    | nil => exact .nil
    | cons _ _ => simp at hl
  | cons v vs ih => cases ds with
    | nil => simp at hl
    | cons d ds => exact .cons (h 0 v d rfl rfl) (ih (by simpa using hl) fun (k : Nat) (v : Value) (d : Dat) a b => h (k + 1) v d (by simpa using a) (by simpa using b))
theorem RepA.take (h : RepA X vs ds) (k : Nat) : RepA X (vs.take k) (ds.take k) := by
  induction vs generalizing ds k with
  | nil => cases h; simpa using RepA.nil
  | cons v vs ih => cases h with
    | cons h r => cases k with
      | zero => exact .nil
      | succ k => exact .cons h (ih r k)
theorem RepA.drop (h : RepA X vs ds) (k : Nat) : RepA X (vs.drop k) (ds.drop k) := by
  induction vs generalizing ds k with
  | nil => cases h; simpa using RepA.nil
  | cons v vs ih => cases h with
    | cons h r => cases k with
      | zero => exact .cons h r
      | succ k => exact ih r k
theorem RepA.reverse (h : RepA X vs ds) : RepA X vs.reverse ds.reverse := by
  induction vs generalizing ds with
  | nil => cases h; exact .nil
  | cons v vs ih => cases h with
    | cons h r => rw [List.reverse_cons, List.reverse_cons]; exact (ih r).append (.one h)
theorem RepA.ints {ns : List Int} (h : RepA X vs (ns.map Dat.int)) : IntsAre vs ns := by
  induction vs generalizing ns with
  | nil => cases ns with
    | nil => exact .nil
    | cons _ _ => cases h
  | cons v vs ih => cases ns with
    | nil => cases h
    | cons n ns => cases h with
      | cons h r => cases h; exact .cons _ _ (ih r)
theorem RepA.of_ints {ns : List Int} (h : IntsAre vs ns) : RepA X vs (ns.map Dat.int) := by
  induction h with
  | nil => exact .nil
  | cons n t _ ih => exact .cons (.int n t) ih
end

structure Ld (h₀ : Heap) (L : Addr) (h : Heap) (l : Led) : Prop where
  news : News h₀ L h l
  nodup : (l.map (·.1)).Nodup

noncomputable def setL (l : Led) (d : Addr) (o' : Obj) : Led := l.map fun p => if p.1 = d then (d, o') else p
theorem setL_fst (l : Led) (d : Addr) (o' : Obj) : (setL l d o').map (·.1) = l.map (·.1) := by
  unfold setL
  rw [List.map_map]
  refine List.map_congr_left fun p _ => ?_
  show (if p.1 = d then (d, o') else p).1 = p.1
  split
  · rename_i h; exact h.symm
  · rfl
theorem setL_append (l k : Led) (d : Addr) (o' : Obj) : setL (l ++ k) d o' = setL l d o' ++ setL k d o' := List.map_append ..
theorem setL_off {l : Led} {d : Addr} {o' : Obj} (h : ∀ p ∈ l, p.1 ≠ d) : setL l d o' = l := by
  unfold setL
  conv => rhs; rw [← List.map_id l]
  refine List.map_congr_left fun p hp => ?_
  rw [if_neg (h p hp)]; rfl
theorem mem_setL_ne {l : Led} {d : Addr} {o' : Obj} {p : Addr × Obj} (h : p ∈ l) (hn : p.1 ≠ d) : p ∈ setL l d o' :=
  List.mem_map.mpr ⟨p, h, if_neg hn⟩
theorem mem_setL_self {l : Led} {d : Addr} {o o' : Obj} (h : (d, o) ∈ l) : (d, o') ∈ setL l d o' :=
  List.mem_map.mpr ⟨_, h, if_pos rfl⟩
theorem of_mem_setL {l : Led} {d : Addr} {o' : Obj} {p : Addr × Obj} (h : p ∈ setL l d o') : p = (d, o') ∨ (p ∈ l ∧ p.1 ≠ d) := by
  obtain ⟨q, hq, e⟩ := List.mem_map.mp h
  by_cases hd : q.1 = d
  · rw [if_pos hd] at e; exact .inl e.symm
  · rw [if_neg hd] at e; subst e; exact .inr ⟨hq, hd⟩

section
variable {h₀ h h' : Heap} {L : Addr} {m m' : Str → Option Value} {l l' : Led}
theorem Ld.perm (x : Ld h₀ L h l) (p : l.Perm l') : Ld h₀ L h l' :=
  ⟨fun q hq => x.news q (p.mem_iff.mpr hq), (p.map _).nodup_iff.mp x.nodup⟩
theorem Ld.sublist (x : Ld h₀ L h l) (p : l'.Sublist l) : Ld h₀ L h l' :=
  ⟨fun q hq => x.news q (p.subset hq), (p.map _).nodup x.nodup⟩
theorem Ld.grown (x : Ld h₀ L h l) (k : ∀ b o, h.get? b = some o → h'.get? b = some o) : Ld h₀ L h' l := ⟨x.news.grown k, x.nodup⟩
theorem Ld.sameBut (x : Ld h₀ L h l) (k : Heap.SameBut L h h') : Ld h₀ L h' l := ⟨x.news.set k, x.nodup⟩
theorem Ld.add {D : Addr} {o : Obj} (F : Fr h₀ L h m) (x : Ld h₀ L h l) (k : ∀ b o, h.get? b = some o → h'.get? b = some o) (hD : h.get? D = none) (ho : h'.get? D = some o) : Ld h₀ L h' ((D, o) :: l) := by
  have nb : ∀ b, (∃ o, h.get? b = some o) → D ≠ b := fun b ⟨o, e⟩ q => by rw [q, e] at hD; cases hD
  refine ⟨fun q hq => ?_, ?_⟩
  · rcases List.mem_cons.mp hq with rfl | hq
    · refine ⟨ho, nb L (by obtain ⟨oL, _, _, e, _⟩ := F.ns; exact ⟨oL, e⟩), ?_⟩
      cases e : h₀.get? D with
      | none => rfl
      | some o' => rw [F.keep _ _ e] at hD; cases hD
    · exact x.news.grown k q hq
  · rw [List.map_cons, List.nodup_cons]
    refine ⟨fun hm => ?_, x.nodup⟩
    obtain ⟨q, hq, e⟩ := List.mem_map.mp hm
    exact nb q.1 ⟨_, (x.news q hq).1⟩ e.symm
theorem Ld.set {d : Addr} {o o' : Obj} (F : Fr h₀ L h m) (x : Ld h₀ L h l) (hm : (d, o) ∈ l) (hs : ∀ b o, b ≠ d → h.get? b = some o → h'.get? b = some o) (ho : h'.get? d = some o') : Fr h₀ L h' m ∧ Ld h₀ L h' (setL l d o') := by
  have D := x.news _ hm
  refine ⟨⟨F.ns.at' fun o e => hs _ _ (Ne.symm D.2.1) e, fun b ob e => hs b ob (fun q => ?_) (F.keep b ob e), F.above⟩, fun q hq => ?_, ?_⟩
  · rw [q, D.2.2] at e; cases e
  · rcases of_mem_setL hq with rfl | ⟨hq, hn⟩
    · exact ⟨ho, D.2⟩
    · exact ⟨hs _ _ hn (x.news q hq).1, (x.news q hq).2⟩
  · rw [setL_fst]; exact x.nodup
end

/-- what stands for the whole proof -/
structure Wd where
  prog : Program
  w : World
  K : Frag
  base : Heap
  kb : K.In base
  p : Program
  loose : List Str
  mean : ExcName → Option Value
  mg : Str → Option Value
  mb : Str → Option Value
  tb : Top p loose mean mg mb base
  Gl : Led → Fact → Prop
  glMono : ∀ {g X Y}, FSub X Y → Gl g X → Gl g Y
  glDrop : ∀ {g : Led} {X Y : Fact}, (∀ a o, X a o → Y a o ∨ ∃ (vs : Array Value) (n : Nat), o.data = .seq vs n) → Gl g X → Gl g Y

/-- the state of a frame -/
structure SS (W : Wd) (h₀ : Heap) (L : Addr) (m : Str → Option Value) (mu fz : Led) (h : Heap) : Prop where
  fr : Fr h₀ L h m
  led : ∃ gl, W.Gl gl (Hs W.base fz) ∧ Ld h₀ L h (gl ++ (mu ++ fz))
  bs : ∀ b o, W.base.get? b = some o → h₀.get? b = some o

section
variable {W : Wd} {h₀ h h' : Heap} {L : Addr} {m m' : Str → Option Value} {mu fz fz' : Led}
theorem SS.news (x : SS W h₀ L m mu fz h) : ∀ p ∈ mu ++ fz, h.get? p.1 = some p.2 := by
  obtain ⟨_, ⟨gl, _, l⟩, _⟩ := x
  exact fun p hp => (l.news p (List.mem_append_right _ hp)).1
theorem SS.has {a : Addr} {o : Obj} (x : SS W h₀ L m mu fz h) (e : Hs W.base fz a o) : h.get? a = some o :=
  e.elim (fun q => x.fr.keep _ _ (x.bs _ _ q)) fun q => x.news _ (List.mem_append_right _ q)
theorem SS.ofMu {a : Addr} {o : Obj} (x : SS W h₀ L m mu fz h) (e : (a, o) ∈ mu) : h.get? a = some o := x.news _ (List.mem_append_left _ e)
/-- the heap has grown, nothing was told -/
theorem SS.grown (x : SS W h₀ L m mu fz h) (k : ∀ b o, h.get? b = some o → h'.get? b = some o) : SS W h₀ L m mu fz h' := by
  obtain ⟨F, ⟨gl, g, l⟩, bs⟩ := x
  exact ⟨F.keeps k, ⟨gl, g, l.grown k⟩, bs⟩
/-- a new thing that will not be turned -/
theorem SS.add {D : Addr} {o : Obj} (x : SS W h₀ L m mu fz h) (k : ∀ b o, h.get? b = some o → h'.get? b = some o) (hD : h.get? D = none) (ho : h'.get? D = some o) : SS W h₀ L m mu ((D, o) :: fz) h' := by
  obtain ⟨F, ⟨gl, g, l⟩, bs⟩ := x
  refine ⟨F.keeps k, ⟨gl, W.glMono (Hs.sub .cons) g, (l.add F k hD ho).perm ?_⟩, bs⟩
  rw [← List.append_assoc, ← List.append_assoc]
  exact List.perm_middle.symm
theorem SS.push (x : SS W h₀ L m mu fz h) (o : Obj) (hf : o.isFreed = false := by rfl) : SS W h₀ L m mu ((h.objs.size, o) :: fz) (h.push o) := by
  refine x.add (fun b o' e => Heap.get?_push_of_some _ e) ?_ (Heap.get?_push_size _ hf)
  cases e : h.get? h.objs.size with
  | none => rfl
  | some o' => exact absurd (Heap.lt_size e) (Nat.lt_irrefl _)
/-- a new thing that may be turned -/
theorem SS.addMu {D : Addr} {o : Obj} (x : SS W h₀ L m mu fz h) (k : ∀ b o, h.get? b = some o → h'.get? b = some o) (hD : h.get? D = none) (ho : h'.get? D = some o) : SS W h₀ L m ((D, o) :: mu) fz h' := by
  obtain ⟨F, ⟨gl, g, l⟩, bs⟩ := x
  refine ⟨F.keeps k, ⟨gl, g, (l.add F k hD ho).perm ?_⟩, bs⟩
  exact List.perm_middle.symm
theorem SS.pushMu (x : SS W h₀ L m mu fz h) (o : Obj) (hf : o.isFreed = false := by rfl) : SS W h₀ L m ((h.objs.size, o) :: mu) fz (h.push o) := by
  refine x.addMu (fun b o' e => Heap.get?_push_of_some _ e) ?_ (Heap.get?_push_size _ hf)
  cases e : h.get? h.objs.size with
  | none => rfl
  | some o' => exact absurd (Heap.lt_size e) (Nat.lt_irrefl _)
theorem SS.perm {mu' : Led} (x : SS W h₀ L m mu fz h) (p : mu.Perm mu') : SS W h₀ L m mu' fz h := by
  obtain ⟨F, ⟨gl, g, l⟩, bs⟩ := x
  exact ⟨F, ⟨gl, g, l.perm ((p.append_right _).append_left _)⟩, bs⟩
theorem SS.sublist {mu' : Led} (x : SS W h₀ L m mu fz h) (p : mu'.Sublist mu) : SS W h₀ L m mu' fz h := by
  obtain ⟨F, ⟨gl, g, l⟩, bs⟩ := x
  exact ⟨F, ⟨gl, g, l.sublist ((p.append_right _).append_left _)⟩, bs⟩
/-- what will not be turned any more -/
theorem SS.freeze {p : Addr × Obj} (x : SS W h₀ L m (p :: mu) fz h) : SS W h₀ L m mu (p :: fz) h := by
  obtain ⟨F, ⟨gl, g, l⟩, bs⟩ := x
  exact ⟨F, ⟨gl, W.glMono (Hs.sub .cons) g, l.perm (List.Perm.append_left _ List.perm_middle.symm)⟩, bs⟩
theorem SS.set {d : Addr} {o o' : Obj} (x : SS W h₀ L m mu fz h) (hm : (d, o) ∈ mu) (hs : ∀ b o, b ≠ d → h.get? b = some o → h'.get? b = some o) (ho : h'.get? d = some o') : SS W h₀ L m (setL mu d o') fz h' := by
  obtain ⟨F, ⟨gl, g, l⟩, bs⟩ := x
  obtain ⟨F', l'⟩ := l.set F (List.mem_append_right _ (List.mem_append_left _ hm)) hs ho
  refine ⟨F', ⟨gl, g, ?_⟩, bs⟩
  rw [setL_append, setL_append] at l'
  have nd := l.nodup
  rw [List.map_append, List.map_append, List.nodup_append] at nd
  obtain ⟨n1, n2, n3⟩ := nd
  rw [List.nodup_append] at n2
  have hd : d ∈ mu.map (·.1) := List.mem_map.mpr ⟨_, hm, rfl⟩
  have e1 : setL gl d o' = gl := setL_off fun p hp q => n3 p.1 (List.mem_map.mpr ⟨p, hp, rfl⟩) d (List.mem_append_left _ hd) q
  have e2 : setL fz d o' = fz := setL_off fun p hp q => n2.2.2 d hd p.1 (List.mem_map.mpr ⟨p, hp, rfl⟩) q.symm
  rw [e1, e2] at l'
  exact l'
theorem SS.store (x : SS W h₀ L m mu fz h) (F : Fr h₀ L h' m') (hs : Heap.SameBut L h h') : SS W h₀ L m' mu fz h' := by
  obtain ⟨_, ⟨gl, g, l⟩, bs⟩ := x
  exact ⟨F, ⟨gl, g, l.sameBut hs⟩, bs⟩
theorem SS.ne {p q : Addr × Obj} (x : SS W h₀ L m mu fz h) (hp : p ∈ mu) (hq : q ∈ fz) : p.1 ≠ q.1 := by
  obtain ⟨_, ⟨gl, g, l⟩, bs⟩ := x
  have nd := l.nodup
  rw [List.map_append, List.map_append, List.nodup_append] at nd
  obtain ⟨n1, n2, n3⟩ := nd
  rw [List.nodup_append] at n2
  exact n2.2.2 p.1 (List.mem_map.mpr ⟨p, hp, rfl⟩) q.1 (List.mem_map.mpr ⟨q, hq, rfl⟩)
theorem SS.neL {p : Addr × Obj} (x : SS W h₀ L m mu fz h) (hp : p ∈ mu ++ fz) : p.1 ≠ L := by
  obtain ⟨_, ⟨gl, g, l⟩, bs⟩ := x
  exact (l.news p (List.mem_append_right _ hp)).2.1
theorem SS.nodupMu (x : SS W h₀ L m mu fz h) : (mu.map (·.1)).Nodup := by
  obtain ⟨_, ⟨gl, g, l⟩, bs⟩ := x
  have nd := l.nodup
  rw [List.map_append, List.map_append, List.nodup_append] at nd
  exact (List.nodup_append.mp nd.2.1).1
theorem SS.inj {a : Addr} {o o' : Obj} (x : SS W h₀ L m mu fz h) (h1 : (a, o) ∈ mu ++ fz) (h2 : (a, o') ∈ mu ++ fz) : o = o' := by
  have := x.news _ h1; rw [x.news _ h2] at this; exact (Option.some.inj this).symm
theorem SS.setLoc {loc : Led} {d : Addr} {o o' : Obj} (x : SS W h₀ L m (loc ++ mu) fz h) (hm : (d, o) ∈ loc) (hs : ∀ b o, b ≠ d → h.get? b = some o → h'.get? b = some o) (ho : h'.get? d = some o') : SS W h₀ L m (setL loc d o' ++ mu) fz h' := by
  have y := x.set (List.mem_append_left _ hm) hs ho
  rw [setL_append] at y
  have nd := x.nodupMu
  rw [List.map_append, List.nodup_append] at nd
  have e : setL mu d o' = mu := setL_off fun p hp q => nd.2.2 d (List.mem_map.mpr ⟨_, hm, rfl⟩) p.1 (List.mem_map.mpr ⟨p, hp, rfl⟩) q.symm
  rwa [e] at y
/-- one thing is let go of, whatever became of it -/
theorem SS.drop {p : Addr × Obj} (x : SS W h₀ L m (p :: mu) fz h) (hs : ∀ b o, b ≠ p.1 → h.get? b = some o → h'.get? b = some o) : SS W h₀ L m mu fz h' := by
  have hne : ∀ q ∈ mu ++ fz, q.1 ≠ p.1 := by
    obtain ⟨_, ⟨gl, g, l⟩, bs⟩ := x
    have nd := (l.sublist (List.sublist_append_right gl _)).nodup
    rw [List.cons_append, List.map_cons, List.nodup_cons] at nd
    exact fun q hq e => nd.1 (List.mem_map.mpr ⟨q, hq, e⟩)
  have hb : ∀ b o, h₀.get? b = some o → b ≠ p.1 := by
    obtain ⟨_, ⟨gl, g, l⟩, bs⟩ := x
    intro b o e q
    have := (l.news p (List.mem_append_right _ (.head _))).2.2
    rw [← q, e] at this; cases this
  have hg : ∃ gl, W.Gl gl (Hs W.base fz) ∧ Ld h₀ L h (gl ++ (mu ++ fz)) ∧ ∀ q ∈ gl, q.1 ≠ p.1 := by
    obtain ⟨_, ⟨gl, g, l⟩, bs⟩ := x
    refine ⟨gl, g, l.sublist ((List.sublist_cons_self _ _).append_left _), fun q hq e => ?_⟩
    have nd := l.nodup
    rw [List.map_append, List.nodup_append] at nd
    exact nd.2.2 q.1 (List.mem_map.mpr ⟨q, hq, rfl⟩) p.1 (by simp) e
  obtain ⟨gl, g, l, hgl⟩ := hg
  refine ⟨⟨x.fr.ns.at' fun o e => hs _ _ (fun q => x.neL (p := p) (by simp) q.symm) e, fun b o e => hs b o (hb b o e) (x.fr.keep b o e), x.fr.above⟩, ⟨gl, g, fun q hq => ?_, l.nodup⟩, x.bs⟩
  have hq' : q.1 ≠ p.1 := (List.mem_append.mp hq).elim (hgl q) (hne q)
  exact ⟨hs _ _ hq' (l.news q hq).1, (l.news q hq).2⟩
theorem SS.below {p : Addr × Obj} (x : SS W h₀ L m mu fz h) (hp : p ∈ mu ++ fz) : p.1 < h.objs.size := Heap.lt_size (x.news p hp)
end
end Mine
end
section
open PySem PySem.W PyProof.Rows
namespace Mine
open PySem.Calls PySem.Spec

/-- the room and the frames around an evaluation -/
structure AOk (W : Wd) (lv : Nat) (A : Around) (h₀ : Heap) (fenv : Env) (L : Addr) : Prop where
  hh : A.handled = none
  fr : ∃ outer A₀, A.frames = some (fenv :: outer) ∧ Below A₀ W.base outer h₀
  hf : fenv.frame = some L
  hk : fenv.scope.kind = .function
  dp : A.depth + lv < recursionLimit
  un : A.units + (16 * lv + 64) < cLine
  K : W.K.In h₀
  T : Top W.p W.loose W.mean W.mg W.mb h₀
theorem AOk.less {W : Wd} {lv lv' : Nat} {A : Around} {h₀ : Heap} {fenv : Env} {L : Addr} (x : AOk W lv A h₀ fenv L) (h : lv' ≤ lv) : AOk W lv' A h₀ fenv L :=
  { x with dp := by have := x.dp; (clear x; lia), un := by have := x.un; (clear x; lia) }

/-- an environment under the names of a written scope -/
structure EnvOk (env : Env) (sc : Scope) : Prop where
  kind : env.scope.kind = .function
  glob : env.globals = mainGlobals
  blt : env.builtins = builtinsNs
  gl : ∀ n, sc.names.lookup n = some .globalImplicit → env.kindOf n = some .globalImplicit
  cells : ∀ n k, sc.names.lookup n = some k → (k = .cell ∨ k = .free) → (env.kindOf n = some .cell ∨ env.kindOf n = some .free) ∧ (env.cells.lookup n).isSome = true
  inj : ∀ x y c, env.cells.lookup x = some c → env.cells.lookup y = some c → x = y
  code : ∀ c, sc.more.lookup ("@code" : Str) = some (.int c) → env.code = .ref c.toNat
  qual : ∀ q, sc.more.lookup ("@qual" : Str) = some (.str q) → env.qual = q
  lc : ∀ n, sc.names.lookup n = some .local → env.kindOf n = some .local

noncomputable def ObjNs (o : Obj) (mm : Str → Option Value) : Prop := ∃ es ep, o.data = .dict es ep ∧ StrKeys es ∧ ∀ name, nsFind es name = mm name
theorem ObjNs.ns {o : Obj} {mm : Str → Option Value} {h : Heap} {a : Addr} (x : ObjNs o mm) (e : h.get? a = some o) : h.Ns a mm := let ⟨es, ep, r⟩ := x; ⟨o, es, ep, e, r⟩
theorem ObjNs.of {h : Heap} {a : Addr} {mm : Str → Option Value} (x : h.Ns a mm) : ∃ o, h.get? a = some o ∧ ObjNs o mm := let ⟨o, es, ep, e, r⟩ := x; ⟨o, e, es, ep, r⟩

/-- what a name gives -/
inductive Loads (env : Env) (L : Addr) (m : Str → Option Value) (N : Led) (x : Str) : Value → Prop
  | here {v : Value} : env.locals = L → env.kindOf x = some .local → m x = some v → Loads env L m N x v
  | block {o : Obj} {mm : Str → Option Value} {v : Value} : env.kindOf x = some .local → (env.locals, o) ∈ N → ObjNs o mm → mm x = some v → Loads env L m N x v
  | cell {c : Addr} {o : Obj} {v : Value} : (env.kindOf x = some .cell ∨ env.kindOf x = some .free) → env.cells.lookup x = some c → (c, o) ∈ N → o.data = .cell (some v) → Loads env L m N x v
theorem Loads.mono {env : Env} {L : Addr} {m : Str → Option Value} {N N' : Led} {x : Str} {v : Value} (s : Sub N N') : Loads env L m N x v → Loads env L m N' x v
  | .here a b c => .here a b c
  | .block a b c d => .block a (s _ b) c d
  | .cell a b c d => .cell a b (s _ c) d
noncomputable def PlainName (x : Str) : Prop := (x == ("__debug__" : Str)) = false ∧ (x == ("__classdict__" : Str)) = false

/-- the answer of an evaluation -/
noncomputable def Cont (W : Wd) (h₀ : Heap) (L : Addr) (m : Str → Option Value) (mu fz : Led) (s : Shared) (P : Fact → Value → Prop) (Q : Value → Shared → Prop) : Prop :=
  ∀ v fz' h' tk', Sub fz fz' → SS W h₀ L m mu fz' h' → P (Hs W.base fz') v → Q v { s with heap := h', toks := tk' }

/-- a function value that gives F of its arguments -/
noncomputable def CallOk (W : Wd) (lv : Nat) (X : Fact) (v : Value) (F : List Dat → Option Dat) : Prop :=
  ∃ a o fd, v = .ref a ∧ X a o ∧ o.data = .func fd ∧
    ∀ (A : Around) (h₀ : Heap) (fenv : Env) (L : Addr) (m : Str → Option Value) (mu fz : Led) (s : Shared) (vs : List Value) (ds : List Dat) (d : Dat) (Q E : Value → Shared → Prop),
      AOk W lv A h₀ fenv L → FSub X (Hs W.base fz) → SS W h₀ L m mu fz s.heap → RepA (Hs W.base fz) vs ds → F ds = some d →
      Cont W h₀ L m mu fz s (fun X v => Rep X v d) Q → wpAny (model W.prog W.w) A (call v vs) Q E s
theorem CallOk.mono {W : Wd} {lv : Nat} {X Y : Fact} {v : Value} {F : List Dat → Option Dat} (s : FSub X Y) : CallOk W lv X v F → CallOk W lv Y v F := by
  rintro ⟨a, o, fd, e, h, d, k⟩
  exact ⟨a, o, fd, e, s _ _ h, d, fun A h₀ fenv L m mu fz s₁ vs ds d' Q E hA hX => k A h₀ fenv L m mu fz s₁ vs ds d' Q E hA (s.trans hX)⟩

/-- what a name may stand for -/
inductive PV where
  | dat (d : Dat)
  | lst (ds : List Dat)
  | fn (lv : Nat) (F : List Dat → Option Dat)
noncomputable def PRep (W : Wd) (X : Fact) (MU : Led) (v : Value) : PV → Prop
  | .dat d => Rep X v d
  | .lst ds => ∃ l o vs n, v = .ref l ∧ (l, o) ∈ MU ∧ o.cls = .type "list" ∧ o.dict = none ∧ o.data = .seq (List.toArray vs) n ∧ RepA X vs ds
  | .fn lv F => CallOk W lv X v F
theorem PRep.mono {W : Wd} {X Y : Fact} {MU MU' : Led} {v : Value} {pv : PV} (s : FSub X Y) (t : Sub MU MU') (h : PRep W X MU v pv) : PRep W Y MU' v pv := by
  cases pv with
  | dat d => exact Rep.mono s h
  | lst ds => obtain ⟨l, o, vs, n, a, b, c, d, e, f⟩ := h; exact ⟨l, o, vs, n, a, t _ b, c, d, e, f.mono s⟩
  | fn lv F => exact CallOk.mono s h

noncomputable abbrev Names := List (Str × PV)
noncomputable def NamesOk (W : Wd) (env : Env) (L : Addr) (m : Str → Option Value) (mu N : Led) (X : Fact) (ρ : Names) : Prop :=
  ∀ x pv, ρ.lookup x = some pv → PlainName x ∧ ∃ v, Loads env L m N x v ∧ PRep W X mu v pv
theorem NamesOk.mono {W : Wd} {env : Env} {L : Addr} {m : Str → Option Value} {mu N N' : Led} {X Y : Fact} {ρ : Names} (s : FSub X Y) (t : Sub N N') (h : NamesOk W env L m mu N X ρ) : NamesOk W env L m mu N' Y ρ :=
  fun x pv hx => let ⟨a, v, b, c⟩ := h x pv hx; ⟨a, v, b.mono t, c.mono s (Sub.refl _)⟩
theorem NamesOk.sup {W : Wd} {env : Env} {L : Addr} {m : Str → Option Value} {mu mu' N N' : Led} {X Y : Fact} {ρ : Names} (s : FSub X Y) (u : Sub mu mu') (t : Sub N N') (h : NamesOk W env L m mu N X ρ) : NamesOk W env L m mu' N' Y ρ :=
  fun x pv hx => let ⟨a, v, b, c⟩ := h x pv hx; ⟨a, v, b.mono t, c.mono s u⟩
theorem NamesOk.sub {W : Wd} {env : Env} {L : Addr} {m : Str → Option Value} {mu N : Led} {X : Fact} {ρ ρ' : Names} (s : ∀ x pv, ρ'.lookup x = some pv → ρ.lookup x = some pv) (h : NamesOk W env L m mu N X ρ) : NamesOk W env L m mu N X ρ' :=
  fun x pv hx => h x pv (s x pv hx)
theorem NamesOk.grow {W : Wd} {env : Env} {L : Addr} {m : Str → Option Value} {mu fz fz' : Led} {ρ : Names} (s : Sub fz fz') (h : NamesOk W env L m mu (mu ++ fz) (Hs W.base fz) ρ) : NamesOk W env L m mu (mu ++ fz') (Hs W.base fz') ρ :=
  h.mono (Hs.sub s) fun _ hp => (List.mem_append.mp hp).elim (fun a => List.mem_append_left _ a) fun a => List.mem_append_right _ (s _ a)

theorem load_name {W : Wd} {env : Env} {L : Addr} {m : Str → Option Value} {mu fz : Led} {h₀ : Heap} {x : Str} {v : Value} {A : Around} {Q E : Value → Shared → Prop} {s : Shared} {M : Model} {sc : Scope}
    (hE : EnvOk env sc) (S : SS W h₀ L m mu fz s.heap) (l : Loads env L m (mu ++ fz) x v) (hp : PlainName x) (h : Q v s) : wpAny M A (loadName env x) Q E s := by
  cases l with
  | here a b c => exact wpAny_loadName_local hE.kind b (by rw [a]; exact S.fr.ns) c h
  | block a b c d => exact wpAny_loadName_local hE.kind a (c.ns (S.news _ b)) d h
  | cell a b c d =>
    rcases a with a | a
    · exact wpAny_loadName_cell hE.kind a b ⟨_, S.news _ c, d⟩ h
    · exact wpAny_loadName_free hE.kind a b ⟨_, S.news _ c, d⟩ h hp.2
theorem eval_name {W : Wd} {env : Env} {L : Addr} {m : Str → Option Value} {mu fz : Led} {h₀ : Heap} {x : Str} {pos : Pos} {v : Value} {A : Around} {Q E : Value → Shared → Prop} {s : Shared} {M : Model} {sc : Scope}
    (hE : EnvOk env sc) (S : SS W h₀ L m mu fz s.heap) (l : Loads env L m (mu ++ fz) x v) (hp : PlainName x) (h : Q v s) : wpAny M A (eval (.Name x pos) env) Q E s :=
  wpAny_Name (load_name hE S l hp h) hp.1

/-- an expression under the names ρ gives pv -/
noncomputable def EV (W : Wd) (lv : Nat) (sc : Scope) (ρ : Names) (e : Expr) (pv : PV) : Prop :=
  ∀ (A : Around) (h₀ : Heap) (fenv : Env) (L : Addr) (m : Str → Option Value) (mu fz : Led) (env : Env) (s : Shared) (Q E : Value → Shared → Prop),
    AOk W lv A h₀ fenv L → EnvOk env sc → SS W h₀ L m mu fz s.heap → NamesOk W env L m mu (mu ++ fz) (Hs W.base fz) ρ →
    Cont W h₀ L m mu fz s (fun X v => PRep W X mu v pv) Q → wpAny (model W.prog W.w) A (eval e env) Q E s
/-- its truth -/
noncomputable def ET (W : Wd) (lv : Nat) (sc : Scope) (ρ : Names) (e : Expr) (b : Bool) : Prop :=
  ∀ (A : Around) (h₀ : Heap) (fenv : Env) (L : Addr) (m : Str → Option Value) (mu fz : Led) (env : Env) (s : Shared) (Q : Bool → Shared → Prop) (E : Value → Shared → Prop),
    AOk W lv A h₀ fenv L → EnvOk env sc → SS W h₀ L m mu fz s.heap → NamesOk W env L m mu (mu ++ fz) (Hs W.base fz) ρ →
    (∀ fz' h' tk', Sub fz fz' → SS W h₀ L m mu fz' h' → Q b { s with heap := h', toks := tk' }) → wpAny (model W.prog W.w) A (isTrue e env (eval e env)) Q E s
/-- an operation on values -/
noncomputable def OpOk (W : Wd) (lv : Nat) (ins : List Dat) (t : List Value → Sem Value) (d : Dat) : Prop :=
  ∀ (A : Around) (h₀ : Heap) (fenv : Env) (L : Addr) (m : Str → Option Value) (mu fz : Led) (s : Shared) (vs : List Value) (Q E : Value → Shared → Prop),
    AOk W lv A h₀ fenv L → SS W h₀ L m mu fz s.heap → RepA (Hs W.base fz) vs ins → Cont W h₀ L m mu fz s (fun X v => Rep X v d) Q → wpAny (model W.prog W.w) A (t vs) Q E s

section
variable {W : Wd} {lv : Nat} {sc : Scope} {ρ : Names}
theorem ev_name {x : Str} {pos : Pos} {pv : PV} (h : ρ.lookup x = some pv) : EV W lv sc ρ (.Name x pos) pv := by
  intro A h₀ fenv L m mu fz env s Q E hA hE S hN k
  obtain ⟨hp, v, l, r⟩ := hN x pv h
  exact eval_name hE S l hp (k v fz _ _ (Sub.refl _) S r)
theorem ev_int {i : Int} {kd : Nat} {pos : Pos} : EV W lv sc ρ (.Constant (.int i) kd pos) (.dat (.int i)) := by
  intro A h₀ fenv L m mu fz env s Q E hA hE S hN k
  exact wpAny_Constant_int (k _ fz _ _ (Sub.refl _) S (.int i _))
theorem ev_bytes {b : List UInt8} {kd : Nat} {pos : Pos} : EV W lv sc ρ (.Constant (.bytes b) kd pos) (.dat (.bytes b.toArray)) := by
  intro A h₀ fenv L m mu fz env s Q E hA hE S hN k
  intro Γ p hΓ
  exact k _ fz s.heap (s.toks + 1) (Sub.refl _) S (.bytes _ _)
theorem ev_none {kd : Nat} {pos : Pos} : EV W lv sc ρ (.Constant .none kd pos) (.dat .none) := by
  intro A h₀ fenv L m mu fz env s Q E hA hE S hN k
  exact wpAny_Constant_none (k _ fz _ _ (Sub.refl _) S .none)
theorem ev_bin {op : Operator} {l r : Expr} {pos : Pos} {d₁ d₂ d : Dat} (h₁ : EV W lv sc ρ l (.dat d₁)) (h₂ : EV W lv sc ρ r (.dat d₂))
    (ho : OpOk W lv [d₁, d₂] (fun vs => binaryOp op (vs.getD 0 .none) (vs.getD 1 .none)) d) : EV W lv sc ρ (.BinOp l op r pos) (.dat d) := by
  intro A h₀ fenv L m mu fz env s Q E hA hE S hN k
  refine wpAny_BinOp (h₁ A h₀ fenv L m mu fz env s _ _ hA hE S hN fun v₁ fz₁ h₁' t₁ s₁ S₁ R₁ => ?_)
  refine h₂ A h₀ fenv L m mu fz₁ env _ _ _ hA hE S₁ (hN.grow s₁) fun v₂ fz₂ h₂' t₂ s₂ S₂ R₂ => ?_
  exact ho A h₀ fenv L m mu fz₂ _ [v₁, v₂] _ _ hA S₂ (.cons (Rep.mono (Hs.sub s₂) R₁) (.cons R₂ .nil)) fun v fz' h' t' s' => k v fz' h' t' (s₁.trans (s₂.trans s'))
theorem ev_un {op : UnaryOp} {x : Expr} {pos : Pos} {d₁ d : Dat} (h₁ : EV W lv sc ρ x (.dat d₁))
    (ho : OpOk W lv [d₁] (fun vs => unaryOp op (vs.getD 0 .none)) d) : EV W lv sc ρ (.UnaryOp op x pos) (.dat d) := by
  intro A h₀ fenv L m mu fz env s Q E hA hE S hN k
  refine wpAny_UnaryOp (h₁ A h₀ fenv L m mu fz env s _ _ hA hE S hN fun v₁ fz₁ h₁' t₁ s₁ S₁ R₁ => ?_)
  exact ho A h₀ fenv L m mu fz₁ _ [v₁] _ _ hA S₁ (.cons R₁ .nil) fun v fz' h' t' s' => k v fz' h' t' (s₁.trans s')
theorem ev_cmp {op : CmpOp} {l r : Expr} {pos : Pos} {d₁ d₂ d : Dat} (h₁ : EV W lv sc ρ l (.dat d₁)) (h₂ : EV W lv sc ρ r (.dat d₂))
    (ho : OpOk W lv [d₁, d₂] (fun vs => compareOp op (vs.getD 0 .none) (vs.getD 1 .none)) d) (hm : behindInMarks op r = false := by with_unfolding_all rfl) : EV W lv sc ρ (.Compare l [op] [r] pos) (.dat d) := by
  intro A h₀ fenv L m mu fz env s Q E hA hE S hN k
  refine wpAny_Compare1 (h₁ A h₀ fenv L m mu fz env s _ _ hA hE S hN fun v₁ fz₁ h₁' t₁ s₁ S₁ R₁ => ?_) hm
  refine h₂ A h₀ fenv L m mu fz₁ env _ _ _ hA hE S₁ (hN.grow s₁) fun v₂ fz₂ h₂' t₂ s₂ S₂ R₂ => ?_
  exact ho A h₀ fenv L m mu fz₂ _ [v₁, v₂] _ _ hA S₂ (.cons (Rep.mono (Hs.sub s₂) R₁) (.cons R₂ .nil)) fun v fz' h' t' s' => k v fz' h' t' (s₁.trans (s₂.trans s'))
end

/-! ints -/
section
variable {W : Wd} {lv : Nat} {a b : Int}
theorem op_of_ints {t : Value → Value → Sem Value} {d : Dat} (h : ∀ (A : Around) (E : Value → Shared → Prop) (s : Shared) (u u' : Tok) (Q : Value → Shared → Prop), A.handled = none → (∀ v tk', (∀ X, Rep X v d) → Q v { s with toks := tk' }) → wpAny (model W.prog W.w) A (t (.int a u) (.int b u')) Q E s) :
    OpOk W lv [.int a, .int b] (fun vs => t (vs.getD 0 .none) (vs.getD 1 .none)) d := by
  intro A h₀ fenv L m mu fz s vs Q E hA S R k
  cases R with
  | cons r1 R => cases R with
    | cons r2 R => cases R; cases r1; cases r2; exact h A E s _ _ Q hA.hh fun v tk' hr => k v fz s.heap tk' (Sub.refl _) S (hr _)
theorem op_of_int {t : Value → Sem Value} {d : Dat} (h : ∀ (A : Around) (E : Value → Shared → Prop) (s : Shared) (u : Tok) (Q : Value → Shared → Prop), A.handled = none → (∀ v tk', (∀ X, Rep X v d) → Q v { s with toks := tk' }) → wpAny (model W.prog W.w) A (t (.int a u)) Q E s) :
    OpOk W lv [.int a] (fun vs => t (vs.getD 0 .none)) d := by
  intro A h₀ fenv L m mu fz s vs Q E hA S R k
  cases R with
  | cons r1 R => cases R; cases r1; exact h A E s _ Q hA.hh fun v tk' hr => k v fz s.heap tk' (Sub.refl _) S (hr _)
theorem op_add : OpOk W lv [.int a, .int b] (fun vs => binaryOp .Add (vs.getD 0 .none) (vs.getD 1 .none)) (.int (a + b)) :=
  op_of_ints fun _ _ _ _ _ _ _ k => AutoIntOps.add_0 (k _ _ fun _ => .int _ _)
theorem op_sub : OpOk W lv [.int a, .int b] (fun vs => binaryOp .Sub (vs.getD 0 .none) (vs.getD 1 .none)) (.int (a - b)) :=
  op_of_ints fun _ _ _ _ _ _ _ k => AutoIntOps.sub_0 (k _ _ fun _ => .int _ _)
theorem op_mul (h : IntMulOk a b) : OpOk W lv [.int a, .int b] (fun vs => binaryOp .Mult (vs.getD 0 .none) (vs.getD 1 .none)) (.int (a * b)) :=
  op_of_ints fun _ _ _ _ _ _ _ k => AutoIntOps.mul_0 (k _ _ fun _ => .int _ _) h
theorem op_fdiv (h : b ≠ 0) (hp : Builtin.divisionGoesByPylong a b = false) : OpOk W lv [.int a, .int b] (fun vs => binaryOp .FloorDiv (vs.getD 0 .none) (vs.getD 1 .none)) (.int (a.fdiv b)) :=
  op_of_ints fun _ _ _ _ _ _ _ k => AutoIntOps.floordiv_1 (by simpa using h) (by simp [hp]) (k _ _ fun _ => .int _ _)
theorem op_mod (h : b ≠ 0) : OpOk W lv [.int a, .int b] (fun vs => binaryOp .Mod (vs.getD 0 .none) (vs.getD 1 .none)) (.int (a.fmod b)) :=
  op_of_ints fun _ _ _ _ _ _ _ k => AutoIntOps.mod_1 (by simpa using h) (k _ _ fun _ => .int _ _)
end
end Mine
end
section
open PySem PySem.W PyProof.Rows
set_option maxRecDepth 100000
namespace Mine
open PySem.Calls PySem.Spec PySem.SeqAt

/-! == of data -/
noncomputable def deqL (f : Dat → Dat → Option Bool) : List Dat → List Dat → Option Bool
  | [], [] => some true
  | x :: xs, y :: ys => match f x y, deqL f xs ys with
    | some a, some b => some (a && b)
    | _, _ => none
  | _, _ => some false
noncomputable def deqn : Nat → Dat → Dat → Option Bool
  | _, .none, .none => some true
  | _, .bool a, .bool b => some (a == b)
  | _, .int a, .int b => some (a == b)
  | _, .str a, .str b => some (a == b)
  | _, .bytes a, .bytes b => some (decide (a.toList = b.toList))
  | k + 1, .tuple a, .tuple b => if a.length = b.length then deqL (deqn k) a b else none
  | k + 1, .list a, .list b => if a.length = b.length then deqL (deqn k) a b else some false
  | _, _, _ => none
theorem deqL_spec {f : Dat → Dat → Option Bool} : ∀ {a b : List Dat} {r : Bool}, a.length = b.length → deqL f a b = some r →
    ∃ e : Nat → Bool, (∀ (j : Nat) (x y : Dat), a[j]? = some x → b[j]? = some y → f x y = some (e j)) ∧ (List.range a.length).all e = r
  | [], [], r, _, h => ⟨fun _ => true, fun j x y hx => by simp at hx, by simp [deqL] at h; simp [h]⟩
  | [], _ :: _, _, hl, _ => by simp at hl
  | _ :: _, [], _, hl, _ => by simp at hl
  | x :: xs, y :: ys, r, hl, h => by
    unfold deqL at h
    cases h1 : f x y with
    | none => rw [h1] at h; simp at h
    | some p =>
      cases h2 : deqL f xs ys with
      | none => rw [h1, h2] at h; simp at h
      | some q =>
        rw [h1, h2] at h
        obtain ⟨e, he, hr⟩ := deqL_spec (by simpa using hl) h2
        refine ⟨fun j => match j with | 0 => p | j + 1 => e j, fun j u v hu hv => ?_, ?_⟩
        · cases j with
          | zero => simp at hu hv; subst hu; subst hv; exact h1
          | succ j => exact he j u v (by simpa using hu) (by simpa using hv)
        · simp only [List.length_cons, List.range_succ_eq_map, List.all_cons, List.all_map]
          have e2 : ((fun j => match j with | 0 => p | j + 1 => e j) ∘ Nat.succ) = e := by funext j; rfl
          rw [e2, hr]
          simpa using h
theorem deqL_refl {f : Dat → Dat → Option Bool} (hf : ∀ d b, f d d = some b → b = true) : ∀ {a : List Dat} {r : Bool}, deqL f a a = some r → r = true
  | [], r, h => by simp [deqL] at h; exact h
  | x :: xs, r, h => by
    unfold deqL at h
    cases h1 : f x x with
    | none => rw [h1] at h; simp at h
    | some p =>
      cases h2 : deqL f xs xs with
      | none => rw [h1, h2] at h; simp at h
      | some q =>
        rw [h1, h2] at h
        have := hf _ _ h1; have := deqL_refl hf h2
        subst p; subst q; simpa using h.symm
theorem deqn_refl : ∀ (k : Nat) (d : Dat) (b : Bool), deqn k d d = some b → b = true
  | 0, d, b, h => by cases d <;> simp [deqn] at h <;> exact h
  | k + 1, d, b, h => by
    cases d with
    | tuple a => simp only [deqn, if_true] at h; exact deqL_refl (deqn_refl k) h
    | list a => simp only [deqn, if_true] at h; exact deqL_refl (deqn_refl k) h
    | none => simp [deqn] at h; exact h
    | bool _ => simp [deqn] at h; exact h
    | int _ => simp [deqn] at h; exact h
    | str _ => simp [deqn] at h; exact h
    | bytes _ => simp [deqn] at h; exact h
mutual
theorem Rep.inj {X : Fact} (hX : ∀ a o o', X a o → X a o' → o = o') : ∀ {v : Value} {d e : Dat}, Rep X v d → Rep X v e → d = e
  | _, _, _, .none, .none => rfl
  | _, _, _, .bool _, .bool _ => rfl
  | _, _, _, .int _ _, .int _ _ => rfl
  | _, _, _, .str _ _, .str _ _ => rfl
  | _, _, _, .bytes _ _, .bytes _ _ => rfl
  | _, _, _, .tuple (vs := vs) h c d r, .tuple (vs := vs') h' c' d' r' => by
    have := hX _ _ _ h h'; subst this
    rw [d] at d'; injection d' with e1 e2
    have e3 : vs = vs' := by have := congrArg Array.toList e1; simpa using this
    subst e3
    rw [RepA.inj hX r r']
  | _, _, _, .list (vs := vs) h c d r, .list (vs := vs') h' c' d' r' => by
    have := hX _ _ _ h h'; subst this
    rw [d] at d'; injection d' with e1 e2
    have e3 : vs = vs' := by have := congrArg Array.toList e1; simpa using this
    subst e3
    rw [RepA.inj hX r r']
  | _, _, _, .tuple h c _ _, .list h' c' _ _ => by have := hX _ _ _ h h'; subst this; rw [c] at c'; simp at c'
  | _, _, _, .list h c _ _, .tuple h' c' _ _ => by have := hX _ _ _ h h'; subst this; rw [c] at c'; simp at c'
theorem RepA.inj {X : Fact} (hX : ∀ a o o', X a o → X a o' → o = o') : ∀ {vs : List Value} {ds es : List Dat}, RepA X vs ds → RepA X vs es → ds = es
  | _, _, _, .nil, .nil => rfl
  | _, _, _, .cons h r, .cons h' r' => by rw [Rep.inj hX h h', RepA.inj hX r r']
end

theorem EqAt.bytes_bytes {A : Around} {s : Shared} (a : Array UInt8) (t : Tok) (b : Array UInt8) (u : Tok) : EqAt A s (.bytes a t) (.bytes b u) (decide (a.toList = b.toList)) :=
  fun _ _ _ _ hq => eqBool_bytes hq
theorem RcAt.bytes_bytes {A : Around} {s : Shared} (a : Array UInt8) (t : Tok) (b : Array UInt8) (u : Tok) : RcAt A s (.bytes a t) (.bytes b u) (decide (a.toList = b.toList)) :=
  fun _ _ _ _ hq => eq_bytes (by rw [show (a.toList == b.toList) = decide (a.toList = b.toList) by rw [Bool.eq_iff_iff]; simp]; exact hq)
theorem RcNeAt.bytes_bytes {A : Around} {s : Shared} (a : Array UInt8) (t : Tok) (b : Array UInt8) (u : Tok) : RcNeAt A s (.bytes a t) (.bytes b u) (!decide (a.toList = b.toList)) :=
  fun _ _ _ _ hq => ne_bytes (by rw [show (a.toList != b.toList) = !decide (a.toList = b.toList) by rw [bne, Bool.not_eq_eq_eq_not, Bool.not_not, Bool.eq_iff_iff]; simp]; exact hq)

/-- all facts of == at once -/
structure EqAll (A : Around) (s : Shared) (v w : Value) (b : Bool) : Prop where
  eq : EqAt A s v w b
  rc : RcAt A s v w b
  ne : RcNeAt A s v w (!b)
theorem eq_all {X : Fact} {s : Shared} (hX : ∀ a o, X a o → s.heap.get? a = some o) : ∀ (k : Nat) {A : Around} {v w : Value} {d e : Dat} {b : Bool}, A.units + k < cLine → Rep X v d → Rep X w e → deqn k d e = some b → EqAll A s v w b := by
  have inj : ∀ a o o', X a o → X a o' → o = o' := fun a o o' h h' => by have := hX _ _ h; rw [hX _ _ h'] at this; exact (Option.some.inj this).symm
  have flat : ∀ (k : Nat) {A : Around} {v w : Value} {d e : Dat} {b : Bool}, Rep X v d → Rep X w e → deqn k d e = some b → (∀ a, v ≠ .ref a) → EqAll A s v w b := by
    intro k A v w d e b rv rw h hn
    cases rv with
    | none => cases rw <;> simp [deqn] at h; subst h; exact ⟨EqAt.same _, RcAt.none_none, RcNeAt.none_none⟩
    | bool x => cases rw <;> simp [deqn] at h; subst h; exact ⟨EqAt.bool_bool _ _, RcAt.bool_bool _ _, RcNeAt.bool_bool _ _⟩
    | int x t => cases rw <;> simp [deqn] at h; subst h; exact ⟨EqAt.int_int _ _ _ _, RcAt.int_int _ _ _ _, RcNeAt.int_int _ _ _ _⟩
    | str x t => cases rw <;> simp [deqn] at h; subst h; exact ⟨EqAt.str_str _ _ _ _, RcAt.str_str _ _ _ _, RcNeAt.str_str _ _ _ _⟩
    | bytes x t => cases rw <;> simp only [deqn, reduceCtorEq, Option.some.injEq] at h; subst h; exact ⟨EqAt.bytes_bytes _ _ _ _, RcAt.bytes_bytes _ _ _ _, RcNeAt.bytes_bytes _ _ _ _⟩
    | tuple => exact absurd rfl (hn _)
    | list => exact absurd rfl (hn _)
  intro k
  induction k with
  | zero =>
    intro A v w d e b hu rv rw h
    refine flat 0 rv rw h fun a q => ?_
    subst q
    cases rv <;> cases rw <;> simp [deqn] at h
  | succ k ih =>
    intro A v w d e b hu rv rw h
    have sub : ∀ {vs ws : List Value} {ds es : List Dat} {r : Bool}, RepA X vs ds → RepA X ws es → ds.length = es.length → deqL (deqn k) ds es = some r →
        ∃ e : Nat → Bool, (∀ j (h1 : j < vs.toArray.size) (h2 : j < ws.toArray.size), EqAt A.in1 s vs.toArray[j] ws.toArray[j] (e j)) ∧ (List.range vs.toArray.size).all e = r := by
      intro vs ws ds es r hv hw hl hd
      obtain ⟨e, he, hr⟩ := deqL_spec hl hd
      refine ⟨e, fun j h1 h2 => ?_, by rw [List.size_toArray, hv.length]; exact hr⟩
      have g1 : vs[j]? = some vs.toArray[j] := by simp at h1 ⊢
      have g2 : ws[j]? = some ws.toArray[j] := by simp at h2 ⊢
      obtain ⟨x, hx, rx⟩ := hv.get' g1
      obtain ⟨y, hy, ry⟩ := hw.get' g2
      exact (ih (A := A.in1) (by show A.units + 1 + k < cLine; (clear ry hy rx hx g2 g1 h2 h1 hr he hd hl hw hv h rw rv ih flat inj hX; lia)) rx ry (he j x y hx hy)).eq
    cases rv with
    | none => exact flat _ .none rw h (fun a q => nomatch q)
    | bool x => exact flat _ (.bool x) rw h (fun a q => nomatch q)
    | int x t => exact flat _ (.int x t) rw h (fun a q => nomatch q)
    | str x t => exact flat _ (.str x t) rw h (fun a q => nomatch q)
    | bytes x t => exact flat _ (.bytes x t) rw h (fun a q => nomatch q)
    | @tuple l o vs n ds hl hc hd hr =>
      cases rw with
      | @tuple l' o' ws n' es hl' hc' hd' hr' =>
        simp only [deqn] at h
        by_cases hlen : ds.length = es.length
        · rw [if_pos hlen] at h
          obtain ⟨e, he, hrr⟩ := sub hr hr' hlen h
          have il : s.heap.IsTuple l vs.toArray := ⟨o, hX _ _ hl, hc, n, hd⟩
          have il' : s.heap.IsTuple l' ws.toArray := ⟨o', hX _ _ hl', hc', n', hd'⟩
          have hsz : vs.toArray.size = ws.toArray.size := by rw [List.size_toArray, List.size_toArray, hr.length, hr'.length, hlen]
          have e0 : ((List.range (min vs.toArray.size ws.toArray.size)).all e && vs.toArray.size == ws.toArray.size) = b := by rw [hsz, Nat.min_self, ← hsz, hrr]; simp
          have rc := RcAt.tuples il il' (by (clear e0 hsz il' il hrr he hlen h hr' hd' hc' hl' hr hd hc hl sub ih flat inj hX; lia)) he
          have ne := RcNeAt.tuples il il' (by (clear rc e0 hsz il' il hrr he hlen h hr' hd' hc' hl' hr hd hc hl sub ih flat inj hX; lia)) he
          rw [e0] at rc ne
          refine ⟨?_, rc, ne⟩
          by_cases hll : l = l'
          · subst hll
            have e1 := Rep.inj inj (.tuple hl hc hd hr) (.tuple hl' hc' hd' hr')
            injection e1 with e1; subst e1
            have : b = true := deqL_refl (deqn_refl k) h
            subst this
            exact EqAt.same _
          · exact EqAt.of_refs hll rc
        · rw [if_neg hlen] at h; cases h
      | none => simp [deqn] at h
      | bool _ => simp [deqn] at h
      | int _ _ => simp [deqn] at h
      | str _ _ => simp [deqn] at h
      | bytes _ _ => simp [deqn] at h
      | list _ _ _ _ => simp [deqn] at h
    | @list l o vs n ds hl hc hd hr =>
      cases rw with
      | @list l' o' ws n' es hl' hc' hd' hr' =>
        simp only [deqn] at h
        have il : s.heap.IsList l vs.toArray := ⟨o, hX _ _ hl, hc, n, hd⟩
        have il' : s.heap.IsList l' ws.toArray := ⟨o', hX _ _ hl', hc', n', hd'⟩
        by_cases hlen : ds.length = es.length
        · rw [if_pos hlen] at h
          obtain ⟨e, he, hrr⟩ := sub hr hr' hlen h
          have hsz : vs.toArray.size = ws.toArray.size := by rw [List.size_toArray, List.size_toArray, hr.length, hr'.length, hlen]
          have rc := RcAt.lists il il' hsz (by (clear hsz hrr he hlen il' il h hr' hd' hc' hl' hr hd hc hl sub ih flat inj hX; lia)) he
          have ne := RcNeAt.lists il il' hsz (by (clear rc hsz hrr he hlen il' il h hr' hd' hc' hl' hr hd hc hl sub ih flat inj hX; lia)) he
          rw [hrr] at rc ne
          refine ⟨?_, rc, ne⟩
          by_cases hll : l = l'
          · subst hll
            have e1 := Rep.inj inj (.list hl hc hd hr) (.list hl' hc' hd' hr')
            injection e1 with e1; subst e1
            have : b = true := deqL_refl (deqn_refl k) h
            subst this
            exact EqAt.same _
          · exact EqAt.of_refs hll rc
        · rw [if_neg hlen] at h
          cases h
          have hsz : (vs.toArray.size != ws.toArray.size) = true := by
            rw [List.size_toArray, List.size_toArray, hr.length, hr'.length]; simpa using hlen
          have rc := RcAt.lists_lengths il il' hsz (by (clear hsz hlen il' il hr' hd' hc' hl' hr hd hc hl sub ih flat inj hX; lia) : A.units < cLine)
          refine ⟨EqAt.of_refs (fun q => ?_) rc, rc, RcNeAt.lists_lengths il il' hsz (by (clear rc hsz hlen il' il hr' hd' hc' hl' hr hd hc hl sub ih flat inj hX; lia))⟩
          subst q
          have e1 := Rep.inj inj (.list hl hc hd hr) (.list hl' hc' hd' hr')
          injection e1 with e1; subst e1; exact hlen rfl
      | none => simp [deqn] at h
      | bool _ => simp [deqn] at h
      | int _ _ => simp [deqn] at h
      | str _ _ => simp [deqn] at h
      | bytes _ _ => simp [deqn] at h
      | tuple _ _ _ _ => simp [deqn] at h

/-- all of a datum's facts hold -/
theorem SS.facts {W : Wd} {h₀ : Heap} {L : Addr} {m : Str → Option Value} {mu fz : Led} {s : Shared} (S : SS W h₀ L m mu fz s.heap) : ∀ a o, Hs W.base fz a o → s.heap.get? a = some o := fun _ _ h => S.has h

section
variable {W : Wd} {lv : Nat} {d e : Dat} {b : Bool}
theorem op_eq (h : deqn 8 d e = some b) : OpOk W lv [d, e] (fun vs => compareOp .Eq (vs.getD 0 .none) (vs.getD 1 .none)) (.bool b) := by
  intro A h₀ fenv L m mu fz s vs Q E hA S R k
  cases R with
  | cons r1 R => cases R with
    | cons r2 R =>
      cases R
      have := hA.un
      exact (eq_all S.facts 8 (by (clear r2 r1 k S hA h; lia)) r1 r2 h).rc W.prog W.w E Q (k _ fz s.heap s.toks (Sub.refl _) S (.bool b))
theorem op_ne (h : deqn 8 d e = some b) : OpOk W lv [d, e] (fun vs => compareOp .NotEq (vs.getD 0 .none) (vs.getD 1 .none)) (.bool (!b)) := by
  intro A h₀ fenv L m mu fz s vs Q E hA S R k
  cases R with
  | cons r1 R => cases R with
    | cons r2 R =>
      cases R
      have := hA.un
      exact (eq_all S.facts 8 (by (clear r2 r1 k S hA h; lia)) r1 r2 h).ne W.prog W.w E Q (k _ fz s.heap s.toks (Sub.refl _) S (.bool (!b)))
end
end Mine
end
section
open PySem PySem.W PyProof.Rows
set_option maxRecDepth 100000
namespace Mine
open PySem.Calls PySem.Spec PySem.SeqAt

/-! truth -/
noncomputable def truthD : Dat → Option Bool
  | .bool b => some b
  | .int i => some (i != 0)
  | .none => some false
  | .list ds => if ds.length ≤ 1048576 then some (!ds.isEmpty) else none
  | _ => none
theorem truthy_dat {W : Wd} {h₀ : Heap} {L : Addr} {m : Str → Option Value} {mu fz : Led} {A : Around} {s : Shared} {v : Value} {d : Dat} {b : Bool} {Q : Bool → Shared → Prop} {E : Value → Shared → Prop}
    (S : SS W h₀ L m mu fz s.heap) (R : Rep (Hs W.base fz) v d) (h : truthD d = some b) (k : ∀ tk', Q b { s with toks := tk' }) : wpAny (model W.prog W.w) A (truthy v) Q E s := by
  cases R with
  | none => cases h; exact PyProof.Rows.truthy_none (k s.toks)
  | bool b' => cases h; exact wpAny_truthy_bool (k s.toks)
  | int i t => cases h; exact truthy_int (k s.toks)
  | str x t => cases h
  | bytes b' t => cases h
  | tuple _ _ _ _ => cases h
  | @list a o vs n ds ho hc hd r =>
    simp only [truthD] at h
    split at h
    · rename_i hl
      cases h
      refine wpAny_truthy_list ⟨o, S.has ho, hc, n, hd⟩ ?_ ?_
      · rw [List.size_toArray, r.length]; lia
      · have e : (!vs.toArray.isEmpty) = !ds.isEmpty := by
          have := r.length
          cases vs <;> cases ds <;> simp_all
        rw [e]; exact k _
    · cases h

section
variable {W : Wd} {lv : Nat} {sc : Scope} {ρ : Names}
theorem et_cmp {op : CmpOp} {l r : Expr} {pos : Pos} {d₁ d₂ : Dat} {b : Bool} (h₁ : EV W lv sc ρ l (.dat d₁)) (h₂ : EV W lv sc ρ r (.dat d₂))
    (ho : OpOk W lv [d₁, d₂] (fun vs => compareOp op (vs.getD 0 .none) (vs.getD 1 .none)) (.bool b)) (hm : behindInMarks op r = false := by with_unfolding_all rfl) : ET W lv sc ρ (.Compare l [op] [r] pos) b := by
  intro A h₀ fenv L m mu fz env s Q E hA hE S hN k
  refine wpAny_isTrue_Compare1 (h₁ A h₀ fenv L m mu fz env s _ _ hA hE S hN fun v₁ fz₁ h₁' t₁ s₁ S₁ R₁ => ?_) hm
  refine h₂ A h₀ fenv L m mu fz₁ env _ _ _ hA hE S₁ (hN.grow s₁) fun v₂ fz₂ h₂' t₂ s₂ S₂ R₂ => ?_
  refine ho A h₀ fenv L m mu fz₂ _ [v₁, v₂] _ _ hA S₂ (.cons (Rep.mono (Hs.sub s₂) R₁) (.cons R₂ .nil)) fun v fz' h' t' s' S' R' => ?_
  cases R'
  exact wpAny_truthy_bool (k fz' h' t' (s₁.trans (s₂.trans s')) S')
theorem et_not {x : Expr} {pos : Pos} {b : Bool} (h : ET W lv sc ρ x b) : ET W lv sc ρ (.UnaryOp .Not x pos) (!b) := by
  intro A h₀ fenv L m mu fz env s Q E hA hE S hN k
  exact wpAny_isTrue_Not (h A h₀ fenv L m mu fz env s _ E hA hE S hN fun fz' h' t' s' S' => k fz' h' t' s' S')
/-- of plain expressions: names, calls, items -/
theorem et_val {e : Expr} {d : Dat} {b : Bool} (h : EV W lv sc ρ e (.dat d)) (ht : truthD d = some b) (he : ∀ env whole, isTrue e env whole = (do let v ← whole; standAt e.pos; holding [v] (truthy v)) := by intros; rfl) : ET W lv sc ρ e b := by
  intro A h₀ fenv L m mu fz env s Q E hA hE S hN k
  refine wpAny_isTrue_value (h A h₀ fenv L m mu fz env s _ _ hA hE S hN fun v fz' h' t' s' S' R' => ?_) (he _ _)
  exact truthy_dat S' R' ht fun tk' => k fz' h' tk' s' S'

inductive ETs (W : Wd) (lv : Nat) (sc : Scope) (ρ : Names) (op : BoolOp) : List Expr → Bool → Prop
  | nil : ETs W lv sc ρ op [] (match op with | .And => true | .Or => false)
  | stop {x : Expr} {xs : List Expr} {b : Bool} : ET W lv sc ρ x b → b = (match op with | .And => false | .Or => true) → ETs W lv sc ρ op (x :: xs) b
  | go {x : Expr} {xs : List Expr} {b c : Bool} : ET W lv sc ρ x b → b = (match op with | .And => true | .Or => false) → ETs W lv sc ρ op xs c → ETs W lv sc ρ op (x :: xs) c
theorem et_all {op : BoolOp} {xs : List Expr} {b : Bool} (h : ETs W lv sc ρ op xs b) : ∀ (A : Around) (h₀ : Heap) (fenv : Env) (L : Addr) (m : Str → Option Value) (mu fz : Led) (env : Env) (s : Shared) (Q : Bool → Shared → Prop) (E : Value → Shared → Prop),
    AOk W lv A h₀ fenv L → EnvOk env sc → SS W h₀ L m mu fz s.heap → NamesOk W env L m mu (mu ++ fz) (Hs W.base fz) ρ →
    (∀ fz' h' tk', Sub fz fz' → SS W h₀ L m mu fz' h' → Q b { s with heap := h', toks := tk' }) → wpAny (model W.prog W.w) A (allTrue op xs env) Q E s := by
  induction h with
  | nil =>
    intro A h₀ fenv L m mu fz env s Q E hA hE S hN k
    cases op with
    | And => exact wpAny_allTrue_And_nil (k fz _ _ (Sub.refl _) S)
    | Or => exact wpAny_allTrue_Or_nil (k fz _ _ (Sub.refl _) S)
  | stop h hb =>
    intro A h₀ fenv L m mu fz env s Q E hA hE S hN k
    subst hb
    cases op with
    | And => exact wpAny_allTrue_And_cons (h A h₀ fenv L m mu fz env s _ E hA hE S hN fun fz' h' t' s' S' => k fz' h' t' s' S')
    | Or => exact wpAny_allTrue_Or_cons (h A h₀ fenv L m mu fz env s _ E hA hE S hN fun fz' h' t' s' S' => k fz' h' t' s' S')
  | go h hb _ ih =>
    intro A h₀ fenv L m mu fz env s Q E hA hE S hN k
    subst hb
    cases op with
    | And => exact wpAny_allTrue_And_cons (h A h₀ fenv L m mu fz env s _ E hA hE S hN fun fz' h' t' s' S' => ih A h₀ fenv L m mu fz' env _ Q E hA hE S' (hN.grow s') fun fz₂ h₂ t₂ s₂ S₂ => k fz₂ h₂ t₂ (s'.trans s₂) S₂)
    | Or => exact wpAny_allTrue_Or_cons (h A h₀ fenv L m mu fz env s _ E hA hE S hN fun fz' h' t' s' S' => ih A h₀ fenv L m mu fz' env _ Q E hA hE S' (hN.grow s') fun fz₂ h₂ t₂ s₂ S₂ => k fz₂ h₂ t₂ (s'.trans s₂) S₂)
theorem et_bool {op : BoolOp} {xs : List Expr} {pos : Pos} {b : Bool} (h : ETs W lv sc ρ op xs b) : ET W lv sc ρ (.BoolOp op xs pos) b := by
  intro A h₀ fenv L m mu fz env s Q E hA hE S hN k
  exact wpAny_isTrue_BoolOp (et_all h A h₀ fenv L m mu fz env s Q E hA hE S hN k)
theorem et_and2 {x y : Expr} {pos : Pos} {a b : Bool} (h : ET W lv sc ρ x a) (k : a = true → ET W lv sc ρ y b) : ET W lv sc ρ (.BoolOp .And [x, y] pos) (a && b) := by
  cases a with
  | false => exact et_bool (.stop h rfl)
  | true => exact et_bool (.go h rfl (by cases b with
    | false => exact .stop (k rfl) rfl
    | true => exact .go (k rfl) rfl .nil))
theorem et_or2 {x y : Expr} {pos : Pos} {a b : Bool} (h : ET W lv sc ρ x a) (k : a = false → ET W lv sc ρ y b) : ET W lv sc ρ (.BoolOp .Or [x, y] pos) (a || b) := by
  cases a with
  | true => exact et_bool (.stop h rfl)
  | false => exact et_bool (.go h rfl (by cases b with
    | true => exact .stop (k rfl) rfl
    | false => exact .go (k rfl) rfl .nil))
theorem ev_ifexp {t x y : Expr} {pos : Pos} {b : Bool} {pv : PV} (h : ET W lv sc ρ t b) (hx : b = true → EV W lv sc ρ x pv) (hy : b = false → EV W lv sc ρ y pv) : EV W lv sc ρ (.IfExp t x y pos) pv := by
  intro A h₀ fenv L m mu fz env s Q E hA hE S hN k
  refine wpAny_IfExp (h A h₀ fenv L m mu fz env s _ E hA hE S hN fun fz' h' t' s' S' => ?_)
  cases b with
  | true => exact hx rfl A h₀ fenv L m mu fz' env _ Q E hA hE S' (hN.grow s') fun v fz₂ h₂ t₂ s₂ => k v fz₂ h₂ t₂ (s'.trans s₂)
  | false => exact hy rfl A h₀ fenv L m mu fz' env _ Q E hA hE S' (hN.grow s') fun v fz₂ h₂ t₂ s₂ => k v fz₂ h₂ t₂ (s'.trans s₂)
theorem ev_or2 {x y : Expr} {pos : Pos} {a b : Bool} (h : EV W lv sc ρ x (.dat (.bool a))) (k : a = false → EV W lv sc ρ y (.dat (.bool b))) : EV W lv sc ρ (.BoolOp .Or [x, y] pos) (.dat (.bool (a || b))) := by
  intro A h₀ fenv L m mu fz env s Q E hA hE S hN c
  refine wpAny_Or2 (h A h₀ fenv L m mu fz env s _ E hA hE S hN fun v fz' h' t' s' S' R' => ?_)
  cases R'
  refine wpAny_truthy_bool ?_
  cases a with
  | true => exact c _ fz' h' t' s' S' (.bool true)
  | false => exact k rfl A h₀ fenv L m mu fz' env _ Q E hA hE S' (hN.grow s') fun v fz₂ h₂ t₂ s₂ => c v fz₂ h₂ t₂ (s'.trans s₂)
end

/-! lists of expressions -/
noncomputable def PRepA (W : Wd) (X : Fact) (MU : Led) : List Value → List PV → Prop
  | [], [] => True
  | v :: vs, p :: ps => PRep W X MU v p ∧ PRepA W X MU vs ps
  | _, _ => False
theorem PRepA.mono {W : Wd} {X Y : Fact} {MU MU' : Led} (s : FSub X Y) (t : Sub MU MU') : ∀ {vs : List Value} {ps : List PV}, PRepA W X MU vs ps → PRepA W Y MU' vs ps
  | [], [], _ => trivial
  | _ :: _, _ :: _, h => ⟨h.1.mono s t, h.2.mono s t⟩
theorem PRepA.dats {W : Wd} {X : Fact} {MU : Led} : ∀ {vs : List Value} {ds : List Dat}, PRepA W X MU vs (ds.map .dat) → RepA X vs ds
  | [], [], _ => .nil
  | _ :: _, _ :: _, h => .cons h.1 (PRepA.dats h.2)
  | [], _ :: _, h => h.elim
  | _ :: _, [], h => h.elim
noncomputable def nStar : Expr → Bool
  | .Starred .. => false
  | _ => true
theorem starEach_cons {e : Expr} {rest : List Expr} {env : Env} (h : nStar e = true) : starEach (e :: rest) env = (false, eval e env) :: starEach rest env := by
  cases e <;> first | rfl | cases h
theorem backTo_cons {pos : Pos} {t : Sem Value} {ts : List (Bool × Sem Value)} : backTo pos ((false, t) :: ts) = (false, t) :: backTo pos ts := rfl
inductive EVs (W : Wd) (lv : Nat) (sc : Scope) (ρ : Names) : List Expr → List PV → Prop
  | nil : EVs W lv sc ρ [] []
  | cons {e : Expr} {es : List Expr} {p : PV} {ps : List PV} : nStar e = true → EV W lv sc ρ e p → EVs W lv sc ρ es ps → EVs W lv sc ρ (e :: es) (p :: ps)

noncomputable def ContA (W : Wd) (h₀ : Heap) (L : Addr) (m : Str → Option Value) (mu fz : Led) (s : Shared) (ps : List PV) (Q : List Value → Shared → Prop) : Prop :=
  ∀ vs fz' h' tk', Sub fz fz' → SS W h₀ L m mu fz' h' → PRepA W (Hs W.base fz') mu vs ps → Q vs { s with heap := h', toks := tk' }
section
variable {W : Wd} {lv : Nat} {sc : Scope} {ρ : Names}
theorem spliced_ok {es : List Expr} {ps : List PV} {pos : Pos} (h : EVs W lv sc ρ es ps) : ∀ (A : Around) (h₀ : Heap) (fenv : Env) (L : Addr) (m : Str → Option Value) (mu fz : Led) (env : Env) (s : Shared) (Q : List Value → Shared → Prop) (E : Value → Shared → Prop),
    AOk W lv A h₀ fenv L → EnvOk env sc → SS W h₀ L m mu fz s.heap → NamesOk W env L m mu (mu ++ fz) (Hs W.base fz) ρ → ContA W h₀ L m mu fz s ps Q →
    wpAny (model W.prog W.w) A (spliced (backTo pos (starEach es env))) Q E s := by
  induction h with
  | nil =>
    intro A h₀ fenv L m mu fz env s Q E hA hE S hN k
    exact Calls.spliced_nil (k [] fz s.heap s.toks (Sub.refl _) S trivial)
  | cons hn h _ ih =>
    intro A h₀ fenv L m mu fz env s Q E hA hE S hN k
    rw [starEach_cons hn, backTo_cons]
    refine Calls.spliced_cons (h A h₀ fenv L m mu fz env s _ E hA hE S hN fun v fz' h' t' s' S' R' => ?_)
    refine ih A h₀ fenv L m mu fz' env _ _ E hA hE S' (hN.grow s') fun vs fz₂ h₂ t₂ s₂ S₂ R₂ => ?_
    exact k _ fz₂ h₂ t₂ (s'.trans s₂) S₂ ⟨R'.mono (Hs.sub s₂) (Sub.refl _), R₂⟩
theorem evs_star {es : List Expr} {ps : List PV} {pos : Pos} {env : Env} (h : EVs W lv sc ρ es ps) : (backTo pos (starEach es env)).any (·.1) = false := by
  induction h with
  | nil => rfl
  | cons hn h _ ih => rw [starEach_cons hn, backTo_cons, List.any_cons, ih]; rfl
theorem evalArgs_ok {es : List Expr} {ps : List PV} {pos : Pos} {f : Value} (h : EVs W lv sc ρ es ps) (A : Around) (h₀ : Heap) (fenv : Env) (L : Addr) (m : Str → Option Value) (mu fz : Led) (env : Env) (s : Shared) (Q : Args → Shared → Prop) (E : Value → Shared → Prop)
    (hA : AOk W lv A h₀ fenv L) (hE : EnvOk env sc) (S : SS W h₀ L m mu fz s.heap) (hN : NamesOk W env L m mu (mu ++ fz) (Hs W.base fz) ρ) (k : ContA W h₀ L m mu fz s ps fun vs s' => Q ⟨vs, []⟩ s') :
    wpAny (model W.prog W.w) A (evalArgs f true (backTo pos (starEach es env)) []) Q E s := by
  cases h with
  | nil => exact PySem.evalArgs_none (k [] fz s.heap s.toks (Sub.refl _) S trivial)
  | cons hn h hs =>
    have := spliced_ok (pos := pos) (.cons hn h hs) A h₀ fenv L m mu fz env s _ E hA hE S hN k
    rw [starEach_cons hn, backTo_cons] at this ⊢
    exact Calls.evalArgs_plain this
theorem ev_tuple {es : List Expr} {ds : List Dat} {kd : Nat} {pos : Pos} (h : EVs W lv sc ρ es (ds.map .dat)) (hz : ds.length ≤ 1048576 := by decide) : EV W lv sc ρ (.Tuple es kd pos) (.dat (.tuple ds)) := by
  intro A h₀ fenv L m mu fz env s Q E hA hE S hN k
  refine wpAny_Tuple (spliced_ok h A h₀ fenv L m mu fz env s _ E hA hE S hN fun vs fz' h' t' s' S' R' => ⟨?_, ?_⟩)
  · have := R'.dats.length; rw [sizeLine_eq]; (clear R' S' s' k hN S hE hA h; lia)
  · exact k _ _ _ _ (s'.trans .cons) (S'.push _) (.tuple (.inr (.head _)) rfl rfl (R'.dats.mono (Hs.sub .cons)))
theorem ev_list {es : List Expr} {ds : List Dat} {pos : Pos} (h : EVs W lv sc ρ es (ds.map .dat)) (hz : ds.length ≤ 1048576 := by decide) : EV W lv sc ρ (.List es pos) (.dat (.list ds)) := by
  intro A h₀ fenv L m mu fz env s Q E hA hE S hN k
  refine wpAny_List (spliced_ok h A h₀ fenv L m mu fz env s _ E hA hE S hN fun vs fz' h' t' s' S' R' => ⟨?_, ?_⟩)
  · have := R'.dats.length; rw [sizeLine_eq]; (clear R' S' s' k hN S hE hA h; lia)
  · exact k _ _ _ _ (s'.trans .cons) (S'.push _) (.list (.inr (.head _)) rfl rfl (R'.dats.mono (Hs.sub .cons)))
/-- a list display whose list may be turned later -/
noncomputable def EF (W : Wd) (lv : Nat) (sc : Scope) (ρ : Names) (e : Expr) (ds : List Dat) : Prop :=
  ∀ (A : Around) (h₀ : Heap) (fenv : Env) (L : Addr) (m : Str → Option Value) (mu fz : Led) (env : Env) (s : Shared) (Q E : Value → Shared → Prop),
    AOk W lv A h₀ fenv L → EnvOk env sc → SS W h₀ L m mu fz s.heap → NamesOk W env L m mu (mu ++ fz) (Hs W.base fz) ρ →
    (∀ l vs n fz' h' tk', Sub fz fz' → SS W h₀ L m ((l, listOf (List.toArray vs) n) :: mu) fz' h' → RepA (Hs W.base fz') vs ds → Q (.ref l) { s with heap := h', toks := tk' }) →
    wpAny (model W.prog W.w) A (eval e env) Q E s
theorem ef_list {es : List Expr} {ds : List Dat} {pos : Pos} (h : EVs W lv sc ρ es (ds.map .dat)) (hz : ds.length ≤ 1048576 := by decide) : EF W lv sc ρ (.List es pos) ds := by
  intro A h₀ fenv L m mu fz env s Q E hA hE S hN k
  refine wpAny_List (spliced_ok h A h₀ fenv L m mu fz env s _ E hA hE S hN fun vs fz' h' t' s' S' R' => ⟨?_, ?_⟩)
  · have := R'.dats.length; rw [sizeLine_eq]; (clear R' S' s' k hN S hE hA h; lia)
  · exact k _ vs 0 _ _ _ s' (S'.pushMu _) R'.dats

/-! names of the top -/
theorem eval_glob {x : Str} {pos : Pos} {v : Value} {A : Around} {h₀ : Heap} {fenv : Env} {L : Addr} {m : Str → Option Value} {mu fz : Led} {env : Env} {s : Shared} {Q E : Value → Shared → Prop}
    (hA : AOk W lv A h₀ fenv L) (hE : EnvOk env sc) (S : SS W h₀ L m mu fz s.heap) (hx : sc.names.lookup x = some .globalImplicit) (hp : (x == ("__debug__" : Str)) = false) (e : nsIn W.K mainGlobals x = some (some v)) (h : Q v s) :
    wpAny (model W.prog W.w) A (eval (.Name x pos) env) Q E s :=
  Name_function_global hE.kind (hE.gl x hx) (loadGlobal_global (env := env) (by rw [hE.glob]; exact hA.T.g.keeps S.fr.keep) (mg_of hA.K hA.T.g e) h) hp
theorem eval_boot {x : Str} {pos : Pos} {v : Value} {A : Around} {h₀ : Heap} {fenv : Env} {L : Addr} {m : Str → Option Value} {mu fz : Led} {env : Env} {s : Shared} {Q E : Value → Shared → Prop}
    (hA : AOk W lv A h₀ fenv L) (hE : EnvOk env sc) (S : SS W h₀ L m mu fz s.heap) (hx : sc.names.lookup x = some .globalImplicit) (hp : (x == ("__debug__" : Str)) = false) (hn : x ≠ "__name__") (e : nsIn W.K mainGlobals x = some none) (hb : bootBuiltins x = some v) (h : Q v s) :
    wpAny (model W.prog W.w) A (eval (.Name x pos) env) Q E s :=
  Name_function_global hE.kind (hE.gl x hx) (loadGlobal_builtin (env := env) (by rw [hE.glob]; exact hA.T.g.keeps S.fr.keep) (mg_none_of hA.K hA.T.g e) (by rw [hE.blt]; exact hA.T.b.keeps S.fr.keep) ((hA.T.builtins x hn).trans hb) h) hp

/-- what is asked of a built-in's name -/
structure Boot (W : Wd) (sc : Scope) (x : Str) (v : Value) : Prop where
  sc : sc.names.lookup x = some .globalImplicit
  dbg : (x == ("__debug__" : Str)) = false
  nm : x ≠ "__name__"
  top : nsIn W.K mainGlobals x = some none
  boot : bootBuiltins x = some v
theorem ev_bcall {x : Str} {np pos : Pos} {id : String} {es : List Expr} {ds : List Dat} {d : Dat} (hb : Boot W sc x (.builtin id)) (h : EVs W lv sc ρ es (ds.map .dat)) (ho : OpOk W lv ds (fun vs => call (.builtin id) vs) d) :
    EV W lv sc ρ (.Call (.Name x np) es [] pos) (.dat d) := by
  intro A h₀ fenv L m mu fz env s Q E hA hE S hN k
  refine wpAny_Call_ofName (eval_boot hA hE S hb.sc hb.dbg hb.nm hb.top hb.boot ?_)
  refine Calls.callWith_builtin (evs_star h) (evalArgs_ok h A h₀ fenv L m mu fz env s _ E hA hE S hN fun vs fz' h' t' s' S' R' => ?_)
  exact ho A h₀ fenv L m mu fz' _ vs _ _ hA S' R'.dats fun v fz₂ h₂ t₂ s₂ => k v fz₂ h₂ t₂ (s'.trans s₂)
theorem ev_tcall {x : Str} {np pos : Pos} {T : String} {es : List Expr} {ds : List Dat} {d : Dat} (hb : Boot W sc x (.type T)) (h : EVs W lv sc ρ es (ds.map .dat)) (ho : OpOk W lv ds (fun vs => call (.type T) vs) d) :
    EV W lv sc ρ (.Call (.Name x np) es [] pos) (.dat d) := by
  intro A h₀ fenv L m mu fz env s Q E hA hE S hN k
  refine wpAny_Call_ofName (eval_boot hA hE S hb.sc hb.dbg hb.nm hb.top hb.boot ?_)
  refine PySem.callWith_type (evs_star h) (evalArgs_ok h A h₀ fenv L m mu fz env s _ E hA hE S hN fun vs fz' h' t' s' S' R' => ?_)
  exact ho A h₀ fenv L m mu fz' _ vs _ _ hA S' R'.dats fun v fz₂ h₂ t₂ s₂ => k v fz₂ h₂ t₂ (s'.trans s₂)
/-- a call of a function value that a name holds -/
theorem ev_fcall {x : Str} {np pos : Pos} {es : List Expr} {ds : List Dat} {d : Dat} {lf : Nat} {F : List Dat → Option Dat} (hx : ρ.lookup x = some (.fn lf F)) (h : EVs W lv sc ρ es (ds.map .dat)) (hF : F ds = some d) (hl : lf ≤ lv) :
    EV W lv sc ρ (.Call (.Name x np) es [] pos) (.dat d) := by
  intro A h₀ fenv L m mu fz env s Q E hA hE S hN k
  obtain ⟨hp, v, l, r⟩ := hN x _ hx
  refine wpAny_Call_ofName (eval_name hE S l hp ?_)
  obtain ⟨a, o, fd, rfl, ho, hd, hc⟩ := r
  refine Calls.callWith_function (o := o) (fd := fd) (evalArgs_ok h A h₀ fenv L m mu fz env s _ E hA hE S hN fun vs fz' h' t' s' S' R' => ?_)
  refine ⟨⟨S'.has (Hs.sub s' _ _ ho), hd⟩, ?_⟩
  exact hc A h₀ fenv L m mu fz' _ vs ds d _ _ (hA.less hl) (Hs.sub s') S' R'.dats hF fun v fz₂ h₂ t₂ s₂ => k v fz₂ h₂ t₂ (s'.trans s₂)

/-! functions of the top -/
noncomputable def KRepA (W : Wd) (X : Fact) (MU : Led) : List (Str × Value) → List (Str × PV) → Prop
  | [], [] => True
  | v :: vs, p :: ps => v.1 = p.1 ∧ PRep W X MU v.2 p.2 ∧ KRepA W X MU vs ps
  | _, _ => False
/-- a def of the top that gives G of its arguments and turns nothing -/
noncomputable def GCall (W : Wd) (lv : Nat) (a : Addr) (G : List PV → List (Str × PV) → Dat → Prop) : Prop :=
  ∀ (A : Around) (h₀ : Heap) (fenv : Env) (L : Addr) (m : Str → Option Value) (mu fz : Led) (s : Shared) (vs : List Value) (kvs : List (Str × Value)) (ps : List PV) (kps : List (Str × PV)) (d : Dat) (Q E : Value → Shared → Prop),
    AOk W lv A h₀ fenv L → SS W h₀ L m mu fz s.heap → PRepA W (Hs W.base fz) mu vs ps → KRepA W (Hs W.base fz) mu kvs kps → G ps kps d →
    Cont W h₀ L m mu fz s (fun X v => Rep X v d) Q → wpAny (model W.prog W.w) A (call (.ref a) vs kvs) Q E s
/-- what is asked of a def's name -/
structure Glb (W : Wd) (sc : Scope) (x : Str) (a : Addr) : Prop where
  sc : sc.names.lookup x = some .globalImplicit
  dbg : (x == ("__debug__" : Str)) = false
  top : nsIn W.K mainGlobals x = some (some (.ref a))
  fn : ∃ o fd, W.K.lookup a = some o ∧ o.data = .func fd
theorem ev_gcall {x : Str} {np pos : Pos} {a : Addr} {es : List Expr} {ps : List PV} {d : Dat} {lf : Nat} {G : List PV → List (Str × PV) → Dat → Prop} (hb : Glb W sc x a) (hc : GCall W lf a G) (h : EVs W lv sc ρ es ps) (hG : G ps [] d) (hl : lf ≤ lv) :
    EV W lv sc ρ (.Call (.Name x np) es [] pos) (.dat d) := by
  intro A h₀ fenv L m mu fz env s Q E hA hE S hN k
  refine wpAny_Call_ofName (eval_glob hA hE S hb.sc hb.dbg hb.top ?_)
  obtain ⟨o, fd, hK, hd⟩ := hb.fn
  refine Calls.callWith_function (o := o) (fd := fd) (evalArgs_ok h A h₀ fenv L m mu fz env s _ E hA hE S hN fun vs fz' h' t' s' S' R' => ?_)
  refine ⟨⟨S'.fr.keep _ _ (hA.K _ _ hK), hd⟩, ?_⟩
  exact hc A h₀ fenv L m mu fz' _ vs [] ps [] d _ _ (hA.less hl) S' R' trivial hG fun v fz₂ h₂ t₂ s₂ => k v fz₂ h₂ t₂ (s'.trans s₂)
end
end Mine
end
section
open PySem PySem.W PyProof.Rows
set_option maxRecDepth 100000
namespace Mine
open PySem.Calls PySem.Spec PySem.SeqAt
section
variable {W : Wd} {X : Fact} {MU : Led} {vs : List Value} {kvs : List (Str × Value)} {p q r t : PV} {ps : List PV} {x : Str} {kps : List (Str × PV)}
theorem PRepA.i0 (h : PRepA W X MU vs []) : vs = [] := by
  cases vs with
  | nil => rfl
  | cons _ _ => cases h
theorem PRepA.ic (h : PRepA W X MU vs (p :: ps)) : ∃ v ws, vs = v :: ws ∧ PRep W X MU v p ∧ PRepA W X MU ws ps := by
  cases vs with
  | nil => cases h
  | cons v ws => exact ⟨v, ws, rfl, h.1, h.2⟩
theorem PRepA.i1 (h : PRepA W X MU vs [p]) : ∃ v1, vs = [v1] ∧ PRep W X MU v1 p := by
  obtain ⟨v1, _, rfl, h1, h⟩ := h.ic
  cases h.i0
  exact ⟨_, rfl, h1⟩
theorem PRepA.i2 (h : PRepA W X MU vs [p, q]) : ∃ v1 v2, vs = [v1, v2] ∧ PRep W X MU v1 p ∧ PRep W X MU v2 q := by
  obtain ⟨v1, _, rfl, h1, h⟩ := h.ic
  obtain ⟨v2, _, rfl, h2, h⟩ := h.ic
  cases h.i0
  exact ⟨_, _, rfl, h1, h2⟩
theorem PRepA.i3 (h : PRepA W X MU vs [p, q, r]) : ∃ v1 v2 v3, vs = [v1, v2, v3] ∧ PRep W X MU v1 p ∧ PRep W X MU v2 q ∧ PRep W X MU v3 r := by
  obtain ⟨v1, _, rfl, h1, h⟩ := h.ic
  obtain ⟨v2, v3, rfl, h2, h3⟩ := h.i2
  exact ⟨_, _, _, rfl, h1, h2, h3⟩
theorem PRepA.i4 (h : PRepA W X MU vs [p, q, r, t]) : ∃ v1 v2 v3 v4, vs = [v1, v2, v3, v4] ∧ PRep W X MU v1 p ∧ PRep W X MU v2 q ∧ PRep W X MU v3 r ∧ PRep W X MU v4 t := by
  obtain ⟨v1, _, rfl, h1, h⟩ := h.ic
  obtain ⟨v2, v3, v4, rfl, h2, h3⟩ := h.i3
  exact ⟨_, _, _, _, rfl, h1, h2, h3⟩
theorem KRepA.i0 (h : KRepA W X MU kvs []) : kvs = [] := by
  cases kvs with
  | nil => rfl
  | cons _ _ => cases h
theorem KRepA.i1 (h : KRepA W X MU kvs [(x, p)]) : ∃ v, kvs = [(x, v)] ∧ PRep W X MU v p := by
  cases kvs with
  | nil => cases h
  | cons a as =>
    obtain ⟨n, v⟩ := a
    obtain ⟨h1, h2, h3⟩ := h
    cases KRepA.i0 h3
    have h1 : n = x := h1
    subst h1
    exact ⟨v, rfl, h2⟩
end

section
variable {W : Wd} {h₀ h h' : Heap} {L : Addr} {m : Str → Option Value} {mu fz : Led}
/-- for rules that hand on a frame and a ledger -/
theorem SS.use (x : SS W h₀ L m mu fz h) : ∃ all : Led, News h₀ L h all ∧ (∀ h', Fr h₀ L h' m → News h₀ L h' all → SS W h₀ L m mu fz h') ∧
    (∀ h' D o, Fr h₀ L h' m → News h₀ L h' ((D, o) :: all) → (∀ p ∈ all, p.1 < D) → SS W h₀ L m mu ((D, o) :: fz) h') := by
  obtain ⟨F, ⟨gl, g, l⟩, bs⟩ := x
  refine ⟨gl ++ (mu ++ fz), l.news, fun h' F' N' => ⟨F', ⟨gl, g, N', l.nodup⟩, bs⟩, fun h' D o F' N' hD => ⟨F', ⟨gl, W.glMono (Hs.sub .cons) g, ?_⟩, bs⟩⟩
  have l' : Ld h₀ L h' ((D, o) :: (gl ++ (mu ++ fz))) := ⟨N', by
    rw [List.map_cons, List.nodup_cons]
    refine ⟨fun hm => ?_, l.nodup⟩
    obtain ⟨q, hq, e⟩ := List.mem_map.mp hm
    exact absurd (hD q hq) (by rw [e]; exact Nat.lt_irrefl _)⟩
  refine l'.perm ?_
  rw [← List.append_assoc, ← List.append_assoc]
  exact List.perm_middle.symm
end

noncomputable def noneD : Dat → Bool
  | .none => true
  | _ => false
/-! ints, more -/
section
variable {W : Wd} {lv : Nat} {a b : Int}
theorem op_pow (hn : 0 ≤ b) (hsz : (Builtin.Int.intBits a : Int) * b ≤ 2 ^ 27) : OpOk W lv [.int a, .int b] (fun vs => binaryOp .Pow (vs.getD 0 .none) (vs.getD 1 .none)) (.int (a ^ b.toNat)) :=
  op_of_ints fun _ _ _ _ _ _ _ k => PyProof.Rows.pow_int hn hsz (k _ _ fun _ => .int _ _)
theorem op_shl (hn : 0 ≤ b) (hsz : (Builtin.Int.intBits a : Int) + b ≤ 2 ^ 27) : OpOk W lv [.int a, .int b] (fun vs => binaryOp .LShift (vs.getD 0 .none) (vs.getD 1 .none)) (.int (a * 2 ^ b.toNat)) :=
  op_of_ints fun _ _ _ _ _ _ _ k => PyProof.Rows.lshift_int hn hsz (k _ _ fun _ => .int _ _)
theorem op_shr (hn : 0 ≤ b) : OpOk W lv [.int a, .int b] (fun vs => binaryOp .RShift (vs.getD 0 .none) (vs.getD 1 .none)) (.int (a.fdiv (2 ^ b.toNat))) :=
  op_of_ints fun _ _ _ _ _ _ _ k => PyProof.Rows.rshift_int hn (k _ _ fun _ => .int _ _)
theorem op_xor : OpOk W lv [.int a, .int b] (fun vs => binaryOp .BitXor (vs.getD 0 .none) (vs.getD 1 .none)) (.int (Builtin.bitXor a b)) :=
  op_of_ints fun _ _ _ _ _ _ _ k => PyProof.Rows.xor_int (k _ _ fun _ => .int _ _)
theorem op_neg : OpOk W lv [.int a] (fun vs => unaryOp .USub (vs.getD 0 .none)) (.int (-a)) :=
  op_of_int fun _ _ _ _ _ _ k => P.neg_int (k _ _ fun _ => .int _ _)
theorem op_lt : OpOk W lv [.int a, .int b] (fun vs => compareOp .Lt (vs.getD 0 .none) (vs.getD 1 .none)) (.bool (decide (a < b))) :=
  op_of_ints fun _ _ s _ _ _ _ k => P.lt_int (k _ s.toks fun _ => .bool _)
theorem op_le : OpOk W lv [.int a, .int b] (fun vs => compareOp .LtE (vs.getD 0 .none) (vs.getD 1 .none)) (.bool (decide (a ≤ b))) :=
  op_of_ints fun _ _ s _ _ _ _ k => P.le_int (k _ s.toks fun _ => .bool _)
theorem op_gt : OpOk W lv [.int a, .int b] (fun vs => compareOp .Gt (vs.getD 0 .none) (vs.getD 1 .none)) (.bool (decide (a > b))) :=
  op_of_ints fun _ _ s _ _ _ _ k => P.gt_int (k _ s.toks fun _ => .bool _)
theorem op_eqi : OpOk W lv [.int a, .int b] (fun vs => compareOp .Eq (vs.getD 0 .none) (vs.getD 1 .none)) (.bool (a == b)) :=
  op_of_ints fun _ _ s _ _ _ _ k => P.eq_int (k _ s.toks fun _ => .bool _)
theorem op_nei : OpOk W lv [.int a, .int b] (fun vs => compareOp .NotEq (vs.getD 0 .none) (vs.getD 1 .none)) (.bool (a != b)) :=
  op_of_ints fun _ _ s _ _ _ _ k => P.ne_int (k _ s.toks fun _ => .bool _)
theorem op_is_none {d : Dat} : OpOk W lv [d, .none] (fun vs => compareOp .Is (vs.getD 0 .none) (vs.getD 1 .none)) (.bool (noneD d)) := by
  intro A h₀ fenv L m mu fz s vs Q E hA S R k
  cases R with
  | cons r1 R => cases R with
    | cons r2 R =>
      cases R; cases r2
      refine is_none ?_
      have := k (.bool (noneD d)) fz s.heap s.toks (Sub.refl _) S (.bool _)
      cases r1 <;> exact this
theorem op_divmod (h : b ≠ 0) (hp : Builtin.divisionGoesByPylong a b = false) : OpOk W lv [.int a, .int b] (fun vs => call (.builtin "divmod") vs) (.tuple [.int (a.fdiv b), .int (a.fmod b)]) := by
  intro A h₀ fenv L m mu fz s vs Q E hA S R k
  cases R with
  | cons r1 R => cases R with
    | cons r2 R =>
      cases R; cases r1; cases r2
      refine divmod_int h ?_ (.inl hp)
      exact k _ _ _ _ .cons (S.push _) (.tuple (vs := [_, _]) (.inr (.head _)) rfl rfl (.cons (.int _ _) (.cons (.int _ _) .nil)))
theorem op_abs : OpOk W lv [.int a] (fun vs => call (.builtin "abs") vs) (.int (a.natAbs : Int)) := by
  intro A h₀ fenv L m mu fz s vs Q E hA S R k
  cases R with
  | cons r1 R =>
    cases R; cases r1
    refine call_abs_int fun u tk => ?_
    have e : (if a < 0 then -a else a) = (a.natAbs : Int) := by split <;> (clear k S hA; lia)
    rw [e]
    exact k _ fz s.heap tk (Sub.refl _) S (.int _ _)
theorem op_int_int : OpOk W lv [.int a] (fun vs => call (.type "int") vs) (.int a) := by
  intro A h₀ fenv L m mu fz s vs Q E hA S R k
  cases R with
  | cons r1 R =>
    cases R; cases r1
    exact PySem.call_int_int (k _ fz s.heap s.toks (Sub.refl _) S (.int _ _))
theorem op_int_bool {c : Bool} : OpOk W lv [.bool c] (fun vs => call (.type "int") vs) (.int (if c then 1 else 0)) := by
  intro A h₀ fenv L m mu fz s vs Q E hA S R k
  cases R with
  | cons r1 R =>
    cases R; cases r1
    exact PySem.call_int_bool (k _ fz s.heap _ (Sub.refl _) S (.int _ _))
end

/-! lists -/
theorem Rep.isList {X : Fact} {v : Value} {ds : List Dat} {h : Heap} (r : Rep X v (.list ds)) (hX : ∀ a o, X a o → h.get? a = some o) : ∃ l vs, v = .ref l ∧ h.IsList l (List.toArray vs) ∧ RepA X vs ds := by
  cases r with
  | @list l o vs n ds hx hc hd r => exact ⟨l, vs, rfl, ⟨o, hX _ _ hx, hc, n, hd⟩, r⟩
theorem Rep.isTup {X : Fact} {v : Value} {ds : List Dat} {h : Heap} (r : Rep X v (.tuple ds)) (hX : ∀ a o, X a o → h.get? a = some o) : ∃ l vs, v = .ref l ∧ IsTup h l (List.toArray vs) ∧ h.IsTuple l (List.toArray vs) ∧ RepA X vs ds := by
  cases r with
  | @tuple l o vs n ds hx hc hd r => exact ⟨l, vs, rfl, ⟨o, hX _ _ hx, hc, n, hd⟩, ⟨o, hX _ _ hx, hc, n, hd⟩, r⟩
theorem IntsAre.items {vs : List Value} {ns : List Int} (h : IntsAre vs ns) : ∃ xs : Array (Int × Tok), vs.toArray = intItems xs ∧ preSum (numAt xs) xs.size = ns.sum := by
  obtain ⟨xs, e⟩ := h.allInts.items
  refine ⟨xs, e, ?_⟩
  rw [preSum_eq, List.take_of_length_le (by simp), ← nums_intItems, ← e]
  show (numsOf vs).sum = _
  rw [h.numsOf]
section
variable {W : Wd} {lv : Nat} {ds es : List Dat}
theorem op_len_tuple (hz : ds.length ≤ 1048576) : OpOk W lv [.tuple ds] (fun vs => call (.builtin "len") vs) (.int ds.length) := by
  intro A h₀ fenv L m mu fz s vs Q E hA S R k
  cases R with
  | cons r1 R =>
    cases R
    obtain ⟨l, vs, rfl, it, _, ra⟩ := r1.isTup S.facts
    refine PyProof.Rows.len_tuple it (by rw [List.size_toArray, ra.length]; lia) ?_
    rw [List.size_toArray, ra.length]
    exact k _ fz s.heap _ (Sub.refl _) S (.int _ _)
theorem op_sum {ns : List Int} : OpOk W lv [.list (ns.map .int)] (fun vs => call (.builtin "sum") vs) (.int ns.sum) := by
  intro A h₀ fenv L m mu fz s vs Q E hA S R k
  cases R with
  | cons r1 R =>
    cases R
    obtain ⟨l, vs, rfl, il, ra⟩ := r1.isList S.facts
    obtain ⟨xs, e, hs⟩ := IntsAre.items ra.ints
    rw [e] at il
    refine sum_intListG hA.hh il fun h' tk t' hk => ?_
    rw [hs]
    exact k _ fz h' tk (Sub.refl _) (S.grown hk) (.int _ _)
theorem op_sorted {ns ns₁ : List Int} (h64 : ns.length < 64) (hs : ∀ ns', ns'.Perm ns → ns'.Pairwise (· ≤ ·) → ns' = ns₁) : OpOk W lv [.list (ns.map .int)] (fun vs => call (.builtin "sorted") vs) (.list (ns₁.map .int)) := by
  intro A h₀ fenv L m mu fz s vs Q E hA S R k
  cases R with
  | cons r1 R =>
    cases R
    obtain ⟨l, vs, rfl, il, ra⟩ := r1.isList S.facts
    obtain ⟨all, N, _, back⟩ := S.use
    refine sorted_N S.fr N il ra.ints (by rw [ra.length, List.length_map]; exact h64) fun h' vs' ns' e F' N' hI hp hw => ?_
    have := hs ns' hp hw
    subst this
    refine k _ _ h' s.toks .cons (back h' _ _ F' N' fun p hp => Nat.lt_succ_of_lt (Heap.lt_size (N p hp).1)) (.list (.inr (.head _)) rfl rfl (RepA.of_ints hI))
end
/-! bytes -/
section
variable {W : Wd} {lv : Nat} {b c : Array UInt8}
theorem op_add_bytes (hz : b.size + c.size ≤ 16777216) : OpOk W lv [.bytes b, .bytes c] (fun vs => binaryOp .Add (vs.getD 0 .none) (vs.getD 1 .none)) (.bytes (b ++ c)) := by
  intro A h₀ fenv L m mu fz s vs Q E hA S R k
  cases R with
  | cons r1 R => cases R with
    | cons r2 R =>
      cases R; cases r1; cases r2
      exact KBy.add_bytes hz fun t' k' => k _ fz s.heap k' (Sub.refl _) S (.bytes _ _)
theorem op_mul_bytes {x : List UInt8} {n : Int} (hb : x ≠ []) (hlo : -1048576 ≤ n) (hn : n ≤ 1048576) (hs : x.length ≤ 16) : OpOk W lv [.bytes x.toArray, .int n] (fun vs => binaryOp .Mult (vs.getD 0 .none) (vs.getD 1 .none)) (.bytes ((List.replicate n.toNat x).flatten).toArray) := by
  intro A h₀ fenv L m mu fz s vs Q E hA S R k
  cases R with
  | cons r1 R => cases R with
    | cons r2 R =>
      cases R; cases r1; cases r2
      exact PySem.W.bytes_mul_any hb hlo hn hs fun t' k' => k _ fz s.heap k' (Sub.refl _) S (.bytes _ _)
theorem op_bytes {ns : List Int} (hr : ∀ n ∈ ns, 0 ≤ n ∧ n < 256) (hz : ns.length ≤ 1048576) : OpOk W lv [.list (ns.map .int)] (fun vs => call (.type "bytes") vs) (.bytes (byteArr ns)) := by
  intro A h₀ fenv L m mu fz s vs Q E hA S R k
  cases R with
  | cons r1 R =>
    cases R
    obtain ⟨l, vs, rfl, il, ra⟩ := r1.isList S.facts
    refine call_bytes_ints il ra.ints hr (by rw [ra.length, List.length_map, sizeLine_eq]; (clear ra il r1 k S hA hr; lia)) hA.hh fun h' t k' hk => ?_
    exact k _ fz h' k' (Sub.refl _) (S.grown hk) (.bytes _ _)
end
end Mine
end
section
open PySem PySem.W PyProof.Rows
set_option maxRecDepth 100000
namespace Mine
open PySem.Calls PySem.Spec PySem.SeqAt

noncomputable def PV.items? : PV → Option (List Dat)
  | .dat (.list ds) => some ds
  | .lst ds => some ds
  | _ => none
theorem PRep.items {W : Wd} {h₀ h : Heap} {L : Addr} {m : Str → Option Value} {mu fz : Led} {v : Value} {pv : PV} {ds : List Dat} (S : SS W h₀ L m mu fz h) (r : PRep W (Hs W.base fz) mu v pv) (e : pv.items? = some ds) :
    ∃ l vs, v = .ref l ∧ h.IsList l (List.toArray vs) ∧ RepA (Hs W.base fz) vs ds := by
  cases pv with
  | dat d =>
    cases d <;> simp [PV.items?] at e
    subst e
    exact Rep.isList r fun _ _ q => S.has q
  | lst es =>
    simp [PV.items?] at e
    subst e
    obtain ⟨l, o, vs, n, rfl, hm, hc, _, hd, ra⟩ := r
    exact ⟨l, vs, rfl, ⟨o, S.ofMu hm, hc, n, hd⟩, ra⟩
  | fn _ _ => simp [PV.items?] at e

theorem subscripted_any (slice : Expr) (o i : Value) : ∃ ops, subscripted slice false o i = operate ops (getItem o i) := by
  unfold subscripted
  split
  · exact ⟨_, rfl⟩
  · rename_i h; cases h
  · exact ⟨_, rfl⟩

/-- the place that an int says -/
noncomputable def seqAt {α : Type} (l : List α) (i : Int) : Option α := if i < 0 then (if -(l.length : Int) ≤ i then l[(i + l.length).toNat]? else none) else l[i.toNat]?
theorem seqAt_idx {α : Type} {l : List α} {i : Int} {x : α} (h : seqAt l i = some x) : ∃ k, seqIndex? i l.length = some k ∧ l[k]? = some x := by
  unfold seqAt at h
  unfold seqIndex?
  by_cases h0 : i < 0
  · rw [if_pos h0] at h
    by_cases h1 : -(l.length : Int) ≤ i
    · rw [if_pos h1] at h
      refine ⟨_, ?_, h⟩
      have h2 : 0 ≤ i + (l.length : Int) := by (clear h0 h; lia)
      have h3 : i + (l.length : Int) < l.length := by (clear h2 h1 h; lia)
      simp [h0, h2, h3]
    · rw [if_neg h1] at h; cases h
  · rw [if_neg h0] at h
    refine ⟨_, ?_, h⟩
    have h1 := (List.getElem?_eq_some_iff.mp h).1
    have h2 : 0 ≤ i := by (clear h1 h; lia)
    have h3 : i < (l.length : Int) := by (clear h2 h; lia)
    simp [h0, h2, h3]

section
variable {W : Wd} {lv : Nat} {sc : Scope} {ρ : Names}
theorem ev_item {e i : Expr} {pos : Pos} {pv : PV} {ds : List Dat} {k : Int} {d : Dat} (h : EV W lv sc ρ e pv) (hi : pv.items? = some ds) (hk : EV W lv sc ρ i (.dat (.int k))) (hd : seqAt ds k = some d) (hz : ds.length ≤ 1048576) :
    EV W lv sc ρ (.Subscript e i pos) (.dat d) := by
  intro A h₀ fenv L m mu fz env s Q E hA hE S hN c
  refine Subscript_ (h A h₀ fenv L m mu fz env s _ E hA hE S hN fun v fz₁ h₁ t₁ s₁ S₁ R₁ => ?_)
  refine hk A h₀ fenv L m mu fz₁ env _ _ E hA hE S₁ (hN.grow s₁) fun vi fz₂ h₂ t₂ s₂ S₂ R₂ => ?_
  obtain ⟨u, rfl⟩ : ∃ u, vi = .int k u := by cases R₂; exact ⟨_, rfl⟩
  obtain ⟨l, vs, rfl, il, ra⟩ := PRep.items S₂ (R₁.mono (Hs.sub s₂) (Sub.refl _)) hi
  obtain ⟨ops, hops⟩ := subscripted_any i (.ref l) (.int k u)
  have hlen := ra.length
  have fin : ∀ j v, vs[j]? = some v → ds[j]? = some d → Q v { s with heap := h₂, toks := t₂ } := fun j v hv hd' => by
    obtain ⟨d', e1, r⟩ := ra.get' hv
    rw [hd'] at e1; cases e1
    exact c v fz₂ h₂ t₂ (s₁.trans s₂) S₂ r
  refine PyProof.Rows.tail_any il.typeIs slot_list_getitem.lookup ?_ hops
  unfold seqAt at hd
  by_cases h0 : k < 0
  · rw [if_pos h0] at hd
    by_cases h1 : -(ds.length : Int) ≤ k
    · rw [if_pos h1] at hd
      have hlt := (List.getElem?_eq_some_iff.mp hd).1
      obtain ⟨v, hv⟩ : ∃ v, vs[(k + ds.length).toNat]? = some v := ⟨_, List.getElem?_eq_getElem (by rw [hlen]; exact hlt)⟩
      refine wpAny_getItem_list_neg il h0 (by rw [List.size_toArray, hlen]; exact h1) (by (clear hv hlt h0 fin hops ra il R₁ R₂ S₂ s₂ S₁ s₁ c hN S hE hA hd hk hi h; lia)) (x := v) ?_ (fin _ _ hv hd)
      rw [List.size_toArray, hlen, List.getElem?_toArray]; exact hv
    · rw [if_neg h1] at hd; cases hd
  · rw [if_neg h0] at hd
    have hlt := (List.getElem?_eq_some_iff.mp hd).1
    obtain ⟨v, hv⟩ : ∃ v, vs[k.toNat]? = some v := ⟨_, List.getElem?_eq_getElem (by rw [hlen]; exact hlt)⟩
    exact wpAny_getItem_list il (by (clear hv hlt fin hlen hops ra il R₁ R₂ S₂ s₂ S₁ s₁ c hN S hE hA hz hd hk hi h; lia)) (by (clear hv h0 fin hops ra il R₁ R₂ S₂ s₂ S₁ s₁ c hN S hE hA hd hk hi h; lia)) (x := v) (by rw [List.getElem?_toArray]; exact hv) (fin _ _ hv hd)
theorem ev_titem {e i : Expr} {pos : Pos} {ds : List Dat} {k : Int} {d : Dat} (h : EV W lv sc ρ e (.dat (.tuple ds))) (hk : EV W lv sc ρ i (.dat (.int k))) (hd : seqAt ds k = some d) (hz : ds.length ≤ 1048576 := by decide) :
    EV W lv sc ρ (.Subscript e i pos) (.dat d) := by
  intro A h₀ fenv L m mu fz env s Q E hA hE S hN c
  refine Subscript_ (h A h₀ fenv L m mu fz env s _ E hA hE S hN fun v fz₁ h₁ t₁ s₁ S₁ R₁ => ?_)
  refine hk A h₀ fenv L m mu fz₁ env _ _ E hA hE S₁ (hN.grow s₁) fun vi fz₂ h₂ t₂ s₂ S₂ R₂ => ?_
  obtain ⟨u, rfl⟩ : ∃ u, vi = .int k u := by cases R₂; exact ⟨_, rfl⟩
  obtain ⟨l, vs, rfl, it, it', ra⟩ := Rep.isTup (Rep.mono (Hs.sub s₂) R₁) fun _ _ q => S₂.has q
  obtain ⟨ops, hops⟩ := subscripted_any i (.ref l) (.int k u)
  have hlen := ra.length
  obtain ⟨j, hj, hdj⟩ := seqAt_idx hd
  have hlt := (List.getElem?_eq_some_iff.mp hdj).1
  obtain ⟨v, hv⟩ : ∃ v, vs[j]? = some v := ⟨_, List.getElem?_eq_getElem (by rw [hlen]; exact hlt)⟩
  have hk2 : -(ds.length : Int) ≤ k ∧ k < (ds.length : Int) := by
    unfold seqAt at hd
    by_cases h0 : k < 0
    · rw [if_pos h0] at hd
      by_cases h1 : -(ds.length : Int) ≤ k
      · exact ⟨h1, by (clear hv hlt hdj hj hops ra it' it R₁ R₂ S₂ s₂ S₁ s₁ c hN S hE hA hz hd hk h; lia)⟩
      · rw [if_neg h1] at hd; cases hd
    · rw [if_neg h0] at hd
      have := (List.getElem?_eq_some_iff.mp hd).1
      (clear hv hlt hdj hj hops ra it' it R₁ R₂ S₂ s₂ S₁ s₁ c hN S hE hA hd hk h; lia)
  refine PyProof.Rows.tail_any it'.typeIs F.slot_tuple_getitem.lookup (PyProof.Rows.getItem_tuple it (by (clear hv hlt hdj hj hops ra it' it R₁ R₂ S₂ s₂ S₁ s₁ c hN S hE hA hd hk h; lia)) (by (clear hv hlt hdj hj hops ra it' it R₁ R₂ S₂ s₂ S₁ s₁ c hN S hE hA hd hk h; lia)) (j := j) (x := v) (by rw [List.size_toArray, hlen]; exact hj) (by rw [List.getElem?_toArray]; exact hv) ?_) hops
  obtain ⟨d', e1, r⟩ := ra.get' hv
  rw [hdj] at e1; cases e1
  exact c _ fz₂ h₂ t₂ (s₁.trans s₂) S₂ r

/-! slices -/
noncomputable def pick {α : Type} (l : List α) (lo hi st : Option Int) : List α :=
  (sliceRange (sliceBounds lo hi st l.length).1 (sliceBounds lo hi st l.length).2.1 (sliceBounds lo hi st l.length).2.2).filterMap (l[·]?)
theorem RepA.pick {X : Fact} {vs : List Value} {ds : List Dat} (ra : RepA X vs ds) (lo hi st : Option Int) : RepA X (slicePick vs.toArray lo hi st).toList (Mine.pick ds lo hi st) := by
  unfold slicePick Mine.pick
  rw [List.size_toArray, ra.length]
  generalize sliceRange _ _ _ = ix
  show RepA X (ix.filterMap (vs.toArray[·]?)) _
  induction ix with
  | nil => exact .nil
  | cons i ix ih =>
    rw [List.filterMap_cons, List.filterMap_cons]
    have e : vs.toArray[i]? = vs[i]? := by simp
    rw [e]
    cases hv : vs[i]? with
    | none =>
      have hd : ds[i]? = none := by
        rw [List.getElem?_eq_none_iff] at hv ⊢; rw [← ra.length]; exact hv
      rw [hd]; exact ih
    | some v =>
      obtain ⟨d, hd, r⟩ := ra.get' hv
      rw [hd]; exact .cons r ih
inductive EP (W : Wd) (lv : Nat) (sc : Scope) (ρ : Names) : Option Expr → Option Int → Prop
  | none : EP W lv sc ρ none none
  | some {e : Expr} {i : Int} : EV W lv sc ρ e (.dat (.int i)) → EP W lv sc ρ (some e) (some i)
theorem ep_ok {oe : Option Expr} {oi : Option Int} (h : EP W lv sc ρ oe oi) (A : Around) (h₀ : Heap) (fenv : Env) (L : Addr) (m : Str → Option Value) (mu fz : Led) (env : Env) (s : Shared) (Q E : Value → Shared → Prop)
    (hA : AOk W lv A h₀ fenv L) (hE : EnvOk env sc) (S : SS W h₀ L m mu fz s.heap) (hN : NamesOk W env L m mu (mu ++ fz) (Hs W.base fz) ρ)
    (k : ∀ v fz' h' tk', Sub fz fz' → SS W h₀ L m mu fz' h' → IsPart v oi → Q v { s with heap := h', toks := tk' }) : wpAny (model W.prog W.w) A (evalPart oe env) Q E s := by
  cases h with
  | none => exact wpAny_pure (k _ fz s.heap s.toks (Sub.refl _) S .none)
  | some h => exact h A h₀ fenv L m mu fz env s Q E hA hE S hN fun v fz' h' t' s' S' R' => by cases R'; exact k _ fz' h' t' s' S' (.int _ _)
theorem ev_slice {e : Expr} {lo hi st : Option Expr} {a b c : Option Int} {sp pos : Pos} {pv : PV} {ds : List Dat} (h : EV W lv sc ρ e pv) (hi' : pv.items? = some ds) (ha : EP W lv sc ρ lo a) (hb : EP W lv sc ρ hi b) (hc : EP W lv sc ρ st c) (h0 : c ≠ some 0) (hz : ds.length ≤ 1048576) :
    EV W lv sc ρ (.Subscript e (.Slice lo hi st sp) pos) (.dat (.list (pick ds a b c))) := by
  intro A h₀ fenv L m mu fz env s Q E hA hE S hN k
  refine Subscript_ (h A h₀ fenv L m mu fz env s _ E hA hE S hN fun v fz₁ h₁ t₁ s₁ S₁ R₁ => ?_)
  refine wpAny_Slice (ep_ok ha A h₀ fenv L m mu fz₁ env _ _ E hA hE S₁ (hN.grow s₁) fun va fz₂ h₂ t₂ s₂ S₂ R₂ => ?_)
  refine ep_ok hb A h₀ fenv L m mu fz₂ env _ _ E hA hE S₂ (hN.grow (s₁.trans s₂)) fun vb fz₃ h₃ t₃ s₃ S₃ R₃ => ?_
  refine ep_ok hc A h₀ fenv L m mu fz₃ env _ _ E hA hE S₃ (hN.grow (s₁.trans (s₂.trans s₃))) fun vc fz₄ h₄ t₄ s₄ S₄ R₄ => ?_
  have S₅ := S₄.push { cls := .type "slice", data := .fields #[va, vb, vc] }
  obtain ⟨l, vs, rfl, il, ra⟩ := PRep.items S₅ (R₁.mono (Hs.sub (s₂.trans (s₃.trans (s₄.trans .cons)))) (Sub.refl _)) hi'
  obtain ⟨ops, hops⟩ := subscripted_any (.Slice lo hi st sp) (.ref l) (.ref h₄.objs.size)
  refine PyProof.Rows.tail_any il.typeIs slot_list_getitem.lookup (wpAny_getItem_list_slice il (Heap.IsSliceOf.new _ _ _ _) R₂ R₃ R₄ h0 ?_ (by rw [List.size_toArray, ra.length, sizeLine_eq]; (clear hops ra il R₁ S₅ R₄ S₄ s₄ R₃ S₃ s₃ R₂ S₂ s₂ S₁ s₁ k hN S hE hA h0 hc hb ha hi' h; lia))) hops
  refine k _ _ _ _ (s₁.trans (s₂.trans (s₃.trans (s₄.trans (Sub.cons.trans .cons))))) (S₅.push _) ?_
  exact Rep.list (vs := (slicePick vs.toArray a b c).toList) (n := 0) (.inr (.head _)) rfl (by simp) ((ra.pick a b c).mono (Hs.sub .cons))
theorem ev_bslice {e : Expr} {lo hi : Option Expr} {a b : Option Int} {sp pos : Pos} {x : Array UInt8} (h : EV W lv sc ρ e (.dat (.bytes x))) (ha : EP W lv sc ρ lo a) (hb : EP W lv sc ρ hi b) (hz : x.size ≤ 1048576) :
    EV W lv sc ρ (.Subscript e (.Slice lo hi none sp) pos) (.dat (.bytes (KBy.picked x a b))) := by
  intro A h₀ fenv L m mu fz env s Q E hA hE S hN k
  refine Subscript_ (h A h₀ fenv L m mu fz env s _ E hA hE S hN fun v fz₁ h₁ t₁ s₁ S₁ R₁ => ?_)
  obtain ⟨u, rfl⟩ : ∃ u, v = .bytes x u := by cases R₁; exact ⟨_, rfl⟩
  refine wpAny_Slice (ep_ok ha A h₀ fenv L m mu fz₁ env _ _ E hA hE S₁ (hN.grow s₁) fun va fz₂ h₂ t₂ s₂ S₂ R₂ => ?_)
  refine ep_ok hb A h₀ fenv L m mu fz₂ env _ _ E hA hE S₂ (hN.grow (s₁.trans s₂)) fun vb fz₃ h₃ t₃ s₃ S₃ R₃ => ?_
  refine wpAny_pure ?_
  have S₅ := S₃.push { cls := .type "slice", data := .fields #[va, vb, .none] }
  obtain ⟨ops, hops⟩ := subscripted_any (.Slice lo hi none sp) (.bytes x u) (.ref h₃.objs.size)
  refine PyProof.Rows.tail_any (typeIs_bytes _ _ _) FB.slot_bytes_getitem.lookup (getItem_meets (typeIs_bytes _ _ _) (by decide) FB.slot_bytes_getitem FB.entry_bytes_getitem (FB.args_bytes_getitem_2 _ _) (KBc.meets_slice2 x _ _ R₂ R₃) ?_) hops
  refine ⟨Heap.IsSliceOf.new _ _ _ _, Nat.le_trans (KBc.size_picked_le x a b) (by rw [sizeLine_eq]; (clear hops S₅ R₃ S₃ s₃ R₂ S₂ s₂ R₁ S₁ s₁ k hN S hE hA hb ha h; lia)), fun t' k' => ?_⟩
  exact k _ _ _ k' (s₁.trans (s₂.trans (s₃.trans .cons))) S₅ (.bytes _ _)

/-! methods -/
theorem ev_bitlen {e : Expr} {apos pos : Pos} {i : Int} (h : EV W lv sc ρ e (.dat (.int i))) (hbase : ∀ env, attributeBase e (Str.ofString "bit_length") env (eval e env) = eval e env := by intro _; rfl) (hline : (apos.endLine == pos.line) = true := by rfl) :
    EV W lv sc ρ (.Call (.Attribute e (Str.ofString "bit_length") apos) [] [] pos) (.dat (.int (Builtin.Int.intBits i : Nat))) := by
  intro A h₀ fenv L m mu fz env s Q E hA hE S hN k
  refine wpAny_Call_method0_late (hbase env) hline (h A h₀ fenv L m mu fz env s _ E hA hE S hN fun v fz₁ h₁ t₁ s₁ S₁ R₁ => ?_)
  cases R₁
  refine ⟨"int", "int.bit_length", F.plainAttrs_int, F.slot_int_bit_length, F.type_int_bit_length, typeIs_int _ _ _, (fun a q => nomatch q), ?_⟩
  refine Calls.callWith_builtin rfl (PySem.evalArgs_none ?_)
  exact call_int_bit_length (k _ fz₁ h₁ _ s₁ S₁ (.int _ _))
/-- isinstance(x, T) where it holds -/
noncomputable def typeOfD : Dat → String
  | .none => "NoneType"
  | .bool _ => "bool"
  | .int _ => "int"
  | .str _ => "str"
  | .bytes _ => "bytes"
  | .tuple _ => "tuple"
  | .list _ => "list"
theorem Rep.typeIs {X : Fact} {v : Value} {d : Dat} {s : Shared} (r : Rep X v d) (hX : ∀ a o, X a o → s.heap.get? a = some o) : s.TypeIs v (typeOfD d) := by
  cases r with
  | none => exact rfl
  | bool _ => exact rfl
  | int _ _ => exact rfl
  | str _ _ => exact rfl
  | bytes _ _ => exact rfl
  | tuple h c _ _ => exact ⟨_, hX _ _ h, c⟩
  | list h c _ _ => exact ⟨_, hX _ _ h, c⟩
theorem ev_isinst {e : Expr} {x T : Str} {Ts : String} {np tp pos : Pos} {d : Dat} (hb : Boot W sc x (.builtin "isinstance")) (hT : Boot W sc T (.type Ts)) (h : EV W lv sc ρ e (.dat d)) (hn : nStar e = true) (hd : typeOfD d = Ts) (hty : typeOf (.type Ts) = pure (.type "type")) (hsub : isSubtype (.type Ts) (.type Ts) = pure true) :
    EV W lv sc ρ (.Call (.Name x np) [e, .Name T tp] [] pos) (.dat (.bool true)) := by
  intro A h₀ fenv L m mu fz env s Q E hA hE S hN k
  refine wpAny_Call_ofName (eval_boot hA hE S hb.sc hb.dbg hb.nm hb.top hb.boot ?_)
  rw [starEach_cons hn, starEach_cons (e := .Name T tp) rfl, backTo_cons, backTo_cons]
  refine Calls.callWith_builtin rfl (Calls.evalArgs_plain (Calls.spliced_cons (h A h₀ fenv L m mu fz env s _ E hA hE S hN fun v fz₁ h₁ t₁ s₁ S₁ R₁ => ?_)))
  refine Calls.spliced_cons (eval_boot hA hE S₁ hT.sc hT.dbg hT.nm hT.top hT.boot (Calls.spliced_nil ?_))
  refine call_isinstance (isinstance_true hty hsub) ⟨hd ▸ Rep.typeIs R₁ (fun _ _ q => S₁.has q), ?_⟩
  exact k _ fz₁ h₁ t₁ s₁ S₁ (.bool true)
end
end Mine
end
section
open PySem PySem.W PyProof.Rows
set_option maxRecDepth 100000
namespace Mine
open PySem.Calls PySem.Spec PySem.SeqAt

/-! storing a name -/
/-- a name that the frame's own store reaches -/
noncomputable def Sto (env : Env) (L : Addr) (loc : Led) (x : Str) : Prop :=
  (env.kindOf x = some .local ∧ (env.locals = L ∨ ∃ o mm, (env.locals, o) ∈ loc ∧ ObjNs o mm)) ∨
  (env.kindOf x = some .cell ∧ ∃ c o v₀, env.cells.lookup x = some c ∧ (c, o) ∈ loc ∧ o.data = .cell v₀)

/-- what a store of x leaves as it was -/
structure Stored (env : Env) (L : Addr) (m : Str → Option Value) (loc : Led) (m' : Str → Option Value) (loc' : Led) (x : Str) (v : Value) : Prop where
  new : ∀ N, Loads env L m' (loc' ++ N) x v
  old : ∀ N y u, y ≠ x → (∀ a o o', (a, o) ∈ loc ++ N → (a, o') ∈ loc ++ N → o = o') → Loads env L m (loc ++ N) y u → Loads env L m' (loc' ++ N) y u
  sto : ∀ y, Sto env L loc y → Sto env L loc' y
  fst : loc'.map (·.1) = loc.map (·.1)
  mm : env.locals ≠ L → m' = m
  keep : ∀ a o, (a, o) ∈ loc → (∀ es n, o.data ≠ .dict es n) → (∀ v, o.data ≠ .cell v) → (a, o) ∈ loc'

/-- what a store leaves of the heap -/
noncomputable def Kept (h h' : Heap) : Prop := ∀ b o, h.get? b = some o → (∀ es n, o.data ≠ .dict es n) → (∀ v, o.data ≠ .cell v) → h'.get? b = some o
theorem Kept.but {a : Addr} {oa : Obj} {h h' : Heap} (ha : h.get? a = some oa) (hd : (∃ es n, oa.data = .dict es n) ∨ ∃ v, oa.data = .cell v) (hb : Heap.SameBut a h h') : Kept h h' := fun b o e h1 h2 => hb.extBut b o (fun q => by
  rw [q, ha] at e; cases e
  rcases hd with ⟨es, n, hd⟩ | ⟨v, hd⟩
  · exact h1 _ _ hd
  · exact h2 _ hd) e
theorem store_kept {W : Wd} {env : Env} {sc : Scope} {L : Addr} {m : Str → Option Value} {loc mu fz : Led} {h₀ : Heap} {s : Shared} {x : Str} {v : Value} {M : Model} {A : Around} {Q : Unit → Shared → Prop} {E : Value → Shared → Prop}
    (hE : EnvOk env sc) (S : SS W h₀ L m (loc ++ mu) fz s.heap) (hs : Sto env L loc x)
    (k : ∀ m' loc' h' tk', SS W h₀ L m' (loc' ++ mu) fz h' → Stored env L m loc m' loc' x v → Kept s.heap h' → Q () { s with heap := h', toks := tk' }) :
    wpAny M A (storeName env x v) Q E s := by
  have hp : (env.scope.kind == .class || (env.scope.kind == .module && env.locals != env.globals)) = false := by rw [hE.kind]; rfl
  rcases hs with ⟨hk, hl | ⟨o, mm, hm, hn⟩⟩ | ⟨hk, c, o, v₀, hc, hm, hd⟩
  · -- the frame's own names
    refine wpAny_storeName_local hk (by rw [hl]; exact S.fr.ns) (fun h' hn hb => ?_) hp
    rw [hl] at hn hb
    refine k _ loc h' _ (S.store (S.fr.set hn hb) hb) ⟨fun N => .here hl hk (by simp), fun N y u hy hinj l => ?_, fun y hy => hy, rfl, fun q => absurd hl q, fun a o h _ _ => h⟩ (by obtain ⟨oL, es, ep, e1, e2, _⟩ := S.fr.ns; exact .but e1 (.inl ⟨_, _, e2⟩) hb)
    cases l with
    | here a b c => exact .here a b (by rw [if_neg hy]; exact c)
    | block a b c d =>
      -- the dict at L is no ledger's
      exact .block a b c d
    | cell a b c d => exact .cell a b c d
  · -- a block's names
    have ho := S.ofMu (List.mem_append_left _ hm)
    refine wpAny_storeName_local hk (hn.ns ho) (fun h' hn' hb => ?_) hp
    obtain ⟨o', ho', hn''⟩ := ObjNs.of hn'
    have S' := S.setLoc hm (fun b o hbd e => hb.extBut b o hbd e) ho'
    refine k m _ h' _ S' ⟨fun N => .block hk (List.mem_append_left _ (mem_setL_self hm)) hn'' (by simp), fun N y u hy hinj l => ?_, fun y hy => ?_, setL_fst .., fun _ => rfl, fun a o₂ h h1 h2 => ?_⟩ (by obtain ⟨es, ep, e1, _⟩ := hn; exact .but ho (.inl ⟨_, _, e1⟩) hb)
    · cases l with
      | here a b c => exact .here a b c
      | @block o₂ mm₂ _ a b c d =>
        have := hinj _ _ _ b (List.mem_append_left _ hm)
        subst this
        obtain ⟨es, ep, e1, e2, e3⟩ := c
        obtain ⟨es', ep', f1, f2, f3⟩ := hn
        rw [e1] at f1; cases f1
        refine .block a (List.mem_append_left _ (mem_setL_self hm)) hn'' ?_
        show (if y = x then some v else mm y) = some u
        rw [if_neg hy, ← f3, e3, d]
      | @cell c₂ o₂ _ a b c d =>
        have hne : c₂ ≠ env.locals := fun q => by
          rw [q] at c
          have := hinj _ _ _ c (List.mem_append_left _ hm)
          subst this
          obtain ⟨es, ep, e1, _⟩ := hn
          rw [e1] at d; cases d
        refine .cell a b ?_ d
        rcases List.mem_append.mp c with c | c
        · exact List.mem_append_left _ (mem_setL_ne c hne)
        · exact List.mem_append_right _ c
    · rcases hy with ⟨a, b | ⟨o₂, mm₂, b, c⟩⟩ | ⟨a, c₂, o₂, v₂, b, c, d⟩
      · exact .inl ⟨a, .inl b⟩
      · exact .inl ⟨a, .inr ⟨_, _, mem_setL_self hm, hn''⟩⟩
      · have hne : c₂ ≠ env.locals := fun q => by
          rw [q] at c
          have := S.inj (List.mem_append_left _ (List.mem_append_left _ c)) (List.mem_append_left _ (List.mem_append_left _ hm))
          subst this
          obtain ⟨es, ep, e1, _⟩ := hn
          rw [e1] at d; cases d
        exact .inr ⟨a, c₂, o₂, v₂, b, mem_setL_ne c hne, d⟩
    · refine mem_setL_ne h fun q => ?_
      have q' : a = env.locals := q
      rw [q'] at h
      have := S.inj (List.mem_append_left _ (List.mem_append_left _ h)) (List.mem_append_left _ (List.mem_append_left _ hm))
      subst this
      obtain ⟨es, ep, e1, _⟩ := hn
      exact h1 _ _ e1
  · -- a cell
    have ho := S.ofMu (List.mem_append_left _ hm)
    refine wpAny_storeName_cell hE.kind hk hc ⟨o, ho, hd⟩ fun h' hv hb => ?_
    obtain ⟨o', ho', hd'⟩ := hv
    have S' := S.setLoc hm (fun b o hbd e => hb.extBut b o hbd e) ho'
    refine k m _ h' s.toks S' ⟨fun N => .cell (.inl hk) hc (List.mem_append_left _ (mem_setL_self hm)) hd', fun N y u hy hinj l => ?_, fun y hy => ?_, setL_fst .., fun _ => rfl, fun a o₂ h h1 h2 => ?_⟩ (.but ho (.inr ⟨_, hd⟩) hb)
    · cases l with
      | here a b c => exact .here a b c
      | @block o₂ mm₂ _ a b c' d =>
        have hne : env.locals ≠ c := fun q => by
          rw [q] at b
          have := hinj _ _ _ b (List.mem_append_left _ hm)
          subst this
          obtain ⟨es, ep, e1, _⟩ := c'
          rw [e1] at hd; cases hd
        refine .block a ?_ c' d
        rcases List.mem_append.mp b with b | b
        · exact List.mem_append_left _ (mem_setL_ne b hne)
        · exact List.mem_append_right _ b
      | @cell c₂ o₂ _ a b c' d =>
        have hne : c₂ ≠ c := fun q => by
          rw [q] at b
          exact hy (hE.inj _ _ _ b hc)
        refine .cell a b ?_ d
        rcases List.mem_append.mp c' with c' | c'
        · exact List.mem_append_left _ (mem_setL_ne c' hne)
        · exact List.mem_append_right _ c'
    · rcases hy with ⟨a, b | ⟨o₂, mm₂, b, c'⟩⟩ | ⟨a, c₂, o₂, v₂, b, c', d⟩
      · exact .inl ⟨a, .inl b⟩
      · have hne : env.locals ≠ c := fun q => by
          rw [q] at b
          have := S.inj (List.mem_append_left _ (List.mem_append_left _ b)) (List.mem_append_left _ (List.mem_append_left _ hm))
          subst this
          obtain ⟨es, ep, e1, _⟩ := c'
          rw [e1] at hd; cases hd
        exact .inl ⟨a, .inr ⟨o₂, mm₂, mem_setL_ne b hne, c'⟩⟩
      · by_cases hq : c₂ = c
        · subst hq
          exact .inr ⟨a, _, o', _, b, mem_setL_self hm, hd'⟩
        · exact .inr ⟨a, c₂, o₂, v₂, b, mem_setL_ne c' hq, d⟩
    · refine mem_setL_ne h fun q => ?_
      have q' : a = c := q
      rw [q'] at h
      have := S.inj (List.mem_append_left _ (List.mem_append_left _ h)) (List.mem_append_left _ (List.mem_append_left _ hm))
      subst this
      exact h2 _ hd
theorem store_ok {W : Wd} {env : Env} {sc : Scope} {L : Addr} {m : Str → Option Value} {loc mu fz : Led} {h₀ : Heap} {s : Shared} {x : Str} {v : Value} {M : Model} {A : Around} {Q : Unit → Shared → Prop} {E : Value → Shared → Prop}
    (hE : EnvOk env sc) (S : SS W h₀ L m (loc ++ mu) fz s.heap) (hs : Sto env L loc x)
    (k : ∀ m' loc' h' tk', SS W h₀ L m' (loc' ++ mu) fz h' → Stored env L m loc m' loc' x v → Q () { s with heap := h', toks := tk' }) :
    wpAny M A (storeName env x v) Q E s := store_kept hE S hs fun m' loc' h' tk' S' st _ => k m' loc' h' tk' S' st
end Mine
end
section
open PySem PySem.W PyProof.Rows
set_option linter.unusedVariables false
set_option maxRecDepth 100000
namespace Mine
open PySem.Calls PySem.Spec PySem.SeqAt

theorem SS.setHead {W : Wd} {h₀ h h' : Heap} {L : Addr} {m : Str → Option Value} {mu fz : Led} {d : Addr} {o o' : Obj} (x : SS W h₀ L m ((d, o) :: mu) fz h)
    (hs : ∀ b o, b ≠ d → h.get? b = some o → h'.get? b = some o) (ho : h'.get? d = some o') : SS W h₀ L m ((d, o') :: mu) fz h' := by
  have := x.setLoc (loc := [(d, o)]) (mu := mu) (.head _) hs ho
  simpa [setL] using this

/-- an object that no loop lets go of -/
noncomputable def quietO (o : Obj) : Prop := ∀ n vs, o.cls = .type n → o.data = .fields vs → ["enumerate", "zip", "dict_itemiterator", "dict_reverseitemiterator", "odict_iterator", "itertools.zip_longest", "itertools.pairwise"].contains n = false
noncomputable def fieldsO (o : Obj) : Prop := ∃ vs, o.data = .fields vs

/-- an iterator over the ledgers -/
structure Src (W : Wd) (A : Around) (X : Fact) (MU : Led) (I : Addr) (St : Nat → Heap → Prop) (items : List Dat) : Prop where
  obj : ∀ i h, St i h → ∃ o, h.get? I = some o ∧ quietO o ∧ fieldsO o
  frame : ∀ i h h', St i h → (∀ o, h.get? I = some o → h'.get? I = some o) → (∀ b o, X b o ∨ (b, o) ∈ MU → h'.get? b = some o) → St i h'
  item : ∀ i d (s : Shared) (Q : Option Value → Shared → Prop) (E : Value → Shared → Prop), items[i]? = some d → St i s.heap →
    (∀ v h' tk, Rep X v d → St (i + 1) h' → (∀ b o, b ≠ I → s.heap.get? b = some o → h'.get? b = some o) → Q (some v) { s with heap := h', toks := tk }) → wpAny (model W.prog W.w) A (pyNext (.ref I)) Q E s
  done : ∀ (s : Shared) (Q : Option Value → Shared → Prop) (E : Value → Shared → Prop), St items.length s.heap →
    (∀ h' tk, (∀ b o, b ≠ I → s.heap.get? b = some o → h'.get? b = some o) → Q none { s with heap := h', toks := tk }) → wpAny (model W.prog W.w) A (pyNext (.ref I)) Q E s
  self : ∀ i (s : Shared) (Q : Value → Shared → Prop) (E : Value → Shared → Prop), St i s.heap → Q (.ref I) s → wpAny (model W.prog W.w) A (pyIter (.ref I)) Q E s

theorem Src.mono {W : Wd} {A : Around} {X Y : Fact} {MU MU' : Led} {I : Addr} {St : Nat → Heap → Prop} {items : List Dat} (x : Src W A X MU I St items) (s : FSub X Y) (u : Sub MU MU') : Src W A Y MU' I St items :=
  ⟨x.obj, fun i h h' st h1 h2 => x.frame i h h' st h1 fun b o hb => h2 b o (hb.imp (s _ _) (u _)), fun i d s' Q E hi st k => x.item i d s' Q E hi st fun v h' tk r => k v h' tk (r.mono s), x.done, x.self⟩

/-- an expression whose iterator gives items; sel: which ledger the iterator leans on -/
noncomputable def EI (sel : Led → Led) (W : Wd) (lv : Nat) (sc : Scope) (ρ : Names) (e : Expr) (items : List Dat) : Prop :=
  ∀ (A : Around) (h₀ : Heap) (fenv : Env) (L : Addr) (m : Str → Option Value) (mu fz : Led) (env : Env) (s : Shared) (Q E : Value → Shared → Prop),
    AOk W lv A h₀ fenv L → EnvOk env sc → SS W h₀ L m mu fz s.heap → NamesOk W env L m mu (mu ++ fz) (Hs W.base fz) ρ →
    (∀ I St o fz' h' tk', Sub fz fz' → SS W h₀ L m ((I, o) :: mu) fz' h' → Src W A (Hs W.base fz') (sel mu) I St items → St 0 h' → Q (.ref I) { s with heap := h', toks := tk' }) →
    wpAny (model W.prog W.w) A (eval e env) (fun x s₁ => wpAny (model W.prog W.w) A (pyIter x) Q E s₁) E s

theorem EI.up {W : Wd} {lv : Nat} {sc : Scope} {ρ : Names} {e : Expr} {items : List Dat} (h : EI (fun _ => []) W lv sc ρ e items) : EI id W lv sc ρ e items := by
  intro A h₀ fenv L m mu fz env s Q E hA hE S hN k
  exact h A h₀ fenv L m mu fz env s Q E hA hE S hN fun I St o fz' h' tk' s' S' sr => k I St o fz' h' tk' s' S' (sr.mono (FSub.refl _) (fun _ h => by cases h))
section
variable {W : Wd} {lv : Nat} {sc : Scope} {ρ : Names}

theorem src_list {A : Around} {mu fz : Led} {I l : Addr} {vs : List Value} {ds : List Dat} {o : Obj} {n : Nat} (hh : A.handled = none)
    (hne : l ≠ I) (ho : Hs W.base fz l o ∨ (l, o) ∈ mu) (hc : o.cls = .type "list") (hd : o.data = .seq vs.toArray n) (hr : RepA (Hs W.base fz) vs ds) :
    Src W A (Hs W.base fz) mu I (fun i h => h.IsListIter I l i ∧ h.get? l = some o) ds := by
  have Wk := fun prog w => Walks.list (prog := prog) (w := w) (A := A) hh I l hne vs.toArray
  have hl : ∀ {h : Heap}, h.get? l = some o → h.IsList l vs.toArray := fun e => ⟨o, e, hc, n, hd⟩
  refine ⟨fun i h st => ?_, fun i h h' st h1 h2 => ⟨?_, h2 l o ho⟩, fun i d s Q E hi st k => ?_, fun s Q E st k => ?_, fun i s Q E st k => ?_⟩
  · obtain ⟨⟨o', e, c, d⟩, _⟩ := st
    refine ⟨o', e, fun n vs hn _ => ?_, ⟨_, d⟩⟩
    rw [c] at hn; cases hn; decide
  · obtain ⟨⟨o', e, r⟩, _⟩ := st
    exact ⟨o', h1 _ e, r⟩
  · obtain ⟨v, hv, rv⟩ := hr.get hi
    have hlt : i < vs.toArray.size := by simpa using (List.getElem?_eq_some_iff.mp hv).1
    refine (Wk _ _).item i s Q E hlt ⟨st.1, hl st.2⟩ fun v' h' tk hv' st' hk => ?_
    have : v' = v := by
      have e : vs.toArray[i]? = some v := by simpa using hv
      have hv'' : vs.toArray[i]? = some v' := hv'
      rw [e] at hv''; exact (Option.some.inj hv'').symm
    subst this
    have hk' : ∀ b o, b ≠ I → s.heap.get? b = some o → h'.get? b = some o := fun b o hb => hk b o (by simpa using hb)
    exact k _ h' tk rv ⟨st'.1, hk' _ _ hne st.2⟩ hk'
  · rw [← hr.length] at st
    refine (Wk _ _).done s Q E ⟨by simpa using st.1, hl st.2⟩ fun h' tk hk => k h' tk fun b o hb => hk b o (by simpa using hb)
  · exact (Wk _ _).self i s Q E ⟨st.1, hl st.2⟩ k
theorem src_tuple {A : Around} {mu fz : Led} {I l : Addr} {vs : List Value} {ds : List Dat} {o : Obj} {n : Nat} (hh : A.handled = none)
    (hne : l ≠ I) (ho : Hs W.base fz l o ∨ (l, o) ∈ mu) (hc : o.cls = .type "tuple") (hd : o.data = .seq vs.toArray n) (hr : RepA (Hs W.base fz) vs ds) :
    Src W A (Hs W.base fz) mu I (fun i h => h.IsTupleIter I l i ∧ h.get? l = some o) ds := by
  have Wk := fun prog w => Walks.tuple (prog := prog) (w := w) (A := A) hh I l hne vs.toArray
  have hl : ∀ {h : Heap}, h.get? l = some o → h.IsTuple l vs.toArray := fun e => ⟨o, e, hc, n, hd⟩
  refine ⟨fun i h st => ?_, fun i h h' st h1 h2 => ⟨?_, h2 l o ho⟩, fun i d s Q E hi st k => ?_, fun s Q E st k => ?_, fun i s Q E st k => ?_⟩
  · obtain ⟨⟨o', e, c, d⟩, _⟩ := st
    refine ⟨o', e, fun n vs hn _ => ?_, ⟨_, d⟩⟩
    rw [c] at hn; cases hn; decide
  · obtain ⟨⟨o', e, r⟩, _⟩ := st
    exact ⟨o', h1 _ e, r⟩
  · obtain ⟨v, hv, rv⟩ := hr.get hi
    have hlt : i < vs.toArray.size := by simpa using (List.getElem?_eq_some_iff.mp hv).1
    refine (Wk _ _).item i s Q E hlt ⟨st.1, hl st.2⟩ fun v' h' tk hv' st' hk => ?_
    have : v' = v := by
      have e : vs.toArray[i]? = some v := by simpa using hv
      have hv'' : vs.toArray[i]? = some v' := hv'
      rw [e] at hv''; exact (Option.some.inj hv'').symm
    subst this
    have hk' : ∀ b o, b ≠ I → s.heap.get? b = some o → h'.get? b = some o := fun b o hb => hk b o (by simpa using hb)
    exact k _ h' tk rv ⟨st'.1, hk' _ _ hne st.2⟩ hk'
  · rw [← hr.length] at st
    refine (Wk _ _).done s Q E ⟨by simpa using st.1, hl st.2⟩ fun h' tk hk => k h' tk fun b o hb => hk b o (by simpa using hb)
  · exact (Wk _ _).self i s Q E ⟨st.1, hl st.2⟩ k
theorem src_rev {A : Around} {mu fz : Led} {I l : Addr} {vs : List Value} {ds : List Dat} {o : Obj} {n : Nat} (hh : A.handled = none)
    (hne : l ≠ I) (ho : Hs W.base fz l o ∨ (l, o) ∈ mu) (hc : o.cls = .type "list") (hd : o.data = .seq vs.toArray n) (hr : RepA (Hs W.base fz) vs ds) :
    Src W A (Hs W.base fz) mu I (fun i h => i ≤ vs.toArray.size ∧ h.IsRevIter I l ((vs.toArray.size : Int) - 1 - (i : Int)) ∧ h.get? l = some o) ds.reverse := by
  have Wk := fun prog w => Walks.listRev (prog := prog) (w := w) (A := A) hh I l hne vs.toArray
  have hl : ∀ {h : Heap}, h.get? l = some o → h.IsList l vs.toArray := fun e => ⟨o, e, hc, n, hd⟩
  refine ⟨fun i h st => ?_, fun i h h' st h1 h2 => ⟨st.1, ?_, h2 l o ho⟩, fun i d s Q E hi st k => ?_, fun s Q E st k => ?_, fun i s Q E st k => ?_⟩
  · obtain ⟨_, ⟨o', e, c, d⟩, _⟩ := st
    refine ⟨o', e, fun n vs hn _ => ?_, ⟨_, d⟩⟩
    rw [c] at hn; cases hn; decide
  · obtain ⟨_, ⟨o', e, r⟩, _⟩ := st
    exact ⟨o', h1 _ e, r⟩
  · obtain ⟨v, hv, rv⟩ := hr.reverse.get hi
    have hlt : i < vs.length := by simpa using (List.getElem?_eq_some_iff.mp hv).1
    refine (Wk _ _).item i s Q E (by simpa using hlt) ⟨st.1, st.2.1, hl st.2.2⟩ fun v' h' tk hv' st' hk => ?_
    have : v' = v := by
      have e : vs.toArray[vs.toArray.size - 1 - i]? = some v := by
        rw [List.getElem?_reverse hlt] at hv
        simpa using hv
      have hv'' : vs.toArray[vs.toArray.size - 1 - i]? = some v' := hv'
      rw [e] at hv''; exact (Option.some.inj hv'').symm
    subst this
    have hk' : ∀ b o, b ≠ I → s.heap.get? b = some o → h'.get? b = some o := fun b o hb => hk b o (by simpa using hb)
    exact k _ h' tk rv ⟨st'.1, st'.2.1, hk' _ _ hne st.2.2⟩ hk'
  · rw [List.length_reverse, ← hr.length] at st
    refine (Wk _ _).done s Q E ⟨by simp, by simpa using st.2.1, hl st.2.2⟩ fun h' tk hk => k h' tk fun b o hb => hk b o (by simpa using hb)
  · exact (Wk _ _).self i s Q E ⟨st.1, st.2.1, hl st.2.2⟩ k
noncomputable def rangeD (a c : Int) (n : Nat) : List Dat := (List.range n).map fun (i : Nat) => Dat.int (a + (i : Int) * c)
theorem rangeD_length {a c : Int} {n : Nat} : (rangeD a c n).length = n := by simp [rangeD]
theorem src_range {A : Around} {X : Fact} {mu : Led} {I : Addr} (hh : A.handled = none) (a c : Int) (n : Nat) :
    Src W A X mu I (fun i h => IsRangeIter h I (a + (i : Nat) * c) ((n : Int) - (i : Nat)) c) (rangeD a c n) := by
  have Wk := fun prog w => Walks.range (prog := prog) (w := w) (A := A) hh I a c n
  refine ⟨fun i h st => ?_, fun i h h' st h1 h2 => h1 _ st, fun i d s Q E hi st k => ?_, fun s Q E st k => ?_, fun i s Q E st k => ?_⟩
  · refine ⟨_, st, fun n vs hn _ => ?_, ⟨_, rfl⟩⟩
    cases hn; decide
  · have hlt : i < n := by simpa [rangeD] using (List.getElem?_eq_some_iff.mp hi).1
    have hd : d = .int (a + (i : Int) * c) := by
      unfold rangeD at hi
      rw [List.getElem?_map, List.getElem?_range hlt] at hi
      exact (Option.some.inj hi).symm
    refine (Wk _ _).item i s Q E hlt st fun v' h' tk hv' st' hk => ?_
    obtain ⟨t, rfl⟩ := hv'
    subst hd
    exact k _ h' tk (.int _ _) st' fun b o hb => hk b o (by simpa using hb)
  · rw [rangeD_length] at st
    exact (Wk _ _).done s Q E st fun h' tk hk => k h' tk fun b o hb => hk b o (by simpa using hb)
  · exact (Wk _ _).self i s Q E st k

theorem SS.fresh {h₀ h : Heap} {L : Addr} {m : Str → Option Value} {mu fz : Led} (S : SS W h₀ L m mu fz h) {a : Addr} {o : Obj} (ho : Hs W.base fz a o ∨ (a, o) ∈ mu) : a ≠ h.objs.size := by
  have e : h.get? a = some o := ho.elim S.has S.ofMu
  exact Nat.ne_of_lt (Heap.lt_size e)

theorem PRep.obj {mu fz : Led} {v : Value} {pv : PV} {ds : List Dat} (r : PRep W (Hs W.base fz) mu v pv) (e : pv.items? = some ds) :
    ∃ l o vs n, v = .ref l ∧ (Hs W.base fz l o ∨ (l, o) ∈ mu) ∧ o.cls = .type "list" ∧ o.data = .seq (List.toArray vs) n ∧ RepA (Hs W.base fz) vs ds := by
  cases pv with
  | dat d =>
    cases d <;> first | (cases e; done) | skip
    rename_i l
    cases e
    cases r with
    | list a b c d => exact ⟨_, _, _, _, rfl, .inl a, b, c, d⟩
  | lst l =>
    cases e
    obtain ⟨l, o, vs, n, a, b, c, d, e, f⟩ := r
    exact ⟨l, o, vs, n, a, .inr b, c, e, f⟩
  | fn _ _ => cases e
theorem ei_list {e : Expr} {pv : PV} {ds : List Dat} (h : EV W lv sc ρ e pv) (hi : pv.items? = some ds) : EI id W lv sc ρ e ds := by
  intro A h₀ fenv L m mu fz env s Q E hA hE S hN k
  refine h A h₀ fenv L m mu fz env s _ E hA hE S hN fun v fz' h' t' s' S' R' => ?_
  obtain ⟨l, o, vs, n, rfl, ho, hc, hd, ra⟩ := R'.obj hi
  have e : h'.get? l = some o := ho.elim S'.has S'.ofMu
  refine wpAny_pyIter_list ⟨o, e, hc, n, hd⟩ ?_
  refine k _ _ _ fz' _ _ s' (S'.pushMu _) (src_list hA.hh (S'.fresh ho) ho hc hd ra) ⟨⟨_, Heap.get?_push_size _ rfl, rfl, rfl⟩, Heap.get?_push_of_some _ e⟩
theorem ei_dlist {e : Expr} {ds : List Dat} (h : EV W lv sc ρ e (.dat (.list ds))) : EI (fun _ => []) W lv sc ρ e ds := by
  intro A h₀ fenv L m mu fz env s Q E hA hE S hN k
  refine h A h₀ fenv L m mu fz env s _ E hA hE S hN fun v fz' h' t' s' S' R' => ?_
  cases R' with
  | @list l o vs n _ ho hc hd ra =>
    have e : h'.get? l = some o := S'.has ho
    refine wpAny_pyIter_list ⟨o, e, hc, n, hd⟩ ?_
    refine k _ _ _ fz' _ _ s' (S'.pushMu _) (src_list hA.hh (S'.fresh (.inl ho)) (.inl ho) hc hd ra) ⟨⟨_, Heap.get?_push_size _ rfl, rfl, rfl⟩, Heap.get?_push_of_some _ e⟩
theorem ei_tuple {e : Expr} {ds : List Dat} (h : EV W lv sc ρ e (.dat (.tuple ds))) : EI (fun _ => []) W lv sc ρ e ds := by
  intro A h₀ fenv L m mu fz env s Q E hA hE S hN k
  refine h A h₀ fenv L m mu fz env s _ E hA hE S hN fun v fz' h' t' s' S' R' => ?_
  cases R' with
  | @tuple l o vs n _ ho hc hd ra =>
    have e : h'.get? l = some o := S'.has ho
    refine wpAny_pyIter_tuple ⟨o, e, hc, n, hd⟩ ?_
    refine k _ _ _ fz' _ _ s' (S'.pushMu _) (src_tuple hA.hh (S'.fresh (.inl ho)) (.inl ho) hc hd ra) ⟨⟨_, Heap.get?_push_size _ rfl, rfl, rfl⟩, Heap.get?_push_of_some _ e⟩
theorem ei_range1 {x : Str} {np pos : Pos} {e : Expr} {a : Int} {n : Nat} (hb : Boot W sc x (.type "range")) (hn : nStar e = true) (h : EV W lv sc ρ e (.dat (.int a)))
    (hs : Builtin.Range.small 0 a 1 = true) (hz : Builtin.Range.rangeSize 0 a 1 = n) : EI (fun _ => []) W lv sc ρ (.Call (.Name x np) [e] [] pos) (rangeD 0 1 n) := by
  intro A h₀ fenv L m mu fz env s Q E hA hE S hN k
  refine wpAny_Call_ofName (eval_boot hA hE S hb.sc hb.dbg hb.nm hb.top hb.boot ?_)
  have hv : EVs W lv sc ρ [e] [.dat (.int a)] := .cons hn h .nil
  refine PySem.callWith_type (evs_star hv) (evalArgs_ok hv A h₀ fenv L m mu fz env s _ E hA hE S hN fun vs fz' h' t' s' S' R' => ?_)
  match vs, R' with
  | [v], ⟨R', _⟩ =>
  have R' : Rep (Hs W.base fz') v (.int a) := R'
  cases R' with
  | int _ t =>
  refine call_range_1 ?_
  refine wpAny_pyIter_range (a := 0) (b := a) (c := 1) (Heap.get?_push_size _ rfl) hs ?_
  refine k _ _ _ _ _ _ (s'.trans .cons) ((S'.push _).pushMu _) (src_range hA.hh 0 1 n) ?_
  have e := Heap.get?_push_size (h'.push { cls := .type "range", data := .fields #[.int 0 t', .int a t, .int 1 (t' + 1)] }) (o := { cls := .type "range_iterator", data := .fields #[rawInt 0, rawInt (Builtin.Range.rangeSize 0 a 1), rawInt 1] }) rfl
  rw [hz] at e ⊢
  simpa using e
theorem ei_range2 {x : Str} {np pos : Pos} {e e2 : Expr} {a b : Int} {n : Nat} (hb : Boot W sc x (.type "range")) (hn : nStar e = true) (h : EV W lv sc ρ e (.dat (.int a))) (hn2 : nStar e2 = true) (h2 : EV W lv sc ρ e2 (.dat (.int b)))
    (hs : Builtin.Range.small a b 1 = true) (hz : Builtin.Range.rangeSize a b 1 = n) : EI (fun _ => []) W lv sc ρ (.Call (.Name x np) [e, e2] [] pos) (rangeD a 1 n) := by
  intro A h₀ fenv L m mu fz env s Q E hA hE S hN k
  refine wpAny_Call_ofName (eval_boot hA hE S hb.sc hb.dbg hb.nm hb.top hb.boot ?_)
  have hv : EVs W lv sc ρ [e, e2] [.dat (.int a), .dat (.int b)] := .cons hn h (.cons hn2 h2 .nil)
  refine PySem.callWith_type (evs_star hv) (evalArgs_ok hv A h₀ fenv L m mu fz env s _ E hA hE S hN fun vs fz' h' t' s' S' R' => ?_)
  match vs, R' with
  | [v, v2], ⟨R', R2, _⟩ =>
  have R' : Rep (Hs W.base fz') v (.int a) := R'
  have R2 : Rep (Hs W.base fz') v2 (.int b) := R2
  cases R' with
  | int _ t =>
  cases R2 with
  | int _ t2 =>
  refine call_range_2 ?_
  refine wpAny_pyIter_range (a := a) (b := b) (c := 1) (Heap.get?_push_size _ rfl) hs ?_
  refine k _ _ _ _ _ _ (s'.trans .cons) ((S'.push _).pushMu _) (src_range hA.hh a 1 n) ?_
  have e := Heap.get?_push_size (h'.push { cls := .type "range", data := .fields #[.int a t, .int b t2, .int 1 t'] }) (o := { cls := .type "range_iterator", data := .fields #[rawInt a, rawInt (Builtin.Range.rangeSize a b 1), rawInt 1] }) rfl
  rw [hz] at e ⊢
  simpa using e
theorem ei_range3 {x : Str} {np pos : Pos} {e e2 e3 : Expr} {a b c : Int} {n : Nat} (hb : Boot W sc x (.type "range")) (hn : nStar e = true) (h : EV W lv sc ρ e (.dat (.int a))) (hn2 : nStar e2 = true) (h2 : EV W lv sc ρ e2 (.dat (.int b)))
    (hn3 : nStar e3 = true) (h3 : EV W lv sc ρ e3 (.dat (.int c))) (h0 : c ≠ 0) (hp : Builtin.divisionGoesByPylong (b - a) c = false)
    (hs : Builtin.Range.small a b c = true) (hz : Builtin.Range.rangeSize a b c = n) : EI (fun _ => []) W lv sc ρ (.Call (.Name x np) [e, e2, e3] [] pos) (rangeD a c n) := by
  intro A h₀ fenv L m mu fz env s Q E hA hE S hN k
  refine wpAny_Call_ofName (eval_boot hA hE S hb.sc hb.dbg hb.nm hb.top hb.boot ?_)
  have hv : EVs W lv sc ρ [e, e2, e3] [.dat (.int a), .dat (.int b), .dat (.int c)] := .cons hn h (.cons hn2 h2 (.cons hn3 h3 .nil))
  refine PySem.callWith_type (evs_star hv) (evalArgs_ok hv A h₀ fenv L m mu fz env s _ E hA hE S hN fun vs fz' h' t' s' S' R' => ?_)
  match vs, R' with
  | [v, v2, v3], ⟨R', R2, R3, _⟩ =>
  have R' : Rep (Hs W.base fz') v (.int a) := R'
  have R2 : Rep (Hs W.base fz') v2 (.int b) := R2
  have R3 : Rep (Hs W.base fz') v3 (.int c) := R3
  cases R' with
  | int _ t =>
  cases R2 with
  | int _ t2 =>
  cases R3 with
  | int _ t3 =>
  refine call_range_3 h0 ?_ (.inl hp)
  refine wpAny_pyIter_range (a := a) (b := b) (c := c) (Heap.get?_push_size _ rfl) hs ?_
  refine k _ _ _ _ _ _ (s'.trans .cons) ((S'.push _).pushMu _) (src_range hA.hh a c n) ?_
  have e := Heap.get?_push_size (h'.push { cls := .type "range", data := .fields #[.int a t, .int b t2, .int c t3] }) (o := { cls := .type "range_iterator", data := .fields #[rawInt a, rawInt (Builtin.Range.rangeSize a b c), rawInt c] }) rfl
  rw [hz] at e ⊢
  simpa using e
end
end Mine
end
section
open PySem PySem.W PyProof.Rows
set_option linter.unusedVariables false
set_option maxRecDepth 100000
namespace Mine
open PySem.Calls PySem.Spec PySem.SeqAt

theorem nd_inj {l : Led} (h : (l.map (·.1)).Nodup) {a : Addr} {o o' : Obj} (h1 : (a, o) ∈ l) (h2 : (a, o') ∈ l) : o = o' := by
  induction l with
  | nil => cases h1
  | cons p l ih =>
    rw [List.map_cons, List.nodup_cons] at h
    rcases List.mem_cons.mp h1 with e1 | h1 <;> rcases List.mem_cons.mp h2 with e2 | h2
    · rw [← e1] at e2; exact (Prod.mk.inj e2).2.symm
    · exact absurd (List.mem_map.mpr ⟨_, h2, by rw [← e1]⟩) h.1
    · exact absurd (List.mem_map.mpr ⟨_, h1, by rw [← e2]⟩) h.1
    · exact ih h.2 h1 h2

/-- the ledger after some names were laid -/
structure Moved (W : Wd) (env : Env) (L : Addr) (m : Str → Option Value) (loc : Led) (m' : Str → Option Value) (loc' : Led) (X : Fact) (bs : Names) : Prop where
  names : ∀ MU N Y ρ, FSub X Y → ((loc ++ N).map (·.1)).Nodup → NamesOk W env L m MU (loc ++ N) Y ρ → NamesOk W env L m' MU (loc' ++ N) Y (bs ++ ρ)
  old : ∀ N y u, y ∉ bs.map (·.1) → ((loc ++ N).map (·.1)).Nodup → Loads env L m (loc ++ N) y u → Loads env L m' (loc' ++ N) y u
  sto : ∀ y, Sto env L loc y → Sto env L loc' y
  fst : loc'.map (·.1) = loc.map (·.1)
  mm : env.locals ≠ L → m' = m

theorem Stored.moved {W : Wd} {env : Env} {L : Addr} {m m' : Str → Option Value} {loc loc' : Led} {x : Str} {v : Value} {X : Fact} {pv : PV} (h : Stored env L m loc m' loc' x v) (hp : PlainName x)
    (hr : ∀ MU Y, FSub X Y → PRep W Y MU v pv) : Moved W env L m loc m' loc' X [(x, pv)] := by
  refine ⟨fun MU N Y ρ s nd hN y q hy => ?_, fun N y u hy nd l => h.old N y u (fun e => hy (by simp [e])) (fun a o o' => nd_inj nd) l, h.sto, h.fst, h.mm⟩
  rw [List.cons_append, List.nil_append, List.lookup_cons] at hy
  cases hb : y == x with
  | true =>
    rw [hb] at hy; cases hy
    have e := beq_iff_eq.mp hb
    subst e
    exact ⟨hp, v, h.new N, hr _ _ s⟩
  | false =>
    rw [hb] at hy
    obtain ⟨a, u, l, r⟩ := hN y q hy
    exact ⟨a, u, h.old N y u (fun e => by rw [e, beq_self_eq_true] at hb; cases hb) (fun a o o' => nd_inj nd) l, r⟩
theorem Moved.trans {W : Wd} {env : Env} {L : Addr} {m m' m'' : Str → Option Value} {loc loc' loc'' : Led} {X : Fact} {bs bs' : Names} (h : Moved W env L m loc m' loc' X bs) (k : Moved W env L m' loc' m'' loc'' X bs') : Moved W env L m loc m'' loc'' X (bs' ++ bs) := by
  have nd' : ∀ {N : Led}, ((loc ++ N).map (·.1)).Nodup → ((loc' ++ N).map (·.1)).Nodup := fun nd => by rwa [List.map_append, h.fst, ← List.map_append]
  refine ⟨fun MU N Y ρ s nd hN => ?_, fun N y u hy nd l => ?_, fun y hy => k.sto y (h.sto y hy), k.fst.trans h.fst, fun e => (k.mm e).trans (h.mm e)⟩
  · rw [List.append_assoc]
    exact k.names MU N Y _ s (nd' nd) (h.names MU N Y ρ s nd hN)
  · rw [List.map_append, List.mem_append] at hy
    exact k.old N y u (fun q => hy (.inl q)) (nd' nd) (h.old N y u (fun q => hy (.inr q)) nd l)

/-- targets -/
noncomputable def bindT : Expr → Dat → Option Names
  | .Name x _, d => some [(x, .dat d)]
  | .Tuple [.Name x _, .Name y _] _ _, .tuple [a, b] => some [(y, .dat b), (x, .dat a)]
  | _, _ => none
noncomputable def tn : Expr → List Str
  | .Name x _ => [x]
  | .Tuple [.Name x _, .Name y _] _ _ => [y, x]
  | _ => []
theorem bindT_names {e : Expr} {d : Dat} {bs : Names} (h : bindT e d = some bs) : bs.map (·.1) = tn e := by
  unfold bindT at h
  split at h
  · cases h; rfl
  · cases h; rfl
  · cases h
theorem lookup_none {bs : Names} {x : Str} (h : x ∉ bs.map (·.1)) : bs.lookup x = none := by
  induction bs with
  | nil => rfl
  | cons p bs ih =>
    obtain ⟨y, q⟩ := p
    rw [List.map_cons, List.mem_cons] at h
    rw [List.lookup_cons]
    have : (x == y) = false := by
      cases e : x == y with
      | false => rfl
      | true => exact absurd (.inl (beq_iff_eq.mp e)) h
    rw [this]; exact ih fun k => h (.inr k)
theorem lookup_append {bs ρ : Names} {x : Str} : (bs ++ ρ).lookup x = (bs.lookup x <|> ρ.lookup x) := by
  induction bs with
  | nil => simp
  | cons p bs ih =>
    obtain ⟨y, q⟩ := p
    rw [List.cons_append, List.lookup_cons, List.lookup_cons]
    cases x == y with
    | true => simp
    | false => exact ih
theorem lookup_back {bs ρ : Names} (h : ∀ x ∈ bs.map (·.1), ρ.lookup x = none) : ∀ x pv, ρ.lookup x = some pv → (bs ++ ρ).lookup x = some pv := by
  intro x pv hx
  rw [lookup_append, lookup_none (fun k => by rw [h x k] at hx; cases hx)]
  simpa using hx

theorem assign_ok {W : Wd} {env : Env} {sc : Scope} {L : Addr} {m : Str → Option Value} {loc mu fz : Led} {h₀ : Heap} {s : Shared} {t : Expr} {v : Value} {d : Dat} {bs : Names} {A : Around} {Q : Unit → Shared → Prop} {E : Value → Shared → Prop}
    (hh : A.handled = none) (hE : EnvOk env sc) (S : SS W h₀ L m (loc ++ mu) fz s.heap) (hs : ∀ x ∈ tn t, Sto env L loc x ∧ PlainName x) (hr : Rep (Hs W.base fz) v d) (hb : bindT t d = some bs)
    (k : ∀ m' loc' h' tk', SS W h₀ L m' (loc' ++ mu) fz h' → Moved W env L m loc m' loc' (Hs W.base fz) bs → Q () { s with heap := h', toks := tk' }) :
    wpAny (model W.prog W.w) A (assign t env v) Q E s := by
  unfold bindT at hb
  split at hb
  · cases hb
    obtain ⟨h1, h2⟩ := hs _ (.head _)
    refine wpAny_assign_Name (store_ok hE S h1 fun m' loc' h' tk' S' st => k m' loc' h' tk' S' (st.moved h2 fun MU Y s => hr.mono s))
  · rename_i x px y py kd pos a b
    cases hb
    · obtain ⟨l, o, vs, n, rfl, ho, hc, hd, ra⟩ := hr.tup
      obtain ⟨v1, v2, rfl, r1, r2⟩ := ra.inv2
      refine wpAny_assign_Tuple hh ⟨o, S.has ho, hc, n, hd⟩ rfl rfl fun h₁ k₁ => ?_
      have S₁ : SS W h₀ L m (loc ++ mu) fz h₁ := S.grown fun b o e => k₁ b o (Nat.ne_of_lt (Heap.lt_size e)) e
      show wpAny _ A (assignInOrder [assign (.Name x px) env, assign (.Name y py) env] [v1, v2]) Q E _
      obtain ⟨a1, a2⟩ := hs x (.tail _ (.head _))
      obtain ⟨b1, b2⟩ := hs y (.head _)
      refine wpAny_bind (wpAny_holding (wpAny_assign_Name (store_ok hE S₁ a1 fun m₂ loc₂ h₂ tk₂ S₂ st₂ => ?_)))
      refine wpAny_bind (wpAny_holding (wpAny_assign_Name (store_ok hE S₂ (st₂.sto _ b1) fun m₃ loc₃ h₃ tk₃ S₃ st₃ => ?_)))
      exact wpAny_pure (k m₃ loc₃ h₃ tk₃ S₃ ((st₂.moved (pv := .dat a) a2 fun MU Y s => r1.mono s).trans (st₃.moved (pv := .dat b) b2 fun MU Y s => r2.mono s)))
  · cases hb

theorem letOwned_ok {W : Wd} {A : Around} {s : Shared} {t : Expr} {I : Addr} {v : Value} {o : Obj} {Q : Unit → Shared → Prop} {E : Value → Shared → Prop} (ho : s.heap.get? I = some o) (hq : quietO o) (h : Q () s) :
    wpAny (model W.prog W.w) A (letOwnedTupleGo t (.ref I) v) Q E s := by
  unfold letOwnedTupleGo
  split
  iterate 2
    · cases v with
      | ref a =>
        refine wpAny_bind (wpAny_load ho ?_)
        split
        · rename_i n vs hn hvs
          rw [hq n vs hn hvs, Bool.false_and, if_neg Bool.false_ne_true]
          exact wpAny_pure h
        · exact wpAny_pure h
      | _ => exact wpAny_pure h
  · exact wpAny_pure h
end Mine
end
section
open PySem PySem.W PyProof.Rows
set_option linter.unusedVariables false
set_option maxRecDepth 100000
namespace Mine
open PySem.Calls PySem.Spec PySem.SeqAt

section
variable {prog : Program} {w : World} {A : Around} {E : Value → Shared → Prop} {R : Result → Shared → Prop} {s : Shared}
theorem codeAny_compStart_at {elt : Expr} {gens : List Comprehension} {scope : Scope} {pos : Pos} {k : Nat} {it acc : Value} {env : Env} {target iter : Expr} {ifs : List Expr} (hg : gens[k]? = some ⟨target, iter, ifs, 0⟩)
    (h0 : codeAny (model prog w) A (.compLoop (.ListComp elt gens scope pos) k it acc env) R s)
    (h : wpAny (model prog w) A (pyIter it) (fun it' s' => codeAny (model prog w) A (.compLoop (.ListComp elt gens scope pos) k it' acc env) R s')
      (notedBy (model prog w) A env fun x s' => R (.error x) s') s) :
    codeAny (model prog w) A (.compStart (.ListComp elt gens scope pos) k it acc env) R s := by
  refine codeAny_of_tree ?_
  show wpAny _ _ ((compStart (.ListComp elt gens scope pos) k it acc env).onRaise (fun x => do noteFrame x env; standAt theWindowsPlace)) _ _ s
  refine wpAny_notedAt ?_
  unfold compStart
  have hc : (clausesOf (.ListComp elt gens scope pos)) = gens := rfl
  rw [hc, hg]
  show wpAny _ _ (ask >>= _) _ _ s
  refine wpAny_bind (wpAny_askSetting (wpAny_ite ?_))
  split
  · first
      | exact wpAny_bind (wpAny_pure (wpAny_pure (And.intro rfl h0)))
      | exact wpAny_pure (And.intro rfl h0)
  · refine wpAny_bind (wpAny_rule ?_)
    show wpAny _ _ (standAt iter.pos >>= _) _ _ s
    exact wpAny_bind (wpAny_standAt (wpAny_bind (wpAny_mono h (fun it' s' h' => wpAny_pure (And.intro rfl h')) fun _ _ x => x)))
end

/-- the tests of a clause -/
theorem tests_ok {W : Wd} {lv : Nat} {sc : Scope} {ρ : Names} {ifs : List Expr} {b : Bool} (h : ETs W lv sc ρ .And ifs b) : ∀ (A : Around) (h₀ : Heap) (fenv : Env) (L : Addr) (m : Str → Option Value) (mu fz : Led) (env : Env) (s : Shared) (Q : Bool → Shared → Prop) (E : Value → Shared → Prop),
    AOk W lv A h₀ fenv L → EnvOk env sc → SS W h₀ L m mu fz s.heap → NamesOk W env L m mu (mu ++ fz) (Hs W.base fz) ρ →
    (∀ fz' h' tk', Sub fz fz' → SS W h₀ L m mu fz' h' → Q b { s with heap := h', toks := tk' }) →
    wpAny (model W.prog W.w) A (forIn ifs true fun c r => if r = true then do let ok ← isTrue c env (eval c env); pure (ForInStep.yield ok) else pure (ForInStep.yield r)) Q E s := by
  have dead : ∀ (M : Model) (xs : List Expr) (env : Env) (A : Around) (s : Shared) (Q : Bool → Shared → Prop) (E : Value → Shared → Prop), Q false s →
      wpAny M A (forIn xs false fun c r => if r = true then do let ok ← isTrue c env (eval c env); pure (ForInStep.yield ok) else pure (ForInStep.yield r)) Q E s := by
    intro M xs env A s Q E h
    induction xs with
    | nil => exact wpAny_pure h
    | cons x xs ih =>
      rw [List.forIn_cons, if_neg Bool.false_ne_true]
      exact wpAny_bind (wpAny_pure ih)
  induction h with
  | nil =>
    intro A h₀ fenv L m mu fz env s Q E hA hE S hN k
    exact wpAny_pure (k fz _ _ (Sub.refl _) S)
  | stop h hb =>
    intro A h₀ fenv L m mu fz env s Q E hA hE S hN k
    subst hb
    rw [List.forIn_cons, if_pos rfl]
    refine wpAny_bind (wpAny_bind (h A h₀ fenv L m mu fz env s _ E hA hE S hN fun fz' h' t' s' S' => wpAny_pure ?_))
    exact dead _ _ _ _ _ _ _ (k fz' h' t' s' S')
  | go h hb _ ih =>
    intro A h₀ fenv L m mu fz env s Q E hA hE S hN k
    subst hb
    rw [List.forIn_cons, if_pos rfl]
    refine wpAny_bind (wpAny_bind (h A h₀ fenv L m mu fz env s _ E hA hE S hN fun fz' h' t' s' S' => wpAny_pure ?_))
    exact ih A h₀ fenv L m mu fz' env _ Q E hA hE S' (hN.grow s') fun fz₂ h₂ t₂ s₂ S₂ => k fz₂ h₂ t₂ (s'.trans s₂) S₂

/-- what a comprehension gives out -/
noncomputable def CB (W : Wd) (lv : Nat) (sc : Scope) (elt : Expr) : List Comprehension → Names → List Dat → Prop
  | [], ρ, out => ∃ d, EV W lv sc ρ elt (.dat d) ∧ out = [d]
  | g :: gs, ρ, out => g.is_async = 0 ∧ (∀ x env, foldedSetIterable g.iter env x = pure x) ∧ (∀ x ∈ tn g.target, ρ.lookup x = none) ∧ ∃ items, EI (fun _ => []) W lv sc ρ g.iter items ∧
    ∃ f : Dat → List Dat, out = items.flatMap f ∧ ∀ d ∈ items, ∃ bs b, bindT g.target d = some bs ∧ ETs W lv sc (bs ++ ρ) .And g.ifs b ∧ (b = true → CB W lv sc elt gs (bs ++ ρ) (f d)) ∧ (b = false → f d = [])
noncomputable def tns : List Comprehension → List Str
  | [] => []
  | g :: gs => tn g.target ++ tns gs

/-- the state of a comprehension: its own names, the list laid, the running iterators -/
structure CS (W : Wd) (h₀ : Heap) (L : Addr) (m : Str → Option Value) (loc : Led) (D : Addr) (vs : List Value) (n : Nat) (its mn fz : Led) (env : Env) (ρ : Names) (ts : List Str) (h : Heap) : Prop where
  ss : SS W h₀ L m (loc ++ (D, listOf vs.toArray n) :: (its ++ mn)) fz h
  nm : NamesOk W env L m mn (loc ++ (mn ++ fz)) (Hs W.base fz) ρ
  st : ∀ x ∈ ts, Sto env L loc x ∧ PlainName x
section
variable {W : Wd} {h₀ h : Heap} {L : Addr} {m : Str → Option Value} {loc : Led} {D : Addr} {vs : List Value} {n : Nat} {its mn fz : Led} {env : Env} {ρ : Names} {ts : List Str}
theorem CS.full (x : CS W h₀ L m loc D vs n its mn fz env ρ ts h) :
    NamesOk W env L m (loc ++ (D, listOf vs.toArray n) :: (its ++ mn)) ((loc ++ (D, listOf vs.toArray n) :: (its ++ mn)) ++ fz) (Hs W.base fz) ρ := by
  refine x.nm.sup (FSub.refl _) (fun p hp => List.mem_append_right _ (.tail _ (List.mem_append_right _ hp))) fun p hp => ?_
  rcases List.mem_append.mp hp with h | h
  · exact List.mem_append_left _ (List.mem_append_left _ h)
  · rcases List.mem_append.mp h with h | h
    · exact List.mem_append_left _ (List.mem_append_right _ (.tail _ (List.mem_append_right _ h)))
    · exact List.mem_append_right _ h
theorem CS.nd (x : CS W h₀ L m loc D vs n its mn fz env ρ ts h) : ((loc ++ (mn ++ fz)).map (·.1)).Nodup := by
  have e : ((loc ++ (D, listOf vs.toArray n) :: (its ++ mn) ++ fz).map (·.1)).Nodup := by
    obtain ⟨_, ⟨gl, _, l⟩, _⟩ := x.ss
    exact (l.sublist (List.sublist_append_right gl _)).nodup
  refine List.Nodup.sublist (List.Sublist.map _ ?_) e
  rw [List.append_assoc]
  refine List.Sublist.append_left (List.Sublist.cons _ ?_) loc
  exact List.Sublist.append_right (List.sublist_append_right its mn) fz
theorem CS.grow {fz' : Led} {h' : Heap} (x : CS W h₀ L m loc D vs n its mn fz env ρ ts h) (s : Sub fz fz') (S : SS W h₀ L m (loc ++ (D, listOf vs.toArray n) :: (its ++ mn)) fz' h') : CS W h₀ L m loc D vs n its mn fz' env ρ ts h' := by
  refine ⟨S, x.nm.sup (Hs.sub s) (Sub.refl _) fun p hp => ?_, x.st⟩
  rcases List.mem_append.mp hp with h | h
  · exact List.mem_append_left _ h
  · exact List.mem_append_right _ ((List.mem_append.mp h).elim (List.mem_append_left _) fun h => List.mem_append_right _ (s _ h))
theorem CS.sub {ρ' : Names} {ts' : List Str} (x : CS W h₀ L m loc D vs n its mn fz env ρ ts h) (hρ : ∀ x pv, ρ'.lookup x = some pv → ρ.lookup x = some pv) (ht : ∀ x ∈ ts', x ∈ ts) : CS W h₀ L m loc D vs n its mn fz env ρ' ts' h :=
  ⟨x.ss, x.nm.sub hρ, fun y hy => x.st y (ht y hy)⟩
theorem CS.moved {m' : Str → Option Value} {loc' : Led} {h' : Heap} {bs : Names} (x : CS W h₀ L m loc D vs n its mn fz env ρ ts h) (hne : env.locals ≠ L) (S : SS W h₀ L m' (loc' ++ (D, listOf vs.toArray n) :: (its ++ mn)) fz h')
    (mv : Moved W env L m loc m' loc' (Hs W.base fz) bs) : CS W h₀ L m loc' D vs n its mn fz env (bs ++ ρ) ts h' := by
  have e := mv.mm hne
  subst e
  exact ⟨S, mv.names _ _ _ _ (FSub.refl _) x.nd x.nm, fun y hy => ⟨mv.sto y (x.st y hy).1, (x.st y hy).2⟩⟩
theorem CS.next {h' : Heap} {I : Addr} {o o' : Obj} (x : CS W h₀ L m loc D vs n ((I, o) :: its) mn fz env ρ ts h) (hs : ∀ b o, b ≠ I → h.get? b = some o → h'.get? b = some o) (ho : h'.get? I = some o') :
    CS W h₀ L m loc D vs n ((I, o') :: its) mn fz env ρ ts h' := by
  refine ⟨?_, x.nm, x.st⟩
  have e : ∀ o : Obj, (loc ++ (D, listOf vs.toArray n) :: ((I, o) :: its ++ mn)).Perm ((I, o) :: ((loc ++ [(D, listOf vs.toArray n)]) ++ (its ++ mn))) := fun o => by
    have := List.perm_middle (a := (I, o)) (l₁ := loc ++ [(D, listOf vs.toArray n)]) (l₂ := its ++ mn)
    simpa using this
  exact ((x.ss.perm (e o)).setHead hs ho).perm (e o').symm
theorem CS.laid {h' : Heap} {vs' : List Value} {n' : Nat} (x : CS W h₀ L m loc D vs n its mn fz env ρ ts h) (hs : ∀ b o, b ≠ D → h.get? b = some o → h'.get? b = some o) (ho : h'.get? D = some (listOf vs'.toArray n')) :
    CS W h₀ L m loc D vs' n' its mn fz env ρ ts h' :=
  ⟨((x.ss.perm List.perm_middle).setHead hs ho).perm List.perm_middle.symm, x.nm, x.st⟩
theorem CS.drop {I : Addr} {o : Obj} {h' : Heap} (x : CS W h₀ L m loc D vs n ((I, o) :: its) mn fz env ρ ts h) (hs : ∀ b o, b ≠ I → h.get? b = some o → h'.get? b = some o) : CS W h₀ L m loc D vs n its mn fz env ρ ts h' := by
  refine ⟨?_, x.nm, x.st⟩
  have e : (loc ++ (D, listOf vs.toArray n) :: ((I, o) :: its ++ mn)).Perm ((I, o) :: (loc ++ (D, listOf vs.toArray n) :: (its ++ mn))) := by
    have := List.perm_middle (a := (I, o)) (l₁ := loc ++ [(D, listOf vs.toArray n)]) (l₂ := its ++ mn)
    simpa using this
  exact (x.ss.perm e).drop hs
theorem CS.pushIt {I : Addr} {o : Obj} {h' : Heap} (x : CS W h₀ L m loc D vs n its mn fz env ρ ts h) (S : SS W h₀ L m ((I, o) :: (loc ++ (D, listOf vs.toArray n) :: (its ++ mn))) fz h') : CS W h₀ L m loc D vs n ((I, o) :: its) mn fz env ρ ts h' := by
  refine ⟨S.perm ?_, x.nm, x.st⟩
  have := List.perm_middle (a := (I, o)) (l₁ := loc ++ [(D, listOf vs.toArray n)]) (l₂ := its ++ mn)
  simpa using this.symm
end

/-- the rest of a turn, from clause k on: a further clause's own loop, or the element laid -/
noncomputable def onward (elt : Expr) (gens : List Comprehension) (scope : Scope) (pos : Pos) (k : Nat) (D : Addr) (env : Env) (kont : Sem PySem.Fin) : Option Comprehension → Sem PySem.Fin
  | none => (eval elt env >>= fun v => call (.builtin "list.append") [.ref D, v] >>= fun _ => pure ()) >>= fun _ => kont
  | some g => eval g.iter env >>= fun x => standAt g.iter.pos >>= fun _ => foldedSetIterable g.iter env x >>= fun y => holding [y] (pyIter y) >>= fun i => runOwn (.compStart (.ListComp elt gens scope pos) k i (.ref D) env) env >>= fun _ => kont
noncomputable def EmitOk (W : Wd) (lv : Nat) (csc : Scope) (elt : Expr) (gens : List Comprehension) (scope : Scope) (pos : Pos) (k : Nat) (ρ : Names) (ts : List Str) (out : List Dat) : Prop :=
  (∀ g, gens[k]? = some g → g.is_async = 0) ∧ ∀ (A : Around) (h₀ : Heap) (fenv : Env) (L : Addr) (m : Str → Option Value) (loc : Led) (D : Addr) (vs : List Value) (n : Nat) (its mn fz : Led) (env : Env) (s : Shared) (kont : Sem PySem.Fin) (Q : PySem.Fin → Shared → Prop) (E : Value → Shared → Prop),
    AOk W lv A h₀ fenv L → EnvOk env csc → env.locals ≠ L → CS W h₀ L m loc D vs n its mn fz env ρ ts s.heap → vs.length + out.length ≤ 1048576 →
    (∀ loc' vs' n' fz' h' tk', Sub fz fz' → CS W h₀ L m loc' D (vs ++ vs') n' its mn fz' env ρ ts h' → RepA (Hs W.base fz') vs' out → (∀ y, Sto env L loc y → Sto env L loc' y) → wpAny (model W.prog W.w) A kont Q E { s with heap := h', toks := tk' }) →
    wpAny (model W.prog W.w) A (onward elt gens scope pos k D env kont gens[k]?) Q E s

/-- what stands ahead of each turn -/
inductive LoopI (W : Wd) (items : List Dat) (f : Dat → List Dat) (h₀ : Heap) (L : Addr) (m : Str → Option Value) (loc : Led) (D : Addr) (vs : List Value) (I : Addr) (its mn fz : Led) (St : Nat → Heap → Prop) (env : Env) (ρ : Names) (ts : List Str) (s : Shared) : Nat → Shared → Prop
  | mk {N i : Nat} {loc' : Led} {vs' : List Value} {n' : Nat} {o' : Obj} {fz' : Led} {h' : Heap} {tk' : Nat} (s' : Sub fz fz') (x : CS W h₀ L m loc' D (vs ++ vs') n' ((I, o') :: its) mn fz' env ρ ts h') (r : RepA (Hs W.base fz') vs' ((items.take i).flatMap f)) (st : St i h')
      (so : ∀ y, Sto env L loc y → Sto env L loc' y) (hi : i ≤ items.length) (hN : N = items.length + 1 - i) : LoopI W items f h₀ L m loc D vs I its mn fz St env ρ ts s N { s with heap := h', toks := tk' }
section
variable {W : Wd} {lv : Nat} {csc : Scope} {elt : Expr} {gens : List Comprehension} {scope : Scope} {pos : Pos} {k : Nat} {ρ : Names} {ts : List Str}
theorem emit_nil {d : Dat} (hk : gens[k]? = none) (h : EV W lv csc ρ elt (.dat d)) : EmitOk W lv csc elt gens scope pos k ρ ts [d] := by
  refine ⟨fun g hg => (by rw [hk] at hg; cases hg), fun A h₀ fenv L m loc D vs n its mn fz env s kont Q E hA hE hne x hz c => ?_⟩
  rw [hk]
  refine wpAny_bind (wpAny_bind (h A h₀ fenv L m _ fz env s _ _ hA hE x.ss x.full fun v fz' h' t' s' S' R' => wpAny_bind ?_))
  have x' := x.grow s' S'
  have hp : h'.PlainList D vs.toArray := ⟨n, x'.ss.ofMu (List.mem_append_right _ (.head _))⟩
  have hsz : vs.toArray.size ≤ sizeLine := by
    rw [List.size_toArray, sizeLine_eq]; simp at hz; (clear hp x' R' S' s' c x hne hE hA h hk; lia)
  refine wpAny_list_append_plain (hsz := hsz) hp fun h₂ hl₂ hs₂ => ?_
  · obtain ⟨n₂, e₂⟩ := hl₂
    have e₃ : vs.toArray.push v = (vs ++ [v]).toArray := by simp
    rw [e₃] at e₂
    exact wpAny_pure (c loc [v] n₂ fz' h₂ t' s' (x'.laid (fun b o hb e => hs₂.extBut b o hb e) e₂) (.one R') fun _ h => h)

theorem loop_ok {t iter : Expr} {ifs : List Expr} {items : List Dat} {f : Dat → List Dat} {ts' : List Str} (hg : gens[k]? = some ⟨t, iter, ifs, 0⟩) (hts : ts = tn t ++ ts') (hdis : ∀ x ∈ tn t, ρ.lookup x = none)
    (hf : ∀ d ∈ items, ∃ bs b, bindT t d = some bs ∧ ETs W lv csc (bs ++ ρ) .And ifs b ∧ (b = true → EmitOk W lv csc elt gens scope pos (k + 1) (bs ++ ρ) ts' (f d)) ∧ (b = false → f d = [])) :
    ∀ (A : Around) (h₀ : Heap) (fenv : Env) (L : Addr) (m : Str → Option Value) (loc : Led) (D : Addr) (vs : List Value) (n : Nat) (I : Addr) (o : Obj) (its mn fz : Led) (St : Nat → Heap → Prop) (env : Env) (s : Shared) (R : Result → Shared → Prop),
      AOk W lv A h₀ fenv L → EnvOk env csc → env.locals ≠ L → CS W h₀ L m loc D vs n ((I, o) :: its) mn fz env ρ ts s.heap → Src W A (Hs W.base fz) mn I St items → St 0 s.heap → vs.length + (items.flatMap f).length ≤ 1048576 →
      (∀ loc' vs' n' fz' h' tk', Sub fz fz' → CS W h₀ L m loc' D (vs ++ vs') n' its mn fz' env ρ ts h' → RepA (Hs W.base fz') vs' (items.flatMap f) → (∀ y, Sto env L loc y → Sto env L loc' y) → R (.ok .next) { s with heap := h', toks := tk' }) →
      codeAny (model W.prog W.w) A (.compLoop (.ListComp elt gens scope pos) k (.ref I) (.ref D) env) R s := by
  intro A h₀ fenv L m loc D vs n I o its mn fz St env s R hA hE hne x sr st hz c
  refine codeAny_loop rfl (LoopI W items f h₀ L m loc D vs I its mn fz St env ρ ts s) ?_ (items.length + 1)
    (.mk (i := 0) (vs' := []) (tk' := s.toks) (Sub.refl _) (by simpa using x) .nil st (fun _ h => h) (Nat.zero_le _) rfl)
  rintro _ _ ⟨s', x', r', st', so', hi, rfl⟩
  rename_i i loc' vs' n' o' fz' h' tk'
  show wpAny _ A ((compTurn (.ListComp elt gens scope pos) k (.ref I) (.ref D) env).onRaise (fun x => do noteFrame x env; theTreesLotGoes x)) _ _ _
  refine wpAny_noted ?_
  unfold compTurn
  simp only [hg]
  refine wpAny_bind (wpAny_standAt (wpAny_bind ?_))
  show wpAny _ _ (pyNext (.ref I)) _ _ _
  by_cases hlt : i < items.length
  · obtain ⟨d, hd⟩ : ∃ d, items[i]? = some d := ⟨items[i], List.getElem?_eq_getElem hlt⟩
    refine sr.item i d _ _ _ hd st' fun v h₁ tk₁ rv st₁ hk₁ => ?_
    obtain ⟨o₁, ho₁, hq₁, _⟩ := sr.obj _ _ st₁
    have x₁ := x'.next hk₁ ho₁
    obtain ⟨bs, b, hbs, htest, htrue, hfalse⟩ := hf d (List.mem_of_getElem? hd)
    refine wpAny_bind (letOwned_ok ho₁ hq₁ (wpAny_bind ?_))
    have hmem : (I, o₁) ∈ loc' ++ (D, listOf (vs ++ vs').toArray n') :: ((I, o₁) :: its ++ mn) := List.mem_append_right _ (.tail _ (.head _))
    have frame : ∀ {fz'' : Led} {loc'' : Led} {vs'' : List Value} {n'' : Nat} {ρ'' : Names} {ts'' : List Str} {h₂ : Heap}, Sub fz' fz'' → CS W h₀ L m loc'' D vs'' n'' ((I, o₁) :: its) mn fz'' env ρ'' ts'' h₂ → St (i + 1) h₂ := by
      intro fz'' loc'' vs'' n'' ρ'' ts'' h₂ s₂ x₂
      refine sr.frame _ _ _ st₁ (fun o e => ?_) fun b o hb => ?_
      · rw [ho₁] at e; cases e
        exact x₂.ss.ofMu (List.mem_append_right _ (.tail _ (.head _)))
      · rcases hb with hb | hb
        · exact x₂.ss.has (Hs.sub (s'.trans s₂) _ _ hb)
        · exact x₂.ss.ofMu (List.mem_append_right _ (.tail _ (List.mem_append_right _ hb)))
    refine assign_ok hA.hh hE x₁.ss (fun y hy => x₁.st y (hts ▸ List.mem_append_left _ hy)) (rv.mono (Hs.sub s')) hbs fun m₂ loc₂ h₂ tk₂ S₂ mv₂ => ?_
    have x₂ := x₁.moved hne S₂ mv₂
    refine wpAny_bind (tests_ok htest A h₀ fenv L m _ fz' env _ _ _ hA hE x₂.ss x₂.full fun fz₃ h₃ tk₃ s₃ S₃ => ?_)
    have x₃ := x₂.grow s₃ S₃
    have back : ∀ x pv, ρ.lookup x = some pv → (bs ++ ρ).lookup x = some pv := lookup_back fun x hx => hdis x (by rw [bindT_names hbs] at hx; exact hx)
    have etake : (items.take (i + 1)).flatMap f = (items.take i).flatMap f ++ f d := by
      rw [List.take_add_one, hd]; simp
    have elen : ((items.take i).flatMap f ++ f d).length ≤ (items.flatMap f).length := by
      rw [← etake]
      have : items.flatMap f = (items.take (i + 1)).flatMap f ++ (items.drop (i + 1)).flatMap f := by rw [← List.flatMap_append, List.take_append_drop]
      rw [this, List.length_append]; (clear this etake back x₃ S₃ s₃ x₂ mv₂ S₂ frame hmem hfalse htrue htest hbs x₁ hq₁ ho₁ hk₁ st₁ rv hd hlt hi so' st' r' x' s' c hz st sr x hne hE hA hf hdis hts hg; lia)
    cases b with
    | false =>
      rw [if_neg Bool.false_ne_true]
      refine wpAny_pure ⟨rfl, items.length + 1 - (i + 1), by (clear hfalse htrue htest elen etake back x₃ S₃ s₃ x₂ mv₂ S₂ frame hmem hbs x₁ hq₁ ho₁ hk₁ st₁ rv hd hi so' st' r' x' s' c hz st sr x hne hE hA hf hdis hts hg; omega), .mk (i := i + 1) (s'.trans s₃) (x₃.sub back (fun _ h => h)) ?_ (frame s₃ x₃) (fun y hy => mv₂.sto y (so' y hy)) hlt rfl⟩
      rw [etake, hfalse rfl, List.append_nil]
      exact r'.mono (Hs.sub s₃)
    | true =>
      rw [if_pos rfl]
      obtain ⟨has, go⟩ := htrue rfl
      suffices w : wpAny (model W.prog W.w) A (onward elt gens scope pos (k + 1) D env (again (.compLoop (.ListComp elt gens scope pos) k (.ref I) (.ref D) env)) gens[k + 1]?) _ _ { s with heap := h₃, toks := tk₃ } by
        cases hq : gens[k + 1]? with
        | none => rw [hq] at w; exact w
        | some g =>
          rw [hq] at w
          obtain ⟨t', i', f', a'⟩ := g
          cases has _ hq
          exact w
      refine go A h₀ fenv L m loc₂ D (vs ++ vs') n' ((I, o₁) :: its) mn fz₃ env { s with heap := h₃, toks := tk₃ } (again (.compLoop (.ListComp elt gens scope pos) k (.ref I) (.ref D) env)) _ _ hA hE hne (x₃.sub (fun _ _ h => h) (fun y hy => hts ▸ List.mem_append_right _ hy)) ?_ fun loc₄ vs₄ n₄ fz₄ h₄ tk₄ s₄ x₄ r₄ so₄ => ?_
      · have := r'.length
        rw [List.length_append] at elen ⊢; (clear go has hfalse htrue htest etake back x₃ S₃ s₃ x₂ mv₂ S₂ frame hmem hbs x₁ hq₁ ho₁ hk₁ st₁ rv hd hlt hi so' st' r' x' s' c st sr x hne hE hA hf hdis hts hg; lia)
      · have x₅ : CS W h₀ L m loc₄ D (vs ++ (vs' ++ vs₄)) n₄ ((I, o₁) :: its) mn fz₄ env ρ ts h₄ := by
          rw [← List.append_assoc]
          exact ⟨x₄.ss, x₄.nm.sub back, fun y hy => ⟨so₄ y (x₃.st y hy).1, (x₃.st y hy).2⟩⟩
        refine wpAny_pure ⟨rfl, items.length + 1 - (i + 1), by (clear x₅ so₄ r₄ x₄ s₄ go has hfalse htrue htest elen etake back x₃ S₃ s₃ x₂ mv₂ S₂ frame hmem hbs x₁ hq₁ ho₁ hk₁ st₁ rv hd hi so' st' r' x' s' c hz st sr x hne hE hA hf hdis hts hg; omega), .mk (i := i + 1) (s'.trans (s₃.trans s₄)) x₅ ?_ (frame (s₃.trans s₄) x₄) (fun y hy => so₄ y (mv₂.sto y (so' y hy))) hlt rfl⟩
        rw [etake]
        exact (r'.mono (Hs.sub (s₃.trans s₄))).append r₄
  · have hin : i = items.length := by (clear so' st' r' x' s' c hz st sr x hne hE hA hf hdis hts hg; lia)
    subst hin
    refine sr.done _ _ _ st' fun h₁ tk₁ hk₁ => ?_
    rw [List.take_length] at r'
    exact wpAny_pure (c loc' vs' n' fz' h₁ tk₁ s' (x'.drop hk₁) r' so')
end
end Mine
end
section
open PySem PySem.W PyProof.Rows
set_option linter.unusedVariables false
set_option maxRecDepth 100000
namespace Mine
open PySem.Calls PySem.Spec PySem.SeqAt

section
variable {W : Wd} {lv : Nat} {csc : Scope} {elt : Expr} {gens : List Comprehension} {scope : Scope} {pos : Pos} {k : Nat} {ρ : Names} {ts : List Str}
theorem emit_cons {t iter : Expr} {ifs : List Expr} {items : List Dat} {f : Dat → List Dat} {ts' : List Str} (hg : gens[k]? = some ⟨t, iter, ifs, 0⟩) (hts : ts = tn t ++ ts') (hdis : ∀ x ∈ tn t, ρ.lookup x = none)
    (hset : ∀ x env, foldedSetIterable iter env x = pure x) (hi : EI (fun _ => []) W lv csc ρ iter items)
    (hf : ∀ d ∈ items, ∃ bs b, bindT t d = some bs ∧ ETs W lv csc (bs ++ ρ) .And ifs b ∧ (b = true → EmitOk W lv csc elt gens scope pos (k + 1) (bs ++ ρ) ts' (f d)) ∧ (b = false → f d = [])) :
    EmitOk W lv csc elt gens scope pos k ρ ts (items.flatMap f) := by
  refine ⟨fun g h => (by rw [hg] at h; cases h; rfl), fun A h₀ fenv L m loc D vs n its mn fz env s kont Q E hA hE hne x hz c => ?_⟩
  rw [hg]
  have key := hi A h₀ fenv L m _ fz env s (fun it s' => wpAny (model W.prog W.w) A (do
      let _ ← runOwn (.compStart (.ListComp elt gens scope pos) k it (.ref D) env) env
      kont) Q E s') E hA hE x.ss x.full fun I St o fz' h' tk' s' S' sr st => ?_
  · refine wpAny_bind (wpAny_mono key (fun x s₁ h₁ => wpAny_bind (wpAny_standAt ?_)) fun _ _ e => e)
    refine wpAny_bind (m := foldedSetIterable iter env x) ?_
    rw [hset]
    refine wpAny_pure (wpAny_bind (m := holding [x] (pyIter x)) (wpAny_holding ?_))
    exact h₁
  · have x₁ := (x.grow s' (S'.sublist (List.sublist_cons_self _ _))).pushIt S'
    refine wpAny_bind (wpAny_runOwn ?_)
    have loop : ∀ s₁ : Shared, s₁ = { s with heap := h', toks := tk' } → codeAny (model W.prog W.w) A (.compLoop (.ListComp elt gens scope pos) k (.ref I) (.ref D) env)
        (fun r s' => match r with | .ok f => wpAny (model W.prog W.w) A kont Q E s' | .error e => cameBackBy (model W.prog W.w) A env E e s') s₁ := by
      rintro s₁ rfl
      exact loop_ok hg hts hdis hf A h₀ fenv L m loc D vs n I o its mn fz' St env _ _ hA hE hne x₁ (sr.mono (FSub.refl _) (fun _ h => by cases h)) st hz
        fun loc' vs' n' fz₂ h₂ tk₂ s₂ x₂ r₂ so₂ => c loc' vs' n' fz₂ h₂ tk₂ (s'.trans s₂) x₂ r₂ so₂
    exact codeAny_compStart_at hg (loop _ rfl) (sr.self 0 _ _ _ st (loop _ rfl))
end
section
variable {W : Wd} {lv : Nat} {csc : Scope} {elt : Expr} {gens : List Comprehension} {scope : Scope} {pos : Pos}
theorem emit_ok : ∀ (gs : List Comprehension) (k : Nat) (ρ : Names) (out : List Dat), gens.drop k = gs → CB W lv csc elt gs ρ out → EmitOk W lv csc elt gens scope pos k ρ (tns gs) out
  | [], k, ρ, out, hk, h => by
    obtain ⟨d, h, rfl⟩ := h
    exact emit_nil (by rw [← List.head?_drop, hk]; rfl) h
  | ⟨t, iter, ifs, ia⟩ :: gs, k, ρ, out, hk, h => by
    obtain ⟨h0, hset, hdis, items, hi, f, rfl, hf⟩ := h
    have h0 : ia = 0 := h0
    subst h0
    have hg : gens[k]? = some ⟨t, iter, ifs, 0⟩ := by rw [← List.head?_drop, hk]; rfl
    have hk' : gens.drop (k + 1) = gs := by rw [← List.tail_drop, hk]; rfl
    refine emit_cons hg rfl hdis hset hi fun d hd => ?_
    obtain ⟨bs, b, h1, h2, h3, h4⟩ := hf d hd
    exact ⟨bs, b, h1, h2, fun e => emit_ok gs (k + 1) _ _ hk' (h3 e), h4⟩
end

/-! own cells -/
noncomputable def cellO : Obj := { cls := .type "cell", data := .cell none }
theorem cellsFrom_skip {x : Str} : ∀ (names : List (Str × NameKind)) (n : Nat) (acc : List (Str × Addr)), (x, NameKind.cell) ∉ names → (cellsFrom n names acc).lookup x = acc.lookup x
  | [], _, _, _ => rfl
  | (y, kd) :: r, n, acc, h => by
    have hr : (x, NameKind.cell) ∉ r := fun q => h (.tail _ q)
    unfold cellsFrom
    split
    · rename_i hk
      rw [cellsFrom_skip r _ _ hr, List.lookup_cons]
      have : (x == y) = false := by
        cases e : x == y with
        | false => rfl
        | true =>
          have e1 := beq_iff_eq.mp e
          have e2 : kd = .cell := by cases kd <;> first | rfl | cases hk
          exact absurd (by rw [e1, e2]; exact .head _) h
      rw [this]
    · exact cellsFrom_skip r _ _ hr
theorem cellsFrom_inj : ∀ (names : List (Str × NameKind)) (n : Nat) (acc : List (Str × Addr)), (∀ x c, acc.lookup x = some c → c < n) → (∀ x y c, acc.lookup x = some c → acc.lookup y = some c → x = y) →
    ∀ x y c, (cellsFrom n names acc).lookup x = some c → (cellsFrom n names acc).lookup y = some c → x = y
  | [], n, acc, h1, h2 => h2
  | (z, kd) :: r, n, acc, h1, h2 => by
    unfold cellsFrom
    split
    · refine cellsFrom_inj r (n + 1) _ (fun x c hx => ?_) fun x y c hx hy => ?_
      · rw [List.lookup_cons] at hx
        split at hx
        · cases hx; exact Nat.lt_succ_self _
        · exact Nat.lt_succ_of_lt (h1 x c hx)
      · rw [List.lookup_cons] at hx hy
        split at hx <;> split at hy
        · rename_i a _ b; rw [beq_iff_eq.mp a, beq_iff_eq.mp b]
        · cases hx; exact absurd (h1 _ _ hy) (Nat.lt_irrefl _)
        · cases hy; exact absurd (h1 _ _ hx) (Nat.lt_irrefl _)
        · exact h2 x y c hx hy
    · exact cellsFrom_inj r n acc h1 h2
theorem lay_cells {W : Wd} {h₀ : Heap} {L : Addr} {m : Str → Option Value} {fz : Led} : ∀ (names : List (Str × NameKind)) (h : Heap) (acc : List (Str × Addr)) (mu : Led), SS W h₀ L m mu fz h →
    ∃ cells : Led, SS W h₀ L m (cells ++ mu) fz (pushCells h names) ∧ (∀ p ∈ cells, p.2 = cellO ∧ h.objs.size ≤ p.1) ∧
      ∀ x, (x, NameKind.cell) ∈ names → ∃ c, (cellsFrom h.objs.size names acc).lookup x = some c ∧ (c, cellO) ∈ cells
  | [], h, acc, mu, S => ⟨[], S, (fun _ h => nomatch h), (fun _ h => nomatch h)⟩
  | (y, kd) :: r, h, acc, mu, S => by
    unfold pushCells cellsFrom
    split
    · obtain ⟨cells, S', a1, a2⟩ := lay_cells r (h.push cellO) ((y, h.objs.size) :: acc) _ (S.pushMu cellO)
      rw [Heap.size_push] at a1 a2
      refine ⟨cells ++ [(h.objs.size, cellO)], by rw [List.append_assoc]; exact S', fun p hp => ?_, fun x hx => ?_⟩
      · rcases List.mem_append.mp hp with hp | hp
        · exact ⟨(a1 p hp).1, Nat.le_of_succ_le (a1 p hp).2⟩
        · simp at hp; subst hp; exact ⟨rfl, Nat.le_refl _⟩
      · by_cases hr : (x, NameKind.cell) ∈ r
        · obtain ⟨c, e1, e2⟩ := a2 x hr
          exact ⟨c, e1, List.mem_append_left _ e2⟩
        · have e : x = y := by
            rcases List.mem_cons.mp hx with e | e
            · exact (Prod.mk.inj e).1
            · exact absurd e hr
          subst e
          exact ⟨h.objs.size, by rw [cellsFrom_skip r _ _ hr]; simp, by simp⟩
    · rename_i hk
      obtain ⟨cells, S', a1, a2⟩ := lay_cells r h acc mu S
      refine ⟨cells, S', a1, fun x hx => ?_⟩
      rcases List.mem_cons.mp hx with e | e
      · cases e; exact absurd rfl hk
      · exact a2 x e

/-! closures -/
noncomputable def closL (cells : List (Str × Addr)) : List (Str × NameKind) → List (Str × Addr) → List (Str × Addr)
  | [], acc => acc
  | (x, kd) :: r, acc => if kd == .free then (match cells.lookup x with | some c => closL cells r ((x, c) :: acc) | none => closL cells r acc) else closL cells r acc
theorem closL_for {env : Env} (f : Str × NameKind → List (Str × Addr) → Sem (ForInStep (List (Str × Addr))))
    (hf : ∀ x kd cs, f (x, kd) cs = if kd == .free then (do let a ← cellOf env x; pure (.yield ((x, a) :: cs))) else pure (.yield cs)) : ∀ (names : List (Str × NameKind)) (acc : List (Str × Addr)), (∀ x, (x, NameKind.free) ∈ names → (env.cells.lookup x).isSome = true) →
    forIn names acc f = pure (closL env.cells names acc)
  | [], acc, _ => by rw [List.forIn_nil]; rfl
  | (x, kd) :: r, acc, h => by
    have hr : ∀ x, (x, NameKind.free) ∈ r → (env.cells.lookup x).isSome = true := fun x hx => h x (.tail _ hx)
    rw [List.forIn_cons, hf]
    unfold closL
    split
    · rename_i hk
      have e : kd = .free := by cases kd <;> first | rfl | cases hk
      subst e
      obtain ⟨c, hc⟩ := Option.isSome_iff_exists.mp (h x (.head _))
      have hco : cellOf env x = pure c := by unfold cellOf; rw [hc]
      rw [hc, hco]
      exact closL_for f hf r _ hr
    · exact closL_for f hf r _ hr
theorem closureFor_ok {scope : Scope} {env : Env} (h : ∀ x, (x, NameKind.free) ∈ scope.names → (env.cells.lookup x).isSome = true) : closureFor scope env = pure (closL env.cells scope.names []) := by
  unfold closureFor
  dsimp only
  rw [closL_for (env := env) _ (fun x kd cs => by cases hk : kd == NameKind.free <;> simp) scope.names [] h]
  rfl
theorem closL_skip {cells : List (Str × Addr)} {x : Str} : ∀ (names : List (Str × NameKind)) (acc : List (Str × Addr)), (x, NameKind.free) ∉ names → (closL cells names acc).lookup x = acc.lookup x
  | [], _, _ => rfl
  | (y, kd) :: r, acc, h => by
    have hr : (x, NameKind.free) ∉ r := fun q => h (.tail _ q)
    unfold closL
    split
    · rename_i hk
      have e2 : kd = .free := by cases kd <;> first | rfl | cases hk
      split
      · rw [closL_skip r _ hr, List.lookup_cons]
        have : (x == y) = false := by
          cases e : x == y with
          | false => rfl
          | true => exact absurd (by rw [beq_iff_eq.mp e, e2]; exact .head _) h
        rw [this]
      · exact closL_skip r _ hr
    · exact closL_skip r _ hr
theorem closL_at {cells : List (Str × Addr)} {x : Str} {c : Addr} (hc : cells.lookup x = some c) : ∀ (names : List (Str × NameKind)) (acc : List (Str × Addr)), (x, NameKind.free) ∈ names → (closL cells names acc).lookup x = some c
  | (y, kd) :: r, acc, h => by
    by_cases hr : (x, NameKind.free) ∈ r
    · unfold closL
      split
      · split
        · exact closL_at hc r _ hr
        · exact closL_at hc r _ hr
      · exact closL_at hc r _ hr
    · rcases List.mem_cons.mp h with e | e
      · cases e
        unfold closL
        rw [if_pos (by rfl), hc]
        show (closL cells r ((x, c) :: acc)).lookup x = _
        rw [closL_skip r _ hr]; simp
      · exact absurd e hr
theorem closL_of {cells : List (Str × Addr)} {x : Str} {c : Addr} : ∀ (names : List (Str × NameKind)) (acc : List (Str × Addr)), (∀ x c, acc.lookup x = some c → cells.lookup x = some c) → (closL cells names acc).lookup x = some c → cells.lookup x = some c
  | [], acc, h, k => h _ _ k
  | (y, kd) :: r, acc, h, k => by
    unfold closL at k
    split at k
    · split at k
      · rename_i c' hc'
        refine closL_of r _ (fun x c hx => ?_) k
        rw [List.lookup_cons] at hx
        split at hx
        · rename_i e; cases hx; rw [beq_iff_eq.mp e]; exact hc'
        · exact h x c hx
      · exact closL_of r _ h k
    · exact closL_of r _ h k
end Mine
end
section
open PySem PySem.W PyProof.Rows
set_option linter.unusedVariables false
set_option maxRecDepth 100000
namespace Mine
open PySem.Calls PySem.Spec PySem.SeqAt

/-- what a comprehension's scope must be under a written one -/
noncomputable def compSc (sc cs : Scope) : Bool := cs.kind == .function && cs.more.isEmpty && (cs.names.lookup (".0" : Str) == some .local) && cs.names.all fun p =>
  (cs.names.lookup p.1 == some p.2) && (p.2 != .free || sc.names.lookup p.1 == some .cell || sc.names.lookup p.1 == some .free)
theorem lookup_mapKind {g : Str → NameKind → NameKind} : ∀ {names : List (Str × NameKind)} {x : Str}, (names.map fun p => (p.1, g p.1 p.2)).lookup x = (names.lookup x).map (g x)
  | [], x => rfl
  | (y, k) :: r, x => by
    have ih := @lookup_mapKind g r x
    rw [List.map_cons, List.lookup_cons, List.lookup_cons]
    cases h : x == y with
    | true => rw [beq_iff_eq.mp h]; rfl
    | false => exact ih
theorem relabel_names {scope : Scope} {env : Env} : (relabel scope env).names = scope.names.map fun p => (p.1, if (p.2 == .free && env.scope.kind == .function && env.kindOf p.1 == some .cell) then .cell else p.2) := by
  unfold relabel
  refine List.map_congr_left fun p _ => ?_
  obtain ⟨n, k⟩ := p
  show (if _ then _ else _) = _
  split <;> rfl
theorem relabel_lookup {scope : Scope} {env : Env} {x : Str} : (relabel scope env).names.lookup x = (scope.names.lookup x).map fun k => if (k == .free && env.scope.kind == .function && env.kindOf x == some .cell) then .cell else k := by
  rw [relabel_names]
  exact lookup_mapKind (g := fun y k => if (k == .free && env.scope.kind == .function && env.kindOf y == some .cell) then .cell else k)

/-- the names that a comprehension brings along -/
noncomputable def SubF (names : List (Str × NameKind)) (ρ : Names) : Names → Prop
  | [] => True
  | (x, pv) :: r => (ρ.lookup x = some pv ∧ names.lookup x = some .free) ∧ SubF names ρ r
theorem SubF.mem {names : List (Str × NameKind)} {ρ : Names} : ∀ {ρ' : Names}, SubF names ρ ρ' → ∀ {x pv}, (x, pv) ∈ ρ' → ρ.lookup x = some pv ∧ names.lookup x = some .free
  | (y, q) :: r, h, x, pv, hm => by
    rcases List.mem_cons.mp hm with e | hm
    · cases e; exact h.1
    · exact SubF.mem h.2 hm
noncomputable def FreeAll (ρ : Names) (names : List (Str × NameKind)) : Bool := names.all fun p => p.2 != .free || (ρ.lookup p.1).isSome

noncomputable def blockO : Obj := { cls := .type "dict", data := .dict #[] }
theorem blockNs (h : Heap) : ObjNs blockO (fun _ => none) := by
  obtain ⟨o, e, n⟩ := ObjNs.of (Heap.Ns.new h (.type "dict"))
  have e2 : (h.push blockO).get? h.objs.size = some blockO := Heap.get?_push_size _ rfl
  have e3 : (h.push blockO).get? h.objs.size = some o := e
  rw [e2] at e3; cases e3; exact n

/-- a comprehension's frame -/
structure CEnv (W : Wd) (env : Env) (scope : Scope) (L : Addr) (cenv : Env) (m : Str → Option Value) (loc mu fz : Led) (h₀ : Heap) (ρ' : Names) : Prop where
  ok : EnvOk cenv scope
  ne : cenv.locals ≠ L
  nm : NamesOk W cenv L m mu (loc ++ (mu ++ fz)) (Hs W.base fz) ρ'
  st : ∀ x, scope.names.lookup x = some .local ∨ scope.names.lookup x = some .cell → Sto cenv L loc x
  lk : cenv.kindOf (".0" : Str) = some .local

section
variable {W : Wd} {sc scope : Scope} {ρ ρ' : Names} {env : Env} {L : Addr} {m : Str → Option Value} {mu its fz : Led} {h₀ : Heap} {A : Around} {E : Value → Shared → Prop} {s : Shared} {D : Addr} {oD : Obj} {M : Model}
theorem comp_env (hsc : compSc sc scope = true) (hρ : SubF scope.names ρ ρ') (hfree : FreeAll ρ scope.names = true) (hE : EnvOk env sc) (S : SS W h₀ L m ((D, oD) :: (its ++ mu)) fz s.heap)
    (hN : NamesOk W env L m mu (mu ++ fz) (Hs W.base fz) ρ) {Q : Env → Shared → Prop}
    (k : ∀ cenv loc h', (∀ b o, s.heap.get? b = some o → h'.get? b = some o) → SS W h₀ L m (loc ++ (D, oD) :: (its ++ mu)) fz h' → CEnv W env scope L { cenv with scope := relabel scope env } m loc mu fz h₀ ρ' → Q cenv { s with heap := h' }) :
    closureFor scope env = pure (closL env.cells scope.names []) ∧
    wpAny M A (newFunctionEnv scope env.globals (closL env.cells scope.names []) [] env.qual none .none (some env)) Q E s := by
  simp only [compSc, Bool.and_eq_true, beq_iff_eq, List.all_eq_true, Bool.or_eq_true] at hsc
  obtain ⟨⟨⟨hkind, hmore⟩, hdot⟩, hall⟩ := hsc
  simp only [FreeAll, List.all_eq_true, Bool.or_eq_true] at hfree
  have sck : ∀ x, (x, NameKind.free) ∈ scope.names → sc.names.lookup x = some .cell ∨ sc.names.lookup x = some .free := by
    intro x hx
    obtain ⟨_, h⟩ := hall _ hx
    rcases h with (h | h) | h
    · cases h
    · exact .inl h
    · exact .inr h
  -- every free name has a cell of the ledger
  have cellAt : ∀ x pv, scope.names.lookup x = some .free → ρ.lookup x = some pv → ∃ c o v, env.cells.lookup x = some c ∧ (c, o) ∈ mu ++ fz ∧ o.data = .cell (some v) ∧ PRep W (Hs W.base fz) mu v pv ∧ PlainName x := by
    intro x pv hx hp
    obtain ⟨hpn, v, l, r⟩ := hN x pv hp
    have hk : env.kindOf x = some .cell ∨ env.kindOf x = some .free := by
      rcases sck x (mem_of_lookup hx) with h | h
      · exact (hE.cells x _ h (.inl rfl)).1
      · exact (hE.cells x _ h (.inr rfl)).1
    cases l with
    | here a b _ => rw [b] at hk; rcases hk with h | h <;> cases h
    | block a _ _ _ => rw [a] at hk; rcases hk with h | h <;> cases h
    | @cell c o _ a b c' d => exact ⟨c, o, v, b, c', d, r, hpn⟩
  have memLook : ∀ x kd, (x, kd) ∈ scope.names → scope.names.lookup x = some kd := fun x kd hx => (hall _ hx).1
  have freeCell : ∀ x, (x, NameKind.free) ∈ scope.names → ∃ c o v, env.cells.lookup x = some c ∧ (c, o) ∈ mu ++ fz ∧ o.data = .cell (some v) := by
    intro x hx
    have := hfree _ hx
    rcases this with h | h
    · cases h
    · obtain ⟨pv, hpv⟩ := Option.isSome_iff_exists.mp h
      obtain ⟨c, o, v, a, b, d, _⟩ := cellAt x pv (memLook _ _ hx) hpv
      exact ⟨c, o, v, a, b, d⟩
  refine ⟨closureFor_ok fun x hx => ?_, ?_⟩
  · obtain ⟨c, _, _, e, _⟩ := freeCell x hx
    rw [e]; rfl
  simp only [newFunctionEnv, Option.isSome_some, if_true]
  refine wpAny_bind (wpAny_alloc ?_)
  refine wpAny_bind (wpAny_layCells _ (fun name kind cells => by cases hkc : kind == NameKind.cell <;> simp) _ _ _ _ ?_)
  have S₁ := S.pushMu blockO
  obtain ⟨cells, S₂, c1, c2⟩ := lay_cells scope.names _ (closL env.cells scope.names []) _ S₁
  rw [List.forIn_nil]
  refine wpAny_bind (wpAny_pure (wpAny_pure ?_))
  have muIn : ∀ p ∈ mu ++ fz, p ∈ ((D, oD) :: (its ++ mu)) ++ fz := fun p hp => by
    rcases List.mem_append.mp hp with h | h
    · exact List.mem_append_left _ (.tail _ (List.mem_append_right _ h))
    · exact List.mem_append_right _ h
  have lt : ∀ x c, (closL env.cells scope.names []).lookup x = some c → c < s.heap.objs.size ∧ env.cells.lookup x = some c ∧ (x, NameKind.free) ∈ scope.names := by
    intro x c hx
    have e := closL_of _ _ (fun _ _ h => by cases h) hx
    by_cases hf : (x, NameKind.free) ∈ scope.names
    · obtain ⟨c', o, _, e', hm, _⟩ := freeCell x hf
      rw [e] at e'; cases e'
      exact ⟨S.below (p := (c, o)) (muIn _ hm), e, hf⟩
    · rw [closL_skip _ _ hf] at hx; cases hx
  have hsz : (s.heap.push blockO).objs.size = s.heap.objs.size + 1 := Heap.size_push ..
  refine k _ (cells ++ [(s.heap.objs.size, blockO)]) _ (fun b o e => pushCells_keeps _ _ b o (Heap.get?_push_of_some _ e)) (by rw [List.append_assoc]; exact S₂) ⟨⟨?_, hE.glob, hE.blt, fun n hn => ?_, fun n kd hn hk => ?_, fun x y c hx hy => ?_, fun c hc => ?_, fun c hc => ?_, fun n hn => ?_⟩, ?_, ?_, fun x hx => ?_, ?_⟩
  · show (relabel scope env).kind = _
    exact hkind
  · show (relabel scope env).names.lookup n = _
    rw [relabel_lookup, hn]; rfl
  · have hkd : Env.kindOf { scope := relabel scope env, locals := 0, globals := 0, cells := [], qual := env.qual, func := none, code := .none, frame := none, builtins := 0 } n = some .cell ∨ Env.kindOf { scope := relabel scope env, locals := 0, globals := 0, cells := [], qual := env.qual, func := none, code := .none, frame := none, builtins := 0 } n = some .free := by
      show (relabel scope env).names.lookup n = _ ∨ (relabel scope env).names.lookup n = _
      rw [relabel_lookup, hn]
      rcases hk with rfl | rfl
      · exact .inl rfl
      · simp only [Option.map_some]
        split
        · exact .inl rfl
        · exact .inr rfl
    refine ⟨hkd, ?_⟩
    rcases hk with rfl | rfl
    · obtain ⟨c, e, _⟩ := c2 n (mem_of_lookup hn)
      show (List.lookup n (cellsFrom _ _ _)).isSome = true
      exact (congrArg Option.isSome e).trans rfl
    · have hne : (n, NameKind.cell) ∉ scope.names := fun q => by
        have := memLook _ _ q
        rw [hn] at this; cases this
      obtain ⟨c, _, _, e, _⟩ := freeCell n (mem_of_lookup hn)
      show (List.lookup n (cellsFrom _ _ _)).isSome = true
      rw [cellsFrom_skip _ _ _ hne, closL_at e _ _ (mem_of_lookup hn)]; rfl
  · refine cellsFrom_inj scope.names _ _ (fun x c hx => ?_) (fun x y c hx hy => ?_) x y c hx hy
    · exact Nat.lt_of_lt_of_le (lt x c hx).1 (by show _ ≤ (s.heap.push blockO).objs.size; rw [hsz]; exact Nat.le_succ _)
    · exact hE.inj x y c (lt x c hx).2.1 (lt y c hy).2.1
  · rw [List.isEmpty_iff] at hmore
    rw [hmore] at hc; cases hc
  · rw [List.isEmpty_iff] at hmore
    rw [hmore] at hc; cases hc
  · show (relabel scope env).names.lookup n = _
    rw [relabel_lookup, hn]; rfl
  · show s.heap.objs.size ≠ L
    obtain ⟨oL, _, _, e, _⟩ := S.fr.ns
    exact Nat.ne_of_gt (Heap.lt_size e)
  · intro x pv hx
    obtain ⟨h1, h2⟩ := hρ.mem (mem_of_lookup hx)
    obtain ⟨c, o, v, e, hm, hd, r, hpn⟩ := cellAt x pv h2 h1
    have hne : (x, NameKind.cell) ∉ scope.names := fun q => by
      have := memLook _ _ q
      rw [h2] at this; cases this
    refine ⟨hpn, v, .cell ?_ ?_ (List.mem_append_right _ hm) hd, r⟩
    · show (relabel scope env).names.lookup x = _ ∨ (relabel scope env).names.lookup x = _
      rw [relabel_lookup, h2]
      simp only [Option.map_some]
      split
      · exact .inl rfl
      · exact .inr rfl
    · show List.lookup x (cellsFrom _ _ _) = _
      rw [cellsFrom_skip _ _ _ hne, closL_at e _ _ (mem_of_lookup h2)]
  · rcases hx with hx | hx
    · refine .inl ⟨?_, .inr ⟨blockO, fun _ => none, List.mem_append_right _ (.head _), blockNs s.heap⟩⟩
      show (relabel scope env).names.lookup x = _
      rw [relabel_lookup, hx]; rfl
    · obtain ⟨c, e, hm⟩ := c2 x (mem_of_lookup hx)
      refine .inr ⟨?_, c, cellO, none, e, List.mem_append_left _ hm, rfl⟩
      show (relabel scope env).names.lookup x = _
      rw [relabel_lookup, hx]; rfl
  · show (relabel scope env).names.lookup _ = _
    rw [relabel_lookup, hdot]; rfl
end

noncomputable def tgtOk (scope : Scope) (gens : List Comprehension) : Prop := ∀ x ∈ tns gens, (scope.names.lookup x = some .local ∨ scope.names.lookup x = some .cell) ∧ PlainName x
/-- the first clause's turns -/
noncomputable def CTop (W : Wd) (lv : Nat) (scope : Scope) (elt t : Expr) (ifs : List Expr) (gs : List Comprehension) (ρ' : Names) (items : List Dat) (f : Dat → List Dat) : Prop :=
  ∀ d ∈ items, ∃ bs b, bindT t d = some bs ∧ ETs W lv scope (bs ++ ρ') .And ifs b ∧ (b = true → CB W lv scope elt gs (bs ++ ρ') (f d)) ∧ (b = false → f d = [])
section
variable {W : Wd} {lv : Nat} {sc scope : Scope} {ρ ρ' : Names} {elt t iter : Expr} {ifs : List Expr} {gs : List Comprehension} {pos : Pos} {items : List Dat} {f : Dat → List Dat}
theorem comp_core (hsc : compSc sc scope = true) (hρ : SubF scope.names ρ ρ') (hfree : FreeAll ρ scope.names = true) (htg : tgtOk scope (⟨t, iter, ifs, 0⟩ :: gs)) (hdis : ∀ x ∈ tn t, ρ'.lookup x = none)
    (hf : CTop W lv scope elt t ifs gs ρ' items f) (hz : (items.flatMap f).length ≤ 1048576)
    (A : Around) (h₀ : Heap) (fenv : Env) (L : Addr) (m : Str → Option Value) (mu fz : Led) (env : Env) (s : Shared) (E : Value → Shared → Prop) (RR : Value → Addr → Result → Shared → Prop) (I : Addr) (o : Obj) (St : Nat → Heap → Prop)
    (hA : AOk W lv A h₀ fenv L) (hE : EnvOk env sc) (S : SS W h₀ L m ((I, o) :: mu) fz s.heap) (hN : NamesOk W env L m mu (mu ++ fz) (Hs W.base fz) ρ) (sr : Src W A (Hs W.base fz) mu I St items) (st : St 0 s.heap)
    (k : ∀ D C oC vs n fz' h' tk', Sub fz fz' → SS W h₀ L m ((C, oC) :: (D, listOf vs.toArray n) :: mu) fz' h' → (∃ mm, ObjNs oC mm) → RepA (Hs W.base fz') vs (items.flatMap f) → RR (.ref D) C (.ok .next) { s with heap := h', toks := tk' }) :
    closureFor scope env = pure (closL env.cells scope.names []) ∧
    wpAny (model W.prog W.w) A (newList []) (fun acc s₃ => wpAny (model W.prog W.w) A (newFunctionEnv scope env.globals (closL env.cells scope.names []) [] env.qual none .none (some env)) (fun cenv s₄ =>
      codeAny (model W.prog W.w) A (.compStart (.ListComp elt (⟨t, iter, ifs, 0⟩ :: gs) scope pos) 0 (.ref I) acc { cenv with scope := relabel scope env }) (RR acc cenv.locals) s₄) E s₃) E s := by
  have S₁ := S.pushMu (listOf ([] : List Value).toArray 0)
  refine ⟨(comp_env (M := model W.prog W.w) (A := A) (E := E) (s := { s with heap := s.heap.push (listOf ([] : List Value).toArray 0) }) (its := [(I, o)]) (Q := fun _ _ => True) hsc hρ hfree hE S₁ hN fun _ _ _ _ _ _ => trivial).1, ?_⟩
  refine wpAny_newObj_type ?_
  refine (comp_env (M := model W.prog W.w) (A := A) (E := E) (its := [(I, o)]) hsc hρ hfree hE S₁ hN fun cenv loc h' kp S₂ ce => ?_).2
  have cs : CS W h₀ L m loc s.heap.objs.size [] 0 [(I, o)] mu fz { cenv with scope := relabel scope env } ρ' (tns (⟨t, iter, ifs, 0⟩ :: gs)) h' :=
    ⟨S₂, ce.nm, fun x hx => ⟨ce.st x (htg x hx).1, (htg x hx).2⟩⟩
  have st₁ : St 0 h' := by
    refine sr.frame _ _ _ st (fun o' e => kp _ _ (Heap.get?_push_of_some _ e)) fun b ob hb => ?_
    rcases hb with hb | hb
    · exact S₂.has hb
    · exact S₂.ofMu (List.mem_append_right _ (.tail _ (List.mem_append_right _ hb)))
  have loop : ∀ s₁ : Shared, s₁ = { s with heap := h' } → codeAny (model W.prog W.w) A (.compLoop (.ListComp elt (⟨t, iter, ifs, 0⟩ :: gs) scope pos) 0 (.ref I) (.ref s.heap.objs.size) { cenv with scope := relabel scope env })
      (RR (.ref s.heap.objs.size) cenv.locals) s₁ := by
    rintro s₁ rfl
    refine loop_ok (csc := scope) rfl rfl hdis (fun d hd => ?_) A h₀ fenv L m loc _ [] 0 I o [] mu fz St _ _ _ hA ce.ok ce.ne cs sr st₁ (by simpa using hz) fun loc' vs' n' fz' h₂ tk₂ s₂ x₂ r₂ so₂ => ?_
    · obtain ⟨bs, b, h1, h2, h3, h4⟩ := hf d hd
      exact ⟨bs, b, h1, h2, fun e => emit_ok gs 1 _ _ rfl (h3 e), h4⟩
    · have s0 := so₂ (".0" : Str) (ce.st (".0" : Str) (.inl ?_))
      · rcases s0 with ⟨_, q | ⟨oC, mm, hm, hn⟩⟩ | ⟨q, _⟩
        · exact absurd q ce.ne
        · obtain ⟨l₁, l₂, e⟩ := List.append_of_mem hm
          refine k _ _ oC _ n' fz' h₂ tk₂ s₂ ?_ ⟨mm, hn⟩ r₂
          have x₃ := x₂.ss
          rw [e] at x₃
          refine (x₃.perm (mu' := (cenv.locals, oC) :: (l₁ ++ l₂ ++ (s.heap.objs.size, listOf ([] ++ vs').toArray n') :: mu)) ?_).sublist ?_
          · simpa using List.perm_middle (a := (cenv.locals, oC)) (l₁ := l₁) (l₂ := l₂ ++ (s.heap.objs.size, listOf ([] ++ vs').toArray n') :: mu)
          · exact List.Sublist.cons_cons _ (List.sublist_append_right (l₁ ++ l₂) _)
        · rw [ce.lk] at q; cases q
      · simp only [compSc, Bool.and_eq_true, beq_iff_eq] at hsc
        exact hsc.1.2
  exact codeAny_compStart_at rfl (loop _ rfl) (sr.self 0 _ _ _ st₁ (loop _ rfl))

theorem ef_comp (hsc : compSc sc scope = true) (hρ : SubF scope.names ρ ρ') (hfree : FreeAll ρ scope.names = true) (htg : tgtOk scope (⟨t, iter, ifs, 0⟩ :: gs)) (hdis : ∀ x ∈ tn t, ρ'.lookup x = none)
    (hset : ∀ x env, foldedSetIterable iter env x = pure x) (hi : EI id W lv sc ρ iter items) (hf : CTop W lv scope elt t ifs gs ρ' items f) (hz : (items.flatMap f).length ≤ 1048576) :
    EF W lv sc ρ (.ListComp elt (⟨t, iter, ifs, 0⟩ :: gs) scope pos) (items.flatMap f) := by
  intro A h₀ fenv L m mu fz env s Q E hA hE S hN k
  have hsc' := hsc
  simp only [compSc, Bool.and_eq_true, beq_iff_eq, List.all_eq_true] at hsc'
  obtain ⟨⟨⟨hkind, hmore⟩, hdot⟩, hall⟩ := hsc'
  have hclos : closureFor scope env = pure (closL env.cells scope.names []) :=
    (comp_env (M := model W.prog W.w) (A := A) (E := E) (s := { s with heap := s.heap.push blockO }) (its := []) (Q := fun _ _ => True) hsc hρ hfree hE (S.pushMu blockO) hN fun _ _ _ _ _ _ => trivial).1
  rw [eval_ListComp]
  refine wpAny_comprehension_free (use := none) rfl (fun x => hset x env) hclos hkind (fun x hx hl => by rw [← hl]; exact (hall x hx).1) ?_
  refine hi A h₀ fenv L m mu fz env s _ E hA hE S hN fun I St o fz' h' tk' s' S' sr st => ?_
  refine (comp_core (pos := pos) (iter := iter) hsc hρ hfree htg hdis hf hz A h₀ fenv L m mu fz' env _ E (fun acc C => compPost (model W.prog W.w) A E none Q acc C) I o St hA hE S' (hN.grow s') sr st
    fun D C oC vs n fz₂ h₂ tk₂ s₂ S₂ hn r₂ => ?_).2
  obtain ⟨mm, hn⟩ := hn
  refine ⟨mm, hn.ns (S₂.ofMu (.head _)), fun h₃ hs₃ => ?_⟩
  exact k D vs n fz₂ h₃ tk₂ (s'.trans s₂) (S₂.drop fun b o hb e => hs₃.extBut b o hb e) r₂
theorem EF.ev {e : Expr} {ds : List Dat} (h : EF W lv sc ρ e ds) : EV W lv sc ρ e (.dat (.list ds)) := by
  intro A h₀ fenv L m mu fz env s Q E hA hE S hN k
  refine h A h₀ fenv L m mu fz env s _ E hA hE S hN fun l vs n fz' h' tk' s' S' r => ?_
  exact k _ _ h' tk' (s'.trans .cons) S'.freeze (.list (.inr (.head _)) rfl rfl (r.mono (Hs.sub .cons)))
end
end Mine
end
section
open PySem PySem.W PyProof.Rows
set_option linter.unusedVariables false
set_option maxRecDepth 100000
namespace Mine
open PySem.Calls PySem.Spec PySem.SeqAt

/-- a list of the ledger -/
noncomputable def ListAt (MU : Led) (X : Fact) (a : Addr) (ds : List Dat) : Prop := ∃ vs n, (a, listOf (List.toArray vs) n) ∈ MU ∧ RepA X vs ds
theorem ListAt.mono {MU MU' : Led} {X Y : Fact} {a : Addr} {ds : List Dat} (h : ListAt MU X a ds) (s : FSub X Y) (u : Sub MU MU') : ListAt MU' Y a ds :=
  let ⟨vs, n, a, b⟩ := h; ⟨vs, n, u _ a, b.mono s⟩
theorem ListAt.prep {W : Wd} {MU : Led} {X : Fact} {a : Addr} {ds : List Dat} (h : ListAt MU X a ds) : PRep W X MU (.ref a) (.lst ds) :=
  let ⟨vs, n, h1, h2⟩ := h; ⟨a, _, vs, n, rfl, h1, rfl, rfl, rfl, h2⟩

/-- the state of a function's frame: own cells, own lists, the caller's ledger, the names -/
structure FS (W : Wd) (sc : Scope) (ps : List Str) (h₀ : Heap) (L : Addr) (m : Str → Option Value) (loc own par fz : Led) (env : Env) (ad : Str → Addr) (ρ : Names) (h : Heap) : Prop where
  ss : SS W h₀ L m (loc ++ (own ++ par)) fz h
  nm : NamesOk W env L m (own ++ par) (loc ++ ((own ++ par) ++ fz)) (Hs W.base fz) ρ
  ls : ∀ x ds, ρ.lookup x = some (.lst ds) → Loads env L m (loc ++ ((own ++ par) ++ fz)) x (.ref (ad x)) ∧ ListAt (if x ∈ ps then par else own) (Hs W.base fz) (ad x) ds
  ij : ∀ x y ds es, ρ.lookup x = some (.lst ds) → ρ.lookup y = some (.lst es) → ad x = ad y → x = y
  st : ∀ x, sc.names.lookup x = some .local ∨ sc.names.lookup x = some .cell → Sto env L loc x
  pp : ∀ x ∈ ps, ∃ o, (ad x, o) ∈ par

/-- what became of the caller's ledger -/
noncomputable def Par (ps : List Str) (ad : Str → Addr) (par par' : Led) : Prop := par'.map (·.1) = par.map (·.1) ∧ ∀ p ∈ par, (∀ x ∈ ps, p.1 ≠ ad x) → p ∈ par'
theorem Par.refl (ps : List Str) (ad : Str → Addr) (par : Led) : Par ps ad par par := ⟨rfl, fun _ h _ => h⟩
theorem Par.trans {ps : List Str} {ad ad' : Str → Addr} {a b c : Led} (h : Par ps ad a b) (k : Par ps ad' b c) (e : ∀ x ∈ ps, ad' x = ad x) : Par ps ad a c :=
  ⟨k.1.trans h.1, fun p hp hn => k.2 p (h.2 p hp hn) fun x hx => by rw [e x hx]; exact hn x hx⟩

inductive Out where
  | next (ρ : Names)
  | ret (d : Dat) (ρ : Names)
  | esc (d : Dat)
noncomputable def Out.plain : Out → Bool
  | .esc _ => false
  | _ => true
noncomputable def Out.names : Out → Names
  | .next ρ => ρ
  | .ret _ ρ => ρ
  | .esc _ => []
/-- an end behind an exception that was met: the ledger stands, the frames but for their slots -/
noncomputable def EscOk (W : Wd) (h₀ : Heap) (L : Addr) (led fz : Led) (h : Heap) : Prop :=
  (∀ b o, W.base.get? b = some o → h.get? b = some o) ∧ (∃ gl, W.Gl gl (Hs W.base fz) ∧ Ld h₀ L h (gl ++ (led ++ fz))) ∧ h₀.UpToSlots h
/-- the frame's state at the end; a frame that is left may have frozen cells -/
noncomputable def Out.fs (o : Out) (W : Wd) (sc : Scope) (ps : List Str) (h₀ : Heap) (L : Addr) (m : Str → Option Value) (loc own par fz : Led) (env : Env) (ad : Str → Addr) (h : Heap) : Prop :=
  match o with
  | .next ρ => FS W sc ps h₀ L m loc own par fz env ad ρ h
  | .ret _ ρ => ∃ sc₂, FS W sc₂ ps h₀ L m loc own par fz env ad ρ h
  | .esc _ => EscOk W h₀ L (loc ++ (own ++ par)) fz h
noncomputable def Out.flow (X : Fact) : Out → Flow → Prop
  | .next _, f => f = .next
  | .ret d _, f => ∃ v, f = .ret v ∧ Rep X v d
  | .esc d, f => ∃ v, f = .ret v ∧ Rep X v d

noncomputable abbrev LocT (a b : Led) : Prop := True = True
/-- statements under the names ρ end so -/
noncomputable def EX (W : Wd) (lv : Nat) (sc : Scope) (ps : List Str) (ρ : Names) (t : Env → Sem Flow) (out : Out) : Prop :=
  ∀ (A : Around) (h₀ : Heap) (L : Addr) (m : Str → Option Value) (loc own par fz : Led) (env : Env) (ad : Str → Addr) (s : Shared) (Q : Flow → Shared → Prop) (E : Value → Shared → Prop),
    AOk W lv A h₀ env L → EnvOk env sc → FS W sc ps h₀ L m loc own par fz env ad ρ s.heap →
    (∀ fl m' loc' own' par' fz' ad' h' tk', Sub fz fz' → out.fs W sc ps h₀ L m' loc' own' par' fz' env ad' h' → out.flow (Hs W.base fz') fl → Par ps ad par par' → (∀ x ∈ ps, ad' x = ad x) →
      LocT loc' loc → Q fl { s with heap := h', toks := tk' }) →
    wpAny (model W.prog W.w) A (t env) Q E s
noncomputable abbrev EXS (W : Wd) (lv : Nat) (sc : Scope) (ps : List Str) (ρ : Names) (l : List Stmt) (out : Out) : Prop := EX W lv sc ps ρ (execs l) out
noncomputable abbrev EX1 (W : Wd) (lv : Nat) (sc : Scope) (ps : List Str) (ρ : Names) (l : Stmt) (out : Out) : Prop := EX W lv sc ps ρ (exec l) out

section
variable {W : Wd} {sc : Scope} {ps : List Str} {h₀ h h' : Heap} {L : Addr} {m : Str → Option Value} {loc own par fz fz' : Led} {env : Env} {ad : Str → Addr} {ρ ρ' : Names}
theorem FS.nd (x : FS W sc ps h₀ L m loc own par fz env ad ρ h) : ((loc ++ ((own ++ par) ++ fz)).map (·.1)).Nodup := by
  obtain ⟨_, ⟨gl, _, l⟩, _⟩ := x.ss
  rw [← List.append_assoc]
  exact (l.sublist (List.sublist_append_right gl _)).nodup
/-- the names, for expressions -/
theorem FS.full (x : FS W sc ps h₀ L m loc own par fz env ad ρ h) : NamesOk W env L m (loc ++ (own ++ par)) ((loc ++ (own ++ par)) ++ fz) (Hs W.base fz) ρ := by
  rw [List.append_assoc]
  exact x.nm.sup (FSub.refl _) (fun p hp => List.mem_append_right _ hp) (Sub.refl _)
theorem FS.grow (x : FS W sc ps h₀ L m loc own par fz env ad ρ h) (s : Sub fz fz') (S : SS W h₀ L m (loc ++ (own ++ par)) fz' h') : FS W sc ps h₀ L m loc own par fz' env ad ρ h' := by
  have N : Sub (loc ++ ((own ++ par) ++ fz)) (loc ++ ((own ++ par) ++ fz')) := fun p hp => by
    rcases List.mem_append.mp hp with h | h
    · exact List.mem_append_left _ h
    · exact List.mem_append_right _ ((List.mem_append.mp h).elim (List.mem_append_left _) fun h => List.mem_append_right _ (s _ h))
  refine ⟨S, x.nm.sup (Hs.sub s) (Sub.refl _) N, fun y ds hy => ?_, x.ij, x.st, x.pp⟩
  obtain ⟨a, b⟩ := x.ls y ds hy
  exact ⟨a.mono N, b.mono (Hs.sub s) (Sub.refl _)⟩
theorem FS.sub (x : FS W sc ps h₀ L m loc own par fz env ad ρ h) (hρ : ∀ x pv, ρ'.lookup x = some pv → ρ.lookup x = some pv) : FS W sc ps h₀ L m loc own par fz env ad ρ' h :=
  ⟨x.ss, x.nm.sub hρ, fun y ds hy => x.ls y ds (hρ _ _ hy), fun y z ds es hy hz => x.ij y z ds es (hρ _ _ hy) (hρ _ _ hz), x.st, x.pp⟩
noncomputable def allDat (bs : Names) : Bool := bs.all fun p => match p.2 with
  | .lst _ => false
  | _ => true
theorem allDat_lookup {bs ρ : Names} {x : Str} {ds : List Dat} (h : allDat bs = true) (hx : (bs ++ ρ).lookup x = some (.lst ds)) : x ∉ bs.map (·.1) ∧ ρ.lookup x = some (.lst ds) := by
  induction bs with
  | nil => exact ⟨by simp, hx⟩
  | cons p bs ih =>
    obtain ⟨y, q⟩ := p
    simp only [allDat, List.all_cons, Bool.and_eq_true] at h
    rw [List.cons_append, List.lookup_cons] at hx
    cases e : x == y with
    | true =>
      rw [e] at hx
      cases hx
      cases h.1
    | false =>
      rw [e] at hx
      obtain ⟨a, b⟩ := ih h.2 hx
      refine ⟨fun k => ?_, b⟩
      rw [List.map_cons, List.mem_cons] at k
      rcases k with k | k
      · rw [k, beq_self_eq_true] at e; cases e
      · exact a k
theorem FS.moved {m' : Str → Option Value} {loc' : Led} {bs : Names} (x : FS W sc ps h₀ L m loc own par fz env ad ρ h) (S : SS W h₀ L m' (loc' ++ (own ++ par)) fz h') (mv : Moved W env L m loc m' loc' (Hs W.base fz) bs) (hb : allDat bs = true) :
    FS W sc ps h₀ L m' loc' own par fz env ad (bs ++ ρ) h' := by
  refine ⟨S, mv.names _ _ _ _ (FSub.refl _) x.nd x.nm, fun y ds hy => ?_, fun y z ds es hy hz => ?_, fun y hy => mv.sto y (x.st y hy), x.pp⟩
  · obtain ⟨a, b⟩ := allDat_lookup hb hy
    obtain ⟨c, d⟩ := x.ls y ds b
    exact ⟨mv.old _ _ _ a x.nd c, d⟩
  · exact x.ij y z ds es (allDat_lookup hb hy).2 (allDat_lookup hb hz).2
end

/-! sequences -/
section
variable {W : Wd} {lv : Nat} {sc : Scope} {ps : List Str} {ρ ρ' : Names}
theorem ex_nil : EXS W lv sc ps ρ [] (.next ρ) := by
  intro A h₀ L m loc own par fz env ad s Q E hA hE x k
  exact wpAny_execs_nil (k _ _ _ _ _ _ _ s.heap s.toks (Sub.refl _) x rfl (Par.refl _ _ _) (fun _ _ => rfl) rfl)
theorem ex_seq {st : Stmt} {rest : List Stmt} {out : Out} (h : EX1 W lv sc ps ρ st (.next ρ')) (k : EXS W lv sc ps ρ' rest out) : EXS W lv sc ps ρ (st :: rest) out := by
  intro A h₀ L m loc own par fz env ad s Q E hA hE x c
  refine wpAny_execs_cons (h A h₀ L m loc own par fz env ad s _ E hA hE x fun fl m₁ loc₁ own₁ par₁ fz₁ ad₁ h₁ t₁ s₁ x₁ f₁ p₁ a₁ l₁ => ?_)
  cases f₁
  exact k A h₀ L m₁ loc₁ own₁ par₁ fz₁ env ad₁ _ Q E hA hE x₁ fun fl m₂ loc₂ own₂ par₂ fz₂ ad₂ h₂ t₂ s₂ x₂ f₂ p₂ a₂ l₂ =>
    c fl m₂ loc₂ own₂ par₂ fz₂ ad₂ h₂ t₂ (s₁.trans s₂) x₂ f₂ (p₁.trans p₂ a₁) (fun y hy => (a₂ y hy).trans (a₁ y hy)) (l₂.trans l₁)
theorem ex_ret {st : Stmt} {rest : List Stmt} {d : Dat} (h : EX1 W lv sc ps ρ st (.ret d ρ')) : EXS W lv sc ps ρ (st :: rest) (.ret d ρ') := by
  intro A h₀ L m loc own par fz env ad s Q E hA hE x c
  refine wpAny_execs_cons (h A h₀ L m loc own par fz env ad s _ E hA hE x fun fl m₁ loc₁ own₁ par₁ fz₁ ad₁ h₁ t₁ s₁ x₁ f₁ p₁ a₁ l₁ => ?_)
  obtain ⟨v, rfl, r⟩ := f₁
  exact c _ m₁ loc₁ own₁ par₁ fz₁ ad₁ h₁ t₁ s₁ x₁ ⟨v, rfl, r⟩ p₁ a₁ l₁
theorem ex_esc {st : Stmt} {rest : List Stmt} {d : Dat} (h : EX1 W lv sc ps ρ st (.esc d)) : EXS W lv sc ps ρ (st :: rest) (.esc d) := by
  intro A h₀ L m loc own par fz env ad s Q E hA hE x c
  refine wpAny_execs_cons (h A h₀ L m loc own par fz env ad s _ E hA hE x fun fl m₁ loc₁ own₁ par₁ fz₁ ad₁ h₁ t₁ s₁ x₁ f₁ p₁ a₁ l₁ => ?_)
  obtain ⟨v, rfl, r⟩ := f₁
  exact c _ m₁ loc₁ own₁ par₁ fz₁ ad₁ h₁ t₁ s₁ x₁ ⟨v, rfl, r⟩ p₁ a₁ l₁
theorem EX.sub {t : Env → Sem Flow} {out : Out} (h : EX W lv sc ps ρ' t out) (hρ : ∀ x pv, ρ'.lookup x = some pv → ρ.lookup x = some pv) : EX W lv sc ps ρ t out :=
  fun A h₀ L m loc own par fz env ad s Q E hA hE x c => h A h₀ L m loc own par fz env ad s Q E hA hE (x.sub hρ) c
theorem EX.forget {t : Env → Sem Flow} (h : EX W lv sc ps ρ t (.next ρ')) {ρ'' : Names} (hρ : ∀ x pv, ρ''.lookup x = some pv → ρ'.lookup x = some pv) : EX W lv sc ps ρ t (.next ρ'') :=
  fun A h₀ L m loc own par fz env ad s Q E hA hE x c => h A h₀ L m loc own par fz env ad s Q E hA hE x fun fl m₁ loc₁ own₁ par₁ fz₁ ad₁ h₁ t₁ s₁ x₁ f₁ p₁ a₁ l₁ =>
    c fl m₁ loc₁ own₁ par₁ fz₁ ad₁ h₁ t₁ s₁ (FS.sub x₁ hρ) f₁ p₁ a₁ l₁

noncomputable def slot (sc : Scope) (x : Str) : Prop := sc.names.lookup x = some .local ∨ sc.names.lookup x = some .cell
/-- x = e -/
theorem ex_assign {x : Str} {px pos : Pos} {e : Expr} {d : Dat} (h : EV W lv sc ρ e (.dat d)) (hx : slot sc x) (hp : PlainName x) (hs : ∀ env, swapsWith e (some (.Name x px)) pos.line env = pure false := by intro _; rfl) :
    EX1 W lv sc ps ρ (.Assign [.Name x px] e pos) (.next ((x, .dat d) :: ρ)) := by
  intro A h₀ L m loc own par fz env ad s Q E hA hE x₀ c
  refine wpAny_Assign_Name (h A h₀ env L m _ fz env s _ E hA hE x₀.ss x₀.full fun v fz' h' t' s' S' R' => ?_) (hs env)
  have x₁ := x₀.grow s' S'
  have hq : EnvOk env sc := hE
  refine store_ok hE x₁.ss (x₁.st x hx) fun m' loc' h₂ tk₂ S₂ st₂ => ?_
  exact c _ m' loc' own par fz' ad h₂ tk₂ s' (x₁.moved (bs := [(x, .dat d)]) S₂ (st₂.moved (pv := .dat d) hp fun MU Y q => Rep.mono q R') rfl) rfl (Par.refl _ _ _) (fun _ _ => rfl) rfl
/-- x, y = e -/
theorem ex_unpack {x y : Str} {px py : Pos} {kd : Nat} {tp pos : Pos} {e : Expr} {a b : Dat} (h : EV W lv sc ρ e (.dat (.tuple [a, b]))) (hx : slot sc x) (hp : PlainName x) (hy : slot sc y) (hq : PlainName y)
    (hs : ∀ env, swapsWithSole [.Tuple [.Name x px, .Name y py] kd tp] e pos.line env = pure false := by intro _; rfl) (hw : ∀ env, swappedStores [.Tuple [.Name x px, .Name y py] kd tp] e env = pure none := by intro _; rfl) :
    EX1 W lv sc ps ρ (.Assign [.Tuple [.Name x px, .Name y py] kd tp] e pos) (.next ((y, .dat b) :: (x, .dat a) :: ρ)) := by
  intro A h₀ L m loc own par fz env ad s Q E hA hE x₀ c
  have ht : ∀ z ∈ tn (.Tuple [.Name x px, .Name y py] kd tp), slot sc z ∧ PlainName z := by
    intro z hz
    rcases List.mem_cons.mp hz with rfl | hz
    · exact ⟨hy, hq⟩
    · rcases List.mem_cons.mp hz with rfl | hz
      · exact ⟨hx, hp⟩
      · cases hz
  refine Assign_Tuple (h A h₀ env L m _ fz env s _ E hA hE x₀.ss x₀.full fun v fz' h' t' s' S' R' => ?_) (hs env) (hw env)
  have x₁ := x₀.grow s' S'
  refine assign_ok hA.hh hE x₁.ss (fun z hz => ⟨x₁.st z (ht z hz).1, (ht z hz).2⟩) R' rfl fun m' loc' h₂ tk₂ S₂ mv => ?_
  exact c _ m' loc' own par fz' ad h₂ tk₂ s' (x₁.moved S₂ mv rfl) rfl (Par.refl _ _ _) (fun _ _ => rfl) rfl
theorem ex_if {t : Expr} {body orelse : List Stmt} {pos : Pos} {b : Bool} {out : Out} (h : ET W lv sc ρ t b) (h1 : b = true → EXS W lv sc ps ρ body out) (h2 : b = false → EXS W lv sc ps ρ orelse out) : EX1 W lv sc ps ρ (.If t body orelse pos) out := by
  intro A h₀ L m loc own par fz env ad s Q E hA hE x c
  refine wpAny_If (h A h₀ env L m _ fz env s _ E hA hE x.ss x.full fun fz' h' t' s' S' => ?_)
  have x₁ := x.grow s' S'
  cases b with
  | true => exact h1 rfl A h₀ L m loc own par fz' env ad _ Q E hA hE x₁ fun fl m₂ loc₂ own₂ par₂ fz₂ ad₂ h₂ t₂ s₂ x₂ => c fl m₂ loc₂ own₂ par₂ fz₂ ad₂ h₂ t₂ (s'.trans s₂) x₂
  | false => exact h2 rfl A h₀ L m loc own par fz' env ad _ Q E hA hE x₁ fun fl m₂ loc₂ own₂ par₂ fz₂ ad₂ h₂ t₂ s₂ x₂ => c fl m₂ loc₂ own₂ par₂ fz₂ ad₂ h₂ t₂ (s'.trans s₂) x₂
theorem ex_return {e : Expr} {pos : Pos} {d : Dat} (h : EV W lv sc ρ e (.dat d)) : EX1 W lv sc ps ρ (.Return (some e) pos) (.ret d ρ) := by
  intro A h₀ L m loc own par fz env ad s Q E hA hE x c
  refine wpAny_Return_some (h A h₀ env L m _ fz env s _ E hA hE x.ss x.full fun v fz' h' t' s' S' R' => ?_)
  exact c _ m loc own par fz' ad h' t' s' ⟨sc, x.grow s' S'⟩ ⟨v, rfl, R'⟩ (Par.refl _ _ _) (fun _ _ => rfl) rfl
theorem ex_return_none {pos : Pos} : EX1 W lv sc ps ρ (.Return none pos) (.ret .none ρ) := by
  intro A h₀ L m loc own par fz env ad s Q E hA hE x c
  exact wpAny_Return_none (c _ m loc own par fz ad s.heap s.toks (Sub.refl _) ⟨sc, x⟩ ⟨_, rfl, .none⟩ (Par.refl _ _ _) (fun _ _ => rfl) rfl)
end

/-! lists that turn -/
theorem Loads.keep {env : Env} {L : Addr} {m : Str → Option Value} {N N' : Led} {x : Str} {v : Value} (h : ∀ a o, (a, o) ∈ N → ((∃ es n, o.data = .dict es n) ∨ ∃ v, o.data = .cell v) → (a, o) ∈ N') : Loads env L m N x v → Loads env L m N' x v
  | .here a b c => .here a b c
  | .block a b c d => .block a (h _ _ b (.inl (by obtain ⟨es, ep, e, _⟩ := c; exact ⟨es, ep, e⟩))) c d
  | .cell a b c d => .cell a b (h _ _ c (.inr ⟨_, d⟩)) d
section
variable {W : Wd} {sc : Scope} {ps : List Str} {h₀ h h' : Heap} {L : Addr} {m : Str → Option Value} {loc own par fz fz' : Led} {env : Env} {ad : Str → Addr} {ρ ρ' : Names}
theorem FS.listAt (x : FS W sc ps h₀ L m loc own par fz env ad ρ h) {y : Str} {ds : List Dat} (hy : ρ.lookup y = some (.lst ds)) : ListAt (own ++ par) (Hs W.base fz) (ad y) ds := by
  have := (x.ls y ds hy).2
  split at this
  · exact this.mono (FSub.refl _) fun p hp => List.mem_append_right _ hp
  · exact this.mono (FSub.refl _) fun p hp => List.mem_append_left _ hp
/-- the list of the name y has become another -/
theorem FS.turnS (x : FS W sc ps h₀ L m loc own par fz env ad ρ h) (sf : Sub fz fz') {y : Str} {ds ds' : List Dat} {vs' : List Value} {n' : Nat} (hy : ρ.lookup y = some (.lst ds))
    (S : SS W h₀ L m (setL (loc ++ (own ++ par)) (ad y) (listOf vs'.toArray n')) fz' h') (hr : RepA (Hs W.base fz') vs' ds') :
    ∃ own' par', FS W sc ps h₀ L m loc own' par' fz' env ad ((y, .lst ds') :: ρ) h' ∧ Par ps ad par par' := by
  obtain ⟨vs, n, hm, _⟩ := x.listAt hy
  have hmN : (ad y, listOf vs.toArray n) ∈ loc ++ ((own ++ par) ++ fz) := List.mem_append_right _ (List.mem_append_left _ hm)
  let o' : Obj := listOf vs'.toArray n'
  rw [setL_append, setL_append] at S
  have hloc : setL loc (ad y) (listOf vs'.toArray n') = loc := setL_off fun p hp e => by
    have nd := x.nd
    rw [List.map_append, List.nodup_append] at nd
    exact nd.2.2 p.1 (List.mem_map.mpr ⟨p, hp, rfl⟩) (ad y) (List.mem_map.mpr ⟨_, List.mem_append_left _ hm, rfl⟩) e
  rw [hloc] at S
  have up : ∀ a o, (a, o) ∈ loc ++ ((own ++ par) ++ fz) → a ≠ ad y → (a, o) ∈ loc ++ ((setL own (ad y) o' ++ setL par (ad y) o') ++ fz') := by
    intro a o h hn
    rcases List.mem_append.mp h with h | h
    · exact List.mem_append_left _ h
    · refine List.mem_append_right _ ?_
      rcases List.mem_append.mp h with h | h
      · refine List.mem_append_left _ ?_
        rcases List.mem_append.mp h with h | h
        · exact List.mem_append_left _ (mem_setL_ne h hn)
        · exact List.mem_append_right _ (mem_setL_ne h hn)
      · exact List.mem_append_right _ (sf _ h)
  have lk : ∀ {z : Str} {v : Value}, Loads env L m (loc ++ ((own ++ par) ++ fz)) z v → Loads env L m (loc ++ ((setL own (ad y) o' ++ setL par (ad y) o') ++ fz')) z v := fun l => l.keep fun a o h hd => up a o h fun e => by
    rw [e] at h
    have := nd_inj x.nd h hmN
    subst this
    rcases hd with ⟨_, _, hd⟩ | ⟨_, hd⟩
    · cases hd
    · cases hd
  have la : ∀ {z : Str} {es : List Dat} {MU : Led}, ad z ≠ ad y → ListAt MU (Hs W.base fz) (ad z) es → ListAt (setL MU (ad y) o') (Hs W.base fz') (ad z) es := fun hn q => by
    obtain ⟨vs, n, a, b⟩ := q
    exact ⟨vs, n, mem_setL_ne a hn, b.mono (Hs.sub sf)⟩
  have self : ListAt (if y ∈ ps then setL par (ad y) o' else setL own (ad y) o') (Hs W.base fz') (ad y) ds' := by
    have := (x.ls y ds hy).2
    split at this
    · rename_i hps
      rw [if_pos hps]
      obtain ⟨_, _, a, _⟩ := this
      exact ⟨vs', n', mem_setL_self a, hr⟩
    · rename_i hps
      rw [if_neg hps]
      obtain ⟨_, _, a, _⟩ := this
      exact ⟨vs', n', mem_setL_self a, hr⟩
  have self' : ListAt (setL own (ad y) o' ++ setL par (ad y) o') (Hs W.base fz') (ad y) ds' := by
    split at self
    · exact self.mono (FSub.refl _) fun p hp => List.mem_append_right _ hp
    · exact self.mono (FSub.refl _) fun p hp => List.mem_append_left _ hp
  have look : ∀ {z : Str} {q : PV}, ((y, PV.lst ds') :: ρ).lookup z = some q → (z = y ∧ q = .lst ds') ∨ (z ≠ y ∧ ρ.lookup z = some q) := by
    intro z q hz
    rw [List.lookup_cons] at hz
    cases e : z == y with
    | true => rw [e] at hz; cases hz; exact .inl ⟨beq_iff_eq.mp e, rfl⟩
    | false =>
      rw [e] at hz
      exact .inr ⟨fun q => (by rw [q, beq_self_eq_true] at e; cases e), hz⟩
  refine ⟨setL own (ad y) o', setL par (ad y) o', ⟨S, fun z q hz => ?_, fun z es hz => ?_, fun z w es fs hz hw => ?_, x.st, fun z hz => ?_⟩, ⟨setL_fst .., fun p hp hn => ?_⟩⟩
  · rcases look hz with ⟨rfl, rfl⟩ | ⟨hne, hz⟩
    · exact ⟨(x.nm z _ hy).1, _, lk (x.ls z ds hy).1, self'.prep⟩
    · cases q with
      | dat d =>
        obtain ⟨a, v, l, r⟩ := x.nm z _ hz
        exact ⟨a, v, lk l, Rep.mono (Hs.sub sf) r⟩
      | fn lf F =>
        obtain ⟨a, v, l, r⟩ := x.nm z _ hz
        exact ⟨a, v, lk l, CallOk.mono (Hs.sub sf) r⟩
      | lst es =>
        have hn : ad z ≠ ad y := fun e => hne (x.ij z y es ds hz hy e)
        have := la hn (x.listAt hz)
        rw [setL_append] at this
        exact ⟨(x.nm z _ hz).1, _, lk (x.ls z es hz).1, this.prep⟩
  · rcases look hz with ⟨rfl, e⟩ | ⟨hne, hz⟩
    · cases e
      exact ⟨lk (x.ls z ds hy).1, self⟩
    · have hn : ad z ≠ ad y := fun e => hne (x.ij z y es ds hz hy e)
      obtain ⟨a, b⟩ := x.ls z es hz
      refine ⟨lk a, ?_⟩
      split at b
      · rename_i hps; rw [if_pos hps]; exact la hn b
      · rename_i hps; rw [if_neg hps]; exact la hn b
  · intro e
    rcases look hz with ⟨e1, _⟩ | ⟨_, hz⟩ <;> rcases look hw with ⟨e2, _⟩ | ⟨_, hw⟩
    · rw [e1, e2]
    · rw [e1] at e ⊢; exact x.ij _ _ _ _ hy hw e
    · rw [e2] at e ⊢; exact x.ij _ _ _ _ hz hy e
    · exact x.ij _ _ _ _ hz hw e
  · obtain ⟨o, ho⟩ := x.pp z hz
    by_cases e : ad z = ad y
    · rw [e] at ho ⊢; exact ⟨_, mem_setL_self ho⟩
    · exact ⟨o, mem_setL_ne ho e⟩
  · refine mem_setL_ne hp fun e => ?_
    by_cases hps : y ∈ ps
    · exact hn y hps e
    · have := (x.ls y ds hy).2
      rw [if_neg hps] at this
      obtain ⟨_, _, a, _⟩ := this
      have nd := x.nd
      rw [List.map_append, List.nodup_append, List.map_append, List.nodup_append, List.map_append, List.nodup_append] at nd
      exact nd.2.1.1.2.2 (ad y) (List.mem_map.mpr ⟨_, a, rfl⟩) p.1 (List.mem_map.mpr ⟨p, hp, rfl⟩) e.symm
theorem FS.turn (x : FS W sc ps h₀ L m loc own par fz env ad ρ h) {y : Str} {ds ds' : List Dat} {vs' : List Value} {n' : Nat} (hy : ρ.lookup y = some (.lst ds)) (hs : ∀ b o, b ≠ ad y → h.get? b = some o → h'.get? b = some o)
    (ho : h'.get? (ad y) = some (listOf vs'.toArray n')) (hr : RepA (Hs W.base fz) vs' ds') :
    ∃ own' par', FS W sc ps h₀ L m loc own' par' fz env ad ((y, .lst ds') :: ρ) h' ∧ Par ps ad par par' := by
  obtain ⟨vs, n, hm, _⟩ := x.listAt hy
  exact x.turnS (Sub.refl _) hy (x.ss.set (List.mem_append_right loc hm) hs ho) hr
end
section
variable {W : Wd} {lv : Nat} {sc : Scope} {ps : List Str} {ρ ρ' : Names}
/-- y.append(e) -/
theorem ex_append {y : Str} {py ap pos spos : Pos} {e : Expr} {ds : List Dat} {d : Dat} (hy : ρ.lookup y = some (.lst ds)) (h : EV W lv sc ρ e (.dat d)) (hz : ds.length ≤ 1048576) (hn : nStar e = true)
    (hbase : ∀ env, attributeBase (.Name y py) (Str.ofString "append") env (eval (.Name y py) env) = eval (.Name y py) env := by intro _; rfl) (hline : (ap.endLine == pos.line) = true := by rfl) :
    EX1 W lv sc ps ρ (.Expr (.Call (.Attribute (.Name y py) (Str.ofString "append") ap) [e] [] pos) spos) (.next ((y, .lst (ds ++ [d])) :: ρ)) := by
  intro A h₀ L m loc own par fz env ad s Q E hA hE x c
  refine wpAny_Expr_any (wpAny_Call_method1_late (hbase env) hline (by rw [starEach_cons hn]; rfl) ?_) (by show (env.scope.kind == .module && _) = false; rw [hE.kind]; rfl) rfl
  have hN : Sub (loc ++ ((own ++ par) ++ fz)) ((loc ++ (own ++ par)) ++ fz) := by rw [List.append_assoc loc]; exact Sub.refl _
  refine eval_name hE x.ss ((x.ls y ds hy).1.mono hN) (x.nm y _ hy).1 ?_
  obtain ⟨vs, n, hm, hr⟩ := x.listAt hy
  have ho := x.ss.ofMu (List.mem_append_right loc hm)
  refine ⟨"list", "list.append", F.plainAttrs_list, slot_list_append, type_list_append, ⟨_, ho, rfl⟩, fun a q => ⟨_, by cases q; exact ho, rfl⟩, ?_⟩
  refine P.append_list (h A h₀ env L m _ fz env s _ E hA hE x.ss x.full fun v fz' h' t' s' S' R' => ?_)
  have x₁ := x.grow s' S'
  have ho₁ := x₁.ss.ofMu (List.mem_append_right loc hm)
  have hz' : vs.toArray.size ≤ sizeLine := by rw [List.size_toArray, sizeLine_eq, hr.length]; (clear ho₁ x₁ R' S' s' ho hr hm hN c x hE hA hline hbase hn h hy; lia)
  refine ⟨_, _, hz', ho₁, ?_⟩
  have hup := (show IsL h' (ad y) vs.toArray n from ho₁).update (fun xs => xs.push v)
  have ho₂ : (h'.update (ad y) (Obj.mapSeq fun xs => xs.push v)).get? (ad y) = some (listOf (vs ++ [v]).toArray (n + 1)) := by
    rw [hup]; simp [PySem.W.listOf]
  obtain ⟨own', par', x₂, p₂⟩ := x₁.turn (ds' := ds ++ [d]) hy (fun b o hb e => (Heap.get?_update_other h' _ (Ne.symm hb)).trans e) ho₂ ((hr.mono (Hs.sub s')).append (.one R'))
  exact c _ m loc own' par' fz' ad _ t' s' x₂ rfl p₂ (fun _ _ => rfl) rfl
end
end Mine
end
section
open PySem PySem.W PyProof.Rows
set_option linter.unusedVariables false
set_option maxRecDepth 100000
namespace Mine
open PySem.Calls PySem.Spec PySem.SeqAt

section
variable {W : Wd} {sc : Scope} {ps : List Str} {h₀ h h' : Heap} {L : Addr} {m : Str → Option Value} {loc own par fz fz' : Led} {env : Env} {ad : Str → Addr} {ρ ρ' : Names}
theorem led_mid {loc own par : Led} {p : Addr × Obj} : (loc ++ (own ++ p :: par)).Perm (p :: (loc ++ (own ++ par))) := by
  have := List.perm_middle (a := p) (l₁ := loc ++ own) (l₂ := par)
  simpa using this
/-- an iterator is laid beside the caller's ledger -/
theorem FS.withIt {I : Addr} {o : Obj} (x : FS W sc ps h₀ L m loc own par fz env ad ρ h) (S : SS W h₀ L m ((I, o) :: (loc ++ (own ++ par))) fz h') : FS W sc ps h₀ L m loc own ((I, o) :: par) fz env ad ρ h' := by
  have N : Sub (loc ++ ((own ++ par) ++ fz)) (loc ++ ((own ++ (I, o) :: par) ++ fz)) := fun p hp => by
    rcases List.mem_append.mp hp with h | h
    · exact List.mem_append_left _ h
    · refine List.mem_append_right _ ?_
      rcases List.mem_append.mp h with h | h
      · refine List.mem_append_left _ ?_
        exact (List.mem_append.mp h).elim (List.mem_append_left _) fun h => List.mem_append_right _ (.tail _ h)
      · exact List.mem_append_right _ h
  refine ⟨S.perm led_mid.symm, x.nm.sup (FSub.refl _) (fun p hp => ?_) N, fun y ds hy => ?_, x.ij, x.st, fun y hy => ?_⟩
  · exact (List.mem_append.mp hp).elim (List.mem_append_left _) fun h => List.mem_append_right _ (.tail _ h)
  · obtain ⟨a, b⟩ := x.ls y ds hy
    refine ⟨a.mono N, ?_⟩
    split at b
    · rename_i e; rw [if_pos e]; exact b.mono (FSub.refl _) fun p hp => .tail _ hp
    · rename_i e; rw [if_neg e]; exact b
  · obtain ⟨o', ho'⟩ := x.pp y hy
    exact ⟨o', .tail _ ho'⟩
/-- and taken away -/
theorem FS.dropIt {I : Addr} {o : Obj} (x : FS W sc ps h₀ L m loc own ((I, o) :: par) fz env ad ρ h) (hI : ∀ y ∈ ps, ad y ≠ I) (hf : fieldsO o) (hs : ∀ b o, b ≠ I → h.get? b = some o → h'.get? b = some o) : FS W sc ps h₀ L m loc own par fz env ad ρ h' := by
  have S : SS W h₀ L m (loc ++ (own ++ par)) fz h' := (x.ss.perm led_mid).drop hs
  have lk : ∀ {z : Str} {v : Value}, Loads env L m (loc ++ ((own ++ (I, o) :: par) ++ fz)) z v → Loads env L m (loc ++ ((own ++ par) ++ fz)) z v := fun l => l.keep fun a oo hm hd => by
    have key : (a, oo) = (I, o) ∨ (a, oo) ∈ loc ++ ((own ++ par) ++ fz) := by
      simp only [List.mem_append, List.mem_cons] at hm ⊢
      rcases hm with h | (h | h | h) | h
      · exact .inr (.inl h)
      · exact .inr (.inr (.inl (.inl h)))
      · exact .inl h
      · exact .inr (.inr (.inl (.inr h)))
      · exact .inr (.inr (.inr h))
    rcases key with e | e
    · cases e
      obtain ⟨vs, hv⟩ := hf
      rcases hd with ⟨_, _, hd⟩ | ⟨_, hd⟩
      · rw [hv] at hd; cases hd
      · rw [hv] at hd; cases hd
    · exact e
  have la : ∀ y ds, ρ.lookup y = some (.lst ds) → ListAt (if y ∈ ps then par else own) (Hs W.base fz) (ad y) ds := by
    intro y ds hy
    have b := (x.ls y ds hy).2
    split at b
    · rename_i e
      rw [if_pos e]
      obtain ⟨vs, n, a, r⟩ := b
      rcases List.mem_cons.mp a with q | q
      · exact absurd (Prod.mk.inj q).1 (hI y e)
      · exact ⟨vs, n, q, r⟩
    · rename_i e; rw [if_neg e]; exact b
  refine ⟨S, fun y q hy => ?_, fun y ds hy => ⟨lk (x.ls y ds hy).1, la y ds hy⟩, x.ij, x.st, fun y hy => ?_⟩
  · cases q with
    | dat d => obtain ⟨a, v, l, r⟩ := x.nm y _ hy; exact ⟨a, v, lk l, r⟩
    | fn lf F => obtain ⟨a, v, l, r⟩ := x.nm y _ hy; exact ⟨a, v, lk l, r⟩
    | lst ds =>
      refine ⟨(x.nm y _ hy).1, _, lk (x.ls y ds hy).1, ?_⟩
      have := la y ds hy
      split at this
      · exact (this.mono (FSub.refl _) fun p hp => List.mem_append_right _ hp).prep
      · exact (this.mono (FSub.refl _) fun p hp => List.mem_append_left _ hp).prep
  · obtain ⟨o', ho'⟩ := x.pp y hy
    rcases List.mem_cons.mp ho' with q | q
    · exact absurd (Prod.mk.inj q).1 (hI y hy)
    · exact ⟨o', q⟩
theorem FS.ndPar (x : FS W sc ps h₀ L m loc own par fz env ad ρ h) : (par.map (·.1)).Nodup := by
  have nd := x.nd
  rw [List.map_append, List.nodup_append, List.map_append, List.nodup_append, List.map_append, List.nodup_append] at nd
  exact nd.2.1.1.2.1
theorem Par.cons {p : Addr × Obj} {par' : Led} (h : Par ps ad (p :: par) par') (hI : ∀ y ∈ ps, ad y ≠ p.1) (nd : (par'.map (·.1)).Nodup) (ndp : ((p :: par).map (·.1)).Nodup) : ∃ par'', par' = p :: par'' ∧ Par ps ad par par'' := by
  obtain ⟨h1, h2⟩ := h
  cases par' with
  | nil => cases h1
  | cons q par' =>
    rw [List.map_cons, List.map_cons, List.cons.injEq] at h1
    have hq : p ∈ q :: par' := h2 p (.head _) fun y hy e => hI y hy e.symm
    have e : q = p := by
      rcases List.mem_cons.mp hq with e | hq
      · exact e.symm
      · rw [List.map_cons, List.nodup_cons] at nd
        exact absurd (List.mem_map.mpr ⟨p, hq, h1.1.symm⟩) nd.1
    subst e
    refine ⟨par', rfl, h1.2, fun r hr hn => ?_⟩
    rcases List.mem_cons.mp (h2 r (.tail _ hr) hn) with e | e
    · subst e
      rw [List.map_cons, List.nodup_cons] at ndp
      exact absurd (List.mem_map.mpr ⟨_, hr, rfl⟩) ndp.1
    · exact e
end

/-- the turns of a for loop -/
inductive ForR (W : Wd) (lv : Nat) (sc : Scope) (ps : List Str) (t : Expr) (body : List Stmt) : List Dat → Names → Out → Prop
  | nil {ρ : Names} : ForR W lv sc ps t body [] ρ (.next ρ)
  | cons {d : Dat} {ds : List Dat} {ρ ρ' bs : Names} {out : Out} : bindT t d = some bs → EXS W lv sc ps (bs ++ ρ) body (.next ρ') → ForR W lv sc ps t body ds ρ' out → ForR W lv sc ps t body (d :: ds) ρ out
  | ret {d r : Dat} {ds : List Dat} {ρ ρ' bs : Names} : bindT t d = some bs → EXS W lv sc ps (bs ++ ρ) body (.ret r ρ') → ForR W lv sc ps t body (d :: ds) ρ (.ret r ρ')
  | esc {d r : Dat} {ds : List Dat} {ρ bs : Names} : bindT t d = some bs → EXS W lv sc ps (bs ++ ρ) body (.esc r) → ForR W lv sc ps t body (d :: ds) ρ (.esc r)
theorem bindT_allDat {t : Expr} {d : Dat} {bs : Names} (h : bindT t d = some bs) : allDat bs = true := by
  unfold bindT at h
  split at h
  · cases h; rfl
  · cases h; rfl
  · cases h
/-- the turns of a while loop -/
inductive WhileR (W : Wd) (lv : Nat) (sc : Scope) (ps : List Str) (test : Expr) (body : List Stmt) : Nat → Names → Names → Prop
  | done {ρ : Names} : ET W lv sc ρ test false → WhileR W lv sc ps test body 0 ρ ρ
  | turn {n : Nat} {ρ ρ' ρ'' : Names} : ET W lv sc ρ test true → EXS W lv sc ps ρ body (.next ρ') → WhileR W lv sc ps test body n ρ' ρ'' → WhileR W lv sc ps test body (n + 1) ρ ρ''
/-- what stands ahead of each turn -/
inductive ForI (W : Wd) (lv : Nat) (sc : Scope) (ps : List Str) (t : Expr) (body : List Stmt) (out : Out) (items : List Dat) (fz₁ : Led) (h₀ : Heap) (L I : Addr) (env : Env) (ad : Str → Addr) (par loc : Led) (St : Nat → Heap → Prop) (s : Shared) : Nat → Shared → Prop
  | mk {ds : List Dat} {ρ₁ : Names} {i : Nat} {m' : Str → Option Value} {loc' own' par' : Led} {oI : Obj} {fz' : Led} {ad' : Str → Addr} {h' : Heap} {tk' : Nat} (hr : ForR W lv sc ps t body ds ρ₁ out) (hd : items.drop i = ds) (hi : i ≤ items.length) (s' : Sub fz₁ fz')
      (x : FS W sc ps h₀ L m' loc' own' ((I, oI) :: par') fz' env ad' ρ₁ h') (p : Par ps ad par par') (a : ∀ y ∈ ps, ad' y = ad y) (l : LocT loc' loc) (st : St i h') (f : fieldsO oI) : ForI W lv sc ps t body out items fz₁ h₀ L I env ad par loc St s (ds.length + 1) { s with heap := h', toks := tk' }
inductive WhileI (W : Wd) (lv : Nat) (sc : Scope) (ps : List Str) (test : Expr) (body : List Stmt) (ρ' : Names) (fz : Led) (h₀ : Heap) (L : Addr) (env : Env) (ad : Str → Addr) (par loc : Led) (s : Shared) : Nat → Shared → Prop
  | mk {n : Nat} {ρ₁ : Names} {m' : Str → Option Value} {loc' own' par' fz' : Led} {ad' : Str → Addr} {h' : Heap} {tk' : Nat} (hr : WhileR W lv sc ps test body n ρ₁ ρ') (s' : Sub fz fz') (x : FS W sc ps h₀ L m' loc' own' par' fz' env ad' ρ₁ h')
      (p : Par ps ad par par') (a : ∀ y ∈ ps, ad' y = ad y) (l : LocT loc' loc) : WhileI W lv sc ps test body ρ' fz h₀ L env ad par loc s n { s with heap := h', toks := tk' }
section
variable {W : Wd} {lv : Nat} {sc : Scope} {ps : List Str} {ρ ρ' : Names}
theorem ex_for {t iter : Expr} {body : List Stmt} {pos : Pos} {items : List Dat} {out : Out} (hset : ∀ x env, foldedSetIterable iter env x = pure x) (hi : EI (fun _ => []) W lv sc ρ iter items) (ht : ∀ x ∈ tn t, slot sc x ∧ PlainName x) (hr : ForR W lv sc ps t body items ρ out) :
    EX1 W lv sc ps ρ (.For t iter body [] pos) out := by
  intro A h₀ L m loc own par fz env ad s Q E hA hE x c
  refine wpAny_For (hs := fun x => hset x env) (hi A h₀ env L m _ fz env s _ E hA hE x.ss x.full fun I St o fz₁ h₁ t₁ s₁ S₁ sr st => ?_)
  have x₁ := (x.grow s₁ (S₁.sublist (List.sublist_cons_self _ _))).withIt S₁
  have hI : ∀ y ∈ ps, ad y ≠ I := fun y hy e => by
    obtain ⟨o', ho'⟩ := x.pp y hy
    have nd := x₁.ndPar
    rw [List.map_cons, List.nodup_cons] at nd
    exact nd.1 (List.mem_map.mpr ⟨_, ho', e⟩)
  obtain ⟨o', ho', _, hfo⟩ := sr.obj _ _ st
  have eo : o' = o := by
    have := x₁.ss.ofMu (List.mem_append_right loc (List.mem_append_right own (.head par)))
    have this : h₁.get? I = some o := this
    rw [this] at ho'; exact (Option.some.inj ho').symm
  subst eo
  refine codeAny_forLoop_any (ForI W lv sc ps t body out items fz₁ h₀ L I env ad par loc St s) ?_ (items.length + 1)
    (.mk (m' := m) (own' := own) (tk' := t₁) hr rfl (Nat.zero_le _) (Sub.refl _) x₁ (Par.refl _ _ _) (fun _ _ => rfl) rfl st hfo)
  rintro _ _ ⟨hr', hdrop, hile, s', x', p', a', l', st', hf'⟩
  rename_i ds ρ₁ i m' loc' own' par' oI fz' ad' h' tk'
  have hI' : ∀ y ∈ ps, ad' y ≠ I := fun y hy => by rw [a' y hy]; exact hI y hy
  by_cases hlt : i < items.length
  · obtain ⟨d, hd⟩ : ∃ d, items[i]? = some d := ⟨items[i], List.getElem?_eq_getElem hlt⟩
    have hcons : ds = d :: items.drop (i + 1) := by
      rw [← hdrop, List.drop_eq_getElem_cons hlt]
      rw [List.getElem?_eq_getElem hlt] at hd
      cases hd; rfl
    refine sr.item i d _ _ _ hd st' fun v h₂ tk₂ rv st₂ hk₂ => ?_
    obtain ⟨o₂, ho₂, hq₂, hf₂⟩ := sr.obj _ _ st₂
    have x₂ := (x'.dropIt hI' hf' hk₂).withIt (I := I) (o := o₂) ((x'.ss.perm led_mid).setHead hk₂ ho₂)
    refine letOwned_ok ho₂ hq₂ ?_
    have frame : ∀ {m₃ loc₃ own₃ par₃ fz₃ ad₃ ρ₃ h₃}, Sub fz' fz₃ → FS W sc ps h₀ L m₃ loc₃ own₃ ((I, o₂) :: par₃) fz₃ env ad₃ ρ₃ h₃ → St (i + 1) h₃ := by
      intro m₃ loc₃ own₃ par₃ fz₃ ad₃ ρ₃ h₃ s₃ x₃
      refine sr.frame _ _ _ st₂ (fun o e => ?_) fun b ob hb => ?_
      · rw [ho₂] at e; cases e
        exact x₃.ss.ofMu (List.mem_append_right _ (List.mem_append_right _ (.head _)))
      · rcases hb with hb | hb
        · exact x₃.ss.has (Hs.sub (s'.trans s₃) _ _ hb)
        · cases hb
    have asg : ∀ bs, bindT t d = some bs → ∀ (Q' : Unit → Shared → Prop) (E' : Value → Shared → Prop),
        (∀ m₃ loc₃ h₃ tk₃, FS W sc ps h₀ L m₃ loc₃ own' ((I, o₂) :: par') fz' env ad' (bs ++ ρ₁) h₃ → LocT loc₃ loc' → Q' () { s with heap := h₃, toks := tk₃ }) → wpAny (model W.prog W.w) A (assign t env v) Q' E' { s with heap := h₂, toks := tk₂ } := by
      intro bs hb Q' E' k'
      exact assign_ok hA.hh hE x₂.ss (fun y hy => ⟨x₂.st y (ht y hy).1, (ht y hy).2⟩) (rv.mono (Hs.sub s')) hb fun m₃ loc₃ h₃ tk₃ S₃ mv => k' m₃ loc₃ h₃ tk₃ (x₂.moved S₃ mv (bindT_allDat hb)) rfl
    subst hcons
    cases hr' with
    | cons hb hx hrest =>
      refine asg _ hb _ _ fun m₃ loc₃ h₃ tk₃ x₃ l₃ => ?_
      refine hx A h₀ L m₃ loc₃ own' ((I, o₂) :: par') fz' env ad' _ _ _ hA hE x₃ fun fl m₄ loc₄ own₄ par₄ fz₄ ad₄ h₄ tk₄ s₄ x₄ f₄ p₄ a₄ l₄ => ?_
      cases f₄
      have x₄ : FS W sc ps h₀ L m₄ loc₄ own₄ par₄ fz₄ env ad₄ _ h₄ := x₄
      obtain ⟨par₅, e₅, p₅⟩ := p₄.cons (par := par') hI' x₄.ndPar x₃.ndPar
      subst e₅
      exact ⟨_, Nat.lt_succ_self _, .mk hrest rfl hlt (s'.trans s₄) x₄ (p'.trans p₅ a') (fun y hy => (a₄ y hy).trans (a' y hy)) (l₄.trans (l₃.trans l')) (frame s₄ x₄) hf₂⟩
    | ret hb hx =>
      refine asg _ hb _ _ fun m₃ loc₃ h₃ tk₃ x₃ l₃ => ?_
      refine hx A h₀ L m₃ loc₃ own' ((I, o₂) :: par') fz' env ad' _ _ _ hA hE x₃ fun fl m₄ loc₄ own₄ par₄ fz₄ ad₄ h₄ tk₄ s₄ x₄ f₄ p₄ a₄ l₄ => ?_
      obtain ⟨w, rfl, rw₄⟩ := f₄
      obtain ⟨sc₂, x₄⟩ := x₄
      obtain ⟨par₅, e₅, p₅⟩ := p₄.cons (par := par') hI' x₄.ndPar x₃.ndPar
      subst e₅
      exact c _ m₄ loc₄ own₄ par₅ fz₄ ad₄ h₄ tk₄ (s₁.trans (s'.trans s₄)) ⟨sc₂, x₄.dropIt (fun y hy => by rw [a₄ y hy]; exact hI' y hy) hf₂ fun b o _ e => e⟩ ⟨w, rfl, rw₄⟩ (p'.trans p₅ a') (fun y hy => (a₄ y hy).trans (a' y hy)) (l₄.trans (l₃.trans l'))
    | esc hb hx =>
      refine asg _ hb _ _ fun m₃ loc₃ h₃ tk₃ x₃ l₃ => ?_
      refine hx A h₀ L m₃ loc₃ own' ((I, o₂) :: par') fz' env ad' _ _ _ hA hE x₃ fun fl m₄ loc₄ own₄ par₄ fz₄ ad₄ h₄ tk₄ s₄ x₄ f₄ p₄ a₄ l₄ => ?_
      obtain ⟨w, rfl, rw₄⟩ := f₄
      obtain ⟨e1, ⟨gl, hg, l⟩, e3⟩ := x₄
      have nd₄ : (par₄.map (·.1)).Nodup := by
        have nd := l.nodup
        rw [List.map_append, List.nodup_append, List.map_append, List.nodup_append, List.map_append, List.nodup_append, List.map_append, List.nodup_append] at nd
        exact nd.2.1.1.2.1.2.1
      obtain ⟨par₅, e₅, p₅⟩ := p₄.cons (par := par') hI' nd₄ x₃.ndPar
      subst e₅
      refine c _ m₄ loc₄ own₄ par₅ fz₄ ad₄ h₄ tk₄ (s₁.trans (s'.trans s₄)) ⟨e1, ⟨gl, hg, l.sublist (List.Sublist.append_left (List.Sublist.append_right (List.Sublist.append_left (List.Sublist.append_left (List.sublist_cons_self _ _) _) _) _) _)⟩, e3⟩ ⟨w, rfl, rw₄⟩ (p'.trans p₅ a') (fun y hy => (a₄ y hy).trans (a' y hy)) (l₄.trans (l₃.trans l'))
  · have hin : i = items.length := by (clear hI' hf' st' l' a' p' x' s' hdrop hr' x₁ S₁ hfo ho' hI st sr s₁ c x hE hA hr ht hi hset; lia)
    subst hin
    rw [List.drop_length] at hdrop
    subst hdrop
    cases hr'
    refine sr.done _ _ _ st' fun h₂ tk₂ hk₂ => ?_
    exact wpAny_execs_nil (c _ m' loc' own' par' fz' ad' h₂ tk₂ (s₁.trans s') (x'.dropIt hI' hf' hk₂) rfl p' a' l')
theorem ex_while {test : Expr} {body : List Stmt} {pos : Pos} {n : Nat} (hr : WhileR W lv sc ps test body n ρ ρ') : EX1 W lv sc ps ρ (.While test body [] pos) (.next ρ') := by
  intro A h₀ L m loc own par fz env ad s Q E hA hE x c
  refine wpAny_While (codeAny_whileLoop (WhileI W lv sc ps test body ρ' fz h₀ L env ad par loc s) ?_ n (.mk (tk' := s.toks) hr (Sub.refl _) x (Par.refl _ _ _) (fun _ _ => rfl) rfl))
  rintro _ _ ⟨hr', s', x', p', a', l'⟩
  rename_i n ρ₁ m' loc' own' par' fz' ad' h' tk'
  cases hr' with
  | done ht =>
    refine ht A h₀ env L m' _ fz' env _ _ _ hA hE x'.ss x'.full fun fz₂ h₂ tk₂ s₂ S₂ => ?_
    exact wpAny_execs_nil (c _ m' loc' own' par' fz₂ ad' h₂ tk₂ (s'.trans s₂) (x'.grow s₂ S₂) rfl p' a' l')
  | @turn n _ ρ₂ _ ht hx hrest =>
    refine ht A h₀ env L m' _ fz' env _ _ _ hA hE x'.ss x'.full fun fz₂ h₂ tk₂ s₂ S₂ => ?_
    refine hx A h₀ L m' loc' own' par' fz₂ env ad' _ _ _ hA hE (x'.grow s₂ S₂) fun fl m₄ loc₄ own₄ par₄ fz₄ ad₄ h₄ tk₄ s₄ x₄ f₄ p₄ a₄ l₄ => ?_
    cases f₄
    exact ⟨n, Nat.lt_succ_self _, .mk hrest (s'.trans (s₂.trans s₄)) x₄ (p'.trans p₄ a') (fun y hy => (a₄ y hy).trans (a' y hy)) (l₄.trans l')⟩
end
end Mine
end
section
open PySem PySem.W PyProof.Rows
set_option linter.unusedVariables false
set_option maxRecDepth 100000
namespace Mine
open PySem.Calls PySem.Spec PySem.SeqAt

/-! entering and leaving a def -/
theorem Par.eq {ad : Str → Addr} {a b : Led} (h : Par [] ad a b) (nd : (b.map (·.1)).Nodup) : b = a := by
  induction a generalizing b with
  | nil =>
    have := h.1
    cases b with
    | nil => rfl
    | cons _ _ => cases this
  | cons p a ih =>
    have ndp : ((p :: a).map (·.1)).Nodup := by rw [← h.1]; exact nd
    obtain ⟨b', rfl, h'⟩ := h.cons (fun _ h => by cases h) nd ndp
    rw [List.map_cons, List.nodup_cons] at nd
    rw [ih h' nd.2]

theorem cellsFrom_addr : ∀ (names : List (Str × NameKind)) (n : Nat) (acc : List (Str × Addr)) (lo : Nat), lo ≤ n → (∀ p ∈ acc, lo ≤ p.2 ∧ p.2 < n) → (acc.map (·.2)).Nodup → (∀ p ∈ cellsFrom n names acc, lo ≤ p.2) ∧ ((cellsFrom n names acc).map (·.2)).Nodup
  | [], n, acc, lo, h0, h1, h2 => ⟨fun p hp => (h1 p hp).1, h2⟩
  | (x, kd) :: r, n, acc, lo, h0, h1, h2 => by
    unfold cellsFrom
    split
    · refine cellsFrom_addr r (n + 1) _ lo (Nat.le_succ_of_le h0) (fun p hp => ?_) ?_
      · rcases List.mem_cons.mp hp with rfl | hp
        · exact ⟨h0, Nat.lt_succ_self _⟩
        · exact ⟨(h1 p hp).1, Nat.lt_succ_of_lt (h1 p hp).2⟩
      · rw [List.map_cons, List.nodup_cons]
        refine ⟨fun hm => ?_, h2⟩
        obtain ⟨p, hp, e⟩ := List.mem_map.mp hm
        have := (h1 p hp).2
        have e : p.2 = n := e
        rw [e] at this; exact absurd this (Nat.lt_irrefl _)
    · exact cellsFrom_addr r n acc lo h0 h1 h2
theorem cellsAre_fst {cm : Str → Option Value} {cs : List (Str × Addr)} {cells : Led} (h : CellsAre cm cs cells) : cells.map (·.1) = cs.map (·.2) := by
  induction h with
  | nil => rfl
  | cons _ _ ih => rw [List.map_cons, List.map_cons, ih]
theorem cellsAre_at {cm : Str → Option Value} {cs : List (Str × Addr)} {cells : Led} (h : CellsAre cm cs cells) {x : Str} {c : Addr} (hx : cs.lookup x = some c) : ∃ o, (c, o) ∈ cells ∧ o.data = .cell (cm x) := by
  induction h with
  | nil => cases hx
  | @cons n c' o cs cells hd _ ih =>
    rw [List.lookup_cons] at hx
    cases e : x == n with
    | true =>
      rw [e] at hx; cases hx
      exact ⟨o, .head _, by rw [beq_iff_eq.mp e]; exact hd⟩
    | false =>
      rw [e] at hx
      obtain ⟨o', a, b⟩ := ih hx
      exact ⟨o', .tail _ a, b⟩
theorem bindL_keep {kindOf : Str → Option NameKind} {y : Str} : ∀ {binds : List (Str × Value)} {m : Str → Option Value}, y ∉ binds.map (·.1) → bindL kindOf binds m y = m y
  | [], m, _ => rfl
  | (n, v) :: r, m, h => by
    unfold bindL
    rw [List.map_cons, List.mem_cons] at h
    rw [bindL_keep fun q => h (.inr q)]
    split
    · exact if_neg fun q => h (.inl q)
    · rfl
theorem bindL_at {kindOf : Str → Option NameKind} {y : Str} {v : Value} (hk : kindOf y = some .local) : ∀ {binds : List (Str × Value)} {m : Str → Option Value}, (binds.map (·.1)).Nodup → binds.lookup y = some v → bindL kindOf binds m y = some v
  | (n, w) :: r, m, nd, h => by
    rw [List.map_cons, List.nodup_cons] at nd
    rw [List.lookup_cons] at h
    unfold bindL
    cases e : y == n with
    | true =>
      rw [e] at h; cases h
      have e := beq_iff_eq.mp e
      subst e
      rw [bindL_keep nd.1, if_pos hk, if_pos rfl]
    | false => rw [e] at h; exact bindL_at hk nd.2 h
theorem bindC_keep {kindOf : Str → Option NameKind} {y : Str} : ∀ {binds : List (Str × Value)} {m : Str → Option Value}, y ∉ binds.map (·.1) → bindC kindOf binds m y = m y
  | [], m, _ => rfl
  | (n, v) :: r, m, h => by
    unfold bindC
    rw [List.map_cons, List.mem_cons] at h
    rw [bindC_keep fun q => h (.inr q)]
    split
    · rfl
    · exact if_neg fun q => h (.inl q)
theorem bindC_at {kindOf : Str → Option NameKind} {y : Str} {v : Value} (hk : kindOf y ≠ some .local) : ∀ {binds : List (Str × Value)} {m : Str → Option Value}, (binds.map (·.1)).Nodup → binds.lookup y = some v → bindC kindOf binds m y = some v
  | (n, w) :: r, m, nd, h => by
    rw [List.map_cons, List.nodup_cons] at nd
    rw [List.lookup_cons] at h
    unfold bindC
    cases e : y == n with
    | true =>
      rw [e] at h; cases h
      have e := beq_iff_eq.mp e
      subst e
      rw [bindC_keep nd.1, if_neg hk, if_pos rfl]
    | false => rw [e] at h; exact bindC_at hk nd.2 h
theorem revLookup {y : Str} {v : Value} {binds : List (Str × Value)} (nd : (binds.map (·.1)).Nodup) (h : binds.lookup y = some v) : binds.reverse.lookup y = some v := by
  induction binds with
  | nil => cases h
  | cons p r ih =>
    obtain ⟨n, w⟩ := p
    rw [List.map_cons, List.nodup_cons] at nd
    rw [List.lookup_cons] at h
    have la : ∀ (a b : List (Str × Value)), (a ++ b).lookup y = (a.lookup y <|> b.lookup y) := fun a b => by
      induction a with
      | nil => simp
      | cons q a ih =>
        obtain ⟨k, u⟩ := q
        rw [List.cons_append, List.lookup_cons, List.lookup_cons]
        cases y == k with
        | true => simp
        | false => exact ih
    rw [List.reverse_cons, la]
    cases e : y == n with
    | true =>
      rw [e] at h; cases h
      have hn : r.reverse.lookup y = none := by
        cases q : r.reverse.lookup y with
        | none => rfl
        | some u =>
          have := PySem.mem_of_lookup q
          rw [beq_iff_eq.mp e] at this
          exact absurd (List.mem_map.mpr ⟨_, List.mem_reverse.mp this, rfl⟩) nd.1
      rw [hn]; simp [List.lookup_cons, e]
    | false =>
      rw [e] at h
      rw [ih nd.2 h]; simp

/-- the parameters' names -/
noncomputable def BindR (W : Wd) (X : Fact) (mu : Led) (ps : List Str) (ad : Str → Addr) (binds : List (Str × Value)) (ρ : Names) : Prop :=
  ∀ x pv, ρ.lookup x = some pv → PlainName x ∧ ∃ v, binds.lookup x = some v ∧ PRep W X mu v pv ∧ ∀ ds, pv = .lst ds → x ∈ ps ∧ v = .ref (ad x) ∧ ListAt mu X (ad x) ds
noncomputable def scC (scope : Scope) : Bool := scope.kind == .function && scope.names.all fun p => scope.names.lookup p.1 == some p.2 && (p.2 == .local || p.2 == .cell || p.2 == .globalImplicit)

section
variable {W : Wd} {lv : Nat} {scope sc : Scope} {ps : List Str} {ρ : Names} {out : Out} {A : Around} {h₀ : Heap} {fenv : Env} {L : Addr} {m : Str → Option Value} {mu fz : Led} {s : Shared} {E : Value → Shared → Prop}
  {name qual : Str} {params : Arguments} {body : List Stmt} {dV kV doc pm cdv ct : Value} {an : Option Addr} {fo : Obj} {f : Addr} {vs : List Value} {kvs : List (Str × Value)} {binds : List (Str × Value)} {ad : Str → Addr}
/-- the answer of a call -/
noncomputable def RetR (out : Out) (X : Fact) (v : Value) : Prop :=
  match out with
  | .next _ => v = .none
  | .ret d _ => Rep X v d
  | .esc d => Rep X v d
theorem SS.leave {g : Heap} {L' : Addr} {m' : Str → Option Value} {loc own par : Led} {fz' : Led} {s' : Shared} (st : h₀.StaysIn g) (bs : ∀ b o, W.base.get? b = some o → h₀.get? b = some o) (x : SS W g L' m' (loc ++ (own ++ par)) fz' s'.heap)
    {R : Result → Shared → Prop} {v : Value} (k : SS W h₀ L m par fz' s'.heap → R (.ok (.ret v)) s') : LeaveK h₀ L m g R v s' := by
  obtain ⟨F, ⟨gl, g', l⟩, _⟩ := x
  have l' : Ld g L' s'.heap (gl ++ (par ++ fz')) := l.sublist (by
    refine List.Sublist.append_left ?_ gl
    rw [List.append_assoc, List.append_assoc]
    exact (List.sublist_append_right own _).trans (List.sublist_append_right loc _))
  exact ⟨L', m', gl ++ (par ++ fz'), F, l'.news, fun F' N' => k ⟨F', ⟨gl, g', N', l'.nodup⟩, bs⟩⟩
theorem call_C (hA : AOk W (lv + 1) A h₀ fenv L) (S : SS W h₀ L m mu fz s.heap) (hf : Hs W.base fz f fo) (hd : fo.data = .func (fnX name qual params body scope [] dV kV doc pm an cdv ct))
    (hcd : ∀ h : Heap, (∀ a o, Hs W.base fz a o → h.get? a = some o) → h.CodeRec cdv qual) (hbind : BindsTo s (fnX name qual params body scope [] dV kV doc pm an cdv ct) ⟨vs, kvs⟩ binds)
    (hsc : scC scope = true) (hin : (binds.all fun y => scope.names.lookup y.1 == some .local || scope.names.lookup y.1 == some .cell) = true) (hnd : ((cellsFrom 0 scope.names []).map (·.1)).Nodup) (hbn : (binds.map (·.1)).Nodup)
    (hB : BindR W (Hs W.base fz) mu ps ad binds ρ) (hpp : ∀ x ∈ ps, ∃ o, (ad x, o) ∈ mu) (hij : ∀ x ∈ ps, ∀ y ∈ ps, ad x = ad y → x = y) (hns : sc.names = scope.names) (hcc : ∀ c, sc.more.lookup ("@code" : Str) = some (.int c) → cdv = .ref c.toNat) (hqq : ∀ q, sc.more.lookup ("@qual" : Str) = some (.str q) → qual ++ ".<locals>." = q) (hb : EXS W lv sc ps ρ body out) (Q : Value → Shared → Prop)
    (k : ∀ v fz' mu' (ad' : Str → Addr) h' tk', Sub fz fz' → SS W h₀ L m mu' fz' h' → RetR out (Hs W.base fz') v → Par ps ad mu mu' → (∀ x ∈ ps, ad' x = ad x) → (∀ x ∈ ps, ∀ ds, out.names.lookup x = some (.lst ds) → ListAt mu' (Hs W.base fz') (ad x) ds) → Q v { s with heap := h', toks := tk' })
    (hco : scope.isCoroutine = false := by rfl) (hgen : scope.isGenerator = false := by rfl) (hpl : out.plain = true := by rfl) :
    wpAny (model W.prog W.w) A (call (.ref f) vs kvs) Q E s := by
  obtain ⟨outer, A₀, hfr, B⟩ := hA.fr
  have S0 := S
  obtain ⟨F, ⟨gl, hg, l⟩, bs⟩ := S
  simp only [scC, Bool.and_eq_true, beq_iff_eq, List.all_eq_true, Bool.or_eq_true] at hsc
  obtain ⟨hkind, hall⟩ := hsc
  refine wpAny_call (callX_cells B F l.news hA.T.nolimit hfr hA.hf hA.hk (S0.has hf) hd (hcd _ fun a o e => S0.has e) (by have := hA.dp; (clear hall hkind l hg bs F S0 B hfr hpl hgen hco k hb hqq hcc hns hij hpp hB hbn hnd hin hbind hcd hd hf hA; lia)) hbind (kindsX hin) hnd (fun g L' h₁ tk₁ cells FG F' N' CA B' st hlt => ?_) hco hgen hkind)
  have A' : AOk W lv (A.deeper (envOfC qual scope L' f cdv)) g (envOfC qual scope L' f cdv) L' := by
    refine ⟨hA.hh, ⟨fenv :: outer, A, ?_, B'⟩, rfl, hkind, ?_, ?_, hA.K.keeps st, hA.T.keeps st⟩
    · show A.frames.map _ = _
      rw [hfr]; rfl
    · have := hA.dp; show A.depth + 1 + lv < _; (clear hlt st B' CA N' F' FG hall hkind l hg bs F S0 B hfr hpl hgen hco k hb hqq hcc hns hij hpp hB hbn hnd hin hbind hcd hd hf hA; lia)
    · have := hA.un; show A.units + 3 + (16 * lv + 64) < _; (clear hlt st B' CA N' F' FG hall hkind l hg bs F S0 B hfr hpl hgen hco k hb hqq hcc hns hij hpp hB hbn hnd hin hbind hcd hd hf hA; lia)
  obtain ⟨ca1, ca2⟩ := cellsFrom_addr scope.names (L' + 1) [] (L' + 1) (Nat.le_refl _) (fun _ h => by cases h) List.nodup_nil
  have cfst := cellsAre_fst CA
  have clt : ∀ p ∈ cells, L' + 1 ≤ p.1 := fun p hp => by
    have : p.1 ∈ cells.map (·.1) := List.mem_map.mpr ⟨p, hp, rfl⟩
    rw [cfst] at this
    obtain ⟨q, hq, e⟩ := List.mem_map.mp this
    rw [← e]; exact ca1 q hq
  have S' : SS W g L' (bindL (envOfC qual scope L' f cdv).kindOf binds fun _ => none) (cells ++ ([] ++ mu)) fz h₁ := by
    refine ⟨F', ⟨gl, hg, ?_⟩, fun b o e => st b o (bs b o e)⟩
    have l1 : Ld g L' h₁ (cells ++ (gl ++ (mu ++ fz))) := by
      refine ⟨N', ?_⟩
      rw [List.map_append, List.nodup_append]
      refine ⟨by rw [cfst]; exact ca2, l.nodup, fun a ha b hb e => ?_⟩
      obtain ⟨p, hp, rfl⟩ := List.mem_map.mp ha
      obtain ⟨q, hq, rfl⟩ := List.mem_map.mp hb
      have h1 := clt p hp
      have h2 := hlt q hq
      rw [e] at h1
      exact absurd (Nat.lt_trans h2 (Nat.lt_succ_self _)) (Nat.not_lt.mpr h1)
    refine l1.perm ?_
    rw [List.nil_append, List.append_assoc, ← List.append_assoc, ← List.append_assoc gl]
    exact List.Perm.append_right _ List.perm_append_comm
  have hkn : ∀ y, (envOfC qual scope L' f cdv).kindOf y = scope.names.lookup y := fun y => rfl
  have cellAt : ∀ x, scope.names.lookup x = some .cell → ∃ c o, (cellsFrom (L' + 1) scope.names []).lookup x = some c ∧ (c, o) ∈ cells ∧ o.data = .cell (bindC (envOfC qual scope L' f cdv).kindOf binds (fun _ => none) x) := by
    intro x hx
    obtain ⟨c, hc⟩ := Option.isSome_iff_exists.mp (cellsFrom_some (x := x) scope.names (L' + 1) [] (.inl hx))
    obtain ⟨o, a, b⟩ := cellsAre_at CA hc
    exact ⟨c, o, hc, a, b⟩
  have loads : ∀ x v, binds.lookup x = some v → Loads (envOfC qual scope L' f cdv) L' (bindL (envOfC qual scope L' f cdv).kindOf binds fun _ => none) (cells ++ (([] ++ mu) ++ fz)) x v := by
    intro x v hx
    have hm := List.all_eq_true.mp hin (x, v) (PySem.mem_of_lookup hx)
    simp only [Bool.or_eq_true, beq_iff_eq] at hm
    rcases hm with hm | hm
    · exact .here rfl hm (bindL_at hm hbn hx)
    · obtain ⟨c, o, a, b, d⟩ := cellAt x hm
      rw [bindC_at (by rw [hkn, hm]; decide) hbn hx] at d
      exact .cell (.inl hm) a (List.mem_append_left _ b) d
  have E' : EnvOk (envOfC qual scope L' f cdv) sc := by
    refine ⟨hkind, rfl, rfl, fun n hn => by rw [hns] at hn; exact hn, fun n kd hn hk => ?_, fun x y c hx hy => ?_, fun c hc => hcc c hc, fun q hq => hqq q hq, fun n hn => by rw [hns] at hn; exact hn⟩
    · rw [hns] at hn
      have h1 := hall _ (PySem.mem_of_lookup hn)
      rcases hk with rfl | rfl
      · obtain ⟨c, o, a, _⟩ := cellAt n hn
        exact ⟨.inl hn, by show (List.lookup n (cellsFrom _ _ _)).isSome = true; rw [a]; rfl⟩
      · obtain ⟨_, h1⟩ := h1
        rcases h1 with (h1 | h1) | h1 <;> cases h1
    · exact cellsFrom_inj scope.names (L' + 1) [] (fun _ _ h => by cases h) (fun _ _ _ h => by cases h) x y c hx hy
  have fs : FS W sc ps g L' (bindL (envOfC qual scope L' f cdv).kindOf binds fun _ => none) cells [] mu fz (envOfC qual scope L' f cdv) ad ρ h₁ := by
    refine ⟨S', fun x pv hx => ?_, fun x ds hx => ?_, fun x y ds es hx hy e => ?_, fun x hx => ?_, hpp⟩
    · obtain ⟨hp, v, hv, r, _⟩ := hB x pv hx
      exact ⟨hp, v, loads x v hv, r.mono (FSub.refl _) (by rw [List.nil_append]; exact Sub.refl _)⟩
    · obtain ⟨hp, v, hv, r, hl⟩ := hB x _ hx
      obtain ⟨h1, rfl, h3⟩ := hl ds rfl
      rw [if_pos h1]
      exact ⟨loads x _ hv, h3⟩
    · obtain ⟨_, _, _, _, h1⟩ := hB x _ hx
      obtain ⟨_, _, _, _, h2⟩ := hB y _ hy
      exact hij x (h1 _ rfl).1 y (h2 _ rfl).1 e
    · rw [hns] at hx
      rcases hx with hx | hx
      · exact .inl ⟨hx, .inl rfl⟩
      · obtain ⟨c, o, a, b, d⟩ := cellAt x hx
        exact .inr ⟨hx, c, o, _, a, b, d⟩
  refine hb _ g L' _ cells [] mu fz _ ad _ _ _ A' E' fs fun fl m'' loc'' own'' par'' fz'' ad'' h'' tk'' s'' x'' f'' p'' a'' l'' => ?_
  cases out with
  | esc _ => cases hpl
  | next ρ' =>
    cases f''
    have x'' : FS W sc ps g L' m'' loc'' own'' par'' fz'' _ ad'' ρ' h'' := x''
    refine SS.leave st bs x''.ss fun S₂ => k _ fz'' par'' ad'' h'' tk'' s'' S₂ rfl p'' a'' fun x hx ds hl => ?_
    have := (x''.ls x ds hl).2
    rw [if_pos hx, a'' x hx] at this
    exact this
  | ret d ρ' =>
    obtain ⟨v, rfl, rv⟩ := f''
    obtain ⟨sc₂, x''⟩ := x''
    refine SS.leave st bs x''.ss fun S₂ => k _ fz'' par'' ad'' h'' tk'' s'' S₂ rv p'' a'' fun x hx ds hl => ?_
    have := (x''.ls x ds hl).2
    rw [if_pos hx, a'' x hx] at this
    exact this
end
end Mine
end
section
open PySem PySem.W PyProof.Rows
set_option linter.unusedVariables false
set_option maxRecDepth 100000
namespace Mine
open PySem.Calls PySem.Spec PySem.SeqAt

/-- statements that give d back -/
noncomputable def EXR (W : Wd) (lv : Nat) (sc : Scope) (ρ : Names) (l : List Stmt) (d : Dat) : Prop := ∃ ρ', EXS W lv sc [] ρ l (.ret d ρ')
theorem exr_seq {W : Wd} {lv : Nat} {sc : Scope} {ρ ρ' : Names} {st : Stmt} {rest : List Stmt} {d : Dat} (h : EX1 W lv sc [] ρ st (.next ρ')) (k : EXR W lv sc ρ' rest d) : EXR W lv sc ρ (st :: rest) d :=
  let ⟨r, k⟩ := k; ⟨r, ex_seq h k⟩
theorem exr_ret {W : Wd} {lv : Nat} {sc : Scope} {ρ : Names} {e : Expr} {pos : Pos} {rest : List Stmt} {d : Dat} (h : EV W lv sc ρ e (.dat d)) : EXR W lv sc ρ (.Return (some e) pos :: rest) d := ⟨ρ, ex_ret (ex_return h)⟩
/-- an if whose branch goes on -/
theorem exr_if {W : Wd} {lv : Nat} {sc : Scope} {ρ : Names} {t : Expr} {body orelse rest : List Stmt} {pos : Pos} {d : Dat} {b : Bool} (h : ET W lv sc ρ t b) (h1 : b = true → EXR W lv sc ρ body d) (h2 : b = false → orelse = [] ∧ EXR W lv sc ρ rest d) : EXR W lv sc ρ (.If t body orelse pos :: rest) d := by
  cases b with
  | true =>
    obtain ⟨r, k⟩ := h1 rfl
    exact ⟨r, ex_ret (ex_if h (fun _ => k) (fun q => by cases q))⟩
  | false =>
    obtain ⟨e, r, k⟩ := h2 rfl
    subst e
    exact ⟨r, ex_seq (ex_if h (fun q => by cases q) (fun _ => ex_nil)) k⟩
theorem exr_ifelse {W : Wd} {lv : Nat} {sc : Scope} {ρ : Names} {t : Expr} {body orelse rest : List Stmt} {pos : Pos} {d : Dat} {b : Bool} (h : ET W lv sc ρ t b) (h1 : b = true → EXR W lv sc ρ body d) (h2 : b = false → EXR W lv sc ρ orelse d) : EXR W lv sc ρ (.If t body orelse pos :: rest) d := by
  cases b with
  | true => obtain ⟨r, k⟩ := h1 rfl; exact ⟨r, ex_ret (ex_if h (fun _ => k) (fun q => by cases q))⟩
  | false => obtain ⟨r, k⟩ := h2 rfl; exact ⟨r, ex_ret (ex_if h (fun q => by cases q) (fun _ => k))⟩
section
variable {W : Wd} {lv : Nat} {scope sc : Scope} {ps : List Str} {ρ : Names} {out : Out} {A : Around} {h₀ : Heap} {fenv : Env} {L : Addr} {m : Str → Option Value} {mu fz : Led} {s : Shared} {E : Value → Shared → Prop}
  {name qual : Str} {params : Arguments} {body : List Stmt} {dV kV doc pm cdv ct oc : Value} {an od : Option Addr} {osl : Array (Option Value)} {f : Addr} {vs : List Value} {kvs : List (Str × Value)} {binds : List (Str × Value)} {ad : Str → Addr}
theorem call_K (hK : W.K.lookup f = some ⟨oc, od, .func (fnX name qual params body scope [] dV kV doc pm an cdv ct), osl⟩) (hcode : codeIn W.K cdv qual = true)
    (hsc : scC scope = true) (hnd : ((cellsFrom 0 scope.names []).map (·.1)).Nodup)
    (hA : AOk W (lv + 1) A h₀ fenv L) (S : SS W h₀ L m mu fz s.heap) (hbind : BindsTo s (fnX name qual params body scope [] dV kV doc pm an cdv ct) ⟨vs, kvs⟩ binds)
    (hin : (binds.all fun y => scope.names.lookup y.1 == some .local || scope.names.lookup y.1 == some .cell) = true) {nsb : List Str} (hbn : binds.map (·.1) = nsb) (hnb : nsb.Nodup)
    (hB : BindR W (Hs W.base fz) mu ps ad binds ρ) (hpp : ∀ x ∈ ps, ∃ o, (ad x, o) ∈ mu) (hij : ∀ x ∈ ps, ∀ y ∈ ps, ad x = ad y → x = y) (hns : sc.names = scope.names) (hcc : ∀ c, sc.more.lookup ("@code" : Str) = some (.int c) → cdv = .ref c.toNat) (hqq : ∀ q, sc.more.lookup ("@qual" : Str) = some (.str q) → qual ++ ".<locals>." = q) (hb : EXS W lv sc ps ρ body out) (Q : Value → Shared → Prop)
    (k : ∀ v fz' mu' (ad' : Str → Addr) h' tk', Sub fz fz' → SS W h₀ L m mu' fz' h' → RetR out (Hs W.base fz') v → Par ps ad mu mu' → (∀ x ∈ ps, ad' x = ad x) → (∀ x ∈ ps, ∀ ds, out.names.lookup x = some (.lst ds) → ListAt mu' (Hs W.base fz') (ad x) ds) → Q v { s with heap := h', toks := tk' })
    (hco : scope.isCoroutine = false := by rfl) (hgen : scope.isGenerator = false := by rfl) (hpl : out.plain = true := by rfl) :
    wpAny (model W.prog W.w) A (call (.ref f) vs kvs) Q E s :=
  call_C hA S (.inl (W.kb _ _ hK)) rfl (fun h hh => codeRec_of (fun a o e => hh a o (.inl (W.kb a o e))) hcode) hbind hsc hin hnd (hbn ▸ hnb) hB hpp hij hns hcc hqq hb Q k hco hgen hpl
/-- of a def that turns nothing -/
theorem call_K0 (hK : W.K.lookup f = some ⟨oc, od, .func (fnX name qual params body scope [] dV kV doc pm an cdv ct), osl⟩) (hcode : codeIn W.K cdv qual = true)
    (hsc : scC scope = true) (hnd : ((cellsFrom 0 scope.names []).map (·.1)).Nodup) {d : Dat}
    (hA : AOk W (lv + 1) A h₀ fenv L) (S : SS W h₀ L m mu fz s.heap) (hbind : BindsTo s (fnX name qual params body scope [] dV kV doc pm an cdv ct) ⟨vs, kvs⟩ binds)
    (hin : (binds.all fun y => scope.names.lookup y.1 == some .local || scope.names.lookup y.1 == some .cell) = true) {nsb : List Str} (hbn : binds.map (·.1) = nsb) (hnb : nsb.Nodup)
    (hB : BindR W (Hs W.base fz) mu [] (fun _ => 0) binds ρ) (hns : sc.names = scope.names) (hcc : ∀ c, sc.more.lookup ("@code" : Str) = some (.int c) → cdv = .ref c.toNat) (hqq : ∀ q, sc.more.lookup ("@qual" : Str) = some (.str q) → qual ++ ".<locals>." = q) (hb : EXR W lv sc ρ body d) (Q : Value → Shared → Prop)
    (k : Cont W h₀ L m mu fz s (fun X v => Rep X v d) Q)
    (hco : scope.isCoroutine = false := by rfl) (hgen : scope.isGenerator = false := by rfl) :
    wpAny (model W.prog W.w) A (call (.ref f) vs kvs) Q E s := by
  obtain ⟨ρ', hb⟩ := hb
  refine call_K hK hcode hsc hnd hA S hbind hin hbn hnb hB (fun _ h => by cases h) (fun _ h => by cases h) hns hcc hqq hb Q (fun v fz' mu' ad' h' tk' s' S' r p _ _ => ?_) hco hgen
  have e := p.eq (by
    obtain ⟨_, ⟨gl, _, l⟩, _⟩ := S'
    have nd := l.nodup
    rw [List.map_append, List.nodup_append, List.map_append, List.nodup_append] at nd
    exact nd.2.1.1)
  subst e
  exact k v fz' h' tk' s' S' r
end
/-- names kept -/
noncomputable def SubN (ρ : Names) : Names → Prop
  | [] => True
  | (x, pv) :: r => ρ.lookup x = some pv ∧ SubN ρ r
theorem SubN.look {ρ : Names} : ∀ {ρ' : Names}, SubN ρ ρ' → ∀ x pv, ρ'.lookup x = some pv → ρ.lookup x = some pv
  | (y, q) :: r, h, x, pv, hx => by
    rw [List.lookup_cons] at hx
    cases e : x == y with
    | true => rw [e] at hx; cases hx; rw [beq_iff_eq.mp e]; exact h.1
    | false => rw [e] at hx; exact SubN.look h.2 x pv hx
theorem EX.to {W : Wd} {lv : Nat} {sc : Scope} {ps : List Str} {ρ ρ' ρ'' : Names} {t : Env → Sem Flow} (h : EX W lv sc ps ρ t (.next ρ')) (k : SubN ρ' ρ'') : EX W lv sc ps ρ t (.next ρ'') := h.forget k.look
theorem EX.from {W : Wd} {lv : Nat} {sc : Scope} {ps : List Str} {ρ ρ' : Names} {t : Env → Sem Flow} {out : Out} (h : EX W lv sc ps ρ' t out) (k : SubN ρ ρ') : EX W lv sc ps ρ t out := h.sub k.look
theorem ex_while_ex {W : Wd} {lv : Nat} {sc : Scope} {ps : List Str} {ρ ρ' : Names} {test : Expr} {body : List Stmt} {pos : Pos} (h : ∃ n, WhileR W lv sc ps test body n ρ ρ') : EX1 W lv sc ps ρ (.While test body [] pos) (.next ρ') := let ⟨_, h⟩ := h; ex_while h
theorem BindR.nil {W : Wd} {X : Fact} {mu : Led} {ps : List Str} {ad : Str → Addr} {binds : List (Str × Value)} : BindR W X mu ps ad binds [] := fun _ _ h => by cases h
theorem BindR.cons {W : Wd} {X : Fact} {mu : Led} {ps : List Str} {ad : Str → Addr} {binds : List (Str × Value)} {ρ : Names} {x : Str} {pv : PV} {v : Value} (hp : PlainName x) (hv : binds.lookup x = some v) (r : PRep W X mu v pv)
    (hl : ∀ ds, pv = .lst ds → x ∈ ps ∧ v = .ref (ad x) ∧ ListAt mu X (ad x) ds) (h : BindR W X mu ps ad binds ρ) : BindR W X mu ps ad binds ((x, pv) :: ρ) := by
  intro y q hy
  rw [List.lookup_cons] at hy
  cases e : y == x with
  | true =>
    rw [e] at hy; cases hy
    rw [beq_iff_eq.mp e]
    exact ⟨hp, v, hv, r, hl⟩
  | false => rw [e] at hy; exact h y q hy
theorem BindR.dat {W : Wd} {X : Fact} {mu : Led} {ps : List Str} {ad : Str → Addr} {binds : List (Str × Value)} {ρ : Names} {x : Str} {d : Dat} {v : Value} (hp : PlainName x) (hv : binds.lookup x = some v) (r : Rep X v d)
    (h : BindR W X mu ps ad binds ρ) : BindR W X mu ps ad binds ((x, .dat d) :: ρ) := .cons hp hv r (fun _ h => by cases h) h
theorem EV.cast {W : Wd} {lv : Nat} {sc : Scope} {ρ : Names} {e : Expr} {pv pv' : PV} (h : EV W lv sc ρ e pv) (q : pv = pv') : EV W lv sc ρ e pv' := q ▸ h
theorem OpOk.cast {W : Wd} {lv : Nat} {ins : List Dat} {t : List Value → Sem Value} {d d' : Dat} (h : OpOk W lv ins t d) (q : d = d') : OpOk W lv ins t d' := q ▸ h
theorem ET.cast {W : Wd} {lv : Nat} {sc : Scope} {ρ : Names} {e : Expr} {b b' : Bool} (h : ET W lv sc ρ e b) (q : b = b') : ET W lv sc ρ e b' := q ▸ h
theorem EVs.one {W : Wd} {lv : Nat} {sc : Scope} {ρ : Names} {e : Expr} {p : PV} (h : EV W lv sc ρ e p) (hn : nStar e = true := by rfl) : EVs W lv sc ρ [e] [p] := .cons hn h .nil
theorem EVs.two {W : Wd} {lv : Nat} {sc : Scope} {ρ : Names} {e f : Expr} {p q : PV} (h : EV W lv sc ρ e p) (k : EV W lv sc ρ f q) (hn : nStar e = true := by rfl) (hm : nStar f = true := by rfl) : EVs W lv sc ρ [e, f] [p, q] := .cons hn h (.cons hm k .nil)
end Mine
end
section
open PySem PySem.W PyProof.Rows
set_option linter.unusedVariables false
set_option maxRecDepth 100000
namespace Mine
open PySem.Calls PySem.Spec PySem.SeqAt

section
variable {W : Wd} {sc : Scope} {ps : List Str} {h₀ h h' : Heap} {L : Addr} {m : Str → Option Value} {loc own par fz fz' : Led} {env : Env} {ad : Str → Addr} {ρ ρ' : Names}
theorem led_own {loc own par : Led} {p : Addr × Obj} : (loc ++ (p :: own ++ par)).Perm (p :: (loc ++ (own ++ par))) := by
  have := List.perm_middle (a := p) (l₁ := loc) (l₂ := own ++ par)
  simpa using this
/-- a new thing of one's own -/
theorem FS.withOwn {I : Addr} {o : Obj} (x : FS W sc ps h₀ L m loc own par fz env ad ρ h) (S : SS W h₀ L m ((I, o) :: (loc ++ (own ++ par))) fz h') : FS W sc ps h₀ L m loc ((I, o) :: own) par fz env ad ρ h' := by
  have N : Sub (loc ++ ((own ++ par) ++ fz)) (loc ++ (((I, o) :: own ++ par) ++ fz)) := fun p hp => by
    rcases List.mem_append.mp hp with h | h
    · exact List.mem_append_left _ h
    · refine List.mem_append_right _ ?_
      rcases List.mem_append.mp h with h | h
      · exact List.mem_append_left _ (.tail _ h)
      · exact List.mem_append_right _ h
  refine ⟨S.perm led_own.symm, x.nm.sup (FSub.refl _) (fun p hp => .tail _ hp) N, fun y ds hy => ?_, x.ij, x.st, x.pp⟩
  obtain ⟨a, b⟩ := x.ls y ds hy
  refine ⟨a.mono N, ?_⟩
  split at b
  · rename_i e; rw [if_pos e]; exact b
  · rename_i e; rw [if_neg e]; exact b.mono (FSub.refl _) fun p hp => .tail _ hp
theorem look_cons {y : Str} {q₀ : PV} {z : Str} {q : PV} (hz : ((y, q₀) :: ρ).lookup z = some q) : (z = y ∧ q = q₀) ∨ (z ≠ y ∧ ρ.lookup z = some q) := by
  rw [List.lookup_cons] at hz
  cases e : z == y with
  | true => rw [e] at hz; cases hz; exact .inl ⟨beq_iff_eq.mp e, rfl⟩
  | false =>
    rw [e] at hz
    exact .inr ⟨fun q => (by rw [q, beq_self_eq_true] at e; cases e), hz⟩
theorem FS.adNe {I : Addr} {o : Obj} (x : FS W sc ps h₀ L m loc own par fz env ad ρ h) (S : SS W h₀ L m ((I, o) :: (loc ++ (own ++ par))) fz' h') {y : Str} {ds : List Dat} (hy : ρ.lookup y = some (.lst ds)) : ad y ≠ I := by
  intro e
  obtain ⟨vs, n, a, _⟩ := x.listAt hy
  have nd := S.nodupMu
  rw [List.map_cons, List.nodup_cons] at nd
  exact nd.1 (List.mem_map.mpr ⟨_, List.mem_append_right loc a, e⟩)
/-- a name is bound to a list of one's own -/
theorem FS.bindLst {m' : Str → Option Value} {loc' : Led} {x : Str} {l : Addr} {vs : List Value} {n : Nat} {ds : List Dat} (F : FS W sc ps h₀ L m loc own par fz env ad ρ h) (S : SS W h₀ L m' (loc' ++ (own ++ par)) fz h')
    (st : Stored env L m loc m' loc' x (.ref l)) (hp : PlainName x) (hps : x ∉ ps) (hm : (l, listOf vs.toArray n) ∈ own) (hr : RepA (Hs W.base fz) vs ds) (hne : ∀ y es, ρ.lookup y = some (.lst es) → y ≠ x → ad y ≠ l) :
    FS W sc ps h₀ L m' loc' own par fz env (fun y => if y = x then l else ad y) ((x, .lst ds) :: ρ) h' := by
  have inj := fun a o o' => nd_inj F.nd (a := a) (o := o) (o' := o')
  have self : ListAt own (Hs W.base fz) l ds := ⟨vs, n, hm, hr⟩
  refine ⟨S, fun y q hy => ?_, fun y es hy => ?_, fun y z es fs hy hz e => ?_, fun y hy => st.sto y (F.st y hy), fun y hy => ?_⟩
  · rcases look_cons hy with ⟨rfl, rfl⟩ | ⟨hn, hy⟩
    · exact ⟨hp, _, st.new _, (self.mono (FSub.refl _) fun p hp => List.mem_append_left _ hp).prep⟩
    · obtain ⟨a, v, b, c⟩ := F.nm y q hy
      exact ⟨a, v, st.old _ _ _ hn inj b, c⟩
  · rcases look_cons hy with ⟨rfl, e⟩ | ⟨hn, hy⟩
    · cases e
      rw [if_neg hps, if_pos rfl]
      exact ⟨st.new _, self⟩
    · rw [if_neg hn]
      obtain ⟨a, b⟩ := F.ls y es hy
      exact ⟨st.old _ _ _ hn inj a, b⟩
  · rcases look_cons hy with ⟨e1, _⟩ | ⟨n1, hy⟩ <;> rcases look_cons hz with ⟨e2, _⟩ | ⟨n2, hz⟩
    · rw [e1, e2]
    · have e : (if y = x then l else ad y) = (if z = x then l else ad z) := e
      rw [if_pos e1, if_neg n2] at e
      exact absurd e.symm (hne z _ hz n2)
    · have e : (if y = x then l else ad y) = (if z = x then l else ad z) := e
      rw [if_neg n1, if_pos e2] at e
      exact absurd e (hne y _ hy n1)
    · have e : (if y = x then l else ad y) = (if z = x then l else ad z) := e
      rw [if_neg n1, if_neg n2] at e
      exact F.ij y z _ _ hy hz e
  · have : y ≠ x := fun e => hps (e ▸ hy)
    show ∃ o, ((if y = x then l else ad y), o) ∈ par
    rw [if_neg this]
    exact F.pp y hy
/-- a list of one's own turns no more -/
theorem FS.freeze {x : Str} {ds : List Dat} (F : FS W sc ps h₀ L m loc own par fz env ad ρ h) (hx : ρ.lookup x = some (.lst ds)) (hps : x ∉ ps) :
    ∃ own' o, FS W sc ps h₀ L m loc own' par ((ad x, o) :: fz) env ad ((x, .dat (.list ds)) :: ρ) h := by
  obtain ⟨hl, hla⟩ := F.ls x ds hx
  rw [if_neg hps] at hla
  obtain ⟨vs, n, hm, hr⟩ := hla
  obtain ⟨s, t, e⟩ := List.append_of_mem hm
  subst e
  have N : Sub (loc ++ (((s ++ (ad x, listOf vs.toArray n) :: t) ++ par) ++ fz)) (loc ++ (((s ++ t) ++ par) ++ (ad x, listOf vs.toArray n) :: fz)) := fun p hp => by
    simp only [List.mem_append, List.mem_cons] at hp ⊢
    rcases hp with h | ((h | h | h) | h) | h
    · exact .inl h
    · exact .inr (.inl (.inl (.inl h)))
    · exact .inr (.inr (.inl h))
    · exact .inr (.inl (.inl (.inr h)))
    · exact .inr (.inl (.inr h))
    · exact .inr (.inr (.inr h))
  have la : ∀ y es, ρ.lookup y = some (.lst es) → y ≠ x → ListAt (if y ∈ ps then par else s ++ t) (Hs W.base ((ad x, listOf vs.toArray n) :: fz)) (ad y) es := by
    intro y es hy hne
    have hn : ad y ≠ ad x := fun e => hne (F.ij y x es ds hy hx e)
    have b := (F.ls y es hy).2
    split at b
    · rename_i q; rw [if_pos q]; exact b.mono (Hs.sub .cons) (Sub.refl _)
    · rename_i q; rw [if_neg q]
      obtain ⟨ws, k, a, r⟩ := b
      refine ⟨ws, k, ?_, r.mono (Hs.sub .cons)⟩
      rcases List.mem_append.mp a with a | a
      · exact List.mem_append_left _ a
      · rcases List.mem_cons.mp a with a | a
        · exact absurd (Prod.mk.inj a).1 hn
        · exact List.mem_append_right _ a
  refine ⟨s ++ t, listOf vs.toArray n, ⟨(F.ss.perm ?_).freeze, fun y q hy => ?_, fun y es hy => ?_, fun y z es fs hy hz e => ?_, F.st, F.pp⟩⟩
  · have := List.perm_middle (a := (ad x, listOf vs.toArray n)) (l₁ := loc ++ s) (l₂ := t ++ par)
    simpa using this
  · rcases look_cons hy with ⟨rfl, rfl⟩ | ⟨hn, hy⟩
    · exact ⟨(F.nm y _ hx).1, _, hl.mono N, .list (.inr (.head _)) rfl rfl (hr.mono (Hs.sub .cons))⟩
    · obtain ⟨a, v, b, c⟩ := F.nm y q hy
      cases q with
      | dat d => exact ⟨a, v, b.mono N, Rep.mono (Hs.sub .cons) c⟩
      | fn lf G => exact ⟨a, v, b.mono N, CallOk.mono (Hs.sub .cons) c⟩
      | lst es =>
        refine ⟨a, _, (F.ls y es hy).1.mono N, ?_⟩
        have := la y es hy hn
        split at this
        · exact (this.mono (FSub.refl _) fun p hp => List.mem_append_right _ hp).prep
        · exact (this.mono (FSub.refl _) fun p hp => List.mem_append_left _ hp).prep
  · rcases look_cons hy with ⟨_, e⟩ | ⟨hn, hy⟩
    · cases e
    · exact ⟨(F.ls y es hy).1.mono N, la y es hy hn⟩
  · rcases look_cons hy with ⟨_, e1⟩ | ⟨n1, hy⟩ <;> rcases look_cons hz with ⟨_, e2⟩ | ⟨n2, hz⟩
    · cases e1
    · cases e1
    · cases e2
    · exact F.ij y z _ _ hy hz e
end
section
variable {W : Wd} {lv : Nat} {sc : Scope} {ps : List Str} {ρ ρ' : Names}
/-- x = [..], a list that may turn -/
theorem ex_assign_lst {x : Str} {px pos : Pos} {e : Expr} {ds : List Dat} (h : EF W lv sc ρ e ds) (hx : slot sc x) (hp : PlainName x) (hps : x ∉ ps) (hs : ∀ env, swapsWith e (some (.Name x px)) pos.line env = pure false := by intro _; rfl) :
    EX1 W lv sc ps ρ (.Assign [.Name x px] e pos) (.next ((x, .lst ds) :: ρ)) := by
  intro A h₀ L m loc own par fz env ad s Q E hA hE F c
  refine wpAny_Assign_Name (h A h₀ env L m _ fz env s _ E hA hE F.ss F.full fun l vs n fz' h' t' s' S' r => ?_) (hs env)
  have F₁ := (F.grow s' (S'.sublist (List.sublist_cons_self _ _))).withOwn S'
  refine store_ok hE F₁.ss (F₁.st x hx) fun m' loc' h₂ tk₂ S₂ st₂ => ?_
  refine c _ m' loc' _ par fz' _ h₂ tk₂ s' (F₁.bindLst S₂ st₂ hp hps (.head _) r fun y es hy _ => F.adNe S' hy) rfl (Par.refl _ _ _) (fun y hy => ?_) rfl
  show (if y = x then l else ad y) = ad y
  rw [if_neg fun e : y = x => hps (e ▸ hy)]
theorem ex_freeze {t : Env → Sem Flow} {x : Str} {ds : List Dat} {out : Out} (hx : ρ.lookup x = some (.lst ds)) (hps : x ∉ ps) (h : EX W lv sc ps ((x, .dat (.list ds)) :: ρ) t out) : EX W lv sc ps ρ t out := by
  intro A h₀ L m loc own par fz env ad s Q E hA hE F c
  obtain ⟨own', o, F'⟩ := F.freeze hx hps
  exact h A h₀ L m loc own' par _ env ad s Q E hA hE F' fun fl m₂ loc₂ own₂ par₂ fz₂ ad₂ h₂ t₂ s₂ => c fl m₂ loc₂ own₂ par₂ fz₂ ad₂ h₂ t₂ (Sub.trans .cons s₂)
theorem exr_freeze {x : Str} {ds : List Dat} {l : List Stmt} {d : Dat} (hx : ρ.lookup x = some (.lst ds)) (h : EXR W lv sc ((x, .dat (.list ds)) :: ρ) l d) : EXR W lv sc ρ l d := let ⟨r, h⟩ := h; ⟨r, ex_freeze hx (by simp) h⟩
theorem exr_ret_lst {x : Str} {px pos : Pos} {ds : List Dat} {rest : List Stmt} (hx : ρ.lookup x = some (.lst ds)) : EXR W lv sc ρ (.Return (some (.Name x px)) pos :: rest) (.list ds) := exr_freeze hx (exr_ret (ev_name (by rw [List.lookup_cons, beq_self_eq_true])))
theorem ev_len {x : Str} {np pos : Pos} {e : Expr} {pv : PV} {ds : List Dat} (hb : Boot W sc x (.builtin "len")) (h : EV W lv sc ρ e pv) (hi : pv.items? = some ds) (hz : ds.length ≤ 1048576) (hn : nStar e = true := by rfl) :
    EV W lv sc ρ (.Call (.Name x np) [e] [] pos) (.dat (.int ds.length)) := by
  intro A h₀ fenv L m mu fz env s Q E hA hE S hN k
  refine wpAny_Call_ofName (eval_boot hA hE S hb.sc hb.dbg hb.nm hb.top hb.boot ?_)
  have hv : EVs W lv sc ρ [e] [pv] := .one h hn
  refine Calls.callWith_builtin (evs_star hv) (evalArgs_ok hv A h₀ fenv L m mu fz env s _ E hA hE S hN fun vs fz' h' t' s' S' R' => ?_)
  match vs, R' with
  | [v], ⟨R', _⟩ =>
  obtain ⟨a, vs, rfl, il, ra⟩ := PRep.items S' R' hi
  refine call_len_list il (by rw [List.size_toArray, ra.length]; lia) ?_
  rw [List.size_toArray, ra.length]
  exact k _ fz' h' _ s' S' (.int _ _)
end
end Mine
end
section
open PySem PySem.W PyProof.Rows
set_option linter.unusedVariables false
set_option maxRecDepth 100000
namespace Mine
open PySem.Calls PySem.Spec PySem.SeqAt

theorem SS.kin {W : Wd} {h₀ h : Heap} {L : Addr} {m : Str → Option Value} {mu fz : Led} (S : SS W h₀ L m mu fz h) : W.K.In h := fun a o e => S.has (.inl (W.kb a o e))
theorem SS.binds {W : Wd} {h₀ : Heap} {L : Addr} {m : Str → Option Value} {mu fz : Led} {s : Shared} {fd : FuncData} {args : Args} {binds : List (Str × Value)} (S : SS W h₀ L m mu fz s.heap) (e : ∀ S, peek W.K S (bindArgs fd args) = some binds) : BindsTo s fd args binds := kp_binds S.kin e

section
variable {W : Wd} {lv : Nat} {sc : Scope} {ρ : Names}
/-- arguments with one keyword -/
theorem evalArgs_okk {es : List Expr} {ps : List PV} {pos kp : Pos} {f : Value} {x : Str} {e : Expr} {pv : PV} (h : EVs W lv sc ρ es ps) (hk : EV W lv sc ρ e pv) (A : Around) (h₀ : Heap) (fenv : Env) (L : Addr) (m : Str → Option Value) (mu fz : Led) (env : Env) (s : Shared) (Q : Args → Shared → Prop) (E : Value → Shared → Prop)
    (hA : AOk W lv A h₀ fenv L) (hE : EnvOk env sc) (S : SS W h₀ L m mu fz s.heap) (hN : NamesOk W env L m mu (mu ++ fz) (Hs W.base fz) ρ) (hes : es ≠ [])
    (k : ∀ vs v fz' h' tk', Sub fz fz' → SS W h₀ L m mu fz' h' → PRepA W (Hs W.base fz') mu vs ps → PRep W (Hs W.base fz') mu v pv → Q ⟨vs, [(x, v)]⟩ { s with heap := h', toks := tk' }) :
    wpAny (model W.prog W.w) A (evalArgs f true (backTo pos (starEach es env)) (backToKw pos (keywordEach [⟨some x, e, kp⟩] env))) Q E s := by
  cases h with
  | nil => exact absurd rfl hes
  | cons hn h hs =>
    have sp := spliced_ok (pos := pos) (.cons hn h hs) A h₀ fenv L m mu fz env s (fun vs s₁ => wpAny (model W.prog W.w) A (evalAll ((backToKw pos (keywordEach [⟨some x, e, kp⟩] env)).map (·.2))) (fun ks s₂ => Q ⟨vs, ((backToKw pos (keywordEach [⟨some x, e, kp⟩] env)).filterMap (·.1)).zip ks⟩ s₂) E s₁) E hA hE S hN
      fun vs fz' h' t' s' S' R' => ?_
    · rw [starEach_cons hn, backTo_cons] at sp ⊢
      exact evalArgs_kw rfl sp
    · show wpAny _ A (evalAll [do let v ← eval e env; standAt pos; pure v]) _ _ _
      refine wpAny_evalAll_cons (wpAny_bind (hk A h₀ fenv L m mu fz' env _ _ E hA hE S' (hN.grow s') fun v fz₂ h₂ t₂ s₂ S₂ R₂ => wpAny_bind (wpAny_standAt (wpAny_pure (wpAny_evalAll_nil ?_)))))
      exact k vs v fz₂ h₂ t₂ (s'.trans s₂) S₂ (R'.mono (Hs.sub s₂) (Sub.refl _)) R₂
/-- a call of a top def with one keyword -/
theorem ev_gcallk {x y : Str} {np pos kp : Pos} {a : Addr} {es : List Expr} {ps : List PV} {e : Expr} {pv : PV} {d : Dat} {lf : Nat} {G : List PV → List (Str × PV) → Dat → Prop} (hb : Glb W sc x a) (hc : GCall W lf a G) (h : EVs W lv sc ρ es ps) (hes : es ≠ []) (hk : EV W lv sc ρ e pv) (hG : G ps [(y, pv)] d) (hl : lf ≤ lv) :
    EV W lv sc ρ (.Call (.Name x np) es [⟨some y, e, kp⟩] pos) (.dat d) := by
  intro A h₀ fenv L m mu fz env s Q E hA hE S hN k
  refine wpAny_Call_ofName (eval_glob hA hE S hb.sc hb.dbg hb.top ?_)
  obtain ⟨o, fd, hK, hd⟩ := hb.fn
  refine callWith_function_kw (o := o) (fd := fd) (evalArgs_okk h hk A h₀ fenv L m mu fz env s _ E hA hE S hN hes fun vs v fz' h' t' s' S' R' Rk => ?_)
  refine ⟨⟨S'.fr.keep _ _ (hA.K _ _ hK), hd⟩, ?_⟩
  exact hc A h₀ fenv L m mu fz' _ vs [(y, v)] ps [(y, pv)] d _ _ (hA.less hl) S' R' ⟨rfl, Rk, trivial⟩ hG fun v fz₂ h₂ t₂ s₂ => k v fz₂ h₂ t₂ (s'.trans s₂)
end
end Mine
end
section
open PySem PySem.W PyProof.Rows
set_option linter.unusedVariables false
set_option maxRecDepth 100000
namespace Mine
open PySem.Calls PySem.Spec PySem.SeqAt

/-- an expression that may turn named lists -/
noncomputable def EVM (W : Wd) (lv : Nat) (sc : Scope) (ps : List Str) (ρ : Names) (e : Expr) (d : Dat) (ρ' : Names) : Prop :=
  ∀ (A : Around) (h₀ : Heap) (L : Addr) (m : Str → Option Value) (loc own par fz : Led) (env : Env) (ad : Str → Addr) (s : Shared) (Q : Value → Shared → Prop) (E : Value → Shared → Prop),
    AOk W lv A h₀ env L → EnvOk env sc → FS W sc ps h₀ L m loc own par fz env ad ρ s.heap →
    (∀ v own' par' fz' h' tk', Sub fz fz' → FS W sc ps h₀ L m loc own' par' fz' env ad ρ' h' → Rep (Hs W.base fz') v d → Par ps ad par par' → Q v { s with heap := h', toks := tk' }) →
    wpAny (model W.prog W.w) A (eval e env) Q E s
/-- what a call did to one list -/
noncomputable def Turned (mu mu' : Led) (X : Fact) (l : Addr) (ds : List Dat) : Prop := Par [("" : Str)] (fun _ => l) mu mu' ∧ ListAt mu' X l ds
/-- a def of the top that turns the list it is handed first, and gives None -/
noncomputable def GIns (W : Wd) (lv : Nat) (a : Addr) (G : List Dat → List PV → List (Str × PV) → List Dat → Prop) : Prop :=
  ∀ (A : Around) (h₀ : Heap) (fenv : Env) (L : Addr) (m : Str → Option Value) (mu fz : Led) (s : Shared) (l : Addr) (ds : List Dat) (vs : List Value) (kvs : List (Str × Value)) (ps : List PV) (kps : List (Str × PV)) (ds' : List Dat) (Q E : Value → Shared → Prop),
    AOk W lv A h₀ fenv L → SS W h₀ L m mu fz s.heap → ListAt mu (Hs W.base fz) l ds → PRepA W (Hs W.base fz) mu vs ps → KRepA W (Hs W.base fz) mu kvs kps → G ds ps kps ds' →
    (∀ fz' mu' h' tk', Sub fz fz' → SS W h₀ L m mu' fz' h' → Turned mu mu' (Hs W.base fz') l ds' → Q .none { s with heap := h', toks := tk' }) →
    wpAny (model W.prog W.w) A (call (.ref a) (.ref l :: vs) kvs) Q E s

theorem Par.eqSet {x : Str} {l : Addr} {mu mu' : Led} {o' : Obj} (h : Par [x] (fun _ => l) mu mu') (hm : (l, o') ∈ mu') (nd : (mu'.map (·.1)).Nodup) : mu' = setL mu l o' := by
  obtain ⟨h1, h2⟩ := h
  induction mu generalizing mu' with
  | nil =>
    cases mu' with
    | nil => rfl
    | cons _ _ => cases h1
  | cons p mu ih =>
    cases mu' with
    | nil => cases h1
    | cons q mu' =>
      rw [List.map_cons, List.map_cons, List.cons.injEq] at h1
      have ndq := nd
      rw [List.map_cons, List.nodup_cons] at nd
      have ndp : ((p :: mu).map (·.1)).Nodup := by rw [List.map_cons, ← h1.1, ← h1.2, ← List.map_cons]; exact ndq
      rw [List.map_cons, List.nodup_cons] at ndp
      have inj : ∀ a o o', (a, o) ∈ q :: mu' → (a, o') ∈ q :: mu' → o = o' := fun a o o' => nd_inj ndq
      have hq : q = if p.1 = l then (l, o') else p := by
        obtain ⟨qa, qo⟩ := q
        split
        · rename_i e
          have e1 : qa = l := by rw [← e]; exact h1.1
          subst e1
          rw [inj _ _ _ (.head _) hm]
        · rename_i e
          have hp := h2 p (.head _) fun y hy => by simpa using e
          obtain ⟨pa, po⟩ := p
          have e1 : qa = pa := h1.1
          subst e1
          rw [inj _ _ _ (.head _) hp]
      have rest : mu' = setL mu l o' := by
        by_cases e : p.1 = l
        · -- the list stands at the head: the rest is as it was
          have hl : ∀ r ∈ mu, r.1 ≠ l := fun r hr q' => ndp.1 (List.mem_map.mpr ⟨r, hr, by rw [q', e]⟩)
          rw [setL_off hl]
          refine Par.eq (ad := fun _ => l) ⟨h1.2, fun r hr _ => ?_⟩ nd.2
          rcases List.mem_cons.mp (h2 r (.tail _ hr) fun y hy => hl r hr) with e2 | e2
          · have : q.1 = p.1 := h1.1
            exact absurd (by rw [e2, this, e]) (hl r hr)
          · exact e2
        · refine ih (mu' := mu') ?_ nd.2 h1.2 fun r hr hn => ?_
          · rcases List.mem_cons.mp hm with e2 | e2
            · have : q.1 = p.1 := h1.1
              exact absurd (by rw [← this, ← e2]) e
            · exact e2
          · rcases List.mem_cons.mp (h2 r (.tail _ hr) hn) with e2 | e2
            · have : q.1 = p.1 := h1.1
              exact absurd (List.mem_map.mpr ⟨r, hr, by rw [e2, this]⟩) ndp.1
            · exact e2
      rw [hq, rest]
      rfl
section
variable {W : Wd} {sc : Scope} {ps : List Str} {h₀ h h' : Heap} {L : Addr} {m : Str → Option Value} {loc own par fz fz' : Led} {env : Env} {ad : Str → Addr} {ρ ρ' : Names}
theorem FS.turned (x : FS W sc ps h₀ L m loc own par fz env ad ρ h) (sf : Sub fz fz') {y : Str} {ds ds' : List Dat} {mu' : Led} (hy : ρ.lookup y = some (.lst ds))
    (S : SS W h₀ L m mu' fz' h') (hT : Turned (loc ++ (own ++ par)) mu' (Hs W.base fz') (ad y) ds') :
    ∃ own' par', FS W sc ps h₀ L m loc own' par' fz' env ad ((y, .lst ds') :: ρ) h' ∧ Par ps ad par par' := by
  obtain ⟨hp, vs', n', hm, hr⟩ := hT
  have e := hp.eqSet hm S.nodupMu
  subst e
  exact x.turnS sf hy S hr
end
section
variable {W : Wd} {lv : Nat} {sc : Scope} {ps : List Str} {ρ ρ' : Names}
theorem FS.loadsFull {h₀ h : Heap} {L : Addr} {m : Str → Option Value} {loc own par fz : Led} {env : Env} {ad : Str → Addr} (x : FS W sc ps h₀ L m loc own par fz env ad ρ h) {y : Str} {ds : List Dat} (hy : ρ.lookup y = some (.lst ds)) :
    Loads env L m ((loc ++ (own ++ par)) ++ fz) y (.ref (ad y)) := by
  rw [List.append_assoc]; exact (x.ls y ds hy).1
/-- f(y, ..) where f turns y -/
theorem evm_ins {f y : Str} {np py pos : Pos} {a : Addr} {es : List Expr} {pvs : List PV} {lf : Nat} {G : List Dat → List PV → List (Str × PV) → List Dat → Prop} {ds ds' : List Dat} (hb : Glb W sc f a) (hc : GIns W lf a G) (hy : ρ.lookup y = some (.lst ds)) (h : EVs W lv sc ρ es pvs) (hG : G ds pvs [] ds') (hl : lf ≤ lv) :
    EVM W lv sc ps ρ (.Call (.Name f np) (.Name y py :: es) [] pos) .none ((y, .lst ds') :: ρ) := by
  intro A h₀ L m loc own par fz env ad s Q E hA hE x k
  refine wpAny_Call_ofName (eval_glob hA hE x.ss hb.sc hb.dbg hb.top ?_)
  obtain ⟨o, fd, hK, hd⟩ := hb.fn
  refine Calls.callWith_function (o := o) (fd := fd) ?_
  rw [starEach_cons rfl, backTo_cons]
  refine Calls.evalArgs_plain (Calls.spliced_cons (eval_name hE x.ss (x.loadsFull hy) (x.nm y _ hy).1 ?_))
  refine spliced_ok h A h₀ env L m _ fz env s _ E hA hE x.ss x.full fun vs fz' h' t' s' S' R' => ?_
  have x₁ := x.grow s' S'
  refine ⟨⟨S'.fr.keep _ _ (hA.K _ _ hK), hd⟩, ?_⟩
  refine hc A h₀ env L m _ fz' _ (ad y) ds vs [] pvs [] ds' _ _ (hA.less hl) S' ((x₁.listAt hy).mono (FSub.refl _) fun p hp => List.mem_append_right _ hp) R' trivial hG fun fz₂ mu₂ h₂ t₂ s₂ S₂ T₂ => ?_
  obtain ⟨own', par', F, P⟩ := x₁.turned s₂ hy S₂ T₂
  exact k _ own' par' fz₂ h₂ t₂ (s'.trans s₂) F .none P
theorem evm_insk {f y x : Str} {np py pos kp : Pos} {a : Addr} {es : List Expr} {pvs : List PV} {e : Expr} {pv : PV} {lf : Nat} {G : List Dat → List PV → List (Str × PV) → List Dat → Prop} {ds ds' : List Dat} (hb : Glb W sc f a) (hc : GIns W lf a G) (hy : ρ.lookup y = some (.lst ds)) (h : EVs W lv sc ρ es pvs) (hk : EV W lv sc ρ e pv)
    (hG : G ds pvs [(x, pv)] ds') (hl : lf ≤ lv) : EVM W lv sc ps ρ (.Call (.Name f np) (.Name y py :: es) [⟨some x, e, kp⟩] pos) .none ((y, .lst ds') :: ρ) := by
  intro A h₀ L m loc own par fz env ad s Q E hA hE x₀ k
  refine wpAny_Call_ofName (eval_glob hA hE x₀.ss hb.sc hb.dbg hb.top ?_)
  obtain ⟨o, fd, hK, hd⟩ := hb.fn
  refine callWith_function_kw (o := o) (fd := fd) ?_
  rw [starEach_cons rfl, backTo_cons]
  refine evalArgs_kw rfl (Calls.spliced_cons (eval_name hE x₀.ss (x₀.loadsFull hy) (x₀.nm y _ hy).1 ?_))
  refine spliced_ok h A h₀ env L m _ fz env s _ E hA hE x₀.ss x₀.full fun vs fz' h' t' s' S' R' => ?_
  show wpAny _ A (evalAll [do let v ← eval e env; standAt pos; pure v]) _ _ _
  have x₁ := x₀.grow s' S'
  refine wpAny_evalAll_cons (wpAny_bind (hk A h₀ env L m _ fz' env _ _ E hA hE x₁.ss x₁.full fun v fz₂ h₂ t₂ s₂ S₂ R₂ => wpAny_bind (wpAny_standAt (wpAny_pure (wpAny_evalAll_nil ?_)))))
  have x₂ := x₁.grow s₂ S₂
  refine ⟨⟨S₂.fr.keep _ _ (hA.K _ _ hK), hd⟩, ?_⟩
  refine hc A h₀ env L m _ fz₂ _ (ad y) ds vs [(x, v)] pvs [(x, pv)] ds' _ _ (hA.less hl) S₂ ((x₂.listAt hy).mono (FSub.refl _) fun p hp => List.mem_append_right _ hp) (R'.mono (Hs.sub s₂) (Sub.refl _)) ⟨rfl, R₂, trivial⟩ hG fun fz₃ mu₃ h₃ t₃ s₃ S₃ T₃ => ?_
  obtain ⟨own', par', F, P⟩ := x₂.turned s₃ hy S₃ T₃
  exact k _ own' par' fz₃ h₃ t₃ (s'.trans (s₂.trans s₃)) F .none P
/-- an expression alone on its row -/
theorem ex_expr {e : Expr} {pos : Pos} {d : Dat} (h : EVM W lv sc ps ρ e d ρ') (hs : ∀ env, swapsWith e none pos.line env = pure false := by intro _; rfl) : EX1 W lv sc ps ρ (.Expr e pos) (.next ρ') := by
  intro A h₀ L m loc own par fz env ad s Q E hA hE x c
  refine wpAny_Expr_any (h A h₀ L m loc own par fz env ad s _ E hA hE x fun v own₂ par₂ fz₂ h₂ t₂ s₂ x₂ r₂ p₂ => ?_) (by show (env.scope.kind == .module && _) = false; rw [hE.kind]; rfl) (hs env)
  exact c _ m loc own₂ par₂ fz₂ ad h₂ t₂ s₂ x₂ rfl p₂ (fun _ _ => rfl) rfl
end
end Mine
end
section
open PySem PySem.W PyProof.Rows
set_option linter.unusedVariables false
set_option maxRecDepth 100000
namespace Mine
open PySem.Calls PySem.Spec PySem.SeqAt

/-- the tables of codes: of each table its code, its place, the name that its codes bear -/
noncomputable def GlT (tabs : List (Addr × Addr × Str)) (gl : Led) (X : Fact) : Prop :=
  gl.map (·.1) = tabs.map (·.2.1) ∧ ∀ t ∈ tabs, ∃ ps : Array Value, (t.2.1, tabObj ps) ∈ gl ∧ TriplesOk ps.toList ∧
    ∀ pos v, codeAmong pos ps.toList = some v → ∃ c oc vs tk, v = .ref c ∧ X c oc ∧ oc.data = .fields vs ∧ vs[1]? = some (.str t.2.2 tk)
theorem GlT.mono {tabs : List (Addr × Addr × Str)} {g : Led} {X Y : Fact} (s : FSub X Y) (h : GlT tabs g X) : GlT tabs g Y :=
  ⟨h.1, fun t ht => let ⟨ps, a, b, c⟩ := h.2 t ht; ⟨ps, a, b, fun pos v e => let ⟨c', oc, vs, tk, e1, e2, e3, e4⟩ := c pos v e; ⟨c', oc, vs, tk, e1, s _ _ e2, e3, e4⟩⟩⟩
theorem GlT.drop {tabs : List (Addr × Addr × Str)} {g : Led} {X Y : Fact} (s : ∀ a o, X a o → Y a o ∨ ∃ (vs : Array Value) (n : Nat), o.data = .seq vs n) (h : GlT tabs g X) : GlT tabs g Y := by
  obtain ⟨h1, h2⟩ := h
  refine ⟨h1, fun t ht => ?_⟩
  obtain ⟨ps, a, b, c⟩ := h2 t ht
  refine ⟨ps, a, b, fun pos v hv => ?_⟩
  obtain ⟨c, oc, vs, tk, e1, e2, e3, e4⟩ := c pos v hv
  refine ⟨c, oc, vs, tk, e1, ?_, e3, e4⟩
  rcases s _ _ e2 with h | ⟨ws, n, h⟩
  · exact h
  · rw [e3] at h; cases h
/-- a code of the facts -/
noncomputable def CodeX (X : Fact) (cdv : Value) (q : Str) : Prop := ∃ c oc vs tk, cdv = .ref c ∧ X c oc ∧ oc.data = .fields vs ∧ vs[1]? = some (.str q tk)
theorem CodeX.mono {X Y : Fact} {c : Value} {q : Str} (s : FSub X Y) (h : CodeX X c q) : CodeX Y c q := let ⟨a, b, c, d, e, f, g, i⟩ := h; ⟨a, b, c, d, e, s _ _ f, g, i⟩
theorem CodeX.rec {X : Fact} {c : Value} {q : Str} (h : CodeX X c q) {hp : Heap} (k : ∀ a o, X a o → hp.get? a = some o) : hp.CodeRec c q := let ⟨a, b, c, d, e, f, g, i⟩ := h; ⟨a, b, c, d, e, k _ _ f, g, i⟩

theorem TriplesOk.snoc {a b c : Value} {l : List Value} (h : TriplesOk l) (ha : ∃ i t, a = .int i t) (hb : ∃ i t, b = .int i t) : TriplesOk (l ++ [a, b, c]) := by
  obtain ⟨i, t, rfl⟩ := ha
  obtain ⟨j, u, rfl⟩ := hb
  match l, h with
  | [], _ => exact trivial
  | .int _ _ :: .int _ _ :: _ :: rest, h => exact TriplesOk.snoc (l := rest) h ⟨i, t, rfl⟩ ⟨j, u, rfl⟩
theorem codeAmong_of_snoc {pos : Pos} {a b : Int} {ta tb : Tok} {c v : Value} : ∀ {l : List Value}, TriplesOk l → codeAmong pos (l ++ [.int a ta, .int b tb, c]) = some v → codeAmong pos l = some v ∨ v = c
  | [], _, h => by
    simp only [List.nil_append, codeAmong] at h
    split at h
    · cases h; exact .inr rfl
    · cases h
  | .int _ _ :: .int _ _ :: x :: rest, hl, h => by
    simp only [List.cons_append, codeAmong] at h ⊢
    split at h
    · rename_i e; rw [if_pos e]; exact .inl h
    · rename_i e; rw [if_neg e]; exact codeAmong_of_snoc (l := rest) hl h

section
variable {W : Wd} {h₀ h h' : Heap} {L : Addr} {m : Str → Option Value} {mu fz : Led} {tabs : List (Addr × Addr × Str)}
theorem SS.noBase (S : SS W h₀ L m mu fz h) {a : Addr} {o : Obj} (hm : (a, o) ∈ fz) : W.base.get? a = none := by
  obtain ⟨_, ⟨gl, _, l⟩, bs⟩ := S
  have := (l.news (a, o) (List.mem_append_right _ (List.mem_append_right _ hm))).2.2
  cases q : W.base.get? a with
  | none => rfl
  | some o' => rw [bs _ _ q] at this; cases this
/-- what a making of a function needs and leaves -/
theorem SS.made (hG : W.Gl = GlT tabs) (S : SS W h₀ L m mu fz h) {t : Addr × Addr × Str} (ht : t ∈ tabs) (hnd : (tabs.map (·.2.1)).Nodup) :
    ∃ ps : Array Value, h.get? t.2.1 = some (tabObj ps) ∧ TriplesOk ps.toList ∧ (∀ pos v, codeAmong pos ps.toList = some v → CodeX (Hs W.base fz) v t.2.2) ∧ t.2.1 ≠ L ∧ h₀.get? t.2.1 = none ∧
      (∀ (h' : Heap) c oc vs tk line col f fo, h.get? c = none → c < f → h'.get? c = some oc → oc.data = .fields vs → vs[1]? = some (.str t.2.2 tk) → h'.get? f = some fo → h.objs.size ≤ f → h'.get? t.2.1 = some (tabObj (ps ++ #[rawInt line, rawInt col, .ref c])) →
        (∀ b o, b ≠ t.2.1 → h.get? b = some o → h'.get? b = some o) → SS W h₀ L m mu ((f, fo) :: (c, oc) :: fz) h' ∧ CodeX (Hs W.base ((f, fo) :: (c, oc) :: fz)) (.ref c) t.2.2) := by
  obtain ⟨F, ⟨gl, g, l⟩, bs⟩ := S
  rw [hG] at g
  obtain ⟨ps, hm, htr, hc⟩ := g.2 t ht
  have hN := l.news _ (List.mem_append_left _ hm)
  refine ⟨ps, hN.1, htr, fun pos v e => hc pos v e, hN.2.1, hN.2.2, fun h' c oc vs tk line col f fo hcn hcf ho hd hv hfo hfs hP hs => ?_⟩
  have cx : CodeX (Hs W.base ((f, fo) :: (c, oc) :: fz)) (.ref c) t.2.2 := ⟨c, oc, vs, tk, rfl, .inr (.tail _ (.head _)), hd, hv⟩
  have hfn : h.get? f = none := Heap.get?_none_of_le hfs
  obtain ⟨F₁, l₁⟩ := l.set F (List.mem_append_left _ hm) hs hP
  have nd := l.nodup
  rw [List.map_append, List.nodup_append] at nd
  have off : ∀ p ∈ mu ++ fz, p.1 ≠ t.2.1 := fun p hp e => nd.2.2 t.2.1 (List.mem_map.mpr ⟨_, hm, rfl⟩) p.1 (List.mem_map.mpr ⟨p, hp, rfl⟩) e.symm
  have offm : setL mu t.2.1 (tabObj (ps ++ #[rawInt line, rawInt col, .ref c])) = mu := setL_off fun p hp => off p (List.mem_append_left _ hp)
  have offf : setL fz t.2.1 (tabObj (ps ++ #[rawInt line, rawInt col, .ref c])) = fz := setL_off fun p hp => off p (List.mem_append_right _ hp)
  rw [setL_append, setL_append, offm, offf] at l₁
  have fresh : ∀ b, h.get? b = none → b ≠ L ∧ h₀.get? b = none ∧ ∀ p ∈ gl ++ (mu ++ fz), p.1 ≠ b := by
    intro b hb
    refine ⟨fun e => ?_, ?_, fun p hp e => ?_⟩
    · obtain ⟨o, _, _, q, _⟩ := F.ns
      rw [e, q] at hb; cases hb
    · cases q : h₀.get? b with
      | none => rfl
      | some o => rw [F.keep _ _ q] at hb; cases hb
    · rw [← e, (l.news p hp).1] at hb; cases hb
  obtain ⟨c1, c2, c3⟩ := fresh c hcn
  obtain ⟨f1, f2, f3⟩ := fresh f hfn
  have ndl := l₁.nodup
  have c3' : c ∉ (setL gl t.2.1 (tabObj (ps ++ #[rawInt line, rawInt col, .ref c])) ++ (mu ++ fz)).map (·.1) := by
    rw [List.map_append, setL_fst, ← List.map_append]
    intro q
    obtain ⟨p, hp, e⟩ := List.mem_map.mp q
    exact c3 p hp e
  have f3' : f ∉ (setL gl t.2.1 (tabObj (ps ++ #[rawInt line, rawInt col, .ref c])) ++ (mu ++ fz)).map (·.1) := by
    rw [List.map_append, setL_fst, ← List.map_append]
    intro q
    obtain ⟨p, hp, e⟩ := List.mem_map.mp q
    exact f3 p hp e
  have l₂ : Ld h₀ L h' ((f, fo) :: (c, oc) :: (setL gl t.2.1 (tabObj (ps ++ #[rawInt line, rawInt col, .ref c])) ++ (mu ++ fz))) := by
    refine ⟨fun p hp => ?_, ?_⟩
    · rcases List.mem_cons.mp hp with rfl | hp
      · exact ⟨hfo, f1, f2⟩
      · rcases List.mem_cons.mp hp with rfl | hp
        · exact ⟨ho, c1, c2⟩
        · exact l₁.news p hp
    · rw [List.map_cons, List.nodup_cons, List.map_cons, List.nodup_cons]
      refine ⟨fun q => ?_, c3', ndl⟩
      rcases List.mem_cons.mp q with e | q
      · exact Nat.ne_of_gt hcf e
      · exact f3' q
  refine ⟨⟨F₁, ⟨setL gl t.2.1 (tabObj (ps ++ #[rawInt line, rawInt col, .ref c])), ?_, l₂.perm ?_⟩, bs⟩, cx⟩
  · rw [hG]
    have sub2 : FSub (Hs W.base fz) (Hs W.base ((f, fo) :: (c, oc) :: fz)) := Hs.sub (Sub.cons.trans .cons)
    refine ⟨by rw [setL_fst]; exact g.1, fun t' ht' => ?_⟩
    obtain ⟨ps', hm', htr', hc'⟩ := g.2 t' ht'
    by_cases e : t'.2.1 = t.2.1
    · have et : t' = t := by
        have : ∀ {l : List (Addr × Addr × Str)}, (l.map (·.2.1)).Nodup → t' ∈ l → t ∈ l → t' = t := by
          intro l
          induction l with
          | nil => intro _ h; cases h
          | cons x l ih =>
            intro nd a b
            rw [List.map_cons, List.nodup_cons] at nd
            rcases List.mem_cons.mp a with a | a <;> rcases List.mem_cons.mp b with b | b
            · rw [a, b]
            · exact absurd (List.mem_map.mpr ⟨t, b, by rw [← e, a]⟩) nd.1
            · exact absurd (List.mem_map.mpr ⟨t', a, by rw [e, b]⟩) nd.1
            · exact ih nd.2 a b
        exact this hnd ht' ht
      subst et
      refine ⟨ps ++ #[rawInt line, rawInt col, .ref c], mem_setL_self hm, ?_, fun pos v hv' => ?_⟩
      · rw [Array.toList_append]
        exact TriplesOk.snoc htr ⟨_, _, rfl⟩ ⟨_, _, rfl⟩
      · rw [Array.toList_append] at hv'
        rcases codeAmong_of_snoc htr hv' with q | q
        · obtain ⟨c', oc', vs', tk', a1, a2, a3, a4⟩ := hc pos v q
          exact ⟨c', oc', vs', tk', a1, sub2 _ _ a2, a3, a4⟩
        · subst q; exact cx
    · refine ⟨ps', mem_setL_ne hm' e, htr', fun pos v hv' => ?_⟩
      obtain ⟨c', oc', vs', tk', a1, a2, a3, a4⟩ := hc' pos v hv'
      exact ⟨c', oc', vs', tk', a1, sub2 _ _ a2, a3, a4⟩
  · have e1 := List.perm_middle (a := (f, fo)) (l₁ := setL gl t.2.1 (tabObj (ps ++ #[rawInt line, rawInt col, .ref c])) ++ mu) (l₂ := (c, oc) :: fz)
    have e2 := List.perm_middle (a := (c, oc)) (l₁ := setL gl t.2.1 (tabObj (ps ++ #[rawInt line, rawInt col, .ref c])) ++ mu) (l₂ := fz)
    rw [← List.append_assoc, ← List.append_assoc]
    exact ((List.Perm.cons _ e2.symm).trans e1.symm)
end

section
variable {W : Wd} {h₀ : Heap} {L : Addr} {m : Str → Option Value} {mu fz : Led} {tabs : List (Addr × Addr × Str)} {A : Around} {lv : Nat} {fenv env : Env} {s : Shared} {E Q : Value → Shared → Prop} {t : Addr × Addr × Str}
  {name : Str} {params : Arguments} {scope : Scope} {clos : List (Str × Addr)} {pos : Pos} {firstLine : Nat}
theorem builtAt (hA : AOk W lv A h₀ fenv L) (S : SS W h₀ L m mu fz s.heap) {P : Addr} {o : Obj} (hP : s.heap.get? P = some o) (hc : o.cls = .none) (hd : ∃ vs, o.data = .fields vs) (hn : h₀.get? P = none) : s.heap.Ns mainGlobals W.mg ∧ mainGlobals ≠ P ∧ s.heap.BuiltinsAt W.mg P := by
  have hgs := hA.T.g.keeps S.fr.keep
  obtain ⟨bm, ob, b1, b2, b3, b4, b5, b6⟩ := hA.T.bmain
  have hgP : mainGlobals ≠ P := fun q => by
    obtain ⟨o', es, ep, e, hd', _⟩ := hgs
    obtain ⟨vs, hd⟩ := hd
    rw [q, hP] at e; cases e; rw [hd] at hd'; cases hd'
  have hbP : bm ≠ P := fun q => by
    rw [q, hn] at b3; cases b3
  have hbG : bm ≠ mainGlobals := fun q => by
    obtain ⟨o, es, ep, e, hd, _⟩ := hA.T.g
    rw [q, e] at b3; cases b3; rw [hd] at b6; cases b6
  exact ⟨hgs, hgP, bm, ob, b1, b2, hbG, hbP, S.fr.keep _ _ b3, b4, b5, b6⟩
/-- a def or a lambda is made -/
theorem make_def {body : List Stmt} (hA : AOk W lv A h₀ fenv L) (hG : W.Gl = GlT tabs) (ht : t ∈ tabs) (hnd : (tabs.map (·.2.1)).Nodup) (hC : CodeHd W.base t.1 t.2.1) (S : SS W h₀ L m mu fz s.heap) (hcl : closureFor scope env = pure clos) (hg : env.globals = mainGlobals) (hcode : env.code = .ref t.1)
    (k : ∀ f fz' h' tk' c ctv doc pm, Sub fz fz' → SS W h₀ L m mu fz' h' → (f, fnMade name t.2.2 params body scope clos doc pm c ctv) ∈ fz' → CodeX (Hs W.base fz') (.ref c) t.2.2 → Q (.ref f) { s with heap := h', toks := tk' }) :
    wpAny (model W.prog W.w) A (makeFunction name t.2.2 params (.stmts body) scope env [] [] [] pos firstLine) Q E s := by
  obtain ⟨ps, hP, htr, hc, hPL, hPn, made⟩ := S.made hG ht hnd
  obtain ⟨g1, g2, g3⟩ := builtAt hA S hP rfl ⟨_, rfl⟩ hPn
  have C' : CodeHd s.heap t.1 t.2.1 := hC.keeps fun b o e => S.fr.keep _ _ (S.bs _ _ e)
  cases hf : codeAmong pos ps.toList with
  | none =>
    refine makeFunction_K (mg := W.mg) hcl hg g1 hcode C' hP htr hf g2 g3 fun c' ctv doc h' tk hx hge hlt hrec htb => ?_
    obtain ⟨c₂, oc, vs, tq, e2, hoc, hd, hv⟩ := hrec
    cases e2
    obtain ⟨S', cx⟩ := made (h'.push (fnMade name t.2.2 params body scope clos doc ((W.mg "__name__").getD .none) c' ctv)) c' oc vs tq pos.line pos.col h'.objs.size _ (Heap.get?_none_of_le hge) hlt (Heap.get?_push_of_some _ hoc) hd hv (Heap.get?_push_size _ rfl)
      (Nat.le_trans hge (Nat.le_of_lt hlt)) (Heap.get?_push_of_some _ htb) fun b o hb e => Heap.get?_push_of_some _ (hx b o hb e)
    exact k _ _ _ tk c' ctv doc _ (Sub.cons.trans .cons) S' (.head _) cx
  | some cv =>
    obtain ⟨c, oc, vs, tk, rfl, hx⟩ := hc pos cv hf
    refine makeFunction_hit (mg := W.mg) hcl hg g1 hcode C' hP htr hf g3 fun ctv doc h' tk hk hsz => ?_
    exact k _ _ _ tk c ctv doc _ .cons ((S.grown hk).push (fnMade name t.2.2 params body scope clos doc ((W.mg "__name__").getD .none) c ctv)) (.head _) (CodeX.mono (Hs.sub .cons) ⟨c, oc, vs, _, rfl, hx⟩)
theorem make_lam {body : Expr} (hA : AOk W lv A h₀ fenv L) (hG : W.Gl = GlT tabs) (ht : t ∈ tabs) (hnd : (tabs.map (·.2.1)).Nodup) (hC : CodeHd W.base t.1 t.2.1) (S : SS W h₀ L m mu fz s.heap) (hcl : closureFor scope env = pure clos) (hg : env.globals = mainGlobals) (hcode : env.code = .ref t.1)
    (k : ∀ f fz' h' tk' c ctv pm, Sub fz fz' → SS W h₀ L m mu fz' h' → (f, kla_obj name t.2.2 params body scope clos pm c ctv) ∈ fz' → CodeX (Hs W.base fz') (.ref c) t.2.2 → Q (.ref f) { s with heap := h', toks := tk' }) :
    wpAny (model W.prog W.w) A (makeFunction name t.2.2 params (.expr body) scope env [] [] [] pos firstLine) Q E s := by
  obtain ⟨ps, hP, htr, hc, hPL, hPn, made⟩ := S.made hG ht hnd
  obtain ⟨g1, g2, g3⟩ := builtAt hA S hP rfl ⟨_, rfl⟩ hPn
  have C' : CodeHd s.heap t.1 t.2.1 := hC.keeps fun b o e => S.fr.keep _ _ (S.bs _ _ e)
  cases hf : codeAmong pos ps.toList with
  | none =>
    refine kla_makeFunction (mg := W.mg) hcl hg g1 hcode C' hP htr hf g2 g3 fun c' ctv h' tk hx hge hlt hrec htb => ?_
    obtain ⟨c₂, oc, vs, tq, e2, hoc, hd, hv⟩ := hrec
    cases e2
    obtain ⟨S', cx⟩ := made (h'.push (kla_obj name t.2.2 params body scope clos ((W.mg "__name__").getD .none) c' ctv)) c' oc vs tq pos.line pos.col h'.objs.size _ (Heap.get?_none_of_le hge) hlt (Heap.get?_push_of_some _ hoc) hd hv (Heap.get?_push_size _ rfl)
      (Nat.le_trans hge (Nat.le_of_lt hlt)) (Heap.get?_push_of_some _ htb) fun b o hb e => Heap.get?_push_of_some _ (hx b o hb e)
    exact k _ _ _ tk c' ctv _ (Sub.cons.trans .cons) S' (.head _) cx
  | some cv =>
    obtain ⟨c, oc, vs, tk, rfl, hx⟩ := hc pos cv hf
    refine kla_makeFunctionHit (mg := W.mg) hcl hg g1 hcode C' hP htr hf g3 fun ctv h' tk hk hsz => ?_
    exact k _ _ _ tk c ctv _ .cons ((S.grown hk).push (kla_obj name t.2.2 params body scope clos ((W.mg "__name__").getD .none) c ctv)) (.head _) (CodeX.mono (Hs.sub .cons) ⟨c, oc, vs, _, rfl, hx⟩)
end
end Mine
end
section
open PySem PySem.W PyProof.Rows
set_option linter.unusedVariables false
set_option maxRecDepth 100000
namespace Mine
open PySem.Calls PySem.Spec PySem.SeqAt

/-- the names that a closure brings -/
noncomputable def ClR (W : Wd) (X : Fact) (mu : Led) (ps : List Str) (ad : Str → Addr) (names : List (Str × NameKind)) (cl : List (Str × Addr)) (ρ : Names) : Prop :=
  ∀ x pv, ρ.lookup x = some pv → PlainName x ∧ names.lookup x = some .free ∧ ∃ c o v, cl.lookup x = some c ∧ X c o ∧ W.base.get? c = none ∧ o.data = .cell (some v) ∧ PRep W X mu v pv ∧
    ∀ ds, pv = .lst ds → x ∈ ps ∧ v = .ref (ad x) ∧ ListAt mu X (ad x) ds
structure ClosOk (names : List (Str × NameKind)) (cl : List (Str × Addr)) : Prop where
  all : ∀ x, names.lookup x = some .free → (cl.lookup x).isSome = true
  inj : ∀ x y c, cl.lookup x = some c → cl.lookup y = some c → x = y
noncomputable def scP' (scope : Scope) : Bool := scope.kind == .function && scope.names.all fun p => scope.names.lookup p.1 == some p.2 && (p.2 == .local || p.2 == .free || p.2 == .globalImplicit)

section
variable {W : Wd} {lv : Nat} {scope sc : Scope} {ps : List Str} {ρ ρc : Names} {out : Out} {A : Around} {h₀ : Heap} {fenv : Env} {L : Addr} {m : Str → Option Value} {mu fz : Led} {s : Shared} {E : Value → Shared → Prop}
  {name qual : Str} {params : Arguments} {body : List Stmt} {dV kV doc pm cdv ct : Value} {an : Option Addr} {fo : Obj} {f : Addr} {vs : List Value} {kvs : List (Str × Value)} {binds : List (Str × Value)} {ad : Str → Addr} {cl : List (Str × Addr)}
/-- the frame of a closure's call -/
theorem enterP {g h₁ : Heap} {L' : Addr} {gl : Led} {cdv : Value} (hsc : scP' scope = true) (hin : (binds.all fun y => scope.names.lookup y.1 == some .local) = true) (hbn : (binds.map (·.1)).Nodup) (hco : ClosOk scope.names cl)
    (hB : BindR W (Hs W.base fz) mu ps ad binds ρ) (hC : ClR W (Hs W.base fz) mu ps ad scope.names cl ρc) (hpp : ∀ x ∈ ps, ∃ o, (ad x, o) ∈ mu) (hij : ∀ x ∈ ps, ∀ y ∈ ps, ad x = ad y → x = y) (hns : sc.names = scope.names) (hmo : sc.more = [])
    (hA : AOk W (lv + 1) A h₀ fenv L) (hg : W.Gl gl (Hs W.base fz)) (l : Ld h₀ L s.heap (gl ++ (mu ++ fz))) (bs : ∀ b o, W.base.get? b = some o → h₀.get? b = some o)
    (F' : Fr g L' h₁ (fun y => binds.reverse.lookup y)) (N' : News g L' h₁ (gl ++ (mu ++ fz))) (B' : Below A W.base (fenv :: (A.frames.getD []).tail) g ∧ A.frames = some (fenv :: (A.frames.getD []).tail)) (st : h₀.StaysIn g) :
    AOk W lv (A.deeper (envX qual scope L' f cdv cl)) g (envX qual scope L' f cdv cl) L' ∧ EnvOk (envX qual scope L' f cdv cl) sc ∧
      FS W sc ps g L' (fun y => binds.reverse.lookup y) [] [] mu fz (envX qual scope L' f cdv cl) ad (ρ ++ ρc) h₁ := by
  simp only [scP', Bool.and_eq_true, beq_iff_eq, List.all_eq_true, Bool.or_eq_true] at hsc
  obtain ⟨hkind, hall⟩ := hsc
  have S' : SS W g L' (fun y => binds.reverse.lookup y) ([] ++ ([] ++ mu)) fz h₁ := ⟨F', ⟨gl, hg, N', l.nodup⟩, fun b o e => st b o (bs b o e)⟩
  have hkn : ∀ y, (envX qual scope L' f cdv cl).kindOf y = scope.names.lookup y := fun y => rfl
  have noCell : ∀ x, scope.names.lookup x ≠ some .cell := fun x hx => by
    obtain ⟨_, h1⟩ := hall _ (PySem.mem_of_lookup hx)
    rcases h1 with (h1 | h1) | h1 <;> cases h1
  have inFz : ∀ c o, Hs W.base fz c o → W.base.get? c = none → (c, o) ∈ fz := fun c o h hn => by
    rcases h with h | h
    · rw [hn] at h; cases h
    · exact h
  have loads : ∀ x v, binds.lookup x = some v → Loads (envX qual scope L' f cdv cl) L' (fun y => binds.reverse.lookup y) ([] ++ (([] ++ mu) ++ fz)) x v := by
    intro x v hx
    have hm := List.all_eq_true.mp hin (x, v) (PySem.mem_of_lookup hx)
    have hm : scope.names.lookup x = some .local := by simpa using hm
    exact .here rfl hm (revLookup hbn hx)
  have loadc : ∀ x c o v, scope.names.lookup x = some .free → cl.lookup x = some c → Hs W.base fz c o → W.base.get? c = none → o.data = .cell (some v) → Loads (envX qual scope L' f cdv cl) L' (fun y => binds.reverse.lookup y) ([] ++ (([] ++ mu) ++ fz)) x v := by
    intro x c o v h1 h2 h3 h4 h5
    exact .cell (.inr h1) h2 (List.mem_append_right _ (List.mem_append_right _ (inFz c o h3 h4))) h5
  have look : ∀ x pv, (ρ ++ ρc).lookup x = some pv → ρ.lookup x = some pv ∨ ρc.lookup x = some pv := by
    intro x pv hx
    rw [lookup_append] at hx
    cases e : ρ.lookup x with
    | none => rw [e] at hx; exact .inr (by simpa using hx)
    | some q => rw [e] at hx; exact .inl (by simpa using hx)
  have all : ∀ x pv, (ρ ++ ρc).lookup x = some pv → PlainName x ∧ ∃ v, Loads (envX qual scope L' f cdv cl) L' (fun y => binds.reverse.lookup y) ([] ++ (([] ++ mu) ++ fz)) x v ∧ PRep W (Hs W.base fz) mu v pv ∧ ∀ ds, pv = .lst ds → x ∈ ps ∧ v = .ref (ad x) ∧ ListAt mu (Hs W.base fz) (ad x) ds := by
    intro x pv hx
    rcases look x pv hx with hx | hx
    · obtain ⟨a, v, b, c, d⟩ := hB x pv hx
      exact ⟨a, v, loads x v b, c, d⟩
    · obtain ⟨a, b, c, o, v, d, e, e', g', i, j⟩ := hC x pv hx
      exact ⟨a, v, loadc x c o v b d e e' g', i, j⟩
  obtain ⟨hB1, hB2⟩ := B'
  refine ⟨⟨hA.hh, ⟨_, A, ?_, hB1⟩, rfl, hkind, ?_, ?_, hA.K.keeps st, hA.T.keeps st⟩, ⟨hkind, rfl, rfl, fun n hn => by rw [hns] at hn; exact hn, fun n kd hn hk => ?_, hco.inj, fun c hc => (by rw [hmo] at hc; cases hc), fun c hc => (by rw [hmo] at hc; cases hc), fun n hn => (by rw [hns] at hn; exact hn)⟩,
    ⟨S', fun x pv hx => ?_, fun x ds hx => ?_, fun x y ds es hx hy e => ?_, fun x hx => ?_, hpp⟩⟩
  · show A.frames.map _ = _
    rw [hB2]; rfl
  · have := hA.dp; show A.depth + 1 + lv < _; (clear hB2 hB1 all look loadc loads inFz noCell hkn S' hall hkind st N' F' bs l hg hA hmo hns hij hpp hC hB hco hbn hin; lia)
  · have := hA.un; show A.units + 3 + (16 * lv + 64) < _; (clear hB2 hB1 all look loadc loads inFz noCell hkn S' hall hkind st N' F' bs l hg hA hmo hns hij hpp hC hB hco hbn hin; lia)
  · rw [hns] at hn
    rcases hk with rfl | rfl
    · exact absurd hn (noCell n)
    · exact ⟨.inr hn, hco.all n hn⟩
  · obtain ⟨a, v, b, c, d⟩ := all x pv hx
    exact ⟨a, v, b, by rw [List.nil_append]; exact c⟩
  · obtain ⟨a, v, b, c, d⟩ := all x _ hx
    obtain ⟨h1, rfl, h3⟩ := d ds rfl
    rw [if_pos h1]
    exact ⟨b, h3⟩
  · obtain ⟨_, _, _, _, d⟩ := all x _ hx
    obtain ⟨_, _, _, _, d'⟩ := all y _ hy
    exact hij x (d _ rfl).1 y (d' _ rfl).1 e
  · rw [hns] at hx
    rcases hx with hx | hx
    · exact .inl ⟨hx, .inl rfl⟩
    · exact absurd hx (noCell x)
theorem call_P (hA : AOk W (lv + 1) A h₀ fenv L) (S : SS W h₀ L m mu fz s.heap) (hf : Hs W.base fz f fo) (hd : fo.data = .func (fnX name qual params body scope cl dV kV doc pm an cdv ct))
    (hcd : CodeX (Hs W.base fz) cdv qual) (hbind : BindsTo s (fnX name qual params body scope cl dV kV doc pm an cdv ct) ⟨vs, kvs⟩ binds)
    (hsc : scP' scope = true) (hin : (binds.all fun y => scope.names.lookup y.1 == some .local) = true) (hbn : (binds.map (·.1)).Nodup) (hcl : ClosOk scope.names cl)
    (hB : BindR W (Hs W.base fz) mu ps ad binds ρ) (hC : ClR W (Hs W.base fz) mu ps ad scope.names cl ρc) (hpp : ∀ x ∈ ps, ∃ o, (ad x, o) ∈ mu) (hij : ∀ x ∈ ps, ∀ y ∈ ps, ad x = ad y → x = y) (hns : sc.names = scope.names) (hmo : sc.more = []) (hb : EXS W lv sc ps (ρ ++ ρc) body out) (Q : Value → Shared → Prop)
    (k : ∀ v fz' mu' (ad' : Str → Addr) h' tk', Sub fz fz' → SS W h₀ L m mu' fz' h' → RetR out (Hs W.base fz') v → Par ps ad mu mu' → (∀ x ∈ ps, ad' x = ad x) → (∀ x ∈ ps, ∀ ds, out.names.lookup x = some (.lst ds) → ListAt mu' (Hs W.base fz') (ad x) ds) → Q v { s with heap := h', toks := tk' })
    (hco : scope.isCoroutine = false := by rfl) (hgen : scope.isGenerator = false := by rfl) (hpl : out.plain = true := by rfl) :
    wpAny (model W.prog W.w) A (call (.ref f) vs kvs) Q E s := by
  obtain ⟨outer, A₀, hfr, B⟩ := hA.fr
  have S0 := S
  obtain ⟨F, ⟨gl, hg, l⟩, bs⟩ := S
  have hsc0 := hsc
  simp only [scP', Bool.and_eq_true, beq_iff_eq, List.all_eq_true, Bool.or_eq_true] at hsc
  obtain ⟨hkind, hall⟩ := hsc
  refine wpAny_call (callX_plain B F l.news hA.T.nolimit hfr hA.hf hA.hk (S0.has hf) hd (hcd.rec fun a o e => S0.has e) (by have := hA.dp; (clear hall hkind hsc0 l hg bs F S0 B hfr hpl hgen hco k hb hmo hns hij hpp hC hB hcl hbn hin hbind hcd hd hf hA; lia)) hbind (fun y hy => by have := List.all_eq_true.mp hin y hy; simpa using this) (fun g L' h₁ FG F' N' B' st hlt => ?_) (fun x hx e => ?_) hco hgen hkind)
  · obtain ⟨A', E', fs⟩ := enterP (qual := qual) (f := f) (cdv := cdv) hsc0 hin hbn hcl hB hC hpp hij hns hmo hA hg l bs F' N' ⟨by rw [hfr]; exact B', by rw [hfr]; rfl⟩ st
    refine hb _ g L' _ [] [] mu fz _ ad _ _ _ A' E' fs fun fl m'' loc'' own'' par'' fz'' ad'' h'' tk'' s'' x'' f'' p'' a'' l'' => ?_
    cases out with
    | esc _ => cases hpl
    | next ρ' =>
      cases f''
      have x'' : FS W sc ps g L' m'' loc'' own'' par'' fz'' _ ad'' ρ' h'' := x''
      refine SS.leave st bs x''.ss fun S₂ => k _ fz'' par'' ad'' h'' tk'' s'' S₂ rfl p'' a'' fun x hx ds hl => ?_
      have := (x''.ls x ds hl).2
      rw [if_pos hx, a'' x hx] at this
      exact this
    | ret d ρ' =>
      obtain ⟨v, rfl, rv⟩ := f''
      obtain ⟨sc₂, x''⟩ := x''
      refine SS.leave st bs x''.ss fun S₂ => k _ fz'' par'' ad'' h'' tk'' s'' S₂ rv p'' a'' fun x hx ds hl => ?_
      have := (x''.ls x ds hl).2
      rw [if_pos hx, a'' x hx] at this
      exact this
  · obtain ⟨_, h1⟩ := hall x hx
    rw [e] at h1
    rcases h1 with (h1 | h1) | h1 <;> cases h1
end
end Mine
end
section
open PySem PySem.W PyProof.Rows
set_option linter.unusedVariables false
set_option maxRecDepth 100000
namespace Mine
open PySem.Calls PySem.Spec PySem.SeqAt

/-- parameters and their data -/
noncomputable def zipD : List Str → List Dat → Names
  | x :: xs, d :: ds => (x, .dat d) :: zipD xs ds
  | _, _ => []
theorem bindR_zip {W : Wd} {X : Fact} {mu : Led} {ps : List Str} {ad : Str → Addr} : ∀ {pn : List Str} {vs : List Value} {ds : List Dat}, (∀ x ∈ pn, PlainName x) → pn.Nodup → vs.length = pn.length → RepA X vs ds → BindR W X mu ps ad (pn.zip vs) (zipD pn ds)
  | [], _, _, _, _, _, _ => by intro x pv hx; cases hx
  | x :: pn, v :: vs, d :: ds, hp, nd, hl, .cons r rs => by
    rw [List.nodup_cons] at nd
    have ih := bindR_zip (W := W) (mu := mu) (ps := ps) (ad := ad) (fun y hy => hp y (.tail _ hy)) nd.2 (by simpa using hl) rs
    refine .dat (hp x (.head _)) (by simp) r fun y pv hy => ?_
    obtain ⟨a, w, b, c⟩ := ih y pv hy
    refine ⟨a, w, ?_, c⟩
    rw [List.zip_cons_cons, List.lookup_cons]
    have : (y == x) = false := by
      cases e : y == x with
      | false => rfl
      | true =>
        have := PySem.mem_of_lookup b
        rw [beq_iff_eq.mp e] at this
        exact absurd (List.of_mem_zip this).1 nd.1
    rw [this]; exact b
  | x :: pn, v :: vs, [], _, _, _, r => by cases r
  | x :: pn, [], _, _, _, hl, _ => by simp at hl

section
variable {W : Wd} {lv : Nat} {scope sc : Scope} {ρc : Names} {X : Fact} {name qual : Str} {params : Arguments} {body : List Stmt} {dV kV doc pm cdv ct : Value} {an : Option Addr} {fo : Obj} {f : Addr} {cl : List (Str × Addr)} {F : List Dat → Option Dat} {pn : List Str}
theorem ClR.mono {Y : Fact} {mu : Led} {ad : Str → Addr} {names : List (Str × NameKind)} (s : FSub X Y) (h : ClR W X [] [] ad names cl ρc) : ClR W Y mu [] ad names cl ρc := by
  intro x pv hx
  obtain ⟨a, b, c, o, v, d, e, e', g, i, j⟩ := h x pv hx
  refine ⟨a, b, c, o, v, d, s _ _ e, e', g, i.mono s (fun _ h => by cases h), fun ds hl => ?_⟩
  obtain ⟨h1, _⟩ := j ds hl
  cases h1
/-- a def that closes over data is a function on data -/
theorem callok_P (hf : X f fo) (hd : fo.data = .func (fnX name qual params body scope cl dV kV doc pm an cdv ct)) (hcd : CodeX X cdv qual) (hbind : ∀ vs : List Value, vs.length = pn.length → bindArgs (fnX name qual params body scope cl dV kV doc pm an cdv ct) ⟨vs, []⟩ = pure (pn.zip vs))
    (hsc : scP' scope = true) (hpn : (pn.all fun y => scope.names.lookup y == some .local) = true) (hnd : pn.Nodup) (hpl : ∀ x ∈ pn, PlainName x) (hcl : ClosOk scope.names cl) (hC : ClR W X [] [] (fun _ => 0) scope.names cl ρc) (hns : sc.names = scope.names) (hmo : sc.more = [])
    (hb : ∀ ds d, F ds = some d → ds.length = pn.length ∧ EXR W lv sc (zipD pn ds ++ ρc) body d) (hco : scope.isCoroutine = false := by rfl) (hgen : scope.isGenerator = false := by rfl) : CallOk W (lv + 1) X (.ref f) F := by
  refine ⟨f, fo, _, rfl, hf, hd, fun A h₀ fenv L m mu fz s vs ds d Q E hA hX S hr hF k => ?_⟩
  obtain ⟨hl, ρ', hb⟩ := hb ds d hF
  have hvl : vs.length = pn.length := by rw [hr.length, hl]
  refine call_P (ps := []) (ad := fun _ => 0) (sc := sc) hA S (hX _ _ hf) hd (hcd.mono hX) (BindsTo.of_eq (hbind vs hvl)) hsc (List.all_eq_true.mpr fun p hp => ?_) ?_ hcl (bindR_zip hpl hnd hvl hr) (ClR.mono hX hC) (fun _ h => by cases h) (fun _ h => by cases h) hns hmo hb Q (fun v fz' mu' ad' h' tk' s' S' r p _ _ => ?_) hco hgen
  · exact List.all_eq_true.mp hpn p.1 (List.of_mem_zip hp).1
  · rw [List.map_fst_zip (by (clear hb hl k hF hr S hX hA hgen hco hmo hns hC hcl hpl hnd hpn hsc hbind hcd hd hf; lia))]; exact hnd
  · have e := p.eq (by
      obtain ⟨_, ⟨gl, _, l⟩, _⟩ := S'
      have nd := l.nodup
      rw [List.map_append, List.nodup_append, List.map_append, List.nodup_append] at nd
      exact nd.2.1.1)
    subst e
    exact k v fz' h' tk' s' S' r
/-- a lambda is one -/
theorem callok_L {body : Expr} {ctv : Value} {c' : Addr} (hf : X f (kla_obj name qual params body scope cl pm c' ctv)) (hfn : W.base.get? f = none) (hcd : CodeX X (.ref c') qual) (hbind : ∀ vs : List Value, vs.length = pn.length → bindArgs (kla_fn name qual params body scope cl pm (.ref c') ctv) ⟨vs, []⟩ = pure (pn.zip vs))
    (hsc : scP' scope = true) (hpn : (pn.all fun y => scope.names.lookup y == some .local) = true) (hnd : pn.Nodup) (hpl : ∀ x ∈ pn, PlainName x) (hcl : ClosOk scope.names cl) (hC : ClR W X [] [] (fun _ => 0) scope.names cl ρc) (hns : sc.names = scope.names) (hmo : sc.more = [])
    (hb : ∀ ds d, F ds = some d → ds.length = pn.length ∧ EV W lv sc (zipD pn ds ++ ρc) body (.dat d)) (hco : scope.isCoroutine = false := by rfl) (hgen : scope.isGenerator = false := by rfl) : CallOk W (lv + 1) X (.ref f) F := by
  refine ⟨f, _, _, rfl, hf, rfl, fun A h₀ fenv L m mu fz s vs ds d Q E hA hX S hr hF k => ?_⟩
  obtain ⟨hl, hb⟩ := hb ds d hF
  have hvl : vs.length = pn.length := by rw [hr.length, hl]
  obtain ⟨outer, A₀, hfr, B⟩ := hA.fr
  have S0 := S
  obtain ⟨F₀, ⟨gl, hg, l⟩, bs⟩ := S
  have hsc0 := hsc
  simp only [scP', Bool.and_eq_true, beq_iff_eq, List.all_eq_true, Bool.or_eq_true] at hsc
  obtain ⟨hkind, hall⟩ := hsc
  have hfz : (f, kla_obj name qual params body scope cl pm c' ctv) ∈ fz := by
    rcases hX _ _ hf with h | h
    · rw [hfn] at h; cases h
    · exact h
  have hin : ((pn.zip vs).all fun y => scope.names.lookup y.1 == some .local) = true := List.all_eq_true.mpr fun p hp => List.all_eq_true.mp hpn p.1 (List.of_mem_zip hp).1
  refine wpAny_call (kla_code (K := W.K) B F₀ hA.K l.news hA.T hfr hA.hf hA.hk (List.mem_append_right _ (List.mem_append_right _ hfz)) ((hcd.mono hX).rec fun a o e => S0.has e) (by have := hA.dp; (clear hin hfz hall hkind hsc0 l hg bs F₀ S0 B hfr hvl hb hl k hF hr hX hA hgen hco hmo hns hC hcl hpl hnd hpn hbind hcd hfn hf; lia)) (hbind vs hvl) (fun y hy => by have := List.all_eq_true.mp hin y hy; simpa using this) (fun g L' h₁ FG F' N' B' Kg Tg => ?_) hco hgen hkind (fun x hx e => ?_))
  · have st : h₀.StaysIn g := FG.keep
    obtain ⟨A', E', fs⟩ := enterP (sc := sc) (qual := qual) (f := f) (cdv := .ref c') (ps := []) (ad := fun _ => 0) hsc0 hin (by rw [List.map_fst_zip (by (clear st Tg Kg B' N' F' FG hin hfz hall hkind hsc0 l hg bs F₀ S0 B hfr hb hl k hF hr hX hA hgen hco hmo hns hC hcl hpl hnd hpn hbind hcd hfn hf; lia))]; exact hnd) hcl (bindR_zip hpl hnd hvl hr) (ClR.mono hX hC) (fun _ h => by cases h) (fun _ h => by cases h) hns hmo hA hg l bs F' N' ⟨by rw [hfr]; exact B', by rw [hfr]; rfl⟩ st
    refine hb _ g _ L' _ _ fz _ _ _ _ A' E' fs.ss fs.full fun v fz' h' tk' s' S' R' => ?_
    exact SS.leave st bs S' fun S₂ => k v fz' h' tk' s' S₂ R'
  · obtain ⟨_, h1⟩ := hall x hx
    rw [e] at h1
    rcases h1 with (h1 | h1) | h1 <;> cases h1
end
end Mine
end
section
open PySem PySem.W PyProof.Rows
set_option linter.unusedVariables false
set_option maxRecDepth 100000
namespace Mine
open PySem.Calls PySem.Spec PySem.SeqAt

/-- y's cell turns no more -/
noncomputable def unslot (sc : Scope) (y : Str) : Scope := { sc with names := sc.names.map fun p => (p.1, if p.1 == y then .free else p.2) }
theorem unslot_lookup {sc : Scope} {y x : Str} : (unslot sc y).names.lookup x = (sc.names.lookup x).map fun k => if x == y then .free else k :=
  lookup_mapKind (g := fun n k => if n == y then .free else k)
theorem unslot_self {sc : Scope} {y : Str} {k : NameKind} (h : sc.names.lookup y = some k) : (unslot sc y).names.lookup y = some .free := by
  rw [unslot_lookup, h]; simp
theorem unslot_ne {sc : Scope} {y x : Str} (h : x ≠ y) : (unslot sc y).names.lookup x = sc.names.lookup x := by
  rw [unslot_lookup]
  have : (x == y) = false := beq_eq_false_iff_ne.mpr h
  rw [this]
  cases sc.names.lookup x <;> rfl
theorem EnvOk.unslot {env : Env} {sc : Scope} {y : Str} (hE : EnvOk env sc) (hk : sc.names.lookup y = some .cell) : EnvOk env (Mine.unslot sc y) := by
  refine ⟨hE.kind, hE.glob, hE.blt, fun n hn => ?_, fun n k hn hkk => ?_, hE.inj, hE.code, hE.qual, fun n hn => ?_⟩
  · by_cases e : n = y
    · subst e; rw [unslot_self hk] at hn; cases hn
    · rw [unslot_ne e] at hn; exact hE.gl n hn
  · by_cases e : n = y
    · subst e; exact hE.cells n _ hk (.inl rfl)
    · rw [unslot_ne e] at hn; exact hE.cells n k hn hkk
  · by_cases e : n = y
    · subst e; rw [unslot_self hk] at hn; cases hn
    · rw [unslot_ne e] at hn; exact hE.lc n hn

section
variable {W : Wd} {sc : Scope} {ps : List Str} {h₀ h h' : Heap} {L : Addr} {m : Str → Option Value} {loc own par fz fz' : Led} {env : Env} {ad : Str → Addr} {ρ ρ' : Names}
theorem FS.freezeCellV (F : FS W sc ps h₀ L m loc own par fz env ad ρ h) (hE : EnvOk env sc) {y : Str} {v : Value} (hl : Loads env L m (loc ++ ((own ++ par) ++ fz)) y v) (hk : sc.names.lookup y = some .cell) :
    ∃ loc' c o, env.cells.lookup y = some c ∧ o.data = .cell (some v) ∧ W.base.get? c = none ∧ FS W (unslot sc y) ps h₀ L m loc' own par ((c, o) :: fz) env ad ρ h ∧ Loads env L m (loc' ++ ((own ++ par) ++ (c, o) :: fz)) y v := by
  obtain ⟨hkind, _⟩ := hE.cells y _ hk (.inl rfl)
  -- its cell
  obtain ⟨c, o₁, v₁, hc, hm₁, _⟩ : ∃ c o v₀, env.cells.lookup y = some c ∧ (c, o) ∈ loc ∧ o.data = .cell v₀ := by
    rcases F.st y (.inr hk) with ⟨q, _⟩ | ⟨_, q⟩
    · rw [q] at hkind; rcases hkind with e | e <;> cases e
    · exact q
  obtain ⟨o, hm, hd⟩ : ∃ o, (c, o) ∈ loc ∧ o.data = .cell (some v) := by
    cases hl with
    | here _ b _ => rw [b] at hkind; rcases hkind with e | e <;> cases e
    | block a _ _ _ => rw [a] at hkind; rcases hkind with e | e <;> cases e
    | @cell c₂ o₂ _ _ b c' d =>
      rw [hc] at b; cases b
      have := nd_inj F.nd (List.mem_append_left _ hm₁) c'
      subst this
      exact ⟨_, hm₁, d⟩
  obtain ⟨s, t, e⟩ := List.append_of_mem hm
  subst e
  have hb : W.base.get? c = none := by
    obtain ⟨_, ⟨gl, _, l⟩, bs⟩ := F.ss
    have := (l.news (c, o) (List.mem_append_right _ (List.mem_append_left _ (List.mem_append_left _ hm)))).2.2
    cases q : W.base.get? c with
    | none => rfl
    | some o' => rw [bs _ _ q] at this; cases this
  have N : Sub ((s ++ (c, o) :: t) ++ ((own ++ par) ++ fz)) ((s ++ t) ++ ((own ++ par) ++ (c, o) :: fz)) := fun p hp => by
    simp only [List.mem_append, List.mem_cons] at hp ⊢
    rcases hp with (h | h | h) | (h | h) | h
    · exact .inl (.inl h)
    · exact .inr (.inr (.inl h))
    · exact .inl (.inr h)
    · exact .inr (.inl (.inl h))
    · exact .inr (.inl (.inr h))
    · exact .inr (.inr (.inr h))
  refine ⟨s ++ t, c, o, hc, hd, hb, ⟨(F.ss.perm ?_).freeze, F.nm.sup (Hs.sub .cons) (Sub.refl _) N, fun z ds hz => ?_, F.ij, fun z hz => ?_, F.pp⟩, hl.mono N⟩
  · have := List.perm_middle (a := (c, o)) (l₁ := s) (l₂ := t ++ (own ++ par))
    simpa using this
  · obtain ⟨a, b⟩ := F.ls z ds hz
    exact ⟨a.mono N, b.mono (Hs.sub .cons) (Sub.refl _)⟩
  · have hzy : z ≠ y := fun e => by
      subst e
      rw [unslot_self hk] at hz
      rcases hz with e | e <;> cases e
    rw [unslot_ne hzy] at hz
    have drop : ∀ a o', (a, o') ∈ s ++ (c, o) :: t → a ≠ c → (a, o') ∈ s ++ t := fun a o' hm hn => by
      rcases List.mem_append.mp hm with h | h
      · exact List.mem_append_left _ h
      · rcases List.mem_cons.mp h with h | h
        · exact absurd (Prod.mk.inj h).1 hn
        · exact List.mem_append_right _ h
    rcases F.st z hz with ⟨a, b | ⟨o', mm, b, b'⟩⟩ | ⟨a, c', o', v', b, b', b''⟩
    · exact .inl ⟨a, .inl b⟩
    · refine .inl ⟨a, .inr ⟨o', mm, drop _ _ b fun e => ?_, b'⟩⟩
      rw [e] at b
      have := nd_inj F.nd (List.mem_append_left _ b) (List.mem_append_left _ hm)
      subst this
      obtain ⟨es, ep, q, _⟩ := b'
      rw [hd] at q; cases q
    · exact .inr ⟨a, c', o', v', b, drop _ _ b' fun e => hzy (hE.inj z y c (e ▸ b) hc), b''⟩
theorem FS.freezeCell (F : FS W sc ps h₀ L m loc own par fz env ad ρ h) (hE : EnvOk env sc) {y : Str} {pv : PV} (hy : ρ.lookup y = some pv) (hk : sc.names.lookup y = some .cell) :
    ∃ loc' c o v, env.cells.lookup y = some c ∧ o.data = .cell (some v) ∧ PRep W (Hs W.base fz) (own ++ par) v pv ∧ (∀ ds, pv = .lst ds → v = .ref (ad y)) ∧ W.base.get? c = none ∧ FS W (unslot sc y) ps h₀ L m loc' own par ((c, o) :: fz) env ad ρ h := by
  obtain ⟨v, hl, hr, hlst⟩ : ∃ v, Loads env L m (loc ++ ((own ++ par) ++ fz)) y v ∧ PRep W (Hs W.base fz) (own ++ par) v pv ∧ ∀ ds, pv = .lst ds → v = .ref (ad y) := by
    cases pv with
    | lst ds => exact ⟨_, (F.ls y ds hy).1, (F.listAt hy).prep, fun _ _ => rfl⟩
    | dat d => obtain ⟨_, v, a, b⟩ := F.nm y _ hy; exact ⟨v, a, b, fun _ h => by cases h⟩
    | fn lf G => obtain ⟨_, v, a, b⟩ := F.nm y _ hy; exact ⟨v, a, b, fun _ h => by cases h⟩
  obtain ⟨loc', c, o, a, b, b', F', _⟩ := F.freezeCellV hE hl hk
  exact ⟨loc', c, o, v, a, b, hr, hlst, b', F'⟩
theorem FS.setName (F : FS W sc ps h₀ L m loc own par fz env ad ρ h) {x : Str} {v : Value} {pv : PV} (hl : Loads env L m (loc ++ ((own ++ par) ++ fz)) x v) (hp : PlainName x) (hr : PRep W (Hs W.base fz) (own ++ par) v pv) (hn : ∀ ds, pv ≠ .lst ds) :
    FS W sc ps h₀ L m loc own par fz env ad ((x, pv) :: ρ) h := by
  have lk : ∀ {z ds}, ((x, pv) :: ρ).lookup z = some (.lst ds) → ρ.lookup z = some (.lst ds) := fun {z ds} hz => by
    rw [List.lookup_cons] at hz
    split at hz
    · cases hz; exact absurd rfl (hn ds)
    · exact hz
  refine ⟨F.ss, fun z q hz => ?_, fun z ds hz => F.ls z ds (lk hz), fun y z ds es hy hz => F.ij y z ds es (lk hy) (lk hz), F.st, F.pp⟩
  rw [List.lookup_cons] at hz
  split at hz
  · rename_i e; cases hz; rw [beq_iff_eq.mp e]; exact ⟨hp, v, hl, hr⟩
  · exact F.nm z q hz
noncomputable def unslots (sc : Scope) : List Str → Scope
  | [] => sc
  | y :: ys => unslots (unslot sc y) ys
/-- cells captured -/
noncomputable def CapR (W : Wd) (X : Fact) (mu fz : Led) (env : Env) (ad : Str → Addr) (ρc : Names) : Prop :=
  ∀ y pv, (y, pv) ∈ ρc → ∃ c o v, env.cells.lookup y = some c ∧ (c, o) ∈ fz ∧ W.base.get? c = none ∧ o.data = .cell (some v) ∧ PRep W X mu v pv ∧ ∀ ds, pv = .lst ds → v = .ref (ad y)
theorem FS.freezeCells : ∀ (ρc : Names) {sc : Scope} {loc fz : Led}, FS W sc ps h₀ L m loc own par fz env ad ρ h → EnvOk env sc → (∀ p ∈ ρc, ρ.lookup p.1 = some p.2 ∧ sc.names.lookup p.1 = some .cell) → (ρc.map (·.1)).Nodup →
    ∃ loc' fz', Sub fz fz' ∧ FS W (unslots sc (ρc.map (·.1))) ps h₀ L m loc' own par fz' env ad ρ h ∧ EnvOk env (unslots sc (ρc.map (·.1))) ∧ CapR W (Hs W.base fz') (own ++ par) fz' env ad ρc
  | [], sc, loc, fz, F, hE, _, _ => ⟨loc, fz, Sub.refl _, F, hE, fun _ _ h => by cases h⟩
  | (y, pv) :: r, sc, loc, fz, F, hE, hρ, nd => by
    rw [List.map_cons, List.nodup_cons] at nd
    obtain ⟨h1, h2⟩ := hρ (y, pv) (.head _)
    obtain ⟨loc₁, c, o, v, e1, e2, e3, e4, e5, F₁⟩ := F.freezeCell hE h1 h2
    obtain ⟨loc₂, fz₂, s₂, F₂, hE₂, C₂⟩ := FS.freezeCells r F₁ (hE.unslot h2) (fun p hp => ⟨(hρ p (.tail _ hp)).1, by
      have hne : p.1 ≠ y := fun e => nd.1 (List.mem_map.mpr ⟨p, hp, e⟩)
      rw [unslot_ne hne]; exact (hρ p (.tail _ hp)).2⟩) nd.2
    refine ⟨loc₂, fz₂, Sub.trans .cons s₂, F₂, hE₂, fun z q hz => ?_⟩
    rcases List.mem_cons.mp hz with e | hz
    · cases e
      exact ⟨c, o, v, e1, s₂ _ (.head _), e5, e2, e3.mono (Hs.sub (Sub.trans .cons s₂)) (Sub.refl _), e4⟩
    · exact C₂ z q hz
theorem unslots_glob {x : Str} {k : NameKind} : ∀ {ys : List Str} {sc : Scope}, x ∉ ys → (unslots sc ys).names.lookup x = sc.names.lookup x
  | [], _, _ => rfl
  | y :: ys, sc, h => by
    rw [List.mem_cons] at h
    show (unslots (unslot sc y) ys).names.lookup x = _
    rw [unslots_glob (k := k) (fun q => h (.inr q)), unslot_ne fun e => h (.inl e)]
end
end Mine
end
section
open PySem PySem.W PyProof.Rows
set_option linter.unusedVariables false
set_option maxRecDepth 100000
namespace Mine
open PySem.Calls PySem.Spec PySem.SeqAt

/-- what is asked of a scope of an inner def or lambda, of what it captures -/
structure Inner (lsc : Scope) (ρc : Names) : Prop where
  sc : scP' lsc = true
  free : ∀ y, lsc.names.lookup y = some .free → y ∈ ρc.map (·.1)
  cap : ∀ p ∈ ρc, lsc.names.lookup p.1 = some .free
  nd : (ρc.map (·.1)).Nodup
  pl : ∀ p ∈ ρc, PlainName p.1
noncomputable def innerB (lsc : Scope) (keys : List Str) : Bool := scP' lsc && (lsc.names.all fun p => p.2 != .free || keys.contains p.1) && (keys.all fun y => lsc.names.lookup y == some .free) && (keys.all fun y => !(y == ("__debug__" : Str)) && !(y == ("__classdict__" : Str)))
theorem innerOk {lsc : Scope} {ρc : Names} {keys : List Str} (h : innerB lsc keys = true) (nd : keys.Nodup) (e : ρc.map (·.1) = keys) : Inner lsc ρc := by
  subst e
  simp only [innerB, Bool.and_eq_true, List.all_eq_true, beq_iff_eq, Bool.or_eq_true] at h
  obtain ⟨⟨⟨h1, h2⟩, h3⟩, h4⟩ := h
  refine ⟨h1, fun y hy => ?_, fun p hp => h3 p.1 (List.mem_map.mpr ⟨p, hp, rfl⟩), nd, fun p hp => ?_⟩
  · rcases h2 _ (PySem.mem_of_lookup hy) with q | q
    · cases q
    · simpa using q
  · obtain ⟨a, b⟩ := h4 p.1 (List.mem_map.mpr ⟨p, hp, rfl⟩)
    exact ⟨by simpa using a, by simpa using b⟩
/-- captured names as they stand -/
noncomputable def CapN (ρ : Names) (sc : Scope) : Names → Prop
  | [] => True
  | (x, pv) :: r => (ρ.lookup x = some pv ∧ sc.names.lookup x = some .cell) ∧ CapN ρ sc r
theorem CapN.all {ρ : Names} {sc : Scope} : ∀ {ρc : Names}, CapN ρ sc ρc → ∀ p ∈ ρc, ρ.lookup p.1 = some p.2 ∧ sc.names.lookup p.1 = some .cell
  | (x, pv) :: r, h, p, hp => by
    rcases List.mem_cons.mp hp with e | hp
    · cases e; exact h.1
    · exact CapN.all h.2 p hp
theorem plainAll {l : List Str} (h : (l.all fun y => !(y == ("__debug__" : Str)) && !(y == ("__classdict__" : Str))) = true) : ∀ y ∈ l, PlainName y := fun y hy => by
  have := List.all_eq_true.mp h y hy
  simp only [Bool.and_eq_true] at this
  exact ⟨by simpa using this.1, by simpa using this.2⟩
/-- what is asked of the tables -/
structure Tabs (W : Wd) (tabs : List (Addr × Addr × Str)) (t : Addr × Addr × Str) : Prop where
  gl : W.Gl = GlT tabs
  mem : t ∈ tabs
  nd : (tabs.map (·.2.1)).Nodup
  code : CodeHd W.base t.1 t.2.1
theorem capR_closed {W : Wd} {X : Fact} {mu fz : Led} {env : Env} {ad : Str → Addr} {ρc : Names} {lsc : Scope} (I : Inner lsc ρc) (hinj : ∀ x y c, env.cells.lookup x = some c → env.cells.lookup y = some c → x = y) (C : CapR W X mu fz env ad ρc) :
    closureFor lsc env = pure (closL env.cells lsc.names []) ∧ ClosOk lsc.names (closL env.cells lsc.names []) ∧ ∀ y, lsc.names.lookup y = some .free → ∃ c, env.cells.lookup y = some c := by
  have hc : ∀ y, lsc.names.lookup y = some .free → ∃ c, env.cells.lookup y = some c := fun y hy => by
    obtain ⟨p, hp, e⟩ := List.mem_map.mp (I.free y hy)
    obtain ⟨c, _, _, q, _⟩ := C p.1 p.2 hp
    exact ⟨c, by rw [← e]; exact q⟩
  have hmem : ∀ y, (y, NameKind.free) ∈ lsc.names → lsc.names.lookup y = some .free := fun y hy => by
    have := I.sc
    simp only [scP', Bool.and_eq_true, List.all_eq_true, beq_iff_eq] at this
    exact (this.2 _ hy).1
  refine ⟨closureFor_ok fun y hy => ?_, ⟨fun y hy => ?_, fun x y c hx hy => ?_⟩, hc⟩
  · obtain ⟨c, q⟩ := hc y (hmem y hy)
    rw [q]; rfl
  · obtain ⟨c, q⟩ := hc y hy
    rw [closL_at q _ _ (PySem.mem_of_lookup hy)]; rfl
  · exact hinj x y c (closL_of _ _ (fun _ _ h => by cases h) hx) (closL_of _ _ (fun _ _ h => by cases h) hy)
theorem capR_clR {W : Wd} {X : Fact} {mu fz : Led} {env : Env} {ad : Str → Addr} {ρc : Names} {lsc : Scope} (I : Inner lsc ρc) (hX : ∀ a o, (a, o) ∈ fz → X a o) (C : CapR W X mu fz env ad ρc) (hd : allDat ρc = true) :
    ClR W X [] [] (fun _ => 0) lsc.names (closL env.cells lsc.names []) ρc := by
  intro y pv hy
  have hm := PySem.mem_of_lookup hy
  obtain ⟨c, o, v, e1, e2, e3, e4, e5, e6⟩ := C y pv hm
  have hne : ∀ ds, pv ≠ .lst ds := fun ds q => by
    have := List.all_eq_true.mp hd _ hm
    subst q
    cases this
  refine ⟨I.pl _ hm, I.cap _ hm, c, o, v, closL_at e1 _ _ (PySem.mem_of_lookup (I.cap _ hm)), hX _ _ e2, e3, e4, ?_, fun ds q => absurd q (hne ds)⟩
  cases pv with
  | dat d => exact e5
  | fn lf G => exact e5
  | lst ds => exact absurd rfl (hne ds)
section
variable {W : Wd} {lv lf : Nat} {sc lsc lsc' : Scope} {ρ ρc : Names} {tabs : List (Addr × Addr × Str)} {t : Addr × Addr × Str} {x : Str} {px pos lpos : Pos} {params : Arguments} {F : List Dat → Option Dat} {pn : List Str} {q : Str} {rest : List Stmt} {d : Dat}
/-- the function of depth n-1 -/
noncomputable def below (F : Nat → List Dat → Option Dat) : Nat → List Dat → Option Dat
  | 0 => fun _ => none
  | n + 1 => F n
/-- def x(..): .. that captures names that turn no more, and itself -/
theorem exr_def {body : List Stmt} {ρ₁ : Names} (hT : Tabs W tabs t) (hcode : sc.more.lookup ("@code" : Str) = some (.int t.1)) (hqual : sc.more.lookup ("@qual" : Str) = some (.str q)) (hq : q ++ x = t.2.2)
    (I : ∀ pv, Inner lsc ((x, pv) :: ρ₁)) (hρ : ∀ p ∈ ρ₁, ρ.lookup p.1 = some p.2 ∧ sc.names.lookup p.1 = some .cell) (hd : allDat ρ₁ = true) (hx : sc.names.lookup x = some .cell) (hp : PlainName x)
    (hd0 : params.defaults = []) (hk0 : params.kw_defaults = []) (ha : ∀ env, annTrees params none env = []) (hbind : ∀ (vs : List Value) (cl : List (Str × Addr)) (doc pm cdv ctv : Value), vs.length = pn.length → bindArgs (fnX x t.2.2 params body lsc cl .none .none doc pm none cdv ctv) ⟨vs, []⟩ = pure (pn.zip vs))
    (hpn : (pn.all fun y => lsc.names.lookup y == some .local) = true) (hnd : pn.Nodup) (hpl : ∀ y ∈ pn, PlainName y) (hns : lsc'.names = lsc.names) (hmo : lsc'.more = []) (F : Nat → List Dat → Option Dat)
    (hb : ∀ n ds d, F n ds = some d → ds.length = pn.length ∧ EXR W n lsc' (zipD pn ds ++ ((x, .fn n (below F n)) :: ρ₁)) body d) (hco : lsc.isCoroutine = false) (hgen : lsc.isGenerator = false) (N : Nat)
    (k : EXR W lv (unslot (unslots sc (ρ₁.map (·.1))) x) ((x, .fn (N + 1) (F N)) :: ρ) rest d) : EXR W lv sc ρ (.FunctionDef x params body [] none [] lsc none x pos :: rest) d := by
  obtain ⟨ρ', k⟩ := k
  refine ⟨ρ', ?_⟩
  intro A h₀ L m loc own par fz env ad s Q E hA hE F₀ c
  have I0 := I (.dat .none)
  have nd1 := I0.nd
  rw [List.map_cons, List.nodup_cons] at nd1
  obtain ⟨loc₁, fz₁, s₁, F₁, hE₁, C₁⟩ := F₀.freezeCells ρ₁ hE hρ nd1.2
  have hxc : ∃ cx, env.cells.lookup x = some cx := Option.isSome_iff_exists.mp (hE.cells x _ hx (.inl rfl)).2
  obtain ⟨cx, hcx⟩ := hxc
  have hfree : ∀ y, lsc.names.lookup y = some .free → ∃ c, env.cells.lookup y = some c := fun y hy => by
    have := I0.free y hy
    rw [List.map_cons, List.mem_cons] at this
    rcases this with e | hm
    · rw [e]; exact ⟨cx, hcx⟩
    · obtain ⟨p, hp', e⟩ := List.mem_map.mp hm
      obtain ⟨c, _, _, q', _⟩ := C₁ p.1 p.2 hp'
      exact ⟨c, by rw [← e]; exact q'⟩
  have hmem : ∀ y, (y, NameKind.free) ∈ lsc.names → lsc.names.lookup y = some .free := fun y hy => by
    have := I0.sc
    simp only [scP', Bool.and_eq_true, List.all_eq_true, beq_iff_eq] at this
    exact (this.2 _ hy).1
  have hcl : closureFor lsc env = pure (closL env.cells lsc.names []) := closureFor_ok fun y hy => by
    obtain ⟨c, q'⟩ := hfree y (hmem y hy)
    rw [q']; rfl
  have hclos : ClosOk lsc.names (closL env.cells lsc.names []) := ⟨fun y hy => by
    obtain ⟨c, q'⟩ := hfree y hy
    rw [closL_at q' _ _ (PySem.mem_of_lookup hy)]; rfl, fun a b c ha' hb' => hE.inj a b c (closL_of _ _ (fun _ _ h => by cases h) ha') (closL_of _ _ (fun _ _ h => by cases h) hb')⟩
  have hqe : qualnameIn env x x = t.2.2 := by
    have hk := (hE.cells x _ hx (.inl rfl)).1
    unfold qualnameIn
    rw [if_neg (fun e => by
      have e : env.kindOf x = some .globalExplicit := by simpa using e
      rw [e] at hk; rcases hk with h | h <;> cases h), hE.qual q hqual]
    exact hq
  have hce : env.code = .ref t.1 := by have := hE.code _ hcode; simpa using this
  refine wpAny_execs_cons (nestDef_K hd0 hk0 (ha env) ?_)
  rw [hqe]
  refine make_def hA hT.gl hT.mem hT.nd hT.code F₁.ss hcl hE.glob hce fun f fz₂ h₂ tk₂ c' ctv doc pm s₂ S₂ hf hcx' => ?_
  have F₂ := F₁.grow s₂ S₂
  have hx₁ : (unslots sc (ρ₁.map (·.1))).names.lookup x = some .cell := by rw [unslots_glob (k := .cell) nd1.1]; exact hx
  refine store_ok hE₁ F₂.ss (F₂.st x (.inr hx₁)) fun m' loc' h₃ tk₃ S₃ st₃ => ?_
  have none0 : ∀ (X : Fact), X f (fnMade x t.2.2 params body lsc (closL env.cells lsc.names []) doc pm c' ctv) → CallOk W 0 X (.ref f) (fun _ => none) := fun X hX => ⟨f, _, _, rfl, hX, rfl, fun _ _ _ _ _ _ _ _ _ _ _ _ _ _ _ _ _ hF => by cases hF⟩
  have F₃ := F₂.moved (bs := [(x, .fn 0 fun _ => none)]) S₃ (st₃.moved (pv := .fn 0 fun _ => none) hp fun MU Y qq => none0 _ (qq _ _ (.inr hf))) rfl
  obtain ⟨loc₄, c₄, o₄, e1, e2, e3, F₄, hl₄⟩ := F₃.freezeCellV hE₁ (st₃.new _) hx₁
  have C₂ : CapR W (Hs W.base ((c₄, o₄) :: fz₂)) (own ++ par) ((c₄, o₄) :: fz₂) env ad ρ₁ := fun y pv hy => by
    obtain ⟨c, o, v, a1, a2, a3, a4, a5, a6⟩ := C₁ y pv hy
    exact ⟨c, o, v, a1, .tail _ (s₂ _ a2), a3, a4, a5.mono (Hs.sub (s₂.trans .cons)) (Sub.refl _), a6⟩
  have ok : ∀ n, CallOk W n (Hs W.base ((c₄, o₄) :: fz₂)) (.ref f) (below F n) := by
    intro n
    induction n with
    | zero => exact none0 _ (.inr (.tail _ hf))
    | succ n ih =>
      have I' := I (.fn n (below F n))
      have Cn : CapR W (Hs W.base ((c₄, o₄) :: fz₂)) (own ++ par) ((c₄, o₄) :: fz₂) env ad ((x, .fn n (below F n)) :: ρ₁) := fun y pv hy => by
        rcases List.mem_cons.mp hy with e | hy
        · cases e
          exact ⟨c₄, o₄, .ref f, e1, .head _, e3, e2, ih, fun _ h => by cases h⟩
        · exact C₂ y pv hy
      exact callok_P (lv := n) (F := F n) (.inr (.tail _ hf)) rfl (hcx'.mono (Hs.sub .cons)) (fun vs hv => hbind vs _ _ _ _ _ hv) I'.sc hpn hnd hpl hclos (capR_clR I' (fun a o h => .inr h) Cn (by simpa [allDat] using hd)) hns hmo (hb n) hco hgen
  have F₅ := F₄.setName (pv := .fn (N + 1) (F N)) hl₄ hp (ok (N + 1)) (fun _ h => by cases h)
  have hE₅ := hE₁.unslot hx₁
  refine k A h₀ L m' loc₄ own par _ env ad _ Q E hA hE₅ (F₅.sub fun y pv hy => ?_) fun fl m₆ loc₆ own₆ par₆ fz₆ ad₆ h₆ tk₆ s₆ x₆ f₆ p₆ a₆ l₆ => ?_
  · rw [List.lookup_cons] at hy ⊢
    cases e : y == x with
    | true => rw [e] at hy; exact hy
    | false =>
      rw [e] at hy
      show List.lookup y ((x, _) :: ρ) = _
      rw [List.lookup_cons, e]; exact hy
  · exact c fl m₆ loc₆ own₆ par₆ fz₆ ad₆ h₆ tk₆ (s₁.trans (s₂.trans (Sub.trans .cons s₆))) x₆ f₆ p₆ a₆ rfl
end
end Mine
end
section
open PySem PySem.W PyProof.Rows
set_option linter.unusedVariables false
set_option maxRecDepth 100000
namespace Mine
open PySem.Calls PySem.Spec PySem.SeqAt

section
variable {W : Wd} {lv : Nat} {sc : Scope} {ps : List Str} {ρ ρ' : Names}
/-- y[i] = e -/
theorem ex_setitem {y : Str} {py tp pos : Pos} {i e : Expr} {ds : List Dat} {d : Dat} {k : Nat} (h : EV W lv sc ρ e (.dat d)) (hy : ρ.lookup y = some (.lst ds)) (hi : EV W lv sc ρ i (.dat (.int k))) (hk : k < ds.length) (hz : ds.length ≤ 1048576)
    (hs : ∀ env, swapsWith e (some (.Subscript (.Name y py) i tp)) pos.line env = pure false := by intro _; rfl) :
    EX1 W lv sc ps ρ (.Assign [.Subscript (.Name y py) i tp] e pos) (.next ((y, .lst (ds.set k d)) :: ρ)) := by
  intro A h₀ L m loc own par fz env ad s Q E hA hE x c
  refine wpAny_Assign_Subscript (h A h₀ env L m _ fz env s _ E hA hE x.ss x.full fun v fz₁ h₁ t₁ s₁ S₁ R₁ => ?_) (hs env)
  have x₁ := x.grow s₁ S₁
  refine eval_name hE x₁.ss (x₁.loadsFull hy) (x₁.nm y _ hy).1 ?_
  refine hi A h₀ env L m _ fz₁ env _ _ E hA hE x₁.ss x₁.full fun w fz₂ h₂ t₂ s₂ S₂ R₂ => ?_
  have x₂ := x₁.grow s₂ S₂
  obtain ⟨u, rfl⟩ : ∃ u, w = .int k u := by
    have R₂ : Rep (Hs W.base fz₂) w (.int k) := R₂
    cases R₂; exact ⟨_, rfl⟩
  obtain ⟨vs, n, hm, hr⟩ := x₂.listAt hy
  have ho := x₂.ss.ofMu (List.mem_append_right loc hm)
  have hl : vs.length = ds.length := hr.length
  refine ki_setAt ho (Int.natCast_nonneg _) (by (clear ho hr hm R₂ x₂ S₂ s₂ x₁ R₁ S₁ s₁ c x hE hA hs hi hy h; lia)) (by rw [List.size_toArray]; (clear ho hr hm R₂ x₂ S₂ s₂ x₁ R₁ S₁ s₁ c x hE hA hs hz hi hy h; lia)) ?_
  have hup := (show IsL h₂ (ad y) vs.toArray n from ho).update (fun xs => xs.setIfInBounds k v)
  have ho₂ : (h₂.update (ad y) (Obj.mapSeq fun xs => xs.setIfInBounds k v)).get? (ad y) = some (listOf (vs.set k v).toArray n) := by
    rw [hup]; simp [PySem.W.listOf]
  have hr' : RepA (Hs W.base fz₂) (vs.set k v) (ds.set k d) := by
    refine RepA.of_get (by simp [hl]) fun j a b ha hb => ?_
    rw [List.getElem?_set] at ha hb
    split at ha
    · rename_i e
      subst e
      rw [if_pos rfl] at hb
      split at ha
      · split at hb
        · cases ha; cases hb; exact Rep.mono (Hs.sub s₂) R₁
        · rename_i q; exact absurd hk q
      · cases ha
    · rename_i e
      rw [if_neg e] at hb
      obtain ⟨b', hb', r⟩ := hr.get' ha
      rw [hb] at hb'; cases hb'; exact r
  obtain ⟨own', par', x₃, p₃⟩ := x₂.turn (ds' := ds.set k d) hy (fun b o hb e => (Heap.get?_update_other h₂ _ (Ne.symm hb)).trans e) ho₂ hr'
  exact c _ m loc own' par' fz₂ ad _ t₂ (s₁.trans s₂) x₃ rfl p₃ (fun _ _ => rfl) rfl
end
end Mine
end
section
open PySem PySem.W PyProof.Rows
set_option linter.unusedVariables false
set_option maxRecDepth 100000
namespace Mine
open PySem.Calls PySem.Spec PySem.SeqAt

section
variable {W : Wd} {lv : Nat} {scope sc : Scope} {ps : List Str} {ρ ρc : Names} {out : Out} {A : Around} {h₀ : Heap} {fenv : Env} {L : Addr} {m : Str → Option Value} {mu fz : Led} {s : Shared} {E : Value → Shared → Prop}
  {name qual : Str} {params : Arguments} {body : List Stmt} {dV kV doc pm cdv ct : Value} {an : Option Addr} {fo : Obj} {f : Addr} {vs : List Value} {kvs : List (Str × Value)} {binds : List (Str × Value)} {ad : Str → Addr} {cl : List (Str × Addr)}
theorem call_Ps (hA : AOk W (lv + 1) A h₀ fenv L) (S : SS W h₀ L m mu fz s.heap) (hf : Hs W.base fz f fo) (hd : fo.data = .func (fnX name qual params body scope cl dV kV doc pm an cdv ct))
    (hcd : CodeX (Hs W.base fz) cdv qual) (hbind : BindsTo s (fnX name qual params body scope cl dV kV doc pm an cdv ct) ⟨vs, kvs⟩ binds)
    (hsc : scP' scope = true) (hin : (binds.all fun y => scope.names.lookup y.1 == some .local) = true) (hbn : (binds.map (·.1)).Nodup) (hcl : ClosOk scope.names cl)
    (hB : BindR W (Hs W.base fz) mu ps ad binds ρ) (hC : ClR W (Hs W.base fz) mu ps ad scope.names cl ρc) (hpp : ∀ x ∈ ps, ∃ o, (ad x, o) ∈ mu) (hij : ∀ x ∈ ps, ∀ y ∈ ps, ad x = ad y → x = y) (hns : sc.names = scope.names) (hmo : sc.more = []) (hb : ∀ (A' : Around) (g : Heap) (L' : Addr) (m' : Str → Option Value) (env' : Env) (s' : Shared) (Q' : Flow → Shared → Prop) (E' : Value → Shared → Prop), AOk W lv A' g env' L' → EnvOk env' sc → env'.cells = cl → FS W sc ps g L' m' [] [] mu fz env' ad (ρ ++ ρc) s'.heap →
      (∀ fl m' loc' own' par' fz' ad' h' tk', Sub fz fz' → out.fs W sc ps g L' m' loc' own' par' fz' env' ad' h' → out.flow (Hs W.base fz') fl → Par ps ad mu par' → (∀ x ∈ ps, ad' x = ad x) → Q' fl { s' with heap := h', toks := tk' }) → wpAny (model W.prog W.w) A' (execs body env') Q' E' s') (Q : Value → Shared → Prop)
    (k : ∀ v fz' mu' (ad' : Str → Addr) h' tk', Sub fz fz' → SS W h₀ L m mu' fz' h' → RetR out (Hs W.base fz') v → Par ps ad mu mu' → (∀ x ∈ ps, ad' x = ad x) → (∀ x ∈ ps, ∀ ds, out.names.lookup x = some (.lst ds) → ListAt mu' (Hs W.base fz') (ad x) ds) → Q v { s with heap := h', toks := tk' })
    (hco : scope.isCoroutine = false := by rfl) (hgen : scope.isGenerator = false := by rfl) (hpl : out.plain = true := by rfl) :
    wpAny (model W.prog W.w) A (call (.ref f) vs kvs) Q E s := by
  obtain ⟨outer, A₀, hfr, B⟩ := hA.fr
  have S0 := S
  obtain ⟨F, ⟨gl, hg, l⟩, bs⟩ := S
  have hsc0 := hsc
  simp only [scP', Bool.and_eq_true, beq_iff_eq, List.all_eq_true, Bool.or_eq_true] at hsc
  obtain ⟨hkind, hall⟩ := hsc
  refine wpAny_call (callX_plain B F l.news hA.T.nolimit hfr hA.hf hA.hk (S0.has hf) hd (hcd.rec fun a o e => S0.has e) (by have := hA.dp; (clear hall hkind hsc0 l hg bs F S0 B hfr hpl hgen hco k hb hmo hns hij hpp hC hB hcl hbn hin hbind hcd hd hf hA; lia)) hbind (fun y hy => by have := List.all_eq_true.mp hin y hy; simpa using this) (fun g L' h₁ FG F' N' B' st hlt => ?_) (fun x hx e => ?_) hco hgen hkind)
  · obtain ⟨A', E', fs⟩ := enterP (qual := qual) (f := f) (cdv := cdv) hsc0 hin hbn hcl hB hC hpp hij hns hmo hA hg l bs F' N' ⟨by rw [hfr]; exact B', by rw [hfr]; rfl⟩ st
    refine hb _ g L' _ _ _ _ _ A' E' rfl fs fun fl m'' loc'' own'' par'' fz'' ad'' h'' tk'' s'' x'' f'' p'' a'' => ?_
    cases out with
    | esc _ => cases hpl
    | next ρ' =>
      cases f''
      have x'' : FS W sc ps g L' m'' loc'' own'' par'' fz'' _ ad'' ρ' h'' := x''
      refine SS.leave st bs x''.ss fun S₂ => k _ fz'' par'' ad'' h'' tk'' s'' S₂ rfl p'' a'' fun x hx ds hl => ?_
      have := (x''.ls x ds hl).2
      rw [if_pos hx, a'' x hx] at this
      exact this
    | ret d ρ' =>
      obtain ⟨v, rfl, rv⟩ := f''
      obtain ⟨sc₂, x''⟩ := x''
      refine SS.leave st bs x''.ss fun S₂ => k _ fz'' par'' ad'' h'' tk'' s'' S₂ rv p'' a'' fun x hx ds hl => ?_
      have := (x''.ls x ds hl).2
      rw [if_pos hx, a'' x hx] at this
      exact this
  · obtain ⟨_, h1⟩ := hall x hx
    rw [e] at h1
    rcases h1 with (h1 | h1) | h1 <;> cases h1
end
/-- a closure's function that turns the list at l -/
noncomputable def MutCall (W : Wd) (lv : Nat) (fz : Led) (f l : Addr) (G : List Dat → List Dat → List Dat → Prop) : Prop :=
  ∃ o fd, (f, o) ∈ fz ∧ o.data = .func fd ∧ ∀ (A : Around) (h₀ : Heap) (fenv : Env) (L : Addr) (m : Str → Option Value) (mu fz' : Led) (s : Shared) (vs : List Value) (args ds ds' : List Dat) (Q E : Value → Shared → Prop),
    AOk W lv A h₀ fenv L → Sub fz fz' → SS W h₀ L m mu fz' s.heap → ListAt mu (Hs W.base fz') l ds → RepA (Hs W.base fz') vs args → G args ds ds' →
    (∀ fz₂ mu₂ h₂ tk₂, Sub fz' fz₂ → SS W h₀ L m mu₂ fz₂ h₂ → Turned mu mu₂ (Hs W.base fz₂) l ds' → Q .none { s with heap := h₂, toks := tk₂ }) → wpAny (model W.prog W.w) A (call (.ref f) vs) Q E s
theorem MutCall.mono {W : Wd} {lv : Nat} {fz fz' : Led} {f l : Addr} {G : List Dat → List Dat → List Dat → Prop} (h : MutCall W lv fz f l G) (s : Sub fz fz') : MutCall W lv fz' f l G :=
  let ⟨o, fd, a, b, c⟩ := h; ⟨o, fd, s _ a, b, fun A h₀ fenv L m mu fz₂ s₁ vs args ds ds' Q E hA hs => c A h₀ fenv L m mu fz₂ s₁ vs args ds ds' Q E hA (s.trans hs)⟩
section
variable {W : Wd} {lv : Nat} {sc : Scope} {ps : List Str} {ρ ρ' : Names}
/-- x(..) alone on its row, x a function that turns the list of y -/
theorem mut_stmt {x y : Str} {np pos spos : Pos} {es : List Expr} {args ds ds' : List Dat} {lf : Nat} {f : Addr} {G : List Dat → List Dat → List Dat → Prop} {A : Around} {h₀ : Heap} {L : Addr} {m : Str → Option Value} {loc own par fz : Led} {env : Env} {ad : Str → Addr} {s : Shared} {Q : Flow → Shared → Prop} {E : Value → Shared → Prop}
    (hA : AOk W lv A h₀ env L) (hE : EnvOk env sc) (F : FS W sc ps h₀ L m loc own par fz env ad ρ s.heap) (hx : Loads env L m (loc ++ ((own ++ par) ++ fz)) x (.ref f)) (hp : PlainName x) (M : MutCall W lf fz f (ad y) G) (hl : lf ≤ lv) (hy : ρ.lookup y = some (.lst ds)) (h : EVs W lv sc ρ es (args.map .dat)) (hG : G args ds ds')
    (k : ∀ own' par' fz' h' tk', Sub fz fz' → FS W sc ps h₀ L m loc own' par' fz' env ad ((y, .lst ds') :: ρ) h' → Par ps ad par par' → Q .next { s with heap := h', toks := tk' }) :
    wpAny (model W.prog W.w) A (exec (.Expr (.Call (.Name x np) es [] pos) spos) env) Q E s := by
  refine wpAny_Expr_any ?_ (by show (env.scope.kind == .module && _) = false; rw [hE.kind]; rfl) rfl
  refine wpAny_Call_ofName (eval_name hE F.ss (by rw [List.append_assoc]; exact hx) hp ?_)
  obtain ⟨o, fd, hf, hd, hc⟩ := M
  refine Calls.callWith_function (o := o) (fd := fd) (evalArgs_ok h A h₀ env L m _ fz env s _ E hA hE F.ss F.full fun vs fz' h' t' s' S' R' => ?_)
  have F₁ := F.grow s' S'
  refine ⟨⟨S'.has (.inr (s' _ hf)), hd⟩, ?_⟩
  refine hc A h₀ env L m _ fz' _ vs args ds ds' _ _ (hA.less hl) s' S' ((F₁.listAt hy).mono (FSub.refl _) fun p hp => List.mem_append_right _ hp) R'.dats hG fun fz₂ mu₂ h₂ t₂ s₂ S₂ T₂ => ?_
  obtain ⟨own', par', F₂, P⟩ := F₁.turned s₂ hy S₂ T₂
  exact k own' par' fz₂ h₂ t₂ (s'.trans s₂) F₂ P
end
end Mine
end
section
open PySem PySem.W PyProof.Rows
set_option linter.unusedVariables false
set_option maxRecDepth 100000
namespace Mine
open PySem.Calls PySem.Spec PySem.SeqAt

theorem SS.useMu {W : Wd} {h₀ h : Heap} {L : Addr} {m : Str → Option Value} {mu fz : Led} (x : SS W h₀ L m mu fz h) : ∃ all : Led, News h₀ L h all ∧
    ∀ h' D o, Fr h₀ L h' m → News h₀ L h' ((D, o) :: all) → (∀ p ∈ all, p.1 < D) → SS W h₀ L m ((D, o) :: mu) fz h' := by
  obtain ⟨F, ⟨gl, g, l⟩, bs⟩ := x
  refine ⟨gl ++ (mu ++ fz), l.news, fun h' D o F' N' hD => ⟨F', ⟨gl, g, ?_⟩, bs⟩⟩
  have l' : Ld h₀ L h' ((D, o) :: (gl ++ (mu ++ fz))) := ⟨N', by
    rw [List.map_cons, List.nodup_cons]
    refine ⟨fun hm => ?_, l.nodup⟩
    obtain ⟨q, hq, e⟩ := List.mem_map.mp hm
    exact absurd (hD q hq) (by rw [e]; exact Nat.lt_irrefl _)⟩
  exact l'.perm List.perm_middle.symm
section
variable {W : Wd} {lv : Nat} {sc : Scope} {ρ : Names}
/-- [..] * k, a list that may turn -/
theorem ef_mul {l r : Expr} {pos : Pos} {ns : List Int} {x : Int} (h₁ : EV W lv sc ρ l (.dat (.list (ns.map .int)))) (h₂ : EV W lv sc ρ r (.dat (.int x))) (hlo : -(2 ^ 63 : Int) ≤ x) (hhi : x < 2 ^ 63) (hz : ns.length * x.toNat ≤ 2 ^ 24) :
    EF W lv sc ρ (.BinOp l .Mult r pos) ((List.replicate x.toNat ns).flatten.map .int) := by
  intro A h₀ fenv L m mu fz env s Q E hA hE S hN k
  refine wpAny_BinOp (h₁ A h₀ fenv L m mu fz env s _ _ hA hE S hN fun v₁ fz₁ h₁' t₁ s₁ S₁ R₁ => ?_)
  refine h₂ A h₀ fenv L m mu fz₁ env _ _ _ hA hE S₁ (hN.grow s₁) fun v₂ fz₂ h₂' t₂ s₂ S₂ R₂ => ?_
  have r1 : Rep (Hs W.base fz₂) v₁ (.list (ns.map .int)) := Rep.mono (Hs.sub s₂) R₁
  obtain ⟨u, rfl⟩ : ∃ u, v₂ = .int x u := by
    have R₂ : Rep (Hs W.base fz₂) v₂ (.int x) := R₂
    cases R₂; exact ⟨_, rfl⟩
  obtain ⟨a, vs, rfl, il, ra⟩ := r1.isList (SS.facts (s := { s with heap := h₂', toks := t₂ }) S₂)
  obtain ⟨all, N, back⟩ := S₂.useMu
  refine KM.mul S₂.fr N il ra.ints hlo hhi (by rw [ra.length, List.length_map]; exact hz) fun D h' F' N' hD hI _ _ _ _ _ => ?_
  exact k _ _ _ fz₂ h' _ (s₁.trans s₂) (back h' _ _ F' N' hD) (RepA.of_ints hI)
end
end Mine
end
section
open PySem PySem.W PyProof.Rows
set_option linter.unusedVariables false
set_option maxRecDepth 100000
namespace Mine
open PySem.Calls PySem.Spec PySem.SeqAt

/-- an element: a datum, or a fresh list -/
noncomputable def EL (W : Wd) (lv : Nat) (sc : Scope) (ρ : Names) (e : Expr) : PV → Prop
  | .dat d => EV W lv sc ρ e (.dat d)
  | .lst ds => EF W lv sc ρ e ds
  | .fn _ _ => False
/-- what an element's value is -/
noncomputable def ElV (own : Led) (X : Fact) (v : Value) : PV → Prop
  | .dat d => Rep X v d
  | .lst ds => ∃ l vs n, v = .ref l ∧ (l, listOf (List.toArray vs) n) ∈ own ∧ RepA X vs ds
  | .fn _ _ => False
noncomputable def elAd (v : Value) (pv : PV) (x : Str) (ad : Str → Addr) : Str → Addr :=
  match pv, v with
  | .lst _, .ref l => fun y => if y = x then l else ad y
  | _, _ => ad
section
variable {W : Wd} {lv : Nat} {sc : Scope} {ps : List Str} {ρ ρ' : Names} {h₀ h h' : Heap} {L : Addr} {m : Str → Option Value} {loc own par fz fz' : Led} {env : Env} {ad : Str → Addr}
theorem ElV.mono {own' : Led} {X Y : Fact} {v : Value} {pv : PV} (s : FSub X Y) (u : Sub own own') (h : ElV own X v pv) : ElV own' Y v pv := by
  cases pv with
  | dat d => exact Rep.mono s h
  | lst ds => obtain ⟨l, vs, n, a, b, c⟩ := h; exact ⟨l, vs, n, a, u _ b, c.mono s⟩
  | fn _ _ => exact h
/-- the list of an element is none of the names' -/
noncomputable def ElN (ρ : Names) (ad : Str → Addr) (v : Value) : PV → Prop
  | .lst _ => ∀ y es, ρ.lookup y = some (.lst es) → v ≠ .ref (ad y)
  | _ => True
theorem el_ok {A : Around} {s : Shared} {e : Expr} {pv : PV} {Q E : Value → Shared → Prop} (h : EL W lv sc ρ e pv) (hA : AOk W lv A h₀ env L) (hE : EnvOk env sc) (F : FS W sc ps h₀ L m loc own par fz env ad ρ s.heap)
    (k : ∀ v own' fz' h' tk', Sub fz fz' → Sub own own' → FS W sc ps h₀ L m loc own' par fz' env ad ρ h' → ElV own' (Hs W.base fz') v pv → ElN ρ ad v pv → (∀ l ds, pv = .lst ds → v = .ref l → ∀ p ∈ own, p.1 ≠ l) → Q v { s with heap := h', toks := tk' }) :
    wpAny (model W.prog W.w) A (eval e env) Q E s := by
  cases pv with
  | dat d =>
    exact h A h₀ env L m _ fz env s _ E hA hE F.ss F.full fun v fz' h' t' s' S' R' => k v own fz' h' t' s' (Sub.refl _) (F.grow s' S') R' trivial (fun _ _ h => by cases h)
  | lst ds =>
    refine h A h₀ env L m _ fz env s _ E hA hE F.ss F.full fun l vs n fz' h' t' s' S' r => ?_
    have F₁ := F.grow s' (S'.sublist (List.sublist_cons_self _ _))
    refine k _ _ fz' h' t' s' .cons (F₁.withOwn S') ⟨l, vs, n, rfl, .head _, r⟩ (fun y es hy q => F₁.adNe S' hy (by cases q; rfl)) fun l' _ _ q p hp e => ?_
    cases q
    have nd := S'.nodupMu
    rw [List.map_cons, List.nodup_cons] at nd
    exact nd.1 (List.mem_map.mpr ⟨p, List.mem_append_right _ (List.mem_append_left _ hp), e⟩)
  | fn _ _ => exact h.elim
/-- an element is stored -/
theorem el_store {A : Around} {s : Shared} {x : Str} {v : Value} {pv : PV} {Q : Unit → Shared → Prop} {E : Value → Shared → Prop} {M : Model} (hE : EnvOk env sc) (F : FS W sc ps h₀ L m loc own par fz env ad ρ s.heap) (hv : ElV own (Hs W.base fz) v pv) (hn : ElN ρ ad v pv) (hx : slot sc x) (hp : PlainName x) (hps : x ∉ ps)
    (k : ∀ m' loc' h' tk', FS W sc ps h₀ L m' loc' own par fz env (elAd v pv x ad) ((x, pv) :: ρ) h' → Q () { s with heap := h', toks := tk' }) : wpAny M A (storeName env x v) Q E s := by
  refine store_ok hE F.ss (F.st x hx) fun m' loc' h₂ tk₂ S₂ st₂ => ?_
  cases pv with
  | dat d => exact k m' loc' h₂ tk₂ (F.moved (bs := [(x, .dat d)]) S₂ (st₂.moved (pv := .dat d) hp fun MU Y q => Rep.mono q hv) rfl)
  | lst ds =>
    obtain ⟨l, vs, n, rfl, hm, hr⟩ := hv
    exact k m' loc' h₂ tk₂ (F.bindLst S₂ st₂ hp hps hm hr fun y es hy _ q => hn y es hy (by rw [q]))
  | fn _ _ => exact hv.elim
end
section
variable {W : Wd} {lv : Nat} {sc : Scope} {ps : List Str} {ρ ρ' : Names}
/-- x, y = e, f, both of the function's own names, on one row -/
theorem ex_swap2 {x y : Str} {px py : Pos} {kd kd' : Nat} {tp pos vp : Pos} {e f : Expr} {p q : PV} (h : EL W lv sc ρ e p) (h' : EL W lv sc ρ f q) (hn : nStar e = true) (hn' : nStar f = true) (hx : sc.names.lookup x = some .local) (hp : PlainName x) (hy : sc.names.lookup y = some .local) (hq : PlainName y) (hxy : x ≠ y) (hxs : x ∉ ps) (hys : y ∉ ps)
    (hs : ∀ env, swapsWithSole [.Tuple [.Name x px, .Name y py] kd tp] (.Tuple [e, f] kd' vp) pos.line env = pure false := by intro _; rfl)
    (hw : ∀ env : Env, env.scope.kind = .function → env.kindOf x = some .local → env.kindOf y = some .local → swappedStores [.Tuple [.Name x px, .Name y py] kd tp] (.Tuple [e, f] kd' vp) env = pure (some [x, y])) :
    EX1 W lv sc ps ρ (.Assign [.Tuple [.Name x px, .Name y py] kd tp] (.Tuple [e, f] kd' vp) pos) (.next ((x, p) :: (y, q) :: ρ)) := by
  intro A h₀ L m loc own par fz env ad s Q E hA hE F c
  refine Assign_Tuple_swapped (names := [x, y]) (wpAny_Tuple ?_) (hs env) (hw env hE.kind (hE.lc x hx) (hE.lc y hy))
  rw [starEach_cons hn, backTo_cons, starEach_cons hn', backTo_cons]
  refine Calls.spliced_cons (el_ok h hA hE F fun v own₁ fz₁ h₁ t₁ s₁ u₁ F₁ e₁ n₁ _ => ?_)
  refine Calls.spliced_cons (el_ok h' hA hE F₁ fun w own₂ fz₂ h₂ t₂ s₂ u₂ F₂ e₂ n₂ d₂ => ?_)
  refine Calls.spliced_nil ⟨by rw [sizeLine_eq]; simp, ?_⟩
  have S₃ := F₂.ss.push { cls := .type "tuple", data := .seq [v, w].toArray }
  have F₃ := F₂.grow .cons S₃
  refine wpAny_unpackItems_tuple (items := [v, w].toArray) hA.hh ⟨_, Heap.get?_push_size _ rfl, rfl, _, rfl⟩ fun h₄ k₄ => ?_
  have F₄ := F₃.grow (Sub.refl _) (S₃.grown fun b o e => k₄ b o (Nat.ne_of_lt (Heap.lt_size e)) e)
  show wpAny _ A (assignInOrder [bindName env y, bindName env x] [w, v]) _ _ _
  refine wpAny_bind (wpAny_holding (wpAny_bindName (el_store hE F₄ (e₂.mono (Hs.sub .cons) (Sub.refl _)) n₂ (.inl hy) hq hys fun m₅ loc₅ h₅ tk₅ F₅ => ?_)))
  have adne : ∀ (v : Value) (pv : PV) (x z : Str) (ad : Str → Addr), z ≠ x → elAd v pv x ad z = ad z := by
    intro v pv x z ad hz
    unfold elAd
    split
    · exact if_neg hz
    · rfl
  have n₁' : ElN ((y, q) :: ρ) (elAd w q y ad) v p := by
    cases p with
    | dat d => trivial
    | fn _ _ => trivial
    | lst ds =>
      intro z es hz
      rcases look_cons hz with ⟨rfl, e⟩ | ⟨hne, hz⟩
      · subst e
        obtain ⟨l₁, vs₁, k₁, rfl, a₁, _⟩ := e₁
        obtain ⟨l₂, vs₂, k₂, rfl, a₂, _⟩ := e₂
        intro q'
        have q' : l₁ = (if z = z then l₂ else ad z) := by cases q'; rfl
        rw [if_pos rfl] at q'
        exact d₂ l₂ es rfl rfl _ a₁ q'
      · rw [adne _ _ _ _ _ hne]
        exact n₁ z es hz
  refine wpAny_bind (wpAny_holding (wpAny_bindName (el_store hE F₅ (e₁.mono (Hs.sub (s₂.trans .cons)) u₂) n₁' (.inl hx) hp hxs fun m₆ loc₆ h₆ tk₆ F₆ => ?_)))
  refine wpAny_pure (c _ m₆ loc₆ own₂ par _ _ h₆ tk₆ (s₁.trans (s₂.trans .cons)) F₆ rfl (Par.refl _ _ _) (fun z hz => ?_) rfl)
  rw [adne _ _ _ _ _ fun e : z = x => hxs (e ▸ hz), adne _ _ _ _ _ fun e : z = y => hys (e ▸ hz)]
end
end Mine
end
section
open PySem PySem.W PyProof.Rows
set_option linter.unusedVariables false
set_option maxRecDepth 100000
namespace Mine
open PySem.Calls PySem.Spec PySem.SeqAt

section
variable {W : Wd} {lv : Nat} {sc scope : Scope} {ps : List Str} {ρ ρ' : Names} {elt t iter : Expr} {ifs : List Expr} {gs : List Comprehension} {cpos : Pos} {items : List Dat} {f : Dat → List Dat}
/-- x = [.. for ..], on either road -/
theorem ex_assign_comp {x : Str} {px pos : Pos} (hsc : compSc sc scope = true) (hρ : SubF scope.names ρ ρ') (hfree : FreeAll ρ scope.names = true) (htg : tgtOk scope (⟨t, iter, ifs, 0⟩ :: gs)) (hdis : ∀ x ∈ tn t, ρ'.lookup x = none)
    (hset : ∀ x env, foldedSetIterable iter env x = pure x) (hi : EI id W lv sc ρ iter items) (hf : CTop W lv scope elt t ifs gs ρ' items f) (hz : (items.flatMap f).length ≤ 1048576) (hx : slot sc x) (hp : PlainName x) :
    EX1 W lv sc ps ρ (.Assign [.Name x px] (.ListComp elt (⟨t, iter, ifs, 0⟩ :: gs) scope cpos) pos) (.next ((x, .dat (.list (items.flatMap f))) :: ρ)) := by
  intro A h₀ L m loc own par fz env ad s Q E hA hE F c
  obtain ⟨b, hsw⟩ : ∃ b, swapsWith (.ListComp elt (⟨t, iter, ifs, 0⟩ :: gs) scope cpos) (some (.Name x px)) pos.line env = pure b := ⟨_, rfl⟩
  cases b with
  | false =>
    refine wpAny_Assign_Name ((ef_comp hsc hρ hfree htg hdis hset hi hf hz).ev A h₀ env L m _ fz env s _ E hA hE F.ss F.full fun v fz' h' t' s' S' R' => ?_) hsw
    have F₁ := F.grow s' S'
    refine store_ok hE F₁.ss (F₁.st x hx) fun m' loc' h₂ tk₂ S₂ st₂ => ?_
    exact c _ m' loc' own par fz' ad h₂ tk₂ s' (F₁.moved (bs := [(x, .dat (.list (items.flatMap f)))]) S₂ (st₂.moved (pv := .dat (.list (items.flatMap f))) hp fun MU Y q => Rep.mono q R') rfl) rfl (Par.refl _ _ _) (fun _ _ => rfl) rfl
  | true =>
    have hsc' := hsc
    simp only [compSc, Bool.and_eq_true, beq_iff_eq, List.all_eq_true] at hsc'
    obtain ⟨⟨⟨hkind, hmore⟩, hdot⟩, hall⟩ := hsc'
    have hclos : closureFor scope env = pure (closL env.cells scope.names []) :=
      (comp_env (M := model W.prog W.w) (A := A) (E := E) (s := { s with heap := s.heap.push blockO }) (its := []) (Q := fun _ _ => True) hsc hρ hfree hE (F.ss.pushMu blockO) F.full fun _ _ _ _ _ _ => trivial).1
    rw [exec_Assign_Name_used _ _ _ _ hsw]
    refine wpAny_bind (wpAny_standAt (wpAny_bind ?_))
    show wpAny _ A (do let _ ← comprehension (.ListComp elt (⟨t, iter, ifs, 0⟩ :: gs) scope cpos) scope env _ (newList []) false (eval iter env) (some (assign (.Name x px) env))) _ _ s
    refine wpAny_bind (wpAny_mono (wpAny_comprehension_free (use := some (assign (.Name x px) env)) (Q := fun _ s' => Q .next s') rfl (fun x => hset x env) hclos hkind (fun x hx hl => by rw [← hl]; exact (hall x hx).1) ?_) (fun _ s' hq => wpAny_pure (wpAny_pure hq)) fun _ _ e => e)
    refine hi A h₀ env L m _ fz env s _ E hA hE F.ss F.full fun I St o fz₁ h₁ tk₁ s₁ S₁ sr st => ?_
    refine (comp_core (pos := cpos) (iter := iter) hsc hρ hfree htg hdis hf hz A h₀ env L m _ fz₁ env _ E (fun acc C => compPost (model W.prog W.w) A E (some (assign (.Name x px) env)) (fun _ s' => Q .next s') acc C) I o St hA hE S₁ ((NamesOk.grow s₁ F.full)) sr st
      fun D C oC vs n fz₂ h₂ tk₂ s₂ S₂ hn r₂ => ?_).2
    obtain ⟨mm, hn⟩ := hn
    have S₃ : SS W h₀ L m ((C, oC) :: (loc ++ (own ++ par))) ((D, listOf vs.toArray n) :: fz₂) h₂ := (S₂.perm (List.Perm.swap _ _ _)).freeze
    have S₄ : SS W h₀ L m (loc ++ (C, oC) :: (own ++ par)) ((D, listOf vs.toArray n) :: fz₂) h₂ := S₃.perm List.perm_middle.symm
    have F₂ := F.grow (s₁.trans (s₂.trans .cons)) (S₃.sublist (List.sublist_cons_self _ _))
    show wpAny _ A (assign (.Name x px) env (.ref D)) _ _ _
    refine wpAny_assign_Name (store_ok hE S₄ (F₂.st x hx) fun m' loc' h₅ tk₅ S₅ st₅ => ?_)
    refine ⟨mm, hn.ns (S₅.ofMu (List.mem_append_right _ (.head _))), fun h₆ hs₆ => ?_⟩
    have S₆ : SS W h₀ L m' (loc' ++ (own ++ par)) ((D, listOf vs.toArray n) :: fz₂) h₆ := (S₅.perm List.perm_middle).drop fun b o hb e => hs₆.extBut b o hb e
    have R : Rep (Hs W.base ((D, listOf vs.toArray n) :: fz₂)) (.ref D) (.list (items.flatMap f)) := .list (.inr (.head _)) rfl rfl (r₂.mono (Hs.sub .cons))
    exact c _ m' loc' own par _ ad h₆ tk₅ (s₁.trans (s₂.trans .cons)) (F₂.moved (bs := [(x, .dat (.list (items.flatMap f)))]) S₆ (st₅.moved (pv := .dat (.list (items.flatMap f))) hp fun MU Y q => Rep.mono q R) rfl) rfl (Par.refl _ _ _) (fun _ _ => rfl) rfl
end
end Mine
end
section
open PySem PySem.W PyProof.Rows
set_option linter.unusedVariables false
set_option maxRecDepth 100000
namespace Mine

theorem pick_map {α β : Type} (f : α → β) (l : List α) (lo hi st : Option Int) : pick (l.map f) lo hi st = (pick l lo hi st).map f := by
  unfold pick
  rw [List.length_map, List.map_filterMap]
  congr 1
  funext i
  simp
/-- what is so of indices is so of all -/
theorem pick_of {α : Type} (l : List α) (lo hi st : Option Int) (g : List Nat) (h : slicePick ((List.range l.length).map fun i => Value.int (i : Nat) 0).toArray lo hi st = (g.map fun i => Value.int (i : Nat) 0).toArray) : pick l lo hi st = g.filterMap (l[·]?) := by
  have e : pick (List.range l.length) lo hi st = g := by
    have h1 : (slicePick ((List.range l.length).map fun i => Value.int (i : Nat) 0).toArray lo hi st).toList = pick ((List.range l.length).map fun i => Value.int (i : Nat) 0) lo hi st := by
      unfold slicePick pick
      simp
    rw [h, pick_map] at h1
    have inj : ∀ {a b : List Nat}, (a.map fun i => Value.int (i : Nat) 0) = (b.map fun i => Value.int (i : Nat) 0) → a = b := by
      intro a b hab
      refine List.map_inj_right (f := fun i : Nat => Value.int (i : Nat) 0) (fun x y hxy => ?_) |>.mp hab
      have : ((x : Nat) : Int) = (y : Nat) := by injection hxy
      exact Int.ofNat_inj.mp this
    exact (inj (by simpa using h1)).symm
  have : pick l lo hi st = (pick (List.range l.length) lo hi st).filterMap (l[·]?) := by
    unfold pick
    rw [List.length_range, List.filterMap_filterMap]
    congr 1
    funext i
    by_cases hi : i < l.length
    · simp [hi]
    · simp [hi]
  rw [this, e]
theorem fm_range {α : Type} (l : List α) : ∀ k, (List.range k).filterMap (l[·]?) = l.take k
  | 0 => by simp
  | k + 1 => by
    rw [List.range_succ, List.filterMap_append, fm_range l k, List.take_add_one]
    cases h : l[k]? <;> simp [h]
theorem pick_upto {α : Type} (l : List α) (b : Nat) : pick l none (some b) none = l.take b := by
  rw [pick_of l none (some b) none ((List.range l.length).take b) (by rw [slicePick_upto', List.map_take])]
  rw [List.take_range, fm_range]
  rw [List.take_eq_take_iff]; lia
end Mine
end
section
open PySem PySem.W PyProof.Rows
set_option linter.unusedVariables false
set_option maxRecDepth 100000
namespace Mine
open PySem.Calls PySem.Spec PySem.SeqAt

/-- statements in a frame where x is a function that turns the list y -/
noncomputable def EXm (W : Wd) (lv : Nat) (sc : Scope) (ps : List Str) (ρ : Names) (x y : Str) (lf : Nat) (G : List Dat → List Dat → List Dat → Prop) (t : Env → Sem Flow) (out : Out) : Prop :=
  ∀ (A : Around) (h₀ : Heap) (L : Addr) (m : Str → Option Value) (loc own par fz : Led) (env : Env) (ad : Str → Addr) (s : Shared) (Q : Flow → Shared → Prop) (E : Value → Shared → Prop) (f c : Addr) (o : Obj),
    AOk W lv A h₀ env L → EnvOk env sc → FS W sc ps h₀ L m loc own par fz env ad ρ s.heap → env.cells.lookup x = some c → (c, o) ∈ fz → o.data = .cell (some (.ref f)) → MutCall W lf fz f (ad y) G →
    (∀ fl m' loc' own' par' fz' ad' h' tk', Sub fz fz' → out.fs W sc ps h₀ L m' loc' own' par' fz' env ad' h' → out.flow (Hs W.base fz') fl → Par ps ad par par' → (∀ x ∈ ps, ad' x = ad x) → Q fl { s with heap := h', toks := tk' }) →
    wpAny (model W.prog W.w) A (t env) Q E s
section
variable {W : Wd} {lv lf : Nat} {sc : Scope} {ps : List Str} {ρ ρ' : Names} {x y : Str} {G : List Dat → List Dat → List Dat → Prop}
theorem exm_of {t : Env → Sem Flow} {out : Out} (h : EX W lv sc ps ρ t out) : EXm W lv sc ps ρ x y lf G t out := by
  intro A h₀ L m loc own par fz env ad s Q E f c o hA hE F hc ho hd M k
  exact h A h₀ L m loc own par fz env ad s Q E hA hE F fun fl m₁ loc₁ own₁ par₁ fz₁ ad₁ h₁ t₁ s₁ x₁ f₁ p₁ a₁ l₁ => k fl m₁ loc₁ own₁ par₁ fz₁ ad₁ h₁ t₁ s₁ x₁ f₁ p₁ a₁
theorem exm_seq {st : Stmt} {rest : List Stmt} {out : Out} (hy : y ∈ ps) (h : EX1 W lv sc ps ρ st (.next ρ')) (k : EXm W lv sc ps ρ' x y lf G (execs rest) out) : EXm W lv sc ps ρ x y lf G (execs (st :: rest)) out := by
  intro A h₀ L m loc own par fz env ad s Q E f c o hA hE F hc ho hd M k'
  refine wpAny_execs_cons (h A h₀ L m loc own par fz env ad s _ E hA hE F fun fl m₁ loc₁ own₁ par₁ fz₁ ad₁ h₁ t₁ s₁ x₁ f₁ p₁ a₁ l₁ => ?_)
  cases f₁
  exact k A h₀ L m₁ loc₁ own₁ par₁ fz₁ env ad₁ _ Q E f c o hA hE x₁ hc (s₁ _ ho) hd (by rw [a₁ y hy]; exact M.mono s₁) fun fl m₂ loc₂ own₂ par₂ fz₂ ad₂ h₂ t₂ s₂ x₂ f₂ p₂ a₂ =>
    k' fl m₂ loc₂ own₂ par₂ fz₂ ad₂ h₂ t₂ (s₁.trans s₂) x₂ f₂ (p₁.trans p₂ a₁) (fun y hy => (a₂ y hy).trans (a₁ y hy))
theorem exm_call {np pos spos : Pos} {es : List Expr} {args ds ds' : List Dat} {rest : List Stmt} {out : Out} (hx : sc.names.lookup x = some .free) (hp : PlainName x) (hl : lf ≤ lv) (hy : ρ.lookup y = some (.lst ds)) (h : EVs W lv sc ρ es (args.map .dat)) (hG : G args ds ds')
    (k : EXm W lv sc ps ((y, .lst ds') :: ρ) x y lf G (execs rest) out) : EXm W lv sc ps ρ x y lf G (execs (.Expr (.Call (.Name x np) es [] pos) spos :: rest)) out := by
  intro A h₀ L m loc own par fz env ad s Q E f c o hA hE F hc ho hd M k'
  refine wpAny_execs_cons (mut_stmt hA hE F (.cell (hE.cells x _ hx (.inr rfl)).1 hc (List.mem_append_right _ (List.mem_append_right _ ho)) hd) hp M hl hy h hG fun own' par' fz' h' tk' s' F' P' => ?_)
  exact k A h₀ L m loc own' par' fz' env ad _ Q E f c o hA hE F' hc (s' _ ho) hd (M.mono s') fun fl m₂ loc₂ own₂ par₂ fz₂ ad₂ h₂ t₂ s₂ x₂ f₂ p₂ a₂ =>
    k' fl m₂ loc₂ own₂ par₂ fz₂ ad₂ h₂ t₂ (s'.trans s₂) x₂ f₂ (P'.trans p₂ fun _ _ => rfl) a₂
theorem exm_ift {t : Expr} {body orelse rest : List Stmt} {pos : Pos} {d : Dat} (h : ET W lv sc ρ t true) (k : EXS W lv sc ps ρ body (.ret d ρ')) : EXm W lv sc ps ρ x y lf G (execs (.If t body orelse pos :: rest)) (.ret d ρ') :=
  exm_of (ex_ret (ex_if h (fun _ => k) (fun q => by cases q)))
theorem exm_iff {t : Expr} {body rest : List Stmt} {pos : Pos} {out : Out} (h : ET W lv sc ρ t false) (k : EXm W lv sc ps ρ x y lf G (execs rest) out) : EXm W lv sc ps ρ x y lf G (execs (.If t body [] pos :: rest)) out := by
  intro A h₀ L m loc own par fz env ad s Q E f c o hA hE F hc ho hd M k'
  refine wpAny_execs_cons (wpAny_If (h A h₀ env L m _ fz env s _ E hA hE F.ss F.full fun fz' h' t' s' S' => ?_))
  refine wpAny_execs_nil ?_
  exact k A h₀ L m loc own par fz' env ad _ Q E f c o hA hE (F.grow s' S') hc (s' _ ho) hd (M.mono s') fun fl m₂ loc₂ own₂ par₂ fz₂ ad₂ h₂ t₂ s₂ => k' fl m₂ loc₂ own₂ par₂ fz₂ ad₂ h₂ t₂ (s'.trans s₂)
theorem exm_if_call {t : Expr} {np pos cpos spos : Pos} {es : List Expr} {args ds ds' : List Dat} {rest : List Stmt} {out : Out} {b : Bool} (ht : ET W lv sc ρ t b) (hx : sc.names.lookup x = some .free) (hp : PlainName x) (hl : lf ≤ lv) (hy : ρ.lookup y = some (.lst ds))
    (h : b = true → EVs W lv sc ρ es (args.map .dat)) (hG : b = true → G args ds ds') (k : b = true → EXS W lv sc ps ((y, .lst ds') :: ρ) rest out) (k₀ : b = false → EXS W lv sc ps ρ rest out) :
    EXm W lv sc ps ρ x y lf G (execs (.If t [.Expr (.Call (.Name x np) es [] cpos) spos] [] pos :: rest)) out := by
  cases b with
  | false => exact exm_iff ht (exm_of (k₀ rfl))
  | true =>
    intro A h₀ L m loc own par fz env ad s Q E f c o hA hE F hc ho hd M k'
    refine wpAny_execs_cons (wpAny_If (ht A h₀ env L m _ fz env s _ E hA hE F.ss F.full fun fz' h' t' s' S' => ?_))
    have F₁ := F.grow s' S'
    refine wpAny_execs_cons (mut_stmt hA hE F₁ (.cell (hE.cells x _ hx (.inr rfl)).1 hc (List.mem_append_right _ (List.mem_append_right _ (s' _ ho))) hd) hp (M.mono s') hl hy (h rfl) (hG rfl) fun own' par' fz₂ h₂ tk₂ s₂ F₂ P₂ => ?_)
    refine wpAny_execs_nil ?_
    exact k rfl A h₀ L m loc own' par' fz₂ env ad _ Q E hA hE F₂ fun fl m₃ loc₃ own₃ par₃ fz₃ ad₃ h₃ t₃ s₃ x₃ f₃ p₃ a₃ l₃ => k' fl m₃ loc₃ own₃ par₃ fz₃ ad₃ h₃ t₃ (s'.trans (s₂.trans s₃)) x₃ f₃ (P₂.trans p₃ fun _ _ => rfl) a₃
end
theorem EX.retNil {W : Wd} {lv : Nat} {sc : Scope} {ps : List Str} {ρ ρ' : Names} {t : Env → Sem Flow} {d : Dat} (h : EX W lv sc ps ρ t (.ret d ρ')) : EX W lv sc ps ρ t (.ret d []) :=
  fun A h₀ L m loc own par fz env ad s Q E hA hE x c => h A h₀ L m loc own par fz env ad s Q E hA hE x fun fl m₁ loc₁ own₁ par₁ fz₁ ad₁ h₁ t₁ s₁ x₁ f₁ p₁ a₁ l₁ =>
    c fl m₁ loc₁ own₁ par₁ fz₁ ad₁ h₁ t₁ s₁ (let ⟨sc₂, y₁⟩ := x₁; ⟨sc₂, FS.sub y₁ fun _ _ h => by cases h⟩) f₁ p₁ a₁ l₁
noncomputable def belowR (G : Nat → List Dat → List Dat → List Dat → Prop) : Nat → List Dat → List Dat → List Dat → Prop
  | 0 => fun _ _ _ => False
  | n + 1 => G n
noncomputable def Out.isNone : Out → Prop
  | .next _ => True
  | .ret d _ => d = .none
  | .esc _ => False
theorem Out.isNone.plain {o : Out} (h : o.isNone) : o.plain = true := by cases o <;> first | rfl | exact h.elim
section
variable {W : Wd} {lv lf : Nat} {sc lsc lsc' : Scope} {ρ ρc : Names} {tabs : List (Addr × Addr × Str)} {t : Addr × Addr × Str} {x y : Str} {px pos lpos : Pos} {params : Arguments} {F : List Dat → Option Dat} {pn : List Str} {q : Str} {rest : List Stmt} {d : Dat}
/-- def x(..): .. that captures data, a list that it turns, and itself -/
theorem exr_def_mut {body : List Stmt} {ρ₁ ρ' : Names} {ds₀ : List Dat} (hT : Tabs W tabs t) (hcode : sc.more.lookup ("@code" : Str) = some (.int t.1)) (hqual : sc.more.lookup ("@qual" : Str) = some (.str q)) (hq : q ++ x = t.2.2)
    (I : ∀ pv qv, Inner lsc ((x, pv) :: (y, qv) :: ρ₁)) (hρ : ∀ p ∈ (y, .lst ds₀) :: ρ₁, ρ.lookup p.1 = some p.2 ∧ sc.names.lookup p.1 = some .cell) (hd : allDat ρ₁ = true) (hx : sc.names.lookup x = some .cell) (hp : PlainName x)
    (hd0 : params.defaults = []) (hk0 : params.kw_defaults = []) (ha : ∀ env, annTrees params none env = []) (hbind : ∀ (vs : List Value) (cl : List (Str × Addr)) (doc pm cdv ctv : Value), vs.length = pn.length → bindArgs (fnX x t.2.2 params body lsc cl .none .none doc pm none cdv ctv) ⟨vs, []⟩ = pure (pn.zip vs))
    (hpn : (pn.all fun y => lsc.names.lookup y == some .local) = true) (hnd : pn.Nodup) (hpl : ∀ y ∈ pn, PlainName y) (hns : lsc'.names = lsc.names) (hmo : lsc'.more = []) (G : Nat → List Dat → List Dat → List Dat → Prop)
    (hb : ∀ n args ds ds', G n args ds ds' → args.length = pn.length ∧ ∃ out, out.isNone ∧ out.names.lookup y = some (.lst ds') ∧ EXm W n lsc' [y] (zipD pn args ++ (y, .lst ds) :: ρ₁) x y n (belowR G n) (execs body) out)
    (hco : lsc.isCoroutine = false) (hgen : lsc.isGenerator = false) (N : Nat)
    (k : EXm W lv (unslot (unslots sc (y :: ρ₁.map (·.1))) x) [] ρ x y (N + 1) (G N) (execs rest) (.ret d ρ')) (hxρ : ρ.lookup x = none) : EXR W lv sc ρ (.FunctionDef x params body [] none [] lsc none x pos :: rest) d := by
  refine ⟨ρ', ?_⟩
  intro A h₀ L m loc own par fz env ad s Q E hA hE F₀ c
  have I0 := I (.dat .none) (.dat .none)
  have nd1 := I0.nd
  rw [List.map_cons, List.nodup_cons] at nd1
  obtain ⟨loc₁, fz₁, s₁, F₁, hE₁, C₁⟩ := F₀.freezeCells ((y, .lst ds₀) :: ρ₁) hE hρ nd1.2
  have hxc : ∃ cx, env.cells.lookup x = some cx := Option.isSome_iff_exists.mp (hE.cells x _ hx (.inl rfl)).2
  obtain ⟨cx, hcx⟩ := hxc
  have hfree : ∀ z, lsc.names.lookup z = some .free → ∃ c, env.cells.lookup z = some c := fun z hz => by
    have := I0.free z hz
    rw [List.map_cons, List.mem_cons] at this
    rcases this with e | hm
    · rw [e]; exact ⟨cx, hcx⟩
    · rw [List.map_cons, List.mem_cons] at hm
      rcases hm with e | hm
      · obtain ⟨c, _, _, q', _⟩ := C₁ y (.lst ds₀) (.head _)
        exact ⟨c, by rw [e]; exact q'⟩
      · obtain ⟨p, hp', e⟩ := List.mem_map.mp hm
        obtain ⟨c, _, _, q', _⟩ := C₁ p.1 p.2 (.tail _ hp')
        exact ⟨c, by rw [← e]; exact q'⟩
  have hmem : ∀ y, (y, NameKind.free) ∈ lsc.names → lsc.names.lookup y = some .free := fun y hy => by
    have := I0.sc
    simp only [scP', Bool.and_eq_true, List.all_eq_true, beq_iff_eq] at this
    exact (this.2 _ hy).1
  have hcl : closureFor lsc env = pure (closL env.cells lsc.names []) := closureFor_ok fun y hy => by
    obtain ⟨c, q'⟩ := hfree y (hmem y hy)
    rw [q']; rfl
  have hclos : ClosOk lsc.names (closL env.cells lsc.names []) := ⟨fun y hy => by
    obtain ⟨c, q'⟩ := hfree y hy
    rw [closL_at q' _ _ (PySem.mem_of_lookup hy)]; rfl, fun a b c ha' hb' => hE.inj a b c (closL_of _ _ (fun _ _ h => by cases h) ha') (closL_of _ _ (fun _ _ h => by cases h) hb')⟩
  have hqe : qualnameIn env x x = t.2.2 := by
    have hk := (hE.cells x _ hx (.inl rfl)).1
    unfold qualnameIn
    rw [if_neg (fun e => by
      have e : env.kindOf x = some .globalExplicit := by simpa using e
      rw [e] at hk; rcases hk with h | h <;> cases h), hE.qual q hqual]
    exact hq
  have hce : env.code = .ref t.1 := by have := hE.code _ hcode; simpa using this
  refine wpAny_execs_cons (nestDef_K hd0 hk0 (ha env) ?_)
  rw [hqe]
  refine make_def hA hT.gl hT.mem hT.nd hT.code F₁.ss hcl hE.glob hce fun f fz₂ h₂ tk₂ c' ctv doc pm s₂ S₂ hf hcx' => ?_
  have F₂ := F₁.grow s₂ S₂
  have hx₁ : (unslots sc (y :: ρ₁.map (·.1))).names.lookup x = some .cell := (unslots_glob (k := .cell) (by simpa using nd1.1)).trans hx
  refine store_ok hE₁ F₂.ss (F₂.st x (.inr hx₁)) fun m' loc' h₃ tk₃ S₃ st₃ => ?_
  have none0 : ∀ (X : Fact), X f (fnMade x t.2.2 params body lsc (closL env.cells lsc.names []) doc pm c' ctv) → CallOk W 0 X (.ref f) (fun _ => none) := fun X hX => ⟨f, _, _, rfl, hX, rfl, fun _ _ _ _ _ _ _ _ _ _ _ _ _ _ _ _ _ hF => by cases hF⟩
  have F₃ := F₂.moved (bs := [(x, .fn 0 fun _ => none)]) S₃ (st₃.moved (pv := .fn 0 fun _ => none) hp fun MU Y qq => none0 _ (qq _ _ (.inr hf))) rfl
  obtain ⟨loc₄, c₄, o₄, e1, e2, e3, F₄, hl₄⟩ := F₃.freezeCellV hE₁ (st₃.new _) hx₁
  have C₂ : CapR W (Hs W.base ((c₄, o₄) :: fz₂)) (own ++ par) ((c₄, o₄) :: fz₂) env ad ((y, .lst ds₀) :: ρ₁) := fun y pv hy => by
    obtain ⟨c, o, v, a1, a2, a3, a4, a5, a6⟩ := C₁ y pv hy
    exact ⟨c, o, v, a1, .tail _ (s₂ _ a2), a3, a4, a5.mono (Hs.sub (s₂.trans .cons)) (Sub.refl _), a6⟩
  obtain ⟨cy, oy, vy, y1, y2, y3, y4, y5, y6⟩ := C₂ y (.lst ds₀) (.head _)
  have y6 := y6 ds₀ rfl
  subst y6
  have hcell : (closL env.cells lsc.names []).lookup x = some c₄ := closL_at e1 _ _ (PySem.mem_of_lookup (I0.cap (x, .dat .none) (.head _)))
  have ok : ∀ n, MutCall W n ((c₄, o₄) :: fz₂) f (ad y) (belowR G n) := by
    intro n
    induction n with
    | zero => exact ⟨_, _, .tail _ hf, rfl, fun A h₀ fenv L m mu fz' s vs args ds ds' Q E hA hs S hl hr hG => hG.elim⟩
    | succ n ih =>
      refine ⟨_, _, .tail _ hf, rfl, fun A h₀ fenv L m mu fz' s vs args ds ds' Q E hA hs S hl hr hG kk => ?_⟩
      obtain ⟨hlen, out, ho1, ho2, hbody⟩ := hb n args ds ds' hG
      have hvl : vs.length = pn.length := by rw [hr.length, hlen]
      have hcxz : CodeX (Hs W.base fz') (.ref c') t.2.2 := hcx'.mono (Hs.sub (Sub.trans .cons hs))
      refine call_Ps (ps := [y]) (ad := fun _ => ad y) (sc := lsc') (ρ := zipD pn args) (ρc := (y, .lst ds) :: ρ₁) (out := out) hA S (.inr (hs _ (.tail _ hf))) rfl hcxz (BindsTo.of_eq (hbind vs _ _ _ _ _ hvl)) I0.sc (List.all_eq_true.mpr fun p hp => ?_) ?_ hclos (bindR_zip hpl hnd hvl hr) ?_ ?_ ?_ hns hmo ?_ Q (fun v fz₃ mu₃ ad₃ h₃ tk₃ s₃ S₃ r₃ p₃ a₃ l₃ => ?_) hco hgen ho1.plain
      · exact List.all_eq_true.mp hpn p.1 (List.of_mem_zip hp).1
      · rw [List.map_fst_zip (by (clear hcxz hbody ho2 ho1 hlen kk hG hr hl S hs hA ih hcell y6 y5 y4 y3 y2 y1 C₂ hl₄ F₄ e3 e2 e1 F₃ none0 st₃ S₃ hx₁ F₂ hcx' hf S₂ s₂ hce hqe hclos hcl hmem hfree hcx C₁ hE₁ F₁ s₁ nd1 I0 c F₀ hE hxρ k hgen hco hb hmo hns hpl hnd hpn hbind ha hk0 hd0 hp hx hd hρ I hq hqual hcode hT; lia))]; exact hnd
      · intro z pv hz
        rw [List.lookup_cons] at hz
        cases e : z == y with
        | true =>
          rw [e] at hz; cases hz
          have e := beq_iff_eq.mp e
          subst e
          exact ⟨I0.pl (z, .dat .none) (.tail _ (.head _)), I0.cap (z, .dat .none) (.tail _ (.head _)), cy, oy, .ref (ad z), closL_at y1 _ _ (PySem.mem_of_lookup (I0.cap (z, .dat .none) (.tail _ (.head _)))), .inr (hs _ y2), y3, y4, hl.prep, fun es he => by cases he; exact ⟨.head _, rfl, hl⟩⟩
        | false =>
          rw [e] at hz
          have hm := PySem.mem_of_lookup hz
          obtain ⟨c, o, v, a1, a2, a3, a4, a5, a6⟩ := C₂ z pv (.tail _ hm)
          have hne : ∀ ds, pv ≠ .lst ds := fun ds q => by
            have := List.all_eq_true.mp hd _ hm
            subst q
            cases this
          refine ⟨I0.pl (z, pv) (.tail _ (.tail _ hm)), I0.cap (z, pv) (.tail _ (.tail _ hm)), c, o, v, closL_at a1 _ _ (PySem.mem_of_lookup (I0.cap (z, pv) (.tail _ (.tail _ hm)))), .inr (hs _ a2), a3, a4, ?_, fun es q => absurd q (hne es)⟩
          cases pv with
          | dat d => exact Rep.mono (Hs.sub hs) a5
          | fn lf G => exact CallOk.mono (Hs.sub hs) a5
          | lst ds => exact absurd rfl (hne ds)
      · intro z hz
        obtain ⟨vs', n', hm, _⟩ := hl
        exact ⟨_, hm⟩
      · intro a ha b hb' _
        cases List.mem_singleton.mp ha; cases List.mem_singleton.mp hb'; rfl
      · intro A' g L' m' env' s' Q' E' hA' hE' hcells FF kk'
        exact hbody A' g L' m' [] [] mu fz' env' _ s' Q' E' f c₄ o₄ hA' hE' FF (by rw [hcells]; exact hcell) (hs _ (.head _)) e2 (ih.mono hs) kk'
      · have hv : v = .none := by
          cases out with
          | next _ => exact r₃
          | ret d _ =>
            have ho1 : d = .none := ho1
            subst ho1
            have r₃ : Rep (Hs W.base fz₃) v .none := r₃
            cases r₃; rfl
          | esc _ => exact ho1.elim
        subst hv
        exact kk fz₃ mu₃ h₃ tk₃ s₃ S₃ ⟨⟨p₃.1, fun p hp hne => p₃.2 p hp fun z hz => hne "" (.head _)⟩, l₃ y (.head _) ds' ho2⟩
  have hE₅ := hE₁.unslot hx₁
  refine k A h₀ L m' loc₄ own par _ env ad _ Q E f c₄ o₄ hA hE₅ (F₄.sub fun z pv hz => ?_) e1 (.head _) e2 (ok (N + 1)) fun fl m₆ loc₆ own₆ par₆ fz₆ ad₆ h₆ tk₆ s₆ x₆ f₆ p₆ a₆ => ?_
  · show List.lookup z ((x, _) :: ρ) = _
    rw [List.lookup_cons]
    cases e : z == x with
    | true => rw [beq_iff_eq.mp e, hxρ] at hz; cases hz
    | false => exact hz
  · exact c fl m₆ loc₆ own₆ par₆ fz₆ ad₆ h₆ tk₆ (s₁.trans (s₂.trans (Sub.trans .cons s₆))) x₆ f₆ p₆ a₆ rfl
end
end Mine
end
section
open PySem PySem.W PyProof.Rows
set_option linter.unusedVariables false
set_option maxRecDepth 100000
namespace Mine
open PySem.Calls PySem.Spec PySem.SeqAt

section
variable {W : Wd} {lv : Nat} {sc : Scope} {ps : List Str} {ρ ρ' : Names}
/-- y.reverse() -/
theorem ex_reverse {y : Str} {py ap pos spos : Pos} {ds : List Dat} (hy : ρ.lookup y = some (.lst ds)) (hz : ds.length ≤ 1048576)
    (hbase : ∀ env, attributeBase (.Name y py) (Str.ofString "reverse") env (eval (.Name y py) env) = eval (.Name y py) env := by intro _; rfl) (hline : (ap.endLine == pos.line) = true := by rfl) :
    EX1 W lv sc ps ρ (.Expr (.Call (.Attribute (.Name y py) (Str.ofString "reverse") ap) [] [] pos) spos) (.next ((y, .lst ds.reverse) :: ρ)) := by
  intro A h₀ L m loc own par fz env ad s Q E hA hE x c
  refine wpAny_Expr_any (wpAny_Call_method0_late (hbase env) hline ?_) (by show (env.scope.kind == .module && _) = false; rw [hE.kind]; rfl) rfl
  refine eval_name hE x.ss (x.loadsFull hy) (x.nm y _ hy).1 ?_
  obtain ⟨vs, n, hm, hr⟩ := x.listAt hy
  have ho := x.ss.ofMu (List.mem_append_right loc hm)
  refine ⟨"list", "list.reverse", F.plainAttrs_list, F.slot_list_reverse, F.type_list_reverse, ⟨_, ho, rfl⟩, fun a q => ⟨_, by cases q; exact ho, rfl⟩, ?_⟩
  refine P.reverse_list (show IsL s.heap (ad y) vs.toArray n from ho) ?_ (by rw [List.size_toArray, sizeLine_eq, hr.length]; (clear ho hr hm c x hE hA hline hbase hy; lia))
  have hup := (show IsL s.heap (ad y) vs.toArray n from ho).update (fun xs => xs.reverse)
  have ho₂ : (s.heap.update (ad y) (Obj.mapSeq fun xs => xs.reverse)).get? (ad y) = some (listOf vs.reverse.toArray n) := by
    rw [hup]; simp [PySem.W.listOf]
  obtain ⟨own', par', x₂, p₂⟩ := x.turn (ds' := ds.reverse) hy (fun b o hb e => (Heap.get?_update_other s.heap _ (Ne.symm hb)).trans e) ho₂ hr.reverse
  exact c _ m loc own' par' fz ad _ s.toks (Sub.refl _) x₂ rfl p₂ (fun _ _ => rfl) rfl
/-- y.insert(i, e) -/
theorem ex_insert {y : Str} {py ap pos spos : Pos} {i e : Expr} {ds : List Dat} {d : Dat} {k : Nat} (hy : ρ.lookup y = some (.lst ds)) (hi : EV W lv sc ρ i (.dat (.int k))) (h : EV W lv sc ρ e (.dat d)) (hk : k ≤ ds.length) (hz : ds.length ≤ 1048576) (hn : nStar i = true) (hn' : nStar e = true)
    (hbase : ∀ env, attributeBase (.Name y py) (Str.ofString "insert") env (eval (.Name y py) env) = eval (.Name y py) env := by intro _; rfl) (hline : (ap.endLine == pos.line) = true := by rfl) :
    EX1 W lv sc ps ρ (.Expr (.Call (.Attribute (.Name y py) (Str.ofString "insert") ap) [i, e] [] pos) spos) (.next ((y, .lst (ds.take k ++ d :: ds.drop k)) :: ρ)) := by
  intro A h₀ L m loc own par fz env ad s Q E hA hE x c
  refine wpAny_Expr_any (wpAny_Call_method2_late (hbase env) hline (by rw [starEach_cons hn, starEach_cons hn']; rfl) ?_) (by show (env.scope.kind == .module && _) = false; rw [hE.kind]; rfl) rfl
  refine eval_name hE x.ss (x.loadsFull hy) (x.nm y _ hy).1 ?_
  obtain ⟨vs, n, hm, hr⟩ := x.listAt hy
  have ho := x.ss.ofMu (List.mem_append_right loc hm)
  refine ⟨"list", "list.insert", F.plainAttrs_list, F.slot_list_insert, F.type_list_insert, ⟨_, ho, rfl⟩, fun a q => ⟨_, by cases q; exact ho, rfl⟩, ?_⟩
  refine method_meets F.slot_list_insert F.entry_list_insert rfl (Calls.evalArgs_plain (Calls.spliced_cons (hi A h₀ env L m _ fz env s _ E hA hE x.ss x.full fun v₁ fz₁ h₁ t₁ s₁ S₁ R₁ => Calls.spliced_cons (h A h₀ env L m _ fz₁ env _ _ E hA hE S₁ (x.grow s₁ S₁).full fun v₂ fz₂ h₂ t₂ s₂ S₂ R₂ => Calls.spliced_nil ⟨rfl, ?_⟩))))
  have x₁ := x.grow (s₁.trans s₂) S₂
  have ho₁ : IsL h₂ (ad y) vs.toArray n := x₁.ss.ofMu (List.mem_append_right loc hm)
  obtain ⟨j, hj⟩ : ∃ j : Int, j = (k : Int) := ⟨_, rfl⟩
  have R₁' : Rep (Hs W.base fz₁) v₁ (.int j) := by rw [hj]; exact R₁
  have hfit : Builtin.List.listFitsIndex j = true := fitsIndex_of (by (clear R₁' ho₁ x₁ R₂ S₂ s₂ R₁ S₁ s₁ ho hr hm c x hE hA hline hbase hn' hn hz hk h hi hy; lia)) (by (clear R₁' ho₁ x₁ R₂ S₂ s₂ R₁ S₁ s₁ ho hr hm c x hE hA hline hbase hn' hn h hi hy; lia))
  cases R₁' with
  | int _ u =>
  have hsz : vs.toArray.size ≤ sizeLine := by rw [List.size_toArray, sizeLine_eq, hr.length]; (clear R₁ hfit hj ho₁ x₁ R₂ S₂ s₂ S₁ s₁ ho hr hm c x hE hA hline hbase hn' hn hk h hi hy; lia)
  have hfit' : ¬(!Builtin.List.listFitsIndex j) = true := by rw [hfit]; exact Bool.false_ne_true
  have M := AutoSeq1.list_insert_list_int_val_1 (ad y) vs.toArray n j u v₂ hfit' hsz
  refine ⟨⟨_, ho₁, rfl⟩, F.args_list_insert_3 _ _ _, _, M, ?_⟩
  refine ⟨ho₁, ?_⟩
  have hup := ho₁.update (fun xs => have k := if j < 0 then (j + (xs.size : Int)).toNat else min j.toNat xs.size; (xs.extract 0 k).push v₂ ++ xs.extract k)
  have hl : vs.length = ds.length := hr.length
  have ho₂ : (h₂.update (ad y) (Obj.mapSeq fun xs => have k := if j < 0 then (j + (xs.size : Int)).toNat else min j.toNat xs.size; (xs.extract 0 k).push v₂ ++ xs.extract k)).get? (ad y) = some (listOf (vs.take k ++ v₂ :: vs.drop k).toArray (n + 1)) := by
    rw [hup]
    have e : (have k := if j < 0 then (j + (vs.toArray.size : Int)).toNat else min j.toNat vs.toArray.size; (vs.toArray.extract 0 k).push v₂ ++ vs.toArray.extract k) = (vs.take k ++ v₂ :: vs.drop k).toArray := by
      have e0 : (if j < 0 then (j + (vs.toArray.size : Int)).toNat else min j.toNat vs.toArray.size) = k := by
        rw [if_neg (by (clear hl hup M hfit' hsz R₁ hfit ho₁ x₁ R₂ S₂ s₂ S₁ s₁ ho hr hm c x hE hA hline hbase hn' hn hz hk h hi hy; lia)), List.size_toArray]; (clear hup M hfit' hsz R₁ hfit ho₁ x₁ R₂ S₂ s₂ S₁ s₁ ho hr hm c x hE hA hline hbase hn' hn h hi hy; lia)
      show (vs.toArray.extract 0 (if j < 0 then (j + (vs.toArray.size : Int)).toNat else min j.toNat vs.toArray.size)).push v₂ ++ vs.toArray.extract (if j < 0 then (j + (vs.toArray.size : Int)).toNat else min j.toNat vs.toArray.size) = _
      rw [e0]
      apply Array.toList_inj.mp
      have ee : (vs.drop k).take (vs.length - k) = vs.drop k := List.take_of_length_le (by rw [List.length_drop]; (clear e0 hl hup M hfit' hsz R₁ hfit hj ho₁ x₁ R₂ S₂ s₂ S₁ s₁ ho hr hm c x hE hA hline hbase hn' hn hz hk h hi hy; lia))
      simp [List.extract, ee]
    show some _ = some _
    rw [e, if_neg (by simp; (clear e hup M hfit' hsz R₁ hfit ho₁ x₁ R₂ S₂ s₂ S₁ s₁ ho hr hm c x hE hA hline hbase hn' hn hz h hi hy; lia))]
  have hr' : RepA (Hs W.base fz₂) (vs.take k ++ v₂ :: vs.drop k) (ds.take k ++ d :: ds.drop k) := ((hr.mono (Hs.sub (s₁.trans s₂))).take k).append (.cons R₂ ((hr.mono (Hs.sub (s₁.trans s₂))).drop k))
  obtain ⟨own', par', x₂, p₂⟩ := x₁.turn (ds' := ds.take k ++ d :: ds.drop k) hy (fun b o hb e => (Heap.get?_update_other h₂ _ (Ne.symm hb)).trans e) ho₂ hr'
  exact c _ m loc own' par' fz₂ ad _ t₂ (s₁.trans s₂) x₂ rfl p₂ (fun _ _ => rfl) rfl
theorem ei_dreversed {x : Str} {np pos : Pos} {e : Expr} {ds : List Dat} (hb : Boot W sc x (.type "reversed")) (hn : nStar e = true) (h : EV W lv sc ρ e (.dat (.list ds))) : EI (fun _ => []) W lv sc ρ (.Call (.Name x np) [e] [] pos) ds.reverse := by
  intro A h₀ fenv L m mu fz env s Q E hA hE S hN k
  refine wpAny_Call_ofName (eval_boot hA hE S hb.sc hb.dbg hb.nm hb.top hb.boot ?_)
  have hv : EVs W lv sc ρ [e] [.dat (.list ds)] := .cons hn h .nil
  refine PySem.callWith_type (evs_star hv) (evalArgs_ok hv A h₀ fenv L m mu fz env s _ E hA hE S hN fun vs fz' h' t' s' S' R' => ?_)
  match vs, R' with
  | [v], ⟨R', _⟩ =>
  have R' : Rep (Hs W.base fz') v (.list ds) := R'
  cases R' with
  | @list l o vs n _ ho hc hd ra =>
  have e : h'.get? l = some o := S'.has ho
  refine call_reversed_list ⟨o, e, hc, n, hd⟩ ?_
  have hne := S'.fresh (.inl ho)
  refine wpAny_pyIter_revIter (l := l) (i := (vs.toArray.size : Int) - 1) ⟨_, Heap.get?_push_size _ rfl, rfl, rfl⟩ ?_
  refine k _ _ _ fz' _ _ s' (S'.pushMu _) (src_rev hA.hh hne (.inl ho) hc hd ra) ⟨Nat.zero_le _, ⟨_, Heap.get?_push_size _ rfl, rfl, ?_⟩, Heap.get?_push_of_some _ e⟩
  simp [revObj]
end
end Mine
end
section
open PySem PySem.W PyProof.Rows
set_option linter.unusedVariables false
namespace Mine
/-- the digits of x, the lowest first -/
noncomputable def digs (n : Nat) : Nat → Nat → List Nat
  | 0, _ => []
  | k + 1, x => x % 2 ^ n :: digs n k (x / 2 ^ n)
theorem digs_length (n : Nat) : ∀ k x, (digs n k x).length = k
  | 0, _ => rfl
  | k + 1, x => by rw [digs, List.length_cons, digs_length n k]
theorem digs_add (n : Nat) : ∀ k j x, digs n (k + j) x = digs n k x ++ digs n j (x / 2 ^ (n * k))
  | 0, j, x => by simp [digs]
  | k + 1, j, x => by
    rw [Nat.add_right_comm, digs, digs_add n k j, digs, List.cons_append, Nat.div_div_eq_div_mul, ← Nat.pow_add, Nat.mul_succ, Nat.add_comm n]
theorem digs_mod (n : Nat) : ∀ k x, digs n k (x % 2 ^ (n * k)) = digs n k x
  | 0, _ => rfl
  | k + 1, x => by
    have e : 2 ^ (n * (k + 1)) = 2 ^ n * 2 ^ (n * k) := by rw [Nat.mul_succ, Nat.add_comm, Nat.pow_add]
    rw [digs, digs, e, Nat.mod_mul_right_mod, Nat.mod_mul_right_div_self, digs_mod n k]
theorem digs_lt (n : Nat) : ∀ k x d, d ∈ digs n k x → d < 2 ^ n
  | k + 1, x, d, h => by
    rcases List.mem_cons.mp h with rfl | h
    · exact Nat.mod_lt _ (Nat.pow_pos (by decide))
    · exact digs_lt n k _ d h
theorem digs_one (n x : Nat) (h : x < 2 ^ n) : digs n 1 x = [x] := by
  simp [digs, Nat.mod_eq_of_lt h]
/-- digits back to the number -/
theorem digs_sum (n : Nat) : ∀ k x, x < 2 ^ (n * k) → (digs n k x).foldr (fun d r => d + 2 ^ n * r) 0 = x
  | 0, x, h => by simp at h; simp [digs, h]
  | k + 1, x, h => by
    have e : 2 ^ (n * (k + 1)) = 2 ^ n * 2 ^ (n * k) := by rw [Nat.mul_succ, Nat.add_comm, Nat.pow_add]
    rw [e] at h
    rw [digs, List.foldr_cons, digs_sum n k _ (Nat.div_lt_of_lt_mul h)]
    exact Nat.mod_add_div x (2 ^ n)
/-- long division, the highest digit first: the rest, and the quotient's digits, the highest first -/
noncomputable def ldiv (n b : Nat) : Nat → List Nat → Nat × List Nat
  | r, [] => (r, [])
  | r, d :: ds => let x := r * 2 ^ n + d; let p := ldiv n b (x % b) ds; (p.1, x / b :: p.2)
theorem and_shift (x s : Nat) : x &&& ((x / 2 ^ s) * 2 ^ s) = (x / 2 ^ s) * 2 ^ s := by
  refine Nat.eq_of_testBit_eq fun i => ?_
  rw [Nat.testBit_and, Nat.testBit_mul_two_pow, Nat.testBit_div_two_pow]
  by_cases h : i < s
  · have h' : ¬ s ≤ i := by lia
    simp [h']
  · have h' : s ≤ i := by lia
    have e : s + (i - s) = i := by (clear h'; lia)
    simp [h', e]
theorem bitXor_shift (x s : Nat) : Builtin.bitXor (x : Int) (((x / 2 ^ s) * 2 ^ s : Nat) : Int) = ((x % 2 ^ s : Nat) : Int) := by
  rw [PyProof.Rows.bitXor_and, PyProof.Rows.bitAnd_pp (Int.natCast_nonneg _) (Int.natCast_nonneg _)]
  have e : (x : Int).toNat &&& (((x / 2 ^ s) * 2 ^ s : Nat) : Int).toNat = (x / 2 ^ s) * 2 ^ s := by
    rw [Int.toNat_natCast, Int.toNat_natCast, and_shift]
  rw [e]
  have := Nat.div_add_mod x (2 ^ s)
  have e2 : 2 ^ s * (x / 2 ^ s) = x / 2 ^ s * 2 ^ s := Nat.mul_comm _ _
  (clear e; lia)
/-- digits to a number, the lowest first -/
noncomputable def dn (n : Nat) (l : List Nat) : Nat := l.foldr (fun d r => d + 2 ^ n * r) 0
theorem dn_append (n : Nat) : ∀ a b : List Nat, dn n (a ++ b) = dn n a + 2 ^ (n * a.length) * dn n b
  | [], b => by simp [dn]
  | x :: a, b => by
    have ih := dn_append n a b
    show x + 2 ^ n * dn n (a ++ b) = x + 2 ^ n * dn n a + 2 ^ (n * (a.length + 1)) * dn n b
    rw [ih, Nat.mul_add, Nat.mul_succ, Nat.add_comm (n * a.length) n, Nat.pow_add, Nat.mul_assoc, Nat.add_assoc]
theorem ldiv_len (n b : Nat) : ∀ (ds : List Nat) (r : Nat), (ldiv n b r ds).2.length = ds.length
  | [], _ => rfl
  | d :: ds, r => by simp only [ldiv, List.length_cons]; rw [ldiv_len n b ds]
theorem ldiv_spec (n b : Nat) (hb : 0 < b) : ∀ (ds : List Nat) (r : Nat), r < b → (∀ d ∈ ds, d < 2 ^ n) →
    (ldiv n b r ds).1 < b ∧ (∀ q ∈ (ldiv n b r ds).2, q < 2 ^ n) ∧ r * 2 ^ (n * ds.length) + dn n ds.reverse = b * dn n (ldiv n b r ds).2.reverse + (ldiv n b r ds).1
  | [], r, h, _ => by
    refine ⟨h, ?_, ?_⟩
    · intro q hq; cases hq
    · simp [ldiv, dn]
  | d :: ds, r, h, hd => by
    have hx : (r * 2 ^ n + d) / b < 2 ^ n := by
      refine Nat.div_lt_of_lt_mul ?_
      have h1 : (r + 1) * 2 ^ n ≤ b * 2 ^ n := Nat.mul_le_mul_right _ h
      rw [Nat.add_mul, Nat.one_mul] at h1
      have h2 := hd d (.head _)
      (clear hd h hb; omega)
    obtain ⟨i1, i2, i3⟩ := ldiv_spec n b hb ds ((r * 2 ^ n + d) % b) (Nat.mod_lt _ hb) fun x hx => hd x (.tail _ hx)
    refine ⟨i1, fun q hq => ?_, ?_⟩
    · rcases List.mem_cons.mp hq with rfl | hq
      · exact hx
      · exact i2 q hq
    · simp only [ldiv, List.reverse_cons, List.length_cons]
      rw [dn_append, dn_append, List.length_reverse, List.length_reverse, ldiv_len]
      have e0 : ∀ x, dn n [x] = x := fun x => by simp [dn]
      rw [e0, e0]
      have e1 := Nat.div_add_mod (r * 2 ^ n + d) b
      have e2 : r * 2 ^ (n * (ds.length + 1)) = r * 2 ^ n * 2 ^ (n * ds.length) := by rw [Nat.mul_succ, Nat.add_comm, Nat.pow_add, Nat.mul_assoc]
      rw [e2]
      have e3 : (r * 2 ^ n + d) * 2 ^ (n * ds.length) = (b * ((r * 2 ^ n + d) / b) + (r * 2 ^ n + d) % b) * 2 ^ (n * ds.length) := by rw [e1]
      rw [Nat.add_mul, Nat.add_mul] at e3
      rw [Nat.mul_add, Nat.mul_comm (2 ^ (n * ds.length)) d, Nat.mul_comm (2 ^ (n * ds.length)) ((r * 2 ^ n + d) / b), ← Nat.mul_assoc]
      (clear e2 e1 e0 i2 i1 hx hd h hb; omega)
theorem ldiv_all (n b k a : Nat) (hb : 0 < b) (ha : a < 2 ^ (n * k)) : (ldiv n b 0 (digs n k a).reverse).1 = a % b ∧ dn n (ldiv n b 0 (digs n k a).reverse).2.reverse = a / b := by
  obtain ⟨h1, h2, h3⟩ := ldiv_spec n b hb (digs n k a).reverse 0 hb fun d hd => digs_lt n k a d (List.mem_reverse.mp hd)
  rw [List.reverse_reverse, show dn n (digs n k a) = a from digs_sum n k a ha, Nat.zero_mul, Nat.zero_add] at h3
  generalize dn n (ldiv n b 0 (digs n k a).reverse).2.reverse = q at *
  generalize (ldiv n b 0 (digs n k a).reverse).1 = r at *
  rw [h3]
  constructor
  · rw [Nat.mul_add_mod, Nat.mod_eq_of_lt h1]
  · rw [Nat.mul_add_div hb, Nat.div_eq_of_lt h1, Nat.add_zero]
end Mine
end
section
open PySem PySem.W PyProof.Rows
set_option linter.unusedVariables false
set_option maxRecDepth 100000
namespace Mine
open PySem.Calls PySem.Spec PySem.SeqAt

section
variable {W : Wd} {lv : Nat} {sc : Scope} {ps : List Str} {ρ ρ' : Names}
theorem op_inv {a : Int} : OpOk W lv [.int a] (fun vs => unaryOp .Invert (vs.getD 0 .none)) (.int (Builtin.bitNot a)) :=
  op_of_int fun _ _ _ _ _ _ k => invert_int (k _ _ fun _ => .int _ _)
theorem EVs.three {e f g : Expr} {p q r : PV} (h : EV W lv sc ρ e p) (k : EV W lv sc ρ f q) (l : EV W lv sc ρ g r) (hn : nStar e = true := by rfl) (hm : nStar f = true := by rfl) (ho : nStar g = true := by rfl) : EVs W lv sc ρ [e, f, g] [p, q, r] := .cons hn h (.two k l hm ho)
theorem ev_tup2 {e f : Expr} {a b : Dat} {kd : Nat} {pos : Pos} (h : EV W lv sc ρ e (.dat a)) (k : EV W lv sc ρ f (.dat b)) (hn : nStar e = true := by rfl) (hm : nStar f = true := by rfl) : EV W lv sc ρ (.Tuple [e, f] kd pos) (.dat (.tuple [a, b])) :=
  ev_tuple (ds := [a, b]) (.two h k hn hm) (by simp)
theorem ev_tup3 {e f g : Expr} {a b c : Dat} {kd : Nat} {pos : Pos} (h : EV W lv sc ρ e (.dat a)) (k : EV W lv sc ρ f (.dat b)) (l : EV W lv sc ρ g (.dat c)) (hn : nStar e = true := by rfl) (hm : nStar f = true := by rfl) (ho : nStar g = true := by rfl) : EV W lv sc ρ (.Tuple [e, f, g] kd pos) (.dat (.tuple [a, b, c])) :=
  ev_tuple (ds := [a, b, c]) (.three h k l hn hm ho) (by simp)
/-- x, y, z = e -/
theorem ex_unpack3 {x y z : Str} {px py pz : Pos} {kd : Nat} {tp pos : Pos} {e : Expr} {a b d : Dat} (h : EV W lv sc ρ e (.dat (.tuple [a, b, d]))) (hx : slot sc x) (hp : PlainName x) (hy : slot sc y) (hq : PlainName y) (hz : slot sc z) (hr : PlainName z)
    (hs : ∀ env, swapsWithSole [.Tuple [.Name x px, .Name y py, .Name z pz] kd tp] e pos.line env = pure false := by intro _; rfl) (hw : ∀ env, swappedStores [.Tuple [.Name x px, .Name y py, .Name z pz] kd tp] e env = pure none := by intro _; rfl) :
    EX1 W lv sc ps ρ (.Assign [.Tuple [.Name x px, .Name y py, .Name z pz] kd tp] e pos) (.next ((z, .dat d) :: (y, .dat b) :: (x, .dat a) :: ρ)) := by
  intro A h₀ L m loc own par fz env ad s Q E hA hE x₀ c
  refine Assign_Tuple (h A h₀ env L m _ fz env s _ E hA hE x₀.ss x₀.full fun v fz' h' t' s' S' R' => ?_) (hs env) (hw env)
  have x₁ := x₀.grow s' S'
  have R' : Rep (Hs W.base fz') v (.tuple [a, b, d]) := R'
  obtain ⟨l, o, vs, n, rfl, ho, hc, hd, ra⟩ := R'.tup
  obtain ⟨v1, v2, v3, rfl, r1, r2, r3⟩ := ra.inv3
  refine wpAny_assign_Tuple hA.hh ⟨o, x₁.ss.has ho, hc, n, hd⟩ rfl rfl fun h₁ k₁ => ?_
  have x₂ := x₁.grow (Sub.refl _) (x₁.ss.grown fun b o e => k₁ b o (Nat.ne_of_lt (Heap.lt_size e)) e)
  show wpAny _ A (assignInOrder [assign (.Name x px) env, assign (.Name y py) env, assign (.Name z pz) env] [v1, v2, v3]) _ _ _
  refine wpAny_bind (wpAny_holding (wpAny_assign_Name (store_ok hE x₂.ss (x₂.st x hx) fun m₂ loc₂ h₂ tk₂ S₂ st₂ => ?_)))
  have x₃ := x₂.moved (bs := [(x, .dat a)]) S₂ (st₂.moved (pv := .dat a) hp fun MU Y s => r1.mono s) rfl
  refine wpAny_bind (wpAny_holding (wpAny_assign_Name (store_ok hE x₃.ss (x₃.st y hy) fun m₃ loc₃ h₃ tk₃ S₃ st₃ => ?_)))
  have x₄ := x₃.moved (bs := [(y, .dat b)]) S₃ (st₃.moved (pv := .dat b) hq fun MU Y s => r2.mono s) rfl
  refine wpAny_bind (wpAny_holding (wpAny_assign_Name (store_ok hE x₄.ss (x₄.st z hz) fun m₄ loc₄ h₄ tk₄ S₄ st₄ => ?_)))
  have x₅ := x₄.moved (bs := [(z, .dat d)]) S₄ (st₄.moved (pv := .dat d) hr fun MU Y s => r3.mono s) rfl
  exact wpAny_pure (c _ m₄ loc₄ own par fz' ad h₄ tk₄ s' x₅ rfl (Par.refl _ _ _) (fun _ _ => rfl) rfl)
/-- list(range(e)) -/
theorem ev_list_range {x y : Str} {np np' pos pos' : Pos} {e : Expr} {a : Int} {n : Nat} (hl : Boot W sc x (.type "list")) (hb : Boot W sc y (.type "range")) (hn : nStar e = true) (h : EV W lv sc ρ e (.dat (.int a)))
    (hs : Builtin.Range.small 0 a 1 = true) (hz : Builtin.Range.rangeSize 0 a 1 = n) (hN : n ≤ 2 ^ 20) : EV W lv sc ρ (.Call (.Name x np) [.Call (.Name y np') [e] [] pos'] [] pos) (.dat (.list (rangeD 0 1 n))) := by
  intro A h₀ fenv L m mu fz env s Q E hA hE S hNm k
  refine wpAny_Call_ofName (eval_boot hA hE S hl.sc hl.dbg hl.nm hl.top hl.boot ?_)
  refine PySem.callWith_type rfl (Calls.evalArgs_plain (Calls.spliced_cons ?_))
  refine wpAny_Call_ofName (eval_boot hA hE S hb.sc hb.dbg hb.nm hb.top hb.boot ?_)
  have hv : EVs W lv sc ρ [e] [.dat (.int a)] := .cons hn h .nil
  refine PySem.callWith_type (evs_star hv) (evalArgs_ok hv A h₀ fenv L m mu fz env s _ E hA hE S hNm fun vs fz' h' t' s' S' R' => ?_)
  match vs, R' with
  | [v], ⟨R', _⟩ =>
  have R' : Rep (Hs W.base fz') v (.int a) := R'
  cases R' with
  | int _ t =>
  refine call_range_1 ?_
  refine Calls.spliced_nil ?_
  have S₁ := S'.push { cls := .type "range", data := .fields #[.int 0 t', .int a t, .int 1 (t' + 1)] }
  refine call_list_range hA.hh (Heap.get?_push_size _ rfl) hs hz (by (clear S₁ R' S' s' hv k hNm S hE hA hz hs h hn hb hl; lia)) fun h₂ tk₂ acc c hk hg hi => ?_
  have S₂ := S₁.add hk (by
    cases e : (h'.push { cls := .type "range", data := .fields #[.int 0 t', .int a t, .int 1 (t' + 1)] }).get? (h'.push { cls := .type "range", data := .fields #[.int 0 t', .int a t, .int 1 (t' + 1)] }).objs.size with
    | none => rfl
    | some o' => exact absurd (Heap.lt_size e) (Nat.lt_irrefl _)) hg
  refine k _ _ h₂ tk₂ (s'.trans (Sub.trans .cons .cons)) S₂ ?_
  show Rep _ _ (.list (rangeD 0 1 n))
  obtain ⟨accl, rfl⟩ : ∃ l : List Value, acc = l.toArray := ⟨acc.toList, by rw [Array.toArray_toList]⟩
  refine .list (o := { cls := .type "list", dict := none, data := .seq accl.toArray c, slots := #[] }) (vs := accl) (.inr (.head _)) rfl rfl ?_
  refine RepA.of_get (by rw [rangeD_length]; simpa using hi.1) fun j v d hv hd => ?_
  obtain ⟨t, rfl⟩ := hi.2 j v (by simpa using hv)
  unfold rangeD at hd
  rw [List.getElem?_map] at hd
  cases e : (List.range n)[j]? with
  | none => rw [e] at hd; cases hd
  | some i =>
    rw [e] at hd
    have : i = j := by
      have := List.getElem?_eq_some_iff.mp e
      obtain ⟨h1, h2⟩ := this
      rw [List.getElem_range] at h2; exact h2.symm
    subst this
    cases hd
    exact .int _ _
end
end Mine
end
section
open PySem PySem.W PyProof.Rows
set_option linter.unusedVariables false
set_option maxRecDepth 100000
namespace Mine
open PySem.Calls PySem.Spec PySem.SeqAt

/-! bytes < bytes -/
theorem slot_bytes_lt : Slot "bytes" (cmpInfo .Lt).2.1 "bytes.__lt__" :=
  .of (owner := "bytes") (n := "__lt__") (by rw [typeLookup_type, builtinLookup_eq_fast]; kernel_rfl) (by decide +kernel) (by decide +kernel) (by decide +kernel)
    (by first | exact .inl (by decide +kernel) | exact .inr (by decide +kernel)) (by rw [isSubtype_type]; kernel_rfl)
theorem entry_bytes_lt : entryFor table "bytes.__lt__" = some Builtin.«bytes.__lt__» := entryFor_of_tree (by kernel_rfl)
theorem args_bytes_lt_2 (a b : Value) : argsOk "bytes.__lt__" ⟨[a, b], []⟩ := by
  unfold argsOk; rw [signature?_of (id := "bytes.__lt__") (n := ['_', '_', 't', 'l', '_', '_']) (o := ['s', 'e', 't', 'y', 'b']) (by kernel_rfl) PySem.W.FB.owner_bytes]; kernel_rfl
/-- the order of bytes -/
noncomputable def bltL : List UInt8 → List UInt8 → Bool
  | [], [] => false
  | [], _ :: _ => true
  | _ :: _, [] => false
  | x :: a, y :: b => if x < y then true else if x > y then false else bltL a b
theorem bltL_order : ∀ a b : List UInt8, Builtin.Bytes.holds "__lt__" (Builtin.Bytes.order a b) = bltL a b
  | [], [] => rfl
  | [], _ :: _ => rfl
  | _ :: _, [] => rfl
  | x :: a, y :: b => by
    unfold Builtin.Bytes.order bltL
    by_cases h1 : x < y
    · rw [if_pos h1, if_pos h1]; rfl
    · rw [if_neg h1, if_neg h1]
      by_cases h2 : x > y
      · rw [if_pos h2, if_pos h2]; rfl
      · rw [if_neg h2, if_neg h2]; exact bltL_order a b
theorem gives_bytes_lt (b c : Array UInt8) (t u : Tok) : Gives (Builtin.«bytes.__lt__» ⟨[.bytes b t, .bytes c u], []⟩) (.val (.bool (bltL b.toList c.toList))) := by
  refine .of_wp fun M A E s Q hq => ?_
  show wpAny M A (isInstance (.bytes c u) (.type "bytes") >>= fun r => _) _ E s
  refine wpAny_bind (wpAny_isInstance (PySem.W.typeIs_bytes s c u) F.sub_bytes_bytes ?_)
  exact wpAny_pure ⟨_, rfl, by rw [← bltL_order] at hq; exact hq⟩
noncomputable def ltD : Dat → Dat → Option Bool
  | .int a, .int b => some (decide (a < b))
  | .bytes a, .bytes b => some (bltL a.toList b.toList)
  | _, _ => none
section
variable {W : Wd} {lv : Nat} {d e : Dat} {r : Bool}
theorem op_ltD (h : ltD d e = some r) : OpOk W lv [d, e] (fun vs => compareOp .Lt (vs.getD 0 .none) (vs.getD 1 .none)) (.bool r) := by
  unfold ltD at h
  split at h
  · cases h; exact op_lt
  · cases h
    rename_i a b
    intro A h₀ fenv L m mu fz s vs Q E hA S R k
    cases R with
    | cons r1 R => cases R with
      | cons r2 R => cases R; cases r1; cases r2; exact compareOp_gives (op := .Lt) (PySem.W.typeIs_bytes s _ _) (PySem.W.typeIs_bytes s _ _) slot_bytes_lt entry_bytes_lt (args_bytes_lt_2 _ _) (gives_bytes_lt _ _ _ _) (fun e => nomatch e) (k _ fz s.heap s.toks (Sub.refl _) S (.bool _))
  · cases h
end
/-! a list that does not turn in a call -/
theorem perm_front {l : Led} {p : Addr × Obj} (nd : (l.map (·.1)).Nodup) (h : p ∈ l) : l.Perm (p :: l.filter fun q => !(q.1 == p.1)) := by
  induction l with
  | nil => cases h
  | cons q l ih =>
    rw [List.map_cons, List.nodup_cons] at nd
    by_cases e : q = p
    · subst e
      have : (l.filter fun r => !(r.1 == q.1)) = l := List.filter_eq_self.mpr fun r hr => by
        have : r.1 ≠ q.1 := fun e => nd.1 (List.mem_map.mpr ⟨r, hr, e⟩)
        simp [this]
      simp [List.filter_cons, this]
    · have hp : p ∈ l := by
        rcases List.mem_cons.mp h with rfl | h
        · exact absurd rfl e
        · exact h
      have hne : q.1 ≠ p.1 := fun e' => nd.1 (List.mem_map.mpr ⟨p, hp, e'.symm⟩)
      have : (q :: l).filter (fun r => !(r.1 == p.1)) = q :: l.filter fun r => !(r.1 == p.1) := by simp [List.filter_cons, hne]
      rw [this]
      exact ((ih nd.2 hp).cons q).trans (.swap _ _ _)
section
variable {W : Wd} {h₀ h : Heap} {L : Addr} {m : Str → Option Value} {mu fz : Led}
theorem SS.unfreeze {p : Addr × Obj} (x : SS W h₀ L m mu fz h) (hp : p ∈ fz) (hs : ∃ (vs : Array Value) (n : Nat), p.2.data = .seq vs n) : SS W h₀ L m (p :: mu) (fz.filter fun q => !(q.1 == p.1)) h := by
  obtain ⟨F, ⟨gl, g, l⟩, bs⟩ := x
  have nd := l.nodup
  rw [List.map_append, List.nodup_append, List.map_append, List.nodup_append] at nd
  refine ⟨F, ⟨gl, W.glDrop (fun a o q => ?_) g, l.perm (List.Perm.append_left _ ?_)⟩, bs⟩
  · rcases q with q | q
    · exact .inl (.inl q)
    · by_cases e : a = p.1
      · have : (a, o) = p := by
          have h1 := (l.news (a, o) (by simp [q])).1
          have h2 := (l.news p (by simp [hp])).1
          simp only at h1
          rw [e, h2] at h1
          cases h1
          rw [e]
        rw [← this] at hs
        exact .inr hs
      · exact .inl (.inr (List.mem_filter.mpr ⟨q, by simp [e]⟩))
  · exact ((perm_front nd.2.1.2.1 hp).append_left mu).trans List.perm_middle
end
theorem PRepA.noLst {W : Wd} {X : Fact} {MU MU' : Led} : ∀ {vs : List Value} {ps : List PV}, (∀ p ∈ ps, ∀ ds, p ≠ .lst ds) → PRepA W X MU vs ps → PRepA W X MU' vs ps
  | [], [], _, _ => trivial
  | v :: vs, p :: ps, h, ⟨a, b⟩ => by
    refine ⟨?_, PRepA.noLst (fun q hq => h q (.tail _ hq)) b⟩
    cases p with
    | dat d => exact a
    | fn lf F => exact a
    | lst ds => exact absurd rfl (h _ (.head _) ds)
theorem KRepA.noLst {W : Wd} {X Y : Fact} {MU MU' : Led} (s : FSub X Y) : ∀ {vs : List (Str × Value)} {ps : List (Str × PV)}, (∀ p ∈ ps, ∀ ds, p.2 ≠ .lst ds) → KRepA W X MU vs ps → KRepA W Y MU' vs ps
  | [], [], _, _ => trivial
  | v :: vs, p :: ps, h, ⟨e, a, b⟩ => by
    refine ⟨e, ?_, KRepA.noLst s (fun q hq => h q (.tail _ hq)) b⟩
    obtain ⟨x, p⟩ := p
    cases p with
    | dat d => exact Rep.mono s a
    | fn lf F => exact CallOk.mono s a
    | lst ds => exact absurd rfl (h _ (.head _) ds)
/-- a def that reads a list may be handed one that turns -/
theorem gcall_ro {W : Wd} {lv : Nat} {a : Addr} {H : List Dat → List PV → List (Str × PV) → Dat → Prop}
    (h : GCall W lv a (fun ps kps d => ∃ ds rest, ps = .dat (.list ds) :: rest ∧ H ds rest kps d)) (hd : ∀ ds rest kps d, H ds rest kps d → ∃ i, d = .int i)
    (hr : ∀ ds rest kps d, H ds rest kps d → (∀ p ∈ rest, ∀ ds, p ≠ .lst ds) ∧ ∀ p ∈ kps, ∀ ds, p.2 ≠ .lst ds) :
    GCall W lv a (fun ps kps d => ∃ pv ds rest, pv.items? = some ds ∧ ps = pv :: rest ∧ H ds rest kps d) := by
  intro A h₀ fenv L m mu fz s vs kvs ps kps d Q E hA S hps hkps hG k
  obtain ⟨pv, ds, rest, hi, rfl, hH⟩ := hG
  unfold PV.items? at hi
  split at hi
  · cases hi; exact h A h₀ fenv L m mu fz s vs kvs _ kps d Q E hA S hps hkps ⟨ds, rest, rfl, hH⟩ k
  · cases hi
    rename_i ds'
    match vs, hps with
    | v :: vs, ⟨hv, hvs⟩ =>
    obtain ⟨l, o, ws, n, rfl, hm, hc, hdi, hda, hre⟩ := hv
    obtain ⟨h1, h2⟩ := hr _ _ _ _ hH
    have S₁ := (S.perm (perm_front S.nodupMu hm)).freeze
    have s₁ : Sub fz ((l, o) :: fz) := .cons
    have nl : ∀ p ∈ fz, p.1 ≠ l := fun p hp e => S.ne (p := (l, o)) (q := p) hm hp e.symm
    refine h A h₀ fenv L m _ ((l, o) :: fz) s (.ref l :: vs) kvs (.dat (.list ds) :: rest) kps d Q E hA S₁ ⟨.list (.inr (.head _)) hc hda (hre.mono (Hs.sub s₁)), ?_⟩ (KRepA.noLst (Hs.sub s₁) h2 hkps) ⟨ds, rest, rfl, hH⟩ fun v fz' h' tk' s' S' R' => ?_
    · exact PRepA.noLst h1 (hvs.mono (Hs.sub s₁) (Sub.refl _))
    · have S₂ := S'.unfreeze (p := (l, o)) (s' _ (.head _)) ⟨_, _, hda⟩
      have S₃ := S₂.perm (perm_front S.nodupMu hm).symm
      refine k v _ h' tk' (fun p hp => List.mem_filter.mpr ⟨s' _ (.tail _ hp), by simp [nl p hp]⟩) S₃ ?_
      obtain ⟨i, rfl⟩ := hd _ _ _ _ hH
      cases R' with
      | int _ t => exact .int _ t
  · cases hi
end Mine
end
section
open PySem PySem.W PyProof.Rows
set_option linter.unusedVariables false
set_option maxRecDepth 100000
namespace Mine
open PySem.Calls PySem.Spec PySem.SeqAt
section
variable {W : Wd} {lv : Nat} {sc : Scope} {ps : List Str} {ρ ρ' : Names}
theorem et_fn_is_none {x : Str} {np cp pos : Pos} {kd lf : Nat} {F : List Dat → Option Dat} (hx : ρ.lookup x = some (.fn lf F)) : ET W lv sc ρ (.Compare (.Name x np) [.Is] [.Constant .none kd cp] pos) false := by
  intro A h₀ fenv L m mu fz env s Q E hA hE S hN k
  refine wpAny_isTrue_Compare1 ((ev_name hx) A h₀ fenv L m mu fz env s _ _ hA hE S hN fun v₁ fz₁ h₁' t₁ s₁ S₁ R₁ => ?_) (by with_unfolding_all rfl)
  refine ev_none A h₀ fenv L m mu fz₁ env _ _ _ hA hE S₁ (hN.grow s₁) fun v₂ fz₂ h₂' t₂ s₂ S₂ R₂ => ?_
  have R₂ : Rep (Hs W.base fz₂) v₂ .none := R₂
  cases R₂
  obtain ⟨a, o, fd, rfl, _⟩ := R₁
  refine is_none ?_
  exact wpAny_truthy_bool (k fz₂ h₂' t₂ (s₁.trans s₂) S₂)
theorem et_dat_is_none {x : Str} {np cp pos : Pos} {kd : Nat} {d : Dat} (hx : ρ.lookup x = some (.dat d)) : ET W lv sc ρ (.Compare (.Name x np) [.Is] [.Constant .none kd cp] pos) (noneD d) :=
  et_cmp (ev_name hx) ev_none op_is_none (by with_unfolding_all rfl)
end
/-- the turns of a while loop, some names kept -/
noncomputable def WhileX (W : Wd) (lv : Nat) (sc : Scope) (ps : List Str) (test : Expr) (body : List Stmt) (ρ ρ' : Names) : Prop := ∃ n ρe, WhileR W lv sc ps test body n ρ ρe ∧ SubN ρe ρ'
section
variable {W : Wd} {lv : Nat} {sc : Scope} {ps : List Str} {ρ ρ₁ ρ' : Names} {test : Expr} {body : List Stmt}
theorem ex_last {st : Stmt} (h : EX1 W lv sc ps ρ st (.next ρ₁)) (k : SubN ρ₁ ρ') : EXS W lv sc ps ρ [st] (.next ρ') := ex_seq (h.to k) ex_nil
theorem WhileX.done (h : ET W lv sc ρ test false) (k : SubN ρ ρ') : WhileX W lv sc ps test body ρ ρ' := ⟨0, ρ, .done h, k⟩
theorem WhileX.turn (h : ET W lv sc ρ test true) (k : EXS W lv sc ps ρ body (.next ρ₁)) (r : WhileX W lv sc ps test body ρ₁ ρ') : WhileX W lv sc ps test body ρ ρ' := let ⟨n, e, a, b⟩ := r; ⟨n + 1, e, .turn h k a, b⟩
theorem ex_whileX {pos : Pos} (h : WhileX W lv sc ps test body ρ ρ') : EX1 W lv sc ps ρ (.While test body [] pos) (.next ρ') := let ⟨_, _, a, b⟩ := h; (ex_while a).to b
end
/-- the program's function at an address -/
noncomputable def fdOf (K : Frag) (a : Addr) : FuncData := match K.lookup a with
  | some o => match o.data with
    | .func fd => fd
    | _ => default
  | none => default
end Mine
end
section
open PySem PySem.W PyProof.Rows
set_option linter.unusedVariables false
set_option maxRecDepth 100000
namespace Mine
open PySem.Calls PySem.Spec PySem.SeqAt

/-! ranges -/
theorem rangeSize_ofNat {a b : Int} {n : Nat} (h : b - a = n) : Builtin.Range.rangeSize a b 1 = (n : Int) := by
  rw [rangeSize_one]
  split <;> lia
theorem small1 {a b : Int} (ha : -1000000000000 ≤ a) (ha' : a ≤ 1000000000000) (hb : -1000000000000 ≤ b) (hb' : b ≤ 1000000000000) : Builtin.Range.small a b 1 = true := small_one (by (clear hb' hb; lia)) (by lia) (by (clear ha' ha; lia)) (by (clear ha' ha; lia))
theorem rangeD_zero (n : Nat) : rangeD 0 1 n = (List.range n).map fun i : Nat => Dat.int i := by
  unfold rangeD
  refine List.map_congr_left fun i _ => ?_
  congr 1; lia
theorem rangeD_one (a : Nat) (n : Nat) : rangeD a 1 n = (List.range n).map fun i : Nat => Dat.int ((a + i : Nat) : Int) := by
  unfold rangeD
  refine List.map_congr_left fun i _ => ?_
  congr 1; lia
section
variable {W : Wd} {lv : Nat} {sc scope : Scope} {ps : List Str} {ρ ρ' : Names}
theorem ei_rangeN {x : Str} {np pos : Pos} {e : Expr} {n : Nat} (hb : Boot W sc x (.type "range")) (h : EV W lv sc ρ e (.dat (.int n))) (hn : n ≤ 1000000000 := by omega) (hs : nStar e = true := by rfl) : EI (fun _ => []) W lv sc ρ (.Call (.Name x np) [e] [] pos) ((List.range n).map fun i : Nat => Dat.int i) := by
  rw [← rangeD_zero]
  exact ei_range1 hb hs h (small1 (by (clear hs hn h hb; lia)) (by (clear hs hn h hb; lia)) (by (clear hs h hb; lia)) (by (clear hs h hb; lia))) (rangeSize_ofNat (by (clear hs hn h hb; lia)))
theorem ei_range2N {x : Str} {np pos : Pos} {e f : Expr} {a b : Int} {k n : Nat} (hb : Boot W sc x (.type "range")) (h : EV W lv sc ρ e (.dat (.int a))) (h2 : EV W lv sc ρ f (.dat (.int b))) (ha : a = (k : Nat)) (hbn : b = ((k + n : Nat) : Int)) (hk : k + n ≤ 1000000000 := by omega) (hs : nStar e = true := by rfl) (hs2 : nStar f = true := by rfl) : EI (fun _ => []) W lv sc ρ (.Call (.Name x np) [e, f] [] pos) ((List.range n).map fun i : Nat => Dat.int ((k + i : Nat) : Int)) := by
  subst ha; subst hbn
  rw [← rangeD_one]
  exact ei_range2 hb hs h hs2 h2 (small1 (by (clear h2 h hs2 hs hk hb; lia)) (by (clear h2 h hs2 hs hb; lia)) (by (clear h2 h hs2 hs hk hb; lia)) (by (clear h2 h hs2 hs hb; lia))) (rangeSize_ofNat (by (clear h2 h hs2 hs hk hb; lia)))
theorem ev_list_rangeN {x y : Str} {np np' pos pos' : Pos} {e : Expr} {n : Nat} (hl : Boot W sc x (.type "list")) (hb : Boot W sc y (.type "range")) (h : EV W lv sc ρ e (.dat (.int n))) (hN : n ≤ 2 ^ 20) (hn : nStar e = true := by rfl) : EV W lv sc ρ (.Call (.Name x np) [.Call (.Name y np') [e] [] pos'] [] pos) (.dat (.list ((List.range n).map fun i : Nat => Dat.int i))) := by
  rw [← rangeD_zero]
  exact ev_list_range hl hb hn h (small1 (by (clear hn hN h hb hl; lia)) (by (clear hn hN h hb hl; lia)) (by (clear hn h hb hl; lia)) (by (clear hn h hb hl; lia))) (rangeSize_ofNat (by (clear hn hN h hb hl; lia))) hN

/-! comprehensions over typed items -/
open Classical in
noncomputable def unInj {α : Type} (inj : α → Dat) (out : α → List Dat) (d : Dat) : List Dat := if h : ∃ x, inj x = d then out h.choose else []
theorem unInj_inj {α : Type} {inj : α → Dat} (hinj : ∀ x y, inj x = inj y → x = y) (out : α → List Dat) (x : α) : unInj inj out (inj x) = out x := by
  unfold unInj
  have h : ∃ y, inj y = inj x := ⟨x, rfl⟩
  rw [dif_pos h]
  rw [hinj _ _ h.choose_spec]
theorem unInj_map {α : Type} {inj : α → Dat} (hinj : ∀ x y, inj x = inj y → x = y) (out : α → List Dat) (xs : List α) : (xs.map inj).flatMap (unInj inj out) = xs.flatMap out := by
  rw [List.flatMap_map]
  congr 1; funext x
  exact unInj_inj hinj out x
/-- the turns of a clause, its items typed -/
noncomputable def CMap {α : Type} (W : Wd) (lv : Nat) (scope : Scope) (elt t : Expr) (ifs : List Expr) (gs : List Comprehension) (ρ' : Names) (inj : α → Dat) (xs : List α) (out : α → List Dat) : Prop :=
  ∀ x ∈ xs, ∃ bs b, bindT t (inj x) = some bs ∧ ETs W lv scope (bs ++ ρ') .And ifs b ∧ (b = true → CB W lv scope elt gs (bs ++ ρ') (out x)) ∧ (b = false → out x = [])
theorem CMap.top {α : Type} {elt t : Expr} {ifs : List Expr} {gs : List Comprehension} {inj : α → Dat} {xs : List α} {out : α → List Dat} (hinj : ∀ x y, inj x = inj y → x = y) (h : CMap W lv scope elt t ifs gs ρ' inj xs out) : CTop W lv scope elt t ifs gs ρ' (xs.map inj) (unInj inj out) := by
  intro d hd
  obtain ⟨x, hx, rfl⟩ := List.mem_map.mp hd
  obtain ⟨bs, b, h1, h2, h3, h4⟩ := h x hx
  exact ⟨bs, b, h1, h2, fun e => by rw [unInj_inj hinj]; exact h3 e, fun e => by rw [unInj_inj hinj]; exact h4 e⟩
theorem flatMap_one {α β : Type} (xs : List α) (g : α → β) : xs.flatMap (fun x => [g x]) = xs.map g := by
  induction xs with
  | nil => rfl
  | cons x xs ih => rw [List.flatMap_cons, ih]; rfl
theorem flatMap_filter {α β : Type} (xs : List α) (p : α → Bool) (g : α → β) : xs.flatMap (fun x => if p x then [g x] else []) = (xs.filter p).map g := by
  induction xs with
  | nil => rfl
  | cons x xs ih =>
    rw [List.flatMap_cons, ih, List.filter_cons]
    split <;> simp
variable {α : Type} {elt t iter : Expr} {ifs : List Expr} {gs : List Comprehension} {pos px cpos : Pos} {inj : α → Dat} {xs : List α} {out : α → List Dat} {g : α → Dat} {p : α → Bool}
/-- [elt for t in iter] -/
theorem cmap_map (hb : ∀ x ∈ xs, ∃ bs, bindT t (inj x) = some bs ∧ EV W lv scope (bs ++ ρ') elt (.dat (g x))) : CMap W lv scope elt t [] [] ρ' inj xs (fun x => [g x]) := fun x hx => by
  obtain ⟨bs, h1, h2⟩ := hb x hx
  exact ⟨bs, true, h1, .nil, fun _ => ⟨g x, h2, rfl⟩, fun e => by cases e⟩
/-- [elt for t in iter if c] -/
theorem cmap_filter {c : Expr} (hb : ∀ x ∈ xs, ∃ bs, bindT t (inj x) = some bs ∧ ET W lv scope (bs ++ ρ') c (p x) ∧ (p x = true → EV W lv scope (bs ++ ρ') elt (.dat (g x)))) : CMap W lv scope elt t [c] [] ρ' inj xs (fun x => if p x then [g x] else []) := fun x hx => by
  obtain ⟨bs, h1, h2, h3⟩ := hb x hx
  refine ⟨bs, p x, h1, ?_, fun e => ⟨g x, h3 e, by simp [e]⟩, fun e => by simp [e]⟩
  cases e : p x with
  | true => rw [e] at h2; exact .go h2 rfl .nil
  | false => rw [e] at h2; exact .stop h2 rfl
/-- side conditions of a comprehension's scope -/
structure CSide (sc scope : Scope) (ρ ρ' : Names) (t iter : Expr) (ifs : List Expr) (gs : List Comprehension) : Prop where
  sc : compSc sc scope = true
  sub : SubF scope.names ρ ρ'
  free : FreeAll ρ scope.names = true
  tgt : tgtOk scope (⟨t, iter, ifs, 0⟩ :: gs)
  dis : ∀ x ∈ tn t, ρ'.lookup x = none
  set : ∀ x env, foldedSetIterable iter env x = pure x
theorem ef_cmap (hc : CSide sc scope ρ ρ' t iter ifs gs) (hinj : ∀ x y, inj x = inj y → x = y) (hi : EI id W lv sc ρ iter (xs.map inj)) (hm : CMap W lv scope elt t ifs gs ρ' inj xs out) (hz : (xs.flatMap out).length ≤ 1048576) :
    EF W lv sc ρ (.ListComp elt (⟨t, iter, ifs, 0⟩ :: gs) scope cpos) (xs.flatMap out) := by
  rw [← unInj_map hinj] at hz ⊢
  exact ef_comp hc.sc hc.sub hc.free hc.tgt hc.dis hc.set hi (hm.top hinj) hz
theorem ev_cmap (hc : CSide sc scope ρ ρ' t iter ifs gs) (hinj : ∀ x y, inj x = inj y → x = y) (hi : EI id W lv sc ρ iter (xs.map inj)) (hm : CMap W lv scope elt t ifs gs ρ' inj xs out) (hz : (xs.flatMap out).length ≤ 1048576) :
    EV W lv sc ρ (.ListComp elt (⟨t, iter, ifs, 0⟩ :: gs) scope cpos) (.dat (.list (xs.flatMap out))) := (ef_cmap hc hinj hi hm hz).ev
theorem ev_map (hc : CSide sc scope ρ ρ' t iter [] []) (hinj : ∀ x y, inj x = inj y → x = y) (hi : EI id W lv sc ρ iter (xs.map inj)) (hb : ∀ x ∈ xs, ∃ bs, bindT t (inj x) = some bs ∧ EV W lv scope (bs ++ ρ') elt (.dat (g x))) (hz : xs.length ≤ 1048576) :
    EV W lv sc ρ (.ListComp elt [⟨t, iter, [], 0⟩] scope cpos) (.dat (.list (xs.map g))) := by
  rw [← flatMap_one]
  exact ev_cmap hc hinj hi (cmap_map hb) (by rw [flatMap_one, List.length_map]; exact hz)
theorem ev_filter {c : Expr} (hc : CSide sc scope ρ ρ' t iter [c] []) (hinj : ∀ x y, inj x = inj y → x = y) (hi : EI id W lv sc ρ iter (xs.map inj)) (hb : ∀ x ∈ xs, ∃ bs, bindT t (inj x) = some bs ∧ ET W lv scope (bs ++ ρ') c (p x) ∧ (p x = true → EV W lv scope (bs ++ ρ') elt (.dat (g x)))) (hz : xs.length ≤ 1048576) :
    EV W lv sc ρ (.ListComp elt [⟨t, iter, [c], 0⟩] scope cpos) (.dat (.list ((xs.filter p).map g))) := by
  rw [← flatMap_filter]
  exact ev_cmap hc hinj hi (cmap_filter hb) (by rw [flatMap_filter, List.length_map]; exact Nat.le_trans (List.length_filter_le _ _) hz)
theorem exa_cmap {x : Str} (hc : CSide sc scope ρ ρ' t iter ifs gs) (hinj : ∀ x y, inj x = inj y → x = y) (hi : EI id W lv sc ρ iter (xs.map inj)) (hm : CMap W lv scope elt t ifs gs ρ' inj xs out) (hz : (xs.flatMap out).length ≤ 1048576) (hx : slot sc x) (hp : PlainName x) :
    EX1 W lv sc ps ρ (.Assign [.Name x px] (.ListComp elt (⟨t, iter, ifs, 0⟩ :: gs) scope cpos) pos) (.next ((x, .dat (.list (xs.flatMap out))) :: ρ)) := by
  have := ex_assign_comp (ps := ps) (px := px) (pos := pos) (cpos := cpos) hc.sc hc.sub hc.free hc.tgt hc.dis hc.set hi (hm.top hinj) (by rw [unInj_map hinj]; exact hz) hx hp
  rw [unInj_map hinj] at this
  exact this
theorem exa_map {x : Str} (hc : CSide sc scope ρ ρ' t iter [] []) (hinj : ∀ x y, inj x = inj y → x = y) (hi : EI id W lv sc ρ iter (xs.map inj)) (hb : ∀ x ∈ xs, ∃ bs, bindT t (inj x) = some bs ∧ EV W lv scope (bs ++ ρ') elt (.dat (g x))) (hz : xs.length ≤ 1048576) (hx : slot sc x) (hp : PlainName x) :
    EX1 W lv sc ps ρ (.Assign [.Name x px] (.ListComp elt [⟨t, iter, [], 0⟩] scope cpos) pos) (.next ((x, .dat (.list (xs.map g))) :: ρ)) := by
  rw [← flatMap_one]
  exact exa_cmap hc hinj hi (cmap_map hb) (by rw [flatMap_one, List.length_map]; exact hz) hx hp
theorem exa_filter {c : Expr} {x : Str} (hc : CSide sc scope ρ ρ' t iter [c] []) (hinj : ∀ x y, inj x = inj y → x = y) (hi : EI id W lv sc ρ iter (xs.map inj)) (hb : ∀ x ∈ xs, ∃ bs, bindT t (inj x) = some bs ∧ ET W lv scope (bs ++ ρ') c (p x) ∧ (p x = true → EV W lv scope (bs ++ ρ') elt (.dat (g x)))) (hz : xs.length ≤ 1048576) (hx : slot sc x) (hp : PlainName x) :
    EX1 W lv sc ps ρ (.Assign [.Name x px] (.ListComp elt [⟨t, iter, [c], 0⟩] scope cpos) pos) (.next ((x, .dat (.list ((xs.filter p).map g))) :: ρ)) := by
  rw [← flatMap_filter]
  exact exa_cmap hc hinj hi (cmap_filter hb) (by rw [flatMap_filter, List.length_map]; exact Nat.le_trans (List.length_filter_le _ _) hz) hx hp
end
theorem inj_int (x y : Int) (h : Dat.int x = Dat.int y) : x = y := by cases h; rfl
theorem inj_nat (x y : Nat) (h : Dat.int (x : Int) = Dat.int (y : Int)) : x = y := by injection h with h; lia
theorem inj_add (k x y : Nat) (h : Dat.int ((k + x : Nat) : Int) = Dat.int ((k + y : Nat) : Int)) : x = y := by injection h with h; lia
theorem tgtOk1 {scope : Scope} {x : Str} {p : Pos} {iter : Expr} {ifs : List Expr} (h : scope.names.lookup x = some .local ∨ scope.names.lookup x = some .cell) (hp : PlainName x) : tgtOk scope [⟨.Name x p, iter, ifs, 0⟩] := by
  intro y hy
  have hy : y ∈ [x] := hy
  rw [List.mem_singleton.mp hy]
  exact ⟨h, hp⟩
theorem dis1 {x : Str} {p : Pos} {ρ : Names} (h : ρ.lookup x = none) : ∀ y ∈ tn (.Name x p), ρ.lookup y = none := by
  intro y hy
  have hy : y ∈ [x] := hy
  rw [List.mem_singleton.mp hy]
  exact h
theorem cb_cmap {W : Wd} {lv : Nat} {sc : Scope} {ρ : Names} {α : Type} {elt t iter : Expr} {ifs : List Expr} {gs : List Comprehension} {inj : α → Dat} {xs : List α} {out : α → List Dat} (hset : ∀ x env, foldedSetIterable iter env x = pure x) (hdis : ∀ x ∈ tn t, ρ.lookup x = none) (hinj : ∀ x y, inj x = inj y → x = y)
    (hi : EI (fun _ => []) W lv sc ρ iter (xs.map inj)) (hm : CMap W lv sc elt t ifs gs ρ inj xs out) : CB W lv sc elt (⟨t, iter, ifs, 0⟩ :: gs) ρ (xs.flatMap out) :=
  ⟨rfl, hset, hdis, _, hi, unInj inj out, (unInj_map hinj out xs).symm, hm.top hinj⟩
theorem tgtOk2 {scope : Scope} {x y : Str} {p q : Pos} {iter iter' : Expr} {ifs ifs' : List Expr} (h : scope.names.lookup x = some .local ∨ scope.names.lookup x = some .cell) (hp : PlainName x) (h' : scope.names.lookup y = some .local ∨ scope.names.lookup y = some .cell) (hq : PlainName y) : tgtOk scope [⟨.Name x p, iter, ifs, 0⟩, ⟨.Name y q, iter', ifs', 0⟩] := by
  intro z hz
  have hz : z ∈ [x, y] := hz
  rcases List.mem_cons.mp hz with rfl | hz
  · exact ⟨h, hp⟩
  · rw [List.mem_singleton.mp hz]; exact ⟨h', hq⟩
end Mine
end
section
open PySem PySem.W PyProof.Rows
set_option linter.unusedVariables false
set_option maxRecDepth 100000
namespace Mine
open PySem.Calls PySem.Spec PySem.SeqAt

/-! a built-in's name, whatever is being handled -/
theorem eval_boot' {W : Wd} {sc : Scope} {x : Str} {pos : Pos} {v : Value} {A : Around} {env : Env} {s : Shared} {Q E : Value → Shared → Prop}
    (hE : EnvOk env sc) (hk : ∀ b o, W.base.get? b = some o → s.heap.get? b = some o) (hb : Boot W sc x v) (h : Q v s) :
    wpAny (model W.prog W.w) A (eval (.Name x pos) env) Q E s :=
  Name_function_global hE.kind (hE.gl x hb.sc) (loadGlobal_builtin (env := env) (by rw [hE.glob]; exact W.tb.g.keeps hk) (mg_none_of W.kb W.tb.g hb.top) (by rw [hE.blt]; exact W.tb.b.keeps hk) ((W.tb.builtins x hb.nm).trans hb.boot) h) hb.dbg

/-- what is known of an exception's arguments -/
noncomputable def ArgsAt (o : Option Str) (a0 : Value) (h : Heap) : Prop := match o with
  | none => True
  | some msg => ∃ t tk, a0 = .ref t ∧ h.TupAt t [.str msg tk]
theorem ArgsAt.up {o : Option Str} {a0 : Value} {h h' : Heap} (x : ArgsAt o a0 h) (k : h.UpToSlots h') : ArgsAt o a0 h' := by
  cases o with
  | none => trivial
  | some m => obtain ⟨t, tk, e, y⟩ := x; exact ⟨t, tk, e, y.of_slots k⟩
/-- the ledger stands in B -/
noncomputable def Cov (W : Wd) (h₀ : Heap) (L : Addr) (led fz : Led) (fs : List Addr) (h₁ B : Heap) : Prop :=
  (∀ b o, W.base.get? b = some o → B.get? b = some o) ∧ ∃ gl, W.Gl gl (Hs W.base fz) ∧ Ld h₀ L h₁ (gl ++ (led ++ fz)) ∧ (∀ p ∈ gl ++ (led ++ fz), B.get? p.1 = some p.2) ∧ ∀ b o, h₀.get? b = some o → b ∉ fs → B.get? b = some o
/-- an exception in flight in the frame env: h₁ the heap ahead of it, h now -/
structure Fly (W : Wd) (h₀ : Heap) (L : Addr) (led fz : Led) (A : Around) (env : Env) (cls : String) (o : Option Str) (e : Addr) (a0 : Value) (h₁ h : Heap) : Prop where
  up : h₁.UpToSlots h
  args : ArgsAt o a0 h
  fl : ∃ outer B, A.frames = some (env :: outer) ∧ Heap.FlyingW B (env :: outer) e (.type cls) a0 h ∧ Cov W h₀ L led fz (outer.filterMap (·.frame)) h₁ B
/-- one just made -/
structure Fresh (cls : String) (o : Option Str) (e : Addr) (a0 : Value) (h₁ h : Heap) : Prop where
  keeps : ∀ b ob, h₁.get? b = some ob → h.get? b = some ob
  new : h₁.get? e = none
  args : ArgsAt o a0 h
  there : ∃ oe vs, h.get? e = some oe ∧ oe.cls = .type cls ∧ oe.data = .fields vs ∧ vs[0]? = some a0 ∧ vs[1]? = some .none
noncomputable def Up (W : Wd) (h₀ : Heap) (L : Addr) (led fz : Led) (A : Around) (env : Env) (cls : String) (o : Option Str) (e : Addr) (a0 : Value) (h₁ h : Heap) : Prop := Fresh cls o e a0 h₁ h ∨ Fly W h₀ L led fz A env cls o e a0 h₁ h

theorem Ld.out {h₀ g h : Heap} {L L' : Addr} {m : Str → Option Value} {gl led mu fz : Led} (l : Ld g L' h (gl ++ ((led ++ mu) ++ fz))) (FG : Fr h₀ L g m) (st : h₀.StaysIn g) : Ld h₀ L h (gl ++ (mu ++ fz)) := by
  obtain ⟨oL, es, ep, hL, hLd, hLk, hLf⟩ := FG.ns
  refine ⟨fun p hp => ?_, ?_⟩
  · have hp' : p ∈ gl ++ ((led ++ mu) ++ fz) := by
      rcases List.mem_append.mp hp with hp | hp
      · exact List.mem_append_left _ hp
      · rw [List.append_assoc]; exact List.mem_append_right _ (List.mem_append_right _ hp)
    obtain ⟨a, b, c⟩ := l.news p hp'
    refine ⟨a, fun q => ?_, ?_⟩
    · rw [q, hL] at c; cases c
    · cases q : h₀.get? p.1 with
      | none => rfl
      | some o => rw [st _ _ q] at c; cases c
  · refine ((List.Sublist.append_left ?_ gl).map _).nodup l.nodup
    rw [List.append_assoc]
    exact List.sublist_append_right _ _
theorem SS.out {W : Wd} {h₀ g h : Heap} {L L' : Addr} {m m' : Str → Option Value} {led mu fz : Led} (x : SS W g L' m' (led ++ mu) fz h) (FG : Fr h₀ L g m) (st : h₀.StaysIn g) (bs : ∀ b o, W.base.get? b = some o → h₀.get? b = some o) : SS W h₀ L m mu fz h := by
  obtain ⟨F, ⟨gl, hg, l⟩, _⟩ := x
  obtain ⟨oL, es, ep, hL, hLd, hLk, hLf⟩ := FG.ns
  exact ⟨⟨⟨oL, es, ep, F.keep L oL hL, hLd, hLk, hLf⟩, fun b o e => F.keep b o (st b o e), FG.above⟩, ⟨gl, hg, l.out FG st⟩, bs⟩

section
variable {W : Wd} {lv : Nat} {A : Around} {E : Value → Shared → Prop} {M : Model}
theorem noFrame {g h₁ : Heap} {L' : Addr} {l : Led} {outer : List Env} {base : Heap} {env' : Env} (hf : env'.frame = some L') (ld : Ld g L' h₁ l) (ff : g.FunFrames base outer) {p : Addr × Obj} (hp : p ∈ l) : p.1 ∉ (env' :: outer).filterMap (·.frame) := by
  intro hm
  rw [List.filterMap_cons, hf] at hm
  rcases List.mem_cons.mp hm with q | hm
  · exact (ld.news p hp).2.1 q
  · obtain ⟨_, o, ho, _⟩ := ff.mem hm
    rw [(ld.news p hp).2.2] at ho; cases ho
theorem noFrameB {W : Wd} {g h₁ : Heap} {L' : Addr} {m' : Str → Option Value} {outer : List Env} {env' : Env} (hf : env'.frame = some L') (F : Fr g L' h₁ m') (bs : ∀ b o, W.base.get? b = some o → g.get? b = some o) (ff : g.FunFrames W.base outer) {b : Addr} {o : Obj} (hb : W.base.get? b = some o) : b ∉ (env' :: outer).filterMap (·.frame) := by
  intro hm
  rw [List.filterMap_cons, hf] at hm
  rcases List.mem_cons.mp hm with q | hm
  · have := Heap.lt_size (bs b o hb)
    have h2 := F.above
    rw [q] at this
    exact absurd (Nat.lt_of_lt_of_le this h2) (Nat.lt_irrefl _)
  · rw [(ff.mem hm).1] at hb; cases hb
/-- just made: all frames put aside -/
theorem fresh_cov {g h₁ : Heap} {L' : Addr} {m' : Str → Option Value} {led fz : Led} {outer : List Env} {env' : Env} {A₀ : Around} (hf : env'.frame = some L') (S : SS W g L' m' led fz h₁) (B : Below A₀ W.base outer g) : Cov W g L' led fz (outer.filterMap (·.frame)) h₁ (hideAll h₁ ((env' :: outer).filterMap (·.frame))) := by
  obtain ⟨F, ⟨gl, hg, l⟩, bs⟩ := S
  refine ⟨fun b o hb => hideAll_get _ (F.keep b o (bs b o hb)) (noFrameB hf F bs B.frames hb), gl, hg, l, fun p hp => hideAll_get _ (l.news p hp).1 (noFrame hf l B.frames hp), fun b o hb hn => hideAll_get _ (F.keep b o hb) fun hm => ?_⟩
  rw [List.filterMap_cons, hf] at hm
  rcases List.mem_cons.mp hm with q | hm
  · rw [q, kts_self F] at hb; cases hb
  · exact hn hm
/-- the exception leaves the callee's frame -/
theorem up_leaves {h₀ g h₁ : Heap} {L L' : Addr} {m m' : Str → Option Value} {env env' : Env} {outer : List Env} {led mu fz : Led} {cls : String} {o : Option Str} {e : Addr} {a0 : Value} {s : Shared} {Q : Unit → Shared → Prop}
    (hfr : (A.deeper env').frames = some (env' :: env :: outer)) (hA : A.frames = some (env :: outer)) (hf : env'.frame = some L') (hf0 : env.frame = some L) (hk' : env'.scope.kind = .function) (S : SS W g L' m' (led ++ mu) fz h₁) (FG : Fr h₀ L g m) (st : h₀.StaysIn g) (B : Below A W.base (env :: outer) g) (U : Up W g L' (led ++ mu) fz (A.deeper env') env' cls o e a0 h₁ s.heap)
    (k : ∀ h', Fly W h₀ L mu fz A env cls o e a0 h₁ h' → Q () { s with heap := h' }) : wpAny M (A.deeper env') (leaving env' (.ref e)) Q E s := by
  have sub : ∀ {gl : Led} {p : Addr × Obj}, p ∈ gl ++ (mu ++ fz) → p ∈ gl ++ ((led ++ mu) ++ fz) := fun hp => by
    rcases List.mem_append.mp hp with hp | hp
    · exact List.mem_append_left _ hp
    · rw [List.append_assoc]; exact List.mem_append_right _ (List.mem_append_right _ hp)
  have c6 : ∀ {B' : Heap}, (∀ b o, g.get? b = some o → b ∉ (env :: outer).filterMap (·.frame) → B'.get? b = some o) → ∀ b o, h₀.get? b = some o → b ∉ outer.filterMap (·.frame) → B'.get? b = some o := fun c b o hb hn => c b o (st b o hb) fun hm => by
    obtain ⟨en, he, hf⟩ := List.mem_filterMap.mp hm
    rcases List.mem_cons.mp he with rfl | he
    · rw [hf0] at hf; cases hf; rw [kts_self FG] at hb; cases hb
    · exact hn (List.mem_filterMap.mpr ⟨en, he, hf⟩)
  rcases U with U | U
  · have B₁ := pushX B S.fr hf hk'
    have hin : ∀ en ∈ (env' :: env :: outer), ∀ a, en.frame = some a → a ∈ (env' :: env :: outer).filterMap (·.frame) := fun en he b hb => List.mem_filterMap.mpr ⟨en, he, hb⟩
    have ff := funFrames_hide B₁.frames hin
    obtain ⟨oe, vs, he, hc, hd, h0, h1⟩ := U.there
    have st' : (hideAll h₁ ((env' :: env :: outer).filterMap (·.frame))).StaysIn s.heap := fun b o q => U.keeps b o (of_hideAll _ q)
    have ff' : s.heap.FunFrames (hideAll h₁ ((env' :: env :: outer).filterMap (·.frame))) (env' :: env :: outer) := ff.of_keeps fun b o q _ => ⟨o, U.keeps b o q, rfl⟩
    have hen : (hideAll h₁ ((env' :: env :: outer).filterMap (·.frame))).get? e = none := by
      cases q : (hideAll h₁ ((env' :: env :: outer).filterMap (·.frame))).get? e with
      | none => rfl
      | some o => have := of_hideAll _ q; rw [U.new] at this; cases this
    obtain ⟨c1, gl, c2, c3, c4, c5⟩ := fresh_cov (env' := env') hf S B
    refine wpAny_leaving_firstW hfr ff' hf he st' hen hd h1 h0 fun h' hL => ?_
    obtain ⟨k1, ⟨_, _, k2⟩, k3, k4⟩ := hL
    rw [hc] at k3
    exact k h' ⟨(Heap.UpToSlots.of_keeps U.keeps).trans k4, U.args.up k4, outer, _, hA, ⟨k1, hen, k2, k3⟩, c1, gl, c2, c3.out FG st, fun p hp => c4 p (sub hp), c6 c5⟩
  · obtain ⟨outer', B', hfr', fl, c1, gl, c2, c3, c4, c5⟩ := U.fl
    have e1 : outer' = env :: outer := by
      rw [hfr] at hfr'; injection hfr' with q; injection q with _ q; exact q.symm
    subst e1
    refine wpAny_leaves_onW hfr hf fl fun h' x1 x2 => ?_
    exact k h' ⟨U.up.trans x2, U.args.up x2, outer, B', hA, x1, c1, gl, c2, c3.out FG st, fun p hp => c4 p (sub hp), c6 c5⟩
end
/-! statements that raise -/
/-- under the names ρ an exception of the class cls comes, the names then being ρ' -/
noncomputable def RX (W : Wd) (lv : Nat) (sc : Scope) (ρ : Names) (t : Env → Sem Flow) (cls : String) (o : Option Str) (ρ' : Names) : Prop :=
  ∀ (A : Around) (h₀ : Heap) (L : Addr) (m : Str → Option Value) (loc own par fz : Led) (env : Env) (ad : Str → Addr) (s : Shared) (Q : Flow → Shared → Prop) (E : Value → Shared → Prop),
    AOk W lv A h₀ env L → EnvOk env sc → FS W sc [] h₀ L m loc own par fz env ad ρ s.heap →
    (∀ e a0 m' loc' own' fz' ad' h₁ h' tk', Sub fz fz' → FS W sc [] h₀ L m' loc' own' par fz' env ad' ρ' h₁ → Up W h₀ L (loc' ++ (own' ++ par)) fz' A env cls o e a0 h₁ h' → E (.ref e) { s with heap := h', toks := tk' }) →
    wpAny (model W.prog W.w) A (t env) Q E s
/-- a def of the top that raises -/
noncomputable def GRaise (W : Wd) (lv : Nat) (a : Addr) (cls : String) (o : Option Str) (G : List PV → List (Str × PV) → Prop) : Prop :=
  ∀ (A : Around) (h₀ : Heap) (fenv : Env) (L : Addr) (m : Str → Option Value) (mu fz : Led) (s : Shared) (vs : List Value) (kvs : List (Str × Value)) (ps : List PV) (kps : List (Str × PV)) (Q E : Value → Shared → Prop),
    AOk W lv A h₀ fenv L → SS W h₀ L m mu fz s.heap → PRepA W (Hs W.base fz) mu vs ps → KRepA W (Hs W.base fz) mu kvs kps → G ps kps →
    (∀ e a0 fz' h₁ h' tk', Sub fz fz' → SS W h₀ L m mu fz' h₁ → Fly W h₀ L mu fz' A fenv cls o e a0 h₁ h' → E (.ref e) { s with heap := h', toks := tk' }) → wpAny (model W.prog W.w) A (call (.ref a) vs kvs) Q E s
section
variable {W : Wd} {lv : Nat} {sc : Scope} {ρ ρ' ρ'' : Names} {cls : String} {o : Option Str}
theorem rx_head {st : Stmt} {rest : List Stmt} (h : RX W lv sc ρ (exec st) cls o ρ') : RX W lv sc ρ (execs (st :: rest)) cls o ρ' := by
  intro A h₀ L m loc own par fz env ad s Q E hA hE x c
  exact wpAny_execs_cons (h A h₀ L m loc own par fz env ad s _ E hA hE x c)
theorem rx_if {t : Expr} {body orelse : List Stmt} {pos : Pos} {b : Bool} (h : ET W lv sc ρ t b) (h1 : b = true → RX W lv sc ρ (execs body) cls o ρ') (h2 : b = false → RX W lv sc ρ (execs orelse) cls o ρ') : RX W lv sc ρ (exec (.If t body orelse pos)) cls o ρ' := by
  intro A h₀ L m loc own par fz env ad s Q E hA hE x c
  refine wpAny_If (h A h₀ env L m _ fz env s _ E hA hE x.ss x.full fun fz' h' t' s' S' => ?_)
  have x₁ := x.grow s' S'
  cases b with
  | true => exact h1 rfl A h₀ L m loc own par fz' env ad _ Q E hA hE x₁ fun e a0 m₂ loc₂ own₂ fz₂ ad₂ h₂ h₃ t₂ s₂ => c e a0 m₂ loc₂ own₂ fz₂ ad₂ h₂ h₃ t₂ (s'.trans s₂)
  | false => exact h2 rfl A h₀ L m loc own par fz' env ad _ Q E hA hE x₁ fun e a0 m₂ loc₂ own₂ fz₂ ad₂ h₂ h₃ t₂ s₂ => c e a0 m₂ loc₂ own₂ fz₂ ad₂ h₂ h₃ t₂ (s'.trans s₂)
/-- raise X, X a built-in class -/
theorem rx_raise_class {x : Str} {np pos : Pos} {N I : String} (hb : Boot W sc x (.type cls)) (hc : ExcClass cls N I) (hself : isSubtype (.type cls) (.type cls) = pure true) : RX W lv sc ρ (exec (.Raise (some (.Name x np)) none pos)) cls none ρ := by
  intro A h₀ L m loc own par fz env ad s Q E hA hE F c
  refine Raise_classB hA.hh hc hself (eval_boot hA hE F.ss hb.sc hb.dbg hb.nm hb.top hb.boot ⟨rfl, rfl⟩) fun h' e hn => ?_
  obtain ⟨ob, t, he, hcl, hd⟩ := hn.there
  exact c e t m loc own fz ad s.heap h' s.toks (Sub.refl _) F (.inl ⟨hn.keeps, hn.new, trivial, ob, _, he, hcl, hd, rfl, rfl⟩)
end
end Mine
end
section
open PySem PySem.W PyProof.Rows
set_option linter.unusedVariables false
set_option maxRecDepth 100000
namespace Mine
open PySem.Calls PySem.Spec PySem.SeqAt

noncomputable def scN (scope : Scope) : Bool := scP' scope && scope.names.all fun p => p.2 != .free && p.2 != .cell
section
variable {W : Wd} {lv : Nat} {scope sc : Scope} {ρ ρ' : Names} {A : Around} {h₀ : Heap} {fenv : Env} {L : Addr} {m : Str → Option Value} {mu fz : Led} {s : Shared}
  {name qual : Str} {params : Arguments} {body : List Stmt} {dV kV doc pm cdv ct oc : Value} {an od : Option Addr} {osl : Array (Option Value)} {f : Addr} {vs : List Value} {kvs : List (Str × Value)} {binds : List (Str × Value)} {cls : String} {o : Option Str}
theorem scN_facts (h : scN scope = true) : scP' scope = true ∧ (∀ x ∈ scope.names, x.2 ≠ .cell) ∧ ClosOk scope.names [] ∧ scope.kind = .function := by
  simp only [scN, Bool.and_eq_true, List.all_eq_true, bne_iff_ne, ne_eq] at h
  obtain ⟨h1, h2⟩ := h
  refine ⟨h1, fun x hx => (h2 x hx).2, ⟨fun x hx => absurd rfl (h2 _ (PySem.mem_of_lookup hx)).1, fun x y c hx => by cases hx⟩, ?_⟩
  simp only [scP', Bool.and_eq_true, beq_iff_eq] at h1
  exact h1.1
/-- a call of a def of the top that raises -/
theorem call_R (hK : W.K.lookup f = some ⟨oc, od, .func (fnX name qual params body scope [] dV kV doc pm an cdv ct), osl⟩) (hcode : codeIn W.K cdv qual = true)
    (hsc : scN scope = true) (hA : AOk W (lv + 1) A h₀ fenv L) (S : SS W h₀ L m mu fz s.heap) (hbind : BindsTo s (fnX name qual params body scope [] dV kV doc pm an cdv ct) ⟨vs, kvs⟩ binds)
    (hin : (binds.all fun y => scope.names.lookup y.1 == some .local) = true) {nsb : List Str} (hbn : binds.map (·.1) = nsb) (hnb : nsb.Nodup)
    (hB : BindR W (Hs W.base fz) mu [] (fun _ => 0) binds ρ) (hns : sc.names = scope.names) (hmo : sc.more = []) (hb : RX W lv sc ρ (execs body) cls o ρ') {Q E : Value → Shared → Prop}
    (k : ∀ e a0 fz' h₁ h' tk', Sub fz fz' → SS W h₀ L m mu fz' h₁ → Fly W h₀ L mu fz' A fenv cls o e a0 h₁ h' → E (.ref e) { s with heap := h', toks := tk' })
    (hco : scope.isCoroutine = false := by rfl) (hgen : scope.isGenerator = false := by rfl) : wpAny (model W.prog W.w) A (call (.ref f) vs kvs) Q E s := by
  obtain ⟨outer, A₀, hfr, B⟩ := hA.fr
  obtain ⟨hscp, hcell, hclos, hkind⟩ := scN_facts hsc
  have S0 := S
  obtain ⟨F, ⟨gl, hg, l⟩, bs⟩ := S
  refine wpAny_call (callX_plain B F l.news hA.T.nolimit hfr hA.hf hA.hk (S0.has (.inl (W.kb _ _ hK))) rfl (codeRec_of S0.kin hcode) (by have := hA.dp; (clear l hg bs F S0 hkind hclos hcell hscp B hfr hgen hco k hb hmo hns hB hnb hbn hin hbind hA hsc hcode hK; lia)) hbind (fun y hy => by have := List.all_eq_true.mp hin y hy; simpa using this) (fun g L' h₁ FG F' N' B' st hlt => ?_) hcell hco hgen hkind)
  obtain ⟨A', E', fs⟩ := enterP (qual := qual) (f := f) (cdv := cdv) (ps := []) (ad := fun _ => 0) (sc := sc) (ρc := []) hscp hin (hbn ▸ hnb) hclos hB (fun _ _ h => by cases h) (fun _ h => by cases h) (fun _ h => by cases h) hns hmo hA hg l bs F' N' ⟨by rw [hfr]; exact B', by rw [hfr]; rfl⟩ st
  rw [List.append_nil] at fs
  refine hb _ g L' _ [] [] mu fz _ _ _ _ _ A' E' fs fun e a0 m' loc' own' fz' ad' h₂ h' tk' s' x' U => ?_
  have ss := x'.ss
  rw [← List.append_assoc] at ss U
  have hfr' : (A.deeper (envX qual scope L' f cdv [])).frames = some (envX qual scope L' f cdv [] :: fenv :: outer) := by
    show A.frames.map _ = _
    rw [hfr]; rfl
  exact up_leaves hfr' hfr rfl hA.hf hkind ss FG st B' U fun h'' fly => k e a0 fz' h₂ h'' tk' s' (ss.out FG st bs) fly
end
/-! raising calls within expressions -/
noncomputable def RE (W : Wd) (lv : Nat) (sc : Scope) (ρ : Names) (e : Expr) (cls : String) (o : Option Str) : Prop :=
  ∀ (A : Around) (h₀ : Heap) (L : Addr) (m : Str → Option Value) (mu fz : Led) (env : Env) (s : Shared) (Q E : Value → Shared → Prop),
    AOk W lv A h₀ env L → EnvOk env sc → SS W h₀ L m mu fz s.heap → NamesOk W env L m mu (mu ++ fz) (Hs W.base fz) ρ →
    (∀ e a0 fz' h₁ h' tk', Sub fz fz' → SS W h₀ L m mu fz' h₁ → Fly W h₀ L mu fz' A env cls o e a0 h₁ h' → E (.ref e) { s with heap := h', toks := tk' }) → wpAny (model W.prog W.w) A (eval e env) Q E s
/-- statements into which an exception flies -/
noncomputable def RXc (W : Wd) (lv : Nat) (sc : Scope) (ρ : Names) (t : Env → Sem Flow) (cls : String) (o : Option Str) : Prop :=
  ∀ (A : Around) (h₀ : Heap) (L : Addr) (m : Str → Option Value) (loc own par fz : Led) (env : Env) (ad : Str → Addr) (s : Shared) (Q : Flow → Shared → Prop) (E : Value → Shared → Prop),
    AOk W lv A h₀ env L → EnvOk env sc → FS W sc [] h₀ L m loc own par fz env ad ρ s.heap →
    (∀ e a0 fz' h₁ h' tk', Sub fz fz' → FS W sc [] h₀ L m loc own par fz' env ad ρ h₁ → Fly W h₀ L (loc ++ (own ++ par)) fz' A env cls o e a0 h₁ h' → E (.ref e) { s with heap := h', toks := tk' }) →
    wpAny (model W.prog W.w) A (t env) Q E s
section
variable {W : Wd} {lv : Nat} {sc : Scope} {ρ ρ' : Names} {cls : String} {o : Option Str}
theorem re_call {x : Str} {np pos : Pos} {a : Addr} {es : List Expr} {ps : List PV} {lf : Nat} {G : List PV → List (Str × PV) → Prop} (hb : Glb W sc x a) (hc : GRaise W lf a cls o G) (h : EVs W lv sc ρ es ps) (hG : G ps []) (hl : lf ≤ lv) :
    RE W lv sc ρ (.Call (.Name x np) es [] pos) cls o := by
  intro A h₀ L m mu fz env s Q E hA hE S hN k
  refine wpAny_Call_ofName (eval_glob hA hE S hb.sc hb.dbg hb.top ?_)
  obtain ⟨ob, fd, ho, hd⟩ := hb.fn
  refine Calls.callWith_function (o := ob) (fd := fd) (evalArgs_ok h A h₀ env L m mu fz env s _ E hA hE S hN fun vs fz' h' t' s' S' R' => ?_)
  refine ⟨⟨S'.has (.inl (W.kb _ _ ho)), hd⟩, ?_⟩
  exact hc A h₀ env L m mu fz' _ vs [] ps [] _ _ (hA.less hl) S' R' trivial hG fun e a0 fz₂ h₁ h₂ tk₂ s₂ S₂ fly => k e a0 fz₂ h₁ h₂ tk₂ (s'.trans s₂) S₂ fly
theorem RE.go {e : Expr} (h : RE W lv sc ρ e cls o) {A : Around} {h₀ : Heap} {L : Addr} {m : Str → Option Value} {loc own par fz : Led} {env : Env} {ad : Str → Addr} {s : Shared} {Q E : Value → Shared → Prop}
    (hA : AOk W lv A h₀ env L) (hE : EnvOk env sc) (F : FS W sc [] h₀ L m loc own par fz env ad ρ s.heap)
    (c : ∀ e a0 fz' h₁ h' tk', Sub fz fz' → FS W sc [] h₀ L m loc own par fz' env ad ρ h₁ → Fly W h₀ L (loc ++ (own ++ par)) fz' A env cls o e a0 h₁ h' → E (.ref e) { s with heap := h', toks := tk' }) : wpAny (model W.prog W.w) A (eval e env) Q E s :=
  h A h₀ L m _ fz env s Q E hA hE F.ss F.full fun e a0 fz' h₁ h' tk' s' S' fly => c e a0 fz' h₁ h' tk' s' (F.grow s' S') fly
theorem rxc_unpack {x y : Str} {px py : Pos} {kd : Nat} {tp pos : Pos} {e : Expr} (h : RE W lv sc ρ e cls o) (hs : ∀ env, swapsWithSole [.Tuple [.Name x px, .Name y py] kd tp] e pos.line env = pure false := by intro _; rfl) (hw : ∀ env, swappedStores [.Tuple [.Name x px, .Name y py] kd tp] e env = pure none := by intro _; rfl) :
    RXc W lv sc ρ (exec (.Assign [.Tuple [.Name x px, .Name y py] kd tp] e pos)) cls o := by
  intro A h₀ L m loc own par fz env ad s Q E hA hE F c
  exact Assign_Tuple (h.go hA hE F c) (hs env) (hw env)
theorem rxc_head {st : Stmt} {rest : List Stmt} (h : RXc W lv sc ρ (exec st) cls o) : RXc W lv sc ρ (execs (st :: rest)) cls o := by
  intro A h₀ L m loc own par fz env ad s Q E hA hE F c
  exact wpAny_execs_cons (h A h₀ L m loc own par fz env ad s _ E hA hE F c)
/-- a try whose body goes on -/
theorem ex_try {body : List Stmt} {h₀ : ExceptHandler} {hs : List ExceptHandler} {pos : Pos} {ps : List Str} (h : EXS W lv sc ps ρ body (.next ρ')) : EX1 W lv sc ps ρ (.Try body (h₀ :: hs) [] [] pos) (.next ρ') := by
  intro A h₀ L m loc own par fz env ad s Q E hA hE F c
  refine wpAny_Try_except (h A h₀ L m loc own par fz env ad s _ _ hA hE F fun fl m₁ loc₁ own₁ par₁ fz₁ ad₁ h₁ t₁ s₁ x₁ f₁ p₁ a₁ l₁ => ?_)
  cases f₁
  exact wpAny_execs_nil (c _ m₁ loc₁ own₁ par₁ fz₁ ad₁ h₁ t₁ s₁ x₁ rfl p₁ a₁ l₁)
/-- a name read where the ledger stands -/
theorem load_led {env : Env} {L : Addr} {m : Str → Option Value} {N : Led} {x : Str} {v : Value} {A : Around} {Q E : Value → Shared → Prop} {s : Shared} {M : Model}
    (hE : EnvOk env sc) (hns : s.heap.Ns L m) (hN : ∀ p ∈ N, s.heap.get? p.1 = some p.2) (l : Loads env L m N x v) (hp : PlainName x) (h : Q v s) : wpAny M A (loadName env x) Q E s := by
  cases l with
  | here a b c => exact wpAny_loadName_local hE.kind b (by rw [a]; exact hns) c h
  | block a b c d => exact wpAny_loadName_local hE.kind a (c.ns (hN _ b)) d h
  | cell a b c d =>
    rcases a with a | a
    · exact wpAny_loadName_cell hE.kind a b ⟨_, hN _ c, d⟩ h
    · exact wpAny_loadName_free hE.kind a b ⟨_, hN _ c, d⟩ h hp.2
/-- the exception is met: the clause's body runs -/
theorem fly_caught {A : Around} {h₀ : Heap} {L : Addr} {led fz : Led} {env : Env} {s : Shared} {h₁ : Heap} {e : Addr} {a0 : Value} {T : String} {X : Str} {np pos : Pos} {b₀ : Stmt} {suite : List Stmt} {rest : List ExceptHandler} {Q : Flow → Shared → Prop} {E : Value → Shared → Prop}
    (hA : AOk W lv A h₀ env L) (hE : EnvOk env sc) (fly : Fly W h₀ L led fz A env cls o e a0 h₁ s.heap) (hb : Boot W sc X (.type T))
    (hexc : isSubtype (.type T) (.type "BaseException") = pure true) (hnt : isSubtype (.type ((Manifest.find? T).elim "type" fun x => x.metatype)) (.type "tuple") = pure false) (hsub : isSubtype (.type cls) (.type T) = pure true)
    (k : ∀ h', Fly W h₀ L led fz A env cls o e a0 h₁ h' → wpAny (model W.prog W.w) (A.mark (some (.ref e))) (execs (b₀ :: suite) env) Q (notedBy (model W.prog W.w) (A.mark (some (.ref e))) env (cameBackBy (model W.prog W.w) A env E)) { s with heap := h' }) :
    wpAny (model W.prog W.w) A (noteFrame (.ref e) env)
      (fun _ s₂ => wpAny (model W.prog W.w) A (setFlight (.ref e) none) (fun _ s₃ => wpAny (model W.prog W.w) A (handleBy (.ref e) env (.ExceptHandler (some (.Name X np)) none (b₀ :: suite) pos :: rest)) Q E s₃) E s₂) E s := by
  obtain ⟨outer, B, hfr, fl, c1, gl, c2, c3, c4, c5⟩ := fly.fl
  refine wpAny_looks_onW hfr hA.hf fl fun h₃ held x1 => ?_
  refine wpAny_landsW held fun h₄ fl₄ x2 => ?_
  obtain ⟨ob, hob, hobc⟩ := fl₄.there
  refine wpAny_handleBy_builtin (X := cls) (T := T) (b := true) hexc hnt hsub (eval_boot' hE (fun b o q => fl₄.1 b o (c1 b o q)) hb ⟨rfl, ⟨ob, hob, hobc⟩, ?_⟩)
  rw [if_pos rfl]
  refine lands_againW fl₄ fun h₅ fl₅ x3 => ?_
  have up := x1.trans (x2.trans x3)
  exact k h₅ ⟨fly.up.trans up, fly.args.up up, outer, B, hfr, fl₅, c1, gl, c2, c3, c4, c5⟩
/-- try: .. except X: return y, the exception coming -/
theorem ex_try_esc {body : List Stmt} {y X : Str} {T : String} {np yp rp hp pos : Pos} {ds : List Dat} (hx : RXc W lv sc ρ (execs body) cls o) (hb : Boot W sc X (.type T))
    (hexc : isSubtype (.type T) (.type "BaseException") = pure true) (hnt : isSubtype (.type ((Manifest.find? T).elim "type" fun x => x.metatype)) (.type "tuple") = pure false) (hsub : isSubtype (.type cls) (.type T) = pure true)
    (hy : ρ.lookup y = some (.lst ds)) : EX1 W lv sc [] ρ (.Try body [.ExceptHandler (some (.Name X np)) none [.Return (some (.Name y yp)) rp] hp] [] [] pos) (.esc (.list ds)) := by
  intro A h₀ L m loc own par fz env ad s Q E hA hE F c
  refine wpAny_Try_except (hx A h₀ L m loc own par fz env ad s _ _ hA hE F fun e a0 fz' h₁ h₂ tk s' F' fly => ?_)
  refine fly_caught hA hE fly hb hexc hnt hsub fun h₅ fly₅ => ?_
  obtain ⟨outer, B, hfr, fl, c1, gl, c2, c3, c4, c5⟩ := fly₅.fl
  have stand : ∀ p ∈ gl ++ ((loc ++ (own ++ par)) ++ fz'), h₅.get? p.1 = some p.2 := fun p hp => fl.1 _ _ (c4 p hp)
  refine wpAny_execs_cons (wpAny_Return_some (wpAny_Name (load_led hE (fly₅.up.ns F'.ss.fr.ns) (fun p hp => stand p (List.mem_append_right _ hp)) (by rw [List.append_assoc]; exact (F'.ls y ds hy).1) (F'.nm y _ hy).1 ?_) (F'.nm y _ hy).1.1))
  obtain ⟨ws, n, hm, hr⟩ := (F'.ls y ds hy).2
  rw [if_neg (by simp)] at hm
  have ndo : (own.map (·.1)).Nodup := by
    have nd := F'.ss.nodupMu
    rw [List.map_append, List.nodup_append, List.map_append, List.nodup_append] at nd
    exact nd.2.1.1
  have pf := perm_front ndo hm
  refine c _ m loc (own.filter fun q => !(q.1 == ad y)) par ((ad y, listOf ws.toArray n) :: fz') ad h₅ tk (s'.trans .cons) ⟨fun b o q => fl.1 _ _ (c1 b o q), ⟨gl, W.glMono (Hs.sub .cons) c2, ?_⟩, ?_⟩ ⟨_, rfl, .list (.inr (.head _)) rfl rfl (hr.mono (Hs.sub .cons))⟩ (Par.refl _ _ _) (fun _ _ => rfl) rfl
  · have l₅ : Ld h₀ L h₅ (gl ++ ((loc ++ (own ++ par)) ++ fz')) := ⟨fun p hp => ⟨stand p hp, (c3.news p hp).2⟩, c3.nodup⟩
    refine l₅.perm (List.Perm.append_left _ ?_)
    have p1 : (loc ++ (own ++ par) ++ fz').Perm (loc ++ ((ad y, listOf ws.toArray n) :: (own.filter fun q => !(q.1 == ad y)) ++ par) ++ fz') := List.Perm.append_right _ (List.Perm.append_left _ (List.Perm.append_right _ pf))
    refine p1.trans ?_
    have p2 : (loc ++ ((ad y, listOf ws.toArray n) :: (own.filter fun q => !(q.1 == ad y)) ++ par) ++ fz').Perm ((ad y, listOf ws.toArray n) :: (loc ++ ((own.filter fun q => !(q.1 == ad y)) ++ par) ++ fz')) := List.Perm.append_right _ List.perm_middle
    refine p2.trans ?_
    exact List.perm_middle.symm
  · exact (Heap.UpToSlots.of_keeps F'.ss.fr.keep).trans fly₅.up
end
/-! the frame right above the base -/
/-- a def of the top that may meet exceptions, called by the outermost frame -/
noncomputable def GEsc (W : Wd) (lv : Nat) (a : Addr) (G : List PV → List (Str × PV) → Dat → Prop) : Prop :=
  ∀ (A : Around) (fenv : Env) (L : Addr) (m : Str → Option Value) (mu fz : Led) (s : Shared) (vs : List Value) (kvs : List (Str × Value)) (ps : List PV) (kps : List (Str × PV)) (d : Dat) (Q E : Value → Shared → Prop),
    AOk W lv A W.base fenv L → SS W W.base L m mu fz s.heap → PRepA W (Hs W.base fz) mu vs ps → KRepA W (Hs W.base fz) mu kvs kps → G ps kps d →
    Cont W W.base L m mu fz s (fun X v => Rep X v d) Q → wpAny (model W.prog W.w) A (call (.ref a) vs kvs) Q E s
section
variable {W : Wd} {lv : Nat} {scope sc : Scope} {ρ ρ' : Names} {A : Around} {fenv : Env} {L : Addr} {m : Str → Option Value} {mu fz : Led} {s : Shared} {E : Value → Shared → Prop}
  {name qual : Str} {params : Arguments} {body : List Stmt} {dV kV doc pm cdv ct oc : Value} {an od : Option Addr} {osl : Array (Option Value)} {f : Addr} {vs : List Value} {kvs : List (Str × Value)} {binds : List (Str × Value)}
theorem call_E (hK : W.K.lookup f = some ⟨oc, od, .func (fnX name qual params body scope [] dV kV doc pm an cdv ct), osl⟩) (hcode : codeIn W.K cdv qual = true)
    (hsc : scN scope = true) {d : Dat} (hA : AOk W (lv + 1) A W.base fenv L) (S : SS W W.base L m mu fz s.heap) (hbind : BindsTo s (fnX name qual params body scope [] dV kV doc pm an cdv ct) ⟨vs, kvs⟩ binds)
    (hin : (binds.all fun y => scope.names.lookup y.1 == some .local) = true) {nsb : List Str} (hbn : binds.map (·.1) = nsb) (hnb : nsb.Nodup)
    (hB : BindR W (Hs W.base fz) mu [] (fun _ => 0) binds ρ) (hns : sc.names = scope.names) (hmo : sc.more = []) (hb : EXS W lv sc [] ρ body (.esc d)) (Q : Value → Shared → Prop)
    (k : Cont W W.base L m mu fz s (fun X v => Rep X v d) Q)
    (hco : scope.isCoroutine = false := by rfl) (hgen : scope.isGenerator = false := by rfl) : wpAny (model W.prog W.w) A (call (.ref f) vs kvs) Q E s := by
  obtain ⟨outer, A₀, hfr, B⟩ := hA.fr
  obtain ⟨hscp, hcell, hclos, hkind⟩ := scN_facts hsc
  have S0 := S
  obtain ⟨F, ⟨gl, hg, l⟩, bs⟩ := S
  obtain ⟨FG, BG, st, _⟩ := groundX (R := fun _ _ => True) B F l.news hfr hA.hf hA.hk
  refine wpAny_call ?_
  refine codeAny_call_def (fd := fnX name qual params body scope [] dV kV doc pm an cdv ct) (body := body) (binds := binds) (by have := hA.dp; (clear st BG FG l hg bs F S0 hkind hclos hcell hscp B hfr hgen hco k hb hmo hns hB hnb hbn hin hbind hA hsc hcode hK; lia)) (S0.has (.inl (W.kb _ _ hK))) rfl (hA.T.nolimit.keeps F.keep) (codeRec_of S0.kin hcode) rfl hbind hcell (fun y hy => by have := List.all_eq_true.mp hin y hy; simpa using this) (fun h₁ hns₁ hk₁ => ?_) hco hgen hkind
  have F' : Fr (hideAll s.heap ((gl ++ (mu ++ fz)).map (·.1))) s.heap.objs.size h₁ (fun y => binds.reverse.lookup y) := ⟨hns₁, fun b o e => hk₁ b o (of_hideAll _ e), Nat.le_of_eq (hideAll_size _ _)⟩
  have N' : News (hideAll s.heap ((gl ++ (mu ++ fz)).map (·.1))) s.heap.objs.size h₁ (gl ++ (mu ++ fz)) := fun p hp => ⟨hk₁ _ _ (l.news p hp).1, Nat.ne_of_lt (Heap.lt_size (l.news p hp).1), hideAll_none _ (List.mem_map_of_mem hp)⟩
  obtain ⟨A', E', fs⟩ := enterP (qual := qual) (f := f) (cdv := cdv) (ps := []) (ad := fun _ => 0) (sc := sc) (ρc := []) hscp hin (hbn ▸ hnb) hclos hB (fun _ _ h => by cases h) (fun _ h => by cases h) (fun _ h => by cases h) hns hmo hA hg l bs F' N' ⟨by rw [hfr]; exact BG, by rw [hfr]; rfl⟩ st
  rw [List.append_nil] at fs
  refine hb _ _ _ _ [] [] mu fz _ _ _ _ _ A' E' fs fun fl m' loc' own' par' fz' ad' h' tk' s' x' f' p' a' l' => ?_
  obtain ⟨v, rfl, rv⟩ := f'
  obtain ⟨e1, ⟨gl', hg', l''⟩, e3⟩ := x'
  have nd : (par'.map (·.1)).Nodup := by
    have nd := l''.nodup
    rw [List.map_append, List.nodup_append, List.map_append, List.nodup_append, List.map_append, List.nodup_append, List.map_append, List.nodup_append] at nd
    exact nd.2.1.1.2.1.2.1
  have e := p'.eq nd
  subst e
  rw [← List.append_assoc loc'] at l''
  have lo := l''.out FG st
  refine k v fz' h' tk' s' ⟨⟨e3.ns FG.ns, e1, F.above⟩, ⟨gl', hg', lo⟩, fun b o q => q⟩ rv
end
/-- statements of the outermost frame, that give d back -/
noncomputable def EXL (W : Wd) (lv : Nat) (sc : Scope) (ρ : Names) (t : Env → Sem Flow) (d : Dat) : Prop :=
  ∀ (A : Around) (L : Addr) (m : Str → Option Value) (loc own par fz : Led) (env : Env) (ad : Str → Addr) (s : Shared) (Q : Flow → Shared → Prop) (E : Value → Shared → Prop),
    AOk W lv A W.base env L → EnvOk env sc → FS W sc [] W.base L m loc own par fz env ad ρ s.heap →
    (∀ v m' loc' own' fz' h' tk', Sub fz fz' → SS W W.base L m' (loc' ++ (own' ++ par)) fz' h' → Rep (Hs W.base fz') v d → Q (.ret v) { s with heap := h', toks := tk' }) →
    wpAny (model W.prog W.w) A (t env) Q E s
section
variable {W : Wd} {lv : Nat} {sc : Scope} {ρ ρ' : Names} {d : Dat}
theorem exl_of {t : Env → Sem Flow} (h : EX W lv sc [] ρ t (.ret d ρ')) : EXL W lv sc ρ t d := by
  intro A L m loc own par fz env ad s Q E hA hE F c
  refine h A _ L m loc own par fz env ad s Q E hA hE F fun fl m' loc' own' par' fz' ad' h' tk' s' x' f' p' a' l' => ?_
  obtain ⟨v, rfl, rv⟩ := f'
  obtain ⟨sc₂, x'⟩ := x'
  have e := p'.eq x'.ndPar
  subst e
  exact c v m' loc' own' fz' h' tk' s' x'.ss rv
theorem exl_exr {l : List Stmt} (h : EXR W lv sc ρ l d) : EXL W lv sc ρ (execs l) d := let ⟨_, h⟩ := h; exl_of h
theorem exl_seq {st : Stmt} {rest : List Stmt} (h : EX1 W lv sc [] ρ st (.next ρ')) (k : EXL W lv sc ρ' (execs rest) d) : EXL W lv sc ρ (execs (st :: rest)) d := by
  intro A L m loc own par fz env ad s Q E hA hE F c
  refine wpAny_execs_cons (h A _ L m loc own par fz env ad s _ E hA hE F fun fl m₁ loc₁ own₁ par₁ fz₁ ad₁ h₁ t₁ s₁ x₁ f₁ p₁ a₁ l₁ => ?_)
  cases f₁
  have x₁ : FS W sc [] W.base L m₁ loc₁ own₁ par₁ fz₁ env ad₁ ρ' h₁ := x₁
  have e := p₁.eq x₁.ndPar
  subst e
  exact k A L m₁ loc₁ own₁ _ fz₁ env ad₁ _ Q E hA hE x₁ fun v m' loc' own' fz' h' tk' s' => c v m' loc' own' fz' h' tk' (s₁.trans s')
theorem exl_freeze {x : Str} {ds : List Dat} {t : Env → Sem Flow} (hx : ρ.lookup x = some (.lst ds)) (h : EXL W lv sc ((x, .dat (.list ds)) :: ρ) t d) : EXL W lv sc ρ t d := by
  intro A L m loc own par fz env ad s Q E hA hE F c
  obtain ⟨own', o, F'⟩ := F.freeze hx (by simp)
  exact h A L m loc own' par _ env ad s Q E hA hE F' fun v m' loc' own' fz' h' tk' s' => c v m' loc' own' fz' h' tk' (Sub.trans .cons s')
/-- an if that leaves in one way only: here it does not -/
theorem exl_if {t : Expr} {body rest : List Stmt} {pos : Pos} (h : ET W lv sc ρ t false) (k : EXL W lv sc ρ (execs rest) d) : EXL W lv sc ρ (execs (.If t body [] pos :: rest)) d :=
  exl_seq (ex_if h (fun q => by cases q) fun _ => ex_nil) k
/-- x = f(..), f one that meets exceptions -/
theorem exl_assign {x f : Str} {px np pos cpos : Pos} {a : Addr} {es : List Expr} {ps : List PV} {lf : Nat} {G : List PV → List (Str × PV) → Dat → Prop} {d' : Dat} {rest : List Stmt} (hb : Glb W sc f a) (hc : GEsc W lf a G) (h : EVs W lv sc ρ es ps) (hG : G ps [] d') (hl : lf ≤ lv) (hx : slot sc x) (hp : PlainName x)
    (k : EXL W lv sc ((x, .dat d') :: ρ) (execs rest) d) (hs : ∀ env, swapsWith (.Call (.Name f np) es [] cpos) (some (.Name x px)) pos.line env = pure false := by intro _; rfl) : EXL W lv sc ρ (execs (.Assign [.Name x px] (.Call (.Name f np) es [] cpos) pos :: rest)) d := by
  intro A L m loc own par fz env ad s Q E hA hE F c
  refine wpAny_execs_cons (wpAny_Assign_Name ?_ (hs env))
  refine wpAny_Call_ofName (eval_glob hA hE F.ss hb.sc hb.dbg hb.top ?_)
  obtain ⟨ob, fd, ho, hd⟩ := hb.fn
  refine Calls.callWith_function (o := ob) (fd := fd) (evalArgs_ok h A _ env L m _ fz env s _ E hA hE F.ss F.full fun vs fz' h' t' s' S' R' => ?_)
  refine ⟨⟨S'.has (.inl (W.kb _ _ ho)), hd⟩, ?_⟩
  refine hc A env L m _ fz' _ vs [] ps [] d' _ _ (hA.less hl) S' R' trivial hG fun v fz₂ h₂ tk₂ s₂ S₂ R₂ => ?_
  have x₁ := F.grow (s'.trans s₂) S₂
  refine store_ok hE x₁.ss (x₁.st x hx) fun m' loc' h₃ tk₃ S₃ st₃ => ?_
  have x₂ := x₁.moved (bs := [(x, .dat d')]) S₃ (st₃.moved (pv := .dat d') hp fun MU Y q => Rep.mono q R₂) rfl
  exact k A L m' loc' own par fz₂ env ad _ Q E hA hE x₂ fun v m' loc' own' fz' h' tk' s₄ => c v m' loc' own' fz' h' tk' (s'.trans (s₂.trans s₄))
end
end Mine
end
section
open PySem PySem.W PyProof.Rows
set_option linter.unusedVariables false
set_option maxRecDepth 100000
namespace Mine
open PySem.Calls PySem.Spec PySem.SeqAt
section
variable {W : Wd} {lv lf : Nat} {sc lsc lsc' : Scope} {ρ ρc ρ' : Names} {tabs : List (Addr × Addr × Str)} {t : Addr × Addr × Str} {x : Str} {px pos lpos : Pos} {params : Arguments} {F : List Dat → Option Dat} {pn : List Str} {q : Str} {rest : List Stmt} {d : Dat}
/-- x = lambda ..: in the outermost frame -/
theorem exl_lambda {body : Expr} (hT : Tabs W tabs t) (hcode : sc.more.lookup ("@code" : Str) = some (.int t.1)) (hqual : sc.more.lookup ("@qual" : Str) = some (.str q)) (hq : q ++ "<lambda>" = t.2.2)
    (I : Inner lsc ρc) (hρ : ∀ p ∈ ρc, ρ.lookup p.1 = some p.2 ∧ sc.names.lookup p.1 = some .cell) (hd : allDat ρc = true) (hx : slot sc x) (hxc : x ∉ ρc.map (·.1)) (hp : PlainName x)
    (hdef : ∀ env, defaultsOf params env = ([], [])) (hbind : ∀ (vs : List Value) (cl : List (Str × Addr)) (pm cdv ctv : Value), vs.length = pn.length → bindArgs (kla_fn "<lambda>" t.2.2 params body lsc cl pm cdv ctv) ⟨vs, []⟩ = pure (pn.zip vs))
    (hpn : (pn.all fun y => lsc.names.lookup y == some .local) = true) (hnd : pn.Nodup) (hpl : ∀ y ∈ pn, PlainName y) (hns : lsc'.names = lsc.names) (hmo : lsc'.more = [])
    (hb : ∀ ds d, F ds = some d → ds.length = pn.length ∧ EV W lf lsc' (zipD pn ds ++ ρc) body (.dat d)) (hco : lsc.isCoroutine = false) (hgen : lsc.isGenerator = false)
    (k : EXL W lv (unslots sc (ρc.map (·.1))) ((x, .fn (lf + 1) F) :: ρ) (execs rest) d) : EXL W lv sc ρ (execs (.Assign [.Name x px] (.Lambda params body lsc lpos) pos :: rest)) d := by
  intro A L m loc own par fz env ad s Q E hA hE F₀ c
  obtain ⟨loc₁, fz₁, s₁, F₁, hE₁, C₁⟩ := F₀.freezeCells ρc hE hρ I.nd
  obtain ⟨hcl, hclos, _⟩ := capR_closed I hE.inj C₁
  refine wpAny_execs_cons (wpAny_Assign_Name (kla_eval (hdef env) ?_) rfl)
  have hqe : env.qual ++ "<lambda>" = t.2.2 := by rw [hE.qual q hqual]; exact hq
  have hce : env.code = .ref t.1 := by have := hE.code _ hcode; simpa using this
  rw [hqe]
  refine make_lam hA hT.gl hT.mem hT.nd hT.code F₁.ss hcl hE.glob hce fun f fz₂ h₂ tk₂ c' ctv pm s₂ S₂ hf hcx => ?_
  have F₂ := F₁.grow s₂ S₂
  have hfn : W.base.get? f = none := S₂.noBase hf
  have C₂ : ClR W (Hs W.base fz₂) [] [] (fun _ => 0) lsc.names (closL env.cells lsc.names []) ρc := ClR.mono (Hs.sub s₂) (capR_clR I (fun a o h => .inr h) C₁ hd)
  have hok : CallOk W (lf + 1) (Hs W.base fz₂) (.ref f) F := callok_L (.inr hf) hfn hcx (fun vs hv => hbind vs _ _ _ _ hv) I.sc hpn hnd hpl hclos C₂ hns hmo hb hco hgen
  have hx₁ : slot (unslots sc (ρc.map (·.1))) x := by
    unfold slot; rw [unslots_glob (k := .local) hxc]; exact hx
  refine store_ok hE₁ F₂.ss (F₂.st x hx₁) fun m' loc' h₃ tk₃ S₃ st₃ => ?_
  have F₃ := F₂.moved (bs := [(x, .fn (lf + 1) F)]) S₃ (st₃.moved (pv := .fn (lf + 1) F) hp fun MU Y qq => CallOk.mono qq hok) rfl
  refine k A L m' loc' own par fz₂ env ad _ Q E hA hE₁ F₃ fun v m₄ loc₄ own₄ fz₄ h₄ tk₄ s₄ => ?_
  exact c v m₄ loc₄ own₄ fz₄ h₄ tk₄ (s₁.trans (s₂.trans s₄))
theorem exl_ret {e : Expr} {rest : List Stmt} (h : EV W lv sc ρ e (.dat d)) : EXL W lv sc ρ (execs (.Return (some e) pos :: rest)) d := exl_exr (exr_ret h)
theorem exl_sub {t : Env → Sem Flow} (h : EXL W lv sc ρ' t d) (k : SubN ρ ρ') : EXL W lv sc ρ t d := by
  intro A L m loc own par fz env ad s Q E hA hE F c
  exact h A L m loc own par fz env ad s Q E hA hE (F.sub k.look) c
end
noncomputable def bodyOf (fd : FuncData) : List Stmt := match fd.body with
  | .stmts b => b
  | _ => []
noncomputable def noStars (es : List Expr) : Bool := !(es.any fun | .Starred .. => true | _ => false)
noncomputable def nmOf (env : Env) (l : Nat) (ts : List Expr) : List Str := ts.filterMap fun
    | .Name id pos => if env.kindOf id == some .local && pos.line == l then some id else none
    | _ => none
theorem swapped_core {ts vs : List Expr} {env : Env} {kd kd' : Nat} {tp vp : Pos} {names : List Str} (hk : env.scope.kind = .function) (hlen : (!(ts.length == 2 || ts.length == 3) || vs.length != ts.length) = false) (hs : noStars vs = true)
    (hn : nmOf env ((ts.head?.map (·.pos.line)).getD 0) ts = names) (hn2 : (names.length != ts.length || names.eraseDups.length != names.length) = false) (h1 : (vs.all (foldedForSure 8)) = false) (h2 : vs.all (constantsAlone 8) = false) : swappedStores [.Tuple ts kd tp] (.Tuple vs kd' vp) env = pure (some names) := by
  have hb : (env.blockKind != .function) = false := by unfold Env.blockKind; rw [hk]; rfl
  subst hn
  unfold swappedStores
  simp only [hb, hlen, Bool.or_false]
  refine (if_neg ?_).trans ?_
  · decide
  refine (if_neg ?_).trans ?_
  · intro q
    have : noStars vs = false := by unfold noStars; rw [Bool.not_eq_false']; exact q
    rw [hs] at this; cases this
  refine (if_neg ?_).trans ?_
  · intro q
    have q : ((nmOf env ((ts.head?.map (·.pos.line)).getD 0) ts).length != ts.length || (nmOf env ((ts.head?.map (·.pos.line)).getD 0) ts).eraseDups.length != (nmOf env ((ts.head?.map (·.pos.line)).getD 0) ts).length) = true := q
    rw [hn2] at q; cases q
  rw [h1, h2]
  rfl
theorem swapped2 {x y : Str} {px py tp vp : Pos} {kd kd' : Nat} {e f : Expr} {env : Env} (hk : env.scope.kind = .function) (hx : env.kindOf x = some .local) (hy : env.kindOf y = some .local) (hl : (py.line == px.line) = true) (hd : [x, y].eraseDups.length = 2)
    (hs : noStars [e, f] = true) (h1 : ([e, f].all (foldedForSure 8)) = false) (h2 : [e, f].all (constantsAlone 8) = false) : swappedStores [.Tuple [.Name x px, .Name y py] kd tp] (.Tuple [e, f] kd' vp) env = pure (some [x, y]) :=
  swapped_core hk rfl hs (by
    show nmOf env px.line _ = _
    unfold nmOf
    simp [List.filterMap_cons, hx, hy, eq_of_beq hl]) (by rw [hd]; rfl) h1 h2
end Mine
end
section
open PySem PySem.W PyProof.Rows
set_option linter.unusedVariables false
namespace Mine
/-- the place that a search by halves finds -/
noncomputable def bis (c : Nat → Bool) : Nat → Nat → Nat → Nat
  | 0, lo, _ => lo
  | f + 1, lo, hi => if lo < hi then (if c ((lo + hi) / 2) then bis c f lo ((lo + hi) / 2) else bis c f ((lo + hi) / 2 + 1) hi) else lo
theorem bis_spec {c : Nat → Bool} : ∀ (f lo hi k : Nat), lo ≤ k → k ≤ hi → hi - lo ≤ f → (∀ m, lo ≤ m → m < k → c m = false) → (∀ m, k ≤ m → m < hi → c m = true) → bis c f lo hi = k
  | 0, lo, hi, k, h1, h2, h3, _, _ => by unfold bis; lia
  | f + 1, lo, hi, k, h1, h2, h3, h4, h5 => by
    unfold bis
    by_cases h : lo < hi
    · rw [if_pos h]
      by_cases hk : (lo + hi) / 2 < k
      · rw [h4 _ (by (clear hk h5 h4 h3 h2 h1; lia)) hk, if_neg (by decide)]
        exact bis_spec f _ hi k (by (clear h h5 h4 h3 h2 h1; lia)) h2 (by (clear hk h5 h4 h2 h1; lia)) (fun m a b => h4 m (by (clear hk h h5 h4 h3 h1; lia)) b) h5
      · rw [h5 _ (by (clear h h5 h4 h3 h2 h1; lia)) (by (clear h5 h4 h3 h2; lia)), if_pos rfl]
        exact bis_spec f lo _ k h1 (by (clear h h5 h4 h3 h2 h1; lia)) (by (clear hk h5 h4 h2 h1; lia)) h4 (fun m a b => h5 m a (by (clear a hk h5 h4 h3 h2 h1; lia)))
    · rw [if_neg h]; (clear h5 h4 h3; lia)
theorem bis_le {c : Nat → Bool} : ∀ (f lo hi : Nat), lo ≤ hi → lo ≤ bis c f lo hi ∧ bis c f lo hi ≤ hi
  | 0, lo, hi, h => by unfold bis; lia
  | f + 1, lo, hi, h => by
    unfold bis
    split
    · split
      · have := bis_le (c := c) f lo ((lo + hi) / 2) (by (clear h; lia)); (clear h; lia)
      · have := bis_le (c := c) f ((lo + hi) / 2 + 1) hi (by (clear h; lia)); (clear h; lia)
    · lia
end Mine
end
section
open PySem PySem.W PyProof.Rows
set_option linter.unusedVariables false
set_option maxRecDepth 100000
namespace Mine
open PySem.Calls PySem.Spec PySem.SeqAt
/-- the outermost frame, as the head leaves it -/
theorem enter_top {W : Wd} {scope sc : Scope} {ρ : Names} {qual : Str} {L fa : Addr} {cdv : Value} {h₁ : Heap} {binds : List (Str × Value)} {cells tl : Led}
    (B : Below callerA W.base [] W.base) (F' : Fr W.base L h₁ (bindL (envOfC qual scope L fa cdv).kindOf binds fun _ => none)) (N' : News W.base L h₁ (cells ++ tl)) (CA : CellsAre (bindC (envOfC qual scope L fa cdv).kindOf binds fun _ => none) (cellsFrom (L + 1) scope.names []) cells)
    (hg : W.Gl tl (Hs W.base [])) (ndt : (tl.map (·.1)).Nodup) (hlt : ∀ p ∈ tl, p.1 < L)
    (hsc : scC scope = true) (hin : (binds.all fun y => scope.names.lookup y.1 == some .local || scope.names.lookup y.1 == some .cell) = true) (hbn : (binds.map (·.1)).Nodup)
    (hB : BindR W (Hs W.base []) [] [] (fun _ => 0) binds ρ) (hns : sc.names = scope.names) (hcc : ∀ c, sc.more.lookup ("@code" : Str) = some (.int c) → cdv = .ref c.toNat) (hqq : ∀ q, sc.more.lookup ("@qual" : Str) = some (.str q) → qual ++ ".<locals>." = q) :
    AOk W 200 (callerA.deeper (envOfC qual scope L fa cdv)) W.base (envOfC qual scope L fa cdv) L ∧ EnvOk (envOfC qual scope L fa cdv) sc ∧
      FS W sc [] W.base L (bindL (envOfC qual scope L fa cdv).kindOf binds fun _ => none) cells [] [] [] (envOfC qual scope L fa cdv) (fun _ => 0) ρ h₁ := by
  simp only [scC, Bool.and_eq_true, beq_iff_eq, List.all_eq_true, Bool.or_eq_true] at hsc
  obtain ⟨hkind, hall⟩ := hsc
  have A' : AOk W 200 (callerA.deeper (envOfC qual scope L fa cdv)) W.base (envOfC qual scope L fa cdv) L := by
    refine ⟨rfl, ⟨[], callerA, rfl, B⟩, rfl, hkind, ?_, ?_, W.kb, W.tb⟩
    · show 1 + claimMargin + 1 + 200 < recursionLimit
      decide
    · show 4 + 3 + (16 * 200 + 64) < cLine
      decide
  obtain ⟨ca1, ca2⟩ := cellsFrom_addr scope.names (L + 1) [] (L + 1) (Nat.le_refl _) (fun _ h => by cases h) List.nodup_nil
  have cfst := cellsAre_fst CA
  have clt : ∀ p ∈ cells, L + 1 ≤ p.1 := fun p hp => by
    have : p.1 ∈ cells.map (·.1) := List.mem_map.mpr ⟨p, hp, rfl⟩
    rw [cfst] at this
    obtain ⟨q, hq, e⟩ := List.mem_map.mp this
    rw [← e]; exact ca1 q hq
  have S' : SS W W.base L (bindL (envOfC qual scope L fa cdv).kindOf binds fun _ => none) (cells ++ ([] ++ [])) [] h₁ := by
    refine ⟨F', ⟨tl, hg, ?_⟩, fun b o e => e⟩
    have l1 : Ld W.base L h₁ (cells ++ tl) := by
      refine ⟨N', ?_⟩
      rw [List.map_append, List.nodup_append]
      refine ⟨by rw [cfst]; exact ca2, ndt, fun a ha b hb e => ?_⟩
      obtain ⟨p, hp, rfl⟩ := List.mem_map.mp ha
      obtain ⟨q, hq, rfl⟩ := List.mem_map.mp hb
      have h1 := clt p hp
      have h2 := hlt q hq
      rw [e] at h1
      exact absurd (Nat.lt_trans h2 (Nat.lt_succ_self _)) (Nat.not_lt.mpr h1)
    refine l1.perm ?_
    rw [List.append_nil, List.append_nil, List.append_nil]
    exact List.perm_append_comm
  have hkn : ∀ y, (envOfC qual scope L fa cdv).kindOf y = scope.names.lookup y := fun y => rfl
  have cellAt : ∀ x, scope.names.lookup x = some .cell → ∃ c o, (cellsFrom (L + 1) scope.names []).lookup x = some c ∧ (c, o) ∈ cells ∧ o.data = .cell (bindC (envOfC qual scope L fa cdv).kindOf binds (fun _ => none) x) := by
    intro x hx
    obtain ⟨c, hc⟩ := Option.isSome_iff_exists.mp (cellsFrom_some (x := x) scope.names (L + 1) [] (.inl hx))
    obtain ⟨o, a, b⟩ := cellsAre_at CA hc
    exact ⟨c, o, hc, a, b⟩
  have loads : ∀ x v, binds.lookup x = some v → Loads (envOfC qual scope L fa cdv) L (bindL (envOfC qual scope L fa cdv).kindOf binds fun _ => none) (cells ++ (([] ++ []) ++ [])) x v := by
    intro x v hx
    have hm := List.all_eq_true.mp hin (x, v) (PySem.mem_of_lookup hx)
    simp only [Bool.or_eq_true, beq_iff_eq] at hm
    rcases hm with hm | hm
    · exact .here rfl hm (bindL_at hm hbn hx)
    · obtain ⟨c, o, a, b, d⟩ := cellAt x hm
      rw [bindC_at (by rw [hkn, hm]; decide) hbn hx] at d
      exact .cell (.inl hm) a (List.mem_append_left _ b) d
  have E' : EnvOk (envOfC qual scope L fa cdv) sc := by
    refine ⟨hkind, rfl, rfl, fun n hn => by rw [hns] at hn; exact hn, fun n kd hn hk => ?_, fun x y c hx hy => ?_, fun c hc => hcc c hc, fun q hq => hqq q hq, fun n hn => by rw [hns] at hn; exact hn⟩
    · rw [hns] at hn
      have h1 := hall _ (PySem.mem_of_lookup hn)
      rcases hk with rfl | rfl
      · obtain ⟨c, o, a, _⟩ := cellAt n hn
        exact ⟨.inl hn, by show (List.lookup n (cellsFrom _ _ _)).isSome = true; rw [a]; rfl⟩
      · obtain ⟨_, h1⟩ := h1
        rcases h1 with (h1 | h1) | h1 <;> cases h1
    · exact cellsFrom_inj scope.names (L + 1) [] (fun _ _ h => by cases h) (fun _ _ _ h => by cases h) x y c hx hy
  refine ⟨A', E', S', fun x pv hx => ?_, fun x ds hx => ?_, fun x y ds es hx hy e => ?_, fun x hx => ?_, fun x hx => by cases hx⟩
  · obtain ⟨hp, v, hv, r, _⟩ := hB x pv hx
    exact ⟨hp, v, loads x v hv, r⟩
  · obtain ⟨hp, v, hv, r, hl⟩ := hB x _ hx
    obtain ⟨h1, _⟩ := hl ds rfl
    cases h1
  · obtain ⟨_, _, _, _, h1⟩ := hB x _ hx
    cases (h1 _ rfl).1
  · rw [hns] at hx
    rcases hx with hx | hx
    · exact .inl ⟨hx, .inl rfl⟩
    · obtain ⟨c, o, a, b, d⟩ := cellAt x hx
      exact .inr ⟨hx, c, o, _, a, b, d⟩
/-- the tables, as they are at the end -/
theorem grown_of {tabs : List (Addr × Addr × Str)} {gl : Led} {X : Fact} {h : Heap} (g : GlT tabs gl X) (hk : ∀ p ∈ gl, h.get? p.1 = some p.2) : ∀ t ∈ tabs, ∃ ps : Array Value, h.get? t.2.1 = some (tabObj ps) ∧ TriplesOk ps.toList := fun t ht => by
  obtain ⟨ps, a, b, _⟩ := g.2 t ht
  exact ⟨ps, hk _ a, b⟩
end Mine
end
section
open PySem PySem.W PyProof.Rows
set_option linter.unusedVariables false
set_option maxRecDepth 100000
namespace Mine
open PySem.Calls PySem.Spec PySem.SeqAt
local macro_rules | `(tactic| walk_at "nm") => `(tactic| first | exact ⟨rfl, rfl⟩ | exact ⟨by decide, by decide⟩)
local macro_rules | `(tactic| walk_at "slot") => `(tactic| first | exact .inl rfl | exact .inr rfl)
local macro_rules | `(tactic| walk_at "sub") => `(tactic| repeat (first | exact trivial | refine ⟨rfl, ?_⟩))
local macro_rules | `(tactic| walk_at "boot") => `(tactic| exact boot (by assumption) (by rfl) (by rfl) (by decide) (by rfl) (by rfl))
local macro_rules | `(tactic| walk_at "glb") => `(tactic| exact glb (by assumption) (by rfl) (by rfl) (by rfl) ⟨_, _, rfl, rfl⟩)
local macro_rules | `(tactic| walk_at "op") => `(tactic| first | exact op_add | exact op_sub | exact op_lt | exact op_le | exact op_gt | exact op_ge | exact op_eqi | exact op_nei | exact op_neg | exact op_and | exact op_or | exact op_xor | exact op_mod (by decide) | skip)
local macro_rules | `(tactic| walk_at "ev1") => `(tactic| first | exact ev_name rfl | exact ev_int | exact ev_bytes | exact ev_bool | exact ev_none | exact ev_str | apply ev_bin | apply ev_cmp | apply ev_un | exact op_add | exact op_sub | exact op_lt | exact op_le | exact op_gt | exact op_ge | exact op_eqi | exact op_nei | exact op_neg | exact op_and | exact op_or | exact op_xor | exact op_mod (by decide))
local macro_rules | `(tactic| walk_at "evs") => `(tactic| repeat' (walk_at "ev1"))
local macro_rules | `(tactic| walk_at "ev") => `(tactic| (walk_at "evs"; done))
local macro_rules | `(tactic| walk_at "side") => `(tactic| first | exact ⟨by rfl, by walk_at "subf", by rfl, tgtOk1 (by walk_at "slot") (by walk_at "nm"), dis1 (by rfl), fun _ _ => rfl⟩ | exact ⟨by rfl, by walk_at "subf", by rfl, tgtOk2 (by walk_at "slot") (by walk_at "nm") (by walk_at "slot") (by walk_at "nm"), dis1 (by rfl), fun _ _ => rfl⟩ | exact ⟨by rfl, by walk_at "subf", by rfl, tgtOkT (by walk_at "slot") (by walk_at "nm") (by walk_at "slot") (by walk_at "nm"), disT (by rfl) (by rfl), fun _ _ => rfl⟩)
local macro_rules | `(tactic| walk_at "subf") => `(tactic| repeat (first | exact trivial | refine ⟨⟨rfl, rfl⟩, ?_⟩))

noncomputable def tabs : List (Addr × Addr × Str) := [(41, 37, "_digits2int.<locals>.inner"), (34, 30, "_int2digits.<locals>.inner"), (130, 128, "law.<locals>.<lambda>")]
structure WL (W : Wd) (P : Params) : Prop where
  K : W.K = Mine.hd.heap_39 P
  gl : W.Gl = GlT tabs
  c1 : CodeHd W.base 41 37
  c2 : CodeHd W.base 34 30
  c3 : CodeHd W.base 130 128
theorem boot {W : Wd} {P : Params} {sc : Scope} {x : Str} {v : Value} (hW : WL W P) (a : sc.names.lookup x = some .globalImplicit) (b : (x == ("__debug__" : Str)) = false) (c : x ≠ "__name__") (d : nsIn (Mine.hd.heap_39 P) mainGlobals x = some none) (e : bootBuiltins x = some v) : Boot W sc x v := ⟨a, b, c, by rw [hW.K]; exact d, e⟩
theorem glb {W : Wd} {P : Params} {sc : Scope} {x : Str} {f : Addr} (hW : WL W P) (a : sc.names.lookup x = some .globalImplicit) (b : (x == ("__debug__" : Str)) = false) (d : nsIn (Mine.hd.heap_39 P) mainGlobals x = some (some (.ref f))) (e : ∃ o fd, (Mine.hd.heap_39 P).lookup f = some o ∧ o.data = .func fd) : Glb W sc x f := ⟨a, b, by rw [hW.K]; exact d, by rw [hW.K]; exact e⟩
/-- an int of the top -/
theorem ev_gint {W : Wd} {lv : Nat} {sc : Scope} {ρ : Names} {x : Str} {pos : Pos} {i : Int} {t : Tok} (hx : sc.names.lookup x = some .globalImplicit) (hp : (x == ("__debug__" : Str)) = false) (e : nsIn W.K mainGlobals x = some (some (.int i t))) : EV W lv sc ρ (.Name x pos) (.dat (.int i)) := by
  intro A h₀ fenv L m mu fz env s Q E hA hE S hN k
  exact eval_glob hA hE S hx hp e (k _ fz s.heap s.toks (Sub.refl _) S (.int i t))
end Mine
end
section
open PySem PySem.W PyProof.Rows
set_option linter.unusedVariables false
set_option maxRecDepth 100000
namespace Mine
open PySem.Calls PySem.Spec PySem.SeqAt
local macro_rules | `(tactic| walk_at "nm") => `(tactic| first | exact ⟨rfl, rfl⟩ | exact ⟨by decide, by decide⟩)
local macro_rules | `(tactic| walk_at "slot") => `(tactic| first | exact .inl rfl | exact .inr rfl)
local macro_rules | `(tactic| walk_at "sub") => `(tactic| repeat (first | exact trivial | refine ⟨rfl, ?_⟩))
local macro_rules | `(tactic| walk_at "boot") => `(tactic| exact boot (by assumption) (by rfl) (by rfl) (by decide) (by rfl) (by rfl))
local macro_rules | `(tactic| walk_at "glb") => `(tactic| exact glb (by assumption) (by rfl) (by rfl) (by rfl) ⟨_, _, rfl, rfl⟩)
local macro_rules | `(tactic| walk_at "op") => `(tactic| first | exact op_add | exact op_sub | exact op_lt | exact op_le | exact op_gt | exact op_ge | exact op_eqi | exact op_nei | exact op_neg | exact op_and | exact op_or | exact op_xor | exact op_mod (by decide) | skip)
local macro_rules | `(tactic| walk_at "ev1") => `(tactic| first | exact ev_name rfl | exact ev_int | exact ev_bytes | exact ev_bool | exact ev_none | exact ev_str | apply ev_bin | apply ev_cmp | apply ev_un | exact op_add | exact op_sub | exact op_lt | exact op_le | exact op_gt | exact op_ge | exact op_eqi | exact op_nei | exact op_neg | exact op_and | exact op_or | exact op_xor | exact op_mod (by decide))
local macro_rules | `(tactic| walk_at "evs") => `(tactic| repeat' (walk_at "ev1"))
local macro_rules | `(tactic| walk_at "ev") => `(tactic| (walk_at "evs"; done))
local macro_rules | `(tactic| walk_at "side") => `(tactic| first | exact ⟨by rfl, by walk_at "subf", by rfl, tgtOk1 (by walk_at "slot") (by walk_at "nm"), dis1 (by rfl), fun _ _ => rfl⟩ | exact ⟨by rfl, by walk_at "subf", by rfl, tgtOk2 (by walk_at "slot") (by walk_at "nm") (by walk_at "slot") (by walk_at "nm"), dis1 (by rfl), fun _ _ => rfl⟩ | exact ⟨by rfl, by walk_at "subf", by rfl, tgtOkT (by walk_at "slot") (by walk_at "nm") (by walk_at "slot") (by walk_at "nm"), disT (by rfl) (by rfl), fun _ _ => rfl⟩)
local macro_rules | `(tactic| walk_at "subf") => `(tactic| repeat (first | exact trivial | refine ⟨⟨rfl, rfl⟩, ?_⟩))
section
noncomputable def apF : Nat → Nat → List UInt8 → List UInt8
  | 0, _, acc => acc
  | f + 1, n, acc => if n = 0 then acc else apF f (n / 16) (UInt8.ofNat (65 + n % 16) :: acc)
theorem apF_len : ∀ (f n : Nat) (acc : List UInt8), (apF f n acc).length ≤ f + acc.length
  | 0, _, _ => by simp [apF]
  | f + 1, n, acc => by
    unfold apF
    split
    · lia
    · have := apF_len f (n / 16) (UInt8.ofNat (65 + n % 16) :: acc); rw [List.length_cons] at this; lia
noncomputable def apL : List UInt8 := [65, 66, 67, 68, 69, 70, 71, 72, 73, 74, 75, 76, 77, 78, 79, 80]
theorem ap_pick : ∀ k : Fin 16, KBy.picked apL.toArray (some (k.val : Int)) (some ((k.val : Int) + 1)) = [UInt8.ofNat (65 + k.val)].toArray := by decide +kernel
theorem c_Int2AP (W : Wd) (P : Params) (hW : WL W P) : GCall W 2 99 (fun ps kps d => ∃ i : Int, ps = [.dat (.int i)] ∧ kps = [] ∧ i.natAbs < 16 ^ 1000 ∧ d = .bytes (apF 1000 i.natAbs []).toArray) := by
  intro A h₀ fenv L m mu fz s vs kvs ps kps d Q E hA S hps hkps hG k
  obtain ⟨i, rfl, rfl, hi, rfl⟩ := hG
  obtain ⟨v, rfl, hv⟩ := PRepA.i1 hps
  cases KRepA.i0 hkps
  refine call_K0 (f := 99) (lv := 1) (by rw [hW.K]; rfl) (by rw [hW.K]; rfl) (by rfl) (by decide) hA S (binds := [("num", v)]) (nsb := ["num"]) (ρ := [("num", .dat (.int i))]) (BindsTo.of_eq rfl) (by rfl) (by rfl) (by decide) (.dat (by walk_at "nm") rfl hv .nil) rfl (fun c hc => by cases hc) (fun c hc => by cases hc) ?_ Q k
  refine exr_seq (ex_assign ev_bytes (by walk_at "slot") (by walk_at "nm")) ?_
  refine exr_seq (ex_assign ev_bytes (by walk_at "slot") (by walk_at "nm")) ?_
  refine exr_seq (ex_assign (ev_tcall (T := "int") (ds := [.int i.natAbs]) (by walk_at "boot") (.one (ev_bcall (id := "abs") (ds := [.int i]) (by walk_at "boot") (.one (by walk_at "ev")) op_abs)) op_int_int) (by walk_at "slot") (by walk_at "nm")) ?_
  refine exr_seq (ρ' := [("num", .dat (.int (0 : Nat))), ("val", .dat (.bytes (apF 1000 i.natAbs []).toArray)), ("AP", .dat (.bytes apL.toArray))]) (EX.from (ρ' := [("num", .dat (.int i.natAbs)), ("val", .dat (.bytes ([] : List UInt8).toArray)), ("AP", .dat (.bytes apL.toArray))]) (ex_while_ex ?_) (by walk_at "sub")) (exr_ret (by walk_at "ev"))
  have hz : 1000 + ([] : List UInt8).length ≤ 1048000 := by simp
  clear hv hps
  revert hi hz
  generalize i.natAbs = n
  generalize ([] : List UInt8) = acc
  generalize 1000 = f
  clear k
  intro hn hz
  induction f generalizing n acc with
  | zero =>
    have : n = 0 := by simpa using hn
    subst this
    exact ⟨0, .done (et_val (ev_name rfl) rfl)⟩
  | succ f ih =>
    by_cases h0 : n = 0
    · subst h0
      exact ⟨0, .done (et_val (ev_name rfl) rfl)⟩
    · have hdiv : n / 16 < 16 ^ f := by
        rw [Nat.pow_succ] at hn
        exact Nat.div_lt_of_lt_mul (by (clear h0 hz ih hkps S hA hW; lia))
      obtain ⟨k, hk⟩ := ih (n / 16) (UInt8.ofNat (65 + n % 16) :: acc) hdiv (by rw [List.length_cons]; (clear hdiv h0 hn ih hkps S hA hW; lia))
      refine ⟨k + 1, .turn (ρ' := [("num", .dat (.int (n / 16 : Nat))), ("val", .dat (.bytes (UInt8.ofNat (65 + n % 16) :: acc).toArray)), ("AP", .dat (.bytes apL.toArray))]) (et_val (ev_name rfl) (by simp [truthD, h0])) ?_ (by unfold apF; rw [if_neg h0]; exact hk)⟩
      have h16 : (n : Int).fdiv 16 = ((n / 16 : Nat) : Int) ∧ (n : Int).fmod 16 = ((n % 16 : Nat) : Int) := by
        constructor
        · rw [Int.fdiv_eq_ediv_of_nonneg _ (by decide)]; rfl
        · rw [Int.fmod_eq_emod_of_nonneg _ (by decide)]; rfl
      refine EX.to (ex_seq (ex_unpack (a := .int (n / 16 : Nat)) (b := .int (n % 16 : Nat)) ((ev_bcall (id := "divmod") (ds := [.int n, .int 16]) (by walk_at "boot") (.two (by walk_at "ev") (by walk_at "ev")) (op_divmod (by decide) (PyProof.noPylong_small (by decide)))).cast (by rw [h16.1, h16.2])) (by walk_at "slot") (by walk_at "nm") (by walk_at "slot") (by walk_at "nm"))
        (ex_seq (ex_assign (d := .bytes (UInt8.ofNat (65 + n % 16) :: acc).toArray) ((ev_bin (ev_bslice (a := some ((n % 16 : Nat) : Int)) (b := some (((n % 16 : Nat) : Int) + 1)) (ev_name rfl) (.some (by walk_at "ev")) (.some (by walk_at "ev")) (by decide)) (ev_name rfl) (op_add_bytes ?_)).cast ?_) (by walk_at "slot") (by walk_at "nm")) ex_nil)) (by walk_at "sub")
      · rw [ap_pick ⟨n % 16, Nat.mod_lt _ (by decide)⟩]; simp; (clear h16 hk hdiv h0 hn ih hkps S hA hW; lia)
      · rw [ap_pick ⟨n % 16, Nat.mod_lt _ (by decide)⟩]; simp
end
section
theorem c_div2n1n (W : Wd) (P : Params) (hW : WL W P) : GCall W 2 21 (fun ps kps d => ∃ (a b : Int) (n : Nat), ps = [.dat (.int a), .dat (.int b), .dat (.int n)] ∧ kps = [] ∧ Builtin.Int.intBits a ≤ 4000 ∧ b ≠ 0 ∧ b.natAbs.log2 < 9000 ∧ d = .tuple [.int (a.fdiv b), .int (a.fmod b)]) := by
  intro A h₀ fenv L m mu fz s vs kvs ps kps d Q E hA S hps hkps hG k
  obtain ⟨a, b, n, rfl, rfl, ha, hb, hlog, rfl⟩ := hG
  obtain ⟨v, w, u, rfl, hv, hw, hu⟩ := PRepA.i3 hps
  cases KRepA.i0 hkps
  refine call_K0 (f := 21) (lv := 1) (by rw [hW.K]; rfl) (by rw [hW.K]; rfl) (by rfl) (by decide) hA S (binds := [("a", v), ("b", w), ("n", u)]) (nsb := ["a", "b", "n"]) (ρ := [("a", .dat (.int a)), ("b", .dat (.int b)), ("n", .dat (.int n))]) (BindsTo.of_eq rfl) (by rfl) (by rfl) (by decide)
    (.dat (by walk_at "nm") rfl hv (.dat (by walk_at "nm") rfl hw (.dat (by walk_at "nm") rfl hu .nil))) rfl (fun c hc => by cases hc) (fun c hc => by cases hc) ?_ Q k
  refine exr_if (b := true) ((et_cmp (ev_bin (ev_bitlen (ev_name rfl)) (ev_name rfl) op_sub) (ev_gint (i := 4000) (t := 189) (by rfl) (by rfl) (by rw [hW.K]; rfl)) op_le).cast ?_) (fun _ => ?_) (fun e => by cases e)
  · exact decide_eq_true (by (clear hkps hu hw hv hps k hlog hb S hA hW; lia))
  · exact exr_ret (ev_bcall (id := "divmod") (ds := [.int a, .int b]) (by walk_at "boot") (.two (by walk_at "ev") (by walk_at "ev")) (op_divmod hb (PyProof.noPylong_of_log2 hlog)))
end
section
/-- digits to a number, the lowest first -/
noncomputable def d2i (n : Nat) : List Int → Int
  | [] => 0
  | x :: r => x + 2 ^ n * d2i n r
theorem d2i_append (n : Nat) : ∀ (a b : List Int), d2i n (a ++ b) = d2i n a + 2 ^ (n * a.length) * d2i n b
  | [], b => by simp [d2i]
  | x :: a, b => by
    rw [List.cons_append, d2i, d2i, d2i_append n a b, List.length_cons, Nat.mul_succ, Int.pow_add, Int.mul_add]
    rw [Int.add_assoc, Int.mul_comm (2 ^ (n * a.length)) (2 ^ n), Int.mul_assoc]
theorem d2i_bound (n : Nat) : ∀ (a : List Int), (∀ x ∈ a, 0 ≤ x ∧ x < 2 ^ n) → 0 ≤ d2i n a ∧ d2i n a < 2 ^ (n * a.length)
  | [], _ => by simp [d2i]
  | x :: a, h => by
    obtain ⟨h1, h2⟩ := d2i_bound n a fun y hy => h y (.tail _ hy)
    obtain ⟨h3, h4⟩ := h x (.head _)
    have hp : (0 : Int) < 2 ^ n := Int.pow_pos (by decide)
    rw [d2i, List.length_cons, Nat.mul_succ, Int.pow_add]
    have e1 : 0 ≤ 2 ^ n * d2i n a := Int.mul_nonneg (Int.le_of_lt hp) h1
    refine ⟨by (clear hp h4 h2 h1 h; lia), ?_⟩
    have e2 : 2 ^ n * (d2i n a + 1) ≤ 2 ^ n * 2 ^ (n * a.length) := Int.mul_le_mul_of_nonneg_left (by (clear e1 hp h4 h3 h1 h; lia)) (Int.le_of_lt hp)
    rw [Int.mul_add, Int.mul_one] at e2
    rw [Int.mul_comm (2 ^ (n * a.length)) (2 ^ n)]
    (clear e1 hp h3 h2 h1 h; lia)
noncomputable def segF (n : Nat) (xs : List Int) (m : Nat) : List Dat → Option Dat
  | [.int L, .int R] => if 0 ≤ L ∧ L < R ∧ R ≤ xs.length ∧ R - L ≤ m + 1 then some (.int (d2i n ((xs.drop L.toNat).take (R - L).toNat))) else none
  | _ => none
theorem c_d2i (W : Wd) (P : Params) (hW : WL W P) : GCall W 110 42 (fun ps kps d => ∃ (xs : List Int) (n : Nat), ps = [.dat (.list (xs.map .int)), .dat (.int n)] ∧ kps = [] ∧ n ≤ 64 ∧ xs.length ≤ 100 ∧ (∀ x ∈ xs, 0 ≤ x ∧ x < 2 ^ n) ∧ d = .int (d2i n xs)) := by
  intro A h₀ fenv L m mu fz s vs kvs ps kps d Q E hA S hps hkps hG k
  obtain ⟨xs, n, rfl, rfl, hn, hl, hxs, rfl⟩ := hG
  obtain ⟨v, w, rfl, hv, hw⟩ := PRepA.i2 hps
  cases KRepA.i0 hkps
  refine call_K0 (f := 42) (lv := 109) (sc := { kind := .function, names := [("digits", .cell), ("n", .cell), ("inner", .cell), ("len", .globalImplicit)], isGenerator := false, isCoroutine := false, more := [("@code", .int 41), ("@qual", .str "_digits2int.<locals>.")] }) (by rw [hW.K]; rfl) (by rw [hW.K]; rfl) (by rfl) (by decide) hA S (binds := [("digits", v), ("n", w)]) (nsb := ["digits", "n"]) (ρ := [("digits", .dat (.list (xs.map .int))), ("n", .dat (.int n))]) (BindsTo.of_eq rfl) (by rfl) (by rfl) (by decide) (.dat (by walk_at "nm") rfl hv (.dat (by walk_at "nm") rfl hw .nil)) (by rfl) (fun c hc => by cases hc; rfl) (fun c hc => by cases hc; rfl) ?_ Q k
  refine exr_def (t := (41, 37, "_digits2int.<locals>.inner")) (q := "_digits2int.<locals>.") (ρ₁ := [("digits", .dat (.list (xs.map .int))), ("n", .dat (.int n))]) (pn := ["L", "R"]) (F := segF n xs) (N := 100)
    ⟨hW.gl, by decide, by decide, hW.c1⟩ rfl rfl (by decide) (fun pv => innerOk (keys := ["inner", "digits", "n"]) (by rfl) (by decide) rfl) (CapN.all ⟨⟨rfl, rfl⟩, ⟨rfl, rfl⟩, trivial⟩) (by rfl) (by rfl) (by walk_at "nm") rfl rfl (fun _ => rfl) (fun vs cl doc pm cdv ctv hv => ?_) (by rfl) (by decide) (plainAll (by rfl)) rfl rfl ?_ rfl rfl ?_
  · match vs, hv with
    | [a, b], _ => rfl
  · -- the body of inner
    intro lv ds d hF
    match ds, hF with
    | [.int L, .int R], hF =>
    simp only [segF] at hF
    split at hF
    · rename_i hc
      cases hF
      obtain ⟨c1, c2, c3, c4⟩ := hc
      refine ⟨rfl, ?_⟩
      have seg : ∀ a b : Int, 0 ≤ a → a < b → b ≤ xs.length → 0 ≤ d2i n ((xs.drop a.toNat).take (b - a).toNat) ∧ d2i n ((xs.drop a.toNat).take (b - a).toNat) < 2 ^ (n * (b - a).toNat) := by
        intro a b h1 h2 h3
        have := d2i_bound n ((xs.drop a.toNat).take (b - a).toNat) fun x hx => hxs x (List.mem_of_mem_drop (List.mem_of_mem_take hx))
        rw [List.length_take, List.length_drop, Nat.min_eq_left (by (clear this c4 hF hkps hw hv hps k hxs hl hn S hA hW; lia))] at this
        exact this
      refine exr_if (b := (L + 1 == R)) (et_cmp (by walk_at "ev") (by walk_at "ev") op_eqi) (fun e => ?_) (fun e => ⟨rfl, ?_⟩)
      · have e : L + 1 = R := by simpa using e
        have hlt : L.toNat < xs.length := by (clear seg c4 c2 hF hkps hw hv hps k hxs hl hn S hA hW; lia)
        refine exr_ret ((ev_item (ev_name rfl) rfl (by walk_at "ev") (d := .int xs[L.toNat]) ?_ (by simp; (clear hlt e seg c4 c3 c2 c1 hF hkps hw hv hps k hxs hn S hA hW; lia))).cast ?_)
        · unfold seqAt
          rw [if_neg (by (clear hlt seg c4 c3 c2 hF hkps hw hv hps k hxs hl hn S hA hW; lia)), List.getElem?_map, List.getElem?_eq_getElem hlt]; rfl
        · have e1 : (R - L).toNat = 1 := by (clear hlt seg c4 c3 c2 c1 hF hkps hw hv hps k hxs hl hn S hA hW; lia)
          have e2 : (xs.drop L.toNat).take 1 = [xs[L.toNat]] := by rw [List.drop_eq_getElem_cons hlt]; rfl
          rw [e1, e2]
          simp [d2i]
      · have e : L + 1 ≠ R := by simpa using e
        obtain ⟨m, rfl⟩ : ∃ m, lv = m + 1 := ⟨lv - 1, by (clear seg c3 c1 hF hkps hw hv hps k hxs hl hn S hA hW; lia)⟩
        have hmid : (L + R).fdiv (2 ^ (1 : Int).toNat) = (L + R) / 2 := by
          rw [Int.fdiv_eq_ediv_of_nonneg _ (by decide)]; rfl
        generalize hM : (L + R) / 2 = M at hmid
        have m1 : L < M := by (clear c4 hF seg c3 c1 hkps hw hv hps k hxs hl hn S hA hW; lia)
        have m2 : M < R := by (clear c4 hF e seg c3 c2 c1 hkps hw hv hps k hxs hl hn S hA hW; lia)
        refine exr_seq (ex_assign (d := .int M) ((ev_bin (by walk_at "ev") (by walk_at "ev") (op_shr (by decide))).cast (by rw [hmid])) (by walk_at "slot") (by walk_at "nm")) ?_
        have hk : (M - L) * n = ((n * (M - L).toNat : Nat) : Int) := by
          rw [Int.mul_comm]; push_cast; rw [Int.toNat_of_nonneg (by (clear m2 hM c4 hF e seg c3 c2 c1 hkps hw hv hps k hxs hl hn S hA hW; omega))]
        refine exr_seq (ex_assign (d := .int ((n * (M - L).toNat : Nat) : Int)) ((ev_bin (by walk_at "ev") (ev_name rfl) (op_mul ?_)).cast (by rw [hk])) (by walk_at "slot") (by walk_at "nm")) ?_
        · exact IntMulOk.of_left (intBits_le_64 (by (clear hk m2 hM c4 hF e seg c3 c2 c1 hkps hw hv hps k hxs hl hn S hA hW; omega)) (by (clear hk m2 m1 c4 hF e seg hkps hw hv hps k hxs hn S hA hW; lia)))
        · obtain ⟨s1, s2⟩ := seg M R (by (clear hk m2 hM c4 hF e seg c3 c2 hkps hw hv hps k hxs hl hn S hA hW; omega)) m2 c3
          have big : ∀ j : Nat, j ≤ 100 → n * j ≤ 6400 := fun j hj => Nat.mul_le_mul hn hj
          refine exr_ret ((ev_bin (d₁ := .int (d2i n ((xs.drop M.toNat).take (R - M).toNat) * 2 ^ (n * (M - L).toNat))) (d₂ := .int (d2i n ((xs.drop L.toNat).take (M - L).toNat))) (ev_bin (d₁ := .int (d2i n ((xs.drop M.toNat).take (R - M).toNat))) (ev_fcall (ds := [.int M, .int R]) rfl (.two (by walk_at "ev") (by walk_at "ev")) ?_ (Nat.le_refl _)) (ev_name rfl) ((op_shl ?_ ?_).cast ?_)) (ev_fcall (ds := [.int L, .int M]) rfl (.two (by walk_at "ev") (by walk_at "ev")) ?_ (Nat.le_refl _)) op_add).cast ?_)
          · show segF n xs m [.int M, .int R] = _
            simp only [segF]
            rw [if_pos ⟨by (clear big s2 s1 hk m2 hM c4 hF e seg c3 c2 hkps hw hv hps k hxs hl hn S hA hW; omega), m2, c3, by (clear big s2 s1 hk m2 hM hF e seg c3 c2 c1 hkps hw hv hps k hxs hl hn S hA hW; omega)⟩]
          · exact Int.natCast_nonneg _
          · have h1 : Builtin.Int.intBits (d2i n ((xs.drop M.toNat).take (R - M).toNat)) ≤ n * (R - M).toNat := PyProof.Rows.intBits_le (by
              have : ((d2i n ((xs.drop M.toNat).take (R - M).toNat)).natAbs : Int) < ((2 ^ (n * (R - M).toNat) : Nat) : Int) := by
                rw [Int.natAbs_of_nonneg s1]; push_cast; exact s2
              exact Int.ofNat_lt.mp this)
            have h2 := big (R - M).toNat (by (clear h1 big s2 s1 hk m1 c4 hF e seg hkps hw hv hps k hxs hn S hA hW; lia))
            have h3 := big (M - L).toNat (by (clear h2 h1 big s2 s1 hk m2 c4 hF e seg hkps hw hv hps k hxs hn S hA hW; lia))
            (clear big s2 s1 hk m2 m1 hmid hM c4 hF e seg c3 c2 c1 hkps hw hv hps k hxs hl hn S hA hW; lia)
          · rw [Int.toNat_natCast]
          · show segF n xs m [.int L, .int M] = _
            simp only [segF]
            rw [if_pos ⟨c1, m1, by (clear big s2 s1 hk m1 hM c4 hF e seg c2 c1 hkps hw hv hps k hxs hl hn S hA hW; omega), by (clear big s2 s1 hk m1 hM hF e seg c3 c2 c1 hkps hw hv hps k hxs hl hn S hA hW; omega)⟩]
          · have e1 : (R - L).toNat = (M - L).toNat + (R - M).toNat := by (clear big s2 s1 hk hM c4 hF e seg c3 c1 hkps hw hv hps k hxs hl hn S hA hW; lia)
            have e2 : M.toNat = L.toNat + (M - L).toNat := by (clear e1 big s2 s1 hk c4 hF e seg hkps hw hv hps k hxs hn S hA hW; lia)
            have e3 : ((xs.drop L.toNat).take (M - L).toNat).length = (M - L).toNat := by rw [List.length_take, List.length_drop]; (clear e1 big s2 s1 hk c4 hF e seg hkps hw hv hps k hxs hn S hA hW; lia)
            rw [e1, List.take_add, d2i_append, e3, List.drop_drop, ← e2, Int.add_comm, Int.mul_comm]
    · cases hF
  · -- the call
    refine exr_ret (ev_ifexp (b := !xs.isEmpty) (et_val (ev_name rfl) ?_) (fun e => ?_) (fun e => ?_))
    · simp only [truthD, List.length_map]
      rw [if_pos (by (clear hkps hw hv hps k hxs hn S hA hW; lia))]
      cases xs <;> rfl
    · have hne : xs ≠ [] := by intro q; subst q; cases e
      have hl0 : 0 < xs.length := List.length_pos_iff.mpr hne
      refine ev_fcall (ds := [.int 0, .int xs.length]) rfl (.two ev_int ((ev_len (by walk_at "boot") (ev_name rfl) rfl (by simp; (clear hne e hkps hw hv hps k hxs hn S hA hW; lia))).cast (by simp))) ?_ (by decide)
      simp only [segF]
      rw [if_pos ⟨by decide, by (clear hne e hkps hw hv hps k hxs hn S hA hW; lia), by (clear hl0 hne e hkps hw hv hps k hxs hl hn S hA hW; lia), by (clear hne e hkps hw hv hps k hxs hn S hA hW; lia)⟩]
      simp
    · have : xs = [] := by simpa using e
      subst this
      exact ev_int
end
section
noncomputable def dI (l : List Nat) : List Dat := l.map fun x => Dat.int (x : Nat)
theorem dI_length (l : List Nat) : (dI l).length = l.length := List.length_map _
theorem dI_append (a b : List Nat) : dI (a ++ b) = dI a ++ dI b := List.map_append
noncomputable def i2dG (nb : Nat) (m : Nat) (args ds ds' : List Dat) : Prop :=
  ∃ X L R : Nat, args = [.int X, .int L, .int R] ∧ L < R ∧ R ≤ ds.length ∧ R - L ≤ m + 1 ∧ X < 2 ^ (nb * (R - L)) ∧ ds.length ≤ 100 ∧ ds' = ds.take L ++ (dI (digs nb (R - L) X) ++ ds.drop R)
theorem i2d_len {nb L R X : Nat} {ds : List Dat} (h1 : L < R) (h2 : R ≤ ds.length) : (ds.take L ++ (dI (digs nb (R - L) X) ++ ds.drop R)).length = ds.length := by
  rw [List.length_append, List.length_append, dI_length, digs_length, List.length_take, List.length_drop]; lia
theorem i2d_join {nb L M R X : Nat} {ds : List Dat} (h1 : L < M) (h2 : M < R) (h3 : R ≤ ds.length) :
    (ds.take L ++ (dI (digs nb (M - L) (X % 2 ^ (nb * (M - L)))) ++ ds.drop M)).take M ++ (dI (digs nb (R - M) (X / 2 ^ (nb * (M - L)))) ++ (ds.take L ++ (dI (digs nb (M - L) (X % 2 ^ (nb * (M - L)))) ++ ds.drop M)).drop R) = ds.take L ++ (dI (digs nb (R - L) X) ++ ds.drop R) := by
  have e1 : (ds.take L ++ dI (digs nb (M - L) (X % 2 ^ (nb * (M - L))))).length = M := by
    rw [List.length_append, dI_length, digs_length, List.length_take]; lia
  rw [← List.append_assoc (ds.take L), List.take_left' e1, List.drop_append, e1, List.drop_eq_nil_of_le (by (clear h3 h1; lia)), List.nil_append, List.drop_drop, show M + (R - M) = R by (clear h3 h1; lia),
    digs_mod, show R - L = (M - L) + (R - M) by (clear h3; lia), digs_add, dI_append]
  simp only [List.append_assoc]
theorem i2d_one {nb L X : Nat} {ds : List Dat} (h1 : L + 1 ≤ ds.length) (h : X < 2 ^ (nb * (L + 1 - L))) : ds.set L (.int X) = ds.take L ++ (dI (digs nb (L + 1 - L) X) ++ ds.drop (L + 1)) := by
  rw [show L + 1 - L = 1 by (clear h h1; lia)] at *
  rw [digs_one nb X (by simpa using h), List.set_eq_take_append_cons_drop, if_pos (by (clear h; lia))]
  rfl
theorem c_i2d (W : Wd) (P : Params) (hW : WL W P) : GCall W 110 35 (fun ps kps d => ∃ (a n : Nat), ps = [.dat (.int a), .dat (.int n)] ∧ kps = [] ∧ 0 < n ∧ n ≤ 64 ∧ (Builtin.Int.intBits a + n - 1) / n ≤ 100 ∧ d = .list (dI (digs n ((Builtin.Int.intBits a + n - 1) / n) a))) := by
  intro A h₀ fenv L m mu fz s vs kvs ps kps d Q E hA S hps hkps hG k
  obtain ⟨a, n, rfl, rfl, hn0, hn, hk, rfl⟩ := hG
  obtain ⟨v, w, rfl, hv, hw⟩ := PRepA.i2 hps
  cases KRepA.i0 hkps
  refine call_K0 (f := 35) (lv := 109) (sc := { kind := .function, names := [("a", .local), ("n", .cell), ("a_digits", .cell), ("inner", .cell), ("len", .globalImplicit)], isGenerator := false, isCoroutine := false, more := [("@code", .int 34), ("@qual", .str "_int2digits.<locals>.")] }) (by rw [hW.K]; rfl) (by rw [hW.K]; rfl) (by rfl) (by decide) hA S (binds := [("a", v), ("n", w)]) (nsb := ["a", "n"]) (ρ := [("a", .dat (.int a)), ("n", .dat (.int n))]) (BindsTo.of_eq rfl) (by rfl) (by rfl) (by decide) (.dat (by walk_at "nm") rfl hv (.dat (by walk_at "nm") rfl hw .nil)) (by rfl) (fun c hc => by cases hc; rfl) (fun c hc => by cases hc; rfl) ?_ Q k
  generalize hK : (Builtin.Int.intBits a + n - 1) / n = K at hk ⊢
  have hb : Builtin.Int.intBits a ≤ 6400 := by
    have h1 : Builtin.Int.intBits a + n - 1 < n * (K + 1) := by rw [← hK]; exact Nat.lt_mul_div_succ _ hn0
    have h2 : n * (K + 1) ≤ 64 * 101 := Nat.mul_le_mul hn (by (clear h1 hK hkps hw hv hps k hn hn0 S hA hW; lia))
    have h3 : n * K ≤ 64 * 100 := Nat.mul_le_mul hn hk
    rw [Nat.mul_succ] at h1
    (clear h2 hk hK hkps hw hv hps k S hA hW; lia)
  have hzero : ((List.replicate K [(0 : Int)]).flatten.map Dat.int) = List.replicate K (Dat.int 0) := by
    clear hK hk
    induction K with
    | zero => rfl
    | succ K ih => rw [List.replicate_succ, List.flatten_cons, List.map_append, ih, List.replicate_succ]; rfl
  refine exr_seq (ρ' := [("a_digits", .lst (List.replicate K (Dat.int 0))), ("a", .dat (.int a)), ("n", .dat (.int n))]) (EX.to (ex_assign_lst (ds := ((List.replicate (K : Int).toNat [(0 : Int)]).flatten.map Dat.int)) (ef_mul (x := (K : Int)) (ns := [0]) ?_ ?_ (by (clear hzero hb hK hkps hw hv hps k hn hn0 S hA hW; lia)) (by (clear hzero hb hK hkps hw hv hps k hn hn0 S hA hW; lia)) (by simp; (clear hzero hb hK hkps hw hv hps k hn hn0 S hA hW; lia))) (by walk_at "slot") (by walk_at "nm") (by simp)) ⟨by rw [Int.toNat_natCast, hzero]; rfl, rfl, rfl, trivial⟩) ?_
  · exact (ev_list (ds := [.int 0]) (EVs.one ev_int))
  · refine (ev_bin (d₁ := .int ((Builtin.Int.intBits a : Nat) + n - 1)) (d₂ := .int n) (ev_bin (ev_bin (ev_bitlen (ev_name rfl)) (ev_name rfl) op_add) ev_int op_sub) (ev_name rfl) (op_fdiv (by (clear hzero hb hk hK hkps hw hv hps k S hA hW; lia)) (PyProof.noPylong_small ?_))).cast ?_
    · (clear hzero hb hk hK hkps hw hv hps k S hA hW; omega)
    · rw [Int.fdiv_eq_ediv_of_nonneg _ (by (clear hzero hb hk hK hkps hw hv hps k S hA hW; lia)), ← hK]
      congr 2
      have : ((Builtin.Int.intBits a : Nat) : Int) + n - 1 = ((Builtin.Int.intBits a + n - 1 : Nat) : Int) := by (clear hzero hk hK hkps hw hv hps k S hA hW; lia)
      rw [this]; rfl
  refine exr_def_mut (t := (34, 30, "_int2digits.<locals>.inner")) (q := "_int2digits.<locals>.") (y := "a_digits") (ds₀ := List.replicate K (Dat.int 0)) (ρ₁ := [("n", .dat (.int n))]) (pn := ["x", "L", "R"]) (G := i2dG n) (N := 100) (ρ' := [])
    ⟨hW.gl, by decide, by decide, hW.c2⟩ rfl rfl (by decide) (fun pv qv => innerOk (keys := ["inner", "a_digits", "n"]) (by rfl) (by decide) rfl) (CapN.all ⟨⟨rfl, rfl⟩, ⟨rfl, rfl⟩, trivial⟩) (by rfl) (by rfl) (by walk_at "nm") rfl rfl (fun _ => rfl) (fun vs cl doc pm cdv ctv hv => ?_) (by rfl) (by decide) (plainAll (by rfl)) rfl rfl ?_ rfl rfl ?_ (by rfl)
  · match vs, hv with
    | [a, b, c], _ => rfl
  · intro lv args ds ds' hG
    obtain ⟨X, L, R, rfl, h1, h2, h3, h4, h5, rfl⟩ := hG
    refine ⟨rfl, ?_⟩
    by_cases e : L + 1 = R
    · subst e
      refine ⟨.ret .none [("a_digits", .lst (ds.set L (.int X)))], rfl, ?_, exm_ift ((et_cmp (by walk_at "ev") (by walk_at "ev") op_eqi).cast ?_) (EX.from (ρ' := [("x", .dat (.int X)), ("L", .dat (.int L)), ("a_digits", .lst ds)]) (ex_seq (ρ' := [("a_digits", .lst (ds.set L (.int X)))]) (EX.to (ex_setitem (k := L) (ev_name rfl) rfl (ev_name rfl) (by (clear h4 h3 h1 h5 hzero hb hk hK hkps hw hv hps k hn hn0 S hA hW; lia)) (by (clear h4 h3 h2 h1 hzero hb hk hK hkps hw hv hps k hn hn0 S hA hW; lia))) ⟨rfl, trivial⟩) (ex_ret ex_return_none)) ⟨rfl, rfl, rfl, trivial⟩)⟩
      · rw [← i2d_one h2 h4]; rfl
      · simp
    · obtain ⟨m, rfl⟩ : ∃ m, lv = m + 1 := ⟨lv - 1, by (clear h5 h4 h2 hzero hb hk hK hkps hw hv hps k hn hn0 S hA hW; lia)⟩
      have hmid : ((L : Int) + R).fdiv (2 ^ (1 : Int).toNat) = (((L + R) / 2 : Nat) : Int) := by
        rw [Int.fdiv_eq_ediv_of_nonneg _ (by decide)]; rfl
      generalize hM : (L + R) / 2 = M at hmid
      have m1 : L < M := by (clear h3 h5 h4 h2 hzero hb hk hK hkps hw hv hps k hn hn0 S hA hW; lia)
      have m2 : M < R := by (clear m1 h3 e h5 h4 h2 hzero hb hk hK hkps hw hv hps k hn hn0 S hA hW; lia)
      have bigM : n * (M - L) ≤ 64 * 100 := Nat.mul_le_mul hn (by (clear m2 h3 e h4 h1 hzero hb hk hK hkps hw hv hps k hn hn0 S hA hW; lia))
      have bigR : n * (R - L) ≤ 64 * 100 := Nat.mul_le_mul hn (by (clear bigM m2 m1 hmid hM h3 e h4 hzero hb hk hK hkps hw hv hps k hn hn0 S hA hW; lia))
      have hpow : 2 ^ (n * (R - L)) = 2 ^ (n * (M - L)) * 2 ^ (n * (R - M)) := by
        rw [← Nat.pow_add, ← Nat.mul_add]; congr 2; (clear bigR bigM hM h3 e h5 h4 h2 hzero hb hk hK hkps hw hv hps k hn hn0 S hA hW; lia)
      have hup : X / 2 ^ (n * (M - L)) < 2 ^ (n * (R - M)) := by
        refine Nat.div_lt_of_lt_mul ?_
        rw [← hpow]; exact h4
      have hlo : X % 2 ^ (n * (M - L)) < 2 ^ (n * (M - L)) := Nat.mod_lt _ (Nat.pow_pos (by decide))
      generalize hS : n * (M - L) = S at *
      refine ⟨.next [("a_digits", .lst (ds.take L ++ (dI (digs n (R - L) X) ++ ds.drop R)))], trivial, rfl, exm_iff ((et_cmp (by walk_at "ev") (by walk_at "ev") op_eqi).cast ?_) ?_⟩
      · simp only [beq_eq_false_iff_ne, ne_eq]; (clear hlo hup hpow bigM hS bigR m2 h3 e h5 h4 h2 h1 hzero hb hk hK hkps hw hv hps k hn hn0 hA hW; lia)
      · refine exm_seq (.head _) (ex_assign (d := .int M) ((ev_bin (by walk_at "ev") (by walk_at "ev") (op_shr (by decide))).cast (by rw [hmid])) (by walk_at "slot") (by walk_at "nm")) ?_
        refine exm_seq (.head _) (ex_assign (d := .int (S : Nat)) ((ev_bin (by walk_at "ev") (ev_name rfl) (op_mul (IntMulOk.of_left (intBits_le_64 (by (clear hlo hup hpow bigM hS bigR m2 hM h3 e h5 h4 h2 h1 hzero hb hk hK hkps hw hv hps k hn hn0 hA hW; lia)) (by (clear hlo hup hpow bigM hS bigR m2 m1 h3 e h4 h1 hzero hb hk hK hkps hw hv hps k hn hn0 hA hW; lia)))))).cast ?_) (by walk_at "slot") (by walk_at "nm")) ?_
        · rw [← hS, Int.mul_comm]; push_cast; rw [Int.ofNat_sub (by (clear hlo hup hpow bigM hS bigR m2 hM h3 e h5 h4 h2 h1 hzero hb hk hK hkps hw hv hps k hn hn0 hA hW; lia))]
        refine exm_seq (.head _) (ex_assign (d := .int (X / 2 ^ S : Nat)) ((ev_bin (ev_name rfl) (ev_name rfl) (op_shr (Int.natCast_nonneg _))).cast ?_) (by walk_at "slot") (by walk_at "nm")) ?_
        · rw [Int.toNat_natCast, Int.fdiv_eq_ediv_of_nonneg _ (Int.le_of_lt (Int.pow_pos (by decide)))]; push_cast; rfl
        refine exm_seq (.head _) (ex_assign (d := .int (X % 2 ^ S : Nat)) ((ev_bin (ev_name rfl) (ev_bin (d := .int ((X / 2 ^ S * 2 ^ S : Nat) : Int)) (ev_name rfl) (ev_name rfl) ((op_shl (Int.natCast_nonneg _) ?_).cast ?_)) op_xor).cast ?_) (by walk_at "slot") (by walk_at "nm")) ?_
        · have hb : Builtin.Int.intBits ((X / 2 ^ S : Nat) : Int) ≤ n * (R - M) := intBits_le_iff.mpr hup
          have : n * (R - M) ≤ 64 * 100 := Nat.mul_le_mul hn (by (clear hb hlo hup hpow bigM hS bigR m1 h3 e h4 hzero hk hK hkps hw hv hps k hn hn0 hA hW; lia))
          (clear hlo hup hpow bigR m2 m1 hmid hM h3 e h5 h4 h2 h1 hzero hk hK hkps hw hv hps k hn hn0 hA hW; lia)
        · rw [Int.toNat_natCast]; push_cast; rfl
        · rw [bitXor_shift]
        refine exm_call (args := [.int (X % 2 ^ S : Nat), .int L, .int M]) (by rfl) (by walk_at "nm") (by (clear hlo hup hpow bigM hS bigR m2 m1 hmid hM h3 e h5 h4 h2 h1 hzero hb hk hK hkps hw hv hps k hn hn0 hA hW; lia)) rfl (.cons rfl (ev_name rfl) (.two (ev_name rfl) (ev_name rfl))) ⟨X % 2 ^ S, L, M, rfl, m1, by (clear hlo hup hpow bigM hS bigR m1 hM h3 e h5 h4 h1 hzero hb hk hK hkps hw hv hps k hn hn0 hA hW; lia), by (clear hlo hup hpow bigM hS bigR hM e h5 h4 h2 hzero hb hk hK hkps hw hv hps k hn hn0 hA hW; omega), ?_, h5, rfl⟩ ?_
        · rw [hS]; exact hlo
        refine exm_call (args := [.int (X / 2 ^ S : Nat), .int M, .int R]) (by rfl) (by walk_at "nm") (by (clear hlo hup hpow bigM hS bigR m2 m1 hmid hM h3 e h5 h4 h2 h1 hzero hb hk hK hkps hw hv hps k hn hn0 hA hW; lia)) rfl (.cons rfl (ev_name rfl) (.two (ev_name rfl) (ev_name rfl))) ⟨X / 2 ^ S, M, R, rfl, m2, ?_, by (clear hlo hup hpow bigM hS bigR hM e h5 h4 h2 hzero hb hk hK hkps hw hv hps k hn hn0 hA hW; lia), hup, ?_, rfl⟩ ?_
        · rw [i2d_len m1 (by (clear hlo hup hpow bigM hS bigR m1 hM h3 e h5 h4 h1 hzero hb hk hK hkps hw hv hps k hn hn0 hA hW; lia))]; exact h2
        · rw [i2d_len m1 (by (clear hlo hup hpow bigM hS bigR m1 hM h3 e h5 h4 h1 hzero hb hk hK hkps hw hv hps k hn hn0 hA hW; lia))]; exact h5
        refine exm_of (ex_nil.forget (SubN.look ⟨?_, trivial⟩))
        rw [← hS, i2d_join m1 m2 h2]; rfl
  · have hlt : a < 2 ^ (n * K) := by
      have h1 := Nat.lt_mul_div_succ (Builtin.Int.intBits a + n - 1) hn0
      rw [hK, Nat.mul_succ] at h1
      exact intBits_le_iff.mp (show Builtin.Int.intBits (a : Int) ≤ n * K by (clear hzero hb hk hK hkps hw hv hps k hn hn0 S hA hW; omega))
    refine exm_if_call (b := decide (a ≠ 0)) (args := [.int a, .int 0, .int K]) (et_val (ev_name rfl) ?_) (by rfl) (by walk_at "nm") (by (clear hlt hzero hb hk hK hkps hw hv hps k hn hn0 S hA hW; lia)) rfl (fun _ => .cons rfl (ev_name rfl) (.two ev_int ((ev_len (by walk_at "boot") (ev_name rfl) rfl ?_).cast ?_))) (ds' := dI (digs n K a)) (fun e => ?_) (fun e => ?_) (fun e => ?_)
    · by_cases h : a = 0 <;> simp [truthD, h]
    · rw [List.length_replicate]; (clear hlt hzero hb hK hkps hw hv hps k hn hn0 S hA hW; lia)
    · rw [List.length_replicate]
    · have ha : a ≠ 0 := of_decide_eq_true e
      have hK0 : 0 < K := by
        rcases Nat.eq_zero_or_pos K with h | h
        · subst h; simp at hlt; (clear hzero hk hK e hb hkps hw hv hps k hn hn0 S hA hW; lia)
        · exact h
      refine ⟨a, 0, K, rfl, hK0, by rw [List.length_replicate]; (clear hK0 ha e hlt hzero hb hk hK hkps hw hv hps k hn hn0 S hA hW; lia), by (clear ha e hlt hzero hb hK hkps hw hv hps k hn hn0 S hA hW; lia), hlt, by rw [List.length_replicate]; exact hk, ?_⟩
      rw [List.take_zero, List.nil_append, List.drop_eq_nil_of_le (by rw [List.length_replicate]; (clear hK0 ha e hlt hzero hb hk hK hkps hw hv hps k hn hn0 S hA hW; lia)), List.append_nil]; rfl
    · obtain ⟨r, hr⟩ := exr_ret_lst (W := W) (lv := 109) (x := "a_digits") (ρ := [("a_digits", .lst (dI (digs n K a))), ("a_digits", .lst (List.replicate K (Dat.int 0))), ("a", .dat (.int a)), ("n", .dat (.int n))]) (ds := dI (digs n K a)) rfl
      exact hr.retNil
    · have ha : a = 0 := by simpa using e
      subst ha
      have hK1 : K = 0 := by
        rw [← hK, show Builtin.Int.intBits ((0 : Nat) : Int) = 0 from rfl]
        exact Nat.div_eq_of_lt (by (clear e hlt hb hK hv hps k hzero hk hkps hw S hA hW; lia))
      subst hK1
      obtain ⟨r, hr⟩ := exr_ret_lst (W := W) (lv := 109) (x := "a_digits") (ρ := [("a_digits", .lst (List.replicate 0 (Dat.int 0))), ("a", .dat (.int (0 : Nat))), ("n", .dat (.int n))]) (ds := dI (digs n 0 0)) rfl
      exact hr.retNil
end
section
theorem d2i_dn (n : Nat) : ∀ l : List Nat, d2i n (l.map fun x : Nat => (x : Int)) = (dn n l : Nat)
  | [] => rfl
  | x :: l => by
    show (x : Int) + 2 ^ n * d2i n (l.map fun x : Nat => (x : Int)) = ((x + 2 ^ n * dn n l : Nat) : Int)
    rw [d2i_dn n l]; push_cast; rfl
theorem dI_ints (l : List Nat) : dI l = (l.map fun x : Nat => (x : Int)).map Dat.int := by
  unfold dI; rw [List.map_map]; rfl
theorem dI_reverse (l : List Nat) : (dI l).reverse = dI l.reverse := List.map_reverse.symm
theorem c_divmod_pos (W : Wd) (P : Params) (hW : WL W P) : GCall W 112 49 (fun ps kps d => ∃ (a b : Nat), ps = [.dat (.int a), .dat (.int b)] ∧ kps = [] ∧ 0 < b ∧ Builtin.Int.intBits b ≤ 64 ∧ (Builtin.Int.intBits a + Builtin.Int.intBits b - 1) / Builtin.Int.intBits b ≤ 100 ∧ d = .tuple [.int (a / b : Nat), .int (a % b : Nat)]) := by
  intro A h₀ fenv L m mu fz s vs kvs ps kps d Q E hA S hps hkps hG k
  obtain ⟨a, b, rfl, rfl, hb0, hb64, hK, rfl⟩ := hG
  obtain ⟨v, w, rfl, hv, hw⟩ := PRepA.i2 hps
  cases KRepA.i0 hkps
  refine call_K0 (f := 49) (lv := 111) (by rw [hW.K]; rfl) (by rw [hW.K]; rfl) (by rfl) (by decide) hA S (binds := [("a", v), ("b", w)]) (nsb := ["a", "b"]) (ρ := [("a", .dat (.int a)), ("b", .dat (.int b))]) (BindsTo.of_eq rfl) (by rfl) (by rfl) (by decide)
    (.dat (by walk_at "nm") rfl hv (.dat (by walk_at "nm") rfl hw .nil)) rfl (fun c hc => by cases hc) (fun c hc => by cases hc) ?_ Q k
  have hn0 : 0 < Builtin.Int.intBits (b : Int) := by
    rcases Nat.eq_zero_or_pos (Builtin.Int.intBits (b : Int)) with h | h
    · have := intBits_le_iff.mp (show Builtin.Int.intBits (b : Int) ≤ 0 by (clear hkps hw hv hps k hK hb64 hb0 S hA hW; lia))
      simp at this; (clear h hkps hw hv hps k hK hb64 S hA hW; lia)
    · exact h
  have hbn : b < 2 ^ Builtin.Int.intBits (b : Int) := intBits_le_iff.mp (show Builtin.Int.intBits (b : Int) ≤ _ from Nat.le_refl _)
  refine exr_seq (ex_assign (ev_bitlen (ev_name rfl)) (by walk_at "slot") (by walk_at "nm")) ?_
  have hlt : a < 2 ^ (Builtin.Int.intBits (b : Int) * ((Builtin.Int.intBits a + Builtin.Int.intBits b - 1) / Builtin.Int.intBits b)) := by
    have h1 := Nat.lt_mul_div_succ (Builtin.Int.intBits a + Builtin.Int.intBits b - 1) hn0
    rw [Nat.mul_add, Nat.mul_one] at h1
    exact intBits_le_iff.mp (show Builtin.Int.intBits (a : Int) ≤ _ by (clear hbn hn0 hkps hw hv hps k hK hb64 hb0 S hA hW; omega))
  refine exr_seq (ex_assign (d := .list (dI (digs (Builtin.Int.intBits b) ((Builtin.Int.intBits a + Builtin.Int.intBits b - 1) / Builtin.Int.intBits b) a))) (ev_gcall (by walk_at "glb") (c_i2d W P hW) (.two (ev_name rfl) (ev_name rfl)) ⟨a, Builtin.Int.intBits b, rfl, rfl, hn0, hb64, hK, rfl⟩ (by decide)) (by walk_at "slot") (by walk_at "nm")) ?_
  generalize Builtin.Int.intBits (b : Int) = n at *
  generalize (Builtin.Int.intBits (a : Int) + n - 1) / n = K at *
  obtain ⟨r0, hr0⟩ : ∃ r0 : Nat, r0 = 0 := ⟨0, rfl⟩
  refine exr_seq (ex_assign (d := .int r0) (ev_int.cast (by rw [hr0]; rfl)) (by walk_at "slot") (by walk_at "nm")) ?_
  refine exr_seq (ex_assign_lst (ef_list (ds := []) .nil) (by walk_at "slot") (by walk_at "nm") (by simp)) ?_
  obtain ⟨s1, s2, s3⟩ := ldiv_spec n b hb0 (digs n K a).reverse 0 hb0 fun d hd => digs_lt n K a d (List.mem_reverse.mp hd)
  obtain ⟨v1, v2⟩ := ldiv_all n b K a hb0 hlt
  have hlen := ldiv_len n b (digs n K a).reverse 0
  rw [List.length_reverse, digs_length] at hlen
  rw [← hr0] at s1 s2 s3 v1 v2 hlen
  refine exr_seq (ρ' := [("r", .dat (.int ((ldiv n b r0 (digs n K a).reverse).1 : Nat))), ("q_digits", .lst (dI ([] ++ (ldiv n b r0 (digs n K a).reverse).2))), ("a_digits", .dat (.list (dI (digs n K a)))), ("n", .dat (.int n)), ("b", .dat (.int b))])
    (EX.from (ρ' := [("r", .dat (.int r0)), ("q_digits", .lst (dI [])), ("a_digits", .dat (.list (dI (digs n K a)))), ("n", .dat (.int n)), ("b", .dat (.int b))]) (ex_for (items := dI (digs n K a).reverse) (fun _ _ => rfl) ?_ ?_ ?loop) (by walk_at "sub")) ?_
  · rw [← dI_reverse]
    exact ei_dreversed (by walk_at "boot") rfl (ev_name rfl)
  · intro x hx
    rcases List.mem_cons.mp hx with rfl | hx
    · exact ⟨by walk_at "slot", by walk_at "nm"⟩
    · cases hx
  show EXR _ _ _ _ (_ :: _) _
  refine exr_seq (ex_reverse (y := "q_digits") (ds := dI ([] ++ (ldiv n b r0 (digs n K a).reverse).2)) rfl ?_) ?_
  · rw [dI_length, List.nil_append]; (clear v2 v1 s3 s2 s1 hr0 hlt hbn hn0 hb64 hkps hw hv hps k hb0 S hA hW; lia)
  refine exr_freeze (x := "q_digits") rfl ?_
  refine exr_seq (ex_assign (d := .int (a / b : Nat)) ((ev_gcall (by walk_at "glb") (c_d2i W P hW) (.two (ev_name rfl) (ev_name rfl)) ⟨((ldiv n b r0 (digs n K a).reverse).2.reverse.map fun x : Nat => (x : Int)), n, ?_, rfl, by (clear hlen v2 v1 s3 s2 s1 hr0 hlt hK hbn hkps hw hv hps k hb0 S hA hW; lia), ?_, ?_, rfl⟩ (by decide)).cast ?_) (by walk_at "slot") (by walk_at "nm")) ?_
  · rw [← dI_ints, dI_reverse]; rfl
  · rw [List.length_map, List.length_reverse]; (clear v2 v1 s3 s2 s1 hr0 hlt hbn hn0 hb64 hkps hw hv hps k hb0 S hA hW; lia)
  · intro x hx
    obtain ⟨y, hy, rfl⟩ := List.mem_map.mp hx
    have := s2 y (List.mem_reverse.mp hy)
    exact ⟨Int.natCast_nonneg _, by exact_mod_cast this⟩
  · rw [d2i_dn, v2]
  · rw [← v1]
    exact exr_ret (ev_tuple (ds := [.int (a / b : Nat), .int ((ldiv n b r0 (digs n K a).reverse).1 : Nat)]) (.two (ev_name rfl) (ev_name rfl)) (by simp))
  case loop =>
    have hr : r0 < b := by (clear hlen v2 s2 hlt hK hbn hn0 hb64 hkps hw hv hps k hb0 S hA hW; lia)
    have hd : ∀ d ∈ (digs n K a).reverse, d < 2 ^ n := fun d hd => digs_lt n K a d (List.mem_reverse.mp hd)
    have hl : ([] : List Nat).length + (digs n K a).reverse.length ≤ 1000 := by rw [List.length_reverse, digs_length, List.length_nil]; (clear hd hr v2 v1 s3 s2 s1 hr0 hlt hbn hn0 hb64 hkps hw hv hps k hb0 S hA hW; lia)
    clear s1 s2 s3 v1 v2 hlen k
    revert hr hd hl
    generalize (digs n K a).reverse = ds
    generalize dI (digs n K a) = adig
    generalize ([] : List Nat) = qs
    clear hr0
    intro hr hd hl
    induction ds generalizing r0 qs with
    | nil => simp only [ldiv, List.append_nil]; exact .nil
    | cons d ds ih =>
      have hx : r0 * 2 ^ n + d < 2 ^ (n + n) := by
        have h1 : (r0 + 1) * 2 ^ n ≤ 2 ^ n * 2 ^ n := Nat.mul_le_mul_right _ (by (clear hl hd ih hlt hK hn0 hb64 hkps hw hv hps hb0 S hA hW; lia))
        rw [Nat.add_mul, Nat.one_mul] at h1
        have h2 := hd d (.head _)
        rw [Nat.pow_add]; (clear hl hd hr ih hlt hK hbn hn0 hb64 hkps hw hv hps hb0 S hA hW; omega)
      have hdd : ((r0 * 2 ^ n + d : Nat) : Int).fdiv b = (((r0 * 2 ^ n + d) / b : Nat) : Int) ∧ ((r0 * 2 ^ n + d : Nat) : Int).fmod b = (((r0 * 2 ^ n + d) % b : Nat) : Int) := by
        constructor
        · rw [Int.fdiv_eq_ediv_of_nonneg _ (Int.natCast_nonneg _)]; rfl
        · rw [Int.fmod_eq_emod_of_nonneg _ (Int.natCast_nonneg _)]; rfl
      have e1 : qs ++ (ldiv n b r0 (d :: ds)).2 = (qs ++ [(r0 * 2 ^ n + d) / b]) ++ (ldiv n b ((r0 * 2 ^ n + d) % b) ds).2 := by simp [ldiv]
      have e2 : (ldiv n b r0 (d :: ds)).1 = (ldiv n b ((r0 * 2 ^ n + d) % b) ds).1 := rfl
      rw [e1, e2]
      refine .cons (bs := [("a_digit", .dat (.int d))]) rfl (ex_seq (ex_unpack (a := .int ((r0 * 2 ^ n + d) / b : Nat)) (b := .int ((r0 * 2 ^ n + d) % b : Nat)) ((ev_gcall (by walk_at "glb") (c_div2n1n W P hW) (.cons rfl (ev_bin (d := .int ((r0 * 2 ^ n + d : Nat) : Int)) (ev_bin (ev_name rfl) (ev_name rfl) (op_shl (Int.natCast_nonneg _) ?_)) (ev_name rfl) (op_add.cast ?_)) (.two (ev_name rfl) (ev_name rfl))) ⟨_, b, n, rfl, rfl, ?_, by (clear e2 e1 hdd hx hl hd hr ih hlt hK hbn hn0 hb64 hkps hw hv hps S hA hW; lia), ?_, rfl⟩ (by decide)).cast ?_) (by walk_at "slot") (by walk_at "nm") (by walk_at "slot") (by walk_at "nm"))
        (ex_seq (ρ' := [("r", .dat (.int ((r0 * 2 ^ n + d) % b : Nat))), ("q_digits", .lst (dI (qs ++ [(r0 * 2 ^ n + d) / b]))), ("a_digits", .dat (.list adig)), ("n", .dat (.int n)), ("b", .dat (.int b))]) (EX.to (ex_append (d := .int ((r0 * 2 ^ n + d) / b : Nat)) rfl (ev_name rfl) ?_ rfl) ⟨rfl, ?_, rfl, rfl, rfl, trivial⟩) ex_nil)) (ih _ _ (Nat.mod_lt _ hb0) (fun x hx => hd x (.tail _ hx)) ?_)
      · have h1 : Builtin.Int.intBits (r0 : Int) ≤ n := intBits_le_iff.mpr (show r0 < 2 ^ n by (clear e2 e1 hdd hx hl hd ih hlt hK hn0 hb64 hkps hw hv hps hb0 S hA hW; lia))
        (clear e2 e1 hdd hx hl hd hr ih hlt hK hbn hkps hw hv hps hb0 S hA hW; lia)
      · rw [Int.toNat_natCast]; push_cast; rfl
      · have h1 : Builtin.Int.intBits ((r0 * 2 ^ n + d : Nat) : Int) ≤ n + n := intBits_le_iff.mpr hx
        (clear e2 e1 hdd hx hl hd hr ih hlt hK hbn hkps hw hv hps hb0 S hA hW; lia)
      · have : (b : Nat).log2 < 64 ∨ b = 0 := by
          by_cases h : b = 0
          · exact .inr h
          · exact .inl ((Nat.log2_lt h).mpr (Nat.lt_of_lt_of_le hbn (Nat.pow_le_pow_right (by decide) hb64)))
        rw [Int.natAbs_natCast]; (clear e2 e1 hdd hx hl hd hr ih hlt hK hbn hn0 hb64 hkps hw hv hps S hA hW; lia)
      · rw [hdd.1, hdd.2]
      · rw [dI_length]; (clear e2 e1 hdd hx hd hr ih hlt hK hbn hn0 hb64 hkps hw hv hps hb0 S hA hW; lia)
      · rw [dI_append]; rfl
      · rw [List.length_append]; simp only [List.length_cons, List.length_nil] at hl ⊢; (clear e2 e1 hdd hx hd hr ih hlt hK hbn hn0 hb64 hkps hw hv hps hb0 S hA hW; lia)
end
section
/-- what int_divmod asks of its sizes -/
noncomputable def DmOk (a b : Int) : Prop := b ≠ 0 ∧ Builtin.Int.intBits b ≤ 64 ∧ (Builtin.Int.intBits a + Builtin.Int.intBits b - 1) / Builtin.Int.intBits b ≤ 100
theorem intBits_inv (a : Int) (h : a < 0) : Builtin.Int.intBits (Builtin.bitNot a) ≤ Builtin.Int.intBits a :=
  intBits_le_of_natAbs (by unfold Builtin.bitNot; omega) (Nat.le_refl _)
theorem intBits_neg (a : Int) : Builtin.Int.intBits (-a) = Builtin.Int.intBits a := by
  have h1 := intBits_neg_le (x := a) (m := Builtin.Int.intBits a) (Nat.le_refl _)
  have h2 := intBits_neg_le (x := -a) (m := Builtin.Int.intBits (-a)) (Nat.le_refl _)
  rw [Int.neg_neg] at h2; lia
theorem DmOk.of_le {a a' b : Int} (h : DmOk a b) (k : Builtin.Int.intBits a' ≤ Builtin.Int.intBits a) : DmOk a' b :=
  ⟨h.1, h.2.1, Nat.le_trans (Nat.div_le_div_right (by omega)) h.2.2⟩
theorem DmOk.neg {a b : Int} (h : DmOk a b) : DmOk (-a) (-b) := by
  unfold DmOk at *
  rw [intBits_neg, intBits_neg]
  exact ⟨by lia, h.2⟩
/-- small sizes do -/
theorem DmOk.small {a b : Int} (h0 : b ≠ 0) (ha : Builtin.Int.intBits a ≤ 100) (hb : Builtin.Int.intBits b ≤ 64) : DmOk a b := by
  have hn0 : 0 < Builtin.Int.intBits b := by
    rcases Nat.eq_zero_or_pos (Builtin.Int.intBits b) with h | h
    · have := intBits_le_iff.mp (show Builtin.Int.intBits b ≤ 0 by (clear hb ha h0; lia))
      simp at this; (clear h hb ha; lia)
    · exact h
  refine ⟨h0, hb, ?_⟩
  have : (Builtin.Int.intBits a + Builtin.Int.intBits b - 1) / Builtin.Int.intBits b < 101 := by
    refine Nat.div_lt_of_lt_mul ?_
    have : 100 * 1 ≤ 100 * Builtin.Int.intBits b := Nat.mul_le_mul_left _ hn0
    (clear this h0; lia)
  (clear hn0 hb ha h0; lia)
theorem cdm0 (W : Wd) (P : Params) (hW : WL W P) : GCall W 113 56 (fun ps kps d => ∃ (a b : Int), ps = [.dat (.int a), .dat (.int b)] ∧ kps = [] ∧ DmOk a b ∧ 0 ≤ a ∧ 0 < b ∧ d = .tuple [.int (a.fdiv b), .int (a.fmod b)]) := by
  intro A h₀ fenv L m mu fz s vs kvs ps kps d Q E hA S hps hkps hG k
  obtain ⟨a, b, rfl, rfl, hok, ha, hb, rfl⟩ := hG
  obtain ⟨v, w, rfl, hv, hw⟩ := PRepA.i2 hps
  cases KRepA.i0 hkps
  refine call_K0 (f := 56) (lv := 112) (by rw [hW.K]; rfl) (by rw [hW.K]; rfl) (by rfl) (by decide) hA S (binds := [("a", v), ("b", w)]) (nsb := ["a", "b"]) (ρ := [("a", .dat (.int a)), ("b", .dat (.int b))]) (BindsTo.of_eq rfl) (by rfl) (by rfl) (by decide)
    (.dat (by walk_at "nm") rfl hv (.dat (by walk_at "nm") rfl hw .nil)) rfl (fun c hc => by cases hc) (fun c hc => by cases hc) ?_ Q k
  refine exr_ifelse (b := false) ((et_cmp (by walk_at "ev") (by walk_at "ev") op_eqi).cast (by simp; (clear hkps hw hv hps k ha hok S hA hW; lia))) (fun e => by cases e) (fun _ => ?_)
  refine exr_ifelse (b := false) ((et_cmp (by walk_at "ev") (by walk_at "ev") op_lt).cast (by simp; (clear hkps hw hv hps k ha hok S hA hW; lia))) (fun e => by cases e) (fun _ => ?_)
  refine exr_ifelse (b := false) ((et_cmp (by walk_at "ev") (by walk_at "ev") op_lt).cast (by simp; (clear hkps hw hv hps k hb hok S hA hW; lia))) (fun e => by cases e) (fun _ => ?_)
  obtain ⟨x, rfl⟩ := Int.eq_ofNat_of_zero_le ha
  obtain ⟨y, rfl⟩ := Int.eq_ofNat_of_zero_le (Int.le_of_lt hb)
  refine exr_ret ((ev_gcall (by walk_at "glb") (c_divmod_pos W P hW) (.two (ev_name rfl) (ev_name rfl)) ⟨x, y, rfl, rfl, by lia, hok.2.1, hok.2.2, rfl⟩ (by decide)).cast ?_)
  rw [Int.fdiv_eq_ediv_of_nonneg _ (Int.natCast_nonneg _), Int.fmod_eq_emod_of_nonneg _ (Int.natCast_nonneg _)]
  rfl
theorem cdm1 (W : Wd) (P : Params) (hW : WL W P) : GCall W 114 56 (fun ps kps d => ∃ (a b : Int), ps = [.dat (.int a), .dat (.int b)] ∧ kps = [] ∧ DmOk a b ∧ 0 < b ∧ d = .tuple [.int (a.fdiv b), .int (a.fmod b)]) := by
  intro A h₀ fenv L m mu fz s vs kvs ps kps d Q E hA S hps hkps hG k
  obtain ⟨a, b, rfl, rfl, hok, hb, rfl⟩ := hG
  by_cases ha : 0 ≤ a
  · exact cdm0 W P hW A h₀ fenv L m mu fz s vs kvs _ _ _ Q E (hA.less (by decide)) S hps hkps ⟨a, b, rfl, rfl, hok, ha, hb, rfl⟩ k
  obtain ⟨v, w, rfl, hv, hw⟩ := PRepA.i2 hps
  cases KRepA.i0 hkps
  refine call_K0 (f := 56) (lv := 113) (by rw [hW.K]; rfl) (by rw [hW.K]; rfl) (by rfl) (by decide) hA S (binds := [("a", v), ("b", w)]) (nsb := ["a", "b"]) (ρ := [("a", .dat (.int a)), ("b", .dat (.int b))]) (BindsTo.of_eq rfl) (by rfl) (by rfl) (by decide)
    (.dat (by walk_at "nm") rfl hv (.dat (by walk_at "nm") rfl hw .nil)) rfl (fun c hc => by cases hc) (fun c hc => by cases hc) ?_ Q k
  refine exr_ifelse (b := false) ((et_cmp (by walk_at "ev") (by walk_at "ev") op_eqi).cast (by simp; (clear hkps hw hv hps ha k hok S hA hW; lia))) (fun e => by cases e) (fun _ => ?_)
  refine exr_ifelse (b := false) ((et_cmp (by walk_at "ev") (by walk_at "ev") op_lt).cast (by simp; (clear hkps hw hv hps ha k hok S hA hW; lia))) (fun e => by cases e) (fun _ => ?_)
  refine exr_ifelse (b := true) ((et_cmp (by walk_at "ev") (by walk_at "ev") op_lt).cast (by simp; (clear hkps hw hv hps k hb hok S hA hW; lia))) (fun _ => ?_) (fun e => by cases e)
  have hn0 : 0 ≤ Builtin.bitNot a := by unfold Builtin.bitNot; (clear hkps hw hv hps k hb hok S hA hW; lia)
  refine exr_seq (ex_unpack (ev_gcall (by walk_at "glb") (cdm0 W P hW) (.two (ev_un (ev_name rfl) op_inv) (ev_name rfl)) ⟨Builtin.bitNot a, b, rfl, rfl, hok.of_le (intBits_inv a (by (clear hn0 hkps hw hv hps k hb hok S hA hW; lia))), hn0, hb, rfl⟩ (by decide)) (by walk_at "slot") (by walk_at "nm") (by walk_at "slot") (by walk_at "nm")) ?_
  refine exr_ret ((ev_tup2 (ev_un (ev_name rfl) op_inv) (ev_bin (ev_name rfl) (ev_un (ev_name rfl) op_inv) op_add)).cast ?_)
  have e1 := Int.mul_fdiv_add_fmod a b
  have e2 := Int.mul_fdiv_add_fmod (Builtin.bitNot a) b
  have f1 := Int.fmod_nonneg_of_pos a hb
  have f2 := Int.fmod_lt_of_pos a hb
  have g1 := Int.fmod_nonneg_of_pos (Builtin.bitNot a) hb
  have g2 := Int.fmod_lt_of_pos (Builtin.bitNot a) hb
  have key : (Builtin.bitNot a).fdiv b = -a.fdiv b - 1 := by
    have h3 : Builtin.bitNot a = b * (-a.fdiv b - 1) + (b - 1 - a.fmod b) := by
      have : b * (-a.fdiv b - 1) = -(b * a.fdiv b) - b := by rw [Int.mul_sub, Int.mul_neg, Int.mul_one]
      rw [this]; unfold Builtin.bitNot; (clear this g2 g1 f2 f1 e2 hn0 hkps hw hv hps ha k hb hok S hA hW; lia)
    rw [h3, Int.fdiv_eq_ediv_of_nonneg _ (Int.le_of_lt hb), Int.mul_add_ediv_left _ _ (by (clear g2 g1 f2 f1 e1 hn0 hkps hw hv hps ha k hok S hA hW; lia)), Int.ediv_eq_zero_of_lt (by (clear g2 g1 f1 e1 hn0 hkps hw hv hps ha k hb hok S hA hW; lia)) (by (clear h3 g2 g1 f2 e2 e1 hn0 hkps hw hv hps ha k hb hok S hA hW; omega)), Int.add_zero]
  have key2 : (Builtin.bitNot a).fmod b = b - 1 - a.fmod b := by
    rw [key] at e2
    have : b * (-a.fdiv b - 1) = -(b * a.fdiv b) - b := by rw [Int.mul_sub, Int.mul_neg, Int.mul_one]
    rw [this] at e2
    unfold Builtin.bitNot at e2 ⊢
    (clear this key g2 g1 f2 f1 hn0 hkps hw hv hps ha k hb hok S hA hW; omega)
  rw [key, key2]
  have r1 : Builtin.bitNot (-a.fdiv b - 1) = a.fdiv b := by unfold Builtin.bitNot; (clear key2 key g2 g1 f2 f1 e2 e1 hn0 hkps hw hv hps ha k hb hok S hA hW; lia)
  have r2 : b + Builtin.bitNot (b - 1 - a.fmod b) = a.fmod b := by unfold Builtin.bitNot; (clear r1 key2 key g2 g1 f2 f1 e2 e1 hn0 hkps hw hv hps ha k hb hok S hA hW; lia)
  rw [r1, r2]
theorem c_dm (W : Wd) (P : Params) (hW : WL W P) : GCall W 115 56 (fun ps kps d => ∃ (a b : Int), ps = [.dat (.int a), .dat (.int b)] ∧ kps = [] ∧ DmOk a b ∧ d = .tuple [.int (a.fdiv b), .int (a.fmod b)]) := by
  intro A h₀ fenv L m mu fz s vs kvs ps kps d Q E hA S hps hkps hG k
  obtain ⟨a, b, rfl, rfl, hok, rfl⟩ := hG
  by_cases hb : 0 < b
  · exact cdm1 W P hW A h₀ fenv L m mu fz s vs kvs _ _ _ Q E (hA.less (by decide)) S hps hkps ⟨a, b, rfl, rfl, hok, hb, rfl⟩ k
  have hb0 := hok.1
  obtain ⟨v, w, rfl, hv, hw⟩ := PRepA.i2 hps
  cases KRepA.i0 hkps
  refine call_K0 (f := 56) (lv := 114) (by rw [hW.K]; rfl) (by rw [hW.K]; rfl) (by rfl) (by decide) hA S (binds := [("a", v), ("b", w)]) (nsb := ["a", "b"]) (ρ := [("a", .dat (.int a)), ("b", .dat (.int b))]) (BindsTo.of_eq rfl) (by rfl) (by rfl) (by decide)
    (.dat (by walk_at "nm") rfl hv (.dat (by walk_at "nm") rfl hw .nil)) rfl (fun c hc => by cases hc) (fun c hc => by cases hc) ?_ Q k
  refine exr_ifelse (b := false) ((et_cmp (by walk_at "ev") (by walk_at "ev") op_eqi).cast (by simp; (clear hkps hw hv hps hb k hok S hA hW; lia))) (fun e => by cases e) (fun _ => ?_)
  refine exr_ifelse (b := true) ((et_cmp (by walk_at "ev") (by walk_at "ev") op_lt).cast (by simp; (clear hkps hw hv hps k hok S hA hW; lia))) (fun _ => ?_) (fun e => by cases e)
  refine exr_seq (ex_unpack (ev_gcall (by walk_at "glb") (cdm1 W P hW) (.two (ev_un (ev_name rfl) op_neg) (ev_un (ev_name rfl) op_neg)) ⟨-a, -b, rfl, rfl, hok.neg, by (clear hkps hw hv hps k hok S hA hW; lia), rfl⟩ (by decide)) (by walk_at "slot") (by walk_at "nm") (by walk_at "slot") (by walk_at "nm")) ?_
  refine exr_ret ((ev_tup2 (ev_name rfl) (ev_un (ev_name rfl) op_neg)).cast ?_)
  rw [Int.neg_fdiv_neg]
  have e1 := Int.mul_fdiv_add_fmod a b
  have e2 := Int.mul_fdiv_add_fmod (-a) (-b)
  rw [Int.neg_fdiv_neg, Int.neg_mul] at e2
  have : -((-a).fmod (-b)) = a.fmod b := by (clear hkps hw hv hps hb0 hb k hok S hA hW; omega)
  rw [this]
end
section
/-- how the bisects and insorts are called: x, lo, hi, key -/
inductive BShape (x : Dat) : List PV → List (Str × PV) → Nat → Dat → PV → Prop
  | a1 : BShape x [.dat x] [] 0 .none (.dat .none)
  | a2 (lo : Nat) : BShape x [.dat x, .dat (.int lo)] [] lo .none (.dat .none)
  | a3 (lo : Nat) (hi : Dat) : BShape x [.dat x, .dat (.int lo), .dat hi] [] lo hi (.dat .none)
  | k1 (k : PV) : (∀ ds, k ≠ .lst ds) → BShape x [.dat x] [("key", k)] 0 .none k
  | k2 (lo : Nat) (k : PV) : (∀ ds, k ≠ .lst ds) → BShape x [.dat x, .dat (.int lo)] [("key", k)] lo .none k
  | k3 (lo : Nat) (hi : Dat) (k : PV) : (∀ ds, k ≠ .lst ds) → BShape x [.dat x, .dat (.int lo), .dat hi] [("key", k)] lo hi k
/-- the key's value -/
noncomputable def KeyOf (lv : Nat) : PV → Dat → Dat → Prop
  | .dat .none, e, kd => kd = e
  | .fn lf F, e, kd => lf ≤ lv ∧ F [e] = some kd
  | _, _, _ => False
theorem BShape.noLst {x : Dat} {rest : List PV} {kps : List (Str × PV)} {lo : Nat} {hi : Dat} {k : PV} (h : BShape x rest kps lo hi k) : (∀ p ∈ rest, ∀ ds, p ≠ .lst ds) ∧ ∀ p ∈ kps, ∀ ds, p.2 ≠ .lst ds := by
  cases h <;> constructor <;> intro p hp ds e <;> simp at hp <;> (try rcases hp with rfl | rfl | rfl) <;> (try rcases hp with rfl | rfl) <;> (try subst hp) <;> simp at e <;> rename_i hk <;> exact hk ds e
/-- what is asked of a bisect: hi, and the tests -/
structure BOk (lv : Nat) (ds : List Dat) (hiD : Dat) (hi : Nat) (k : PV) (t : Dat → Option Bool) (c : Nat → Bool) : Prop where
  top : (hiD = .none ∧ hi = ds.length) ∨ hiD = .int hi
  le : hi ≤ ds.length
  len : ds.length ≤ 1000
  key : k = .dat .none ∨ ∃ lf F, k = .fn lf F
  test : ∀ m, m < ds.length → ∃ e kd, ds[m]? = some e ∧ KeyOf lv k e kd ∧ t kd = some (c m)
noncomputable def bR (lv : Nat) (ds : List Dat) (rest : List PV) (kps : List (Str × PV)) (d : Dat) : Prop := ∃ x lo hiD hi k c, BShape x rest kps lo hiD k ∧ BOk lv ds hiD hi k (fun kd => ltD x kd) c ∧ d = .int (bis c (hi - lo) lo hi : Nat)
noncomputable def bL (lv : Nat) (ds : List Dat) (rest : List PV) (kps : List (Str × PV)) (d : Dat) : Prop := ∃ x lo hiD hi k c, BShape x rest kps lo hiD k ∧ BOk lv ds hiD hi k (fun kd => (ltD kd x).map (!·)) c ∧ d = .int (bis c (hi - lo) lo hi : Nat)
noncomputable def noneK : PV → Bool
  | .dat d => noneD d
  | _ => false
noncomputable abbrev lhN (lo hi : Nat) (ρ0 : Names) : Names := ("lo", .dat (.int lo)) :: ("hi", .dat (.int hi)) :: ρ0
theorem bis_while {W : Wd} {l : Nat} {sc : Scope} {ρ0 : Names} {test : Expr} {st ifs : Stmt} {c : Nat → Bool} {n : Nat}
    (ht : ∀ lo hi : Nat, ET W l sc (lhN lo hi ρ0) test (decide (lo < hi)))
    (hm : ∀ lo hi : Nat, EX1 W l sc [] (lhN lo hi ρ0) st (.next (("mid", .dat (.int ((lo + hi) / 2 : Nat))) :: lhN lo hi ρ0)))
    (h1 : ∀ lo hi : Nat, lo < hi → hi ≤ n → c ((lo + hi) / 2) = true → EX1 W l sc [] (("mid", .dat (.int ((lo + hi) / 2 : Nat))) :: lhN lo hi ρ0) ifs (.next (lhN lo ((lo + hi) / 2) ρ0)))
    (h2 : ∀ lo hi : Nat, lo < hi → hi ≤ n → c ((lo + hi) / 2) = false → EX1 W l sc [] (("mid", .dat (.int ((lo + hi) / 2 : Nat))) :: lhN lo hi ρ0) ifs (.next (lhN ((lo + hi) / 2 + 1) hi ρ0))) :
    ∀ f lo hi : Nat, hi - lo ≤ f → hi ≤ n → WhileX W l sc [] test [st, ifs] (lhN lo hi ρ0) [("lo", .dat (.int (bis c f lo hi : Nat)))]
  | 0, lo, hi, hf, hn => .done ((ht lo hi).cast (decide_eq_false (by (clear hn h2 h1 hm ht; lia)))) ⟨rfl, trivial⟩
  | f + 1, lo, hi, hf, hn => by
    by_cases hlt : lo < hi
    · unfold bis
      rw [if_pos hlt]
      by_cases hc : c ((lo + hi) / 2) = true
      · rw [if_pos hc]
        exact .turn ((ht lo hi).cast (decide_eq_true hlt)) (ex_seq (hm lo hi) (ex_seq (h1 lo hi hlt hn hc) ex_nil)) (bis_while ht hm h1 h2 f lo _ (by (clear hc hn h2 h1 hm ht; lia)) (by (clear hc hf h2 h1 hm ht; lia)))
      · rw [if_neg hc]
        exact .turn ((ht lo hi).cast (decide_eq_true hlt)) (ex_seq (hm lo hi) (ex_seq (h2 lo hi hlt hn (by simpa using hc)) ex_nil)) (bis_while ht hm h1 h2 f _ hi (by (clear hc hn h2 h1 hm ht; lia)) hn)
    · have : bis c (f + 1) lo hi = lo := by unfold bis; rw [if_neg hlt]
      rw [this]
      exact .done ((ht lo hi).cast (decide_eq_false hlt)) ⟨rfl, trivial⟩
theorem half_cast (lo hi : Nat) : ((lo : Int) + hi).fdiv 2 = (((lo + hi) / 2 : Nat) : Int) := by
  rw [Int.fdiv_eq_ediv_of_nonneg _ (by decide)]; rfl
theorem seqAt_nat {α : Type} {l : List α} {k : Nat} {x : α} (h : l[k]? = some x) : seqAt l (k : Int) = some x := by
  unfold seqAt
  rw [if_neg (by (clear h; lia)), Int.toNat_natCast]; exact h
theorem cd_bR (W : Wd) (P : Params) (hW : WL W P) (l : Nat) : GCall W (l + 1) 74 (fun ps kps d => ∃ ds rest, ps = .dat (.list ds) :: rest ∧ bR l ds rest kps d) := by
  intro A h₀ fenv L m mu fz s vs kvs ps kps d Q E hA S hps hkps hG k
  obtain ⟨ds, rest, rfl, x, lo, hiD, hi, kk, c, sh, ok, rfl⟩ := hG
  have main : ∀ (vs : List Value) (kvs : List (Str × Value)) (va vx vlo vhi vk : Value), BindsTo s (fdOf (Mine.hd.heap_39 P) 74) ⟨vs, kvs⟩ [("a", va), ("x", vx), ("lo", vlo), ("hi", vhi), ("key", vk)] →
      Rep (Hs W.base fz) va (.list ds) → Rep (Hs W.base fz) vx x → Rep (Hs W.base fz) vlo (.int lo) → Rep (Hs W.base fz) vhi hiD → PRep W (Hs W.base fz) mu vk kk → wpAny (model W.prog W.w) A (call (.ref 74) vs kvs) Q E s := by
    intro vs kvs va vx vlo vhi vk hb ra rx rlo rhi rk
    refine call_K0 (f := 74) (lv := l) (by rw [hW.K]; rfl) (by rw [hW.K]; rfl) (by rfl) (by decide) hA S (nsb := ["a", "x", "lo", "hi", "key"]) (ρ := [("a", .dat (.list ds)), ("x", .dat x), ("lo", .dat (.int lo)), ("hi", .dat hiD), ("key", kk)]) hb (by rfl) (by rfl) (by decide)
      (.dat (by walk_at "nm") rfl ra (.dat (by walk_at "nm") rfl rx (.dat (by walk_at "nm") rfl rlo (.dat (by walk_at "nm") rfl rhi (.cons (by walk_at "nm") rfl rk (fun es e => ?_) .nil))))) rfl (fun c hc => by cases hc) (fun c hc => by cases hc) ?_ Q k
    · rcases ok.key with h | ⟨lf, F, h⟩ <;> rw [h] at e <;> cases e
    refine exr_if (b := false) ((et_cmp (by walk_at "ev") (by walk_at "ev") op_lt).cast (by simp)) (fun e => by cases e) (fun _ => ⟨rfl, ?_⟩)
    refine exr_seq (ρ' := lhN lo hi [("a", .dat (.list ds)), ("x", .dat x), ("key", kk)]) (ex_if (b := noneD hiD) (et_dat_is_none rfl) (fun e => ?_) (fun e => ?_)) ?_
    · rcases ok.top with ⟨h1, h2⟩ | h1
      · subst h2
        exact ex_last (ex_assign (ev_len (by walk_at "boot") (ev_name rfl) rfl (by have := ok.len; (clear k ok h1 e rk rhi rlo rx ra hb sh hps hkps S hA hW; lia))) (by walk_at "slot") (by walk_at "nm")) ⟨rfl, rfl, rfl, rfl, rfl, trivial⟩
      · subst h1; cases e
    · rcases ok.top with ⟨h1, h2⟩ | h1
      · subst h1; cases e
      · subst h1; exact ex_nil.forget (SubN.look ⟨rfl, rfl, rfl, rfl, rfl, trivial⟩)
    have hle := ok.le
    have hlen := ok.len
    refine exr_seq (ρ' := [("lo", .dat (.int (bis c (hi - lo) lo hi : Nat)))]) (ex_if (b := noneK kk) ?_ (fun e => ?_) (fun e => ?_)) (exr_ret (ev_name rfl))
    · rcases ok.key with h | ⟨lf, F, h⟩
      · subst h; show ET _ _ _ _ _ (noneD .none); exact et_dat_is_none rfl
      · subst h; exact et_fn_is_none rfl
    · rcases ok.key with h | ⟨lf, F, h⟩
      · subst h
        refine ex_seq (ex_whileX (bis_while (n := ds.length) (c := c) (fun lo hi => (et_cmp (ev_name rfl) (ev_name rfl) op_lt).cast (by simp)) (fun lo hi => ex_assign (d := .int ((lo + hi) / 2 : Nat)) ((ev_bin (ev_bin (ev_name rfl) (ev_name rfl) op_add) ev_int (op_fdiv (by decide) (PyProof.noPylong_small (by decide)))).cast (by rw [half_cast])) (by walk_at "slot") (by walk_at "nm")) (fun lo hi a b hc => ?_) (fun lo hi a b hc => ?_) (hi - lo) lo hi (Nat.le_refl _) hle)) ex_nil
        · obtain ⟨e, kd, h1, h2, h3⟩ := ok.test ((lo + hi) / 2) (by (clear hc e rk ok sh hlen hle rhi rlo rx ra hb k hps hkps S hA hW; lia))
          rw [hc] at h3
          have h2 : kd = e := h2
          subst h2
          exact ex_if (b := true) (et_cmp (ev_name rfl) (ev_item (ev_name rfl) rfl (ev_name rfl) (seqAt_nat h1) (by (clear h2 h1 h3 hc b a e rk ok sh hle rhi rlo rx ra hb k hps hkps S hA hW; lia))) (op_ltD h3)) (fun _ => (ex_last (ex_assign (ev_name rfl) (by walk_at "slot") (by walk_at "nm")) ⟨rfl, rfl, rfl, rfl, rfl, trivial⟩)) (fun q => by cases q)
        · obtain ⟨e, kd, h1, h2, h3⟩ := ok.test ((lo + hi) / 2) (by (clear hc e rk ok sh hlen hle rhi rlo rx ra hb k hps hkps S hA hW; lia))
          rw [hc] at h3
          have h2 : kd = e := h2
          subst h2
          exact ex_if (b := false) (et_cmp (ev_name rfl) (ev_item (ev_name rfl) rfl (ev_name rfl) (seqAt_nat h1) (by (clear h2 h1 h3 hc b a e rk ok sh hle rhi rlo rx ra hb k hps hkps S hA hW; lia))) (op_ltD h3)) (fun q => by cases q) (fun _ => (ex_last (ex_assign ((ev_bin (ev_name rfl) ev_int op_add).cast (pv' := .dat (.int ((lo + hi) / 2 + 1 : Nat))) (by simp)) (by walk_at "slot") (by walk_at "nm")) ⟨rfl, rfl, rfl, rfl, rfl, trivial⟩))
      · subst h; cases e
    · rcases ok.key with h | ⟨lf, F, h⟩
      · subst h; cases e
      · subst h
        refine ex_seq (ex_whileX (bis_while (n := ds.length) (c := c) (fun lo hi => (et_cmp (ev_name rfl) (ev_name rfl) op_lt).cast (by simp)) (fun lo hi => ex_assign (d := .int ((lo + hi) / 2 : Nat)) ((ev_bin (ev_bin (ev_name rfl) (ev_name rfl) op_add) ev_int (op_fdiv (by decide) (PyProof.noPylong_small (by decide)))).cast (by rw [half_cast])) (by walk_at "slot") (by walk_at "nm")) (fun lo hi a b hc => ?_) (fun lo hi a b hc => ?_) (hi - lo) lo hi (Nat.le_refl _) hle)) ex_nil
        · obtain ⟨e, kd, h1, h2, h3⟩ := ok.test ((lo + hi) / 2) (by (clear hc e rk ok sh hlen hle rhi rlo rx ra hb k hps hkps S hA hW; lia))
          rw [hc] at h3
          obtain ⟨hl, h2⟩ := h2
          exact ex_if (b := true) (et_cmp (ev_name rfl) (ev_fcall rfl (.one (ev_item (ev_name rfl) rfl (ev_name rfl) (seqAt_nat h1) (by (clear h2 hl h3 h1 hc b a rk ok sh hle rhi rlo rx ra hb k hps hkps S hA hW; lia)))) h2 hl) (op_ltD h3)) (fun _ => (ex_last (ex_assign (ev_name rfl) (by walk_at "slot") (by walk_at "nm")) ⟨rfl, rfl, rfl, rfl, rfl, trivial⟩)) (fun q => by cases q)
        · obtain ⟨e, kd, h1, h2, h3⟩ := ok.test ((lo + hi) / 2) (by (clear hc e rk ok sh hlen hle rhi rlo rx ra hb k hps hkps S hA hW; lia))
          rw [hc] at h3
          obtain ⟨hl, h2⟩ := h2
          exact ex_if (b := false) (et_cmp (ev_name rfl) (ev_fcall rfl (.one (ev_item (ev_name rfl) rfl (ev_name rfl) (seqAt_nat h1) (by (clear h2 hl h3 h1 hc b a rk ok sh hle rhi rlo rx ra hb k hps hkps S hA hW; lia)))) h2 hl) (op_ltD h3)) (fun q => by cases q) (fun _ => (ex_last (ex_assign ((ev_bin (ev_name rfl) ev_int op_add).cast (pv' := .dat (.int ((lo + hi) / 2 + 1 : Nat))) (by simp)) (by walk_at "slot") (by walk_at "nm")) ⟨rfl, rfl, rfl, rfl, rfl, trivial⟩))
  obtain ⟨va, vs, rfl, hva, hps⟩ := PRepA.ic hps
  cases sh with
  | a1 =>
    obtain ⟨vx, rfl, hvx⟩ := PRepA.i1 hps
    cases KRepA.i0 hkps
    exact main _ _ va vx (Value.int 0 284) .none .none (S.binds fun S => by rw [hW.K]; kernel_rfl) hva hvx (.int 0 _) .none .none
  | a2 lo =>
    obtain ⟨vx, vlo, rfl, hvx, hvl⟩ := PRepA.i2 hps
    cases KRepA.i0 hkps
    exact main _ _ va vx vlo .none .none (S.binds fun S => by rw [hW.K]; kernel_rfl) hva hvx hvl .none .none
  | a3 lo hi =>
    obtain ⟨vx, vlo, vhi, rfl, hvx, hvl, hvh⟩ := PRepA.i3 hps
    cases KRepA.i0 hkps
    exact main _ _ va vx vlo vhi .none (S.binds fun S => by rw [hW.K]; kernel_rfl) hva hvx hvl hvh .none
  | k1 k hk =>
    obtain ⟨vx, rfl, hvx⟩ := PRepA.i1 hps
    obtain ⟨vk, rfl, hvk⟩ := KRepA.i1 hkps
    exact main _ _ va vx (Value.int 0 284) .none vk (S.binds fun S => by rw [hW.K]; kernel_rfl) hva hvx (.int 0 _) .none hvk
  | k2 lo k hk =>
    obtain ⟨vx, vlo, rfl, hvx, hvl⟩ := PRepA.i2 hps
    obtain ⟨vk, rfl, hvk⟩ := KRepA.i1 hkps
    exact main _ _ va vx vlo .none vk (S.binds fun S => by rw [hW.K]; kernel_rfl) hva hvx hvl .none hvk
  | k3 lo hi k hk =>
    obtain ⟨vx, vlo, vhi, rfl, hvx, hvl, hvh⟩ := PRepA.i3 hps
    obtain ⟨vk, rfl, hvk⟩ := KRepA.i1 hkps
    exact main _ _ va vx vlo vhi vk (S.binds fun S => by rw [hW.K]; kernel_rfl) hva hvx hvl hvh hvk
theorem cd_bL (W : Wd) (P : Params) (hW : WL W P) (l : Nat) : GCall W (l + 1) 92 (fun ps kps d => ∃ ds rest, ps = .dat (.list ds) :: rest ∧ bL l ds rest kps d) := by
  intro A h₀ fenv L m mu fz s vs kvs ps kps d Q E hA S hps hkps hG k
  obtain ⟨ds, rest, rfl, x, lo, hiD, hi, kk, c, sh, ok, rfl⟩ := hG
  have main : ∀ (vs : List Value) (kvs : List (Str × Value)) (va vx vlo vhi vk : Value), BindsTo s (fdOf (Mine.hd.heap_39 P) 92) ⟨vs, kvs⟩ [("a", va), ("x", vx), ("lo", vlo), ("hi", vhi), ("key", vk)] →
      Rep (Hs W.base fz) va (.list ds) → Rep (Hs W.base fz) vx x → Rep (Hs W.base fz) vlo (.int lo) → Rep (Hs W.base fz) vhi hiD → PRep W (Hs W.base fz) mu vk kk → wpAny (model W.prog W.w) A (call (.ref 92) vs kvs) Q E s := by
    intro vs kvs va vx vlo vhi vk hb ra rx rlo rhi rk
    refine call_K0 (f := 92) (lv := l) (by rw [hW.K]; rfl) (by rw [hW.K]; rfl) (by rfl) (by decide) hA S (nsb := ["a", "x", "lo", "hi", "key"]) (ρ := [("a", .dat (.list ds)), ("x", .dat x), ("lo", .dat (.int lo)), ("hi", .dat hiD), ("key", kk)]) hb (by rfl) (by rfl) (by decide)
      (.dat (by walk_at "nm") rfl ra (.dat (by walk_at "nm") rfl rx (.dat (by walk_at "nm") rfl rlo (.dat (by walk_at "nm") rfl rhi (.cons (by walk_at "nm") rfl rk (fun es e => ?_) .nil))))) rfl (fun c hc => by cases hc) (fun c hc => by cases hc) ?_ Q k
    · rcases ok.key with h | ⟨lf, F, h⟩ <;> rw [h] at e <;> cases e
    refine exr_if (b := false) ((et_cmp (by walk_at "ev") (by walk_at "ev") op_lt).cast (by simp)) (fun e => by cases e) (fun _ => ⟨rfl, ?_⟩)
    refine exr_seq (ρ' := lhN lo hi [("a", .dat (.list ds)), ("x", .dat x), ("key", kk)]) (ex_if (b := noneD hiD) (et_dat_is_none rfl) (fun e => ?_) (fun e => ?_)) ?_
    · rcases ok.top with ⟨h1, h2⟩ | h1
      · subst h2
        exact ex_last (ex_assign (ev_len (by walk_at "boot") (ev_name rfl) rfl (by have := ok.len; (clear k ok h1 e rk rhi rlo rx ra hb sh hps hkps S hA hW; lia))) (by walk_at "slot") (by walk_at "nm")) ⟨rfl, rfl, rfl, rfl, rfl, trivial⟩
      · subst h1; cases e
    · rcases ok.top with ⟨h1, h2⟩ | h1
      · subst h1; cases e
      · subst h1; exact ex_nil.forget (SubN.look ⟨rfl, rfl, rfl, rfl, rfl, trivial⟩)
    have hle := ok.le
    have hlen := ok.len
    refine exr_seq (ρ' := [("lo", .dat (.int (bis c (hi - lo) lo hi : Nat)))]) (ex_if (b := noneK kk) ?_ (fun e => ?_) (fun e => ?_)) (exr_ret (ev_name rfl))
    · rcases ok.key with h | ⟨lf, F, h⟩
      · subst h; show ET _ _ _ _ _ (noneD .none); exact et_dat_is_none rfl
      · subst h; exact et_fn_is_none rfl
    · rcases ok.key with h | ⟨lf, F, h⟩
      · subst h
        refine ex_seq (ex_whileX (bis_while (n := ds.length) (c := c) (fun lo hi => (et_cmp (ev_name rfl) (ev_name rfl) op_lt).cast (by simp)) (fun lo hi => ex_assign (d := .int ((lo + hi) / 2 : Nat)) ((ev_bin (ev_bin (ev_name rfl) (ev_name rfl) op_add) ev_int (op_fdiv (by decide) (PyProof.noPylong_small (by decide)))).cast (by rw [half_cast])) (by walk_at "slot") (by walk_at "nm")) (fun lo hi a b hc => ?_) (fun lo hi a b hc => ?_) (hi - lo) lo hi (Nat.le_refl _) hle)) ex_nil
        · obtain ⟨e, kd, h1, h2, h3⟩ := ok.test ((lo + hi) / 2) (by (clear hc e rk ok sh hlen hle rhi rlo rx ra hb k hps hkps S hA hW; lia))
          have h3 : ltD kd x = some false := by
            cases q : ltD kd x with
            | none => rw [q] at h3; cases h3
            | some r => rw [q, hc] at h3; cases r <;> simp at h3 ⊢
          have h2 : kd = e := h2
          subst h2
          exact ex_if (b := false) (et_cmp (ev_item (ev_name rfl) rfl (ev_name rfl) (seqAt_nat h1) (by (clear h2 h1 h3 hc b a e rk ok sh hle rhi rlo rx ra hb k hps hkps S hA hW; lia))) (ev_name rfl) (op_ltD h3)) (fun q => by cases q) (fun _ => (ex_last (ex_assign (ev_name rfl) (by walk_at "slot") (by walk_at "nm")) ⟨rfl, rfl, rfl, rfl, rfl, trivial⟩))
        · obtain ⟨e, kd, h1, h2, h3⟩ := ok.test ((lo + hi) / 2) (by (clear hc e rk ok sh hlen hle rhi rlo rx ra hb k hps hkps S hA hW; lia))
          have h3 : ltD kd x = some true := by
            cases q : ltD kd x with
            | none => rw [q] at h3; cases h3
            | some r => rw [q, hc] at h3; cases r <;> simp at h3 ⊢
          have h2 : kd = e := h2
          subst h2
          exact ex_if (b := true) (et_cmp (ev_item (ev_name rfl) rfl (ev_name rfl) (seqAt_nat h1) (by (clear h2 h1 h3 hc b a e rk ok sh hle rhi rlo rx ra hb k hps hkps S hA hW; lia))) (ev_name rfl) (op_ltD h3)) (fun _ => (ex_last (ex_assign ((ev_bin (ev_name rfl) ev_int op_add).cast (pv' := .dat (.int ((lo + hi) / 2 + 1 : Nat))) (by simp)) (by walk_at "slot") (by walk_at "nm")) ⟨rfl, rfl, rfl, rfl, rfl, trivial⟩)) (fun q => by cases q)
      · subst h; cases e
    · rcases ok.key with h | ⟨lf, F, h⟩
      · subst h; cases e
      · subst h
        refine ex_seq (ex_whileX (bis_while (n := ds.length) (c := c) (fun lo hi => (et_cmp (ev_name rfl) (ev_name rfl) op_lt).cast (by simp)) (fun lo hi => ex_assign (d := .int ((lo + hi) / 2 : Nat)) ((ev_bin (ev_bin (ev_name rfl) (ev_name rfl) op_add) ev_int (op_fdiv (by decide) (PyProof.noPylong_small (by decide)))).cast (by rw [half_cast])) (by walk_at "slot") (by walk_at "nm")) (fun lo hi a b hc => ?_) (fun lo hi a b hc => ?_) (hi - lo) lo hi (Nat.le_refl _) hle)) ex_nil
        · obtain ⟨e, kd, h1, h2, h3⟩ := ok.test ((lo + hi) / 2) (by (clear hc e rk ok sh hlen hle rhi rlo rx ra hb k hps hkps S hA hW; lia))
          have h3 : ltD kd x = some false := by
            cases q : ltD kd x with
            | none => rw [q] at h3; cases h3
            | some r => rw [q, hc] at h3; cases r <;> simp at h3 ⊢
          obtain ⟨hl, h2⟩ := h2
          exact ex_if (b := false) (et_cmp (ev_fcall rfl (.one (ev_item (ev_name rfl) rfl (ev_name rfl) (seqAt_nat h1) (by (clear h2 hl h3 h1 hc b a rk ok sh hle rhi rlo rx ra hb k hps hkps S hA hW; lia)))) h2 hl) (ev_name rfl) (op_ltD h3)) (fun q => by cases q) (fun _ => (ex_last (ex_assign (ev_name rfl) (by walk_at "slot") (by walk_at "nm")) ⟨rfl, rfl, rfl, rfl, rfl, trivial⟩))
        · obtain ⟨e, kd, h1, h2, h3⟩ := ok.test ((lo + hi) / 2) (by (clear hc e rk ok sh hlen hle rhi rlo rx ra hb k hps hkps S hA hW; lia))
          have h3 : ltD kd x = some true := by
            cases q : ltD kd x with
            | none => rw [q] at h3; cases h3
            | some r => rw [q, hc] at h3; cases r <;> simp at h3 ⊢
          obtain ⟨hl, h2⟩ := h2
          exact ex_if (b := true) (et_cmp (ev_fcall rfl (.one (ev_item (ev_name rfl) rfl (ev_name rfl) (seqAt_nat h1) (by (clear h2 hl h3 h1 hc b a rk ok sh hle rhi rlo rx ra hb k hps hkps S hA hW; lia)))) h2 hl) (ev_name rfl) (op_ltD h3)) (fun _ => (ex_last (ex_assign ((ev_bin (ev_name rfl) ev_int op_add).cast (pv' := .dat (.int ((lo + hi) / 2 + 1 : Nat))) (by simp)) (by walk_at "slot") (by walk_at "nm")) ⟨rfl, rfl, rfl, rfl, rfl, trivial⟩)) (fun q => by cases q)
  obtain ⟨va, vs, rfl, hva, hps⟩ := PRepA.ic hps
  cases sh with
  | a1 =>
    obtain ⟨vx, rfl, hvx⟩ := PRepA.i1 hps
    cases KRepA.i0 hkps
    exact main _ _ va vx (Value.int 0 311) .none .none (S.binds fun S => by rw [hW.K]; kernel_rfl) hva hvx (.int 0 _) .none .none
  | a2 lo =>
    obtain ⟨vx, vlo, rfl, hvx, hvl⟩ := PRepA.i2 hps
    cases KRepA.i0 hkps
    exact main _ _ va vx vlo .none .none (S.binds fun S => by rw [hW.K]; kernel_rfl) hva hvx hvl .none .none
  | a3 lo hi =>
    obtain ⟨vx, vlo, vhi, rfl, hvx, hvl, hvh⟩ := PRepA.i3 hps
    cases KRepA.i0 hkps
    exact main _ _ va vx vlo vhi .none (S.binds fun S => by rw [hW.K]; kernel_rfl) hva hvx hvl hvh .none
  | k1 k hk =>
    obtain ⟨vx, rfl, hvx⟩ := PRepA.i1 hps
    obtain ⟨vk, rfl, hvk⟩ := KRepA.i1 hkps
    exact main _ _ va vx (Value.int 0 311) .none vk (S.binds fun S => by rw [hW.K]; kernel_rfl) hva hvx (.int 0 _) .none hvk
  | k2 lo k hk =>
    obtain ⟨vx, vlo, rfl, hvx, hvl⟩ := PRepA.i2 hps
    obtain ⟨vk, rfl, hvk⟩ := KRepA.i1 hkps
    exact main _ _ va vx vlo .none vk (S.binds fun S => by rw [hW.K]; kernel_rfl) hva hvx hvl .none hvk
  | k3 lo hi k hk =>
    obtain ⟨vx, vlo, vhi, rfl, hvx, hvl, hvh⟩ := PRepA.i3 hps
    obtain ⟨vk, rfl, hvk⟩ := KRepA.i1 hkps
    exact main _ _ va vx vlo vhi vk (S.binds fun S => by rw [hW.K]; kernel_rfl) hva hvx hvl hvh hvk
/-- a list that turns may be handed, too -/
theorem c_bR (W : Wd) (P : Params) (hW : WL W P) (l : Nat) : GCall W (l + 1) 74 (fun ps kps d => ∃ pv ds rest, pv.items? = some ds ∧ ps = pv :: rest ∧ bR l ds rest kps d) :=
  gcall_ro (cd_bR W P hW l) (fun ds rest kps d h => by obtain ⟨x, lo, hiD, hi, k, c, _, _, rfl⟩ := h; exact ⟨_, rfl⟩) (fun ds rest kps d h => by obtain ⟨x, lo, hiD, hi, k, c, sh, _, rfl⟩ := h; exact sh.noLst)
theorem c_bL (W : Wd) (P : Params) (hW : WL W P) (l : Nat) : GCall W (l + 1) 92 (fun ps kps d => ∃ pv ds rest, pv.items? = some ds ∧ ps = pv :: rest ∧ bL l ds rest kps d) :=
  gcall_ro (cd_bL W P hW l) (fun ds rest kps d h => by obtain ⟨x, lo, hiD, hi, k, c, _, _, rfl⟩ := h; exact ⟨_, rfl⟩) (fun ds rest kps d h => by obtain ⟨x, lo, hiD, hi, k, c, sh, _, rfl⟩ := h; exact sh.noLst)
end
section
noncomputable def iR (lv : Nat) (ds : List Dat) (rest : List PV) (kps : List (Str × PV)) (ds' : List Dat) : Prop := ∃ x kx lo hiD hi k c, BShape x rest kps lo hiD k ∧ KeyOf lv k x kx ∧ BOk lv ds hiD hi k (fun kd => ltD kx kd) c ∧ lo ≤ hi ∧ ds' = ds.take (bis c (hi - lo) lo hi) ++ x :: ds.drop (bis c (hi - lo) lo hi)
theorem c_iR (W : Wd) (P : Params) (hW : WL W P) (l : Nat) : GIns W (l + 2) 65 (iR l) := by
  intro A h₀ fenv L m mu fz s a ds vs kvs ps kps ds' Q E hA S hla hps hkps hG k
  obtain ⟨x, kx, lo, hiD, hi, kk, c, sh, kxk, ok, hlh, rfl⟩ := hG
  have hr : bis c (hi - lo) lo hi ≤ ds.length := Nat.le_trans (bis_le _ _ _ hlh).2 ok.le
  have hlen := ok.len
  generalize hres : bis c (hi - lo) lo hi = r at hr k
  have main : ∀ (vs : List Value) (kvs : List (Str × Value)) (vx vlo vhi vk : Value), BindsTo s (fdOf (Mine.hd.heap_39 P) 65) ⟨.ref a :: vs, kvs⟩ [("a", .ref a), ("x", vx), ("lo", vlo), ("hi", vhi), ("key", vk)] →
      Rep (Hs W.base fz) vx x → Rep (Hs W.base fz) vlo (.int lo) → Rep (Hs W.base fz) vhi hiD → PRep W (Hs W.base fz) mu vk kk → wpAny (model W.prog W.w) A (call (.ref 65) (.ref a :: vs) kvs) Q E s := by
    intro vs kvs vx vlo vhi vk hb rx rlo rhi rk
    refine call_K (f := 65) (lv := l + 1) (ps := ["a"]) (ad := fun _ => a) (out := .next [("a", .lst (ds.take r ++ x :: ds.drop r))]) (by rw [hW.K]; rfl) (by rw [hW.K]; rfl) (by rfl) (by decide) hA S hb (by rfl) (nsb := ["a", "x", "lo", "hi", "key"]) (by rfl) (by decide) (ρ := [("a", .lst ds), ("x", .dat x), ("lo", .dat (.int lo)), ("hi", .dat hiD), ("key", kk)])
      (.cons (by walk_at "nm") rfl hla.prep (fun es e => by cases e; exact ⟨.head _, rfl, hla⟩) (.dat (by walk_at "nm") rfl rx (.dat (by walk_at "nm") rfl rlo (.dat (by walk_at "nm") rfl rhi (.cons (by walk_at "nm") rfl rk (fun es e => ?_) .nil)))))
      (fun y hy => ?_) (fun y hy z hz _ => ?_) rfl (fun c hc => by cases hc) (fun c hc => by cases hc) ?_ Q (fun v fz' mu' ad' h' tk' s' S' r' p' a' l' => ?_)
    · rcases ok.key with h | ⟨lf, F, h⟩ <;> rw [h] at e <;> cases e
    · obtain ⟨ws, n, hm, _⟩ := hla
      exact ⟨_, hm⟩
    · rw [List.mem_singleton.mp hy, List.mem_singleton.mp hz]
    · refine ex_seq (ρ' := [("lo", .dat (.int r)), ("a", .lst ds), ("x", .dat x)]) (ex_if (b := noneK kk) ?_ (fun e => ?_) (fun e => ?_)) (ex_last (ex_insert (k := r) rfl (ev_name rfl) (ev_name rfl) hr (by (clear rk rhi rlo rx hb k hr hres hlh ok kxk sh hkps hps hla S hA hW; lia)) rfl rfl) ⟨rfl, trivial⟩)
      · rcases ok.key with h | ⟨lf, F, h⟩
        · subst h; show ET _ _ _ _ _ (noneD .none); exact et_dat_is_none rfl
        · subst h; exact et_fn_is_none rfl
      · rcases ok.key with h | ⟨lf, F, h⟩
        · subst h
          have kxk : kx = x := kxk
          subst kxk
          exact ex_last (ex_assign (d := .int r) (ev_gcall (by walk_at "glb") (c_bR W P hW l) (.cons rfl (ev_name rfl) (.three (ev_name rfl) (ev_name rfl) (ev_name rfl))) ⟨.lst ds, ds, _, rfl, rfl, kx, lo, hiD, hi, .dat .none, c, .a3 lo hiD, ok, by rw [hres]⟩ (Nat.le_refl _)) (by walk_at "slot") (by walk_at "nm")) ⟨rfl, rfl, rfl, trivial⟩
        · subst h; cases e
      · rcases ok.key with h | ⟨lf, F, h⟩
        · subst h; cases e
        · subst h
          obtain ⟨hlf, hF⟩ := kxk
          exact ex_last (ex_assign (d := .int r) (ev_gcallk (by walk_at "glb") (c_bR W P hW l) (.cons rfl (ev_name rfl) (.three (ev_fcall rfl (.one (ev_name rfl)) hF (by (clear hF e rk ok sh rhi rlo rx hb k hr hres hlen hlh hkps hps hla S hA hW; lia))) (ev_name rfl) (ev_name rfl))) (by simp) (ev_name rfl) ⟨.lst ds, ds, _, rfl, rfl, kx, lo, hiD, hi, .fn lf F, c, .k3 lo hiD _ (fun _ h => by cases h), ok, by rw [hres]⟩ (Nat.le_refl _)) (by walk_at "slot") (by walk_at "nm")) ⟨rfl, rfl, rfl, trivial⟩
    · have hv : v = .none := r'
      subst hv
      exact k fz' mu' h' tk' s' S' ⟨⟨p'.1, fun p hp hne => p'.2 p hp fun z hz => hne "" (.head _)⟩, l' "a" (.head _) _ rfl⟩
  cases sh with
  | a1 =>
    obtain ⟨vx, rfl, hvx⟩ := PRepA.i1 hps
    cases KRepA.i0 hkps
    exact main _ _ vx (Value.int 0 271) .none .none (S.binds fun S => by rw [hW.K]; kernel_rfl) hvx (.int 0 _) .none .none
  | a2 lo =>
    obtain ⟨vx, vlo, rfl, hvx, hvl⟩ := PRepA.i2 hps
    cases KRepA.i0 hkps
    exact main _ _ vx vlo .none .none (S.binds fun S => by rw [hW.K]; kernel_rfl) hvx hvl .none .none
  | a3 lo hi =>
    obtain ⟨vx, vlo, vhi, rfl, hvx, hvl, hvh⟩ := PRepA.i3 hps
    cases KRepA.i0 hkps
    exact main _ _ vx vlo vhi .none (S.binds fun S => by rw [hW.K]; kernel_rfl) hvx hvl hvh .none
  | k1 k hk =>
    obtain ⟨vx, rfl, hvx⟩ := PRepA.i1 hps
    obtain ⟨vk, rfl, hvk⟩ := KRepA.i1 hkps
    exact main _ _ vx (Value.int 0 271) .none vk (S.binds fun S => by rw [hW.K]; kernel_rfl) hvx (.int 0 _) .none hvk
  | k2 lo k hk =>
    obtain ⟨vx, vlo, rfl, hvx, hvl⟩ := PRepA.i2 hps
    obtain ⟨vk, rfl, hvk⟩ := KRepA.i1 hkps
    exact main _ _ vx vlo .none vk (S.binds fun S => by rw [hW.K]; kernel_rfl) hvx hvl .none hvk
  | k3 lo hi k hk =>
    obtain ⟨vx, vlo, vhi, rfl, hvx, hvl, hvh⟩ := PRepA.i3 hps
    obtain ⟨vk, rfl, hvk⟩ := KRepA.i1 hkps
    exact main _ _ vx vlo vhi vk (S.binds fun S => by rw [hW.K]; kernel_rfl) hvx hvl hvh hvk
noncomputable def iL (lv : Nat) (ds : List Dat) (rest : List PV) (kps : List (Str × PV)) (ds' : List Dat) : Prop := ∃ x kx lo hiD hi k c, BShape x rest kps lo hiD k ∧ KeyOf lv k x kx ∧ BOk lv ds hiD hi k (fun kd => (ltD kd kx).map (!·)) c ∧ lo ≤ hi ∧ ds' = ds.take (bis c (hi - lo) lo hi) ++ x :: ds.drop (bis c (hi - lo) lo hi)
theorem c_iL (W : Wd) (P : Params) (hW : WL W P) (l : Nat) : GIns W (l + 2) 83 (iL l) := by
  intro A h₀ fenv L m mu fz s a ds vs kvs ps kps ds' Q E hA S hla hps hkps hG k
  obtain ⟨x, kx, lo, hiD, hi, kk, c, sh, kxk, ok, hlh, rfl⟩ := hG
  have hr : bis c (hi - lo) lo hi ≤ ds.length := Nat.le_trans (bis_le _ _ _ hlh).2 ok.le
  have hlen := ok.len
  generalize hres : bis c (hi - lo) lo hi = r at hr k
  have main : ∀ (vs : List Value) (kvs : List (Str × Value)) (vx vlo vhi vk : Value), BindsTo s (fdOf (Mine.hd.heap_39 P) 83) ⟨.ref a :: vs, kvs⟩ [("a", .ref a), ("x", vx), ("lo", vlo), ("hi", vhi), ("key", vk)] →
      Rep (Hs W.base fz) vx x → Rep (Hs W.base fz) vlo (.int lo) → Rep (Hs W.base fz) vhi hiD → PRep W (Hs W.base fz) mu vk kk → wpAny (model W.prog W.w) A (call (.ref 83) (.ref a :: vs) kvs) Q E s := by
    intro vs kvs vx vlo vhi vk hb rx rlo rhi rk
    refine call_K (f := 83) (lv := l + 1) (ps := ["a"]) (ad := fun _ => a) (out := .next [("a", .lst (ds.take r ++ x :: ds.drop r))]) (by rw [hW.K]; rfl) (by rw [hW.K]; rfl) (by rfl) (by decide) hA S hb (by rfl) (nsb := ["a", "x", "lo", "hi", "key"]) (by rfl) (by decide) (ρ := [("a", .lst ds), ("x", .dat x), ("lo", .dat (.int lo)), ("hi", .dat hiD), ("key", kk)])
      (.cons (by walk_at "nm") rfl hla.prep (fun es e => by cases e; exact ⟨.head _, rfl, hla⟩) (.dat (by walk_at "nm") rfl rx (.dat (by walk_at "nm") rfl rlo (.dat (by walk_at "nm") rfl rhi (.cons (by walk_at "nm") rfl rk (fun es e => ?_) .nil)))))
      (fun y hy => ?_) (fun y hy z hz _ => ?_) rfl (fun c hc => by cases hc) (fun c hc => by cases hc) ?_ Q (fun v fz' mu' ad' h' tk' s' S' r' p' a' l' => ?_)
    · rcases ok.key with h | ⟨lf, F, h⟩ <;> rw [h] at e <;> cases e
    · obtain ⟨ws, n, hm, _⟩ := hla
      exact ⟨_, hm⟩
    · rw [List.mem_singleton.mp hy, List.mem_singleton.mp hz]
    · refine ex_seq (ρ' := [("lo", .dat (.int r)), ("a", .lst ds), ("x", .dat x)]) (ex_if (b := noneK kk) ?_ (fun e => ?_) (fun e => ?_)) (ex_last (ex_insert (k := r) rfl (ev_name rfl) (ev_name rfl) hr (by (clear rk rhi rlo rx hb k hr hres hlh ok kxk sh hkps hps hla S hA hW; lia)) rfl rfl) ⟨rfl, trivial⟩)
      · rcases ok.key with h | ⟨lf, F, h⟩
        · subst h; show ET _ _ _ _ _ (noneD .none); exact et_dat_is_none rfl
        · subst h; exact et_fn_is_none rfl
      · rcases ok.key with h | ⟨lf, F, h⟩
        · subst h
          have kxk : kx = x := kxk
          subst kxk
          exact ex_last (ex_assign (d := .int r) (ev_gcall (by walk_at "glb") (c_bL W P hW l) (.cons rfl (ev_name rfl) (.three (ev_name rfl) (ev_name rfl) (ev_name rfl))) ⟨.lst ds, ds, _, rfl, rfl, kx, lo, hiD, hi, .dat .none, c, .a3 lo hiD, ok, by rw [hres]⟩ (Nat.le_refl _)) (by walk_at "slot") (by walk_at "nm")) ⟨rfl, rfl, rfl, trivial⟩
        · subst h; cases e
      · rcases ok.key with h | ⟨lf, F, h⟩
        · subst h; cases e
        · subst h
          obtain ⟨hlf, hF⟩ := kxk
          exact ex_last (ex_assign (d := .int r) (ev_gcallk (by walk_at "glb") (c_bL W P hW l) (.cons rfl (ev_name rfl) (.three (ev_fcall rfl (.one (ev_name rfl)) hF (by (clear hF e rk ok sh rhi rlo rx hb k hr hres hlen hlh hkps hps hla S hA hW; lia))) (ev_name rfl) (ev_name rfl))) (by simp) (ev_name rfl) ⟨.lst ds, ds, _, rfl, rfl, kx, lo, hiD, hi, .fn lf F, c, .k3 lo hiD _ (fun _ h => by cases h), ok, by rw [hres]⟩ (Nat.le_refl _)) (by walk_at "slot") (by walk_at "nm")) ⟨rfl, rfl, rfl, trivial⟩
    · have hv : v = .none := r'
      subst hv
      exact k fz' mu' h' tk' s' S' ⟨⟨p'.1, fun p hp hne => p'.2 p hp fun z hz => hne "" (.head _)⟩, l' "a" (.head _) _ rfl⟩
  cases sh with
  | a1 =>
    obtain ⟨vx, rfl, hvx⟩ := PRepA.i1 hps
    cases KRepA.i0 hkps
    exact main _ _ vx (Value.int 0 298) .none .none (S.binds fun S => by rw [hW.K]; kernel_rfl) hvx (.int 0 _) .none .none
  | a2 lo =>
    obtain ⟨vx, vlo, rfl, hvx, hvl⟩ := PRepA.i2 hps
    cases KRepA.i0 hkps
    exact main _ _ vx vlo .none .none (S.binds fun S => by rw [hW.K]; kernel_rfl) hvx hvl .none .none
  | a3 lo hi =>
    obtain ⟨vx, vlo, vhi, rfl, hvx, hvl, hvh⟩ := PRepA.i3 hps
    cases KRepA.i0 hkps
    exact main _ _ vx vlo vhi .none (S.binds fun S => by rw [hW.K]; kernel_rfl) hvx hvl hvh .none
  | k1 k hk =>
    obtain ⟨vx, rfl, hvx⟩ := PRepA.i1 hps
    obtain ⟨vk, rfl, hvk⟩ := KRepA.i1 hkps
    exact main _ _ vx (Value.int 0 298) .none vk (S.binds fun S => by rw [hW.K]; kernel_rfl) hvx (.int 0 _) .none hvk
  | k2 lo k hk =>
    obtain ⟨vx, vlo, rfl, hvx, hvl⟩ := PRepA.i2 hps
    obtain ⟨vk, rfl, hvk⟩ := KRepA.i1 hkps
    exact main _ _ vx vlo .none vk (S.binds fun S => by rw [hW.K]; kernel_rfl) hvx hvl .none hvk
  | k3 lo hi k hk =>
    obtain ⟨vx, vlo, vhi, rfl, hvx, hvl, hvh⟩ := PRepA.i3 hps
    obtain ⟨vk, rfl, hvk⟩ := KRepA.i1 hkps
    exact main _ _ vx vlo vhi vk (S.binds fun S => by rw [hW.K]; kernel_rfl) hvx hvl hvh hvk
end
section
noncomputable def few (ns : List Int) : List Int := (ns.take 60).map (·.fmod 1000000)
/-- the sum of each so many-th number from the k-th on -/
noncomputable def strideSum (l : List Int) (k n : Nat) : Int := (pick l (some (k : Int)) none (some (n : Int))).sum
noncomputable def cellsOf (ns bs : List Int) : List Int := (List.range bs.length).map fun k => bs.getD k 0 + strideSum (few ns) k bs.length
theorem c_cells (W : Wd) (P : Params) (hW : WL W P) : GCall W 3 104 (fun ps kps d => ∃ (ns bs : List Int), ps = [.dat (.list (ns.map .int)), .dat (.tuple (bs.map .int))] ∧ kps = [] ∧ ns.length ≤ 63 ∧ bs.length ≤ 10 ∧ d = .list ((cellsOf ns bs).map .int)) := by
  intro A h₀ fenv L m mu fz s vs kvs ps kps d Q E hA S hps hkps hG k
  obtain ⟨ns, bs, rfl, rfl, hl, hb, rfl⟩ := hG
  obtain ⟨v, w, rfl, hv, hw⟩ := PRepA.i2 hps
  cases KRepA.i0 hkps
  refine call_K0 (f := 104) (lv := 2) (by rw [hW.K]; rfl) (by rw [hW.K]; rfl) (by rfl) (by decide) hA S (binds := [("script", v), ("bases", w)]) (nsb := ["script", "bases"]) (ρ := [("script", .dat (.list (ns.map .int))), ("bases", .dat (.tuple (bs.map .int)))]) (BindsTo.of_eq rfl) (by rfl) (by rfl) (by decide)
    (.dat (by walk_at "nm") rfl hv (.dat (by walk_at "nm") rfl hw .nil)) rfl (fun c hc => by cases hc) (fun c hc => by cases hc) ?_ Q k
  have hfew : (few ns).length ≤ 60 := by unfold few; rw [List.length_map, List.length_take]; (clear hkps hw hv hps k hb S hA hW; lia)
  refine exr_seq (ρ' := [("few", .dat (.list ((few ns).map .int))), ("bases", .dat (.tuple (bs.map .int)))]) (EX.to (exa_map (xs := ns.take 60) (inj := Dat.int) (g := fun x => .int (x.fmod 1000000)) (ρ' := []) (by walk_at "side") inj_int (ei_list (EV.cast (pv' := .dat (.list ((ns.take 60).map .int))) (ev_slice (ev_name rfl) rfl .none (.some ev_int) .none (by decide) ?_) ?_) rfl) (fun x hx => ⟨_, rfl, by walk_at "ev"⟩) ?_ (by walk_at "slot") (by walk_at "nm")) ⟨?_, rfl, trivial⟩) ?_
  · simp; (clear hfew hkps hw hv hps k hb S hA hW; lia)
  · rw [show (60 : Int) = ((60 : Nat) : Int) from rfl, pick_upto, List.map_take]
  · rw [List.length_take]; (clear hfew hkps hw hv hps k hb S hA hW; lia)
  · unfold few; rw [List.map_map]; rfl
  · refine exr_ret ((ev_map (xs := List.range bs.length) (inj := fun i : Nat => .int i) (g := fun k => .int (bs.getD k 0 + strideSum (few ns) k bs.length)) (ρ' := [("few", .dat (.list ((few ns).map .int))), ("bases", .dat (.tuple (bs.map .int)))]) (by walk_at "side") inj_nat (ei_rangeN (by walk_at "boot") ?_).up (fun k hk => ⟨[("k", .dat (.int k))], rfl, ?_⟩) ?_).cast ?_)
    · exact (ev_bcall (id := "len") (ds := [.tuple (bs.map .int)]) (by walk_at "boot") (.one (ev_name rfl)) (op_len_tuple (by simp; (clear hfew hkps hw hv hps k hl S hA hW; lia)))).cast (by simp)
    · have hk : k < bs.length := List.mem_range.mp hk
      have hb : bs[k]? = some (bs.getD k 0) := by rw [List.getD_eq_getElem?_getD, List.getElem?_eq_getElem hk]; rfl
      refine ev_bin (ev_titem (d := .int (bs.getD k 0)) (ev_name rfl) (ev_name rfl) (seqAt_nat (by rw [List.getElem?_map, hb]; rfl)) (by simp; (clear hb hk hfew hkps hw hv hps hl S hA hW; lia))) (ev_bcall (id := "sum") (ds := [.list ((pick (few ns) (some (k : Int)) none (some (bs.length : Int))).map .int)]) (by walk_at "boot") (.one ?_) op_sum) op_add
      refine (ev_slice (ev_name rfl) rfl (.some (ev_name rfl)) .none (.some (EV.cast (pv' := .dat (.int bs.length)) (ev_bcall (id := "len") (ds := [.tuple (bs.map .int)]) (by walk_at "boot") (.one (ev_name rfl)) (op_len_tuple (by simp; (clear hb hk hfew hkps hw hv hps hl S hA hW; lia)))) (by simp))) ?_ (by simp; (clear hb hk hkps hw hv hps hl S hA hW; lia))).cast ?_
      · intro e; injection e with e; (clear hb hfew hkps hw hv hps hl S hA hW; lia)
      · rw [pick_map]
    · simp; (clear hfew hkps hw hv hps k hl S hA hW; lia)
    · unfold cellsOf
      rw [List.map_map]; rfl
end
section
theorem self_zde : isSubtype (.type "ZeroDivisionError") (.type "ZeroDivisionError") = pure true := by rw [isSubtype_type]; kernel_rfl
/-- int_divmod by nought -/
theorem c_dm0 (W : Wd) (P : Params) (hW : WL W P) : GRaise W 1 56 "ZeroDivisionError" none (fun ps kps => ∃ a : Int, ps = [.dat (.int a), .dat (.int 0)] ∧ kps = []) := by
  intro A h₀ fenv L m mu fz s vs kvs ps kps Q E hA S hps hkps hG k
  obtain ⟨a, rfl, rfl⟩ := hG
  obtain ⟨v, w, rfl, hv, hw⟩ := PRepA.i2 hps
  cases KRepA.i0 hkps
  refine call_R (f := 56) (lv := 0) (by rw [hW.K]; rfl) (by rw [hW.K]; rfl) (by rfl) hA S (binds := [("a", v), ("b", w)]) (nsb := ["a", "b"]) (ρ := [("a", .dat (.int a)), ("b", .dat (.int 0))]) (BindsTo.of_eq rfl) (by rfl) (by rfl) (by decide)
    (.dat (by walk_at "nm") rfl hv (.dat (by walk_at "nm") rfl hw .nil)) rfl rfl (rx_head (rx_if (b := true) ((et_cmp (ev_name rfl) ev_int op_eqi).cast rfl) (fun _ => rx_head (rx_raise_class (by walk_at "boot") excClass_ZeroDivisionError self_zde)) (fun e => by cases e))) k
end
section
theorem fmod_nat (a b : Nat) : (a : Int).fmod b = ((a % b : Nat) : Int) := by
  rw [Int.fmod_eq_emod_of_nonneg _ (Int.natCast_nonneg _)]; rfl
/-- no common divisor from 2 to a -/
noncomputable def copr (a n : Nat) : Bool := ((List.range (a - 1)).filter fun i => a % (2 + i) == 0 && n % (2 + i) == 0).isEmpty
noncomputable def freeL (a low : Nat) : List Nat := ((List.range a).map (low + ·)).filter (copr a)
theorem deqn_nil (k : Nat) (ds : List Dat) : deqn (k + 1) (.list ds) (.list []) = some ds.isEmpty := by
  cases ds <;> simp [deqn, deqL]
theorem natZ (x : Nat) : (((x : Nat) : Int) == 0) = (x == 0) := by cases x <;> rfl
theorem c_coins (W : Wd) (P : Params) (hW : WL W P) : GCall W 3 109 (fun ps kps d => ∃ (cs : List Int) (a low b c : Nat) (x y z : Int), ps = [.dat (.list (cs.map .int))] ∧ kps = [] ∧ cs.length ≤ 10 ∧ cs[0]? = some x ∧ cs[1]? = some y ∧ cs[2]? = some z ∧ 2 + x.fmod 8 = a ∧ 2 + y.fmod 9 = low ∧ 1 + z.fmod 25 = c ∧ (freeL a low)[0]? = some b ∧ d = .tuple [.int a, .int b, .int c]) := by
  intro A h₀ fenv L m mu fz s vs kvs ps kps d Q E hA S hps hkps hG k
  obtain ⟨cs, a, low, b, c, x, y, z, rfl, rfl, hl, hx, hy, hz, ha, hlow, hc, hb, rfl⟩ := hG
  obtain ⟨v, rfl, hv⟩ := PRepA.i1 hps
  cases KRepA.i0 hkps
  have ha2 : 2 ≤ a ∧ a ≤ 9 := by
    have := Int.fmod_nonneg_of_pos x (b := 8) (by decide)
    have := Int.fmod_lt_of_pos x (b := 8) (by decide)
    (clear hkps hps hv k hb hc hlow hz hy hx hl S hA hW; lia)
  have hl2 : 2 ≤ low ∧ low ≤ 10 := by
    have := Int.fmod_nonneg_of_pos y (b := 9) (by decide)
    have := Int.fmod_lt_of_pos y (b := 9) (by decide)
    (clear ha2 hkps hps hv k hb hc ha hz hy hx hl S hA hW; lia)
  have item : ∀ {k : Nat} {u : Int}, cs[k]? = some u → seqAt (cs.map Dat.int) (k : Int) = some (.int u) := fun h => seqAt_nat (by rw [List.getElem?_map, h]; rfl)
  refine call_K0 (f := 109) (lv := 2) (by rw [hW.K]; rfl) (by rw [hW.K]; rfl) (by rfl) (by decide) hA S (binds := [("cells", v)]) (nsb := ["cells"]) (ρ := [("cells", .dat (.list (cs.map .int)))]) (BindsTo.of_eq rfl) (by rfl) (by rfl) (by decide)
    (.dat (by walk_at "nm") rfl hv .nil) rfl (fun c hc => by cases hc) (fun c hc => by cases hc) ?_ Q k
  refine exr_seq (ex_assign (d := .int a) ((ev_bin ev_int (ev_bin (ev_item (ev_name rfl) rfl ev_int (item (k := 0) hx) (by simp; (clear item hl2 ha2 hkps hps hv k hb hc hlow ha hz hy hx S hA hW; lia))) ev_int (op_mod (by decide))) op_add).cast (by rw [ha])) (by walk_at "slot") (by walk_at "nm")) ?_
  refine exr_seq (ex_assign (d := .int low) ((ev_bin ev_int (ev_bin (ev_item (ev_name rfl) rfl ev_int (item (k := 1) hy) (by simp; (clear item hl2 ha2 hkps hps hv k hb hc hlow ha hz hy hx S hA hW; lia))) ev_int (op_mod (by decide))) op_add).cast (by rw [hlow])) (by walk_at "slot") (by walk_at "nm")) ?_
  refine exr_seq (ρ' := [("free", .dat (.list ((freeL a low).map fun n : Nat => Dat.int n))), ("a", .dat (.int a)), ("cells", .dat (.list (cs.map .int)))]) (EX.to (exa_filter (xs := List.range a) (inj := fun i : Nat => Dat.int ((low + i : Nat) : Int)) (p := fun i => copr a (low + i)) (g := fun i : Nat => Dat.int ((low + i : Nat) : Int)) (ρ' := [("a", .dat (.int a))]) (by walk_at "side") (inj_add low) (ei_range2N (a := (low : Int)) (b := (low : Int) + a) (by walk_at "boot") (by walk_at "ev") (by walk_at "ev") rfl (by push_cast; rfl)).up (fun i hi => ⟨_, rfl, ?_, fun _ => by walk_at "ev"⟩) (by simp; (clear item hl2 hkps hps hv k hb hc hlow ha hz hy hx hl S hA hW; lia)) (by walk_at "slot") (by walk_at "nm")) ⟨?_, rfl, rfl, trivial⟩) ?_
  · refine (et_cmp (b := copr a (low + i)) (ev_filter (xs := List.range (a - 1)) (inj := fun j : Nat => Dat.int ((2 + j : Nat) : Int)) (p := fun j => a % (2 + j) == 0 && (low + i) % (2 + j) == 0) (g := fun j : Nat => Dat.int ((2 + j : Nat) : Int)) (ρ' := [("a", .dat (.int a)), ("n", .dat (.int ((low + i : Nat) : Int)))]) (by walk_at "side") (inj_add 2) (ei_range2N (k := 2) (n := a - 1) (a := (2 : Int)) (b := (a : Int) + 1) (by walk_at "boot") (by walk_at "ev") (by walk_at "ev") rfl (by (clear hi item hl2 hkps hps hv k hb hc hlow ha hz hy hx hl S hA hW; lia))).up (fun j hj => ⟨_, rfl, et_and2 ?_ fun _ => ?_, fun _ => by walk_at "ev"⟩) (by simp; (clear hi item hl2 hkps hps hv k hb hc hlow ha hz hy hx hl S hA hW; lia))) (ev_list (ds := []) .nil) (op_eq ?_))
    · exact (et_cmp (ev_bin (ev_name rfl) (ev_name rfl) (op_mod (by (clear hj hi item hl2 ha2 hkps hps hv k hb hc hlow ha hz hy hx hl S hA hW; omega)))) ev_int op_eqi).cast (by rw [fmod_nat, natZ])
    · exact (et_cmp (ev_bin (ev_name rfl) (ev_name rfl) (op_mod (by (clear hj hi item hl2 ha2 hkps hps hv k hb hc hlow ha hz hy hx hl S hA hW; omega)))) ev_int op_eqi).cast (by rw [fmod_nat, natZ])
    · rw [deqn_nil]
      unfold copr
      rw [List.isEmpty_map]
  · unfold freeL
    rw [List.filter_map, List.map_map]; rfl
  refine exr_ret (ev_tup3 (ev_name rfl) (ev_item (d := .int b) (ev_name rfl) rfl ev_int (seqAt_nat (k := 0) (by rw [List.getElem?_map, hb]; rfl)) (by simp [freeL]; exact Nat.le_trans (List.length_filter_le _ _) (by simp; (clear item hl2 hkps hps hv k hb hc hlow ha hz hy hx hl S hA hW; lia)))) ((ev_bin ev_int (ev_bin (ev_item (ev_name rfl) rfl ev_int (item (k := 2) hz) (by simp; (clear item hl2 ha2 hkps hps hv k hb hc hlow ha hz hy hx S hA hW; lia))) ev_int (op_mod (by decide))) op_add).cast (by rw [hc])))
end
section
noncomputable def corner (s p t u b c : Nat) : List Nat := (List.range s).flatMap fun x => ((List.range u).filter fun y => decide (x < s - t) || decide (y < u - p)).map fun y => b * x + c * y
noncomputable def dP (r : Nat × Nat) : Dat := .tuple [.int r.1, .int r.2]
theorem c_corner (W : Wd) (P : Params) (hW : WL W P) : GCall W 3 126 (fun ps kps d => ∃ (rows : List (Nat × Nat)) (pl s p t u b c : Nat), ps = [.dat (.list (rows.map dP)), .dat (.int (pl + 1 : Nat)), .dat (.int b), .dat (.int c)] ∧ kps = [] ∧ rows.length ≤ 100 ∧ rows[pl]? = some (s, p) ∧ rows[pl + 1]? = some (t, u) ∧ t ≤ s ∧ p ≤ u ∧ s ≤ 1000 ∧ u ≤ 1000 ∧ b ≤ 1000 ∧ c ≤ 1000 ∧ d = .list ((corner s p t u b c).map fun n : Nat => Dat.int n)) := by
  intro A h₀ fenv L m mu fz s₀ vs kvs ps kps d Q E hA S hps hkps hG k
  obtain ⟨rows, pl, s, p, t, u, b, c, rfl, rfl, hl, h1, h2, hts, hpu, hs, hu, hb, hc, rfl⟩ := hG
  obtain ⟨v1, v2, v3, v4, rfl, hv1, hv2, hv3, hv4⟩ := PRepA.i4 hps
  cases KRepA.i0 hkps
  refine call_K0 (f := 126) (lv := 2) (by rw [hW.K]; rfl) (by rw [hW.K]; rfl) (by rfl) (by decide) hA S (binds := [("rows", v1), ("place", v2), ("b", v3), ("c", v4)]) (nsb := ["rows", "place", "b", "c"]) (ρ := [("rows", .dat (.list (rows.map dP))), ("place", .dat (.int (pl + 1 : Nat))), ("b", .dat (.int b)), ("c", .dat (.int c))]) (BindsTo.of_eq rfl) (by rfl) (by rfl) (by decide)
    (.dat (by walk_at "nm") rfl hv1 (.dat (by walk_at "nm") rfl hv2 (.dat (by walk_at "nm") rfl hv3 (.dat (by walk_at "nm") rfl hv4 .nil)))) rfl (fun c hc => by cases hc) (fun c hc => by cases hc) ?_ Q k
  have item : ∀ {k : Nat} {r : Nat × Nat}, rows[k]? = some r → seqAt (rows.map dP) (k : Int) = some (dP r) := fun h => seqAt_nat (by rw [List.getElem?_map, h]; rfl)
  refine exr_seq (ex_unpack (a := .int s) (b := .int p) (ev_item (k := (pl : Nat)) (ev_name rfl) rfl ((ev_bin (ev_name rfl) ev_int op_sub).cast (by push_cast; rw [Int.add_sub_cancel])) (item h1) (by simp; (clear item hkps hv4 hv3 hv2 hv1 hps k hc hb hu hs hpu hts h2 h1 S hA hW; lia))) (by walk_at "slot") (by walk_at "nm") (by walk_at "slot") (by walk_at "nm")) ?_
  refine exr_seq (ex_unpack (a := .int t) (b := .int u) (ev_item (k := (pl + 1 : Nat)) (ev_name rfl) rfl (ev_name rfl) (item h2) (by simp; (clear item hkps hv4 hv3 hv2 hv1 hps k hc hb hu hs hpu hts h2 h1 S hA hW; lia))) (by walk_at "slot") (by walk_at "nm") (by walk_at "slot") (by walk_at "nm")) ?_
  refine exr_ret ((ev_cmap (xs := List.range s) (inj := fun x : Nat => Dat.int x) (out := fun x => (List.range u).flatMap fun y => if decide (x < s - t) || decide (y < u - p) then [Dat.int (b * x + c * y : Nat)] else []) (ρ' := [("b", .dat (.int b)), ("c", .dat (.int c)), ("p", .dat (.int p)), ("s", .dat (.int s)), ("t", .dat (.int t)), ("u", .dat (.int u))]) (by walk_at "side") inj_nat (ei_rangeN (by walk_at "boot") (ev_name rfl)).up (fun x hx => ⟨[("x", .dat (.int x))], true, rfl, .nil, fun _ => ?_, fun e => by cases e⟩) ?_).cast ?_)
  · have hx : x < s := List.mem_range.mp hx
    refine cb_cmap (xs := List.range u) (inj := fun y : Nat => Dat.int y) (fun _ _ => rfl) (dis1 (by rfl)) inj_nat (ei_rangeN (by walk_at "boot") (ev_name rfl)) (cmap_filter (p := fun y => decide (x < s - t) || decide (y < u - p)) (g := fun y : Nat => Dat.int (b * x + c * y : Nat)) fun y hy => ⟨[("y", .dat (.int y))], rfl, et_or2 ?_ fun _ => ?_, fun _ => ?_⟩)
    · refine (et_cmp (ev_name rfl) (ev_bin (ev_name rfl) (ev_name rfl) op_sub) op_lt).cast ?_
      congr 1; apply propext; (clear hy hx item hkps hv4 hv3 hv2 hv1 hps k hc hb hu hs hpu h2 h1 hl S hA hW; omega)
    · refine (et_cmp (ev_name rfl) (ev_bin (ev_name rfl) (ev_name rfl) op_sub) op_lt).cast ?_
      congr 1; apply propext; (clear hy hx item hkps hv4 hv3 hv2 hv1 hps k hc hb hu hs hts h2 h1 hl S hA hW; omega)
    · have hy : y < u := List.mem_range.mp hy
      exact (ev_bin (ev_bin (ev_name rfl) (ev_name rfl) (op_mul (IntMulOk.of_left (intBits_le_64 (by (clear hy hx item hkps hv4 hv3 hv2 hv1 hps k hc hu hs hpu hts h2 h1 hl S hA hW; lia)) (by (clear hy hx item hkps hv4 hv3 hv2 hv1 hps k hc hu hs hpu hts h2 h1 hl S hA hW; lia)))))) (ev_bin (ev_name rfl) (ev_name rfl) (op_mul (IntMulOk.of_left (intBits_le_64 (by (clear hy hx item hkps hv4 hv3 hv2 hv1 hps k hb hu hs hpu hts h2 h1 hl S hA hW; lia)) (by (clear hy hx item hkps hv4 hv3 hv2 hv1 hps k hb hu hs hpu hts h2 h1 hl S hA hW; lia)))))) op_add).cast (by push_cast; rfl)
  · rw [List.length_flatMap]
    refine Nat.le_trans (?_ : _ ≤ s * u) ?_
    · have : ∀ (l : List Nat) (f : Nat → Nat), (∀ x ∈ l, f x ≤ u) → (l.map f).sum ≤ l.length * u := by
        intro l f h
        induction l with
        | nil => simp
        | cons x l ih =>
          have := h x (.head _)
          have := ih fun y hy => h y (.tail _ hy)
          simp only [List.map_cons, List.sum_cons, List.length_cons, Nat.succ_mul]; (clear h ih item hkps hv4 hv3 hv2 hv1 hps k hc hb hu hs hpu hts h2 h1 hl S hA hW; lia)
      refine Nat.le_trans (this _ _ fun x _ => ?_) (by rw [List.length_range]; exact Nat.le_refl _)
      rw [flatMap_filter, List.length_map]
      exact Nat.le_trans (List.length_filter_le _ _) (by simp)
    · have := Nat.mul_le_mul hs hu; (clear item hkps hv4 hv3 hv2 hv1 hps k hc hb hu hs hpu hts h2 h1 hl S hA hW; lia)
  · unfold corner
    rw [List.map_flatMap]
    refine congrArg (fun f => PV.dat (Dat.list ((List.range s).flatMap f))) (funext fun x => ?_)
    rw [flatMap_filter, List.map_map]; rfl
end
section
/-- which amounts can be paid, as the table tells -/
noncomputable def paidT (coins : List Nat) (l : List Bool) (n : Nat) : Bool := n == 0 || !(coins.filter fun o => decide (o ≤ n) && l.getD (n - o) false).isEmpty
noncomputable def paidL (coins : List Nat) : Nat → List Bool
  | 0 => []
  | k + 1 => paidL coins k ++ [paidT coins (paidL coins k) k]
theorem paidL_length (coins : List Nat) : ∀ k, (paidL coins k).length = k
  | 0 => rfl
  | k + 1 => by rw [paidL, List.length_append, paidL_length coins k]; rfl
theorem c_paid (W : Wd) (P : Params) (hW : WL W P) : GCall W 3 114 (fun ps kps d => ∃ (coins : List Nat) (top : Nat), ps = [.dat (.tuple (coins.map fun n : Nat => Dat.int n)), .dat (.int top)] ∧ kps = [] ∧ coins.length ≤ 10 ∧ (∀ o ∈ coins, 1 ≤ o) ∧ top ≤ 10000 ∧ d = .list ((paidL coins (top + 1)).map Dat.bool)) := by
  intro A h₀ fenv L m mu fz s₀ vs kvs ps kps d Q E hA S hps hkps hG k
  obtain ⟨coins, top, rfl, rfl, hl, h1, htop, rfl⟩ := hG
  obtain ⟨v1, v2, rfl, hv1, hv2⟩ := PRepA.i2 hps
  cases KRepA.i0 hkps
  refine call_K0 (f := 114) (lv := 2) (by rw [hW.K]; rfl) (by rw [hW.K]; rfl) (by rfl) (by decide) hA S (binds := [("coins", v1), ("top", v2)]) (nsb := ["coins", "top"]) (ρ := [("coins", .dat (.tuple (coins.map fun n : Nat => Dat.int n))), ("top", .dat (.int top))]) (BindsTo.of_eq rfl) (by rfl) (by rfl) (by decide)
    (.dat (by walk_at "nm") rfl hv1 (.dat (by walk_at "nm") rfl hv2 .nil)) rfl (fun c hc => by cases hc) (fun c hc => by cases hc) ?_ Q k
  refine exr_seq (ex_assign_lst (ef_list (ds := []) .nil) (by walk_at "slot") (by walk_at "nm") (by simp)) ?_
  obtain ⟨j, hj⟩ : ∃ j : Nat, j = 0 := ⟨0, rfl⟩
  refine exr_seq (ρ' := [("paid", .lst ((paidL coins (j + (top + 1))).map Dat.bool)), ("coins", .dat (.tuple (coins.map fun n : Nat => Dat.int n))), ("top", .dat (.int top))])
    (EX.from (ρ' := [("paid", .lst ((paidL coins j).map Dat.bool)), ("coins", .dat (.tuple (coins.map fun n : Nat => Dat.int n))), ("top", .dat (.int top))]) (ex_for (items := (List.range' j (top + 1)).map fun i : Nat => Dat.int i) (fun _ _ => rfl) ?_ ?_ ?_) ⟨by rw [hj]; rfl, rfl, rfl, trivial⟩) ?_
  · rw [hj, ← List.range_eq_range']
    exact ei_rangeN (by walk_at "boot") (by walk_at "ev")
  · intro x hx
    rcases List.mem_cons.mp hx with rfl | hx
    · exact ⟨by walk_at "slot", by walk_at "nm"⟩
    · cases hx
  · have hb : j + (top + 1) ≤ 10001 := by (clear hkps hv2 hv1 hps k h1 hl S hA hW; lia)
    clear hj k hv2
    revert hb
    generalize Dat.int top = dtop
    generalize top + 1 = m
    intro hb
    induction m generalizing j with
    | zero => exact .nil
    | succ m ih =>
      rw [List.range'_succ]
      have hstep : paidL coins (j + (m + 1)) = paidL coins (j + 1 + m) := by congr 1; (clear hb ih hkps hv1 hps htop h1 hl S hA hW; lia)
      rw [hstep]
      refine .cons (bs := [("n", .dat (.int j))]) (ρ' := [("paid", .lst ((paidL coins (j + 1)).map Dat.bool)), ("coins", .dat (.tuple (coins.map fun n : Nat => Dat.int n))), ("top", .dat dtop)]) rfl (ex_last (ex_append (d := .bool (paidT coins (paidL coins j) j)) rfl (ev_or2 ((ev_cmp (ev_name rfl) ev_int op_eqi).cast ?_) fun _ => ev_cmp (ev_filter (xs := coins) (inj := fun o : Nat => Dat.int o) (p := fun o => decide (o ≤ j) && (paidL coins j).getD (j - o) false) (g := fun o : Nat => Dat.int o) (ρ' := [("n", .dat (.int j)), ("paid", .lst ((paidL coins j).map Dat.bool))]) (by walk_at "side") inj_nat (ei_tuple (ev_name rfl)).up (fun o ho => ⟨_, rfl, et_and2 ?_ fun e => ?_, fun _ => ev_name rfl⟩) (by (clear hstep hb ih hkps hv1 hps htop h1 S hA hW; lia))) (ev_list (ds := []) .nil) (op_ne (b := (coins.filter fun o => decide (o ≤ j) && (paidL coins j).getD (j - o) false).isEmpty) (by rw [deqn_nil, List.isEmpty_map]))) ?_ rfl) ⟨?_, rfl, rfl, trivial⟩) (ih (j + 1) (by (clear hstep ih hkps hv1 hps htop h1 hl S hA hW; lia)))
      · rw [natZ]
      · exact (et_cmp (ev_name rfl) (ev_name rfl) op_le).cast (by congr 1; apply propext; lia)
      · have ho1 := h1 o ho
        have ho2 : o ≤ j := by simpa using e
        have hlt : j - o < (paidL coins j).length := by rw [paidL_length]; (clear e ho hstep hb ih hkps hv1 hps htop h1 hl S hA hW; omega)
        refine et_val (ev_item (k := ((j - o : Nat) : Int)) (d := .bool ((paidL coins j).getD (j - o) false)) (ev_name rfl) rfl ((ev_bin (ev_name rfl) (ev_name rfl) op_sub).cast (by rw [Int.ofNat_sub ho2])) (seqAt_nat ?_) ?_) rfl
        · rw [List.getElem?_map, List.getElem?_eq_getElem hlt, List.getD_eq_getElem?_getD, List.getElem?_eq_getElem hlt]; rfl
        · rw [List.length_map, paidL_length]; (clear hlt ho2 ho1 e ho hstep ih hkps hv1 hps htop h1 hl S hA hW; lia)
      · rw [List.length_map, paidL_length]; (clear hstep ih hkps hv1 hps htop h1 hl S hA hW; lia)
      · rw [paidL, List.map_append]; rfl
  · rw [hj, Nat.zero_add]
    exact exr_ret_lst rfl
end
section
noncomputable abbrev IP := Int × Int
noncomputable def dI2 (r : IP) : Dat := .tuple [.int r.1, .int r.2]
noncomputable def stepR (u v : IP) : IP := (-(u.1.fmod (-v.1)), -(u.1.fdiv (-v.1)) * v.2 - u.2)
noncomputable def rowsFrom : Nat → IP → IP → List IP
  | 0, _, _ => []
  | f + 1, u, v => if v.1 = 0 then [] else stepR u v :: rowsFrom f v (stepR u v)
noncomputable def runRows (a start : Nat) : List IP := ((a : Int), 0) :: ((start : Int), 1) :: rowsFrom (a + 1) (a, 0) (start, 1)
theorem seqAt_last2 {α : Type} (l : List α) (x y : α) : seqAt (l ++ [x, y]) (-2) = some x := by
  unfold seqAt
  rw [if_pos (by decide), if_pos (by simp; lia)]
  have e : (-2 + (((l ++ [x, y]).length : Nat) : Int)).toNat = l.length := by simp; lia
  rw [e, List.getElem?_append_right (Nat.le_refl _)]
  simp
theorem seqAt_last1 {α : Type} (l : List α) (x y : α) : seqAt (l ++ [x, y]) (-1) = some y := by
  unfold seqAt
  rw [if_pos (by decide), if_pos (by simp; lia)]
  have e : (-1 + (((l ++ [x, y]).length : Nat) : Int)).toNat = l.length + 1 := by simp; lia
  rw [e, List.getElem?_append_right (by (clear e; lia))]
  simp
theorem stepR_lt {u v : IP} (h : 0 < v.1) : 0 ≤ (stepR u v).1 ∧ (stepR u v).1 < v.1 := by
  unfold stepR
  have e := Int.mul_fdiv_add_fmod u.1 (-v.1)
  have f := Int.mul_fdiv_add_fmod (-u.1) v.1
  have g1 := Int.fmod_nonneg_of_pos (-u.1) h
  have g2 := Int.fmod_lt_of_pos (-u.1) h
  have : u.1.fdiv (-v.1) = (-u.1).fdiv v.1 := by
    rw [← Int.neg_fdiv_neg, Int.neg_neg]
  rw [this, Int.neg_mul] at e
  show 0 ≤ -(u.1.fmod (-v.1)) ∧ -(u.1.fmod (-v.1)) < v.1
  constructor <;> (clear this h; omega)
theorem fdiv_small {x y : Int} (hx : 0 ≤ x) (hx' : x ≤ 1000) (hy : 0 < y) : -1001 ≤ x.fdiv (-y) ∧ x.fdiv (-y) ≤ 1001 := by
  have h : x.fdiv (-y) = (-x).fdiv y := by rw [← Int.neg_fdiv_neg, Int.neg_neg]
  rw [h, Int.fdiv_eq_ediv_of_nonneg _ (Int.le_of_lt hy)]
  have h2 := Int.mul_ediv_add_emod (-x) y
  have h3 := Int.emod_nonneg (-x) (show y ≠ 0 by (clear h2 h hx' hx; lia))
  have h4 := Int.emod_lt_of_pos (-x) hy
  constructor
  · rcases Int.lt_or_le ((-x) / y) (-1001) with q | q
    · exfalso
      have h6 : y * ((-x) / y) ≤ y * (-1002) := Int.mul_le_mul_of_nonneg_left (by (clear h4 h3 h2 h hy hx' hx; lia)) (Int.le_of_lt hy)
      (clear q h3 h; lia)
    · exact q
  · rcases Int.lt_or_le 0 ((-x) / y) with q | q
    · exfalso
      have h6 : y * 1 ≤ y * ((-x) / y) := Int.mul_le_mul_of_nonneg_left (by (clear h4 h3 h2 h hy hx' hx; lia)) (Int.le_of_lt hy)
      (clear q h hy; lia)
    · (clear h4 h3 h2 h hy hx' hx; lia)
section
variable {W : Wd} {lv : Nat} {sc : Scope} {ρ : Names} {x : Str} {np ip cp kp zp sp pos : Pos} {kd kd' : Nat}
theorem ev_row {e : Expr} (pre : List IP) (u v : IP) (c : Int) (r : IP) (hx : ρ.lookup x = some (.lst ((pre ++ [u, v]).map dI2))) (hn : pre.length ≤ 1000) (he : EV W lv sc ρ e (.dat (.int c))) (hr : seqAt ((pre ++ [u, v]).map dI2) c = some (dI2 r)) : EV W lv sc ρ (.Subscript (.Name x np) e sp) (.dat (dI2 r)) :=
  ev_item (ev_name hx) rfl he hr (by simp; (clear hr he hx; lia))
theorem row2 (pre : List IP) (u v : IP) : seqAt ((pre ++ [u, v]).map dI2) (-2) = some (dI2 u) := by
  rw [List.map_append]; exact seqAt_last2 _ _ _
theorem row1 (pre : List IP) (u v : IP) : seqAt ((pre ++ [u, v]).map dI2) (-1) = some (dI2 v) := by
  rw [List.map_append]; exact seqAt_last1 _ _ _
end
theorem c_run (W : Wd) (P : Params) (hW : WL W P) : GEsc W 117 121 (fun ps kps d => ∃ (a start : Nat), ps = [.dat (.int a), .dat (.int start)] ∧ kps = [] ∧ a ≤ 100 ∧ start < a ∧ d = .list ((runRows a start).map dI2)) := by
  intro A fenv L m mu fz s₀ vs kvs ps kps d Q E hA S hps hkps hG k
  obtain ⟨a, start, rfl, rfl, ha, hst, rfl⟩ := hG
  obtain ⟨v1, v2, rfl, hv1, hv2⟩ := PRepA.i2 hps
  cases KRepA.i0 hkps
  refine call_E (f := 121) (lv := 116) (by rw [hW.K]; rfl) (by rw [hW.K]; rfl) (by rfl) hA S (binds := [("a", v1), ("start", v2)]) (nsb := ["a", "start"]) (ρ := [("a", .dat (.int a)), ("start", .dat (.int start))]) (BindsTo.of_eq rfl) (by rfl) (by rfl) (by decide)
    (.dat (by walk_at "nm") rfl hv1 (.dat (by walk_at "nm") rfl hv2 .nil)) rfl rfl ?_ Q k
  refine ex_seq (ex_assign_lst (ef_list (ds := [dI2 (a, 0), dI2 (start, 1)]) (.two (ev_tup2 (ev_name rfl) ev_int) (ev_tup2 (ev_name rfl) ev_int)) (by simp)) (by walk_at "slot") (by walk_at "nm") (by simp)) ?_
  obtain ⟨pre, hpre⟩ : ∃ pre : List IP, pre = [] := ⟨_, rfl⟩
  obtain ⟨its, hits⟩ : ∃ its : List Nat, its = List.range (a + 1) := ⟨_, rfl⟩
  have hlen : its.length = a + 1 := by rw [hits, List.length_range]
  have hrun : runRows a start = pre ++ [((a : Int), (0 : Int)), ((start : Int), (1 : Int))] ++ rowsFrom its.length (a, 0) (start, 1) := by rw [hlen, hpre]; rfl
  rw [hrun]
  refine ex_esc (EX.from (ρ' := [("rows", .lst ((pre ++ [((a : Int), (0 : Int)), ((start : Int), (1 : Int))]).map dI2)), ("a", .dat (.int a)), ("start", .dat (.int start))]) (ex_for (items := its.map fun i : Nat => Dat.int i) (fun _ _ => rfl) ?_ ?_ ?_) ⟨by rw [hpre]; rfl, rfl, rfl, trivial⟩)
  · rw [hits]; exact ei_rangeN (by walk_at "boot") (by walk_at "ev")
  · intro x hx
    rcases List.mem_cons.mp hx with rfl | hx
    · exact ⟨by walk_at "slot", by walk_at "nm"⟩
    · cases hx
  have hm : (start : Int) < its.length := by (clear hrun hits hpre hkps hv2 hv1 hps k ha S hA hW; lia)
  have h0 : (0 : Int) ≤ (start : Int) := Int.natCast_nonneg _
  have h1 : (0 : Int) ≤ (a : Int) ∧ (a : Int) ≤ 1000 := by (clear h0 hm hrun hits hpre hkps hv2 hv1 hps k hst S hA hW; lia)
  have h2 : (start : Int) ≤ 1000 := by (clear h1 h0 hm hrun hits hpre hkps hv2 hv1 hps k S hA hW; lia)
  have h3 : pre.length + its.length ≤ 1000 := by rw [hpre, hlen]; simp; (clear h2 h1 h0 hm hrun hits hpre hkps hv2 hv1 hps k hst S hA hW; lia)
  clear k hst hrun hlen hits hpre
  revert hm h0 h1 h2 h3
  generalize Dat.int (a : Int) = da
  generalize Dat.int (start : Int) = dst
  generalize hu : ((a : Int), (0 : Int)) = u
  generalize hv : ((start : Int), (1 : Int)) = v
  have eu : (a : Int) = u.1 := by rw [← hu]
  have ev : (start : Int) = v.1 := by rw [← hv]
  rw [eu, ev]
  clear eu ev hu hv
  intro hm h0 h1 h2 h3
  induction its generalizing u v pre with
  | nil => simp at hm; (clear h3 h2 h1 hkps hv2 hv1 hps ha S hA hW; lia)
  | cons j its ih =>
    by_cases hz : v.1 = 0
    · have e : rowsFrom (j :: its).length u v = [] := by rw [List.length_cons, rowsFrom, if_pos hz]
      rw [e, List.append_nil]
      refine ForR.esc (bs := [("turn", .dat (.int j))]) (d := .int j) rfl ?_
      refine ex_esc (ex_try_esc (cls := "ZeroDivisionError") (o := none) ?_ (by walk_at "boot") PySem.F.isExc_ZeroDivisionError PySem.F.notTuple_ZeroDivisionError self_zde rfl)
      refine rxc_head (rxc_unpack ?_)
      refine re_call (ps := [.dat (.int u.1), .dat (.int 0)]) (by walk_at "glb") (c_dm0 W P hW) (.two ?_ ?_) ⟨u.1, rfl, rfl⟩ (by decide)
      · exact ev_titem (k := 0) (d := .int u.1) (ev_row pre u v (-2) u rfl (by (clear e hz h2 h1 h0 hm ih hkps hv2 hv1 hps ha S hA hW; lia)) (ev_un ev_int op_neg) (row2 _ _ _)) ev_int rfl (by simp)
      · exact (ev_un (ev_titem (k := 0) (d := .int v.1) (ev_row pre u v (-1) v rfl (by (clear e hz h2 h1 h0 hm ih hkps hv2 hv1 hps ha S hA hW; lia)) (ev_un ev_int op_neg) (row1 _ _ _)) ev_int rfl (by simp)) op_neg).cast (by rw [hz]; rfl)
    · have hv : 0 < v.1 := by (clear h3 h1 hm ih hkps hv2 hv1 hps ha S hA hW; lia)
      obtain ⟨w0, w1⟩ := stepR_lt (u := u) hv
      obtain ⟨q0, q1⟩ := fdiv_small h1.1 h1.2 hv
      have e : pre ++ [u, v] ++ rowsFrom (j :: its).length u v = (pre ++ [u]) ++ [v, stepR u v] ++ rowsFrom its.length v (stepR u v) := by
        rw [List.length_cons, rowsFrom, if_neg hz]; simp
      rw [e]
      simp only [List.length_cons] at hm h3
      refine ForR.cons (bs := [("turn", .dat (.int j))]) (d := .int j) (ρ' := [("rows", .lst (((pre ++ [u]) ++ [v, stepR u v]).map dI2)), ("a", .dat da), ("start", .dat dst)]) rfl ?_ (ih (pre ++ [u]) v (stepR u v) (by (clear e q1 q0 w0 hv hz h3 h2 h1 h0 ih hkps hv2 hv1 hps ha S hA hW; lia)) w0 ⟨by (clear e q1 q0 w1 w0 hz h3 h1 hm ih hkps hv2 hv1 hps ha S hA hW; lia), by (clear e q1 q0 w1 w0 hz h3 h1 hm ih hkps hv2 hv1 hps ha S hA hW; lia)⟩ (by (clear e q1 q0 w0 hv hz h2 h1 h0 ih hkps hv2 hv1 hps ha S hA hW; lia)) (by simp; (clear e q1 q0 w1 w0 hv hz h2 h1 h0 hm ih hkps hv2 hv1 hps ha S hA hW; lia)))
      refine ex_seq (ex_try (ex_last (ρ' := [("told", .dat (.int (u.1.fdiv (-v.1)))), ("rest", .dat (.int (u.1.fmod (-v.1)))), ("rows", .lst ((pre ++ [u, v]).map dI2)), ("a", .dat da), ("start", .dat dst)]) (ex_unpack (a := .int (u.1.fdiv (-v.1))) (b := .int (u.1.fmod (-v.1))) (ev_gcall (by walk_at "glb") (c_dm W P hW) (.two (ev_titem (k := 0) (d := .int u.1) (ev_row pre u v (-2) u rfl (by (clear e q1 q0 w1 w0 hv hz h2 h1 h0 hm ih hkps hv2 hv1 hps ha S hA hW; lia)) (ev_un ev_int op_neg) (row2 _ _ _)) ev_int rfl (by simp)) (ev_un (ev_titem (k := 0) (d := .int v.1) (ev_row pre u v (-1) v rfl (by (clear e q1 q0 w1 w0 hv hz h2 h1 h0 hm ih hkps hv2 hv1 hps ha S hA hW; lia)) (ev_un ev_int op_neg) (row1 _ _ _)) ev_int rfl (by simp)) op_neg)) ⟨u.1, -v.1, rfl, rfl, ?_, rfl⟩ (by decide)) (by walk_at "slot") (by walk_at "nm") (by walk_at "slot") (by walk_at "nm")) ⟨rfl, rfl, rfl, rfl, rfl, trivial⟩)) ?_
      · exact DmOk.small (by (clear e q1 q0 w1 w0 hz h3 h1 hm ih hkps hv2 hv1 hps ha S hA hW; lia)) (Nat.le_trans (intBits_le_64 (by (clear e q1 q0 w1 w0 hv hz h3 h2 h0 hm ih hkps hv2 hv1 hps ha S hA hW; omega)) (by (clear e q1 q0 w1 w0 hv hz h3 h2 h0 hm ih hkps hv2 hv1 hps ha S hA hW; omega))) (by decide)) (intBits_le_64 (by (clear e q1 q0 w1 w0 hz h3 h1 hm ih hkps hv2 hv1 hps ha S hA hW; lia)) (by (clear e q1 q0 w1 w0 hz h3 h1 hm ih hkps hv2 hv1 hps ha S hA hW; lia)))
      refine ex_last (ex_append (d := dI2 (stepR u v)) rfl (ev_tup2 (ev_un (ev_name rfl) op_neg) (ev_bin (ev_bin (ev_un (ev_name rfl) op_neg) (ev_titem (k := 1) (d := .int v.2) (ev_row pre u v (-1) v rfl (by (clear e q1 q0 w1 w0 hv hz h2 h1 h0 hm ih hkps hv2 hv1 hps ha S hA hW; lia)) (ev_un ev_int op_neg) (row1 _ _ _)) ev_int rfl (by simp)) (op_mul (IntMulOk.of_left (intBits_le_64 (by (clear e w1 w0 hv hz h3 h2 h1 h0 hm ih hkps hv2 hv1 hps ha S hA hW; omega)) (by (clear e w1 w0 hv hz h3 h2 h1 h0 hm ih hkps hv2 hv1 hps ha S hA hW; omega)))))) (ev_titem (k := 1) (d := .int u.2) (ev_row pre u v (-2) u rfl (by (clear e q1 q0 w1 w0 hv hz h2 h1 h0 hm ih hkps hv2 hv1 hps ha S hA hW; lia)) (ev_un ev_int op_neg) (row2 _ _ _)) ev_int rfl (by simp)) op_sub)) ?_ rfl) ⟨?_, rfl, rfl, trivial⟩
      · simp; (clear e q1 q0 w1 w0 hv hz h2 h1 h0 hm ih hkps hv2 hv1 hps ha S hA hW; lia)
      · simp
end
section
theorem inj_dP (x y : Nat × Nat) (h : dP x = dP y) : x = y := by
  unfold dP at h
  injection h with h; injection h with h1 h; injection h1 with h1; injection h with h2 _; injection h2 with h2
  exact Prod.ext (by (clear h2; lia)) (by (clear h1; lia))
theorem getD_dP {l : List (Nat × Nat)} {m : Nat} (h : m < l.length) : (l.map dP)[m]? = some (dP (l.getD m (0, 0))) := by
  rw [List.getElem?_map, List.getElem?_eq_getElem h, List.getD_eq_getElem?_getD, List.getElem?_eq_getElem h]; rfl
noncomputable abbrev dN (n : Nat) : Dat := .int n
theorem getD_dN {l : List Nat} {m : Nat} (h : m < l.length) : (l.map dN)[m]? = some (dN (l.getD m 0)) := by
  rw [List.getElem?_map, List.getElem?_eq_getElem h, List.getD_eq_getElem?_getD, List.getElem?_eq_getElem h]; rfl
noncomputable def headF : List Dat → Option Dat
  | [.tuple [x, _]] => some x
  | _ => none
/-- x laid at the place that a search by c finds -/
noncomputable def insBy {α : Type} (c : Nat → Bool) (x : α) (l : List α) : List α := l.take (bis c (l.length - 0) 0 l.length) ++ x :: l.drop (bis c (l.length - 0) 0 l.length)
theorem insBy_map {α β : Type} (f : α → β) (c : Nat → Bool) (x : α) (l : List α) : (insBy c x l).map f = insBy c (f x) (l.map f) := by
  unfold insBy
  rw [List.map_append, List.map_cons, List.map_take, List.map_drop, List.length_map]
theorem insBy_length {α : Type} (c : Nat → Bool) (x : α) (l : List α) : (insBy c x l).length = l.length + 1 := by
  unfold insBy
  have := (bis_le (c := c) (l.length - 0) 0 l.length (Nat.zero_le _)).2
  rw [List.length_append, List.length_cons, List.length_take, List.length_drop]; lia
noncomputable def shR (l : List (Nat × Nat)) (x : Nat × Nat) : List (Nat × Nat) := insBy (fun m => decide (x.1 < (l.getD m (0, 0)).1)) x l
noncomputable def shL (l : List (Nat × Nat)) (x : Nat × Nat) : List (Nat × Nat) := insBy (fun m => !decide ((l.getD m (0, 0)).1 < x.1)) x l
noncomputable def plL (l : List Nat) (x : Nat) : List Nat := insBy (fun m => !decide (l.getD m 0 < x)) x l
noncomputable def plR (l : List Nat) (x : Nat) : List Nat := insBy (fun m => decide (x < l.getD m 0)) x l
theorem decN (x y : Nat) : decide ((x : Int) < (y : Int)) = decide (x < y) := by
  by_cases h : x < y
  · rw [decide_eq_true h, decide_eq_true (by lia)]
  · rw [decide_eq_false h, decide_eq_false (by lia)]
theorem ir_head (l : List (Nat × Nat)) (x : Nat × Nat) (hl : l.length ≤ 1000) : iR 10 (l.map dP) [.dat (dP x)] [("key", .fn 1 headF)] ((shR l x).map dP) :=
  ⟨dP x, dN x.1, 0, .none, l.length, .fn 1 headF, _, .k1 _ (fun _ h => by cases h), ⟨by decide, rfl⟩, ⟨.inl ⟨rfl, by rw [List.length_map]⟩, by rw [List.length_map]; exact Nat.le_refl _, by rw [List.length_map]; exact hl, .inr ⟨_, _, rfl⟩, fun m hm => ⟨_, dN (l.getD m (0, 0)).1, getD_dP (by rwa [List.length_map] at hm), ⟨by decide, rfl⟩, congrArg some (decN _ _)⟩⟩, Nat.zero_le _, by
    rw [shR, insBy_map]; unfold insBy; rw [List.length_map]⟩
theorem il_head (l : List (Nat × Nat)) (x : Nat × Nat) (hl : l.length ≤ 1000) : iL 10 (l.map dP) [.dat (dP x)] [("key", .fn 1 headF)] ((shL l x).map dP) :=
  ⟨dP x, dN x.1, 0, .none, l.length, .fn 1 headF, _, .k1 _ (fun _ h => by cases h), ⟨by decide, rfl⟩, ⟨.inl ⟨rfl, by rw [List.length_map]⟩, by rw [List.length_map]; exact Nat.le_refl _, by rw [List.length_map]; exact hl, .inr ⟨_, _, rfl⟩, fun m hm => ⟨_, dN (l.getD m (0, 0)).1, getD_dP (by rwa [List.length_map] at hm), ⟨by decide, rfl⟩, congrArg (fun b => some (!b)) (decN _ _)⟩⟩, Nat.zero_le _, by
    rw [shL, insBy_map]; unfold insBy; rw [List.length_map]⟩
theorem il_plain (l : List Nat) (x : Nat) (hl : l.length ≤ 1000) : iL 10 (l.map dN) [.dat (dN x)] [] ((plL l x).map dN) :=
  ⟨dN x, dN x, 0, .none, l.length, .dat .none, _, .a1, rfl, ⟨.inl ⟨rfl, by rw [List.length_map]⟩, by rw [List.length_map]; exact Nat.le_refl _, by rw [List.length_map]; exact hl, .inl rfl, fun m hm => ⟨_, _, getD_dN (by rwa [List.length_map] at hm), rfl, congrArg (fun b => some (!b)) (decN _ _)⟩⟩, Nat.zero_le _, by
    rw [plL, insBy_map]; unfold insBy; rw [List.length_map]⟩
theorem ir_plain (l : List Nat) (x : Nat) (hl : l.length ≤ 1000) : iR 10 (l.map dN) [.dat (dN x)] [] ((plR l x).map dN) :=
  ⟨dN x, dN x, 0, .none, l.length, .dat .none, _, .a1, rfl, ⟨.inl ⟨rfl, by rw [List.length_map]⟩, by rw [List.length_map]; exact Nat.le_refl _, by rw [List.length_map]; exact hl, .inl rfl, fun m hm => ⟨_, _, getD_dN (by rwa [List.length_map] at hm), rfl, congrArg some (decN _ _)⟩⟩, Nat.zero_le _, by
    rw [plR, insBy_map]; unfold insBy; rw [List.length_map]⟩
noncomputable abbrev Shelf := List (Nat × Nat) × List Nat
noncomputable def lay1 (S : Shelf) (w : Nat) : Shelf := (shR S.1 (w, 0), plL S.2 w)
noncomputable def lay2 (S : Shelf) (w : Nat) : Shelf := (shR (shL S.1 (w, 1)) (w, 2), plR S.2 w)
end
section
noncomputable def scLaw : Scope := { kind := .function, names := ([("script", .local), ("cells", .local), ("a", .cell), ("paid", .cell), ("least", .cell), ("rows", .local), ("gain", .cell), ("first", .local), ("behind", .local), ("head", .local), ("shelf", .local), ("plain", .local), ("w", .local), ("beside", .local), ("top", .cell), ("shares", .local), ("amount", .cell), ("within", .local), ("front", .local), ("under", .local), ("quotient", .local), ("rest", .local)] : List (Str × NameKind)) ++ ([("words", .local), ("letters", .local), ("b", .cell), ("c", .cell), ("_law_cells", .globalImplicit), ("_law_coins", .globalImplicit), ("_law_paid", .globalImplicit), ("sorted", .globalImplicit), ("range", .globalImplicit), ("_law_run", .globalImplicit), ("bisect_left", .globalImplicit), ("bisect_right", .globalImplicit), ("len", .globalImplicit), ("_law_corner", .globalImplicit), ("insort_right", .globalImplicit), ("insort_left", .globalImplicit), ("list", .globalImplicit), ("sum", .globalImplicit), ("int_divmod", .globalImplicit), ("Int2AP", .globalImplicit), ("isinstance", .globalImplicit), ("bytes", .globalImplicit)] : List (Str × NameKind)), isGenerator := false, isCoroutine := false, more := [("@code", .int 130), ("@qual", .str "law.<locals>.")] }
noncomputable def gainF (b c : Nat) : List Dat → Option Dat
  | [.tuple [.int s, .int p]] => some (.int ((c : Int) * p - b * s))
  | _ => none
noncomputable def tabL : Addr × Addr × Str := (130, 128, "law.<locals>.<lambda>")
theorem perm_sorted {α : Type} {r : α → α → Prop} (anti : ∀ x y, r x y → r y x → x = y) : ∀ {l l' : List α}, l.Perm l' → l.Pairwise r → l'.Pairwise r → l = l' := fun h1 h2 h3 => h1.eq_of_pairwise (fun x y _ _ => anti x y) h2 h3
theorem small_step {a b c : Int} (ha : 0 ≤ a ∧ a ≤ 1000000) (hb : 0 ≤ b ∧ b ≤ 1000000) (hc : 1 ≤ c ∧ c ≤ 1000000) : Builtin.Range.small a b c = true := by
  have hsz : 0 ≤ Builtin.Range.rangeSize a b c ∧ Builtin.Range.rangeSize a b c ≤ 1000001 := by
    unfold Builtin.Range.rangeSize
    rw [if_pos (by (clear hb ha; lia))]
    split
    · have h1 : 0 ≤ (b - a - 1) / c := Int.ediv_nonneg (by (clear hc hb ha; lia)) (by (clear hb ha; lia))
      have h2 : (b - a - 1) / c ≤ b - a - 1 := Int.ediv_le_self _ (by (clear h1 hc hb ha; lia))
      (clear hc; lia)
    · (clear hc hb ha; lia)
  unfold Builtin.Range.small
  generalize Builtin.Range.rangeSize a b c = z at hsz
  simp only [Builtin.Range.rangeFitsLong, Bool.and_eq_true, Bool.or_eq_true, decide_eq_true_eq, beq_iff_eq]
  rw [if_pos (by (clear hsz hb ha; lia))]
  simp only [Bool.and_eq_true, decide_eq_true_eq]
  omega
theorem ei_range3N {W : Wd} {lv : Nat} {sc : Scope} {ρ : Names} {x : Str} {np pos : Pos} {e f g : Expr} {k m c : Nat} (hb : Boot W sc x (.type "range")) (h : EV W lv sc ρ e (.dat (.int k))) (h2 : EV W lv sc ρ f (.dat (.int (m + 1 : Nat)))) (h3 : EV W lv sc ρ g (.dat (.int c))) (hk : k ≤ m) (hm : m ≤ 100000) (hc : 1 ≤ c ∧ c ≤ 100000) (hs : nStar e = true := by rfl) (hs2 : nStar f = true := by rfl) (hs3 : nStar g = true := by rfl) :
    EI (fun _ => []) W lv sc ρ (.Call (.Name x np) [e, f, g] [] pos) (((List.range ((m - k) / c + 1)).map fun i => k + i * c).map fun n : Nat => Dat.int n) := by
  have e1 : (((List.range ((m - k) / c + 1)).map fun i => k + i * c).map fun n : Nat => Dat.int n) = rangeD k c ((m - k) / c + 1) := by
    unfold rangeD
    rw [List.map_map]
    refine List.map_congr_left fun i _ => ?_
    simp only [Function.comp]
    congr 1
  rw [e1]
  refine ei_range3 hb hs h hs2 h2 hs3 h3 (by (clear e1 hs3 hs2 hs hm hk h3 h2 h hb; lia)) (PyProof.noPylong_small (by (clear e1 hs3 hs2 hs hm hk h3 h2 h hb; omega))) (small_step (by (clear e1 hs3 hs2 hs hc h3 h2 h hb; lia)) (by (clear e1 hs3 hs2 hs hc hk h3 h2 h hb; lia)) (by (clear e1 hs3 hs2 hs hm hk h3 h2 h hb; lia))) ?_
  unfold Builtin.Range.rangeSize
  rw [if_pos (by (clear e1 hs3 hs2 hs hm hk h3 h2 h hb; lia)), if_pos (by lia)]
  have : ((m + 1 : Nat) : Int) - k - 1 = ((m - k : Nat) : Int) := by (clear e1 hs3 hs2 hs hc hm h3 h2 h hb; omega)
  rw [this]
  push_cast; rfl
noncomputable def gN (b c : Nat) (r : Nat × Nat) : Int := (c : Int) * r.2 - b * r.1
theorem deqL_self {f : Dat → Dat → Option Bool} : ∀ {l : List Dat}, (∀ d ∈ l, f d d = some true) → deqL f l l = some true
  | [], _ => rfl
  | d :: l, h => by
    unfold deqL
    rw [h d (.head _), deqL_self fun x hx => h x (.tail _ hx)]; rfl
theorem deqn_list {k : Nat} {l : List Dat} (h : ∀ d ∈ l, deqn k d d = some true) : deqn (k + 1) (.list l) (.list l) = some true := by
  simp only [deqn, if_true]; exact deqL_self h
theorem deqn_dN (k : Nat) (n : Nat) : deqn k (dN n) (dN n) = some true := by simp [deqn]
theorem deqn_int (k : Nat) (n : Int) : deqn k (.int n) (.int n) = some true := by simp [deqn]
theorem deqn_pair (k : Nat) (x y : Int) : deqn (k + 1) (.tuple [.int x, .int y]) (.tuple [.int x, .int y]) = some true := by simp [deqn, deqL]
theorem deqn_dP (k : Nat) (n : Nat × Nat) : deqn (k + 1) (dP n) (dP n) = some true := deqn_pair k _ _
theorem deqn_map {α : Type} (k : Nat) (f : α → Dat) (l : List α) (h : ∀ x, deqn k (f x) (f x) = some true) : deqn (k + 1) (.list (l.map f)) (.list (l.map f)) = some true := deqn_list fun d hd => by
  obtain ⟨x, _, rfl⟩ := List.mem_map.mp hd; exact h x
/-! the data of the law and what holds of them -/
set_option genInjectivity false in
set_option genSizeOf false in
structure F1 (ns : List Int) where
  x0 : Int
  x1 : Int
  x2 : Int
  x3 : Int
  x4 : Int
  hcs : cellsOf ns [5, 3, 10, 110, 2] = [x0, x1, x2, x3, x4]
  a : Nat
  low : Nat
  b : Nat
  c : Nat
  ha : 2 + x0.fmod 8 = a
  hlow : 2 + x1.fmod 9 = low
  hc : 1 + x2.fmod 25 = c
  hb : (freeL a low)[0]? = some b
  a2 : 2 ≤ a ∧ a ≤ 9
  b2 : 2 ≤ b ∧ b ≤ 20
  c2 : 1 ≤ c ∧ c ≤ 25
  w : Nat → Nat
  hw : ∀ k < a, (((List.range ((a * b - k) / a + 1)).map fun i => k + i * a).filter fun n => (paidL [a, b, c] (a * b + 9)).getD n false)[0]? = some (w k)
  least : List Nat
  hperm : least.Perm ((List.range a).map w)
  hsort : least.Pairwise (· ≤ ·)
  st : Nat
  hst : ((List.range a).filter fun n : Nat => (((b : Int) * n - c).fmod a == 0))[0]? = some st
  sta : st < a
  rows : List (Nat × Nat)
  hrows : runRows a st = rows.map fun r => ((r.1 : Int), (r.2 : Int))
  rl : 2 ≤ rows.length ∧ rows.length ≤ 100
  first : Nat
  behind : Nat
  hfirst : bis (fun m => !decide (gN b c (rows.getD m (0, 0)) < 0)) (rows.length - 0) 0 rows.length = first
  hfirst2 : (rows.filter fun r => decide (gN b c r < 0)).length = first
  hbehind : bis (fun m => decide (0 < gN b c (rows.getD m (0, 0)))) (rows.length - 0) 0 rows.length = behind
  hbehind2 : (rows.filter fun r => decide (gN b c r ≤ 0)).length = behind
  s1 : Nat × Nat
  t1 : Nat × Nat
  s2 : Nat × Nat
  t2 : Nat × Nat
  hp1 : 1 ≤ first ∧ rows[first - 1]? = some s1 ∧ rows[first]? = some t1 ∧ t1.1 ≤ s1.1 ∧ s1.2 ≤ t1.2 ∧ s1.1 ≤ 1000 ∧ t1.2 ≤ 1000
  hp2 : 1 ≤ behind ∧ rows[behind - 1]? = some s2 ∧ rows[behind]? = some t2 ∧ t2.1 ≤ s2.1 ∧ s2.2 ≤ t2.2 ∧ s2.1 ≤ 1000 ∧ t2.2 ≤ 1000
  hcl : (corner s1.1 s1.2 t1.1 t1.2 b c).length ≤ 100 ∧ (corner s2.1 s2.2 t2.1 t2.2 b c).length ≤ 100
  hlay : (corner s2.1 s2.2 t2.1 t2.2 b c).foldl lay2 ((corner s1.1 s1.2 t1.1 t1.2 b c).foldl lay1 ([], [])) = (least.flatMap fun w => [(w, 1), (w, 0), (w, 2)], least.flatMap fun w => [w, w])
  hbs1 : ∀ k < a, bis (fun m => decide (least.getD k 0 < least.getD m 0)) (k - 0) 0 k = k
  hbs2 : ∀ k < a, bis (fun m => !decide (least.getD m 0 < least.getD k 0)) (a - (k + 1)) (k + 1) a = k + 1
  lmax : Nat
  hlm : seqAt (least.map dN) (-1) = some (dN lmax)
  hle : ∀ x ∈ least, x ≤ lmax
  top : Nat
  htop : (lmax : Int) + x3.fmod 6 = top
  htb : top ≤ a * b + 8
  hres : (least.map (· % a)).Perm (List.range a)
  hsum : (least.map (· / a)).sum = ((List.range top).filter fun n => !(paidL [a, b, c] (a * b + 9)).getD n false).length
  amount : Int
  hamt : (x3.fdiv 6).fmod (top + 4) - 3 = amount
  wr : Nat
  hwr : bis (fun m => decide (amount < (least.getD m 0 : Nat))) (a - 0) 0 a = wr
  hpay : ((least.take wr).map fun w : Nat => (amount - w).fdiv a + 1).sum = (((List.range (amount + 1).toNat).filter fun n => (paidL [a, b, c] (a * b + 9)).getD n false).length : Int)
  fr : Int
  un : Int
  hfr : 1 - x4.fmod 2 * 2 = fr
  hun : 1 - (x4.fdiv 2).fmod 2 * 2 = un
  q : Int
  r : Int
  hq : (fr * ((least.map fun w : Nat => (16 : Int) ^ (top + a - w)).sum)).fdiv (un * (16 ^ a - 1)) = q
  hr : (fr * ((least.map fun w : Nat => (16 : Int) ^ (top + a - w)).sum)).fmod (un * (16 ^ a - 1)) = r
  hdm : DmOk (fr * ((least.map fun w : Nat => (16 : Int) ^ (top + a - w)).sum)) (un * (16 ^ a - 1))
  hru : 0 < r * un
  hqs : decide (q > 0) = (fr == un)
  hqb : q.natAbs < 16 ^ 1000 ∧ r.natAbs < 16 ^ 1000
  hw1 : (apF 1000 q.natAbs []).toArray = if fr = un then byteArr ((List.range (top + 1)).map fun n => 65 + (if (paidL [a, b, c] (a * b + 9)).getD n false then 1 else 0)) else KBy.picked (byteArr ((List.range (top + 1)).map fun n => 65 + (if (paidL [a, b, c] (a * b + 9)).getD n false then 1 else 0))) none (some (-1)) ++ ([67] : List UInt8).toArray
  hw2 : apF 1000 r.natAbs [] = List.replicate a (if fr = un then 66 else 79)
noncomputable def scLaw2 : Scope := unslots (unslots scLaw ["b", "c"]) []
noncomputable def namesB {ns : List Int} (f : F1 ns) : Names := [("shelf", .dat (.list ((f.least.flatMap fun w => [(w, 1), (w, 0), (w, 2)]).map dP))), ("plain", .dat (.list ((f.least.flatMap fun w => [w, w]).map dN))), ("a", .dat (.int f.a)), ("least", .dat (.list (f.least.map dN))), ("paid", .dat (.list ((paidL [f.a, f.b, f.c] (f.a * f.b + 9)).map .bool))), ("cells", .dat (.list ([f.x0, f.x1, f.x2, f.x3, f.x4].map .int)))]
noncomputable def namesC {ns : List Int} (f : F1 ns) : Names := [("shares", .dat (.list (f.least.map fun w => dP (w / f.a, w % f.a)))), ("top", .dat (dN f.top)), ("a", .dat (.int f.a)), ("least", .dat (.list (f.least.map dN))), ("paid", .dat (.list ((paidL [f.a, f.b, f.c] (f.a * f.b + 9)).map .bool))), ("cells", .dat (.list ([f.x0, f.x1, f.x2, f.x3, f.x4].map .int)))]
theorem law_walkA (W : Wd) (P : Params) (hW : WL W P) (ns : List Int) (hns : ns.length ≤ 63) (f : F1 ns) (next : EXL W 200 scLaw2 (namesB f) (execs ((bodyOf (fdOf (Mine.hd.heap_39 P) 131)).drop 14)) (.bool true)) : EXL W 200 scLaw [("script", .dat (.list (ns.map .int)))] (execs (bodyOf (fdOf (Mine.hd.heap_39 P) 131))) (.bool true) := by
  unfold namesB at next
  obtain ⟨x0, x1, x2, x3, x4, hcs, a, low, b, c, ha, hlow, hc, hb, a2, b2, c2, w, hw, least, hperm, hsort, st, hst, sta, rows, hrows, rl, first, behind, hfirst, hfirst2, hbehind, hbehind2, s1, t1, s2, t2, hp1, hp2, hcl, hlay, hbs1, hbs2, lmax, hlm, hle, top, htop, htb, hres, hsum, amount, hamt, wr, hwr, hpay, fr, un, hfr, hun, q, r, hq, hr, hdm, hru, hqs, hqb, hw1, hw2⟩ := f
  dsimp only at next
  show EXL _ _ _ _ (execs (_ :: _)) _
  refine exl_seq (ex_assign (d := .list ([x0, x1, x2, x3, x4].map .int)) (ev_gcall (by walk_at "glb") (c_cells W P hW) (.two (q := .dat (.tuple (([5, 3, 10, 110, 2] : List Int).map .int))) (ev_name rfl) (ev_tuple (ds := ([5, 3, 10, 110, 2] : List Int).map .int) (.cons rfl ev_int (.cons rfl ev_int (.three ev_int ev_int ev_int))) (by simp))) ⟨ns, [5, 3, 10, 110, 2], rfl, rfl, hns, by decide, by rw [hcs]⟩ (by decide)) (by walk_at "slot") (by walk_at "nm")) ?_
  refine exl_seq (ex_unpack3 (a := .int a) (b := .int b) (d := .int c) (ev_gcall (by walk_at "glb") (c_coins W P hW) (.one (ev_name rfl)) ⟨[x0, x1, x2, x3, x4], a, low, b, c, x0, x1, x2, rfl, rfl, by simp, rfl, rfl, rfl, ha, hlow, hc, hb, rfl⟩ (by decide)) (by walk_at "slot") (by walk_at "nm") (by walk_at "slot") (by walk_at "nm") (by walk_at "slot") (by walk_at "nm")) ?_
  have hab : a * b ≤ 9 * 20 := Nat.mul_le_mul a2.2 b2.2
  generalize hpd : paidL [a, b, c] (a * b + 9) = paid at hw hsum hpay hw1
  have hpl : paid.length = a * b + 9 := by rw [← hpd, paidL_length]
  refine exl_seq (ρ' := [("paid", .dat (.list (paid.map .bool))), ("a", .dat (.int a)), ("b", .dat (.int b)), ("c", .dat (.int c)), ("cells", .dat (.list ([x0, x1, x2, x3, x4].map .int)))]) (EX.to (ex_assign (ev_gcall (by walk_at "glb") (c_paid W P hW) (.two (ev_tup3 (ev_name rfl) (ev_name rfl) (ev_name rfl)) ((ev_bin (ev_bin (ev_name rfl) (ev_name rfl) (op_mul (IntMulOk.of_left (intBits_le_64 (by (clear hpl hw1 hpay hsum hw hpd hab next hw2 hqb hqs hru hdm hr hq hun hfr hwr hamt hres htb htop hle hlm hbs2 hbs1 hlay hcl hp2 hp1 hbehind2 hbehind hfirst2 hfirst rl hrows sta hst hsort hperm c2 b2 hb hc hlow ha hcs hns hW; lia)) (by (clear hpl hw1 hpay hsum hw hpd hab next hw2 hqb hqs hru hdm hr hq hun hfr hwr hamt hres htb htop hle hlm hbs2 hbs1 hlay hcl hp2 hp1 hbehind2 hbehind hfirst2 hfirst rl hrows sta hst hsort hperm c2 b2 hb hc hlow ha hcs hns hW; lia)))))) ev_int op_add).cast (pv' := .dat (.int (a * b + 8 : Nat))) (by push_cast; rfl))) ⟨[a, b, c], a * b + 8, rfl, rfl, by simp, ?_, by (clear hw1 hpay hsum hw hpd next hw2 hqb hqs hru hdm hr hq hun hfr hwr hamt hres htb htop hle hlm hbs2 hbs1 hlay hcl hp2 hp1 hbehind2 hbehind hfirst2 hfirst rl hrows sta hst hsort hperm c2 b2 a2 hb hc hlow ha hcs hns hW; lia), rfl⟩ (by decide)) (by walk_at "slot") (by walk_at "nm")) ⟨?_, rfl, rfl, rfl, rfl, trivial⟩) ?_
  · intro o ho; simp at ho; (clear hpl hw1 hpay hsum hw hpd hab next hw2 hqb hqs hru hdm hr hq hun hfr hwr hamt hres htb htop hle hlm hbs2 hbs1 hlay hcl hp2 hp1 hbehind2 hbehind hfirst2 hfirst rl hrows sta hst hsort hperm hb hc hlow ha hcs hns hW; lia)
  · rw [← hpd]; rfl
  have hll : least.length = a := by rw [hperm.length_eq, List.length_map, List.length_range]
  refine exl_seq (ρ' := [("least", .dat (.list (least.map fun n : Nat => Dat.int n))), ("paid", .dat (.list (paid.map .bool))), ("a", .dat (.int a)), ("b", .dat (.int b)), ("c", .dat (.int c)), ("cells", .dat (.list ([x0, x1, x2, x3, x4].map .int)))]) (EX.to (ex_assign (d := .list (((least.map fun n : Nat => (n : Int))).map .int)) (ev_bcall (id := "sorted") (ds := [.list ((((List.range a).map w).map fun n : Nat => (n : Int)).map .int)]) (by walk_at "boot") (.one ((ev_map (xs := List.range a) (inj := fun k : Nat => Dat.int k) (g := fun k => Dat.int (w k)) (ρ' := [("a", .dat (.int a)), ("b", .dat (.int b)), ("paid", .dat (.list (paid.map .bool)))]) (by walk_at "side") inj_nat (ei_rangeN (by walk_at "boot") (ev_name rfl)).up (fun k hk => ⟨[("k", .dat (.int k))], rfl, ?_⟩) (by rw [List.length_range]; (clear hpl hw1 hpay hsum hw hpd hab next hw2 hqb hqs hru hdm hr hq hun hfr hwr hamt hres htb htop hle hlm hbs2 hbs1 hlay hcl hp2 hp1 hbehind2 hbehind hfirst2 hfirst rl hrows sta hst hsort hperm c2 b2 hb hc hlow ha hcs hns hW; lia))).cast ?_)) (op_sorted ?_ ?_)) (by walk_at "slot") (by walk_at "nm")) ⟨by rw [List.map_map]; rfl, rfl, rfl, rfl, rfl, rfl, trivial⟩) ?_
  · have hk : k < a := List.mem_range.mp hk
    have hkb : k ≤ a * b := Nat.le_trans (Nat.le_of_lt hk) (Nat.le_mul_of_pos_right a (by (clear hk hll hpl hw1 hpay hsum hw hpd hab next hw2 hqb hqs hru hdm hr hq hun hfr hwr hamt hres htb htop hle hlm hbs2 hbs1 hlay hcl hp2 hp1 hbehind2 hbehind hfirst2 hfirst rl hrows sta hst hsort hperm c2 a2 hb hc hlow ha hcs hns hW; lia)))
    have hn : (a * b - k) / a + 1 ≤ 300 := by have := Nat.div_le_self (a * b - k) a; (clear hw1 hpay hsum hw hpd next hw2 hqb hqs hru hdm hr hq hun hfr hwr hamt hres htb htop hle hlm hbs2 hbs1 hlay hcl hp2 hp1 hbehind2 hbehind hfirst2 hfirst rl hrows sta hst hsort hperm c2 b2 hb hc hlow ha hcs hns hW; lia)
    refine ev_item (k := 0) (pv := .dat (.list (((((List.range ((a * b - k) / a + 1)).map fun i => k + i * a).filter fun n => paid.getD n false)).map fun n : Nat => Dat.int n))) (ev_filter (xs := (List.range ((a * b - k) / a + 1)).map fun i => k + i * a) (inj := fun n : Nat => Dat.int n) (p := fun n => paid.getD n false) (g := fun n : Nat => Dat.int n) (ρ' := [("paid", .dat (.list (paid.map .bool)))]) (by walk_at "side") inj_nat ?_ (fun n hn => ⟨_, rfl, ?_, fun _ => ev_name rfl⟩) (by simp; (clear hkb hk hll hpl hw1 hpay hsum hw hpd hab next hw2 hqb hqs hru hdm hr hq hun hfr hwr hamt hres htb htop hle hlm hbs2 hbs1 hlay hcl hp2 hp1 hbehind2 hbehind hfirst2 hfirst rl hrows sta hst hsort hperm c2 b2 a2 hb hc hlow ha hcs hns hW; lia))) rfl ev_int (seqAt_nat (k := 0) (by rw [List.getElem?_map, hw k hk]; rfl)) ?_
    · exact (ei_range3N (m := a * b) (by walk_at "boot") (ev_name rfl) ((ev_bin (ev_bin (ev_name rfl) (ev_name rfl) (op_mul (IntMulOk.of_left (intBits_le_64 (by (clear hn hkb hk hpl hw1 hpay hsum hw hpd hab next hw2 hqb hqs hru hdm hr hq hun hfr hwr hamt hres htb htop hle hlm hbs2 hbs1 hlay hcl hp2 hp1 hbehind2 hbehind hfirst2 hfirst rl hrows sta hst hsort hperm c2 b2 hb hc hlow ha hcs hns hW; lia)) (by (clear hn hkb hk hpl hw1 hpay hsum hw hpd hab next hw2 hqb hqs hru hdm hr hq hun hfr hwr hamt hres htb htop hle hlm hbs2 hbs1 hlay hcl hp2 hp1 hbehind2 hbehind hfirst2 hfirst rl hrows sta hst hsort hperm c2 b2 hb hc hlow ha hcs hns hW; lia)))))) ev_int op_add).cast (by push_cast; rfl)) (ev_name rfl) hkb (by (clear hn hkb hk hll hw1 hpay hsum hw hpd next hw2 hqb hqs hru hdm hr hq hun hfr hwr hamt hres htb htop hle hlm hbs2 hbs1 hlay hcl hp2 hp1 hbehind2 hbehind hfirst2 hfirst rl hrows sta hst hsort hperm c2 b2 a2 hb hc hlow ha hcs hns hW; lia)) (by (clear hn hkb hk hpl hw1 hpay hsum hw hpd hab next hw2 hqb hqs hru hdm hr hq hun hfr hwr hamt hres htb htop hle hlm hbs2 hbs1 hlay hcl hp2 hp1 hbehind2 hbehind hfirst2 hfirst rl hrows sta hst hsort hperm c2 b2 hb hc hlow ha hcs hns hW; lia))).up
    · obtain ⟨i, hi, rfl⟩ := List.mem_map.mp hn
      have hi := List.mem_range.mp hi
      have h1 : i * a ≤ (a * b - k) / a * a := Nat.mul_le_mul_right _ (by (clear hn hkb hk hll hpl hw1 hpay hsum hw hpd hab next hw2 hqb hqs hru hdm hr hq hun hfr hwr hamt hres htb htop hle hlm hbs2 hbs1 hlay hcl hp2 hp1 hbehind2 hbehind hfirst2 hfirst rl hrows sta hst hsort hperm c2 b2 a2 hb hc hlow ha hcs hns hW; lia))
      have h2 := Nat.div_mul_le_self (a * b - k) a
      have hlt : k + i * a < paid.length := by (clear hi hn hk hll hw1 hpay hsum hw hpd hab next hw2 hqb hqs hru hdm hr hq hun hfr hwr hamt hres htb htop hle hlm hbs2 hbs1 hlay hcl hp2 hp1 hbehind2 hbehind hfirst2 hfirst rl hrows sta hst hsort hperm c2 b2 a2 hb hc hlow ha hcs hns hW; omega)
      refine et_val (ev_item (d := .bool (paid.getD (k + i * a) false)) (ev_name rfl) rfl (ev_name rfl) (seqAt_nat ?_) (by simp; (clear hlt h2 h1 hi hn hkb hk hll hw1 hpay hsum hw hpd next hw2 hqb hqs hru hdm hr hq hun hfr hwr hamt hres htb htop hle hlm hbs2 hbs1 hlay hcl hp2 hp1 hbehind2 hbehind hfirst2 hfirst rl hrows sta hst hsort hperm c2 b2 a2 hb hc hlow ha hcs hns hW; lia))) rfl
      rw [List.getElem?_map, List.getElem?_eq_getElem hlt, List.getD_eq_getElem?_getD, List.getElem?_eq_getElem hlt]; rfl
    · rw [List.length_map]
      exact Nat.le_trans (List.length_filter_le _ _) (by simp; (clear hkb hk hll hpl hw1 hpay hsum hw hpd hab next hw2 hqb hqs hru hdm hr hq hun hfr hwr hamt hres htb htop hle hlm hbs2 hbs1 hlay hcl hp2 hp1 hbehind2 hbehind hfirst2 hfirst rl hrows sta hst hsort hperm c2 b2 a2 hb hc hlow ha hcs hns hW; lia))
  · rw [List.map_map, List.map_map]; rfl
  · simp; (clear hpl hw1 hpay hsum hw hpd hab next hw2 hqb hqs hru hdm hr hq hun hfr hwr hamt hres htb htop hle hlm hbs2 hbs1 hlay hcl hp2 hp1 hbehind2 hbehind hfirst2 hfirst rl hrows sta hst hsort hperm c2 b2 hb hc hlow ha hcs hns hW; lia)
  · intro ns' hp hs
    refine perm_sorted (fun x y a b => by (clear hs hp hll hpl hw1 hpay hsum hw hpd hab next hw2 hqb hqs hru hdm hr hq hun hfr hwr hamt hres htb htop hle hlm hbs2 hbs1 hlay hcl hp2 hp1 hbehind2 hbehind hfirst2 hfirst rl hrows sta hst hsort hperm c2 b2 a2 hb hc hlow ha hcs hns hW; lia)) (hp.trans ?_) hs ?_
    · exact (hperm.map _).symm
    · rw [List.pairwise_map]
      exact hsort.imp fun h => by (clear hs hp hll hpl hw1 hpay hsum hw hpd hab next hw2 hqb hqs hru hdm hr hq hun hfr hwr hamt hres htb htop hle hlm hbs2 hbs1 hlay hcl hp2 hp1 hbehind2 hbehind hfirst2 hfirst rl hrows sta hst hsort hperm c2 b2 a2 hb hc hlow ha hcs hns hW; lia)
  have hrd : (runRows a st).map dI2 = rows.map dP := by rw [hrows, List.map_map]; rfl
  refine exl_assign (by walk_at "glb") (c_run W P hW) (.two (q := .dat (.int st)) (ev_name rfl) (ev_item (k := 0) (ev_filter (xs := List.range a) (inj := fun n : Nat => Dat.int n) (p := fun n : Nat => (((b : Int) * n - c).fmod a == 0)) (g := fun n : Nat => Dat.int n) (ρ' := [("a", .dat (.int a)), ("b", .dat (.int b)), ("c", .dat (.int c))]) (by walk_at "side") inj_nat (ei_rangeN (by walk_at "boot") (ev_name rfl)).up (fun n hn => ⟨_, rfl, et_cmp (ev_bin (ev_bin (ev_bin (ev_name rfl) (ev_name rfl) (op_mul (IntMulOk.of_left (intBits_le_64 (by (clear hn hrd hll hpl hw1 hpay hsum hw hpd hab next hw2 hqb hqs hru hdm hr hq hun hfr hwr hamt hres htb htop hle hlm hbs2 hbs1 hlay hcl hp2 hp1 hbehind2 hbehind hfirst2 hfirst rl hrows sta hst hsort hperm c2 a2 hb hc hlow ha hcs hns hW; lia)) (by (clear hn hrd hll hpl hw1 hpay hsum hw hpd hab next hw2 hqb hqs hru hdm hr hq hun hfr hwr hamt hres htb htop hle hlm hbs2 hbs1 hlay hcl hp2 hp1 hbehind2 hbehind hfirst2 hfirst rl hrows sta hst hsort hperm c2 a2 hb hc hlow ha hcs hns hW; lia)))))) (ev_name rfl) op_sub) (ev_name rfl) (op_mod (by (clear hn hrd hpl hw1 hpay hsum hw hpd hab next hw2 hqb hqs hru hdm hr hq hun hfr hwr hamt hres htb htop hle hlm hbs2 hbs1 hlay hcl hp2 hp1 hbehind2 hbehind hfirst2 hfirst rl hrows sta hst hsort hperm c2 b2 hb hc hlow ha hcs hns hW; lia)))) ev_int op_eqi, fun _ => ev_name rfl⟩) (by simp; (clear hrd hpl hw1 hpay hsum hw hpd hab next hw2 hqb hqs hru hdm hr hq hun hfr hwr hamt hres htb htop hle hlm hbs2 hbs1 hlay hcl hp2 hp1 hbehind2 hbehind hfirst2 hfirst rl hrows sta hst hsort hperm c2 b2 hb hc hlow ha hcs hns hW; lia))) rfl ev_int (seqAt_nat (k := 0) (by rw [List.getElem?_map, hst]; rfl)) ?_)) ⟨a, st, rfl, rfl, by (clear hrd hpl hw1 hpay hsum hw hpd hab next hw2 hqb hqs hru hdm hr hq hun hfr hwr hamt hres htb htop hle hlm hbs2 hbs1 hlay hcl hp2 hp1 hbehind2 hbehind hfirst2 hfirst rl hrows sta hst hsort hperm c2 b2 hb hc hlow ha hcs hns hW; lia), sta, rfl⟩ (by decide) (by walk_at "slot") (by walk_at "nm") ?_
  · rw [List.length_map]
    exact Nat.le_trans (List.length_filter_le _ _) (by simp; (clear hrd hpl hw1 hpay hsum hw hpd hab next hw2 hqb hqs hru hdm hr hq hun hfr hwr hamt hres htb htop hle hlm hbs2 hbs1 hlay hcl hp2 hp1 hbehind2 hbehind hfirst2 hfirst rl hrows sta hst hsort hperm c2 b2 hb hc hlow ha hcs hns hW; lia))
  rw [hrd]
  refine exl_sub (ρ' := [("rows", .dat (.list (rows.map dP))), ("b", .dat (.int b)), ("c", .dat (.int c)), ("a", .dat (.int a)), ("least", .dat (.list (least.map fun n : Nat => Dat.int n))), ("paid", .dat (.list (paid.map .bool))), ("cells", .dat (.list ([x0, x1, x2, x3, x4].map .int)))]) ?_ (by walk_at "sub")
  refine exl_lambda (t := tabL) (q := "law.<locals>.") (ρc := [("b", .dat (.int b)), ("c", .dat (.int c))]) (pn := ["row"]) (F := gainF b c) (lf := 0)
    ⟨hW.gl, by decide, by decide, hW.c3⟩ rfl rfl (by decide) (innerOk (keys := ["b", "c"]) (by rfl) (by decide) rfl) (CapN.all ⟨⟨rfl, rfl⟩, ⟨rfl, rfl⟩, trivial⟩) (by rfl) (by walk_at "slot") (show (Str.ofString "gain") ∉ [Str.ofString "b", Str.ofString "c"] by decide) (by walk_at "nm") (fun _ => rfl) (fun vs cl pm cdv ctv hv => ?_) (by rfl) (by decide) (plainAll (by rfl)) rfl rfl ?_ rfl rfl ?_
  · match vs, hv with
    | [a], _ => rfl
  · intro ds d hF
    unfold gainF at hF
    split at hF
    · cases hF
      rename_i s p
      exact ⟨rfl, ev_bin (ev_bin (ev_name rfl) (ev_titem (k := 1) (d := .int p) (ev_name rfl) ev_int rfl (by simp)) (op_mul (IntMulOk.of_left (intBits_le_64 (by (clear hrd hll hpl hw1 hpay hsum hw hpd hab next hw2 hqb hqs hru hdm hr hq hun hfr hwr hamt hres htb htop hle hlm hbs2 hbs1 hlay hcl hp2 hp1 hbehind2 hbehind hfirst2 hfirst rl hrows sta hst hsort hperm b2 a2 hb hc hlow ha hcs hns hW; lia)) (by (clear hrd hll hpl hw1 hpay hsum hw hpd hab next hw2 hqb hqs hru hdm hr hq hun hfr hwr hamt hres htb htop hle hlm hbs2 hbs1 hlay hcl hp2 hp1 hbehind2 hbehind hfirst2 hfirst rl hrows sta hst hsort hperm b2 a2 hb hc hlow ha hcs hns hW; lia)))))) (ev_bin (ev_name rfl) (ev_titem (k := 0) (d := .int s) (ev_name rfl) ev_int rfl (by simp)) (op_mul (IntMulOk.of_left (intBits_le_64 (by (clear hrd hll hpl hw1 hpay hsum hw hpd hab next hw2 hqb hqs hru hdm hr hq hun hfr hwr hamt hres htb htop hle hlm hbs2 hbs1 hlay hcl hp2 hp1 hbehind2 hbehind hfirst2 hfirst rl hrows sta hst hsort hperm c2 a2 hb hc hlow ha hcs hns hW; lia)) (by (clear hrd hll hpl hw1 hpay hsum hw hpd hab next hw2 hqb hqs hru hdm hr hq hun hfr hwr hamt hres htb htop hle hlm hbs2 hbs1 hlay hcl hp2 hp1 hbehind2 hbehind hfirst2 hfirst rl hrows sta hst hsort hperm c2 a2 hb hc hlow ha hcs hns hW; lia)))))) op_sub⟩
    · cases hF
  have hlr : (rows.map dP).length = rows.length := List.length_map _
  have okL : BOk 10 (rows.map dP) .none rows.length (.fn 1 (gainF b c)) (fun kd => (ltD kd (.int 0)).map (!·)) (fun m => !decide (gN b c (rows.getD m (0, 0)) < 0)) :=
    ⟨.inl ⟨rfl, hlr.symm⟩, by (clear hrd hll hpl hw1 hpay hsum hw hpd hab next hw2 hqb hqs hru hdm hr hq hun hfr hwr hamt hres htb htop hle hlm hbs2 hbs1 hlay hcl hp2 hp1 hbehind2 hbehind hfirst2 hfirst rl hrows sta hst hsort hperm c2 b2 a2 hb hc hlow ha hcs hns hW; lia), by (clear hrd hll hpl hw1 hpay hsum hw hpd hab next hw2 hqb hqs hru hdm hr hq hun hfr hwr hamt hres htb htop hle hlm hbs2 hbs1 hlay hcl hp2 hp1 hbehind2 hbehind hfirst2 hfirst hrows sta hst hsort hperm c2 b2 a2 hb hc hlow ha hcs hns hW; lia), .inr ⟨_, _, rfl⟩, fun m hm => ⟨_, .int (gN b c (rows.getD m (0, 0))), getD_dP (by (clear hrd hll hpl hw1 hpay hsum hw hpd hab next hw2 hqb hqs hru hdm hr hq hun hfr hwr hamt hres htb htop hle hlm hbs2 hbs1 hlay hcl hp2 hp1 hbehind2 hbehind hfirst2 hfirst rl hrows sta hst hsort hperm c2 b2 a2 hb hc hlow ha hcs hns hW; lia)), ⟨by decide, rfl⟩, rfl⟩⟩
  have okR : BOk 10 (rows.map dP) .none rows.length (.fn 1 (gainF b c)) (fun kd => ltD (.int 0) kd) (fun m => decide (0 < gN b c (rows.getD m (0, 0)))) :=
    ⟨.inl ⟨rfl, hlr.symm⟩, by (clear okL hrd hll hpl hw1 hpay hsum hw hpd hab next hw2 hqb hqs hru hdm hr hq hun hfr hwr hamt hres htb htop hle hlm hbs2 hbs1 hlay hcl hp2 hp1 hbehind2 hbehind hfirst2 hfirst rl hrows sta hst hsort hperm c2 b2 a2 hb hc hlow ha hcs hns hW; lia), by (clear okL hrd hll hpl hw1 hpay hsum hw hpd hab next hw2 hqb hqs hru hdm hr hq hun hfr hwr hamt hres htb htop hle hlm hbs2 hbs1 hlay hcl hp2 hp1 hbehind2 hbehind hfirst2 hfirst hrows sta hst hsort hperm c2 b2 a2 hb hc hlow ha hcs hns hW; lia), .inr ⟨_, _, rfl⟩, fun m hm => ⟨_, .int (gN b c (rows.getD m (0, 0))), getD_dP (by (clear okL hrd hll hpl hw1 hpay hsum hw hpd hab next hw2 hqb hqs hru hdm hr hq hun hfr hwr hamt hres htb htop hle hlm hbs2 hbs1 hlay hcl hp2 hp1 hbehind2 hbehind hfirst2 hfirst rl hrows sta hst hsort hperm c2 b2 a2 hb hc hlow ha hcs hns hW; lia)), ⟨by decide, rfl⟩, rfl⟩⟩
  refine exl_seq (ex_assign (d := .int first) (ev_gcallk (by walk_at "glb") (c_bL W P hW 10) (.two (ev_name rfl) ev_int) (by simp) (ev_name rfl) ⟨_, _, _, rfl, rfl, .int 0, 0, .none, rows.length, .fn 1 (gainF b c), _, .k1 _ (fun _ h => by cases h), okL, by rw [hfirst]⟩ (by decide)) (by walk_at "slot") (by walk_at "nm")) ?_
  refine exl_seq (ex_assign (d := .int behind) (ev_gcallk (by walk_at "glb") (c_bR W P hW 10) (.two (ev_name rfl) ev_int) (by simp) (ev_name rfl) ⟨_, _, _, rfl, rfl, .int 0, 0, .none, rows.length, .fn 1 (gainF b c), _, .k1 _ (fun _ h => by cases h), okR, by rw [hbehind]⟩ (by decide)) (by walk_at "slot") (by walk_at "nm")) ?_
  have hne : rows.isEmpty = false := by cases rows with
    | nil => simp at rl
    | cons _ _ => rfl
  have cnt : ∀ {ps' : List Str} (op : CmpOp) (p : Nat × Nat → Bool), True := fun _ _ => trivial
  refine exl_if ((et_or2 (a := false) (b := false) ((et_cmp (ev_name rfl) (ev_list (ds := []) .nil) (op_eq (deqn_nil 7 _))).cast (by rw [List.isEmpty_map]; exact hne)) fun _ => (et_cmp (ev_name rfl) (ev_len (by walk_at "boot") (ev_filter (xs := rows) (inj := dP) (p := fun r => decide (gN b c r < 0)) (g := dP) (ρ' := [("gain", .fn 1 (gainF b c))]) (by walk_at "side") inj_dP (ei_list (ev_name rfl) rfl) (fun r hr => ⟨_, rfl, et_cmp (ev_fcall rfl (.one (ev_name rfl)) (show gainF b c [dP r] = some (.int (gN b c r)) from rfl) (by decide)) ev_int op_lt, fun _ => ev_name rfl⟩) (by (clear cnt hne okR okL hrd hll hpl hw1 hpay hsum hw hpd hab next hw2 hqb hqs hru hdm hr hq hun hfr hwr hamt hres htb htop hle hlm hbs2 hbs1 hlay hcl hp2 hp1 hbehind2 hbehind hfirst2 hfirst hrows sta hst hsort hperm c2 b2 a2 hb hc hlow ha hcs hns hW; lia))) rfl ?_) op_nei).cast ?_)) ?_
  · rw [List.length_map]; exact Nat.le_trans (List.length_filter_le _ _) (by (clear cnt hne okR okL hrd hll hpl hw1 hpay hsum hw hpd hab next hw2 hqb hqs hru hdm hr hq hun hfr hwr hamt hres htb htop hle hlm hbs2 hbs1 hlay hcl hp2 hp1 hbehind2 hbehind hfirst2 hfirst hrows sta hst hsort hperm c2 b2 a2 hb hc hlow ha hcs hns hW; lia))
  · rw [List.length_map, hfirst2]; simp
  refine exl_if ((et_cmp (ev_name rfl) (ev_len (by walk_at "boot") (ev_filter (xs := rows) (inj := dP) (p := fun r => decide (gN b c r ≤ 0)) (g := dP) (ρ' := [("gain", .fn 1 (gainF b c))]) (by walk_at "side") inj_dP (ei_list (ev_name rfl) rfl) (fun r hr => ⟨_, rfl, et_cmp (ev_fcall rfl (.one (ev_name rfl)) (show gainF b c [dP r] = some (.int (gN b c r)) from rfl) (by decide)) ev_int op_le, fun _ => ev_name rfl⟩) (by (clear cnt hne okR okL hrd hll hpl hw1 hpay hsum hw hpd hab next hw2 hqb hqs hru hdm hr hq hun hfr hwr hamt hres htb htop hle hlm hbs2 hbs1 hlay hcl hp2 hp1 hbehind2 hbehind hfirst2 hfirst hrows sta hst hsort hperm c2 b2 a2 hb hc hlow ha hcs hns hW; lia))) rfl ?_) op_nei).cast ?_) ?_
  · rw [List.length_map]; exact Nat.le_trans (List.length_filter_le _ _) (by (clear cnt hne okR okL hrd hll hpl hw1 hpay hsum hw hpd hab next hw2 hqb hqs hru hdm hr hq hun hfr hwr hamt hres htb htop hle hlm hbs2 hbs1 hlay hcl hp2 hp1 hbehind2 hbehind hfirst2 hfirst hrows sta hst hsort hperm c2 b2 a2 hb hc hlow ha hcs hns hW; lia))
  · rw [List.length_map, hbehind2]; simp
  refine exl_lambda (t := tabL) (q := "law.<locals>.") (ρc := []) (pn := ["pair"]) (F := headF) (lf := 0)
    ⟨hW.gl, by decide, by decide, hW.c3⟩ rfl rfl (by decide) (innerOk (keys := []) (by rfl) (by decide) rfl) (fun p hp => by cases hp) (by rfl) (by walk_at "slot") (by simp) (by walk_at "nm") (fun _ => rfl) (fun vs cl pm cdv ctv hv => ?_) (by rfl) (by decide) (plainAll (by rfl)) rfl rfl ?_ rfl rfl ?_
  · match vs, hv with
    | [a], _ => rfl
  · intro ds d hF
    unfold headF at hF
    split at hF
    next x y =>
      cases hF
      exact ⟨rfl, ev_titem (k := 0) (ds := [d, y]) (ev_name rfl) ev_int rfl (by simp)⟩
    next => cases hF
  refine exl_seq (ex_swap2 (p := .lst []) (q := .lst []) (ef_list (ds := []) .nil) (ef_list (ds := []) .nil) rfl rfl (by rfl) (by walk_at "nm") (by rfl) (by walk_at "nm") (by decide) (by simp) (by simp) (fun _ => rfl) ?_) ?_
  · exact fun env h1 h2 h3 => swapped2 h1 h2 h3 (by rfl) (by decide) (by rfl) (by rfl) (by rfl)
  -- the two layings
  refine exl_sub (ρ' := [("shelf", .lst ((([], []) : Shelf).1.map dP)), ("plain", .lst ((([], []) : Shelf).2.map dN)), ("head", .fn 1 headF), ("first", .dat (.int first)), ("behind", .dat (.int behind)), ("rows", .dat (.list (rows.map dP))), ("b", .dat (.int b)), ("c", .dat (.int c)), ("a", .dat (.int a)), ("least", .dat (.list (least.map fun n : Nat => Dat.int n))), ("paid", .dat (.list (paid.map .bool))), ("cells", .dat (.list ([x0, x1, x2, x3, x4].map .int)))]) ?_ (by walk_at "sub")
  have loop1 : ∀ (ws : List Nat) (S : Shelf), True := fun _ _ => trivial
  obtain ⟨q1, q2, q3, q4, q5, q6, q7⟩ := hp1
  obtain ⟨r1, r2, r3, r4, r5, r6, r7⟩ := hp2
  have bc1 : b ≤ 1000 ∧ c ≤ 1000 := ⟨by (clear r7 r6 r5 r4 r3 r2 r1 q7 q6 q5 q4 q3 q2 q1 loop1 cnt hne okR okL hlr hrd hll hpl hw1 hpay hsum hw hpd hab next hw2 hqb hqs hru hdm hr hq hun hfr hwr hamt hres htb htop hle hlm hbs2 hbs1 hlay hcl hbehind2 hbehind hfirst2 hfirst rl hrows sta hst hsort hperm c2 a2 hb hc hlow ha hcs hns hW; lia), by (clear r7 r6 r5 r4 r3 r2 r1 q7 q6 q5 q4 q3 q2 q1 loop1 cnt hne okR okL hlr hrd hll hpl hw1 hpay hsum hw hpd hab next hw2 hqb hqs hru hdm hr hq hun hfr hwr hamt hres htb htop hle hlm hbs2 hbs1 hlay hcl hbehind2 hbehind hfirst2 hfirst rl hrows sta hst hsort hperm b2 a2 hb hc hlow ha hcs hns hW; lia)⟩
  refine exl_seq (ρ' := [("shelf", .lst (((corner s1.1 s1.2 t1.1 t1.2 b c).foldl lay1 ([], [])).1.map dP)), ("plain", .lst (((corner s1.1 s1.2 t1.1 t1.2 b c).foldl lay1 ([], [])).2.map dN)), ("head", .fn 1 headF), ("first", .dat (.int first)), ("behind", .dat (.int behind)), ("rows", .dat (.list (rows.map dP))), ("b", .dat (.int b)), ("c", .dat (.int c)), ("a", .dat (.int a)), ("least", .dat (.list (least.map fun n : Nat => Dat.int n))), ("paid", .dat (.list (paid.map .bool))), ("cells", .dat (.list ([x0, x1, x2, x3, x4].map .int)))]) (ex_for (items := (corner s1.1 s1.2 t1.1 t1.2 b c).map dN) (fun _ _ => rfl) (ei_dlist (ev_gcall (ps := [.dat (.list (rows.map dP)), .dat (.int (first - 1 + 1 : Nat)), .dat (.int b), .dat (.int c)]) (by walk_at "glb") (c_corner W P hW) (.cons rfl (ev_name rfl) (.three ((ev_name rfl).cast (by rw [Nat.sub_add_cancel q1])) (ev_name rfl) (ev_name rfl))) ⟨rows, first - 1, s1.1, s1.2, t1.1, t1.2, b, c, rfl, rfl, rl.2, q2, by rw [Nat.sub_add_cancel q1]; exact q3, q4, q5, q6, q7, bc1.1, bc1.2, rfl⟩ (by decide))) ?_ ?_) ?_
  · intro x hx
    rcases List.mem_cons.mp hx with rfl | hx
    · exact ⟨by walk_at "slot", by walk_at "nm"⟩
    · cases hx
  · have hn : (([], []) : Shelf).1.length + (corner s1.1 s1.2 t1.1 t1.2 b c).length ≤ 500 ∧ (([], []) : Shelf).2.length + (corner s1.1 s1.2 t1.1 t1.2 b c).length ≤ 500 := ⟨by simp; (clear bc1 r7 r6 r5 r4 r3 r2 r1 q7 q6 q5 q4 q3 q2 q1 loop1 cnt hne okR okL hlr hrd hll hpl hw1 hpay hsum hw hpd hab next hw2 hqb hqs hru hdm hr hq hun hfr hwr hamt hres htb htop hle hlm hbs2 hbs1 hlay hbehind2 hbehind hfirst2 hfirst rl hrows sta hst hsort hperm c2 b2 a2 hb hc hlow ha hcs hns hW; lia), by simp; (clear bc1 r7 r6 r5 r4 r3 r2 r1 q7 q6 q5 q4 q3 q2 q1 loop1 cnt hne okR okL hlr hrd hll hpl hw1 hpay hsum hw hpd hab next hw2 hqb hqs hru hdm hr hq hun hfr hwr hamt hres htb htop hle hlm hbs2 hbs1 hlay hbehind2 hbehind hfirst2 hfirst rl hrows sta hst hsort hperm c2 b2 a2 hb hc hlow ha hcs hns hW; lia)⟩
    clear hlay hcl
    revert hn
    generalize corner s1.1 s1.2 t1.1 t1.2 b c = ws
    generalize (([], []) : Shelf) = S
    intro hn
    induction ws generalizing S with
    | nil => exact .nil
    | cons w ws ih =>
      simp only [List.length_cons] at hn
      have l1 : (shR S.1 (w, 0)).length = S.1.length + 1 := insBy_length _ _ _
      have l2 : (plL S.2 w).length = S.2.length + 1 := insBy_length _ _ _
      refine ForR.cons (d := dN w) (bs := [("w", .dat (dN w))]) (ρ' := [("shelf", .lst ((lay1 S w).1.map dP)), ("plain", .lst ((lay1 S w).2.map dN)), ("head", .fn 1 headF), ("first", .dat (.int first)), ("behind", .dat (.int behind)), ("rows", .dat (.list (rows.map dP))), ("b", .dat (.int b)), ("c", .dat (.int c)), ("a", .dat (.int a)), ("least", .dat (.list (least.map fun n : Nat => Dat.int n))), ("paid", .dat (.list (paid.map .bool))), ("cells", .dat (.list ([x0, x1, x2, x3, x4].map .int)))]) rfl ?_ (ih (lay1 S w) ⟨by show (shR S.1 (w, 0)).length + _ ≤ _; (clear l2 ih bc1 r7 r6 r5 r4 r3 r2 r1 q7 q6 q5 q4 q3 q2 q1 loop1 cnt hne okR okL hlr hrd hll hpl hw1 hpay hsum hw hpd hab next hw2 hqb hqs hru hdm hr hq hun hfr hwr hamt hres htb htop hle hlm hbs2 hbs1 hbehind2 hbehind hfirst2 hfirst rl hrows sta hst hsort hperm c2 b2 a2 hb hc hlow ha hcs hns hW; lia), by show (plL S.2 w).length + _ ≤ _; (clear l1 ih bc1 r7 r6 r5 r4 r3 r2 r1 q7 q6 q5 q4 q3 q2 q1 loop1 cnt hne okR okL hlr hrd hll hpl hw1 hpay hsum hw hpd hab next hw2 hqb hqs hru hdm hr hq hun hfr hwr hamt hres htb htop hle hlm hbs2 hbs1 hbehind2 hbehind hfirst2 hfirst rl hrows sta hst hsort hperm c2 b2 a2 hb hc hlow ha hcs hns hW; lia)⟩)
      refine ex_seq (ex_expr (evm_insk (by walk_at "glb") (c_iR W P hW 10) rfl (.one (ev_tup2 (ev_name rfl) ev_int)) (ev_name rfl) (ir_head S.1 (w, 0) (by (clear l2 ih bc1 r7 r6 r5 r4 r3 r2 r1 q7 q6 q5 q4 q3 q2 q1 loop1 cnt hne okR okL hlr hrd hll hpl hw1 hpay hsum hw hpd hab next hw2 hqb hqs hru hdm hr hq hun hfr hwr hamt hres htb htop hle hlm hbs2 hbs1 hbehind2 hbehind hfirst2 hfirst rl hrows sta hst hsort hperm c2 b2 a2 hb hc hlow ha hcs hns hW; lia))) (by decide))) ?_
      exact ex_last (ex_expr (evm_ins (by walk_at "glb") (c_iL W P hW 10) rfl (.one (ev_name rfl)) (il_plain S.2 w (by (clear l1 ih bc1 r7 r6 r5 r4 r3 r2 r1 q7 q6 q5 q4 q3 q2 q1 loop1 cnt hne okR okL hlr hrd hll hpl hw1 hpay hsum hw hpd hab next hw2 hqb hqs hru hdm hr hq hun hfr hwr hamt hres htb htop hle hlm hbs2 hbs1 hbehind2 hbehind hfirst2 hfirst rl hrows sta hst hsort hperm c2 b2 a2 hb hc hlow ha hcs hns hW; lia))) (by decide))) ⟨rfl, rfl, rfl, rfl, rfl, rfl, rfl, rfl, rfl, rfl, rfl, rfl, trivial⟩
  refine exl_seq (ρ' := [("shelf", .lst (((corner s2.1 s2.2 t2.1 t2.2 b c).foldl lay2 ((corner s1.1 s1.2 t1.1 t1.2 b c).foldl lay1 ([], []))).1.map dP)), ("plain", .lst (((corner s2.1 s2.2 t2.1 t2.2 b c).foldl lay2 ((corner s1.1 s1.2 t1.1 t1.2 b c).foldl lay1 ([], []))).2.map dN)), ("head", .fn 1 headF), ("first", .dat (.int first)), ("behind", .dat (.int behind)), ("rows", .dat (.list (rows.map dP))), ("b", .dat (.int b)), ("c", .dat (.int c)), ("a", .dat (.int a)), ("least", .dat (.list (least.map fun n : Nat => Dat.int n))), ("paid", .dat (.list (paid.map .bool))), ("cells", .dat (.list ([x0, x1, x2, x3, x4].map .int)))]) (ex_for (items := (corner s2.1 s2.2 t2.1 t2.2 b c).map dN) (fun _ _ => rfl) (ei_dlist (ev_gcall (ps := [.dat (.list (rows.map dP)), .dat (.int (behind - 1 + 1 : Nat)), .dat (.int b), .dat (.int c)]) (by walk_at "glb") (c_corner W P hW) (.cons rfl (ev_name rfl) (.three ((ev_name rfl).cast (by rw [Nat.sub_add_cancel r1])) (ev_name rfl) (ev_name rfl))) ⟨rows, behind - 1, s2.1, s2.2, t2.1, t2.2, b, c, rfl, rfl, rl.2, r2, by rw [Nat.sub_add_cancel r1]; exact r3, r4, r5, r6, r7, bc1.1, bc1.2, rfl⟩ (by decide))) ?_ ?_) ?_
  · intro x hx
    rcases List.mem_cons.mp hx with rfl | hx
    · exact ⟨by walk_at "slot", by walk_at "nm"⟩
    · cases hx
  · have f1 : ∀ (ws : List Nat) (S : Shelf), (ws.foldl lay1 S).1.length = S.1.length + ws.length ∧ (ws.foldl lay1 S).2.length = S.2.length + ws.length := by
      intro ws
      induction ws with
      | nil => intro S; exact ⟨rfl, rfl⟩
      | cons w ws ih =>
        intro S
        have l1 : (lay1 S w).1.length = S.1.length + 1 := insBy_length _ _ _
        have l2 : (lay1 S w).2.length = S.2.length + 1 := insBy_length _ _ _
        obtain ⟨i1, i2⟩ := ih (lay1 S w)
        rw [List.foldl_cons, List.length_cons]
        exact ⟨by (clear i2 l2 ih bc1 r7 r6 r5 r4 r3 r2 r1 q7 q6 q5 q4 q3 q2 q1 loop1 cnt hne okR okL hlr hrd hll hpl hw1 hpay hsum hw hpd hab next hw2 hqb hqs hru hdm hr hq hun hfr hwr hamt hres htb htop hle hlm hbs2 hbs1 hlay hcl hbehind2 hbehind hfirst2 hfirst rl hrows sta hst hsort hperm c2 b2 a2 hb hc hlow ha hcs hns hW; lia), by (clear i1 l1 ih bc1 r7 r6 r5 r4 r3 r2 r1 q7 q6 q5 q4 q3 q2 q1 loop1 cnt hne okR okL hlr hrd hll hpl hw1 hpay hsum hw hpd hab next hw2 hqb hqs hru hdm hr hq hun hfr hwr hamt hres htb htop hle hlm hbs2 hbs1 hlay hcl hbehind2 hbehind hfirst2 hfirst rl hrows sta hst hsort hperm c2 b2 a2 hb hc hlow ha hcs hns hW; lia)⟩
    obtain ⟨g1, g2⟩ := f1 (corner s1.1 s1.2 t1.1 t1.2 b c) ([], [])
    have hn : ((corner s1.1 s1.2 t1.1 t1.2 b c).foldl lay1 ([], [])).1.length + 2 * (corner s2.1 s2.2 t2.1 t2.2 b c).length ≤ 500 ∧ ((corner s1.1 s1.2 t1.1 t1.2 b c).foldl lay1 ([], [])).2.length + (corner s2.1 s2.2 t2.1 t2.2 b c).length ≤ 500 := by
      rw [g1, g2]; simp; (clear f1 bc1 r7 r6 r5 r4 r3 r2 r1 q7 q6 q5 q4 q3 q2 q1 loop1 cnt hne okR okL hlr hrd hll hpl hw1 hpay hsum hw hpd hab next hw2 hqb hqs hru hdm hr hq hun hfr hwr hamt hres htb htop hle hlm hbs2 hbs1 hlay hbehind2 hbehind hfirst2 hfirst rl hrows sta hst hsort hperm c2 b2 a2 hb hc hlow ha hcs hns hW; lia)
    clear hlay hcl g1 g2 f1
    revert hn
    generalize corner s2.1 s2.2 t2.1 t2.2 b c = ws
    generalize (corner s1.1 s1.2 t1.1 t1.2 b c).foldl lay1 ([], []) = S
    intro hn
    induction ws generalizing S with
    | nil => exact .nil
    | cons w ws ih =>
      simp only [List.length_cons] at hn
      have l1 : (shL S.1 (w, 1)).length = S.1.length + 1 := insBy_length _ _ _
      have l2 : (shR (shL S.1 (w, 1)) (w, 2)).length = (shL S.1 (w, 1)).length + 1 := insBy_length _ _ _
      have l3 : (plR S.2 w).length = S.2.length + 1 := insBy_length _ _ _
      refine ForR.cons (d := dN w) (bs := [("w", .dat (dN w))]) (ρ' := [("shelf", .lst ((lay2 S w).1.map dP)), ("plain", .lst ((lay2 S w).2.map dN)), ("head", .fn 1 headF), ("first", .dat (.int first)), ("behind", .dat (.int behind)), ("rows", .dat (.list (rows.map dP))), ("b", .dat (.int b)), ("c", .dat (.int c)), ("a", .dat (.int a)), ("least", .dat (.list (least.map fun n : Nat => Dat.int n))), ("paid", .dat (.list (paid.map .bool))), ("cells", .dat (.list ([x0, x1, x2, x3, x4].map .int)))]) rfl ?_ (ih (lay2 S w) ⟨by show (shR (shL S.1 (w, 1)) (w, 2)).length + _ ≤ _; (clear l3 ih bc1 r7 r6 r5 r4 r3 r2 r1 q7 q6 q5 q4 q3 q2 q1 loop1 cnt hne okR okL hlr hrd hll hpl hw1 hpay hsum hw hpd hab next hw2 hqb hqs hru hdm hr hq hun hfr hwr hamt hres htb htop hle hlm hbs2 hbs1 hbehind2 hbehind hfirst2 hfirst rl hrows sta hst hsort hperm c2 b2 a2 hb hc hlow ha hcs hns hW; lia), by show (plR S.2 w).length + _ ≤ _; (clear l2 l1 ih bc1 r7 r6 r5 r4 r3 r2 r1 q7 q6 q5 q4 q3 q2 q1 loop1 cnt hne okR okL hlr hrd hll hpl hw1 hpay hsum hw hpd hab next hw2 hqb hqs hru hdm hr hq hun hfr hwr hamt hres htb htop hle hlm hbs2 hbs1 hbehind2 hbehind hfirst2 hfirst rl hrows sta hst hsort hperm c2 b2 a2 hb hc hlow ha hcs hns hW; lia)⟩)
      refine ex_seq (ex_expr (evm_insk (by walk_at "glb") (c_iL W P hW 10) rfl (.one (ev_tup2 (ev_name rfl) ev_int)) (ev_name rfl) (il_head S.1 (w, 1) (by (clear l3 ih bc1 r7 r6 r5 r4 r3 r2 r1 q7 q6 q5 q4 q3 q2 q1 loop1 cnt hne okR okL hlr hrd hll hpl hw1 hpay hsum hw hpd hab next hw2 hqb hqs hru hdm hr hq hun hfr hwr hamt hres htb htop hle hlm hbs2 hbs1 hbehind2 hbehind hfirst2 hfirst rl hrows sta hst hsort hperm c2 b2 a2 hb hc hlow ha hcs hns hW; lia))) (by decide))) ?_
      refine ex_seq (ex_expr (evm_insk (by walk_at "glb") (c_iR W P hW 10) rfl (.one (ev_tup2 (ev_name rfl) ev_int)) (ev_name rfl) (ir_head (shL S.1 (w, 1)) (w, 2) (by (clear l3 ih bc1 r7 r6 r5 r4 r3 r2 r1 q7 q6 q5 q4 q3 q2 q1 loop1 cnt hne okR okL hlr hrd hll hpl hw1 hpay hsum hw hpd hab next hw2 hqb hqs hru hdm hr hq hun hfr hwr hamt hres htb htop hle hlm hbs2 hbs1 hbehind2 hbehind hfirst2 hfirst rl hrows sta hst hsort hperm c2 b2 a2 hb hc hlow ha hcs hns hW; lia))) (by decide))) ?_
      exact ex_last (ex_expr (evm_ins (by walk_at "glb") (c_iR W P hW 10) rfl (.one (ev_name rfl)) (ir_plain S.2 w (by (clear l2 l1 ih bc1 r7 r6 r5 r4 r3 r2 r1 q7 q6 q5 q4 q3 q2 q1 loop1 cnt hne okR okL hlr hrd hll hpl hw1 hpay hsum hw hpd hab next hw2 hqb hqs hru hdm hr hq hun hfr hwr hamt hres htb htop hle hlm hbs2 hbs1 hbehind2 hbehind hfirst2 hfirst rl hrows sta hst hsort hperm c2 b2 a2 hb hc hlow ha hcs hns hW; lia))) (by decide))) ⟨rfl, rfl, rfl, rfl, rfl, rfl, rfl, rfl, rfl, rfl, rfl, rfl, trivial⟩
  rw [hlay]
  refine exl_freeze (x := "shelf") rfl (exl_freeze (x := "plain") rfl ?_)
  subst hpd
  exact exl_sub next ⟨rfl, rfl, rfl, rfl, rfl, rfl, trivial⟩
end
section
theorem law_walkB (W : Wd) (P : Params) (hW : WL W P) (ns : List Int) (f : F1 ns) (next : EXL W 200 scLaw2 (namesC f) (execs ((bodyOf (fdOf (Mine.hd.heap_39 P) 131)).drop 19)) (.bool true)) : EXL W 200 scLaw2 (namesB f) (execs ((bodyOf (fdOf (Mine.hd.heap_39 P) 131)).drop 14)) (.bool true) := by
  unfold namesC at next
  unfold namesB
  obtain ⟨x0, x1, x2, x3, x4, hcs, a, low, b, c, ha, hlow, hc, hb, a2, b2, c2, w, hw, least, hperm, hsort, st, hst, sta, rows, hrows, rl, first, behind, hfirst, hfirst2, hbehind, hbehind2, s1, t1, s2, t2, hp1, hp2, hcl, hlay, hbs1, hbs2, lmax, hlm, hle, top, htop, htb, hres, hsum, amount, hamt, wr, hwr, hpay, fr, un, hfr, hun, q, r, hq, hr, hdm, hru, hqs, hqb, hw1, hw2⟩ := f
  dsimp only at next
  refine exl_sub (ρ' := [("shelf", .dat (.list ((least.flatMap fun w => [(w, 1), (w, 0), (w, 2)]).map dP))), ("plain", .dat (.list ((least.flatMap fun w => [w, w]).map dN))), ("a", .dat (.int a)), ("least", .dat (.list (least.map dN))), ("paid", .dat (.list ((paidL [a, b, c] (a * b + 9)).map .bool))), ("cells", .dat (.list ([x0, x1, x2, x3, x4].map .int)))]) ?_ ⟨rfl, rfl, rfl, rfl, rfl, rfl, trivial⟩
  show EXL _ _ _ _ (execs (_ :: _)) _
  have hab : a * b ≤ 9 * 20 := Nat.mul_le_mul a2.2 b2.2
  generalize hpd : paidL [a, b, c] (a * b + 9) = paid at hw hsum hpay hw1
  have hpl : paid.length = a * b + 9 := by rw [← hpd, paidL_length]
  have hll : least.length = a := by rw [hperm.length_eq, List.length_map, List.length_range]
  have hsh : (least.flatMap fun w => [(w, 1), (w, 0), (w, 2)]).map dP = least.flatMap fun w => ([1, 0, 2] : List Nat).flatMap fun m => [dP (w, m)] := by
    rw [List.map_flatMap]; rfl
  have hpl2 : (least.flatMap fun w => [w, w]).map dN = least.flatMap fun w => (List.range 2).flatMap fun _ => [dN w] := by
    rw [List.map_flatMap]; rfl
  have flen : ∀ (l : List Nat) (f : Nat → List Dat) (n : Nat), (∀ x, (f x).length = n) → (l.flatMap f).length = l.length * n := by
    intro l f n h
    induction l with
    | nil => simp
    | cons x l ih => rw [List.flatMap_cons, List.length_append, h, ih, List.length_cons, Nat.succ_mul, Nat.add_comm]
  refine exl_if (et_or2 (a := false) (b := false) ((et_cmp (ev_name rfl) (ev_cmap (xs := least) (inj := dN) (out := fun w => ([1, 0, 2] : List Nat).flatMap fun m => [dP (w, m)]) (ρ' := []) (by walk_at "side") inj_nat (ei_list (ev_name rfl) rfl) (fun w hw => ⟨[("w", .dat (dN w))], true, rfl, .nil, fun _ => cb_cmap (xs := ([1, 0, 2] : List Nat)) (inj := dN) (fun _ _ => rfl) (dis1 (by rfl)) inj_nat (ei_tuple (ev_tup3 ev_int ev_int ev_int)) (cmap_map (g := fun m => dP (w, m)) fun m hm => ⟨[("mark", .dat (dN m))], rfl, ev_tup2 (ev_name rfl) (ev_name rfl)⟩), fun e => by cases e⟩) ?_) (op_ne (b := true) ?_)).cast rfl) fun _ => (et_cmp (ev_name rfl) (ev_cmap (xs := least) (inj := dN) (out := fun w => (List.range 2).flatMap fun _ => [dN w]) (ρ' := []) (by walk_at "side") inj_nat (ei_list (ev_name rfl) rfl) (fun w hw => ⟨[("w", .dat (dN w))], true, rfl, .nil, fun _ => cb_cmap (xs := List.range 2) (inj := dN) (fun _ _ => rfl) (dis1 (by rfl)) inj_nat (ei_rangeN (by walk_at "boot") ev_int) (cmap_map (g := fun _ => dN w) fun m hm => ⟨[("turn", .dat (dN m))], rfl, ev_name rfl⟩), fun e => by cases e⟩) ?_) (op_ne (b := true) ?_)).cast rfl) ?_
  · rw [flen _ _ 3 (fun _ => rfl)]; (clear flen hpl2 hsh hpl hw1 hpay hsum hw hpd hab next hw2 hqb hqs hru hdm hr hq hun hfr hwr hamt hres htb htop hle hlm hbs2 hbs1 hlay hcl hp2 hp1 hbehind2 hbehind hfirst2 hfirst rl hrows sta hst hsort hperm c2 b2 hb hc hlow ha hcs hW; lia)
  · rw [hsh]; exact deqn_list fun d hd => by
      obtain ⟨w, _, hd⟩ := List.mem_flatMap.mp hd
      obtain ⟨m, _, hd⟩ := List.mem_flatMap.mp hd
      rw [List.mem_singleton.mp hd]; exact deqn_dP _ _
  · rw [flen _ _ 2 (fun _ => rfl)]; (clear flen hpl2 hsh hpl hw1 hpay hsum hw hpd hab next hw2 hqb hqs hru hdm hr hq hun hfr hwr hamt hres htb htop hle hlm hbs2 hbs1 hlay hcl hp2 hp1 hbehind2 hbehind hfirst2 hfirst rl hrows sta hst hsort hperm c2 b2 hb hc hlow ha hcs hW; lia)
  · rw [hpl2]; exact deqn_list fun d hd => by
      obtain ⟨w, _, hd⟩ := List.mem_flatMap.mp hd
      obtain ⟨m, _, hd⟩ := List.mem_flatMap.mp hd
      rw [List.mem_singleton.mp hd]; exact deqn_dN _ _
  refine exl_sub (ρ' := [("a", .dat (.int a)), ("least", .dat (.list (least.map dN))), ("paid", .dat (.list (paid.map .bool))), ("cells", .dat (.list ([x0, x1, x2, x3, x4].map .int)))]) ?_ (by walk_at "sub")
  have hml : (least.map dN).length = a := by rw [List.length_map, hll]
  have itemL : ∀ {k : Nat}, k < a → seqAt (least.map dN) (k : Int) = some (dN (least.getD k 0)) := fun h => seqAt_nat (getD_dN (by (clear flen hpl2 hsh hpl hw1 hpay hsum hw hpd hab next hw2 hqb hqs hru hdm hr hq hun hfr hwr hamt hres htb htop hle hlm hbs2 hbs1 hlay hcl hp2 hp1 hbehind2 hbehind hfirst2 hfirst rl hrows sta hst hsort hperm c2 b2 a2 hb hc hlow ha hcs hW; lia)))
  refine exl_seq (exa_map (xs := List.range a) (inj := dN) (g := fun k => dP (k, k + 1)) (ρ' := [("least", .dat (.list (least.map dN)))]) (by walk_at "side") inj_nat (ei_rangeN (by walk_at "boot") (ev_name rfl)).up (fun k hk => ⟨[("k", .dat (dN k))], rfl, ?_⟩) (by simp; (clear itemL flen hpl2 hsh hpl hw1 hpay hsum hw hpd hab next hw2 hqb hqs hru hdm hr hq hun hfr hwr hamt hres htb htop hle hlm hbs2 hbs1 hlay hcl hp2 hp1 hbehind2 hbehind hfirst2 hfirst rl hrows sta hst hsort hperm c2 b2 hb hc hlow ha hcs hW; lia)) (by walk_at "slot") (by walk_at "nm")) ?_
  · have hk : k < a := List.mem_range.mp hk
    refine ev_tup2 (a := .int k) (b := .int (k + 1 : Nat)) (ev_gcall (by walk_at "glb") (c_bR W P hW 10) (.cons rfl (ev_name rfl) (.three (ev_item (ev_name rfl) rfl (ev_name rfl) (itemL hk) (by (clear hk itemL flen hpl2 hsh hpl hw1 hpay hsum hw hpd hab next hw2 hqb hqs hru hdm hr hq hun hfr hwr hamt hres htb htop hle hlm hbs2 hbs1 hlay hcl hp2 hp1 hbehind2 hbehind hfirst2 hfirst rl hrows sta hst hsort hperm c2 b2 hb hc hlow ha hcs hW; lia))) ev_int (ev_name rfl))) ⟨_, _, _, rfl, rfl, dN (least.getD k 0), 0, dN k, k, .dat .none, fun m => decide (least.getD k 0 < least.getD m 0), .a3 0 _, ⟨.inr rfl, by (clear itemL flen hpl2 hsh hpl hw1 hpay hsum hw hpd hab next hw2 hqb hqs hru hdm hr hq hun hfr hwr hamt hres htb htop hle hlm hbs2 hbs1 hlay hcl hp2 hp1 hbehind2 hbehind hfirst2 hfirst rl hrows sta hst hsort hperm c2 b2 a2 hb hc hlow ha hcs hW; lia), by (clear hk itemL flen hpl2 hsh hpl hw1 hpay hsum hw hpd hab next hw2 hqb hqs hru hdm hr hq hun hfr hwr hamt hres htb htop hle hlm hbs2 hbs1 hlay hcl hp2 hp1 hbehind2 hbehind hfirst2 hfirst rl hrows sta hst hsort hperm c2 b2 hb hc hlow ha hcs hW; lia), .inl rfl, fun m hm => ⟨_, _, getD_dN (by (clear hk itemL flen hpl2 hsh hpl hw1 hpay hsum hw hpd hab next hw2 hqb hqs hru hdm hr hq hun hfr hwr hamt hres htb htop hle hlm hbs2 hbs1 hlay hcl hp2 hp1 hbehind2 hbehind hfirst2 hfirst rl hrows sta hst hsort hperm c2 b2 a2 hb hc hlow ha hcs hW; lia)), rfl, congrArg some (decN _ _)⟩⟩, by rw [hbs1 k hk]⟩ (by decide)) (ev_gcall (by walk_at "glb") (c_bL W P hW 10) (.three (ev_name rfl) (ev_item (ev_name rfl) rfl (ev_name rfl) (itemL hk) (by (clear hk itemL flen hpl2 hsh hpl hw1 hpay hsum hw hpd hab next hw2 hqb hqs hru hdm hr hq hun hfr hwr hamt hres htb htop hle hlm hbs2 hbs1 hlay hcl hp2 hp1 hbehind2 hbehind hfirst2 hfirst rl hrows sta hst hsort hperm c2 b2 hb hc hlow ha hcs hW; lia))) ((ev_bin (ev_name rfl) ev_int op_add).cast (pv' := .dat (dN (k + 1))) (by push_cast; rfl))) ⟨_, _, _, rfl, rfl, dN (least.getD k 0), k + 1, .none, a, .dat .none, fun m => !decide (least.getD m 0 < least.getD k 0), .a2 (k + 1), ⟨.inl ⟨rfl, hml.symm⟩, by (clear hk itemL flen hpl2 hsh hpl hw1 hpay hsum hw hpd hab next hw2 hqb hqs hru hdm hr hq hun hfr hwr hamt hres htb htop hle hlm hbs2 hbs1 hlay hcl hp2 hp1 hbehind2 hbehind hfirst2 hfirst rl hrows sta hst hsort hperm c2 b2 a2 hb hc hlow ha hcs hW; lia), by (clear hk itemL flen hpl2 hsh hpl hw1 hpay hsum hw hpd hab next hw2 hqb hqs hru hdm hr hq hun hfr hwr hamt hres htb htop hle hlm hbs2 hbs1 hlay hcl hp2 hp1 hbehind2 hbehind hfirst2 hfirst rl hrows sta hst hsort hperm c2 b2 hb hc hlow ha hcs hW; lia), .inl rfl, fun m hm => ⟨_, _, getD_dN (by (clear hk itemL flen hpl2 hsh hpl hw1 hpay hsum hw hpd hab next hw2 hqb hqs hru hdm hr hq hun hfr hwr hamt hres htb htop hle hlm hbs2 hbs1 hlay hcl hp2 hp1 hbehind2 hbehind hfirst2 hfirst rl hrows sta hst hsort hperm c2 b2 a2 hb hc hlow ha hcs hW; lia)), rfl, congrArg (fun b => some (!b)) (decN _ _)⟩⟩, by rw [hbs2 k hk]⟩ (by decide))
  refine exl_if ((et_cmp (ev_name rfl) (ev_map (xs := List.range a) (inj := dN) (g := fun k => dP (k, k + 1)) (ρ' := []) (by walk_at "side") inj_nat (ei_rangeN (by walk_at "boot") (ev_name rfl)).up (fun k hk => ⟨[("k", .dat (dN k))], rfl, ev_tup2 (ev_name rfl) ((ev_bin (ev_name rfl) ev_int op_add).cast (by push_cast; rfl))⟩) (by simp; (clear itemL flen hpl2 hsh hpl hw1 hpay hsum hw hpd hab next hw2 hqb hqs hru hdm hr hq hun hfr hwr hamt hres htb htop hle hlm hbs2 hbs1 hlay hcl hp2 hp1 hbehind2 hbehind hfirst2 hfirst rl hrows sta hst hsort hperm c2 b2 hb hc hlow ha hcs hW; lia))) (op_ne (b := true) (deqn_map 7 _ _ fun x => deqn_dP 6 _))).cast rfl) ?_
  refine exl_seq (ex_assign (d := dN top) ((ev_bin (ev_item (ev_name rfl) rfl (ev_un ev_int op_neg) hlm (by (clear itemL flen hpl2 hsh hpl hw1 hpay hsum hw hpd hab next hw2 hqb hqs hru hdm hr hq hun hfr hwr hamt hres htb htop hle hlm hbs2 hbs1 hlay hcl hp2 hp1 hbehind2 hbehind hfirst2 hfirst rl hrows sta hst hsort hperm c2 b2 hb hc hlow ha hcs hW; lia))) (ev_bin (ev_item (k := 3) (d := .int x3) (ev_name rfl) rfl ev_int rfl (by simp)) ev_int (op_mod (by decide))) op_add).cast (by rw [htop])) (by walk_at "slot") (by walk_at "nm")) ?_
  have hdm : ∀ x y : Int, -1000 ≤ x → x ≤ 1000 → y ≠ 0 → -1000 ≤ y → y ≤ 1000 → DmOk x y := fun x y h1 h2 h3 h4 h5 => DmOk.small h3 (Nat.le_trans (intBits_le_64 (by (clear h5 h4 h3 itemL hml flen hpl2 hsh hll hpl hw1 hpay hsum hw hpd hab next hw2 hqb hqs hru hdm hr hq hun hfr hwr hamt hres htb htop hle hlm hbs2 hbs1 hlay hcl hp2 hp1 hbehind2 hbehind hfirst2 hfirst rl hrows sta hst hsort hperm c2 b2 a2 hb hc hlow ha hcs hW; lia)) (by (clear h5 h4 h3 itemL hml flen hpl2 hsh hll hpl hw1 hpay hsum hw hpd hab next hw2 hqb hqs hru hdm hr hq hun hfr hwr hamt hres htb htop hle hlm hbs2 hbs1 hlay hcl hp2 hp1 hbehind2 hbehind hfirst2 hfirst rl hrows sta hst hsort hperm c2 b2 a2 hb hc hlow ha hcs hW; lia))) (by decide)) (intBits_le_64 (by (clear h3 h2 h1 itemL hml flen hpl2 hsh hll hpl hw1 hpay hsum hw hpd hab next hw2 hqb hqs hru hdm hr hq hun hfr hwr hamt hres htb htop hle hlm hbs2 hbs1 hlay hcl hp2 hp1 hbehind2 hbehind hfirst2 hfirst rl hrows sta hst hsort hperm c2 b2 a2 hb hc hlow ha hcs hW; lia)) (by (clear h3 h2 h1 itemL hml flen hpl2 hsh hll hpl hw1 hpay hsum hw hpd hab next hw2 hqb hqs hru hdm hr hq hun hfr hwr hamt hres htb htop hle hlm hbs2 hbs1 hlay hcl hp2 hp1 hbehind2 hbehind hfirst2 hfirst rl hrows sta hst hsort hperm c2 b2 a2 hb hc hlow ha hcs hW; lia)))
  have hwb : ∀ x ∈ least, x ≤ 200 := fun x hx => by have := hle x hx; have := Int.fmod_nonneg_of_pos x3 (b := 6) (by decide); (clear hx hdm itemL hml flen hpl2 hsh hll hw1 hpay hsum hw hpd next hw2 hqb hqs hru hr hq hun hfr hwr hamt hres hle hlm hbs2 hbs1 hlay hcl hp2 hp1 hbehind2 hbehind hfirst2 hfirst rl hrows sta hst hsort hperm c2 b2 a2 hb hc hlow ha hcs hW; lia)
  refine exl_seq (exa_map (xs := least) (inj := dN) (g := fun w => dP (w / a, w % a)) (ρ' := [("a", .dat (.int a))]) (by walk_at "side") inj_nat (ei_list (ev_name rfl) rfl) (fun w hw => ⟨[("w", .dat (dN w))], rfl, (ev_gcall (by walk_at "glb") (c_dm W P hW) (.two (ev_name rfl) (ev_name rfl)) ⟨w, a, rfl, rfl, hdm _ _ (by (clear hw hwb hdm itemL hml flen hpl2 hsh hll hpl hw1 hpay hsum hpd hab next hw2 hqb hqs hru hr hq hun hfr hwr hamt hres htb htop hle hlm hbs2 hbs1 hlay hcl hp2 hp1 hbehind2 hbehind hfirst2 hfirst rl hrows sta hst hsort hperm c2 b2 a2 hb hc hlow ha hcs hW; lia)) (by have := hwb w hw; (clear hw hwb hdm itemL hml flen hpl2 hsh hll hpl hw1 hpay hsum hpd hab next hw2 hqb hqs hru hr hq hun hfr hwr hamt hres htb htop hle hlm hbs2 hbs1 hlay hcl hp2 hp1 hbehind2 hbehind hfirst2 hfirst rl hrows sta hst hsort hperm c2 b2 a2 hb hc hlow ha hcs hW; lia)) (by (clear hw hwb hdm itemL flen hpl2 hsh hpl hw1 hpay hsum hpd hab next hw2 hqb hqs hru hr hq hun hfr hwr hamt hres htb htop hle hlm hbs2 hbs1 hlay hcl hp2 hp1 hbehind2 hbehind hfirst2 hfirst rl hrows sta hst hsort hperm c2 b2 hb hc hlow ha hcs hW; lia)) (by (clear hw hwb hdm itemL flen hpl2 hsh hpl hw1 hpay hsum hpd hab next hw2 hqb hqs hru hr hq hun hfr hwr hamt hres htb htop hle hlm hbs2 hbs1 hlay hcl hp2 hp1 hbehind2 hbehind hfirst2 hfirst rl hrows sta hst hsort hperm c2 b2 hb hc hlow ha hcs hW; lia)) (by (clear hw hwb hdm itemL flen hpl2 hsh hpl hw1 hpay hsum hpd hab next hw2 hqb hqs hru hr hq hun hfr hwr hamt hres htb htop hle hlm hbs2 hbs1 hlay hcl hp2 hp1 hbehind2 hbehind hfirst2 hfirst rl hrows sta hst hsort hperm c2 b2 hb hc hlow ha hcs hW; lia)), rfl⟩ (by decide)).cast ?_⟩) (by (clear hwb hdm itemL flen hpl2 hsh hpl hw1 hpay hsum hw hpd hab next hw2 hqb hqs hru hr hq hun hfr hwr hamt hres htb htop hle hlm hbs2 hbs1 hlay hcl hp2 hp1 hbehind2 hbehind hfirst2 hfirst rl hrows sta hst hsort hperm c2 b2 hb hc hlow ha hcs hW; lia)) (by walk_at "slot") (by walk_at "nm")) ?_
  · rw [fmod_nat, Int.fdiv_eq_ediv_of_nonneg _ (Int.natCast_nonneg _)]; rfl
  subst hpd
  exact exl_sub next (by walk_at "sub")
end
section
noncomputable def namesD {ns : List Int} (f : F1 ns) : Names := [("top", .dat (dN f.top)), ("a", .dat (.int f.a)), ("least", .dat (.list (f.least.map dN))), ("paid", .dat (.list ((paidL [f.a, f.b, f.c] (f.a * f.b + 9)).map .bool))), ("cells", .dat (.list ([f.x0, f.x1, f.x2, f.x3, f.x4].map .int)))]
theorem deqn_eqL (k : Nat) {l l' : List Dat} (e : l = l') (h : ∀ d ∈ l, deqn k d d = some true) : deqn (k + 1) (.list l) (.list l') = some true := by
  subst e; exact deqn_list h
theorem law_walkC (W : Wd) (P : Params) (hW : WL W P) (ns : List Int) (f : F1 ns) (next : EXL W 200 scLaw2 (namesD f) (execs ((bodyOf (fdOf (Mine.hd.heap_39 P) 131)).drop 25)) (.bool true)) : EXL W 200 scLaw2 (namesC f) (execs ((bodyOf (fdOf (Mine.hd.heap_39 P) 131)).drop 19)) (.bool true) := by
  unfold namesD at next
  unfold namesC
  obtain ⟨x0, x1, x2, x3, x4, hcs, a, low, b, c, ha, hlow, hc, hb, a2, b2, c2, w, hw, least, hperm, hsort, st, hst, sta, rows, hrows, rl, first, behind, hfirst, hfirst2, hbehind, hbehind2, s1, t1, s2, t2, hp1, hp2, hcl, hlay, hbs1, hbs2, lmax, hlm, hle, top, htop, htb, hres, hsum, amount, hamt, wr, hwr, hpay, fr, un, hfr, hun, q, r, hq, hr, hdm, hru, hqs, hqb, hw1, hw2⟩ := f
  dsimp only at next
  refine exl_sub (ρ' := [("shares", .dat (.list ((least.map fun w => (w / a, w % a)).map dP))), ("top", .dat (dN top)), ("a", .dat (.int a)), ("least", .dat (.list (least.map dN))), ("paid", .dat (.list ((paidL [a, b, c] (a * b + 9)).map .bool))), ("cells", .dat (.list ([x0, x1, x2, x3, x4].map .int)))]) ?_ ⟨by rw [List.map_map]; rfl, rfl, rfl, rfl, rfl, rfl, trivial⟩
  show EXL _ _ _ _ (execs (_ :: _)) _
  have hab : a * b ≤ 9 * 20 := Nat.mul_le_mul a2.2 b2.2
  generalize hpd : paidL [a, b, c] (a * b + 9) = paid at hw hsum hpay hw1
  have hpl : paid.length = a * b + 9 := by rw [← hpd, paidL_length]
  have hll : least.length = a := by rw [hperm.length_eq, List.length_map, List.length_range]
  have hml : (least.map dN).length = a := by rw [List.length_map, hll]
  have hdm2 : ∀ x y : Int, -1000 ≤ x → x ≤ 1000 → y ≠ 0 → -1000 ≤ y → y ≤ 1000 → DmOk x y := fun x y h1 h2 h3 h4 h5 => DmOk.small h3 (Nat.le_trans (intBits_le_64 (by (clear h5 h4 h3 hml hll hpl hw1 hpay hsum hw hpd hab next hw2 hqb hqs hru hdm hr hq hun hfr hwr hamt hres htb htop hle hlm hbs2 hbs1 hlay hcl hp2 hp1 hbehind2 hbehind hfirst2 hfirst rl hrows sta hst hsort hperm c2 b2 a2 hb hc hlow ha hcs hW; lia)) (by (clear h5 h4 h3 hml hll hpl hw1 hpay hsum hw hpd hab next hw2 hqb hqs hru hdm hr hq hun hfr hwr hamt hres htb htop hle hlm hbs2 hbs1 hlay hcl hp2 hp1 hbehind2 hbehind hfirst2 hfirst rl hrows sta hst hsort hperm c2 b2 a2 hb hc hlow ha hcs hW; lia))) (by decide)) (intBits_le_64 (by (clear h3 h2 h1 hml hll hpl hw1 hpay hsum hw hpd hab next hw2 hqb hqs hru hdm hr hq hun hfr hwr hamt hres htb htop hle hlm hbs2 hbs1 hlay hcl hp2 hp1 hbehind2 hbehind hfirst2 hfirst rl hrows sta hst hsort hperm c2 b2 a2 hb hc hlow ha hcs hW; lia)) (by (clear h3 h2 h1 hml hll hpl hw1 hpay hsum hw hpd hab next hw2 hqb hqs hru hdm hr hq hun hfr hwr hamt hres htb htop hle hlm hbs2 hbs1 hlay hcl hp2 hp1 hbehind2 hbehind hfirst2 hfirst rl hrows sta hst hsort hperm c2 b2 a2 hb hc hlow ha hcs hW; lia)))
  have hx6 := Int.fmod_nonneg_of_pos x3 (b := 6) (by decide)
  have hwb : ∀ x ∈ least, x ≤ 200 := fun x hx => by have := hle x hx; (clear hx hdm2 hml hll hw1 hpay hsum hw hpd next hw2 hqb hqs hru hdm hr hq hun hfr hwr hamt hres hle hlm hbs2 hbs1 hlay hcl hp2 hp1 hbehind2 hbehind hfirst2 hfirst rl hrows sta hst hsort hperm c2 b2 a2 hb hc hlow ha hcs hW; lia)
  have pay : ∀ n, n < paid.length → (paid.map Dat.bool)[n]? = some (.bool (paid.getD n false)) := fun n hn => by
    rw [List.getElem?_map, List.getElem?_eq_getElem hn, List.getD_eq_getElem?_getD, List.getElem?_eq_getElem hn]; rfl
  obtain ⟨SH, hSH⟩ : ∃ SH : List (Nat × Nat), SH = least.map fun w => (w / a, w % a) := ⟨_, rfl⟩
  rw [← hSH]
  have hSl : SH.length = a := by rw [hSH, List.length_map, hll]
  -- the rests
  refine exl_if ((et_cmp (ev_bcall (id := "sorted") (ds := [.list ((SH.map fun r => (r.2 : Int)).map .int)]) (by walk_at "boot") (.one ((ev_map (xs := SH) (inj := dP) (g := fun r => Dat.int r.2) (ρ' := []) (by walk_at "side") inj_dP (ei_list (ev_name rfl) rfl) (fun r hr => ⟨[("share", .dat (dP r))], rfl, ev_titem (k := 1) (ev_name rfl) ev_int rfl (by simp)⟩) (by (clear hSH pay hwb hx6 hdm2 hpl hw1 hpay hsum hw hpd hab next hw2 hqb hqs hru hdm hr hq hun hfr hwr hamt hres htb htop hle hlm hbs2 hbs1 hlay hcl hp2 hp1 hbehind2 hbehind hfirst2 hfirst rl hrows sta hst hsort hperm c2 b2 hb hc hlow ha hcs hW; lia))).cast (by rw [List.map_map]; rfl))) (op_sorted (ns₁ := (List.range a).map fun n : Nat => (n : Int)) (by rw [List.length_map]; (clear hSH pay hwb hx6 hdm2 hpl hw1 hpay hsum hw hpd hab next hw2 hqb hqs hru hdm hr hq hun hfr hwr hamt hres htb htop hle hlm hbs2 hbs1 hlay hcl hp2 hp1 hbehind2 hbehind hfirst2 hfirst rl hrows sta hst hsort hperm c2 b2 hb hc hlow ha hcs hW; lia)) ?_)) ((ev_list_rangeN (by walk_at "boot") (by walk_at "boot") (ev_name rfl) (by (clear hSH pay hwb hx6 hdm2 hpl hw1 hpay hsum hw hpd hab next hw2 hqb hqs hru hdm hr hq hun hfr hwr hamt hres htb htop hle hlm hbs2 hbs1 hlay hcl hp2 hp1 hbehind2 hbehind hfirst2 hfirst rl hrows sta hst hsort hperm c2 b2 hb hc hlow ha hcs hW; lia))).cast (pv' := .dat (.list (((List.range a).map fun n : Nat => (n : Int)).map .int))) (by rw [List.map_map]; rfl)) (op_ne (b := true) (deqn_map 7 _ _ fun x => deqn_int 7 x))).cast rfl) ?_
  · intro ns' hp hs
    refine perm_sorted (fun x y a b => by (clear hs hp hSl hSH pay hwb hx6 hdm2 hml hll hpl hw1 hpay hsum hw hpd hab next hw2 hqb hqs hru hdm hr hq hun hfr hwr hamt hres htb htop hle hlm hbs2 hbs1 hlay hcl hp2 hp1 hbehind2 hbehind hfirst2 hfirst rl hrows sta hst hsort hperm c2 b2 a2 hb hc hlow ha hcs hW; lia)) (hp.trans ?_) hs ?_
    · have e : (SH.map fun r => (r.2 : Int)) = (least.map (· % a)).map fun n : Nat => (n : Int) := by rw [hSH, List.map_map, List.map_map]; rfl
      rw [e]; exact hres.map _
    · rw [List.pairwise_map]
      exact List.pairwise_le_range.imp fun h => by (clear hs hp hSl hSH pay hwb hx6 hdm2 hml hll hpl hw1 hpay hsum hw hpd hab next hw2 hqb hqs hru hdm hr hq hun hfr hwr hamt hres htb htop hle hlm hbs2 hbs1 hlay hcl hp2 hp1 hbehind2 hbehind hfirst2 hfirst rl hrows sta hst hsort hperm c2 b2 a2 hb hc hlow ha hcs hW; lia)
  -- both with a minus
  refine exl_if ((et_cmp (ev_map (xs := least) (inj := dN) (g := fun w : Nat => Dat.tuple [.int ((-(w : Int)).fdiv (-a)), .int ((-(w : Int)).fmod (-a))]) (ρ' := [("a", .dat (.int a))]) (by walk_at "side") inj_nat (ei_list (ev_name rfl) rfl) (fun w hw => ⟨[("w", .dat (dN w))], rfl, ev_gcall (by walk_at "glb") (c_dm W P hW) (.two (ev_un (ev_name rfl) op_neg) (ev_un (ev_name rfl) op_neg)) ⟨_, _, rfl, rfl, hdm2 _ _ (by have := hwb w hw; (clear hw hSl hSH pay hwb hx6 hdm2 hml hll hpl hw1 hpay hsum hpd hab next hw2 hqb hqs hru hdm hr hq hun hfr hwr hamt hres htb htop hle hlm hbs2 hbs1 hlay hcl hp2 hp1 hbehind2 hbehind hfirst2 hfirst rl hrows sta hst hsort hperm c2 b2 a2 hb hc hlow ha hcs hW; lia)) (by (clear hw hSl hSH pay hwb hx6 hdm2 hml hll hpl hw1 hpay hsum hpd hab next hw2 hqb hqs hru hdm hr hq hun hfr hwr hamt hres htb htop hle hlm hbs2 hbs1 hlay hcl hp2 hp1 hbehind2 hbehind hfirst2 hfirst rl hrows sta hst hsort hperm c2 b2 a2 hb hc hlow ha hcs hW; lia)) (by (clear hw hSH pay hwb hx6 hdm2 hpl hw1 hpay hsum hpd hab next hw2 hqb hqs hru hdm hr hq hun hfr hwr hamt hres htb htop hle hlm hbs2 hbs1 hlay hcl hp2 hp1 hbehind2 hbehind hfirst2 hfirst rl hrows sta hst hsort hperm c2 b2 hb hc hlow ha hcs hW; lia)) (by (clear hw hSH pay hwb hx6 hdm2 hpl hw1 hpay hsum hpd hab next hw2 hqb hqs hru hdm hr hq hun hfr hwr hamt hres htb htop hle hlm hbs2 hbs1 hlay hcl hp2 hp1 hbehind2 hbehind hfirst2 hfirst rl hrows sta hst hsort hperm c2 b2 hb hc hlow ha hcs hW; lia)) (by (clear hw hSH pay hwb hx6 hdm2 hpl hw1 hpay hsum hpd hab next hw2 hqb hqs hru hdm hr hq hun hfr hwr hamt hres htb htop hle hlm hbs2 hbs1 hlay hcl hp2 hp1 hbehind2 hbehind hfirst2 hfirst rl hrows sta hst hsort hperm c2 b2 hb hc hlow ha hcs hW; lia)), rfl⟩ (by decide)⟩) (by (clear hSH pay hwb hx6 hdm2 hpl hw1 hpay hsum hw hpd hab next hw2 hqb hqs hru hdm hr hq hun hfr hwr hamt hres htb htop hle hlm hbs2 hbs1 hlay hcl hp2 hp1 hbehind2 hbehind hfirst2 hfirst rl hrows sta hst hsort hperm c2 b2 hb hc hlow ha hcs hW; lia))) (ev_map (xs := SH) (inj := dP) (g := fun r => Dat.tuple [.int r.1, .int (-(r.2 : Int))]) (ρ' := []) (by walk_at "side") inj_dP (ei_list (ev_name rfl) rfl) (fun r hr => ⟨[("share", .dat (dP r))], rfl, ev_tup2 (ev_titem (k := 0) (ev_name rfl) ev_int rfl (by simp)) (ev_un (ev_titem (k := 1) (d := .int r.2) (ev_name rfl) ev_int rfl (by simp)) op_neg)⟩) (by (clear hSH pay hwb hx6 hdm2 hpl hw1 hpay hsum hw hpd hab next hw2 hqb hqs hru hdm hr hq hun hfr hwr hamt hres htb htop hle hlm hbs2 hbs1 hlay hcl hp2 hp1 hbehind2 hbehind hfirst2 hfirst rl hrows sta hst hsort hperm c2 b2 hb hc hlow ha hcs hW; lia))) (op_ne (b := true) (deqn_eqL 7 ?_ ?_))).cast rfl) ?_
  · rw [hSH, List.map_map]
    refine List.map_congr_left fun w hw => ?_
    have e1 := Int.mul_fdiv_add_fmod (w : Int) a
    have e2 := Int.mul_fdiv_add_fmod (-(w : Int)) (-a)
    rw [Int.neg_fdiv_neg, Int.neg_mul] at e2
    have e3 : (-(w : Int)).fmod (-a) = -((w : Int).fmod a) := by (clear hw hSl hSH pay hwb hx6 hdm2 hml hll hpl hw1 hpay hsum hpd hab next hw2 hqb hqs hru hdm hr hq hun hfr hwr hamt hres htb htop hle hlm hbs2 hbs1 hlay hcl hp2 hp1 hbehind2 hbehind hfirst2 hfirst rl hrows sta hst hsort hperm c2 b2 a2 hb hc hlow ha hcs hW; omega)
    rw [Int.neg_fdiv_neg, e3, fmod_nat, Int.fdiv_eq_ediv_of_nonneg _ (Int.natCast_nonneg _)]; rfl
  · intro d hd
    obtain ⟨w, _, rfl⟩ := List.mem_map.mp hd
    exact deqn_pair 6 _ _
  -- the gaps
  refine exl_if ((et_cmp (ev_bcall (id := "sum") (ds := [.list ((SH.map fun r => (r.1 : Int)).map .int)]) (by walk_at "boot") (.one ((ev_map (xs := SH) (inj := dP) (g := fun r => Dat.int r.1) (ρ' := []) (by walk_at "side") inj_dP (ei_list (ev_name rfl) rfl) (fun r hr => ⟨[("share", .dat (dP r))], rfl, ev_titem (k := 0) (ev_name rfl) ev_int rfl (by simp)⟩) (by (clear hSH pay hwb hx6 hdm2 hpl hw1 hpay hsum hw hpd hab next hw2 hqb hqs hru hdm hr hq hun hfr hwr hamt hres htb htop hle hlm hbs2 hbs1 hlay hcl hp2 hp1 hbehind2 hbehind hfirst2 hfirst rl hrows sta hst hsort hperm c2 b2 hb hc hlow ha hcs hW; lia))).cast (by rw [List.map_map]; rfl))) op_sum) (ev_len (by walk_at "boot") (ev_filter (xs := List.range top) (inj := dN) (p := fun n => !paid.getD n false) (g := dN) (ρ' := [("paid", .dat (.list (paid.map .bool)))]) (by walk_at "side") inj_nat (ei_rangeN (by walk_at "boot") (ev_name rfl)).up (fun n hn => ⟨_, rfl, et_not (et_val (ev_item (d := .bool (paid.getD n false)) (ev_name rfl) rfl (ev_name rfl) (seqAt_nat (pay n (by have := List.mem_range.mp hn; (clear hn hSl hSH pay hwb hx6 hdm2 hml hll hw1 hpay hsum hw hpd hab next hw2 hqb hqs hru hdm hr hq hun hfr hwr hamt hres htop hle hlm hbs2 hbs1 hlay hcl hp2 hp1 hbehind2 hbehind hfirst2 hfirst rl hrows sta hst hsort hperm c2 b2 a2 hb hc hlow ha hcs hW; lia)))) (by simp; (clear hn hSl hSH pay hwb hx6 hdm2 hml hll hw1 hpay hsum hw hpd next hw2 hqb hqs hru hdm hr hq hun hfr hwr hamt hres htb htop hle hlm hbs2 hbs1 hlay hcl hp2 hp1 hbehind2 hbehind hfirst2 hfirst rl hrows sta hst hsort hperm c2 b2 a2 hb hc hlow ha hcs hW; lia))) rfl), fun _ => ev_name rfl⟩) (by simp; (clear hSl hSH pay hwb hx6 hdm2 hml hll hw1 hpay hsum hw hpd next hw2 hqb hqs hru hdm hr hq hun hfr hwr hamt hres htop hle hlm hbs2 hbs1 hlay hcl hp2 hp1 hbehind2 hbehind hfirst2 hfirst rl hrows sta hst hsort hperm c2 b2 a2 hb hc hlow ha hcs hW; lia))) rfl ?_) op_nei).cast ?_) ?_
  · rw [List.length_map]; exact Nat.le_trans (List.length_filter_le _ _) (by simp; (clear hSl hSH pay hwb hx6 hdm2 hml hll hw1 hpay hsum hw hpd next hw2 hqb hqs hru hdm hr hq hun hfr hwr hamt hres htop hle hlm hbs2 hbs1 hlay hcl hp2 hp1 hbehind2 hbehind hfirst2 hfirst rl hrows sta hst hsort hperm c2 b2 a2 hb hc hlow ha hcs hW; lia))
  · have e : (SH.map fun r => (r.1 : Int)).sum = (((least.map (· / a)).sum : Nat) : Int) := by
      rw [hSH, List.map_map]
      clear hSH hSl
      have : ∀ l : List Nat, (l.map ((fun r : Nat × Nat => (r.1 : Int)) ∘ fun w => (w / a, w % a))).sum = (((l.map (· / a)).sum : Nat) : Int) := by
        intro l
        induction l with
        | nil => rfl
        | cons x l ih => rw [List.map_cons, List.sum_cons, ih, List.map_cons, List.sum_cons]; push_cast; rfl
      exact this least
    rw [e, hsum, List.length_map]; simp
  -- up to an amount
  have ham1 := Int.fmod_nonneg_of_pos (x3.fdiv 6) (b := ((top : Int) + 4)) (by (clear hSl hSH pay hwb hx6 hdm2 hml hll hpl hw1 hpay hsum hw hpd hab next hw2 hqb hqs hru hdm hr hq hun hfr hwr hamt hres htb htop hle hlm hbs2 hbs1 hlay hcl hp2 hp1 hbehind2 hbehind hfirst2 hfirst rl hrows sta hst hsort hperm c2 b2 a2 hb hc hlow ha hcs hW; lia))
  have ham2 := Int.fmod_lt_of_pos (x3.fdiv 6) (b := ((top : Int) + 4)) (by (clear ham1 hSl hSH pay hwb hx6 hdm2 hml hll hpl hw1 hpay hsum hw hpd hab next hw2 hqb hqs hru hdm hr hq hun hfr hwr hamt hres htb htop hle hlm hbs2 hbs1 hlay hcl hp2 hp1 hbehind2 hbehind hfirst2 hfirst rl hrows sta hst hsort hperm c2 b2 a2 hb hc hlow ha hcs hW; lia))
  refine exl_seq (ex_assign (d := .int amount) ((ev_bin (ev_bin (ev_bin (ev_item (k := 3) (d := .int x3) (ev_name rfl) rfl ev_int rfl (by simp)) ev_int (op_fdiv (by decide) (PyProof.noPylong_small (by decide)))) (ev_bin (ev_name rfl) ev_int op_add) (op_mod (by (clear ham2 ham1 hSl hSH pay hwb hx6 hdm2 hml hll hpl hw1 hpay hsum hw hpd hab next hw2 hqb hqs hru hdm hr hq hun hfr hwr hamt hres htb htop hle hlm hbs2 hbs1 hlay hcl hp2 hp1 hbehind2 hbehind hfirst2 hfirst rl hrows sta hst hsort hperm c2 b2 a2 hb hc hlow ha hcs hW; lia)))) ev_int op_sub).cast (by rw [hamt])) (by walk_at "slot") (by walk_at "nm")) ?_
  refine exl_seq (ex_assign (d := .list ((least.take wr).map dN)) ((ev_slice (b := some (wr : Int)) (ev_name rfl) rfl .none (.some (ev_gcall (by walk_at "glb") (c_bR W P hW 10) (.two (ev_name rfl) (ev_name rfl)) ⟨_, _, _, rfl, rfl, .int amount, 0, .none, a, .dat .none, fun m => decide (amount < (least.getD m 0 : Nat)), .a1, ⟨.inl ⟨rfl, hml.symm⟩, by (clear ham2 ham1 hSl hSH pay hwb hx6 hdm2 hpl hw1 hpay hsum hw hpd hab next hw2 hqb hqs hru hdm hr hq hun hfr hwr hamt hres htb htop hle hlm hbs2 hbs1 hlay hcl hp2 hp1 hbehind2 hbehind hfirst2 hfirst rl hrows sta hst hsort hperm c2 b2 a2 hb hc hlow ha hcs hW; lia), by (clear ham2 ham1 hSH pay hwb hx6 hdm2 hpl hw1 hpay hsum hw hpd hab next hw2 hqb hqs hru hdm hr hq hun hfr hwr hamt hres htb htop hle hlm hbs2 hbs1 hlay hcl hp2 hp1 hbehind2 hbehind hfirst2 hfirst rl hrows sta hst hsort hperm c2 b2 hb hc hlow ha hcs hW; lia), .inl rfl, fun m hm => ⟨_, _, getD_dN (by (clear ham2 ham1 hSH pay hwb hx6 hdm2 hpl hw1 hpay hsum hw hpd hab next hw2 hqb hqs hru hdm hr hq hun hfr hwr hamt hres htb htop hle hlm hbs2 hbs1 hlay hcl hp2 hp1 hbehind2 hbehind hfirst2 hfirst rl hrows sta hst hsort hperm c2 b2 a2 hb hc hlow ha hcs hW; lia)), rfl, rfl⟩⟩, by rw [hwr]⟩ (by decide))) .none (by simp) (by (clear ham2 ham1 hSH pay hwb hx6 hdm2 hpl hw1 hpay hsum hw hpd hab next hw2 hqb hqs hru hdm hr hq hun hfr hwr hamt hres htb htop hle hlm hbs2 hbs1 hlay hcl hp2 hp1 hbehind2 hbehind hfirst2 hfirst rl hrows sta hst hsort hperm c2 b2 hb hc hlow ha hcs hW; lia))).cast (by rw [pick_upto, List.map_take])) (by walk_at "slot") (by walk_at "nm")) ?_
  have hwl : (least.take wr).length ≤ a := by rw [List.length_take]; (clear ham2 ham1 hSH pay hwb hx6 hdm2 hpl hw1 hpay hsum hw hpd hab next hw2 hqb hqs hru hdm hr hq hun hfr hwr hamt hres htb htop hle hlm hbs2 hbs1 hlay hcl hp2 hp1 hbehind2 hbehind hfirst2 hfirst rl hrows sta hst hsort hperm c2 b2 a2 hb hc hlow ha hcs hW; lia)
  refine exl_if ((et_cmp (ev_bcall (id := "sum") (ds := [.list (((least.take wr).map fun w : Nat => (amount - w).fdiv a + 1).map .int)]) (by walk_at "boot") (.one ((ev_map (xs := least.take wr) (inj := dN) (g := fun w : Nat => Dat.int ((amount - w).fdiv a + 1)) (ρ' := [("a", .dat (.int a)), ("amount", .dat (.int amount))]) (by walk_at "side") inj_nat (ei_list (ev_name rfl) rfl) (fun w hw => ⟨[("w", .dat (dN w))], rfl, ev_bin (ev_titem (k := 0) (d := .int ((amount - w).fdiv a)) (ev_gcall (by walk_at "glb") (c_dm W P hW) (.two (ev_bin (ev_name rfl) (ev_name rfl) op_sub) (ev_name rfl)) ⟨_, _, rfl, rfl, hdm2 _ _ (by have := hwb w (List.mem_of_mem_take hw); (clear hw hwl ham2 hSl hSH pay hwb hx6 hdm2 hml hll hpl hw1 hpay hsum hpd hab next hw2 hqb hqs hru hdm hr hq hun hfr hwr hres htb htop hle hlm hbs2 hbs1 hlay hcl hp2 hp1 hbehind2 hbehind hfirst2 hfirst rl hrows sta hst hsort hperm c2 b2 a2 hb hc hlow ha hcs hW; omega)) (by (clear hw hwl ham1 hSl hSH pay hwb hx6 hdm2 hml hll hw1 hpay hsum hpd next hw2 hqb hqs hru hdm hr hq hun hfr hwr hres htop hle hlm hbs2 hbs1 hlay hcl hp2 hp1 hbehind2 hbehind hfirst2 hfirst rl hrows sta hst hsort hperm c2 b2 a2 hb hc hlow ha hcs hW; lia)) (by (clear hw hwl ham2 ham1 hSH pay hwb hx6 hdm2 hpl hw1 hpay hsum hpd hab next hw2 hqb hqs hru hdm hr hq hun hfr hwr hamt hres htb htop hle hlm hbs2 hbs1 hlay hcl hp2 hp1 hbehind2 hbehind hfirst2 hfirst rl hrows sta hst hsort hperm c2 b2 hb hc hlow ha hcs hW; lia)) (by (clear hw hwl ham2 ham1 hSH pay hwb hx6 hdm2 hpl hw1 hpay hsum hpd hab next hw2 hqb hqs hru hdm hr hq hun hfr hwr hamt hres htb htop hle hlm hbs2 hbs1 hlay hcl hp2 hp1 hbehind2 hbehind hfirst2 hfirst rl hrows sta hst hsort hperm c2 b2 hb hc hlow ha hcs hW; lia)) (by (clear hw hwl ham2 ham1 hSH pay hwb hx6 hdm2 hpl hw1 hpay hsum hpd hab next hw2 hqb hqs hru hdm hr hq hun hfr hwr hamt hres htb htop hle hlm hbs2 hbs1 hlay hcl hp2 hp1 hbehind2 hbehind hfirst2 hfirst rl hrows sta hst hsort hperm c2 b2 hb hc hlow ha hcs hW; lia)), rfl⟩ (by decide)) ev_int rfl (by simp)) ev_int op_add⟩) (by (clear ham2 ham1 hSH pay hwb hx6 hdm2 hpl hw1 hpay hsum hw hpd hab next hw2 hqb hqs hru hdm hr hq hun hfr hwr hamt hres htb htop hle hlm hbs2 hbs1 hlay hcl hp2 hp1 hbehind2 hbehind hfirst2 hfirst rl hrows sta hst hsort hperm c2 b2 hb hc hlow ha hcs hW; lia))).cast (by rw [List.map_map]; rfl))) op_sum) (ev_len (by walk_at "boot") (ev_filter (xs := List.range (amount + 1).toNat) (inj := dN) (p := fun n => paid.getD n false) (g := dN) (ρ' := [("paid", .dat (.list (paid.map .bool)))]) (by walk_at "side") inj_nat ?_ (fun n hn => ⟨_, rfl, et_val (ev_item (d := .bool (paid.getD n false)) (ev_name rfl) rfl (ev_name rfl) (seqAt_nat (pay n (by have := List.mem_range.mp hn; (clear hn hwl ham1 hSl hSH pay hwb hx6 hdm2 hml hll hw1 hpay hsum hw hpd hab next hw2 hqb hqs hru hdm hr hq hun hfr hwr hres htop hle hlm hbs2 hbs1 hlay hcl hp2 hp1 hbehind2 hbehind hfirst2 hfirst rl hrows sta hst hsort hperm c2 b2 a2 hb hc hlow ha hcs hW; omega)))) (by simp; (clear hn hwl ham2 ham1 hSl hSH pay hwb hx6 hdm2 hml hll hw1 hpay hsum hw hpd next hw2 hqb hqs hru hdm hr hq hun hfr hwr hamt hres htb htop hle hlm hbs2 hbs1 hlay hcl hp2 hp1 hbehind2 hbehind hfirst2 hfirst rl hrows sta hst hsort hperm c2 b2 a2 hb hc hlow ha hcs hW; lia))) rfl, fun _ => ev_name rfl⟩) (by simp; (clear hwl ham1 hSl hSH pay hwb hx6 hdm2 hml hll hw1 hpay hsum hw hpd next hw2 hqb hqs hru hdm hr hq hun hfr hwr hres htop hle hlm hbs2 hbs1 hlay hcl hp2 hp1 hbehind2 hbehind hfirst2 hfirst rl hrows sta hst hsort hperm c2 b2 a2 hb hc hlow ha hcs hW; lia))) rfl ?_) op_nei).cast ?_) ?_
  · have e : (List.range (amount + 1).toNat).map dN = rangeD 0 1 (amount + 1).toNat := (rangeD_zero _).symm
    rw [e]
    refine (ei_range1 (by walk_at "boot") rfl (ev_bin (ev_name rfl) ev_int op_add) (small1 (by (clear e hwl ham2 ham1 hSl hSH pay hwb hx6 hdm2 hml hll hpl hw1 hpay hsum hw hpd hab next hw2 hqb hqs hru hdm hr hq hun hfr hwr hamt hres htb htop hle hlm hbs2 hbs1 hlay hcl hp2 hp1 hbehind2 hbehind hfirst2 hfirst rl hrows sta hst hsort hperm c2 b2 a2 hb hc hlow ha hcs hW; lia)) (by (clear e hwl ham2 ham1 hSl hSH pay hwb hx6 hdm2 hml hll hpl hw1 hpay hsum hw hpd hab next hw2 hqb hqs hru hdm hr hq hun hfr hwr hamt hres htb htop hle hlm hbs2 hbs1 hlay hcl hp2 hp1 hbehind2 hbehind hfirst2 hfirst rl hrows sta hst hsort hperm c2 b2 a2 hb hc hlow ha hcs hW; lia)) (by (clear e hwl ham2 hSl hSH pay hwb hx6 hdm2 hml hll hpl hw1 hpay hsum hw hpd hab next hw2 hqb hqs hru hdm hr hq hun hfr hwr hres htb htop hle hlm hbs2 hbs1 hlay hcl hp2 hp1 hbehind2 hbehind hfirst2 hfirst rl hrows sta hst hsort hperm c2 b2 a2 hb hc hlow ha hcs hW; omega)) (by (clear e hwl ham1 hSl hSH pay hwb hx6 hdm2 hml hll hw1 hpay hsum hw hpd next hw2 hqb hqs hru hdm hr hq hun hfr hwr hres htop hle hlm hbs2 hbs1 hlay hcl hp2 hp1 hbehind2 hbehind hfirst2 hfirst rl hrows sta hst hsort hperm c2 b2 a2 hb hc hlow ha hcs hW; lia))) ?_).up
    rw [rangeSize_one]; split <;> (clear e hwl ham2 hSl hSH pay hwb hx6 hdm2 hml hll hpl hw1 hpay hsum hw hpd hab next hw2 hqb hqs hru hdm hr hq hun hfr hwr hres htb htop hle hlm hbs2 hbs1 hlay hcl hp2 hp1 hbehind2 hbehind hfirst2 hfirst rl hrows sta hst hsort hperm c2 b2 a2 hb hc hlow ha hcs hW; lia)
  · rw [List.length_map]; exact Nat.le_trans (List.length_filter_le _ _) (by simp; (clear hwl ham1 hSl hSH pay hwb hx6 hdm2 hml hll hw1 hpay hsum hw hpd next hw2 hqb hqs hru hdm hr hq hun hfr hwr hres htop hle hlm hbs2 hbs1 hlay hcl hp2 hp1 hbehind2 hbehind hfirst2 hfirst rl hrows sta hst hsort hperm c2 b2 a2 hb hc hlow ha hcs hW; lia))
  · rw [hpay, List.length_map]; simp
  subst hpd
  exact exl_sub next (by walk_at "sub")
end
section
theorem ty_bytes : typeOf (.type "bytes") = pure (.type "type") := by first | rfl | decide
theorem repl_one (n : Nat) (x : UInt8) : (List.replicate n [x]).flatten = List.replicate n x := by
  induction n with
  | zero => rfl
  | succ n ih => rw [List.replicate_succ, List.flatten_cons, ih]; rfl
theorem law_walkD (W : Wd) (P : Params) (hW : WL W P) (ns : List Int) (f : F1 ns) : EXL W 200 scLaw2 (namesD f) (execs ((bodyOf (fdOf (Mine.hd.heap_39 P) 131)).drop 25)) (.bool true) := by
  unfold namesD
  obtain ⟨x0, x1, x2, x3, x4, hcs, a, low, b, c, ha, hlow, hc, hb, a2, b2, c2, w, hw, least, hperm, hsort, st, hst, sta, rows, hrows, rl, first, behind, hfirst, hfirst2, hbehind, hbehind2, s1, t1, s2, t2, hp1, hp2, hcl, hlay, hbs1, hbs2, lmax, hlm, hle, top, htop, htb, hres, hsum, amount, hamt, wr, hwr, hpay, fr, un, hfr, hun, q, r, hq, hr, hdm, hru, hqs, hqb, hw1, hw2⟩ := f
  refine exl_sub (ρ' := [("top", .dat (dN top)), ("a", .dat (.int a)), ("least", .dat (.list (least.map dN))), ("paid", .dat (.list ((paidL [a, b, c] (a * b + 9)).map .bool))), ("cells", .dat (.list ([x0, x1, x2, x3, x4].map .int)))]) ?_ ⟨rfl, rfl, rfl, rfl, rfl, trivial⟩
  show EXL _ _ _ _ (execs (_ :: _)) _
  have hab : a * b ≤ 9 * 20 := Nat.mul_le_mul a2.2 b2.2
  generalize hpd : paidL [a, b, c] (a * b + 9) = paid at hw hsum hpay hw1
  have hpl : paid.length = a * b + 9 := by rw [← hpd, paidL_length]
  have hll : least.length = a := by rw [hperm.length_eq, List.length_map, List.length_range]
  have hx6 := Int.fmod_nonneg_of_pos x3 (b := 6) (by decide)
  have hwt : ∀ x ∈ least, x ≤ top := fun x hx => by have := hle x hx; (clear hx hll hpl hw1 hpay hsum hw hpd hab hw2 hqb hqs hru hdm hr hq hun hfr hwr hamt hres htb hle hlm hbs2 hbs1 hlay hcl hp2 hp1 hbehind2 hbehind hfirst2 hfirst rl hrows sta hst hsort hperm c2 b2 a2 hb hc hlow ha hcs hW; lia)
  have pay : ∀ n, n < paid.length → (paid.map Dat.bool)[n]? = some (.bool (paid.getD n false)) := fun n hn => by
    rw [List.getElem?_map, List.getElem?_eq_getElem hn, List.getD_eq_getElem?_getD, List.getElem?_eq_getElem hn]; rfl
  have m2 : ∀ x : Int, 0 ≤ x.fmod 2 ∧ x.fmod 2 < 2 := fun x => ⟨Int.fmod_nonneg_of_pos x (by decide), Int.fmod_lt_of_pos x (by decide)⟩
  have b1 := m2 x4
  have b3 := m2 (x4.fdiv 2)
  refine exl_seq (ex_assign (d := .int fr) ((ev_bin ev_int (ev_bin (ev_bin (ev_item (k := 4) (d := .int x4) (ev_name rfl) rfl ev_int rfl (by simp)) ev_int (op_mod (by decide))) ev_int (op_mul (IntMulOk.of_left (intBits_le_64 (by (clear b3 m2 pay hwt hx6 hll hpl hw1 hpay hsum hw hpd hab hw2 hqb hqs hru hdm hr hq hun hfr hwr hamt hres htb htop hle hlm hbs2 hbs1 hlay hcl hp2 hp1 hbehind2 hbehind hfirst2 hfirst rl hrows sta hst hsort hperm c2 b2 a2 hb hc hlow ha hcs hW; omega)) (by (clear b3 m2 pay hwt hx6 hll hpl hw1 hpay hsum hw hpd hab hw2 hqb hqs hru hdm hr hq hun hfr hwr hamt hres htb htop hle hlm hbs2 hbs1 hlay hcl hp2 hp1 hbehind2 hbehind hfirst2 hfirst rl hrows sta hst hsort hperm c2 b2 a2 hb hc hlow ha hcs hW; omega)))))) op_sub).cast (by rw [hfr])) (by walk_at "slot") (by walk_at "nm")) ?_
  refine exl_seq (ex_assign (d := .int un) ((ev_bin ev_int (ev_bin (ev_bin (ev_bin (ev_item (k := 4) (d := .int x4) (ev_name rfl) rfl ev_int rfl (by simp)) ev_int (op_fdiv (by decide) (PyProof.noPylong_small (by decide)))) ev_int (op_mod (by decide))) ev_int (op_mul (IntMulOk.of_left (intBits_le_64 (by (clear b1 m2 pay hwt hx6 hll hpl hw1 hpay hsum hw hpd hab hw2 hqb hqs hru hdm hr hq hun hfr hwr hamt hres htb htop hle hlm hbs2 hbs1 hlay hcl hp2 hp1 hbehind2 hbehind hfirst2 hfirst rl hrows sta hst hsort hperm c2 b2 a2 hb hc hlow ha hcs hW; omega)) (by (clear b1 m2 pay hwt hx6 hll hpl hw1 hpay hsum hw hpd hab hw2 hqb hqs hru hdm hr hq hun hfr hwr hamt hres htb htop hle hlm hbs2 hbs1 hlay hcl hp2 hp1 hbehind2 hbehind hfirst2 hfirst rl hrows sta hst hsort hperm c2 b2 a2 hb hc hlow ha hcs hW; omega)))))) op_sub).cast (by rw [hun])) (by walk_at "slot") (by walk_at "nm")) ?_
  generalize hS : (least.map fun w : Nat => (16 : Int) ^ (top + a - w)).sum = S at *
  refine exl_seq (ex_unpack (a := .int q) (b := .int r) ((ev_gcall (by walk_at "glb") (c_dm W P hW) (.two (p := .dat (.int (fr * S))) (q := .dat (.int (un * (16 ^ a - 1)))) (ev_bin (ev_name rfl) ((ev_bcall (id := "sum") (ds := [.list ((least.map fun w : Nat => (16 : Int) ^ (top + a - w)).map .int)]) (by walk_at "boot") (.one ((ev_map (xs := least) (inj := dN) (g := fun w : Nat => Dat.int ((16 : Int) ^ (top + a - w))) (ρ' := [("a", .dat (.int a)), ("top", .dat (dN top))]) (by walk_at "side") inj_nat (ei_list (ev_name rfl) rfl) (fun w hw => ⟨[("w", .dat (dN w))], rfl, (ev_bin ev_int (ev_bin (ev_bin (ev_name rfl) (ev_name rfl) op_add) (ev_name rfl) op_sub) (op_pow ?_ ?_)).cast ?_⟩) (by (clear hdm hr hq hS b3 b1 m2 pay hwt hx6 hpl hw1 hpay hsum hw hpd hab hw2 hqb hqs hru hun hfr hwr hamt hres htb htop hle hlm hbs2 hbs1 hlay hcl hp2 hp1 hbehind2 hbehind hfirst2 hfirst rl hrows sta hst hsort hperm c2 b2 hb hc hlow ha hcs hW; lia))).cast (by rw [List.map_map]; rfl))) op_sum).cast (by rw [hS])) (op_mul (IntMulOk.of_left (intBits_le_64 (by (clear hdm hr hq hS b3 m2 pay hwt hx6 hll hpl hw1 hpay hsum hw hpd hab hw2 hqb hqs hru hun hwr hamt hres htb htop hle hlm hbs2 hbs1 hlay hcl hp2 hp1 hbehind2 hbehind hfirst2 hfirst rl hrows sta hst hsort hperm c2 b2 a2 hb hc hlow ha hcs hW; lia)) (by (clear hdm hr hq hS b3 m2 pay hwt hx6 hll hpl hw1 hpay hsum hw hpd hab hw2 hqb hqs hru hun hwr hamt hres htb htop hle hlm hbs2 hbs1 hlay hcl hp2 hp1 hbehind2 hbehind hfirst2 hfirst rl hrows sta hst hsort hperm c2 b2 a2 hb hc hlow ha hcs hW; lia)))))) (ev_bin (ev_name rfl) (ev_bin ((ev_bin ev_int (ev_name rfl) (op_pow (by (clear hdm hr hq hS b3 b1 m2 pay hwt hx6 hpl hw1 hpay hsum hw hpd hab hw2 hqb hqs hru hun hfr hwr hamt hres htb htop hle hlm hbs2 hbs1 hlay hcl hp2 hp1 hbehind2 hbehind hfirst2 hfirst rl hrows sta hst hsort hperm c2 b2 hb hc hlow ha hcs hW; lia)) ?_)).cast (pv' := .dat (.int (16 ^ a))) (by rw [Int.toNat_natCast])) ev_int op_sub) (op_mul (IntMulOk.of_left (intBits_le_64 (by (clear hdm hr hq hS b1 m2 pay hwt hx6 hll hpl hw1 hpay hsum hw hpd hab hw2 hqb hqs hru hfr hwr hamt hres htb htop hle hlm hbs2 hbs1 hlay hcl hp2 hp1 hbehind2 hbehind hfirst2 hfirst rl hrows sta hst hsort hperm c2 b2 a2 hb hc hlow ha hcs hW; lia)) (by (clear hdm hr hq hS b1 m2 pay hwt hx6 hll hpl hw1 hpay hsum hw hpd hab hw2 hqb hqs hru hfr hwr hamt hres htb htop hle hlm hbs2 hbs1 hlay hcl hp2 hp1 hbehind2 hbehind hfirst2 hfirst rl hrows sta hst hsort hperm c2 b2 a2 hb hc hlow ha hcs hW; lia))))))) ⟨_, _, rfl, rfl, hdm, rfl⟩ (by decide)).cast (by rw [hq, hr])) (by walk_at "slot") (by walk_at "nm") (by walk_at "slot") (by walk_at "nm")) ?_
  · have := hwt w hw; (clear hw hdm hr hq hS b3 b1 m2 pay hwt hx6 hpl hw1 hpay hsum hpd hab hw2 hqb hqs hru hun hfr hwr hamt hres htb htop hle hlm hbs2 hbs1 hlay hcl hp2 hp1 hbehind2 hbehind hfirst2 hfirst rl hrows sta hst hsort hperm c2 b2 hb hc hlow ha hcs hW; lia)
  · have h16 : Builtin.Int.intBits 16 = 5 := by decide
    rw [h16]
    have := hwt w hw
    (clear this h16 hw hdm hr hq hS b3 b1 m2 pay hwt hx6 hw1 hpay hsum hpd hw2 hqb hqs hru hun hfr hwr hamt hres htop hle hlm hbs2 hbs1 hlay hcl hp2 hp1 hbehind2 hbehind hfirst2 hfirst rl hrows sta hst hsort hperm c2 b2 hb hc hlow ha hcs hW; lia)
  · have := hwt w hw
    have e : ((top : Int) + a - w).toNat = top + a - w := by (clear hw hdm hr hq hS b3 b1 m2 pay hwt hx6 hpl hw1 hpay hsum hpd hab hw2 hqb hqs hru hun hfr hwr hamt hres htb htop hle hlm hbs2 hbs1 hlay hcl hp2 hp1 hbehind2 hbehind hfirst2 hfirst rl hrows sta hst hsort hperm c2 b2 hb hc hlow ha hcs hW; lia)
    show PV.dat (.int _) = PV.dat (.int _)
    rw [← e]
  · have h16 : Builtin.Int.intBits 16 = 5 := by decide
    rw [h16]; (clear h16 hdm hr hq hS b3 b1 m2 pay hwt hx6 hpl hw1 hpay hsum hw hpd hab hw2 hqb hqs hru hun hfr hwr hamt hres htb htop hle hlm hbs2 hbs1 hlay hcl hp2 hp1 hbehind2 hbehind hfirst2 hfirst rl hrows sta hst hsort hperm c2 b2 hb hc hlow ha hcs hW; lia)
  have sgn : fr = 1 ∨ fr = -1 := by (clear hdm hr hq hS b3 m2 pay hwt hx6 hll hpl hw1 hpay hsum hw hpd hab hw2 hqb hqs hru hun hwr hamt hres htb htop hle hlm hbs2 hbs1 hlay hcl hp2 hp1 hbehind2 hbehind hfirst2 hfirst rl hrows sta hst hsort hperm c2 b2 a2 hb hc hlow ha hcs hW; lia)
  have sgn2 : un = 1 ∨ un = -1 := by (clear sgn hdm hr hq hS b1 m2 pay hwt hx6 hll hpl hw1 hpay hsum hw hpd hab hw2 hqb hqs hru hfr hwr hamt hres htb htop hle hlm hbs2 hbs1 hlay hcl hp2 hp1 hbehind2 hbehind hfirst2 hfirst rl hrows sta hst hsort hperm c2 b2 a2 hb hc hlow ha hcs hW; lia)
  refine exl_if (et_or2 (a := false) (b := false) ((et_cmp (ev_bin (ev_name rfl) (ev_name rfl) (op_mul (IntMulOk.of_right (intBits_le_64 (by (clear sgn2 sgn hdm hr hq hS b1 m2 pay hwt hx6 hll hpl hw1 hpay hsum hw hpd hab hw2 hqb hqs hru hfr hwr hamt hres htb htop hle hlm hbs2 hbs1 hlay hcl hp2 hp1 hbehind2 hbehind hfirst2 hfirst rl hrows sta hst hsort hperm c2 b2 a2 hb hc hlow ha hcs hW; lia)) (by (clear sgn2 sgn hdm hr hq hS b1 m2 pay hwt hx6 hll hpl hw1 hpay hsum hw hpd hab hw2 hqb hqs hru hfr hwr hamt hres htb htop hle hlm hbs2 hbs1 hlay hcl hp2 hp1 hbehind2 hbehind hfirst2 hfirst rl hrows sta hst hsort hperm c2 b2 a2 hb hc hlow ha hcs hW; lia)))))) ev_int op_le).cast (decide_eq_false (by (clear sgn2 sgn hdm hr hq hS b3 b1 m2 pay hwt hx6 hll hpl hw1 hpay hsum hw hpd hab hw2 hqb hqs hun hfr hwr hamt hres htb htop hle hlm hbs2 hbs1 hlay hcl hp2 hp1 hbehind2 hbehind hfirst2 hfirst rl hrows sta hst hsort hperm c2 b2 a2 hb hc hlow ha hcs hW; lia)))) fun _ => (et_cmp (ev_cmp (ev_name rfl) ev_int op_gt) (ev_cmp (ev_name rfl) (ev_name rfl) op_eqi) (op_ne (b := true) ?_)).cast rfl) ?_
  · rw [hqs]; simp [deqn]
  refine exl_seq (ex_assign (d := .list [.bytes (apF 1000 q.natAbs []).toArray, .bytes (apF 1000 r.natAbs []).toArray]) (ev_list (ds := [.bytes (apF 1000 q.natAbs []).toArray, .bytes (apF 1000 r.natAbs []).toArray]) (.two (ev_gcall (by walk_at "glb") (c_Int2AP W P hW) (.one (ev_name rfl)) ⟨q, rfl, rfl, hqb.1, rfl⟩ (by decide)) (ev_gcall (by walk_at "glb") (c_Int2AP W P hW) (.one (ev_name rfl)) ⟨r, rfl, rfl, hqb.2, rfl⟩ (by decide))) (by simp)) (by walk_at "slot") (by walk_at "nm")) ?_
  refine exl_if ((et_not (et_val (ev_isinst (Ts := "bytes") (d := .bytes (apF 1000 q.natAbs []).toArray) (by walk_at "boot") (by walk_at "boot") (ev_item (k := 0) (ev_name rfl) rfl ev_int rfl (by simp)) rfl rfl ty_bytes F.sub_bytes_bytes) rfl)).cast rfl) ?_
  refine exl_seq (ex_assign (d := .bytes (byteArr ((List.range (top + 1)).map fun n => 65 + (if paid.getD n false then 1 else 0)))) (ev_tcall (T := "bytes") (ds := [.list (((List.range (top + 1)).map fun n => (65 : Int) + (if paid.getD n false then 1 else 0)).map .int)]) (by walk_at "boot") (.one ((ev_map (xs := List.range (top + 1)) (inj := dN) (g := fun n => Dat.int (65 + (if paid.getD n false then 1 else 0))) (ρ' := [("paid", .dat (.list (paid.map .bool)))]) (by walk_at "side") inj_nat (ei_rangeN (by walk_at "boot") (by walk_at "ev")).up (fun n hn => ⟨[("n", .dat (dN n))], rfl, ev_bin ev_int (ev_tcall (T := "int") (ds := [.bool (paid.getD n false)]) (by walk_at "boot") (.one (ev_item (ev_name rfl) rfl (ev_name rfl) (seqAt_nat (pay n (by have := List.mem_range.mp hn; (clear hn sgn2 sgn hdm hr hq hS b3 b1 m2 pay hwt hx6 hll hw1 hpay hsum hw hpd hab hw2 hqb hqs hru hun hfr hwr hamt hres htop hle hlm hbs2 hbs1 hlay hcl hp2 hp1 hbehind2 hbehind hfirst2 hfirst rl hrows sta hst hsort hperm c2 b2 a2 hb hc hlow ha hcs hW; lia)))) (by simp; (clear hn sgn2 sgn hdm hr hq hS b3 b1 m2 pay hwt hx6 hll hw1 hpay hsum hw hpd hw2 hqb hqs hru hun hfr hwr hamt hres htb htop hle hlm hbs2 hbs1 hlay hcl hp2 hp1 hbehind2 hbehind hfirst2 hfirst rl hrows sta hst hsort hperm c2 b2 a2 hb hc hlow ha hcs hW; lia)))) op_int_bool) op_add⟩) (by simp; (clear sgn2 sgn hdm hr hq hS b3 b1 m2 pay hwt hx6 hll hw1 hpay hsum hw hpd hw2 hqb hqs hru hun hfr hwr hamt hres htop hle hlm hbs2 hbs1 hlay hcl hp2 hp1 hbehind2 hbehind hfirst2 hfirst rl hrows sta hst hsort hperm c2 b2 a2 hb hc hlow ha hcs hW; lia))).cast (by rw [List.map_map]; rfl))) (op_bytes ?_ ?_)) (by walk_at "slot") (by walk_at "nm")) ?_
  · intro n hn
    obtain ⟨m, _, rfl⟩ := List.mem_map.mp hn
    split <;> (clear hn sgn2 sgn hdm hr hq hS b3 b1 m2 pay hwt hx6 hll hpl hw1 hpay hsum hw hpd hab hw2 hqb hqs hru hun hfr hwr hamt hres htb htop hle hlm hbs2 hbs1 hlay hcl hp2 hp1 hbehind2 hbehind hfirst2 hfirst rl hrows sta hst hsort hperm c2 b2 a2 hb hc hlow ha hcs hW; lia)
  · rw [List.length_map, List.length_range]; (clear sgn2 sgn hdm hr hq hS b3 b1 m2 pay hwt hx6 hll hw1 hpay hsum hw hpd hw2 hqb hqs hru hun hfr hwr hamt hres htop hle hlm hbs2 hbs1 hlay hcl hp2 hp1 hbehind2 hbehind hfirst2 hfirst rl hrows sta hst hsort hperm c2 b2 a2 hb hc hlow ha hcs hW; lia)
  generalize hLT : byteArr ((List.range (top + 1)).map fun n => 65 + (if paid.getD n false then 1 else 0)) = LT at *
  have hLs : LT.size = top + 1 := by rw [← hLT, byteArr_size, List.length_map, List.length_range]
  refine exl_ret ((ev_cmp (ev_name rfl) (ev_ifexp (b := (fr == un)) (pv := .dat (.list [.bytes (apF 1000 q.natAbs []).toArray, .bytes (apF 1000 r.natAbs []).toArray])) (et_cmp (ev_name rfl) (ev_name rfl) op_eqi) (fun e => ?_) (fun e => ?_)) (op_eq ?_)))
  · have e : fr = un := eq_of_beq e
    rw [if_pos e] at hw1 hw2
    refine (ev_list (ds := [.bytes LT, .bytes ((List.replicate (a : Int).toNat ([66] : List UInt8)).flatten).toArray]) (.two (ev_name rfl) (ev_bin ev_bytes (ev_name rfl) (op_mul_bytes (by simp) (by (clear e hLs hw1 hLT sgn2 sgn hdm hr hq hS b3 b1 m2 pay hwt hx6 hpl hpay hsum hw hpd hab hw2 hqb hqs hru hun hfr hwr hamt hres htb htop hle hlm hbs2 hbs1 hlay hcl hp2 hp1 hbehind2 hbehind hfirst2 hfirst rl hrows sta hst hsort hperm c2 b2 hb hc hlow ha hcs hW; lia)) (by (clear e hLs hw1 hLT sgn2 sgn hdm hr hq hS b3 b1 m2 pay hwt hx6 hpl hpay hsum hw hpd hab hw2 hqb hqs hru hun hfr hwr hamt hres htb htop hle hlm hbs2 hbs1 hlay hcl hp2 hp1 hbehind2 hbehind hfirst2 hfirst rl hrows sta hst hsort hperm c2 b2 hb hc hlow ha hcs hW; lia)) (by simp)))) (by simp)).cast ?_
    rw [hw1, hw2, Int.toNat_natCast, repl_one]
  · have e : fr ≠ un := by simpa using e
    rw [if_neg e] at hw1 hw2
    have hsz : (KBy.picked LT none (some (-1))).size + 1 ≤ 1000 := by
      have h1 := congrArg Array.size hw1
      have h2 := apF_len 1000 q.natAbs []
      rw [Array.size_append] at h1
      simp only [List.size_toArray, List.length_cons, List.length_nil] at h1 h2
      (clear e hLs hw1 hLT sgn2 sgn hdm hr hq hS b3 b1 m2 pay hwt hx6 hll hpl hpay hsum hw hpd hab hw2 hqb hqs hru hun hfr hwr hamt hres htb htop hle hlm hbs2 hbs1 hlay hcl hp2 hp1 hbehind2 hbehind hfirst2 hfirst rl hrows sta hst hsort hperm c2 b2 a2 hb hc hlow ha hcs hW; lia)
    refine (ev_list (ds := [.bytes (KBy.picked LT none (some (-1)) ++ ([67] : List UInt8).toArray), .bytes ((List.replicate (a : Int).toNat ([79] : List UInt8)).flatten).toArray]) (.two (ev_bin (ev_bslice (ev_name rfl) .none (.some (ev_un ev_int op_neg)) (by (clear hsz e hw1 hLT sgn2 sgn hdm hr hq hS b3 b1 m2 pay hwt hx6 hll hpay hsum hw hpd hw2 hqb hqs hru hun hfr hwr hamt hres htop hle hlm hbs2 hbs1 hlay hcl hp2 hp1 hbehind2 hbehind hfirst2 hfirst rl hrows sta hst hsort hperm c2 b2 a2 hb hc hlow ha hcs hW; lia))) ev_bytes (op_add_bytes ?_)) (ev_bin ev_bytes (ev_name rfl) (op_mul_bytes (by simp) (by (clear hsz e hLs hw1 hLT sgn2 sgn hdm hr hq hS b3 b1 m2 pay hwt hx6 hpl hpay hsum hw hpd hab hw2 hqb hqs hru hun hfr hwr hamt hres htb htop hle hlm hbs2 hbs1 hlay hcl hp2 hp1 hbehind2 hbehind hfirst2 hfirst rl hrows sta hst hsort hperm c2 b2 hb hc hlow ha hcs hW; lia)) (by (clear hsz e hLs hw1 hLT sgn2 sgn hdm hr hq hS b3 b1 m2 pay hwt hx6 hpl hpay hsum hw hpd hab hw2 hqb hqs hru hun hfr hwr hamt hres htb htop hle hlm hbs2 hbs1 hlay hcl hp2 hp1 hbehind2 hbehind hfirst2 hfirst rl hrows sta hst hsort hperm c2 b2 hb hc hlow ha hcs hW; lia)) (by simp)))) (by simp)).cast ?_
    · simp only [List.size_toArray, List.length_cons, List.length_nil]; (clear e hLs hw1 hLT sgn2 sgn hdm hr hq hS b3 b1 m2 pay hwt hx6 hll hpl hpay hsum hw hpd hab hw2 hqb hqs hru hun hfr hwr hamt hres htb htop hle hlm hbs2 hbs1 hlay hcl hp2 hp1 hbehind2 hbehind hfirst2 hfirst rl hrows sta hst hsort hperm c2 b2 a2 hb hc hlow ha hcs hW; lia)
    · rw [hw1, hw2, Int.toNat_natCast, repl_one]
  · exact deqn_list fun d hd => by
      rcases List.mem_cons.mp hd with rfl | hd
      · simp [deqn]
      · rw [List.mem_singleton.mp hd]; simp [deqn]
end
section
noncomputable def mkW (prog : Program) (w : World) (K : Frag) (g : Heap) (kb : K.In g) (p : Program) (loose : List Str) (mean : ExcName → Option Value) (mg mb : Str → Option Value) (tb : Top p loose mean mg mb g) : Wd :=
  { prog, w, K, base := g, kb, p, loose, mean, mg, mb, tb, Gl := GlT tabs, glMono := GlT.mono, glDrop := GlT.drop }
theorem join {w : World} {loose : List Str} {mean : ExcName → Option Value} {mg mb : Str → Option Value} {s₁ : Shared} {fa : Addr} {ns : List Int} {vs : List Value} {l : Addr} {h₁ : Heap} {tk : Nat} {g : Heap} {L : Addr} {qual : Str} {scope sc : Scope} {body : List Stmt} {cells : Led} {binds : List (Str × Value)} {prog : Program} {P : Params}
    (hbinds : binds = [((Str.ofString "script"), Value.ref l)]) (hsc : scC scope = true) (hscr : scope.names.lookup ("script" : Str) = some .local) (hns : sc.names = scope.names) (hcc : ∀ c, sc.more.lookup ("@code" : Str) = some (.int c) → (Value.ref 130) = .ref c.toNat) (hqq : ∀ q, sc.more.lookup ("@qual" : Str) = some (.str q) → qual ++ ".<locals>." = q)
    (hbody : ∀ W, WL W P → EXL W 200 sc [("script", .dat (.list (ns.map .int)))] (execs body) (.bool true))
    (X : (Mine.hd.heap_39 P).In g) (T : Top topProg loose mean mg mb g) (B : Below callerA g [] g)
    (F : Fr g L h₁ (bindL (envOfC qual scope L fa (.ref 130)).kindOf binds fun _ => none)) (N : News g L h₁ (cells ++ [(37, tabObj #[]), (30, tabObj #[]), (128, tabObj #[])]))
    (CA : CellsAre (bindC (envOfC qual scope L fa (.ref 130)).kindOf binds fun _ => none) (cellsFrom (L + 1) scope.names []) cells)
    (hl : g.IsList l vs.toArray) (hi : IntsAre vs ns) (c1 : CodeHd g 41 37) (c2 : CodeHd g 34 30) (c3 : CodeHd g 130 128) (hlt : 37 < L ∧ 30 < L ∧ 128 < L)
    {Q : Flow → Shared → Prop} {E : Value → Shared → Prop} (hQ : ∀ m' h' tk', Fr g L h' m' → GrownAll [(41, 37), (34, 30), (130, 128)] h' → Q (.ret (.bool true)) { s₁ with heap := h', toks := tk' }) :
    wpAny (model prog w) (callerA.deeper (envOfC qual scope L fa (.ref 130))) (execs body (envOfC qual scope L fa (.ref 130))) Q E { s₁ with heap := h₁, toks := tk } := by
  subst hbinds
  have HW : WL (mkW prog w (Mine.hd.heap_39 P) g X topProg loose mean mg mb T) P := ⟨rfl, rfl, c1, c2, c3⟩
  have hgl : GlT tabs [(37, tabObj #[]), (30, tabObj #[]), (128, tabObj #[])] (Hs g []) := by
    refine ⟨rfl, fun t ht => ?_⟩
    have nil : ∀ pos v, codeAmong pos (#[] : Array Value).toList = some v → False := fun pos v h => by cases h
    rcases List.mem_cons.mp ht with rfl | ht
    · exact ⟨#[], .head _, by unfold TriplesOk; trivial, fun pos v h => (nil pos v h).elim⟩
    rcases List.mem_cons.mp ht with rfl | ht
    · exact ⟨#[], .tail _ (.head _), by unfold TriplesOk; trivial, fun pos v h => (nil pos v h).elim⟩
    rcases List.mem_cons.mp ht with rfl | ht
    · exact ⟨#[], .tail _ (.tail _ (.head _)), by unfold TriplesOk; trivial, fun pos v h => (nil pos v h).elim⟩
    · cases ht
  have hr : Rep (Hs g []) (.ref l) (.list (ns.map .int)) := by
    obtain ⟨o, ho, hc, n, hd⟩ := hl
    exact .list (.inl ho) hc hd (RepA.of_ints hi)
  obtain ⟨A', E', fs⟩ := enter_top (W := mkW prog w (Mine.hd.heap_39 P) g X topProg loose mean mg mb T) (sc := sc) (ρ := [("script", .dat (.list (ns.map .int)))]) B F N CA hgl (by decide) (fun p hp => by
      rcases List.mem_cons.mp hp with rfl | hp
      · exact hlt.1
      rcases List.mem_cons.mp hp with rfl | hp
      · exact hlt.2.1
      rcases List.mem_cons.mp hp with rfl | hp
      · exact hlt.2.2
      · cases hp) hsc (by simp [hscr]) (by simp) (.dat ⟨by decide, by decide⟩ (by rfl) hr .nil) hns hcc hqq
  refine hbody _ HW _ L _ cells [] [] [] _ _ { s₁ with heap := h₁, toks := tk } Q E A' E' fs fun v m' loc' own' fz' h' tk' s' S' R' => ?_
  have R' : Rep (Hs g fz') v (.bool true) := R'
  cases R'
  refine hQ m' h' tk' S'.fr ?_
  obtain ⟨_, ⟨gl, hg, lg⟩, _⟩ := S'
  have gg := grown_of hg fun p hp => (lg.news p (List.mem_append_left _ hp)).1
  obtain ⟨p1, e1, _⟩ := gg (41, 37, "_digits2int.<locals>.inner") (.head _)
  obtain ⟨p2, e2, _⟩ := gg (34, 30, "_int2digits.<locals>.inner") (.tail _ (.head _))
  obtain ⟨p3, e3, _⟩ := gg (130, 128, "law.<locals>.<lambda>") (.tail _ (.tail _ (.head _)))
  exact ⟨⟨p1, e1⟩, ⟨p2, e2⟩, ⟨p3, e3⟩, trivial⟩
theorem law_walk (W : Wd) (P : Params) (hW : WL W P) (ns : List Int) (hns : ns.length ≤ 63) (f : F1 ns) : EXL W 200 scLaw [("script", .dat (.list (ns.map .int)))] (execs (bodyOf (fdOf (Mine.hd.heap_39 P) 131))) (.bool true) := law_walkA W P hW ns hns f (law_walkB W P hW ns f (law_walkC W P hW ns f (law_walkD W P hW ns f)))
end
end Mine
end
section
open PySem PySem.W PyProof.Rows
set_option linter.unusedVariables false
namespace Mine
/-! sums over a range -/
theorem ite_z {p q : Prop} [Decidable p] [Decidable q] {x : Nat} (h : ¬ q) : (if p then (if q then x else 0) else 0) = 0 := by rw [if_neg h]; split <;> rfl
noncomputable def sm (T : Nat) (g : Nat → Nat) : Nat := ((List.range T).map g).sum
theorem sm_zero (g : Nat → Nat) : sm 0 g = 0 := rfl
theorem sm_succ (T : Nat) (g : Nat → Nat) : sm (T + 1) g = sm T g + g T := by
  unfold sm; rw [List.range_succ, List.map_append, List.sum_append]; simp
theorem sm_congr {T : Nat} {g h : Nat → Nat} (e : ∀ n < T, g n = h n) : sm T g = sm T h := by
  induction T with
  | zero => rfl
  | succ T ih => rw [sm_succ, sm_succ, ih fun n hn => e n (by (clear e ih; lia)), e T (by (clear e ih; lia))]
theorem sm_add (T : Nat) (g h : Nat → Nat) : sm T (fun n => g n + h n) = sm T g + sm T h := by
  induction T with
  | zero => rfl
  | succ T ih => rw [sm_succ, sm_succ, sm_succ, ih]; (clear ih; lia)
theorem sm_mul (T c : Nat) (g : Nat → Nat) : sm T (fun n => c * g n) = c * sm T g := by
  induction T with
  | zero => rfl
  | succ T ih => rw [sm_succ, sm_succ, ih, Nat.mul_add]
theorem sm_const0 (T : Nat) : sm T (fun _ => 0) = 0 := by
  induction T with
  | zero => rfl
  | succ T ih => rw [sm_succ, ih]
theorem sm_plus (T U : Nat) (g : Nat → Nat) : sm (T + U) g = sm T g + sm U (fun n => g (T + n)) := by
  induction U with
  | zero => rfl
  | succ U ih => rw [← Nat.add_assoc, sm_succ, ih, sm_succ]; (clear ih; lia)
theorem sm_one {a x : Nat} (c : Nat) (h : x < a) : sm a (fun k => if x = k then c else 0) = c := by
  induction a with
  | zero => lia
  | succ a ih =>
    rw [sm_succ]
    by_cases hx : x = a
    · rw [if_pos hx, sm_congr (h := fun _ => 0) fun n hn => if_neg (by (clear h ih; lia)), sm_const0]; (clear hx h ih; lia)
    · rw [if_neg hx, ih (by (clear ih; lia))]; (clear hx h ih; lia)
theorem sm_comm (T a : Nat) (g : Nat → Nat → Nat) : sm T (fun n => sm a (fun k => g n k)) = sm a (fun k => sm T (fun n => g n k)) := by
  induction T with
  | zero => rw [sm_zero]; exact (sm_const0 a).symm
  | succ T ih =>
    rw [sm_succ, ih, ← sm_add]
    exact sm_congr fun k _ => (sm_succ T _).symm
/-- by rests -/
theorem sm_rests (T a : Nat) (ha : 0 < a) (g : Nat → Nat) : sm T g = sm a (fun k => sm T (fun n => if n % a = k then g n else 0)) := by
  rw [← sm_comm]
  exact sm_congr fun n _ => (sm_one _ (Nat.mod_lt _ ha)).symm
theorem filter_len (p : Nat → Bool) (T : Nat) : ((List.range T).filter p).length = sm T (fun n => if p n = true then 1 else 0) := by
  induction T with
  | zero => rfl
  | succ T ih =>
    rw [List.range_succ, List.filter_append, List.length_append, ih, sm_succ]
    congr 1
    by_cases h : p T = true <;> simp [h]
/-- one class from w on -/
theorem sm_class (a : Nat) (ha : 0 < a) (f : Nat → Nat) (w : Nat) : ∀ (q r : Nat), r < a → sm (w + (q * a + r) + 1) (fun n => if n % a = w % a then (if w ≤ n then f n else 0) else 0) = sm (q + 1) (fun j => f (w + j * a))
  | 0, r, hr => by
    have e1 : w + (0 * a + r) + 1 = w + (r + 1) := by (clear hr ha; lia)
    rw [e1, sm_plus, sm_congr (T := w) (h := fun _ => 0) (fun n hn => ite_z (by (clear e1 hr ha; lia))), sm_const0, Nat.zero_add]
    rw [sm_congr (h := fun n => if 0 = n then f w else 0) (fun n hn => ?_), sm_one _ (by (clear e1 hr ha; lia)), sm_succ, sm_zero]
    · simp
    · by_cases h0 : n = 0
      · subst h0; simp
      · rw [if_neg (by (clear hn e1 hr ha; lia) : ¬ 0 = n)]
        refine if_neg fun e => ?_
        have h1 := Nat.div_add_mod (w + n) a
        have h2 := Nat.div_add_mod w a
        rw [e] at h1
        have h3 : a * ((w + n) / a) = a * (w / a) + n := by (clear e h0 hn e1 hr ha; lia)
        have h4 : n = a * ((w + n) / a - w / a) := by rw [Nat.mul_sub]; (clear h3 e h0 hn e1 hr ha; lia)
        have h5 : (w + n) / a - w / a ≠ 0 := fun e => by rw [e] at h4; (clear e h3 hn e1 hr ha; lia)
        have h6 : a * 1 ≤ a * ((w + n) / a - w / a) := Nat.mul_le_mul_left _ (by (clear h4 h3 h2 h1 e h0 hn e1 hr ha; lia))
        (clear h5 h3 e h0 e1 ha; lia)
  | q + 1, r, hr => by
    have e1 : w + ((q + 1) * a + r) + 1 = (w + (q * a + r) + 1) + a := by rw [Nat.add_mul]; (clear hr ha; lia)
    rw [e1, sm_plus, sm_class a ha f w q r hr, sm_succ (q + 1)]
    congr 1
    -- the next block of a numbers
    have hb : ∀ n < a, (if (w + (q * a + r) + 1 + n) % a = w % a then (if w ≤ w + (q * a + r) + 1 + n then f (w + (q * a + r) + 1 + n) else 0) else 0) = if (a - 1 - r) = n then f (w + (q + 1) * a) else 0 := by
      intro n hn
      by_cases h : a - 1 - r = n
      · have e : w + (q * a + r) + 1 + n = w + (q + 1) * a := by rw [Nat.add_mul]; (clear hn ha; lia)
        rw [if_pos h, e, Nat.add_mul_mod_self_right, if_pos rfl, if_pos (by (clear e h hn e1 hr ha; lia))]
      · rw [if_neg h]
        refine if_neg fun e => ?_
        have h1 := Nat.div_add_mod (w + (q * a + r) + 1 + n) a
        have h2 := Nat.div_add_mod w a
        rw [e] at h1
        have h3 : a * ((w + (q * a + r) + 1 + n) / a) = a * (w / a) + (q * a + r + 1 + n) := by (clear e h hn e1 hr ha; lia)
        have h4 : a * ((w + (q * a + r) + 1 + n) / a - w / a - q) = r + 1 + n := by
          rw [Nat.mul_sub, Nat.mul_sub, Nat.mul_comm a q]; (clear h3 e h hn e1 hr ha; lia)
        generalize (w + (q * a + r) + 1 + n) / a - w / a - q = z at h4
        rcases Nat.lt_or_ge z 2 with hz | hz
        · have : z = 0 ∨ z = 1 := by (clear h4 h3 h2 h1 e h hn e1 hr ha; lia)
          rcases this with rfl | rfl <;> (clear hz h3 e hn ha; lia)
        · have h6 : a * 2 ≤ a * z := Nat.mul_le_mul_left _ hz
          (clear hz h3 e h ha; lia)
    rw [sm_congr hb, sm_one _ (by (clear hb ha; lia))]
/-- in the form for any T -/
theorem sm_class' {a : Nat} (ha : 0 < a) (f : Nat → Nat) {w T : Nat} (h : w < T) : sm T (fun n => if n % a = w % a then (if w ≤ n then f n else 0) else 0) = sm ((T - 1 - w) / a + 1) (fun j => f (w + j * a)) := by
  have e := Nat.div_add_mod (T - 1 - w) a
  have h1 := sm_class a ha f w ((T - 1 - w) / a) ((T - 1 - w) % a) (Nat.mod_lt _ ha)
  have e2 : w + ((T - 1 - w) / a * a + (T - 1 - w) % a) + 1 = T := by rw [Nat.mul_comm]; (clear h1 ha; omega)
  rw [e2] at h1
  exact h1
theorem sm_class0 {a : Nat} (f : Nat → Nat) {w T : Nat} (h : T ≤ w) : sm T (fun n => if n % a = w % a then (if w ≤ n then f n else 0) else 0) = 0 := by
  rw [sm_congr (h := fun _ => 0) fun n hn => ite_z (by lia), sm_const0]
/-! telescopes of powers -/
theorem tele (a m : Nat) (ha : 0 < a) : ∀ (q r : Nat), r < a → (16 ^ a - 1) * sm (q + 1) (fun j => 16 ^ (q * a + r - j * a)) + 16 ^ r = 16 ^ (q * a + r + a)
  | 0, r, hr => by
    have hp : 1 ≤ 16 ^ a := Nat.pow_pos (by decide)
    rw [sm_succ, sm_zero]
    simp only [Nat.zero_mul, Nat.zero_add, Nat.sub_zero]
    rw [Nat.sub_mul, Nat.one_mul, Nat.pow_add, Nat.mul_comm (16 ^ a)]
    have : 16 ^ r * 1 ≤ 16 ^ r * 16 ^ a := Nat.mul_le_mul_left _ hp
    (clear hp hr ha; omega)
  | q + 1, r, hr => by
    have ih := tele a m ha q r hr
    have hp : 1 ≤ 16 ^ a := Nat.pow_pos (by decide)
    have e : sm (q + 1 + 1) (fun j => 16 ^ ((q + 1) * a + r - j * a)) = 16 ^ ((q + 1) * a + r) + sm (q + 1) (fun j => 16 ^ (q * a + r - j * a)) := by
      rw [Nat.add_comm (q + 1) 1, sm_plus, sm_succ, sm_zero]
      simp only [Nat.zero_mul, Nat.sub_zero, Nat.zero_add]
      congr 1
      · refine sm_congr fun j hj => ?_
        congr 1
        have h1 : (1 + q) * a = a + q * a := by rw [Nat.add_mul, Nat.one_mul]
        have h2 : (1 + j) * a = a + j * a := by rw [Nat.add_mul, Nat.one_mul]
        have h3 : (q + 1) * a = q * a + a := by rw [Nat.add_mul, Nat.one_mul]
        (clear hj hp ih hr ha; lia)
    rw [e, Nat.mul_add]
    have e2 : (q + 1) * a + r = q * a + r + a := by rw [Nat.add_mul]; (clear e hp ih hr ha; lia)
    rw [e2, Nat.pow_add 16 (q * a + r + a) a]
    have e3 : (16 ^ a - 1) * 16 ^ (q * a + r + a) = 16 ^ (q * a + r + a) * 16 ^ a - 16 ^ (q * a + r + a) := by rw [Nat.sub_mul, Nat.one_mul, Nat.mul_comm]
    have e4 : 16 ^ (q * a + r + a) * 1 ≤ 16 ^ (q * a + r + a) * 16 ^ a := Nat.mul_le_mul_left _ hp
    (clear e2 e hp hr ha; omega)
end Mine
end
section
open PySem PySem.W PyProof.Rows
set_option linter.unusedVariables false
namespace Mine
noncomputable def isrt (x : Nat) : List Nat → List Nat
  | [] => [x]
  | y :: l => if x ≤ y then x :: y :: l else y :: isrt x l
noncomputable def srt : List Nat → List Nat
  | [] => []
  | x :: l => isrt x (srt l)
/-! the data of one (a, b, c) -/
noncomputable def fSt (a b c : Nat) : Nat := (((List.range a).filter fun n : Nat => (((b : Int) * n - c).fmod a == 0))[0]?).getD 0
noncomputable def fRows (a b c : Nat) : List (Nat × Nat) := (runRows a (fSt a b c)).map fun r => (r.1.toNat, r.2.toNat)
noncomputable def fFi (a b c : Nat) : Nat := ((fRows a b c).filter fun r => Nat.blt (c * r.2) (b * r.1)).length
noncomputable def fBe (a b c : Nat) : Nat := ((fRows a b c).filter fun r => Nat.ble (c * r.2) (b * r.1)).length
noncomputable def fCo (a b c i : Nat) : List Nat := corner ((fRows a b c).getD (i - 1) (0, 0)).1 ((fRows a b c).getD (i - 1) (0, 0)).2 ((fRows a b c).getD i (0, 0)).1 ((fRows a b c).getD i (0, 0)).2 b c
noncomputable def fLe (a b c : Nat) : List Nat := srt (fCo a b c (fFi a b c))
noncomputable def fW (a b c k : Nat) : Nat := ((fLe a b c).find? fun n => n % a == k).getD 0
noncomputable def incr : List Nat → Bool
  | x :: y :: l => decide (x < y) && incr (y :: l)
  | _ => true
noncomputable def pOk (rows : List (Nat × Nat)) (i : Nat) : Bool := decide (1 ≤ i) && decide (i < rows.length) && decide ((rows.getD i (0, 0)).1 ≤ (rows.getD (i - 1) (0, 0)).1) && decide ((rows.getD (i - 1) (0, 0)).2 ≤ (rows.getD i (0, 0)).2) && decide ((rows.getD (i - 1) (0, 0)).1 ≤ 1000) && decide ((rows.getD i (0, 0)).2 ≤ 1000)
noncomputable def cert (a b c : Nat) (W : Nat → Nat) (k : Nat) : Bool := W k % a == k && decide (W k ≤ a * b) && decide (W ((k + b) % a) ≤ W k + b) && decide (W ((k + c) % a) ≤ W k + c) && (k == 0 || (decide (b ≤ W k) && decide (W ((W k - b) % a) ≤ W k - b)) || (decide (c ≤ W k) && decide (W ((W k - c) % a) ≤ W k - c)))
noncomputable def chk1 (a b c : Nat) : Bool := ((List.range a).filter fun n : Nat => (((b : Int) * n - c).fmod a == 0))[0]? == some (fSt a b c) && decide (fSt a b c < a) && runRows a (fSt a b c) == ((fRows a b c).map fun r => ((r.1 : Int), (r.2 : Int))) && decide (2 ≤ (fRows a b c).length) && decide ((fRows a b c).length ≤ 100)
noncomputable def chk2 (a b c : Nat) : Bool := bis (fun m => !Nat.blt (c * ((fRows a b c).getD m (0, 0)).2) (b * ((fRows a b c).getD m (0, 0)).1)) ((fRows a b c).length - 0) 0 (fRows a b c).length == fFi a b c && bis (fun m => !Nat.ble (c * ((fRows a b c).getD m (0, 0)).2) (b * ((fRows a b c).getD m (0, 0)).1)) ((fRows a b c).length - 0) 0 (fRows a b c).length == fBe a b c && pOk (fRows a b c) (fFi a b c) && pOk (fRows a b c) (fBe a b c)
noncomputable def chk3 (a b c : Nat) : Bool := incr (fLe a b c) && (fCo a b c (fBe a b c)).isPerm (fLe a b c)
noncomputable def chk4 (a b c : Nat) : Bool := (fLe a b c).isPerm ((List.range a).map (fW a b c)) && (List.range a).all (cert a b c (fW a b c)) && (fW a b c 0 == 0)
noncomputable def chk (a b c : Nat) : Bool := chk1 a b c && (chk2 a b c && (chk3 a b c && chk4 a b c))
noncomputable def pairs : List (Nat × Nat) := [(2, 3), (2, 5), (2, 7), (2, 9), (2, 11), (3, 2), (3, 4), (3, 5), (3, 7), (3, 8), (3, 10), (4, 3), (4, 5), (4, 7), (4, 9), (4, 11), (5, 2), (5, 3), (5, 4), (5, 6), (5, 7), (5, 8), (5, 9), (5, 11), (6, 5), (6, 7), (6, 11), (7, 2), (7, 3), (7, 4), (7, 5), (7, 6), (7, 8), (7, 9), (7, 10), (8, 3), (8, 5), (8, 7), (8, 9), (8, 11), (9, 2), (9, 4), (9, 5), (9, 7), (9, 8), (9, 10)]
set_option maxRecDepth 100000
theorem chk_2_3 : ((List.range 25).all fun c => chk 2 3 (c + 1)) = true := by decide +kernel
theorem chk_2_5 : ((List.range 25).all fun c => chk 2 5 (c + 1)) = true := by decide +kernel
theorem chk_2_7 : ((List.range 25).all fun c => chk 2 7 (c + 1)) = true := by decide +kernel
theorem chk_2_9 : ((List.range 25).all fun c => chk 2 9 (c + 1)) = true := by decide +kernel
theorem chk_2_11 : ((List.range 25).all fun c => chk 2 11 (c + 1)) = true := by decide +kernel
theorem chk_3_2 : ((List.range 25).all fun c => chk 3 2 (c + 1)) = true := by decide +kernel
theorem chk_3_4 : ((List.range 25).all fun c => chk 3 4 (c + 1)) = true := by decide +kernel
theorem chk_3_5 : ((List.range 25).all fun c => chk 3 5 (c + 1)) = true := by decide +kernel
theorem chk_3_7 : ((List.range 25).all fun c => chk 3 7 (c + 1)) = true := by decide +kernel
theorem chk_3_8 : ((List.range 25).all fun c => chk 3 8 (c + 1)) = true := by decide +kernel
theorem chk_3_10 : ((List.range 25).all fun c => chk 3 10 (c + 1)) = true := by decide +kernel
theorem chk_4_3 : ((List.range 25).all fun c => chk 4 3 (c + 1)) = true := by decide +kernel
theorem chk_4_5 : ((List.range 25).all fun c => chk 4 5 (c + 1)) = true := by decide +kernel
theorem chk_4_7 : ((List.range 25).all fun c => chk 4 7 (c + 1)) = true := by decide +kernel
theorem chk_4_9 : ((List.range 25).all fun c => chk 4 9 (c + 1)) = true := by decide +kernel
theorem chk_4_11 : ((List.range 25).all fun c => chk 4 11 (c + 1)) = true := by decide +kernel
theorem chk_5_2 : ((List.range 25).all fun c => chk 5 2 (c + 1)) = true := by decide +kernel
theorem chk_5_3 : ((List.range 25).all fun c => chk 5 3 (c + 1)) = true := by decide +kernel
theorem chk_5_4 : ((List.range 25).all fun c => chk 5 4 (c + 1)) = true := by decide +kernel
theorem chk_5_6 : ((List.range 25).all fun c => chk 5 6 (c + 1)) = true := by decide +kernel
theorem chk_5_7 : ((List.range 25).all fun c => chk 5 7 (c + 1)) = true := by decide +kernel
theorem chk_5_8 : ((List.range 25).all fun c => chk 5 8 (c + 1)) = true := by decide +kernel
theorem chk_5_9 : ((List.range 25).all fun c => chk 5 9 (c + 1)) = true := by decide +kernel
theorem chk_5_11 : ((List.range 25).all fun c => chk 5 11 (c + 1)) = true := by decide +kernel
theorem chk_6_5 : ((List.range 25).all fun c => chk 6 5 (c + 1)) = true := by decide +kernel
theorem chk_6_7 : ((List.range 25).all fun c => chk 6 7 (c + 1)) = true := by decide +kernel
theorem chk_6_11 : ((List.range 25).all fun c => chk 6 11 (c + 1)) = true := by decide +kernel
theorem chk_7_2 : ((List.range 25).all fun c => chk 7 2 (c + 1)) = true := by decide +kernel
theorem chk_7_3 : ((List.range 25).all fun c => chk 7 3 (c + 1)) = true := by decide +kernel
theorem chk_7_4 : ((List.range 25).all fun c => chk 7 4 (c + 1)) = true := by decide +kernel
theorem chk_7_5 : ((List.range 25).all fun c => chk 7 5 (c + 1)) = true := by decide +kernel
theorem chk_7_6 : ((List.range 25).all fun c => chk 7 6 (c + 1)) = true := by decide +kernel
theorem chk_7_8 : ((List.range 25).all fun c => chk 7 8 (c + 1)) = true := by decide +kernel
theorem chk_7_9 : ((List.range 25).all fun c => chk 7 9 (c + 1)) = true := by decide +kernel
theorem chk_7_10 : ((List.range 25).all fun c => chk 7 10 (c + 1)) = true := by decide +kernel
theorem chk_8_3 : ((List.range 25).all fun c => chk 8 3 (c + 1)) = true := by decide +kernel
theorem chk_8_5 : ((List.range 25).all fun c => chk 8 5 (c + 1)) = true := by decide +kernel
theorem chk_8_7 : ((List.range 25).all fun c => chk 8 7 (c + 1)) = true := by decide +kernel
theorem chk_8_9 : ((List.range 25).all fun c => chk 8 9 (c + 1)) = true := by decide +kernel
theorem chk_8_11 : ((List.range 25).all fun c => chk 8 11 (c + 1)) = true := by decide +kernel
theorem chk_9_2 : ((List.range 25).all fun c => chk 9 2 (c + 1)) = true := by decide +kernel
theorem chk_9_4 : ((List.range 25).all fun c => chk 9 4 (c + 1)) = true := by decide +kernel
theorem chk_9_5 : ((List.range 25).all fun c => chk 9 5 (c + 1)) = true := by decide +kernel
theorem chk_9_7 : ((List.range 25).all fun c => chk 9 7 (c + 1)) = true := by decide +kernel
theorem chk_9_8 : ((List.range 25).all fun c => chk 9 8 (c + 1)) = true := by decide +kernel
theorem chk_9_10 : ((List.range 25).all fun c => chk 9 10 (c + 1)) = true := by decide +kernel
theorem chk_pairs : ∀ p ∈ pairs, ((List.range 25).all fun c => chk p.1 p.2 (c + 1)) = true :=
  List.forall_mem_cons.2 ⟨chk_2_3, List.forall_mem_cons.2 ⟨chk_2_5, List.forall_mem_cons.2 ⟨chk_2_7, List.forall_mem_cons.2 ⟨chk_2_9, List.forall_mem_cons.2 ⟨chk_2_11, List.forall_mem_cons.2 ⟨chk_3_2, List.forall_mem_cons.2 ⟨chk_3_4, List.forall_mem_cons.2 ⟨chk_3_5, List.forall_mem_cons.2 ⟨chk_3_7, List.forall_mem_cons.2 ⟨chk_3_8, List.forall_mem_cons.2 ⟨chk_3_10, List.forall_mem_cons.2 ⟨chk_4_3, List.forall_mem_cons.2 ⟨chk_4_5, List.forall_mem_cons.2 ⟨chk_4_7, List.forall_mem_cons.2 ⟨chk_4_9, List.forall_mem_cons.2 ⟨chk_4_11, List.forall_mem_cons.2 ⟨chk_5_2, List.forall_mem_cons.2 ⟨chk_5_3, List.forall_mem_cons.2 ⟨chk_5_4, List.forall_mem_cons.2 ⟨chk_5_6, List.forall_mem_cons.2 ⟨chk_5_7, List.forall_mem_cons.2 ⟨chk_5_8, List.forall_mem_cons.2 ⟨chk_5_9, List.forall_mem_cons.2 ⟨chk_5_11, List.forall_mem_cons.2 ⟨chk_6_5, List.forall_mem_cons.2 ⟨chk_6_7, List.forall_mem_cons.2 ⟨chk_6_11, List.forall_mem_cons.2 ⟨chk_7_2, List.forall_mem_cons.2 ⟨chk_7_3, List.forall_mem_cons.2 ⟨chk_7_4, List.forall_mem_cons.2 ⟨chk_7_5, List.forall_mem_cons.2 ⟨chk_7_6, List.forall_mem_cons.2 ⟨chk_7_8, List.forall_mem_cons.2 ⟨chk_7_9, List.forall_mem_cons.2 ⟨chk_7_10, List.forall_mem_cons.2 ⟨chk_8_3, List.forall_mem_cons.2 ⟨chk_8_5, List.forall_mem_cons.2 ⟨chk_8_7, List.forall_mem_cons.2 ⟨chk_8_9, List.forall_mem_cons.2 ⟨chk_8_11, List.forall_mem_cons.2 ⟨chk_9_2, List.forall_mem_cons.2 ⟨chk_9_4, List.forall_mem_cons.2 ⟨chk_9_5, List.forall_mem_cons.2 ⟨chk_9_7, List.forall_mem_cons.2 ⟨chk_9_8, List.forall_mem_cons.2 ⟨chk_9_10, fun _ h => nomatch h⟩⟩⟩⟩⟩⟩⟩⟩⟩⟩⟩⟩⟩⟩⟩⟩⟩⟩⟩⟩⟩⟩⟩⟩⟩⟩⟩⟩⟩⟩⟩⟩⟩⟩⟩⟩⟩⟩⟩⟩⟩⟩⟩⟩⟩⟩
theorem free_pairs : ∀ x < 8, ∀ y < 9, ∃ b, (freeL (x + 2) (y + 2))[0]? = some b ∧ (x + 2, b) ∈ pairs ∧ 2 ≤ b ∧ b ≤ 20 := by
  have h : ((List.range 8).all fun x => (List.range 9).all fun y => match (freeL (x + 2) (y + 2))[0]? with | some b => pairs.contains (x + 2, b) && (decide (2 ≤ b) && decide (b ≤ 20)) | none => false) = true := by decide +kernel
  intro x hx y hy
  have h1 := List.all_eq_true.mp (List.all_eq_true.mp h x (List.mem_range.mpr hx)) y (List.mem_range.mpr hy)
  match hb : (freeL (x + 2) (y + 2))[0]? with
  | none => rw [hb] at h1; cases h1
  | some b =>
    rw [hb] at h1
    simp only [Bool.and_eq_true, decide_eq_true_eq] at h1
    exact ⟨b, rfl, List.contains_iff_mem.mp h1.1, h1.2.1, h1.2.2⟩
theorem checked {a low c : Nat} (ha : 2 ≤ a ∧ a ≤ 9) (hl : 2 ≤ low ∧ low ≤ 10) (hc : 1 ≤ c ∧ c ≤ 25) : ∃ b, (freeL a low)[0]? = some b ∧ 2 ≤ b ∧ b ≤ 20 ∧ chk1 a b c = true ∧ chk2 a b c = true ∧ chk3 a b c = true ∧ chk4 a b c = true := by
  obtain ⟨b, h1, h2, h3, h4⟩ := free_pairs (a - 2) (by (clear hc hl; omega)) (low - 2) (by (clear hc ha; omega))
  have e1 : a - 2 + 2 = a := by (clear h4 h3 h2 h1 hc hl; lia)
  have e2 : low - 2 + 2 = low := by (clear e1 h4 h3 h2 h1 hc ha; lia)
  rw [e1, e2] at h1
  rw [e1] at h2
  have h5 := List.all_eq_true.mp (chk_pairs (a, b) h2) (c - 1) (List.mem_range.mpr (by (clear e2 e1 h4 h3 h2 h1 hl ha; omega)))
  have e3 : c - 1 + 1 = c := by (clear h5 e2 e1 h4 h3 h2 h1 hl ha; lia)
  rw [e3] at h5
  simp only [chk, Bool.and_eq_true] at h5
  exact ⟨b, h1, h3, h4, h5.1, h5.2.1, h5.2.2.1, h5.2.2.2⟩
end Mine
end
section
open PySem PySem.W PyProof.Rows
set_option linter.unusedVariables false
namespace Mine
/-! the laying -/
theorem edge {c : Nat → Bool} : ∀ n : Nat, (∀ m m', m < m' → m' < n → c m = true → c m' = true) → ∃ k ≤ n, (∀ m < k, c m = false) ∧ (∀ m, k ≤ m → m < n → c m = true)
  | 0, _ => ⟨0, Nat.le_refl _, fun m h => by lia, fun m _ h => by lia⟩
  | n + 1, h => by
    obtain ⟨k, h1, h2, h3⟩ := edge n fun m m' a b => h m m' a (by (clear a h; lia))
    by_cases hk : k = n
    · subst hk
      by_cases hc : c k = true
      · refine ⟨k, by (clear hc h3 h1 h h2; lia), h2, fun m a b => ?_⟩
        have : m = k := by (clear hc h3 h1 h h2; lia)
        rw [this]; exact hc
      · refine ⟨k + 1, by (clear hc h3 h1 h h2; lia), fun m a => ?_, fun m a b => by (clear hc h3 h1 h h2; lia)⟩
        by_cases e : m = k
        · rw [e]; simpa using hc
        · exact h2 m (by (clear hc h3 h1 h h2; lia))
    · refine ⟨k, by (clear hk h3 h2 h; lia), h2, fun m a b => ?_⟩
      by_cases e : m = n
      · rw [e]; exact h k n (by (clear b a h3 h2 h; lia)) (by (clear e b a hk h3 h2 h1 h; lia)) (h3 k (Nat.le_refl _) (by (clear b a h3 h2 h; lia)))
      · exact h3 m a (by (clear a hk h3 h2 h1 h; lia))
theorem insBy_perm {α : Type} (c : Nat → Bool) (x : α) (l : List α) : (insBy c x l).Perm (x :: l) := by
  unfold insBy
  refine List.perm_middle.trans ?_
  rw [List.take_append_drop]
theorem insBy_sorted {α : Type} {R : α → α → Prop} {c : Nat → Bool} {x : α} {l : List α} (hl : l.Pairwise R) (hm : ∀ m m', m < m' → m' < l.length → c m = true → c m' = true) (h1 : ∀ m (h : m < l.length), c m = true → R x l[m]) (h2 : ∀ m (h : m < l.length), c m = false → R l[m] x) : (insBy c x l).Pairwise R := by
  obtain ⟨k, hk, e1, e2⟩ := edge l.length hm
  have e : bis c (l.length - 0) 0 l.length = k := bis_spec _ _ _ _ (Nat.zero_le _) hk (Nat.le_refl _) (fun m _ h => e1 m h) (fun m h h' => e2 m h h')
  unfold insBy
  rw [e]
  have hl' := hl
  rw [← List.take_append_drop k l, List.pairwise_append] at hl'
  have ht : ∀ y ∈ l.take k, R y x := by
    intro y hy
    obtain ⟨m, hm, rfl⟩ := List.mem_iff_getElem.mp hy
    rw [List.length_take] at hm
    rw [List.getElem_take]
    exact h2 m (by (clear hy hl' e2 e1 h2 h1 hl; lia)) (e1 m (by (clear hy hl' e2 e1 h2 h1 hl; lia)))
  have hd : ∀ y ∈ l.drop k, R x y := by
    intro y hy
    obtain ⟨m, hm, rfl⟩ := List.mem_iff_getElem.mp hy
    rw [List.length_drop] at hm
    rw [List.getElem_drop]
    exact h1 _ (by (clear hy ht hl' e2 e1 h2 h1 hl; lia)) (e2 _ (by (clear hy hm ht hl' e e2 e1 hk h2 h1 hl; lia)) (by (clear hy ht hl' e2 e1 h2 h1 hl; lia)))
  refine List.pairwise_append.mpr ⟨hl'.1, List.pairwise_cons.mpr ⟨hd, hl'.2.1⟩, fun y hy z hz => ?_⟩
  rcases List.mem_cons.mp hz with rfl | hz
  · exact ht y hy
  · exact hl'.2.2 y hy z hz
noncomputable def rk (n : Nat) : Nat := if n = 1 then 0 else if n = 0 then 1 else 2
theorem rk2 (n : Nat) : rk n ≤ 2 := by unfold rk; (repeat' split) <;> lia
theorem zero2 : 0 ≤ 2 := by decide
theorem one2 : 1 ≤ 2 := by decide
theorem two2 : 2 ≤ 2 := by decide
noncomputable def rS (x y : Nat × Nat) : Prop := x.2 ≤ 2 ∧ y.2 ≤ 2 ∧ 3 * x.1 + rk x.2 ≤ 3 * y.1 + rk y.2
theorem rS_fst {x y : Nat × Nat} (h : rS x y) : x.1 ≤ y.1 := by
  have h1 := h.2.2
  have := rk2 x.2; have := rk2 y.2
  (clear h; lia)
theorem rk_inj {m n : Nat} (hm : m ≤ 2) (hn : n ≤ 2) (h : rk m = rk n) : m = n := by
  have : m = 0 ∨ m = 1 ∨ m = 2 := by (clear h hn; lia)
  have : n = 0 ∨ n = 1 ∨ n = 2 := by (clear this h hm; lia)
  rcases ‹m = 0 ∨ m = 1 ∨ m = 2› with rfl | rfl | rfl <;> rcases ‹n = 0 ∨ n = 1 ∨ n = 2› with rfl | rfl | rfl <;> first | rfl | (exact absurd h (by decide))
theorem rS_anti (x y : Nat × Nat) (h : rS x y) (h' : rS y x) : x = y := by
  have h1 := h.2.2; have h2 := h'.2.2
  have := rk2 x.2; have := rk2 y.2
  refine Prod.ext (by (clear h' h; lia)) (rk_inj h.1 h.2.1 (by (clear h' h; lia)))
theorem getD_of_lt {α : Type} {l : List α} {m : Nat} (h : m < l.length) (d : α) : l.getD m d = l[m] := by
  rw [List.getD_eq_getElem?_getD, List.getElem?_eq_getElem h]; rfl
theorem pw_get {α : Type} {R : α → α → Prop} {l : List α} (h : l.Pairwise R) {m m' : Nat} (a : m < m') (b : m' < l.length) : R (l[m]'(by (clear h; lia))) l[m'] := List.pairwise_iff_getElem.mp h m m' (by (clear h; lia)) b a
/-- what is laid to the right -/
theorem shR_sorted {l : List (Nat × Nat)} {x : Nat × Nat} (hl : l.Pairwise rS) (h2 : ∀ y ∈ l, y.2 ≤ 2) (hx : x.2 ≤ 2) (hr : ∀ y ∈ l, rk y.2 ≤ rk x.2) : (shR l x).Pairwise rS := by
  unfold shR
  refine insBy_sorted hl (fun m m' a b e => ?_) (fun m h e => ?_) (fun m h e => ?_)
  · rw [getD_of_lt (by (clear e hr hx h2 hl; lia))] at e ⊢
    have := rS_fst (pw_get hl a b)
    simp only [decide_eq_true_eq] at e ⊢; (clear hr hx h2 hl; lia)
  · rw [getD_of_lt h] at e
    simp only [decide_eq_true_eq] at e
    have := rk2 x.2
    exact ⟨hx, h2 _ (List.getElem_mem h), by (clear hr hx h2 hl; lia)⟩
  · rw [getD_of_lt h] at e
    simp only [decide_eq_false_iff_not] at e
    have := hr _ (List.getElem_mem h)
    exact ⟨h2 _ (List.getElem_mem h), hx, by (clear hr hx h2 hl; lia)⟩
theorem shL_sorted {l : List (Nat × Nat)} {w : Nat} (hl : l.Pairwise rS) (h2 : ∀ y ∈ l, y.2 ≤ 2) : (shL l (w, 1)).Pairwise rS := by
  unfold shL
  refine insBy_sorted hl (fun m m' a b e => ?_) (fun m h e => ?_) (fun m h e => ?_)
  · rw [getD_of_lt (by (clear e h2 hl; lia))] at e ⊢
    have := rS_fst (pw_get hl a b)
    simp only [Bool.not_eq_true', decide_eq_false_iff_not] at e ⊢; (clear h2 hl; lia)
  · rw [getD_of_lt h] at e
    simp only [Bool.not_eq_true', decide_eq_false_iff_not] at e
    have e0 : rk 1 = 0 := rfl
    refine ⟨one2, h2 _ (List.getElem_mem h), ?_⟩
    show 3 * w + rk 1 ≤ _
    rw [e0]; (clear e0 h2 hl; lia)
  · rw [getD_of_lt h] at e
    simp only [Bool.not_eq_false', decide_eq_true_eq] at e
    have := rk2 (l[m]'h).2
    refine ⟨h2 _ (List.getElem_mem h), one2, ?_⟩
    show _ ≤ 3 * w + rk 1
    (clear h2 hl; lia)
theorem plL_sorted {l : List Nat} {w : Nat} (hl : l.Pairwise (· ≤ ·)) : (plL l w).Pairwise (· ≤ ·) := by
  unfold plL
  refine insBy_sorted hl (fun m m' a b e => ?_) (fun m h e => ?_) (fun m h e => ?_)
  · rw [getD_of_lt (by (clear e hl; lia))] at e ⊢
    have := pw_get hl a b
    simp only [Bool.not_eq_true', decide_eq_false_iff_not] at e ⊢; (clear hl; lia)
  · rw [getD_of_lt h] at e
    simp only [Bool.not_eq_true', decide_eq_false_iff_not] at e; (clear hl; lia)
  · rw [getD_of_lt h] at e
    simp only [Bool.not_eq_false', decide_eq_true_eq] at e; (clear hl; lia)
theorem plR_sorted {l : List Nat} {w : Nat} (hl : l.Pairwise (· ≤ ·)) : (plR l w).Pairwise (· ≤ ·) := by
  unfold plR
  refine insBy_sorted hl (fun m m' a b e => ?_) (fun m h e => ?_) (fun m h e => ?_)
  · rw [getD_of_lt (by (clear e hl; lia))] at e ⊢
    have := pw_get hl a b
    simp only [decide_eq_true_eq] at e ⊢; (clear hl; lia)
  · rw [getD_of_lt h] at e
    simp only [decide_eq_true_eq] at e; (clear hl; lia)
  · rw [getD_of_lt h] at e
    simp only [decide_eq_false_iff_not] at e; (clear hl; lia)
theorem fold1 : ∀ (ws : List Nat) (S : Shelf), S.1.Pairwise rS → (∀ y ∈ S.1, y.2 = 0) → S.2.Pairwise (· ≤ ·) →
    (ws.foldl lay1 S).1.Pairwise rS ∧ (∀ y ∈ (ws.foldl lay1 S).1, y.2 = 0) ∧ (ws.foldl lay1 S).2.Pairwise (· ≤ ·) ∧ (ws.foldl lay1 S).1.Perm (ws.map (fun w => (w, 0)) ++ S.1) ∧ (ws.foldl lay1 S).2.Perm (ws ++ S.2)
  | [], S, h1, h2, h3 => ⟨h1, h2, h3, .refl _, .refl _⟩
  | w :: ws, S, h1, h2, h3 => by
    have p1 : (shR S.1 (w, 0)).Perm ((w, 0) :: S.1) := insBy_perm _ _ _
    have p2 : (plL S.2 w).Perm (w :: S.2) := insBy_perm _ _ _
    obtain ⟨a1, a2, a3, a4, a5⟩ := fold1 ws (lay1 S w) (shR_sorted h1 (fun y hy => by rw [h2 y hy]; decide) zero2 (fun y hy => by rw [h2 y hy]; exact Nat.le_refl _)) (fun y hy => by
      rcases List.mem_cons.mp (p1.mem_iff.mp hy) with rfl | hy
      · rfl
      · exact h2 y hy) (plL_sorted h3)
    refine ⟨a1, a2, a3, a4.trans ?_, a5.trans ?_⟩
    · exact (List.Perm.append_left _ p1).trans List.perm_middle
    · exact (List.Perm.append_left _ p2).trans List.perm_middle
theorem fold2 : ∀ (ws : List Nat) (S : Shelf), S.1.Pairwise rS → (∀ y ∈ S.1, y.2 ≤ 2) → S.2.Pairwise (· ≤ ·) →
    (ws.foldl lay2 S).1.Pairwise rS ∧ (ws.foldl lay2 S).2.Pairwise (· ≤ ·) ∧ (ws.foldl lay2 S).1.Perm ((ws.flatMap fun w => [(w, 1), (w, 2)]) ++ S.1) ∧ (ws.foldl lay2 S).2.Perm (ws ++ S.2)
  | [], S, h1, h2, h3 => ⟨h1, h3, .refl _, .refl _⟩
  | w :: ws, S, h1, h2, h3 => by
    have p0 : (shL S.1 (w, 1)).Perm ((w, 1) :: S.1) := insBy_perm _ _ _
    have p1 : (shR (shL S.1 (w, 1)) (w, 2)).Perm ((w, 2) :: shL S.1 (w, 1)) := insBy_perm _ _ _
    have p2 : (plR S.2 w).Perm (w :: S.2) := insBy_perm _ _ _
    have q0 : ∀ y ∈ shL S.1 (w, 1), y.2 ≤ 2 := fun y hy => by
      rcases List.mem_cons.mp (p0.mem_iff.mp hy) with rfl | hy
      · exact one2
      · exact h2 y hy
    have q1 : ∀ y ∈ shR (shL S.1 (w, 1)) (w, 2), y.2 ≤ 2 := fun y hy => by
      rcases List.mem_cons.mp (p1.mem_iff.mp hy) with rfl | hy
      · exact two2
      · exact q0 y hy
    obtain ⟨a1, a3, a4, a5⟩ := fold2 ws (lay2 S w) (shR_sorted (shL_sorted h1 h2) q0 two2 (fun y hy => rk2 _)) q1 (plR_sorted h3)
    refine ⟨a1, a3, a4.trans ?_, a5.trans ?_⟩
    · refine (List.Perm.append_left _ (p1.trans (p0.cons _))).trans ?_
      refine List.perm_middle.trans ((List.perm_middle.cons _).trans ?_)
      exact List.Perm.swap _ _ _
    · exact (List.Perm.append_left _ p2).trans List.perm_middle
theorem flat3 : ∀ l : List Nat, (l.flatMap fun w => [(w, 1), (w, 0), (w, 2)]).Perm ((l.flatMap fun w => [(w, 1), (w, 2)]) ++ l.map fun w => (w, 0))
  | [] => .refl _
  | w :: l => by
    have ih := flat3 l
    show ((w, 1) :: (w, 0) :: (w, 2) :: (l.flatMap fun w => [(w, 1), (w, 0), (w, 2)])).Perm ((w, 1) :: (w, 2) :: ((l.flatMap fun w => [(w, 1), (w, 2)]) ++ (w, 0) :: l.map fun w => (w, 0)))
    refine .cons _ ((List.Perm.swap _ _ _).trans (.cons _ ?_))
    exact (ih.cons _).trans List.perm_middle.symm
theorem flat2 : ∀ l : List Nat, (l.flatMap fun w => [w, w]).Perm (l ++ l)
  | [] => .refl _
  | w :: l => by
    have ih := flat2 l
    show (w :: w :: (l.flatMap fun w => [w, w])).Perm (w :: (l ++ w :: l))
    exact .cons _ ((ih.cons _).trans List.perm_middle.symm)
theorem laying {c1 c2 least : List Nat} (h1 : c1.Perm least) (h2 : c2.Perm least) (hs : least.Pairwise (· < ·)) : c2.foldl lay2 (c1.foldl lay1 ([], [])) = (least.flatMap fun w => [(w, 1), (w, 0), (w, 2)], least.flatMap fun w => [w, w]) := by
  obtain ⟨a1, a2, a3, a4, a5⟩ := fold1 c1 ([], []) .nil (fun _ h => by cases h) .nil
  obtain ⟨b1, b3, b4, b5⟩ := fold2 c2 (c1.foldl lay1 ([], [])) a1 (fun y hy => by rw [a2 y hy]; decide) a3
  refine Prod.ext ?_ ?_
  · refine perm_sorted rS_anti (b4.trans ?_) b1 ?_
    · refine List.Perm.trans ?_ (flat3 least).symm
      refine (List.Perm.append_left _ (a4.trans (List.Perm.of_eq (List.append_nil _)))).trans ?_
      exact List.Perm.append (h2.flatMap_right _) (h1.map _)
    · rw [List.pairwise_flatMap]
      refine ⟨fun w _ => ?_, hs.imp fun {x y} h u hu v hv => ?_⟩
      · simp [rS, rk]
      · simp only [List.mem_cons, List.not_mem_nil, or_false] at hu hv
        rcases hu with rfl | rfl | rfl <;> rcases hv with rfl | rfl | rfl <;> (simp only [rS, rk]; simp; try (clear b5 b4 b3 b1 a5 a4 a3 a2 a1 hs h2 h1; lia))
  · refine perm_sorted (r := (· ≤ ·)) (fun x y a b => Nat.le_antisymm a b) (b5.trans ?_) b3 ?_
    · refine List.Perm.trans ?_ (flat2 least).symm
      exact List.Perm.append h2 (a5.trans ((List.Perm.of_eq (List.append_nil _)).trans h1))
    · rw [List.pairwise_flatMap]
      refine ⟨fun w _ => by simp, hs.imp fun {x y} h u hu v hv => ?_⟩
      simp only [List.mem_cons, List.not_mem_nil, or_false] at hu hv
      (clear b5 b4 b3 b1 a5 a4 a3 a2 a1 hs h2 h1; lia)
/-! the sorting -/
theorem isrt_perm (x : Nat) : ∀ l, (isrt x l).Perm (x :: l)
  | [] => .refl _
  | y :: l => by
    unfold isrt
    split
    · exact .refl _
    · exact ((isrt_perm x l).cons _).trans (.swap _ _ _)
theorem srt_perm : ∀ l, (srt l).Perm l
  | [] => .refl _
  | x :: l => (isrt_perm x (srt l)).trans ((srt_perm l).cons _)
theorem incr_pw : ∀ l : List Nat, incr l = true → l.Pairwise (· < ·)
  | [], _ => .nil
  | [x], _ => List.pairwise_singleton _ _
  | x :: y :: l, h => by
    simp only [incr, Bool.and_eq_true, decide_eq_true_eq] at h
    have ih := incr_pw (y :: l) h.2
    refine List.pairwise_cons.mpr ⟨fun z hz => ?_, ih⟩
    rcases List.mem_cons.mp hz with rfl | hz
    · exact h.1
    · exact Nat.lt_trans h.1 ((List.pairwise_cons.mp ih).1 z hz)
end Mine
end
section
open PySem PySem.W PyProof.Rows
set_option linter.unusedVariables false
namespace Mine
/-! which amounts are paid -/
theorem mod_close {a x y : Nat} (h : x % a = y % a) (h1 : x ≤ y) (h2 : y < x + a) : x = y := by
  have e1 := Nat.div_add_mod x a
  have e2 := Nat.div_add_mod y a
  rw [h] at e1
  have h3 : x / a ≤ y / a := Nat.div_le_div_right h1
  rcases Nat.lt_or_ge (x / a) (y / a) with hl | hl
  · have : a * (x / a + 1) ≤ a * (y / a) := Nat.mul_le_mul_left _ hl
    rw [Nat.mul_add] at this; (clear hl h3 h1 h; lia)
  · have : x / a = y / a := by (clear e2 e1 h2 h1 h; lia)
    rw [this] at e1; (clear this hl h3 h2 h1 h; lia)
structure WT (a b c : Nat) (w : Nat → Nat) : Prop where
  ha : 2 ≤ a
  hb : 1 ≤ b
  hc : 1 ≤ c
  h0 : w 0 = 0
  hm : ∀ k < a, w k % a = k
  hle : ∀ k < a, w k ≤ a * b
  h1 : ∀ k < a, w ((k + b) % a) ≤ w k + b
  h2 : ∀ k < a, w ((k + c) % a) ≤ w k + c
  h3 : ∀ k < a, k = 0 ∨ (b ≤ w k ∧ w ((w k - b) % a) ≤ w k - b) ∨ (c ≤ w k ∧ w ((w k - c) % a) ≤ w k - c)
noncomputable def pd (a : Nat) (w : Nat → Nat) (n : Nat) : Bool := decide (w (n % a) ≤ n)
theorem pd_step {a b c : Nat} {w : Nat → Nat} (H : WT a b c w) (k : Nat) : w (k % a) ≤ k ↔ k = 0 ∨ (a ≤ k ∧ w ((k - a) % a) ≤ k - a) ∨ (b ≤ k ∧ w ((k - b) % a) ≤ k - b) ∨ (c ≤ k ∧ w ((k - c) % a) ≤ k - c) := by
  have ha := H.ha
  have hlt : k % a < a := Nat.mod_lt _ (by (clear H; lia))
  constructor
  · intro h
    by_cases hk : k < w (k % a) + a
    · have e : w (k % a) = k := mod_close (H.hm _ hlt) h hk
      rcases H.h3 _ hlt with h0 | h3
      · left; rw [h0, H.h0] at e; exact e.symm
      · rw [e] at h3; right; right; exact h3
    · right; left
      have e : (k - a) % a = k % a := by rw [← Nat.mod_eq_sub_mod (by (clear h hlt ha H; lia))]
      rw [e]
      exact ⟨by (clear e h hlt ha H; lia), by (clear e h hlt ha H; lia)⟩
  · rintro (h | h | h | h)
    · subst h; rw [Nat.zero_mod, H.h0]; exact Nat.le_refl _
    · have e : (k - a) % a = k % a := by rw [← Nat.mod_eq_sub_mod h.1]
      rw [e] at h; (clear ha H; lia)
    · have h1 := H.h1 ((k - b) % a) (Nat.mod_lt _ (by (clear h hlt H; lia)))
      rw [Nat.mod_add_mod, Nat.sub_add_cancel h.1] at h1
      (clear hlt ha H; lia)
    · have h1 := H.h2 ((k - c) % a) (Nat.mod_lt _ (by (clear h hlt H; lia)))
      rw [Nat.mod_add_mod, Nat.sub_add_cancel h.1] at h1
      (clear hlt ha H; lia)
theorem getD_range {α : Type} (f : Nat → α) (d : α) {k n : Nat} (h : n < k) : ((List.range k).map f).getD n d = f n := by
  rw [List.getD_eq_getElem?_getD, List.getElem?_map, List.getElem?_range h]; rfl
theorem empty3 (p : Nat → Bool) (x y z : Nat) : (!([x, y, z].filter p).isEmpty) = (p x || p y || p z) := by
  cases hx : p x <;> cases hy : p y <;> cases hz : p z <;> simp [List.filter, hx, hy, hz]
theorem paidL_pd {a b c : Nat} {w : Nat → Nat} (H : WT a b c w) : ∀ k, paidL [a, b, c] k = (List.range k).map (pd a w)
  | 0 => rfl
  | k + 1 => by
    have ha := H.ha; have hb := H.hb; have hc := H.hc
    rw [paidL, paidL_pd H k, List.range_succ, List.map_append]
    congr 1
    show [_] = [pd a w k]
    congr 1
    unfold paidT
    rw [empty3]
    have g : ∀ o, 1 ≤ o → (decide (o ≤ k) && ((List.range k).map (pd a w)).getD (k - o) false) = decide (o ≤ k ∧ w ((k - o) % a) ≤ k - o) := by
      intro o ho
      by_cases hk : o ≤ k
      · rw [getD_range _ _ (by (clear hc hb ha H; omega))]; simp [hk, pd]
      · simp [hk]
    rw [g a (by (clear g hc hb H; lia)), g b hb, g c hc]
    unfold pd
    have := pd_step H k
    rw [Bool.eq_iff_iff]
    simp only [Bool.or_eq_true, beq_iff_eq, decide_eq_true_eq]
    rw [this]
    simp only [or_assoc]
theorem paid_getD {a b c : Nat} {w : Nat → Nat} (H : WT a b c w) {k n : Nat} (h : n < k) : (paidL [a, b, c] k).getD n false = pd a w n := by
  rw [paidL_pd H, getD_range _ _ h]
/-- the first of a class -/
theorem first_of {a b c : Nat} {w : Nat → Nat} (H : WT a b c w) {k : Nat} (hk : k < a) : (((List.range ((a * b - k) / a + 1)).map fun i => k + i * a).filter fun n => (paidL [a, b, c] (a * b + 9)).getD n false)[0]? = some (w k) := by
  have ha := H.ha
  have hw := H.hle k hk
  have hm := H.hm k hk
  have e1 := Nat.div_add_mod (w k) a
  rw [hm] at e1
  have hkw : k ≤ a * b := by (clear ha hk H; lia)
  have hq : w k / a ≤ (a * b - k) / a := by
    rw [Nat.le_div_iff_mul_le (by (clear hkw e1 hm hw hk H; lia)), Nat.mul_comm]; (clear ha hk H; omega)
  obtain ⟨m, hm2⟩ : ∃ m, (a * b - k) / a + 1 = w k / a + (m + 1) := ⟨(a * b - k) / a - w k / a, by (clear hkw e1 hm hw ha hk H; lia)⟩
  have hmul := Nat.div_mul_le_self (a * b - k) a
  have hpd : ∀ i ≤ (a * b - k) / a, (paidL [a, b, c] (a * b + 9)).getD (k + i * a) false = decide (w k ≤ k + i * a) := by
    intro i hi
    have : i * a ≤ (a * b - k) / a * a := Nat.mul_le_mul_right _ hi
    rw [paid_getD H (by (clear hi hm2 hq e1 hw ha hk H; omega)), pd, Nat.add_mul_mod_self_right, Nat.mod_eq_of_lt hk]
  rw [hm2, List.range_add, List.map_append, List.filter_append]
  have z : (((List.range (w k / a)).map fun i => k + i * a).filter fun n => (paidL [a, b, c] (a * b + 9)).getD n false) = [] := by
    rw [List.filter_eq_nil_iff]
    intro n hn
    obtain ⟨i, hi, rfl⟩ := List.mem_map.mp hn
    have hi := List.mem_range.mp hi
    rw [hpd i (by (clear hn hpd hmul hkw e1 hm hw ha hk H; lia))]
    have : (i + 1) * a ≤ w k / a * a := Nat.mul_le_mul_right _ hi
    rw [Nat.add_mul, Nat.mul_comm (w k / a)] at this
    simp only [decide_eq_true_eq]; (clear hi hn hpd hmul hm2 hq hkw hw hk H; lia)
  rw [z, List.nil_append, List.range_succ_eq_map, List.map_cons, List.map_cons, List.filter_cons]
  have e2 : k + (w k / a + 0) * a = w k := by rw [Nat.add_zero, Nat.mul_comm]; (clear z hpd hmul hm2 hq hkw hw ha hk H; lia)
  have t : (paidL [a, b, c] (a * b + 9)).getD (k + (w k / a + 0) * a) false = true := by
    rw [hpd _ (by (clear e2 z hpd hmul hkw e1 hm hw ha hk H; lia)), e2]; simp
  rw [if_pos t, e2]; rfl
/-- sums over the least ones -/
theorem perm_sum {least : List Nat} {a : Nat} {w : Nat → Nat} (h : least.Perm ((List.range a).map w)) (g : Nat → Nat) : (least.map g).sum = sm a fun k => g (w k) := by
  rw [(h.map g).sum_nat, List.map_map]; rfl
/-- all amounts of a class below T that are not paid -/
theorem unpaid_class {a w k T : Nat} (ha : 0 < a) (hk : k < a) (hm : w % a = k) (hT : w ≤ T) : sm T (fun n => if n % a = k then (if w ≤ n then 0 else 1) else 0) = w / a := by
  have e1 := Nat.div_add_mod w a
  rw [hm] at e1
  have z : sm T (fun n => if n % a = k then (if w ≤ n then 0 else 1) else 0) = sm w (fun n => if n % a = k % a then (if k ≤ n then 1 else 0) else 0) := by
    obtain ⟨U, rfl⟩ : ∃ U, T = w + U := ⟨T - w, by (clear e1 hm hk ha; lia)⟩
    rw [sm_plus, sm_congr (T := U) (h := fun _ => 0) (fun n hn => by rw [if_pos (Nat.le_add_right w n)]; split <;> rfl), sm_const0, Nat.add_zero]
    refine sm_congr fun n hn => ?_
    rw [if_neg (by (clear hT e1 hm hk ha; lia) : ¬ w ≤ n), Nat.mod_eq_of_lt hk]
    by_cases h : n % a = k
    · rw [if_pos h, if_pos h, if_pos (by rw [← h]; exact Nat.mod_le _ _)]
    · rw [if_neg h, if_neg h]
  rw [z]
  rcases Nat.lt_or_ge k w with h | h
  · rw [sm_class' ha _ h]
    have c1 : ∀ n, sm n (fun _ => 1) = n := fun n => by
      induction n with
      | zero => rfl
      | succ n ih => rw [sm_succ, ih]
    rw [c1]
    have h1 : w / a ≠ 0 := fun e => by rw [e, Nat.mul_zero] at e1; (clear e c1 z hT hk ha; lia)
    obtain ⟨m, hm⟩ : ∃ m, w / a = m + 1 := Nat.exists_eq_succ_of_ne_zero h1
    rw [hm, Nat.mul_add] at e1
    have : w - 1 - k = (a - 1) + a * m := by (clear hm h1 c1 z hT hk; lia)
    rw [hm, this, Nat.add_mul_div_left _ _ ha, Nat.div_eq_of_lt (by (clear hm h1 c1 h z hT hk; omega))]; (clear this hm e1 h1 c1 h z hT hk ha; lia)
  · rw [sm_class0 _ h]
    have : w < a := by (clear z hT ha; lia)
    rw [Nat.div_eq_of_lt this]
theorem paid_class {a w k n : Nat} (f : Nat → Nat) (ha : 0 < a) (hm : w % a = k) : sm (n + 1) (fun m => if m % a = k then (if w ≤ m then f m else 0) else 0) = if w ≤ n then sm ((n - w) / a + 1) (fun j => f (w + j * a)) else 0 := by
  subst hm
  by_cases h : w ≤ n
  · rw [if_pos h, sm_class' ha f (by (clear ha; lia) : w < n + 1)]
    have : n + 1 - 1 - w = n - w := by (clear ha; lia)
    rw [this]
  · rw [if_neg h, sm_class0 f (by (clear ha; lia))]
theorem pd_rests {a : Nat} {w : Nat → Nat} (ha : 0 < a) (f g : Nat → Nat) (T : Nat) : sm T (fun n => if pd a w n = true then f n else g n) = sm a (fun k => sm T (fun n => if n % a = k then (if w k ≤ n then f n else g n) else 0)) := by
  rw [sm_rests T a ha]
  refine sm_congr fun k _ => sm_congr fun n _ => ?_
  by_cases h : n % a = k
  · rw [if_pos h, if_pos h]
    unfold pd
    rw [h]
    by_cases h' : w k ≤ n
    · rw [if_pos h', if_pos (by simpa using h')]
    · rw [if_neg h', if_neg (by simpa using h')]
  · rw [if_neg h, if_neg h]
theorem sm_one' : ∀ n, sm n (fun _ => 1) = n := fun n => by
  induction n with
  | zero => rfl
  | succ n ih => rw [sm_succ, ih]
theorem count_un {a b c : Nat} {w : Nat → Nat} (H : WT a b c w) {T N : Nat} (hT : ∀ k < a, w k ≤ T) (hN : T ≤ N) : sm a (fun k => w k / a) = ((List.range T).filter fun n => !(paidL [a, b, c] N).getD n false).length := by
  have ha := H.ha
  rw [filter_len, sm_congr (T := T) (h := fun n => if pd a w n = true then 0 else 1) fun n hn => by rw [paid_getD H (by (clear ha hT H; lia))]; cases pd a w n <;> rfl, pd_rests (by (clear hN hT H; lia)) (fun _ => 0) (fun _ => 1)]
  exact sm_congr fun k hk => (unpaid_class (by (clear hk hN hT H; lia)) hk (H.hm k hk) (hT k hk)).symm
theorem count_pd {a b c : Nat} {w : Nat → Nat} (H : WT a b c w) {n N : Nat} (hN : n < N) : sm a (fun k => if w k ≤ n then (n - w k) / a + 1 else 0) = ((List.range (n + 1)).filter fun n => (paidL [a, b, c] N).getD n false).length := by
  have ha := H.ha
  rw [filter_len, sm_congr (T := n + 1) (h := fun n => if pd a w n = true then 1 else 0) fun m hm => by rw [paid_getD H (by (clear ha H; lia))], pd_rests (by (clear hN H; lia)) (fun _ => 1) (fun _ => 0)]
  refine sm_congr fun k hk => ?_
  rw [paid_class (fun _ => 1) (by (clear hk hN H; lia)) (H.hm k hk), sm_one']
end Mine
end
section
open PySem PySem.W PyProof.Rows
set_option linter.unusedVariables false
namespace Mine
noncomputable def qn (p : Nat → Bool) : Nat → Nat
  | 0 => if p 0 = true then 1 else 0
  | t + 1 => 16 * qn p t + (if p (t + 1) = true then 1 else 0)
theorem qn_sm (p : Nat → Bool) : ∀ t, qn p t = sm (t + 1) (fun n => if p n = true then 16 ^ (t - n) else 0)
  | 0 => by rw [sm_succ, sm_zero]; simp [qn]
  | t + 1 => by
    rw [qn, qn_sm p t, sm_succ (t + 1), ← sm_mul]
    congr 1
    · refine sm_congr fun n hn => ?_
      by_cases h : p n = true
      · rw [if_pos h, if_pos h, ← Nat.pow_succ']
        congr 1; (clear h; lia)
      · rw [if_neg h, if_neg h]
    · rw [Nat.sub_self, Nat.pow_zero]
noncomputable def rn (a : Nat) : Nat := sm a fun i => 16 ^ i
theorem rn15 : ∀ a, 15 * rn a + 1 = 16 ^ a
  | 0 => rfl
  | a + 1 => by
    have ih := rn15 a
    have e : rn (a + 1) = rn a + 16 ^ a := sm_succ _ _
    rw [e, Nat.pow_succ]; (clear e; lia)
theorem rn_turn : ∀ a < 10, ∀ z < a, sm a (fun k => 16 ^ ((z + a - k) % a)) = rn a := by decide +kernel
theorem turn {a t w k : Nat} (ha : 0 < a) (hk : k < a) (hm : w % a = k) (h : w ≤ t) : (t - w) % a = (t % a + a - k) % a := by
  have hu : (t - w) % a < a := Nat.mod_lt _ ha
  have e : (w + (t - w)) % a = t % a := by rw [Nat.add_sub_cancel' h]
  rw [Nat.add_mod, hm] at e
  generalize (t - w) % a = u at hu e ⊢
  rw [← e]
  rcases Nat.lt_or_ge (k + u) a with h1 | h1
  · rw [Nat.mod_eq_of_lt h1]
    have : k + u + a - k = u + a := by (clear h1 e h ha; lia)
    rw [this, Nat.add_mod_right, Nat.mod_eq_of_lt hu]
  · rw [Nat.mod_eq_sub_mod h1, Nat.mod_eq_of_lt (by (clear e h ha; lia) : k + u - a < a)]
    have : k + u - a + a - k = u := by (clear e hu h ha; lia)
    rw [this, Nat.mod_eq_of_lt hu]
theorem word_sum {a b c : Nat} {w : Nat → Nat} (H : WT a b c w) (a9 : a ≤ 9) {t : Nat} (hT : ∀ k < a, w k ≤ t) : sm a (fun k => 16 ^ (t + a - w k)) = (16 ^ a - 1) * qn (pd a w) t + rn a := by
  have ha := H.ha
  rw [qn_sm, pd_rests (by (clear hT H; lia)) (fun n => 16 ^ (t - n)) (fun _ => 0), ← sm_mul, ← rn_turn a (by (clear hT H; lia)) (t % a) (Nat.mod_lt _ (by (clear hT H; lia))), ← sm_add]
  refine sm_congr fun k hk => ?_
  have hw := hT k hk
  rw [paid_class (fun n => 16 ^ (t - n)) (by (clear hw hk hT H; lia)) (H.hm k hk), if_pos hw, ← turn (by (clear hw hk hT H; lia)) hk (H.hm k hk) hw]
  have e := Nat.div_add_mod (t - w k) a
  have h1 := tele a 0 (by (clear e hw hk hT H; lia)) ((t - w k) / a) ((t - w k) % a) (Nat.mod_lt _ (by (clear e hw hk hT H; lia)))
  rw [Nat.mul_comm] at e
  have e2 : (t - w k) / a * a + (t - w k) % a + a = t + a - w k := by (clear h1 ha hT a9 H; lia)
  rw [e2] at h1
  rw [← h1]
  congr 2
  refine sm_congr fun j hj => ?_
  congr 1; (clear hj h1 hw hk hT H; lia)
/-! the word's letters -/
theorem apF_zero : ∀ (f : Nat) (acc : List UInt8), apF f 0 acc = acc
  | 0, _ => rfl
  | f + 1, acc => by unfold apF; rw [if_pos rfl]
theorem apF_acc : ∀ (f n : Nat) (acc : List UInt8), apF f n acc = apF f n [] ++ acc
  | 0, n, acc => rfl
  | f + 1, n, acc => by
    unfold apF
    by_cases h : n = 0
    · rw [if_pos h, if_pos h]; rfl
    · rw [if_neg h, if_neg h, apF_acc f (n / 16) (_ :: acc), apF_acc f (n / 16) [_], List.append_assoc]; rfl
theorem apF_step (f x d : Nat) (hd : d < 16) (h : 16 * x + d ≠ 0) : apF (f + 1) (16 * x + d) [] = apF f x [] ++ [UInt8.ofNat (65 + d)] := by
  have e1 : (16 * x + d) / 16 = x := by (clear h; lia)
  have e2 : (16 * x + d) % 16 = d := by (clear h hd; lia)
  conv => lhs; unfold apF
  rw [if_neg h, e1, e2, apF_acc]
noncomputable def lt8 (p : Nat → Bool) (n : Nat) : UInt8 := UInt8.ofNat (65 + if p n = true then 1 else 0)
theorem qn_pos {p : Nat → Bool} (h0 : p 0 = true) : ∀ t, 1 ≤ qn p t
  | 0 => by unfold qn; rw [if_pos h0]; exact Nat.le_refl _
  | t + 1 => by have := qn_pos h0 t; unfold qn; (clear h0; lia)
theorem qn_lt (p : Nat → Bool) : ∀ t, qn p t + 1 < 16 ^ (t + 1)
  | 0 => by unfold qn; split <;> decide
  | t + 1 => by
    have := qn_lt p t
    unfold qn
    rw [Nat.pow_succ]
    split <;> lia
theorem apF_qn {p : Nat → Bool} (h0 : p 0 = true) : ∀ t f, t < f → apF f (qn p t) [] = (List.range (t + 1)).map (lt8 p)
  | 0, f + 1, _ => by
    have e : qn p 0 = 16 * 0 + 1 := by unfold qn; rw [if_pos h0]
    rw [e, apF_step _ _ _ (by decide) (by decide), apF_zero]
    show [UInt8.ofNat (65 + 1)] = [lt8 p 0]
    unfold lt8; rw [if_pos h0]
  | t + 1, f + 1, h => by
    have := qn_pos h0 t
    rw [qn, apF_step _ _ _ (by split <;> (clear this h h0; lia)) (by (clear h h0; lia)), apF_qn h0 t f (by (clear this h0; lia)), List.range_succ (n := t + 1), List.map_append]
    rfl
theorem apF_qn1 {p : Nat → Bool} (h0 : p 0 = true) {t f : Nat} (ht : p (t + 1) = true) (h : t + 1 < f) : apF f (qn p (t + 1) + 1) [] = (List.range (t + 1)).map (lt8 p) ++ [67] := by
  obtain ⟨g, rfl⟩ : ∃ g, f = g + 1 := ⟨f - 1, by (clear ht h0; lia)⟩
  have e : qn p (t + 1) + 1 = 16 * qn p t + 2 := by rw [qn, if_pos ht]
  rw [e, apF_step _ _ _ (by decide) (by (clear e h ht h0; lia)), apF_qn h0 t g (by (clear e ht h0; lia))]
  rfl
theorem apF_rn : ∀ a < 10, apF 1000 (rn a) [] = List.replicate a 66 ∧ apF 1000 (16 ^ a - 1 - rn a) [] = List.replicate a 79 := by decide +kernel
theorem letters_eq (p : Nat → Bool) (n : Nat) : byteArr ((List.range n).map fun n => 65 + (if p n = true then 1 else 0)) = ((List.range n).map (lt8 p)).toArray := by
  unfold byteArr
  rw [List.map_map]
  congr 1
  refine List.map_congr_left fun m _ => ?_
  simp only [Function.comp, lt8]
  split <;> rfl
theorem picked_last (l : List UInt8) (x : UInt8) : KBy.picked (l ++ [x]).toArray none (some (-1)) = l.toArray := by
  rw [KBc.picked_eq]
  congr 1
  have e : clipAt (l ++ [x]).toArray.size (-1) = l.length := by
    unfold clipAt; simp; lia
  show (((l ++ [x]).toArray.toList.drop 0).take (clipAt (l ++ [x]).toArray.size (-1) - 0)) = l
  rw [e]; simp
theorem castsum (g : Nat → Nat) : ∀ l : List Nat, (l.map fun w => ((g w : Nat) : Int)).sum = (((l.map g).sum : Nat) : Int)
  | [] => rfl
  | x :: l => by rw [List.map_cons, List.sum_cons, castsum g l, List.map_cons, List.sum_cons]; push_cast; rfl
theorem bitsD : ∀ a < 10, 2 ≤ a → Builtin.Int.intBits ((16 : Int) ^ a - 1) = 4 * a := by decide +kernel
theorem fdm {x y q r : Int} (h : 0 < y) (e : x = y * q + r) (h1 : 0 ≤ r) (h2 : r < y) : x.fdiv y = q ∧ x.fmod y = r := (Int.fdiv_fmod_unique h).mpr ⟨by rw [e]; (clear h2 h1 e h; lia), h1, h2⟩
theorem fdm' {x y q r : Int} (h : y < 0) (e : x = y * q + r) (h1 : y < r) (h2 : r ≤ 0) : x.fdiv y = q ∧ x.fmod y = r := (Int.fdiv_fmod_unique' h).mpr ⟨by rw [e]; (clear h2 h1 e h; lia), h1, h2⟩
end Mine
end
section
open PySem PySem.W PyProof.Rows
set_option linter.unusedVariables false
namespace Mine
theorem word {a b c : Nat} {w : Nat → Nat} (H : WT a b c w) (a9 : a ≤ 9) (b20 : b ≤ 20) {top : Nat} (hT : ∀ k < a, w k ≤ top) (htb : top ≤ a * b + 8) (fr un : Int) (hf : fr = 1 ∨ fr = -1) (hu : un = 1 ∨ un = -1) (S : Int) (hS : S = (sm a (fun k => 16 ^ (top + a - w k)) : Nat)) :
    DmOk (fr * S) (un * (16 ^ a - 1)) ∧ 0 < (fr * S).fmod (un * (16 ^ a - 1)) * un ∧ decide ((fr * S).fdiv (un * (16 ^ a - 1)) > 0) = (fr == un) ∧ (((fr * S).fdiv (un * (16 ^ a - 1))).natAbs < 16 ^ 1000 ∧ ((fr * S).fmod (un * (16 ^ a - 1))).natAbs < 16 ^ 1000) ∧
    (apF 1000 ((fr * S).fdiv (un * (16 ^ a - 1))).natAbs []).toArray = (if fr = un then byteArr ((List.range (top + 1)).map fun n => 65 + (if (paidL [a, b, c] (a * b + 9)).getD n false then 1 else 0)) else KBy.picked (byteArr ((List.range (top + 1)).map fun n => 65 + (if (paidL [a, b, c] (a * b + 9)).getD n false then 1 else 0))) none (some (-1)) ++ ([67] : List UInt8).toArray) ∧
    apF 1000 ((fr * S).fmod (un * (16 ^ a - 1))).natAbs [] = List.replicate a (if fr = un then 66 else 79) := by
  have ha := H.ha
  have hL : byteArr ((List.range (top + 1)).map fun n => 65 + (if (paidL [a, b, c] (a * b + 9)).getD n false then 1 else 0)) = ((List.range (top + 1)).map (lt8 (pd a w))).toArray := by
    rw [← letters_eq]
    congr 1
    refine List.map_congr_left fun n hn => ?_
    rw [paid_getD H (by have := List.mem_range.mp hn; (clear hn ha hS hu hf hT b20 a9 H; lia))]
  rw [hL]
  have hsum := word_sum H a9 hT
  have hp0 : pd a w 0 = true := by unfold pd; rw [Nat.zero_mod, H.h0]; rfl
  have hpt : pd a w top = true := by unfold pd; exact decide_eq_true (hT _ (Nat.mod_lt _ (by (clear hp0 hsum hL hS hu hf htb hT b20 H; lia))))
  have hab : a * b ≤ 9 * 20 := Nat.mul_le_mul a9 b20
  have hab2 : a * b ≤ a * 20 := Nat.mul_le_mul_left _ b20
  have ht1 : 1 ≤ top := by
    have h1 := hT (a - 1) (by (clear hab2 hab hpt hp0 hsum hL hS hu hf htb hT b20 H; lia))
    have h2 := H.hm (a - 1) (by (clear h1 hab2 hab hpt hp0 hsum hL hS hu hf htb hT b20 H; lia))
    have h3 := Nat.mod_le (w (a - 1)) a
    (clear hab2 hab hpt hp0 hsum hL hS hu hf htb hT b20 H; lia)
  obtain ⟨t, rfl⟩ : ∃ t, top = t + 1 := ⟨top - 1, by (clear hab2 hab hpt hp0 hsum hL ha hS hu hf htb hT b20 a9 H; lia)⟩
  have hq1 := qn_pos hp0 (t + 1)
  have hq2 := qn_lt (pd a w) (t + 1)
  have h15 := rn15 a
  have hP : 16 ^ 2 ≤ 16 ^ a := Nat.pow_le_pow_right (by decide) ha
  have hP2 : 16 ^ a ≤ 16 ^ 1000 := Nat.pow_le_pow_right (by decide) (by (clear hP h15 hq2 hq1 ht1 hpt hsum hL hS htb hT hab2 hab hp0 hu hf b20 H; lia))
  have hP3 : 16 ^ (t + 1 + 1) ≤ 16 ^ 1000 := Nat.pow_le_pow_right (by decide) (by (clear hP2 hP h15 hq2 hq1 ht1 hpt hsum hL hS hT hab2 hp0 ha hu hf b20 a9 H; lia))
  have hr := apF_rn a (by (clear hP3 hP2 hP h15 hq2 hq1 ht1 hpt hsum hL hS htb hT hab2 hab hp0 hu hf b20 H; lia))
  generalize (16 : Nat) ^ 1000 = M at hP2 hP3 ⊢
  have hq2 : qn (pd a w) (t + 1) + 1 < 16 ^ (t + 2) := hq2
  have hP3 : 16 ^ (t + 2) ≤ M := hP3
  generalize hZ : 16 ^ (t + 2) = Z at hq2 hP3
  have hSlt : S.natAbs < 16 ^ (t + 2 + a) := by
    rw [hS, hsum, Int.natAbs_natCast]
    have h1 : (16 ^ a - 1) * (qn (pd a w) (t + 1) + 1) ≤ (16 ^ a - 1) * Z := Nat.mul_le_mul_left _ (by (clear hP3 hZ hP2 hr hP h15 hq1 ht1 hpt hsum hL hS htb hT hab2 hab hp0 ha hu hf b20 a9 H; lia))
    rw [Nat.mul_add] at h1
    have h2 : (16 ^ a - 1) * Z + Z = 16 ^ (t + 2 + a) := by
      have e : (16 ^ a - 1) * Z + Z = (16 ^ a - 1 + 1) * Z := by rw [Nat.add_mul, Nat.one_mul]
      rw [e, Nat.sub_add_cancel (by (clear e h1 hP3 hq2 hZ hP2 hr hq1 ht1 hpt hsum hL hS htb hT hab2 hab hp0 ha hu hf b20 a9 H; lia)), ← hZ, ← Nat.pow_add, Nat.add_comm]
    (clear hP3 hZ hP2 hr ht1 hpt hsum hL hS htb hT hab2 hab hp0 ha hu hf b20 a9 H; omega)
  have hbS : Builtin.Int.intBits S ≤ 4 * (t + 2 + a) := intBits_le (by
    have e : (16 : Nat) = 2 ^ 4 := rfl
    rw [e, ← Nat.pow_mul] at hSlt
    exact hSlt)
  have hbD := bitsD a (by (clear hbS hSlt hP3 hq2 hZ hP2 hr hP h15 hq1 ht1 hpt hsum hL hS htb hT hab2 hab hp0 hu hf b20 H; lia)) ha
  have hdm : ∀ x y : Int, Builtin.Int.intBits x = Builtin.Int.intBits S → Builtin.Int.intBits y = 4 * a → y ≠ 0 → DmOk x y := by
    intro x y h1 h2 h3
    refine ⟨h3, by (clear h3 h1 hbD hbS hSlt hP3 hq2 hZ hP2 hr hP h15 hq1 ht1 hpt hsum hL hS htb hT hab2 hab hp0 hu hf b20 H; lia), ?_⟩
    rw [h1, h2]
    have h4 : Builtin.Int.intBits S + 4 * a - 1 ≤ (4 * a) * 100 := by (clear h3 h2 hbD hSlt hP3 hq2 hZ hP2 hr hP h15 hq1 ht1 hpt hsum hL hS hT hp0 hu hf b20 H; lia)
    exact Nat.le_trans (Nat.div_le_div_right h4) (by rw [Nat.mul_div_cancel_left _ (by (clear h4 h3 h2 h1 hbD hbS hSlt hP3 hq2 hZ hP2 hr hP h15 hq1 ht1 hpt hsum hL hS htb hT hab2 hab hp0 hu hf b20 H; lia))]; exact Nat.le_refl _)
  have hn := intBits_neg
  have hD : ((16 : Int) ^ a - 1) = ((16 ^ a - 1 : Nat) : Int) := by
    rw [Int.natCast_sub (by (clear hn hdm hbD hbS hSlt hP3 hq2 hZ hP2 hr hq1 ht1 hpt hsum hL hS htb hT hab2 hab hp0 ha hu hf b20 a9 H; lia))]; push_cast; rfl
  generalize hQ : qn (pd a w) (t + 1) = Q at hq1 hq2 hsum
  have hSe : S = ((16 ^ a - 1 : Nat) : Int) * Q + (rn a : Nat) := by rw [hS, hsum]; push_cast; rfl
  have w1 : (apF 1000 Q []).toArray = ((List.range (t + 1 + 1)).map (lt8 (pd a w))).toArray := by rw [← hQ, apF_qn hp0 _ _ (by (clear hSe hsum hq2 hq1 hQ hD hn hdm hbD hbS hSlt hP3 hZ hP2 hr hP h15 ht1 hpt hL hS hT hab2 hp0 ha hu hf b20 a9 H; lia))]
  have w2 : (apF 1000 (Q + 1) []).toArray = KBy.picked ((List.range (t + 1 + 1)).map (lt8 (pd a w))).toArray none (some (-1)) ++ ([67] : List UInt8).toArray := by
    rw [← hQ, apF_qn1 hp0 hpt (by (clear w1 hSe hsum hq2 hq1 hQ hD hn hdm hbD hbS hSlt hP3 hZ hP2 hr hP h15 ht1 hpt hL hS hT hab2 hp0 ha hu hf b20 a9 H; lia)), List.range_succ (n := t + 1), List.map_append]
    show _ = KBy.picked ((List.range (t + 1)).map (lt8 (pd a w)) ++ [lt8 (pd a w) (t + 1)]).toArray none (some (-1)) ++ _
    rw [picked_last]; simp
  have hD0 : ((16 : Int) ^ a - 1) ≠ 0 := by rw [hD]; (clear w2 w1 hSe hsum hq2 hq1 hQ hD hn hdm hbD hbS hSlt hP3 hZ hP2 hr ht1 hpt hL hS htb hT hab2 hab hp0 ha hu hf b20 a9 H; lia)
  have hrD : rn a < 16 ^ a - 1 ∧ 0 < rn a := by (clear w2 w1 hSe hsum hq2 hq1 hQ hn hdm hbD hbS hSlt hP3 hZ hP2 hr ht1 hpt hL hS htb hT hab2 hab hp0 ha hu hf b20 a9 H; lia)
  have b1 := hdm S _ rfl hbD hD0
  have b2 := hdm (-S) _ (hn S) hbD hD0
  have b3 := hdm S (-((16 : Int) ^ a - 1)) rfl ((hn _).trans hbD) (by (clear b2 b1 hD0 w2 w1 hSe hsum hq2 hq1 hQ hn hdm hbD hbS hSlt hP3 hZ hP2 hr hP h15 ht1 hpt hL hS htb hT hab2 hab hp0 ha hu hf b20 a9 H; lia))
  have b4 := hdm (-S) (-((16 : Int) ^ a - 1)) (hn S) ((hn _).trans hbD) (by (clear b3 b2 b1 hD0 w2 w1 hSe hsum hq2 hq1 hQ hn hdm hbD hbS hSlt hP3 hZ hP2 hr hP h15 ht1 hpt hL hS htb hT hab2 hab hp0 ha hu hf b20 a9 H; lia))
  rw [hD] at b1 b2 b3 b4 ⊢
  generalize hDN : 16 ^ a - 1 = D at *
  rcases hf with rfl | rfl <;> rcases hu with rfl | rfl
  · rw [Int.one_mul, Int.one_mul]
    obtain ⟨e1, e2⟩ := fdm (x := S) (y := (D : Int)) (q := Q) (r := (rn a : Nat)) (by (clear b4 b3 b2 b1 hSe hsum hr hD0 w2 w1 hq2 hq1 hQ hn hdm hbD hbS hSlt hP3 hZ hP2 hP h15 ht1 hpt hL hS htb hT hab2 hab hp0 ha b20 a9 H; lia)) hSe (by (clear b4 b3 b2 b1 hSe hsum hD hr hDN hD0 w2 w1 hq2 hq1 hQ hn hdm hbD hbS hSlt hP3 hZ hP2 hP h15 ht1 hpt hL hS htb hT hab2 hab hp0 ha b20 a9 H; lia)) (by (clear b4 b3 b2 b1 hSe hsum hr hDN hD0 w2 w1 hq2 hq1 hQ hn hdm hbD hbS hSlt hP3 hZ hP2 hP h15 ht1 hpt hL hS htb hT hab2 hab hp0 ha b20 a9 H; lia))
    rw [e1, e2]
    refine ⟨b1, by (clear e1 b4 b3 b2 b1 hrD hSe hsum hD hr hDN hD0 w2 w1 hq2 hq1 hQ hn hdm hbD hbS hSlt hP3 hZ hP2 ht1 hpt hL hS htb hT hab2 hab hp0 ha b20 a9 H; lia), by rw [decide_eq_true (by (clear e2 b4 b3 b2 b1 hrD hSe hsum hD hr hDN hD0 w2 w1 hq2 hQ hn hdm hbD hbS hSlt hP3 hZ hP2 hP h15 ht1 hpt hL hS htb hT hab2 hab hp0 ha b20 a9 H; lia))]; rfl, ⟨by (clear e2 b4 b3 b2 b1 hrD hSe hsum hD hr hDN hD0 w2 w1 hQ hn hdm hbD hbS hSlt hZ hP2 hP h15 ht1 hpt hL hS htb hT hab2 hab hp0 ha b20 a9 H; lia), by (clear e1 b4 b3 b2 b1 hrD hSe hsum hD hr hDN hD0 w2 w1 hq2 hq1 hQ hn hdm hbD hbS hSlt hP3 hZ ht1 hpt hL hS htb hT hab2 hab hp0 ha b20 a9 H; lia)⟩, ?_, ?_⟩
    · rw [if_pos rfl]; exact w1
    · rw [if_pos rfl]; exact hr.1
  · rw [Int.one_mul, Int.neg_one_mul]
    obtain ⟨e1, e2⟩ := fdm' (x := S) (y := -(D : Int)) (q := -((Q : Int) + 1)) (r := (rn a : Nat) - (D : Int)) (by (clear b4 b3 b2 b1 hSe hsum hr hD0 w2 w1 hq2 hq1 hQ hn hdm hbD hbS hSlt hP3 hZ hP2 hP h15 ht1 hpt hL hS htb hT hab2 hab hp0 ha b20 a9 H; lia)) (by rw [hSe, Int.neg_mul_neg, Int.mul_add]; (clear b4 b3 b2 b1 hrD hSe hsum hD hr hDN hD0 w2 w1 hq2 hq1 hQ hn hdm hbD hbS hSlt hP3 hZ hP2 hP h15 ht1 hpt hL hS htb hT hab2 hab hp0 ha b20 a9 H; lia)) (by (clear b4 b3 b2 b1 hSe hsum hD hr hDN hD0 w2 w1 hq2 hq1 hQ hn hdm hbD hbS hSlt hP3 hZ hP2 hP h15 ht1 hpt hL hS htb hT hab2 hab hp0 ha b20 a9 H; lia)) (by (clear b4 b3 b2 b1 hSe hsum hr hDN hD0 w2 w1 hq2 hq1 hQ hn hdm hbD hbS hSlt hP3 hZ hP2 hP h15 ht1 hpt hL hS htb hT hab2 hab hp0 ha b20 a9 H; lia))
    rw [e1, e2]
    have n1 : (-((Q : Int) + 1)).natAbs = Q + 1 := by (clear e2 b4 b3 b2 b1 hrD hSe hsum hD hr hDN hD0 w2 w1 hq2 hQ hn hdm hbD hbS hSlt hP3 hZ hP2 hP h15 ht1 hpt hL hS htb hT hab2 hab hp0 ha b20 a9 H; lia)
    have n2 : ((rn a : Nat) - (D : Int)).natAbs = D - rn a := by (clear n1 e1 b4 b3 b2 b1 hSe hsum hr hDN hD0 w2 w1 hq2 hq1 hQ hn hdm hbD hbS hSlt hP3 hZ hP2 hP h15 ht1 hpt hL hS htb hT hab2 hab hp0 ha b20 a9 H; lia)
    rw [n1, n2]
    refine ⟨b3, by (clear n2 n1 e1 b4 b3 b2 b1 hSe hsum hr hDN hD0 w2 w1 hq2 hq1 hQ hn hdm hbD hbS hSlt hP3 hZ hP2 hP h15 ht1 hpt hL hS htb hT hab2 hab hp0 ha b20 a9 H; lia), by rw [decide_eq_false (by (clear n2 e2 b4 b3 b2 b1 hrD hSe hsum hD hr hDN hD0 w2 w1 hq2 hQ hn hdm hbD hbS hSlt hP3 hZ hP2 hP h15 ht1 hpt hL hS htb hT hab2 hab hp0 ha b20 a9 H; lia))]; rfl, ⟨by (clear n2 e2 b4 b3 b2 b1 hrD hSe hsum hD hr hDN hD0 w2 w1 hq1 hQ hn hdm hbD hbS hSlt hZ hP2 hP h15 ht1 hpt hL hS htb hT hab2 hab hp0 ha b20 a9 H; lia), by (clear n2 b4 b3 b2 b1 hSe hsum hr hD0 w2 w1 hq2 hn hdm hbD hbS hSlt hP3 hZ ht1 hpt hL hS htb hT hab2 hab hp0 ha b20 a9 H; lia)⟩, ?_, ?_⟩
    · rw [if_neg (by decide)]; exact w2
    · rw [if_neg (by decide)]; exact hr.2
  · rw [Int.one_mul, Int.neg_one_mul]
    obtain ⟨e1, e2⟩ := fdm (x := -S) (y := (D : Int)) (q := -((Q : Int) + 1)) (r := (D : Int) - (rn a : Nat)) (by (clear b4 b3 b2 b1 hSe hsum hr hD0 w2 w1 hq2 hq1 hQ hn hdm hbD hbS hSlt hP3 hZ hP2 hP h15 ht1 hpt hL hS htb hT hab2 hab hp0 ha b20 a9 H; lia)) (by rw [hSe, Int.mul_neg, Int.mul_add]; (clear b4 b3 b2 b1 hrD hSe hsum hD hr hDN hD0 w2 w1 hq2 hq1 hQ hn hdm hbD hbS hSlt hP3 hZ hP2 hP h15 ht1 hpt hL hS htb hT hab2 hab hp0 ha b20 a9 H; lia)) (by (clear b4 b3 b2 b1 hSe hsum hr hDN hD0 w2 w1 hq2 hq1 hQ hn hdm hbD hbS hSlt hP3 hZ hP2 hP h15 ht1 hpt hL hS htb hT hab2 hab hp0 ha b20 a9 H; lia)) (by (clear b4 b3 b2 b1 hSe hsum hD hr hDN hD0 w2 w1 hq2 hq1 hQ hn hdm hbD hbS hSlt hP3 hZ hP2 hP h15 ht1 hpt hL hS htb hT hab2 hab hp0 ha b20 a9 H; lia))
    rw [e1, e2]
    have n1 : (-((Q : Int) + 1)).natAbs = Q + 1 := by (clear e2 b4 b3 b2 b1 hrD hSe hsum hD hr hDN hD0 w2 w1 hq2 hQ hn hdm hbD hbS hSlt hP3 hZ hP2 hP h15 ht1 hpt hL hS htb hT hab2 hab hp0 ha b20 a9 H; lia)
    have n2 : ((D : Int) - (rn a : Nat)).natAbs = D - rn a := by (clear n1 e1 b4 b3 b2 b1 hSe hsum hr hDN hD0 w2 w1 hq2 hq1 hQ hn hdm hbD hbS hSlt hP3 hZ hP2 hP h15 ht1 hpt hL hS htb hT hab2 hab hp0 ha b20 a9 H; lia)
    rw [n1, n2]
    refine ⟨b2, by (clear n2 n1 e1 b4 b3 b2 b1 hSe hsum hr hDN hD0 w2 w1 hq2 hq1 hQ hn hdm hbD hbS hSlt hP3 hZ hP2 hP h15 ht1 hpt hL hS htb hT hab2 hab hp0 ha b20 a9 H; lia), by rw [decide_eq_false (by (clear n2 e2 b4 b3 b2 b1 hrD hSe hsum hD hr hDN hD0 w2 w1 hq2 hQ hn hdm hbD hbS hSlt hP3 hZ hP2 hP h15 ht1 hpt hL hS htb hT hab2 hab hp0 ha b20 a9 H; lia))]; rfl, ⟨by (clear n2 e2 b4 b3 b2 b1 hrD hSe hsum hD hr hDN hD0 w2 w1 hq1 hQ hn hdm hbD hbS hSlt hZ hP2 hP h15 ht1 hpt hL hS htb hT hab2 hab hp0 ha b20 a9 H; lia), by (clear n2 b4 b3 b2 b1 hSe hsum hr hD0 w2 w1 hq2 hn hdm hbD hbS hSlt hP3 hZ ht1 hpt hL hS htb hT hab2 hab hp0 ha b20 a9 H; lia)⟩, ?_, ?_⟩
    · rw [if_neg (by decide)]; exact w2
    · rw [if_neg (by decide)]; exact hr.2
  · rw [Int.neg_one_mul, Int.neg_one_mul]
    obtain ⟨e1, e2⟩ := fdm' (x := -S) (y := -(D : Int)) (q := Q) (r := -((rn a : Nat) : Int)) (by (clear b4 b3 b2 b1 hSe hsum hr hD0 w2 w1 hq2 hq1 hQ hn hdm hbD hbS hSlt hP3 hZ hP2 hP h15 ht1 hpt hL hS htb hT hab2 hab hp0 ha b20 a9 H; lia)) (by rw [hSe, Int.neg_mul]; (clear b4 b3 b2 b1 hrD hSe hsum hD hr hDN hD0 w2 w1 hq2 hq1 hQ hn hdm hbD hbS hSlt hP3 hZ hP2 hP h15 ht1 hpt hL hS htb hT hab2 hab hp0 ha b20 a9 H; lia)) (by (clear b4 b3 b2 b1 hSe hsum hr hDN hD0 w2 w1 hq2 hq1 hQ hn hdm hbD hbS hSlt hP3 hZ hP2 hP h15 ht1 hpt hL hS htb hT hab2 hab hp0 ha b20 a9 H; lia)) (by (clear b4 b3 b2 b1 hSe hsum hD hr hDN hD0 w2 w1 hq2 hq1 hQ hn hdm hbD hbS hSlt hP3 hZ hP2 hP h15 ht1 hpt hL hS htb hT hab2 hab hp0 ha b20 a9 H; lia))
    rw [e1, e2]
    have n2 : (-((rn a : Nat) : Int)).natAbs = rn a := by (clear e1 b4 b3 b2 b1 hrD hSe hsum hD hr hDN hD0 w2 w1 hq2 hq1 hQ hn hdm hbD hbS hSlt hP3 hZ hP2 ht1 hpt hL hS htb hT hab2 hab hp0 ha b20 a9 H; lia)
    rw [n2]
    refine ⟨b4, by (clear e1 b4 b3 b2 b1 hrD hSe hsum hD hr hDN hD0 w2 w1 hq2 hq1 hQ hn hdm hbD hbS hSlt hP3 hZ hP2 ht1 hpt hL hS htb hT hab2 hab hp0 ha b20 a9 H; lia), by rw [decide_eq_true (by (clear n2 e2 b4 b3 b2 b1 hrD hSe hsum hD hr hDN hD0 w2 w1 hq2 hQ hn hdm hbD hbS hSlt hP3 hZ hP2 hP h15 ht1 hpt hL hS htb hT hab2 hab hp0 ha b20 a9 H; lia))]; rfl, ⟨by (clear n2 e2 b4 b3 b2 b1 hrD hSe hsum hD hr hDN hD0 w2 w1 hQ hn hdm hbD hbS hSlt hZ hP2 hP h15 ht1 hpt hL hS htb hT hab2 hab hp0 ha b20 a9 H; lia), by (clear e1 b4 b3 b2 b1 hrD hSe hsum hD hr hDN hD0 w2 w1 hq2 hq1 hQ hn hdm hbD hbS hSlt hP3 hZ ht1 hpt hL hS htb hT hab2 hab hp0 ha b20 a9 H; lia)⟩, ?_, ?_⟩
    · rw [if_pos rfl]; exact w1
    · rw [if_pos rfl]; exact hr.1
end Mine
end
section
open PySem PySem.W PyProof.Rows
set_option linter.unusedVariables false
namespace Mine
theorem fmod_nat' (x : Int) (n : Nat) (h : 0 < n) : ∃ m < n, x.fmod n = (m : Nat) := by
  have h1 := Int.fmod_nonneg_of_pos x (by lia : (0 : Int) < n)
  have h2 := Int.fmod_lt_of_pos x (by lia : (0 : Int) < n)
  exact ⟨(x.fmod n).toNat, by omega, by (clear h2 h; omega)⟩
theorem isPerm_perm {l l' : List Nat} (h : l.isPerm l' = true) : l.Perm l' := List.isPerm_iff.mp h
theorem gN_lt (b c : Nat) (r : Nat × Nat) : decide (gN b c r < 0) = Nat.blt (c * r.2) (b * r.1) := by
  rw [Bool.eq_iff_iff, decide_eq_true_eq, Nat.blt_eq]
  unfold gN
  have e1 : (c : Int) * r.2 = ((c * r.2 : Nat) : Int) := by push_cast; rfl
  have e2 : (b : Int) * r.1 = ((b * r.1 : Nat) : Int) := by push_cast; rfl
  rw [e1, e2]; omega
theorem gN_le (b c : Nat) (r : Nat × Nat) : decide (gN b c r ≤ 0) = Nat.ble (c * r.2) (b * r.1) := by
  rw [Bool.eq_iff_iff, decide_eq_true_eq, Nat.ble_eq]
  unfold gN
  have e1 : (c : Int) * r.2 = ((c * r.2 : Nat) : Int) := by push_cast; rfl
  have e2 : (b : Int) * r.1 = ((b * r.1 : Nat) : Int) := by push_cast; rfl
  rw [e1, e2]; lia
theorem gN_gt (b c : Nat) (r : Nat × Nat) : decide (0 < gN b c r) = !Nat.ble (c * r.2) (b * r.1) := by
  rw [← gN_le, Bool.eq_iff_iff]; simp
theorem pOk_use {rows : List (Nat × Nat)} {i : Nat} (h : pOk rows i = true) : 1 ≤ i ∧ rows[i - 1]? = some (rows.getD (i - 1) (0, 0)) ∧ rows[i]? = some (rows.getD i (0, 0)) ∧ (rows.getD i (0, 0)).1 ≤ (rows.getD (i - 1) (0, 0)).1 ∧ (rows.getD (i - 1) (0, 0)).2 ≤ (rows.getD i (0, 0)).2 ∧ (rows.getD (i - 1) (0, 0)).1 ≤ 1000 ∧ (rows.getD i (0, 0)).2 ≤ 1000 := by
  simp only [pOk, Bool.and_eq_true, decide_eq_true_eq] at h
  obtain ⟨⟨⟨⟨⟨h1, h2⟩, h3⟩, h4⟩, h5⟩, h6⟩ := h
  have g : ∀ m < rows.length, rows[m]? = some (rows.getD m (0, 0)) := fun m hm => by
    rw [List.getD_eq_getElem?_getD, List.getElem?_eq_getElem hm]; rfl
  exact ⟨h1, g _ (by (clear g h3 h4 h5 h6; lia)), g _ h2, h3, h4, h5, h6⟩
theorem chk4_use {a b c : Nat} (ha : 2 ≤ a) (hb : 1 ≤ b) (hc : 1 ≤ c) (h : chk4 a b c = true) : (fLe a b c).Perm ((List.range a).map (fW a b c)) ∧ WT a b c (fW a b c) := by
  simp only [chk4, Bool.and_eq_true, beq_iff_eq] at h
  obtain ⟨⟨h1, h2⟩, h3⟩ := h
  have g : ∀ k < a, cert a b c (fW a b c) k = true := fun k hk => List.all_eq_true.mp h2 k (List.mem_range.mpr hk)
  simp only [cert, Bool.and_eq_true, Bool.or_eq_true, beq_iff_eq, decide_eq_true_eq] at g
  refine ⟨isPerm_perm h1, ha, hb, hc, h3, fun k hk => (g k hk).1.1.1.1, fun k hk => (g k hk).1.1.1.2, fun k hk => (g k hk).1.1.2, fun k hk => (g k hk).1.2, fun k hk => ?_⟩
  rcases (g k hk).2 with (h | h) | h
  · exact .inl h
  · exact .inr (.inl h)
  · exact .inr (.inr h)
theorem take_sum (least : List Nat) (n wr : Nat) (a : Nat) (h1 : ∀ m < wr, ∀ h : m < least.length, least[m] ≤ n) (h2 : ∀ m, wr ≤ m → ∀ h : m < least.length, n < least[m]) : ((least.take wr).map fun w : Nat => ((n : Nat) - w : Int).fdiv a + 1).sum = (((least.map fun w => if w ≤ n then (n - w) / a + 1 else 0).sum : Nat) : Int) := by
  rw [← castsum]
  conv => rhs; rw [← List.take_append_drop wr least, List.map_append, List.sum_append]
  have z : ((least.drop wr).map fun w => (((if w ≤ n then (n - w) / a + 1 else 0 : Nat)) : Int)).sum = 0 := by
    have e : ((least.drop wr).map fun w => (((if w ≤ n then (n - w) / a + 1 else 0 : Nat)) : Int)) = (least.drop wr).map fun _ => (0 : Int) := by
      refine List.map_congr_left fun w hw => ?_
      obtain ⟨m, hm, rfl⟩ := List.mem_iff_getElem.mp hw
      rw [List.length_drop] at hm
      rw [List.getElem_drop]
      have := h2 (wr + m) (by (clear hw hm h2 h1; lia)) (by (clear hw h2 h1; lia))
      rw [if_neg (by (clear hw h2 h1; lia))]; rfl
    rw [e]
    generalize least.drop wr = l
    induction l with
    | nil => rfl
    | cons x l ih => rw [List.map_cons, List.sum_cons, ih]; rfl
  rw [z, Int.add_zero]
  congr 1
  refine List.map_congr_left fun w hw => ?_
  obtain ⟨m, hm, rfl⟩ := List.mem_iff_getElem.mp hw
  rw [List.length_take] at hm
  rw [List.getElem_take]
  have := h1 m (by (clear hw z h2 h1; lia)) (by (clear hw z h2 h1; lia))
  rw [if_pos this]
  have e : ((n : Nat) - (least[m]'(by (clear this hw z h2 h1; lia)) : Nat) : Int) = ((n - least[m]'(by (clear this hw z h2 h1; lia)) : Nat) : Int) := by (clear hw z h2 h1; lia)
  rw [e, Int.fdiv_eq_ediv_of_nonneg _ (by (clear e this hw z h2 h1; lia))]; push_cast; rfl
theorem sgn (x : Int) : 1 - x.fmod 2 * 2 = 1 ∨ 1 - x.fmod 2 * 2 = -1 := by
  obtain ⟨m, hm, e⟩ := fmod_nat' x 2 (by decide)
  have e : x.fmod 2 = m := e
  rw [e]; lia
theorem facts1 (ns : List Int) (hns : ns.length ≤ 63) : Nonempty (F1 ns) := by
  obtain ⟨x0, x1, x2, x3, x4, hcs⟩ : ∃ x0 x1 x2 x3 x4, cellsOf ns [5, 3, 10, 110, 2] = [x0, x1, x2, x3, x4] := by
    unfold cellsOf
    exact ⟨_, _, _, _, _, rfl⟩
  obtain ⟨y0, hy0, e0⟩ := fmod_nat' x0 8 (by decide)
  obtain ⟨y1, hy1, e1⟩ := fmod_nat' x1 9 (by decide)
  obtain ⟨y2, hy2, e2⟩ := fmod_nat' x2 25 (by decide)
  obtain ⟨y3, hy3, e3⟩ := fmod_nat' x3 6 (by decide)
  obtain ⟨a, ha⟩ : ∃ a, a = 2 + y0 := ⟨_, rfl⟩
  obtain ⟨low, hlow⟩ : ∃ low, low = 2 + y1 := ⟨_, rfl⟩
  obtain ⟨c, hc⟩ : ∃ c, c = 1 + y2 := ⟨_, rfl⟩
  obtain ⟨b, hb, b2, b20, k1, k2, k3, k4⟩ := checked (a := a) (low := low) (c := c) (by (clear hc hlow e3 hy3 e2 hy2 e1 hy1 hcs hns; lia)) (by (clear hc ha e3 hy3 e2 hy2 e0 hy0 hcs hns; lia)) (by (clear hlow ha e3 hy3 e1 hy1 e0 hy0 hcs hns; lia))
  obtain ⟨hperm, H⟩ := chk4_use (by (clear k4 k3 k2 k1 b20 b2 hb hc hlow e3 hy3 e2 hy2 e1 hy1 hcs hns; lia)) (by (clear k4 k3 k2 k1 hb hc hlow ha e3 hy3 e2 hy2 e1 hy1 e0 hy0 hcs hns; lia)) (by (clear k4 k3 k2 k1 b20 b2 hb hlow ha e3 hy3 e1 hy1 e0 hy0 hcs hns; lia)) k4
  simp only [chk1, Bool.and_eq_true, beq_iff_eq, decide_eq_true_eq] at k1
  obtain ⟨⟨⟨⟨hst, sta⟩, hrows⟩, rl1⟩, rl2⟩ := k1
  simp only [chk2, Bool.and_eq_true, beq_iff_eq] at k2
  obtain ⟨⟨⟨hbi1, hbi2⟩, hp1⟩, hp2⟩ := k2
  simp only [chk3, Bool.and_eq_true] at k3
  have hinc := incr_pw _ k3.1
  have hc2 := isPerm_perm k3.2
  have hc1 : (fCo a b c (fFi a b c)).Perm (fLe a b c) := (srt_perm _).symm
  have hl0 : (fLe a b c).length = a := by rw [hperm.length_eq, List.length_map, List.length_range]
  have hl1 := hc1.length_eq
  have hl2 := hc2.length_eq
  have hlay := laying hc1 hc2 hinc
  generalize fLe a b c = least at hperm hinc hc1 hc2 hl0 hl1 hl2 hlay
  generalize fW a b c = w at hperm H
  have hmem : ∀ x ∈ least, ∃ k < a, x = w k := fun x hx => by
    obtain ⟨k, hk, rfl⟩ := List.mem_map.mp (hperm.mem_iff.mp hx)
    exact ⟨k, List.mem_range.mp hk, rfl⟩
  have hmem2 : ∀ k < a, w k ∈ least := fun k hk => hperm.mem_iff.mpr (List.mem_map.mpr ⟨k, List.mem_range.mpr hk, rfl⟩)
  have hpw : ∀ m m' (h : m < m') (h' : m' < least.length), least[m] < least[m'] := fun m m' h h' => pw_get hinc h h'
  obtain ⟨lmax, hlmax⟩ : ∃ lmax, lmax = least[a - 1]'(by (clear hpw hmem2 hmem H hperm hlay hc2 hc1 hinc k3 hbi2 hbi1 hp1 hp2 sta hst hrows rl1 rl2 k4 b20 b2 hb hc hlow e3 hy3 e2 hy2 e1 hy1 hcs hns; lia)) := ⟨_, rfl⟩
  have hle : ∀ x ∈ least, x ≤ lmax := fun x hx => by
    obtain ⟨m, hm, rfl⟩ := List.mem_iff_getElem.mp hx
    rw [hlmax]
    by_cases h : m = a - 1
    · subst h; exact Nat.le_refl _
    · exact Nat.le_of_lt (hpw m (a - 1) (by (clear hx hlmax hpw hmem2 hmem H hperm hlay hc2 hc1 hinc k3 hbi2 hbi1 hp1 hp2 sta hst hrows rl1 rl2 k4 b20 b2 hb hc hlow e3 hy3 e2 hy2 e1 hy1 hcs hns; lia)) (by (clear h hx hm hlmax hpw hmem2 hmem H hperm hlay hc2 hc1 hinc k3 hbi2 hbi1 hp1 hp2 sta hst hrows rl1 rl2 k4 b20 b2 hb hc hlow e3 hy3 e2 hy2 e1 hy1 hcs hns; lia)))
  have hlmem : lmax ∈ least := by rw [hlmax]; exact List.getElem_mem _
  have hlab : lmax ≤ a * b := by
    obtain ⟨k, hk, e⟩ := hmem _ hlmem
    rw [e]; exact H.hle k hk
  obtain ⟨top, htop⟩ : ∃ top, top = lmax + y3 := ⟨_, rfl⟩
  have hTw : ∀ k < a, w k ≤ top := fun k hk => by have := hle _ (hmem2 k hk); (clear hk hlab hlmem hle hpw hmem2 hmem H hperm hlay hc2 hc1 hinc k3 hbi2 hbi1 hp1 hp2 sta hst hrows rl1 rl2 k4 b20 b2 hb hc hlow e2 hy2 e1 hy1 hcs hns; lia)
  have htb : top ≤ a * b + 8 := by (clear hTw hlmem hle hpw hmem2 hmem H hperm hlay hc2 hc1 hinc k3 hbi2 hbi1 hp1 hp2 sta hst hrows rl1 rl2 k4 b20 b2 hb hc hlow e2 hy2 e1 hy1 hcs hns; lia)
  obtain ⟨wd1, wd2, wd3, wd4, wd5, wd6⟩ := word H (by (clear htb hTw htop hlab hlmem hle hlmax hpw hmem2 hmem H hperm hlay hc2 hc1 hinc k3 hbi2 hbi1 hp1 hp2 sta hst hrows rl1 rl2 k4 b20 b2 hb hc hlow e3 hy3 e2 hy2 e1 hy1 hcs hns; lia)) b20 hTw htb (1 - x4.fmod 2 * 2) (1 - (x4.fdiv 2).fmod 2 * 2) (sgn _) (sgn _) ((least.map fun w : Nat => (16 : Int) ^ (top + a - w)).sum) (by
    rw [← perm_sum hperm fun w => 16 ^ (top + a - w), ← castsum]
    congr 1)
  obtain ⟨z, hz, ez⟩ := fmod_nat' (x3.fdiv 6) (top + 4) (by (clear wd6 wd5 wd4 wd3 wd2 wd1 htb hTw htop hlab hlmem hle hlmax hpw hmem2 hmem H hperm hlay hc2 hc1 hinc k3 hbi2 hbi1 hp1 hp2 sta hst hrows rl1 rl2 k4 b20 b2 hb hc hlow e3 hy3 e2 hy2 e1 hy1 hcs hns; lia))
  refine ⟨{
    x0 := x0, x1 := x1, x2 := x2, x3 := x3, x4 := x4, hcs := hcs, a := a, low := low, b := b, c := c
    ha := by rw [ha]; have e0 : x0.fmod 8 = y0 := e0; rw [e0]; push_cast; rfl
    hlow := by rw [hlow]; have e0 : x1.fmod 9 = y1 := e1; rw [e0]; push_cast; rfl
    hc := by rw [hc]; have e0 : x2.fmod 25 = y2 := e2; rw [e0]; push_cast; rfl
    hb := hb, a2 := by (clear ez hz wd6 wd5 wd4 wd3 wd2 wd1 htb hTw htop hlab hlmem hle hlmax hpw hmem2 hmem H hperm hlay hc2 hc1 hinc k3 hbi2 hbi1 hp1 hp2 sta hst hrows rl1 rl2 k4 b20 b2 hb hc hlow e3 hy3 e2 hy2 e1 hy1 hcs hns; lia), b2 := ⟨b2, b20⟩, c2 := by (clear ez hz wd6 wd5 wd4 wd3 wd2 wd1 htb hTw htop hlab hlmem hle hlmax hpw hmem2 hmem H hperm hlay hc2 hc1 hinc k3 hbi2 hbi1 hp1 hp2 sta hst hrows rl1 rl2 k4 b20 b2 hb hlow e3 hy3 e1 hy1 hcs hns; lia), w := w
    hw := fun k hk => first_of H hk
    least := least, hperm := hperm, hsort := hinc.imp fun h => Nat.le_of_lt h, st := fSt a b c, hst := hst, sta := sta, rows := fRows a b c, hrows := hrows, rl := ⟨rl1, rl2⟩
    first := fFi a b c, behind := fBe a b c
    hfirst := by simp only [gN_lt]; exact hbi1
    hfirst2 := by simp only [gN_lt]; rfl
    hbehind := by simp only [gN_gt]; exact hbi2
    hbehind2 := by simp only [gN_le]; rfl
    s1 := _, t1 := _, s2 := _, t2 := _, hp1 := pOk_use hp1, hp2 := pOk_use hp2
    hcl := ⟨by show (fCo a b c (fFi a b c)).length ≤ 100; (clear ez hz wd6 wd5 wd4 wd3 wd2 wd1 htb hTw htop hlab hlmem hle hlmax hpw hmem2 hmem H hperm hlay hc2 hc1 hinc k3 hbi2 hbi1 hp1 hp2 sta hst hrows rl1 rl2 k4 b20 b2 hb hc hlow e3 hy3 e2 hy2 e1 hy1 hcs hns; lia), by show (fCo a b c (fBe a b c)).length ≤ 100; (clear ez hz wd6 wd5 wd4 wd3 wd2 wd1 htb hTw htop hlab hlmem hle hlmax hpw hmem2 hmem H hperm hlay hc2 hc1 hinc k3 hbi2 hbi1 hp1 hp2 sta hst hrows rl1 rl2 k4 b20 b2 hb hc hlow e3 hy3 e2 hy2 e1 hy1 hcs hns; lia)⟩
    hlay := hlay
    hbs1 := fun k hk => ?_, hbs2 := fun k hk => ?_
    lmax := lmax, hlm := ?_, hle := hle, top := top
    htop := by rw [htop]; have e0 : x3.fmod 6 = y3 := e3; rw [e0]; push_cast; rfl
    htb := htb
    hres := ?_
    hsum := ?_
    amount := _, hamt := rfl
    wr := _, hwr := rfl
    hpay := ?_
    fr := _, un := _, hfr := rfl, hun := rfl, q := _, r := _, hq := rfl, hr := rfl, hdm := wd1, hru := wd2, hqs := wd3, hqb := wd4, hw1 := wd5, hw2 := wd6 }⟩
  · refine bis_spec _ _ _ _ (Nat.zero_le _) (Nat.le_refl _) (Nat.le_refl _) (fun m _ h => ?_) (fun m h h' => by (clear hk ez hz wd6 wd5 wd4 wd3 wd2 wd1 htb hTw htop hlab hlmem hle hlmax hpw hmem2 hmem H hperm hlay hc2 hc1 hinc k3 hbi2 hbi1 hp1 hp2 sta hst hrows rl1 rl2 k4 b20 b2 hb hc hlow e3 hy3 e2 hy2 e1 hy1 hcs hns; lia))
    rw [getD_of_lt (by (clear h ez hz wd6 wd5 wd4 wd3 wd2 wd1 htb hTw htop hlab hlmem hle hlmax hpw hmem2 hmem H hperm hlay hc2 hc1 hinc k3 hbi2 hbi1 hp1 hp2 sta hst hrows rl1 rl2 k4 b20 b2 hb hc hlow e3 hy3 e2 hy2 e1 hy1 hcs hns; lia)), getD_of_lt (by (clear ez hz wd6 wd5 wd4 wd3 wd2 wd1 htb hTw htop hlab hlmem hle hlmax hpw hmem2 hmem H hperm hlay hc2 hc1 hinc k3 hbi2 hbi1 hp1 hp2 sta hst hrows rl1 rl2 k4 b20 b2 hb hc hlow e3 hy3 e2 hy2 e1 hy1 hcs hns; lia))]
    have := hpw m k h (by (clear h ez hz wd6 wd5 wd4 wd3 wd2 wd1 htb hTw htop hlab hlmem hle hlmax hpw hmem2 hmem H hperm hlay hc2 hc1 hinc k3 hbi2 hbi1 hp1 hp2 sta hst hrows rl1 rl2 k4 b20 b2 hb hc hlow e3 hy3 e2 hy2 e1 hy1 hcs hns; lia))
    exact decide_eq_false (by (clear ez hz wd6 wd5 wd4 wd3 wd2 wd1 htb hTw htop hlab hlmem hle hlmax hpw hmem2 hmem H hperm hlay hc2 hc1 hinc k3 hbi2 hbi1 hp1 hp2 sta hst hrows rl1 rl2 k4 b20 b2 hb hc hlow e3 hy3 e2 hy2 e1 hy1 hcs hns; lia))
  · refine bis_spec _ _ _ _ (Nat.le_refl _) (by (clear ez hz wd6 wd5 wd4 wd3 wd2 wd1 htb hTw htop hlab hlmem hle hlmax hpw hmem2 hmem H hperm hlay hc2 hc1 hinc k3 hbi2 hbi1 hp1 hp2 sta hst hrows rl1 rl2 k4 b20 b2 hb hc hlow e3 hy3 e2 hy2 e1 hy1 hcs hns; lia)) (Nat.le_refl _) (fun m h h' => by (clear hk ez hz wd6 wd5 wd4 wd3 wd2 wd1 htb hTw htop hlab hlmem hle hlmax hpw hmem2 hmem H hperm hlay hc2 hc1 hinc k3 hbi2 hbi1 hp1 hp2 sta hst hrows rl1 rl2 k4 b20 b2 hb hc hlow e3 hy3 e2 hy2 e1 hy1 hcs hns; lia)) (fun m h h' => ?_)
    rw [getD_of_lt (by (clear h hk ez hz wd6 wd5 wd4 wd3 wd2 wd1 htb hTw htop hlab hlmem hle hlmax hpw hmem2 hmem H hperm hlay hc2 hc1 hinc k3 hbi2 hbi1 hp1 hp2 sta hst hrows rl1 rl2 k4 b20 b2 hb hc hlow e3 hy3 e2 hy2 e1 hy1 hcs hns; lia)), getD_of_lt (by (clear h' h ez hz wd6 wd5 wd4 wd3 wd2 wd1 htb hTw htop hlab hlmem hle hlmax hpw hmem2 hmem H hperm hlay hc2 hc1 hinc k3 hbi2 hbi1 hp1 hp2 sta hst hrows rl1 rl2 k4 b20 b2 hb hc hlow e3 hy3 e2 hy2 e1 hy1 hcs hns; lia))]
    have := hpw k m (by (clear h' hk ez hz wd6 wd5 wd4 wd3 wd2 wd1 htb hTw htop hlab hlmem hle hlmax hpw hmem2 hmem H hperm hlay hc2 hc1 hinc k3 hbi2 hbi1 hp1 hp2 sta hst hrows rl1 rl2 k4 b20 b2 hb hc hlow e3 hy3 e2 hy2 e1 hy1 hcs hns; lia)) (by (clear h hk ez hz wd6 wd5 wd4 wd3 wd2 wd1 htb hTw htop hlab hlmem hle hlmax hpw hmem2 hmem H hperm hlay hc2 hc1 hinc k3 hbi2 hbi1 hp1 hp2 sta hst hrows rl1 rl2 k4 b20 b2 hb hc hlow e3 hy3 e2 hy2 e1 hy1 hcs hns; lia))
    rw [decide_eq_false (by (clear ez hz wd6 wd5 wd4 wd3 wd2 wd1 htb hTw htop hlab hlmem hle hlmax hpw hmem2 hmem H hperm hlay hc2 hc1 hinc k3 hbi2 hbi1 hp1 hp2 sta hst hrows rl1 rl2 k4 b20 b2 hb hc hlow e3 hy3 e2 hy2 e1 hy1 hcs hns; lia))]; rfl
  · unfold seqAt
    rw [if_pos (by decide), List.length_map, hl0, if_pos (by (clear ez hz wd6 wd5 wd4 wd3 wd2 wd1 htb hTw htop hlab hlmem hle hlmax hpw hmem2 hmem H hperm hlay hc2 hc1 hinc k3 hbi2 hbi1 hp1 hp2 sta hst hrows rl1 rl2 k4 b20 b2 hb hc hlow e3 hy3 e2 hy2 e1 hy1 hcs hns; lia))]
    have e : (-1 + (a : Int)).toNat = a - 1 := by (clear ez hz wd6 wd5 wd4 wd3 wd2 wd1 htb hTw htop hlab hlmem hle hlmax hpw hmem2 hmem H hperm hlay hc2 hc1 hinc k3 hbi2 hbi1 hp1 hp2 sta hst hrows rl1 rl2 k4 b20 b2 hb hc hlow e3 hy3 e2 hy2 e1 hy1 hcs hns; lia)
    rw [e, List.getElem?_map, List.getElem?_eq_getElem (by (clear e ez hz wd6 wd5 wd4 wd3 wd2 wd1 htb hTw htop hlab hlmem hle hlmax hpw hmem2 hmem H hperm hlay hc2 hc1 hinc k3 hbi2 hbi1 hp1 hp2 sta hst hrows rl1 rl2 k4 b20 b2 hb hc hlow e3 hy3 e2 hy2 e1 hy1 hcs hns; lia)), hlmax]; rfl
  · refine (hperm.map (· % a)).trans (List.Perm.of_eq ?_)
    rw [List.map_map]
    conv => rhs; rw [← List.map_id (List.range a)]
    refine List.map_congr_left fun k hk => ?_
    exact H.hm k (List.mem_range.mp hk)
  · rw [perm_sum hperm fun w => w / a]
    exact count_un H hTw (by (clear ez hz wd6 wd5 wd4 wd3 wd2 wd1 hTw htop hlab hlmem hle hlmax hpw hmem2 hmem H hperm hlay hc2 hc1 hinc k3 hbi2 hbi1 hp1 hp2 sta hst hrows rl1 rl2 k4 b20 b2 hb hc hlow e3 hy3 e2 hy2 e1 hy1 hcs hns; lia))
  · have e0 : (x3.fdiv 6).fmod (top + 4) = z := ez
    rw [e0]
    have hk : ∀ (A : Int) (n : Nat), n ≤ a → (∀ m < n, ∀ h : m < least.length, (least[m] : Int) ≤ A) → (∀ m, n ≤ m → ∀ h : m < least.length, A < (least[m] : Int)) → bis (fun m => decide (A < (least.getD m 0 : Nat))) (a - 0) 0 a = n := by
      intro A n h0 h1 h2
      refine bis_spec _ _ _ _ (Nat.zero_le _) h0 (Nat.le_refl _) (fun m _ h => ?_) (fun m h h' => ?_)
      · rw [getD_of_lt (by (clear h2 h1 e0 ez hz wd6 wd5 wd4 wd3 wd2 wd1 htb hTw htop hlab hlmem hle hlmax hpw hmem2 hmem H hperm hlay hc2 hc1 hinc k3 hbi2 hbi1 hp1 hp2 sta hst hrows rl1 rl2 k4 b20 b2 hb hc hlow e3 hy3 e2 hy2 e1 hy1 hcs hns; lia))]
        have := h1 m h (by (clear h2 h1 e0 ez hz wd6 wd5 wd4 wd3 wd2 wd1 htb hTw htop hlab hlmem hle hlmax hpw hmem2 hmem H hperm hlay hc2 hc1 hinc k3 hbi2 hbi1 hp1 hp2 sta hst hrows rl1 rl2 k4 b20 b2 hb hc hlow e3 hy3 e2 hy2 e1 hy1 hcs hns; lia))
        exact decide_eq_false (by (clear h2 h1 e0 ez hz wd6 wd5 wd4 wd3 wd2 wd1 htb hTw htop hlab hlmem hle hlmax hpw hmem2 hmem H hperm hlay hc2 hc1 hinc k3 hbi2 hbi1 hp1 hp2 sta hst hrows rl1 rl2 k4 b20 b2 hb hc hlow e3 hy3 e2 hy2 e1 hy1 hcs hns; lia))
      · rw [getD_of_lt (by (clear h h2 h1 h0 e0 ez hz wd6 wd5 wd4 wd3 wd2 wd1 htb hTw htop hlab hlmem hle hlmax hpw hmem2 hmem H hperm hlay hc2 hc1 hinc k3 hbi2 hbi1 hp1 hp2 sta hst hrows rl1 rl2 k4 b20 b2 hb hc hlow e3 hy3 e2 hy2 e1 hy1 hcs hns; lia))]
        exact decide_eq_true (h2 m h (by (clear h h2 h1 h0 e0 ez hz wd6 wd5 wd4 wd3 wd2 wd1 htb hTw htop hlab hlmem hle hlmax hpw hmem2 hmem H hperm hlay hc2 hc1 hinc k3 hbi2 hbi1 hp1 hp2 sta hst hrows rl1 rl2 k4 b20 b2 hb hc hlow e3 hy3 e2 hy2 e1 hy1 hcs hns; lia)))
    rcases Nat.lt_or_ge z 3 with h3 | h3
    · rw [hk _ 0 (by (clear h3 hk e0 ez hz wd6 wd5 wd4 wd3 wd2 wd1 htb hTw htop hlab hlmem hle hlmax hpw hmem2 hmem H hperm hlay hc2 hc1 hinc k3 hbi2 hbi1 hp1 hp2 sta hst hrows rl1 rl2 k4 b20 b2 hb hc hlow e3 hy3 e2 hy2 e1 hy1 hcs hns; lia)) (fun m h => by (clear h3 hk e0 ez hz wd6 wd5 wd4 wd3 wd2 wd1 htb hTw htop hlab hlmem hle hlmax hpw hmem2 hmem H hperm hlay hc2 hc1 hinc k3 hbi2 hbi1 hp1 hp2 sta hst hrows rl1 rl2 k4 b20 b2 hb hc hlow e3 hy3 e2 hy2 e1 hy1 hcs hns; lia)) (fun m _ h => by (clear hk hz wd6 wd5 wd4 wd3 wd2 wd1 htb hTw htop hlab hlmem hle hlmax hpw hmem2 hmem H hperm hlay hc2 hc1 hinc k3 hbi2 hbi1 hp1 hp2 sta hst hrows rl1 rl2 k4 b20 b2 hb hc hlow e3 hy3 e2 hy2 e1 hy1 hcs hns; lia))]
      have : ((z : Int) - 3 + 1).toNat = 0 := by (clear hk hz wd6 wd5 wd4 wd3 wd2 wd1 htb hTw htop hlab hlmem hle hlmax hpw hmem2 hmem H hperm hlay hc2 hc1 hinc k3 hbi2 hbi1 hp1 hp2 sta hst hrows rl1 rl2 k4 b20 b2 hb hc hlow e3 hy3 e2 hy2 e1 hy1 hcs hns; lia)
      rw [this]; rfl
    · obtain ⟨n, rfl⟩ : ∃ n, z = n + 3 := ⟨z - 3, by (clear hk hz wd6 wd5 wd4 wd3 wd2 wd1 htb hTw htop hlab hlmem hle hlmax hpw hmem2 hmem H hperm hlay hc2 hc1 hinc k3 hbi2 hbi1 hp1 hp2 sta hst hrows rl1 rl2 k4 b20 b2 hb hc hlow e3 hy3 e2 hy2 e1 hy1 hcs hns; lia)⟩
      have e : ((n + 3 : Nat) : Int) - 3 = (n : Nat) := by (clear h3 e0 ez hz hk wd6 wd5 wd4 wd3 wd2 wd1 htb hTw htop hlab hlmem hle hlmax hpw hmem2 hmem H hperm hlay hc2 hc1 hinc k3 hbi2 hbi1 hp1 hp2 sta hst hrows rl1 rl2 k4 b20 b2 hb hc hlow e3 hy3 e2 hy2 e1 hy1 hcs hns; lia)
      rw [e]
      obtain ⟨wr, g1, g2, g3⟩ := edge (c := fun m => decide ((n : Int) < (least.getD m 0 : Nat))) a (fun m m' h h' hm => by
        rw [getD_of_lt (by (clear hm e h3 e0 ez hz hk wd6 wd5 wd4 wd3 wd2 wd1 htb hTw htop hlab hlmem hle hlmax hpw hmem2 hmem H hperm hlay hc2 hc1 hinc k3 hbi2 hbi1 hp1 hp2 sta hst hrows rl1 rl2 k4 b20 b2 hb hc hlow e3 hy3 e2 hy2 e1 hy1 hcs hns; lia))] at hm ⊢
        have := hpw m m' h (by (clear hm h e h3 e0 ez hz hk wd6 wd5 wd4 wd3 wd2 wd1 htb hTw htop hlab hlmem hle hlmax hpw hmem2 hmem H hperm hlay hc2 hc1 hinc k3 hbi2 hbi1 hp1 hp2 sta hst hrows rl1 rl2 k4 b20 b2 hb hc hlow e3 hy3 e2 hy2 e1 hy1 hcs hns; lia))
        simp only [decide_eq_true_eq] at hm ⊢; (clear e h3 hz hk wd6 wd5 wd4 wd3 wd2 wd1 htb hTw htop hlab hlmem hle hlmax hpw hmem2 hmem H hperm hlay hc2 hc1 hinc k3 hbi2 hbi1 hp1 hp2 sta hst hrows rl1 rl2 k4 b20 b2 hb hc hlow e3 hy3 e2 hy2 e1 hy1 hcs hns; lia))
      have g2' : ∀ m < wr, ∀ h : m < least.length, least[m] ≤ n := fun m hm h => by
        have := g2 m hm
        rw [getD_of_lt h, decide_eq_false_iff_not] at this; (clear hm g3 g2 g1 e h3 hz hk wd6 wd5 wd4 wd3 wd2 wd1 htb hTw htop hlab hlmem hle hlmax hpw hmem2 hmem H hperm hlay hc2 hc1 hinc k3 hbi2 hbi1 hp1 hp2 sta hst hrows rl1 rl2 k4 b20 b2 hb hc hlow e3 hy3 e2 hy2 e1 hy1 hcs hns; lia)
      have g3' : ∀ m, wr ≤ m → ∀ h : m < least.length, n < least[m] := fun m hm h => by
        have := g3 m hm (by (clear hm g2' g3 g2 g1 e h3 e0 ez hz hk wd6 wd5 wd4 wd3 wd2 wd1 htb hTw htop hlab hlmem hle hlmax hpw hmem2 hmem H hperm hlay hc2 hc1 hinc k3 hbi2 hbi1 hp1 hp2 sta hst hrows rl1 rl2 k4 b20 b2 hb hc hlow e3 hy3 e2 hy2 e1 hy1 hcs hns; lia))
        rw [getD_of_lt h, decide_eq_true_eq] at this; (clear hm g2' g3 g2 g1 e h3 hz hk wd6 wd5 wd4 wd3 wd2 wd1 htb hTw htop hlab hlmem hle hlmax hpw hmem2 hmem H hperm hlay hc2 hc1 hinc k3 hbi2 hbi1 hp1 hp2 sta hst hrows rl1 rl2 k4 b20 b2 hb hc hlow e3 hy3 e2 hy2 e1 hy1 hcs hns; lia)
      rw [hk _ wr g1 (fun m hm h => by have := g2' m hm h; (clear hm g3' g2' g3 g2 g1 e h3 hz hk wd6 wd5 wd4 wd3 wd2 wd1 htb hTw htop hlab hlmem hle hlmax hpw hmem2 hmem H hperm hlay hc2 hc1 hinc k3 hbi2 hbi1 hp1 hp2 sta hst hrows rl1 rl2 k4 b20 b2 hb hc hlow e3 hy3 e2 hy2 e1 hy1 hcs hns; lia)) (fun m hm h => by have := g3' m hm h; (clear hm g3' g2' g3 g2 g1 e h3 hz hk wd6 wd5 wd4 wd3 wd2 wd1 htb hTw htop hlab hlmem hle hlmax hpw hmem2 hmem H hperm hlay hc2 hc1 hinc k3 hbi2 hbi1 hp1 hp2 sta hst hrows rl1 rl2 k4 b20 b2 hb hc hlow e3 hy3 e2 hy2 e1 hy1 hcs hns; lia))]
      rw [take_sum least n wr a g2' g3', perm_sum hperm fun w => if w ≤ n then (n - w) / a + 1 else 0, count_pd H (by (clear g3' g2' g3 g2 g1 e h3 hk wd6 wd5 wd4 wd3 wd2 wd1 hTw htop hlab hlmem hle hlmax hpw hmem2 hmem H hperm hlay hc2 hc1 hinc k3 hbi2 hbi1 hp1 hp2 sta hst hrows rl1 rl2 k4 b20 b2 hb hc hlow e3 hy3 e2 hy2 e1 hy1 hcs hns; lia) : n < a * b + 9)]
      have : ((n : Int) + 1).toNat = n + 1 := by (clear g3' g2' g3 g2 g1 e h3 hz hk wd6 wd5 wd4 wd3 wd2 wd1 htb hTw htop hlab hlmem hle hlmax hpw hmem2 hmem H hperm hlay hc2 hc1 hinc k3 hbi2 hbi1 hp1 hp2 sta hst hrows rl1 rl2 k4 b20 b2 hb hc hlow e3 hy3 e2 hy2 e1 hy1 hcs hns; lia)
      rw [this]
end Mine
end
open PySem PySem.W PyProof.Rows
set_option maxRecDepth 100000 in
set_option maxHeartbeats 8000000 in
theorem PySem.Challenge.cw_ta0036_01_holds : PySem.Challenge.rw_ta0036_01.Holds := by
  w_on
  refine Mine.hd (by rfl) (by rfl) (by rfl) ?_
  w_strict k_go0
  refine' Mine.join (sc := Mine.scLaw) ?hb ?s1 ?s2 ?s3 ?s4 ?s5 ?body ?X ?T ?B ?F ?N ?CA ?hl ?hi ?c1 ?c2 ?c3 ?lt ?hQ
  case X => assumption
  case F => assumption
  case CA => assumption
  case N => assumption
  case hl => assumption
  case hi => assumption
  case T => assumption
  case B => assumption
  case c1 => assumption
  case c2 => assumption
  case c3 => assumption
  case lt => assumption
  case hb => rfl
  case s1 => rfl
  case s2 => rfl
  case s3 => rfl
  case s4 => exact fun c hc => by cases hc; rfl
  case s5 => exact fun q hq => by cases hq; rfl
  case body => exact fun W hW => Mine.law_walk W _ hW _ (by lia) (Classical.choice (Mine.facts1 _ (by lia)))
  case hQ =>
    intro m' h' tk' F' G'
    refine ⟨goodW_bool F' (by assumption) (raisesW_false ?_) ?_, G'⟩
    · wrow_none_raised
    · wrow_post
