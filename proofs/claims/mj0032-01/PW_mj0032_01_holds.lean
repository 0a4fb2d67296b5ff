import PyProof.Rows.All
import Wide.All
import OpenK.AllK
import Wide.FinOn
import PySem.Challenge.RW_mj0032_01
set_option Elab.async false
section
open PySem PySem.W PyProof.Rows
namespace Mine
abbrev P0 : Program := PySem.Challenge.pw_mj0032_01
/-! the parts of the text's defs, by their place -/
def fnAt (i : Nat) : Arguments × List Stmt × Scope := match P0.main.body[i]? with
  | some (.FunctionDef _ a b _ _ _ sc _ _ _) => (a, b, sc)
  | _ => (⟨[], [], none, [], [], none, []⟩, [], ⟨.function, [], false, false, []⟩)
abbrev prm (i : Nat) : Arguments := (fnAt i).1
abbrev bdy (i : Nat) : List Stmt := (fnAt i).2.1
abbrev scp (i : Nat) : Scope := (fnAt i).2.2
def b1Table (led : Bool) : SetTable := { mask := 127, place := #[0, 1, 2, 3, 4, 5, 6, 7, 8, 9, 10, 11, 12, 13, 14, 15, 16, 17, 18, 19, 20, 21, 22, 45, 79, 96, 127], dummies := #[], finger := 0, led := led, moves := 2, plain := true }
/-! what stands behind the top (printed by PrintK.lean) -/
def heapK (P : Params) : Frag :=
  (nat_lit 2, { cls := Value.none, data := Data.dict #[] }) ::
  (nat_lit 3, { cls := Value.type "dict", data := Data.dict #[{ hash := PyData.keyHash P (Str.ofString "__name__"), key := Value.str (Str.ofString "__name__") 165, val := Value.str (Str.ofString "law_mj0032_01") 276 }, { hash := PyData.keyHash P (Str.ofString "__doc__"), key := Value.str (Str.ofString "__doc__") 166, val := Value.none }, { hash := PyData.keyHash P (Str.ofString "__package__"), key := Value.str (Str.ofString "__package__") 167, val := Value.none }, { hash := PyData.keyHash P (Str.ofString "__loader__"), key := Value.str (Str.ofString "__loader__") 168, val := Value.builtin "__main__.__loader__#opaque" }, { hash := PyData.keyHash P (Str.ofString "__spec__"), key := Value.str (Str.ofString "__spec__") 169, val := Value.none }, { hash := PyData.keyHash P (Str.ofString "__annotations__"), key := Value.str (Str.ofString "__annotations__") 170, val := Value.ref 6 }, { hash := PyData.keyHash P (Str.ofString "__builtins__"), key := Value.str (Str.ofString "__builtins__") 171, val := Value.ref 4 }, { hash := PyData.keyHash P (Str.ofString "__file__"), key := Value.str (Str.ofString "__file__") 173, val := Value.str (Str.ofString "/claim/cut.py") 172 }, { hash := PyData.keyHash P (Str.ofString "__cached__"), key := Value.str (Str.ofString "__cached__") 174, val := Value.none }, { hash := PyData.keyHash P (Str.ofString "_norm_version"), key := Value.str (Str.ofString "_norm_version") 199, val := Value.ref 22 }, { hash := PyData.keyHash P (Str.ofString "b1_set"), key := Value.str (Str.ofString "b1_set") 261, val := Value.ref 30 }, { hash := PyData.keyHash P (Str.ofString "in_table_b1"), key := Value.str (Str.ofString "in_table_b1") 268, val := Value.ref 40 }, { hash := PyData.keyHash P (Str.ofString "in_table_c11"), key := Value.str (Str.ofString "in_table_c11") 275, val := Value.ref 47 }, { hash := PyData.keyHash P (Str.ofString "_law_nothing"), key := Value.str (Str.ofString "_law_nothing") 283, val := Value.ref 54 }, { hash := PyData.keyHash P (Str.ofString "_law_drawn"), key := Value.str (Str.ofString "_law_drawn") 296, val := Value.ref 61 }, { hash := PyData.keyHash P (Str.ofString "_law_number"), key := Value.str (Str.ofString "_law_number") 307, val := Value.ref 68 }, { hash := PyData.keyHash P (Str.ofString "_law_version"), key := Value.str (Str.ofString "_law_version") 313, val := Value.ref 73 }, { hash := PyData.keyHash P (Str.ofString "_law_visible"), key := Value.str (Str.ofString "_law_visible") 319, val := Value.ref 78 }, { hash := PyData.keyHash P (Str.ofString "_law_unspaced"), key := Value.str (Str.ofString "_law_unspaced") 325, val := Value.ref 83 }, { hash := PyData.keyHash P (Str.ofString "law"), key := Value.str (Str.ofString "law") 339, val := Value.ref 90 }] 20 }) ::
  (nat_lit 6, { cls := Value.type "dict", data := Data.dict #[] }) ::
  (nat_lit 15, { cls := Value.type "tuple", data := Data.seq #[Value.str (Str.ofString "") 189] }) ::
  (nat_lit 16, { cls := Value.type "tuple", data := Data.seq #[] }) ::
  (nat_lit 18, { cls := Value.type "tuple", data := Data.seq #[Value.str (Str.ofString "version") 193, Value.str (Str.ofString "build") 194, Value.str (Str.ofString "l") 195, Value.str (Str.ofString "strings") 196] }) ::
  (nat_lit 19, { cls := Value.type "tuple", data := Data.seq #[] }) ::
  (nat_lit 21, { cls := Value.type "code", data := Data.fields #[Value.str (Str.ofString "_norm_version") 190, Value.str (Str.ofString "_norm_version") 191, Value.str (Str.ofString "/claim/cut.py") 192, Value.int 2 0, Value.int 2 0, Value.int 0 0, Value.int 0 0, Value.int 3 0, Value.ref 16, Value.bool true, Value.int 181 0, Value.ref 17, Value.none, Value.ref 18, Value.ref 19, Value.ref 20, Value.int 197 0, Value.int 2 0, Value.str (Str.ofString "/claim/cut.py") 198] }) ::
  (nat_lit 22, ⟨Value.type "function", none, Data.func ⟨Str.ofString "_norm_version", Str.ofString "_norm_version", prm 1, FuncBody.stmts (bdy 1), scp 1, 3, [], Value.ref 15, Value.none, Value.none, Value.str (Str.ofString "cpy313.platform") 187, none, Value.ref 21, Value.none, 0⟩, #[]⟩) ::
  (nat_lit 30, ⟨Value.type "set", none, Data.set #[(65024, Value.int 65024 218), (65025, Value.int 65025 219), (65026, Value.int 65026 220), (65027, Value.int 65027 221), (65028, Value.int 65028 222), (65029, Value.int 65029 223), (6150, Value.int 6150 204), (65030, Value.int 65030 224), (65031, Value.int 65031 225), (65032, Value.int 65032 226), (65033, Value.int 65033 227), (6155, Value.int 6155 205), (6156, Value.int 6156 206), (6157, Value.int 6157 207), (8203, Value.int 8203 208), (8204, Value.int 8204 209), (8205, Value.int 8205 210), (65034, Value.int 65034 228), (65035, Value.int 65035 229), (65036, Value.int 65036 230), (65037, Value.int 65037 231), (65038, Value.int 65038 232), (65039, Value.int 65039 233), (173, Value.int 173 202), (847, Value.int 847 203), (8288, Value.int 8288 211), (65279, Value.int 65279 212)] 29 (b1Table (!P.followText "set-order")), #[]⟩) ::
  (nat_lit 34, { cls := Value.type "tuple", data := Data.seq #[] }) ::
  (nat_lit 36, { cls := Value.type "tuple", data := Data.seq #[Value.str (Str.ofString "code") 265] }) ::
  (nat_lit 37, { cls := Value.type "tuple", data := Data.seq #[] }) ::
  (nat_lit 39, { cls := Value.type "code", data := Data.fields #[Value.str (Str.ofString "in_table_b1") 262, Value.str (Str.ofString "in_table_b1") 263, Value.str (Str.ofString "/claim/cut.py") 264, Value.int 14 0, Value.int 1 0, Value.int 0 0, Value.int 0 0, Value.int 3 0, Value.ref 34, Value.bool true, Value.int 181 0, Value.ref 35, Value.none, Value.ref 36, Value.ref 37, Value.ref 38, Value.int 266 0, Value.int 14 0, Value.str (Str.ofString "/claim/cut.py") 267] }) ::
  (nat_lit 40, ⟨Value.type "function", none, Data.func ⟨Str.ofString "in_table_b1", Str.ofString "in_table_b1", prm 4, FuncBody.stmts (bdy 4), scp 4, 3, [], Value.none, Value.none, Value.none, Value.str (Str.ofString "cpy313.stringprep") 200, none, Value.ref 39, Value.none, 0⟩, #[]⟩) ::
  (nat_lit 41, { cls := Value.type "tuple", data := Data.seq #[] }) ::
  (nat_lit 43, { cls := Value.type "tuple", data := Data.seq #[Value.str (Str.ofString "code") 272] }) ::
  (nat_lit 44, { cls := Value.type "tuple", data := Data.seq #[] }) ::
  (nat_lit 46, { cls := Value.type "code", data := Data.fields #[Value.str (Str.ofString "in_table_c11") 269, Value.str (Str.ofString "in_table_c11") 270, Value.str (Str.ofString "/claim/cut.py") 271, Value.int 16 0, Value.int 1 0, Value.int 0 0, Value.int 0 0, Value.int 3 0, Value.ref 41, Value.bool true, Value.int 181 0, Value.ref 42, Value.none, Value.ref 43, Value.ref 44, Value.ref 45, Value.int 273 0, Value.int 16 0, Value.str (Str.ofString "/claim/cut.py") 274] }) ::
  (nat_lit 47, ⟨Value.type "function", none, Data.func ⟨Str.ofString "in_table_c11", Str.ofString "in_table_c11", prm 5, FuncBody.stmts (bdy 5), scp 5, 3, [], Value.none, Value.none, Value.none, Value.str (Str.ofString "cpy313.stringprep") 200, none, Value.ref 46, Value.none, 0⟩, #[]⟩) ::
  (nat_lit 48, { cls := Value.type "tuple", data := Data.seq #[] }) ::
  (nat_lit 50, { cls := Value.type "tuple", data := Data.seq #[] }) ::
  (nat_lit 51, { cls := Value.type "tuple", data := Data.seq #[] }) ::
  (nat_lit 53, { cls := Value.type "code", data := Data.fields #[Value.str (Str.ofString "_law_nothing") 278, Value.str (Str.ofString "_law_nothing") 279, Value.str (Str.ofString "/claim/cut.py") 280, Value.int 19 0, Value.int 0 0, Value.int 0 0, Value.int 0 0, Value.int 3 0, Value.ref 48, Value.bool true, Value.int 181 0, Value.ref 49, Value.none, Value.ref 50, Value.ref 51, Value.ref 52, Value.int 281 0, Value.int 19 0, Value.str (Str.ofString "/claim/cut.py") 282] }) ::
  (nat_lit 54, ⟨Value.type "function", none, Data.func ⟨Str.ofString "_law_nothing", Str.ofString "_law_nothing", prm 7, FuncBody.stmts (bdy 7), scp 7, 3, [], Value.none, Value.none, Value.none, Value.str (Str.ofString "law_mj0032_01") 276, none, Value.ref 53, Value.none, 0⟩, #[]⟩) ::
  (nat_lit 55, { cls := Value.type "tuple", data := Data.seq #[] }) ::
  (nat_lit 57, { cls := Value.type "tuple", data := Data.seq #[Value.str (Str.ofString "script") 287, Value.str (Str.ofString "pair") 288, Value.str (Str.ofString "side") 289, Value.str (Str.ofString "number") 290, Value.str (Str.ofString "kind") 291, Value.str (Str.ofString "which") 292, Value.str (Str.ofString "piece") 293] }) ::
  (nat_lit 58, { cls := Value.type "tuple", data := Data.seq #[] }) ::
  (nat_lit 60, { cls := Value.type "code", data := Data.fields #[Value.str (Str.ofString "_law_drawn") 284, Value.str (Str.ofString "_law_drawn") 285, Value.str (Str.ofString "/claim/cut.py") 286, Value.int 21 0, Value.int 1 0, Value.int 0 0, Value.int 0 0, Value.int 3 0, Value.ref 55, Value.bool true, Value.int 181 0, Value.ref 56, Value.none, Value.ref 57, Value.ref 58, Value.ref 59, Value.int 294 0, Value.int 21 0, Value.str (Str.ofString "/claim/cut.py") 295] }) ::
  (nat_lit 61, ⟨Value.type "function", none, Data.func ⟨Str.ofString "_law_drawn", Str.ofString "_law_drawn", prm 8, FuncBody.stmts (bdy 8), scp 8, 3, [], Value.none, Value.none, Value.none, Value.str (Str.ofString "law_mj0032_01") 276, none, Value.ref 60, Value.none, 0⟩, #[]⟩) ::
  (nat_lit 62, { cls := Value.type "tuple", data := Data.seq #[] }) ::
  (nat_lit 64, { cls := Value.type "tuple", data := Data.seq #[Value.str (Str.ofString "field") 300, Value.str (Str.ofString "minus") 301, Value.str (Str.ofString "figures") 302, Value.str (Str.ofString "before") 303, Value.str (Str.ofString "sign") 304] }) ::
  (nat_lit 65, { cls := Value.type "tuple", data := Data.seq #[] }) ::
  (nat_lit 67, { cls := Value.type "code", data := Data.fields #[Value.str (Str.ofString "_law_number") 297, Value.str (Str.ofString "_law_number") 298, Value.str (Str.ofString "/claim/cut.py") 299, Value.int 50 0, Value.int 1 0, Value.int 0 0, Value.int 0 0, Value.int 3 0, Value.ref 62, Value.bool true, Value.int 181 0, Value.ref 63, Value.none, Value.ref 64, Value.ref 65, Value.ref 66, Value.int 305 0, Value.int 50 0, Value.str (Str.ofString "/claim/cut.py") 306] }) ::
  (nat_lit 68, ⟨Value.type "function", none, Data.func ⟨Str.ofString "_law_number", Str.ofString "_law_number", prm 9, FuncBody.stmts (bdy 9), scp 9, 3, [], Value.none, Value.none, Value.none, Value.str (Str.ofString "law_mj0032_01") 276, none, Value.ref 67, Value.none, 0⟩, #[]⟩) ::
  (nat_lit 69, { cls := Value.type "tuple", data := Data.seq #[] }) ::
  (nat_lit 72, { cls := Value.type "code", data := Data.fields #[Value.str (Str.ofString "_law_version") 308, Value.str (Str.ofString "_law_version") 309, Value.str (Str.ofString "/claim/cut.py") 310, Value.int 73 0, Value.int 3 0, Value.int 0 0, Value.int 0 0, Value.int 3 0, Value.ref 69, Value.bool true, Value.int 181 0, Value.ref 70, Value.none, Value.none, Value.none, Value.ref 71, Value.int 311 0, Value.int 73 0, Value.str (Str.ofString "/claim/cut.py") 312] }) ::
  (nat_lit 73, ⟨Value.type "function", none, Data.func ⟨Str.ofString "_law_version", Str.ofString "_law_version", prm 10, FuncBody.stmts (bdy 10), scp 10, 3, [], Value.none, Value.none, Value.none, Value.str (Str.ofString "law_mj0032_01") 276, none, Value.ref 72, Value.none, 0⟩, #[]⟩) ::
  (nat_lit 74, { cls := Value.type "tuple", data := Data.seq #[] }) ::
  (nat_lit 77, { cls := Value.type "code", data := Data.fields #[Value.str (Str.ofString "_law_visible") 314, Value.str (Str.ofString "_law_visible") 315, Value.str (Str.ofString "/claim/cut.py") 316, Value.int 87 0, Value.int 1 0, Value.int 0 0, Value.int 0 0, Value.int 3 0, Value.ref 74, Value.bool true, Value.int 181 0, Value.ref 75, Value.none, Value.none, Value.none, Value.ref 76, Value.int 317 0, Value.int 87 0, Value.str (Str.ofString "/claim/cut.py") 318] }) ::
  (nat_lit 78, ⟨Value.type "function", none, Data.func ⟨Str.ofString "_law_visible", Str.ofString "_law_visible", prm 11, FuncBody.stmts (bdy 11), scp 11, 3, [], Value.none, Value.none, Value.none, Value.str (Str.ofString "law_mj0032_01") 276, none, Value.ref 77, Value.none, 0⟩, #[]⟩) ::
  (nat_lit 79, { cls := Value.type "tuple", data := Data.seq #[] }) ::
  (nat_lit 82, { cls := Value.type "code", data := Data.fields #[Value.str (Str.ofString "_law_unspaced") 320, Value.str (Str.ofString "_law_unspaced") 321, Value.str (Str.ofString "/claim/cut.py") 322, Value.int 89 0, Value.int 1 0, Value.int 0 0, Value.int 0 0, Value.int 3 0, Value.ref 79, Value.bool true, Value.int 181 0, Value.ref 80, Value.none, Value.none, Value.none, Value.ref 81, Value.int 323 0, Value.int 89 0, Value.str (Str.ofString "/claim/cut.py") 324] }) ::
  (nat_lit 83, ⟨Value.type "function", none, Data.func ⟨Str.ofString "_law_unspaced", Str.ofString "_law_unspaced", prm 12, FuncBody.stmts (bdy 12), scp 12, 3, [], Value.none, Value.none, Value.none, Value.str (Str.ofString "law_mj0032_01") 276, none, Value.ref 82, Value.none, 0⟩, #[]⟩) ::
  (nat_lit 84, { cls := Value.type "tuple", data := Data.seq #[] }) ::
  (nat_lit 86, { cls := Value.type "tuple", data := Data.seq #[Value.str (Str.ofString "script") 329, Value.str (Str.ofString "version") 330, Value.str (Str.ofString "build") 331, Value.str (Str.ofString "nothing") 332, Value.str (Str.ofString "seen") 333, Value.str (Str.ofString "bare") 334, Value.str (Str.ofString "told") 335, Value.str (Str.ofString "due") 336] }) ::
  (nat_lit 87, { cls := Value.type "tuple", data := Data.seq #[] }) ::
  (nat_lit 89, { cls := Value.type "code", data := Data.fields #[Value.str (Str.ofString "law") 326, Value.str (Str.ofString "law") 327, Value.str (Str.ofString "/claim/cut.py") 328, Value.int 91 0, Value.int 1 0, Value.int 0 0, Value.int 0 0, Value.int 3 0, Value.ref 84, Value.bool true, Value.int 181 0, Value.ref 85, Value.none, Value.ref 86, Value.ref 87, Value.ref 88, Value.int 337 0, Value.int 91 0, Value.str (Str.ofString "/claim/cut.py") 338] }) ::
  (nat_lit 90, ⟨Value.type "function", none, Data.func ⟨Str.ofString "law", Str.ofString "law", prm 13, FuncBody.stmts (bdy 13), scp 13, 3, [], Value.none, Value.none, Value.none, Value.str (Str.ofString "law_mj0032_01") 276, none, Value.ref 89, Value.none, 0⟩, #[]⟩) :: []
def heapAs : List Addr := (nat_lit 2 : Nat) :: (nat_lit 3 : Nat) :: (nat_lit 6 : Nat) :: (nat_lit 15 : Nat) :: (nat_lit 16 : Nat) :: (nat_lit 18 : Nat) :: (nat_lit 19 : Nat) :: (nat_lit 21 : Nat) :: (nat_lit 22 : Nat) :: (nat_lit 30 : Nat) :: (nat_lit 34 : Nat) :: (nat_lit 36 : Nat) :: (nat_lit 37 : Nat) :: (nat_lit 39 : Nat) :: (nat_lit 40 : Nat) :: (nat_lit 41 : Nat) :: (nat_lit 43 : Nat) :: (nat_lit 44 : Nat) :: (nat_lit 46 : Nat) :: (nat_lit 47 : Nat) :: (nat_lit 48 : Nat) :: (nat_lit 50 : Nat) :: (nat_lit 51 : Nat) :: (nat_lit 53 : Nat) :: (nat_lit 54 : Nat) :: (nat_lit 55 : Nat) :: (nat_lit 57 : Nat) :: (nat_lit 58 : Nat) :: (nat_lit 60 : Nat) :: (nat_lit 61 : Nat) :: (nat_lit 62 : Nat) :: (nat_lit 64 : Nat) :: (nat_lit 65 : Nat) :: (nat_lit 67 : Nat) :: (nat_lit 68 : Nat) :: (nat_lit 69 : Nat) :: (nat_lit 72 : Nat) :: (nat_lit 73 : Nat) :: (nat_lit 74 : Nat) :: (nat_lit 77 : Nat) :: (nat_lit 78 : Nat) :: (nat_lit 79 : Nat) :: (nat_lit 82 : Nat) :: (nat_lit 83 : Nat) :: (nat_lit 84 : Nat) :: (nat_lit 86 : Nat) :: (nat_lit 87 : Nat) :: (nat_lit 89 : Nat) :: (nat_lit 90 : Nat) :: []

theorem heapK_as : ∀ P, heapAs = (heapK P).map (·.1) := fun _ => rfl
abbrev HK : Hook := kHook heapK heapAs heapK_as
abbrev q0 : Program := { P0 with main := { P0.main with body := [3, 4, 5, 7, 8, 9, 10, 11, 12, 13].filterMap fun i => P0.main.body[i]? } }
abbrev loose0 : List Str := [Str.ofString "_norm_version", Str.ofString "b1_set"]
abbrev Xt0 : Shared → Bool := fun s => xlAt q0 [] s && recOk [] s
end Mine
end
section
open PySem PySem.W PyProof.Rows
namespace Mine
/-- nothing is raised -/
abbrev Never : Value → Shared → Prop := fun _ _ => False
/-- a call of the def at f in any frame of a def: handed vs, under pre, it gives back R, the frame and the ledger as they were -/
abbrev Spec (w : World) (D : Nat) (f : Addr) (pre : Prop) (vs : List Value) (R : Tok → Value) : Prop :=
  ∀ (mean : ExcName → Option Value) (mg mb : Str → Option Value) (news : List (Addr × Obj)) (dp un : Nat) (gd : Option (List Code)) (cn : Str) (cs : Scope) (a : Addr) (ccd : Value) (cl : List (Str × Addr)) (outer : List Env) (A₀ : Around) (base h₀ : Heap) (L : Addr) (m : Str → Option Value) (s : Shared) (Q E : Value → Shared → Prop),
    Below A₀ base outer h₀ → Fr h₀ L s.heap m → (heapK w.params).In h₀ → News h₀ L s.heap news → Top q0 (looseW q0 loose0) mean mg mb h₀ → cs.kind = .function →
    pre → dp < 10 * D → un < 100 * D →
    (∀ (t : Tok) (h' : Heap) (tk' : Nat), Fr h₀ L h' m → News h₀ L h' news → Q (R t) { s with heap := h', toks := tk' }) →
    wpAny (model P0 w) (ktrTop dp un gd cn cs L a ccd cl outer) (call (.ref f) vs) Q E s
/-- statements of a def's, run to the end in a frame whose locals m fulfil Pm: they return R, the ledger as it was -/
abbrev Part (w : World) (D : Nat) (qual : Str) (scope : Scope) (f : Addr) (cdv : Value) (body : List Stmt) (Pm : (Str → Option Value) → Prop) (R : Tok → Value) : Prop :=
  ∀ (mean : ExcName → Option Value) (mg mb : Str → Option Value) (news : List (Addr × Obj)) (dp un : Nat) (gd : Option (List Code)) (cn : Str) (cs : Scope) (Lc a : Addr) (ccd : Value) (cl : List (Str × Addr)) (outer : List Env) (base g : Heap) (L : Addr) (m : Str → Option Value) (s : Shared) (Q : Flow → Shared → Prop),
    Below (ktrTop dp un gd cn cs Lc a ccd cl outer) base (envX cn cs Lc a ccd cl :: outer) g → (heapK w.params).In g → Top q0 (looseW q0 loose0) mean mg mb g →
    dp < 10 * D → un < 100 * D →
    (∀ (t : Tok) (h' : Heap) (tk' : Nat) (m' : Str → Option Value), Fr g L h' m' → News g L h' news → Q (.ret (R t)) { s with heap := h', toks := tk' }) →
    Pm m → Fr g L s.heap m → News g L s.heap news →
    wpAny (model P0 w) ((ktrTop dp un gd cn cs Lc a ccd cl outer).deeper (envOf qual scope L f cdv)) (execs body (envOf qual scope L f cdv)) Q Never s
theorem enter {w : World} {D : Nat} {f : Addr} {pre : Prop} {vs : List Value} {R : Tok → Value} {qual : Str} {params : Arguments} {body : List Stmt} {scope : Scope} {dV pm cdv : Value} {Pm : (Str → Option Value) → Prop} (binds : List (Str × Value))
    (ho : (heapK w.params).lookup f = some ⟨.type "function", none, .func (fnOf qual qual params body scope dV .none .none pm none cdv .none), #[]⟩)
    (hcd : codeIn (heapK w.params) cdv qual = true)
    (hbind : ∀ s : Shared, (heapK w.params).In s.heap → BindsTo s (fnOf qual qual params body scope dV .none .none pm none cdv .none) ⟨vs, []⟩ binds)
    (hloc : ∀ y ∈ binds, scope.names.lookup y.1 = some .local) (hco : scope.isCoroutine = false) (hgen : scope.isGenerator = false) (hk : scope.kind = .function) (hcell : ∀ x ∈ scope.names, x.2 ≠ .cell) (hD : D ≤ 90)
    (hm : pre → Pm fun y => binds.reverse.lookup y)
    (hb : pre → Part w D qual scope f cdv body Pm R) : Spec w D f pre vs R := by
  intro mean mg mb news dp un gd cn cs a ccd cl outer A₀ base h₀ L m s Q E B F X N T hk' hpre hdp hun hret
  refine wpAny_call ?_
  refine code_def (dV := dV) (pm := pm) (params := params) B F X N T rfl rfl hk' ho hcd ?_ (hbind s (X.keeps F.keep)) hloc ?_ hco hgen hk hcell
  · show dp < recursionLimit
    unfold recursionLimit
    omega
  · intro g L' h₁ FG F' N' B' X' T'
    refine wpAny_mono (hb hpre mean mg mb news dp un gd cn cs L a ccd cl outer base g L' _ { s with heap := h₁, toks := s.toks + binds.length } _ B' X' T' hdp hun ?_ (hm hpre) F' N') (fun f s' q => q) (fun e s' q => q.elim)
    intro t h' tk' m' F₂ N₂
    exact leaveK_ F₂ N₂ fun F₃ N₃ => hret t h' tk' F₃ N₃
end Mine
end
section
open PySem PySem.W PyProof.Rows
namespace Mine
theorem fill (h : PySem.Challenge.rw_mj0032_01.Holds) (P : Params) (e : heapK P = []) : PySem.Challenge.rw_mj0032_01.Holds ∧ heapK P = [] := by
  k_fill
  exact ⟨h, e⟩
theorem fit {n : Nat} (h : n ≤ 100000) : n ≤ sizeLine := by rw [sizeLine_eq]; omega
theorem named {g h : Heap} {L : Addr} {m : Str → Option Value} {x : Str} {v : Value} (F : Fr g L h m) (e : m x = some v) : Fr g L h (fun y => if y = x then some v else m y) := by
  have : (fun y => if y = x then some v else m y) = m := by
    funext y
    by_cases h : y = x
    · rw [if_pos h, h, e]
    · rw [if_neg h]
  rw [this]
  exact F
theorem namedL {g h : Heap} {L : Addr} {m : Str → Option Value} (ps : List (Str × Value)) (F : Fr g L h m) (e : ∀ p ∈ ps, m p.1 = some p.2) : Fr g L h (kstB m ps) := by
  have : kstB m ps = m := funext fun y => kstB_eq e fun _ => rfl
  rw [this]
  exact F
theorem named2 {g h : Heap} {L : Addr} {m : Str → Option Value} {x y : Str} {v u : Value} (F : Fr g L h m) (e : m x = some v) (e2 : m y = some u) :
    Fr g L h (fun z => if z = x then some v else if z = y then some u else m z) := namedL [(x, v), (y, u)] F (by simp [e, e2])
theorem named3 {g h : Heap} {L : Addr} {m : Str → Option Value} {x y k : Str} {v u r : Value} (F : Fr g L h m) (e : m x = some v) (e2 : m y = some u) (e3 : m k = some r) :
    Fr g L h (fun z => if z = x then some v else if z = y then some u else if z = k then some r else m z) := namedL [(x, v), (y, u), (k, r)] F (by simp [e, e2, e3])
theorem named4 {g h : Heap} {L : Addr} {m : Str → Option Value} {x y k j : Str} {v u r q : Value} (F : Fr g L h m) (e : m x = some v) (e2 : m y = some u) (e3 : m k = some r) (e4 : m j = some q) :
    Fr g L h (fun z => if z = x then some v else if z = y then some u else if z = k then some r else if z = j then some q else m z) := namedL [(x, v), (y, u), (k, r), (j, q)] F (by simp [e, e2, e3, e4])
theorem dropN {g h : Heap} {L : Addr} {p : Addr × Obj} {news : List (Addr × Obj)} (N : News g L h (p :: news)) : News g L h news := fun q hq => N q (List.mem_cons_of_mem _ hq)
theorem ite_t {P Q : Prop} (h : P) : if true = true then P else Q := by simpa using h
theorem ite_f {P Q : Prop} (h : Q) : if false = true then P else Q := by simpa using h
/-- a piece of a block up to its end, its locals there, the rest behind it -/
theorem cutQ {M : Model} {A : Around} {t : Sem Flow} {Q : Flow → Shared → Prop} {E : Value → Shared → Prop} {s : Shared} (s₀ : Shared) (g : Heap) (L : Addr) (Pm : (Str → Option Value) → Prop) (news : List (Addr × Obj))
    (h : ∀ QQ : Flow → Shared → Prop, (∀ (h' : Heap) (tk' : Nat) (m' : Str → Option Value), Pm m' → Fr g L h' m' → News g L h' news → QQ .next { s₀ with heap := h', toks := tk' }) → wpAny M A t QQ E s)
    (k : ∀ (h' : Heap) (tk' : Nat) (m' : Str → Option Value), Pm m' → Fr g L h' m' → News g L h' news → Q .next { s₀ with heap := h', toks := tk' }) : wpAny M A t Q E s := h Q k
/-! texts by their signs -/
def mkS (l : List Nat) : Str := ⟨l.toArray⟩
theorem mkS_length (l : List Nat) : (mkS l).length = l.length := by simp [mkS, Str.length]
theorem mkS_toList (l : List Nat) : (mkS l).cps.toList = l := by simp [mkS]
theorem mkS_of (x : Str) : mkS x.cps.toList = x := by
  cases x
  simp [mkS]
theorem mkS_inj {a b : List Nat} (h : mkS a = mkS b) : a = b := by
  have := congrArg (fun x : Str => x.cps.toList) h
  simpa [mkS] using this
theorem mkS_beq (a b : List Nat) : (mkS a == mkS b) = (a == b) := by
  by_cases h : a = b
  · subst h; simp
  · have h2 : mkS a ≠ mkS b := fun e => h (mkS_inj e)
    rw [beq_eq_false_iff_ne.mpr h2, beq_eq_false_iff_ne.mpr h]
theorem mkS_append (a b : List Nat) : mkS a ++ mkS b = mkS (a ++ b) := by
  refine Str.ext' (Array.toList_inj.mp ?_)
  rw [Str.cps_append, Array.toList_append]
  simp [mkS]
open Builtin.Str in
theorem slice_of {x : Str} {lo up : Option Int} {a b : Nat} (hab : a ≤ b) (hb : b ≤ x.length) (e : strSliceIndices lo up 1 x.length = strSliceIndices (some (a : Int)) (some (b : Int)) 1 x.length) :
    Txt.slice x lo up = mkS ((x.cps.toList.drop a).take (b - a)) := by
  unfold Txt.slice
  rw [e, StrLaws.sliced_plain x hab hb]
  split
  · rename_i h
    rw [StrLaws.strSliceIndices_plain hab hb] at h
    simp only [List.length_map, List.length_range, Bool.and_eq_true, beq_iff_eq] at h
    have h2 := h.2
    have ha : a = 0 := by omega
    have hb' : b = x.length := by omega
    subst ha hb'
    have : (x.cps.toList.drop 0).take (x.length - 0) = x.cps.toList := by
      rw [List.drop_zero, Nat.sub_zero]
      exact List.take_of_length_le (by simp [Str.length])
    rw [this, mkS_of]
  · rfl
theorem slice_nil (lo up : Option Int) : Txt.slice (mkS []) lo up = mkS [] := by
  have h := Txt.slice_le (mkS []) lo up
  rw [mkS_length] at h
  refine Str.ext' (Array.toList_inj.mp ?_)
  rw [mkS_toList]
  have : (Txt.slice (mkS []) lo up).cps.toList.length = 0 := by
    simp only [Str.length, List.length_nil] at h
    simpa using h
  exact List.length_eq_zero_iff.mp this
theorem slice_to1 (c : Nat) (r : List Nat) : Txt.slice (mkS (c :: r)) none (some 1) = mkS [c] := by
  rw [slice_of (a := 0) (b := 1) (by omega) (by rw [mkS_length]; simp) (by rw [StrLaws.sliceIdx_none_lo]; rfl), mkS_toList]
  rfl
theorem slice_from1 (c : Nat) (r : List Nat) : Txt.slice (mkS (c :: r)) (some 1) none = mkS r := by
  rw [slice_of (a := 1) (b := (mkS (c :: r)).length) (by rw [mkS_length]; simp) (Nat.le_refl _) (by rw [StrLaws.sliceIdx_none_hi]; rfl), mkS_toList, mkS_length]
  simp
theorem slice_last (c : Nat) (r : List Nat) : Txt.slice (mkS (r ++ [c])) (some (-1)) none = mkS [c] := by
  rw [slice_of (a := r.length) (b := (mkS (r ++ [c])).length) (by rw [mkS_length]; simp) (Nat.le_refl _) (by
    rw [StrLaws.sliceIdx_none_hi, StrLaws.sliceIdx_neg_lo _ _ (by decide) (by rw [mkS_length]; simp; omega)]
    rw [show ((-1 : Int) + ((mkS (r ++ [c])).length : Int)) = (r.length : Int) by rw [mkS_length]; simp; omega]), mkS_toList, mkS_length]
  simp
theorem slice_butlast (c : Nat) (r : List Nat) : Txt.slice (mkS (r ++ [c])) none (some (-1)) = mkS r := by
  rw [slice_of (a := 0) (b := r.length) (by omega) (by rw [mkS_length]; simp) (by
    rw [StrLaws.sliceIdx_none_lo, StrLaws.sliceIdx_neg_hi _ _ (by decide) (by rw [mkS_length]; simp; omega)]
    rw [show ((-1 : Int) + ((mkS (r ++ [c])).length : Int)) = (r.length : Int) by rw [mkS_length]; simp; omega]
    rfl), mkS_toList]
  simp
/-! a loop over a text's signs, by what holds between the turns -/
section
variable {prog : Program} {w : World} {A : Around} {E : Value → Shared → Prop} {s : Shared} {env : Env} {h₀ : Heap} {x : Str} {body : List Stmt} {Q : Flow → Shared → Prop}
theorem iter_text {l : List Nat} {tx : Tok} {m₀ : Str → Option Value} {news : List (Addr × Obj)} (J : List Nat → (Str → Option Value) → List (Addr × Obj) → Prop)
    (hh : A.handled = none) (F : Fr h₀ env.locals s.heap m₀) (N : News h₀ env.locals s.heap news) (hj : J [] m₀ news)
    (turn : ∀ pre c post t m₁ news₁ h tk own, l = pre ++ c :: post → news₁.map (·.1) = news.map (·.1) → OwnOff own (news.map (·.1)) → J pre m₁ news₁ → Fr h₀ env.locals h (fun y => if y = x then some (.str (mkS [c]) t) else m₁ y) → News h₀ env.locals h (news₁ ++ own) →
      wpAny (model prog w) A (execs body env) (InvPostN h₀ env.locals (J (pre ++ [c])) own (news.map (·.1)) { s with heap := h, toks := tk } Q) E { s with heap := h, toks := tk })
    (done : ∀ m₁ news₁ h tk, news₁.map (·.1) = news.map (·.1) → J l m₁ news₁ → Fr h₀ env.locals h m₁ → News h₀ env.locals h news₁ → Q .next { s with heap := h, toks := tk }) :
    wpAny (model prog w) A (pyIter (.str (mkS l) tx)) (fun it s₂ => LoopAtV prog w A h₀ env x body Q E it s₂) E s := by
  refine wpAny_pyIter_str fun o St hW hst => ?_
  have W := hW A hh
  refine loop_invN (fun i m nx => nx.map (·.1) = news.map (·.1) ∧ J (l.take i) m nx) W ?_ ?_ ?_ ?_ hst (F.push _) (fun p hp => ⟨Heap.get?_push_of_some _ (N p hp).1, (N p hp).2⟩) ⟨rfl, by simpa using hj⟩ ?_ ?_
  · intro hm
    exact absurd F.ns.lt ((List.mem_singleton.mp hm) ▸ Nat.lt_irrefl _)
  · intro b' hb
    rw [List.mem_singleton.mp hb]
    exact next_is_new F
  · intro p hp hI
    exact absurd (Heap.lt_size (N p hp).1) ((List.mem_singleton.mp hI) ▸ Nat.lt_irrefl _)
  · intro p hp hI
    exact absurd (Heap.lt_size (N p hp).1) ((List.mem_singleton.mp hI) ▸ Nat.lt_irrefl _)
  · rintro i v m₁ nx h tk own hi ⟨c, u, hn, rfl⟩ ha hoff ⟨_, hJ⟩ F₁ N₁
    have hn' : l[i]? = some c := by simpa [mkS] using hn
    have hs : l.take (i + 1) = l.take i ++ [c] := by simp [List.take_add_one, hn']
    have e : l = l.take i ++ c :: l.drop (i + 1) := by
      have ht := List.take_append_drop (i + 1) l
      rw [hs, List.append_assoc] at ht
      exact ht.symm
    refine wpAny_mono (turn (l.take i) c (l.drop (i + 1)) u m₁ nx h tk own e ha hoff hJ F₁ N₁) (fun f s₂ p => ?_) fun _ _ q => q
    have fin : InvEndN h₀ env.locals (J (l.take i ++ [c])) own (news.map (·.1)) { s with heap := h, toks := tk } s₂ → InvEndN h₀ env.locals (fun m nx => nx.map (·.1) = news.map (·.1) ∧ J (l.take (i + 1)) m nx) own (news.map (·.1)) { s with heap := h, toks := tk } s₂ := by
      rintro ⟨h', tk', m', news', nx', e', F', N', h1, h2, h3, h4⟩
      exact ⟨h', tk', m', news', nx', e', F', N', h1, h2, h3, h3, hs ▸ h4⟩
    cases f with
    | ret v => exact p
    | brk => exact p
    | next => exact fin p
    | cont => exact fin p
  · rintro m₁ nx h tk ⟨ha, hJ⟩ F₁ N₁
    have hl : (mkS l).cps.size = l.length := by simp [mkS]
    rw [hl, List.take_length] at hJ
    exact done m₁ nx h tk ha hJ F₁ N₁
end
end Mine
end
section
open PySem PySem.W PyProof.Rows
namespace Mine
local macro_rules | `(tactic| k_steps) => `(tactic| repeat' (first
  | (with_reducible refine ite_t ?_)
  | (with_reducible refine ite_f ?_)
  | ((fail_if_success (with_reducible show wpAny _ _ (exec (Stmt.While _ _ _ _) _) _ _ _)); (fail_if_success (with_reducible show wpAny _ _ (exec (Stmt.For _ _ _ _ _) _) _ _ _)); (fail_if_success (with_reducible show ite _ _ _)); (first | (k_unfold; (try dsimp only)) | (k_end; kc_close) | walk1 | (dsimp only; walk1) | (leave1; walk_say "STEP leave1"; (try dsimp only)) | fail "no step"))))
local macro_rules | `(tactic| size_fits) => `(tactic| exact fit (by assumption))
set_option maxRecDepth 100000
set_option maxHeartbeats 8000000
def isDig (c : Nat) : Bool := decide (48 ≤ c) && decide (c ≤ 57)
def lstrip (l : List Nat) : List Nat := l.dropWhile (· == 32)
def rstrip (l : List Nat) : List Nat := (l.reverse.dropWhile (· == 32)).reverse
def dropZ : List Nat → List Nat
  | [] => []
  | [c] => [c]
  | c :: d :: r => if c == 48 then dropZ (d :: r) else c :: d :: r
theorem blank_is : Str.ofString " " = mkS [32] := by decide +kernel
theorem under_is : Str.ofString "_" = mkS [95] := by decide +kernel
theorem zero_is : Str.ofString "0" = mkS [48] := by decide +kernel
theorem minus_is : Str.ofString "-" = mkS [45] := by decide +kernel
theorem plus_is : Str.ofString "+" = mkS [43] := by decide +kernel
theorem empty_is : Str.ofString "" = mkS [] := by decide +kernel
theorem item_0 (c : Nat) (r : List Nat) : Txt.item (mkS (c :: r)) 0 = mkS [c] := by
  unfold Txt.item Txt.charAt
  rw [StrLaws.at_nonneg (n := c) (by decide) (by simp [mkS])]
  rfl
def signed (mn : Bool) (f : List Nat) : List Nat := if mn && f != [48] then 45 :: f else f
theorem numE (w : World) (f : List Nat) (mn : Bool) (hf : f.length ≤ 1000) :
    Part w 60 (Str.ofString "_law_number") (scp 9) 68 (.ref 67) ((bdy 9).drop 9)
      (fun m => (∃ t, m (Str.ofString "figures") = some (.str (mkS f) t)) ∧ m (Str.ofString "minus") = some (.bool mn))
      (fun t => .str (mkS (signed mn f)) t) := by
  rintro mean mg mb news dp un gd cn cs Lc a ccd cl outer base g L m s Q B X T hdp hun hret ⟨⟨tf, h1⟩, h3⟩ F N
  conv in (List.drop _ (bdy 9)) => whnf
  have F₁ := named2 F h1 h3
  have hlen : (mkS f).length ≤ 100000 := by rw [mkS_length]; omega
  have hlen2 : (Str.ofString "-" ++ mkS f).length ≤ 100000 := by rw [minus_is, mkS_append, mkS_length]; simp; omega
  clear F h1 h3
  k_steps
  split
  · rename_i hmn
    subst hmn
    k_steps
    split
    · rename_i hb
      have e : signed true f = 45 :: f := by
        rw [zero_is] at hb
        have : (f != [48]) = true := by rw [bne, ← mkS_beq]; exact hb
        simp [signed, this]
      rw [e] at hret
      k_steps
      rw [minus_is, mkS_append]
      exact hret _ _ _ _ F₁ N
    · rename_i hb
      have e : signed true f = f := by
        rw [zero_is] at hb
        have : ¬ (f != [48]) = true := by rw [bne, ← mkS_beq]; exact hb
        simp only [signed, Bool.true_and, this]
        rfl
      rw [e] at hret
      k_steps
      exact hret _ _ _ _ F₁ N
  · rename_i hmn
    have hmn : mn = false := by simpa using hmn
    subst hmn
    k_steps
    exact hret _ _ _ _ F₁ N
theorem numD (w : World) (f : List Nat) (b : Nat) (mn : Bool) (hf : f.length ≤ 1000) :
    Part w 60 (Str.ofString "_law_number") (scp 9) 68 (.ref 67) ((bdy 9).drop 7)
      (fun m => (∃ t, m (Str.ofString "figures") = some (.str (mkS f) t)) ∧ (∃ t, m (Str.ofString "before") = some (.str (mkS [b]) t)) ∧ m (Str.ofString "minus") = some (.bool mn))
      (fun t => .str (mkS (if b == 95 then [] else signed mn (dropZ f))) t) := by
  rintro mean mg mb news dp un gd cn cs Lc a ccd cl outer base g L m s Q B X T hdp hun hret ⟨⟨tf, h1⟩, ⟨tb, h2⟩, h3⟩ F N
  conv in (List.drop _ (bdy 9)) => whnf
  have F₁ := named3 F h1 h2 h3
  clear F h1 h2 h3
  k_steps
  split
  · rename_i hb
    rw [under_is, mkS_beq] at hb
    have e : (if b == 95 then [] else signed mn (dropZ f)) = [] := if_pos (by simpa using hb)
    rw [e] at hret
    k_steps
    rw [empty_is]
    exact hret _ _ _ _ F₁ N
  rename_i hb
  rw [under_is, mkS_beq] at hb
  have e : (if b == 95 then [] else signed mn (dropZ f)) = signed mn (dropZ f) := if_neg (by simpa using hb)
  rw [e] at hret
  clear e hb
  k_steps
  refine While_inv2 (n₀ := f.length) (fun n m₁ news₁ => news = news₁ ∧ ∃ c tc, m₁ (Str.ofString "figures") = some (.str (mkS c) tc) ∧ m₁ (Str.ofString "minus") = some (.bool mn) ∧ c.length = n ∧ c.length ≤ 1000 ∧ dropZ c = dropZ f) F₁ N ⟨rfl, f, tf, rfl, rfl, rfl, hf, rfl⟩ ?_ PassesOwn.never
  rintro n m₁ news₁ h₁ tk₁ F₂ N₁ ⟨rfl, c, tc, hm, hm2, hn, hc1, hc2⟩
  have F₃ := named2 F₂ hm hm2
  have hlen : (mkS c).length ≤ 100000 := by rw [mkS_length]; omega
  clear F₁ N F₂ hm hm2
  k_steps
  split
  · rename_i hlt
    obtain ⟨c1, c2, r, rfl⟩ : ∃ c1 c2 r, c = c1 :: c2 :: r := by
      rw [mkS_length] at hlt
      rcases c with _ | ⟨c1, _ | ⟨c2, r⟩⟩
      · simp at hlt
      · simp at hlt
      · exact ⟨c1, c2, r, rfl⟩
    k_steps
    split
    · rename_i hb
      rw [item_0, zero_is, mkS_beq] at hb
      have hc48 : c1 = 48 := by simpa using hb
      subst hc48
      k_steps
      rename_i F₄ N₄
      refine ⟨_, _, _, _, (c2 :: r).length, rfl, F₄, N₄, ?_, rfl, c2 :: r, _, by rw [slice_from1]; rfl, rfl, rfl, ?_, ?_⟩
      · rw [← hn]; simp
      · simp at hc1 ⊢; omega
      · rw [← hc2]; rfl
    · rename_i hb
      rw [item_0, zero_is, mkS_beq] at hb
      have hc48 : dropZ (c1 :: c2 :: r) = c1 :: c2 :: r := by
        have : (c1 == 48) = false := by simpa using hb
        simp [dropZ, this]
      rw [← hc2, hc48] at hret
      refine ite_f ?_
      exact numE w (c1 :: c2 :: r) mn hc1 mean mg mb news dp un gd cn cs Lc a ccd cl outer base g L _ _ Q B X T hdp hun hret ⟨⟨tc, rfl⟩, rfl⟩ F₃ N₁
  · rename_i hlt
    have hdz : dropZ c = c := by
      rw [mkS_length] at hlt
      rcases c with _ | ⟨c1, _ | ⟨c2, r⟩⟩
      · rfl
      · rfl
      · simp at hlt; omega
    rw [← hc2, hdz] at hret
    refine ite_f ?_
    exact numE w c mn hc1 mean mg mb news dp un gd cn cs Lc a ccd cl outer base g L _ _ Q B X T hdp hun hret ⟨⟨tc, rfl⟩, rfl⟩ F₃ N₁
theorem dig_in (c : Nat) : (!(Builtin.Str.occurrences (Str.ofString "0123456789") (mkS [c]) 0 (Str.ofString "0123456789").length 1).isEmpty) = isDig c := by
  rw [show mkS [c] = ⟨#[c]⟩ from rfl, StrLaws.found_one, show (Str.ofString "0123456789").cps.toList = [48, 49, 50, 51, 52, 53, 54, 55, 56, 57] from by decide +kernel]
  rw [Bool.eq_iff_iff, decide_eq_true_eq]
  simp only [isDig, Bool.and_eq_true, decide_eq_true_eq, List.mem_cons, List.not_mem_nil, or_false]
  omega
def scanStep (st : List Nat × Nat) (c : Nat) : Option (List Nat × Nat) := if isDig c then some (st.1 ++ [c], c) else if c != 95 || st.2 == 95 then none else some (st.1, c)
theorem step_dig {st : List Nat × Nat} {c : Nat} (h : isDig c = true) : scanStep st c = some (st.1 ++ [c], c) := if_pos h
theorem step_bad {st : List Nat × Nat} {c : Nat} (h : isDig c = false) (h2 : c ≠ 95 ∨ st.2 = 95) : scanStep st c = none := by
  unfold scanStep
  rw [if_neg (by simp [h]), if_pos]
  rcases h2 with h2 | h2 <;> simp [h2]
theorem step_und {st : List Nat × Nat} {c : Nat} (h : isDig c = false) (h2 : c = 95) (h3 : st.2 ≠ 95) : scanStep st c = some (st.1, c) := by
  unfold scanStep
  rw [if_neg (by simp [h]), if_neg]
  simp [h2, h3]
def scanAll (st : List Nat × Nat) (l : List Nat) : Option (List Nat × Nat) := l.foldlM scanStep st
theorem scanAll_snoc (st : List Nat × Nat) (l : List Nat) (c : Nat) : scanAll st (l ++ [c]) = (scanAll st l).bind fun s => scanStep s c := by
  simp [scanAll, List.foldlM_append]
theorem scanAll_cut (st : List Nat × Nat) (pre post : List Nat) (c : Nat) : scanAll st (pre ++ c :: post) = (scanAll st pre).bind fun s => (scanStep s c).bind fun s' => scanAll s' post := by
  simp [scanAll, List.foldlM_append]
def numAns (mn : Bool) (l : List Nat) : List Nat := match scanAll ([], 95) l with
  | none => []
  | some (f, b) => if b == 95 then [] else signed mn (dropZ f)
theorem numC (w : World) (l : List Nat) (mn : Bool) (hl : l.length ≤ 1000) :
    Part w 60 (Str.ofString "_law_number") (scp 9) 68 (.ref 67) ((bdy 9).drop 4)
      (fun m => (∃ t, m (Str.ofString "field") = some (.str (mkS l) t)) ∧ m (Str.ofString "minus") = some (.bool mn))
      (fun t => .str (mkS (numAns mn l)) t) := by
  rintro mean mg mb news dp un gd cn cs Lc a ccd cl outer base g L m s Q B X T hdp hun hret ⟨⟨tf, h1⟩, h3⟩ F N
  conv in (List.drop _ (bdy 9)) => whnf
  have F₁ := named2 F h1 h3
  clear F h1 h3
  k_steps
  rename_i F₂ N₂
  refine For_invVF F₂ rfl rfl ?_ (hE := PassesOwn.never)
  refine ld F₂ rfl ?_
  refine iter_text (l := l) (fun pre m₁ news₁ => news = news₁ ∧ ∃ figs b t1 t2, scanAll ([], 95) pre = some (figs, b) ∧ figs.length ≤ pre.length ∧ m₁ (Str.ofString "figures") = some (.str (mkS figs) t1) ∧ m₁ (Str.ofString "before") = some (.str (mkS [b]) t2) ∧ m₁ (Str.ofString "minus") = some (.bool mn)) rfl F₂ N₂ ?_ ?_ ?_
  · exact ⟨rfl, [], 95, _, _, rfl, Nat.le_refl _, by rw [← empty_is]; rfl, by rw [← under_is]; rfl, rfl⟩
  · rintro pre c post tc m₁ news₁ h tk own he - hoff ⟨rfl, figs, b, t1, t2, hs, hlen, hm1, hm2, hm3⟩ F₃ N₃
    have F₄ := named3 (m := fun y => if y = Str.ofString "sign" then some (Value.str (mkS [c]) tc) else m₁ y) F₃ (x := Str.ofString "figures") (y := Str.ofString "before") (k := Str.ofString "minus") hm1 hm2 hm3
    clear F₃ F₂ N₂ hm1 hm2 hm3
    have hl2 : pre.length + 1 ≤ 1000 := by have := congrArg List.length he; simp at this; omega
    have hsz1 : (mkS figs).length ≤ 100000 := by rw [mkS_length]; omega
    have hsz2 : (mkS figs ++ mkS [c]).length ≤ 100000 := by rw [mkS_append, mkS_length]; simp; omega
    k_steps
    rw [dig_in]
    split
    · rename_i hd
      k_steps
      rename_i F₅ N₅
      refine ⟨_, _, _, _, news, rfl, F₅, N₅, fun p hp => List.mem_append.mpr (.inl hp), fun p hp => List.mem_append.mpr (.inr hp), rfl, rfl, figs ++ [c], c, _, _, ?_, ?_, by rw [← mkS_append]; rfl, rfl, rfl⟩
      · rw [scanAll_snoc, hs, Option.bind_some, step_dig hd]
      · simp; omega
    · rename_i hd
      have hd : isDig c = false := by simpa using hd
      k_steps
      split
      · rename_i hne
        have ha : numAns mn l = [] := by
          unfold numAns
          rw [under_is] at hne
          have : c ≠ 95 := by rw [bne, mkS_beq] at hne; simpa [bne] using hne
          rw [he, scanAll_cut, hs, Option.bind_some, step_bad hd (.inl this)]
          rfl
        rw [ha] at hret
        k_steps
        rw [empty_is]
        exact hret _ _ _ _ F₄ fun p hp => N₃ p (List.mem_append.mpr (.inl hp))
      · rename_i hne
        rw [under_is] at hne
        have hc : c = 95 := by rw [bne, mkS_beq] at hne; simpa [bne] using hne
        k_steps
        split
        · rename_i hb
          have ha : numAns mn l = [] := by
            unfold numAns
            rw [under_is, mkS_beq] at hb
            have : b = 95 := by simpa using hb
            rw [he, scanAll_cut, hs, Option.bind_some, step_bad hd (.inr this)]
            rfl
          rw [ha] at hret
          k_steps
          rw [empty_is]
          exact hret _ _ _ _ F₄ fun p hp => N₃ p (List.mem_append.mpr (.inl hp))
        · rename_i hb
          rw [under_is, mkS_beq] at hb
          have hb : b ≠ 95 := by simpa using hb
          k_steps
          rename_i F₅ N₅
          refine ⟨_, _, _, _, news, rfl, F₅, N₅, fun p hp => List.mem_append.mpr (.inl hp), fun p hp => List.mem_append.mpr (.inr hp), rfl, rfl, figs, c, _, _, ?_, ?_, rfl, rfl, rfl⟩
          · rw [scanAll_snoc, hs, Option.bind_some, step_und hd hc hb]
          · simp; omega
  · rintro m₁ news₁ h tk - ⟨rfl, figs, b, t1, t2, hs, hlen, hm1, hm2, hm3⟩ F₃ N₃
    have ha : numAns mn l = if b == 95 then [] else signed mn (dropZ figs) := by
      unfold numAns
      rw [hs]
    rw [ha] at hret
    exact numD w figs b mn (by omega) mean mg mb news dp un gd cn cs Lc a ccd cl outer base g L _ _ Q B X T hdp hun hret ⟨⟨t1, hm1⟩, ⟨t2, hm2⟩, hm3⟩ F₃ N₃
theorem rstrip_snoc (r : List Nat) (c : Nat) : rstrip (r ++ [c]) = if c == 32 then rstrip r else r ++ [c] := by
  unfold rstrip
  rw [List.reverse_append, List.reverse_singleton, List.singleton_append, List.dropWhile_cons]
  split <;> simp
def hasSign (d : List Nat) : Bool := d.head? == some 43 || d.head? == some 45
def lawNum (l : List Nat) : List Nat := numAns ((rstrip (lstrip l)).head? == some 45) (if hasSign (rstrip (lstrip l)) then (rstrip (lstrip l)).tail else rstrip (lstrip l))
theorem head_is (d : List Nat) (c : Nat) : (Txt.slice (mkS d) none (some 1) == mkS [c]) = (d.head? == some c) := by
  cases d with
  | nil =>
    rw [slice_nil, mkS_beq]
    rfl
  | cons a r =>
    rw [slice_to1, mkS_beq]
    simp
theorem sign_in (d : List Nat) : ([Str.ofString "+", Str.ofString "-"].any fun x => x == Txt.slice (mkS d) none (some 1)) = hasSign d := by
  rw [plus_is, minus_is]
  simp only [List.any_cons, List.any_nil, Bool.or_false, hasSign]
  rw [← head_is, ← head_is, Bool.beq_comm (a := mkS [43]), Bool.beq_comm (a := mkS [45])]
theorem numA (w : World) (l : List Nat) (hpre : l.length ≤ 1000) :
    Part w 60 (Str.ofString "_law_number") (scp 9) 68 (.ref 67) (bdy 9)
      (fun m => ∃ t, m (Str.ofString "field") = some (.str (mkS l) t))
      (fun t => .str (mkS (lawNum l)) t) := by
  rintro mean mg mb news dp un gd cn cs Lc a ccd cl outer base g L m s Q B X T hdp hun hret ⟨t, h1⟩ F N
  conv in (bdy 9) => whnf
  k_steps
  -- while field[:1] == ' '
  refine While_inv2 (n₀ := l.length) (fun n m₁ news₁ => news = news₁ ∧ ∃ c tc, m₁ (Str.ofString "field") = some (.str (mkS c) tc) ∧ c.length = n ∧ c.length ≤ 1000 ∧ lstrip c = lstrip l) F N ⟨rfl, l, t, h1, rfl, hpre, rfl⟩ ?_ PassesOwn.never
  rintro n m₁ news₁ h₁ tk₁ F₁ N₁ ⟨rfl, c, tc, hm, hn, hc1, hc2⟩
  have F₂ := named F₁ hm
  have hlen : (mkS c).length ≤ 100000 := by rw [mkS_length]; omega
  clear F N F₁ hm
  k_steps
  rename_i F₃ N₃ _
  split
  · rename_i hb
    rw [blank_is, head_is] at hb
    obtain ⟨r, rfl⟩ : ∃ r, c = 32 :: r := by
      cases c with
      | nil => simp at hb
      | cons c r =>
        simp at hb
        exact ⟨r, by rw [hb]⟩
    k_steps
    rename_i F₄ N₄
    refine ⟨_, _, _, _, r.length, rfl, F₄, N₄, ?_, rfl, r, _, by rw [slice_from1]; rfl, rfl, ?_, ?_⟩
    · simp at hn; omega
    · simp at hc1; omega
    · rw [← hc2]; rfl
  rename_i hb
  rw [blank_is, head_is] at hb
  have hcl : lstrip c = c := by
    cases c with
    | nil => rfl
    | cons c r =>
      simp at hb
      simp [lstrip, hb]
  rw [hcl] at hc2
  clear hlen hb hcl hn
  k_steps
  -- while field[-1:] == ' '
  refine While_inv2 (n₀ := c.length) (fun n m₁ news₂ => news = news₂ ∧ ∃ d td, m₁ (Str.ofString "field") = some (.str (mkS d) td) ∧ d.length = n ∧ d.length ≤ 1000 ∧ rstrip d = rstrip c) F₃ N₃ ⟨rfl, c, tc, rfl, rfl, hc1, rfl⟩ ?_ PassesOwn.never
  rintro n m₂ news₂ h₂ tk₂ F₁ N₁ ⟨rfl, d, td, hm, hn, hd1, hd2⟩
  have F₂ := named F₁ hm
  have hlen : (mkS d).length ≤ 100000 := by rw [mkS_length]; omega
  clear F₃ N₃ F₁ hm
  k_steps
  rename_i F₃ N₃ _
  split
  · rename_i hb
    obtain ⟨r, rfl⟩ : ∃ r, d = r ++ [32] := by
      rcases List.eq_nil_or_concat d with rfl | ⟨r, e, rfl⟩
      · rw [slice_nil] at hb; exact absurd hb (by decide +kernel)
      · rw [List.concat_eq_append] at hb ⊢
        rw [slice_last, blank_is, mkS_beq] at hb
        simp at hb
        exact ⟨r, by rw [hb]⟩
    k_steps
    rename_i F₄ N₄
    refine ⟨_, _, _, _, r.length, rfl, F₄, N₄, ?_, rfl, r, _, by rw [slice_butlast]; rfl, rfl, ?_, ?_⟩
    · simp at hn; omega
    · simp at hd1; omega
    · rw [← hd2, rstrip_snoc]; rfl
  rename_i hb
  have hdr : rstrip d = d := by
    rcases List.eq_nil_or_concat d with rfl | ⟨r, e, rfl⟩
    · rfl
    · rw [List.concat_eq_append] at hb ⊢
      rw [slice_last, blank_is, mkS_beq] at hb
      simp at hb
      rw [rstrip_snoc]
      simp [hb]
  rw [hdr] at hd2
  clear hlen hb hdr hn
  have hlen : (mkS d).length ≤ 100000 := by rw [mkS_length]; omega
  have ha : lawNum l = numAns (d.head? == some 45) (if hasSign d then d.tail else d) := by
    unfold lawNum
    rw [← hc2, ← hd2]
  rw [ha] at hret
  k_steps
  rename_i F₄ N₄ _
  rw [sign_in]
  rw [minus_is, head_is] at F₄
  split
  · rename_i hs
    rw [if_pos hs] at hret
    obtain ⟨c1, r, rfl⟩ : ∃ c1 r, d = c1 :: r := by
      cases d with
      | nil => simp [hasSign] at hs
      | cons c1 r => exact ⟨c1, r, rfl⟩
    refine cutQ s g L (fun m' => (∃ t', m' (Str.ofString "field") = some (.str (mkS r) t')) ∧ m' (Str.ofString "minus") = some (.bool ((c1 :: r).head? == some 45))) news (fun QQ hQQ => ?_) ?_
    · k_steps
      rename_i F₅ N₅
      exact hQQ _ _ _ ⟨⟨_, by rw [slice_from1]; rfl⟩, rfl⟩ F₅ (dropN N₅)
    · intro h' tk' m' hm' F' N'
      exact numC w r _ (by simp at hd1; omega) mean mg mb news dp un gd cn cs Lc a ccd cl outer base g L _ _ Q B X T hdp hun hret hm' F' N'
  · rename_i hs
    rw [if_neg hs] at hret
    refine wpAny_execs_nil ?_
    exact numC w d _ hd1 mean mg mb news dp un gd cn cs Lc a ccd cl outer base g L _ _ Q B X T hdp hun hret ⟨⟨td, rfl⟩, rfl⟩ F₄ (dropN N₄)
theorem spec_number (w : World) (l : List Nat) (t : Tok) : Spec w 60 68 (l.length ≤ 1000) [.str (mkS l) t] (fun t => .str (mkS (lawNum l)) t) :=
  enter [(Str.ofString "field", .str (mkS l) t)] rfl rfl (fun s _ => BindsTo.of_eq rfl) (locs rfl) rfl rfl rfl (by decide) (by decide) (fun _ => ⟨t, rfl⟩) (numA w l)
end Mine
end
section
open PySem PySem.W PyProof.Rows
namespace Mine
local macro_rules | `(tactic| k_steps) => `(tactic| repeat' (first
  | (with_reducible refine ite_t ?_)
  | (with_reducible refine ite_f ?_)
  | ((fail_if_success (with_reducible show wpAny _ _ (exec (Stmt.While _ _ _ _) _) _ _ _)); (fail_if_success (with_reducible show wpAny _ _ (exec (Stmt.For _ _ _ _ _) _) _ _ _)); (fail_if_success (with_reducible show ite _ _ _)); (first | (k_unfold; (try dsimp only)) | (k_end; kc_close) | walk1 | (dsimp only; walk1) | (leave1; walk_say "STEP leave1"; (try dsimp only)) | fail "no step"))))
local macro_rules | `(tactic| size_fits) => `(tactic| exact fit (by assumption))
set_option maxRecDepth 100000
set_option maxHeartbeats 8000000
theorem c11A (w : World) (c : Nat) : Part w 60 (Str.ofString "in_table_c11") (scp 5) 47 (.ref 46) (bdy 5) (fun m => ∃ t, m (Str.ofString "code") = some (.str (mkS [c]) t)) (fun _ => .bool (c == 32)) := by
  rintro mean mg mb news dp un gd cn cs Lc a ccd cl outer base g L m s Q B X T hdp hun hret ⟨t, h1⟩ F N
  conv in (bdy 5) => whnf
  have F₁ := named F h1
  clear F h1
  k_steps
  have e : (mkS [c] == Str.ofString " ") = (c == 32) := by rw [blank_is, mkS_beq]; simp
  rw [e]
  exact hret 0 _ _ _ F₁ N
theorem spec_c11 (w : World) (c : Nat) (t : Tok) : Spec w 60 47 True [.str (mkS [c]) t] (fun _ => .bool (c == 32)) :=
  enter [(Str.ofString "code", .str (mkS [c]) t)] rfl rfl (fun s _ => BindsTo.of_eq rfl) (locs rfl) rfl rfl rfl (by decide) (by decide) (fun _ => ⟨t, rfl⟩) fun _ => c11A w c
/-! the 27 signs of table B.1, in the set's own order -/
def b1L : List Nat := [65024, 65025, 65026, 65027, 65028, 65029, 6150, 65030, 65031, 65032, 65033, 6155, 6156, 6157, 8203, 8204, 8205, 65034, 65035, 65036, 65037, 65038, 65039, 173, 847, 8288, 65279]
def b1Toks : List Nat := [218, 219, 220, 221, 222, 223, 204, 224, 225, 226, 227, 205, 206, 207, 208, 209, 210, 228, 229, 230, 231, 232, 233, 202, 203, 211, 212]
def isB1 (c : Nat) : Bool := decide (c ∈ b1L)
def b1Es : Array (Int × Value) := ((b1L.zip b1Toks).map fun p => (hashInt (p.1 : Int), Value.int (p.1 : Int) p.2)).toArray
theorem b1_obj (P : Params) : (heapK P).lookup 30 = some ⟨.type "set", none, .set b1Es 29 (b1Table (!P.followText "set-order")), #[]⟩ := by kernel_rfl
theorem b1_mem (k : Int) : (∃ e ∈ b1Es.toList, Value.isInt k e.2 = true) ↔ ∃ c ∈ b1L, (c : Int) = k := by
  have h : b1Es.toList.map (·.2) = (b1L.zip b1Toks).map fun p => Value.int (p.1 : Int) p.2 := by
    simp [b1Es]
  constructor
  · rintro ⟨e, he, hk⟩
    have : e.2 ∈ b1Es.toList.map (·.2) := List.mem_map.mpr ⟨e, he, rfl⟩
    rw [h] at this
    obtain ⟨p, hp, hp2⟩ := List.mem_map.mp this
    rw [← hp2] at hk
    exact ⟨p.1, (List.of_mem_zip hp).1, by simpa [Value.isInt] using hk⟩
  · rintro ⟨c, hc, rfl⟩
    obtain ⟨i, hi, rfl⟩ := List.getElem_of_mem hc
    have h1 : b1L.length = 27 := rfl
    have h2 : b1Toks.length = 27 := rfl
    refine ⟨(hashInt (b1L[i] : Int), Value.int (b1L[i] : Int) (b1Toks[i]'(by omega))), ?_, by simp [Value.isInt]⟩
    simp only [b1Es]
    refine List.mem_map.mpr ⟨(b1L[i], b1Toks[i]'(by omega)), ?_, rfl⟩
    rw [List.mem_iff_getElem]
    exact ⟨i, by simp [h1, h2]; omega, by simp⟩
theorem b1_set {w : World} {h : Heap} (X : (heapK w.params).In h) : h.SetOf (intKind P0 w) 30 (fun k => decide (∃ c ∈ b1L, (c : Int) = k)) 27 := by
  refine ⟨_, b1Es, 29, _, X _ _ (b1_obj w.params), ⟨rfl, rfl, rfl⟩, rfl, ?_, ?_, by decide, by cases w.params.followText "set-order" <;> decide +kernel, by decide⟩
  · intro e he
    simp only [b1Es] at he
    obtain ⟨p, hp, rfl⟩ := List.mem_map.mp he
    exact ⟨⟨(p.1 : Int), by simp [intKind, Value.isInt], rfl⟩, rfl⟩
  · intro k
    rw [decide_eq_true_eq]
    exact (b1_mem k).symm
theorem b1A (w : World) (c : Nat) : Part w 60 (Str.ofString "in_table_b1") (scp 4) 40 (.ref 39) (bdy 4) (fun m => ∃ t, m (Str.ofString "code") = some (.str (mkS [c]) t)) (fun _ => .bool (isB1 c)) := by
  rintro mean mg mb news dp un gd cn cs Lc a ccd cl outer base g L m s Q B X T hdp hun hret ⟨t, h1⟩ F N
  conv in (bdy 4) => whnf
  have F₁ := named F h1
  clear F h1
  k_steps
  refine wpAny_inSet_of (knd := intKind P0 w) (k := (c : Int)) (by simp [intKind, Value.isInt]) rfl (b1_set (X.keeps F₁.keep)) ?_
  have e : decide (∃ d ∈ b1L, (d : Int) = (c : Int)) = isB1 c := by
    unfold isB1
    rw [decide_eq_decide]
    constructor
    · rintro ⟨d, hd, e⟩
      have : d = c := by omega
      exact this ▸ hd
    · intro h
      exact ⟨c, h, rfl⟩
  rw [e]
  exact hret 0 _ _ _ F₁ N
theorem spec_b1 (w : World) (c : Nat) (t : Tok) : Spec w 60 40 True [.str (mkS [c]) t] (fun _ => .bool (isB1 c)) :=
  enter [(Str.ofString "code", .str (mkS [c]) t)] rfl rfl (fun s _ => BindsTo.of_eq rfl) (locs rfl) rfl rfl rfl (by decide) (by decide) (fun _ => ⟨t, rfl⟩) fun _ => b1A w c
end Mine
end
section
open PySem PySem.W PyProof.Rows PyProof.Rows.LCg PyProof.Rows.LCt
namespace Mine
section
variable {prog : Program} {w : World} {A : Around} {E : Value → Shared → Prop} {s : Shared} {h₀ : Heap} {L : Addr} {m : Str → Option Value} {env : Env}
theorem iter_str2 {x : Str} {t : Tok} {Q : Value → Shared → Prop}
    (hQ : ∀ (o : Obj) (St : Nat → Heap → Prop), (∀ A' : Around, A'.handled = none → Walks prog w A' s.heap.objs.size [s.heap.objs.size] [s.heap.objs.size] x.cps.size (SignAt x) St) →
      (∀ i h, St i h → ∃ o, h.get? s.heap.objs.size = some o) → (∀ i h h' o, St i h → h.get? s.heap.objs.size = some o → h'.get? s.heap.objs.size = some o → St i h') → St 0 (s.heap.push o) →
      Q (.ref s.heap.objs.size) { s with heap := s.heap.push o }) : wpAny (model prog w) A (pyIter (.str x t)) Q E s := by
  have h1 : ∀ ty i (h : Heap), h.IsStrIter s.heap.objs.size ty x t i → ∃ o, h.get? s.heap.objs.size = some o := fun ty i h ⟨o, ho, _⟩ => ⟨o, ho⟩
  have h2 : ∀ ty i (h h' : Heap) o, h.IsStrIter s.heap.objs.size ty x t i → h.get? s.heap.objs.size = some o → h'.get? s.heap.objs.size = some o → h'.IsStrIter s.heap.objs.size ty x t i := by
    rintro ty i h h' o ⟨o', ho, r⟩ e e'
    rw [ho] at e
    cases e
    exact ⟨_, e', r⟩
  cases ha : x.cps.all (· < 128)
  · exact wpAny_pyIter_wide ha (hQ _ _ (fun A' hA => Walks.strWide hA _ x t) (h1 _) (h2 _) ⟨_, Heap.get?_push_size _ rfl, rfl, rfl⟩)
  · exact wpAny_pyIter_ascii ha (hQ _ _ (fun A' hA => Walks.strAscii hA _ x t) (h1 _) (h2 _) ⟨_, Heap.get?_push_size _ rfl, rfl, rfl⟩)
/-- a comprehension with one test over a text's signs -/
theorem comp_textT {ct elt iter : Expr} {x : Str} {px : Pos} {scope : Scope} {cl : List (Str × Addr)} {pos : Pos} {Q : Value → Shared → Prop} (F₀ : Fr h₀ L s.heap m)
    (hclos : closureFor scope env = pure cl) (hcell : ∀ y ∈ scope.names, y.2 ≠ .cell) (hkind : scope.kind = .function)
    (hnames : ∀ y ∈ scope.names, y.2 = .local → scope.names.lookup y.1 = some .local) (hx : scope.names.lookup x = some .local)
    (h : wpAny (model prog w) A (eval iter env) (fun xv s₁ => ∃ l tx news, xv = .str (mkS l) tx ∧ A.handled = none ∧ Fr h₀ L s₁.heap m ∧ News h₀ L s₁.heap news ∧ l.length ≤ sizeLine ∧
      ∀ s₂ : Shared, (∃ h, s₂ = { s₁ with heap := h }) → CompRestT prog w A h₀ L m env ct elt x scope cl s₂ (fun _ => True) (SignAt (mkS l)) (FinE h₀ L m s₂ Q) l.length 0 [] news) E s)
    (hs : ∀ x, foldedSetIterable iter env x = pure x := by intro _; rfl) :
    wpAny (model prog w) A (eval (.ListComp elt [⟨.Name x px, iter, [ct], 0⟩] scope pos) env) Q E s := by
  rw [eval_ListComp]
  refine wpAny_comprehension_free (use := none) rfl hs hclos hkind hnames (wpAny_mono h (fun xv s₁ h₁ => ?_) fun _ _ e => e)
  obtain ⟨l, tx, news, rfl, hh, F, N, hsz, R⟩ := h₁
  have hln : (mkS l).cps.size = l.length := by simp [mkS]
  refine iter_str2 fun o St W hIo hSt hst => ?_
  rw [hln] at W
  refine block_T (W A hh) hsz hIo (fun i h h' o nw a b c _ _ _ => hSt i h h' o a b c) hcell hkind hx hst (fun b hb => ?_)
    (F.keeps fun _ _ e => Heap.get?_push_of_some _ e) (N.grown fun _ _ e => Heap.get?_push_of_some _ e) (Nat.ne_of_lt F.ns.lt) (next_is_new F) (fun p hp => Nat.ne_of_lt (Heap.lt_size (N p hp).1)) trivial (R _ ⟨_, rfl⟩) ?_
  · rw [List.mem_singleton.mp hb]
    show s₁.heap.objs.size < (s₁.heap.push _).objs.size
    rw [Heap.size_push]; exact Nat.lt_succ_self _
  · intro D C h tk m' ys news' F' N' o1 hn hC₀ hD₀ hCL hDL hCD offC fin
    refine ⟨m', hn, fun h'' hs'' => fin D h'' tk (F'.change hs'' hCL hC₀) (fun p hp => ?_) o1⟩
    refine ⟨hs''.extBut _ _ ?_ (N' p hp).1, (N' p hp).2⟩
    rcases List.mem_cons.mp hp with rfl | hp
    · exact Ne.symm hCD
    · exact offC p hp
/-- the turns of such a comprehension whose element is the sign itself: what the test lets through -/
theorem rest_filter {ct elt : Expr} {x : Str} {scope : Scope} {cl : List (Str × Addr)} {Fin : List Value → List (Addr × Obj) → Prop} {news : List (Addr × Obj)} (p : Nat → Bool) (l : List Nat)
    (test : ∀ c t I oI C oC D m₂ ys h tk (E' : Value → Shared → Prop) (Qb : Bool → Shared → Prop), c ∈ l → NsObj oC m₂ → m₂ x = some (.str (mkS [c]) t) → Fr h₀ L h m → News h₀ L h ((I, oI) :: (C, oC) :: (D, lst ys) :: news) → Off3 I C D news → ((@Ne Nat I C) ∧ (@Ne Nat I D) ∧ (@Ne Nat C D)) →
      (∀ h' tk', Fr h₀ L h' m → News h₀ L h' ((I, oI) :: (C, oC) :: (D, lst ys) :: news) → Qb (p c) { s with heap := h', toks := tk' }) →
      wpAny (model prog w) A (isTrue ct (compEnvC scope cl C env) (eval ct (compEnvC scope cl C env))) Qb E' { s with heap := h, toks := tk })
    (elem : ∀ c t I oI C oC D m₂ ys h tk (E' : Value → Shared → Prop) (Qv : Value → Shared → Prop), NsObj oC m₂ → m₂ x = some (.str (mkS [c]) t) → Fr h₀ L h m → News h₀ L h ((I, oI) :: (C, oC) :: (D, lst ys) :: news) →
      Qv (.str (mkS [c]) t) { s with heap := h, toks := tk } → wpAny (model prog w) A (eval elt (compEnvC scope cl C env)) Qv E' { s with heap := h, toks := tk })
    (fin : ∀ ys, StrsAre ys ((l.filter p).map fun c => mkS [c]) → Fin ys news) :
    CompRestT prog w A h₀ L m env ct elt x scope cl s (fun _ => True) (SignAt (mkS l)) Fin l.length 0 [] news := by
  have key : ∀ (post pre : List Nat) (ys : List Value), l = pre ++ post → StrsAre ys ((pre.filter p).map fun c => mkS [c]) → CompRestT prog w A h₀ L m env ct elt x scope cl s (fun _ => True) (SignAt (mkS l)) Fin post.length pre.length ys news := by
    intro post
    induction post with
    | nil =>
      intro pre ys hl hy
      rw [List.append_nil] at hl
      subst hl
      exact CompRestT.zero (fin ys hy)
    | cons c post ih =>
      intro pre ys hl hy
      refine CompRestT.succ ?_
      rintro v I oI C oC D m₂ h tk E' ⟨c', u, hc', rfl⟩ hC hx F₃ N₃ off ne
      have e : c' = c := by
        have : l[pre.length]? = some c' := by simpa [mkS] using hc'
        rw [hl] at this
        simpa using this.symm
      subst e
      have hl' : l = (pre ++ [c']) ++ post := by rw [hl]; simp
      refine test c' u I oI C oC D m₂ ys h tk E' _ (by rw [hl]; simp) hC hx F₃ N₃ off ne ?_
      intro h' tk' F₄ N₄
      have hlen : pre.length + 1 = (pre ++ [c']).length := by simp
      cases hp : p c' with
      | true =>
        refine ite_t ?_
        refine elem c' u I oI C oC D m₂ ys h' tk' E' _ hC hx F₄ N₄ ?_
        refine ⟨h', tk', news, rfl, F₄, N₄, off, trivial, ?_⟩
        rw [hlen]
        refine ih (pre ++ [c']) _ hl' ?_
        rw [List.filter_append, List.map_append]
        simp only [List.filter_cons, hp, if_true, List.filter_nil, List.map_cons, List.map_nil]
        exact hy.append' (.cons _ _ .nil)
      | false =>
        refine ite_f ?_
        refine ⟨h', tk', news, rfl, F₄, N₄, off, trivial, ?_⟩
        rw [hlen]
        refine ih (pre ++ [c']) _ hl' ?_
        rw [List.filter_append, List.map_append]
        simp only [List.filter_cons, hp, List.filter_nil, List.map_nil, List.append_nil]
        simpa using hy
  exact key l [] [] rfl .nil
end
/-- a def called in a def's frame, by what is known of it -/
theorem callS {w : World} {D : Nat} {f : Addr} {pre : Prop} {vs : List Value} {R : Tok → Value} (S : Spec w D f pre vs R) {mean : ExcName → Option Value} {mg mb : Str → Option Value} {news : List (Addr × Obj)} {dp un : Nat} {gd : Option (List Code)} {cn : Str} {cs : Scope} {Lc a : Addr} {ccd : Value} {cl : List (Str × Addr)} {outer : List Env} {base g : Heap} {L : Addr} {m : Str → Option Value} {s : Shared} {Q E : Value → Shared → Prop} {qual : Str} {scope : Scope} {f' : Addr} {cdv : Value}
    (B : Below (ktrTop dp un gd cn cs Lc a ccd cl outer) base (envX cn cs Lc a ccd cl :: outer) g) (X : (heapK w.params).In g) (T : Top q0 (looseW q0 loose0) mean mg mb g) (hk : scope.kind = .function) (hp : pre) (hdp : dp + 1 < 10 * D) (hun : un + 3 < 100 * D)
    (F : Fr g L s.heap m) (N : News g L s.heap news)
    (ret : ∀ (t : Tok) (h' : Heap) (tk' : Nat), Fr g L h' m → News g L h' news → Q (R t) { s with heap := h', toks := tk' }) :
    wpAny (model P0 w) ((ktrTop dp un gd cn cs Lc a ccd cl outer).deeper (envOf qual scope L f' cdv)) (call (.ref f) vs) Q E s :=
  S mean mg mb news (dp + 1) (un + 3) gd qual scope f' cdv [] (envX cn cs Lc a ccd cl :: outer) _ base g L m s Q E B F X N T hk hp hdp hun ret
/-! texts joined, by their signs -/
def ljoin (sep : List Nat) : List (List Nat) → List Nat
  | [] => []
  | [x] => x
  | x :: y :: r => x ++ sep ++ ljoin sep (y :: r)
theorem join_mk (sep : List Nat) : ∀ ls : List (List Nat), Txt.join (mkS sep) (ls.map mkS) = mkS (ljoin sep ls) := by
  intro ls
  show Builtin.Str.glued _ _ = _
  rw [StrLaws.glued_eq_join]
  induction ls with
  | nil => rfl
  | cons x r ih =>
    cases r with
    | nil => rfl
    | cons y r =>
      show mkS x ++ mkS sep ++ Str.join (mkS sep) ((y :: r).map mkS) = _
      rw [ih, mkS_append, mkS_append]
      rfl
theorem ljoin_nil (ls : List (List Nat)) : ljoin [] ls = ls.flatten := by
  induction ls with
  | nil => rfl
  | cons x r ih =>
    cases r with
    | nil => simp [ljoin]
    | cons y r => rw [ljoin, ih]; simp
theorem ljoin_signs (l : List Nat) : ljoin [] (l.map fun c => [c]) = l := by
  rw [ljoin_nil]
  induction l with
  | nil => rfl
  | cons c r ih => simpa using ih
theorem sum_signs (l : List Nat) : (((l.map fun c => [c]).map mkS).map (·.length)).sum = l.length := by
  induction l with
  | nil => rfl
  | cons c r ih =>
    simp only [List.map_cons, List.sum_cons, mkS_length, List.length_cons, List.length_nil]
    simp only [List.map_map] at ih ⊢
    omega
end Mine
end
section
open PySem PySem.W PyProof.Rows PyProof.Rows.LCg PyProof.Rows.LCt
namespace Mine
local macro_rules | `(tactic| k_steps) => `(tactic| repeat' (first
  | (with_reducible refine ite_t ?_)
  | (with_reducible refine ite_f ?_)
  | ((fail_if_success (with_reducible show wpAny _ _ (exec (Stmt.While _ _ _ _) _) _ _ _)); (fail_if_success (with_reducible show wpAny _ _ (exec (Stmt.For _ _ _ _ _) _) _ _ _)); (fail_if_success (with_reducible show wpAny _ _ (eval (Expr.ListComp _ _ _ _) _) _ _ _)); (fail_if_success (with_reducible show wpAny _ _ (call (Value.ref _) _) _ _ _)); (fail_if_success (with_reducible show ite _ _ _)); (first | (k_unfold; (try dsimp only)) | (k_end; kc_close) | walk1 | (dsimp only; walk1) | (leave1; walk_say "STEP leave1"; (try dsimp only)) | fail "no step"))))
local macro_rules | `(tactic| size_fits) => `(tactic| exact fit (by assumption))
set_option maxRecDepth 100000
set_option maxHeartbeats 8000000
theorem visA (w : World) (l : List Nat) (hl : l.length ≤ 1000) : Part w 50 (Str.ofString "_law_visible") (scp 11) 78 (.ref 77) (bdy 11) (fun m => ∃ t, m (Str.ofString "text") = some (.str (mkS l) t)) (fun t => .str (mkS (l.filter fun c => !isB1 c)) t) := by
  rintro mean mg mb news dp un gd cn cs Lc a ccd cl outer base g L m s Q B X T hdp hun hret ⟨t, h1⟩ F N
  conv in (bdy 11) => whnf
  have F₁ := named F h1
  clear F h1
  have hlen : (mkS l).length ≤ 100000 := by rw [mkS_length]; omega
  k_steps
  refine comp_textT (cl := []) F₁ rfl (by decide) rfl (by decide) rfl ?_
  refine ld F₁ rfl ?_
  refine ⟨l, t, news, rfl, rfl, F₁, N, fit (by omega), ?_⟩
  rintro s₂ ⟨h₂, rfl⟩
  refine rest_filter (fun c => !isB1 c) l ?_ ?_ ?_
  · rintro c tc I oI C oC D m₂ ys h tk E' Qb hcl hC hx F₃ N₃ off ne hb
    k_steps
    refine callS (spec_b1 w c tc) B X T rfl trivial (by omega) (by omega) F₃ N₃ ?_
    intro t' h' tk' F₄ N₄
    exact wpAny_truthy_bool (hb h' tk' F₄ N₄)
  · rintro c tc I oI C oC D m₂ ys h tk E' Qv hC hx F₃ N₃ hv
    k_steps
    exact hv
  · rintro ys hys D h tk F₃ N₃ off
    k_steps
    have hw : ((((l.filter fun c => !isB1 c).map fun c => [c]).map mkS).map (·.length)).sum + (((l.filter fun c => !isB1 c).map fun c => [c]).map mkS).length ≤ 1048576 := by
      rw [sum_signs]
      have := List.length_filter_le (fun c => !isB1 c) l
      simp only [List.length_map]
      omega
    refine join_listW (ys := ((l.filter fun c => !isB1 c).map fun c => [c]).map mkS) (News.isList N₃ (List.mem_cons_self)) (by rw [List.map_map]; exact hys) (by rw [empty_is, mkS_length]; decide) hw ?_
    intro t' k
    rw [empty_is, join_mk, ljoin_signs]
    exact hret _ _ _ _ F₃ (dropN N₃)
theorem spec_visible (w : World) (l : List Nat) (t : Tok) : Spec w 50 78 (l.length ≤ 1000) [.str (mkS l) t] (fun t => .str (mkS (l.filter fun c => !isB1 c)) t) :=
  enter [(Str.ofString "text", .str (mkS l) t)] rfl rfl (fun s _ => BindsTo.of_eq rfl) (locs rfl) rfl rfl rfl (by decide) (by decide) (fun _ => ⟨t, rfl⟩) (visA w l)
theorem unspA (w : World) (l : List Nat) (hl : l.length ≤ 1000) : Part w 50 (Str.ofString "_law_unspaced") (scp 12) 83 (.ref 82) (bdy 12) (fun m => ∃ t, m (Str.ofString "text") = some (.str (mkS l) t)) (fun t => .str (mkS (l.filter fun c => !(c == 32))) t) := by
  rintro mean mg mb news dp un gd cn cs Lc a ccd cl outer base g L m s Q B X T hdp hun hret ⟨t, h1⟩ F N
  conv in (bdy 12) => whnf
  have F₁ := named F h1
  clear F h1
  have hlen : (mkS l).length ≤ 100000 := by rw [mkS_length]; omega
  k_steps
  refine comp_textT (cl := []) F₁ rfl (by decide) rfl (by decide) rfl ?_
  refine ld F₁ rfl ?_
  refine ⟨l, t, news, rfl, rfl, F₁, N, fit (by omega), ?_⟩
  rintro s₂ ⟨h₂, rfl⟩
  refine rest_filter (fun c => !(c == 32)) l ?_ ?_ ?_
  · rintro c tc I oI C oC D m₂ ys h tk E' Qb hcl hC hx F₃ N₃ off ne hb
    k_steps
    refine callS (spec_c11 w c tc) B X T rfl trivial (by omega) (by omega) F₃ N₃ ?_
    intro t' h' tk' F₄ N₄
    exact wpAny_truthy_bool (hb h' tk' F₄ N₄)
  · rintro c tc I oI C oC D m₂ ys h tk E' Qv hC hx F₃ N₃ hv
    k_steps
    exact hv
  · rintro ys hys D h tk F₃ N₃ off
    k_steps
    have hw : ((((l.filter fun c => !(c == 32)).map fun c => [c]).map mkS).map (·.length)).sum + (((l.filter fun c => !(c == 32)).map fun c => [c]).map mkS).length ≤ 1048576 := by
      rw [sum_signs]
      have := List.length_filter_le (fun c => !(c == 32)) l
      simp only [List.length_map]
      omega
    refine join_listW (ys := ((l.filter fun c => !(c == 32)).map fun c => [c]).map mkS) (News.isList N₃ (List.mem_cons_self)) (by rw [List.map_map]; exact hys) (by rw [empty_is, mkS_length]; decide) hw ?_
    intro t' k
    rw [empty_is, join_mk, ljoin_signs]
    exact hret _ _ _ _ F₃ (dropN N₃)
theorem spec_unspaced (w : World) (l : List Nat) (t : Tok) : Spec w 50 83 (l.length ≤ 1000) [.str (mkS l) t] (fun t => .str (mkS (l.filter fun c => !(c == 32))) t) :=
  enter [(Str.ofString "text", .str (mkS l) t)] rfl rfl (fun s _ => BindsTo.of_eq rfl) (locs rfl) rfl rfl rfl (by decide) (by decide) (fun _ => ⟨t, rfl⟩) (unspA w l)
end Mine
end
section
open PySem PySem.W PyProof.Rows PyProof.Rows.LCg PyProof.Rows.LCt
namespace Mine
local macro_rules | `(tactic| k_steps) => `(tactic| repeat' (first
  | (with_reducible refine ite_t ?_)
  | (with_reducible refine ite_f ?_)
  | ((fail_if_success (with_reducible show wpAny _ _ (exec (Stmt.While _ _ _ _) _) _ _ _)); (fail_if_success (with_reducible show wpAny _ _ (exec (Stmt.For _ _ _ _ _) _) _ _ _)); (fail_if_success (with_reducible show wpAny _ _ (eval (Expr.ListComp _ _ _ _) _) _ _ _)); (fail_if_success (with_reducible show wpAny _ _ (call (Value.ref _) _) _ _ _)); (fail_if_success (with_reducible show ite _ _ _)); (first | (k_unfold; (try dsimp only)) | (k_end; kc_close) | walk1 | (dsimp only; walk1) | (leave1; walk_say "STEP leave1"; (try dsimp only)) | fail "no step"))))
local macro_rules | `(tactic| size_fits) => `(tactic| exact fit (by assumption))
set_option maxRecDepth 100000
set_option maxHeartbeats 8000000
/-! the same for a def that gives back a new object: Ret says the answer and the ledger behind it -/
abbrev Rets := List (Addr × Obj) → Value → List (Addr × Obj) → Prop
abbrev SpecX (w : World) (D : Nat) (f : Addr) (vs : List Value) (Pb : Heap → Prop) (Ret : Rets) : Prop :=
  ∀ (mean : ExcName → Option Value) (mg mb : Str → Option Value) (news : List (Addr × Obj)) (dp un : Nat) (gd : Option (List Code)) (cn : Str) (cs : Scope) (a : Addr) (ccd : Value) (cl : List (Str × Addr)) (outer : List Env) (A₀ : Around) (base h₀ : Heap) (L : Addr) (m : Str → Option Value) (s : Shared) (Q E : Value → Shared → Prop),
    Below A₀ base outer h₀ → Fr h₀ L s.heap m → (heapK w.params).In h₀ → Pb h₀ → News h₀ L s.heap news → Top q0 (looseW q0 loose0) mean mg mb h₀ → cs.kind = .function →
    dp < 10 * D → un < 100 * D →
    (∀ (v : Value) (news' : List (Addr × Obj)) (h' : Heap) (tk' : Nat), Ret news v news' → Fr h₀ L h' m → News h₀ L h' news' → Q v { s with heap := h', toks := tk' }) →
    wpAny (model P0 w) (ktrTop dp un gd cn cs L a ccd cl outer) (call (.ref f) vs) Q E s
abbrev PartX (w : World) (D : Nat) (qual : Str) (scope : Scope) (f : Addr) (cdv : Value) (body : List Stmt) (Pb : Heap → Prop) (Pm : (Str → Option Value) → Prop) (Ret : Rets) : Prop :=
  ∀ (mean : ExcName → Option Value) (mg mb : Str → Option Value) (news : List (Addr × Obj)) (dp un : Nat) (gd : Option (List Code)) (cn : Str) (cs : Scope) (Lc a : Addr) (ccd : Value) (cl : List (Str × Addr)) (outer : List Env) (base g : Heap) (L : Addr) (m : Str → Option Value) (s : Shared) (Q : Flow → Shared → Prop),
    Below (ktrTop dp un gd cn cs Lc a ccd cl outer) base (envX cn cs Lc a ccd cl :: outer) g → (heapK w.params).In g → Pb g → Top q0 (looseW q0 loose0) mean mg mb g →
    dp < 10 * D → un < 100 * D →
    (∀ (v : Value) (news' : List (Addr × Obj)) (h' : Heap) (tk' : Nat) (m' : Str → Option Value), Ret news v news' → Fr g L h' m' → News g L h' news' → Q (.ret v) { s with heap := h', toks := tk' }) →
    Pm m → Fr g L s.heap m → News g L s.heap news →
    wpAny (model P0 w) ((ktrTop dp un gd cn cs Lc a ccd cl outer).deeper (envOf qual scope L f cdv)) (execs body (envOf qual scope L f cdv)) Q Never s
theorem enterX {w : World} {D : Nat} {f : Addr} {vs : List Value} {Ret : Rets} {qual : Str} {params : Arguments} {body : List Stmt} {scope : Scope} {dV pm cdv : Value} {Pb : Heap → Prop} {Pm : (Str → Option Value) → Prop} (binds : List (Str × Value))
    (ho : (heapK w.params).lookup f = some ⟨.type "function", none, .func (fnOf qual qual params body scope dV .none .none pm none cdv .none), #[]⟩)
    (hcd : codeIn (heapK w.params) cdv qual = true)
    (hbind : ∀ s : Shared, (heapK w.params).In s.heap → BindsTo s (fnOf qual qual params body scope dV .none .none pm none cdv .none) ⟨vs, []⟩ binds)
    (hloc : ∀ y ∈ binds, scope.names.lookup y.1 = some .local) (hco : scope.isCoroutine = false) (hgen : scope.isGenerator = false) (hk : scope.kind = .function) (hcell : ∀ x ∈ scope.names, x.2 ≠ .cell) (hD : D ≤ 90)
    (hpb : ∀ h h', Pb h → (∀ b o, h.get? b = some o → h'.get? b = some o) → Pb h')
    (hm : Pm fun y => binds.reverse.lookup y)
    (hb : PartX w D qual scope f cdv body Pb Pm Ret) : SpecX w D f vs Pb Ret := by
  intro mean mg mb news dp un gd cn cs a ccd cl outer A₀ base h₀ L m s Q E B F X hpre N T hk' hdp hun hret
  refine wpAny_call ?_
  refine callX_plain (cl := []) (dV := dV) (pm := pm) (params := params) (env := envX cn cs L a ccd cl) B F N T.nolimit rfl rfl hk' ((X.keeps F.keep) _ _ ho) rfl (codeRec_of (X.keeps F.keep) hcd) ?_ (hbind s (X.keeps F.keep)) hloc ?_ hcell hco hgen hk
  · show dp < recursionLimit
    unfold recursionLimit
    omega
  · intro g L' h₁ FG F' N' B' st _
    refine wpAny_mono (hb mean mg mb news dp un gd cn cs L a ccd cl outer base g L' _ { s with heap := h₁, toks := s.toks + binds.length } _ B' (X.keeps st) (hpb _ _ hpre st) (T.keeps st) hdp hun ?_ hm F' N') (fun f s' q => q) (fun e s' q => q.elim)
    intro v news' h' tk' m' hv F₂ N₂
    exact leaveK_ F₂ N₂ fun F₃ N₃ => hret v news' h' tk' hv F₃ N₃
theorem callSX {w : World} {D : Nat} {f : Addr} {vs : List Value} {Pb : Heap → Prop} {Ret : Rets} (S : SpecX w D f vs Pb Ret) {mean : ExcName → Option Value} {mg mb : Str → Option Value} {news : List (Addr × Obj)} {dp un : Nat} {gd : Option (List Code)} {cn : Str} {cs : Scope} {Lc a : Addr} {ccd : Value} {cl : List (Str × Addr)} {outer : List Env} {base g : Heap} {L : Addr} {m : Str → Option Value} {s : Shared} {Q E : Value → Shared → Prop} {qual : Str} {scope : Scope} {f' : Addr} {cdv : Value}
    (B : Below (ktrTop dp un gd cn cs Lc a ccd cl outer) base (envX cn cs Lc a ccd cl :: outer) g) (X : (heapK w.params).In g) (hpb : Pb g) (T : Top q0 (looseW q0 loose0) mean mg mb g) (hk : scope.kind = .function) (hdp : dp + 1 < 10 * D) (hun : un + 3 < 100 * D)
    (F : Fr g L s.heap m) (N : News g L s.heap news)
    (ret : ∀ (v : Value) (news' : List (Addr × Obj)) (h' : Heap) (tk' : Nat), Ret news v news' → Fr g L h' m → News g L h' news' → Q v { s with heap := h', toks := tk' }) :
    wpAny (model P0 w) ((ktrTop dp un gd cn cs Lc a ccd cl outer).deeper (envOf qual scope L f' cdv)) (call (.ref f) vs) Q E s :=
  S mean mg mb news (dp + 1) (un + 3) gd qual scope f' cdv [] (envX cn cs Lc a ccd cl :: outer) _ base g L m s Q E B F X hpb N T hk hdp hun ret
theorem drop2 {g h : Heap} {L : Addr} {p q : Addr × Obj} {news : List (Addr × Obj)} (N : News g L h (p :: q :: news)) : News g L h (p :: news) := fun r hr => by
  rcases List.mem_cons.mp hr with rfl | hr
  · exact N _ List.mem_cons_self
  · exact N _ (List.mem_cons_of_mem _ (List.mem_cons_of_mem _ hr))
/-- the 27 numbers in the text's order -/
def nothL : List Nat := [173, 847, 6150, 6155, 6156, 6157, 8203, 8204, 8205, 8288, 65279, 65024, 65025, 65026, 65027, 65028, 65029, 65030, 65031, 65032, 65033, 65034, 65035, 65036, 65037, 65038, 65039]
theorem intsOf_ex : ∃ f : List Nat → List Int, ∀ l, f l = l.map fun (n : Nat) => (n : Int) := ⟨_, fun _ => rfl⟩
/-- the numbers as ints, kept shut -/
noncomputable def intsOf : List Nat → List Int := Classical.choose intsOf_ex
theorem intsOf_eq (l : List Nat) : intsOf l = l.map fun (n : Nat) => (n : Int) := Classical.choose_spec intsOf_ex l
theorem noth_is : ([173, 847, 6150, 6155, 6156, 6157, 8203, 8204, 8205, 8288, 65279] : List Int) ++ rangeInts 65024 1 (65040 - 65024 : Int).toNat = intsOf nothL := by
  rw [intsOf_eq]
  decide +kernel
theorem noth_len : ([173, 847, 6150, 6155, 6156, 6157, 8203, 8204, 8205, 8288, 65279] : List Int).length + (rangeInts 65024 1 (65040 - 65024 : Int).toNat).length ≤ 100000 := by decide +kernel
/-- a new list of ints -/
abbrev NewInts (ns : List Int) : Rets := fun news v news' => ∃ l its n, v = .ref l ∧ news' = (l, W.listOf its n) :: news ∧ IntsAre its.toList ns ∧ ∀ p ∈ news, p.1 < l
theorem nothA (w : World) : PartX w 60 (Str.ofString "_law_nothing") (scp 7) 54 (.ref 53) (bdy 7) (fun _ => True) (fun _ => True) (NewInts (intsOf nothL)) := by
  rintro mean mg mb news dp un gd cn cs Lc a ccd cl outer base g L m s Q B X - T hdp hun hret - F N
  conv in (bdy 7) => whnf
  k_steps
  rename_i F₁ N₁ hk1 fr1 isl np hc mm
  refine add_arrays_ints F₁ N₁ (News.isList N₁ (List.mem_cons_self)) isl (ns := [173, 847, 6150, 6155, 6156, 6157, 8203, 8204, 8205, 8288, 65279]) (ms := rangeInts 65024 1 (65040 - 65024 : Int).toNat) ?_ ?_ ?_ ?_
  · exact .cons _ _ (.cons _ _ (.cons _ _ (.cons _ _ (.cons _ _ (.cons _ _ (.cons _ _ (.cons _ _ (.cons _ _ (.cons _ _ (.cons _ _ (.nil)))))))))))
  · exact IntsAre.ofCarried hc
  · intro h' F₂ N₂ hi
    rw [noth_is] at hi
    refine hret _ _ _ _ _ ?_ F₂ (drop2 N₂)
    refine ⟨_, _, 0, rfl, rfl, hi, ?_⟩
    intro p hp
    exact Heap.lt_size (N₁ p (List.mem_cons_of_mem _ hp)).1
  · exact fit noth_len
theorem spec_nothing (w : World) : SpecX w 60 54 [] (fun _ => True) (NewInts (intsOf nothL)) := by
  have h1 : (heapK w.params).lookup 54 = some ⟨.type "function", none, .func (fnOf (Str.ofString "_law_nothing") (Str.ofString "_law_nothing") (prm 7) (bdy 7) (scp 7) .none .none .none (Value.str (Str.ofString "law_mj0032_01") 276) none (.ref 53) .none), #[]⟩ := rfl
  have h2 : codeIn (heapK w.params) (.ref 53) (Str.ofString "_law_nothing") = true := by kernel_rfl
  have h3 : ∀ s : Shared, (heapK w.params).In s.heap → BindsTo s (fnOf (Str.ofString "_law_nothing") (Str.ofString "_law_nothing") (prm 7) (bdy 7) (scp 7) .none .none .none (Value.str (Str.ofString "law_mj0032_01") 276) none (.ref 53) .none) ⟨[], []⟩ [] := fun s _ => BindsTo.of_eq (by kernel_rfl)
  refine enterX (Pm := fun _ => True) (Ret := NewInts (intsOf nothL)) [] h1 h2 h3 (fun y hy => nomatch hy) rfl rfl rfl (by decide) (by decide) (fun _ _ _ _ => True.intro) True.intro ?_
  with_reducible exact nothA w
end Mine
end
section
open PySem PySem.W PyProof.Rows PyProof.Rows.LCg PyProof.Rows.LCt
namespace Mine
local macro_rules | `(tactic| k_steps) => `(tactic| repeat' (first
  | (with_reducible refine ite_t ?_)
  | (with_reducible refine ite_f ?_)
  | ((fail_if_success (with_reducible show wpAny _ _ (exec (Stmt.While _ _ _ _) _) _ _ _)); (fail_if_success (with_reducible show wpAny _ _ (exec (Stmt.For _ _ _ _ _) _) _ _ _)); (fail_if_success (with_reducible show wpAny _ _ (eval (Expr.ListComp _ _ _ _) _) _ _ _)); (fail_if_success (with_reducible show wpAny _ _ (call (Value.ref _) _) _ _ _)); (fail_if_success (with_reducible show ite _ _ _)); (first | (k_unfold; (try dsimp only)) | (k_end; kc_close) | walk1 | (dsimp only; walk1) | (leave1; walk_say "STEP leave1"; (try dsimp only)) | fail "no step"))))
local macro_rules | `(tactic| size_fits) => `(tactic| exact fit (by assumption))
set_option maxRecDepth 100000
set_option maxHeartbeats 8000000
def vStep (out : Nat → Bool) (st : List (List Nat) × List Nat) (c : Nat) : List (List Nat) × List Nat := if c == 46 then (st.1 ++ [st.2], []) else if out c then st else (st.1, st.2 ++ [c])
def vFold (out : Nat → Bool) (l : List Nat) : List (List Nat) × List Nat := l.foldl (vStep out) ([], [])
section
variable {prog : Program} {w : World} {A : Around} {E : Value → Shared → Prop} {s : Shared}
def isIt (c : Int) : Value → Bool
  | .int k _ => k == c
  | _ => false
theorem ints_mem : ∀ {vs : List Value} {ns : List Int}, IntsAre vs ns → ∀ y ∈ vs, ∃ k t, y = Value.int k t := by
  intro vs ns h
  induction h with
  | nil => intro y hy; cases hy
  | cons k t _ ih =>
    intro y hy
    rcases List.mem_cons.mp hy with rfl | hy
    · exact ⟨k, t, rfl⟩
    · exact ih y hy
theorem ints_any : ∀ {vs : List Value} {ns : List Int}, IntsAre vs ns → ∀ c : Int, vs.any (isIt c) = decide (c ∈ ns) := by
  intro vs ns h c
  induction h with
  | nil => simp
  | cons k t _ ih =>
    rw [List.any_cons, ih]
    simp only [isIt, List.mem_cons]
    by_cases e : k = c
    · simp [e]
    · simp [e, Ne.symm e]
theorem mem_intsOf (c : Nat) (ns : List Nat) : ((c : Int) ∈ intsOf ns) ↔ c ∈ ns := by
  rw [intsOf_eq]
  rw [List.mem_map]
  constructor
  · rintro ⟨d, hd, e⟩
    have : d = c := by omega
    exact this ▸ hd
  · intro h
    exact ⟨c, h, rfl⟩
theorem notin_ints {lo : Addr} {its : Array Value} {ns : List Nat} {c : Nat} {u : Tok} {Q : Value → Shared → Prop} (hl : s.heap.IsList lo its) (hi : IntsAre its.toList (intsOf ns)) (h : Q (.bool (!decide (c ∈ ns))) s) :
    wpAny (model prog w) A (compareOp .NotIn (.int (c : Int) u) (.ref lo)) Q E s := by
  refine SeqInW.notIn_listW (isIt (c : Int)) (fun y hy => ?_) hl ?_
  · obtain ⟨k, t, rfl⟩ := ints_mem hi y (Array.mem_toList_iff.mpr hy)
    exact MeetsSeq.EqGives.int k (c : Int) t u
  · rw [← Array.any_toList, ints_any hi, decide_eq_decide.mpr (mem_intsOf c ns)]
    exact h
end
theorem allLt_mem {d : Addr} : ∀ {l : List (Addr × Obj)}, AllLt d l → ∀ p ∈ l, p.1 < d
  | [], _, _, h => nomatch h
  | q :: r, x, p, h => by
    rcases List.mem_cons.mp h with rfl | h
    · exact x.1
    · exact allLt_mem x.2 p h
theorem dot_is : Str.ofString "." = mkS [46] := by decide +kernel
theorem vFold_snoc (out : Nat → Bool) (pre : List Nat) (c : Nat) : vFold out (pre ++ [c]) = vStep out (vFold out pre) c := by
  simp [vFold]
theorem strs_snoc_inv : ∀ {vs : List Value} {xs : List Str} {x : Str}, StrsAre vs (xs ++ [x]) → ∃ ws t, vs = ws ++ [.str x t] ∧ StrsAre ws xs
  | _, [], _, .cons x t .nil => ⟨[], t, rfl, .nil⟩
  | _, y :: xs, x, .cons _ t h => by
    obtain ⟨ws, u, e, h'⟩ := strs_snoc_inv h
    exact ⟨.str y t :: ws, u, by rw [e]; rfl, .cons y t h'⟩
theorem strs_len : ∀ {vs : List Value} {xs : List Str}, StrsAre vs xs → vs.length = xs.length
  | _, _, .nil => rfl
  | _, _, .cons _ _ h => by simp [strs_len h]
theorem strs_at : ∀ {vs : List Value} {xs : List Str} {i : Nat} {v : Value} {x : Str}, StrsAre vs xs → vs[i]? = some v → xs[i]? = some x → ∃ t, v = .str x t
  | _, _, 0, _, _, .cons x t h, e1, e2 => by
    simp at e1 e2
    exact ⟨t, by rw [← e1, e2]⟩
  | _, _, i + 1, _, _, .cons x t h, e1, e2 => strs_at h (by simpa using e1) (by simpa using e2)
theorem setL_last (ws : List Value) (x v : Value) : ki_setL (ws ++ [x]) ws.length v = some (ws ++ [v]) := by
  induction ws with
  | nil => rfl
  | cons a r ih => simp [ki_setL, ih]
theorem last_getD (dn : List (List Nat)) (cur : List Nat) : (List.map mkS (dn ++ [cur])).getD (-1 + ((List.map mkS (dn ++ [cur])).length : Int)).toNat Str.empty = mkS cur := by
  have h : (-1 + ((List.map mkS (dn ++ [cur])).length : Int)).toNat = dn.length := by simp; omega
  rw [h]
  simp
theorem vFold_size (out : Nat → Bool) (pre : List Nat) : (vFold out pre).1.length ≤ pre.length ∧ (vFold out pre).2.length ≤ pre.length ∧ ∀ x ∈ (vFold out pre).1, x.length ≤ pre.length := by
  rcases List.eq_nil_or_concat pre with rfl | ⟨r, c, rfl⟩
  · exact ⟨Nat.le_refl _, Nat.le_refl _, fun x hx => nomatch hx⟩
  · rw [List.concat_eq_append, vFold_snoc]
    obtain ⟨h1, h2, h3⟩ := vFold_size out r
    unfold vStep
    split
    · refine ⟨by simp; omega, by simp, fun x hx => ?_⟩
      rcases List.mem_append.mp hx with hx | hx
      · have := h3 x hx; simp; omega
      · rw [List.mem_singleton.mp hx]; simp; omega
    · split
      · exact ⟨by simp; omega, by simp; omega, fun x hx => by have := h3 x hx; simp; omega⟩
      · exact ⟨by simp; omega, by simp; omega, fun x hx => by have := h3 x hx; simp; omega⟩
termination_by pre.length
section
variable {prog : Program} {w : World} {A : Around} {E : Value → Shared → Prop} {s : Shared} {h₀ : Heap} {L : Addr} {m : Str → Option Value} {env : Env}
/-- the turns of a comprehension over a list of texts whose element is a text reckoned from each -/
theorem rest_map {elt : Expr} {x : Str} {scope : Scope} {cl : List (Str × Addr)} {S : List (Addr × Obj) → Prop} {Fin : List Value → List (Addr × Obj) → Prop} {news : List (Addr × Obj)} (fs : List (List Nat)) (gf : List Nat → List Nat) (its : Array Value) (hits : StrsAre its.toList (fs.map mkS)) (hS : S news)
    (elem : ∀ f t I oI C oC D m₂ ys h tk (E' : Value → Shared → Prop) (Qv : Value → Shared → Prop), f ∈ fs → NsObj oC m₂ → m₂ x = some (.str (mkS f) t) → Fr h₀ L h m → News h₀ L h ((I, oI) :: (C, oC) :: (D, lst ys) :: news) → Off3 I C D news → ((@Ne Nat I C) ∧ (@Ne Nat I D) ∧ (@Ne Nat C D)) →
      (∀ t' h' tk', Fr h₀ L h' m → News h₀ L h' ((I, oI) :: (C, oC) :: (D, lst ys) :: news) → Qv (.str (mkS (gf f)) t') { s with heap := h', toks := tk' }) →
      wpAny (model prog w) A (eval elt (compEnvC scope cl C env)) Qv E' { s with heap := h, toks := tk })
    (fin : ∀ ys, StrsAre ys (fs.map fun f => mkS (gf f)) → Fin ys news) :
    LCg.CompRest prog w A h₀ L m env elt x scope cl s S (fun i v => its[i]? = some v) Fin its.size 0 [] news := by
  have hsz : its.size = fs.length := by
    rw [← Array.length_toList, strs_len hits]; simp
  have key : ∀ (post pre : List (List Nat)) (ys : List Value), fs = pre ++ post → StrsAre ys (pre.map fun f => mkS (gf f)) → LCg.CompRest prog w A h₀ L m env elt x scope cl s S (fun i v => its[i]? = some v) Fin post.length pre.length ys news := by
    intro post
    induction post with
    | nil =>
      intro pre ys hl hy
      rw [List.append_nil] at hl
      subst hl
      exact LCg.CompRest.zero (fin ys hy)
    | cons f post ih =>
      intro pre ys hl hy
      refine LCg.CompRest.succ ?_
      rintro v I oI C oC D m₂ h tk E' hv hC hx F₃ N₃ off ne
      have hl' : fs = (pre ++ [f]) ++ post := by rw [hl]; simp
      obtain ⟨t, rfl⟩ : ∃ t, v = .str (mkS f) t := by
        have h1 : its.toList[pre.length]? = some v := by simpa using hv
        have h2 : (fs.map mkS)[pre.length]? = some (mkS f) := by rw [hl]; simp
        exact strs_at hits h1 h2
      refine elem f t I oI C oC D m₂ ys h tk E' _ (by rw [hl]; simp) hC hx F₃ N₃ off ne ?_
      intro t' h' tk' F₄ N₄
      have hlen : pre.length + 1 = (pre ++ [f]).length := by simp
      refine ⟨h', tk', news, rfl, F₄, N₄, off, hS, ?_⟩
      rw [hlen]
      refine ih (pre ++ [f]) _ hl' ?_
      rw [List.map_append]
      exact hy.append' (.cons _ _ .nil)
  rw [hsz]
  exact key fs [] [] rfl .nil
end
/-- the frame of _law_version: left_out lies in a cell -/
abbrev envV (L ce : Addr) : Env := envX (Str.ofString "_law_version") (scp 10) L 73 (.ref 72) [(Str.ofString "left_out", ce)]
/-- its statements, with what its ledger holds -/
abbrev PartV (w : World) (D : Nat) (body : List Stmt) (Pn : Addr → List (Addr × Obj) → Prop) (keep : List (Addr × Obj)) (Pm : (Str → Option Value) → Prop) (R : Tok → Value) : Prop :=
  ∀ (mean : ExcName → Option Value) (mg mb : Str → Option Value) (news : List (Addr × Obj)) (dp un : Nat) (gd : Option (List Code)) (cn : Str) (cs : Scope) (Lc a : Addr) (ccd : Value) (cl : List (Str × Addr)) (outer : List Env) (base g : Heap) (L ce : Addr) (m : Str → Option Value) (s : Shared) (Q : Flow → Shared → Prop),
    Below (ktrTop dp un gd cn cs Lc a ccd cl outer) base (envX cn cs Lc a ccd cl :: outer) g → (heapK w.params).In g → Top q0 (looseW q0 loose0) mean mg mb g →
    dp < 10 * D → un < 100 * D →
    (∀ (t : Tok) (h' : Heap) (tk' : Nat) (m' : Str → Option Value), Fr g L h' m' → News g L h' keep → Q (.ret (R t)) { s with heap := h', toks := tk' }) →
    Pn ce news → Pm m → Fr g L s.heap m → News g L s.heap news →
    wpAny (model P0 w) ((ktrTop dp un gd cn cs Lc a ccd cl outer).deeper (envV L ce)) (execs body (envV L ce)) Q Never s
/-- a def called in that frame -/
theorem callV {w : World} {D : Nat} {f : Addr} {pre : Prop} {vs : List Value} {R : Tok → Value} (S : Spec w D f pre vs R) {mean : ExcName → Option Value} {mg mb : Str → Option Value} {news : List (Addr × Obj)} {dp un : Nat} {gd : Option (List Code)} {cn : Str} {cs : Scope} {Lc a : Addr} {ccd : Value} {cl : List (Str × Addr)} {outer : List Env} {base g : Heap} {L ce : Addr} {m : Str → Option Value} {s : Shared} {Q E : Value → Shared → Prop}
    (B : Below (ktrTop dp un gd cn cs Lc a ccd cl outer) base (envX cn cs Lc a ccd cl :: outer) g) (X : (heapK w.params).In g) (T : Top q0 (looseW q0 loose0) mean mg mb g) (hp : pre) (hdp : dp + 1 < 10 * D) (hun : un + 3 < 100 * D)
    (F : Fr g L s.heap m) (N : News g L s.heap news)
    (ret : ∀ (t : Tok) (h' : Heap) (tk' : Nat), Fr g L h' m → News g L h' news → Q (R t) { s with heap := h', toks := tk' }) :
    wpAny (model P0 w) ((ktrTop dp un gd cn cs Lc a ccd cl outer).deeper (envV L ce)) (call (.ref f) vs) Q E s :=
  S mean mg mb news (dp + 1) (un + 3) gd _ (scp 10) 73 (.ref 72) [(Str.ofString "left_out", ce)] (envX cn cs Lc a ccd cl :: outer) _ base g L m s Q E B F X N T rfl hp hdp hun ret
end Mine
end
section
open PySem PySem.W PyProof.Rows PyProof.Rows.LCg PyProof.Rows.LCt
namespace Mine
local macro_rules | `(tactic| k_steps) => `(tactic| repeat' (first
  | (with_reducible refine ite_t ?_)
  | (with_reducible refine ite_f ?_)
  | ((fail_if_success (with_reducible show wpAny _ _ (exec (Stmt.While _ _ _ _) _) _ _ _)); (fail_if_success (with_reducible show wpAny _ _ (exec (Stmt.For _ _ _ _ _) _) _ _ _)); (fail_if_success (with_reducible show wpAny _ _ (eval (Expr.ListComp _ _ _ _) _) _ _ _)); (fail_if_success (with_reducible show wpAny _ _ (call (Value.ref _) _) _ _ _)); (fail_if_success (with_reducible show ite _ _ _)); (first | (k_unfold; (try dsimp only)) | (k_end; kc_close) | walk1 | (dsimp only; walk1) | (leave1; walk_say "STEP leave1"; (try dsimp only)) | fail "no step"))))
local macro_rules | `(tactic| size_fits) => `(tactic| exact fit (by assumption))
set_option maxRecDepth 100000
set_option maxHeartbeats 8000000
theorem strs_take : ∀ {vs : List Value} {xs : List Str} (k : Nat), StrsAre vs xs → StrsAre (vs.take k) (xs.take k)
  | _, _, 0, _ => .nil
  | _, _, _ + 1, .nil => .nil
  | _, _, k + 1, .cons x t h => .cons x t (strs_take k h)
theorem dropZ_len : ∀ l : List Nat, (dropZ l).length ≤ l.length
  | [] => Nat.le_refl _
  | [_] => Nat.le_refl _
  | c :: d :: r => by
    unfold dropZ
    split
    · have := dropZ_len (d :: r)
      simp at this ⊢
      omega
    · exact Nat.le_refl _
theorem scanAll_len (l : List Nat) : ∀ (st : List Nat × Nat) {f : List Nat} {b : Nat}, scanAll st l = some (f, b) → f.length ≤ st.1.length + l.length := by
  induction l with
  | nil =>
    intro st f b h
    simp [scanAll] at h
    simp [h]
  | cons c r ih =>
    intro st f b h
    have h' : ((scanStep st c).bind fun s' => scanAll s' r) = some (f, b) := by simpa [scanAll] using h
    obtain ⟨s', h1, h2⟩ := Option.bind_eq_some_iff.mp h'
    have := ih s' h2
    unfold scanStep at h1
    split at h1
    · cases h1
      simp at this ⊢
      omega
    · split at h1
      · cases h1
      · cases h1
        simp at this ⊢
        omega
theorem dropWhile_len (p : Nat → Bool) (l : List Nat) : (l.dropWhile p).length ≤ l.length := by
  induction l with
  | nil => exact Nat.le_refl _
  | cons c r ih =>
    rw [List.dropWhile_cons]
    split
    · simp; omega
    · exact Nat.le_refl _
theorem numAns_len (mn : Bool) (l : List Nat) : (numAns mn l).length ≤ l.length + 1 := by
  unfold numAns
  split
  · simp
  · rename_i f b h
    have h1 := scanAll_len l _ h
    have h2 := dropZ_len f
    simp at h1
    split
    · simp
    · unfold signed
      split
      · simp; omega
      · omega
theorem lawNum_len (l : List Nat) : (lawNum l).length ≤ l.length + 1 := by
  unfold lawNum
  have h1 : (lstrip l).length ≤ l.length := dropWhile_len _ _
  have h2 : (rstrip (lstrip l)).length ≤ (lstrip l).length := by
    unfold rstrip
    have := dropWhile_len (· == 32) (lstrip l).reverse
    simp at this ⊢
    omega
  refine Nat.le_trans (numAns_len _ _) ?_
  split
  · simp; omega
  · omega
/-- the fields told: sign for sign if one is no number -/
def verAns (fs : List (List Nat)) : List Nat := if (fs.map lawNum).any (· == []) then ljoin [46] (fs.take 3) else ljoin [46] ((fs.map lawNum).take 3)
theorem join_fits (xs : List (List Nat)) (h : ∀ x ∈ xs, x.length ≤ 200) : (((xs.take 3).map mkS).map (·.length)).sum + ((xs.take 3).map mkS).length ≤ 1048576 := by
  rcases xs with _ | ⟨a, _ | ⟨b, _ | ⟨c, r⟩⟩⟩
  · simp
  · have := h a (by simp)
    simp [mkS_length]; omega
  · have := h a (by simp)
    have := h b (by simp)
    simp [mkS_length]; omega
  · have := h a (by simp)
    have := h b (by simp)
    have := h c (by simp)
    simp [mkS_length]; omega
theorem verC (w : World) (fs : List (List Nat)) (fl : Addr) (keep : List (Addr × Obj)) (hf : fs.length ≤ 102) (hf2 : ∀ x ∈ fs, x.length ≤ 100) :
    PartV w 50 ((bdy 10).drop 4) (fun ce news => ∃ oc its₁ n₁, news = (fl, W.listOf its₁ n₁) :: (ce, oc) :: keep ∧ StrsAre its₁.toList (fs.map mkS)) keep
      (fun m => m (Str.ofString "fields") = some (.ref fl))
      (fun t => .str (mkS (verAns fs)) t) := by
  rintro mean mg mb news dp un gd cn cs Lc a ccd cl outer base g L ce m s Q B X T hdp hun hret ⟨oc, its₁, n₁, rfl, hs⟩ h1 F N
  conv in (List.drop _ (bdy 10)) => whnf
  have F₁ := named F h1
  clear F h1
  refine wpAny_execs_cons ?_
  refine Assign_ListComp_U (cl := []) F₁ rfl (by with_unfolding_all rfl) rfl (by decide) rfl (by decide) rfl rfl rfl ?_
  refine nameX_L F₁ rfl ?_
  have hsz : its₁.size ≤ 100000 := by rw [← Array.length_toList, strs_len hs]; simp; omega
  refine CompSrc.ledger rfl F₁ N List.mem_cons_self (fit hsz) ?_
  intro g₂
  refine rest_map fs lawNum its₁ hs (.inr ⟨_, List.mem_cons_self, rfl, _, rfl⟩) ?_ ?_
  · rintro f t I oI C oC D m₂ ys h tk E' Qv hfm hC hx F₃ N₃ off ne hv
    k_steps
    refine callV (spec_number w f t) B X T (by have := hf2 f hfm; omega) (by omega) (by omega) F₃ N₃ ?_
    intro t' h' tk' F₄ N₄
    exact hv t' h' tk' F₄ N₄
  · rintro ys hys D h tk F₃ N₃ off
    k_steps
    have he : ((List.map (fun f => mkS (lawNum f)) fs).any fun x => x == Str.ofString "") = (fs.map lawNum).any (· == []) := by
      rw [empty_is, List.any_map, List.any_map]
      congr 1
      funext f
      exact mkS_beq _ _
    rw [he]
    split
    · rename_i hin
      have ha : verAns fs = ljoin [46] (fs.take 3) := if_pos hin
      rw [ha] at hret
      k_steps
      rename_i F₄ N₄
      refine join_listW (ys := (fs.take 3).map mkS) (News.isList N₄ List.mem_cons_self) ?_ (by rw [dot_is, mkS_length]; decide) (join_fits fs fun x hx => by have := hf2 x hx; omega) ?_
      · rw [show (3 : Int) = ((3 : Nat) : Int) from rfl, PySem.slicePick_upto', List.map_take]
        exact strs_take 3 hs
      · intro t' k
        rw [dot_is, join_mk]
        exact hret _ _ _ _ F₄ fun p hp => N₄ p (List.mem_cons_of_mem _ (List.mem_cons_of_mem _ (List.mem_cons_of_mem _ (List.mem_cons_of_mem _ hp))))
    · rename_i hin
      have ha : verAns fs = ljoin [46] ((fs.map lawNum).take 3) := if_neg hin
      rw [ha] at hret
      k_steps
      rename_i F₄ N₄
      refine join_listW (ys := ((fs.map lawNum).take 3).map mkS) (News.isList N₄ List.mem_cons_self) ?_ (by rw [dot_is, mkS_length]; decide) (join_fits _ fun x hx => ?_) ?_
      · rw [show (3 : Int) = ((3 : Nat) : Int) from rfl, PySem.slicePick_upto', List.map_take, List.map_map]
        exact strs_take 3 hys
      · obtain ⟨f, hfm, rfl⟩ := List.mem_map.mp hx
        have := lawNum_len f
        have := hf2 f hfm
        omega
      · intro t' k
        rw [dot_is, join_mk]
        exact hret _ _ _ _ F₄ fun p hp => N₄ p (List.mem_cons_of_mem _ (List.mem_cons_of_mem _ (List.mem_cons_of_mem _ (List.mem_cons_of_mem _ hp))))
theorem verB (w : World) (fs : List (List Nat)) (b : List Nat) (fl lo : Addr) (its : Array Value) (n : Nat) (ns : List Nat) (keep : List (Addr × Obj)) (hf : fs.length ≤ 101) (hf2 : ∀ x ∈ fs, x.length ≤ 100) (hb : b.length ≤ 100) (hi : IntsAre its.toList (intsOf ns)) (hm : (lo, W.listOf its n) ∈ keep) :
    PartV w 50 ((bdy 10).drop 2) (fun ce news => ∃ oc its₁ n₁, news = (fl, W.listOf its₁ n₁) :: (ce, oc) :: keep ∧ oc.data = .cell (some (.ref lo)) ∧ StrsAre its₁.toList (fs.map mkS) ∧ ∀ p ∈ (ce, oc) :: keep, p.1 ≠ fl) keep
      (fun m => m (Str.ofString "fields") = some (.ref fl) ∧ (∃ t, m (Str.ofString "build") = some (.str (mkS b) t)))
      (fun t => .str (mkS (verAns (if (b.filter fun c => !decide (c ∈ ns)) == [] then fs else fs ++ [b.filter fun c => !decide (c ∈ ns)]))) t) := by
  rintro mean mg mb news dp un gd cn cs Lc a ccd cl outer base g L ce m s Q B X T hdp hun hret ⟨oc, its₁, n₁, rfl, hoc, hs, hne⟩ ⟨h1, ⟨tb, h2⟩⟩ F N
  conv in (List.drop _ (bdy 10)) => whnf
  have F₁ := named2 F h1 h2
  clear F h1 h2
  k_steps
  refine comp_textT (cl := [(Str.ofString "left_out", ce)]) F₁ rfl (by decide) rfl (by decide) rfl ?_
  refine nameX_L F₁ rfl ?_
  refine ⟨b, tb, _, rfl, rfl, F₁, N, fit (by omega), ?_⟩
  rintro s₂ ⟨h₂, rfl⟩
  refine rest_filter (fun c => !decide (c ∈ ns)) b ?_ ?_ ?_
  · rintro c tc I oI C oC D m₂ ys h tk E' Qb hcl hC hx F₃ N₃ off ne hb
    k_steps
    refine notin_ints (News.isList N₃ (List.mem_cons_of_mem _ (List.mem_cons_of_mem _ (List.mem_cons_of_mem _ (List.mem_cons_of_mem _ (List.mem_cons_of_mem _ hm)))))) hi ?_
    exact wpAny_truthy_bool (hb _ _ F₃ N₃)
  · rintro c tc I oI C oC D m₂ ys h tk E' Qv hC hx F₃ N₃ hv
    k_steps
    exact hv
  · rintro ys hys D h tk F₃ N₃ off
    generalize hx : (b.filter fun c => !decide (c ∈ ns)) = ex at hys hret
    have hxl : ex.length ≤ 100 := by
      have := List.length_filter_le (fun c => !decide (c ∈ ns)) b
      rw [hx] at this
      omega
    k_steps
    have hw : (((ex.map fun c => [c]).map mkS).map (·.length)).sum + ((ex.map fun c => [c]).map mkS).length ≤ 1048576 := by
      rw [sum_signs]
      simp only [List.length_map]
      omega
    refine join_listW (ys := (ex.map fun c => [c]).map mkS) (News.isList N₃ (List.mem_cons_self)) (by rw [List.map_map]; exact hys) (by rw [empty_is, mkS_length]; decide) hw ?_
    intro t' k
    rw [show Txt.join (Str.ofString "") ((ex.map fun c => [c]).map mkS) = mkS ex from by rw [empty_is, join_mk, ljoin_signs]]
    k_steps
    rename_i F₅ N₅
    have he : (mkS ex != Str.ofString "") = (ex != []) := by rw [empty_is, bne, mkS_beq]; rfl
    rw [he]
    split
    · rename_i hex
      have hex : (ex == []) = false := by simpa [bne] using hex
      rw [hex] at hret
      refine cutQ s g L (fun m' => m' (Str.ofString "fields") = some (.ref fl)) ((fl, W.listOf (its₁.push (.str (mkS ex) t')) (n₁ + 1)) :: (ce, oc) :: keep) (fun QQ hQQ => ?_) ?_
      · k_steps
        refine append_K F₅ (dropN N₅) (.head hne) ?_ ?_
        · intro h' F₆ N₆
          refine wpAny_execs_nil ?_
          exact hQQ _ _ _ rfl F₆ N₆
        · have := strs_len hs
          simp at this
          exact fit (by omega)
      · intro h' tk' m' hm' F' N'
        refine verC w (fs ++ [ex]) fl keep (by simp; omega) ?_ mean mg mb _ dp un gd cn cs Lc a ccd cl outer base g L ce _ _ Q B X T hdp hun hret ⟨oc, _, _, rfl, ?_⟩ hm' F' N'
        · intro x hx
          rcases List.mem_append.mp hx with hx | hx
          · exact hf2 x hx
          · rw [List.mem_singleton.mp hx]; exact hxl
        · rw [Array.toList_push, List.map_append]
          exact hs.append' (.cons _ _ .nil)
    · rename_i hex
      have hex : (ex == []) = true := by simpa [bne] using hex
      rw [hex] at hret
      refine wpAny_execs_nil ?_
      exact verC w fs fl keep (by omega) hf2 mean mg mb _ dp un gd cn cs Lc a ccd cl outer base g L ce _ _ Q B X T hdp hun hret ⟨oc, _, _, rfl, hs⟩ rfl F₅ (dropN N₅)
end Mine
end
section
open PySem PySem.W PyProof.Rows PyProof.Rows.LCg PyProof.Rows.LCt
namespace Mine
local macro_rules | `(tactic| k_steps) => `(tactic| repeat' (first
  | (with_reducible refine ite_t ?_)
  | (with_reducible refine ite_f ?_)
  | ((fail_if_success (with_reducible show wpAny _ _ (exec (Stmt.While _ _ _ _) _) _ _ _)); (fail_if_success (with_reducible show wpAny _ _ (exec (Stmt.For _ _ _ _ _) _) _ _ _)); (fail_if_success (with_reducible show wpAny _ _ (eval (Expr.ListComp _ _ _ _) _) _ _ _)); (fail_if_success (with_reducible show wpAny _ _ (call (Value.ref _) _) _ _ _)); (fail_if_success (with_reducible show ite _ _ _)); (first | (k_unfold; (try dsimp only)) | (k_end; kc_close) | walk1 | (dsimp only; walk1) | (leave1; walk_say "STEP leave1"; (try dsimp only)) | fail "no step"))))
local macro_rules | `(tactic| size_fits) => `(tactic| exact fit (by assumption))
set_option maxRecDepth 100000
set_option maxHeartbeats 8000000
/-- what _law_version gives -/
def lawVer (v b ns : List Nat) : List Nat := verAns (if (b.filter fun c => !decide (c ∈ ns)) == [] then (vFold (fun c => decide (c ∈ ns)) v).1 ++ [(vFold (fun c => decide (c ∈ ns)) v).2] else (vFold (fun c => decide (c ∈ ns)) v).1 ++ [(vFold (fun c => decide (c ∈ ns)) v).2] ++ [b.filter fun c => !decide (c ∈ ns)])
theorem verA (w : World) (v b : List Nat) (lo : Addr) (its : Array Value) (n : Nat) (ns : List Nat) (keep : List (Addr × Obj)) (hv : v.length ≤ 100) (hb : b.length ≤ 100) (hi : IntsAre its.toList (intsOf ns)) (hm : (lo, W.listOf its n) ∈ keep) :
    PartV w 50 (bdy 10) (fun ce news => ∃ oc, news = (ce, oc) :: keep ∧ oc.data = .cell (some (.ref lo))) keep
      (fun m => (∃ t, m (Str.ofString "version") = some (.str (mkS v) t)) ∧ (∃ t, m (Str.ofString "build") = some (.str (mkS b) t)))
      (fun t => .str (mkS (lawVer v b ns)) t) := by
  rintro mean mg mb news dp un gd cn cs Lc a ccd cl outer base g L ce m s Q B X T hdp hun hret ⟨oc, rfl, hoc⟩ ⟨⟨tv, h1⟩, ⟨tb, h2⟩⟩ F N
  conv in (bdy 10) => whnf
  have F₁ := named2 F h1 h2
  clear F h1 h2
  k_steps
  rename_i fl _ hlt _ F₂ N₂
  refine For_invVF F₂ rfl rfl ?_ (hE := PassesOwn.never)
  refine nameX_L F₂ rfl ?_
  refine iter_text (l := v) (fun pre m₁ news₁ => ∃ its₁ n₁ ft, news₁ = (fl, W.listOf its₁ n₁) :: (ce, oc) :: keep ∧ m₁ (Str.ofString "fields") = some (.ref fl) ∧ m₁ (Str.ofString "build") = some (.str (mkS b) ft) ∧
    StrsAre its₁.toList (((vFold (fun c => decide (c ∈ ns)) pre).1 ++ [(vFold (fun c => decide (c ∈ ns)) pre).2]).map mkS)) rfl F₂ N₂ ?_ ?_ ?_
  · exact ⟨_, _, _, rfl, rfl, rfl, .cons _ _ .nil⟩
  · rintro pre c post tc m₁ news₁ h tk own he hadr hoff ⟨its₁, n₁, ft, rfl, hm1, hm3, hs⟩ F₃ N₃
    have F₄ := named2 (m := fun y => if y = Str.ofString "sign" then some (Value.str (mkS [c]) tc) else m₁ y) F₃ (x := Str.ofString "fields") (y := Str.ofString "build") hm1 hm3
    clear F₃ F₂ N₂ hm1 hm3
    have hlenp : pre.length + 1 ≤ 100 := by have := congrArg List.length he; simp at this; omega
    have hsz := vFold_size (fun c => decide (c ∈ ns)) pre
    have hstep := vFold_snoc (fun c => decide (c ∈ ns)) pre c
    rcases hst : vFold (fun c => decide (c ∈ ns)) pre with ⟨dn, cur⟩
    rw [hst] at hs hsz hstep
    dsimp only at hs hsz
    obtain ⟨ws, tB, hws, hsw⟩ := strs_snoc_inv (xs := dn.map mkS) (by simpa using hs)
    have N₄ : News g L h ((fl, W.listOf its₁ n₁) :: ((ce, oc) :: keep ++ own)) := N₃
    have hrest : ∀ p ∈ (ce, oc) :: keep ++ own, p.1 ≠ fl := by
      intro p hp
      rcases List.mem_append.mp hp with hp | hp
      · exact Nat.ne_of_lt (allLt_mem (l := (ce, oc) :: keep) hlt p hp)
      · exact hoff p hp fl List.mem_cons_self
    clear N₃ hadr
    have hsub : ∀ o : Obj, ∀ p ∈ (fl, o) :: (ce, oc) :: keep, p ∈ (fl, o) :: ((ce, oc) :: keep ++ own) := by
      intro o p hp
      rcases List.mem_cons.mp hp with rfl | hp
      · exact List.mem_cons_self
      · exact List.mem_cons_of_mem _ (List.mem_append.mpr (.inl hp))
    have hown : ∀ o : Obj, ∀ p ∈ own, p ∈ (fl, o) :: ((ce, oc) :: keep ++ own) := fun o p hp => List.mem_cons_of_mem _ (List.mem_append.mpr (.inr hp))
    k_steps
    split
    · rename_i hc
      have hc : c = 46 := by rw [dot_is, mkS_beq] at hc; simpa using hc
      k_steps
      refine append_K F₄ N₄ (.head hrest) ?_ ?_
      · intro h' F₅ N₅
        refine wpAny_execs_nil ?_
        refine wpAny_execs_nil ?_
        refine ⟨_, _, _, _, _, rfl, F₅, N₅, hsub _, hown _, rfl, _, _, ft, rfl, rfl, rfl, ?_⟩
        rw [hstep, vStep, if_pos (by simp [hc]), Array.toList_push, List.map_append]
        exact hs.append' (by rw [empty_is]; exact .cons _ _ .nil)
      · have := strs_len hs
        simp at this
        exact fit (by omega)
    · rename_i hc
      have hc : c ≠ 46 := by rw [dot_is, mkS_beq] at hc; simpa using hc
      k_steps
      refine notin_ints (News.isList N₄ (List.mem_cons_of_mem _ (List.mem_cons_of_mem _ (List.mem_append.mpr (.inl hm))))) hi ?_
      k_steps
      split
      · rename_i hout
        have hout : c ∉ ns := by simpa using hout
        k_steps
        rw [last_getD]
        refine PyProof.Rows.add_str ?_ ?_
        · intro t' tk'
          k_steps
          refine ki_setNeg F₄ N₄ (by decide) (by decide) (j := ws.length) (q := ws ++ [.str (mkS cur ++ mkS [c]) t']) ?_ ?_ (.head hrest) ?_
          · have e : its₁.size = ws.length + 1 := by rw [← Array.length_toList, hws]; simp
            rw [e]
            simp [seqIndex?]
            omega
          · rw [hws]
            exact setL_last _ _ _
          · intro h' F₅ N₅
            k_steps
            refine ⟨_, _, _, _, _, rfl, F₅, N₅, hsub _, hown _, rfl, _, _, ft, rfl, rfl, rfl, ?_⟩
            rw [hstep, vStep, if_neg (by simp [hc]), if_neg (by simp [hout]), List.map_append, mkS_append]
            exact hsw.append' (.cons _ _ .nil)
        · rw [mkS_length, mkS_length]
          exact fit (by simp; omega)
      · rename_i hout
        have hout : c ∈ ns := by simpa using hout
        k_steps
        refine ⟨_, _, _, _, _, rfl, F₄, N₄, hsub _, hown _, rfl, _, _, ft, rfl, rfl, rfl, ?_⟩
        rw [hstep, vStep, if_neg (by simp [hc]), if_pos (by simp [hout])]
        exact hs
  · rintro m₁ news₁ h tk hadr ⟨its₁, n₁, ft, rfl, hm1, hm3, hs⟩ F₃ N₃
    have hsz := vFold_size (fun c => decide (c ∈ ns)) v
    refine verB w ((vFold (fun c => decide (c ∈ ns)) v).1 ++ [(vFold (fun c => decide (c ∈ ns)) v).2]) b fl lo its n ns keep (by simp; omega) ?_ hb hi hm mean mg mb _ dp un gd cn cs Lc a ccd cl outer base g L ce _ _ Q B X T hdp hun hret ⟨oc, its₁, n₁, rfl, hoc, hs, ?_⟩ ⟨hm1, ft, hm3⟩ F₃ N₃
    · intro x hx
      rcases List.mem_append.mp hx with hx | hx
      · have := hsz.2.2 x hx; omega
      · rw [List.mem_singleton.mp hx]; have := hsz.2.1; omega
    · intro p hp
      exact Nat.ne_of_lt (allLt_mem (l := (ce, oc) :: keep) hlt p hp)
/-- a call of _law_version with a list of the ledger's -/
theorem spec_version (w : World) (v b ns : List Nat) (tv tb : Tok) (lo : Addr) (its : Array Value) (n : Nat) (hv : v.length ≤ 100) (hb : b.length ≤ 100) (hi : IntsAre its.toList (intsOf ns))
    {mean : ExcName → Option Value} {mg mb : Str → Option Value} {news : List (Addr × Obj)} {dp un : Nat} {gd : Option (List Code)} {cn : Str} {cs : Scope} {a : Addr} {ccd : Value} {cl : List (Str × Addr)} {outer : List Env} {A₀ : Around} {base h₀ : Heap} {L : Addr} {m : Str → Option Value} {s : Shared} {Q E : Value → Shared → Prop}
    (B : Below A₀ base outer h₀) (F : Fr h₀ L s.heap m) (X : (heapK w.params).In h₀) (N : News h₀ L s.heap news) (T : Top q0 (looseW q0 loose0) mean mg mb h₀) (hk' : cs.kind = .function) (hdp : dp < 500) (hun : un < 100 * 50)
    (hm : (lo, W.listOf its n) ∈ news)
    (hret : ∀ (t : Tok) (h' : Heap) (tk' : Nat), Fr h₀ L h' m → News h₀ L h' news → Q (.str (mkS (lawVer v b ns)) t) { s with heap := h', toks := tk' }) :
    wpAny (model P0 w) (ktrTop dp un gd cn cs L a ccd cl outer) (call (.ref 73) [.str (mkS v) tv, .str (mkS b) tb, .ref lo]) Q E s := by
  refine wpAny_call ?_
  have ho : (heapK w.params).lookup 73 = some ⟨.type "function", none, .func (fnOf (Str.ofString "_law_version") (Str.ofString "_law_version") (prm 10) (bdy 10) (scp 10) .none .none .none (Value.str (Str.ofString "law_mj0032_01") 276) none (.ref 72) .none), #[]⟩ := rfl
  have hcd : codeIn (heapK w.params) (.ref 72) (Str.ofString "_law_version") = true := by kernel_rfl
  refine callX_cells (binds := [(Str.ofString "version", .str (mkS v) tv), (Str.ofString "build", .str (mkS b) tb), (Str.ofString "left_out", .ref lo)]) (dV := .none) (params := prm 10) (env := envX cn cs L a ccd cl) B F N T.nolimit rfl rfl hk' ((X.keeps F.keep) _ _ ho) rfl (codeRec_of (X.keeps F.keep) hcd) ?_ (BindsTo.of_eq (by kernel_rfl)) (kindsX (by kernel_rfl)) (by decide +kernel) ?_ rfl rfl rfl
  · show dp < recursionLimit
    unfold recursionLimit
    omega
  · intro g L' h₁ tk cells FG F' N' Y B' st _
    have Y' : CellsAre _ [(Str.ofString "left_out", L' + 1)] cells := Y
    obtain ⟨oc, rfl, hoc⟩ := Y'.one
    have hoc' : oc.data = .cell (some (.ref lo)) := hoc
    refine wpAny_mono (verA w v b lo its n ns news hv hb hi hm mean mg mb _ dp un gd cn cs L a ccd cl outer base g L' (L' + 1) _ { s with heap := h₁, toks := tk } _ B' (X.keeps st) (T.keeps st) hdp hun ?_ ⟨oc, rfl, hoc'⟩ ⟨⟨tv, rfl⟩, ⟨tb, rfl⟩⟩ F' N') (fun f s' q => q) (fun e s' q => q.elim)
    intro t h' tk' m' F₂ N₂
    exact leaveK_ F₂ N₂ fun F₃ N₃ => hret t h' tk' F₃ N₃
end Mine
end
section
open PySem PySem.W PyProof.Rows PyProof.Rows.LCg PyProof.Rows.LCt
set_option maxRecDepth 100000
namespace Mine
/-! the facts of the built-in class map -/
theorem mro_map : mroOf (.type "map") = pure [.type "map", .type "object"] := by rw [mroOf_type]; kernel_rfl
theorem lookup_map_new : typeLookup (.type "map") "__new__" = pure (some (.builtin "map.__new__")) := by rw [typeLookup_type, builtinLookup_eq_fast]; kernel_rfl
theorem conv_sub_map : isSubtype (.type "map") (.type "map") = pure true := by rw [isSubtype_type]; kernel_rfl
theorem slot_map_init : Slot "map" "__init__" "object.__init__" :=
  .of (owner := "object") (n := "__init__") (by rw [typeLookup_type, builtinLookup_eq_fast]; kernel_rfl) (by decide +kernel) (by decide +kernel) (by decide +kernel)
    (by first | exact .inl (by decide +kernel) | exact .inr (by decide +kernel)) (by rw [isSubtype_type]; kernel_rfl)
theorem slot_map_next : Slot "map" "__next__" "map.__next__" :=
  .of (owner := "map") (n := "__next__") (by rw [typeLookup_type, builtinLookup_eq_fast]; kernel_rfl) (by decide +kernel) (by decide +kernel) (by decide +kernel)
    (by first | exact .inl (by decide +kernel) | exact .inr (by decide +kernel)) (by rw [isSubtype_type]; kernel_rfl)
theorem slot_map_iter : Slot "map" "__iter__" "map.__iter__" :=
  .of (owner := "map") (n := "__iter__") (by rw [typeLookup_type, builtinLookup_eq_fast]; kernel_rfl) (by decide +kernel) (by decide +kernel) (by decide +kernel)
    (by first | exact .inl (by decide +kernel) | exact .inr (by decide +kernel)) (by rw [isSubtype_type]; kernel_rfl)
theorem entry_map_iter : entryFor table "map.__iter__" = some Builtin.«dict_keyiterator.__iter__» :=
  entryFor_alias (id' := "dict_keyiterator.__iter__") (by kernel_rfl) rfl (by decide +kernel) (by kernel_rfl)
theorem args_map_iter_1 (a : Value) : argsOk "map.__iter__" ⟨[a], []⟩ := by unfold argsOk; kernel_rfl
theorem args_map_next_1 (a : Value) : argsOk "map.__next__" ⟨[a], []⟩ := by unfold argsOk; kernel_rfl
theorem map_no_len : typeLookup (.type "map") "__len__" = pure none := by rw [typeLookup_type, builtinLookup_eq_fast]; kernel_rfl
theorem map_no_hint : typeLookup (.type "map") "__length_hint__" = pure none := by rw [typeLookup_type, builtinLookup_eq_fast]; kernel_rfl
theorem called_map : TypeCalled "map" "map.__new__" "object.__init__" :=
  ⟨by decide +kernel, by decide +kernel, ⟨_, _, mro_map⟩, madeBy_type mro_map lookup_map_new (by decide +kernel), by decide +kernel, conv_sub_map, slot_map_init⟩
theorem typeCall_map_2 (a b : Value) : checkTypeCall "map" ⟨[a, b], []⟩ = pure () := by kernel_rfl
theorem newCall_map_2 (a b : Value) : checkBuiltinCall "map.__new__" ⟨[.type "map", a, b], []⟩ = pure () := by kernel_rfl
theorem entry_map_new : entryFor table "map.__new__" = some Builtin.«map.__new__» := entryFor_of_tree (by kernel_rfl)
theorem entry_map_next : entryFor table "map.__next__" = some Builtin.«map.__next__» := entryFor_of_tree (by kernel_rfl)
theorem newNe_map : (some "map.__new__" != some "object.__new__") = true := by decide +kernel
theorem init_map_3 (o a b : Value) : argsOk "object.__init__" ⟨[o, a, b], []⟩ := by
  unfold argsOk; rw [signature?_of (id := "object.__init__") (n := ['_', '_', 't', 'i', 'n', 'i', '_', '_']) (o := ['t', 'c', 'e', 'j', 'b', 'o']) (by kernel_rfl) F.owner_object]; kernel_rfl
/-- a map object: its function, its one iterator -/
def IsMap (h : Heap) (M T : Addr) (it f : Value) : Prop :=
  (∃ o, h.get? M = some o ∧ o.cls = .type "map" ∧ o.data = .fields #[.ref T, f]) ∧ (∃ o n, h.get? T = some o ∧ o.cls = .type "tuple" ∧ o.data = .seq #[it] n)
theorem IsMap.typeIs {s : Shared} {M T : Addr} {it f : Value} (h : IsMap s.heap M T it f) : s.TypeIs (.ref M) "map" := let ⟨⟨o, ho, hc, _⟩, _⟩ := h; ⟨o, ho, hc⟩
theorem IsMap.at {h h' : Heap} {M T : Addr} {it f : Value} (x : IsMap h M T it f) (k1 : ∀ o, h.get? M = some o → h'.get? M = some o) (k2 : ∀ o, h.get? T = some o → h'.get? T = some o) : IsMap h' M T it f :=
  let ⟨⟨o, ho, r⟩, ⟨o2, n, ho2, r2⟩⟩ := x; ⟨⟨o, k1 o ho, r⟩, ⟨o2, n, k2 o2 ho2, r2⟩⟩
section
variable {prog : Program} {w : World} {A : Around} {E : Value → Shared → Prop} {s : Shared}
theorem iter_map {M T : Addr} {it f : Value} {Q : Value → Shared → Prop} (h : IsMap s.heap M T it f) (hQ : Q (.ref M) s) : wpAny (model prog w) A (pyIter (.ref M)) Q E s := by
  refine wpAny_pyIter_slot h.typeIs slot_map_iter (wpAny_call_entry slot_map_iter h.typeIs entry_map_iter ?_ (args_map_iter_1 _))
  show wpAny _ _ (ret (.ref M)) _ _ s
  exact wpAny_pure ⟨_, rfl, "map", _, h.typeIs, slot_map_next.lookup, hQ⟩
/-- map(f, x), where x has the iterator it -/
theorem call_map {f x : Value} {Q : Value → Shared → Prop}
    (h : wpAny (model prog w) A.in1.in1 (pyIter x) (fun it s₁ => ∀ h' M T, (∀ b o, s₁.heap.get? b = some o → h'.get? b = some o) → IsMap h' M T it f → s₁.heap.get? M = none → s₁.heap.get? T = none → M ≠ T → Q (.ref M) { s₁ with heap := h' }) E s) :
    wpAny (model prog w) A (call (.type "map") [f, x]) Q E s := by
  refine callType_newIn called_map newNe_map (typeCall_map_2 f x) (newCall_map_2 f x) (fun obj => init_map_3 obj f x) entry_map_new (S := fun A' R s' => A' = A.in1 ∧ s' = s ∧ R = wants (fun obj s₁ => s₁.TypeIs obj "map" ∧ Q obj s₁) E) ?_ ⟨rfl, rfl, rfl⟩
  rintro A' R s' ⟨rfl, rfl, rfl⟩
  have hsub := conv_sub_map
  repeat (any_goals (first | assumption | ((with_reducible show wpAny _ _ (pyIter _) _ _ _); refine wpAny_mono h (fun it s₁ hq => ?_) (fun _ _ e => e)) | wp_step))
  refine ⟨⟨_, Heap.get?_push_size _ rfl, rfl⟩, hq _ _ s₁.heap.objs.size ?_ ⟨⟨_, Heap.get?_push_size _ rfl, rfl, rfl⟩, ⟨_, _, Heap.get?_push_of_some _ (Heap.get?_push_size _ rfl), rfl, rfl⟩⟩ ?_ ?_ ?_⟩
  · intro b o hb; exact Heap.get?_push_of_some _ (Heap.get?_push_of_some _ hb)
  · exact Heap.get?_none_of_le (by rw [Heap.size_push]; omega)
  · exact Heap.get?_none_of_le (Nat.le_refl _)
  · rw [Heap.size_push]; exact Nat.succ_ne_self _
end
end Mine
end
section
open PySem PySem.W PyProof.Rows PyProof.Rows.LCg PyProof.Rows.LCt
set_option maxRecDepth 100000
namespace Mine
/-! a logic that remembers that the nearest code of the program stands below a map's next -/
def MB (l : List Code) : Prop := ∃ pre a post, l = pre ++ Code.builtin "map.__next__" a :: post ∧ ∀ c ∈ pre, c.env?.isNone = true
theorem MB.cons {l : List Code} {c : Code} (h : MB l) (hc : c.env?.isNone = true) : MB (c :: l) := by
  obtain ⟨pre, a, post, rfl, hp⟩ := h
  refine ⟨c :: pre, a, post, rfl, fun d hd => ?_⟩
  rcases List.mem_cons.mp hd with rfl | hd
  · exact hc
  · exact hp d hd
theorem MB.here (a : Args) (l : List Code) : MB (Code.builtin "map.__next__" a :: l) := ⟨[], a, l, rfl, fun _ h => absurd h (by simp)⟩
theorem MB.not {l : List Code} (h : MB l) : pythonCodeMadeTheCall ["int.__new__"] l = false := by
  obtain ⟨pre, a, post, rfl, hp⟩ := h
  unfold pythonCodeMadeTheCall
  have e : (Code.builtin "map.__next__" a) ∈ (pre ++ Code.builtin "map.__next__" a :: post).takeWhile (·.env?.isNone) := by
    rw [List.takeWhile_append_of_pos hp, List.takeWhile_cons_of_pos rfl]
    exact List.mem_append_right _ List.mem_cons_self
  rw [Bool.and_eq_false_iff]
  right
  rw [List.all_eq_false]
  refine ⟨_, e, ?_⟩
  simp
section
variable {α β : Type} {M : Model} {A : Around} {E : Value → Shared → Prop} {s : Shared} {c : Code}
def wpM {α : Type} (M : Model) (A : Around) (c : Code) (t : Sem α) (Q : α → Shared → Prop) (E : Value → Shared → Prop) (s : Shared) : Prop :=
  ∀ Γ p, Γ.code = c → Γ.Below A → MB (c :: Γ.below.map (·.1)) → Sem.wp M Γ t (fun a _ s' => Q a s') (fun e _ s' => E e s') p s
def codeM (M : Model) (A : Around) (c : Code) (R : Result → Shared → Prop) (s : Shared) : Prop :=
  ∀ Γ p, Γ.code = c → Γ.Below A → MB (Γ.below.map (·.1)) → wpCode M Γ R p s
theorem wpM_any {t : Sem α} {Q : α → Shared → Prop} (h : wpAny M (A.under c) t Q E s) : wpM M A c t Q E s := fun Γ p hc hΓ _ => h Γ p (hc ▸ hΓ.in)
theorem wpM_bind {m : Sem α} {f : α → Sem β} {Q : β → Shared → Prop} (h : wpM M A c m (fun a s' => wpM M A c (f a) Q E s') E s) : wpM M A c (m >>= f) Q E s :=
  fun Γ p hc hΓ hb => by
    rw [Sem.wp_bind']
    exact Sem.wp_mono M Γ m (fun a p' s' h' => h' Γ p' hc hΓ hb) (fun _ _ _ h' => h') p s (h Γ p hc hΓ hb)
theorem wpM_mono {t : Sem α} {Q Q' : α → Shared → Prop} {E' : Value → Shared → Prop} (h : wpM M A c t Q E s) (hQ : ∀ a s, Q a s → Q' a s) (hE : ∀ e s, E e s → E' e s) : wpM M A c t Q' E' s :=
  fun Γ p hc hΓ hb => Sem.wp_mono M Γ t (fun a _ s => hQ a s) (fun e _ s => hE e s) p s (h Γ p hc hΓ hb)
theorem wpM_holding {vs : List Value} {m : Sem α} {Q : α → Shared → Prop} (h : wpM M A c m Q E s) : wpM M A c (holding vs m) Q E s :=
  fun Γ p hc hΓ hb => by rw [Sem.wp_holding]; exact h Γ p hc hΓ hb
theorem wpM_call {f : Value} {pos : List Value} {kw : List (Str × Value)} {Q : Value → Shared → Prop}
    (h : codeM M (A.under c) (.call f ⟨pos, kw⟩) (fun r s' => match r with | .ok (.ret v) => Q v s' | .ok _ => False | .error e => E e s') s) :
    wpM M A c (call f pos kw) Q E s := fun Γ p hc hΓ hb => by
  show Sem.wp M Γ (runValue (.call f ⟨pos, kw⟩)) _ _ p s
  rw [Sem.wp_runValue]
  exact h _ p rfl ((hc ▸ hΓ.in : Γ.In (A.under c)).enter _ none p (by intro x; cases x)) (by show MB (((Γ.code, p) :: Γ.below).map (·.1)); rw [List.map_cons, hc]; exact hb)
theorem codeM_tree {R : Result → Shared → Prop} (he : c.env?.isNone = true)
    (h : wpM M A c (M.den c) (fun fin s' => match fin with | .done f => R (.ok f) s' | .again c' => c'.quiet = true ∧ codeM M A c' R s') (fun e s' => R (.error e) s') s) : codeM M A c R s :=
  fun Γ p hc hΓ hb => by
    rw [wpCode_iff_wp, hc]
    refine Sem.wp_mono M Γ _ (fun fin p' s' h' => ?_) (fun _ _ _ h' => h') p s (h Γ p hc hΓ (hb.cons he))
    cases fin with
    | done f => exact h'
    | again c' => exact ⟨h'.1, h'.2 (Γ.goto c') p' rfl (hΓ.goto c') hb⟩
theorem codeM_any {R : Result → Shared → Prop} (h : codeAny M A c R s) : codeM M A c R s := fun Γ p hc hΓ _ => h Γ p hc hΓ
theorem wpM_mark {e : Value} {Q : Unit → Shared → Prop} (h : Q () s) : wpM M A c (markTheRefusal ["int.__new__"] e) Q E s := by
  unfold markTheRefusal
  refine wpM_bind fun Γ p hc hΓ hb => ?_
  show (fun (acts : List (Code × Pos)) s' => wpM M A c _ Q E s') ((Γ.code, p) :: Γ.below) s
  show wpM M A c (if pythonCodeMadeTheCall ["int.__new__"] ((Γ.code :: Γ.below.map (·.1))) = true then _ else _) Q E s
  rw [hc, hb.not]
  exact fun _ _ _ _ _ => h
/-- at a map's next itself the memory is true -/
theorem own_of_M {a : Args} {t : Sem α} {Q : α → Shared → Prop} (h : wpM M A (.builtin "map.__next__" a) t Q E s) : wpOwn M A (.builtin "map.__next__" a) t Q E s :=
  fun Γ p hc hΓ => h Γ p hc hΓ (MB.here _ _)
end
end Mine
end
section
open PySem PySem.NumText PySem.W PyProof.Rows PyProof.Rows.LCg PyProof.Rows.LCt
set_option maxRecDepth 100000
namespace Mine
theorem tree_int (x : Value) : ∃ k, Builtin.«type.__call__» ⟨[.type "int", x], []⟩ = (holding [.builtin "int.__new__"] (call (.builtin "int.__new__") [.type "int", x] [])) >>= k := by
  unfold Builtin.«type.__call__»
  have h1 := F.called_int.notType
  have h2 := F.called_int.canCreate
  have h3 := F.called_int.made
  obtain ⟨c, tl, h4⟩ := F.called_int.mro
  have h5 := F.typeCall_int_1 x
  dsimp only
  simp only [h1, h2, h3, h4, h5, Bool.false_eq_true, ↓reduceIte]
  exact ⟨_, rfl⟩
theorem sp_int (x : Str) (u : Tok) : callSpecial? (.str x u) (Str.ofString "__int__") = pure none := by
  have f3 := KIN.str_int
  unfold callSpecial?
  show (typeLookup (.type "str") _ >>= _) = _
  rw [f3]; rfl
theorem sp_idx (x : Str) (u : Tok) : specialOf (.str x u) (Str.ofString "__index__") = pure none := by
  unfold specialOf
  exact KIN.str_idx
theorem sp_trunc (x : Str) (u : Tok) : specialOf (.str x u) (Str.ofString "__trunc__") = pure none := by
  unfold specialOf
  exact KIN.str_trunc
theorem tree_obj (x : Str) (u : Tok) : ((int_private% "intFromObject") (.str x u)) = ((int_private% "intFromText") (.str x u) (numTextOf x) 10) := by
  show (callSpecial? (.str x u) (Str.ofString "__int__") >>= _) = _
  rw [sp_int]
  show (specialOf (.str x u) (Str.ofString "__index__") >>= _) = _
  rw [sp_idx]
  show (specialOf (.str x u) (Str.ofString "__trunc__") >>= _) = _
  rw [sp_trunc]
  rfl
theorem tree_new (x : Str) (u : Tok) : ∃ k, Builtin.«int.__new__» ⟨[.type "int", .str x u], []⟩ = ((int_private% "intFromText") (.str x u) (numTextOf x) 10) >>= k := by
  have hk := tree_obj x u
  unfold Builtin.«int.__new__»
  have f1 := F.conv_sub_int
  have f2 := F.madeHere_int
  dsimp only
  simp only [f1, f2]
  show ∃ k, (((int_private% "intFromObject") (.str x u)) >>= _) = _ >>= k
  rw [hk]
  exact ⟨_, rfl⟩
end Mine
end
section
open PySem PySem.NumText PySem.W PyProof.Rows PyProof.Rows.LCg PyProof.Rows.LCt
set_option maxRecDepth 100000
namespace Mine
theorem ownMembersOf_ValueError (args : List Value) : ownMembersOf (.type "ValueError") args = #[] := by
  unfold ownMembersOf
  split <;> first | rfl | (rename_i h; revert h; decide) | simp_all
theorem msg_fits (y : Array Nat) : (((s!"invalid literal for int() with base {10}: " : String) ++ ⟨y.extract 0 200⟩ : Str)).length ≤ sizeLine := by
  rw [Str.length_append]
  have h1 : (Str.ofString (s!"invalid literal for int() with base {10}: ")).length ≤ 100 := by decide +kernel
  have h2 : (⟨y.extract 0 200⟩ : Str).length ≤ 200 := by
    show (y.extract 0 200).size ≤ 200
    rw [Array.size_extract]; omega
  have h3 : 300 ≤ sizeLine := by decide +kernel
  exact Nat.le_trans (Nat.add_le_add h1 h2) h3
section
variable {prog : Program} {w : World} {A : Around} {E : Value → Shared → Prop} {s : Shared} {c : Code}
theorem refuse_text {x : Str} {u : Tok} {Q : Value → Shared → Prop} (hs : (numSeenOf x).length ≤ 640) (hn : PySem.intText? x = none) (hh : (A.under c).handled = none) (hz : (reprText x).length ≤ sizeLine)
    (h : ∀ h' tk e, Heap.NewExc s.heap h' e "ValueError" → E (.ref e) { s with heap := h', toks := tk }) :
    wpM (model prog w) A c ((int_private% "intFromText") (.str x u) (numTextOf x) 10) Q E s := by
  have key : ∀ (k : Sem Value), k = (do
      rule "int.__new__.invalid-literal"
      let shown ← pyRepr (.str x u)
      let refusal ← newExc (.type "ValueError") [← mkStr (((s!"invalid literal for int() with base {10}: " : String) ++ ⟨shown.cps.extract 0 200⟩ : Str))]
      markTheRefusal ["int.__new__"] refusal
      raiseNew refusal) → wpM (model prog w) A c k Q E s := by
    rintro k rfl
    refine wpM_bind (wpM_any (wpAny_rule ?_))
    refine wpM_bind (wpM_any (wpAny_pyRepr_str ?_ hz))
    refine wpM_bind (wpM_any (wpAny_mkStr ?_ (msg_fits _)))
    refine wpM_bind (wpM_any ?_)
    unfold newExc newTuple
    refine wpAny_bind (wpAny_newObj_type ?_)
    refine wpAny_bind (m := firstArgMember _ _) (wpAny_of_eq (a := Value.none) (by first | rfl | (simp only [firstArgMember]; rfl)) ?_)
    rw [ownMembersOf_ValueError]
    refine wpAny_newObj_type ?_
    refine wpM_bind (wpM_mark ?_)
    refine wpM_any ?_
    unfold raiseNew
    refine wpAny_bind (wpAny_handled ?_)
    rw [hh]
    refine wpAny_bind (wpAny_pure (wpAny_throw ?_))
    exact h _ _ _ ⟨fun b o hb => Heap.get?_push_of_some _ (Heap.get?_push_of_some _ hb), Heap.get?_none_of_le (by simp), _, .ref s.heap.objs.size, Heap.get?_push_size _ rfl, rfl, by simp⟩
  show wpM _ _ _ (if (numSeenOf x).length ≤ 640 then _ else _) _ _ _
  rw [if_pos hs]
  try rw [pure_bind]
  try dsimp only
  rcases read0 x hs with ⟨n, h1, _⟩ | ⟨_, hr | ⟨i, hr, hne⟩⟩
  · rw [hn] at h1; cases h1
  · rw [hr]; exact key _ rfl
  · rw [hr]; dsimp only; rw [if_neg hne]; exact key _ rfl
end
end Mine
end
section
open PySem PySem.NumText PySem.W PyProof.Rows PyProof.Rows.LCg PyProof.Rows.LCt
set_option maxRecDepth 100000
namespace Mine
section
variable {prog : Program} {w : World} {A : Around} {E : Value → Shared → Prop} {s : Shared} {c : Code}
theorem wpM_pure {α : Type} {a : α} {Q : α → Shared → Prop} (h : Q a s) : wpM (model prog w) A c (pure a) Q E s := fun _ _ _ _ _ => h
theorem codeM_builtin {id : String} {args : Args} {b : Builtin} {R : Result → Shared → Prop} (hb : entryFor table id = some b)
    (he : (Code.builtin id args).env?.isNone = true)
    (h : wpM (model prog w) A (.builtin id args) (b args)
      (fun fin s' => match fin with | .done f => R (.ok f) s' | .again c' => c'.quiet = true ∧ codeM (model prog w) A c' R s') (fun e s' => R (.error e) s') s) :
    codeM (model prog w) A (.builtin id args) R s := by
  refine codeM_tree he ?_
  show wpM _ _ _ (match entryFor table id with | some b => b args | none => unsupported ((withoutEnding? id "#data").getD id)) _ _ s
  rw [hb]; exact h
/-- int(text), refused, somewhere above a map's next -/
theorem call_int_refused {x : Str} {u : Tok} {Q : Value → Shared → Prop} (hs : (numSeenOf x).length ≤ 640) (hn : PySem.intText? x = none) (hh : A.handled = none) (hz : (reprText x).length ≤ sizeLine)
    (h : ∀ h' tk e, Heap.NewExc s.heap h' e "ValueError" → E (.ref e) { s with heap := h', toks := tk }) :
    wpM (model prog w) A c (call (.type "int") [.str x u]) Q E s := by
  refine wpM_call (codeM_tree rfl ?_)
  show wpM _ _ _ (callAny (.type "int") _) _ _ _
  refine wpM_pure ⟨Code.quiet_builtin _ (by decide +kernel), codeM_builtin F.entry_type_call rfl ?_⟩
  obtain ⟨k, hk⟩ := tree_int (.str x u)
  rw [hk]
  refine wpM_bind (wpM_holding (wpM_call (codeM_tree rfl ?_)))
  show wpM _ _ _ (do checkBuiltinCall "int.__new__" _; again (.builtin "int.__new__" _)) _ _ s
  rw [F.newCall_int_1]
  refine wpM_pure ⟨plainId_quiet F.called_int.plain _, codeM_builtin F.entry_int_new rfl ?_⟩
  obtain ⟨k2, hk2⟩ := tree_new x u
  rw [hk2]
  exact wpM_bind (refuse_text hs hn hh hz h)
end
end Mine
end
section
open PySem PySem.NumText PySem.W PyProof.Rows PyProof.Rows.LCg PyProof.Rows.LCt
set_option maxRecDepth 100000
namespace Mine
section
variable {prog : Program} {w : World} {A : Around} {E : Value → Shared → Prop} {s : Shared} {c : Code}
theorem call_map_next {M T : Addr} {it f : Value} {Q : Value → Shared → Prop} (hm : IsMap s.heap M T it f)
    (hn : wpAny (model prog w) A.in1 (Builtin.SmallTypes.nextOf it) (fun x s₁ => IsMap s₁.heap M T it f ∧ wpM (model prog w) A (.builtin "map.__next__" ⟨[.ref M], []⟩) (call f [x]) Q E s₁) E s) :
    wpAny (model prog w) A (call (.builtin "map.__next__") [.ref M]) Q E s := by
  obtain ⟨⟨o, ho, hc, hd⟩, ⟨o2, n, ho2, hc2, hd2⟩⟩ := id hm
  refine wpAny_call (codeAny_call_builtin_own (plainId_quiet slot_map_next.plain _) entry_map_next (slot_map_next.check _ _ _ _ _ _ _ _ hm.typeIs (args_map_next_1 _) (own_of_M ?_)))
  show wpM _ _ _ (field (.ref M) 0 >>= _) _ _ s
  refine wpM_bind (wpM_any (wpAny_field ho hd (x := .ref T) rfl ?_))
  show wpM _ _ _ (seqItems? (.ref T) >>= _) _ _ s
  refine wpM_bind (wpM_any (wpAny_seqItems ho2 hd2 ?_))
  dsimp only
  simp only [List.forIn_toArray, List.forIn_cons, List.forIn_nil, bind_assoc, pure_bind]
  refine wpM_bind (wpM_holding (wpM_any ?_))
  rw [Around.under_plainId slot_map_next.plain]
  refine wpAny_mono hn (fun x s₁ hx => ?_) (fun _ _ e => e)
  obtain ⟨hm1, hx⟩ := hx
  obtain ⟨⟨p, hp, pc, pd⟩, _⟩ := id hm1
  refine wpM_bind (wpM_any (wpAny_field hp pd (x := f) rfl ?_))
  refine wpM_bind (wpM_holding ?_)
  refine wpM_mono hx (fun v s₂ hv => ?_) (fun _ _ e => e)
  refine wpM_bind (wpM_any (wpAny_letGo ?_))
  exact wpM_pure hv
end
end Mine
end
section
open PySem PySem.NumText PySem.W PyProof.Rows PyProof.Rows.LCg PyProof.Rows.LCt
set_option maxRecDepth 100000
namespace Mine
section
variable {prog : Program} {w : World} {A : Around} {E : Value → Shared → Prop} {s : Shared} {c : Code}
theorem nextOf_slot {T id : String} {it : Value} {Q : Value → Shared → Prop} (hT : s.TypeIs it T) (hs : Slot T (Str.ofString "__next__") id)
    (h : wpAny (model prog w) A (call (.builtin id) [it]) Q E s) : wpAny (model prog w) A (Builtin.SmallTypes.nextOf it) Q E s := by
  unfold Builtin.SmallTypes.nextOf
  refine wpAny_bind (wpAny_callSpecial?_slot hT hs (wpAny_mono h (fun v s' h' => ?_) fun _ _ e => e))
  exact wpAny_pure h'
theorem nextOf_map {M T : Addr} {it f : Value} {Q : Value → Shared → Prop} (hm : IsMap s.heap M T it f)
    (h : wpAny (model prog w) A (call (.builtin "map.__next__") [.ref M]) Q E s) : wpAny (model prog w) A (Builtin.SmallTypes.nextOf (.ref M)) Q E s :=
  nextOf_slot hm.typeIs slot_map_next h
theorem nextOf_list_end {it l : Addr} {i : Nat} {items} {Q : Value → Shared → Prop} (hh : A.handled = none)
    (hit : s.heap.IsListIter it l i) (hl : s.heap.IsList l items) (hx : items[i]? = none)
    (hE : ∀ h' e, Heap.ExtBut it s.heap h' → (∃ o, h'.get? e = some o ∧ o.cls = .type "StopIteration") → E (.ref e) { s with heap := h' }) : wpAny (model prog w) A (Builtin.SmallTypes.nextOf (.ref it)) Q E s := by
  obtain ⟨o, ho, hc, hd⟩ := id hit
  obtain ⟨ol, hol, _, nl, hdl⟩ := hl
  refine nextOf_slot hit.typeIs slot_listiter_next (wpAny_call_entry slot_listiter_next hit.typeIs entry_listiter_next ?_ (args_listiter_next _))
  show wpAny _ _ (field (.ref it) 0 >>= _) _ _ s
  refine wpAny_bind (wpAny_field ho hd (x := .ref l) rfl ?_)
  show wpAny _ _ (if (Value.ref l == Value.none) = true then _ else _) _ _ s
  rw [if_neg (show ¬ ((Value.ref l == Value.none) = true) from Bool.false_ne_true)]
  show wpAny _ _ (field (.ref it) 1 >>= _) _ _ s
  refine wpAny_bind (wpAny_field ho hd (x := .int i 0) rfl ?_)
  show wpAny _ _ (seqItems? (.ref l) >>= _) _ _ s
  refine wpAny_bind (wpAny_seqItems hol hdl ?_)
  simp only [Int.toNat_natCast, hx]
  refine wpAny_bind (wpAny_rule (wpAny_bind (wpAny_setField ho hd (by simp) ?_)))
  show wpAny _ _ (newExc (.type "StopIteration") [] >>= _) _ _ _
  refine wpAny_bind ?_
  simp only [newExc, newTuple]
  refine wpAny_bind (wpAny_newObj_type ?_ (by size_fits))
  refine wpAny_bind (m := firstArgMember _ _) (wpAny_of_eq (a := Value.none) (by first | rfl | (simp only [firstArgMember]; rfl)) ?_)
  refine wpAny_newObj_type ?_ (by size_fits)
  simp only [raiseNew]
  refine wpAny_bind (wpAny_handled ?_)
  rw [show A.in1.handled = none from hh]
  refine wpAny_bind (wpAny_pure (wpAny_throw ?_))
  exact hE _ _ (((Heap.SameBut.update ..).extBut.push _).push _) ⟨_, Heap.get?_push_size _ rfl, rfl⟩
end
end Mine
end
section
open PySem PySem.NumText PySem.W PyProof.Rows PyProof.Rows.LCg PyProof.Rows.LCt
set_option maxRecDepth 100000
namespace Mine
theorem isSubtype_stop_val : isSubtype (.type "ValueError") (.type "StopIteration") = pure false := by rw [isSubtype_type]; kernel_rfl
section
variable {prog : Program} {w : World} {A : Around} {E : Value → Shared → Prop} {s : Shared} {c : Code}
theorem nextOf_list_item {it l : Addr} {i : Nat} {items} {x : Value} {Q : Value → Shared → Prop} (hit : s.heap.IsListIter it l i)
    (hl : s.heap.IsList l items) (hx : items[i]? = some x)
    (hQ : ∀ h', h'.IsListIter it l (i + 1) → Heap.SameBut it s.heap h' → Q x { s with heap := h' }) :
    wpAny (model prog w) A (Builtin.SmallTypes.nextOf (.ref it)) Q E s := by
  obtain ⟨o, ho, hc, hd⟩ := id hit
  obtain ⟨ol, hol, _, nl, hdl⟩ := hl
  refine nextOf_slot hit.typeIs slot_listiter_next (wpAny_call_entry slot_listiter_next hit.typeIs entry_listiter_next ?_ (args_listiter_next _))
  show wpAny _ _ (field (.ref it) 0 >>= _) _ _ s
  refine wpAny_bind (wpAny_field ho hd (x := .ref l) rfl ?_)
  show wpAny _ _ (if (Value.ref l == Value.none) = true then _ else _) _ _ s
  rw [if_neg (show ¬ ((Value.ref l == Value.none) = true) from Bool.false_ne_true)]
  show wpAny _ _ (field (.ref it) 1 >>= _) _ _ s
  refine wpAny_bind (wpAny_field ho hd (x := .int i 0) rfl ?_)
  show wpAny _ _ (seqItems? (.ref l) >>= _) _ _ s
  refine wpAny_bind (wpAny_seqItems hol hdl ?_)
  simp only [Int.toNat_natCast, hx]
  refine wpAny_bind (wpAny_setField ho hd (by simp) (wpAny_pure ⟨x, rfl, hQ _ ?_ (Heap.SameBut.update ..)⟩))
  exact ⟨_, Heap.get?_update_self _ ho (Obj.isFreed_of_fields (Obj.data_mapFields hd _)), (Obj.cls_mapFields ..).trans hc, by
    rw [Obj.data_mapFields hd]; simp [rawInt]⟩
/-- two maps over a list's iterator, and nothing of it is the iterator -/
structure Maps (h : Heap) (M2 T2 M1 T1 it : Addr) : Prop where
  two : IsMap h M2 T2 (.ref M1) (.type "str")
  one : IsMap h M1 T1 (.ref it) (.type "int")
  n1 : M2 ≠ it
  n2 : T2 ≠ it
  n3 : M1 ≠ it
  n4 : T1 ≠ it
theorem Maps.ext {h h' : Heap} {M2 T2 M1 T1 it : Addr} (x : Maps h M2 T2 M1 T1 it) (k : Heap.ExtBut it h h') : Maps h' M2 T2 M1 T1 it :=
  ⟨x.two.at (fun o e => k _ o x.n1 e) (fun o e => k _ o x.n2 e), x.one.at (fun o e => k _ o x.n3 e) (fun o e => k _ o x.n4 e), x.n1, x.n2, x.n3, x.n4⟩
theorem pyNext_maps {M2 T2 M1 T1 it l : Addr} {i : Nat} {items : Array Value} {Q : Option Value → Shared → Prop} (hm : Maps s.heap M2 T2 M1 T1 it)
    (h : wpAny (model prog w) A.in1.in1 (Builtin.SmallTypes.nextOf (.ref it)) (fun x s₁ => Maps s₁.heap M2 T2 M1 T1 it ∧
        wpM (model prog w) A.in1 (.builtin "map.__next__" ⟨[.ref M1], []⟩) (call (.type "int") [x]) (fun y s₂ => Maps s₂.heap M2 T2 M1 T1 it ∧
          wpAny (model prog w) A.in1 (call (.type "str") [y]) (fun z s₃ => Q (some z) s₃) (fun _ _ => False) s₂) (fun e s₂ => s₂.TypeIs e "ValueError" ∧ E e s₂) s₁)
      (fun e s₁ => s₁.TypeIs e "StopIteration" ∧ Q none s₁) s) :
    wpAny (model prog w) A (pyNext (.ref M2)) Q E s := by
  unfold pyNext
  refine wpAny_bind (wpAny_attempt (wpAny_callSpecial?_slot hm.two.typeIs slot_map_next (call_map_next hm.two (nextOf_map hm.one (call_map_next hm.one ?_)))))
  refine wpAny_mono h (fun x s₁ hx => ⟨hx.1.one, wpM_mono hx.2 (fun y s₂ hy => ⟨hy.1.two, wpM_any ?_⟩) (fun e s₂ he => ?_)⟩) (fun e s₁ he => ?_)
  · rw [Around.under_plainId slot_map_next.plain]
    exact wpAny_mono hy.2 (fun z s₃ hz => wpAny_pure hz) (fun _ _ f => f.elim)
  · exact wpAny_bind (wpAny_isInstance he.1 isSubtype_stop_val (wpAny_throw he.2))
  · exact wpAny_bind (wpAny_isInstance he.1 isSubtype_stop (wpAny_pure he.2))
end
end Mine
end
section
open PySem PySem.NumText PySem.W PyProof.Rows PyProof.Rows.LCg PyProof.Rows.LCt
set_option maxRecDepth 100000
namespace Mine
def GoodX (x : Str) : Prop := x.length ≤ 640 ∧ (∀ n, PySem.intText? x = some n → n.natAbs.log2 < 1920) ∧ (reprText x).length ≤ sizeLine
def Got (items acc : Array Value) (i : Nat) : Prop :=
  acc.size = i ∧ ∀ j, j < i → ∃ x u n t, items[j]? = some (.str x u) ∧ PySem.intText? x = some n ∧ acc[j]? = some (.str (Str.ofString (toString n)) t)
theorem Got.push {items acc : Array Value} {i : Nat} {x : Str} {u t : Tok} {n : Int} (h : Got items acc i) (hx : items[i]? = some (.str x u)) (hn : PySem.intText? x = some n) :
    Got items (acc.push (.str (Str.ofString (toString n)) t)) (i + 1) := by
  refine ⟨by rw [Array.size_push, h.1], fun j hj => ?_⟩
  rw [Array.getElem?_push]
  by_cases e : j = acc.size
  · rw [if_pos e]; exact ⟨x, u, n, t, by rw [e, h.1]; exact hx, hn, rfl⟩
  · rw [if_neg e]; exact h.2 j (by have := h.1; omega)
section
variable {prog : Program} {w : World} {A : Around} {R : Result → Shared → Prop} {M2 T2 M1 T1 it l : Addr} {items : Array Value}
theorem loop_maps (hh : A.handled = none) (hit : items.size ≤ sizeLine) (hgood : ∀ (j : Nat) (v : Value), items[j]? = some v → ∃ x u, v = Value.str x u ∧ GoodX x) (S : Addr) (hSit : S ≠ it) (hSl : S ≠ l) (hlit : l ≠ it)
    (hS2 : S ≠ M2) (hS2' : S ≠ T2) (hS1 : S ≠ M1) (hS1' : S ≠ T1) :
    ∀ (k i : Nat) (s : Shared) (acc : Array Value) (c : Nat), items.size - i = k → i ≤ items.size → Maps s.heap M2 T2 M1 T1 it → s.heap.IsListIter it l i → s.heap.IsList l items →
      s.heap.get? S = some { cls := .type "list", dict := none, data := .seq acc c, slots := #[] } → Got items acc i →
      (∀ h' tk acc' c', (∀ b o, b ≠ it → b ≠ S → s.heap.get? b = some o → h'.get? b = some o) → h'.get? S = some { cls := .type "list", dict := none, data := .seq acc' c', slots := #[] } → Got items acc' items.size →
        R (.ok (.ret .none)) { s with heap := h', toks := tk }) →
      (∀ h' tk e (hm : Heap) (x : Str) (u : Tok) (j : Nat), (∀ b o, b ≠ it → b ≠ S → s.heap.get? b = some o → hm.get? b = some o) → Heap.NewExc hm h' e "ValueError" → items[j]? = some (Value.str x u) → PySem.intText? x = none →
        R (.error (.ref e)) { s with heap := h', toks := tk }) →
      codeAny (model prog w) A (.builtin "list.extend.loop" ⟨[.ref S, .ref M2, .none], []⟩) R s := by
  intro k
  induction k with
  | zero =>
    intro i s acc c hk hi hm hI hl hS hacc hR hX
    have hin : i = items.size := by omega
    refine codeAny_builtin F.entry_extend_loop ?_
    rw [Around.under_plainId F.plain_extend_loop _]
    show wpAny _ A.in1 (pyNext (.ref M2) >>= _) _ _ s
    refine wpAny_bind (pyNext_maps (l := l) (i := i) (items := items) hm (nextOf_list_end hh hI hl (by rw [hin]; simp) fun h' e hx ⟨o, ho, hc⟩ => ?_))
    refine ⟨⟨o, ho, hc⟩, wpAny_pure ?_⟩
    exact hR h' s.toks acc c (fun b o hb _ e => hx b o hb e) (hx S _ hSit hS) (hin ▸ hacc)
  | succ k ih =>
    intro i s acc c hk hi hm hI hl hS hacc hR hX
    have hlt : i < items.size := by omega
    obtain ⟨x, u, hv, hg⟩ := hgood i items[i] (Array.getElem?_eq_getElem hlt)
    have hix : items[i]? = some (.str x u) := by rw [Array.getElem?_eq_getElem hlt, hv]
    refine codeAny_builtin F.entry_extend_loop ?_
    rw [Around.under_plainId F.plain_extend_loop _]
    show wpAny _ A.in1 (pyNext (.ref M2) >>= _) _ _ s
    refine wpAny_bind (pyNext_maps (l := l) (i := i) (items := items) hm (nextOf_list_item hI hl hix fun h' hI' hsame => ?_))
    have hm' : Maps h' M2 T2 M1 T1 it := hm.ext hsame.extBut
    refine ⟨hm', ?_⟩
    cases hn : PySem.intText? x with
    | none =>
      refine call_int_refused (Nat.le_trans (seen_length x) hg.1) hn hh hg.2.2 fun h'' tk e hx => ?_
      refine ⟨?_, ?_⟩
      · obtain ⟨ob, t, h1, h2, _⟩ := hx.there; exact ⟨ob, h1, h2⟩
      · exact hX h'' tk e h' x u i (fun b o hb _ e => hsame.extBut b o hb e) hx hix hn
    | some n =>
      refine wpM_any (KIN.call_text hn hg.1 ⟨hm', PySem.P.str_of_int (hg.2.1 n hn) ?_⟩)
      have hS' : h'.get? S = some { cls := .type "list", dict := none, data := .seq acc c, slots := #[] } := hsame.extBut S _ hSit hS
      show wpAny _ A.in1 (updateSeq S (·.push _) >>= _) _ _ _
      refine wpAny_bind ?_
      have oth : ∀ (f : Obj → Obj) b o, b ≠ S → h'.get? b = some o → (h'.update S f).get? b = some o := fun f b o hb e => (Heap.get?_update_other _ _ (Ne.symm hb)).trans e
      refine wpAny_updateSeq hS' rfl (wpAny_pure ⟨plainId_quiet F.plain_extend_loop _, ih (i + 1) _ (acc.push _) _ (by omega) hlt
          ⟨hm'.two.at (fun o e => oth _ _ o hS2.symm e) (fun o e => oth _ _ o hS2'.symm e), hm'.one.at (fun o e => oth _ _ o hS1.symm e) (fun o e => oth _ _ o hS1'.symm e), hm'.n1, hm'.n2, hm'.n3, hm'.n4⟩
          (let ⟨o, ho, r⟩ := hI'; ⟨o, oth _ _ o hSit.symm ho, r⟩) (let ⟨o, ho, r⟩ := hl; ⟨o, oth _ _ o hSl.symm (hsame.extBut l o hlit ho), r⟩) (Heap.get?_update_self _ hS' rfl) (hacc.push hix hn)
          (fun h'' tk acc' c' hk' hS'' hg' => hR h'' tk acc' c' (fun b o hb hb' e => hk' b o hb hb' (oth _ b o hb' (hsame.extBut b o hb e))) hS'' hg')
          (fun h'' tk e hm x u j hk' => hX h'' tk e hm x u j (fun b o hb hb' e => hk' b o hb hb' (oth _ b o hb' (hsame.extBut b o hb e))))⟩)
        (by rw [hacc.1]; omega) (by show (acc.push _).size ≤ sizeLine + 1; rw [Array.size_push, hacc.1]; omega)
end
end Mine
end
section
open PySem PySem.NumText PySem.W PyProof.Rows PyProof.Rows.LCg PyProof.Rows.LCt
set_option maxRecDepth 100000
namespace Mine
theorem map_ne_list : (Value.type "map" == Value.type "list") = false := by decide
theorem map_ne_tuple : (Value.type "map" == Value.type "tuple") = false := by decide
section
variable {prog : Program} {w : World} {A : Around} {E : Value → Shared → Prop} {s : Shared} {M2 T2 M1 T1 it l : Addr} {items : Array Value}
theorem call_list_maps {Q : Value → Shared → Prop} (hh : A.handled = none) (hz : items.size ≤ sizeLine) (hgood : ∀ (j : Nat) (v : Value), items[j]? = some v → ∃ x u, v = Value.str x u ∧ GoodX x)
    (hm : Maps s.heap M2 T2 M1 T1 it) (hI : s.heap.IsListIter it l 0) (hl : s.heap.IsList l items) (hlit : l ≠ it)
    (hQ : ∀ h' tk S acc c, (∀ b o, b ≠ it → s.heap.get? b = some o → h'.get? b = some o) → s.heap.get? S = none → h'.get? S = some { cls := .type "list", dict := none, data := .seq acc c, slots := #[] } → Got items acc items.size →
        Q (.ref S) { s with heap := h', toks := tk })
    (hE : ∀ h' tk e (hm : Heap) (x : Str) (u : Tok) (j : Nat), (∀ b o, b ≠ it → s.heap.get? b = some o → hm.get? b = some o) → Heap.NewExc hm h' e "ValueError" → items[j]? = some (Value.str x u) → PySem.intText? x = none →
        E (.ref e) { s with heap := h', toks := tk }) :
    wpAny (model prog w) A (call (.type "list") [.ref M2]) Q E s := by
  have ne : ∀ b o, s.heap.get? b = some o → s.heap.objs.size ≠ b := fun b o e h => by
    rw [← h, Heap.get?_none_of_le (Nat.le_refl _)] at e; cases e
  have fresh : s.heap.get? s.heap.objs.size = none := Heap.get?_none_of_le (Nat.le_refl _)
  have e1 : s.heap.objs.size ≠ M2 := let ⟨⟨o, ho, _⟩, _⟩ := hm.two; ne _ o ho
  have e2 : s.heap.objs.size ≠ T2 := let ⟨_, ⟨o, _, ho, _⟩⟩ := hm.two; ne _ o ho
  have e3 : s.heap.objs.size ≠ M1 := let ⟨⟨o, ho, _⟩, _⟩ := hm.one; ne _ o ho
  have e4 : s.heap.objs.size ≠ T1 := let ⟨_, ⟨o, _, ho, _⟩⟩ := hm.one; ne _ o ho
  have e5 : s.heap.objs.size ≠ it := let ⟨o, ho, _⟩ := hI; ne _ o ho
  have e6 : s.heap.objs.size ≠ l := let ⟨o, ho, _⟩ := hl; ne _ o ho
  refine callType_codes (Q₁ := fun obj s₁ => obj = .ref s.heap.objs.size ∧ s₁ = { s with heap := s.heap.push { cls := .type "list", data := .seq #[] } }) F.called_list (F.typeCall_list_1 _) F.entry_list_init
    (code_list_new _ ⟨rfl, rfl⟩) fun obj s₁ h₁ => ?_
  obtain ⟨rfl, rfl⟩ := h₁
  have hS : (s.heap.push { cls := .type "list", data := .seq #[] }).get? s.heap.objs.size = some { cls := .type "list", data := .seq #[] } := Heap.get?_push_size _ rfl
  have kp : ∀ b o, s.heap.get? b = some o → (s.heap.push { cls := .type "list", data := .seq #[] }).get? b = some o := fun b o e => Heap.get?_push_of_some _ e
  refine ⟨⟨_, hS, rfl⟩, F.args_list_init_2 _ _, ?_⟩
  generalize s.heap.objs.size = S at *
  generalize s.heap.push { cls := .type "list", data := .seq #[] } = H at *
  show wpAny _ A.in1.in1 (do let old ← Builtin.List.listItems (.ref S); Builtin.List.listUpdate (.ref S) (fun _ => #[]); letGo old.toList.reverse; Builtin.List.listExtendWith (.ref S) (.ref M2) .none) _ _ _
  refine wpAny_bind ?_
  unfold Builtin.List.listItems
  refine wpAny_bind (wpAny_seqItems hS rfl (wpAny_pure ?_))
  show wpAny _ A.in1.in1 (updateSeq S (fun _ => #[]) >>= fun _ => letGo (#[] : Array Value).toList.reverse >>= fun _ => Builtin.List.listExtendWith (.ref S) (.ref M2) .none) _ _ _
  refine wpAny_bind (wpAny_updateSeq hS rfl ?_)
  have hS₂ := Heap.get?_update_self (Obj.mapSeq (fun _ => (#[] : Array Value))) hS rfl
  have kp₂ : ∀ b o, b ≠ S → s.heap.get? b = some o → (H.update S (Obj.mapSeq (fun _ => (#[] : Array Value)))).get? b = some o :=
    fun b o hb e => (Heap.get?_update_other _ _ (Ne.symm hb)).trans (kp b o e)
  refine wpAny_bind (wpAny_letGo ?_)
  generalize H.update S (Obj.mapSeq (fun _ => (#[] : Array Value))) = H₂ at *
  have T : Maps H₂ M2 T2 M1 T1 it := ⟨hm.two.at (fun o e => kp₂ _ o e1.symm e) (fun o e => kp₂ _ o e2.symm e), hm.one.at (fun o e => kp₂ _ o e3.symm e) (fun o e => kp₂ _ o e4.symm e), hm.n1, hm.n2, hm.n3, hm.n4⟩
  unfold Builtin.List.listExtendWith
  refine wpAny_bind (wpAny_typeOf T.two.typeIs ?_)
  have h1 : Builtin.List.listSameRef (.ref S) (.ref M2) = false := by simp [Builtin.List.listSameRef, e1]
  simp only [h1, map_ne_list, map_ne_tuple, Bool.or_false, Bool.false_eq_true, if_false]
  refine wpAny_bind (iter_map T.two ?_)
  refine wpAny_bind (wpAny_holding ?_)
  unfold Builtin.List.listLengthHint
  refine wpAny_bind (wpAny_specialOf T.two.typeIs map_no_len ?_)
  show wpAny _ _ (specialOf (Value.ref M2) (Str.ofString "__length_hint__") >>= _) _ _ _
  refine wpAny_bind (wpAny_specialOf T.two.typeIs map_no_hint ?_)
  refine wpAny_pure ?_
  show wpAny _ _ (rule "list.extend.makes-room" >>= fun _ => Builtin.List.listTouch (.ref S) >>= fun _ =>
    again (.builtin "list.extend.loop" ⟨[.ref S, .ref M2, .none], []⟩)) _ _ _
  refine wpAny_bind (wpAny_rule ?_)
  refine wpAny_bind ?_
  show wpAny _ _ (updateSeq S (·.push .none) >>= fun _ => updateSeq S (·.pop)) _ _ _
  refine wpAny_bind (wpAny_updateSeq hS₂ rfl ?_)
  have hS₃ := Heap.get?_update_self (Obj.mapSeq (·.push Value.none)) hS₂ rfl
  refine wpAny_updateSeq (hz := by seq_fits) hS₃ rfl ?_
  have hS₄ := Heap.get?_update_self (Obj.mapSeq (·.pop)) hS₃ rfl
  have oth : ∀ b o, b ≠ S → s.heap.get? b = some o → ((H₂.update S (Obj.mapSeq (·.push Value.none))).update S (Obj.mapSeq (·.pop))).get? b = some o :=
    fun b o hb e => (Heap.get?_update_other _ _ (Ne.symm hb)).trans ((Heap.get?_update_other _ _ (Ne.symm hb)).trans (kp₂ b o hb e))
  refine wpAny_pure ⟨plainId_quiet F.plain_extend_loop _, loop_maps (A := A.in1) hh hz hgood S e5 e6 hlit e1 e2 e3 e4 items.size 0 _ _ _ rfl (Nat.zero_le _)
    ⟨hm.two.at (fun o e => oth _ o e1.symm e) (fun o e => oth _ o e2.symm e), hm.one.at (fun o e => oth _ o e3.symm e) (fun o e => oth _ o e4.symm e), hm.n1, hm.n2, hm.n3, hm.n4⟩
    (let ⟨o, ho, r⟩ := hI; ⟨o, oth _ o e5.symm ho, r⟩) (let ⟨o, ho, r⟩ := hl; ⟨o, oth _ o e6.symm ho, r⟩) hS₄ ⟨rfl, fun j hj => absurd hj (Nat.not_lt_zero _)⟩ ?_ ?_⟩
  · intro h' tk acc' c' k hS' hg
    exact ⟨rfl, hQ h' tk S acc' c' (fun b o hb e => k b o hb (fun h => by rw [h, fresh] at e; cases e) (oth b o (fun h => by rw [h, fresh] at e; cases e) e)) fresh hS' hg⟩
  · intro h' tk e hm' x u j k hx hj hn
    exact hE h' tk e hm' x u j (fun b o hb e => k b o hb (fun h => by rw [h, fresh] at e; cases e) (oth b o (fun h => by rw [h, fresh] at e; cases e) e)) hx hj hn
end
end Mine
end
section
open PySem PySem.NumText PySem.W PyProof.Rows
set_option maxRecDepth 100000
namespace Mine
/-! the plain law of one field: the reading of int() against the law's own -/
def okC (c : Nat) : Bool := (decide (32 ≤ c) && decide (c ≤ 126)) || isB1 c
theorem b1_ge {c : Nat} (h : isB1 c = true) : 173 ≤ c := by
  have h0 : ∀ d ∈ b1L, 173 ≤ d := by decide
  exact h0 c (of_decide_eq_true h)
theorem ok_ge {c : Nat} (h : okC c = true) : 32 ≤ c := by
  unfold okC at h
  rw [Bool.or_eq_true, Bool.and_eq_true, decide_eq_true_eq, decide_eq_true_eq] at h
  rcases h with h | h
  · exact h.1
  · have := b1_ge h; omega
theorem blank_ok {c : Nat} (h : 32 ≤ c) : blank c = (c == 32) := by
  unfold blank
  rw [show (decide (9 ≤ c) && decide (c ≤ 13)) = false by simp; omega, Bool.or_false]
theorem dropWhile_ok {l : List Nat} (h : ∀ c ∈ l, 32 ≤ c) : l.dropWhile blank = l.dropWhile (· == 32) := by
  induction l with
  | nil => rfl
  | cons c r ih =>
    rw [List.dropWhile_cons, List.dropWhile_cons, blank_ok (h c List.mem_cons_self), ih fun d hd => h d (List.mem_cons_of_mem _ hd)]
theorem mem_dropWhile {p : Nat → Bool} {c : Nat} {l : List Nat} (h : c ∈ l) (hp : p c = false) : c ∈ l.dropWhile p := by
  induction l with
  | nil => cases h
  | cons d r ih =>
    rw [List.dropWhile_cons]
    split
    · rename_i hd
      rcases List.mem_cons.mp h with rfl | h
      · rw [hp] at hd; cases hd
      · exact ih h
    · exact h
theorem of_mem_dropWhile {p : Nat → Bool} {c : Nat} {l : List Nat} (h : c ∈ l.dropWhile p) : c ∈ l := by
  induction l with
  | nil => exact h
  | cons d r ih =>
    rw [List.dropWhile_cons] at h
    split at h
    · exact List.mem_cons_of_mem _ (ih h)
    · exact h
theorem mem_rstrip {c : Nat} {l : List Nat} (h : c ∈ l) (hp : (c == 32) = false) : c ∈ rstrip l := by
  unfold rstrip
  rw [List.mem_reverse]
  exact mem_dropWhile (List.mem_reverse.mpr h) hp
theorem rstrip_cons {c : Nat} {r : List Nat} (hc : (c == 32) = false) : rstrip (c :: r) = c :: rstrip r := by
  rcases List.eq_nil_or_concat r with rfl | ⟨q, d, rfl⟩
  · simp [rstrip, hc]
  · rw [List.concat_eq_append, ← List.cons_append, rstrip_snoc, rstrip_snoc]
    split
    · exact rstrip_cons hc
    · rfl
termination_by r.length
theorem lstrip_head {l : List Nat} {c : Nat} {r : List Nat} (h : lstrip l = c :: r) : (c == 32) = false := by
  induction l with
  | nil => cases h
  | cons d q ih =>
    unfold lstrip at h ih
    rw [List.dropWhile_cons] at h
    split at h
    · exact ih h
    · rename_i hd
      cases h
      simpa using hd
theorem sign_cons (c : Nat) (r : List Nat) : sign (c :: r) = if c = 45 then (true, r) else if c = 43 then (false, r) else (false, c :: r) := by
  by_cases h1 : c = 45
  · subst h1; rfl
  · by_cases h2 : c = 43
    · subst h2; rfl
    · rw [if_neg h1, if_neg h2, sign_of h1 h2]
theorem core_rstrip {l : List Nat} (h : ∀ c ∈ l, 32 ≤ c) : core l = rstrip (sign (lstrip l)).2 := by
  unfold core
  rw [dropWhile_ok h]
  have h2 : ∀ c ∈ (sign (lstrip l)).2.reverse, 32 ≤ c := by
    intro c hc
    have hc := List.mem_reverse.mp hc
    have h3 : c ∈ lstrip l := by
      revert hc
      cases lstrip l with
      | nil => exact fun h => h
      | cons d r =>
        rw [sign_cons]
        split
        · exact List.mem_cons_of_mem _
        · split
          · exact List.mem_cons_of_mem _
          · exact fun h => h
    exact h c (of_mem_dropWhile h3)
  show (((sign (lstrip l)).2.reverse.dropWhile blank).reverse) = _
  rw [dropWhile_ok h2]
  rfl
/-- the law's reading, by the sign and the core -/
theorem lawNum_core (l : List Nat) : lawNum l = numAns (sign (lstrip l)).1 (rstrip (sign (lstrip l)).2) := by
  unfold lawNum
  cases h : lstrip l with
  | nil => rfl
  | cons c r =>
    have hc := lstrip_head h
    rw [rstrip_cons hc, sign_cons]
    by_cases h1 : c = 45
    · subst h1
      rw [if_pos rfl, if_pos (by simp [hasSign])]
      rfl
    · by_cases h2 : c = 43
      · subst h2
        rw [if_neg (show ¬ (43 : Nat) = 45 by decide), if_pos (show (43 : Nat) = 43 from rfl), if_pos (by simp [hasSign])]
        rfl
      · rw [if_neg h1, if_neg h2, if_neg (by simp [hasSign, h1, h2])]
        have : ((c :: rstrip r).head? == some 45) = false := by simp [h1]
        rw [this, rstrip_cons hc]
def simSt (p : List Nat × Nat) : Array Nat × Bool := ((p.1.map (· - 48)).toArray, p.2 != 95)
theorem step_sim (p : List Nat × Nat) (c : Nat) : step 10 (simSt p) c = (scanStep p c).map simSt := by
  by_cases hd : isDig c = true
  · rw [step_dig hd]
    have h : 48 ≤ c ∧ c ≤ 57 := by simpa [isDig] using hd
    rw [simSt, step_digit h]
    have : c ≠ 95 := by omega
    simp [simSt, this]
  · have hd' : isDig c = false := by simpa using hd
    by_cases h95 : c = 95
    · subst h95
      by_cases hb : p.2 = 95
      · rw [step_bad hd' (.inr hb)]
        simp [NumText.step, simSt, hb]
      · rw [step_und hd' rfl hb]
        simp [NumText.step, simSt, hb]
    · rw [step_bad hd' (.inl h95)]
      have hn : ¬ (48 ≤ c ∧ c ≤ 57) := by simpa [isDig] using hd
      unfold NumText.step
      rw [if_neg (by simpa using h95)]
      unfold digit?
      rw [if_neg (by simpa using hn)]
      split
      · rename_i d hd2
        split at hd2
        · rename_i h3
          have h3 : 97 ≤ c ∧ c ≤ 122 := by simpa using h3
          cases hd2
          rw [if_neg (by omega)]
          rfl
        · split at hd2
          · rename_i h3
            have h3 : 65 ≤ c ∧ c ≤ 90 := by simpa using h3
            cases hd2
            rw [if_neg (by omega)]
            rfl
          · cases hd2
      · rfl
theorem fold_sim (x : List Nat) : ∀ p : List Nat × Nat, x.foldlM (step 10) (simSt p) = (scanAll p x).map simSt := by
  induction x with
  | nil => intro p; rfl
  | cons c r ih =>
    intro p
    unfold scanAll
    rw [List.foldlM_cons, List.foldlM_cons, step_sim]
    cases scanStep p c with
    | none => rfl
    | some q => exact ih q
theorem digits_sim (x : List Nat) : digits? 10 x = (scanAll ([], 95) x).bind fun p => if p.2 == 95 then none else some (p.1.map (· - 48)).toArray := by
  unfold digits?
  have h := fold_sim x ([], 95)
  have e : simSt ([], 95) = ((#[] : Array Nat), false) := rfl
  rw [e] at h
  rw [h]
  cases scanAll ([], 95) x with
  | none => rfl
  | some p =>
    show (if (p.2 != 95) = true then some _ else none) = _
    by_cases hb : p.2 = 95
    · simp [hb]
    · simp [hb, simSt]
theorem scan_inv (x : List Nat) : ∀ (p q : List Nat × Nat), scanAll p x = some q → AllDigits p.1 → (p.2 ≠ 95 → p.1 ≠ []) → AllDigits q.1 ∧ (q.2 ≠ 95 → q.1 ≠ []) ∧ (∀ c ∈ x, isDig c = true ∨ c = 95) := by
  induction x with
  | nil =>
    intro p q h h1 h2
    have : p = q := by simpa [scanAll] using h
    subst this
    exact ⟨h1, h2, fun c hc => nomatch hc⟩
  | cons c r ih =>
    intro p q h h1 h2
    have h' : ((scanStep p c).bind fun s' => scanAll s' r) = some q := by simpa [scanAll] using h
    obtain ⟨s', e1, e2⟩ := Option.bind_eq_some_iff.mp h'
    unfold scanStep at e1
    split at e1
    · rename_i hd
      have hd2 : 48 ≤ c ∧ c ≤ 57 := by simpa [isDig] using hd
      cases e1
      obtain ⟨a, b, d⟩ := ih _ _ e2 (fun k hk => by
        rcases List.mem_append.mp hk with hk | hk
        · exact h1 k hk
        · rw [List.mem_singleton.mp hk]; exact hd2) (fun _ => by simp)
      refine ⟨a, b, fun k hk => ?_⟩
      rcases List.mem_cons.mp hk with rfl | hk
      · exact .inl hd
      · exact d k hk
    · split at e1
      · cases e1
      · rename_i hn
        have hc : c = 95 := by
          simp only [bne, Bool.or_eq_true, not_or] at hn
          simpa using hn.1
        cases e1
        obtain ⟨a, b, d⟩ := ih _ _ e2 h1 (fun h => absurd hc h)
        refine ⟨a, b, fun k hk => ?_⟩
        rcases List.mem_cons.mp hk with rfl | hk
        · exact .inr hc
        · exact d k hk
theorem scan_bad {x : List Nat} {c : Nat} (hc : c ∈ x) (hd : isDig c = false) (h95 : c ≠ 95) : scanAll ([], 95) x = none := by
  cases h : scanAll ([], 95) x with
  | none => rfl
  | some q =>
    rcases (scan_inv x _ _ h (fun c hc => nomatch hc) (fun h => absurd rfl h)).2.2 c hc with e | e
    · rw [hd] at e; cases e
    · exact absurd e h95
theorem dropZ_eq : ∀ f : List Nat, f ≠ [] → dropZ f = (match f.dropWhile (· == 48) with
    | [] => [48]
    | c :: r => c :: r)
  | [], h => absurd rfl h
  | [c], _ => by
    by_cases e : c = 48
    · subst e; rfl
    · simp [dropZ, List.dropWhile_cons, e]
  | c :: d :: r, _ => by
    unfold dropZ
    by_cases e : c = 48
    · subst e
      rw [if_pos (by rfl), dropZ_eq (d :: r) (by simp)]
      rfl
    · rw [if_neg (by simpa using e), List.dropWhile_cons, if_neg (by simpa using e)]
theorem dropZ_ne {f : List Nat} (h : f ≠ []) : dropZ f ≠ [] := by
  rw [dropZ_eq f h]
  split <;> simp
theorem dropZ_digits {f : List Nat} (h : AllDigits f) : AllDigits (dropZ f) := by
  by_cases hf : f = []
  · subst hf; exact fun c hc => nomatch hc
  · rw [dropZ_eq f hf]
    split
    · intro c hc; rw [List.mem_singleton.mp hc]; decide
    · rename_i c r e
      intro d hd
      exact h d (of_mem_dropWhile (by rw [e]; exact hd))
theorem toNat_ofNat {c : Nat} (h : 48 ≤ c ∧ c ≤ 57) : (Char.ofNat c).toNat = c := by
  have : ∀ d : Fin 58, (Char.ofNat d.1).toNat = d.1 := by decide
  exact this ⟨c, by omega⟩
theorem toDigits_dropZ {f : List Nat} (h : AllDigits f) (hf : f ≠ []) : (Nat.toDigits 10 (digitsVal f)).map Char.toNat = dropZ f := by
  rw [toDigits_all f h, dropZ_eq f hf]
  have hd : ∀ c ∈ f.dropWhile (· == 48), 48 ≤ c ∧ c ≤ 57 := fun c hc => h c (of_mem_dropWhile hc)
  revert hd
  cases f.dropWhile (· == 48) with
  | nil => intro _; rfl
  | cons c r =>
    intro hd
    show ((c :: r).map Char.ofNat).map Char.toNat = c :: r
    rw [List.map_map]
    have : ∀ l : List Nat, (∀ c ∈ l, 48 ≤ c ∧ c ≤ 57) → l.map (Char.toNat ∘ Char.ofNat) = l := by
      intro l
      induction l with
      | nil => intro _; rfl
      | cons a r ih =>
        intro hl
        rw [List.map_cons, ih fun d hd => hl d (List.mem_cons_of_mem _ hd)]
        show (Char.ofNat a).toNat :: r = a :: r
        rw [toNat_ofNat (hl a List.mem_cons_self)]
    exact this _ hd
theorem digitsVal_dropZ : ∀ f : List Nat, digitsVal (dropZ f) = digitsVal f
  | [] => rfl
  | [_] => rfl
  | c :: d :: r => by
    unfold dropZ
    split
    · rename_i h
      have h : c = 48 := by simpa using h
      subst h
      rw [digitsVal_dropZ (d :: r)]
      rfl
    · rfl
theorem ds_val (f : List Nat) : (f.map (· - 48)).toArray.foldl (fun acc d => acc * 10 + d) 0 = digitsVal f := by
  unfold digitsVal
  rw [List.foldl_toArray, List.foldl_map]
theorem zero_val {f : List Nat} (h : AllDigits f) (hf : f ≠ []) : digitsVal f = 0 ↔ dropZ f = [48] := by
  constructor
  · intro e
    have := toDigits_dropZ h hf
    rw [e] at this
    rw [← this]; decide
  · intro e
    have := digitsVal_dropZ f
    rw [e] at this
    rw [← this]; decide
theorem text_nat (k : Nat) : Str.ofString (toString ((k : Nat) : Int)) = mkS ((Nat.toDigits 10 k).map Char.toNat) := by
  have := KIN.signs_num k
  rw [← this, mkS_of]
theorem text_neg {k : Nat} (h : k ≠ 0) : Str.ofString (toString (-((k : Nat) : Int))) = mkS (45 :: (Nat.toDigits 10 k).map Char.toNat) := by
  obtain ⟨m, rfl⟩ : ∃ m, k = m + 1 := ⟨k - 1, by omega⟩
  have e : toString (-(((m + 1 : Nat) : Nat) : Int)) = "-" ++ Nat.repr (m + 1) := rfl
  rw [e, ← mkS_of (Str.ofString _), signs_ofString, String.toList_append, List.map_append, Nat.toList_repr]
  rfl
/-- figures with a sign: what int() then str() tells -/
theorem text_worth {f : List Nat} {mn : Bool} (h : AllDigits f) (hf : f ≠ []) : Str.ofString (toString (worth mn (f.map (· - 48)).toArray)) = mkS (signed mn (dropZ f)) := by
  unfold worth
  rw [ds_val]
  cases mn with
  | false =>
    rw [if_neg (by decide), text_nat, toDigits_dropZ h hf]
    rfl
  | true =>
    rw [if_pos rfl]
    unfold signed
    by_cases h0 : digitsVal f = 0
    · rw [(zero_val h hf).mp h0, h0]
      decide +kernel
    · rw [text_neg h0, toDigits_dropZ h hf]
      have : dropZ f ≠ [48] := fun e => h0 ((zero_val h hf).mpr e)
      simp [this]
/-- the reading of a text whose signs are those of numTextOf -/
def rd (t : List Nat) : Option Int := match digits? 10 (core t) with
    | some ds => if ds.size ≤ 4300 then some (worth (sign (t.dropWhile blank)).1 ds) else none
    | none => none
theorem rd_law {t : List Nat} (h : ∀ c ∈ t, 32 ≤ c) (hl : t.length ≤ 640) :
    (rd t = none ∧ lawNum t = []) ∨ ∃ n, rd t = some n ∧ mkS (lawNum t) = Str.ofString (toString n) ∧ lawNum t ≠ [] := by
  unfold rd
  rw [lawNum_core, core_rstrip h, digits_sim]
  unfold numAns
  have hlen : (rstrip (sign (lstrip t)).2).length ≤ 640 := by
    rw [← core_rstrip h]
    exact Nat.le_trans (core_length t) hl
  generalize hx : rstrip (sign (lstrip t)).2 = x at *
  have hs : (sign (t.dropWhile blank)).1 = (sign (lstrip t)).1 := by rw [dropWhile_ok h]; rfl
  rw [hs]
  cases hsc : scanAll ([], 95) x with
  | none => exact .inl ⟨rfl, rfl⟩
  | some p =>
    obtain ⟨f, b⟩ := p
    obtain ⟨h1, h2, h3⟩ := scan_inv x _ _ hsc (fun c hc => nomatch hc) (fun h => absurd rfl h)
    by_cases hb : b = 95
    · refine .inl ⟨?_, ?_⟩
      · simp [hb]
      · simp [hb]
    · have hf := h2 hb
      have hb' : (b == 95) = false := by simpa using hb
      refine .inr ⟨worth (sign (lstrip t)).1 (f.map (· - 48)).toArray, ?_, ?_, ?_⟩
      · rw [Option.bind_some]
        simp only [hb', Bool.false_eq_true, if_false]
        have hsz : (f.map (· - 48)).toArray.size ≤ 4300 := by
          have := digits_size (base := 10) (cs := x) (ds := (f.map (· - 48)).toArray) (by rw [digits_sim, hsc, Option.bind_some]; simp [hb'])
          omega
        rw [if_pos hsz]
      · simp only [hb', Bool.false_eq_true, if_false]
        exact (text_worth h1 hf).symm
      · simp only [hb', Bool.false_eq_true, if_false]
        unfold signed
        split
        · simp
        · exact dropZ_ne hf
end Mine
end
section
open PySem PySem.NumText PySem.W PyProof.Rows
set_option maxRecDepth 100000
namespace Mine
theorem val_lt : ∀ (f : List Nat) (a : Nat), AllDigits f → f.foldl (fun acc c => acc * 10 + (c - 48)) a < (a + 1) * 10 ^ f.length
  | [], a, _ => by simp
  | c :: r, a, h => by
    have hc := h.head
    have ih := val_lt r (a * 10 + (c - 48)) h.tail
    rw [List.foldl_cons]
    refine Nat.lt_of_lt_of_le ih ?_
    rw [List.length_cons, Nat.pow_succ, Nat.mul_comm (10 ^ r.length) 10, ← Nat.mul_assoc]
    exact Nat.mul_le_mul_right _ (by omega)
theorem rd_small {t : List Nat} {n : Int} (h : ∀ c ∈ t, 32 ≤ c) (hl : t.length ≤ 200) (e : rd t = some n) : n.natAbs.log2 < 1920 := by
  unfold rd at e
  rw [digits_sim] at e
  cases hsc : scanAll ([], 95) (core t) with
  | none => rw [hsc] at e; cases e
  | some p =>
    obtain ⟨f, b⟩ := p
    obtain ⟨h1, h2, h3⟩ := scan_inv _ _ _ hsc (fun c hc => nomatch hc) (fun h => absurd rfl h)
    have hfl := scanAll_len _ _ hsc
    have hcl := core_length t
    rw [hsc, Option.bind_some] at e
    by_cases hb : b = 95
    · simp [hb] at e
    · have hb' : (b == 95) = false := by simpa using hb
      simp only [hb', Bool.false_eq_true, if_false] at e
      split at e
      · cases e
        have hv := val_lt f 0 h1
        have hn : (worth (sign (t.dropWhile blank)).1 (f.map (· - 48)).toArray).natAbs = digitsVal f := by
          unfold worth
          rw [ds_val]
          split <;> omega
        rw [hn]
        have hp : 10 ^ f.length ≤ 10 ^ 200 := Nat.pow_le_pow_right (by decide) (by simp at hfl; omega)
        have hlt : digitsVal f < 2 ^ 1920 := by
          unfold digitsVal
          have h200 : 10 ^ 200 < 2 ^ 1920 := by decide +kernel
          omega
        by_cases h0 : digitsVal f = 0
        · rw [h0]; decide
        · exact (Nat.log2_lt h0).mpr hlt
      · cases e
theorem lawNum_bad {l : List Nat} {c : Nat} (hc : c ∈ l) (h32 : c ≠ 32) (h43 : c ≠ 43) (h45 : c ≠ 45) (hd : isDig c = false) (h95 : c ≠ 95) : c ∈ rstrip (sign (lstrip l)).2 := by
  have h1 : c ∈ lstrip l := mem_dropWhile hc (by simpa using h32)
  refine mem_rstrip ?_ (by simpa using h32)
  revert h1
  cases lstrip l with
  | nil => exact fun h => h
  | cons d r =>
    intro h
    rw [sign_cons]
    rcases List.mem_cons.mp h with rfl | h'
    · rw [if_neg h45, if_neg h43]; exact h
    · split
      · exact h'
      · split
        · exact h'
        · exact h
theorem b1_facts : ∀ c ∈ b1L, Unicode.isSpace c = false ∧ Unicode.decimalValue? c = none ∧ 126 < c := by decide +kernel
theorem numberText_b1 : ∀ l : List Nat, (∀ c ∈ l, okC c = true) → (∃ c ∈ l, isB1 c = true) → 63 ∈ Unicode.numberText l ∧ ∀ c ∈ Unicode.numberText l, 32 ≤ c
  | [], _, ⟨c, hc, _⟩ => nomatch hc
  | c :: r, h, hx => by
    rw [Unicode.numberText]
    by_cases hb : isB1 c = true
    · obtain ⟨f1, f2, f3⟩ := b1_facts c (of_decide_eq_true hb)
      rw [if_neg (by omega), f1, f2]
      simp
    · have hc := h c List.mem_cons_self
      have hr : 32 ≤ c ∧ c ≤ 126 := by
        simp only [okC, Bool.or_eq_true, Bool.and_eq_true, decide_eq_true_eq] at hc
        rcases hc with hc | hc
        · exact hc
        · exact absurd hc hb
      obtain ⟨i1, i2⟩ := numberText_b1 r (fun d hd => h d (List.mem_cons_of_mem _ hd)) (by
        obtain ⟨d, hd, hdb⟩ := hx
        rcases List.mem_cons.mp hd with rfl | hd
        · exact absurd hdb hb
        · exact ⟨d, hd, hdb⟩)
      rw [if_pos (by omega)]
      refine ⟨List.mem_cons_of_mem _ i1, fun d hd => ?_⟩
      rcases List.mem_cons.mp hd with rfl | hd
      · exact hr.1
      · exact i2 d hd
theorem seen_all_of {x : Str} {t : List Nat} (h : numTextOf x = t) (ht : ∀ c ∈ t, 32 ≤ c) : PySem.intText? x = rd t := by
  have e : numSeenOf x = t := by
    show (numTextOf x).takeWhile _ = _
    rw [h]
    refine takeWhile_all fun c hc => ?_
    have := ht c hc
    exact bne_iff_ne.mpr (by omega)
  unfold PySem.intText? rd
  rw [h, e]
  exact if_pos (beq_self_eq_true _)
/-- a field: the reading of int() and the law's own -/
theorem field_law {l : List Nat} (h : ∀ c ∈ l, okC c = true) (hl : l.length ≤ 200) :
    (PySem.intText? (mkS l) = none ∧ lawNum l = []) ∨ ∃ n, PySem.intText? (mkS l) = some n ∧ mkS (lawNum l) = Str.ofString (toString n) ∧ lawNum l ≠ [] ∧ n.natAbs.log2 < 1920 := by
  have h32 : ∀ c ∈ l, 32 ≤ c := fun c hc => ok_ge (h c hc)
  by_cases hb : ∃ c ∈ l, isB1 c = true
  · have hx : numTextOf (mkS l) = Unicode.numberText l := by
      have : ¬ (mkS l).cps.all (· < 128) = true := by
        rw [← Array.all_toList, mkS_toList, List.all_eq_true]
        intro hall
        obtain ⟨c, hc, hcb⟩ := hb
        have h1 := of_decide_eq_true (hall c hc)
        have h2 := b1_ge hcb
        omega
      show (if _ then _ else _) = _
      rw [if_neg this, mkS_toList]
    obtain ⟨h63, ht⟩ := numberText_b1 l h hb
    have e := seen_all_of hx ht
    refine .inl ⟨?_, ?_⟩
    · rw [e]
      have hm := lawNum_bad h63 (by decide) (by decide) (by decide) (by decide) (by decide)
      unfold rd
      rw [core_rstrip ht, digits_sim, scan_bad hm (by decide) (by decide)]
      rfl
    · obtain ⟨c, hc, hcb⟩ := hb
      have h173 := b1_ge hcb
      have hd : isDig c = false := by
        unfold isDig
        rw [decide_eq_false (show ¬ c ≤ 57 by omega), Bool.and_false]
      have hm := lawNum_bad hc (by omega) (by omega) (by omega) hd (by omega)
      rw [lawNum_core]
      unfold numAns
      rw [scan_bad hm hd (by omega)]
  · have hlt : ∀ c ∈ l, c ≤ 126 := by
      intro c hc
      have := h c hc
      simp only [okC, Bool.or_eq_true, Bool.and_eq_true, decide_eq_true_eq] at this
      rcases this with h1 | h1
      · exact h1.2
      · exact absurd ⟨c, hc, h1⟩ hb
    have hx : numTextOf (mkS l) = l := by
      have : (mkS l).cps.all (· < 128) = true := by
        rw [← Array.all_toList, mkS_toList, List.all_eq_true]
        intro c hc
        have := hlt c hc
        exact decide_eq_true (by omega)
      show (if _ then _ else _) = _
      rw [if_pos this, mkS_toList]
    have e := seen_all_of hx h32
    rw [e]
    rcases rd_law h32 (by omega) with h1 | ⟨n, h1, h2, h3⟩
    · exact .inl h1
    · exact .inr ⟨n, h1, h2, h3, rd_small h32 hl h1⟩
/-! the fields -/
def fields0 (v : List Nat) : List (List Nat) := (vFold (fun _ => false) v).1 ++ [(vFold (fun _ => false) v).2]
theorem fold_free (p : List Nat) : ∀ (dn : List (List Nat)) (cur : List Nat), 46 ∉ p → p.foldl (vStep (fun _ => false)) (dn, cur) = (dn, cur ++ p) := by
  induction p with
  | nil => intro dn cur _; simp
  | cons c r ih =>
    intro dn cur h
    rw [List.foldl_cons]
    have hc : (c == 46) = false := by
      have : c ≠ 46 := fun e => h (e ▸ List.mem_cons_self)
      simpa using this
    have : vStep (fun _ => false) (dn, cur) c = (dn, cur ++ [c]) := by simp [vStep, hc]
    rw [this, ih _ _ fun hm => h (List.mem_cons_of_mem _ hm), List.append_assoc]
    rfl
theorem fold_join : ∀ (ps : List (List Nat)) (p : List Nat) (dn : List (List Nat)) (cur : List Nat), 46 ∉ p → (∀ q ∈ ps, 46 ∉ q) →
    ((ljoin [46] (p :: ps)).foldl (vStep (fun _ => false)) (dn, cur)).1 ++ [((ljoin [46] (p :: ps)).foldl (vStep (fun _ => false)) (dn, cur)).2] = dn ++ ((cur ++ p) :: ps)
  | [], p, dn, cur, h, _ => by
    rw [ljoin, fold_free p dn cur h]
  | q :: ps, p, dn, cur, h, hq => by
    rw [ljoin, List.foldl_append, List.foldl_append, fold_free p dn cur h]
    have : List.foldl (vStep (fun _ => false)) (dn, cur ++ p) [46] = (dn ++ [cur ++ p], []) := rfl
    rw [this, fold_join ps q _ _ (hq q List.mem_cons_self) fun r hr => hq r (List.mem_cons_of_mem _ hr)]
    simp
theorem fields_join {ps : List (List Nat)} (hne : ps ≠ []) (h : ∀ q ∈ ps, 46 ∉ q) : fields0 (ljoin [46] ps) = ps := by
  cases ps with
  | nil => exact absurd rfl hne
  | cons p ps =>
    have := fold_join ps p [] [] (h p List.mem_cons_self) fun q hq => h q (List.mem_cons_of_mem _ hq)
    simpa [fields0, vFold] using this
theorem split_is (v : List Nat) : Txt.split (mkS v) (mkS [46]) = (fields0 v).map mkS := by
  have hf := StrLaws.split_free (mkS v) 46
  have hj := StrLaws.join_split (mkS v) (mkS [46])
  have hp := split_pos (mkS v) (mkS [46])
  have e : (⟨#[46]⟩ : Str) = mkS [46] := rfl
  rw [e] at hf
  generalize Txt.split (mkS v) (mkS [46]) = ss at *
  have hs : ss = (ss.map fun x => x.cps.toList).map mkS := by
    rw [List.map_map]
    have : (mkS ∘ fun x : Str => x.cps.toList) = id := funext fun x => mkS_of x
    rw [this, List.map_id]
  generalize hps : (ss.map fun x => x.cps.toList) = ps at *
  have hv : ljoin [46] ps = v := by
    have h1 := join_mk [46] ps
    rw [← hs] at h1
    have h2 : Txt.join (mkS [46]) ss = Str.join (mkS [46]) ss := StrLaws.glued_eq_join _ _
    rw [h2, hj] at h1
    exact (mkS_inj h1).symm
  have hne : ps ≠ [] := by
    intro e0
    rw [e0] at hs
    rw [hs] at hp
    exact absurd hp (by decide)
  rw [hs, ← hv, fields_join hne]
  intro q hq
  rw [← hps] at hq
  obtain ⟨x, hx, rfl⟩ := List.mem_map.mp hq
  exact hf x hx
theorem fold_out (out : Nat → Bool) (h46 : out 46 = false) (v : List Nat) : ∀ st, v.foldl (vStep out) st = (v.filter fun c => !out c).foldl (vStep (fun _ => false)) st := by
  induction v with
  | nil => intro st; rfl
  | cons c r ih =>
    intro st
    rw [List.foldl_cons, ih]
    by_cases hc : out c = true
    · have : c ≠ 46 := fun e => by rw [e, h46] at hc; cases hc
      have e1 : vStep out st c = st := by simp [vStep, this, hc]
      rw [e1, List.filter_cons_of_neg (by simp [hc])]
    · have hc : out c = false := by simpa using hc
      rw [List.filter_cons_of_pos (by simp [hc]), List.foldl_cons]
      have e1 : vStep out st c = vStep (fun _ => false) st c := by simp [vStep, hc]
      rw [e1]
/-- what _norm_version gives -/
def normVer (v b : List Nat) : List Nat := verAns (if b == [] then fields0 v else fields0 v ++ [b])
theorem lawVer_norm (v b ns : List Nat) (h : 46 ∉ ns) : lawVer v b ns = normVer (v.filter fun c => !decide (c ∈ ns)) (b.filter fun c => !decide (c ∈ ns)) := by
  unfold lawVer normVer fields0 vFold
  rw [fold_out (fun c => decide (c ∈ ns)) (by simpa using h)]
theorem law_1 (v b : List Nat) : lawVer v b [] = normVer v b := by
  rw [lawVer_norm v b [] (by simp)]
  have e : ∀ l : List Nat, (l.filter fun c => !decide (c ∈ ([] : List Nat))) = l := fun l => by
    rw [List.filter_eq_self]
    intro c _
    simp
  rw [e, e]
theorem noth_b1 (c : Nat) : decide (c ∈ nothL) = isB1 c := by
  unfold isB1
  rw [decide_eq_decide]
  constructor
  · have h : ∀ c ∈ nothL, c ∈ b1L := by decide
    exact h c
  · have h : ∀ c ∈ b1L, c ∈ nothL := by decide
    exact h c
theorem law_2 (v b : List Nat) : lawVer v b nothL = normVer (v.filter fun c => !isB1 c) (b.filter fun c => !isB1 c) := by
  rw [lawVer_norm v b nothL (by decide)]
  simp only [noth_b1]
theorem filter_3 (v : List Nat) : (v.filter fun c => !decide (c ∈ nothL ++ [32])) = (v.filter fun c => !isB1 c).filter fun c => !(c == 32) := by
  rw [List.filter_filter]
  congr 1
  funext c
  rw [← noth_b1]
  by_cases h1 : c ∈ nothL
  · simp [h1]
  · by_cases h2 : c = 32
    · simp [h2]
    · simp [h1, h2]
theorem law_3 (v b : List Nat) : lawVer v b (nothL ++ [32]) = normVer ((v.filter fun c => !isB1 c).filter fun c => !(c == 32)) ((b.filter fun c => !isB1 c).filter fun c => !(c == 32)) := by
  rw [lawVer_norm v b (nothL ++ [32]) (by decide), filter_3, filter_3]
theorem field_sub (v : List Nat) : ∀ x ∈ fields0 v, x.length ≤ v.length ∧ ∀ c ∈ x, c ∈ v := by
  have key : ∀ (v : List Nat) (st : List (List Nat) × List Nat) (P : Nat → Prop), (∀ x ∈ st.1 ++ [st.2], ∀ c ∈ x, P c) → (∀ c ∈ v, P c) →
      ∀ x ∈ (v.foldl (vStep (fun _ => false)) st).1 ++ [(v.foldl (vStep (fun _ => false)) st).2], ∀ c ∈ x, P c := by
    intro v
    induction v with
    | nil => intro st P h _; exact h
    | cons c r ih =>
      intro st P h hv
      rw [List.foldl_cons]
      refine ih _ P ?_ fun d hd => hv d (List.mem_cons_of_mem _ hd)
      intro x hx d hd
      unfold vStep at hx
      split at hx
      · rcases List.mem_append.mp hx with hx | hx
        · exact h x hx d hd
        · rw [List.mem_singleton.mp hx] at hd; cases hd
      · simp only [Bool.false_eq_true, if_false] at hx
        rcases List.mem_append.mp hx with hx | hx
        · exact h x (List.mem_append_left _ hx) d hd
        · rw [List.mem_singleton.mp hx] at hd
          rcases List.mem_append.mp hd with hd | hd
          · exact h st.2 (by simp) d hd
          · rw [List.mem_singleton.mp hd]; exact hv c List.mem_cons_self
  intro x hx
  refine ⟨?_, key v ([], []) (fun c => c ∈ v) (by simp) (fun c hc => hc) x hx⟩
  have h := vFold_size (fun _ => false) v
  rcases List.mem_append.mp hx with hx | hx
  · exact h.2.2 x hx
  · rw [List.mem_singleton.mp hx]; exact h.2.1
theorem fields_len (v : List Nat) : (fields0 v).length ≤ v.length + 1 := by
  have h := vFold_size (fun _ => false) v
  unfold fields0
  simp
  exact h.1
end Mine
end
section
open PySem PySem.W PyProof.Rows PyProof.Rows.LCg PyProof.Rows.LCt
namespace Mine
local macro_rules | `(tactic| k_steps) => `(tactic| repeat' (first
  | (with_reducible refine ite_t ?_)
  | (with_reducible refine ite_f ?_)
  | ((fail_if_success (with_reducible show wpAny _ _ (exec (Stmt.While _ _ _ _) _) _ _ _)); (fail_if_success (with_reducible show wpAny _ _ (exec (Stmt.For _ _ _ _ _) _) _ _ _)); (fail_if_success (with_reducible show wpAny _ _ (eval (Expr.ListComp _ _ _ _) _) _ _ _)); (fail_if_success (with_reducible show wpAny _ _ (call (Value.ref _) _) _ _ _)); (fail_if_success (with_reducible show ite _ _ _)); (first | (k_unfold; (try dsimp only)) | (k_end; kc_close) | walk1 | (dsimp only; walk1) | (leave1; walk_say "STEP leave1"; (try dsimp only)) | fail "no step"))))
local macro_rules | `(tactic| size_fits) => `(tactic| exact fit (by assumption))
set_option maxRecDepth 100000
set_option maxHeartbeats 8000000
/-- the tail of _norm_version: the first three of strings, joined -/
theorem normC (w : World) (gs : List (List Nat)) (sa : Addr) (its : Array Value) (n : Nat) (keep : List (Addr × Obj)) (hf : gs.length ≤ 200) (hf2 : ∀ x ∈ gs, x.length ≤ 200) (hs : StrsAre its.toList (gs.map mkS))
    {mean : ExcName → Option Value} {mg mb : Str → Option Value} {dp un : Nat} {gd : Option (List Code)} {cn : Str} {cs : Scope} {Lc a : Addr} {ccd : Value} {g : Heap} {L : Addr} {m : Str → Option Value} {s : Shared} {Q : Flow → Shared → Prop}
    (X : (heapK w.params).In g) (T : Top q0 (looseW q0 loose0) mean mg mb g) (hdp : dp < 500) (hun : un < 100 * 50)
    (hret : ∀ (t : Tok) (h' : Heap) (tk' : Nat) (m' : Str → Option Value), Fr g L h' m' → News g L h' keep → Q (.ret (.str (mkS (ljoin [46] (gs.take 3))) t)) { s with heap := h', toks := tk' })
    (h1 : m (Str.ofString "strings") = some (.ref sa)) (F : Fr g L s.heap m) (N : News g L s.heap ((sa, W.listOf its n) :: keep)) :
    wpAny (model P0 w) ((ktrTop dp un gd cn cs Lc a ccd [] []).deeper (envOf (Str.ofString "_norm_version") (scp 1) L 22 (.ref 21))) (execs ((bdy 1).drop 3) (envOf (Str.ofString "_norm_version") (scp 1) L 22 (.ref 21))) Q Never s := by
  conv in (List.drop _ (bdy 1)) => whnf
  have F₁ := named F h1
  clear F h1
  have hsz : its.size ≤ 100000 := by rw [← Array.length_toList, strs_len hs]; simp; omega
  k_steps
  rename_i F₄ N₄
  refine join_listW (ys := (gs.take 3).map mkS) (News.isList N₄ List.mem_cons_self) ?_ (by rw [dot_is, mkS_length]; decide) (join_fits gs hf2) ?_
  · rw [show (3 : Int) = ((3 : Nat) : Int) from rfl, PySem.slicePick_upto', List.map_take]
    exact strs_take 3 hs
  · intro t' k
    rw [dot_is, join_mk]
    k_steps
    rename_i F₅ N₅
    exact hret _ _ _ _ F₅ fun p hp => N₅ p (List.mem_cons_of_mem _ (List.mem_cons_of_mem _ hp))
end Mine
end
section
open PySem PySem.W PyProof.Rows PyProof.Rows.LCg PyProof.Rows.LCt
namespace Mine
local macro_rules | `(tactic| k_steps) => `(tactic| repeat' (first
  | (with_reducible refine ite_t ?_)
  | (with_reducible refine ite_f ?_)
  | ((fail_if_success (with_reducible show wpAny _ _ (exec (Stmt.While _ _ _ _) _) _ _ _)); (fail_if_success (with_reducible show wpAny _ _ (exec (Stmt.For _ _ _ _ _) _) _ _ _)); (fail_if_success (with_reducible show wpAny _ _ (eval (Expr.ListComp _ _ _ _) _) _ _ _)); (fail_if_success (with_reducible show wpAny _ _ (call (Value.ref _) _) _ _ _)); (fail_if_success (with_reducible show ite _ _ _)); (first | (k_unfold; (try dsimp only)) | (k_end; kc_close) | walk1 | (dsimp only; walk1) | (leave1; walk_say "STEP leave1"; (try dsimp only)) | fail "no step"))))
local macro_rules | `(tactic| size_fits) => `(tactic| exact fit (by assumption))
set_option maxRecDepth 100000
set_option maxHeartbeats 8000000
theorem strs_get : ∀ {vs : List Value} {xs : List Str} {j : Nat} {v : Value}, StrsAre vs xs → vs[j]? = some v → ∃ x t, xs[j]? = some x ∧ v = .str x t
  | _, _, _, _, .nil, h => by simp at h
  | _, _, 0, v, .cons x t _, h => by
    simp at h
    exact ⟨x, t, by simp, h.symm⟩
  | _, _, j + 1, v, .cons x t r, h => by
    obtain ⟨y, u, h1, h2⟩ := strs_get (j := j) r (by simpa using h)
    exact ⟨y, u, by simpa using h1, h2⟩
theorem strs_of : ∀ {vs : List Value} {xs : List Str}, vs.length = xs.length → (∀ (j : Nat) (x : Str), xs[j]? = some x → ∃ t, vs[j]? = some (Value.str x t)) → StrsAre vs xs
  | [], [], _, _ => .nil
  | [], _ :: _, h, _ => by simp at h
  | _ :: _, [], h, _ => by simp at h
  | v :: vs, x :: xs, h, k => by
    obtain ⟨t, h0⟩ := k 0 x (by simp)
    simp at h0
    subst h0
    exact .cons x t (strs_of (by simpa using h) fun j y hy => by
      obtain ⟨u, hu⟩ := k (j + 1) y (by simpa using hy)
      exact ⟨u, by simpa using hu⟩)
theorem ok_lt {c : Nat} (h : okC c = true) : c < 16 ^ 8 := by
  unfold okC at h
  rw [Bool.or_eq_true, Bool.and_eq_true, decide_eq_true_eq, decide_eq_true_eq] at h
  rcases h with h | h
  · exact Nat.lt_of_le_of_lt h.2 (by decide)
  · have h0 : ∀ d ∈ b1L, d < 16 ^ 8 := by decide
    exact h0 c (of_decide_eq_true h)
theorem good_field {f : List Nat} (h : ∀ c ∈ f, okC c = true) (hl : f.length ≤ 100) : GoodX (mkS f) := by
  refine ⟨by rw [mkS_length]; omega, fun n hn => ?_, ?_⟩
  · rcases field_law h (by omega) with ⟨h1, _⟩ | ⟨k, h1, _, _, h4⟩
    · rw [hn] at h1; cases h1
    · rw [hn] at h1; cases h1; exact h4
  · refine Nat.le_trans (StrLaws.reprText_len _ fun c hc => ?_) ?_
    · rw [mkS_toList] at hc; exact ok_lt (h c hc)
    · rw [mkS_length]; exact fit (by omega)
section
variable {fs : List (List Nat)} {its : Array Value} (hs : StrsAre its.toList (fs.map mkS)) (hok : ∀ x ∈ fs, ∀ c ∈ x, okC c = true) (hf2 : ∀ x ∈ fs, x.length ≤ 100)
include hs in
theorem its_at {j : Nat} {v : Value} (h : its[j]? = some v) : ∃ f u, fs[j]? = some f ∧ f ∈ fs ∧ v = .str (mkS f) u := by
  obtain ⟨x, t, h1, h2⟩ := strs_get (j := j) hs (by simpa using h)
  rw [List.getElem?_map] at h1
  obtain ⟨f, h3, h4⟩ := Option.map_eq_some_iff.mp h1
  exact ⟨f, t, h3, List.mem_of_getElem? h3, by rw [h2, h4]⟩
include hs hok hf2 in
theorem good_its : ∀ (j : Nat) (v : Value), its[j]? = some v → ∃ x u, v = Value.str x u ∧ GoodX x := by
  intro j v h
  obtain ⟨f, u, _, hm, rfl⟩ := its_at hs h
  exact ⟨_, u, rfl, good_field (hok f hm) (hf2 f hm)⟩
include hs hok hf2 in
theorem got_ans {acc : Array Value} (hg : Mine.Got its acc its.size) : StrsAre acc.toList ((fs.map lawNum).map mkS) ∧ ljoin [46] ((fs.map lawNum).take 3) = verAns fs := by
  have hsz : its.size = fs.length := by rw [← Array.length_toList, strs_len hs]; simp
  have key : ∀ (j : Nat) (f : List Nat), fs[j]? = some f → lawNum f ≠ [] ∧ ∃ t, acc[j]? = some (Value.str (mkS (lawNum f)) t) := by
    intro j f hj
    have hlt : j < its.size := by
      rw [hsz]
      exact (List.getElem?_eq_some_iff.mp hj).1
    obtain ⟨x, u, n, t, h1, h2, h3⟩ := hg.2 j hlt
    obtain ⟨f', u', h4, hm, h5⟩ := its_at hs h1
    rw [hj] at h4
    cases h4
    cases h5
    rcases field_law (hok f hm) (by have := hf2 f hm; omega) with ⟨h6, _⟩ | ⟨k, h6, h7, h8, _⟩
    · rw [h2] at h6; cases h6
    · rw [h2] at h6; cases h6
      exact ⟨h8, t, by rw [h7]; exact h3⟩
  refine ⟨strs_of ?_ ?_, ?_⟩
  · rw [Array.length_toList, hg.1, hsz]; simp
  · intro j x hx
    rw [List.map_map, List.getElem?_map] at hx
    obtain ⟨f, h1, h2⟩ := Option.map_eq_some_iff.mp hx
    obtain ⟨_, t, h3⟩ := key j f h1
    refine ⟨t, ?_⟩
    rw [← h2]
    simpa using h3
  · unfold verAns
    rw [if_neg]
    intro h
    obtain ⟨y, hy, hy2⟩ := List.any_eq_true.mp h
    obtain ⟨f, hf, rfl⟩ := List.mem_map.mp hy
    obtain ⟨j, hj⟩ := List.getElem?_of_mem hf
    exact (key j f hj).1 (by simpa using hy2)
include hs hok hf2 in
theorem refused_ans {j : Nat} {x : Str} {u : Tok} (hj : its[j]? = some (.str x u)) (hn : PySem.intText? x = none) : ljoin [46] (fs.take 3) = verAns fs := by
  obtain ⟨f, u', h1, hm, h2⟩ := its_at hs hj
  cases h2
  rcases field_law (hok f hm) (by have := hf2 f hm; omega) with ⟨_, h6⟩ | ⟨k, h6, _⟩
  · unfold verAns
    rw [if_pos]
    refine List.any_eq_true.mpr ⟨[], List.mem_map.mpr ⟨f, hm, h6⟩, rfl⟩
  · rw [hn] at h6; cases h6
end
theorem maps_of {H0 h₁ h₂ : Heap} {it M1 T1 M2 T2 : Addr} {oi : Obj} (hi : H0.get? it = some oi) (k₁ : ∀ b o, H0.get? b = some o → h₁.get? b = some o) (m₁ : IsMap h₁ M1 T1 (.ref it) (.type "int")) (f1 : H0.get? M1 = none) (f1' : H0.get? T1 = none)
    (k₂ : ∀ b o, h₁.get? b = some o → h₂.get? b = some o) (m₂ : IsMap h₂ M2 T2 (.ref M1) (.type "str")) (f2 : h₁.get? M2 = none) (f2' : h₁.get? T2 = none) : Maps h₂ M2 T2 M1 T1 it where
  two := m₂
  one := m₁.at (fun o e => k₂ _ o e) (fun o e => k₂ _ o e)
  n1 := fun e => by rw [e, k₁ _ _ hi] at f2; cases f2
  n2 := fun e => by rw [e, k₁ _ _ hi] at f2'; cases f2'
  n3 := fun e => by rw [e, hi] at f1; cases f1
  n4 := fun e => by rw [e, hi] at f1'; cases f1'
theorem cutG {M : Model} {A : Around} {t : Sem Flow} {Q : Flow → Shared → Prop} {E : Value → Shared → Prop} {s : Shared} (s₀ : Shared) (P : Heap → Prop)
    (h : ∀ QQ : Flow → Shared → Prop, (∀ (h' : Heap) (tk' : Nat), P h' → QQ .next { s₀ with heap := h', toks := tk' }) → wpAny M A t QQ E s)
    (k : ∀ (h' : Heap) (tk' : Nat), P h' → Q .next { s₀ with heap := h', toks := tk' }) : wpAny M A t Q E s := h Q k
/-- what stands behind the try -/
def Behind (g : Heap) (L : Addr) (fs : List (List Nat)) (Lc : Addr) (oL : Obj) (keep : List (Addr × Obj)) (h' : Heap) : Prop :=
  ∃ (m' : Str → Option Value) (sa : Addr) (its' : Array Value) (n' : Nat) (gs : List (List Nat)) (sl : Array (Option Value)), m' (Str.ofString "strings") = some (.ref sa) ∧ Fr g L h' m' ∧
    News g L h' ((sa, W.listOf its' n') :: (keep ++ [(Lc, { oL with slots := sl })])) ∧ StrsAre its'.toList (gs.map mkS) ∧ gs.length ≤ 200 ∧ (∀ x ∈ gs, x.length ≤ 200) ∧ ljoin [46] (gs.take 3) = verAns fs
theorem normB (w : World) (fs : List (List Nat)) (la : Addr) (its : Array Value) (n : Nat) (keep : List (Addr × Obj)) (hf : fs.length ≤ 102) (hf2 : ∀ x ∈ fs, x.length ≤ 100) (hok : ∀ x ∈ fs, ∀ c ∈ x, okC c = true) (hs : StrsAre its.toList (fs.map mkS))
    {mean : ExcName → Option Value} {mg mb : Str → Option Value} {dp un : Nat} {gd : Option (List Code)} {cn : Str} {cs : Scope} {Lc a : Addr} {ccd : Value} {g : Heap} {L : Addr} {m : Str → Option Value} {s : Shared} {Q : Flow → Shared → Prop} {oL : Obj}
    (X : (heapK w.params).In g) (T : Top q0 (looseW q0 loose0) mean mg mb g) (Fs : TI.Frs [envOf cn cs Lc a ccd] [(Lc, oL)]) (hne : TLg.AllNe Lc ((la, W.listOf its n) :: keep)) (hdp : dp < 500) (hun : un < 100 * 50)
    (hret : ∀ (t : Tok) (h' : Heap) (tk' : Nat) (m' : Str → Option Value) (sl : Array (Option Value)), Fr g L h' m' → News g L h' (keep ++ [(Lc, { oL with slots := sl })]) → Q (.ret (.str (mkS (verAns fs)) t)) { s with heap := h', toks := tk' })
    (h1 : m (Str.ofString "l") = some (.ref la)) (F : Fr g L s.heap m) (N : News g L s.heap ((la, W.listOf its n) :: (keep ++ [(Lc, oL)]))) :
    wpAny (model P0 w) ((ktrTop dp un gd cn cs Lc a ccd [] []).deeper (envOf (Str.ofString "_norm_version") (scp 1) L 22 (.ref 21))) (execs ((bdy 1).drop 2) (envOf (Str.ofString "_norm_version") (scp 1) L 22 (.ref 21))) Q Never s := by
  conv in (List.drop _ (bdy 1)) => whnf
  have F₁ := named F h1
  clear F h1
  refine wpAny_execs_cons ?_
  refine cutG s (Behind g L fs Lc oL keep) (fun QQ hQQ => ?_) ?_
  · k_steps
    have hl : s.heap.IsList la its := News.isList N List.mem_cons_self
    refine call_map (wpAny_pyIter_list hl ?_)
    intro h₁ M1 T1 k₁ m₁ fM fT hMT
    k_steps
    refine call_map (iter_map m₁ ?_)
    intro h₂ M2 T2 k₂ m₂ fM2 fT2 hMT2
    k_steps
    have hi0 := Heap.get?_push_size s.heap (o := { cls := .type "list_iterator", data := .fields #[.ref la, .int 0 0] }) rfl
    have up : ∀ b o, s.heap.get? b = some o → h₂.get? b = some o := fun b o e => k₂ _ _ (k₁ _ _ (Heap.get?_push_of_some _ e))
    have fresh : ∀ b o, s.heap.get? b = some o → b ≠ s.heap.objs.size := fun b o e => Nat.ne_of_lt (Heap.lt_size e)
    refine call_list_maps (it := s.heap.objs.size) (l := la) (items := its) rfl ?_ (good_its hs hok hf2) (maps_of hi0 k₁ m₁ fM fT k₂ m₂ fM2 fT2) ⟨_, k₂ _ _ (k₁ _ _ hi0), rfl, rfl⟩ ?_ ?_ ?_ ?_
    · rw [← Array.length_toList, strs_len hs]; simp; exact fit (by omega)
    · obtain ⟨o, ho, r⟩ := hl
      exact ⟨o, up _ _ ho, r⟩
    · obtain ⟨o, ho, r⟩ := hl
      exact fresh _ _ ho
    · intro h' tk S acc c k fS hS hg
      have up' : ∀ b o, s.heap.get? b = some o → h'.get? b = some o := fun b o e => k b o (fresh b o e) (up b o e)
      have F₂ := F₁.keeps up'
      have N₂ : News g L h' ((S, W.listOf acc c) :: (la, W.listOf its n) :: (keep ++ [(Lc, oL)])) := by
        intro p hp
        rcases List.mem_cons.mp hp with rfl | hp
        · refine ⟨hS, fun e => ?_, ?_⟩
          · obtain ⟨o, _, _, ho, _⟩ := F₁.ns
            have := up _ _ ho
            rw [← e] at this
            rw [show h₂.get? S = none from fS] at this
            cases this
          · cases hq : g.get? S with
            | none => rfl
            | some o =>
              have := up _ _ (F₁.keep _ _ hq)
              rw [show h₂.get? S = none from fS] at this
              cases this
        · exact (N.grown up') p hp
      obtain ⟨hst, hans⟩ := got_ans hs hok hf2 hg
      clear hg hS fS k up fresh hi0 m₁ m₂ k₁ k₂ fM fT fM2 fT2 hMT hMT2 hl N F₁ up'
      k_steps
      rename_i F₃ N₃
      exact hQQ _ _ ⟨_, S, acc, c, fs.map lawNum, oL.slots, rfl, F₃, drop2 N₃, hst, by simp; omega, fun x hx => by
        obtain ⟨f, hfm, rfl⟩ := List.mem_map.mp hx
        have h1 := lawNum_len f
        have h2 := hf2 f hfm
        omega, hans⟩
    · intro h' tk e hm x u j k hx hj hn
      have upm : ∀ b o, s.heap.get? b = some o → hm.get? b = some o := fun b o e => k b o (fresh b o e) (up b o e)
      have hans := refused_ans hs hok hf2 hj hn
      refine TLg.noted_new1 (new := (la, W.listOf its n) :: keep) rfl Fs hx (F₁.keeps upm) (N.grown upm) hne ?_
      intro h₃ sl Fs' H
      refine TT.HeldNA.land H ?_
      intro h₄ H₄
      clear H
      with_unfolding_all refine TT.clause_hitTN H₄ T (k := ?_) (hv := by boot_by_name)
      intro h₅ F₅ N₅
      clear hx k up fresh hi0 m₁ m₂ k₁ k₂ fM fT fM2 fT2 hMT hMT2 hl N F₁ upm H₄
      k_steps
      rename_i F₆ N₆
      exact hQQ _ _ ⟨_, la, its, n, fs, sl, rfl, F₆, N₆, hs, by omega, fun x hx => by have := hf2 x hx; omega, hans⟩
  · rintro h' tk' ⟨m', sa, its', n', gs, sl, hm', F', N', hs', hg1, hg2, he⟩
    refine normC w gs sa its' n' _ hg1 hg2 hs' X T hdp hun ?_ hm' F' N'
    intro t h'' tk'' m'' F'' N''
    rw [he]
    exact hret t h'' tk'' m'' sl F'' N''
end Mine
end
section
open PySem PySem.W PyProof.Rows PyProof.Rows.LCg PyProof.Rows.LCt
namespace Mine
local macro_rules | `(tactic| k_steps) => `(tactic| repeat' (first
  | (with_reducible refine ite_t ?_)
  | (with_reducible refine ite_f ?_)
  | ((fail_if_success (with_reducible show wpAny _ _ (exec (Stmt.While _ _ _ _) _) _ _ _)); (fail_if_success (with_reducible show wpAny _ _ (exec (Stmt.For _ _ _ _ _) _) _ _ _)); (fail_if_success (with_reducible show wpAny _ _ (eval (Expr.ListComp _ _ _ _) _) _ _ _)); (fail_if_success (with_reducible show wpAny _ _ (call (Value.ref _) _) _ _ _)); (fail_if_success (with_reducible show ite _ _ _)); (first | (k_unfold; (try dsimp only)) | (k_end; kc_close) | walk1 | (dsimp only; walk1) | (leave1; walk_say "STEP leave1"; (try dsimp only)) | fail "no step"))))
local macro_rules | `(tactic| size_fits) => `(tactic| exact fit (by assumption))
set_option maxRecDepth 100000
set_option maxHeartbeats 8000000
theorem normA (w : World) (v b : List Nat) (keep : List (Addr × Obj)) (hv : v.length ≤ 100) (hb : b.length ≤ 100) (okv : ∀ c ∈ v, okC c = true) (okb : ∀ c ∈ b, okC c = true)
    {mean : ExcName → Option Value} {mg mb : Str → Option Value} {dp un : Nat} {gd : Option (List Code)} {cn : Str} {cs : Scope} {Lc a : Addr} {ccd : Value} {g : Heap} {L : Addr} {m : Str → Option Value} {s : Shared} {Q : Flow → Shared → Prop} {oL : Obj}
    (X : (heapK w.params).In g) (T : Top q0 (looseW q0 loose0) mean mg mb g) (Fs : TI.Frs [envOf cn cs Lc a ccd] [(Lc, oL)]) (hne : TLg.AllNe Lc keep) (hdp : dp < 500) (hun : un < 100 * 50)
    (hret : ∀ (t : Tok) (h' : Heap) (tk' : Nat) (m' : Str → Option Value) (sl : Array (Option Value)), Fr g L h' m' → News g L h' (keep ++ [(Lc, { oL with slots := sl })]) → Q (.ret (.str (mkS (normVer v b)) t)) { s with heap := h', toks := tk' })
    (h1 : ∃ t, m (Str.ofString "version") = some (.str (mkS v) t)) (h2 : ∃ t, m (Str.ofString "build") = some (.str (mkS b) t)) (F : Fr g L s.heap m) (N : News g L s.heap (keep ++ [(Lc, oL)])) :
    wpAny (model P0 w) ((ktrTop dp un gd cn cs Lc a ccd [] []).deeper (envOf (Str.ofString "_norm_version") (scp 1) L 22 (.ref 21))) (execs (bdy 1) (envOf (Str.ofString "_norm_version") (scp 1) L 22 (.ref 21))) Q Never s := by
  obtain ⟨tv, h1⟩ := h1
  obtain ⟨tb, h2⟩ := h2
  conv in (bdy 1) => whnf
  have F₁ := named2 F h1 h2
  clear F h1 h2
  have hlen : (mkS v).length ≤ 100000 := by rw [mkS_length]; omega
  have hadd : ∀ p ∈ keep ++ [(Lc, oL)], p.1 ≠ s.heap.objs.size := fun p hp => Nat.ne_of_lt (Heap.lt_size (N p hp).1)
  k_steps
  rename_i l _ _ hsp hst hle hil h₁ F₂ N₂
  rw [dot_is, split_is] at hsp
  rw [hsp] at hst
  have hb63 : ¬ ((mkS b).length : Int) ≥ 2 ^ 63 := by rw [mkS_length]; omega
  refine PySem.P.truthy_str hb63 ?_
  have hne2 : ∀ o : Obj, TLg.AllNe Lc ((s.heap.objs.size, o) :: keep) := fun o => ⟨(hadd _ (List.mem_append_right _ List.mem_cons_self)).symm, hne⟩
  have hfl := fields_len v
  have hfs := field_sub v
  have hbb : (((mkS b).length : Int) != 0) = (b != []) := by
    rw [mkS_length]
    cases b with
    | nil => rfl
    | cons c r => simp [bne]; omega
  rw [hbb]
  split
  · rename_i hbn
    have hbn : (b == []) = false := by simpa [bne] using hbn
    have e : normVer v b = verAns (fields0 v ++ [b]) := by
      unfold normVer
      rw [hbn]
      rfl
    rw [e] at hret
    refine cutQ s g L (fun m' => m' (Str.ofString "l") = some (.ref s.heap.objs.size)) ((s.heap.objs.size, W.listOf ((strValues l).toArray.push (.str (mkS b) tb)) (0 + 1)) :: (keep ++ [(Lc, oL)])) (fun QQ hQQ => ?_) ?_
    · k_steps
      refine hQQ _ _ _ ?_ (by assumption) (by assumption)
      rfl
    · intro h' tk' m' hm' F' N'
      refine normB w (fields0 v ++ [b]) s.heap.objs.size _ _ keep (by simp; omega) ?_ ?_ ?_ X T Fs (hne2 _) hdp hun hret hm' F' N'
      · intro x hx
        rcases List.mem_append.mp hx with hx | hx
        · have := (hfs x hx).1; omega
        · rw [List.mem_singleton.mp hx]; exact hb
      · intro x hx c hc
        rcases List.mem_append.mp hx with hx | hx
        · exact okv c ((hfs x hx).2 c hc)
        · rw [List.mem_singleton.mp hx] at hc; exact okb c hc
      · rw [Array.toList_push, List.map_append]
        exact hst.append' (.cons _ _ .nil)
  · rename_i hbn
    have hbn : (b == []) = true := by simpa [bne] using hbn
    have e : normVer v b = verAns (fields0 v) := by
      unfold normVer
      rw [hbn]
      rfl
    rw [e] at hret
    refine wpAny_execs_nil ?_
    refine normB w (fields0 v) s.heap.objs.size _ 0 keep (by omega) ?_ ?_ hst X T Fs (hne2 _) hdp hun hret rfl F₂ N₂
    · intro x hx
      have := (hfs x hx).1; omega
    · intro x hx c hc
      exact okv c ((hfs x hx).2 c hc)

/-- a call of _norm_version in the frame of a def that the law's caller has called -/
theorem spec_norm (w : World) (v b : List Nat) (tv tb : Tok) (hv : v.length ≤ 100) (hb : b.length ≤ 100) (okv : ∀ c ∈ v, okC c = true) (okb : ∀ c ∈ b, okC c = true)
    {mean : ExcName → Option Value} {mg mb : Str → Option Value} {news : List (Addr × Obj)} {dp un : Nat} {gd : Option (List Code)} {cn : Str} {cs : Scope} {a : Addr} {ccd : Value} {h₀ : Heap} {L : Addr} {m : Str → Option Value} {s : Shared} {Q E : Value → Shared → Prop}
    (F : Fr h₀ L s.heap m) (X : (heapK w.params).In h₀) (N : News h₀ L s.heap news) (T : Top q0 (looseW q0 loose0) mean mg mb h₀) (hk : cs.kind = .function) (hdp : dp < 500) (hun : un < 100 * 50)
    (hret : ∀ (t : Tok) (h' : Heap) (tk' : Nat), Fr h₀ L h' m → News h₀ L h' news → Q (.str (mkS (normVer v b)) t) { s with heap := h', toks := tk' }) :
    wpAny (model P0 w) (ktrTop dp un gd cn cs L a ccd [] []) (call (.ref 22) [.str (mkS v) tv, .str (mkS b) tb]) Q E s := by
  refine wpAny_call ?_
  have ho : (heapK w.params).lookup 22 = some ⟨.type "function", none, .func (fnOf (Str.ofString "_norm_version") (Str.ofString "_norm_version") (prm 1) (bdy 1) (scp 1) (.ref 15) .none .none (Value.str (Str.ofString "cpy313.platform") 187) none (.ref 21) .none), #[]⟩ := rfl
  have hcd : codeIn (heapK w.params) (.ref 21) (Str.ofString "_norm_version") = true := by kernel_rfl
  refine TLgL.code_def (binds := [(Str.ofString "version", .str (mkS v) tv), (Str.ofString "build", .str (mkS b) tb)]) (params := prm 1) (dV := .ref 15) (cn := cn) (cs := cs) (a := a) (ccd := ccd) F X N T rfl ho hcd ?_ (binds_K (T := 15) (o := { cls := Value.type "tuple", data := Data.seq #[Value.str (Str.ofString "") 189] }) (items := #[Value.str (Str.ofString "") 189]) (n := 0) (X.keeps F.keep) rfl (by kernel_rfl) rfl rfl (by kernel_rfl)) (locs (by kernel_rfl)) ?_ hk rfl rfl rfl (by decide)
  · show dp < recursionLimit
    unfold recursionLimit
    omega
  · intro oL h₁ C Fs hne F' N'
    refine wpAny_mono (normA w v b news hv hb okv okb (Q := fun fl s' => TI.LeaveI s' _) X T Fs (TLgL.allNe_of hne) hdp hun ?_ ⟨tv, rfl⟩ ⟨tb, rfl⟩ F' N') (fun f s' q => q) (fun e s' q => q.elim)
    intro t h' tk' m' sl F₂ N₂
    exact TLg.leave_back C F₂ N₂ (TLgL.allNe_of hne) fun F₃ N₃ => hret t h' tk' F₃ N₃
end Mine
end
section
open PySem PySem.W PyProof.Rows PyProof.Rows.LCg PyProof.Rows.LCt
namespace Mine
local macro_rules | `(tactic| k_steps) => `(tactic| repeat' (first
  | (with_reducible refine ite_t ?_)
  | (with_reducible refine ite_f ?_)
  | ((fail_if_success (with_reducible show wpAny _ _ (exec (Stmt.While _ _ _ _) _) _ _ _)); (fail_if_success (with_reducible show wpAny _ _ (exec (Stmt.For _ _ _ _ _) _) _ _ _)); (fail_if_success (with_reducible show wpAny _ _ (eval (Expr.ListComp _ _ _ _) _) _ _ _)); (fail_if_success (with_reducible show wpAny _ _ (call (Value.ref _) _) _ _ _)); (fail_if_success (with_reducible show ite _ _ _)); (fail_if_success (with_reducible show wpAny _ _ (pyIter _) _ _ _)); (fail_if_success (with_reducible show wpAny _ _ (execs (Stmt.Assign [Expr.Subscript _ _ _] _ _ :: _) _) _ _ _)); (first | (k_unfold; (try dsimp only)) | (k_end; kc_close) | walk1 | (dsimp only; walk1) | (leave1; walk_say "STEP leave1"; (try dsimp only)) | fail "no step"))))
local macro_rules | `(tactic| size_fits) => `(tactic| exact fit (by assumption))
set_option maxRecDepth 100000
set_option maxHeartbeats 8000000
/-- the loop's body in _law_drawn -/
def loopB : List Stmt := match (bdy 8)[2]? with
  | some (Stmt.For _ _ b _ _) => b
  | _ => []
/-- the end of a turn: pair[side] = pair[side] + piece -/
theorem tailD (w : World) (p q pc : List Nat) (t u tp ts : Tok) (n : Nat) (sd : Int) (D pa : Addr) (oD : Obj) (rest : List (Addr × Obj)) (hsd : sd = 0 ∨ sd = 1) (hp : p.length ≤ 100) (hq : q.length ≤ 100) (hpc : pc.length ≤ 3) (hne : ∀ x ∈ (D, oD) :: rest, x.1 ≠ pa)
    {mean : ExcName → Option Value} {mg mb : Str → Option Value} {dp un : Nat} {gd : Option (List Code)} {cn : Str} {cs : Scope} {Lc a : Addr} {ccd : Value} {cl : List (Str × Addr)} {outer : List Env} {base g : Heap} {L : Addr} {m : Str → Option Value} {s : Shared} {Q : Flow → Shared → Prop}
    (B : Below (ktrTop dp un gd cn cs Lc a ccd cl outer) base (envX cn cs Lc a ccd cl :: outer) g) (X : (heapK w.params).In g) (T : Top q0 (looseW q0 loose0) mean mg mb g)
    (h1 : m (Str.ofString "pair") = some (.ref pa)) (h2 : m (Str.ofString "side") = some (.int sd ts)) (h3 : m (Str.ofString "piece") = some (.str (mkS pc) tp)) (F : Fr g L s.heap m)
    (N : News g L s.heap ((D, oD) :: (pa, W.listOf #[.str (mkS p) t, .str (mkS q) u] n) :: rest))
    (hret : ∀ (h' : Heap) (tk' : Nat) (m' : Str → Option Value) (t' u' : Tok) (n' : Nat), m' (Str.ofString "pair") = some (.ref pa) → m' (Str.ofString "side") = some (.int sd ts) → Fr g L h' m' →
      News g L h' ((D, oD) :: (pa, W.listOf #[.str (mkS (if sd = 0 then p ++ pc else p)) t', .str (mkS (if sd = 0 then q else q ++ pc)) u'] n') :: rest) → Q .next { s with heap := h', toks := tk' }) :
    wpAny (model P0 w) ((ktrTop dp un gd cn cs Lc a ccd cl outer).deeper (envOf (Str.ofString "_law_drawn") (scp 8) L 61 (.ref 60))) (execs (loopB.drop 4) (envOf (Str.ofString "_law_drawn") (scp 8) L 61 (.ref 60))) Q Never s := by
  conv in (List.drop _ loopB) => whnf
  have F₁ := named3 F h1 h2 h3
  clear F h1 h2 h3
  refine wpAny_execs_cons ?_
  have hl1 : (mkS p).length + (mkS pc).length ≤ 100000 := by rw [mkS_length, mkS_length]; omega
  have hl2 : (mkS q).length + (mkS pc).length ≤ 100000 := by rw [mkS_length, mkS_length]; omega
  rcases hsd with rfl | rfl
  · k_steps
    rename_i t' k' hh
    refine ki_set (q := [.str (mkS p ++ mkS pc) t', .str (mkS q) u]) F₁ N (by decide) (by decide) rfl (.tail (hne _ List.mem_cons_self) (.head fun x hx => hne x (List.mem_cons_of_mem _ hx))) ?_
    intro h' F₂ N₂
    refine wpAny_execs_nil ?_
    refine hret _ _ _ t' u n rfl rfl F₂ ?_
    rw [if_pos rfl, if_pos rfl, ← mkS_append]
    exact N₂
  · k_steps
    rename_i t' k' hh
    refine ki_set (q := [.str (mkS p) t, .str (mkS q ++ mkS pc) t']) F₁ N (by decide) (by decide) rfl (.tail (hne _ List.mem_cons_self) (.head fun x hx => hne x (List.mem_cons_of_mem _ hx))) ?_
    intro h' F₂ N₂
    refine wpAny_execs_nil ?_
    refine hret _ _ _ t t' n rfl rfl F₂ ?_
    rw [if_neg (by decide), if_neg (by decide), ← mkS_append]
    exact N₂
end Mine
end
section
open PySem PySem.W PyProof.Rows PyProof.Rows.LCg PyProof.Rows.LCt
namespace Mine
local macro_rules | `(tactic| k_steps) => `(tactic| repeat' (first
  | (with_reducible refine ite_t ?_)
  | (with_reducible refine ite_f ?_)
  | ((fail_if_success (with_reducible show wpAny _ _ (exec (Stmt.While _ _ _ _) _) _ _ _)); (fail_if_success (with_reducible show wpAny _ _ (exec (Stmt.For _ _ _ _ _) _) _ _ _)); (fail_if_success (with_reducible show wpAny _ _ (eval (Expr.ListComp _ _ _ _) _) _ _ _)); (fail_if_success (with_reducible show wpAny _ _ (call (Value.ref _) _) _ _ _)); (fail_if_success (with_reducible show ite _ _ _)); (fail_if_success (with_reducible show wpAny _ _ (pyIter _) _ _ _)); (fail_if_success (with_reducible show wpAny _ _ (execs (Stmt.Assign [Expr.Subscript _ _ _] _ _ :: _) _) _ _ _)); (first | (k_unfold; (try dsimp only)) | (k_end; kc_close) | walk1 | (dsimp only; walk1) | (leave1; walk_say "STEP leave1"; (try dsimp only)) | fail "no step"))))
local macro_rules | `(tactic| size_fits) => `(tactic| exact fit (by assumption))
set_option maxRecDepth 100000
set_option maxHeartbeats 8000000
theorem ite_b {P Q : Prop} {b : Bool} (h1 : b = true → P) (h2 : b = false → Q) : if b = true then P else Q := by
  cases b
  · exact h2 rfl
  · exact h1 rfl
theorem ok_one {c : Nat} (h : okC c = true) : ∀ d ∈ [c], okC d = true := fun d hd => by rw [List.mem_singleton.mp hd]; exact h
theorem ok_asc {c : Nat} (h1 : 32 ≤ c) (h2 : c ≤ 126) : okC c = true := by
  unfold okC
  rw [decide_eq_true h1, decide_eq_true h2]
  rfl
theorem str_num {wh : Int} (h0 : 0 ≤ wh) (h1 : wh < 1000) : ∃ pc : List Nat, Str.ofString (toString wh) = mkS pc ∧ pc.length ≤ 3 ∧ ∀ c ∈ pc, okC c = true := by
  obtain ⟨k, rfl⟩ := Int.eq_ofNat_of_zero_le h0
  refine ⟨_, text_nat k, ?_, ?_⟩
  · have := toString_length_le h0 (k := 3) (by decide) (by omega)
    rw [text_nat, mkS_length] at this
    exact this
  · intro c hc
    obtain ⟨ch, hch, rfl⟩ := List.mem_map.mp hc
    have r := digit_range (Nat.isDigit_of_mem_toDigits (by decide) (by decide) hch)
    exact ok_asc (by omega) (by omega)
theorem sign_item {x : Int} (h : 0 ≤ x ∧ x < 2) : ∃ c : Nat, Txt.item (Str.ofString "+-") x = mkS [c] ∧ okC c = true := by
  have : x = 0 ∨ x = 1 := by omega
  rcases this with rfl | rfl
  · exact ⟨43, by decide +kernel, by decide⟩
  · exact ⟨45, by decide +kernel, by decide⟩
theorem noth_item {x : Int} (h0 : 0 ≤ x) (h1 : x < 27) : ∃ c : Nat, (intsOf nothL).getD x.toNat 0 = (c : Int) ∧ okC c = true ∧ c < 1114112 := by
  have hall : ∀ c ∈ nothL, okC c = true ∧ c < 1114112 := by decide
  have hlt : x.toNat < nothL.length := by show x.toNat < 27; omega
  have hm := hall _ (List.getElem_mem hlt)
  refine ⟨nothL[x.toNat], ?_, hm.1, hm.2⟩
  rw [intsOf_eq]
  rw [List.getD_eq_getElem?_getD, List.getElem?_map, List.getElem?_eq_getElem hlt]
  rfl
theorem turnB (w : World) (p q : List Nat) (t u ts tk0 tw tp0 : Tok) (n : Nat) (sd k wh : Int) (D pa : Addr) (oD : Obj) (rest : List (Addr × Obj)) (hsd : sd = 0 ∨ sd = 1) (hk0 : 0 ≤ k) (hk1 : k < 16) (hw0 : 0 ≤ wh) (hw1 : wh < 1000) (hp : p.length ≤ 97) (hq : q.length ≤ 97) (okp : ∀ c ∈ p, okC c = true) (okq : ∀ c ∈ q, okC c = true) (hne : ∀ x ∈ (D, oD) :: rest, x.1 ≠ pa)
    {mean : ExcName → Option Value} {mg mb : Str → Option Value} {dp un : Nat} {gd : Option (List Code)} {cn : Str} {cs : Scope} {Lc a : Addr} {ccd : Value} {cl : List (Str × Addr)} {outer : List Env} {base g : Heap} {L : Addr} {m : Str → Option Value} {s : Shared} {Q : Flow → Shared → Prop}
    (B : Below (ktrTop dp un gd cn cs Lc a ccd cl outer) base (envX cn cs Lc a ccd cl :: outer) g) (X : (heapK w.params).In g) (T : Top q0 (looseW q0 loose0) mean mg mb g) (hdp : dp < 500) (hun : un < 100 * 50)
    (h1 : m (Str.ofString "pair") = some (.ref pa)) (h2 : m (Str.ofString "side") = some (.int sd ts)) (h3 : m (Str.ofString "kind") = some (.int k tk0)) (h4 : m (Str.ofString "which") = some (.int wh tw)) (h5 : m (Str.ofString "piece") = some (.str (mkS []) tp0)) (F : Fr g L s.heap m)
    (N : News g L s.heap ((D, oD) :: (pa, W.listOf #[.str (mkS p) t, .str (mkS q) u] n) :: rest))
    (hret : ∀ (h' : Heap) (tk' : Nat) (m' : Str → Option Value) (p' q' : List Nat) (t' u' ts' : Tok) (n' : Nat) (sd' : Int), m' (Str.ofString "pair") = some (.ref pa) → m' (Str.ofString "side") = some (.int sd' ts') → (sd' = 0 ∨ sd' = 1) →
      p'.length ≤ p.length + 3 → q'.length ≤ q.length + 3 → (∀ c ∈ p', okC c = true) → (∀ c ∈ q', okC c = true) → Fr g L h' m' →
      News g L h' ((D, oD) :: (pa, W.listOf #[.str (mkS p') t', .str (mkS q') u'] n') :: rest) → Q .next { s with heap := h', toks := tk' }) :
    wpAny (model P0 w) ((ktrTop dp un gd cn cs Lc a ccd cl outer).deeper (envOf (Str.ofString "_law_drawn") (scp 8) L 61 (.ref 60))) (execs (loopB.drop 3) (envOf (Str.ofString "_law_drawn") (scp 8) L 61 (.ref 60))) Q Never s := by
  conv in (List.drop _ loopB) => whnf
  have F₁ := namedL [(Str.ofString "pair", .ref pa), (Str.ofString "side", .int sd ts), (Str.ofString "kind", .int k tk0), (Str.ofString "which", .int wh tw), (Str.ofString "piece", .str (mkS []) tp0)] F (by simp [h1, h2, h3, h4, h5])
  replace F₁ : Fr g L s.heap (fun z => if z = Str.ofString "pair" then some (.ref pa) else if z = Str.ofString "side" then some (.int sd ts) else if z = Str.ofString "kind" then some (.int k tk0) else if z = Str.ofString "which" then some (.int wh tw) else if z = Str.ofString "piece" then some (.str (mkS []) tp0) else m z) := F₁
  clear F h1 h2 h3 h4 h5
  have fin : ∀ (pc : List Nat) (sd' : Int) (ts' tp : Tok) (h' : Heap) (tk' : Nat) (m' : Str → Option Value), Fr g L h' m' → News g L h' ((D, oD) :: (pa, W.listOf #[.str (mkS p) t, .str (mkS q) u] n) :: rest) → pc.length ≤ 3 → (∀ c ∈ pc, okC c = true) → (sd' = 0 ∨ sd' = 1) →
      m' (Str.ofString "pair") = some (.ref pa) → m' (Str.ofString "side") = some (.int sd' ts') → m' (Str.ofString "piece") = some (.str (mkS pc) tp) →
      wpAny (model P0 w) ((ktrTop dp un gd cn cs Lc a ccd cl outer).deeper (envOf (Str.ofString "_law_drawn") (scp 8) L 61 (.ref 60))) (execs (loopB.drop 4) (envOf (Str.ofString "_law_drawn") (scp 8) L 61 (.ref 60))) Q Never { s with heap := h', toks := tk' } := by
    intro pc sd' ts' tp h' tk' m' F' N' hpc okpc hsd' e1 e2 e3
    refine tailD w p q pc t u tp ts' n sd' D pa oD rest hsd' (by omega) (by omega) hpc hne B X T e1 e2 e3 F' N' ?_
    intro h'' tk'' m'' t' u' n' e4 e5 F'' N''
    refine hret h'' tk'' m'' _ _ t' u' ts' n' sd' e4 e5 hsd' ?_ ?_ ?_ ?_ F'' N''
    · split
      · simp; omega
      · omega
    · split
      · omega
      · simp; omega
    · split
      · intro c hc
        rcases List.mem_append.mp hc with hc | hc
        · exact okp c hc
        · exact okpc c hc
      · exact okp
    · split
      · exact okq
      · intro c hc
        rcases List.mem_append.mp hc with hc | hc
        · exact okq c hc
        · exact okpc c hc
  k_steps
  refine ite_b (fun hb => ?_) (fun hb => ?_)
  · k_steps
    rename_i F₃ N₃
    exact fin [48] sd ts _ _ _ _ F₃ N₃ (by decide) (ok_one (by decide)) hsd rfl rfl (by rw [← zero_is]; rfl)
  k_steps
  refine ite_b (fun hb => ?_) (fun hb => ?_)
  · have hm : 0 ≤ wh.fmod 10 ∧ wh.fmod 10 < 10 := ⟨Int.fmod_nonneg_of_pos _ (by decide), Int.fmod_lt_of_pos _ (by decide)⟩
    k_steps
    rename_i F₃ N₃
    exact fin [(48 + wh.fmod 10).toNat] sd ts _ _ _ _ F₃ N₃ (by simp) (ok_one (ok_asc (by omega) (by omega))) hsd rfl rfl rfl
  k_steps
  refine ite_b (fun hb => ?_) (fun hb => ?_)
  · obtain ⟨pc, e, hpc, okpc⟩ := str_num hw0 hw1
    k_steps
    rename_i F₃ N₃
    exact fin pc sd ts _ _ _ _ F₃ N₃ hpc okpc hsd rfl rfl (by rw [← e]; rfl)
  k_steps
  refine ite_b (fun hb => ?_) (fun hb => ?_)
  · k_steps
    rename_i F₃ N₃
    exact fin [46] sd ts _ _ _ _ F₃ N₃ (by decide) (ok_one (by decide)) hsd rfl rfl (by rw [← dot_is]; rfl)
  k_steps
  refine ite_b (fun hb => ?_) (fun hb => ?_)
  · k_steps
    rename_i F₃ N₃
    exact fin [32] sd ts _ _ _ _ F₃ N₃ (by decide) (ok_one (by decide)) hsd rfl rfl (by rw [← blank_is]; rfl)
  k_steps
  refine ite_b (fun hb => ?_) (fun hb => ?_)
  · k_steps
    rename_i F₃ N₃
    exact fin [95] sd ts _ _ _ _ F₃ N₃ (by decide) (ok_one (by decide)) hsd rfl rfl (by rw [← under_is]; rfl)
  k_steps
  refine ite_b (fun hb => ?_) (fun hb => ?_)
  · have hm : 0 ≤ wh.fmod 2 ∧ wh.fmod 2 < 2 := ⟨Int.fmod_nonneg_of_pos _ (by decide), Int.fmod_lt_of_pos _ (by decide)⟩
    obtain ⟨c, e, okc⟩ := sign_item hm
    k_steps
    rename_i F₃ N₃
    exact fin [c] sd ts _ _ _ _ F₃ N₃ (by simp) (ok_one okc) hsd rfl rfl (by rw [← e]; rfl)
  k_steps
  refine ite_b (fun hb => ?_) (fun hb => ?_)
  · have hm : 0 ≤ wh.fmod 27 ∧ wh.fmod 27 < 27 := ⟨Int.fmod_nonneg_of_pos _ (by decide), Int.fmod_lt_of_pos _ (by decide)⟩
    k_steps
    refine callSX (spec_nothing w) B X trivial T rfl (by omega) (by omega) F₁ N ?_
    rintro v news' h' tk' ⟨l, its, nn, rfl, rfl, hits, hlt⟩ F₂ N₂
    obtain ⟨c, hc, okc, hc2⟩ := noth_item hm.1 hm.2
    clear hlt
    have hlen : (intsOf nothL).length = 27 := by rw [intsOf_eq]; rfl
    k_steps
    rename_i F₃ N₃
    exact fin [((intsOf nothL).getD (wh.fmod 27).toNat 0).toNat] sd ts _ _ _ _ F₃ (dropN N₃) (by simp) (ok_one (by rw [hc, Int.toNat_natCast]; exact okc)) hsd rfl rfl rfl
  k_steps
  refine ite_b (fun hb => ?_) (fun hb => ?_)
  · have hm : 0 ≤ wh.fmod 26 ∧ wh.fmod 26 < 26 := ⟨Int.fmod_nonneg_of_pos _ (by decide), Int.fmod_lt_of_pos _ (by decide)⟩
    k_steps
    rename_i F₃ N₃
    exact fin [(97 + wh.fmod 26).toNat] sd ts _ _ _ _ F₃ N₃ (by simp) (ok_one (ok_asc (by omega) (by omega))) hsd rfl rfl rfl
  k_steps
  rename_i F₃ N₃
  exact fin [] (1 - sd) _ _ _ _ _ F₃ N₃ (by decide) (fun c hc => nomatch hc) (by omega) rfl rfl rfl

theorem turnD (w : World) (p q : List Nat) (t u ts tn : Tok) (n : Nat) (sd num : Int) (D pa : Addr) (oD : Obj) (rest : List (Addr × Obj)) (hsd : sd = 0 ∨ sd = 1) (hp : p.length ≤ 97) (hq : q.length ≤ 97) (okp : ∀ c ∈ p, okC c = true) (okq : ∀ c ∈ q, okC c = true) (hne : ∀ x ∈ (D, oD) :: rest, x.1 ≠ pa)
    {mean : ExcName → Option Value} {mg mb : Str → Option Value} {dp un : Nat} {gd : Option (List Code)} {cn : Str} {cs : Scope} {Lc a : Addr} {ccd : Value} {cl : List (Str × Addr)} {outer : List Env} {base g : Heap} {L : Addr} {m : Str → Option Value} {s : Shared} {Q : Flow → Shared → Prop}
    (B : Below (ktrTop dp un gd cn cs Lc a ccd cl outer) base (envX cn cs Lc a ccd cl :: outer) g) (X : (heapK w.params).In g) (T : Top q0 (looseW q0 loose0) mean mg mb g) (hdp : dp < 500) (hun : un < 100 * 50)
    (h1 : m (Str.ofString "pair") = some (.ref pa)) (h2 : m (Str.ofString "side") = some (.int sd ts)) (h3 : m (Str.ofString "number") = some (.int num tn)) (F : Fr g L s.heap m)
    (N : News g L s.heap ((D, oD) :: (pa, W.listOf #[.str (mkS p) t, .str (mkS q) u] n) :: rest))
    (hret : ∀ (h' : Heap) (tk' : Nat) (m' : Str → Option Value) (p' q' : List Nat) (t' u' ts' : Tok) (n' : Nat) (sd' : Int), m' (Str.ofString "pair") = some (.ref pa) → m' (Str.ofString "side") = some (.int sd' ts') → (sd' = 0 ∨ sd' = 1) →
      p'.length ≤ p.length + 3 → q'.length ≤ q.length + 3 → (∀ c ∈ p', okC c = true) → (∀ c ∈ q', okC c = true) → Fr g L h' m' →
      News g L h' ((D, oD) :: (pa, W.listOf #[.str (mkS p') t', .str (mkS q') u'] n') :: rest) → Q .next { s with heap := h', toks := tk' }) :
    wpAny (model P0 w) ((ktrTop dp un gd cn cs Lc a ccd cl outer).deeper (envOf (Str.ofString "_law_drawn") (scp 8) L 61 (.ref 60))) (execs loopB (envOf (Str.ofString "_law_drawn") (scp 8) L 61 (.ref 60))) Q Never s := by
  conv in loopB => whnf
  have F₁ := named3 F h1 h2 h3
  clear F h1 h2 h3
  have hm : 0 ≤ num.fmod 16000 ∧ num.fmod 16000 < 16000 := ⟨Int.fmod_nonneg_of_pos _ (by decide), Int.fmod_lt_of_pos _ (by decide)⟩
  have hm2 : 0 ≤ (num.fmod 16000).fmod 16 ∧ (num.fmod 16000).fmod 16 < 16 := ⟨Int.fmod_nonneg_of_pos _ (by decide), Int.fmod_lt_of_pos _ (by decide)⟩
  have hm3 : 0 ≤ (num.fmod 16000).fdiv 16 ∧ (num.fmod 16000).fdiv 16 < 1000 := by
    rw [Int.fdiv_eq_ediv_of_nonneg _ (by decide)]
    omega
  refine wpAny_execs_cons ?_
  refine cutG s (fun h' => ∃ m', (∃ tk, m' (Str.ofString "kind") = some (.int ((num.fmod 16000).fmod 16) tk)) ∧ m' (Str.ofString "pair") = some (.ref pa) ∧ m' (Str.ofString "side") = some (.int sd ts) ∧ m' (Str.ofString "number") = some (.int num tn) ∧ Fr g L h' m' ∧ News g L h' ((D, oD) :: (pa, W.listOf #[.str (mkS p) t, .str (mkS q) u] n) :: rest)) (fun QQ hQQ => ?_) ?_
  · k_steps
    rename_i F₂ N₂
    exact hQQ _ _ ⟨_, ⟨_, rfl⟩, rfl, rfl, rfl, F₂, N₂⟩
  rintro h' tk' ⟨m', ⟨tk, e1⟩, e2, e3, e4, F₂, N₂⟩
  have F₃ := named4 F₂ e1 e2 e3 e4
  clear F₁ N F₂ e1 e2 e3 e4
  refine wpAny_execs_cons ?_
  refine cutG s (fun h' => ∃ m', (∃ tk, m' (Str.ofString "kind") = some (.int ((num.fmod 16000).fmod 16) tk)) ∧ m' (Str.ofString "pair") = some (.ref pa) ∧ m' (Str.ofString "side") = some (.int sd ts) ∧ (∃ tk, m' (Str.ofString "which") = some (.int ((num.fmod 16000).fdiv 16) tk)) ∧ Fr g L h' m' ∧ News g L h' ((D, oD) :: (pa, W.listOf #[.str (mkS p) t, .str (mkS q) u] n) :: rest)) (fun QQ hQQ => ?_) ?_
  · k_steps
    rename_i F₄ N₄
    exact hQQ _ _ ⟨_, ⟨_, rfl⟩, rfl, rfl, ⟨_, rfl⟩, F₄, N₄⟩
  rintro h₂ tk₂ ⟨m₂, ⟨tk, e1⟩, e2, e3, ⟨tw, e4⟩, F₄, N₄⟩
  have F₅ := named4 F₄ e1 e2 e3 e4
  clear F₃ N₂ F₄ e1 e2 e3 e4
  refine wpAny_execs_cons ?_
  refine cutG s (fun h' => ∃ m', (∃ tk, m' (Str.ofString "kind") = some (.int ((num.fmod 16000).fmod 16) tk)) ∧ m' (Str.ofString "pair") = some (.ref pa) ∧ m' (Str.ofString "side") = some (.int sd ts) ∧ (∃ tk, m' (Str.ofString "which") = some (.int ((num.fmod 16000).fdiv 16) tk)) ∧ (∃ tk, m' (Str.ofString "piece") = some (.str (mkS []) tk)) ∧ Fr g L h' m' ∧ News g L h' ((D, oD) :: (pa, W.listOf #[.str (mkS p) t, .str (mkS q) u] n) :: rest)) (fun QQ hQQ => ?_) ?_
  · k_steps
    rename_i F₆ N₆
    exact hQQ _ _ ⟨_, ⟨_, rfl⟩, rfl, rfl, ⟨_, rfl⟩, ⟨_, by rw [← empty_is]; rfl⟩, F₆, N₆⟩
  rintro h₃ tk₃ ⟨m₃, ⟨tk, e1⟩, e2, e3, ⟨tw, e4⟩, ⟨tp, e5⟩, F₆, N₆⟩
  exact turnB w p q t u ts tk tw tp n sd _ _ D pa oD rest hsd hm2.1 hm2.2 hm3.1 hm3.2 hp hq okp okq hne B X T hdp hun e2 e3 e1 e4 e5 F₆ N₆ hret
end Mine
end
section
open PySem PySem.W PyProof.Rows PyProof.Rows.LCg PyProof.Rows.LCt
namespace Mine
local macro_rules | `(tactic| k_steps) => `(tactic| repeat' (first
  | (with_reducible refine ite_t ?_)
  | (with_reducible refine ite_f ?_)
  | ((fail_if_success (with_reducible show wpAny _ _ (exec (Stmt.While _ _ _ _) _) _ _ _)); (fail_if_success (with_reducible show wpAny _ _ (exec (Stmt.For _ _ _ _ _) _) _ _ _)); (fail_if_success (with_reducible show wpAny _ _ (eval (Expr.ListComp _ _ _ _) _) _ _ _)); (fail_if_success (with_reducible show wpAny _ _ (call (Value.ref _) _) _ _ _)); (fail_if_success (with_reducible show ite _ _ _)); (fail_if_success (with_reducible show wpAny _ _ (pyIter _) _ _ _)); (fail_if_success (with_reducible show wpAny _ _ (execs (Stmt.Assign [Expr.Subscript _ _ _] _ _ :: _) _) _ _ _)); (first | (k_unfold; (try dsimp only)) | (k_end; kc_close) | walk1 | (dsimp only; walk1) | (leave1; walk_say "STEP leave1"; (try dsimp only)) | fail "no step"))))
local macro_rules | `(tactic| size_fits) => `(tactic| exact fit (by assumption))
set_option maxRecDepth 100000
set_option maxHeartbeats 8000000
/-- the pair drawn: a new list of two texts of allowed signs -/
abbrev NewPair : Rets := fun news v news' => ∃ (pa : Addr) (p q : List Nat) (t u : Tok) (n : Nat), v = .ref pa ∧ news' = (pa, W.listOf #[.str (mkS p) t, .str (mkS q) u] n) :: news ∧ p.length ≤ 100 ∧ q.length ≤ 100 ∧ (∀ c ∈ p, okC c = true) ∧ (∀ c ∈ q, okC c = true) ∧ ∀ p ∈ news, p.1 < pa
theorem drawnA (w : World) (sc : Addr) (its : Array Value) (ns : List Int) (hi : IntsAre its.toList ns) (hns : ns.length ≤ 63) :
    PartX w 50 (Str.ofString "_law_drawn") (scp 8) 61 (.ref 60) (bdy 8) (fun h => h.IsList sc its) (fun m => m (Str.ofString "script") = some (.ref sc)) NewPair := by
  rintro mean mg mb news dp un gd cn cs Lc a ccd cl outer base g L m s Q B X hsc T hdp hun hret h1 F N
  conv in (bdy 8) => whnf
  have F₁ := named F h1
  clear F h1
  have hsz : its.size ≤ 100000 := by rw [← Array.length_toList, hi.length]; omega
  k_steps
  rename_i pa _ hlt _ _ F₂ N₂
  refine For_invVF F₂ rfl rfl ?_ (hE := PassesOwn.never)
  k_steps
  rename_i D ws h₃ F₃ N₃ hI hC hL hlt2
  have hlen16 : (List.take 16 ns).length ≤ 16 := by rw [hC]; omega
  refine iter_invNL (l := D) (vs := ws) (ns := List.take 16 ns) (nn := 0) (fun i m₁ news₁ => ∃ p q t u n sd ts, news₁ = (D, W.listOf ws.toArray 0) :: (pa, W.listOf #[.str (mkS p) t, .str (mkS q) u] n) :: news ∧ m₁ (Str.ofString "pair") = some (.ref pa) ∧ m₁ (Str.ofString "side") = some (.int sd ts) ∧ (sd = 0 ∨ sd = 1) ∧
    p.length ≤ 3 * i ∧ q.length ≤ 3 * i ∧ (∀ c ∈ p, okC c = true) ∧ (∀ c ∈ q, okC c = true)) rfl List.mem_cons_self hI F₃ N₃ ?_ ?_ ?_
  · exact ⟨[], [], _, _, _, 0, _, by rw [← empty_is], rfl, rfl, .inl rfl, Nat.le_refl _, Nat.le_refl _, (fun c hc => nomatch hc), (fun c hc => nomatch hc)⟩
  · rintro i num tn m₁ news₁ h tk own hn - hoff - ⟨p, q, t, u, n, sd, ts, rfl, e1, e2, hsd, hp, hq, okp, okq⟩ F₄ N₄
    have hi16 : i < 16 := by
      have := (List.getElem?_eq_some_iff.mp hn).1
      omega
    clear F₃ N₃
    refine turnD (m := fun y => if y = Str.ofString "number" then some (Value.int num tn) else m₁ y) w p q t u ts tn n sd num D pa (W.listOf ws.toArray 0) (news ++ own) hsd (by omega) (by omega) okp okq ?_ B X T hdp hun e1 e2 rfl F₄ N₄ ?_
    · intro x hx
      rcases List.mem_cons.mp hx with rfl | hx
      · exact Nat.ne_of_gt hlt2.1
      · rcases List.mem_append.mp hx with hx | hx
        · exact Nat.ne_of_lt (hlt x hx)
        · exact hoff x hx pa (by simp)
    · intro h' tk' m' p' q' t' u' ts' n' sd' e1' e2' hsd' hp' hq' okp' okq' F₅ N₅
      refine ⟨h', tk', m', _, (D, W.listOf ws.toArray 0) :: (pa, W.listOf #[.str (mkS p') t', .str (mkS q') u'] n') :: news, rfl, F₅, N₅, ?_, ?_, rfl, List.mem_cons_self, p', q', t', u', n', sd', ts', rfl, e1', e2', hsd', by omega, by omega, okp', okq'⟩
      · intro x hx
        rcases List.mem_cons.mp hx with rfl | hx
        · exact List.mem_cons_self
        · rcases List.mem_cons.mp hx with rfl | hx
          · exact List.mem_cons_of_mem _ List.mem_cons_self
          · exact List.mem_cons_of_mem _ (List.mem_cons_of_mem _ (List.mem_append_left _ hx))
      · intro x hx
        exact List.mem_cons_of_mem _ (List.mem_cons_of_mem _ (List.mem_append_right _ hx))
  · rintro m₁ news₁ h tk - ⟨p, q, t, u, n, sd, ts, rfl, e1, e2, hsd, hp, hq, okp, okq⟩ F₄ N₄
    have F₅ := named F₄ e1
    clear F₃ N₃ F₄ e1
    k_steps
    exact hret _ _ _ _ _ ⟨pa, p, q, t, u, n, rfl, rfl, by omega, by omega, okp, okq, hlt⟩ F₅ (dropN N₄)
/-- a call of _law_drawn -/
theorem spec_drawn (w : World) (sc : Addr) (its : Array Value) (ns : List Int) (hi : IntsAre its.toList ns) (hns : ns.length ≤ 63) : SpecX w 50 61 [.ref sc] (fun h => h.IsList sc its) NewPair := by
  have h1 : (heapK w.params).lookup 61 = some ⟨.type "function", none, .func (fnOf (Str.ofString "_law_drawn") (Str.ofString "_law_drawn") (prm 8) (bdy 8) (scp 8) .none .none .none (Value.str (Str.ofString "law_mj0032_01") 276) none (.ref 60) .none), #[]⟩ := rfl
  have h2 : codeIn (heapK w.params) (.ref 60) (Str.ofString "_law_drawn") = true := by kernel_rfl
  have h3 : ∀ s : Shared, (heapK w.params).In s.heap → BindsTo s (fnOf (Str.ofString "_law_drawn") (Str.ofString "_law_drawn") (prm 8) (bdy 8) (scp 8) .none .none .none (Value.str (Str.ofString "law_mj0032_01") 276) none (.ref 60) .none) ⟨[.ref sc], []⟩ [(Str.ofString "script", .ref sc)] := fun s _ => BindsTo.of_eq (by kernel_rfl)
  refine enterX (Pm := fun m => m (Str.ofString "script") = some (.ref sc)) (Ret := NewPair) [(Str.ofString "script", .ref sc)] h1 h2 h3 (locs (by kernel_rfl)) rfl rfl rfl (by decide) (by decide) (fun h h' hl k => hl.at fun o e => k _ _ e) rfl ?_
  with_reducible exact drawnA w sc its ns hi hns
end Mine
end
section
open PySem PySem.W PyProof.Rows PyProof.Rows.LCg PyProof.Rows.LCt
namespace Mine
local macro_rules | `(tactic| k_steps) => `(tactic| repeat' (first
  | (with_reducible refine ite_t ?_)
  | (with_reducible refine ite_f ?_)
  | ((fail_if_success (with_reducible show wpAny _ _ (exec (Stmt.While _ _ _ _) _) _ _ _)); (fail_if_success (with_reducible show wpAny _ _ (exec (Stmt.For _ _ _ _ _) _) _ _ _)); (fail_if_success (with_reducible show wpAny _ _ (eval (Expr.ListComp _ _ _ _) _) _ _ _)); (fail_if_success (with_reducible show wpAny _ _ (call (Value.ref _) _) _ _ _)); (fail_if_success (with_reducible show ite _ _ _)); (first | (k_unfold; (try dsimp only)) | (k_end; kc_close) | walk1 | (dsimp only; walk1) | (leave1; walk_say "STEP leave1"; (try dsimp only)) | fail "no step"))))
local macro_rules | `(tactic| size_fits) => `(tactic| exact fit (by assumption))
set_option maxRecDepth 100000
set_option maxHeartbeats 8000000
/-! calls in the law's own frame -/
abbrev AL (L fa : Addr) (cd : Value) : Around := callerA.deeper (envOf (Str.ofString "law") (scp 13) L fa cd)
abbrev AK (L fa : Addr) (cd : Value) : Around := ktrTop 302 7 (some []) (Str.ofString "law") (scp 13) L fa cd [] []
theorem AL_is (L fa : Addr) (cd : Value) : AL L fa cd = AK L fa cd := rfl
section
variable {w : World} {D : Nat} {f : Addr} {vs : List Value} {mean : ExcName → Option Value} {mg mb : Str → Option Value} {news : List (Addr × Obj)} {fa : Addr} {cd : Value} {g : Heap} {L : Addr} {m : Str → Option Value} {s : Shared} {Q E : Value → Shared → Prop}
theorem callL {pre : Prop} {R : Tok → Value} (S : Spec w D f pre vs R) (B : Below callerA g [] g) (X : (heapK w.params).In g) (T : Top q0 (looseW q0 loose0) mean mg mb g) (hp : pre) (hD : 302 < 10 * D) (F : Fr g L s.heap m) (N : News g L s.heap news)
    (ret : ∀ (t : Tok) (h' : Heap) (tk' : Nat), Fr g L h' m → News g L h' news → Q (R t) { s with heap := h', toks := tk' }) :
    wpAny (model P0 w) (AL L fa cd) (call (.ref f) vs) Q E s :=
  S mean mg mb news 302 7 (some []) (Str.ofString "law") (scp 13) fa cd [] [] callerA g g L m s Q E B F X N T rfl hp hD (by omega) ret
theorem callLX {Pb : Heap → Prop} {Ret : Rets} (S : SpecX w D f vs Pb Ret) (B : Below callerA g [] g) (X : (heapK w.params).In g) (hpb : Pb g) (T : Top q0 (looseW q0 loose0) mean mg mb g) (hD : 302 < 10 * D) (F : Fr g L s.heap m) (N : News g L s.heap news)
    (ret : ∀ (v : Value) (news' : List (Addr × Obj)) (h' : Heap) (tk' : Nat), Ret news v news' → Fr g L h' m → News g L h' news' → Q v { s with heap := h', toks := tk' }) :
    wpAny (model P0 w) (AL L fa cd) (call (.ref f) vs) Q E s :=
  S mean mg mb news 302 7 (some []) (Str.ofString "law") (scp 13) fa cd [] [] callerA g g L m s Q E B F X hpb N T rfl hD (by omega) ret
theorem callN (v b : List Nat) (tv tb : Tok) (hv : v.length ≤ 100) (hb : b.length ≤ 100) (okv : ∀ c ∈ v, okC c = true) (okb : ∀ c ∈ b, okC c = true) (X : (heapK w.params).In g) (T : Top q0 (looseW q0 loose0) mean mg mb g) (F : Fr g L s.heap m) (N : News g L s.heap news)
    (ret : ∀ (t : Tok) (h' : Heap) (tk' : Nat), Fr g L h' m → News g L h' news → Q (.str (mkS (normVer v b)) t) { s with heap := h', toks := tk' }) :
    wpAny (model P0 w) (AL L fa cd) (call (.ref 22) [.str (mkS v) tv, .str (mkS b) tb]) Q E s :=
  spec_norm w v b tv tb hv hb okv okb (dp := 302) (un := 7) (gd := some []) (cn := Str.ofString "law") (cs := scp 13) (a := fa) (ccd := cd) F X N T rfl (by decide) (by decide) ret
theorem callVL (v b ks : List Nat) (tv tb : Tok) (lo : Addr) (its : Array Value) (n : Nat) (hv : v.length ≤ 100) (hb : b.length ≤ 100) (hi : IntsAre its.toList (intsOf ks)) (B : Below callerA g [] g) (X : (heapK w.params).In g) (T : Top q0 (looseW q0 loose0) mean mg mb g) (hm : (lo, W.listOf its n) ∈ news) (F : Fr g L s.heap m) (N : News g L s.heap news)
    (ret : ∀ (t : Tok) (h' : Heap) (tk' : Nat), Fr g L h' m → News g L h' news → Q (.str (mkS (lawVer v b ks)) t) { s with heap := h', toks := tk' }) :
    wpAny (model P0 w) (AL L fa cd) (call (.ref 73) [.str (mkS v) tv, .str (mkS b) tb, .ref lo]) Q E s :=
  spec_version w v b ks tv tb lo its n hv hb hi (dp := 302) (un := 7) (gd := some []) (cn := Str.ofString "law") (cs := scp 13) (a := fa) (ccd := cd) (cl := []) (outer := []) B F X N T rfl (by decide) (by decide) hm ret
end
end Mine
end
section
open PySem PySem.W PyProof.Rows PyProof.Rows.LCg PyProof.Rows.LCt
namespace Mine
local macro_rules | `(tactic| k_steps) => `(tactic| repeat' (first
  | (with_reducible refine ite_t ?_)
  | (with_reducible refine ite_f ?_)
  | ((fail_if_success (with_reducible show wpAny _ _ (exec (Stmt.While _ _ _ _) _) _ _ _)); (fail_if_success (with_reducible show wpAny _ _ (exec (Stmt.For _ _ _ _ _) _) _ _ _)); (fail_if_success (with_reducible show wpAny _ _ (eval (Expr.ListComp _ _ _ _) _) _ _ _)); (fail_if_success (with_reducible show wpAny _ _ (call (Value.ref _) _) _ _ _)); (fail_if_success (with_reducible show ite _ _ _)); (first | (k_unfold; (try dsimp only)) | (k_end; kc_close) | walk1 | (dsimp only; walk1) | (leave1; walk_say "STEP leave1"; (try dsimp only)) | fail "no step"))))
local macro_rules | `(tactic| size_fits) => `(tactic| exact fit (by assumption))
set_option maxRecDepth 100000
set_option maxHeartbeats 8000000
section
variable {prog : Program} {w : World} {A : Around} {E : Value → Shared → Prop} {s : Shared}
theorem eqAt_same (x : Str) (t u : Tok) : SeqAt.EqAt A s (.str x t) (.str x u) true := by
  have h := (SeqRoads2.EqGives.str x x t u).at A s
  rw [beq_self_eq_true] at h
  exact h
theorem eq_three {l b : Addr} {x y z : Str} {t1 t2 t3 u1 u2 u3 : Tok} {Q : Value → Shared → Prop} (hl : s.heap.IsList l #[.str x t1, .str y t2, .str z t3]) (hb : s.heap.IsList b #[.str x u1, .str y u2, .str z u3]) (hu : A.units < cLine) (h : Q (.bool true) s) :
    wpAny (model prog w) A (compareOp .Eq (.ref l) (.ref b)) Q E s := by
  refine SeqAt.eq_listAt (e := fun _ => true) hl hb rfl hu (fun j h1 h2 => ?_) h
  match j, h1, h2 with
  | 0, _, _ => exact eqAt_same x t1 u1
  | 1, _, _ => exact eqAt_same y t2 u2
  | 2, _, _ => exact eqAt_same z t3 u3
end
theorem lawA (w : World) (sc : Addr) (its : Array Value) (ns : List Int) (hi : IntsAre its.toList ns) (hns : ns.length ≤ 63)
    {mean : ExcName → Option Value} {mg mb : Str → Option Value} {fa : Addr} {cd : Value} {g : Heap} {L : Addr} {m : Str → Option Value} {s : Shared} {Q : Flow → Shared → Prop} {E : Value → Shared → Prop}
    (B : Below callerA g [] g) (X : (heapK w.params).In g) (T : Top q0 (looseW q0 loose0) mean mg mb g) (hsc : g.IsList sc its)
    (hret : ∀ (h' : Heap) (tk' : Nat) (m' : Str → Option Value), Fr g L h' m' → Q (.ret (.bool true)) { s with heap := h', toks := tk' })
    (h1 : m (Str.ofString "script") = some (.ref sc)) (F : Fr g L s.heap m) (N : News g L s.heap []) :
    wpAny (model P0 w) (callerA.deeper (envOf (Str.ofString "law") (scp 13) L fa cd)) (execs (bdy 13) (envOf (Str.ofString "law") (scp 13) L fa cd)) Q E s := by
  conv in (bdy 13) => whnf
  have F₁ := named F h1
  clear F h1
  k_steps
  refine callLX (spec_drawn w sc its ns hi hns) B X hsc T (by decide) F₁ N ?_
  rintro v news' h' tk' ⟨pa, p, q, t, u, n, rfl, rfl, hp, hq, okp, okq, hlt⟩ F₂ N₂
  clear F₁ N hlt
  k_steps
  rename_i F₃ N₃
  refine callLX (spec_nothing w) B X trivial T (by decide) F₃ N₃ ?_
  rintro v news' h₂ tk₂ ⟨no, nits, nn, rfl, rfl, hno, hlt⟩ F₄ N₄
  clear F₃ N₃
  k_steps
  rename_i F₅ N₅
  refine callL (spec_visible w p t) B X T (by omega) (by decide) F₅ N₅ ?_
  intro t₁ h₃ tk₃ F₆ N₆
  clear F₅ N₅
  k_steps
  refine callL (spec_visible w q u) B X T (by omega) (by decide) F₆ N₆ ?_
  intro t₂ h₄ tk₄ F₇ N₇
  clear F₆ N₆
  k_steps
  rename_i F₈ N₈
  have hp1 : (p.filter fun c => !isB1 c).length ≤ 100 := Nat.le_trans (List.length_filter_le _ _) hp
  have hq1 : (q.filter fun c => !isB1 c).length ≤ 100 := Nat.le_trans (List.length_filter_le _ _) hq
  have okp1 : ∀ c ∈ (p.filter fun c => !isB1 c), okC c = true := fun c hc => okp c (List.mem_filter.mp hc).1
  have okq1 : ∀ c ∈ (q.filter fun c => !isB1 c), okC c = true := fun c hc => okq c (List.mem_filter.mp hc).1
  have hp2 : ((p.filter fun c => !isB1 c).filter fun c => !(c == 32)).length ≤ 100 := Nat.le_trans (List.length_filter_le _ _) hp1
  have hq2 : ((q.filter fun c => !isB1 c).filter fun c => !(c == 32)).length ≤ 100 := Nat.le_trans (List.length_filter_le _ _) hq1
  have okp2 : ∀ c ∈ ((p.filter fun c => !isB1 c).filter fun c => !(c == 32)), okC c = true := fun c hc => okp1 c (List.mem_filter.mp hc).1
  have okq2 : ∀ c ∈ ((q.filter fun c => !isB1 c).filter fun c => !(c == 32)), okC c = true := fun c hc => okq1 c (List.mem_filter.mp hc).1
  refine callL (spec_unspaced w _ t₁) B X T (by omega) (by decide) F₈ N₈ ?_
  intro t₃ h₅ tk₅ F₉ N₉
  clear F₈ N₈
  k_steps
  refine callL (spec_unspaced w _ t₂) B X T (by omega) (by decide) F₉ N₉ ?_
  intro t₄ h₆ tk₆ Fa Na
  clear F₉ N₉
  k_steps
  rename_i Fb Nb
  refine callN p q t u hp hq okp okq X T Fb Nb ?_
  intro t₅ h₇ tk₇ Fc Nc
  clear Fb Nb
  k_steps
  refine callN _ _ t₁ t₂ hp1 hq1 okp1 okq1 X T Fc Nc ?_
  intro t₆ h₈ tk₈ Fd Nd
  clear Fc Nc
  k_steps
  refine callN _ _ t₃ t₄ hp2 hq2 okp2 okq2 X T Fd Nd ?_
  intro t₇ h₉ tk₉ Fe Ne
  clear Fd Nd
  k_steps
  rename_i Ff Nf lf
  refine callVL p q [] t u _ #[] 0 hp hq (by rw [intsOf_eq]; exact .nil) B X T List.mem_cons_self Ff Nf ?_
  intro t₈ ha tka Fg Ng
  clear Ff Nf
  k_steps
  refine callVL p q nothL t u no nits nn hp hq hno B X T (by simp) Fg Ng ?_
  intro t₉ hb tkb Fh Nh
  clear Fg Ng
  k_steps
  rename_i Fi Ni li
  refine add_arrays_ints Fi Ni (l := no) (its := nits) (News.isList Ni (List.mem_cons_of_mem _ (List.mem_cons_of_mem _ (List.mem_cons_of_mem _ (List.mem_cons_of_mem _ (List.mem_cons_of_mem _ List.mem_cons_self)))))) (News.isList Ni (List.mem_cons_self)) (ns := intsOf nothL) (ms := [32]) hno (.cons _ _ .nil) ?_ ?_
  · intro hc Fj Nj hij
    clear Fi Ni
    have e32 : intsOf nothL ++ [32] = intsOf (nothL ++ [32]) := by
      rw [intsOf_eq, intsOf_eq, List.map_append]
      rfl
    rw [e32] at hij
    clear e32
    k_steps
    refine callVL p q (nothL ++ [32]) t u _ _ 0 hp hq hij B X T List.mem_cons_self Fj Nj ?_
    intro tA hd tkd Fk Nk
    clear Fj Nj
    rw [law_1 p q, law_2 p q, law_3 p q]
    k_steps
    rename_i Fl Nl
    refine eq_three (News.isList Nl (List.mem_cons_of_mem _ (List.mem_cons_of_mem _ (List.mem_cons_of_mem _ (List.mem_cons_of_mem _ List.mem_cons_self))))) (News.isList Nl List.mem_cons_self) (show 7 < cLine by decide) ?_
    exact hret _ _ _ Fl
  · exact fit (by rw [intsOf_eq]; decide)
end Mine
end
section
open PySem PySem.W PyProof.Rows
namespace Mine
theorem twRun : @topRun = @PySem.W.Fast.tw14082659384304107361 := PySem.W.Fast.te14082659384304107361
theorem twTree : @treeTable = @PySem.W.Fast.tw14364793385576792824 := PySem.W.Fast.te14364793385576792824
theorem twSeen : @openSeen = @PySem.W.Fast.tw4187177175401517315 := PySem.W.Fast.te4187177175401517315
/-- the top's run and the looks behind it, over the quick twins -/
noncomputable def topQ (w : World) (s : Shared) : Option Shared :=
  match s.heap.isNs mainGlobals && s.gens.size == 0 with
  | true => (PySem.W.Fast.tw14082659384304107361 PySem.W.Fast.tw14364793385576792824 P0 w s.heap.objs.size (s.heap.nsMap mainGlobals "__annotations__") 1500 s (topStub P0)).bind fun s₁ => match staticsOk (importedModules P0.main.body) s.heap s₁.heap && namesBound P0 s₁.heap && gensDone s₁ && laidKept s.heap s₁.heap with
      | true => some s₁
      | false => none
  | false => none
theorem topQ_eq (w : World) (s : Shared) : topFrom treeTable P0 w 1500 s = topQ w s := by
  unfold topFrom topQ
  rw [twRun, twTree]
  rfl
noncomputable def seenQ (w : World) (os : OsState) := (topQ w ⟨boot_heap w.params, .mk [], boot_drawn, boot_toks, os⟩).map (fun s => (PySem.W.Fast.tw4187177175401517315 q0 loose0 (importedModules P0.main.body) Xt0 true s, HK.obs s))
set_option maxRecDepth 100000 in
theorem seen_ff : ∀ (w : World) (os : OsState), seenQ ((w.withFollow "special-get-raises" false).withFollow "set-order" false) os = some (openGood q0 loose0, HK.val ((w.withFollow "special-get-raises" false).withFollow "set-order" false)) := fun w os => by kernel_rfl
set_option maxRecDepth 100000 in
theorem seen_ft : ∀ (w : World) (os : OsState), seenQ ((w.withFollow "special-get-raises" false).withFollow "set-order" true) os = some (openGood q0 loose0, HK.val ((w.withFollow "special-get-raises" false).withFollow "set-order" true)) := fun w os => by kernel_rfl
set_option maxRecDepth 100000 in
theorem seen_tf : ∀ (w : World) (os : OsState), seenQ ((w.withFollow "special-get-raises" true).withFollow "set-order" false) os = some (openGood q0 loose0, HK.val ((w.withFollow "special-get-raises" true).withFollow "set-order" false)) := fun w os => by kernel_rfl
set_option maxRecDepth 100000 in
theorem seen_tt : ∀ (w : World) (os : OsState), seenQ ((w.withFollow "special-get-raises" true).withFollow "set-order" true) os = some (openGood q0 loose0, HK.val ((w.withFollow "special-get-raises" true).withFollow "set-order" true)) := fun w os => by kernel_rfl
theorem seen_all (w : World) : ∀ os : OsState, seenQ w os = some (openGood q0 loose0, HK.val w) :=
  byRow2 "set-order" (P := fun w => ∀ os : OsState, seenQ w os = some (openGood q0 loose0, HK.val w))
    (byRow2 "special-get-raises" (P := fun w => ∀ os : OsState, seenQ (w.withFollow "set-order" false) os = some (openGood q0 loose0, HK.val (w.withFollow "set-order" false))) seen_ff seen_tf)
    (byRow2 "special-get-raises" (P := fun w => ∀ os : OsState, seenQ (w.withFollow "set-order" true) os = some (openGood q0 loose0, HK.val (w.withFollow "set-order" true))) seen_ft seen_tt) w
set_option maxRecDepth 100000 in
theorem opening0 : opening P0 = plainProg P0.main.scope.names := by kernel_rfl
set_option maxRecDepth 100000 in
theorem fence0 : ∀ s, fenceModules? P0 s = some s := fun s => by kernel_rfl
theorem left0 : LeftO P0 q0 loose0 Xt0 HK.obs HK.val 1500 := fun w => by
  obtain ⟨⟨h, g, d, k, os⟩, hs, hv⟩ := Option.map_eq_some_iff.mp (boot_open (p := P0) (N := 1500) opening0 rfl fence0 w)
  obtain ⟨rfl, rfl, rfl, rfl⟩ : h = boot_heap w.params ∧ g = Array.mk [] ∧ d = boot_drawn ∧ k = boot_toks := by simpa using hv
  unfold openEnds
  rw [hs]
  show (topFrom treeTable P0 w 1500 _).map _ = _
  rw [topQ_eq, twSeen]
  exact seen_all w os
set_option maxRecDepth 100000 in
set_option maxHeartbeats 8000000 in
theorem hd {d : DefRec} {kwd : List (Str × Expr)} (hdef : defOf q0 PySem.Challenge.rw_mj0032_01.name = some (d, kwd)) (hp : P0.theDef PySem.Challenge.rw_mj0032_01.name = some (d.params, d.body, d.scope)) (hk : kwWritten? d.params.kwonlyargs d.params.kw_defaults = some kwd)
    (walk : WalkO q0 loose0 (XL q0 []) HK.says PySem.Challenge.rw_mj0032_01.row.toRowW d kwd fun f vs => PySem.call f vs) : PySem.Challenge.rw_mj0032_01.Holds := by
  w_on
  o_law
  refine holds_open (q := q0) (loose := loose0) (Xt := Xt0) (XP := XL q0 []) (Yf := HK.obs) (Ya := HK.val) (YP := HK.says) (N := 1500) left0 HK.of HK.keeps (fun s e => xl_of s (Bool.and_eq_true_iff.mp e).1) XL.keeps hdef hp hk (fun s e => recFacts_of (Bool.and_eq_true_iff.mp e).2) (by rfl) (by assumption) (by decide +kernel) ⟨rfl, rfl, rfl, rfl, rfl, by decide +kernel⟩ ?hw walk
  w_witness2
end Mine
end
open PySem PySem.W PyProof.Rows PyProof.Rows.LCg PyProof.Rows.LCt
set_option maxRecDepth 100000 in
set_option maxHeartbeats 8000000 in
theorem PySem.Challenge.cw_mj0032_01_holds : PySem.Challenge.rw_mj0032_01.Holds := by
  refine Mine.hd rfl rfl rfl ?_
  show WalkO Mine.q0 Mine.loose0 (XL Mine.q0 []) (kHook Mine.heapK Mine.heapAs Mine.heapK_as).says _ _ _ _
  k_go0
  rename_i ns hs hlay0 hL0 hr0 hl2 _ _ sc vs _ hL ra w1 r0 hI hr hcond1 hcond K0 hD h₁ F N0
  refine Mine.lawA _ sc vs.toArray ns hI (by omega) K0 (by assumption) (by assumption) hL ?_ rfl F N0
  intro h' tk' m' F'
  clear F N0
  dsimp only
  k_end; kc_close
