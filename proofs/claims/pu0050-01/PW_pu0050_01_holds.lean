import PyProof.Rows.All
import Wide.All
import OpenK.AllK
import Wide.FinOn
import Lean
import PySem.Challenge.RW_pu0050_01
open PySem PySem.W PyProof.Rows
open PySem.Spec PySem.Calls
set_option Elab.async false
set_option linter.unusedVariables false
set_option compiler.extract_closed false
namespace Mine
section
/-- what a def's statement brings: its parameters, its body, its names -/
noncomputable def defsOf : List Stmt → List (Arguments × List Stmt × Scope)
  | [] => []
  | .FunctionDef _ ps b _ _ _ sc _ _ _ :: r => (ps, b, sc) :: defsOf r
  | _ :: r => defsOf r
set_option maxRecDepth 100000 in
/-- the objects that the text's top makes, written out; the defs' bodies are read out of the row -/
noncomputable def hd.heap_39 : Params → Frag := fun P =>
  (fun (p0 : Arguments) (b0 : List Stmt) (s0 : Scope) (p1 : Arguments) (b1 : List Stmt) (s1 : Scope) (p2 : Arguments) (b2 : List Stmt) (s2 : Scope) (p3 : Arguments) (b3 : List Stmt) (s3 : Scope) (p4 : Arguments) (b4 : List Stmt) (s4 : Scope) (p5 : Arguments) (b5 : List Stmt) (s5 : Scope) (p6 : Arguments) (b6 : List Stmt) (s6 : Scope) (p7 : Arguments) (b7 : List Stmt) (s7 : Scope) (p8 : Arguments) (b8 : List Stmt) (s8 : Scope) (p9 : Arguments) (b9 : List Stmt) (s9 : Scope) (p10 : Arguments) (b10 : List Stmt) (s10 : Scope) (p11 : Arguments) (b11 : List Stmt) (s11 : Scope) (p12 : Arguments) (b12 : List Stmt) (s12 : Scope) (_ : [(p0, b0, s0), (p1, b1, s1), (p2, b2, s2), (p3, b3, s3), (p4, b4, s4), (p5, b5, s5), (p6, b6, s6), (p7, b7, s7), (p8, b8, s8), (p9, b9, s9), (p10, b10, s10), (p11, b11, s11), (p12, b12, s12)] = defsOf PySem.Challenge.rw_pu0050_01.row.prog.main.body) =>
    (((nat_lit 2, { cls := .none, data := .dict (List.toArray ([])) }) ::
    (nat_lit 3, { cls := .type "dict", data := .dict (List.toArray ({ hash := PyData.keyHash P (Str.ofString "__name__"), key := .str (Str.ofString "__name__") 165, val := .str (Str.ofString "law_pu0050_01") 325 } :: { hash := PyData.keyHash P (Str.ofString "__doc__"), key := .str (Str.ofString "__doc__") 166, val := .none } :: { hash := PyData.keyHash P (Str.ofString "__package__"), key := .str (Str.ofString "__package__") 167, val := .none } :: { hash := PyData.keyHash P (Str.ofString "__loader__"), key := .str (Str.ofString "__loader__") 168, val := .builtin "__main__.__loader__#opaque" } :: { hash := PyData.keyHash P (Str.ofString "__spec__"), key := .str (Str.ofString "__spec__") 169, val := .none } :: { hash := PyData.keyHash P (Str.ofString "__annotations__"), key := .str (Str.ofString "__annotations__") 170, val := .ref 6 } :: { hash := PyData.keyHash P (Str.ofString "__builtins__"), key := .str (Str.ofString "__builtins__") 171, val := .ref 4 } :: { hash := PyData.keyHash P (Str.ofString "__file__"), key := .str (Str.ofString "__file__") 173, val := .str (Str.ofString "/claim/cut.py") 172 } :: { hash := PyData.keyHash P (Str.ofString "__cached__"), key := .str (Str.ofString "__cached__") 174, val := .none } :: { hash := PyData.keyHash P (Str.ofString "bisect_right"), key := .str (Str.ofString "bisect_right") 202, val := .ref 23 } :: { hash := PyData.keyHash P (Str.ofString "bisect_left"), key := .str (Str.ofString "bisect_left") 216, val := .ref 32 } :: { hash := PyData.keyHash P (Str.ofString "_DIV_LIMIT"), key := .str (Str.ofString "_DIV_LIMIT") 220, val := .int 4000 219 } :: { hash := PyData.keyHash P (Str.ofString "_div2n1n"), key := .str (Str.ofString "_div2n1n") 237, val := .ref 39 } :: { hash := PyData.keyHash P (Str.ofString "_div3n2n"), key := .str (Str.ofString "_div3n2n") 251, val := .ref 46 } :: { hash := PyData.keyHash P (Str.ofString "_int2digits"), key := .str (Str.ofString "_int2digits") 262, val := .ref 53 } :: { hash := PyData.keyHash P (Str.ofString "_digits2int"), key := .str (Str.ofString "_digits2int") 273, val := .ref 60 } :: { hash := PyData.keyHash P (Str.ofString "_divmod_pos"), key := .str (Str.ofString "_divmod_pos") 288, val := .ref 67 } :: { hash := PyData.keyHash P (Str.ofString "_MAX_STRING_SIZE"), key := .str (Str.ofString "_MAX_STRING_SIZE") 292, val := .int 40 291 } :: { hash := PyData.keyHash P (Str.ofString "_MOVE_COST"), key := .str (Str.ofString "_MOVE_COST") 294, val := .int 2 293 } :: { hash := PyData.keyHash P (Str.ofString "_CASE_COST"), key := .str (Str.ofString "_CASE_COST") 296, val := .int 1 295 } :: { hash := PyData.keyHash P (Str.ofString "_substitution_cost"), key := .str (Str.ofString "_substitution_cost") 304, val := .ref 74 } :: { hash := PyData.keyHash P (Str.ofString "_levenshtein_distance"), key := .str (Str.ofString "_levenshtein_distance") 324, val := .ref 81 } :: { hash := PyData.keyHash P (Str.ofString "_law_kin"), key := .str (Str.ofString "_law_kin") 338, val := .ref 88 } :: { hash := PyData.keyHash P (Str.ofString "_law_table"), key := .str (Str.ofString "_law_table") 353, val := .ref 95 } :: { hash := PyData.keyHash P (Str.ofString "_law_back"), key := .str (Str.ofString "_law_back") 367, val := .ref 102 } :: { hash := PyData.keyHash P (Str.ofString "law"), key := .str (Str.ofString "law") 373, val := .ref 107 } :: [])) 26 }) ::
    (nat_lit 6, { cls := .type "dict", data := .dict (List.toArray ([])) }) ::
    (nat_lit 15, { cls := .type "tuple", data := .seq (List.toArray (.int 0 189 :: .none :: [])) }) ::
    (nat_lit 16, { cls := .type "dict", data := .dict (List.toArray ({ hash := PyData.keyHash P (Str.ofString "key"), key := .str (Str.ofString "key") 190, val := .none } :: [])) 1 }) ::
    (nat_lit 17, { cls := .type "tuple", data := .seq (List.toArray ([])) }) ::
    (nat_lit 19, { cls := .type "tuple", data := .seq (List.toArray (.str (Str.ofString "a") 194 :: .str (Str.ofString "x") 195 :: .str (Str.ofString "lo") 196 :: .str (Str.ofString "hi") 197 :: .str (Str.ofString "key") 198 :: .str (Str.ofString "mid") 199 :: [])) }) ::
    (nat_lit 20, { cls := .type "tuple", data := .seq (List.toArray ([])) }) ::
    (nat_lit 22, { cls := .type "code", data := .fields (List.toArray (.str (Str.ofString "bisect_right") 191 :: .str (Str.ofString "bisect_right") 192 :: .str (Str.ofString "/claim/cut.py") 193 :: .int 2 0 :: .int 4 0 :: .int 0 0 :: .int 1 0 :: .int 3 0 :: .ref 17 :: .bool true :: .int 181 0 :: .ref 18 :: .none :: .ref 19 :: .ref 20 :: .ref 21 :: .int 200 0 :: .int 2 0 :: .str (Str.ofString "/claim/cut.py") 201 :: [])) }) ::
    (nat_lit 23, ⟨.type "function", none, .func { name := Str.ofString "bisect_right", qualname := Str.ofString "bisect_right", params := p0, body := .stmts b0, scope := s0, globals := 3, closure := [], defaults := .ref 15, kwdefaults := .ref 16, pyModule := .str (Str.ofString "cpy313.bisect") 187, code := .ref 22 }, (List.toArray ([]))⟩) ::
    (nat_lit 24, { cls := .type "tuple", data := .seq (List.toArray (.int 0 203 :: .none :: [])) }) ::
    (nat_lit 25, { cls := .type "dict", data := .dict (List.toArray ({ hash := PyData.keyHash P (Str.ofString "key"), key := .str (Str.ofString "key") 204, val := .none } :: [])) 1 }) ::
    (nat_lit 26, { cls := .type "tuple", data := .seq (List.toArray ([])) }) ::
    (nat_lit 28, { cls := .type "tuple", data := .seq (List.toArray (.str (Str.ofString "a") 208 :: .str (Str.ofString "x") 209 :: .str (Str.ofString "lo") 210 :: .str (Str.ofString "hi") 211 :: .str (Str.ofString "key") 212 :: .str (Str.ofString "mid") 213 :: [])) }) ::
    (nat_lit 29, { cls := .type "tuple", data := .seq (List.toArray ([])) }) ::
    (nat_lit 31, { cls := .type "code", data := .fields (List.toArray (.str (Str.ofString "bisect_left") 205 :: .str (Str.ofString "bisect_left") 206 :: .str (Str.ofString "/claim/cut.py") 207 :: .int 22 0 :: .int 4 0 :: .int 0 0 :: .int 1 0 :: .int 3 0 :: .ref 26 :: .bool true :: .int 181 0 :: .ref 27 :: .none :: .ref 28 :: .ref 29 :: .ref 30 :: .int 214 0 :: .int 22 0 :: .str (Str.ofString "/claim/cut.py") 215 :: [])) }) ::
    (nat_lit 32, ⟨.type "function", none, .func { name := Str.ofString "bisect_left", qualname := Str.ofString "bisect_left", params := p1, body := .stmts b1, scope := s1, globals := 3, closure := [], defaults := .ref 24, kwdefaults := .ref 25, pyModule := .str (Str.ofString "cpy313.bisect") 187, code := .ref 31 }, (List.toArray ([]))⟩) ::
    (nat_lit 33, { cls := .type "tuple", data := .seq (List.toArray ([])) }) ::
    (nat_lit 35, { cls := .type "tuple", data := .seq (List.toArray (.str (Str.ofString "a") 224 :: .str (Str.ofString "b") 225 :: .str (Str.ofString "n") 226 :: .str (Str.ofString "pad") 227 :: .str (Str.ofString "half_n") 228 :: .str (Str.ofString "mask") 229 :: .str (Str.ofString "b1") 230 :: .str (Str.ofString "b2") 231 :: .str (Str.ofString "q1") 232 :: .str (Str.ofString "r") 233 :: .str (Str.ofString "q2") 234 :: [])) }) ::
    (nat_lit 36, { cls := .type "tuple", data := .seq (List.toArray ([])) }) ::
    (nat_lit 38, { cls := .type "code", data := .fields (List.toArray (.str (Str.ofString "_div2n1n") 221 :: .str (Str.ofString "_div2n1n") 222 :: .str (Str.ofString "/claim/cut.py") 223 :: .int 44 0 :: .int 3 0 :: .int 0 0 :: .int 0 0 :: .int 3 0 :: .ref 33 :: .bool true :: .int 181 0 :: .ref 34 :: .none :: .ref 35 :: .ref 36 :: .ref 37 :: .int 235 0 :: .int 44 0 :: .str (Str.ofString "/claim/cut.py") 236 :: [])) }) ::
    (nat_lit 39, ⟨.type "function", none, .func { name := Str.ofString "_div2n1n", qualname := Str.ofString "_div2n1n", params := p2, body := .stmts b2, scope := s2, globals := 3, closure := [], defaults := .none, kwdefaults := .none, pyModule := .str (Str.ofString "cpy313._pylong") 217, code := .ref 38 }, (List.toArray ([]))⟩) ::
    (nat_lit 40, { cls := .type "tuple", data := .seq (List.toArray ([])) }) ::
    (nat_lit 42, { cls := .type "tuple", data := .seq (List.toArray (.str (Str.ofString "a12") 241 :: .str (Str.ofString "a3") 242 :: .str (Str.ofString "b") 243 :: .str (Str.ofString "b1") 244 :: .str (Str.ofString "b2") 245 :: .str (Str.ofString "n") 246 :: .str (Str.ofString "q") 247 :: .str (Str.ofString "r") 248 :: [])) }) ::
    (nat_lit 43, { cls := .type "tuple", data := .seq (List.toArray ([])) }) ::
    (nat_lit 45, { cls := .type "code", data := .fields (List.toArray (.str (Str.ofString "_div3n2n") 238 :: .str (Str.ofString "_div3n2n") 239 :: .str (Str.ofString "/claim/cut.py") 240 :: .int 60 0 :: .int 6 0 :: .int 0 0 :: .int 0 0 :: .int 3 0 :: .ref 40 :: .bool true :: .int 181 0 :: .ref 41 :: .none :: .ref 42 :: .ref 43 :: .ref 44 :: .int 249 0 :: .int 60 0 :: .str (Str.ofString "/claim/cut.py") 250 :: [])) }) ::
    (nat_lit 46, ⟨.type "function", none, .func { name := Str.ofString "_div3n2n", qualname := Str.ofString "_div3n2n", params := p3, body := .stmts b3, scope := s3, globals := 3, closure := [], defaults := .none, kwdefaults := .none, pyModule := .str (Str.ofString "cpy313._pylong") 217, code := .ref 45 }, (List.toArray ([]))⟩) ::
    (nat_lit 47, { cls := .type "tuple", data := .seq (List.toArray ([])) }) ::
    (nat_lit 49, { cls := .type "tuple", data := .seq (List.toArray (.str (Str.ofString "a") 255 :: .str (Str.ofString "n") 256 :: [])) }) ::
    (nat_lit 50, { cls := .type "tuple", data := .seq (List.toArray (.str (Str.ofString "n") 257 :: .str (Str.ofString "a_digits") 258 :: .str (Str.ofString "inner") 259 :: [])) }) ::
    (nat_lit 52, { cls := .type "code", data := .fields (List.toArray (.str (Str.ofString "_int2digits") 252 :: .str (Str.ofString "_int2digits") 253 :: .str (Str.ofString "/claim/cut.py") 254 :: .int 70 0 :: .int 2 0 :: .int 0 0 :: .int 0 0 :: .int 3 0 :: .ref 47 :: .bool true :: .int 181 0 :: .ref 48 :: .none :: .ref 49 :: .ref 50 :: .ref 51 :: .int 260 0 :: .int 70 0 :: .str (Str.ofString "/claim/cut.py") 261 :: [])) }) ::
    (nat_lit 53, ⟨.type "function", none, .func { name := Str.ofString "_int2digits", qualname := Str.ofString "_int2digits", params := p4, body := .stmts b4, scope := s4, globals := 3, closure := [], defaults := .none, kwdefaults := .none, pyModule := .str (Str.ofString "cpy313._pylong") 217, code := .ref 52 }, (List.toArray ([]))⟩) ::
    (nat_lit 54, { cls := .type "tuple", data := .seq (List.toArray ([])) }) ::
    (nat_lit 56, { cls := .type "tuple", data := .seq (List.toArray (.str (Str.ofString "digits") 266 :: .str (Str.ofString "n") 267 :: [])) }) ::
    (nat_lit 57, { cls := .type "tuple", data := .seq (List.toArray (.str (Str.ofString "digits") 268 :: .str (Str.ofString "n") 269 :: .str (Str.ofString "inner") 270 :: [])) }) ::
    (nat_lit 59, { cls := .type "code", data := .fields (List.toArray (.str (Str.ofString "_digits2int") 263 :: .str (Str.ofString "_digits2int") 264 :: .str (Str.ofString "/claim/cut.py") 265 :: .int 86 0 :: .int 2 0 :: .int 0 0 :: .int 0 0 :: .int 3 0 :: .ref 54 :: .bool true :: .int 181 0 :: .ref 55 :: .none :: .ref 56 :: .ref 57 :: .ref 58 :: .int 271 0 :: .int 86 0 :: .str (Str.ofString "/claim/cut.py") 272 :: [])) }) ::
    (nat_lit 60, ⟨.type "function", none, .func { name := Str.ofString "_digits2int", qualname := Str.ofString "_digits2int", params := p5, body := .stmts b5, scope := s5, globals := 3, closure := [], defaults := .none, kwdefaults := .none, pyModule := .str (Str.ofString "cpy313._pylong") 217, code := .ref 59 }, (List.toArray ([]))⟩) ::
    (nat_lit 61, { cls := .type "tuple", data := .seq (List.toArray ([])) }) ::
    (nat_lit 63, { cls := .type "tuple", data := .seq (List.toArray (.str (Str.ofString "a") 277 :: .str (Str.ofString "b") 278 :: .str (Str.ofString "n") 279 :: .str (Str.ofString "a_digits") 280 :: .str (Str.ofString "r") 281 :: .str (Str.ofString "q_digits") 282 :: .str (Str.ofString "a_digit") 283 :: .str (Str.ofString "q_digit") 284 :: .str (Str.ofString "q") 285 :: [])) }) ::
    (nat_lit 64, { cls := .type "tuple", data := .seq (List.toArray ([])) }) ::
    (nat_lit 66, { cls := .type "code", data := .fields (List.toArray (.str (Str.ofString "_divmod_pos") 274 :: .str (Str.ofString "_divmod_pos") 275 :: .str (Str.ofString "/claim/cut.py") 276 :: .int 95 0 :: .int 2 0 :: .int 0 0 :: .int 0 0 :: .int 3 0 :: .ref 61 :: .bool true :: .int 181 0 :: .ref 62 :: .none :: .ref 63 :: .ref 64 :: .ref 65 :: .int 286 0 :: .int 95 0 :: .str (Str.ofString "/claim/cut.py") 287 :: [])) }) ::
    (nat_lit 67, ⟨.type "function", none, .func { name := Str.ofString "_divmod_pos", qualname := Str.ofString "_divmod_pos", params := p6, body := .stmts b6, scope := s6, globals := 3, closure := [], defaults := .none, kwdefaults := .none, pyModule := .str (Str.ofString "cpy313._pylong") 217, code := .ref 66 }, (List.toArray ([]))⟩) ::
    (nat_lit 68, { cls := .type "tuple", data := .seq (List.toArray ([])) }) ::
    (nat_lit 70, { cls := .type "tuple", data := .seq (List.toArray (.str (Str.ofString "ch_a") 300 :: .str (Str.ofString "ch_b") 301 :: [])) }) ::
    (nat_lit 71, { cls := .type "tuple", data := .seq (List.toArray ([])) }) ::
    (nat_lit 73, { cls := .type "code", data := .fields (List.toArray (.str (Str.ofString "_substitution_cost") 297 :: .str (Str.ofString "_substitution_cost") 298 :: .str (Str.ofString "/claim/cut.py") 299 :: .int 110 0 :: .int 2 0 :: .int 0 0 :: .int 0 0 :: .int 3 0 :: .ref 68 :: .bool true :: .int 181 0 :: .ref 69 :: .none :: .ref 70 :: .ref 71 :: .ref 72 :: .int 302 0 :: .int 110 0 :: .str (Str.ofString "/claim/cut.py") 303 :: [])) }) ::
    (nat_lit 74, ⟨.type "function", none, .func { name := Str.ofString "_substitution_cost", qualname := Str.ofString "_substitution_cost", params := p7, body := .stmts b7, scope := s7, globals := 3, closure := [], defaults := .none, kwdefaults := .none, pyModule := .str (Str.ofString "cpy313.traceback") 289, code := .ref 73 }, (List.toArray ([]))⟩) ::
    (nat_lit 75, { cls := .type "tuple", data := .seq (List.toArray ([])) }) ::
    (nat_lit 77, { cls := .type "tuple", data := .seq (List.toArray (.str (Str.ofString "a") 308 :: .str (Str.ofString "b") 309 :: .str (Str.ofString "max_cost") 310 :: .str (Str.ofString "pre") 311 :: .str (Str.ofString "post") 312 :: .str (Str.ofString "row") 313 :: .str (Str.ofString "result") 314 :: .str (Str.ofString "bindex") 315 :: .str (Str.ofString "bchar") 316 :: .str (Str.ofString "distance") 317 :: .str (Str.ofString "minimum") 318 :: .str (Str.ofString "index") 319 :: .str (Str.ofString "substitute") 320 :: .str (Str.ofString "insert_delete") 321 :: [])) }) ::
    (nat_lit 78, { cls := .type "tuple", data := .seq (List.toArray ([])) }) ::
    (nat_lit 80, { cls := .type "code", data := .fields (List.toArray (.str (Str.ofString "_levenshtein_distance") 305 :: .str (Str.ofString "_levenshtein_distance") 306 :: .str (Str.ofString "/claim/cut.py") 307 :: .int 116 0 :: .int 3 0 :: .int 0 0 :: .int 0 0 :: .int 3 0 :: .ref 75 :: .bool true :: .int 181 0 :: .ref 76 :: .none :: .ref 77 :: .ref 78 :: .ref 79 :: .int 322 0 :: .int 116 0 :: .str (Str.ofString "/claim/cut.py") 323 :: [])) }) ::
    (nat_lit 81, ⟨.type "function", none, .func { name := Str.ofString "_levenshtein_distance", qualname := Str.ofString "_levenshtein_distance", params := p8, body := .stmts b8, scope := s8, globals := 3, closure := [], defaults := .none, kwdefaults := .none, pyModule := .str (Str.ofString "cpy313.traceback") 289, code := .ref 80 }, (List.toArray ([]))⟩) ::
    (nat_lit 82, { cls := .type "tuple", data := .seq (List.toArray ([])) }) ::
    (nat_lit 84, { cls := .type "tuple", data := .seq (List.toArray (.str (Str.ofString "row") 330 :: .str (Str.ofString "kin") 331 :: .str (Str.ofString "at") 332 :: .str (Str.ofString "one") 333 :: .str (Str.ofString "k") 334 :: .str (Str.ofString "turned") 335 :: [])) }) ::
    (nat_lit 85, { cls := .type "tuple", data := .seq (List.toArray ([])) }) ::
    (nat_lit 87, { cls := .type "code", data := .fields (List.toArray (.str (Str.ofString "_law_kin") 327 :: .str (Str.ofString "_law_kin") 328 :: .str (Str.ofString "/claim/cut.py") 329 :: .int 155 0 :: .int 1 0 :: .int 0 0 :: .int 0 0 :: .int 3 0 :: .ref 82 :: .bool true :: .int 181 0 :: .ref 83 :: .none :: .ref 84 :: .ref 85 :: .ref 86 :: .int 336 0 :: .int 155 0 :: .str (Str.ofString "/claim/cut.py") 337 :: [])) }) ::
    (nat_lit 88, ⟨.type "function", none, .func { name := Str.ofString "_law_kin", qualname := Str.ofString "_law_kin", params := p9, body := .stmts b9, scope := s9, globals := 3, closure := [], defaults := .none, kwdefaults := .none, pyModule := .str (Str.ofString "law_pu0050_01") 325, code := .ref 87 }, (List.toArray ([]))⟩) ::
    (nat_lit 89, { cls := .type "tuple", data := .seq (List.toArray ([])) }) ::
    (nat_lit 91, { cls := .type "tuple", data := .seq (List.toArray (.str (Str.ofString "row") 342 :: .str (Str.ofString "by_columns") 343 :: .str (Str.ofString "lines") 344 :: .str (Str.ofString "rests") 345 :: .str (Str.ofString "number") 346 :: .str (Str.ofString "depth") 347 :: .str (Str.ofString "line") 348 :: .str (Str.ofString "place") 349 :: .str (Str.ofString "pushed") 350 :: [])) }) ::
    (nat_lit 92, { cls := .type "tuple", data := .seq (List.toArray ([])) }) ::
    (nat_lit 94, { cls := .type "code", data := .fields (List.toArray (.str (Str.ofString "_law_table") 339 :: .str (Str.ofString "_law_table") 340 :: .str (Str.ofString "/claim/cut.py") 341 :: .int 169 0 :: .int 2 0 :: .int 0 0 :: .int 0 0 :: .int 3 0 :: .ref 89 :: .bool true :: .int 181 0 :: .ref 90 :: .none :: .ref 91 :: .ref 92 :: .ref 93 :: .int 351 0 :: .int 169 0 :: .str (Str.ofString "/claim/cut.py") 352 :: [])) }) ::
    (nat_lit 95, ⟨.type "function", none, .func { name := Str.ofString "_law_table", qualname := Str.ofString "_law_table", params := p10, body := .stmts b10, scope := s10, globals := 3, closure := [], defaults := .none, kwdefaults := .none, pyModule := .str (Str.ofString "law_pu0050_01") 325, code := .ref 94 }, (List.toArray ([]))⟩) ::
    (nat_lit 96, { cls := .type "tuple", data := .seq (List.toArray ([])) }) ::
    (nat_lit 98, { cls := .type "tuple", data := .seq (List.toArray (.str (Str.ofString "lines") 357 :: .str (Str.ofString "rests") 358 :: .str (Str.ofString "row") 359 :: .str (Str.ofString "depth") 360 :: .str (Str.ofString "number") 361 :: .str (Str.ofString "line") 362 :: .str (Str.ofString "place") 363 :: .str (Str.ofString "pushed") 364 :: [])) }) ::
    (nat_lit 99, { cls := .type "tuple", data := .seq (List.toArray ([])) }) ::
    (nat_lit 101, { cls := .type "code", data := .fields (List.toArray (.str (Str.ofString "_law_back") 354 :: .str (Str.ofString "_law_back") 355 :: .str (Str.ofString "/claim/cut.py") 356 :: .int 187 0 :: .int 2 0 :: .int 0 0 :: .int 0 0 :: .int 3 0 :: .ref 96 :: .bool true :: .int 181 0 :: .ref 97 :: .none :: .ref 98 :: .ref 99 :: .ref 100 :: .int 365 0 :: .int 187 0 :: .str (Str.ofString "/claim/cut.py") 366 :: [])) }) ::
    (nat_lit 102, ⟨.type "function", none, .func { name := Str.ofString "_law_back", qualname := Str.ofString "_law_back", params := p11, body := .stmts b11, scope := s11, globals := 3, closure := [], defaults := .none, kwdefaults := .none, pyModule := .str (Str.ofString "law_pu0050_01") 325, code := .ref 101 }, (List.toArray ([]))⟩) ::
    (nat_lit 103, { cls := .type "tuple", data := .seq (List.toArray ([])) }) ::
    (nat_lit 106, { cls := .type "code", data := .fields (List.toArray (.str (Str.ofString "law") 368 :: .str (Str.ofString "law") 369 :: .str (Str.ofString "/claim/cut.py") 370 :: .int 198 0 :: .int 1 0 :: .int 0 0 :: .int 0 0 :: .int 3 0 :: .ref 103 :: .bool true :: .int 181 0 :: .ref 104 :: .none :: .none :: .none :: .ref 105 :: .int 371 0 :: .int 198 0 :: .str (Str.ofString "/claim/cut.py") 372 :: [])) }) ::
    (nat_lit 107, ⟨.type "function", none, .func { name := Str.ofString "law", qualname := Str.ofString "law", params := p12, body := .stmts b12, scope := s12, globals := 3, closure := [], defaults := .none, kwdefaults := .none, pyModule := .str (Str.ofString "law_pu0050_01") 325, code := .ref 106 }, (List.toArray ([]))⟩) :: []) : Frag)) _ _ _ _ _ _ _ _ _ _ _ _ _ _ _ _ _ _ _ _ _ _ _ _ _ _ _ _ _ _ _ _ _ _ _ _ _ _ _ rfl

noncomputable def hd.view_39 : Program := view PySem.Challenge.rw_pu0050_01.row.prog [4, 5, 6, 7, 8, 9, 11, 12, 13, 14, 15, 17, 18, 19, 20]
noncomputable abbrev row0 := PySem.Challenge.rw_pu0050_01.row.toRowW
noncomputable abbrev prog0 : Program := PySem.Challenge.rw_pu0050_01.row.prog
noncomputable abbrev loose0 : List Str := [Str.ofString "bisect_right", Str.ofString "bisect_left"]
noncomputable abbrev as0 : List Addr := [2, 3, 6, 15, 16, 17, 19, 20, 22, 23, 24, 25, 26, 28, 29, 31, 32, 33, 35, 36, 38, 39, 40, 42, 43, 45, 46, 47, 49, 50, 52, 53, 54, 56, 57, 59, 60, 61, 63, 64, 66, 67, 68, 70, 71, 73, 74, 75, 77, 78, 80, 81, 82, 84, 85, 87, 88, 89, 91, 92, 94, 95, 96, 98, 99, 101, 102, 103, 106, 107]
theorem asOk : ∀ P, as0 = (Mine.hd.heap_39 P).map (·.1) := fun _ => by kernel_rfl
theorem open0 : ∀ w : World, (fencedOpening treeTable prog0 w 1200).map (fun s => (s.heap, s.gens, s.drawn, s.toks)) = some (boot_heap w.params, Array.mk [], boot_drawn, boot_toks) :=
  boot_open (by kernel_rfl) (by decide +kernel) (fun s => by kernel_rfl)
noncomputable abbrev H0 : Hook := kmHook Mine.hd.heap_39 as0 asOk [55, 48]
noncomputable abbrev Xt0 : Shared → Bool := fun s => xlAt Mine.hd.view_39 [] s && recOk (RowW.records row0) s
theorem run0 (w : World) (os : OsState) : (topFrom treeTable prog0 w 1200 ⟨boot_heap w.params, Array.mk [], boot_drawn, boot_toks, os⟩).map (fun s => (openSeen Mine.hd.view_39 loose0 (importedModules prog0.main.body) Xt0 true s, Hook.obs H0 s)) = some (openGood Mine.hd.view_39 loose0, Hook.val H0 w) := by kernel_rfl
theorem left0 : LeftO prog0 hd.view_39 loose0 Xt0 (Hook.obs H0) (Hook.val H0) 1200 := fun w => by
  obtain ⟨⟨h, gs, d, k, os⟩, e, e'⟩ := Option.map_eq_some_iff.mp (open0 w)
  obtain ⟨rfl, rfl, rfl, rfl⟩ : h = boot_heap w.params ∧ gs = Array.mk [] ∧ d = boot_drawn ∧ k = boot_toks := by simpa only [Prod.mk.injEq] using e'
  unfold openEnds
  rw [e]
  exact run0 w os
theorem said0 : PySem.Challenge.rw_pu0050_01.wellSaid = true := by
  unfold OpenLaw.wellSaid
  repeat' (first | with_reducible refine look_both ?_ ?_ | unfold OpenRow.wellSaid | unfold OpenRow.partSaid | unfold looksOpen)
  all_goals decide +kernel
end

section
theorem hd : (fun (d : DefRec) (kwd : List (Str × PySem.Expr)) (_ : defOf hd.view_39 PySem.Challenge.rw_pu0050_01.row.name = some (d, kwd)) =>
    WalkO hd.view_39 loose0 (XL hd.view_39 []) (Hook.says (kmHook Mine.hd.heap_39 as0 asOk [55, 48])) PySem.Challenge.rw_pu0050_01.row.toRowW d kwd (fun f vs => PySem.call f vs) → PySem.Challenge.rw_pu0050_01.Holds) _ _ rfl := by
  intro walk
  refine holds_law said0 fun said => holds_open (q := hd.view_39) (loose := loose0) (Xt := Xt0) (XP := XL hd.view_39 []) (Yf := Hook.obs (kmHook Mine.hd.heap_39 as0 asOk [55, 48])) (Ya := Hook.val (kmHook Mine.hd.heap_39 as0 asOk [55, 48])) (YP := Hook.says (kmHook Mine.hd.heap_39 as0 asOk [55, 48])) (N := 1200) left0 (Hook.of (kmHook Mine.hd.heap_39 as0 asOk [55, 48])) (Hook.keeps (kmHook Mine.hd.heap_39 as0 asOk [55, 48])) (fun s e => xl_of s (Bool.and_eq_true_iff.mp e).1) XL.keeps ?h1 ?h2 ?h3 (fun s e => recFacts_of (Bool.and_eq_true_iff.mp e).2) ?h4 said ?h5 ?h6 ?hw walk
  case h1 => rfl
  case h2 => rfl
  case h3 => rfl
  case h4 => rfl
  case h5 => decide +kernel
  case h6 => exact ⟨rfl, rfl, rfl, rfl, rfl, by decide +kernel⟩
  case hw => w_witness2
end

section
/-- a name that is not among those stored keeps its value -/
theorem sk {c : Prop} [Decidable c] {v e r : Option Value} (h : ¬ c) (k : e = r) : (if c then v else e) = r := (if_neg h).trans k
theorem ne_ct {l : List Str} {x z : Str} (h : l.contains z = false) (hx : l.contains x = true) : ¬ z = x := fun e => by
  subst e
  rw [hx] at h
  cases h
theorem ct_sub {l l' : List Str} {z : Str} (h : l.contains z = false) (hx : l'.all (fun x => l.contains x) = true) : ¬ l'.contains z = true := fun e => by
  have := List.all_eq_true.mp hx z (List.contains_iff_mem.mp e)
  rw [this] at h
  cases h
theorem inc_cons {α : Type} {a : α} {l l' : List α} (h : a ∈ l') (k : ∀ p ∈ l, p ∈ l') : ∀ p ∈ a :: l, p ∈ l' := List.forall_mem_cons.mpr ⟨h, k⟩
end

section
theorem mid_facts {lo hi : Int} (h0 : 0 ≤ lo) (h : lo < hi) : lo ≤ Int.fdiv (lo + hi) 2 ∧ Int.fdiv (lo + hi) 2 < hi := by
  rw [Int.fdiv_eq_ediv_of_nonneg _ (by decide)]
  lia
theorem kswEnd_id {σ : Type} {h₀ : Heap} {L : Addr} {s : Shared} {Led : σ → List (Addr × Obj)} {ps : σ → List (Str × Value)} {Facts : σ → Prop} {stored : List Str} {m₀ : Str → Option Value} {P : σ → Prop} {μ : σ → Nat} {c : σ} {s₂ : Shared} (h : KswEnd h₀ L s Led ps Facts stored m₀ P μ c s₂) : KswEnd h₀ L s Led ps Facts stored m₀ P μ c s₂ := h

noncomputable def brI (ns : List Int) (x : Int) : Nat → Int → Int → Int
  | 0, lo, _ => lo
  | f + 1, lo, hi => if lo < hi then
      (if x < ns.getD (Int.fdiv (lo + hi) 2).toNat 0 then brI ns x f lo (Int.fdiv (lo + hi) 2) else brI ns x f (Int.fdiv (lo + hi) 2 + 1) hi)
    else lo
theorem brI_fuel (ns : List Int) (x : Int) : ∀ (f g : Nat) (lo hi : Int), 0 ≤ lo → (hi - lo).toNat ≤ f → f ≤ g → brI ns x f lo hi = brI ns x g lo hi := by
  intro f
  induction f with
  | zero =>
    intro g lo hi h0 h1 h2
    cases g with
    | zero => rfl
    | succ g =>
      have : ¬ lo < hi := by lia
      simp [brI, this]
  | succ f ih =>
    intro g lo hi h0 h1 h2
    cases g with
    | zero => lia
    | succ g =>
      by_cases h : lo < hi
      · have m := mid_facts h0 h
        simp only [brI, h, if_true]
        split
        · exact ih g _ _ (by lia) (by lia) (by lia)
        · exact ih g _ _ (by lia) (by lia) (by lia)
      · simp [brI, h]
theorem brI_bound (ns : List Int) (x : Int) : ∀ (f : Nat) (lo hi : Int), 0 ≤ lo → lo ≤ hi → lo ≤ brI ns x f lo hi ∧ brI ns x f lo hi ≤ hi := by
  intro f
  induction f with
  | zero => intro lo hi h0 h1; exact ⟨Int.le_refl _, h1⟩
  | succ f ih =>
    intro lo hi h0 h1
    by_cases h : lo < hi
    · have m := mid_facts h0 h
      simp only [brI, h, if_true]
      split
      · have := ih lo (Int.fdiv (lo + hi) 2) (by lia) (by lia)
        lia
      · have := ih (Int.fdiv (lo + hi) 2 + 1) hi (by lia) (by lia)
        lia
    · simp only [brI, h, if_false]
      lia
noncomputable def brIInv (ns : List Int) (x : Int) (c : Int × Int × Tok × Tok) : Prop :=
  0 ≤ c.1 ∧ c.1 ≤ c.2.1 ∧ c.2.1 ≤ (ns.length : Int) ∧ brI ns x (c.2.1 - c.1).toNat c.1 c.2.1 = brI ns x ns.length 0 ns.length
theorem brIInv_start (ns : List Int) (x : Int) (t1 t2 : Tok) : brIInv ns x ⟨0, ns.length, t1, t2⟩ := by
  refine ⟨by simp, by simp, by simp, ?_⟩
  simp
theorem brIInv_left {ns : List Int} {x lo hi : Int} {t1 t2 t3 t4 : Tok} (h : brIInv ns x ⟨lo, hi, t1, t2⟩) (hl : lo < hi) (hx : x < ns.getD (Int.fdiv (lo + hi) 2).toNat 0) : brIInv ns x ⟨lo, Int.fdiv (lo + hi) 2, t3, t4⟩ := by
  obtain ⟨h0, h1, h2, h3⟩ := h
  have m := mid_facts h0 hl
  refine ⟨h0, m.1, by dsimp only at *; lia, ?_⟩
  dsimp only at *
  rw [← h3]
  obtain ⟨f, hf⟩ : ∃ f, (hi - lo).toNat = f + 1 := ⟨(hi - lo).toNat - 1, by lia⟩
  rw [hf]
  simp only [brI, hl, if_true, hx, if_false]
  exact brI_fuel ns x _ _ _ _ h0 (Nat.le_refl _) (by lia)
theorem brIInv_right {ns : List Int} {x lo hi : Int} {t1 t2 t3 t4 : Tok} (h : brIInv ns x ⟨lo, hi, t1, t2⟩) (hl : lo < hi) (hx : ¬ x < ns.getD (Int.fdiv (lo + hi) 2).toNat 0) : brIInv ns x ⟨Int.fdiv (lo + hi) 2 + 1, hi, t3, t4⟩ := by
  obtain ⟨h0, h1, h2, h3⟩ := h
  have m := mid_facts h0 hl
  refine ⟨by dsimp only at *; lia, by dsimp only at *; lia, by dsimp only at *; lia, ?_⟩
  dsimp only at *
  rw [← h3]
  obtain ⟨f, hf⟩ : ∃ f, (hi - lo).toNat = f + 1 := ⟨(hi - lo).toNat - 1, by lia⟩
  rw [hf]
  simp only [brI, hl, if_true, hx, if_false]
  exact brI_fuel ns x _ _ _ _ (by lia) (Nat.le_refl _) (by lia)
theorem brIInv_end {ns : List Int} {x lo hi : Int} {t1 t2 : Tok} (h : brIInv ns x ⟨lo, hi, t1, t2⟩) (hl : ¬ lo < hi) : lo = brI ns x ns.length 0 ns.length := by
  obtain ⟨h0, h1, h2, h3⟩ := h
  dsimp only at *
  rw [← h3]
  have : (hi - lo).toNat = 0 := by lia
  rw [this]; rfl

noncomputable def blI (ns : List Int) (x : Int) : Nat → Int → Int → Int
  | 0, lo, _ => lo
  | f + 1, lo, hi => if lo < hi then
      (if ns.getD (Int.fdiv (lo + hi) 2).toNat 0 < x then blI ns x f (Int.fdiv (lo + hi) 2 + 1) hi else blI ns x f lo (Int.fdiv (lo + hi) 2))
    else lo
theorem blI_fuel (ns : List Int) (x : Int) : ∀ (f g : Nat) (lo hi : Int), 0 ≤ lo → (hi - lo).toNat ≤ f → f ≤ g → blI ns x f lo hi = blI ns x g lo hi := by
  intro f
  induction f with
  | zero =>
    intro g lo hi h0 h1 h2
    cases g with
    | zero => rfl
    | succ g =>
      have : ¬ lo < hi := by lia
      simp [blI, this]
  | succ f ih =>
    intro g lo hi h0 h1 h2
    cases g with
    | zero => lia
    | succ g =>
      by_cases h : lo < hi
      · have m := mid_facts h0 h
        simp only [blI, h, if_true]
        split
        · exact ih g _ _ (by lia) (by lia) (by lia)
        · exact ih g _ _ (by lia) (by lia) (by lia)
      · simp [blI, h]
theorem blI_bound (ns : List Int) (x : Int) : ∀ (f : Nat) (lo hi : Int), 0 ≤ lo → lo ≤ hi → lo ≤ blI ns x f lo hi ∧ blI ns x f lo hi ≤ hi := by
  intro f
  induction f with
  | zero => intro lo hi h0 h1; exact ⟨Int.le_refl _, h1⟩
  | succ f ih =>
    intro lo hi h0 h1
    by_cases h : lo < hi
    · have m := mid_facts h0 h
      simp only [blI, h, if_true]
      split
      · have := ih (Int.fdiv (lo + hi) 2 + 1) hi (by lia) (by lia)
        lia
      · have := ih lo (Int.fdiv (lo + hi) 2) (by lia) (by lia)
        lia
    · simp only [blI, h, if_false]
      lia
noncomputable def blIInv (ns : List Int) (x : Int) (c : Int × Int × Tok × Tok) : Prop :=
  0 ≤ c.1 ∧ c.1 ≤ c.2.1 ∧ c.2.1 ≤ (ns.length : Int) ∧ blI ns x (c.2.1 - c.1).toNat c.1 c.2.1 = blI ns x ns.length 0 ns.length
theorem blIInv_start (ns : List Int) (x : Int) (t1 t2 : Tok) : blIInv ns x ⟨0, ns.length, t1, t2⟩ := by
  refine ⟨by simp, by simp, by simp, ?_⟩
  simp
theorem blIInv_left {ns : List Int} {x lo hi : Int} {t1 t2 t3 t4 : Tok} (h : blIInv ns x ⟨lo, hi, t1, t2⟩) (hl : lo < hi) (hx : ¬ ns.getD (Int.fdiv (lo + hi) 2).toNat 0 < x) : blIInv ns x ⟨lo, Int.fdiv (lo + hi) 2, t3, t4⟩ := by
  obtain ⟨h0, h1, h2, h3⟩ := h
  have m := mid_facts h0 hl
  refine ⟨h0, m.1, by dsimp only at *; lia, ?_⟩
  dsimp only at *
  rw [← h3]
  obtain ⟨f, hf⟩ : ∃ f, (hi - lo).toNat = f + 1 := ⟨(hi - lo).toNat - 1, by lia⟩
  rw [hf]
  simp only [blI, hl, if_true, hx, if_false]
  exact blI_fuel ns x _ _ _ _ h0 (Nat.le_refl _) (by lia)
theorem blIInv_right {ns : List Int} {x lo hi : Int} {t1 t2 t3 t4 : Tok} (h : blIInv ns x ⟨lo, hi, t1, t2⟩) (hl : lo < hi) (hx : ns.getD (Int.fdiv (lo + hi) 2).toNat 0 < x) : blIInv ns x ⟨Int.fdiv (lo + hi) 2 + 1, hi, t3, t4⟩ := by
  obtain ⟨h0, h1, h2, h3⟩ := h
  have m := mid_facts h0 hl
  refine ⟨by dsimp only at *; lia, by dsimp only at *; lia, by dsimp only at *; lia, ?_⟩
  dsimp only at *
  rw [← h3]
  obtain ⟨f, hf⟩ : ∃ f, (hi - lo).toNat = f + 1 := ⟨(hi - lo).toNat - 1, by lia⟩
  rw [hf]
  simp only [blI, hl, if_true, hx, if_false]
  exact blI_fuel ns x _ _ _ _ (by lia) (Nat.le_refl _) (by lia)
theorem blIInv_end {ns : List Int} {x lo hi : Int} {t1 t2 : Tok} (h : blIInv ns x ⟨lo, hi, t1, t2⟩) (hl : ¬ lo < hi) : lo = blI ns x ns.length 0 ns.length := by
  obtain ⟨h0, h1, h2, h3⟩ := h
  dsimp only at *
  rw [← h3]
  have : (hi - lo).toNat = 0 := by lia
  rw [this]; rfl

noncomputable def brF (ns : List Int) (x : Int) : Int := brI ns x ns.length 0 ns.length
noncomputable def blF (ns : List Int) (x : Int) : Int := blI ns x ns.length 0 ns.length
theorem brF_bound (ns : List Int) (x : Int) : 0 ≤ brF ns x ∧ brF ns x ≤ (ns.length : Int) := brI_bound ns x _ _ _ (Int.le_refl _) (by lia)
theorem blF_bound (ns : List Int) (x : Int) : 0 ≤ blF ns x ∧ blF ns x ≤ (ns.length : Int) := blI_bound ns x _ _ _ (Int.le_refl _) (by lia)
end

section
noncomputable abbrev Ledg := List (Addr × Obj)

noncomputable def ForEnd (h₀ : Heap) (L I : Addr) (own : Ledg) (J : (Str → Option Value) → Ledg → Prop) (s₁ s₂ : Shared) : Prop :=
  ∃ h' tk m' nx', s₂ = { s₁ with heap := h', toks := tk } ∧ Fr h₀ L h' m' ∧ News h₀ L h' nx' ∧ (∀ p ∈ own, p ∈ nx') ∧ J m' (nx'.filter fun p => p.1 != I)
noncomputable def ForPost (h₀ : Heap) (L I : Addr) (own : Ledg) (J : (Str → Option Value) → Ledg → Prop) (s₁ : Shared) (Q : Flow → Shared → Prop) (f : Flow) (s₂ : Shared) : Prop :=
  match f with
  | .ret v => Q (.ret v) s₂
  | .brk => Q .next s₂
  | _ => ForEnd h₀ L I own J s₁ s₂
theorem forEnd_id {h₀ : Heap} {L I : Addr} {own : Ledg} {J : (Str → Option Value) → Ledg → Prop} {s₁ s₂ : Shared} (h : ForEnd h₀ L I own J s₁ s₂) : ForEnd h₀ L I own J s₁ s₂ := h
section
variable {prog : Program} {w : World} {A : Around} {E : Value → Shared → Prop} {s : Shared} {env : Env} {h₀ : Heap} {x : Str} {body : List Stmt} {Q : Flow → Shared → Prop}
theorem forW {I : Addr} {fp : List Addr} {n : Nat} {P : Nat → Value → Prop} {St : Nat → Heap → Prop} {m₀ : Str → Option Value} {news : Ledg} (J : Nat → (Str → Option Value) → Ledg → Prop)
    (W : Walks prog w A I fp [I] n P St) (hLf : env.locals ∉ fp) (hwr : h₀.get? I = none) (hnw : ∀ p ∈ news, p.1 ≠ I) (hst : St 0 s.heap) (hlive : ∀ i h, St i h → ∃ o, h.get? I = some o) (F : Fr h₀ env.locals s.heap m₀) (N : News h₀ env.locals s.heap news) (hj : J 0 m₀ news)
    (turn : ∀ i v m₁ nx h tk own, i < n → P i v → J i m₁ nx → (∀ p ∈ nx, p.1 ≠ I) → (∃ o, (I, o) ∈ own) → (∀ p ∈ own, p.1 ∈ fp) → Fr h₀ env.locals h (fun y => if y = x then some v else m₁ y) → News h₀ env.locals h (own ++ nx) →
      wpAny (model prog w) A (execs body env) (ForPost h₀ env.locals I own (J (i + 1)) { s with heap := h, toks := tk } Q) E { s with heap := h, toks := tk })
    (done : ∀ m₁ nx h tk, J n m₁ nx → Fr h₀ env.locals h m₁ → News h₀ env.locals h nx → Q .next { s with heap := h, toks := tk }) :
    LoopAtV prog w A h₀ env x body Q E (.ref I) s := by
  refine ⟨I, fp, [I], n, P, St, m₀, news, J, rfl, W, hLf, ?_, ?_, hst, F, N, hj, ?_, ?_⟩
  · intro b hb; rw [List.mem_singleton.mp hb]; exact hwr
  · intro p hp hI; exact hnw p hp (List.mem_singleton.mp hI)
  · rintro i v m₁ nx s₁ own ⟨h, tk, rfl⟩ hin hP hJ hoff hown _ hall hSt F₁ N₁
    obtain ⟨oI, hoI⟩ := hlive _ _ hSt
    have hI : (I, oI) ∈ own := hall I (W.sub I (by simp)) hwr oI hoI
    refine wpAny_mono (turn i v m₁ nx h tk own hin hP hJ (fun p hp e => hoff p hp (by simp [e])) ⟨oI, hI⟩ hown F₁ N₁) (fun f s₂ q => ?_) fun _ _ z => z
    have fin : ForEnd h₀ env.locals I own (J (i + 1)) { s with heap := h, toks := tk } s₂ → LoopStepU h₀ env.locals [I] own (J (i + 1)) { s with heap := h, toks := tk } .next s₂ := by
      rintro ⟨h', tk', m', nx', e, F', N', ho, hJ'⟩
      refine ⟨rfl, h', tk', m', _, e, F', fun p hp => ?_, fun p hp hq => ?_, hJ'⟩
      · rcases List.mem_append.mp hp with q | q
        · exact N' p (ho p q)
        · exact N' p (List.mem_filter.mp q).1
      · have := (List.mem_filter.mp hp).2
        simp at this hq
        exact this hq
    cases f with
    | ret v => exact .ret q
    | brk => exact .brk q
    | next => exact .next (fin q)
    | cont => exact .cont (fin q)
  · rintro h' tk m' nx F' N' _ hJ
    exact done m' nx h' tk hJ F' N'

theorem forL {l : Addr} {vs : List Value} {e : Nat} {m₀ : Str → Option Value} {news : Ledg} (J : Nat → (Str → Option Value) → Ledg → Prop)
    (hh : A.handled = none) (F : Fr h₀ env.locals s.heap m₀) (N : News h₀ env.locals s.heap news) (hl : (l, listOf vs.toArray e) ∈ news) (hj : J 0 m₀ news)
    (turn : ∀ I i v m₁ nx h tk own, vs[i]? = some v → J i m₁ nx → (∀ p ∈ nx, p.1 ≠ I) → (∃ o, (I, o) ∈ own) → (∀ p ∈ own, p.1 = I ∨ p.1 = l) → Fr h₀ env.locals h (fun y => if y = x then some v else m₁ y) → News h₀ env.locals h (own ++ nx) →
      wpAny (model prog w) A (execs body env) (ForPost h₀ env.locals I own (J (i + 1)) { s with heap := h, toks := tk } Q) E { s with heap := h, toks := tk })
    (done : ∀ m₁ nx h tk, J vs.length m₁ nx → Fr h₀ env.locals h m₁ → News h₀ env.locals h nx → Q .next { s with heap := h, toks := tk }) :
    wpAny (model prog w) A (pyIter (.ref l)) (fun it s₂ => LoopAtV prog w A h₀ env x body Q E it s₂) E s := by
  have hls : s.heap.IsList l vs.toArray := News.isList N hl
  have hlt : l < s.heap.objs.size := Heap.lt_size (N _ hl).1
  have hne : l ≠ s.heap.objs.size := Nat.ne_of_lt hlt
  refine wpAny_pyIter_list hls ?_
  have W := Walks.list (prog := prog) (w := w) hh s.heap.objs.size l hne vs.toArray
  have hlen : vs.toArray.size = vs.length := by simp
  rw [hlen] at W
  refine forW (s := { s with heap := s.heap.push _ }) J W ?_ (next_is_new F) (fun p hp => Nat.ne_of_lt (Heap.lt_size (N p hp).1)) ⟨⟨_, Heap.get?_push_size _ rfl, rfl, rfl⟩, hls.at fun o e => Heap.get?_push_of_some _ e⟩ (fun i h hSt => ?_) (F.push _) (fun p hp => ⟨Heap.get?_push_of_some _ (N p hp).1, (N p hp).2⟩) hj ?_ ?_
  · intro hm
    rcases List.mem_cons.mp hm with e' | hm
    · exact absurd F.ns.lt (e' ▸ Nat.lt_irrefl _)
    · exact (N _ hl).2.1 (List.mem_singleton.mp hm).symm
  · obtain ⟨o, ho, _⟩ := hSt.1
    exact ⟨o, ho⟩
  · intro i v m₁ nx h tk own hi hP hJ h1 h2 h3 F₁ N₁
    exact turn _ i v m₁ nx h tk own (by simpa using hP) hJ h1 h2 (fun p hp => by have := h3 p hp; simpa using this) F₁ N₁
  · intro m₁ nx h tk hJ F₁ N₁
    exact done m₁ nx h tk hJ F₁ N₁

theorem forR {r : Addr} {a₀ b₀ : Int} {t₀ u₀ v₀ : Tok} {n : Nat} {m₀ : Str → Option Value} {news : Ledg} (J : Nat → (Str → Option Value) → Ledg → Prop)
    (hh : A.handled = none) (hr : IsRange s.heap r a₀ b₀ 1 t₀ u₀ v₀) (hsmall : Builtin.Range.small a₀ b₀ 1 = true) (hn : Builtin.Range.rangeSize a₀ b₀ 1 = (n : Int)) (F : Fr h₀ env.locals s.heap m₀) (N : News h₀ env.locals s.heap news) (hj : J 0 m₀ news)
    (turn : ∀ I i t m₁ nx h tk own, i < n → J i m₁ nx → (∀ p ∈ nx, p.1 ≠ I) → (∃ o, (I, o) ∈ own) → (∀ p ∈ own, p.1 = I) → Fr h₀ env.locals h (fun y => if y = x then some (.int (a₀ + (i : Nat)) t) else m₁ y) → News h₀ env.locals h (own ++ nx) →
      wpAny (model prog w) A (execs body env) (ForPost h₀ env.locals I own (J (i + 1)) { s with heap := h, toks := tk } Q) E { s with heap := h, toks := tk })
    (done : ∀ m₁ nx h tk, J n m₁ nx → Fr h₀ env.locals h m₁ → News h₀ env.locals h nx → Q .next { s with heap := h, toks := tk }) :
    wpAny (model prog w) A (pyIter (.ref r)) (fun it s₂ => LoopAtV prog w A h₀ env x body Q E it s₂) E s := by
  refine wpAny_pyIter_range hr hsmall ?_
  have W : Walks prog w A s.heap.objs.size [s.heap.objs.size] [s.heap.objs.size] n (fun i v => i < n ∧ ∃ t, v = .int (a₀ + i * 1) t)
      (fun i h => IsRangeIter h s.heap.objs.size (a₀ + (i : Nat) * 1) ((n : Int) - (i : Nat)) 1) := (Walks.range hh _ a₀ 1 n).bound
  refine forW (s := { s with heap := s.heap.push _ }) J W ?_ (next_is_new F) (fun p hp => Nat.ne_of_lt (Heap.lt_size (N p hp).1)) (by show IsRangeIter _ _ _ _ _; rw [hn]; simpa using Heap.get?_push_size _ rfl) (fun i h hSt => ?_) (F.push _) (fun p hp => ⟨Heap.get?_push_of_some _ (N p hp).1, (N p hp).2⟩) hj ?_ ?_
  · intro hm
    exact absurd F.ns.lt ((List.mem_singleton.mp hm) ▸ Nat.lt_irrefl _)
  · exact ⟨_, hSt⟩
  · rintro i v m₁ nx h tk own hi ⟨_, t, rfl⟩ hJ h1 h2 h3 F₁ N₁
    have e1 : a₀ + (i : Int) * 1 = a₀ + (i : Int) := by lia
    rw [e1] at F₁
    exact turn _ i t m₁ nx h tk own hi hJ h1 h2 (fun p hp => by have := h3 p hp; simpa using this) F₁ N₁
  · intro m₁ nx h tk hJ F₁ N₁
    exact done m₁ nx h tk hJ F₁ N₁
end

theorem ne_all_lt {l : Ledg} {d e : Addr} (h : ∀ p ∈ l, p.1 < d) (hle : @LE.le Nat _ d e) : ∀ p ∈ l, p.1 ≠ e := fun p hp => Nat.ne_of_lt (Nat.lt_of_lt_of_le (h p hp) hle)
theorem ne_all_gt {l : Ledg} {d e : Addr} (h : ∀ p ∈ l, d < p.1) (hle : @LE.le Nat _ e d) : ∀ p ∈ l, p.1 ≠ e := fun p hp => Nat.ne_of_gt (Nat.lt_of_le_of_lt hle (h p hp))
/-- the ledger with the object at D changed -/
noncomputable def upd (nx : Ledg) (D : Addr) (o : Obj) : Ledg := nx.map fun p => if p.1 = D then (D, o) else p
theorem mem_upd_self {nx : Ledg} {D : Addr} {o o' : Obj} (h : (D, o') ∈ nx) : (D, o) ∈ upd nx D o :=
  List.mem_map.mpr ⟨_, h, by simp⟩
theorem mem_upd_ne {nx : Ledg} {D a : Addr} {o o' : Obj} (h : (a, o') ∈ nx) (hn : a ≠ D) : (a, o') ∈ upd nx D o :=
  List.mem_map.mpr ⟨_, h, by simp [hn]⟩
theorem mem_upd {nx : Ledg} {D : Addr} {o : Obj} {p : Addr × Obj} (h : p ∈ upd nx D o) : p = (D, o) ∨ (p ∈ nx ∧ p.1 ≠ D) := by
  obtain ⟨q, hq, e⟩ := List.mem_map.mp h
  by_cases hd : q.1 = D
  · rw [if_pos hd] at e; exact .inl e.symm
  · rw [if_neg hd] at e; subst e; exact .inr ⟨hq, hd⟩
theorem news_upd' {h₀ h h' : Heap} {L D : Addr} {nx : Ledg} {o o' : Obj} (N : News h₀ L h nx) (hD : (D, o) ∈ nx) (hs : Heap.SameBut D h h') (ho : h'.get? D = some o') : News h₀ L h' (upd nx D o') := by
  intro p hp
  rcases mem_upd hp with rfl | ⟨hq, hne⟩
  · exact ⟨ho, (N _ hD).2⟩
  · exact ⟨(hs.2 _ hne).trans (N p hq).1, (N p hq).2⟩
end

section
section
variable {prog : Program} {w : World} {A : Around} {E : Value → Shared → Prop} {s : Shared} {h₀ : Heap} {L D l : Addr} {m : Str → Option Value} {nx : Ledg} {vs : List Value} {e : Nat}
theorem append_L {x : Value} {Q : Value → Shared → Prop} (F : Fr h₀ L s.heap m) (N : News h₀ L s.heap nx) (hD : (D, listOf vs.toArray e) ∈ nx) (hsz : vs.length ≤ sizeLine)
    (h : ∀ h', Fr h₀ L h' m → News h₀ L h' (upd nx D (listOf (vs ++ [x]).toArray (e + 1))) → Q .none { s with heap := h' }) : wpAny (model prog w) A (call (.builtin "list.append") [.ref D, x]) Q E s := by
  have z := N _ hD
  refine append_at (hsz := by simpa using hsz) z.1 fun h' hs ho' => h h' (F.change hs z.2.1 z.2.2) (news_upd' N hD hs ?_)
  rw [ho']
  simp
theorem set_L {k : Int} {t : Tok} {v : Value} {Q : Unit → Shared → Prop} (F : Fr h₀ L s.heap m) (N : News h₀ L s.heap nx) (hD : (D, listOf vs.toArray e) ∈ nx) (h0 : 0 ≤ k) (h1 : k < vs.length) (hfit : k < 2 ^ 63)
    (h : ∀ h', Fr h₀ L h' m → News h₀ L h' (upd nx D (listOf (vs.set k.toNat v).toArray e)) → Q () { s with heap := h' }) : wpAny (model prog w) A (setItem (.ref D) (.int k t) v) Q E s := by
  have z := N _ hD
  refine ki_setAt z.1 h0 hfit (by simpa using h1) (h _ (F.change (Heap.SameBut.update ..) z.2.1 z.2.2) (news_upd' N hD (Heap.SameBut.update ..) ?_))
  have e1 : Obj.mapSeq (·.setIfInBounds k.toNat v) (listOf vs.toArray e) = listOf (vs.set k.toNat v).toArray e := by
    show (⟨_, _, .seq (vs.toArray.setIfInBounds k.toNat v) (if (vs.toArray.setIfInBounds k.toNat v).size == vs.toArray.size then e else e + 1), _⟩ : Obj) = _
    have : vs.toArray.setIfInBounds k.toNat v = (vs.set k.toNat v).toArray := by apply Array.toList_inj.mp; simp
    rw [this]; simp
  rw [Heap.get?_update_self _ z.1 (by rw [e1]; rfl), e1]
theorem item_L {value slice : PySem.Expr} {k : Int} {u : Tok} {v : Value} {Q : Value → Shared → Prop} (N : News h₀ L s.heap nx) (hD : (D, listOf vs.toArray e) ∈ nx) (h0 : 0 ≤ k) (hhi : k < 2 ^ 63) (hx : vs[k.toNat]? = some v) (h : Q v s)
    (hs : subscripted slice false (.ref D) (.int k u) = operate [.ref D, .int k u] (getItem (.ref D) (.int k u)) := by with_unfolding_all rfl) :
    wpAny (model prog w) A (subscriptTail value slice (.ref D) (.int k u)) Q E s := item_litK (News.isList N hD) h0 hhi hx h hs
theorem len_L {Q : Value → Shared → Prop} (N : News h₀ L s.heap nx) (hD : (D, listOf vs.toArray e) ∈ nx) (hfit : vs.length < 2 ^ 62)
    (h : Q (.int (vs.length : Nat) (s.toks + 1)) { s with toks := s.toks + 1 + 1 }) : wpAny (model prog w) A (call (.builtin "len") [.ref D]) Q E s := by
  have e1 : vs.toArray.size = vs.length := by simp
  refine Calls.call_len_list (News.isList N hD) (by rw [e1]; lia) ?_
  rw [e1]
  exact h
theorem pop_L {p : List Value} {y : Value} {Q : Value → Shared → Prop} (F : Fr h₀ L s.heap m) (N : News h₀ L s.heap nx) (hD : (D, listOf (p ++ [y]).toArray e) ∈ nx) (hz : (p ++ [y]).length ≤ sizeLine)
    (h : ∀ h', Fr h₀ L h' m → News h₀ L h' (upd nx D (listOf p.toArray (e + 1))) → Q y { s with heap := h' }) : wpAny (model prog w) A (call (.builtin "list.pop") [.ref D]) Q E s := by
  have z := N _ hD
  have hz' : (p ++ [y]).toArray.size ≤ sizeLine := by rw [List.size_toArray]; exact hz
  have hk : (p ++ [y]).toArray.size - 1 = p.length := by rw [List.size_toArray, List.length_append]; rfl
  have hy : (p ++ [y]).toArray[(p ++ [y]).toArray.size - 1]? = some y := by rw [hk]; simp
  refine call_meets PySem.F.slot_list_pop ⟨_, z.1, rfl⟩ PySem.F.entry_list_pop (PySem.F.args_list_pop_1 _) (PySem.MeetsSeq.list_pop_last D _ e y hy hz') ⟨z.1, h _ (F.change (Heap.SameBut.update ..) z.2.1 z.2.2) (news_upd' N hD (Heap.SameBut.update ..) ?_)⟩
  have q := PySem.IsL.update z.1 (fun xs => xs.eraseIdxIfInBounds ((p ++ [y]).toArray.size - 1))
  have he : (p ++ [y]).toArray.eraseIdxIfInBounds ((p ++ [y]).toArray.size - 1) = p.toArray := by rw [hk, kl_erase, List.append_nil]
  rw [he, if_neg (by simp)] at q
  exact q
theorem pick_upto {vs : List Value} {y : Int} (h : 0 ≤ y) : slicePick vs.toArray none (some y) none = (vs.take y.toNat).toArray := by
  have e : sliceBounds none (some y) none vs.toArray.size = (((0 : Nat) : Int), ((min y.toNat vs.toArray.size : Nat) : Int), 1) := by
    simp only [sliceBounds, Option.getD_none, show (1 : Int) > 0 by decide, if_true, if_neg (show ¬ (y < 0) by lia)]
    congr 1
    congr 1
    obtain ⟨k, rfl⟩ := Int.eq_ofNat_of_zero_le h
    show max 0 (min ((k : Nat) : Int) ((vs.toArray.size : Nat) : Int)) = ((min k vs.toArray.size : Nat) : Int)
    rcases Nat.le_total k vs.toArray.size with q | q
    · rw [Nat.min_eq_left q, Int.min_eq_left (Int.ofNat_le.mpr q), Int.max_eq_right (Int.natCast_nonneg _)]
    · rw [Nat.min_eq_right q, Int.min_eq_right (Int.ofNat_le.mpr q), Int.max_eq_right (Int.natCast_nonneg _)]
  rw [kmk_pick_nat _ e]
  show ((vs.drop 0).take (min y.toNat vs.toArray.size - 0)).toArray = _
  rw [List.drop_zero, Nat.sub_zero, List.size_toArray, kmk_take_min]
theorem pick_from {vs : List Value} {x : Int} (h : 0 ≤ x) : slicePick vs.toArray (some x) none none = (vs.drop x.toNat).toArray := by
  have e : sliceBounds (some x) none none vs.toArray.size = (((min x.toNat vs.toArray.size : Nat) : Int), ((vs.toArray.size : Nat) : Int), 1) := by
    simp only [sliceBounds, Option.getD_none, show (1 : Int) > 0 by decide, if_true, if_neg (show ¬ (x < 0) by lia)]
    congr 1
    lia
  rw [kmk_pick_nat _ e]
  show ((vs.drop (min x.toNat vs.toArray.size)).take (vs.toArray.size - min x.toNat vs.toArray.size)).toArray = _
  rw [List.size_toArray, kmk_drop_min, List.take_of_length_le (by rw [List.length_drop]; exact Nat.sub_le_sub_left (Nat.min_le_left _ _) _)]
theorem slice_upto_L {value slice : PySem.Expr} {y : Int} {t : Tok} {Q : Value → Shared → Prop} (F : Fr h₀ L s.heap m) (N : News h₀ L s.heap nx) (hl : (l, listOf vs.toArray e) ∈ nx) (hy : 0 ≤ y) (hz : vs.length ≤ sizeLine)
    (h : ∀ D h', Fr h₀ L h' m → News h₀ L h' ((D, listOf (vs.take y.toNat).toArray 0) :: nx) → (∀ p ∈ nx, p.1 < D) → Q (.ref D) { s with heap := h' })
    (hs : subscripted slice false (.ref l) (.ref s.heap.objs.size) = operate [.ref s.heap.objs.size, .ref l] (getItem (.ref l) (.ref s.heap.objs.size))) (ht : ∀ r, letTemporaryGo value (.ref l) r = pure ()) :
    wpAny (model prog w) A (subscriptTail value slice (.ref l) (.ref s.heap.objs.size)) Q E { s with heap := s.heap.push { cls := .type "slice", data := .fields #[.none, .int y t, .none] } } := by
  refine kmk_slice F N (News.isList N hl) .none (.int _ _) (fun D h' F' N' l1 => h D h' F' ?_ l1) hs ht (by simpa using hz)
  rw [pick_upto hy] at N'
  exact N'
theorem slice_from_L {value slice : PySem.Expr} {x : Int} {t : Tok} {Q : Value → Shared → Prop} (F : Fr h₀ L s.heap m) (N : News h₀ L s.heap nx) (hl : (l, listOf vs.toArray e) ∈ nx) (hx : 0 ≤ x) (hz : vs.length ≤ sizeLine)
    (h : ∀ D h', Fr h₀ L h' m → News h₀ L h' ((D, listOf (vs.drop x.toNat).toArray 0) :: nx) → (∀ p ∈ nx, p.1 < D) → Q (.ref D) { s with heap := h' })
    (hs : subscripted slice false (.ref l) (.ref s.heap.objs.size) = operate [.ref s.heap.objs.size, .ref l] (getItem (.ref l) (.ref s.heap.objs.size))) (ht : ∀ r, letTemporaryGo value (.ref l) r = pure ()) :
    wpAny (model prog w) A (subscriptTail value slice (.ref l) (.ref s.heap.objs.size)) Q E { s with heap := s.heap.push { cls := .type "slice", data := .fields #[.int x t, .none, .none] } } := by
  refine kmk_slice F N (News.isList N hl) (.int _ _) .none (fun D h' F' N' l1 => h D h' F' ?_ l1) hs ht (by simpa using hz)
  rw [pick_from hx] at N'
  exact N'
theorem slice_all_L {value slice : PySem.Expr} {Q : Value → Shared → Prop} (F : Fr h₀ L s.heap m) (N : News h₀ L s.heap nx) (hl : (l, listOf vs.toArray e) ∈ nx) (hz : vs.length ≤ sizeLine)
    (h : ∀ D h', Fr h₀ L h' m → News h₀ L h' ((D, listOf vs.toArray 0) :: nx) → (∀ p ∈ nx, p.1 < D) → Q (.ref D) { s with heap := h' })
    (hs : subscripted slice false (.ref l) (.ref s.heap.objs.size) = operate [.ref s.heap.objs.size, .ref l] (getItem (.ref l) (.ref s.heap.objs.size))) (ht : ∀ r, letTemporaryGo value (.ref l) r = pure ()) :
    wpAny (model prog w) A (subscriptTail value slice (.ref l) (.ref s.heap.objs.size)) Q E { s with heap := s.heap.push { cls := .type "slice", data := .fields #[.none, .none, .none] } } := by
  refine kmk_slice F N (News.isList N hl) .none .none (fun D h' F' N' l1 => h D h' F' ?_ l1) hs ht (by simpa using hz)
  rw [slicePick_all] at N'
  exact N'
theorem slice_rev_L {value slice : PySem.Expr} {t : Tok} {ops : List Value} {Q : Value → Shared → Prop} (F : Fr h₀ L s.heap m) (N : News h₀ L s.heap nx) (hl : (l, listOf vs.toArray e) ∈ nx) (hz : vs.length ≤ sizeLine)
    (h : ∀ D h', Fr h₀ L h' m → News h₀ L h' ((D, listOf vs.reverse.toArray 0) :: nx) → (∀ p ∈ nx, p.1 < D) → Q (.ref D) { s with heap := h' })
    (hs : subscripted slice false (.ref l) (.ref s.heap.objs.size) = operate ops (getItem (.ref l) (.ref s.heap.objs.size))) (ht : ∀ r, letTemporaryGo value (.ref l) r = pure ()) :
    wpAny (model prog w) A (subscriptTail value slice (.ref l) (.ref s.heap.objs.size)) Q E { s with heap := s.heap.push { cls := .type "slice", data := .fields #[.none, .none, .int (-1) t] } } :=
  krv_lit (its := vs.toArray) F N (News.isList N hl) (.int _ _) rfl h hs ht (by simpa using hz)
theorem cat_L {a b : Addr} {ws : List Value} {e2 : Nat} {Q : Value → Shared → Prop} (F : Fr h₀ L s.heap m) (N : News h₀ L s.heap nx) (ha : (a, listOf vs.toArray e) ∈ nx) (hb : (b, listOf ws.toArray e2) ∈ nx) (hz : vs.length + ws.length ≤ sizeLine)
    (h : ∀ D h', Fr h₀ L h' m → News h₀ L h' ((D, listOf (vs ++ ws).toArray 0) :: nx) → (∀ p ∈ nx, p.1 < D) → Q (.ref D) { s with heap := h' }) : wpAny (model prog w) A (binaryOp .Add (.ref a) (.ref b)) Q E s :=
  kmk_add_lit (its := vs.toArray) (its2 := ws.toArray) F N (News.isList N ha) (News.isList N hb) rfl h (by simpa using hz)
end
theorem foldl_rep {v : Value} : ∀ (k : Nat) (a : Array Value), List.foldl (fun x1 x2 => x1 ++ x2) a (List.replicate k #[v]) = a ++ (List.replicate k v).toArray
  | 0, a => by simp
  | k + 1, a => by
    rw [List.replicate_succ, List.foldl_cons, foldl_rep k]
    apply Array.toList_inj.mp
    simp [List.replicate_succ]
theorem mul_L {prog : Program} {w : World} {A : Around} {E : Value → Shared → Prop} {s : Shared} {h₀ : Heap} {L l : Addr} {m : Str → Option Value} {nx : Ledg} {v : Value} {e : Nat} {x : Int} {u : Tok} {Q : Value → Shared → Prop} (F : Fr h₀ L s.heap m) (N : News h₀ L s.heap nx) (hl : (l, listOf #[v] e) ∈ nx) (h0 : 0 ≤ x) (hx : x ≤ 1000000)
    (h : ∀ D h', Fr h₀ L h' m → News h₀ L h' ((D, listOf (List.replicate x.toNat v).toArray 0) :: nx) → (∀ p ∈ nx, p.1 < D) → Q (.ref D) { s with heap := h' }) : wpAny (model prog w) A (binaryOp .Mult (.ref l) (.int x u)) Q E s := by
  refine mul_list F N (N _ hl).1 (by lia) (by lia) (by simp; lia) fun h' F' N' => h _ h' F' ?_ fun p hp => Heap.lt_size (N p hp).1
  rw [show (if (#[v] : Array Value).isEmpty = true then 0 else x.toNat) = x.toNat from rfl, foldl_rep] at N'
  simpa using N'
noncomputable def pyMin (a b : Int) : Int := if b < a then b else a
noncomputable def pyMax (a b : Int) : Int := if b > a then b else a
theorem min_py {prog : Program} {w : World} {A : Around} {E : Value → Shared → Prop} {s : Shared} {h₀ : Heap} {L : Addr} {m : Str → Option Value} {nx : Ledg} {a b : Int} {t u : Tok} {Q : Value → Shared → Prop} (hh : A.handled = none) (F : Fr h₀ L s.heap m) (N : News h₀ L s.heap nx)
    (h : ∀ t' h' tk, Fr h₀ L h' m → News h₀ L h' nx → Q (.int (pyMin a b) t') { s with heap := h', toks := tk }) : wpAny (model prog w) A (call (.builtin "min") [.int a t, .int b u]) Q E s :=
  min_two_N hh F N fun h' tk F' N' => h _ h' tk F' N'
theorem max_py {prog : Program} {w : World} {A : Around} {E : Value → Shared → Prop} {s : Shared} {h₀ : Heap} {L : Addr} {m : Str → Option Value} {nx : Ledg} {a b : Int} {t u : Tok} {Q : Value → Shared → Prop} (hh : A.handled = none) (F : Fr h₀ L s.heap m) (N : News h₀ L s.heap nx)
    (h : ∀ t' h' tk, Fr h₀ L h' m → News h₀ L h' nx → Q (.int (pyMax a b) t') { s with heap := h', toks := tk }) : wpAny (model prog w) A (call (.builtin "max") [.int a t, .int b u]) Q E s :=
  max_two_N hh F N fun h' tk F' N' => h _ h' tk F' N'
noncomputable def IntsAt (nx : Ledg) (a : Addr) (xs : List Int) : Prop := ∃ vs e, (a, listOf vs.toArray e) ∈ nx ∧ IntsAre vs xs
theorem IntsAt.mono {nx nx' : Ledg} {a : Addr} {xs : List Int} (h : IntsAt nx a xs) (hs : ∀ o, (a, o) ∈ nx → (a, o) ∈ nx') : IntsAt nx' a xs := let ⟨vs, e, h1, h2⟩ := h; ⟨vs, e, hs _ h1, h2⟩
structure RowsAt (nx : Ledg) (as : List Addr) (xss : List (List Int)) : Prop where
  len : as.length = xss.length
  at' : ∀ i a, as[i]? = some a → IntsAt nx a (xss.getD i [])
theorem RowsAt.mono {nx nx' : Ledg} {as : List Addr} {xss : List (List Int)} (h : RowsAt nx as xss) (hs : ∀ a ∈ as, ∀ o, (a, o) ∈ nx → (a, o) ∈ nx') : RowsAt nx' as xss :=
  ⟨h.len, fun i a ha => (h.at' i a ha).mono (hs a (List.mem_of_getElem? ha))⟩
end

section
noncomputable def bF (b : Bool) (l : List Int) (x : Int) : Int := if b then blF l x else brF l x
theorem bF_bound (b : Bool) (l : List Int) (x : Int) : 0 ≤ bF b l x ∧ bF b l x ≤ (l.length : Int) := by
  unfold bF; split
  · exact blF_bound l x
  · exact brF_bound l x
noncomputable def insF (b : Bool) : List (List Int) → Int → List (List Int) × Nat
  | [], x => ([[x]], 0)
  | l :: ls, x => if bF b l x = (l.length : Int) then ((l ++ [x]) :: ls, 0)
    else (l.set (bF b l x).toNat x :: (insF b ls (l.getD (bF b l x).toNat 0)).1, (insF b ls (l.getD (bF b l x).toNat 0)).2 + 1)
noncomputable def tabStep (b : Bool) (c : List (List Int) × List Int) (x : Int) : List (List Int) × List Int := ((insF b c.1 x).1, c.2 ++ [((insF b c.1 x).2 : Int)])
noncomputable def tabF (b : Bool) (row : List Int) : List (List Int) × List Int := row.foldl (tabStep b) ([], [])
theorem tabF_snoc (b : Bool) (r : List Int) (x : Int) : tabF b (r ++ [x]) = tabStep b (tabF b r) x := by simp [tabF]
structure TabIn (b : Bool) (xss₀ : List (List Int)) (x : Int) (xss : List (List Int)) (d y : Int) : Prop where
  d0 : 0 ≤ d
  dl : d ≤ (xss.length : Int)
  is : insF b xss₀ x = (xss.take d.toNat ++ (insF b (xss.drop d.toNat) y).1, d.toNat + (insF b (xss.drop d.toNat) y).2)
theorem TabIn.start (b : Bool) (xss : List (List Int)) (x : Int) : TabIn b xss x xss 0 x := ⟨Int.le_refl _, by lia, by simp⟩
theorem getD_drop {xss : List (List Int)} {d : Nat} (h : d < xss.length) : xss.drop d = xss.getD d [] :: xss.drop (d + 1) := by
  rw [List.drop_eq_getElem_cons h]
  simp [List.getD, h]
theorem set_take {xss : List (List Int)} {d : Nat} {v : List Int} (h : d < xss.length) : (xss.take (d + 1)).set d v = xss.take d ++ [v] := by
  rw [List.take_add_one, List.getElem?_eq_getElem h]
  have hl : (xss.take d).length = d := by simp; lia
  rw [List.set_append_right _ _ (by lia), hl]
  simp
theorem getD_snoc {xss : List (List Int)} {xs : List Int} {i : Nat} (h : i < xss.length) : (xss ++ [xs]).getD i [] = xss.getD i [] := by
  rw [List.getD_eq_getElem?_getD, List.getElem?_append_left h, ← List.getD_eq_getElem?_getD]
theorem TabIn.step {b : Bool} {xss₀ xss : List (List Int)} {x d y : Int} (h : TabIn b xss₀ x xss d y) (hd : d < (xss.length : Int)) (hp : bF b (xss.getD d.toNat []) y ≠ ((xss.getD d.toNat []).length : Int)) :
    TabIn b xss₀ x (xss.set d.toNat ((xss.getD d.toNat []).set (bF b (xss.getD d.toNat []) y).toNat y)) (d + 1) ((xss.getD d.toNat []).getD (bF b (xss.getD d.toNat []) y).toNat 0) := by
  have d0 := h.d0
  have hdn : d.toNat < xss.length := by lia
  have e1 : (d + 1).toNat = d.toNat + 1 := by lia
  refine ⟨by lia, by rw [List.length_set]; lia, ?_⟩
  rw [h.is, getD_drop hdn, e1]
  simp only [insF, if_neg hp]
  rw [List.drop_set_of_lt (by lia), List.take_set]
  refine Prod.ext ?_ ?_
  · simp only
    rw [set_take hdn, List.append_assoc]
    rfl
  · simp only
    lia
theorem TabIn.stop {b : Bool} {xss₀ xss : List (List Int)} {x d y : Int} (h : TabIn b xss₀ x xss d y) (hd : d < (xss.length : Int)) (hp : bF b (xss.getD d.toNat []) y = ((xss.getD d.toNat []).length : Int)) :
    insF b xss₀ x = (xss.set d.toNat (xss.getD d.toNat [] ++ [y]), d.toNat) := by
  have d0 := h.d0
  have hdn : d.toNat < xss.length := by lia
  rw [h.is, getD_drop hdn]
  simp only [insF, if_pos hp]
  refine Prod.ext ?_ (by simp)
  simp only
  rw [List.set_eq_take_append_cons_drop, if_pos hdn]
theorem TabIn.past {b : Bool} {xss₀ xss : List (List Int)} {x d y : Int} (h : TabIn b xss₀ x xss d y) (hd : ¬ d < (xss.length : Int)) : insF b xss₀ x = (xss ++ [[y]], d.toNat) := by
  have d0 := h.d0
  have dl := h.dl
  have hdn : d.toNat = xss.length := by lia
  rw [h.is, hdn]
  simp [insF]

structure TabL (news nx : Ledg) (ln rs : Addr) (as : List Addr) (xss : List (List Int)) (ds : List Int) : Prop where
  old : ∀ p ∈ news, p ∈ nx
  lines : ∃ e, (ln, listOf (as.map Value.ref).toArray e) ∈ nx
  rests : IntsAt nx rs ds
  rows : RowsAt nx as xss
  nodup : as.Nodup
  lr : ln ≠ rs
  lna : ln ∉ as
  rsa : rs ∉ as
  off : ∀ p ∈ news, p.1 ≠ ln ∧ p.1 ≠ rs ∧ p.1 ∉ as
theorem ints_get {vs : List Value} {xs : List Int} (h : IntsAre vs xs) {i : Nat} (hi : i < xs.length) : ∃ t, vs[i]? = some (.int (xs.getD i 0) t) := by
  obtain ⟨t, ht⟩ := h.get i xs[i] (by simp [hi])
  exact ⟨t, by rw [ht]; simp [List.getD, hi]⟩
theorem ints_at {vs : List Value} {xs : List Int} (h : IntsAre vs xs) {k : Int} {j : Nat} (hk : k = (j : Int)) (hi : j < xs.length) : ∃ t, vs[k.toNat]? = some (.int (xs.getD j 0) t) := by
  have : k.toNat = j := by lia
  rw [this]
  exact ints_get h hi
theorem nodup_get_ne {as : List Addr} (hn : as.Nodup) {i j : Nat} {a b : Addr} (hi : as[i]? = some a) (hj : as[j]? = some b) (h : i ≠ j) : a ≠ b := by
  intro e
  subst e
  obtain ⟨hi', e1⟩ := List.getElem?_eq_some_iff.mp hi
  obtain ⟨hj', e2⟩ := List.getElem?_eq_some_iff.mp hj
  exact h ((List.getElem_inj hn).mp (e1.trans e2.symm))
/-- a row of the table changed -/
theorem TabL.setRow {news nx : Ledg} {ln rs a : Addr} {as : List Addr} {xss : List (List Int)} {ds xs : List Int} {vs : List Value} {e : Nat} {d : Nat} (T : TabL news nx ln rs as xss ds) (ha : as[d]? = some a) (hi : IntsAre vs xs) :
    TabL news (upd nx a (listOf vs.toArray e)) ln rs as (xss.set d xs) ds := by
  have ham : a ∈ as := List.mem_of_getElem? ha
  have n1 : ln ≠ a := fun q => T.lna (q ▸ ham)
  have n2 : rs ≠ a := fun q => T.rsa (q ▸ ham)
  obtain ⟨e1, hl⟩ := T.lines
  refine ⟨fun p hp => ?_, ⟨e1, mem_upd_ne hl n1⟩, T.rests.mono fun o ho => mem_upd_ne ho n2, ⟨by rw [T.rows.len, List.length_set], fun i b hb => ?_⟩, T.nodup, T.lr, T.lna, T.rsa, T.off⟩
  · obtain ⟨pa, po⟩ := p
    exact mem_upd_ne (T.old _ hp) fun q => (T.off _ hp).2.2 (by show pa ∈ as; rw [show pa = a from q]; exact ham)
  · obtain ⟨v0, e0, h0, _⟩ := T.rows.at' d a ha
    by_cases hid : i = d
    · subst hid
      have : a = b := Option.some.inj (ha.symm.trans hb)
      subst this
      have hlt : i < xss.length := by rw [← T.rows.len]; exact (List.getElem?_eq_some_iff.mp ha).1
      refine ⟨vs, e, mem_upd_self h0, ?_⟩
      simpa [List.getD, hlt] using hi
    · have hne : b ≠ a := nodup_get_ne T.nodup hb ha hid
      have := (T.rows.at' i b hb).mono (nx' := upd nx a (listOf vs.toArray e)) fun o ho => mem_upd_ne ho hne
      rw [List.getD_eq_getElem?_getD, List.getElem?_set_ne (Ne.symm hid), ← List.getD_eq_getElem?_getD]
      exact this
/-- a new row at the end -/
theorem TabL.newRow {news nx : Ledg} {ln rs l' : Addr} {as : List Addr} {xss : List (List Int)} {ds : List Int} {xs : List Int} {vs : List Value} {e1 e2 : Nat} (T : TabL news nx ln rs as xss ds) (hnew : ∀ p ∈ nx, p.1 < l') (hi : IntsAre vs xs) :
    TabL news (upd ((l', listOf vs.toArray e2) :: nx) ln (listOf (as.map Value.ref ++ [Value.ref l']).toArray e1)) ln rs (as ++ [l']) (xss ++ [xs]) ds := by
  obtain ⟨e0, hl⟩ := T.lines
  have hlt : ln < l' := hnew _ hl
  obtain ⟨vr, er, hr, ir⟩ := T.rests
  have hrt : rs < l' := hnew _ hr
  have hrow : ∀ i a, as[i]? = some a → a < l' := fun i a ha => by obtain ⟨v, ee, hm, _⟩ := T.rows.at' i a ha; exact hnew _ hm
  have hmem : ∀ a ∈ as, a < l' := fun a ha => by obtain ⟨i, hi', e⟩ := List.getElem_of_mem ha; exact hrow i a (by simp [hi', e])
  refine ⟨fun p hp => ?_, ⟨e1, ?_⟩, ⟨vr, er, mem_upd_ne (.tail _ hr) (Ne.symm T.lr), ir⟩, ⟨by simp [T.rows.len], fun i b hb => ?_⟩, ?_, T.lr, ?_, ?_, fun p hp => ⟨(T.off p hp).1, (T.off p hp).2.1, ?_⟩⟩
  · obtain ⟨pa, po⟩ := p
    exact mem_upd_ne (.tail _ (T.old _ hp)) (T.off _ hp).1
  · rw [List.map_append]
    exact mem_upd_self (.tail _ hl)
  · by_cases hib : i < as.length
    · rw [List.getElem?_append_left hib] at hb
      have h1 := T.rows.at' i b hb
      have hbm : b ∈ as := List.mem_of_getElem? hb
      have := h1.mono (nx' := upd ((l', listOf vs.toArray e2) :: nx) ln (listOf (as.map Value.ref ++ [Value.ref l']).toArray e1)) fun o ho => mem_upd_ne (.tail _ ho) (fun q => T.lna (q ▸ hbm))
      rw [getD_snoc (by rw [← T.rows.len]; exact hib)]
      exact this
    · have hib' : i = as.length := by
        have := (List.getElem?_eq_some_iff.mp hb).1
        simp at this
        lia
      subst hib'
      simp at hb
      subst hb
      refine ⟨vs, e2, mem_upd_ne (.head _) (Nat.ne_of_gt hlt), ?_⟩
      rw [T.rows.len]
      simpa [List.getD] using hi
  · rw [List.nodup_append]
    refine ⟨T.nodup, by simp, fun a ha b hb => ?_⟩
    rw [List.mem_singleton.mp hb]
    exact Nat.ne_of_lt (hmem a ha)
  · intro q
    rcases List.mem_append.mp q with q | q
    · exact T.lna q
    · exact Nat.ne_of_lt hlt (List.mem_singleton.mp q)
  · intro q
    rcases List.mem_append.mp q with q | q
    · exact T.rsa q
    · exact Nat.ne_of_lt hrt (List.mem_singleton.mp q)
  · intro q
    rcases List.mem_append.mp q with q | q
    · exact (T.off p hp).2.2 q
    · have := hnew p (T.old p hp)
      rw [List.mem_singleton.mp q] at this
      exact Nat.lt_irrefl _ this
/-- the list of rests changed -/
theorem TabL.setRests {news nx : Ledg} {ln rs : Addr} {as : List Addr} {xss : List (List Int)} {ds ds' : List Int} {vs : List Value} {e : Nat} (T : TabL news nx ln rs as xss ds) (hi : IntsAre vs ds') :
    TabL news (upd nx rs (listOf vs.toArray e)) ln rs as xss ds' := by
  obtain ⟨e1, hl⟩ := T.lines
  obtain ⟨vr, er, hr, _⟩ := T.rests
  refine ⟨fun p hp => ?_, ⟨e1, mem_upd_ne hl T.lr⟩, ⟨vs, e, mem_upd_self hr, hi⟩, T.rows.mono fun a ha o ho => mem_upd_ne ho fun q => T.rsa (q ▸ ha), T.nodup, T.lr, T.lna, T.rsa, T.off⟩
  obtain ⟨pa, po⟩ := p
  exact mem_upd_ne (T.old _ hp) (T.off _ hp).2.1
theorem TabL.filter {own news nx : Ledg} {I : Addr} {oI : Obj} {ln rs : Addr} {as : List Addr} {xss : List (List Int)} {ds : List Int} (T : TabL (own ++ news) nx ln rs as xss ds) (hI : (I, oI) ∈ own) (hn : ∀ p ∈ news, p.1 ≠ I) :
    TabL news (nx.filter fun p => p.1 != I) ln rs as xss ds := by
  have ho := T.off _ (List.mem_append_left _ hI)
  have keep : ∀ (a : Addr) (o : Obj), a ≠ I → (a, o) ∈ nx → (a, o) ∈ nx.filter fun p => p.1 != I := fun a o ha hm => List.mem_filter.mpr ⟨hm, by simpa using ha⟩
  obtain ⟨e1, hl⟩ := T.lines
  refine ⟨fun p hp => ?_, ⟨e1, keep _ _ (Ne.symm ho.1) hl⟩, T.rests.mono fun o h => keep _ _ (Ne.symm ho.2.1) h, T.rows.mono fun a ha o h => keep _ _ (fun q => ho.2.2 (q ▸ ha)) h, T.nodup, T.lr, T.lna, T.rsa, fun p hp => T.off p (List.mem_append_right _ hp)⟩
  exact List.mem_filter.mpr ⟨T.old p (List.mem_append_right _ hp), by simpa using hn p hp⟩
theorem TabL.lift {own news nx : Ledg} {I l : Addr} {ln rs : Addr} {as : List Addr} {xss : List (List Int)} {ds : List Int} (T : TabL news nx ln rs as xss ds) (hI : ∀ p ∈ nx, p.1 ≠ I) (ho : ∀ p ∈ own, p.1 = I ∨ p.1 = l) (hl : ∃ o, (l, o) ∈ news) :
    TabL (own ++ news) (own ++ nx) ln rs as xss ds := by
  obtain ⟨e1, hm⟩ := T.lines
  obtain ⟨vr, er, hr, ir⟩ := T.rests
  obtain ⟨ol, hl⟩ := hl
  have hrow : ∀ a ∈ as, a ≠ I := fun a ha q => by obtain ⟨i, hi', e⟩ := List.getElem_of_mem ha; obtain ⟨v, ee, hm, _⟩ := T.rows.at' i a (by simp [hi', e]); exact hI _ hm q
  refine ⟨fun p hp => ?_, ⟨e1, List.mem_append_right _ hm⟩, ⟨vr, er, List.mem_append_right _ hr, ir⟩, T.rows.mono fun a ha o h => List.mem_append_right _ h, T.nodup, T.lr, T.lna, T.rsa, fun p hp => ?_⟩
  · exact (List.mem_append.mp hp).elim (fun q => List.mem_append_left _ q) fun q => List.mem_append_right _ (T.old p q)
  · rcases List.mem_append.mp hp with q | q
    · rcases ho p q with e | e
      · exact ⟨fun z => hI _ hm (z.symm.trans e), fun z => hI _ hr (z.symm.trans e), fun z => hrow _ z e⟩
      · rw [e]; exact T.off _ hl
    · exact T.off p q
theorem bF_true {b : Bool} {l : List Int} {x : Int} (h : b = true) : blI l x l.length 0 l.length = bF b l x := by simp [bF, h, blF]
theorem bF_false {b : Bool} {l : List Int} {x : Int} (h : b = false) : brI l x l.length 0 l.length = bF b l x := by simp [bF, h, brF]
noncomputable def Small (n : Nat) (xss : List (List Int)) : Prop := xss.length ≤ n ∧ ∀ xs ∈ xss, xs.length ≤ n
theorem Small.getD {n : Nat} {xss : List (List Int)} (h : Small n xss) (i : Nat) : (xss.getD i []).length ≤ n := by
  rw [List.getD_eq_getElem?_getD]
  cases hq : xss[i]? with
  | none => simp
  | some xs => exact h.2 _ (List.mem_of_getElem? hq)
theorem insF_small (b : Bool) (n : Nat) : ∀ (xss : List (List Int)) (x : Int), Small n xss → Small (n + 1) (insF b xss x).1
  | [], x, h => by
    refine ⟨by simp [insF], fun xs hx => ?_⟩
    simp [insF] at hx
    subst hx
    simp
  | l :: ls, x, h => by
    have hl : l.length ≤ n := h.2 l (by simp)
    have hls : ls.length + 1 ≤ n := h.1
    unfold insF
    split
    · refine ⟨by simp; lia, fun xs hx => ?_⟩
      simp only [List.mem_cons] at hx
      rcases hx with rfl | hx
      · simp; lia
      · have := h.2 xs (by simp [hx]); lia
    · obtain ⟨k, rfl⟩ : ∃ k, n = k + 1 := ⟨n - 1, by lia⟩
      have ih := insF_small b (k + 1) ls (l.getD (bF b l x).toNat 0) ⟨by lia, fun xs hx => h.2 xs (by simp [hx])⟩
      have ih2 : (insF b ls (l.getD (bF b l x).toNat 0)).1.length ≤ ls.length + 1 := insF_len b ls _
      refine ⟨by simp only [List.length_cons]; lia, fun xs hx => ?_⟩
      simp only [List.mem_cons] at hx
      rcases hx with rfl | hx
      · rw [List.length_set]; lia
      · exact ih.2 xs hx
where insF_len (b : Bool) : ∀ (xss : List (List Int)) (x : Int), (insF b xss x).1.length ≤ xss.length + 1
  | [], x => by simp [insF]
  | l :: ls, x => by
    have := insF_len b ls (l.getD (bF b l x).toNat 0)
    unfold insF
    split
    · simp
    · simp only [List.length_cons]; lia
theorem foldl_small (b : Bool) : ∀ (r : List Int) (n : Nat) (c : List (List Int) × List Int), Small n c.1 → Small (n + r.length) (r.foldl (tabStep b) c).1
  | [], n, c, h => h
  | x :: r, n, c, h => by
    have := foldl_small b r (n + 1) (tabStep b c x) (insF_small b n c.1 x h)
    simp only [List.foldl_cons, List.length_cons]
    rw [show n + (r.length + 1) = n + 1 + r.length by lia]
    exact this
theorem tabF_small (b : Bool) (r : List Int) : Small r.length (tabF b r).1 := by
  have := foldl_small b r 0 ([], []) ⟨by simp, by simp⟩
  rw [Nat.zero_add] at this
  exact this
theorem Small.set {n : Nat} {xss : List (List Int)} (h : Small n xss) {i : Nat} {xs : List Int} (hx : xs.length ≤ n) : Small n (xss.set i xs) := by
  refine ⟨by rw [List.length_set]; exact h.1, fun ys hy => ?_⟩
  rcases List.mem_or_eq_of_mem_set hy with q | q
  · exact h.2 ys q
  · rw [q]; exact hx
theorem tab_next {b : Bool} {ns : List Int} {i : Nat} {xss zss : List (List Int)} {ds : List Int} {d : Int} (htab : (xss, ds) = tabF b (ns.take i)) (hil : i < ns.length) (h0 : 0 ≤ d) (hins : insF b xss (ns.getD i 0) = (zss, d.toNat)) :
    (zss, ds ++ [d]) = tabF b (ns.take (i + 1)) := by
  have e : ns.take (i + 1) = ns.take i ++ [ns.getD i 0] := by
    rw [List.take_add_one, List.getElem?_eq_getElem hil]
    simp [List.getD, hil]
  rw [e, tabF_snoc, ← htab, tabStep, hins]
  have : ((d.toNat : Nat) : Int) = d := by lia
  simp only [this]
theorem ints_snoc {vs : List Value} {xs : List Int} {y : Int} {t : Tok} (h : IntsAre vs xs) : IntsAre (vs ++ [.int y t]) (xs ++ [y]) := IntsAre.append h (.cons _ _ .nil)
theorem tabF_len (b : Bool) (r : List Int) : (tabF b r).2.length = r.length := by
  have key : ∀ (r : List Int) (c : List (List Int) × List Int), (r.foldl (tabStep b) c).2.length = c.2.length + r.length := by
    intro r
    induction r with
    | nil => intro c; rfl
    | cons x r ih => intro c; rw [List.foldl_cons, ih]; simp [tabStep]; lia
  have := key r ([], [])
  rw [List.length_nil, Nat.zero_add] at this
  exact this
theorem last_at {as : List Addr} {l' : Addr} {yss : List (List Int)} {d : Int} (hal : as.length = yss.length) (hd : d = (yss.length : Int)) : (as ++ [l'])[d.toNat]? = some l' := by
  have : d.toNat = as.length := by lia
  rw [this]; simp
theorem last_ref {as : List Addr} {l' : Addr} {n : Nat} (h : (as ++ [l'])[n]? = some l') : ((as ++ [l']).map Value.ref)[n]? = some (.ref l') := by simp only [List.getElem?_map, h]; rfl
theorem getD_last' {yss : List (List Int)} {as : List Addr} {d : Int} (hal : yss.length = as.length) (hd : d = (yss.length : Int)) : (yss ++ [[]]).getD d.toNat [] = [] := by
  have : d.toNat = yss.length := by lia
  rw [this]; simp [List.getD]
theorem set_last {yss : List (List Int)} {xs : List Int} {d : Int} (hd : d = (yss.length : Int)) : (yss ++ [[]]).set d.toNat xs = yss ++ [xs] := by
  have : d.toNat = yss.length := by lia
  rw [this]; simp
theorem TabL.grow {news nx nx' : Ledg} {ln rs : Addr} {as : List Addr} {xss : List (List Int)} {ds : List Int} (T : TabL news nx ln rs as xss ds) (hs : ∀ p ∈ nx, p ∈ nx') : TabL news nx' ln rs as xss ds := by
  obtain ⟨e1, hl⟩ := T.lines
  exact ⟨fun p hp => hs p (T.old p hp), ⟨e1, hs _ hl⟩, T.rests.mono fun o h => hs _ h, T.rows.mono fun a _ o h => hs _ h, T.nodup, T.lr, T.lna, T.rsa, T.off⟩
theorem forAt {prog : Program} {w : World} {A : Around} {s : Shared} {env : Env} {h₀ : Heap} {E : Value → Shared → Prop} {Q : Flow → Shared → Prop} {x : Str} {px pos : Pos} {iter : PySem.Expr} {body : List Stmt} {L : Addr} {m : Str → Option Value} (F : Fr h₀ L s.heap m) (hx : env.kindOf x = some .local)
    (hp : (env.scope.kind == .class || (env.scope.kind == .module && env.locals != env.globals)) = false)
    (h : wpAny (model prog w) A (eval iter env) (fun xv s₁ => wpAny (model prog w) A (pyIter xv) (fun it s₂ => LoopAtV prog w A h₀ env x body Q E it s₂) E s₁) E s)
    (hs : ∀ x, foldedSetIterable iter env x = pure x := by intro _; rfl)
    (hE : PassesOwn (model prog w) A env E := by passes_own) :
    wpAny (model prog w) A (exec (.For (.Name x px) iter body [] pos) env) Q E s := For_invV h₀ hx hp h hs hE
theorem TabL.start {news : Ledg} {D ln rs : Addr} {oD : Obj} (h1 : ∀ p ∈ news, p.1 < ln) (h2 : @LT.lt Nat _ ln rs) : TabL news ((D, oD) :: (rs, listOf #[] 0) :: (ln, listOf #[] 0) :: news) ln rs [] [] [] := by
  refine ⟨fun p hp => .tail _ (.tail _ (.tail _ hp)), ⟨0, .tail _ (.tail _ (.head _))⟩, ⟨[], 0, .tail _ (.head _), .nil⟩, ⟨rfl, fun i a h => by simp at h⟩, .nil, Nat.ne_of_lt h2, by simp, by simp, fun p hp => ⟨Nat.ne_of_lt (h1 p hp), Nat.ne_of_lt (Nat.lt_trans (h1 p hp) h2), by simp⟩⟩
end

section
noncomputable def turnF (one : List Int) (k : Nat) : List Int :=
  if pyMin (one.getD (k + 1) 0) (one.getD (k + 2) 0) < one.getD k 0 ∧ one.getD k 0 ≤ pyMax (one.getD (k + 1) 0) (one.getD (k + 2) 0) then one.take (k + 1) ++ [one.getD (k + 2) 0, one.getD (k + 1) 0] ++ one.drop (k + 3)
  else if pyMin (one.getD k 0) (one.getD (k + 1) 0) ≤ one.getD (k + 2) 0 ∧ one.getD (k + 2) 0 < pyMax (one.getD k 0) (one.getD (k + 1) 0) then one.take k ++ [one.getD (k + 1) 0, one.getD k 0] ++ one.drop (k + 2)
  else one
theorem turnF_one {one : List Int} {k : Nat} (h1 : pyMin (one.getD (k + 1) 0) (one.getD (k + 2) 0) < one.getD k 0) (h2 : one.getD k 0 ≤ pyMax (one.getD (k + 1) 0) (one.getD (k + 2) 0)) :
    one.take (k + 1) ++ [one.getD (k + 2) 0, one.getD (k + 1) 0] ++ one.drop (k + 3) = turnF one k := by rw [turnF, if_pos ⟨h1, h2⟩]
theorem turnF_two {one : List Int} {k : Nat} (h0 : ¬ (pyMin (one.getD (k + 1) 0) (one.getD (k + 2) 0) < one.getD k 0 ∧ one.getD k 0 ≤ pyMax (one.getD (k + 1) 0) (one.getD (k + 2) 0)))
    (h1 : pyMin (one.getD k 0) (one.getD (k + 1) 0) ≤ one.getD (k + 2) 0) (h2 : one.getD (k + 2) 0 < pyMax (one.getD k 0) (one.getD (k + 1) 0)) :
    one.take k ++ [one.getD (k + 1) 0, one.getD k 0] ++ one.drop (k + 2) = turnF one k := by rw [turnF, if_neg h0, if_pos ⟨h1, h2⟩]
theorem turnF_length {one : List Int} {k : Nat} (h : k + 2 < one.length) : (turnF one k).length = one.length := by
  unfold turnF
  split
  · simp; lia
  · split
    · simp; lia
    · rfl
noncomputable def kinPut (kin : List (List Int)) (t : List Int) : List (List Int) := if kin.contains t then kin else kin ++ [t]
noncomputable def kinFold (one : List Int) : Nat → List (List Int) → List (List Int)
  | 0, kin => kin
  | k + 1, kin => kinPut (kinFold one k kin) (turnF one k)
noncomputable def kinLoop : Nat → List (List Int) → Nat → Option (List (List Int))
  | 0, _, _ => none
  | f + 1, kin, i => if i < kin.length then kinLoop f (kinFold (kin.getD i []) 3 kin) (i + 1) else some kin
theorem kinPut_all {kin : List (List Int)} {t : List Int} (h : ∀ xs ∈ kin, xs.length = 5) (ht : t.length = 5) : ∀ xs ∈ kinPut kin t, xs.length = 5 := by
  unfold kinPut
  split
  · exact h
  · intro xs hx
    rcases List.mem_append.mp hx with q | q
    · exact h xs q
    · rw [List.mem_singleton.mp q]; exact ht
theorem kinPut_len {kin : List (List Int)} {t : List Int} : (kinPut kin t).length ≤ kin.length + 1 := by
  unfold kinPut
  split <;> simp
theorem of_allLt {d : Addr} : ∀ {l : Ledg}, AllLt d l → ∀ p ∈ l, p.1 < d
  | [], _, p, hp => nomatch hp
  | q :: r, h, p, hp => by
    rcases List.mem_cons.mp hp with rfl | hp
    · exact h.1
    · exact of_allLt h.2 p hp
theorem kinFold_in {one : List Int} {i : Nat} {xss : List (List Int)} {ys : List Int} (hy : ys = turnF one i) (h : (kinFold one i xss).contains ys = true) : kinFold one (i + 1) xss = kinFold one i xss := by
  rw [kinFold, kinPut, ← hy, if_pos h]
theorem kinFold_new {one : List Int} {i : Nat} {xss : List (List Int)} {ys : List Int} (hy : ys = turnF one i) (h : (kinFold one i xss).contains ys = false) : kinFold one (i + 1) xss = kinFold one i xss ++ [ys] := by
  rw [kinFold, kinPut, ← hy, if_neg (by rw [h]; exact Bool.false_ne_true)]
theorem IntsAt.filter {nx : Ledg} {a I : Addr} {xs : List Int} (h : IntsAt nx a xs) (hn : a ≠ I) : IntsAt (nx.filter fun p => p.1 != I) a xs := h.mono fun o ho => List.mem_filter.mpr ⟨ho, by simpa using hn⟩
theorem IntsAt.upd {nx : Ledg} {a D : Addr} {xs : List Int} {vs : List Value} {e : Nat} (h : IntsAt nx a xs) (hn : a ≠ D) : IntsAt (upd nx D (listOf vs.toArray e)) a xs := h.mono fun o ho => mem_upd_ne ho hn
theorem IntsAt.head {h₀ h : Heap} {L t : Addr} {nx : Ledg} {vs : List Value} {e : Nat} {xs : List Int} (N : News h₀ L h ((t, listOf vs.toArray e) :: nx)) (hi : IntsAre vs xs) : IntsAt ((t, listOf vs.toArray e) :: nx) t xs := ⟨vs, e, .head _, hi⟩
theorem kinGrow {h₀ h : Heap} {L : Addr} {nx : Ledg} {p : Addr × Obj} (_ : News h₀ L h nx) (h : p ∈ nx) : p ∈ nx := h
structure KinL (news nx : Ledg) (kn : Addr) (as : List Addr) (xss : List (List Int)) : Prop where
  old : ∀ p ∈ news, p ∈ nx
  kin : ∃ e, (kn, listOf (as.map Value.ref).toArray e) ∈ nx
  rows : RowsAt nx as xss
  kna : kn ∉ as
  off : ∀ p ∈ news, p.1 ≠ kn
theorem KinL.ne {news nx : Ledg} {kn a : Addr} {as : List Addr} {xss : List (List Int)} (T : KinL news nx kn as xss) (h : a ∈ as) : a ≠ kn := fun q => T.kna (q ▸ h)
theorem KinL.put {news nx : Ledg} {kn t : Addr} {as : List Addr} {xss : List (List Int)} {ys : List Int} {e : Nat} (T : KinL news nx kn as xss) (ht : IntsAt nx t ys) (hn : t ≠ kn) :
    KinL news (upd nx kn (listOf (as.map Value.ref ++ [Value.ref t]).toArray e)) kn (as ++ [t]) (xss ++ [ys]) := by
  obtain ⟨e0, hk⟩ := T.kin
  refine ⟨fun p hp => ?_, ⟨e, ?_⟩, ⟨by simp [T.rows.len], fun i b hb => ?_⟩, ?_, T.off⟩
  · obtain ⟨pa, po⟩ := p
    exact mem_upd_ne (T.old _ hp) (T.off _ hp)
  · rw [List.map_append]; exact mem_upd_self hk
  · by_cases hib : i < as.length
    · rw [List.getElem?_append_left hib] at hb
      have hbm : b ∈ as := List.mem_of_getElem? hb
      rw [getD_snoc (by rw [← T.rows.len]; exact hib)]
      exact (T.rows.at' i b hb).mono fun o ho => mem_upd_ne ho fun q => T.kna (q ▸ hbm)
    · have hib' : i = as.length := by
        have := (List.getElem?_eq_some_iff.mp hb).1
        simp at this
        lia
      subst hib'
      simp at hb
      subst hb
      rw [T.rows.len]
      have e1 : (xss ++ [ys]).getD xss.length [] = ys := by simp [List.getD]
      rw [e1]
      exact ht.mono fun o ho => mem_upd_ne ho hn
  · intro q
    rcases List.mem_append.mp q with q | q
    · exact T.kna q
    · exact hn (List.mem_singleton.mp q).symm
theorem KinL.grow {news nx nx' : Ledg} {kn : Addr} {as : List Addr} {xss : List (List Int)} (T : KinL news nx kn as xss) (hs : ∀ p ∈ nx, p ∈ nx') : KinL news nx' kn as xss := by
  obtain ⟨e0, hk⟩ := T.kin
  exact ⟨fun p hp => hs _ (T.old p hp), ⟨e0, hs _ hk⟩, T.rows.mono fun a _ o h => hs _ h, T.kna, T.off⟩
theorem KinL.filter {own news nx : Ledg} {I : Addr} {oI : Obj} {kn : Addr} {as : List Addr} {xss : List (List Int)} (T : KinL (own ++ news) nx kn as xss) (hI : (I, oI) ∈ own) (hn : ∀ p ∈ news, p.1 ≠ I) (ha : I ∉ as) :
    KinL news (nx.filter fun p => p.1 != I) kn as xss := by
  have ho := T.off _ (List.mem_append_left _ hI)
  have keep : ∀ (a : Addr) (o : Obj), a ≠ I → (a, o) ∈ nx → (a, o) ∈ nx.filter fun p => p.1 != I := fun a o ha hm => List.mem_filter.mpr ⟨hm, by simpa using ha⟩
  obtain ⟨e0, hk⟩ := T.kin
  refine ⟨fun p hp => List.mem_filter.mpr ⟨T.old p (List.mem_append_right _ hp), by simpa using hn p hp⟩, ⟨e0, keep _ _ (Ne.symm ho) hk⟩, T.rows.mono fun a ha' o h => keep _ _ (fun q => ha (q ▸ ha')) h, T.kna, fun p hp => T.off p (List.mem_append_right _ hp)⟩
theorem KinL.lift {own news nx : Ledg} {I : Addr} {kn : Addr} {as : List Addr} {xss : List (List Int)} (T : KinL news nx kn as xss) (hI : ∀ p ∈ nx, p.1 ≠ I) (ho : ∀ p ∈ own, p.1 = I) :
    KinL (own ++ news) (own ++ nx) kn as xss := by
  obtain ⟨e0, hk⟩ := T.kin
  refine ⟨fun p hp => (List.mem_append.mp hp).elim (fun q => List.mem_append_left _ q) fun q => List.mem_append_right _ (T.old p q), ⟨e0, List.mem_append_right _ hk⟩, T.rows.mono fun a _ o h => List.mem_append_right _ h, T.kna, fun p hp => ?_⟩
  rcases List.mem_append.mp hp with q | q
  · intro z; exact hI _ hk (z.symm.trans (ho p q))
  · exact T.off p q
theorem KinL.start {news : Ledg} {D kn l : Addr} {oD : Obj} {ns : List Int} (h1 : ∀ p ∈ news, p.1 < kn) (hl : IntsAt news l ns) : KinL news ((D, oD) :: (kn, listOf #[.ref l] 0) :: news) kn [l] [ns] := by
  obtain ⟨v, e, hm, hi⟩ := hl
  refine ⟨fun p hp => .tail _ (.tail _ hp), ⟨0, .tail _ (.head _)⟩, ⟨rfl, fun i a h => ?_⟩, ?_, fun p hp => Nat.ne_of_lt (h1 p hp)⟩
  · cases i with
    | zero =>
      simp at h; subst h
      exact ⟨v, e, .tail _ (.tail _ hm), hi⟩
    | succ i => simp at h
  · intro q
    have := h1 _ hm
    rw [List.mem_singleton.mp q] at this
    exact Nat.lt_irrefl _ this
/-- reading nested lists of ints as data -/
noncomputable def dInts (xs : List Int) : PyData := .list (xs.map PyData.int)
noncomputable def dRows (xss : List (List Int)) : PyData := .list (xss.map dInts)
theorem IntsAt.reads {h₀ h : Heap} {L a : Addr} {nx : Ledg} {xs : List Int} (H : IntsAt nx a xs) (N : News h₀ L h nx) : ∃ as, Reads h (.ref a) (dInts xs) as := by
  obtain ⟨vs, e, hm, hi⟩ := H
  exact ⟨_, Reads.list (N _ hm).1 rfl rfl (hi.reads h)⟩
theorem rows_reads {h₀ h : Heap} {L : Addr} {nx : Ledg} (N : News h₀ L h nx) : ∀ {as : List Addr} {xss : List (List Int)}, RowsAt nx as xss → ∃ bs, ReadsAll h (as.map Value.ref) (xss.map dInts) bs := by
  intro as
  induction as with
  | nil =>
    intro xss H
    have : xss = [] := List.length_eq_zero_iff.mp H.len.symm
    subst this
    exact ⟨_, .nil⟩
  | cons a as ih =>
    intro xss H
    cases xss with
    | nil => have := H.len; simp at this
    | cons xs xss =>
      obtain ⟨b1, r1⟩ := (H.at' 0 a rfl).reads N
      obtain ⟨b2, r2⟩ := ih (xss := xss) ⟨by have := H.len; simpa using this, fun i b hb => H.at' (i + 1) b (by simpa using hb)⟩
      exact ⟨_, .cons r1 r2⟩
theorem grid_reads {h₀ h : Heap} {L l : Addr} {nx : Ledg} {as : List Addr} {xss : List (List Int)} {e : Nat} (N : News h₀ L h nx) (hl : (l, listOf (as.map Value.ref).toArray e) ∈ nx) (H : RowsAt nx as xss) : ∃ bs, Reads h (.ref l) (dRows xss) bs := by
  obtain ⟨bs, r⟩ := rows_reads N H
  exact ⟨_, Reads.list (N _ hl).1 rfl rfl (by simpa using r)⟩
theorem dInts_can (xs : List Int) : (dInts xs).canLay0 = true := by
  unfold dInts PyData.canLay0
  exact ke_canLayAll0 xs
theorem dRows_can (xss : List (List Int)) : PyData.canLayAll0 (xss.map dInts) = true := by
  induction xss with
  | nil => rfl
  | cons x r ih => simp only [List.map_cons, PyData.canLayAll0, dInts_can, ih, Bool.and_self]
theorem dInts_eqv (xs ys : List Int) : PyData.eqv (dInts xs) (dInts ys) = decide (xs = ys) := by
  unfold dInts PyData.eqv
  exact ked_eqvAll xs ys
theorem dRows_any (xss : List (List Int)) (t : List Int) : ((xss.map dInts).any fun y => PyData.eqv y (dInts t)) = xss.contains t := by
  induction xss with
  | nil => rfl
  | cons x r ih =>
    rw [List.map_cons, List.any_cons, ih, dInts_eqv, List.contains_cons]
    congr 1
    by_cases h : x = t
    · simp [h]
    · simp [h, Ne.symm h]
theorem dInts_depth (xs : List Int) : (dInts xs).depth ≤ 2 := by
  unfold dInts
  simp [PyData.depth, ke_depthAll]
theorem notIn_kin {prog : Program} {w : World} {A : Around} {E : Value → Shared → Prop} {s : Shared} {h₀ : Heap} {L kn t : Addr} {nx news : Ledg} {as : List Addr} {xss : List (List Int)} {ys : List Int} {Q : Value → Shared → Prop}
    (N : News h₀ L s.heap nx) (T : KinL news nx kn as xss) (ht : IntsAt nx t ys) (hu : A.units + 4 < cLine) (h : Q (.bool (!xss.contains ys)) s) : wpAny (model prog w) A (compareOp .NotIn (.ref t) (.ref kn)) Q E s := by
  obtain ⟨e, hk⟩ := T.kin
  obtain ⟨b1, r1⟩ := grid_reads N hk T.rows
  obtain ⟨b2, r2⟩ := ht.reads N
  refine SeqAt.notIn_list_reads r1 r2 (dRows_can xss) (dInts_can ys) ?_ (by rw [dRows_any]; exact h)
  have := dInts_depth ys
  lia
end

section
noncomputable def upF : Nat → List (List Int) → Int → Option (List (List Int) × Int)
  | 0, xss, y => some (xss, y)
  | j + 1, xss, y => if 1 ≤ blF (xss.getD j []) y then upF j (xss.set j ((xss.getD j []).set (blF (xss.getD j []) y - 1).toNat y)) ((xss.getD j []).getD (blF (xss.getD j []) y - 1).toNat 0) else none
noncomputable def backF : List Int → List (List Int) → List Int → Option (List Int)
  | [], _, row => some row
  | d :: ds, xss, row => if 0 ≤ d ∧ d < (xss.length : Int) ∧ 0 < (xss.getD d.toNat []).length then
      (match upF d.toNat (xss.set d.toNat (xss.getD d.toNat []).dropLast) ((xss.getD d.toNat []).getLastD 0) with
        | some r => backF ds r.1 (row ++ [r.2])
        | none => none)
    else none
structure BkL (keep nx : Ledg) (ln rs rw : Addr) (as : List Addr) (xss : List (List Int)) (ds row : List Int) : Prop where
  tab : TabL keep nx ln rs as xss ds
  row : IntsAt nx rw row
  rl : rw ≠ ln
  rr : rw ≠ rs
  ra : rw ∉ as
  rk : ∀ p ∈ keep, p.1 ≠ rw
theorem BkL.setRow {keep nx : Ledg} {ln rs rw a : Addr} {as : List Addr} {xss : List (List Int)} {ds row xs : List Int} {vs : List Value} {e : Nat} {d : Nat} (T : BkL keep nx ln rs rw as xss ds row) (ha : as[d]? = some a) (hi : IntsAre vs xs) :
    BkL keep (upd nx a (listOf vs.toArray e)) ln rs rw as (xss.set d xs) ds row :=
  ⟨T.tab.setRow ha hi, T.row.upd fun q => T.ra (q ▸ List.mem_of_getElem? ha), T.rl, T.rr, T.ra, T.rk⟩
theorem TabL.other {keep nx : Ledg} {ln rs rw : Addr} {as : List Addr} {xss : List (List Int)} {ds : List Int} {o : Obj} (T : TabL keep nx ln rs as xss ds) (rl : rw ≠ ln) (rr : rw ≠ rs) (ra : rw ∉ as) (rk : ∀ p ∈ keep, p.1 ≠ rw) : TabL keep (upd nx rw o) ln rs as xss ds := by
  obtain ⟨e1, hl⟩ := T.lines
  refine ⟨fun p hp => ?_, ⟨e1, mem_upd_ne hl (Ne.symm rl)⟩, T.rests.mono fun o h => mem_upd_ne h (Ne.symm rr), T.rows.mono fun a ha o h => mem_upd_ne h fun q => ra (q ▸ ha), T.nodup, T.lr, T.lna, T.rsa, T.off⟩
  obtain ⟨pa, po⟩ := p
  exact mem_upd_ne (T.old _ hp) (rk _ hp)
theorem BkL.setOut {keep nx : Ledg} {ln rs rw : Addr} {as : List Addr} {xss : List (List Int)} {ds row row' : List Int} {vs : List Value} {e : Nat} (T : BkL keep nx ln rs rw as xss ds row) (hi : IntsAre vs row') :
    BkL keep (upd nx rw (listOf vs.toArray e)) ln rs rw as xss ds row' := by
  obtain ⟨v0, e0, h0, _⟩ := T.row
  exact ⟨T.tab.other T.rl T.rr T.ra T.rk, ⟨vs, e, mem_upd_self h0, hi⟩, T.rl, T.rr, T.ra, T.rk⟩
theorem BkL.grow {keep nx nx' : Ledg} {ln rs rw : Addr} {as : List Addr} {xss : List (List Int)} {ds row : List Int} (T : BkL keep nx ln rs rw as xss ds row) (hs : ∀ p ∈ nx, p ∈ nx') : BkL keep nx' ln rs rw as xss ds row :=
  ⟨T.tab.grow hs, T.row.mono fun o h => hs _ h, T.rl, T.rr, T.ra, T.rk⟩
theorem BkL.filter {own keep nx : Ledg} {I : Addr} {oI : Obj} {ln rs rw : Addr} {as : List Addr} {xss : List (List Int)} {ds row : List Int} (T : BkL (own ++ keep) nx ln rs rw as xss ds row) (hI : (I, oI) ∈ own) (hn : ∀ p ∈ keep, p.1 ≠ I) :
    BkL keep (nx.filter fun p => p.1 != I) ln rs rw as xss ds row :=
  ⟨T.tab.filter hI hn, T.row.filter (Ne.symm (T.rk _ (List.mem_append_left _ hI))), T.rl, T.rr, T.ra, fun p hp => T.rk p (List.mem_append_right _ hp)⟩
/-- what a loop keeps of its own comes to what is kept -/
theorem BkL.lift {own keep nx : Ledg} {I l : Addr} {ln rs rw : Addr} {as : List Addr} {xss : List (List Int)} {ds row : List Int} (T : BkL keep nx ln rs rw as xss ds row) (hI : ∀ p ∈ nx, p.1 ≠ I) (ho : ∀ p ∈ own, p.1 = I ∨ p.1 = l) (hl : ∃ o, (l, o) ∈ keep) :
    BkL (own ++ keep) (own ++ nx) ln rs rw as xss ds row := by
  obtain ⟨v0, e0, h0, i0⟩ := T.row
  refine ⟨T.tab.lift hI ho hl, ⟨v0, e0, List.mem_append_right _ h0, i0⟩, T.rl, T.rr, T.ra, fun p hp => ?_⟩
  obtain ⟨ol, hl⟩ := hl
  rcases List.mem_append.mp hp with q | q
  · rcases ho p q with e | e
    · intro z; exact hI _ h0 (z.symm.trans e)
    · rw [e]; exact T.rk _ hl
  · exact T.rk p q
/-- a fresh object comes to what is kept -/
theorem BkL.keepNew {keep nx : Ledg} {D : Addr} {o : Obj} {ln rs rw : Addr} {as : List Addr} {xss : List (List Int)} {ds row : List Int} (T : BkL keep nx ln rs rw as xss ds row) (hD : ∀ p ∈ nx, p.1 < D) : BkL ((D, o) :: keep) ((D, o) :: nx) ln rs rw as xss ds row := by
  obtain ⟨e1, hl⟩ := T.tab.lines
  obtain ⟨vr, er, hr, _⟩ := T.tab.rests
  obtain ⟨vw, ew, hw, _⟩ := T.row
  have T' := T.grow (nx' := (D, o) :: nx) fun p hp => .tail _ hp
  refine ⟨⟨fun p hp => ?_, T'.tab.lines, T'.tab.rests, T'.tab.rows, T.tab.nodup, T.tab.lr, T.tab.lna, T.tab.rsa, fun p hp => ?_⟩, T'.row, T.rl, T.rr, T.ra, fun p hp => ?_⟩
  · rcases List.mem_cons.mp hp with rfl | hp
    · exact .head _
    · exact .tail _ (T.tab.old p hp)
  · rcases List.mem_cons.mp hp with rfl | hp
    · refine ⟨Nat.ne_of_gt (hD _ hl), Nat.ne_of_gt (hD _ hr), fun q => ?_⟩
      obtain ⟨i, hi', e⟩ := List.getElem_of_mem q
      obtain ⟨v, ee, hm, _⟩ := T.tab.rows.at' i D (by simp [hi', e])
      exact Nat.lt_irrefl _ (hD _ hm)
    · exact T.tab.off p hp
  · rcases List.mem_cons.mp hp with rfl | hp
    · exact Nat.ne_of_gt (hD _ hw)
    · exact T.rk p hp
theorem BkL.weaken {keep keep' nx : Ledg} {ln rs rw : Addr} {as : List Addr} {xss : List (List Int)} {ds row : List Int} (T : BkL keep nx ln rs rw as xss ds row) (hs : ∀ p ∈ keep', p ∈ keep) : BkL keep' nx ln rs rw as xss ds row :=
  ⟨⟨fun p hp => T.tab.old p (hs p hp), T.tab.lines, T.tab.rests, T.tab.rows, T.tab.nodup, T.tab.lr, T.tab.lna, T.tab.rsa, fun p hp => T.tab.off p (hs p hp)⟩, T.row, T.rl, T.rr, T.ra, fun p hp => T.rk p (hs p hp)⟩
theorem BkL.start {keep news : Ledg} {ln rs rw : Addr} {as : List Addr} {xss : List (List Int)} {ds : List Int} (T : TabL keep news ln rs as xss ds) (hD : ∀ p ∈ news, p.1 < rw) : BkL keep ((rw, listOf #[] 0) :: news) ln rs rw as xss ds [] := by
  obtain ⟨e1, hl⟩ := T.lines
  obtain ⟨vr, er, hr, _⟩ := T.rests
  refine ⟨T.grow fun p hp => .tail _ hp, ⟨[], 0, .head _, .nil⟩, Nat.ne_of_gt (hD _ hl), Nat.ne_of_gt (hD _ hr), fun q => ?_, fun p hp => Nat.ne_of_lt (hD _ (T.old p hp))⟩
  obtain ⟨i, hi', e⟩ := List.getElem_of_mem q
  obtain ⟨v, ee, hm, _⟩ := T.rows.at' i rw (by simp [hi', e])
  exact Nat.lt_irrefl _ (hD _ hm)
theorem ints_unsnoc {vs : List Value} {xs : List Int} (h : IntsAre vs xs) (hx : 0 < xs.length) : ∃ p t, vs = p ++ [.int (xs.getLastD 0) t] ∧ IntsAre p xs.dropLast := by
  induction h with
  | nil => simp at hx
  | cons i t h ih =>
    rename_i vs xs
    cases xs with
    | nil => cases h; exact ⟨[], t, rfl, .nil⟩
    | cons x xs =>
      obtain ⟨p, t', e, hp⟩ := ih (by simp)
      refine ⟨.int i t :: p, t', ?_, ?_⟩
      · rw [e]; simp [List.getLastD]
      · exact .cons _ _ hp
theorem rev_take_at {as : List Addr} {d i : Nat} {v : Value} (h : ((as.map Value.ref).take d).reverse[i]? = some v) (hd : d ≤ as.length) : i < d ∧ ∃ a, as[d - 1 - i]? = some a ∧ v = .ref a := by
  have hlen : ((as.map Value.ref).take d).length = d := by simp; lia
  have hi : i < d := by
    have := (List.getElem?_eq_some_iff.mp h).1
    simpa [hlen] using this
  refine ⟨hi, ?_⟩
  rw [List.getElem?_reverse (by rw [hlen]; exact hi), hlen, List.getElem?_take_of_lt (by lia), List.getElem?_map] at h
  cases q : as[d - 1 - i]? with
  | none => rw [q] at h; cases h
  | some a => rw [q] at h; exact ⟨a, rfl, (Option.some.inj h).symm⟩
theorem upF_step {n i : Nat} {xss : List (List Int)} {y : Int} {r : List (List Int) × Int} (hi : i < n) (h : upF (n - i) xss y = some r) :
    1 ≤ blF (xss.getD (n - 1 - i) []) y ∧ upF (n - (i + 1)) (xss.set (n - 1 - i) ((xss.getD (n - 1 - i) []).set (blF (xss.getD (n - 1 - i) []) y - 1).toNat y)) ((xss.getD (n - 1 - i) []).getD (blF (xss.getD (n - 1 - i) []) y - 1).toNat 0) = some r := by
  have e : n - i = (n - 1 - i) + 1 := by lia
  have e2 : n - (i + 1) = n - 1 - i := by lia
  rw [e, upF] at h
  split at h
  · rename_i q; rw [e2]; exact ⟨q, h⟩
  · cases h
theorem backF_step {d : Int} {ds : List Int} {xss : List (List Int)} {row res : List Int} (h : backF (d :: ds) xss row = some res) :
    (0 ≤ d ∧ d < (xss.length : Int) ∧ 0 < (xss.getD d.toNat []).length) ∧ ∃ r, upF d.toNat (xss.set d.toNat (xss.getD d.toNat []).dropLast) ((xss.getD d.toNat []).getLastD 0) = some r ∧ backF ds r.1 (row ++ [r.2]) = some res := by
  rw [backF] at h
  split at h
  · rename_i q
    refine ⟨q, ?_⟩
    split at h
    · rename_i r hr; exact ⟨r, hr, h⟩
    · cases h
  · cases h
theorem drop_at {xs : List Int} {i : Nat} (h : i < xs.length) : xs.drop i = xs.getD i 0 :: xs.drop (i + 1) := by
  rw [List.drop_eq_getElem_cons h]
  simp [List.getD, h]
end

section
/-- the k lowest digits of x to the base 2^n, lowest first -/
noncomputable def dg (n : Nat) : Nat → Nat → List Int
  | _, 0 => []
  | x, k + 1 => ((x % 2 ^ n : Nat) : Int) :: dg n (x / 2 ^ n) k
theorem dg_length (n : Nat) : ∀ k x, (dg n x k).length = k
  | 0, _ => rfl
  | k + 1, x => by simp [dg, dg_length n k]
theorem dg_split (n : Nat) : ∀ j k x, dg n x (j + k) = dg n (x % 2 ^ (n * j)) j ++ dg n (x / 2 ^ (n * j)) k
  | 0, k, x => by simp [dg]
  | j + 1, k, x => by
    rw [show j + 1 + k = (j + k) + 1 by lia]
    simp only [dg, List.cons_append]
    rw [dg_split n j k]
    have e1 : 2 ^ (n * (j + 1)) = 2 ^ n * 2 ^ (n * j) := by rw [Nat.mul_succ, Nat.pow_add, Nat.mul_comm]
    rw [e1, Nat.mod_mul_right_div_self, Nat.div_div_eq_div_mul]
    congr 2
    rw [Nat.mod_mul_right_mod]
theorem upd_upd {nx : Ledg} {D : Addr} {o o' : Obj} : upd (upd nx D o) D o' = upd nx D o' := by
  simp only [upd, List.map_map]
  apply List.map_congr_left
  intro p _
  simp only [Function.comp]
  by_cases h : p.1 = D <;> simp [h]
theorem bits_nat (x : Nat) : Builtin.Int.intBits (x : Int) = if x = 0 then 0 else x.log2 + 1 := by
  unfold Builtin.Int.intBits
  by_cases h : x = 0
  · subst h; rfl
  · have : (x : Int) ≠ 0 := by lia
    simp [h]
theorem bits_lt {x k : Nat} (h : x < 2 ^ k) : Builtin.Int.intBits (x : Int) ≤ k := by
  rw [bits_nat]
  split
  · lia
  · rename_i hx
    have := (Nat.log2_lt hx).mpr h
    lia
theorem lt_bits (x : Nat) : x < 2 ^ Builtin.Int.intBits (x : Int) := by
  rw [bits_nat]
  split
  · lia
  · exact Nat.lt_log2_self
theorem xor_low (x k : Nat) : Builtin.bitXor (x : Int) ((x / 2 ^ k * 2 ^ k : Nat) : Int) = ((x % 2 ^ k : Nat) : Int) := by
  rw [bitXor_and, bitAnd_pp (by lia) (by lia)]
  have h : (x : Int).toNat &&& ((x / 2 ^ k * 2 ^ k : Nat) : Int).toNat = x / 2 ^ k * 2 ^ k := by
    rw [Int.toNat_natCast, Int.toNat_natCast]
    apply Nat.eq_of_testBit_eq
    intro i
    rw [Nat.testBit_and, Nat.testBit_mul_two_pow, Nat.testBit_div_two_pow]
    by_cases hi : k ≤ i
    · simp [hi]
    · simp [hi]
  rw [h]
  have := Nat.div_add_mod x (2 ^ k)
  rw [Nat.mul_comm] at this
  generalize x / 2 ^ k * 2 ^ k = a at *
  generalize x % 2 ^ k = b at *
  lia
section
variable {prog : Program} {w : World} {A : Around} {E : Value → Shared → Prop} {s : Shared} {Q : Value → Shared → Prop} {a n b : Int} {t u : Tok}
theorem rsh_to {x k y : Nat} (ha : a = x) (hn : n = k) (hy : x / 2 ^ k = y) (h : Q (.int (y : Int) s.toks) { s with toks := s.toks + 1 }) : wpAny (model prog w) A (binaryOp .RShift (.int a t) (.int n u)) Q E s := by
  subst ha hn hy
  refine rshift_int (by lia) ?_
  rw [Int.toNat_natCast, show (2 : Int) ^ k = ((2 ^ k : Nat) : Int) by norm_cast, Int.fdiv_eq_ediv_of_nonneg _ (Int.natCast_nonneg _)]
  exact_mod_cast h
theorem lsh_to {x k : Nat} (ha : a = x) (hn : n = k) (hsz : Builtin.Int.intBits (x : Int) + k ≤ 100000) (h : Q (.int ((x * 2 ^ k : Nat) : Int) s.toks) { s with toks := s.toks + 1 }) : wpAny (model prog w) A (binaryOp .LShift (.int a t) (.int n u)) Q E s := by
  subst ha hn
  refine lshift_int (by lia) (by lia) ?_
  rw [Int.toNat_natCast, show (2 : Int) ^ k = ((2 ^ k : Nat) : Int) by norm_cast]
  exact_mod_cast h
theorem xor_to {x k : Nat} (ha : a = x) (hb : b = ((x / 2 ^ k * 2 ^ k : Nat) : Int)) (h : Q (.int ((x % 2 ^ k : Nat) : Int) s.toks) { s with toks := s.toks + 1 }) : wpAny (model prog w) A (binaryOp .BitXor (.int a t) (.int b u)) Q E s := by
  subst ha hb
  refine xor_int ?_
  rw [xor_low]
  exact h
end
/-- the code table of a def that makes one def, empty or filled -/
noncomputable def TabOk (P : Addr) (li co : Nat) (qual : Str) (nx : Ledg) : Prop :=
  (P, tabObj #[]) ∈ nx ∨ ∃ c' oc vs t, (P, tabObj #[rawInt li, rawInt co, .ref c']) ∈ nx ∧ (c', oc) ∈ nx ∧ oc.data = .fields vs ∧ vs[1]? = some (.str qual t)
theorem TabOk.mono {P : Addr} {li co : Nat} {qual : Str} {nx nx' : Ledg} (h : TabOk P li co qual nx) (hs : ∀ p ∈ nx, p ∈ nx') : TabOk P li co qual nx' := by
  rcases h with h | ⟨c', oc, vs, t, h1, h2, h3⟩
  · exact .inl (hs _ h)
  · exact .inr ⟨c', oc, vs, t, hs _ h1, hs _ h2, h3⟩
theorem TabOk.got {P : Addr} {li co : Nat} {qual : Str} {nx : Ledg} (h : TabOk P li co qual nx) : ∃ o, (P, o) ∈ nx := by
  rcases h with h | ⟨c', oc, vs, t, h1, _⟩
  · exact ⟨_, h⟩
  · exact ⟨_, h1⟩
section
variable {M : Model} {A : Around} {E : Value → Shared → Prop} {s : Shared} {h₀ : Heap} {L a c P : Addr} {m mg mb : Str → Option Value} {cn : Str} {cs : Scope} {ccd : Value} {cl : List (Str × Addr)} {news : Ledg}
  {p : Program} {loose : List Str} {mean : ExcName → Option Value} {name qual : Str} {params : Arguments} {body : List Stmt} {scope : Scope} {pos : Pos} {firstLine : Nat} {clos : List (Str × Addr)}
theorem nest_any {Q : Value → Shared → Prop} (keep : Ledg) (F : Fr h₀ L s.heap m) (N : News h₀ L s.heap news) (T : Top p loose mean mg mb h₀) (C : CodeHd h₀ c P) (hcd : ccd = .ref c) {old : Ledg} (hm : TabOk P pos.line pos.col qual old) (hold : ∀ q ∈ old, q ∈ news) (hk : ∀ q ∈ keep, q ∈ news ∧ q.1 ≠ P)
    (hcl : closureFor scope (envX cn cs L a ccd cl) = pure clos)
    (h : ∀ f c' oc vs t ctv doc h' tk, Fr h₀ L h' m →
      News h₀ L h' ((f, fnMade name qual params body scope clos doc ((mg "__name__").getD .none) c' ctv) :: (c', oc) :: (P, tabObj #[rawInt pos.line, rawInt pos.col, .ref c']) :: keep) →
      oc.data = .fields vs → vs[1]? = some (.str qual t) → (∀ q ∈ news, q.1 < f) → ((c', oc) ∈ old ∨ ∀ q ∈ news, q.1 < c') → c' < f → Q (.ref f) { s with heap := h', toks := tk }) :
    wpAny M A (makeFunction name qual params (.stmts body) scope (envX cn cs L a ccd cl) [] [] [] pos firstLine) Q E s := by
  rcases hm with hm | ⟨c', oc, vs, t, h1, h2', h3, h4⟩
  · have hm := hold _ hm
    have N' : News h₀ L s.heap ((P, tabObj #[]) :: news.filter fun q => q.1 != P) := fun q hq => by
      rcases List.mem_cons.mp hq with rfl | hq
      · exact N _ hm
      · exact N q (List.mem_filter.mp hq).1
    have hlt : ∀ {d : Addr}, (∀ q ∈ (P, tabObj #[]) :: news.filter fun q => q.1 != P, q.1 < d) → ∀ q ∈ news, q.1 < d := fun {d} k q hq => by
      by_cases e : q.1 = P
      · rw [e]; exact k _ (List.Mem.head _)
      · exact k q (List.mem_cons_of_mem _ (List.mem_filter.mpr ⟨hq, by simpa using e⟩))
    refine nest_K (mg := mg) F N' T C hcd (UpdF.head fun q hq => by have := (List.mem_filter.mp hq).2; simpa using this) trivial rfl hcl fun f c' oc vs t ctv doc h' tk F' N2 e1 e2 l1 l2 => ?_
    refine h f c' oc vs t ctv doc h' tk F' (fun q hq => N2 q ?_) e1 e2 (fun q hq => Nat.lt_trans (hlt l1 q hq) l2) (.inr (hlt l1)) l2
    rcases List.mem_cons.mp hq with rfl | hq
    · exact List.Mem.head _
    rcases List.mem_cons.mp hq with rfl | hq
    · exact List.mem_cons_of_mem _ (List.Mem.head _)
    rcases List.mem_cons.mp hq with rfl | hq
    · exact List.mem_cons_of_mem _ (List.mem_cons_of_mem _ (List.Mem.head _))
    · exact List.mem_cons_of_mem _ (List.mem_cons_of_mem _ (List.mem_cons_of_mem _ (List.mem_filter.mpr ⟨(hk q hq).1, by simpa using (hk q hq).2⟩)))
  · have h1 := hold _ h1
    have h2 := hold _ h2'
    refine nestHit_K (mg := mg) (c' := c') F N T C hcd h1 (by simp [TriplesOk, rawInt]) (by simp [codeAmong, rawInt]) hcl fun f ctv doc h' tk F' N2 l1 => ?_
    refine h f c' oc vs t ctv doc h' tk F' (fun q hq => N2 q ?_) h3 h4 l1 (.inl h2') (l1 _ h2)
    rcases List.mem_cons.mp hq with rfl | hq
    · exact List.Mem.head _
    rcases List.mem_cons.mp hq with rfl | hq
    · exact List.mem_cons_of_mem _ h2
    rcases List.mem_cons.mp hq with rfl | hq
    · exact List.mem_cons_of_mem _ h1
    · exact List.mem_cons_of_mem _ (hk q hq).1
end
theorem filt_lt {news : Ledg} {d : Addr} (h : ∀ p ∈ news, p.1 < d) (P : Addr) : ∀ p ∈ news.filter (fun q => q.1 != P), p.1 < d := fun p hp => h p (List.mem_filter.mp hp).1
theorem filt_keep (news : Ledg) (P : Addr) : ∀ p ∈ news, p.1 ≠ P → p ∈ news.filter (fun q => q.1 != P) := fun p hp hn => List.mem_filter.mpr ⟨hp, by simpa using hn⟩
theorem nest_pre {M : Model} {A : Around} {E : Value → Shared → Prop} {s : Shared} {h₀ : Heap} {L a c P : Addr} {m mg mb : Str → Option Value} {cn : Str} {cs : Scope} {ccd : Value} {cl : List (Str × Addr)} {news : Ledg}
  {p : Program} {loose : List Str} {mean : ExcName → Option Value} {name qual : Str} {params : Arguments} {body : List Stmt} {scope : Scope} {pos : Pos} {firstLine : Nat} {clos : List (Str × Addr)} {Q : Value → Shared → Prop}
    (pre : Ledg) {l0 : Addr} (F : Fr h₀ L s.heap m) (N : News h₀ L s.heap (pre ++ news)) (T : Top p loose mean mg mb h₀) (C : CodeHd h₀ c P) (hcd : ccd = .ref c) (hm : TabOk P pos.line pos.col qual news) (hn : ∀ q ∈ news, q.1 < l0) (hk : ∀ q ∈ pre, @LT.lt Nat _ l0 q.1)
    (hcl : closureFor scope (envX cn cs L a ccd cl) = pure clos)
    (h : ∀ f c' oc vs t ctv doc h' tk, Fr h₀ L h' m →
      News h₀ L h' ((f, fnMade name qual params body scope clos doc ((mg "__name__").getD .none) c' ctv) :: (c', oc) :: (P, tabObj #[rawInt pos.line, rawInt pos.col, .ref c']) :: (pre ++ news.filter fun q => q.1 != P)) →
      oc.data = .fields vs → vs[1]? = some (.str qual t) → (∀ q ∈ pre, @LT.lt Nat _ q.1 f) → (∀ q ∈ news, q.1 < f) → (∀ q ∈ pre, @Ne Nat q.1 c') → @LT.lt Nat _ c' f → @LT.lt Nat _ P l0 → (∀ q ∈ news.filter (fun q => q.1 != P), q.1 < l0) → Q (.ref f) { s with heap := h', toks := tk }) :
    wpAny M A (makeFunction name qual params (.stmts body) scope (envX cn cs L a ccd cl) [] [] [] pos firstLine) Q E s := by
  have hP : P < l0 := by
    obtain ⟨o, ho⟩ := hm.got
    exact hn _ ho
  refine nest_any (mg := mg) (pre ++ news.filter fun q => q.1 != P) F N T C hcd hm (fun p hp => List.mem_append_right _ hp) ?_ hcl ?_
  · intro q hq
    rcases List.mem_append.mp hq with hq | hq
    · exact ⟨List.mem_append_left _ hq, fun e => absurd (hk q hq) (by rw [e]; exact Nat.lt_asymm hP)⟩
    · have := List.mem_filter.mp hq
      exact ⟨List.mem_append_right _ this.1, by simpa using this.2⟩
  · intro f c' oc vs t ctv doc h' tk F' N' e1 e2 l1 l2 l3
    refine h f c' oc vs t ctv doc h' tk F' N' e1 e2 (fun q hq => l1 q (List.mem_append_left _ hq)) (fun q hq => l1 q (List.mem_append_right _ hq)) ?_ l3 hP (filt_lt hn P)
    · intro q hq
      rcases l2 with l2 | l2
      · exact Nat.ne_of_gt (Nat.lt_trans (hn _ l2) (hk q hq))
      · exact Nat.ne_of_lt (l2 q (List.mem_append_left _ hq))
/-- what inner of _int2digits does, at k digits -/
noncomputable def InnI (prog : Program) (w : World) (p : Program) (loose : List Str) (mean : ExcName → Option Value) (mg mb : Str → Option Value) (oF oc oI oD oN : Obj) (f c' cI cD cN D : Addr) (n k : Nat) : Prop :=
  ∀ {A A₀ : Around} {base h₀ : Heap} {outer : List Env} {env : Env} {L : Addr} {m : Str → Option Value} {nx : Ledg} {s : Shared} {Q E : Value → Shared → Prop} {x lo : Nat} {tx tl th : Tok} {pre mid post : List Value} {e : Nat} {hi : Int},
    Below A₀ base outer h₀ → Fr h₀ L s.heap m → (Mine.hd.heap_39 w.params).In h₀ → News h₀ L s.heap nx → Top p loose mean mg mb h₀ →
    A.frames = some (env :: outer) → env.frame = some L → env.scope.kind = .function → A.handled = none → A.depth + k + 2 < recursionLimit → A.units + 8 * k + 16 < cLine →
    (f, oF) ∈ nx → (c', oc) ∈ nx → (cI, oI) ∈ nx → (cD, oD) ∈ nx → (cN, oN) ∈ nx → (D, listOf (pre ++ (mid ++ post)).toArray e) ∈ nx →
    pre.length = lo → mid.length = k → hi = ((lo + k : Nat) : Int) → 0 < k → x < 2 ^ (n * k) → n * k ≤ 20000 → lo + k ≤ 30000 →
    (∀ mid' h' tk', IntsAre mid' (dg n x k) → Fr h₀ L h' m → News h₀ L h' (upd nx D (listOf (pre ++ (mid' ++ post)).toArray e)) → Q .none { s with heap := h', toks := tk' }) →
    wpAny (model prog w) A (call (.ref f) [.int (x : Int) tx, .int (lo : Int) tl, .int hi th]) Q E s
theorem InnI.use {prog : Program} {w : World} {p : Program} {loose : List Str} {mean : ExcName → Option Value} {mg mb : Str → Option Value} {oF oc oI oD oN : Obj} {f c' cI cD cN D : Addr} {n k : Nat} (I : InnI prog w p loose mean mg mb oF oc oI oD oN f c' cI cD cN D n k)
    (x lo : Nat) (pre mid post : List Value) {A A₀ : Around} {base h₀ : Heap} {outer : List Env} {env : Env} {L : Addr} {m : Str → Option Value} {nx : Ledg} {s : Shared} {Q E : Value → Shared → Prop} {tx tl th : Tok} {e : Nat} {hi : Int}
    (B : Below A₀ base outer h₀) (F : Fr h₀ L s.heap m) (X : (Mine.hd.heap_39 w.params).In h₀) (N : News h₀ L s.heap nx) (T : Top p loose mean mg mb h₀)
    (hA : A.frames = some (env :: outer)) (hf : env.frame = some L) (hk : env.scope.kind = .function) (hh : A.handled = none) (hd : A.depth + k + 2 < recursionLimit) (hu : A.units + 8 * k + 16 < cLine)
    (mF : (f, oF) ∈ nx) (mc : (c', oc) ∈ nx) (mI : (cI, oI) ∈ nx) (mD : (cD, oD) ∈ nx) (mN : (cN, oN) ∈ nx) (mL : (D, listOf (pre ++ (mid ++ post)).toArray e) ∈ nx)
    (h1 : pre.length = lo) (h2 : mid.length = k) (h3 : hi = ((lo + k : Nat) : Int)) (h4 : 0 < k) (h5 : x < 2 ^ (n * k)) (h6 : n * k ≤ 20000) (h7 : lo + k ≤ 30000)
    (hret : ∀ mid' h' tk', IntsAre mid' (dg n x k) → Fr h₀ L h' m → News h₀ L h' (upd nx D (listOf (pre ++ (mid' ++ post)).toArray e)) → Q .none { s with heap := h', toks := tk' }) :
    wpAny (model prog w) A (call (.ref f) [.int (x : Int) tx, .int (lo : Int) tl, .int hi th]) Q E s := I B F X N T hA hf hk hh hd hu mF mc mI mD mN mL h1 h2 h3 h4 h5 h6 h7 hret
theorem use_at {G : Prop} {h₀ h : Heap} {L f : Addr} {o : Obj} {r : Ledg} (motive : Obj → Prop) (N : News h₀ L h ((f, o) :: r)) (h1 : motive o) (h2 : motive o → G) : G := h2 h1
theorem use_inn {G : Prop} {h₁ h : Heap} {L f c' cI cD cN D : Addr} {o oc oI oD oN oL : Obj} {x y : Addr × Obj} {r : Ledg} {n : Nat} {tn : Tok} (prog : Program) (w : World) (p : Program) (loose : List Str) (mean : ExcName → Option Value) (mg mb : Str → Option Value)
    (N : News h₁ L h ((f, o) :: (c', oc) :: x :: (D, oL) :: y :: (cI, oI) :: (cD, oD) :: (cN, oN) :: r)) (dI : oI.data = .cell (some (.ref f))) (dD : oD.data = .cell (some (.ref D))) (dN : oN.data = .cell (some (.int (n : Int) tn)))
    (h1 : oI.data = .cell (some (.ref f)) → oD.data = .cell (some (.ref D)) → oN.data = .cell (some (.int (n : Int) tn)) → f ≠ D → c' ≠ D → cI ≠ D → cD ≠ D → cN ≠ D → ∀ k, InnI prog w p loose mean mg mb o oc oI oD oN f c' cI cD cN D n k)
    (nD : f ≠ D ∧ c' ≠ D ∧ cI ≠ D ∧ cD ≠ D ∧ cN ≠ D)
    (h2 : (∀ k, InnI prog w p loose mean mg mb o oc oI oD oN f c' cI cD cN D n k) → G) : G := h2 (h1 dI dD dN nD.1 nD.2.1 nD.2.2.1 nD.2.2.2.1 nD.2.2.2.2)
theorem split_len {α : Type} (l : List α) {k j : Nat} (h : l.length = k) (hj : j ≤ k) : ∃ m1 m2, l = m1 ++ m2 ∧ m1.length = j ∧ m2.length = k - j :=
  ⟨l.take j, l.drop j, (List.take_append_drop j l).symm, by simp; lia, by simp; lia⟩
theorem set_mid {pre post : List Value} {v v' : Value} : (pre ++ ([v] ++ post)).set pre.length v' = pre ++ ([v'] ++ post) := by simp
theorem dg_one {n x : Nat} {t : Tok} (h : x < 2 ^ (n * 1)) : IntsAre [.int (x : Int) t] (dg n x 1) := by
  have e : dg n x 1 = [(x : Int)] := by simp only [dg]; rw [Nat.mod_eq_of_lt (by simpa using h)]
  rw [e]
  exact .cons _ _ .nil
theorem dg_two {n x k j : Nat} {m1 m2 : List Value} (hj : j ≤ k) (h1 : IntsAre m1 (dg n (x % 2 ^ (n * j)) j)) (h2 : IntsAre m2 (dg n (x / 2 ^ (n * j)) (k - j))) : IntsAre (m1 ++ m2) (dg n x k) := by
  have e := dg_split n j (k - j) x
  rw [show j + (k - j) = k by lia] at e
  rw [e]
  exact IntsAre.append h1 h2
theorem div_lt_pow {x n j k : Nat} (hj : j ≤ k) (h : x < 2 ^ (n * k)) : x / 2 ^ (n * j) < 2 ^ (n * (k - j)) := by
  apply Nat.div_lt_of_lt_mul
  rw [← Nat.pow_add, ← Nat.mul_add, show j + (k - j) = k by lia]
  exact h
theorem shift_eq {lo j n : Nat} : (((lo + j : Nat) : Int) - (lo : Int)) * (n : Int) = ((n * j : Nat) : Int) := by
  rw [show ((lo + j : Nat) : Int) - (lo : Int) = (j : Int) by lia, Int.natCast_mul, Int.mul_comm]
theorem fin_i2d {G : Prop} {h₁ h : Heap} {L f c' cI cD cN D : Addr} {o oc oI oD oN oL oL2 oT : Obj} {y : Addr × Obj} {r news : Ledg}
    (N : News h₁ L h (upd ((f, o) :: (c', oc) :: (48, oT) :: (D, oL) :: y :: (cI, oI) :: (cD, oD) :: (cN, oN) :: r) D oL2)) (n1 : c' ≠ D) (n2 : 48 ≠ D) (n3 : cD ≠ D) (hr : ∀ p ∈ r, p.1 ≠ D) (hkeep : ∀ p ∈ news, p.1 ≠ 48 → p ∈ r)
    (h : ∀ nx, News h₁ L h nx → (c', oc) ∈ nx → (48, oT) ∈ nx → (cD, oD) ∈ nx → (D, oL2) ∈ nx → (∀ p ∈ news, p.1 ≠ 48 → p ∈ nx) → G) : G := by
  refine h _ N (mem_upd_ne (.tail _ (.head _)) n1) (mem_upd_ne (.tail _ (.tail _ (.head _))) n2) (mem_upd_ne (.tail _ (.tail _ (.tail _ (.tail _ (.tail _ (.tail _ (.head _))))))) n3) (mem_upd_self (.tail _ (.tail _ (.tail _ (.head _))))) fun p hp hn => ?_
  have := hkeep p hp hn
  exact mem_upd_ne (.tail _ (.tail _ (.tail _ (.tail _ (.tail _ (.tail _ (.tail _ (.tail _ this)))))))) (hr p this)
end

section
/-- the number whose digits to the base 2^n, lowest first, are these -/
noncomputable def ud (n : Nat) : List Nat → Nat
  | [] => 0
  | d :: r => d + 2 ^ n * ud n r
theorem ud_append (n : Nat) : ∀ a b, ud n (a ++ b) = ud n a + 2 ^ (n * a.length) * ud n b
  | [], b => by simp [ud]
  | d :: a, b => by
    simp only [List.cons_append, ud, List.length_cons]
    rw [ud_append n a b, Nat.mul_succ, Nat.pow_add, Nat.mul_add, Nat.mul_comm (2 ^ (n * a.length)) (2 ^ n), Nat.mul_assoc]
    lia
theorem ud_lt (n : Nat) : ∀ a : List Nat, (∀ d ∈ a, d < 2 ^ n) → ud n a < 2 ^ (n * a.length)
  | [], _ => by simp [ud]
  | d :: a, h => by
    have h1 := h d (List.Mem.head _)
    have h2 := ud_lt n a fun x hx => h x (List.mem_cons_of_mem _ hx)
    simp only [ud, List.length_cons]
    rw [Nat.mul_succ, Nat.pow_add, Nat.mul_comm (2 ^ (n * a.length))]
    have h3 : 2 ^ n * (ud n a + 1) ≤ 2 ^ n * 2 ^ (n * a.length) := Nat.mul_le_mul_left _ h2
    rw [Nat.mul_succ] at h3
    lia
noncomputable def seg (ds : List Nat) (lo k : Nat) : List Nat := (ds.drop lo).take k
theorem seg_length {ds : List Nat} {lo k : Nat} (h : lo + k ≤ ds.length) : (seg ds lo k).length = k := by simp [seg]; lia
theorem seg_split {ds : List Nat} {lo k j : Nat} (hj : j ≤ k) : seg ds lo k = seg ds lo j ++ seg ds (lo + j) (k - j) := by
  unfold seg
  rw [← List.drop_drop]
  have h := List.take_append_drop j ((ds.drop lo).take k)
  rw [List.take_take, Nat.min_eq_left hj, List.drop_take] at h
  exact h.symm
theorem seg_mem {ds : List Nat} {lo k : Nat} {P : Nat → Prop} (h : ∀ d ∈ ds, P d) : ∀ d ∈ seg ds lo k, P d := fun d hd => h d (List.mem_of_mem_drop (List.mem_of_mem_take hd))
theorem seg_one {ds : List Nat} {lo : Nat} (n : Nat) (h : lo < ds.length) : ud n (seg ds lo 1) = ds.getD lo 0 := by
  have e : seg ds lo 1 = [ds[lo]] := by
    unfold seg
    rw [List.drop_eq_getElem_cons h]
    rfl
  rw [e]
  simp [ud, h]
theorem seg_two {ds : List Nat} {n lo k j : Nat} (hj : j ≤ k) (h : lo + k ≤ ds.length) : ((ud n (seg ds (lo + j) (k - j)) * 2 ^ (n * j) : Nat) : Int) + ((ud n (seg ds lo j) : Nat) : Int) = ((ud n (seg ds lo k) : Nat) : Int) := by
  rw [seg_split hj, ud_append, seg_length (by lia), Nat.mul_comm (2 ^ (n * j))]
  lia
theorem seg_all (ds : List Nat) : seg ds 0 ds.length = ds := by simp [seg]
noncomputable def natI (ds : List Nat) : List Int := ds.map fun (d : Nat) => ((d : Nat) : Int)
theorem natI_get {ds : List Nat} {vs : List Value} {lo n : Nat} (hi : IntsAre vs (natI ds)) (h : lo < ds.length) : ∃ t, vs[(lo : Int).toNat]? = some (.int ((ud n (seg ds lo 1) : Nat) : Int) t) := by
  obtain ⟨t, ht⟩ := ints_get hi (i := lo) (by simpa [natI] using h)
  refine ⟨t, ?_⟩
  rw [Int.toNat_natCast, ht, seg_one n h]
  simp [natI, h]
/-- what inner of _digits2int does, at k digits -/
noncomputable def InnD (prog : Program) (w : World) (p : Program) (loose : List Str) (mean : ExcName → Option Value) (mg mb : Str → Option Value) (oF oc oI oD oN : Obj) (f c' cI cD cN D : Addr) (n k : Nat) : Prop :=
  ∀ {A A₀ : Around} {base h₀ : Heap} {outer : List Env} {env : Env} {L : Addr} {m : Str → Option Value} {nx : Ledg} {s : Shared} {Q E : Value → Shared → Prop} {lo : Nat} {ds : List Nat} {tl th : Tok} {vs : List Value} {e : Nat} {hi : Int},
    Below A₀ base outer h₀ → Fr h₀ L s.heap m → (Mine.hd.heap_39 w.params).In h₀ → News h₀ L s.heap nx → Top p loose mean mg mb h₀ →
    A.frames = some (env :: outer) → env.frame = some L → env.scope.kind = .function → A.handled = none → A.depth + k + 2 < recursionLimit → A.units + 8 * k + 16 < cLine →
    (f, oF) ∈ nx → (c', oc) ∈ nx → (cI, oI) ∈ nx → (cD, oD) ∈ nx → (cN, oN) ∈ nx → (D, listOf vs.toArray e) ∈ nx →
    IntsAre vs (natI ds) → lo + k ≤ ds.length → hi = ((lo + k : Nat) : Int) → 0 < k → (∀ d ∈ ds, d < 2 ^ n) → n * k ≤ 20000 → ds.length ≤ 30000 →
    (∀ v t h' tk', v = ((ud n (seg ds lo k) : Nat) : Int) → Fr h₀ L h' m → News h₀ L h' nx → Q (.int v t) { s with heap := h', toks := tk' }) →
    wpAny (model prog w) A (call (.ref f) [.int (lo : Int) tl, .int hi th]) Q E s
theorem InnD.use {prog : Program} {w : World} {p : Program} {loose : List Str} {mean : ExcName → Option Value} {mg mb : Str → Option Value} {oF oc oI oD oN : Obj} {f c' cI cD cN D : Addr} {n k : Nat} (I : InnD prog w p loose mean mg mb oF oc oI oD oN f c' cI cD cN D n k)
    (lo : Nat) (ds : List Nat) {A A₀ : Around} {base h₀ : Heap} {outer : List Env} {env : Env} {L : Addr} {m : Str → Option Value} {nx : Ledg} {s : Shared} {Q E : Value → Shared → Prop} {tl th : Tok} {vs : List Value} {e : Nat} {hi : Int}
    (B : Below A₀ base outer h₀) (F : Fr h₀ L s.heap m) (X : (Mine.hd.heap_39 w.params).In h₀) (N : News h₀ L s.heap nx) (T : Top p loose mean mg mb h₀)
    (hA : A.frames = some (env :: outer)) (hf : env.frame = some L) (hk : env.scope.kind = .function) (hh : A.handled = none) (hd : A.depth + k + 2 < recursionLimit) (hu : A.units + 8 * k + 16 < cLine)
    (mF : (f, oF) ∈ nx) (mc : (c', oc) ∈ nx) (mI : (cI, oI) ∈ nx) (mD : (cD, oD) ∈ nx) (mN : (cN, oN) ∈ nx) (mL : (D, listOf vs.toArray e) ∈ nx)
    (h1 : IntsAre vs (natI ds)) (h2 : lo + k ≤ ds.length) (h3 : hi = ((lo + k : Nat) : Int)) (h4 : 0 < k) (h5 : ∀ d ∈ ds, d < 2 ^ n) (h6 : n * k ≤ 20000) (h7 : ds.length ≤ 30000)
    (hret : ∀ v t h' tk', v = ((ud n (seg ds lo k) : Nat) : Int) → Fr h₀ L h' m → News h₀ L h' nx → Q (.int v t) { s with heap := h', toks := tk' }) :
    wpAny (model prog w) A (call (.ref f) [.int (lo : Int) tl, .int hi th]) Q E s := I B F X N T hA hf hk hh hd hu mF mc mI mD mN mL h1 h2 h3 h4 h5 h6 h7 hret
theorem use_innD {G : Prop} {h₁ h : Heap} {L f c' cI cD cN D : Addr} {o oc oI oD oN : Obj} {x : Addr × Obj} {r : Ledg} {n : Nat} {tn : Tok} (prog : Program) (w : World) (p : Program) (loose : List Str) (mean : ExcName → Option Value) (mg mb : Str → Option Value)
    (N : News h₁ L h ((f, o) :: (c', oc) :: x :: (cI, oI) :: (cN, oN) :: (cD, oD) :: r)) (dI : oI.data = .cell (some (.ref f))) (dD : oD.data = .cell (some (.ref D))) (dN : oN.data = .cell (some (.int (n : Int) tn)))
    (h1 : oI.data = .cell (some (.ref f)) → oD.data = .cell (some (.ref D)) → oN.data = .cell (some (.int (n : Int) tn)) → ∀ k, InnD prog w p loose mean mg mb o oc oI oD oN f c' cI cD cN D n k)
    (h2 : (∀ k, InnD prog w p loose mean mg mb o oc oI oD oN f c' cI cD cN D n k) → G) : G := h2 (h1 dI dD dN)
theorem truthy_L {prog : Program} {w : World} {A : Around} {E : Value → Shared → Prop} {s : Shared} {h₀ : Heap} {L l : Addr} {nx : Ledg} {vs : List Value} {e : Nat} {Q : Bool → Shared → Prop} (N : News h₀ L s.heap nx) (hl : (l, listOf vs.toArray e) ∈ nx) (hfit : vs.length < 2 ^ 62)
    (h : ∀ b tk, b = decide (vs ≠ []) → Q b { s with toks := tk }) : wpAny (model prog w) A (truthy (.ref l)) Q E s := by
  refine wpAny_truthy_list (News.isList N hl) (by simp; lia) ?_
  refine h _ _ ?_
  cases vs <;> simp
end

section
section
variable {prog : Program} {w : World} {A : Around} {E : Value → Shared → Prop} {s : Shared} {env : Env} {h₀ : Heap} {x : Str} {body : List Stmt} {Q : Flow → Shared → Prop}
theorem forRev {I l : Addr} {vs : List Value} {e : Nat} {m₀ : Str → Option Value} {news : Ledg} (J : Nat → (Str → Option Value) → Ledg → Prop)
    (hh : A.handled = none) (F : Fr h₀ env.locals s.heap m₀) (N : News h₀ env.locals s.heap ((I, revObj l ((vs.length : Int) - 1)) :: news)) (hl : (l, listOf vs.toArray e) ∈ news) (hlt : ∀ p ∈ news, p.1 < I) (hj : J 0 m₀ news)
    (turn : ∀ i v m₁ nx h tk own, i < vs.length → vs[vs.length - 1 - i]? = some v → J i m₁ nx → (∀ p ∈ nx, p.1 ≠ I) → (∃ o, (I, o) ∈ own) → (∀ p ∈ own, p.1 = I ∨ p.1 = l) → Fr h₀ env.locals h (fun y => if y = x then some v else m₁ y) → News h₀ env.locals h (own ++ nx) →
      wpAny (model prog w) A (execs body env) (ForPost h₀ env.locals I own (J (i + 1)) { s with heap := h, toks := tk } Q) E { s with heap := h, toks := tk })
    (done : ∀ m₁ nx h tk, J vs.length m₁ nx → Fr h₀ env.locals h m₁ → News h₀ env.locals h nx → Q .next { s with heap := h, toks := tk }) :
    wpAny (model prog w) A (pyIter (.ref I)) (fun it s₂ => LoopAtV prog w A h₀ env x body Q E it s₂) E s := by
  have hIx := N _ (List.mem_cons_self ..)
  have hls : s.heap.IsList l vs.toArray := News.isList N (List.mem_cons_of_mem _ hl)
  have hne : l ≠ I := Nat.ne_of_lt (hlt _ hl)
  have hit : s.heap.IsRevIter I l ((vs.length : Int) - 1) := ⟨_, hIx.1, rfl, rfl⟩
  refine wpAny_pyIter_revIter hit ?_
  have W := Walks.listRev (prog := prog) (w := w) hh I l hne vs.toArray
  have hlen : vs.toArray.size = vs.length := by simp
  rw [hlen] at W
  have e0 : (vs.length : Int) - 1 - ((0 : Nat) : Int) = (vs.length : Int) - 1 := by lia
  refine forW J W ?_ hIx.2.2 (fun p hp => Nat.ne_of_lt (hlt p hp)) ⟨Nat.zero_le _, by rw [e0]; exact hit, hls⟩ (fun i h hSt => ?_) F (fun p hp => N p (List.mem_cons_of_mem _ hp)) hj ?_ done
  · intro hm
    rcases List.mem_cons.mp hm with e' | hm
    · exact hIx.2.1 e'.symm
    · exact (N _ (List.mem_cons_of_mem _ hl)).2.1 (List.mem_singleton.mp hm).symm
  · obtain ⟨o, ho, _⟩ := hSt.2.1
    exact ⟨o, ho⟩
  · intro i v m₁ nx h tk own hi hP hJ h1 h2 h3 F₁ N₁
    exact turn i v m₁ nx h tk own hi (by simpa using hP) hJ h1 h2 (fun p hp => by have := h3 p hp; simpa using this) F₁ N₁
end
/-- school division, digits lowest first -/
noncomputable def divL (b n : Nat) : List Nat → List Nat × Nat
  | [] => ([], 0)
  | d :: r => ((((divL b n r).2 * 2 ^ n + d) / b) :: (divL b n r).1, ((divL b n r).2 * 2 ^ n + d) % b)
theorem divL_lt {b n : Nat} (hb : 0 < b) : ∀ ds, (divL b n ds).2 < b
  | [] => hb
  | d :: r => Nat.mod_lt _ hb
theorem divL_len {b n : Nat} : ∀ ds, (divL b n ds).1.length = ds.length
  | [] => rfl
  | d :: r => by simp [divL, divL_len r]
theorem divL_digits {b n : Nat} (hb : 0 < b) : ∀ ds : List Nat, (∀ d ∈ ds, d < 2 ^ n) → ∀ q ∈ (divL b n ds).1, q < 2 ^ n
  | [], _, q, hq => by cases hq
  | d :: r, h, q, hq => by
    rcases List.mem_cons.mp hq with rfl | hq
    · have h1 := divL_lt (n := n) hb r
      have h2 := h d (List.Mem.head _)
      apply Nat.div_lt_of_lt_mul
      have h3 : ((divL b n r).2 + 1) * 2 ^ n ≤ b * 2 ^ n := Nat.mul_le_mul_right _ h1
      rw [Nat.succ_mul] at h3
      lia
    · exact divL_digits hb r (fun x hx => h x (List.mem_cons_of_mem _ hx)) q hq
theorem divL_eq {b n : Nat} : ∀ ds, b * ud n (divL b n ds).1 + (divL b n ds).2 = ud n ds
  | [] => by simp [divL, ud]
  | d :: r => by
    have ih := divL_eq (b := b) (n := n) r
    simp only [divL, ud]
    have h := Nat.div_add_mod ((divL b n r).2 * 2 ^ n + d) b
    rw [← ih, Nat.mul_add, Nat.mul_add]
    have e1 : b * (2 ^ n * ud n (divL b n r).1) = 2 ^ n * (b * ud n (divL b n r).1) := by rw [Nat.mul_left_comm]
    have e2 : 2 ^ n * (divL b n r).2 = (divL b n r).2 * 2 ^ n := Nat.mul_comm _ _
    lia
/-- the digits as numbers -/
noncomputable def dgN (n : Nat) : Nat → Nat → List Nat
  | _, 0 => []
  | x, k + 1 => x % 2 ^ n :: dgN n (x / 2 ^ n) k
theorem dg_eq (n : Nat) : ∀ k x, dg n x k = natI (dgN n x k)
  | 0, _ => rfl
  | k + 1, x => by simp [dg, dgN, natI, dg_eq n k]
theorem dgN_length (n : Nat) : ∀ k x, (dgN n x k).length = k
  | 0, _ => rfl
  | k + 1, x => by simp [dgN, dgN_length n k]
theorem dgN_lt (n : Nat) : ∀ k x, ∀ d ∈ dgN n x k, d < 2 ^ n
  | 0, _, d, h => by cases h
  | k + 1, x, d, h => by
    rcases List.mem_cons.mp h with rfl | h
    · exact Nat.mod_lt _ (Nat.two_pow_pos _)
    · exact dgN_lt n k _ d h
theorem ud_dgN (n : Nat) : ∀ k x, x < 2 ^ (n * k) → ud n (dgN n x k) = x
  | 0, x, h => by simp at h; simp [dgN, ud, h]
  | k + 1, x, h => by
    have h2 : x / 2 ^ n < 2 ^ (n * k) := by
      apply Nat.div_lt_of_lt_mul
      rw [← Nat.pow_add, Nat.add_comm, ← Nat.mul_succ]
      exact h
    simp only [dgN, ud]
    rw [ud_dgN n k _ h2]
    exact Nat.mod_add_div x (2 ^ n)
theorem bits_cnt {a n cnt : Nat} (hn : 0 < n) (h : (Builtin.Int.intBits (a : Int) + n - 1) / n = cnt) : a < 2 ^ (n * cnt) ∧ n * cnt < Builtin.Int.intBits (a : Int) + n := by
  have hdm := Nat.div_add_mod (Builtin.Int.intBits (a : Int) + n - 1) n
  have hml := Nat.mod_lt (Builtin.Int.intBits (a : Int) + n - 1) hn
  rw [h] at hdm
  exact ⟨Nat.lt_of_lt_of_le (lt_bits a) (Nat.pow_le_pow_right (by lia) (by lia)), by lia⟩
theorem divL_div {a b n cnt : Nat} (hb : 0 < b) (h : a < 2 ^ (n * cnt)) : ud n (divL b n (dgN n a cnt)).1 = a / b ∧ (divL b n (dgN n a cnt)).2 = a % b := by
  have e := divL_eq (b := b) (n := n) (dgN n a cnt)
  rw [ud_dgN n cnt a h] at e
  have l := divL_lt (n := n) hb (dgN n a cnt)
  generalize ud n (divL b n (dgN n a cnt)).1 = q at *
  generalize (divL b n (dgN n a cnt)).2 = r at *
  subst e
  constructor
  · rw [Nat.mul_add_div hb, Nat.div_eq_of_lt l]; lia
  · rw [Nat.mul_add_mod, Nat.mod_eq_of_lt l]
theorem reverse_L {prog : Program} {w : World} {A : Around} {E : Value → Shared → Prop} {s : Shared} {h₀ : Heap} {L D : Addr} {m : Str → Option Value} {nx : Ledg} {vs : List Value} {e : Nat} {Q : Value → Shared → Prop} (F : Fr h₀ L s.heap m) (N : News h₀ L s.heap nx) (hD : (D, listOf vs.toArray e) ∈ nx) (hz : vs.length ≤ sizeLine)
    (h : ∀ h', Fr h₀ L h' m → News h₀ L h' (upd nx D (listOf vs.reverse.toArray e)) → Q .none { s with heap := h' }) : wpAny (model prog w) A (call (.builtin "list.reverse") [.ref D]) Q E s := by
  have z := N _ hD
  refine call_meets PySem.F.slot_list_reverse ⟨_, z.1, rfl⟩ PySem.F.entry_list_reverse (PySem.F.args_list_reverse_1 _) (PySem.AutoSeq1.list_reverse_list_0 D vs.toArray e (by simpa using hz)) ⟨z.1, h _ (F.change (Heap.SameBut.update ..) z.2.1 z.2.2) (news_upd' N hD (Heap.SameBut.update ..) ?_)⟩
  have q := PySem.IsL.update z.1 (fun xs => xs.reverse)
  rw [if_pos (by simp), List.reverse_toArray] at q
  exact q
theorem TabOk.stay {h₀ h : Heap} {L P P' : Addr} {li co li' co' : Nat} {qual qual' : Str} {nx nx' : Ledg} (N : News h₀ L h nx) (hP : TabOk P li co qual nx) (hP' : TabOk P' li' co' qual' nx) (hne : P ≠ P') (hs : ∀ p ∈ nx, p.1 ≠ P' → p ∈ nx') : TabOk P li co qual nx' := by
  rcases hP with h1 | ⟨c', oc, vs, t, h1, h2, h3, h4⟩
  · exact .inl (hs _ h1 hne)
  · refine .inr ⟨c', oc, vs, t, hs _ h1 hne, hs _ h2 fun e => ?_, h3, h4⟩
    subst e
    have z := (N _ h2).1
    rcases hP' with q | ⟨c2, oc2, vs2, t2, q, _⟩
    · rw [show ((c', oc) : Addr × Obj).1 = c' from rfl, (N _ q).1] at z
      cases z
      cases h3
      simp at h4
    · rw [show ((c', oc) : Addr × Obj).1 = c' from rfl, (N _ q).1] at z
      cases z
      cases h3
      simp [rawInt] at h4
theorem drop_one {ds : List Nat} {i : Nat} (h : i < ds.length) : ds.drop (ds.length - (i + 1)) = ds.getD (ds.length - 1 - i) 0 :: ds.drop (ds.length - i) := by
  have h1 : ds.length - (i + 1) < ds.length := by lia
  rw [List.drop_eq_getElem_cons h1]
  have e1 : ds.length - (i + 1) + 1 = ds.length - i := by lia
  have e2 : ds.length - 1 - i = ds.length - (i + 1) := by lia
  rw [e1, e2]
  simp [h1]
theorem fdiv_nat {x b : Nat} : Int.fdiv (x : Int) (b : Int) = ((x / b : Nat) : Int) := by
  rw [Int.fdiv_eq_ediv_of_nonneg _ (by lia)]
  exact (Int.natCast_ediv _ _).symm
theorem fmod_nat {x b : Nat} : Int.fmod (x : Int) (b : Int) = ((x % b : Nat) : Int) := by
  rw [Int.fmod_eq_emod_of_nonneg _ (by lia)]
  exact (Int.natCast_emod _ _).symm
structure DmL (keep nx : Ledg) (ql : Addr) (b n : Nat) (ds : List Nat) : Prop where
  old : ∀ p ∈ keep, p ∈ nx
  off : ∀ p ∈ keep, p.1 ≠ ql
  row : IntsAt nx ql (natI (divL b n ds).1.reverse)
theorem DmL.step {keep nx : Ledg} {ql : Addr} {b n d : Nat} {ds : List Nat} {vs : List Value} {e e' : Nat} {t : Tok} (h : DmL keep nx ql b n ds) (hm : (ql, listOf vs.toArray e) ∈ nx) (hi : IntsAre vs (natI (divL b n ds).1.reverse)) (nx2 : Ledg) (hs : ∀ p ∈ nx, p ∈ nx2) {x : Int} (hx : x = (((divL b n ds).2 * 2 ^ n + d) / b : Nat)) :
    DmL keep (upd nx2 ql (listOf (vs ++ [Value.int x t]).toArray e')) ql b n (d :: ds) := by
  subst hx
  refine ⟨fun p hp => mem_upd_ne (hs p (h.old p hp)) (h.off p hp), h.off, _, _, mem_upd_self (hs _ hm), ?_⟩
  have := ints_snoc (y := ((((divL b n ds).2 * 2 ^ n + d) / b : Nat) : Int)) (t := t) hi
  simpa [divL, natI] using this
theorem DmL.filter {keep nx : Ledg} {ql I : Addr} {b n : Nat} {ds : List Nat} (h : DmL keep nx ql b n ds) (h1 : ∀ p ∈ keep, p.1 ≠ I) (h2 : ql ≠ I) : DmL keep (nx.filter fun p => p.1 != I) ql b n ds := by
  obtain ⟨vs, e, hm, hi⟩ := h.row
  exact ⟨fun p hp => List.mem_filter.mpr ⟨h.old p hp, by simpa using h1 p hp⟩, h.off, vs, e, List.mem_filter.mpr ⟨hm, by simpa using h2⟩, hi⟩
theorem divL_none {b n : Nat} (ds : List Nat) : divL b n (ds.drop (ds.length - 0)) = ([], 0) := by simp [divL]
theorem DmL.start {nx : Ledg} {ql : Addr} {b n : Nat} (ds : List Nat) (h : ∀ p ∈ nx, p.1 < ql) : DmL nx ((ql, listOf #[] 0) :: nx) ql b n (ds.drop (ds.length - 0)) :=
  ⟨fun p hp => List.mem_cons_of_mem _ hp, fun p hp => Nat.ne_of_lt (h p hp), [], 0, List.Mem.head _, by rw [divL_none]; exact .nil⟩
theorem natI_getD {ds : List Nat} {i : Nat} : (natI ds).getD i 0 = ((ds.getD i 0 : Nat) : Int) := by
  unfold natI
  by_cases h : i < ds.length <;> simp [h]
theorem natI_length (ds : List Nat) : (natI ds).length = ds.length := by simp [natI]
theorem dm_bits {R d n b : Nat} (hR : R < b) (hd : d < 2 ^ n) (hn : n = Builtin.Int.intBits (b : Int)) : (Builtin.Int.intBits (((R * 2 ^ n : Nat) : Int) + (d : Int)) : Int) - (n : Int) ≤ n := by
  have h1 : R * 2 ^ n + d < 2 ^ (n + n) := by
    have hb := lt_bits b
    rw [← hn] at hb
    rw [Nat.pow_add]
    have h3 : (R + 1) * 2 ^ n ≤ 2 ^ n * 2 ^ n := Nat.mul_le_mul_right _ (by lia)
    rw [Nat.succ_mul] at h3
    lia
  have := bits_lt h1
  rw [← Int.natCast_add]
  lia
theorem getD_lt_all {ds : List Nat} {i M : Nat} (h : ∀ d ∈ ds, d < M) (hi : i < ds.length) : ds.getD i 0 < M := by
  have e : ds.getD i 0 = ds[i] := by simp [hi]
  rw [e]
  exact h _ (List.getElem_mem hi)
theorem log2_of_bits {b k : Nat} (h : Builtin.Int.intBits (b : Int) ≤ k) : ((b : Int).natAbs).log2 < k + 1 := by
  rw [bits_nat] at h
  rw [Int.natAbs_natCast]
  split at h
  · rename_i e; subst e; simp
  · lia
theorem own_ne {nx own : Ledg} {I al ql : Addr} {oq : Obj} (hI : ∀ p ∈ nx, p.1 ≠ I) (hown : ∀ p ∈ own, p.1 = I ∨ p.1 = al) (hq : (ql, oq) ∈ nx) (hal : al ≠ ql) : ∀ p ∈ own, p.1 ≠ ql := fun p hp e => by
  rcases hown p hp with h | h
  · exact hI _ hq (e.symm.trans h)
  · exact hal (h.symm.trans e)
theorem divL_cons2 {b n d : Nat} {r : List Nat} : (divL b n (d :: r)).2 = ((divL b n r).2 * 2 ^ n + d) % b := rfl
theorem ints_rev {vs : List Value} {ds : List Nat} (h : IntsAre vs (natI ds.reverse)) : IntsAre vs.reverse (natI ds) := by
  have := h.reverse
  simpa [natI] using this
end

section
/-- a text by its code points -/
noncomputable def mkS (l : List Nat) : Str := ⟨l.toArray⟩
theorem mkS_inj {a b : List Nat} : mkS a = mkS b ↔ a = b := by
  constructor
  · intro h
    have := congrArg (fun s : Str => s.cps.toList) h
    simpa [mkS] using this
  · rintro rfl; rfl
theorem mkS_length (a : List Nat) : (mkS a).length = a.length := by simp [mkS, Str.length]
noncomputable def signCs : List Nat := [46, 97, 98, 99, 100, 101]
theorem low_sign : ∀ c ∈ signCs, Txt.lower (mkS [c]) = mkS [c] := by decide +kernel
theorem beq_mkS {a b : List Nat} : (mkS a == mkS b) = decide (a = b) := by
  by_cases h : a = b
  · subst h; simp
  · have : mkS a ≠ mkS b := fun e => h (mkS_inj.mp e)
    simp [h, this]
theorem slice_from_mk {l : List Nat} {k : Nat} (hk : k ≤ l.length) : Txt.slice (mkS l) (some (k : Int)) none = mkS (l.drop k) := by
  rw [slice_from_eq (b := (l.length : Int)) (by lia) (by rw [mkS_length]; lia) (by rw [mkS_length])]
  have e : ((mkS l).cps.toList.drop (k : Int).toNat).take ((l.length : Int) - (k : Int)).toNat = l.drop k := by
    simp only [mkS, Int.toNat_natCast]
    exact List.take_of_length_le (by simp)
  rw [e]
  rfl
theorem slice_all_mk {l : List Nat} : Txt.slice (mkS l) none none = mkS l := by
  unfold Txt.slice
  rw [if_pos]
  unfold Builtin.Str.strSliceIndices sliceRange
  simp
  split <;> lia
theorem slice_neg {x : Str} {k : Nat} (h0 : 0 < k) (hk : k ≤ x.length) : Txt.slice x none (some (-(k : Int))) = Txt.slice x none (some ((x.length : Int) - (k : Int))) := by
  have e : Builtin.Str.strSliceIndices none (some (-(k : Int))) 1 x.length = Builtin.Str.strSliceIndices none (some ((x.length : Int) - (k : Int))) 1 x.length := by
    unfold Builtin.Str.strSliceIndices
    dsimp only
    rw [if_pos (show -(k : Int) < 0 by lia), if_neg (show ¬ ((x.length : Int) - (k : Int) < 0) by lia), show -(k : Int) + (x.length : Int) = (x.length : Int) - (k : Int) by lia]
  unfold Txt.slice
  rw [e]
theorem slice_to_mk {l : List Nat} {k : Nat} (h0 : 0 < k) (hk : k ≤ l.length) : Txt.slice (mkS l) none (some (-(k : Int))) = mkS (l.take (l.length - k)) := by
  rw [slice_neg h0 (by rw [mkS_length]; exact hk)]
  have e := slice_closes_toL (x := mkS l) (j := ((mkS l).length : Int) - (k : Int)) (by rw [mkS_length]; lia) (by lia)
  rw [beq_iff_eq] at e
  rw [e, mkS_length]
  have e2 : ((mkS l).cps.toList.drop (0 : Int).toNat).take ((l.length : Int) - (k : Int) - 0).toNat = l.take (l.length - k) := by
    simp only [mkS]
    rw [show ((l.length : Int) - (k : Int) - 0).toNat = l.length - k by lia]
    simp
  rw [e2]
  rfl
theorem item_mk {l : List Nat} {k : Nat} (hk : k < l.length) : Txt.item (mkS l) (k : Int) = mkS [l.getD k 0] := by
  refine (item_meets (n := l.getD k 0) (by lia) ?_).trans rfl
  simp [mkS, hk]
theorem item_neg_mk {l : List Nat} {k : Nat} (hk : k < l.length) : Txt.item (mkS l) (-(k : Int) - 1) = mkS [l.getD (l.length - 1 - k) 0] := by
  have e := item_closes_neg (x := mkS l) (i := -(k : Int) - 1) (j := ((l.length - 1 - k : Nat) : Int)) (by lia) (by rw [mkS_length]; lia) (by rw [mkS_length]; lia)
  rw [beq_iff_eq] at e
  rw [e]
  have h2 : l.length - 1 - k < l.length := by lia
  simp [mkS, h2]
section
variable {prog : Program} {w : World} {A : Around} {E : Value → Shared → Prop} {s : Shared} {h₀ : Heap} {L : Addr} {m : Str → Option Value} {news : Ledg} {value slice : PySem.Expr} {l : List Nat} {t : Tok} {Q : Value → Shared → Prop}
theorem sfrom_L {i : Int} {k : Nat} {ui : Tok} (hF : Fr h₀ L s.heap m) (hN : News h₀ L s.heap news) (hi : i = k) (hk : k ≤ l.length) (hz : l.length ≤ 1000) (h : ∀ h' t' tk, Fr h₀ L h' m → News h₀ L h' news → Q (.str (mkS (l.drop k)) t') { s with heap := h', toks := tk })
    (hs : subscripted slice false (.str (mkS l) t) (.ref s.heap.objs.size) = operate [.ref s.heap.objs.size, .str (mkS l) t] (getItem (.str (mkS l) t) (.ref s.heap.objs.size))) (ht : ∀ r, letTemporaryGo value (.str (mkS l) t) r = pure ()) :
    wpAny (model prog w) A (subscriptTail value slice (.str (mkS l) t) (.ref s.heap.objs.size)) Q E { s with heap := s.heap.push { cls := .type "slice", data := .fields #[.int i ui, .none, .none] } } := by
  subst hi
  refine slice_strN_sn hF hN (fun h' t' k' a b => ?_) hs ht (by rw [mkS_length, sizeLine_eq]; lia)
  rw [slice_from_mk hk]
  exact h h' t' k' a b
theorem sto_L {i : Int} {k : Nat} {ui : Tok} (hF : Fr h₀ L s.heap m) (hN : News h₀ L s.heap news) (hi : i = -(k : Int)) (h0 : 0 < k) (hk : k ≤ l.length) (hz : l.length ≤ 1000) (h : ∀ h' t' tk, Fr h₀ L h' m → News h₀ L h' news → Q (.str (mkS (l.take (l.length - k))) t') { s with heap := h', toks := tk })
    (hs : subscripted slice false (.str (mkS l) t) (.ref s.heap.objs.size) = operate [.ref s.heap.objs.size, .str (mkS l) t] (getItem (.str (mkS l) t) (.ref s.heap.objs.size))) (ht : ∀ r, letTemporaryGo value (.str (mkS l) t) r = pure ()) :
    wpAny (model prog w) A (subscriptTail value slice (.str (mkS l) t) (.ref s.heap.objs.size)) Q E { s with heap := s.heap.push { cls := .type "slice", data := .fields #[.none, .int i ui, .none] } } := by
  subst hi
  refine slice_strN_ns hF hN (fun h' t' k' a b => ?_) hs ht (by rw [mkS_length, sizeLine_eq]; lia)
  rw [slice_to_mk h0 hk]
  exact h h' t' k' a b
theorem sall_L (hF : Fr h₀ L s.heap m) (hN : News h₀ L s.heap news) (hz : l.length ≤ 1000) (h : ∀ h' t' tk, Fr h₀ L h' m → News h₀ L h' news → Q (.str (mkS l) t') { s with heap := h', toks := tk })
    (hs : subscripted slice false (.str (mkS l) t) (.ref s.heap.objs.size) = operate [.ref s.heap.objs.size, .str (mkS l) t] (getItem (.str (mkS l) t) (.ref s.heap.objs.size))) (ht : ∀ r, letTemporaryGo value (.str (mkS l) t) r = pure ()) :
    wpAny (model prog w) A (subscriptTail value slice (.str (mkS l) t) (.ref s.heap.objs.size)) Q E { s with heap := s.heap.push { cls := .type "slice", data := .fields #[.none, .none, .none] } } := by
  refine slice_strN_nn hF hN (fun h' t' k' a b => ?_) hs ht (by rw [mkS_length, sizeLine_eq]; lia)
  rw [slice_all_mk]
  exact h h' t' k' a b
theorem sitem_L {i : Int} {k : Nat} {u : Tok} (hi : i = k) (hk : k < l.length) (hz : l.length ≤ 1000) (h : Q (.str (mkS [l.getD k 0]) s.toks) { s with toks := s.toks + 1 })
    (hs : subscripted slice false (.str (mkS l) t) (.int i u) = operate [.str (mkS l) t, .int i u] (getItem (.str (mkS l) t) (.int i u))) (ht : ∀ r, letTemporaryGo value (.str (mkS l) t) r = pure ()) :
    wpAny (model prog w) A (subscriptTail value slice (.str (mkS l) t) (.int i u)) Q E s := by
  subst hi
  refine item_str (fitsSsize_of (N := 9223372036854775808) (by lia) (by lia) (Int.le_refl _)) (by lia) (by rw [mkS_length]; lia) (fun _ => ?_) hs ht
  rw [item_mk hk]
  exact h
theorem sneg_L {i : Int} {k : Nat} {u : Tok} (hi : i = -(k : Int) - 1) (hk : k < l.length) (hz : l.length ≤ 1000) (h : Q (.str (mkS [l.getD (l.length - 1 - k) 0]) s.toks) { s with toks := s.toks + 1 })
    (hs : subscripted slice false (.str (mkS l) t) (.int i u) = operate [.str (mkS l) t, .int i u] (getItem (.str (mkS l) t) (.int i u))) (ht : ∀ r, letTemporaryGo value (.str (mkS l) t) r = pure ()) :
    wpAny (model prog w) A (subscriptTail value slice (.str (mkS l) t) (.int i u)) Q E s := by
  subst hi
  refine item_str (fitsSsize_of (N := 9223372036854775808) (by lia) (by lia) (Int.le_refl _)) (by rw [mkS_length]; lia) (by rw [mkS_length]; lia) (fun _ => ?_) hs ht
  rw [item_neg_mk hk]
  exact h
theorem struthy {Q : Bool → Shared → Prop} (hz : l.length ≤ 1000) (h : ∀ b tk, b = decide (l ≠ []) → Q b { s with toks := tk }) : wpAny (model prog w) A (truthy (.str (mkS l) t)) Q E s := by
  refine PySem.P.truthy_str (by rw [mkS_length]; lia) (h _ _ ?_)
  rw [mkS_length]
  cases l <;> simp
  lia
end
/-- how many signs two texts begin with alike -/
noncomputable def preF : List Nat → List Nat → Nat
  | x :: a, y :: b => if x = y then preF a b + 1 else 0
  | _, _ => 0
theorem preF_le : ∀ a b, preF a b ≤ a.length ∧ preF a b ≤ b.length
  | [], b => by simp [preF]
  | x :: a, [] => by simp [preF]
  | x :: a, y :: b => by
    simp only [preF]
    split
    · have := preF_le a b
      simp; lia
    · simp
theorem preF_drop (a b : List Nat) : ∀ i, i ≤ preF a b → preF (a.drop i) (b.drop i) = preF a b - i := by
  intro i
  induction i generalizing a b with
  | zero => intro _; simp
  | succ i ih =>
    intro h
    cases a with
    | nil => simp [preF] at h
    | cons x a =>
      cases b with
      | nil => simp [preF] at h
      | cons y b =>
        simp only [preF] at h ⊢
        split at h
        · rename_i e
          rw [if_pos e, List.drop_succ_cons, List.drop_succ_cons, ih a b (by lia)]
          lia
        · lia
theorem preF_at {a b : List Nat} {i : Nat} (h : i ≤ preF a b) (ha : i < a.length) (hb : i < b.length) : (a.getD i 0 = b.getD i 0 → i < preF a b) ∧ (a.getD i 0 ≠ b.getD i 0 → i = preF a b) := by
  have e := preF_drop a b i h
  rw [List.drop_eq_getElem_cons ha, List.drop_eq_getElem_cons hb] at e
  have e1 : a.getD i 0 = a[i] := by simp [ha]
  have e2 : b.getD i 0 = b[i] := by simp [hb]
  rw [e1, e2]
  simp only [preF] at e
  constructor
  · intro q
    rw [if_pos q] at e
    lia
  · intro q
    rw [if_neg q] at e
    lia
end

section
noncomputable def levIn (ch : Nat) : List Nat → List Int → Int → Int → Int → List Int × Int × Int
  | x :: as, y :: row, d, r, mn =>
    let r' := pyMin (pyMin r y + 2) (d + if ch = x then 0 else 2)
    let q := levIn ch as row y r' (if r' < mn then r' else mn)
    (r' :: q.1, q.2)
  | _, _, _, r, mn => ([], r, mn)
noncomputable def levOut (as : List Nat) (c : Int) : List Nat → Int → List Int → Int → Int
  | [], _, _, res => res
  | ch :: bs, i, row, _ =>
    let q := levIn ch as row (i * 2) (i * 2) 9223372036854775807
    if q.2.2 > c then c + 1 else levOut as c bs (i + 1) q.1 q.2.1
noncomputable def levCore (a b : List Nat) (c : Int) : Int :=
  if ((b.length : Int) - (a.length : Int)) * 2 > c then c + 1
  else levOut a c b 0 ((List.range a.length).map fun (k : Nat) => (2 + 2 * (k : Nat) : Int)) 0
noncomputable def levCut (a b : List Nat) (c : Int) : Int :=
  if a = [] ∨ b = [] then 2 * ((a.length : Int) + (b.length : Int))
  else if b.length < a.length then levCore b a c else levCore a b c
noncomputable def cutS (a b : List Nat) : List Nat := a.take (a.length - preF a.reverse b.reverse)
noncomputable def levF (a b : List Nat) (c : Int) : Int :=
  if a = b then 0
  else
    let a1 := a.drop (preF a b)
    let b1 := b.drop (preF a b)
    levCut (cutS a1 b1) (cutS b1 a1) c
theorem preF_comm : ∀ a b, preF a b = preF b a
  | [], [] => rfl
  | [], y :: b => rfl
  | x :: a, [] => rfl
  | x :: a, y :: b => by
    simp only [preF]
    by_cases h : x = y
    · rw [if_pos h, if_pos h.symm, preF_comm a b]
    · rw [if_neg h, if_neg fun e => h e.symm]
theorem cutAt {M : Model} {A : Around} {env : Env} {st : Stmt} {Q : Flow → Shared → Prop} {E : Value → Shared → Prop} {s : Shared} {h₀ : Heap} {L : Addr} {m : Str → Option Value} {news : Ledg} (F : Fr h₀ L s.heap m) (N : News h₀ L s.heap news) (x : Str) (v : Tok → Value)
    (hw : ∀ Q' : Flow → Shared → Prop, (∀ t h' tk', Fr h₀ L h' (fun y => if y = x then some (v t) else m y) → News h₀ L h' news → Q' .next { s with heap := h', toks := tk' }) → wpAny M A (exec st env) Q' E s)
    (hc : ∀ t h' tk', Fr h₀ L h' (fun y => if y = x then some (v t) else m y) → News h₀ L h' news → Q .next { s with heap := h', toks := tk' }) : wpAny M A (exec st env) Q E s := hw Q hc
theorem fr_nil {h₀ h : Heap} {L : Addr} {m u : Str → Option Value} {x : Str} {v : Option Value} (F : Fr h₀ L h (fun z => if z = x then v else if ([] : List Str).contains z = true then u z else m z)) : Fr h₀ L h (fun z => if z = x then v else m z) := by
  have e : (fun z => if z = x then v else if ([] : List Str).contains z = true then u z else m z) = fun z => if z = x then v else m z := by
    funext z
    simp
  rw [e] at F
  exact F
/-- the last signs -/
theorem rev_getD {l : List Nat} {k : Nat} (h : k < l.length) : l.reverse.getD k 0 = l.getD (l.length - 1 - k) 0 := by
  have h2 : l.length - 1 - k < l.length := by lia
  simp [h, h2]
/-- what «post or None» gives, post being -k -/
noncomputable def OrV (k : Nat) (v : Value) : Prop := (k = 0 ∧ v = .none) ∨ (0 < k ∧ ∃ t, v = .int (-(k : Int)) t)
theorem cutE {M : Model} {A : Around} {env : Env} {e : PySem.Expr} {Q : Value → Shared → Prop} {E : Value → Shared → Prop} {s : Shared} {h₀ : Heap} {L : Addr} {m : Str → Option Value} {news : Ledg} (P : Value → Prop) (F : Fr h₀ L s.heap m) (N : News h₀ L s.heap news)
    (hw : ∀ Q' : Value → Shared → Prop, (∀ v h' tk', P v → Fr h₀ L h' m → News h₀ L h' news → Q' v { s with heap := h', toks := tk' }) → wpAny M A (eval e env) Q' E s)
    (hc : ∀ v h' tk', P v → Fr h₀ L h' m → News h₀ L h' news → Q v { s with heap := h', toks := tk' }) : wpAny M A (eval e env) Q E s := hw Q hc
theorem sopt_L {prog : Program} {w : World} {A : Around} {E : Value → Shared → Prop} {s : Shared} {h₀ : Heap} {L : Addr} {m : Str → Option Value} {news : Ledg} {value slice : PySem.Expr} {l : List Nat} {t : Tok} {Q : Value → Shared → Prop} {k : Nat} {v : Value} (hF : Fr h₀ L s.heap m) (hN : News h₀ L s.heap news) (hv : OrV k v) (hk : k ≤ l.length) (hz : l.length ≤ 1000) (h : ∀ h' t' tk, Fr h₀ L h' m → News h₀ L h' news → Q (.str (mkS (l.take (l.length - k))) t') { s with heap := h', toks := tk })
    (hs : subscripted slice false (.str (mkS l) t) (.ref s.heap.objs.size) = operate [.ref s.heap.objs.size, .str (mkS l) t] (getItem (.str (mkS l) t) (.ref s.heap.objs.size))) (ht : ∀ r, letTemporaryGo value (.str (mkS l) t) r = pure ()) :
    wpAny (model prog w) A (subscriptTail value slice (.str (mkS l) t) (.ref s.heap.objs.size)) Q E { s with heap := s.heap.push { cls := .type "slice", data := .fields #[.none, v, .none] } } := by
  rcases hv with ⟨rfl, rfl⟩ | ⟨h0, t0, rfl⟩
  · refine sall_L hF hN hz (fun h' t' tk a b => ?_) hs ht
    have := h h' t' tk a b
    rw [Nat.sub_zero, List.take_length] at this
    exact this
  · exact sto_L hF hN rfl h0 hk hz h hs ht
theorem take_nil {l : List Nat} {k : Nat} : l.take (l.length - k) = [] ↔ l.length ≤ k := by
  rw [List.take_eq_nil_iff]
  constructor
  · rintro (h | h)
    · lia
    · simp [h]
  · intro h
    left
    lia
end

section
theorem dec_nil {l : List Nat} (h : false = decide (l ≠ [])) : l = [] := by
  cases l with
  | nil => rfl
  | cons x r => simp at h
theorem dec_cons {l : List Nat} (h : true = decide (l ≠ [])) : l ≠ [] := by
  cases l with
  | nil => simp at h
  | cons x r => simp
theorem lrange_L {prog : Program} {w : World} {A : Around} {E : Value → Shared → Prop} {s : Shared} {h₀ : Heap} {L : Addr} {m : Str → Option Value} {Q : Value → Shared → Prop} {r : Addr} {a b c : Int} {t u v : Tok} {n : Nat} {news : Ledg} (hh : A.handled = none) (F : Fr h₀ L s.heap m) (N : News h₀ L s.heap news)
    (hr : IsRange s.heap r a b c t u v) (hsmall : Builtin.Range.small a b c = true) (hn : Builtin.Range.rangeSize a b c = (n : Int)) (hlen : n ≤ 2 ^ 24)
    (h : ∀ D h' tk ys e, IntsAre ys (rangeInts a c n) → Fr h₀ L h' m → News h₀ L h' ((D, listOf ys.toArray e) :: news) → (∀ p ∈ news, p.1 < D) → Q (.ref D) { s with heap := h', toks := tk }) :
    wpAny (model prog w) A (call (.type "list") [.ref r]) Q E s := by
  refine list_rangeD hh F N hr hsmall hn hlen fun h' tk ys F' N' _ h0 _ P C => ?_
  obtain ⟨e, he⟩ := P.1
  refine h _ h' tk ys e (by have q := CarriedAll.intsOf (as := rangeInts a c n) (f := fun i => i) C; rwa [List.map_id'] at q) F' (fun p hp => ?_) (fun p hp => Heap.lt_size (N p hp).1)
  rcases List.mem_cons.mp hp with rfl | hp
  · exact ⟨he, P.ne_locals F', h0⟩
  · exact N' p hp
/-- a list of ints of one's own beside what is kept -/
structure RowL (keep nx : Ledg) (D : Addr) (row : List Int) : Prop where
  old : ∀ p ∈ keep, p ∈ nx
  off : ∀ p ∈ keep, p.1 ≠ D
  row : IntsAt nx D row
theorem RowL.filter {keep nx : Ledg} {D I : Addr} {row : List Int} (h : RowL keep nx D row) (h1 : ∀ p ∈ keep, p.1 ≠ I) (h2 : D ≠ I) : RowL keep (nx.filter fun p => p.1 != I) D row := by
  obtain ⟨vs, e, hm, hi⟩ := h.row
  exact ⟨fun p hp => List.mem_filter.mpr ⟨h.old p hp, by simpa using h1 p hp⟩, h.off, vs, e, List.mem_filter.mpr ⟨hm, by simpa using h2⟩, hi⟩
theorem RowL.set {keep nx : Ledg} {D : Addr} {row row' : List Int} {vs : List Value} {e : Nat} (h : RowL keep nx D row) (hi : IntsAre vs row') : RowL keep (upd nx D (listOf vs.toArray e)) D row' := by
  obtain ⟨v0, e0, hm, _⟩ := h.row
  exact ⟨fun p hp => mem_upd_ne (h.old p hp) (h.off p hp), h.off, vs, e, mem_upd_self hm, hi⟩
theorem RowL.put {h₀ h : Heap} {L D : Addr} {keep nx : Ledg} {row : List Int} {vs : List Value} {e j : Nat} {v : Int} {t : Tok} (R : RowL keep nx D row) (hi : IntsAre vs row) (N : News h₀ L h (upd nx D (listOf (vs.set j (.int v t)).toArray e))) : ∃ nz, News h₀ L h nz ∧ RowL keep nz D (row.set j v) :=
  ⟨_, N, R.set (ints_set hi j)⟩
theorem RowL.lift {own keep nx : Ledg} {I D : Addr} {row : List Int} (h : RowL keep nx D row) (hI : ∀ p ∈ nx, p.1 ≠ I) (ho : ∀ p ∈ own, p.1 = I) : RowL (own ++ keep) (own ++ nx) D row := by
  obtain ⟨vs, e, hm, hi⟩ := h.row
  refine ⟨fun p hp => ?_, fun p hp => ?_, vs, e, List.mem_append_right _ hm, hi⟩
  · rcases List.mem_append.mp hp with q | q
    · exact List.mem_append_left _ q
    · exact List.mem_append_right _ (h.old p q)
  · rcases List.mem_append.mp hp with q | q
    · intro z; exact hI _ hm (z.symm.trans (ho p q))
    · exact h.off p q
theorem RowL.weaken {keep keep' nx : Ledg} {D : Addr} {row : List Int} (h : RowL keep nx D row) (hs : ∀ p ∈ keep', p ∈ keep) : RowL keep' nx D row := ⟨fun p hp => h.old p (hs p hp), fun p hp => h.off p (hs p hp), h.row⟩
theorem cutSt {M : Model} {A : Around} {env : Env} {st : Stmt} {Q : Flow → Shared → Prop} {E : Value → Shared → Prop} {s : Shared} {h₀ : Heap} {L : Addr} {m : Str → Option Value} {news : Ledg} (P : (Str → Option Value) → (Str → Option Value) → Prop) (F : Fr h₀ L s.heap m) (N : News h₀ L s.heap news)
    (hw : ∀ Q' : Flow → Shared → Prop, (∀ m' h' tk', P m m' → Fr h₀ L h' m' → News h₀ L h' news → Q' .next { s with heap := h', toks := tk' }) → wpAny M A (exec st env) Q' E s)
    (hc : ∀ m' h' tk', P m m' → Fr h₀ L h' m' → News h₀ L h' news → Q .next { s with heap := h', toks := tk' }) : wpAny M A (exec st env) Q E s := hw Q hc
/-- the frame as it is, some names told -/
noncomputable def Told' (ps : List (Str × Value)) (stored : List Str) (m₀ m : Str → Option Value) : Prop := (∀ p ∈ ps, m p.1 = some p.2) ∧ ∀ z, (∀ p ∈ ps, z ≠ p.1) → stored.contains z = false → m z = m₀ z
theorem Told'.fr {h₀ h : Heap} {L : Addr} {ps : List (Str × Value)} {stored : List Str} {m₀ m : Str → Option Value} (T : Told' ps stored m₀ m) (F : Fr h₀ L h m) : Fr h₀ L h (kstB (fun z => if stored.contains z then m z else m₀ z) ps) := ksw_fr T.1 T.2 F
noncomputable def SwapP (a3 b3 : List Nat) (m₀ m : Str → Option Value) : Prop := ∃ t3 t4, Told' [(Str.ofString "a", .str (mkS a3) t3), (Str.ofString "b", .str (mkS b3) t4)] [] m₀ m
theorem swapE (a b : List Nat) : ∃ a3 b3, (b.length < a.length → a3 = b ∧ b3 = a) ∧ (¬ b.length < a.length → a3 = a ∧ b3 = b) := by
  by_cases h : b.length < a.length
  · exact ⟨b, a, fun _ => ⟨rfl, rfl⟩, fun q => absurd h q⟩
  · exact ⟨a, b, fun q => absurd q h, fun _ => ⟨rfl, rfl⟩⟩
theorem levCut_swap {a b a3 b3 : List Nat} {c : Int} (ha : a ≠ []) (hb : b ≠ []) (h1 : b.length < a.length → a3 = b ∧ b3 = a) (h2 : ¬ b.length < a.length → a3 = a ∧ b3 = b) : levCut a b c = levCore a3 b3 c := by
  rw [levCut, if_neg (fun z => z.elim ha hb)]
  by_cases h : b.length < a.length
  · rw [if_pos h, (h1 h).1, (h1 h).2]
  · rw [if_neg h, (h2 h).1, (h2 h).2]
theorem levIn_at {ch : Nat} {as : List Nat} {row : List Int} {d r mn : Int} {i : Nat} (h1 : i < as.length) (h2 : i < row.length) :
    levIn ch (as.drop i) (row.drop i) d r mn = (pyMin (pyMin r (row.getD i 0) + 2) (d + if ch = as.getD i 0 then 0 else 2) :: (levIn ch (as.drop (i + 1)) (row.drop (i + 1)) (row.getD i 0) (pyMin (pyMin r (row.getD i 0) + 2) (d + if ch = as.getD i 0 then 0 else 2)) (if pyMin (pyMin r (row.getD i 0) + 2) (d + if ch = as.getD i 0 then 0 else 2) < mn then pyMin (pyMin r (row.getD i 0) + 2) (d + if ch = as.getD i 0 then 0 else 2) else mn)).1,
      (levIn ch (as.drop (i + 1)) (row.drop (i + 1)) (row.getD i 0) (pyMin (pyMin r (row.getD i 0) + 2) (d + if ch = as.getD i 0 then 0 else 2)) (if pyMin (pyMin r (row.getD i 0) + 2) (d + if ch = as.getD i 0 then 0 else 2) < mn then pyMin (pyMin r (row.getD i 0) + 2) (d + if ch = as.getD i 0 then 0 else 2) else mn)).2) := by
  rw [List.drop_eq_getElem_cons h1, List.drop_eq_getElem_cons h2]
  have e1 : as.getD i 0 = as[i] := by simp [h1]
  have e2 : row.getD i 0 = row[i] := by simp [h2]
  rw [e1, e2]
  rfl
theorem levIn_length {ch : Nat} : ∀ (as : List Nat) (row : List Int) (d r mn : Int), as.length = row.length → (levIn ch as row d r mn).1.length = row.length
  | [], [], _, _, _, _ => rfl
  | [], _ :: _, _, _, _, h => by simp at h
  | _ :: _, [], _, _, _, h => by simp at h
  | x :: as, y :: row, d, r, mn, h => by
    simp only [levIn, List.length_cons]
    rw [levIn_length as row _ _ _ (by simpa using h)]
theorem levOut_at {as : List Nat} {c : Int} {bs : List Nat} {row : List Int} {res : Int} {i : Nat} (h : i < bs.length) :
    levOut as c (bs.drop i) i row res = if (levIn (bs.getD i 0) as row ((i : Int) * 2) ((i : Int) * 2) 9223372036854775807).2.2 > c then c + 1 else levOut as c (bs.drop (i + 1)) ((i : Int) + 1) (levIn (bs.getD i 0) as row ((i : Int) * 2) ((i : Int) * 2) 9223372036854775807).1 (levIn (bs.getD i 0) as row ((i : Int) * 2) ((i : Int) * 2) 9223372036854775807).2.1 := by
  rw [List.drop_eq_getElem_cons h]
  have e1 : bs.getD i 0 = bs[i] := by simp [h]
  rw [e1]
  rfl
theorem rangeSize_two {a : Nat} : Builtin.Range.rangeSize 2 (2 * ((a : Int) + 1)) 2 = (a : Int) := by
  unfold Builtin.Range.rangeSize
  rw [if_pos (by decide)]
  split <;> lia
theorem getD_mem {l : List Nat} {i : Nat} (h : i < l.length) : l.getD i 0 ∈ l := by
  have e : l.getD i 0 = l[i] := by simp [h]
  rw [e]
  exact List.getElem_mem h
set_option maxRecDepth 100000 in
theorem small_two {a : Nat} (h : a ≤ 1000) : Builtin.Range.small 2 (2 * ((a : Int) + 1)) 2 = true := by
  unfold Builtin.Range.small
  rw [rangeSize_two]
  have h2 : (2 : Int) * ((a : Int) + 1) ≤ 2002 := by lia
  have h3 : (2 : Int) ≤ 2 * ((a : Int) + 1) := by lia
  generalize (2 : Int) * ((a : Int) + 1) = b at *
  simp only [Builtin.Range.rangeFitsLong, Bool.and_eq_true, Bool.or_eq_true, decide_eq_true_eq, beq_iff_eq, show (2 : Int) > 0 by decide, if_true]
  lia
theorem rangeSize_one {a : Nat} : Builtin.Range.rangeSize 0 (a : Int) 1 = (a : Int) := by
  rw [rangeSize_nat]
  lia
/-- between two turns of the outer loop -/
noncomputable def LevJ (as bs : List Nat) (c fin : Int) (keep : Ledg) (D : Addr) (m₀ : Str → Option Value) (i : Nat) (m : Str → Option Value) (nx : Ledg) : Prop :=
  ∃ row res t, levOut as c (bs.drop i) i row res = fin ∧ row.length = as.length ∧ RowL keep nx D row ∧ (∀ p ∈ [(Str.ofString "result", Value.int res t)], m p.1 = some p.2) ∧
    ∀ z, z ≠ Str.ofString "bindex" → (∀ p ∈ [(Str.ofString "result", Value.int res t)], z ≠ p.1) → [Str.ofString "bchar", Str.ofString "distance", Str.ofString "minimum", Str.ofString "index", Str.ofString "substitute", Str.ofString "insert_delete"].contains z = false → m z = m₀ z
/-- between two turns of the inner loop -/
noncomputable def InJ (ch : Nat) (as : List Nat) (row : List Int) (fin : List Int × Int × Int) (keep : Ledg) (D : Addr) (m₀ : Str → Option Value) (i : Nat) (m : Str → Option Value) (nx : Ledg) : Prop :=
  ∃ dn d r mn t1 t2 t3, List.length dn = i ∧ (dn ++ (levIn ch (as.drop i) (row.drop i) d r mn).1, (levIn ch (as.drop i) (row.drop i) d r mn).2) = fin ∧ RowL keep nx D (dn ++ row.drop i) ∧
    (∀ p ∈ [(Str.ofString "result", Value.int r t1), (Str.ofString "distance", Value.int d t2), (Str.ofString "minimum", Value.int mn t3)], m p.1 = some p.2) ∧
    ∀ z, z ≠ Str.ofString "index" → (∀ p ∈ [(Str.ofString "result", Value.int r t1), (Str.ofString "distance", Value.int d t2), (Str.ofString "minimum", Value.int mn t3)], z ≠ p.1) → [Str.ofString "substitute", Str.ofString "insert_delete"].contains z = false → m z = m₀ z
theorem mid_get {dn rs : List Int} {row : List Int} {i : Nat} (h : dn.length = i) (hi : i < row.length) : (dn ++ row.drop i).getD i 0 = row.getD i 0 := by
  subst h
  rw [List.getD_eq_getElem?_getD, List.getElem?_append_right (Nat.le_refl _), Nat.sub_self, List.getElem?_drop, Nat.add_zero, ← List.getD_eq_getElem?_getD]
theorem mid_set {dn : List Int} {row : List Int} {i : Nat} {v : Int} (h : dn.length = i) (hi : i < row.length) : (dn ++ row.drop i).set i v = (dn ++ [v]) ++ row.drop (i + 1) := by
  subst h
  rw [List.set_append_right _ _ (Nat.le_refl _), Nat.sub_self, List.drop_eq_getElem_cons hi, List.set_cons_zero, List.append_assoc]
  rfl
end

section
noncomputable def rowF (ns : List Int) : List Int := ns.take 5 ++ ([3, 1, 2, 1, 2] : List Int).drop (ns.take 5).length
theorem rowF_length (ns : List Int) : (rowF ns).length = 5 := by
  unfold rowF
  simp
  omega
/-- the places at which an item is less than the one ahead of it -/
noncomputable def fallAt (one : List Int) (i : Nat) : Bool := decide (one.getD (i + 1) 0 < one.getD i 0)
noncomputable def fallsI (one : List Int) : List Int := ((List.range 4).filter (fallAt one)).map fun (i : Nat) => 1 + ((i : Nat) : Int)
noncomputable def riseAt (ds : List Int) (i : Nat) : Bool := decide (ds.getD i 0 < ds.getD (i + 1) 0)
noncomputable def risesI (ds : List Int) : List Int := ((List.range 4).filter (riseAt ds)).map fun (i : Nat) => 1 + ((i : Nat) : Int)
noncomputable def colI (tab : List (List Int)) (k : Nat) : List Int := (tab.filter fun l => decide (k < l.length)).map fun l => l.getD k 0
noncomputable def colsI (tab : List (List Int)) : List (List Int) := (List.range (tab.getD 0 []).length).map (colI tab)
noncomputable def mulH (B : Nat) (a h : Nat) : Nat := a * (B ^ h - 1)
noncomputable def aboveF (B : Nat) (n : Nat) : Nat := (List.range n).foldl (fun a k => mulH B a (k + 1)) 1
/-- the hook of the place k of the line d -/
noncomputable def hookF (tab : List (List Int)) (d k : Nat) : Nat := (tab.getD d []).length - k + ((tab.drop (d + 1)).filter fun l => decide (k < l.length)).length
noncomputable def hookRow (B : Nat) (tab : List (List Int)) (d : Nat) (a : Nat) (n : Nat) : Nat := (List.range n).foldl (fun a k => mulH B a (hookF tab d k)) a
noncomputable def belowF (B : Nat) (tab : List (List Int)) (n : Nat) : Nat := (List.range n).foldl (fun a d => hookRow B tab d a (tab.getD d []).length) 1
noncomputable def weightF (tab : List (List Int)) (n : Nat) : Nat := (List.range n).foldl (fun a d => a + d * (tab.getD d []).length) 0
noncomputable def maxF (sums : List Int) : Int := sums.foldl (fun a x => if x > a then x else a) (sums.headD 0)
noncomputable def countsF (sums : List Int) : List Int := (List.range ((maxF sums).toNat + 1)).map fun (k : Nat) => ((sums.count ((k : Nat) : Int) : Nat) : Int)
noncomputable def sumsF (kin : List (List Int)) : List Int := kin.map fun one => (fallsI one).sum
noncomputable def bitsF (a : Nat) : Nat := Builtin.Int.intBits (a : Int)
noncomputable def joinN (sep : List Nat) : List Nat → List Nat
  | [] => []
  | x :: r => match r with
    | [] => [x]
    | _ :: _ => x :: (sep ++ joinN sep r)
noncomputable def spreadN (n : Nat) (signs : List Nat) : List Nat := List.replicate (n - 1) 46 ++ joinN (List.replicate (n - 2) 46) signs ++ List.replicate (n - 1) 46
noncomputable def dueI (text signs : List Nat) (len : Nat) : Int := 2 * (((spreadN text.length signs).length : Int) - (len : Int))
/-- all that the law asks of its row, w being the width, n the script's length -/
structure LawOk (row : List Int) (w n : Nat) (kin tab : List (List Int)) (un : List Int) (signs text : List Nat) : Prop where
  hkin : kinLoop 100 [row] 0 = some kin
  k0 : kin.getD 0 [] = row
  klen : 0 < kin.length ∧ kin.length ≤ 100
  k5 : ∀ one ∈ kin, one.length = 5
  ktab : ∀ one ∈ kin, (tabF false one).1 = tab ∧ (tabF false one).2.length = 5 ∧ risesI (tabF false one).2 = fallsI one
  cols : (tabF true (kin.getLastD []).reverse).1 = colsI tab
  back : backF (tabF false (kin.getLastD [])).2.reverse tab [] = some (kin.getLastD []).reverse
  t5 : 0 < tab.length ∧ tab.length ≤ 5
  tl : ∀ l ∈ tab, 0 < l.length ∧ l.length ≤ 5
  bpos : 0 < belowF (2 ^ w) tab tab.length
  bsm : bitsF (aboveF (2 ^ w) 5 + n) < 1990 ∧ bitsF (belowF (2 ^ w) tab tab.length) < 1990
  bcnt : (bitsF (aboveF (2 ^ w) 5 + n) + bitsF (belowF (2 ^ w) tab tab.length) - 1) / bitsF (belowF (2 ^ w) tab tab.length) ≤ 100
  left : (aboveF (2 ^ w) 5 + n) % belowF (2 ^ w) tab tab.length = n
  wsm : weightF tab tab.length ≤ 100
  qcnt : (bitsF ((aboveF (2 ^ w) 5 + n) / belowF (2 ^ w) tab tab.length) + w - 1) / w ≤ 100
  counts : List.replicate (weightF tab tab.length) 0 ++ dg w ((aboveF (2 ^ w) 5 + n) / belowF (2 ^ w) tab tab.length) ((bitsF ((aboveF (2 ^ w) 5 + n) / belowF (2 ^ w) tab tab.length) + w - 1) / w) = countsF (sumsF kin)
  smax : 0 ≤ maxF (sumsF kin) ∧ maxF (sumsF kin) ≤ 10
  un1 : un.Pairwise (· < ·)
  un2 : ∀ x, x ∈ un ↔ x ∈ row
  unl : 0 < un.length ∧ un.length ≤ 5
  sg : signs = row.map fun x => 97 + (blF un x).toNat
  sg5 : ∀ x ∈ row, blF un x < 5
  tx : text.Perm signs ∧ text.Pairwise (· ≤ ·)
  lev1 : levF text (spreadN 5 signs) (dueI text signs (tab.getD 0 []).length - Int.fmod (w : Int) 2) = dueI text signs (tab.getD 0 []).length
  lev2 : levF ([101, 100, 99, 98, 97].drop (5 - un.length)) (spreadN un.length signs) (dueI ([101, 100, 99, 98, 97].drop (5 - un.length)) signs tab.length - Int.fmod (w : Int) 2) = dueI ([101, 100, 99, 98, 97].drop (5 - un.length)) signs tab.length
end

section
theorem slice_upto_I {prog : Program} {w : World} {A : Around} {E : Value → Shared → Prop} {s : Shared} {h₀ : Heap} {L l : Addr} {m : Str → Option Value} {nx : Ledg} {vs : List Value} {value slice : PySem.Expr} {y : Int} {t : Tok} {Q : Value → Shared → Prop} (F : Fr h₀ L s.heap m) (N : News h₀ L s.heap nx) (hl : h₀.IsList l vs.toArray) (hy : 0 ≤ y) (hz : vs.length ≤ sizeLine)
    (h : ∀ D h', Fr h₀ L h' m → News h₀ L h' ((D, listOf (vs.take y.toNat).toArray 0) :: nx) → (∀ p ∈ nx, p.1 < D) → Q (.ref D) { s with heap := h' })
    (hs : subscripted slice false (.ref l) (.ref s.heap.objs.size) = operate [.ref s.heap.objs.size, .ref l] (getItem (.ref l) (.ref s.heap.objs.size))) (ht : ∀ r, letTemporaryGo value (.ref l) r = pure ()) :
    wpAny (model prog w) A (subscriptTail value slice (.ref l) (.ref s.heap.objs.size)) Q E { s with heap := s.heap.push { cls := .type "slice", data := .fields #[.none, .int y t, .none] } } := by
  refine kmk_slice F N (Fr.lst F hl) .none (.int _ _) (fun D h' F' N' l1 => h D h' F' ?_ l1) hs ht (by simpa using hz)
  rw [pick_upto hy] at N'
  exact N'
/-- the six cells of the law and what else it keeps -/
theorem C6.ex : ∃ f : Addr → Obj → Obj → Obj → Obj → Obj → Obj → Ledg → Ledg, ∀ (L : Addr) (o6 o5 o4 o3 o2 o1 : Obj) (R : Ledg), f L o6 o5 o4 o3 o2 o1 R = (L + 1 + 1 + 1 + 1 + 1 + 1, o6) :: (L + 1 + 1 + 1 + 1 + 1, o5) :: (L + 1 + 1 + 1 + 1, o4) :: (L + 1 + 1 + 1, o3) :: (L + 1 + 1, o2) :: (L + 1, o1) :: R := ⟨_, fun _ _ _ _ _ _ _ _ => rfl⟩
noncomputable def C6 := Classical.choose C6.ex
theorem C6.eq (L : Addr) (o6 o5 o4 o3 o2 o1 : Obj) (R : Ledg) : C6 L o6 o5 o4 o3 o2 o1 R = (L + 1 + 1 + 1 + 1 + 1 + 1, o6) :: (L + 1 + 1 + 1 + 1 + 1, o5) :: (L + 1 + 1 + 1 + 1, o4) :: (L + 1 + 1 + 1, o3) :: (L + 1 + 1, o2) :: (L + 1, o1) :: R := Classical.choose_spec C6.ex L o6 o5 o4 o3 o2 o1 R
/-- all but the fifth -/
theorem C5.ex : ∃ f : Addr → Obj → Obj → Obj → Obj → Obj → Ledg → Ledg, ∀ (L : Addr) (o6 o4 o3 o2 o1 : Obj) (R : Ledg), f L o6 o4 o3 o2 o1 R = (L + 1 + 1 + 1 + 1 + 1 + 1, o6) :: (L + 1 + 1 + 1 + 1, o4) :: (L + 1 + 1 + 1, o3) :: (L + 1 + 1, o2) :: (L + 1, o1) :: R := ⟨_, fun _ _ _ _ _ _ _ => rfl⟩
noncomputable def C5 := Classical.choose C5.ex
theorem C5.eq (L : Addr) (o6 o4 o3 o2 o1 : Obj) (R : Ledg) : C5 L o6 o4 o3 o2 o1 R = (L + 1 + 1 + 1 + 1 + 1 + 1, o6) :: (L + 1 + 1 + 1 + 1, o4) :: (L + 1 + 1 + 1, o3) :: (L + 1 + 1, o2) :: (L + 1, o1) :: R := Classical.choose_spec C5.ex L o6 o4 o3 o2 o1 R
section
variable {L : Addr} {o6 o5 o4 o3 o2 o1 : Obj} {R : Ledg}
theorem C6.a6 : ((L + 1 + 1 + 1 + 1 + 1 + 1, o6) : Addr × Obj) ∈ C6 L o6 o5 o4 o3 o2 o1 R := by
  rw [C6.eq]
  exact .head _
theorem C6.a5 : ((L + 1 + 1 + 1 + 1 + 1, o5) : Addr × Obj) ∈ C6 L o6 o5 o4 o3 o2 o1 R := by
  rw [C6.eq]
  exact .tail _ (.head _)
theorem C6.a4 : ((L + 1 + 1 + 1 + 1, o4) : Addr × Obj) ∈ C6 L o6 o5 o4 o3 o2 o1 R := by
  rw [C6.eq]
  exact .tail _ (.tail _ (.head _))
theorem C6.a3 : ((L + 1 + 1 + 1, o3) : Addr × Obj) ∈ C6 L o6 o5 o4 o3 o2 o1 R := by
  rw [C6.eq]
  exact .tail _ (.tail _ (.tail _ (.head _)))
theorem C6.a2 : ((L + 1 + 1, o2) : Addr × Obj) ∈ C6 L o6 o5 o4 o3 o2 o1 R := by
  rw [C6.eq]
  exact .tail _ (.tail _ (.tail _ (.tail _ (.head _))))
theorem C6.a1 : ((L + 1, o1) : Addr × Obj) ∈ C6 L o6 o5 o4 o3 o2 o1 R := by
  rw [C6.eq]
  exact .tail _ (.tail _ (.tail _ (.tail _ (.tail _ (.head _)))))
theorem C6.r : ∀ p ∈ R, p ∈ C6 L o6 o5 o4 o3 o2 o1 R := by
  rw [C6.eq]
  exact fun _ h => .tail _ (.tail _ (.tail _ (.tail _ (.tail _ (.tail _ h)))))
theorem C6.all {P : Addr × Obj → Prop} (h6 : P (L + 1 + 1 + 1 + 1 + 1 + 1, o6)) (h5 : P (L + 1 + 1 + 1 + 1 + 1, o5)) (h4 : P (L + 1 + 1 + 1 + 1, o4)) (h3 : P (L + 1 + 1 + 1, o3)) (h2 : P (L + 1 + 1, o2)) (h1 : P (L + 1, o1)) (hR : ∀ p ∈ R, P p) : ∀ p ∈ C6 L o6 o5 o4 o3 o2 o1 R, P p := by
  rw [C6.eq]
  exact List.forall_mem_cons.mpr ⟨h6, List.forall_mem_cons.mpr ⟨h5, List.forall_mem_cons.mpr ⟨h4, List.forall_mem_cons.mpr ⟨h3, List.forall_mem_cons.mpr ⟨h2, List.forall_mem_cons.mpr ⟨h1, hR⟩⟩⟩⟩⟩⟩
theorem C5.a6 : ((L + 1 + 1 + 1 + 1 + 1 + 1, o6) : Addr × Obj) ∈ C5 L o6 o4 o3 o2 o1 R := by
  rw [C5.eq]
  exact .head _
theorem C5.a4 : ((L + 1 + 1 + 1 + 1, o4) : Addr × Obj) ∈ C5 L o6 o4 o3 o2 o1 R := by
  rw [C5.eq]
  exact .tail _ (.head _)
theorem C5.a3 : ((L + 1 + 1 + 1, o3) : Addr × Obj) ∈ C5 L o6 o4 o3 o2 o1 R := by
  rw [C5.eq]
  exact .tail _ (.tail _ (.head _))
theorem C5.a2 : ((L + 1 + 1, o2) : Addr × Obj) ∈ C5 L o6 o4 o3 o2 o1 R := by
  rw [C5.eq]
  exact .tail _ (.tail _ (.tail _ (.head _)))
theorem C5.a1 : ((L + 1, o1) : Addr × Obj) ∈ C5 L o6 o4 o3 o2 o1 R := by
  rw [C5.eq]
  exact .tail _ (.tail _ (.tail _ (.tail _ (.head _))))
theorem C5.r : ∀ p ∈ R, p ∈ C5 L o6 o4 o3 o2 o1 R := by
  rw [C5.eq]
  exact fun _ h => .tail _ (.tail _ (.tail _ (.tail _ (.tail _ h))))
theorem C5.all {P : Addr × Obj → Prop} (h6 : P (L + 1 + 1 + 1 + 1 + 1 + 1, o6)) (h4 : P (L + 1 + 1 + 1 + 1, o4)) (h3 : P (L + 1 + 1 + 1, o3)) (h2 : P (L + 1 + 1, o2)) (h1 : P (L + 1, o1)) (hR : ∀ p ∈ R, P p) : ∀ p ∈ C5 L o6 o4 o3 o2 o1 R, P p := by
  rw [C5.eq]
  exact List.forall_mem_cons.mpr ⟨h6, List.forall_mem_cons.mpr ⟨h4, List.forall_mem_cons.mpr ⟨h3, List.forall_mem_cons.mpr ⟨h2, List.forall_mem_cons.mpr ⟨h1, hR⟩⟩⟩⟩⟩
end
/-- neither the law's place nor a cell of its -/
noncomputable def Out (L a : Addr) : Prop := a < L ∨ @LT.lt Nat _ (L + 6) a
theorem lo6 (L k : Nat) : @LE.le Nat _ L (L + k) := Nat.le_add_right L k
theorem hi6 (L k : Nat) (h : Nat.ble k 6 = true) : @LE.le Nat _ (L + k) (L + 6) := Nat.add_le_add_left (Nat.le_of_ble_eq_true h) L
theorem nk (I j k : Nat) (h : Nat.beq j k = false) : ¬ @Eq Nat (I + j) (I + k) := fun e => by
  have := Nat.add_left_cancel e
  subst this
  rw [Nat.beq_refl] at h
  cases h
theorem out_ne {L a : Addr} (h : Out L a) (k : Nat) (hk : Nat.ble k 6 = true) : ¬ @Eq Nat a (L + k) := fun e => by
  have hk := Nat.le_of_ble_eq_true hk
  rcases h with q | q
  · rw [show a = L + k from e] at q
    exact Nat.not_lt.mpr (Nat.le_add_right L k) q
  · rw [show a = L + k from e] at q
    exact Nat.not_lt.mpr (Nat.add_le_add_left hk L) q
theorem packC {hb h : Heap} {L : Addr} {nx : Ledg} {o1 o2 o3 o4 o5 o6 : Obj} {v1 v2 v3 v4 v5 v6 : Option Value} (N : News hb L h nx) (m1 : (L + 1, o1) ∈ nx) (d1 : o1.data = .cell v1) (m2 : (L + 1 + 1, o2) ∈ nx) (d2 : o2.data = .cell v2) (m3 : (L + 1 + 1 + 1, o3) ∈ nx) (d3 : o3.data = .cell v3)
    (m4 : (L + 1 + 1 + 1 + 1, o4) ∈ nx) (d4 : o4.data = .cell v4) (m5 : (L + 1 + 1 + 1 + 1 + 1, o5) ∈ nx) (d5 : o5.data = .cell v5) (m6 : (L + 1 + 1 + 1 + 1 + 1 + 1, o6) ∈ nx) (d6 : o6.data = .cell v6) :
    ∃ R : Ledg, News hb L h (C6 L o6 o5 o4 o3 o2 o1 R) ∧ (∀ p ∈ R, p.1 < L ∨ @LT.lt Nat _ (L + 6) p.1) ∧ (∀ p ∈ nx, (∀ v, p.2.data ≠ .cell v) → p ∈ R) ∧ (∀ p ∈ R, p ∈ nx ∧ ∀ v, p.2.data ≠ .cell v) := by
  classical
  have same : ∀ {p : Addr × Obj} {c : Addr} {o : Obj} {v : Option Value}, p ∈ nx → (c, o) ∈ nx → o.data = .cell v → (∀ v, p.2.data ≠ .cell v) → p.1 ≠ c := by
    intro p c o v hp hc hd hn e
    have z1 := (N p hp).1
    have z2 := (N _ hc).1
    rw [e, z2] at z1
    cases z1
    exact hn _ hd
  refine ⟨nx.filter fun p => decide (∀ v, p.2.data ≠ .cell v), ?_, ?_, ?_, ?_⟩
  · exact C6.all (N _ m6) (N _ m5) (N _ m4) (N _ m3) (N _ m2) (N _ m1) fun p hp => N p (List.mem_filter.mp hp).1
  · intro p hp
    have hp1 := (List.mem_filter.mp hp).1
    have hp2 : ∀ v, p.2.data ≠ .cell v := of_decide_eq_true (List.mem_filter.mp hp).2
    have e0 := (N p hp1).2.1
    have e1 := same hp1 m1 d1 hp2
    have e2 := same hp1 m2 d2 hp2
    have e3 := same hp1 m3 d3 hp2
    have e4 := same hp1 m4 d4 hp2
    have e5 := same hp1 m5 d5 hp2
    have e6 := same hp1 m6 d6 hp2
    generalize p.1 = x at *
    have e0 : ¬ @Eq Nat x L := e0
    have e1 : ¬ @Eq Nat x (L + 1) := e1
    have e2 : ¬ @Eq Nat x (L + 1 + 1) := e2
    have e3 : ¬ @Eq Nat x (L + 1 + 1 + 1) := e3
    have e4 : ¬ @Eq Nat x (L + 1 + 1 + 1 + 1) := e4
    have e5 : ¬ @Eq Nat x (L + 1 + 1 + 1 + 1 + 1) := e5
    have e6 : ¬ @Eq Nat x (L + 1 + 1 + 1 + 1 + 1 + 1) := e6
    show @LT.lt Nat _ x L ∨ @LT.lt Nat _ (L + 6) x
    lia
  · intro p hp hn
    exact List.mem_filter.mpr ⟨hp, decide_eq_true hn⟩
  · intro p hp
    exact ⟨(List.mem_filter.mp hp).1, of_decide_eq_true (List.mem_filter.mp hp).2⟩
theorem off6 {R : Ledg} {L c : Addr} (h : ∀ p ∈ R, p.1 < L ∨ @LT.lt Nat _ (L + 6) p.1) (h1 : @LE.le Nat _ L c) (h2 : @LE.le Nat _ c (L + 6)) : ∀ p ∈ R, p.1 ≠ c := fun p hp e => by
  rcases h p hp with q | q
  · rw [e] at q; exact Nat.lt_irrefl _ (Nat.lt_of_lt_of_le q h1)
  · rw [e] at q; exact Nat.lt_irrefl _ (Nat.lt_of_lt_of_le q h2)
theorem nc_list {a : Array Value} {e : Nat} : ∀ v, (listOf a e).data ≠ .cell v := fun v h => by cases h
theorem nc_tab {a : Array (Nat × Nat × Nat)} : True := trivial
noncomputable def KeepC (nx R : Ledg) : Prop := ∀ p ∈ nx, (∀ v, p.2.data ≠ .cell v) → p ∈ R
theorem IntsAt.off {nx R : Ledg} {a : Addr} {xs : List Int} (h : IntsAt nx a xs) (hk : KeepC nx R) : IntsAt R a xs :=
  let ⟨vs, e, hm, hi⟩ := h
  ⟨vs, e, hk _ hm nc_list, hi⟩
theorem IntsAt.sub {nx R : Ledg} {a : Addr} {xs : List Int} (h : IntsAt nx a xs) (hk : ∀ p ∈ nx, p ∈ R) : IntsAt R a xs := h.mono fun o ho => hk _ ho
theorem RowsAt.off {nx R : Ledg} {as : List Addr} {xss : List (List Int)} (h : RowsAt nx as xss) (hk : KeepC nx R) : RowsAt R as xss := ⟨h.len, fun i a ha => (h.at' i a ha).off hk⟩
/-- a list of lists of ints -/
noncomputable def GridAt (nx : Ledg) (l : Addr) (as : List Addr) (xss : List (List Int)) : Prop := (∃ e, (l, listOf (as.map Value.ref).toArray e) ∈ nx) ∧ RowsAt nx as xss
theorem GridAt.off {nx R : Ledg} {l : Addr} {as : List Addr} {xss : List (List Int)} (h : GridAt nx l as xss) (hk : KeepC nx R) : GridAt R l as xss :=
  ⟨let ⟨e, hm⟩ := h.1; ⟨e, hk _ hm nc_list⟩, h.2.off hk⟩
theorem GridAt.sub {nx R : Ledg} {l : Addr} {as : List Addr} {xss : List (List Int)} (h : GridAt nx l as xss) (hk : ∀ p ∈ nx, p ∈ R) : GridAt R l as xss :=
  ⟨let ⟨e, hm⟩ := h.1; ⟨e, hk _ hm⟩, h.2.mono fun a _ o ho => hk _ ho⟩
theorem KinL.grid {news nx : Ledg} {kn : Addr} {as : List Addr} {xss : List (List Int)} (T : KinL news nx kn as xss) : GridAt nx kn as xss := ⟨T.kin, T.rows⟩
/-- a table as a pair of its lines and its rests -/
noncomputable def PairAt (nx : Ledg) (r : Addr) (xss : List (List Int)) (ds : List Int) : Prop := ∃ ln rs as, (r, ({ cls := .type "tuple", data := .seq #[.ref ln, .ref rs] } : Obj)) ∈ nx ∧ GridAt nx ln as xss ∧ IntsAt nx rs ds
theorem nc_tup {a : Array Value} : ∀ v, (({ cls := .type "tuple", data := .seq a } : Obj)).data ≠ .cell v := fun v h => by cases h
theorem PairAt.off {nx R : Ledg} {r : Addr} {xss : List (List Int)} {ds : List Int} (h : PairAt nx r xss ds) (hk : KeepC nx R) : PairAt R r xss ds :=
  let ⟨ln, rs, as, h1, h2, h3⟩ := h
  ⟨ln, rs, as, hk _ h1 nc_tup, h2.off hk, h3.off hk⟩
theorem PairAt.sub {nx R : Ledg} {r : Addr} {xss : List (List Int)} {ds : List Int} (h : PairAt nx r xss ds) (hk : ∀ p ∈ nx, p ∈ R) : PairAt R r xss ds :=
  let ⟨ln, rs, as, h1, h2, h3⟩ := h
  ⟨ln, rs, as, hk _ h1, h2.sub hk, h3.sub hk⟩
theorem TabL.pair {news nx : Ledg} {r ln rs : Addr} {as : List Addr} {xss : List (List Int)} {ds : List Int} (hr : (r, ({ cls := .type "tuple", data := .seq #[.ref ln, .ref rs] } : Obj)) ∈ nx) (T : TabL news nx ln rs as xss ds) : PairAt nx r xss ds := ⟨ln, rs, as, hr, ⟨T.lines, T.rows⟩, T.rests⟩
theorem TabOk.off {P : Addr} {li co : Nat} {qual : Str} {nx R : Ledg} (h : TabOk P li co qual nx) (hk : KeepC nx R) : TabOk P li co qual R := by
  rcases h with h | ⟨c', oc, vs, t, h1, h2, h3, h4⟩
  · exact .inl (hk _ h fun v e => by cases e)
  · exact .inr ⟨c', oc, vs, t, hk _ h1 (fun v e => by cases e), hk _ h2 fun v e => (by rw [h3] at e; cases e), h3, h4⟩
theorem row_ints {vs : List Value} {ns : List Int} {t1 t2 t3 t4 t5 : Tok} (h : IntsAre vs ns) : IntsAre (vs.take 5 ++ [Value.int 3 t1, .int 1 t2, .int 2 t3, .int 1 t4, .int 2 t5].drop (vs.take 5).length) (rowF ns) := by
  have hl : (vs.take 5).length = (ns.take 5).length := by rw [List.length_take, List.length_take, h.length]
  unfold rowF
  rw [hl]
  exact (h.take 5).append (IntsAre.drop (.cons _ _ (.cons _ _ (.cons _ _ (.cons _ _ (.cons _ _ .nil))))) _)
theorem len_I {prog : Program} {w : World} {A : Around} {E : Value → Shared → Prop} {s : Shared} {h₀ : Heap} {L l : Addr} {m : Str → Option Value} {vs : List Value} {Q : Value → Shared → Prop} (F : Fr h₀ L s.heap m) (hl : h₀.IsList l vs.toArray) (hfit : vs.length < 2 ^ 62)
    (h : Q (.int (vs.length : Nat) (s.toks + 1)) { s with toks := s.toks + 1 + 1 }) : wpAny (model prog w) A (call (.builtin "len") [.ref l]) Q E s := by
  have e1 : vs.toArray.size = vs.length := by simp
  refine Calls.call_len_list (Fr.lst F hl) (by rw [e1]; lia) ?_
  rw [e1]
  exact h
end

section
section
variable {prog : Program} {w : World} {A : Around} {E : Value → Shared → Prop} {s : Shared} {h₀ : Heap} {L : Addr} {m : Str → Option Value} {env : Env}
/-- a block by what holds between its turns -/
theorem compRest_inv {elt : PySem.Expr} {x : Str} {scope : Scope} {cl : List (Str × Addr)} {S : Ledg → Prop} {P : Nat → Value → Prop} {Fin : List Value → Ledg → Prop} {n : Nat} (J : Nat → List Value → Ledg → Prop)
    (turn : ∀ i ys nx v I oI C oC D m₂ h tk (E' : Value → Shared → Prop), i < n → J i ys nx → P i v → LCg.NsObj oC m₂ → m₂ x = some v → Fr h₀ L h m → News h₀ L h ((I, oI) :: (C, oC) :: (D, LCg.lst ys) :: nx) → LCg.Off3 I C D nx → ((@Ne Nat I C) ∧ (@Ne Nat I D) ∧ (@Ne Nat C D)) →
      wpAny (model prog w) A (eval elt (compEnvC scope cl C env)) (LCg.CompEnd h₀ L m { s with heap := h, toks := tk } I oI C oC D (LCg.lst ys) S (fun y nx' => J (i + 1) (ys ++ [y]) nx')) E' { s with heap := h, toks := tk })
    (fin : ∀ ys nx, J n ys nx → Fin ys nx) : ∀ k i ys nx, i + k = n → J i ys nx → LCg.CompRest prog w A h₀ L m env elt x scope cl s S P Fin k i ys nx
  | 0, i, ys, nx, hi, hJ => LCg.CompRest.zero (fin ys nx (by cases hi; exact hJ))
  | k + 1, i, ys, nx, hi, hJ => by
    refine LCg.CompRest.succ fun v I oI C oC D m₂ h tk E' hv hC hx F N off ne => ?_
    refine wpAny_mono (turn i ys nx v I oI C oC D m₂ h tk E' (by lia) hJ hv hC hx F N off ne) (fun y s₂ q => ?_) fun _ _ z => z
    obtain ⟨h', tk', nx', e, F', N', off', hS, hJ'⟩ := q
    exact ⟨h', tk', nx', e, F', N', off', hS, compRest_inv J turn fin k (i + 1) _ _ (by lia) hJ'⟩
theorem compRestT_inv {ct elt : PySem.Expr} {x : Str} {scope : Scope} {cl : List (Str × Addr)} {S : Ledg → Prop} {P : Nat → Value → Prop} {Fin : List Value → Ledg → Prop} {n : Nat} (J : Nat → List Value → Ledg → Prop)
    (turn : ∀ i ys nx v I oI C oC D m₂ h tk (E' : Value → Shared → Prop), i < n → J i ys nx → P i v → LCg.NsObj oC m₂ → m₂ x = some v → Fr h₀ L h m → News h₀ L h ((I, oI) :: (C, oC) :: (D, LCg.lst ys) :: nx) → LCg.Off3 I C D nx → ((@Ne Nat I C) ∧ (@Ne Nat I D) ∧ (@Ne Nat C D)) →
      wpAny (model prog w) A (isTrue ct (compEnvC scope cl C env) (eval ct (compEnvC scope cl C env))) (fun ok s' => if ok = true then
        wpAny (model prog w) A (eval elt (compEnvC scope cl C env)) (LCg.CompEnd h₀ L m { s with heap := h, toks := tk } I oI C oC D (LCg.lst ys) S (fun y nx' => J (i + 1) (ys ++ [y]) nx')) E' s'
        else LCg.CompEnd h₀ L m { s with heap := h, toks := tk } I oI C oC D (LCg.lst ys) S (fun _ nx' => J (i + 1) ys nx') Value.none s') E' { s with heap := h, toks := tk })
    (fin : ∀ ys nx, J n ys nx → Fin ys nx) : ∀ k i ys nx, i + k = n → J i ys nx → LCt.CompRestT prog w A h₀ L m env ct elt x scope cl s S P Fin k i ys nx
  | 0, i, ys, nx, hi, hJ => LCt.CompRestT.zero (fin ys nx (by cases hi; exact hJ))
  | k + 1, i, ys, nx, hi, hJ => by
    refine LCt.CompRestT.succ fun v I oI C oC D m₂ h tk E' hv hC hx F N off ne => ?_
    refine wpAny_mono (turn i ys nx v I oI C oC D m₂ h tk E' (by lia) hJ hv hC hx F N off ne) (fun ok s₂ q => ?_) fun _ _ z => z
    cases ok with
    | true =>
      simp only [if_true] at q ⊢
      refine wpAny_mono q (fun y s₃ q => ?_) fun _ _ z => z
      obtain ⟨h', tk', nx', e, F', N', off', hS, hJ'⟩ := q
      exact ⟨h', tk', nx', e, F', N', off', hS, compRestT_inv J turn fin k (i + 1) _ _ (by lia) hJ'⟩
    | false =>
      simp only [Bool.false_eq_true, if_false] at q ⊢
      obtain ⟨h', tk', nx', e, F', N', off', hS, hJ'⟩ := q
      exact ⟨h', tk', nx', e, F', N', off', hS, compRestT_inv J turn fin k (i + 1) _ _ (by lia) hJ'⟩
end
/-- all but three objects -/
noncomputable def off3 (I C D : Addr) (nx : Ledg) : Ledg := ((nx.filter fun p => p.1 != I).filter fun p => p.1 != C).filter fun p => p.1 != D
theorem mem_off3 {I C D : Addr} {nx : Ledg} {p : Addr × Obj} : p ∈ off3 I C D nx ↔ p ∈ nx ∧ p.1 ≠ I ∧ p.1 ≠ C ∧ p.1 ≠ D := by
  unfold off3
  simp only [List.mem_filter, bne_iff_ne, ne_eq]
  constructor
  · rintro ⟨⟨⟨a, b⟩, c⟩, d⟩; exact ⟨a, b, c, d⟩
  · rintro ⟨a, b, c, d⟩; exact ⟨⟨⟨a, b⟩, c⟩, d⟩
theorem off3_Off (I C D : Addr) (nx : Ledg) : LCg.Off3 I C D (off3 I C D nx) := LCg.Off3.of fun p hp => (mem_off3.mp hp).2
/-- an end of a turn: what was, is, and more -/
theorem compEnd_more {h₀ h' : Heap} {L : Addr} {m : Str → Option Value} {s₁ : Shared} {I C D : Addr} {oI oC oD : Obj} {S : Ledg → Prop} {rest : Value → Ledg → Prop} {y : Value} {tk : Nat} {nz : Ledg}
    (F : Fr h₀ L h' m) (N : News h₀ L h' nz) (hI : (I, oI) ∈ nz) (hC : (C, oC) ∈ nz) (hD : (D, oD) ∈ nz) (hS : S (off3 I C D nz)) (r : rest y (off3 I C D nz)) :
    LCg.CompEnd h₀ L m s₁ I oI C oC D oD S rest y { s₁ with heap := h', toks := tk } :=
  LCg.CompEnd.intro F N (off3 I C D nz) (fun p hp => by
    simp only [List.mem_cons] at hp
    rcases hp with rfl | rfl | rfl | hp
    · exact hI
    · exact hC
    · exact hD
    · exact (mem_off3.mp hp).1) (off3_Off I C D nz) hS r
/-- an end of a turn that made nothing -/
theorem compEnd_same {h₀ h' : Heap} {L : Addr} {m : Str → Option Value} {s₁ : Shared} {I C D : Addr} {oI oC oD : Obj} {S : Ledg → Prop} {rest : Value → Ledg → Prop} {y : Value} {tk : Nat} {nx : Ledg}
    (F : Fr h₀ L h' m) (N : News h₀ L h' ((I, oI) :: (C, oC) :: (D, oD) :: nx)) (off : LCg.Off3 I C D nx) (hS : S nx) (r : rest y nx) :
    LCg.CompEnd h₀ L m s₁ I oI C oC D oD S rest y { s₁ with heap := h', toks := tk } := LCg.CompEnd.intro F N nx (fun p hp => hp) off hS r
theorem sub6 {L : Addr} {o6 o5 o4 o3 o2 o1 : Obj} {R : Ledg} : ∀ p ∈ R, p ∈ C6 L o6 o5 o4 o3 o2 o1 R := C6.r
theorem compSrcT_id {prog : Program} {w : World} {A : Around} {h₀ : Heap} {L : Addr} {m : Str → Option Value} {env : Env} {ct elt : PySem.Expr} {x : Str} {scope : Scope} {cl : List (Str × Addr)} {Fin : Shared → List Value → Ledg → Prop} {xv : Value} {s₁ : Shared} (h : LCt.CompSrcT prog w A h₀ L m env ct elt x scope cl Fin xv s₁) : LCt.CompSrcT prog w A h₀ L m env ct elt x scope cl Fin xv s₁ := h
theorem compSrc_id {prog : Program} {w : World} {A : Around} {h₀ : Heap} {L : Addr} {m : Str → Option Value} {env : Env} {elt : PySem.Expr} {x : Str} {scope : Scope} {cl : List (Str × Addr)} {Fin : Shared → List Value → Ledg → Prop} {xv : Value} {s₁ : Shared} (h : LCg.CompSrc prog w A h₀ L m env elt x scope cl Fin xv s₁) : LCg.CompSrc prog w A h₀ L m env elt x scope cl Fin xv s₁ := h
theorem compEnd_id {h₀ : Heap} {L : Addr} {m : Str → Option Value} {s₁ : Shared} {I C D : Addr} {oI oC oD : Obj} {S : Ledg → Prop} {rest : Value → Ledg → Prop} {y : Value} {s₂ : Shared} (h : LCg.CompEnd h₀ L m s₁ I oI C oC D oD S rest y s₂) : LCg.CompEnd h₀ L m s₁ I oI C oC D oD S rest y s₂ := h
/-- a block that keeps some numbers of a range -/
noncomputable def PickJ (K : Ledg) (p : Nat → Bool) (i : Nat) (ys : List Value) (nx : Ledg) : Prop := nx = K ∧ IntsAre ys (((List.range i).filter p).map fun (k : Nat) => 1 + ((k : Nat) : Int))
theorem PickJ.start (K : Ledg) (p : Nat → Bool) : PickJ K p 0 [] K := ⟨rfl, .nil⟩
theorem PickJ.put {K nx : Ledg} {p : Nat → Bool} {i : Nat} {ys : List Value} {t : Tok} (h : PickJ K p i ys nx) (hp : p i = true) : PickJ K p (i + 1) (ys ++ [.int (1 + ((i : Nat) : Int)) t]) nx := by
  refine ⟨h.1, ?_⟩
  rw [List.range_succ, List.filter_append, List.map_append]
  simp only [List.filter_cons, hp, if_true, List.filter_nil, List.map_cons, List.map_nil]
  exact h.2.append (.cons _ _ .nil)
theorem PickJ.pass {K nx : Ledg} {p : Nat → Bool} {i : Nat} {ys : List Value} (h : PickJ K p i ys nx) (hp : p i = false) : PickJ K p (i + 1) ys nx := by
  refine ⟨h.1, ?_⟩
  rw [List.range_succ, List.filter_append, List.map_append]
  simp only [List.filter_cons, hp, List.filter_nil, List.map_nil, List.append_nil, Bool.false_eq_true, if_false]
  exact h.2
end

section
theorem ledger_off3 {I C D : Addr} {nx nz : Ledg} (hs : ∀ p ∈ nx, p ∈ nz) (off : LCg.Off3 I C D nx) : ∀ p ∈ nx, p ∈ off3 I C D nz := fun p hp => mem_off3.mpr ⟨hs p hp, off.mem p hp⟩
theorem TabL.off3 {news nz : Ledg} {r ln rs : Addr} {as : List Addr} {xss : List (List Int)} {ds : List Int} {I C D : Addr} {oI oC oD : Obj} (hr : (r, ({ cls := .type "tuple", data := .seq #[.ref ln, .ref rs] } : Obj)) ∈ nz) (T : TabL news nz ln rs as xss ds) (hf : ∀ p ∈ news, p.1 < r) (hI : (I, oI) ∈ news) (hC : (C, oC) ∈ news) (hD : (D, oD) ∈ news) :
    PairAt (off3 I C D nz) r xss ds := by
  have key : ∀ {c : Addr} {o : Obj}, (c, o) ∈ news → r ≠ c ∧ ln ≠ c ∧ rs ≠ c ∧ ∀ a ∈ as, a ≠ c := fun {c o} h => by
    have q := T.off _ h
    exact ⟨Nat.ne_of_gt (hf _ h), fun e => q.1 e.symm, fun e => q.2.1 e.symm, fun a ha e => q.2.2 (by show c ∈ as; rw [← e]; exact ha)⟩
  have kI := key hI
  have kC := key hC
  have kD := key hD
  obtain ⟨e, hl⟩ := T.lines
  obtain ⟨vr, er, hr', hi⟩ := T.rests
  refine ⟨ln, rs, as, mem_off3.mpr ⟨hr, kI.1, kC.1, kD.1⟩, ⟨⟨e, mem_off3.mpr ⟨hl, kI.2.1, kC.2.1, kD.2.1⟩⟩, T.rows.mono fun a ha o ho => mem_off3.mpr ⟨ho, kI.2.2.2 a ha, kC.2.2.2 a ha, kD.2.2.2 a ha⟩⟩, ⟨vr, er, mem_off3.mpr ⟨hr', kI.2.2.1, kC.2.2.1, kD.2.2.1⟩, hi⟩⟩
/-- the tables of the first i kin -/
noncomputable def TabsTo (K : Ledg) (kin : List (List Int)) (i : Nat) (ys : List Value) (nx : Ledg) : Prop := ∃ rs : List Addr, ys = rs.map Value.ref ∧ rs.length = i ∧ (∀ p ∈ K, p ∈ nx) ∧ ∀ j r, rs[j]? = some r → PairAt nx r (tabF false (kin.getD j [])).1 (tabF false (kin.getD j [])).2
theorem TabsTo.start (K : Ledg) (kin : List (List Int)) : TabsTo K kin 0 [] K := ⟨[], rfl, rfl, fun _ h => h, fun j r h => by simp at h⟩
theorem TabsTo.step {K nx nx' : Ledg} {kin : List (List Int)} {i : Nat} {ys : List Value} {r : Addr} (T : TabsTo K kin i ys nx) (hs : ∀ p ∈ nx, p ∈ nx') (h : PairAt nx' r (tabF false (kin.getD i [])).1 (tabF false (kin.getD i [])).2) : TabsTo K kin (i + 1) (ys ++ [.ref r]) nx' := by
  obtain ⟨rs, h1, h2, h3, h4⟩ := T
  refine ⟨rs ++ [r], by rw [h1]; simp, by simp [h2], fun p hp => hs p (h3 p hp), fun j q hq => ?_⟩
  by_cases hj : j < rs.length
  · rw [List.getElem?_append_left hj] at hq
    exact (h4 j q hq).sub hs
  · have := (List.getElem?_eq_some_iff.mp hq).1
    simp at this
    have e : j = i := by lia
    subst e
    rw [← h2] at hq
    simp at hq
    subst hq
    exact h
theorem ref_at {as : List Addr} {i : Nat} {v : Value} (h : (as.map Value.ref).toArray[i]? = some v) : ∃ a, as[i]? = some a ∧ v = .ref a := by
  simp at h
  obtain ⟨a, h1, h2⟩ := h
  exact ⟨a, h1, h2.symm⟩
theorem getD_memL {l : List (List Int)} {i : Nat} (h : i < l.length) : l.getD i [] ∈ l := by
  have e : l.getD i [] = l[i] := by simp [h]
  rw [e]
  exact List.getElem_mem h
theorem sub3 {R : Ledg} {a b c : Addr × Obj} : ∀ p ∈ R, p ∈ a :: b :: c :: R := fun _ hp => List.mem_cons_of_mem _ (List.mem_cons_of_mem _ (List.mem_cons_of_mem _ hp))
theorem sub1 {R : Ledg} {a : Addr × Obj} : ∀ p ∈ R, p ∈ a :: R := fun _ hp => List.mem_cons_of_mem _ hp
theorem TabsTo.keep {K nx : Ledg} {kin : List (List Int)} {i : Nat} {ys : List Value} (T : TabsTo K kin i ys nx) : ∀ p ∈ K, p ∈ nx := T.choose_spec.2.2.1
/-- the list of all tables -/
noncomputable def TabsAtL (R : Ledg) (D : Addr) (rs : List Addr) (kin : List (List Int)) : Prop := (∃ e, (D, listOf (rs.map Value.ref).toArray e) ∈ R) ∧ rs.length = kin.length ∧ ∀ j r, rs[j]? = some r → PairAt R r (tabF false (kin.getD j [])).1 (tabF false (kin.getD j [])).2
theorem TabsAtL.off {nx R : Ledg} {D : Addr} {rs : List Addr} {kin : List (List Int)} (h : TabsAtL nx D rs kin) (hk : KeepC nx R) : TabsAtL R D rs kin :=
  ⟨let ⟨e, hm⟩ := h.1; ⟨e, hk _ hm nc_list⟩, h.2.1, fun j r hj => (h.2.2 j r hj).off hk⟩
theorem TabsAtL.sub {nx R : Ledg} {D : Addr} {rs : List Addr} {kin : List (List Int)} (h : TabsAtL nx D rs kin) (hk : ∀ p ∈ nx, p ∈ R) : TabsAtL R D rs kin :=
  ⟨let ⟨e, hm⟩ := h.1; ⟨e, hk _ hm⟩, h.2.1, fun j r hj => (h.2.2 j r hj).sub hk⟩
theorem TabsTo.all {K nx : Ledg} {kin : List (List Int)} {n : Nat} {ys : List Value} {D : Addr} (T : TabsTo K kin n ys nx) (hn : n = kin.length) : ∃ rs, TabsAtL ((D, LCg.lst ys) :: nx) D rs kin := by
  obtain ⟨rs, h1, h2, h3, h4⟩ := T
  subst h1
  exact ⟨rs, ⟨_, .head _⟩, h2.trans hn, fun j r hj => (h4 j r hj).sub sub1⟩
section
variable {prog : Program} {w : World} {A : Around} {E : Value → Shared → Prop} {s : Shared} {h₀ : Heap} {L r : Addr} {nx : Ledg} {x y : Value} {u : Tok} {value slice : PySem.Expr} {Q : Value → Shared → Prop}
theorem pair_tup (N : News h₀ L s.heap nx) (hm : (r, ({ cls := .type "tuple", data := .seq #[x, y] } : Obj)) ∈ nx) : IsTup s.heap r [x, y].toArray := ⟨_, (N _ hm).1, rfl, _, rfl⟩
theorem pair_fst (N : News h₀ L s.heap nx) (hm : (r, ({ cls := .type "tuple", data := .seq #[x, y] } : Obj)) ∈ nx) (h : Q x s)
    (hs : subscripted slice false (.ref r) (.int 0 u) = operate [.ref r, .int 0 u] (getItem (.ref r) (.int 0 u))) : wpAny (model prog w) A (subscriptTail value slice (.ref r) (.int 0 u)) Q E s :=
  item_tupleT (j := 0) (pair_tup N hm) (by decide) (by decide) rfl rfl h hs
theorem pair_snd (N : News h₀ L s.heap nx) (hm : (r, ({ cls := .type "tuple", data := .seq #[x, y] } : Obj)) ∈ nx) (h : Q y s)
    (hs : subscripted slice false (.ref r) (.int 1 u) = operate [.ref r, .int 1 u] (getItem (.ref r) (.int 1 u))) : wpAny (model prog w) A (subscriptTail value slice (.ref r) (.int 1 u)) Q E s :=
  item_tupleT (j := 1) (pair_tup N hm) (by decide) (by decide) rfl rfl h hs
end
end

section
theorem upd_cons_ne {a D : Addr} {o o' : Obj} {r : Ledg} (h : ¬ @Eq Nat a D) : upd ((a, o) :: r) D o' = (a, o) :: upd r D o' := by
  unfold upd
  rw [List.map_cons, if_neg (show ¬ ((a, o) : Addr × Obj).1 = D from h)]
theorem upd_cons_eq {D : Addr} {o o' : Obj} {r : Ledg} : upd ((D, o) :: r) D o' = (D, o') :: upd r D o' := by
  unfold upd
  rw [List.map_cons, if_pos rfl]
theorem upd_none {D : Addr} {o' : Obj} {r : Ledg} (h : ∀ p ∈ r, p.1 ≠ D) : upd r D o' = r := by
  unfold upd
  conv => rhs; rw [← List.map_id r]
  exact List.map_congr_left fun p hp => if_neg (h p hp)
section
variable {M : Model} {A : Around} {E : Value → Shared → Prop} {s : Shared} {hb : Heap} {L : Addr} {m : Str → Option Value} {env : Env} {x : Str} {v : Value} {Q : Unit → Shared → Prop} {R : Ledg} {o1 o2 o3 o4 o5 o6 : Obj} {v₀ : Option Value}
theorem store_c {nx : Ledg} {c : Addr} {o : Obj} (F : Fr hb L s.heap m) (N : News hb L s.heap nx) (hm : (c, o) ∈ nx) (hd : o.data = .cell v₀) (hc : env.cells.lookup x = some c) (hk : env.scope.kind = .function) (hx : env.kindOf x = some .cell)
    (h : ∀ h' o', Fr hb L h' m → News hb L h' (upd nx c o') → o'.data = .cell (some v) → Q () { s with heap := h' }) : wpAny M A (storeName env x v) Q E s := by
  have z := N _ hm
  refine wpAny_storeName_cell hk hx hc ⟨o, z.1, hd⟩ fun h' hv hs => ?_
  obtain ⟨o', ho', hd'⟩ := hv
  exact h h' o' (F.change hs z.2.1 z.2.2) (news_upd' N hm hs ho') hd'
theorem store_c1 (F : Fr hb L s.heap m) (N : News hb L s.heap (C6 L o6 o5 o4 o3 o2 o1 R)) (hR : ∀ p ∈ R, p.1 < L ∨ @LT.lt Nat _ (L + 6) p.1) (hd : o1.data = .cell v₀) (hc : env.cells.lookup x = some (L + 1)) (hk : env.scope.kind = .function) (hx : env.kindOf x = some .cell)
    (h : ∀ h' o9, Fr hb L h' m → News hb L h' (C6 L o6 o5 o4 o3 o2 o9 R) → o9.data = .cell (some v) → Q () { s with heap := h' }) : wpAny M A (storeName env x v) Q E s := by
  refine store_c F N (o := o1) C6.a1 hd hc hk hx fun h' o9 F' N' d' => h h' o9 F' ?_ d'
  rw [C6.eq] at N'
  rw [upd_cons_ne (nk L 6 1 rfl), upd_cons_ne (nk L 5 1 rfl), upd_cons_ne (nk L 4 1 rfl), upd_cons_ne (nk L 3 1 rfl), upd_cons_ne (nk L 2 1 rfl), upd_cons_eq, upd_none (fun p hp => out_ne (hR p hp) 1 rfl)] at N'
  rw [C6.eq]
  exact N'
theorem store_c2 (F : Fr hb L s.heap m) (N : News hb L s.heap (C6 L o6 o5 o4 o3 o2 o1 R)) (hR : ∀ p ∈ R, p.1 < L ∨ @LT.lt Nat _ (L + 6) p.1) (hd : o2.data = .cell v₀) (hc : env.cells.lookup x = some (L + 1 + 1)) (hk : env.scope.kind = .function) (hx : env.kindOf x = some .cell)
    (h : ∀ h' o9, Fr hb L h' m → News hb L h' (C6 L o6 o5 o4 o3 o9 o1 R) → o9.data = .cell (some v) → Q () { s with heap := h' }) : wpAny M A (storeName env x v) Q E s := by
  refine store_c F N (o := o2) C6.a2 hd hc hk hx fun h' o9 F' N' d' => h h' o9 F' ?_ d'
  rw [C6.eq] at N'
  rw [upd_cons_ne (nk L 6 2 rfl), upd_cons_ne (nk L 5 2 rfl), upd_cons_ne (nk L 4 2 rfl), upd_cons_ne (nk L 3 2 rfl), upd_cons_eq, upd_cons_ne (nk L 1 2 rfl), upd_none (fun p hp => out_ne (hR p hp) 2 rfl)] at N'
  rw [C6.eq]
  exact N'
theorem store_c3 (F : Fr hb L s.heap m) (N : News hb L s.heap (C6 L o6 o5 o4 o3 o2 o1 R)) (hR : ∀ p ∈ R, p.1 < L ∨ @LT.lt Nat _ (L + 6) p.1) (hd : o3.data = .cell v₀) (hc : env.cells.lookup x = some (L + 1 + 1 + 1)) (hk : env.scope.kind = .function) (hx : env.kindOf x = some .cell)
    (h : ∀ h' o9, Fr hb L h' m → News hb L h' (C6 L o6 o5 o4 o9 o2 o1 R) → o9.data = .cell (some v) → Q () { s with heap := h' }) : wpAny M A (storeName env x v) Q E s := by
  refine store_c F N (o := o3) C6.a3 hd hc hk hx fun h' o9 F' N' d' => h h' o9 F' ?_ d'
  rw [C6.eq] at N'
  rw [upd_cons_ne (nk L 6 3 rfl), upd_cons_ne (nk L 5 3 rfl), upd_cons_ne (nk L 4 3 rfl), upd_cons_eq, upd_cons_ne (nk L 2 3 rfl), upd_cons_ne (nk L 1 3 rfl), upd_none (fun p hp => out_ne (hR p hp) 3 rfl)] at N'
  rw [C6.eq]
  exact N'
theorem store_c4 (F : Fr hb L s.heap m) (N : News hb L s.heap (C6 L o6 o5 o4 o3 o2 o1 R)) (hR : ∀ p ∈ R, p.1 < L ∨ @LT.lt Nat _ (L + 6) p.1) (hd : o4.data = .cell v₀) (hc : env.cells.lookup x = some (L + 1 + 1 + 1 + 1)) (hk : env.scope.kind = .function) (hx : env.kindOf x = some .cell)
    (h : ∀ h' o9, Fr hb L h' m → News hb L h' (C6 L o6 o5 o9 o3 o2 o1 R) → o9.data = .cell (some v) → Q () { s with heap := h' }) : wpAny M A (storeName env x v) Q E s := by
  refine store_c F N (o := o4) C6.a4 hd hc hk hx fun h' o9 F' N' d' => h h' o9 F' ?_ d'
  rw [C6.eq] at N'
  rw [upd_cons_ne (nk L 6 4 rfl), upd_cons_ne (nk L 5 4 rfl), upd_cons_eq, upd_cons_ne (nk L 3 4 rfl), upd_cons_ne (nk L 2 4 rfl), upd_cons_ne (nk L 1 4 rfl), upd_none (fun p hp => out_ne (hR p hp) 4 rfl)] at N'
  rw [C6.eq]
  exact N'
theorem store_c5 (F : Fr hb L s.heap m) (N : News hb L s.heap (C6 L o6 o5 o4 o3 o2 o1 R)) (hR : ∀ p ∈ R, p.1 < L ∨ @LT.lt Nat _ (L + 6) p.1) (hd : o5.data = .cell v₀) (hc : env.cells.lookup x = some (L + 1 + 1 + 1 + 1 + 1)) (hk : env.scope.kind = .function) (hx : env.kindOf x = some .cell)
    (h : ∀ h' o9, Fr hb L h' m → News hb L h' (C6 L o6 o9 o4 o3 o2 o1 R) → o9.data = .cell (some v) → Q () { s with heap := h' }) : wpAny M A (storeName env x v) Q E s := by
  refine store_c F N (o := o5) C6.a5 hd hc hk hx fun h' o9 F' N' d' => h h' o9 F' ?_ d'
  rw [C6.eq] at N'
  rw [upd_cons_ne (nk L 6 5 rfl), upd_cons_eq, upd_cons_ne (nk L 4 5 rfl), upd_cons_ne (nk L 3 5 rfl), upd_cons_ne (nk L 2 5 rfl), upd_cons_ne (nk L 1 5 rfl), upd_none (fun p hp => out_ne (hR p hp) 5 rfl)] at N'
  rw [C6.eq]
  exact N'
theorem store_c6 (F : Fr hb L s.heap m) (N : News hb L s.heap (C6 L o6 o5 o4 o3 o2 o1 R)) (hR : ∀ p ∈ R, p.1 < L ∨ @LT.lt Nat _ (L + 6) p.1) (hd : o6.data = .cell v₀) (hc : env.cells.lookup x = some (L + 1 + 1 + 1 + 1 + 1 + 1)) (hk : env.scope.kind = .function) (hx : env.kindOf x = some .cell)
    (h : ∀ h' o9, Fr hb L h' m → News hb L h' (C6 L o9 o5 o4 o3 o2 o1 R) → o9.data = .cell (some v) → Q () { s with heap := h' }) : wpAny M A (storeName env x v) Q E s := by
  refine store_c F N (o := o6) C6.a6 hd hc hk hx fun h' o9 F' N' d' => h h' o9 F' ?_ d'
  rw [C6.eq] at N'
  rw [upd_cons_eq, upd_cons_ne (nk L 5 6 rfl), upd_cons_ne (nk L 4 6 rfl), upd_cons_ne (nk L 3 6 rfl), upd_cons_ne (nk L 2 6 rfl), upd_cons_ne (nk L 1 6 rfl), upd_none (fun p hp => out_ne (hR p hp) 6 rfl)] at N'
  rw [C6.eq]
  exact N'
end
end

section
noncomputable def LoopJ (L D : Addr) (kin : List (List Int)) (K0 : Ledg) (m₀ : Str → Option Value) (i : Nat) (m : Str → Option Value) (nx : Ledg) : Prop :=
  ∃ o1 v1 o4 v4 sv e, (L + 1, o1) ∈ nx ∧ o1.data = .cell v1 ∧ (L + 1 + 1 + 1 + 1, o4) ∈ nx ∧ o4.data = .cell v4 ∧ (D, listOf (List.toArray sv) e) ∈ nx ∧ IntsAre sv (sumsF (kin.take i)) ∧ (∀ p ∈ K0, p ∈ nx) ∧
    ∀ z, z ≠ Str.ofString "at" → (∀ p ∈ ([] : List (Str × Value)), z ≠ p.1) → [Str.ofString "lines", Str.ofString "falls"].contains z = false → m z = m₀ z
theorem own_is {h₀ h : Heap} {L I : Addr} {own nx : Ledg} {oI : Obj} (N : News h₀ L h (own ++ nx)) (hown : ∀ p ∈ own, p.1 = I) (hI : (I, oI) ∈ own) : ∀ p ∈ own, p = (I, oI) := fun p hp => by
  have z1 := (N p (List.mem_append_left _ hp)).1
  have z2 := (N _ (List.mem_append_left _ hI)).1
  have e := hown p hp
  rw [e, z2] at z1
  obtain ⟨a, o⟩ := p
  cases e
  cases z1
  rfl
/-- one object more beside the cells -/
theorem hR_cons {R : Ledg} {L a : Addr} {o : Obj} (hR : ∀ p ∈ R, p.1 < L ∨ @LT.lt Nat _ (L + 6) p.1) (h : a < L ∨ @LT.lt Nat _ (L + 6) a) : ∀ p ∈ (a, o) :: R, p.1 < L ∨ @LT.lt Nat _ (L + 6) p.1 := fun p hp => by
  rcases List.mem_cons.mp hp with rfl | hp
  · exact h
  · exact hR p hp
theorem out6 {L a : Addr} (h0 : a ≠ L) (h1 : ¬ @Eq Nat a (L + 1)) (h2 : ¬ @Eq Nat a (L + 1 + 1)) (h3 : ¬ @Eq Nat a (L + 1 + 1 + 1)) (h4 : ¬ @Eq Nat a (L + 1 + 1 + 1 + 1)) (h5 : ¬ @Eq Nat a (L + 1 + 1 + 1 + 1 + 1)) (h6 : ¬ @Eq Nat a (L + 1 + 1 + 1 + 1 + 1 + 1)) : a < L ∨ @LT.lt Nat _ (L + 6) a := by
  have h0 : ¬ @Eq Nat a L := h0
  show @LT.lt Nat _ a L ∨ _
  lia
theorem gt6 {L a : Addr} (h : @LT.lt Nat _ (L + 1 + 1 + 1 + 1 + 1 + 1) a) : a < L ∨ @LT.lt Nat _ (L + 6) a := .inr h
end

section
theorem dInts_shaped (xs : List Int) : SeqAt.shaped (dInts xs) = true := by
  have h1 := dInts_can xs
  have h2 := dInts_depth xs
  unfold SeqAt.shaped
  rw [h1, Bool.true_and, decide_eq_true_eq]
  lia
theorem depthAll_rows : ∀ xss : List (List Int), PyData.depthAll (xss.map dInts) ≤ 2
  | [] => by simp [PyData.depthAll]
  | x :: r => by
    have h1 := dInts_depth x
    have h2 := depthAll_rows r
    simp only [List.map_cons, PyData.depthAll]
    lia
theorem dRows_shaped (xss : List (List Int)) : SeqAt.shaped (dRows xss) = true := by
  have h1 := dRows_can xss
  have h2 := depthAll_rows xss
  unfold SeqAt.shaped dRows
  rw [Bool.and_eq_true_iff]
  refine ⟨by rw [PyData.canLay0]; exact h1, ?_⟩
  refine decide_eq_true ?_
  simp only [PyData.depth]
  lia
theorem dRows_eqvAll : ∀ xss yss : List (List Int), PyData.eqvAll (xss.map dInts) (yss.map dInts) = decide (xss = yss)
  | [], [] => by simp [PyData.eqvAll]
  | [], _ :: _ => by simp [PyData.eqvAll]
  | _ :: _, [] => by simp [PyData.eqvAll]
  | x :: r, y :: t => by
    simp only [List.map_cons, PyData.eqvAll, dInts_eqv, dRows_eqvAll r t]
    by_cases h : x = y <;> by_cases h' : r = t <;> simp [h, h']
theorem dRows_eqv (xss yss : List (List Int)) : PyData.eqv (dRows xss) (dRows yss) = decide (xss = yss) := by
  unfold dRows PyData.eqv
  exact dRows_eqvAll xss yss
section
variable {prog : Program} {w : World} {A : Around} {E : Value → Shared → Prop} {s : Shared} {h₀ : Heap} {L a b : Addr} {nx : Ledg} {Q : Value → Shared → Prop}
theorem ne_grid {as bs : List Addr} {xss yss : List (List Int)} (N : News h₀ L s.heap nx) (h1 : GridAt nx a as xss) (h2 : GridAt nx b bs yss) (hu : A.units + 64 < cLine) (h : Q (.bool (!decide (xss = yss))) s) : wpAny (model prog w) A (compareOp .NotEq (.ref a) (.ref b)) Q E s := by
  obtain ⟨⟨e1, m1⟩, r1⟩ := h1
  obtain ⟨⟨e2, m2⟩, r2⟩ := h2
  obtain ⟨b1, q1⟩ := grid_reads N m1 r1
  obtain ⟨b2, q2⟩ := grid_reads N m2 r2
  exact ne_dataH q1 q2 (dRows_shaped _) (dRows_shaped _) hu (by rw [dRows_eqv]; exact h)
theorem ne_ints {xs ys : List Int} (N : News h₀ L s.heap nx) (h1 : IntsAt nx a xs) (h2 : IntsAt nx b ys) (hu : A.units + 64 < cLine) (h : Q (.bool (!decide (xs = ys))) s) : wpAny (model prog w) A (compareOp .NotEq (.ref a) (.ref b)) Q E s := by
  obtain ⟨b1, q1⟩ := h1.reads N
  obtain ⟨b2, q2⟩ := h2.reads N
  exact ne_dataH q1 q2 (dInts_shaped _) (dInts_shaped _) hu (by rw [dInts_eqv]; exact h)
end
theorem sum_L {prog : Program} {w : World} {A : Around} {E : Value → Shared → Prop} {s : Shared} {h₀ : Heap} {L l : Addr} {m : Str → Option Value} {nx : Ledg} {vs : List Value} {e : Nat} {ns : List Int} {Q : Value → Shared → Prop} (hh : A.handled = none) (F : Fr h₀ L s.heap m) (N : News h₀ L s.heap nx) (hl : (l, listOf vs.toArray e) ∈ nx) (hi : IntsAre vs ns)
    (h : ∀ h' tk t, Fr h₀ L h' m → News h₀ L h' nx → Q (.int ns.sum t) { s with heap := h', toks := tk }) : wpAny (model prog w) A (call (.builtin "sum") [.ref l]) Q E s := by
  have hls : s.heap.IsList l vs.toArray := News.isList N hl
  have hlt : l < s.heap.objs.size := Heap.lt_size (N _ hl).1
  have hne : l ≠ s.heap.objs.size := Nat.ne_of_lt hlt
  have up : ∀ b o, s.heap.get? b = some o → (s.heap.push { cls := .type "list_iterator", data := .fields #[.ref l, .int 0 0] }).get? b = some o := fun b o e => Heap.get?_push_of_some _ e
  refine call_sum_walkG (wpAny_pyIter_list hls ?_)
  refine ⟨s.heap.objs.size, _, _, vs.toArray.size, _, _, fun i => ns.getD i 0, rfl, Walks.list (A := A.in1) hh s.heap.objs.size l hne vs.toArray, ⟨⟨_, Heap.get?_push_size _ rfl, rfl, rfl⟩, hls.at (up l)⟩, fun b hb => ?_, fun i v hP => ?_, fun h' tk' t' hk => ?_⟩
  · show b < (s.heap.push _).objs.size
    rw [Heap.size_push]
    rcases List.mem_cons.mp hb with rfl | hb
    · exact Nat.lt_succ_self _
    · rw [List.mem_singleton.mp hb]; exact Nat.lt_succ_of_lt hlt
  · have hv : vs[i]? = some v := by simpa using hP
    have hil : i < ns.length := by rw [← hi.length]; exact (List.getElem?_eq_some_iff.mp hv).1
    obtain ⟨t, ht⟩ := ints_get hi hil
    rw [hv] at ht
    exact ⟨t, Option.some.inj ht⟩
  · rw [preSum_getD, List.size_toArray, hi.length, List.take_length]
    have keep : ∀ b o, s.heap.get? b = some o → h'.get? b = some o := fun b o e => hk b o (fun hb => absurd (Heap.lt_size e) ((List.mem_singleton.mp hb) ▸ Nat.lt_irrefl _)) (up b o e)
    exact h h' tk' t' (F.keeps keep) (N.grown keep)
theorem in_end {base : Ledg} {D I a : Addr} {o o' : Obj} (h : (a, o) ∈ base) (h1 : a ≠ D) (h2 : a ≠ I) : (a, o) ∈ (upd base D o').filter fun p => p.1 != I := List.mem_filter.mpr ⟨mem_upd_ne h h1, by simpa using h2⟩
theorem in_endD {base : Ledg} {D I : Addr} {o o' : Obj} (h : (D, o) ∈ base) (h2 : D ≠ I) : (D, o') ∈ (upd base D o').filter fun p => p.1 != I := List.mem_filter.mpr ⟨mem_upd_self h, by simpa using h2⟩
theorem sumsF_succ {kin : List (List Int)} {i : Nat} (h : i < kin.length) : sumsF (kin.take (i + 1)) = sumsF (kin.take i) ++ [(fallsI (kin.getD i [])).sum] := by
  unfold sumsF
  rw [List.take_add_one, List.getElem?_eq_getElem h, List.map_append]
  simp [h]
theorem ne_out {L a j : Addr} (h : a < L ∨ @LT.lt Nat _ (L + 6) a) (h1 : @LE.le Nat _ L j) (h2 : @LE.le Nat _ j (L + 6)) : j ≠ a := fun e => by
  have h : @LT.lt Nat _ a L ∨ @LT.lt Nat _ (L + 6) a := h
  have e : @Eq Nat j a := e
  lia
theorem last_L {prog : Program} {w : World} {A : Around} {E : Value → Shared → Prop} {s : Shared} {h₀ : Heap} {L D : Addr} {nx : Ledg} {vs : List Value} {e : Nat} {v : Value} {u : Tok} {value slice : PySem.Expr} {Q : Value → Shared → Prop} (N : News h₀ L s.heap nx) (hD : (D, listOf vs.toArray e) ∈ nx) (hl : 0 < vs.length) (hx : vs[vs.length - 1]? = some v) (h : Q v s)
    (hs : subscripted slice false (.ref D) (.int (-1) u) = operate [.ref D, .int (-1) u] (getItem (.ref D) (.int (-1) u))) :
    wpAny (model prog w) A (subscriptTail value slice (.ref D) (.int (-1) u)) Q E s := by
  refine kde_neg (j := vs.length - 1) (News.isList N hD) (by decide) (by decide) ?_ hx h hs
  unfold seqIndex?
  simp only [show ((-1 : Int) < 0) from by decide, if_true]
  rw [if_pos (by simp; lia)]
  congr 1
  lia
theorem getLastD_eq {kin : List (List Int)} (h : 0 < kin.length) : kin.getLastD [] = kin.getD (kin.length - 1) [] := by
  rw [List.getLastD_eq_getLast?, List.getLast?_eq_getElem?]
  simp
end

section
section
variable {prog : Program} {w : World} {A : Around} {E : Value → Shared → Prop} {s : Shared} {h₀ : Heap} {L : Addr} {m : Str → Option Value} {env : Env}
/-- a new block's own place, one cell in it -/
theorem newEnvK {M : Model} {scope : Scope} {globals : Addr} {cl : List (Str × Addr)} {qual : Str} {outer : Env} {Q : Env → Shared → Prop}
    (h : Q { scope, locals := s.heap.objs.size, globals, cells := cellsFrom (s.heap.objs.size + 1) scope.names cl, qual, func := none, code := outer.code, frame := outer.frame, builtins := outer.builtins }
      { s with heap := pushCells (s.heap.push { cls := .type "dict", data := .dict #[] }) scope.names }) :
    wpAny M A (newFunctionEnv scope globals cl [] qual none .none (some outer)) Q E s := by
  simp only [newFunctionEnv, Option.isSome_some, if_true]
  refine wpAny_bind (wpAny_alloc ?_)
  refine wpAny_bind (wpAny_layCells _ (fun name kind cells => by cases hkc : kind == NameKind.cell <;> simp [hkc]) _ _ _ _ ?_)
  rw [show ({ s with heap := s.heap.push { cls := .type "dict", data := .dict #[] } } : Shared).heap.objs.size = s.heap.objs.size + 1 from Heap.size_push ..]
  exact wpAny_pure h
theorem nsm {α : Type} {x : Option α} {o : α} (h : x = none) (e : x = some o) : False := nomatch h.symm.trans e
theorem nL {L I : Nat} (h : L < I) (k : Nat) : ¬ @Eq Nat L (I + k) := Nat.ne_of_lt (Nat.lt_of_lt_of_le h (Nat.le_add_right I k))
noncomputable def Off4 (I C c D : Addr) (nx : Ledg) : Prop := ∀ p ∈ nx, p.1 ≠ I ∧ p.1 ≠ C ∧ p.1 ≠ c ∧ p.1 ≠ D
/-- the end of a turn of a block whose letter is a cell -/
inductive EndK (h₀ : Heap) (L : Addr) (m : Str → Option Value) (s₁ : Shared) (own : Ledg) (I C c D : Addr) (rest : Value → Ledg → Prop) (y : Value) (s₂ : Shared) : Prop
  | mk (h' : Heap) (tk : Nat) (nx' : Ledg) : s₂ = { s₁ with heap := h', toks := tk } → Fr h₀ L h' m → News h₀ L h' (own ++ nx') → Off4 I C c D nx' → rest y nx' → EndK h₀ L m s₁ own I C c D rest y s₂
theorem endK_id {h₀ : Heap} {L : Addr} {m : Str → Option Value} {s₁ : Shared} {own : Ledg} {I C c D : Addr} {rest : Value → Ledg → Prop} {y : Value} {s₂ : Shared} (h : EndK h₀ L m s₁ own I C c D rest y s₂) : EndK h₀ L m s₁ own I C c D rest y s₂ := h
inductive SrcK (prog : Program) (w : World) (A : Around) (h₀ : Heap) (L : Addr) (m : Str → Option Value) (env : Env) (elt : PySem.Expr) (x : Str) (scope : Scope) (cl : List (Str × Addr)) (Q : Value → Shared → Prop) (xv : Value) (s₁ : Shared) : Prop
  | mk (r : Addr) (a b : Int) (t u v : Tok) (n : Nat) (nx : Ledg) (J : Nat → List Value → Ledg → Prop) : xv = .ref r → A.handled = none → Fr h₀ L s₁.heap m → News h₀ L s₁.heap nx → IsRange s₁.heap r a b 1 t u v → Builtin.Range.small a b 1 = true → Builtin.Range.rangeSize a b 1 = ((n : Nat) : Int) → n ≤ sizeLine → J 0 [] nx →
    (∀ i ys nx v I oI C oC c oc D h tk (E' : Value → Shared → Prop), i < n → J i ys nx → (∃ t, v = .int (a + (i : Int)) t) → oc.data = .cell (some v) → Fr h₀ L h m → News h₀ L h ([(I, oI), (C, oC), (c, oc), (D, LCg.lst ys)] ++ nx) → Off4 I C c D nx →
      wpAny (model prog w) A (eval elt (compEnvC scope ((x, c) :: cl) C env)) (EndK h₀ L m { s₁ with heap := h, toks := tk } [(I, oI), (C, oC), (c, oc), (D, LCg.lst ys)] I C c D (fun y nx' => J (i + 1) (ys ++ [y]) nx')) E' { s₁ with heap := h, toks := tk }) →
    (∀ ys nx D h tk, J n ys nx → Fr h₀ L h m → News h₀ L h ((D, LCg.lst ys) :: nx) → (∀ p ∈ nx, p.1 ≠ D) → Q (.ref D) { s₁ with heap := h, toks := tk }) → SrcK prog w A h₀ L m env elt x scope cl Q xv s₁
theorem srcK_id {A : Around} {elt : PySem.Expr} {x : Str} {scope : Scope} {cl : List (Str × Addr)} {Q : Value → Shared → Prop} {xv : Value} {s₁ : Shared} (h : SrcK prog w A h₀ L m env elt x scope cl Q xv s₁) : SrcK prog w A h₀ L m env elt x scope cl Q xv s₁ := h
noncomputable def rit (a b : Int) : Obj := { cls := .type "range_iterator", data := .fields #[rawInt a, rawInt b, rawInt 1] }
/-- the objects that a block lays -/
theorem comp_heaps {H0 H : Heap} {a b : Int} {I : Addr} (hI : H0.objs.size = I) (e : (((H0.push (rit a b)).push { cls := .type "list", data := .seq ([] : List Value).toArray }).push { cls := .type "dict", data := .dict #[] }).push { cls := .type "cell", data := .cell none } = H) :
    (∀ b' o, H0.get? b' = some o → H.get? b' = some o) ∧ H.get? I = some (rit a b) ∧ H.get? (I + 1) = some (LCg.lst []) ∧ H.Ns (I + 1 + 1) (fun _ => none) ∧ H.get? (I + 1 + 1 + 1) = some { cls := .type "cell", data := .cell none } := by
  subst e hI
  have o1 := fun b' o (e : H0.get? b' = some o) => Heap.get?_push_of_some (rit a b) e
  have g1 := Heap.get?_push_size H0 (o := rit a b) rfl
  have s1 : (H0.push (rit a b)).objs.size = _ := Heap.size_push ..
  generalize H0.push (rit a b) = H1 at o1 g1 s1 ⊢
  have o2 := fun b' o (e : H1.get? b' = some o) => Heap.get?_push_of_some ({ cls := .type "list", data := .seq ([] : List Value).toArray }) e
  have g2 := Heap.get?_push_size H1 (o := { cls := .type "list", data := .seq ([] : List Value).toArray }) rfl
  have s2 : (H1.push { cls := .type "list", data := .seq ([] : List Value).toArray }).objs.size = _ := Heap.size_push ..
  rw [s1] at g2 s2
  generalize H1.push { cls := .type "list", data := .seq ([] : List Value).toArray } = H2 at o2 g2 s2 ⊢
  have o3 := fun b' o (e : H2.get? b' = some o) => Heap.get?_push_of_some ({ cls := .type "dict", data := .dict #[] }) e
  have g3 := Heap.Ns.new H2 (.type "dict")
  have s3 : (H2.push { cls := .type "dict", data := .dict #[] }).objs.size = _ := Heap.size_push ..
  rw [s2] at g3 s3
  generalize H2.push { cls := .type "dict", data := .dict #[] } = H3 at o3 g3 s3 ⊢
  have o4 := fun b' o (e : H3.get? b' = some o) => Heap.get?_push_of_some ({ cls := .type "cell", data := .cell none }) e
  have g4 := Heap.get?_push_size H3 (o := { cls := .type "cell", data := .cell none }) rfl
  rw [s3] at g4
  exact ⟨fun b' o e => o4 _ _ (o3 _ _ (o2 _ _ (o1 _ _ e))), o4 _ _ (o3 _ _ (o2 _ _ g1)), o4 _ _ (o3 _ _ g2), g3.keeps o4, g4⟩
/-- the state of the block's loop -/
inductive KSt (h₀ : Heap) (L : Addr) (m : Str → Option Value) (s₁ : Shared) (I : Addr) (a : Int) (n : Nat) (J : Nat → List Value → Ledg → Prop) : Nat → Shared → Prop
  | mk (h' : Heap) (tk i : Nat) (ys : List Value) (nx' : Ledg) (oc : Obj) (v₀ : Option Value) : i ≤ n → ys.length = i → IsRangeIter h' I (a + ((i : Nat) : Int) * 1) ((n : Int) - ((i : Nat) : Int)) 1 → Fr h₀ L h' m → h'.Ns (I + 1 + 1) (fun _ => none) → h'.get? (I + 1 + 1 + 1) = some oc → oc.data = .cell v₀ →
      News h₀ L h' ((I + 1, LCg.lst ys) :: nx') → Off4 I (I + 1 + 1) (I + 1 + 1 + 1) (I + 1) nx' → J i ys nx' → KSt h₀ L m s₁ I a n J (n + 1 - i) { s₁ with heap := h', toks := tk }
theorem ListComp_K {elt iter : PySem.Expr} {x y : Str} {px : Pos} {scope : Scope} {cl : List (Str × Addr)} {pos : Pos} {Q : Value → Shared → Prop} (F₀ : Fr h₀ L s.heap m)
    (hclos : closureFor scope env = pure cl) (hsc : scope.names = [(Str.ofString ".0", .local), (x, .cell), (y, .free)]) (hkind : scope.kind = .function)
    (hnames : ∀ z ∈ scope.names, z.2 = .local → scope.names.lookup z.1 = some .local) (hkx : ∀ C cl', (compEnvC scope cl' C env).kindOf x = some .cell)
    (h : wpAny (model prog w) A (eval iter env) (SrcK prog w A h₀ L m env elt x scope cl Q) E s)
    (hs : ∀ x, foldedSetIterable iter env x = pure x) :
    wpAny (model prog w) A (eval (.ListComp elt [⟨.Name x px, iter, [], 0⟩] scope pos) env) Q E s := by
  rw [eval_ListComp]
  refine wpAny_comprehension_free (use := none) rfl hs hclos hkind hnames (wpAny_mono h (fun xv s₁ h₁ => ?_) fun _ _ e => e)
  obtain ⟨r, a, b, t, u, v, n, nx, J, rfl, hh, F, N, hr, hsm, hn, hsz, hJ, turn, fin⟩ := h₁
  refine wpAny_pyIter_range hr hsm ?_
  refine wpAny_newObj_type (newEnvK ?_)
  rw [hsc]
  simp only [cellsFrom, pushCells, show ((NameKind.local == NameKind.cell) = false) from rfl, show ((NameKind.cell == NameKind.cell) = true) from rfl, show ((NameKind.free == NameKind.cell) = false) from rfl, Bool.false_eq_true, if_false, if_true, Heap.size_push]
  have W := LCg.range_walks (prog := prog) (w := w) (A := A) (I := s₁.heap.objs.size) hh a n
  have hIlt : ∀ b o, s₁.heap.get? b = some o → b < s₁.heap.objs.size := fun b o e => Heap.lt_size e
  have hLI : @LT.lt Nat _ L s₁.heap.objs.size := F.ns.lt
  show codeAny _ _ _ _ _
  generalize hI : s₁.heap.objs.size = I at W hIlt hLI ⊢
  generalize hH : Heap.push (Heap.push (Heap.push (Heap.push s₁.heap _) _) _) _ = H
  obtain ⟨old, hgI, hgD, hnC, hgc⟩ := comp_heaps (a := a) (b := Builtin.Range.rangeSize a b 1) hI hH
  clear hH hI
  rw [hn] at hgI
  have hnew : ∀ k, h₀.get? (I + k) = none := fun k => by
    cases e : h₀.get? (I + k) with
    | none => rfl
    | some o => exact absurd (hIlt _ _ (F.keep _ _ e)) (Nat.not_lt.mpr (Nat.le_add_right I k))
  have hst : IsRangeIter H I (a + ((0 : Nat) : Int) * 1) ((n : Int) - ((0 : Nat) : Int)) 1 := by
    unfold rit at hgI
    simpa using hgI
  have hnx : ∀ p ∈ nx, @LT.lt Nat _ p.1 I := fun p hp => hIlt _ _ (N p hp).1
  have loop : codeAny (model prog w) A (.compLoop (.ListComp elt [⟨.Name x px, iter, [], 0⟩] scope pos) 0 (.ref I) (.ref (I + 1)) (compEnvC scope ((x, I + 1 + 1 + 1) :: cl) (I + 1 + 1) env))
      (compPost (model prog w) A E none Q (.ref (I + 1)) (I + 1 + 1)) { s₁ with heap := H } := by
    refine codeAny_compLoop_tests (KSt h₀ L m s₁ I a n J) ?_ (n + 1)
      (.mk H _ 0 [] nx _ _ (Nat.zero_le _) rfl hst (F.keeps old) hnC hgc rfl (List.forall_mem_cons.mpr ⟨⟨hgD, Ne.symm (nL hLI 1), hnew 1⟩, fun p hp => ⟨old _ _ (N p hp).1, (N p hp).2⟩⟩) (fun p hp => ⟨nL (hnx p hp) 0, nL (hnx p hp) 2, nL (hnx p hp) 3, nL (hnx p hp) 1⟩) hJ)
    clear hst F N hgI hgD hnC hgc old hnx hJ hIlt
    intro k s' hk
    cases hk with
    | mk h' tk i ys nx' oc v₀ hi hyl hst' F' hn' hc' hd' N' off' hJ' =>
    by_cases hlt : i < n
    · refine W.item i _ _ _ hlt hst' fun v h₂ tk₂ hPv hst₂ hk₂ => ?_
      have k2 : ∀ b' o, b' ≠ I → h'.get? b' = some o → h₂.get? b' = some o := fun b' o hb => hk₂ b' o (fun hm => hb (List.mem_singleton.mp hm))
      refine wpAny_assign_Name (wpAny_storeName_cell (c := I + 1 + 1 + 1) (v₀ := v₀) (by simp [compEnvC, relabel, hkind]) (hkx _ _) (by simp [compEnvC]) ⟨oc, k2 _ _ (nk I 3 0 rfl) hc', hd'⟩ fun h₃ hv₃ hs₃ => ?_)
      obtain ⟨oc3, hc3, hd3⟩ := hv₃
      have k3 : ∀ b' o, b' ≠ I + 1 + 1 + 1 → b' ≠ I → h'.get? b' = some o → h₃.get? b' = some o := fun b' o hb hb2 e => hs₃.extBut b' o hb (k2 b' o hb2 e)
      have hst₃ : h₃.get? I = some _ := hs₃.extBut _ _ (nk I 0 3 rfl) hst₂
      clear hk₂ hs₃ hst₂ k2
      refine wpAny_tests_nil ?_
      rw [if_pos rfl]
      obtain ⟨oC, heC, hoC⟩ := LCg.ns_obj (hn'.at' fun o e => k3 _ _ (nk I 2 3 rfl) (nk I 2 0 rfl) e)
      have F₃ : Fr h₀ L h₃ m := ⟨F'.ns.at' fun o e => k3 _ _ (nL hLI 3) (nL hLI 0) e, fun b' o e => k3 _ _ (fun q => nsm (hnew 3) (q ▸ e)) (fun q => nsm (hnew 0) (q ▸ e)) (F'.keep b' o e), F'.above⟩
      have N₃ : News h₀ L h₃ ([(I, _), (I + 1 + 1, oC), (I + 1 + 1 + 1, oc3), (I + 1, LCg.lst ys)] ++ nx') := List.forall_mem_cons.mpr ⟨⟨hst₃, Ne.symm (nL hLI 0), hnew 0⟩, List.forall_mem_cons.mpr ⟨⟨heC, Ne.symm (nL hLI 2), hnew 2⟩, List.forall_mem_cons.mpr ⟨⟨hc3, Ne.symm (nL hLI 3), hnew 3⟩, List.forall_mem_cons.mpr ⟨⟨k3 _ _ (nk I 1 3 rfl) (nk I 1 0 rfl) (N' _ List.mem_cons_self).1, (N' _ List.mem_cons_self).2⟩, fun p hp => ⟨k3 _ _ (off' p hp).2.2.1 (off' p hp).1 (N' p (List.mem_cons_of_mem _ hp)).1, (N' p (List.mem_cons_of_mem _ hp)).2⟩⟩⟩⟩⟩
      clear k3 F' hn' hc' hd' N' hst'
      refine wpAny_mono (turn i ys nx' v I _ (I + 1 + 1) oC (I + 1 + 1 + 1) oc3 (I + 1) h₃ _ _ hlt hJ' hPv hd3 F₃ N₃ off') (fun y' s₄ h₄ => ?_) fun _ _ e => e
      clear turn hJ' F₃ N₃ off'
      obtain ⟨h₄, tk₄, nx₄, rfl, F₄, N₄, off₄, hJ₄⟩ := h₄
      obtain ⟨zI, N₅⟩ := List.forall_mem_cons.mp N₄
      obtain ⟨zC, N₆⟩ := List.forall_mem_cons.mp N₅
      obtain ⟨zc, N₇⟩ := List.forall_mem_cons.mp N₆
      obtain ⟨zD, N₈⟩ := List.forall_mem_cons.mp N₇
      clear N₄ N₅ N₆ N₇
      refine append_at (hsz := by show ys.toArray.size ≤ sizeLine; rw [List.size_toArray, hyl]; exact Nat.le_trans hi hsz) zD.1 fun h₅ hs₅ hD₅ => ?_
      have k5 : ∀ b' o, b' ≠ I + 1 → h₄.get? b' = some o → h₅.get? b' = some o := fun b' o hb e => hs₅.extBut b' o hb e
      exact ⟨n + 1 - (i + 1), Nat.sub_lt_sub_left (Nat.lt_succ_of_le hi) (Nat.lt_succ_self i), .mk h₅ tk₄ (i + 1) (ys ++ [y']) nx₄ oc3 _ hlt (by rw [List.length_append, List.length_singleton, hyl]) (k5 _ _ (nk I 0 1 rfl) zI.1) (F₄.change hs₅ (Ne.symm (nL hLI 1)) (hnew 1)) ((hoC.ns zC.1).sameBut hs₅ (nk I 2 1 rfl)) (k5 _ _ (nk I 3 1 rfl) zc.1) hd3 (List.forall_mem_cons.mpr ⟨⟨hD₅.trans (congrArg some (LCg.lst_snoc ys y')), Ne.symm (nL hLI 1), hnew 1⟩, fun p hp => ⟨k5 _ _ (off₄ p hp).2.2.2 (N₈ p hp).1, (N₈ p hp).2⟩⟩) off₄ hJ₄⟩
    · obtain rfl : i = n := Nat.le_antisymm hi (Nat.not_lt.mp hlt)
      refine W.done _ _ _ hst' fun h₂ tk₂ hk₂ => ?_
      have k2 : ∀ b' o, b' ≠ I → h'.get? b' = some o → h₂.get? b' = some o := fun b' o hb => hk₂ b' o (fun hm => hb (List.mem_singleton.mp hm))
      refine ⟨_, hn'.at' fun o e => k2 _ _ (nk I 2 0 rfl) e, fun h'' hs'' => fin ys nx' (I + 1) h'' _ hJ' (Fr.change ⟨F'.ns.at' fun o e => k2 _ _ (nL hLI 0) e, fun b' o e => k2 _ _ (fun q => nsm (hnew 0) (q ▸ e)) (F'.keep b' o e), F'.above⟩ hs'' (Ne.symm (nL hLI 2)) (hnew 2)) (List.forall_mem_cons.mpr ⟨⟨hs''.extBut _ _ (nk I 1 2 rfl) (k2 _ _ (nk I 1 0 rfl) (N' _ List.mem_cons_self).1), (N' _ List.mem_cons_self).2⟩, fun p hp => ⟨hs''.extBut _ _ (off' p hp).2.1 (k2 _ _ (off' p hp).1 (N' p (List.mem_cons_of_mem _ hp)).1), (N' p (List.mem_cons_of_mem _ hp)).2⟩⟩) fun p hp => (off' p hp).2.2.2⟩
  exact codeAny_compStart_list loop (W.self 0 _ _ _ hst loop)
end
/-- the first i columns -/
noncomputable def ColsTo (K : Ledg) (tab : List (List Int)) (i : Nat) (ys : List Value) (nx : Ledg) : Prop := ∃ cs : List Addr, ys = cs.map Value.ref ∧ cs.length = i ∧ (∀ p ∈ K, p ∈ nx) ∧ ∀ j c, cs[j]? = some c → IntsAt nx c (colI tab j)
theorem ColsTo.start (K : Ledg) (tab : List (List Int)) : ColsTo K tab 0 [] K := ⟨[], rfl, rfl, fun _ h => h, fun j c h => by simp at h⟩
theorem ColsTo.step {K nx nx' : Ledg} {tab : List (List Int)} {i : Nat} {ys : List Value} {c : Addr} (T : ColsTo K tab i ys nx) (hs : ∀ p ∈ nx, p ∈ nx') (h : IntsAt nx' c (colI tab i)) : ColsTo K tab (i + 1) (ys ++ [.ref c]) nx' := by
  obtain ⟨rs, h1, h2, h3, h4⟩ := T
  refine ⟨rs ++ [c], by rw [h1]; simp, by simp [h2], fun p hp => hs p (h3 p hp), fun j q hq => ?_⟩
  by_cases hj : j < rs.length
  · rw [List.getElem?_append_left hj] at hq
    exact (h4 j q hq).sub hs
  · have := (List.getElem?_eq_some_iff.mp hq).1
    simp at this
    have e : j = i := by lia
    subst e
    rw [← h2] at hq
    simp at hq
    subst hq
    exact h
theorem ColsTo.keep {K nx : Ledg} {tab : List (List Int)} {i : Nat} {ys : List Value} (T : ColsTo K tab i ys nx) : ∀ p ∈ K, p ∈ nx := T.choose_spec.2.2.1
theorem ColsTo.all {K nx : Ledg} {tab : List (List Int)} {n : Nat} {ys : List Value} {D : Addr} (T : ColsTo K tab n ys nx) (hn : n = (tab.getD 0 []).length) : ∃ cs, GridAt ((D, LCg.lst ys) :: nx) D cs (colsI tab) := by
  obtain ⟨cs, h1, h2, h3, h4⟩ := T
  subst h1
  refine ⟨cs, ⟨_, .head _⟩, ⟨by rw [colsI, List.length_map, List.length_range, h2, hn], fun i a ha => ?_⟩⟩
  have hi : i < cs.length := (List.getElem?_eq_some_iff.mp ha).1
  have e : (colsI tab).getD i [] = colI tab i := by
    unfold colsI
    have : i < (tab.getD 0 []).length := by lia
    generalize (tab.getD 0 []).length = q at *
    rw [List.getD_eq_getElem?_getD, List.getElem?_map, List.getElem?_range this]
    rfl
  rw [e]
  exact (h4 i a ha).sub sub1
/-- a column out of the first lines -/
noncomputable def ColJ (K : Ledg) (tab : List (List Int)) (k : Nat) (i : Nat) (ys : List Value) (nx : Ledg) : Prop := nx = K ∧ IntsAre ys (colI (tab.take i) k)
theorem ColJ.start (K : Ledg) (tab : List (List Int)) (k : Nat) : ColJ K tab k 0 [] K := ⟨rfl, .nil⟩
theorem colI_succ {tab : List (List Int)} {i k : Nat} (h : i < tab.length) : colI (tab.take (i + 1)) k = colI (tab.take i) k ++ if k < (tab.getD i []).length then [(tab.getD i []).getD k 0] else [] := by
  unfold colI
  rw [List.take_add_one, List.getElem?_eq_getElem h, List.filter_append, List.map_append]
  have e : tab.getD i [] = tab[i] := by simp [h]
  rw [e]
  congr 1
  by_cases q : k < tab[i].length <;> simp [q]
theorem ColJ.put {K nx : Ledg} {tab : List (List Int)} {k i : Nat} {ys : List Value} {t : Tok} (h : ColJ K tab k i ys nx) (hi : i < tab.length) (hp : k < (tab.getD i []).length) : ColJ K tab k (i + 1) (ys ++ [.int ((tab.getD i []).getD k 0) t]) nx := by
  refine ⟨h.1, ?_⟩
  rw [colI_succ hi, if_pos hp]
  exact h.2.append (.cons _ _ .nil)
theorem ColJ.pass {K nx : Ledg} {tab : List (List Int)} {k i : Nat} {ys : List Value} (h : ColJ K tab k i ys nx) (hi : i < tab.length) (hp : ¬ k < (tab.getD i []).length) : ColJ K tab k (i + 1) ys nx := by
  refine ⟨h.1, ?_⟩
  rw [colI_succ hi, if_neg hp, List.append_nil]
  exact h.2
theorem off1_mem {D : Addr} : ∀ {l : Ledg}, LCg.Off1 D l → ∀ p ∈ l, p.1 ≠ D
  | [], _, _, h => nomatch h
  | _ :: _, x, p, h => by
    rcases List.mem_cons.mp h with rfl | h
    · exact x.1
    · exact off1_mem x.2 p h
theorem endK_new {h₀ h' : Heap} {L : Addr} {m : Str → Option Value} {s₁ : Shared} {I C c D D3 : Addr} {oI oC oc oD oD3 : Obj} {rest : Value → Ledg → Prop} {y : Value} {tk : Nat} {nx : Ledg} (F : Fr h₀ L h' m) (N : News h₀ L h' ((D3, oD3) :: (I, oI) :: (C, oC) :: (c, oc) :: (D, oD) :: nx)) (o1 : LCg.Off1 D3 ((I, oI) :: (C, oC) :: (c, oc) :: (D, oD) :: nx)) (off : Off4 I C c D nx) (r : rest y ((D3, oD3) :: nx)) :
    EndK h₀ L m s₁ [(I, oI), (C, oC), (c, oc), (D, oD)] I C c D rest y { s₁ with heap := h', toks := tk } := by
  have q := off1_mem o1
  refine ⟨h', tk, (D3, oD3) :: nx, rfl, F, kst_newsOf N (fun p hp => ?_), fun p hp => ?_, r⟩
  · simp only [List.cons_append, List.nil_append, List.mem_cons] at hp ⊢
    rcases hp with h | h | h | h | h | h
    · exact .inr (.inl h)
    · exact .inr (.inr (.inl h))
    · exact .inr (.inr (.inr (.inl h)))
    · exact .inr (.inr (.inr (.inr (.inl h))))
    · exact .inl h
    · exact .inr (.inr (.inr (.inr (.inr h))))
  · rcases List.mem_cons.mp hp with rfl | hp
    · exact ⟨Ne.symm (q (I, oI) (.head _)), Ne.symm (q (C, oC) (.tail _ (.head _))), Ne.symm (q (c, oc) (.tail _ (.tail _ (.head _)))), Ne.symm (q (D, oD) (.tail _ (.tail _ (.tail _ (.head _)))))⟩
    · exact off p hp
/-- copies of the first i lines -/
noncomputable def CopyTo (K : Ledg) (tab : List (List Int)) (i : Nat) (ys : List Value) (nx : Ledg) : Prop := ∃ cs : List Addr, ys = cs.map Value.ref ∧ cs.length = i ∧ (∀ p ∈ K, p ∈ nx) ∧ cs.Nodup ∧ (∀ c ∈ cs, ∀ p ∈ K, p.1 ≠ c) ∧ ∀ j c, cs[j]? = some c → IntsAt nx c (tab.getD j [])
theorem CopyTo.start (K : Ledg) (tab : List (List Int)) : CopyTo K tab 0 [] K := ⟨[], rfl, rfl, fun _ h => h, .nil, (fun c h => nomatch h), fun j c h => by simp at h⟩
theorem CopyTo.keep {K nx : Ledg} {tab : List (List Int)} {i : Nat} {ys : List Value} (T : CopyTo K tab i ys nx) : ∀ p ∈ K, p ∈ nx := T.choose_spec.2.2.1
theorem CopyTo.step {K nx nx' : Ledg} {tab : List (List Int)} {i : Nat} {ys : List Value} {c : Addr} (T : CopyTo K tab i ys nx) (hs : ∀ p ∈ nx, p ∈ nx') (hf : ∀ p ∈ nx, p.1 < c) (h : IntsAt nx' c (tab.getD i [])) : CopyTo K tab (i + 1) (ys ++ [.ref c]) nx' := by
  obtain ⟨rs, h1, h2, h3, h4, h5, h6⟩ := T
  have hlt : ∀ a ∈ rs, a < c := fun a ha => by
    obtain ⟨j, hj, e⟩ := List.getElem_of_mem ha
    obtain ⟨v, ee, hm, _⟩ := h6 j a (by simp [hj, e])
    exact hf _ hm
  refine ⟨rs ++ [c], by rw [h1]; simp, by simp [h2], fun p hp => hs p (h3 p hp), ?_, ?_, fun j q hq => ?_⟩
  · rw [List.nodup_append]
    exact ⟨h4, by simp, fun a ha b hb => by rw [List.mem_singleton.mp hb]; exact Nat.ne_of_lt (hlt a ha)⟩
  · intro a ha p hp
    rcases List.mem_append.mp ha with q | q
    · exact h5 a q p hp
    · rw [List.mem_singleton.mp q]; exact Nat.ne_of_lt (hf p (h3 p hp))
  · by_cases hj : j < rs.length
    · rw [List.getElem?_append_left hj] at hq
      exact (h6 j q hq).sub hs
    · have := (List.getElem?_eq_some_iff.mp hq).1
      simp at this
      have e : j = i := by lia
      subst e
      rw [← h2] at hq
      simp at hq
      subst hq
      exact h
theorem CopyTo.tab {K nx keep : Ledg} {tab : List (List Int)} {n : Nat} {ys : List Value} {D rl : Addr} {ds : List Int} (T : CopyTo K tab n ys nx) (hn : n = tab.length) (o1 : ∀ p ∈ nx, p.1 ≠ D) (hr : IntsAt K rl ds) (hk : ∀ p ∈ keep, p ∈ K ∧ p.1 ≠ rl) :
    ∃ cs, TabL keep ((D, LCg.lst ys) :: nx) D rl cs tab ds := by
  obtain ⟨cs, h1, h2, h3, h4, h5, h6⟩ := T
  subst h1
  obtain ⟨v, e, hm, hi⟩ := hr
  have hDcs : D ∉ cs := fun q => by
    obtain ⟨j, hj, e'⟩ := List.getElem_of_mem q
    obtain ⟨v, ee, hm, _⟩ := h6 j D (by simp [hj, e'])
    exact o1 _ hm rfl
  refine ⟨cs, fun p hp => sub1 _ (h3 _ (hk p hp).1), ⟨_, .head _⟩, ⟨v, e, sub1 _ (h3 _ hm), hi⟩, ⟨by rw [h2, hn], fun i a ha => (h6 i a ha).sub sub1⟩, h4, fun q => o1 _ (h3 _ hm) q.symm, hDcs, fun q => h5 _ q _ hm rfl, fun p hp => ⟨o1 _ (h3 _ (hk p hp).1), (hk p hp).2, fun q => h5 _ q _ (hk p hp).1 rfl⟩⟩
theorem ints_unique : ∀ {vs : List Value} {a b : List Int}, IntsAre vs a → IntsAre vs b → a = b
  | _, _, _, .nil, .nil => rfl
  | _, _, _, .cons n t h1, .cons _ _ h2 => by rw [ints_unique h1 h2]
/-- what was at another address is there; at this one the list is as it was -/
theorem IntsAt.thru {h₀ h : Heap} {L rl a : Addr} {K nx : Ledg} {ds xs : List Int} (N : News h₀ L h K) (hr : IntsAt K rl ds) (hr' : IntsAt nx rl ds) (hk : ∀ p ∈ K, p.1 ≠ rl → p ∈ nx) (hx : IntsAt K a xs) : IntsAt nx a xs := by
  by_cases e : a = rl
  · subst e
    obtain ⟨v1, e1, m1, i1⟩ := hr
    obtain ⟨v2, e2, m2, i2⟩ := hx
    have z1 := (N _ m1).1
    have z2 := (N _ m2).1
    rw [z1] at z2
    cases z2
    have : ds = xs := by
      exact ints_unique i1 i2
    subst this
    exact hr'
  · exact hx.mono fun o ho => hk _ ho e
theorem GridAt.thru {h₀ h : Heap} {L rl l : Addr} {K nx : Ledg} {ds : List Int} {as : List Addr} {xss : List (List Int)} (N : News h₀ L h K) (hr : IntsAt K rl ds) (hr' : IntsAt nx rl ds) (hk : ∀ p ∈ K, p.1 ≠ rl → p ∈ nx) (hpos : 0 < as.length) (hx : GridAt K l as xss) : GridAt nx l as xss := by
  obtain ⟨⟨e, hm⟩, H⟩ := hx
  refine ⟨⟨e, hk _ hm fun q => ?_⟩, ⟨H.len, fun i a ha => IntsAt.thru N hr hr' hk (H.at' i a ha)⟩⟩
  have q : l = rl := q
  subst q
  obtain ⟨v1, e1, m1, i1⟩ := hr
  have z1 := (N _ m1).1
  have z2 := (N _ hm).1
  rw [z1] at z2
  cases as with
  | nil => simp at hpos
  | cons a r =>
    simp only [List.map_cons] at z2
    cases z2
    cases i1
theorem TabOk.thru {h₀ h : Heap} {L rl P : Addr} {K nx : Ledg} {ds : List Int} {li co : Nat} {qual : Str} (N : News h₀ L h K) (hr : IntsAt K rl ds) (hk : ∀ p ∈ K, p.1 ≠ rl → p ∈ nx) (hx : TabOk P li co qual K) : TabOk P li co qual nx := by
  obtain ⟨v1, e1, m1, i1⟩ := hr
  have z1 := (N _ m1).1
  rcases hx with hx | ⟨c', oc, vs, t, h1, h2, h3, h4⟩
  · refine .inl (hk _ hx fun q => ?_)
    have q : P = rl := q
    subst q
    have z2 := (N _ hx).1
    rw [z1] at z2
    cases z2
  · refine .inr ⟨c', oc, vs, t, hk _ h1 fun q => ?_, hk _ h2 fun q => ?_, h3, h4⟩
    · have q : P = rl := q
      subst q
      have z2 := (N _ h1).1
      rw [z1] at z2
      cases z2
    · have q : c' = rl := q
      subst q
      have z2 := (N _ h2).1
      rw [z1] at z2
      cases z2
      cases h3
end

section
noncomputable def EndT (h₀ : Heap) (L I : Addr) (oI : Obj) (must : Ledg) (Jn : (Str → Option Value) → Ledg → Prop) (s₁ : Shared) (f : Flow) (s₂ : Shared) : Prop :=
  f = .next ∧ ∃ h' tk m' nx', s₂ = { s₁ with heap := h', toks := tk } ∧ Fr h₀ L h' m' ∧ News h₀ L h' ((I, oI) :: nx') ∧ (∀ p ∈ nx', p.1 ≠ I) ∧ (∀ p ∈ must, p ∈ nx') ∧ Jn m' nx'
theorem endT_id {h₀ : Heap} {L I : Addr} {oI : Obj} {must : Ledg} {Jn : (Str → Option Value) → Ledg → Prop} {s₁ : Shared} {f : Flow} {s₂ : Shared} (h : EndT h₀ L I oI must Jn s₁ f s₂) : EndT h₀ L I oI must Jn s₁ f s₂ := h
section
variable {prog : Program} {w : World} {A : Around} {E : Value → Shared → Prop} {s : Shared} {env : Env} {h₀ : Heap} {target : PySem.Expr} {body : List Stmt} {Q : Flow → Shared → Prop}
theorem forT {r : Addr} {a₀ b₀ : Int} {t₀ u₀ v₀ : Tok} {n : Nat} {m₀ : Str → Option Value} {news : Ledg} (J : Nat → (Str → Option Value) → Ledg → Prop)
    (hh : A.handled = none) (hr : IsRange s.heap r a₀ b₀ 1 t₀ u₀ v₀) (hsmall : Builtin.Range.small a₀ b₀ 1 = true) (hn : Builtin.Range.rangeSize a₀ b₀ 1 = (n : Int)) (F : Fr h₀ env.locals s.heap m₀) (N : News h₀ env.locals s.heap news) (hj : J 0 m₀ news)
    (hgo : ∀ it v, letOwnedTupleGo target it v = pure ())
    (turn : ∀ I i t m₁ nx s₁ oI, i < n → J i m₁ nx → (∀ p ∈ nx, p.1 ≠ I) → Fr h₀ env.locals s₁.heap m₁ → News h₀ env.locals s₁.heap ((I, oI) :: nx) →
      wpAny (model prog w) A (assign target env (.int (a₀ + (i : Nat)) t)) (fun _ s₃ => wpAny (model prog w) A (execs body env) (EndT h₀ env.locals I oI [] (J (i + 1)) s₁) E s₃) E s₁)
    (done : ∀ m₁ nx h tk, J n m₁ nx → Fr h₀ env.locals h m₁ → News h₀ env.locals h nx → Q .next { s with heap := h, toks := tk }) :
    wpAny (model prog w) A (pyIter (.ref r)) (fun it s₂ => LoopAtT prog w A h₀ env target body Q E it s₂) E s := by
  refine wpAny_pyIter_range hr hsmall ?_
  have W := LCg.range_walks (prog := prog) (w := w) (A := A) (I := s.heap.objs.size) hh a₀ n
  have hnI : h₀.get? s.heap.objs.size = none := next_is_new F
  refine ⟨s.heap.objs.size, _, _, n, _, _, m₀, news, J, rfl, W, ?_, ?_, ?_, ?_, F.push _, fun p hp => ⟨Heap.get?_push_of_some _ (N p hp).1, (N p hp).2⟩, ?_, hj, ?_, ?_⟩
  · intro hm
    exact absurd F.ns.lt ((List.mem_singleton.mp hm) ▸ Nat.lt_irrefl _)
  · intro b hb; rw [List.mem_singleton.mp hb]; exact hnI
  · intro p hp hI
    exact absurd (Heap.lt_size (N p hp).1) ((List.mem_singleton.mp hI) ▸ Nat.lt_irrefl _)
  · show IsRangeIter _ _ _ _ _
    rw [hn]
    simpa using Heap.get?_push_size _ rfl
  · intro i s' v Q' _ hQ
    rw [hgo]
    exact wpAny_pure hQ
  · intro i v m₁ nx s₁ own hi hP hJ hoff hown hget hall hst F₁ N₁
    obtain ⟨t, rfl⟩ := hP
    obtain ⟨oI, hst'⟩ : ∃ o, s₁.heap.get? s.heap.objs.size = some o := ⟨_, hst⟩
    have hIo := hall _ (List.mem_singleton.mpr rfl) hnI _ hst'
    have hoff' : ∀ p ∈ nx, p.1 ≠ s.heap.objs.size := fun p hp e => hoff p hp (List.mem_singleton.mpr e)
    refine wpAny_mono (turn s.heap.objs.size i t m₁ nx s₁ oI hi hJ hoff' F₁ (fun p hp => ?_)) (fun _ s₃ q => wpAny_mono q (fun f s₄ q => ?_) fun _ _ e => e) fun _ _ e => e
    · rcases List.mem_cons.mp hp with rfl | hp
      · exact N₁ _ (List.mem_append_left _ hIo)
      · exact N₁ p (List.mem_append_right _ hp)
    · obtain ⟨rfl, h', tk', m', nx', rfl, F', N', off', _, hJ'⟩ := q
      refine ⟨rfl, h', tk', m', nx', rfl, F', fun p hp => ?_, fun p hp hq => off' p hp (List.mem_singleton.mp hq), hJ'⟩
      rcases List.mem_append.mp hp with q | q
      · have e1 := List.mem_singleton.mp (hown p q)
        have e2 := hget p q
        rw [e1, hst'] at e2
        obtain ⟨pa, po⟩ := p
        cases e1
        cases e2
        exact N' _ (.head _)
      · exact N' p (List.mem_cons_of_mem _ q)
  · intro h' tk m' nx F' N' _ hJ
    exact done m' nx h' tk hJ F' N'
end
theorem forAtT {prog : Program} {w : World} {A : Around} {s : Shared} {env : Env} {h₀ : Heap} {E : Value → Shared → Prop} {Q : Flow → Shared → Prop} {target iter : PySem.Expr} {pos : Pos} {body : List Stmt} {L : Addr} {m : Str → Option Value} (F : Fr h₀ L s.heap m)
    (h : wpAny (model prog w) A (eval iter env) (fun xv s₁ => wpAny (model prog w) A (pyIter xv) (fun it s₂ => LoopAtT prog w A h₀ env target body Q E it s₂) E s₁) E s)
    (hs : ∀ x, foldedSetIterable iter env x = pure x)
    (hE : PassesOwn (model prog w) A env E := by passes_own) :
    wpAny (model prog w) A (exec (.For target iter body [] pos) env) Q E s := For_invT h₀ h hs hE
section
variable {prog : Program} {w : World} {A : Around} {E : Value → Shared → Prop} {s : Shared} {Q : Value → Shared → Prop} {a n b : Int} {t u : Tok}
theorem powN {B h : Nat} (ha : a = (B : Nat)) (hn : n = (h : Nat)) (h1 : Builtin.Int.intBits ((B : Nat) : Int) ≤ 1000) (hh : h ≤ 1000) (hq : Q (.int ((B ^ h : Nat) : Int) s.toks) { s with toks := s.toks + 1 }) : wpAny (model prog w) A (binaryOp .Pow (.int a t) (.int n u)) Q E s := by
  subst ha hn
  refine pow_int (by lia) ?_ ?_
  · have h2 : Builtin.Int.intBits ((B : Nat) : Int) * h ≤ 1000 * 1000 := Nat.mul_le_mul h1 hh
    have h3 : ((Builtin.Int.intBits ((B : Nat) : Int) : Nat) : Int) * ((h : Nat) : Int) = ((Builtin.Int.intBits ((B : Nat) : Int) * h : Nat) : Int) := by norm_cast
    rw [h3]
    lia
  · rw [Int.toNat_natCast]
    have e : ((B : Nat) : Int) ^ h = ((B ^ h : Nat) : Int) := by norm_cast
    rw [e]
    exact hq
theorem imulN {x y : Nat} (ha : a = (x : Nat)) (hb : b = (y : Nat)) (h1 : Builtin.Int.intBits ((x : Nat) : Int) ≤ 50000) (h2 : Builtin.Int.intBits ((y : Nat) : Int) ≤ 50000) (hq : Q (.int ((x * y : Nat) : Int) s.toks) { s with toks := s.toks + 1 }) : wpAny (model prog w) A (inplaceOp .Mult (.int a t) (.int b u)) Q E s := by
  subst ha hb
  refine imul_int ?_ ?_
  · have e : ((x : Nat) : Int) * ((y : Nat) : Int) = ((x * y : Nat) : Int) := by norm_cast
    rw [e]
    exact hq
  · exact IntMulOk.of_bits (by lia) (by lia)
end
theorem bits_of_le {x B W e : Nat} (hB : B = 2 ^ W) (h : x ≤ B ^ e) : Builtin.Int.intBits ((x : Nat) : Int) ≤ W * e + 1 := by
  refine bits_lt (Nat.lt_of_le_of_lt h ?_)
  rw [hB, ← Nat.pow_mul]
  exact Nat.pow_lt_pow_right (by lia) (by lia)
theorem mulH_le {B a h e : Nat} (hB : 1 ≤ B) (ha : a ≤ B ^ e) : mulH B a h ≤ B ^ (e + h) := by
  unfold mulH
  rw [Nat.pow_add]
  exact Nat.mul_le_mul ha (Nat.sub_le _ _)
theorem mulH_int {B h : Nat} (hB : 1 ≤ B) : ((B ^ h : Nat) : Int) - 1 = ((B ^ h - 1 : Nat) : Int) := by
  have : 0 < B ^ h := Nat.pow_pos hB
  lia
theorem aboveF_succ (B n : Nat) : aboveF B (n + 1) = mulH B (aboveF B n) (n + 1) := by
  unfold aboveF
  rw [List.range_succ, List.foldl_append]
  rfl
theorem aboveF_le {B : Nat} (hB : 1 ≤ B) : ∀ n, n ≤ 5 → aboveF B n ≤ B ^ (5 * n)
  | 0, _ => by simp [aboveF]
  | n + 1, h => by
    rw [aboveF_succ]
    refine Nat.le_trans (mulH_le hB (aboveF_le hB n (by lia))) (Nat.pow_le_pow_right hB (by lia))
theorem hookRow_succ (B : Nat) (tab : List (List Int)) (d a n : Nat) : hookRow B tab d a (n + 1) = mulH B (hookRow B tab d a n) (hookF tab d n) := by
  unfold hookRow
  rw [List.range_succ, List.foldl_append]
  rfl
theorem hookF_le {tab : List (List Int)} (h5 : tab.length ≤ 5) (hl : ∀ l ∈ tab, 0 < l.length ∧ l.length ≤ 5) (d k : Nat) : hookF tab d k ≤ 10 := by
  unfold hookF
  have h1 : (tab.getD d []).length ≤ 5 := by
    by_cases h : d < tab.length
    · exact (hl _ (getD_memL h)).2
    · simp [h]
  have h2 : ((tab.drop (d + 1)).filter fun l => decide (k < l.length)).length ≤ tab.length := Nat.le_trans (List.length_filter_le _ _) (by simp)
  lia
theorem hookRow_le {B : Nat} (hB : 1 ≤ B) {tab : List (List Int)} (h5 : tab.length ≤ 5) (hl : ∀ l ∈ tab, 0 < l.length ∧ l.length ≤ 5) (d a e : Nat) (ha : a ≤ B ^ e) : ∀ n, hookRow B tab d a n ≤ B ^ (e + 10 * n)
  | 0 => by simpa [hookRow] using ha
  | n + 1 => by
    rw [hookRow_succ]
    have := hookF_le h5 hl d n
    exact Nat.le_trans (mulH_le hB (hookRow_le hB h5 hl d a e ha n)) (Nat.pow_le_pow_right hB (by lia))
theorem belowF_succ (B : Nat) (tab : List (List Int)) (n : Nat) : belowF B tab (n + 1) = hookRow B tab n (belowF B tab n) (tab.getD n []).length := by
  unfold belowF
  rw [List.range_succ, List.foldl_append]
  rfl
theorem belowF_le {B : Nat} (hB : 1 ≤ B) {tab : List (List Int)} (h5 : tab.length ≤ 5) (hl : ∀ l ∈ tab, 0 < l.length ∧ l.length ≤ 5) : ∀ n, n ≤ tab.length → belowF B tab n ≤ B ^ (50 * n)
  | 0, _ => by simp [belowF]
  | n + 1, h => by
    rw [belowF_succ]
    have h1 := (hl _ (getD_memL (show n < tab.length by lia))).2
    exact Nat.le_trans (hookRow_le hB h5 hl n _ _ (belowF_le hB h5 hl n (by lia)) _) (Nat.pow_le_pow_right hB (by lia))
theorem weightF_succ (tab : List (List Int)) (n : Nat) : weightF tab (n + 1) = weightF tab n + n * (tab.getD n []).length := by
  unfold weightF
  rw [List.range_succ, List.foldl_append]
  rfl
/-- the letter k is a cell that a loop turns; some names told -/
noncomputable def CellJ5 (L : Addr) (K0 : Ledg) (ps : List (Str × Value)) (stored : List Str) (m₀ m : Str → Option Value) (nx : Ledg) : Prop :=
  ∃ o5 v5, (L + 1 + 1 + 1 + 1 + 1, o5) ∈ nx ∧ o5.data = .cell v5 ∧ (∀ p ∈ K0, p ∈ nx) ∧ Told' ps stored m₀ m
noncomputable def AboveJ (L : Addr) (B : Nat) (K0 : Ledg) (m₀ : Str → Option Value) (i : Nat) (m : Str → Option Value) (nx : Ledg) : Prop := ∃ t, CellJ5 L K0 [(Str.ofString "above", .int (aboveF B i : Nat) t)] [] m₀ m nx
noncomputable def DepthJ (L : Addr) (B : Nat) (tab : List (List Int)) (K0 : Ledg) (m₀ : Str → Option Value) (d : Nat) (m : Str → Option Value) (nx : Ledg) : Prop := ∃ t1 t2, CellJ5 L K0 [(Str.ofString "below", .int (belowF B tab d : Nat) t1), (Str.ofString "weight", .int (weightF tab d : Nat) t2)] [Str.ofString "depth", Str.ofString "size", Str.ofString "hook"] m₀ m nx
noncomputable def HookJ (L : Addr) (B : Nat) (tab : List (List Int)) (d a : Nat) (K0 : Ledg) (m₀ : Str → Option Value) (k : Nat) (m : Str → Option Value) (nx : Ledg) : Prop := ∃ t, CellJ5 L K0 [(Str.ofString "below", .int (hookRow B tab d a k : Nat) t)] [Str.ofString "hook"] m₀ m nx
/-- how many lines are long enough -/
noncomputable def LinesJ (K : Ledg) (sub : List (List Int)) (k : Nat) (i : Nat) (ys : List Value) (nx : Ledg) : Prop := nx = K ∧ ys.length = ((sub.take i).filter fun l => decide (k < l.length)).length
theorem LinesJ.start (K : Ledg) (sub : List (List Int)) (k : Nat) : LinesJ K sub k 0 [] K := ⟨rfl, rfl⟩
theorem LinesJ.put {K nx : Ledg} {sub : List (List Int)} {k i : Nat} {ys : List Value} {v : Value} (h : LinesJ K sub k i ys nx) (hi : i < sub.length) (hp : k < (sub.getD i []).length) : LinesJ K sub k (i + 1) (ys ++ [v]) nx := by
  refine ⟨h.1, ?_⟩
  have e : sub.getD i [] = sub[i] := by simp [hi]
  rw [e] at hp
  rw [List.take_add_one, List.getElem?_eq_getElem hi, List.filter_append, List.length_append, List.length_append, h.2]
  simp [hp]
theorem LinesJ.pass {K nx : Ledg} {sub : List (List Int)} {k i : Nat} {ys : List Value} (h : LinesJ K sub k i ys nx) (hi : i < sub.length) (hp : ¬ k < (sub.getD i []).length) : LinesJ K sub k (i + 1) ys nx := by
  refine ⟨h.1, ?_⟩
  have e : sub.getD i [] = sub[i] := by simp [hi]
  rw [e] at hp
  rw [List.take_add_one, List.getElem?_eq_getElem hi, List.filter_append, List.length_append, h.2]
  simp [hp]
section
variable {prog : Program} {w : World} {A : Around} {E : Value → Shared → Prop} {s : Shared} {Q : Value → Shared → Prop} {a b : Int} {t u : Tok}
theorem mulN {x y : Nat} (ha : a = (x : Nat)) (hb : b = (y : Nat)) (h1 : Builtin.Int.intBits ((x : Nat) : Int) ≤ 50000) (h2 : Builtin.Int.intBits ((y : Nat) : Int) ≤ 50000) (hq : Q (.int ((x * y : Nat) : Int) s.toks) { s with toks := s.toks + 1 }) : wpAny (model prog w) A (binaryOp .Mult (.int a t) (.int b u)) Q E s := by
  subst ha hb
  refine PyProof.Rows.mul_int ?_ ?_
  · have e : ((x : Nat) : Int) * ((y : Nat) : Int) = ((x * y : Nat) : Int) := by norm_cast
    rw [e]
    exact hq
  · exact IntMulOk.of_bits (by lia) (by lia)
end
/-- the cells and what is kept, out of what a turn gives -/
theorem news5 {hb h : Heap} {L I : Addr} {oI o1 o2 o3 o4 o5 o6 : Obj} {R nx : Ledg} (N : News hb L h ((I, oI) :: nx)) (h5 : (L + 1 + 1 + 1 + 1 + 1, o5) ∈ nx) (hK : ∀ p ∈ C5 L o6 o4 o3 o2 o1 R, p ∈ nx) :
    News hb L h (C6 L o6 o5 o4 o3 o2 o1 ((I, oI) :: R)) := kst_newsOf N (C6.all (sub1 _ (hK _ C5.a6)) (sub1 _ h5) (sub1 _ (hK _ C5.a4)) (sub1 _ (hK _ C5.a3)) (sub1 _ (hK _ C5.a2)) (sub1 _ (hK _ C5.a1)) (List.forall_mem_cons.mpr ⟨.head _, fun p hp => sub1 _ (hK _ (C5.r _ hp))⟩))
theorem news5' {hb h : Heap} {L : Addr} {o1 o2 o3 o4 o5 o6 : Obj} {R nx : Ledg} (N : News hb L h nx) (h5 : (L + 1 + 1 + 1 + 1 + 1, o5) ∈ nx) (hK : ∀ p ∈ C5 L o6 o4 o3 o2 o1 R, p ∈ nx) :
    News hb L h (C6 L o6 o5 o4 o3 o2 o1 R) := kst_newsOf N (C6.all (hK _ C5.a6) h5 (hK _ C5.a4) (hK _ C5.a3) (hK _ C5.a2) (hK _ C5.a1) fun p hp => hK _ (C5.r _ hp))
theorem out5 {hb h : Heap} {L I : Addr} {oI o1 o2 o3 o4 o5 o6 : Obj} {R nx : Ledg} (N : News hb L h ((I, oI) :: nx)) (hoff : ∀ p ∈ nx, p.1 ≠ I) (h5 : (L + 1 + 1 + 1 + 1 + 1, o5) ∈ nx) (hK : ∀ p ∈ C5 L o6 o4 o3 o2 o1 R, p ∈ nx) : I < L ∨ @LT.lt Nat _ (L + 6) I :=
  out6 (N _ (.head _)).2.1 (fun e => hoff _ (hK _ C5.a1) e.symm) (fun e => hoff _ (hK _ C5.a2) e.symm) (fun e => hoff _ (hK _ C5.a3) e.symm) (fun e => hoff _ (hK _ C5.a4) e.symm) (fun e => hoff _ h5 e.symm) (fun e => hoff _ (hK _ C5.a6) e.symm)
/-- the end of a turn -/
theorem endT5 {hb h : Heap} {L I : Addr} {oI o1 o2 o3 o4 o5 o6 : Obj} {R : Ledg} {Jn : (Str → Option Value) → Ledg → Prop} {s₁ : Shared} {tk : Nat} {m' : Str → Option Value} (F : Fr hb L h m') (N : News hb L h (C6 L o6 o5 o4 o3 o2 o1 ((I, oI) :: R))) (hI : I < L ∨ @LT.lt Nat _ (L + 6) I) (hR : ∀ p ∈ R, p.1 ≠ I)
    (hJ : ∀ nx, (L + 1 + 1 + 1 + 1 + 1, o5) ∈ nx → (∀ p ∈ C5 L o6 o4 o3 o2 o1 R, p ∈ nx) → Jn m' nx) :
    EndT hb L I oI [] Jn s₁ .next { s₁ with heap := h, toks := tk } := by
  have q := out_ne hI
  exact ⟨rfl, h, tk, m', C6 L o6 o5 o4 o3 o2 o1 R, rfl, F, kst_newsOf N (List.forall_mem_cons.mpr ⟨C6.r _ (.head _), C6.all C6.a6 C6.a5 C6.a4 C6.a3 C6.a2 C6.a1 fun p hp => C6.r _ (.tail _ hp)⟩), C6.all (Ne.symm (q 6 rfl)) (Ne.symm (q 5 rfl)) (Ne.symm (q 4 rfl)) (Ne.symm (q 3 rfl)) (Ne.symm (q 2 rfl)) (Ne.symm (q 1 rfl)) hR, fun p hp => (nomatch hp), hJ _ C6.a5 (C5.all C6.a6 C6.a4 C6.a3 C6.a2 C6.a1 C6.r)⟩
end

section
theorem wpAny_chose {M : Model} {A : Around} {E : Value → Shared → Prop} {s : Shared} {src : Source} {n : Nat} {Q : Nat → Shared → Prop} (hn : n ≠ 0)
    (h : ∀ i d, i < n → Q i { s with drawn := d }) : wpAny M A (choose src n) Q E s := fun Γ p _ => by
  unfold choose
  rw [Sem.wp_choose]
  exact ⟨hn, h _ _ (Nat.mod_lt _ (Nat.pos_of_ne_zero hn))⟩
theorem perm_at : ∀ {α : Type} (xs : List α) (i : Nat) (x : α), xs[i]? = some x → (x :: xs.eraseIdx i).Perm xs
  | _, [], i, x, h => by simp at h
  | _, a :: xs, 0, x, h => by simp at h; subst h; simp
  | _, a :: xs, i + 1, x, h => by
    simp only [List.getElem?_cons_succ] at h
    rw [List.eraseIdx_cons_succ]
    exact (List.Perm.swap a x _).trans ((perm_at xs i x h).cons a)
theorem wpAny_drew {M : Model} {A : Around} {E : Value → Shared → Prop} {α : Type} : ∀ (n : Nat) (xs : List α) (s : Shared) (Q : List α → Shared → Prop), xs.length ≤ n →
    (∀ ys d, ys.Perm xs → Q ys { s with drawn := d }) → wpAny M A (drawOrder n xs) Q E s
  | 0, [], s, Q, _, h => by unfold drawOrder; exact wpAny_pure (h [] s.drawn .nil)
  | 0, x :: xs, s, Q, hl, h => by simp at hl
  | n + 1, [], s, Q, _, h => by unfold drawOrder; exact wpAny_pure (h [] s.drawn .nil)
  | n + 1, x :: xs, s, Q, hl, h => by
    unfold drawOrder
    refine wpAny_bind (wpAny_chose (by simp) fun i d hi => ?_)
    obtain ⟨y, hy⟩ : ∃ y, (x :: xs)[i]? = some y := ⟨_, List.getElem?_eq_getElem hi⟩
    rw [hy]
    dsimp only
    refine wpAny_bind (wpAny_drew n _ _ _ (by rw [List.length_eraseIdx]; simp only [List.length_cons] at hl hi ⊢; split <;> lia) fun ys d' hp => ?_)
    exact wpAny_pure (h _ d' ((hp.cons y).trans (perm_at _ _ _ hy)))
/-- rising array of places -/
noncomputable def Rising (xs : Array Nat) : Prop := ∀ i j, i < j → j < xs.size → xs.getD i 0 < xs.getD j 0
theorem mid_lt {lo hi : Nat} (h : lo < hi) : (lo + hi) / 2 < hi := by lia
theorem mid_le {lo hi : Nat} (h : lo < hi) : lo ≤ (lo + hi) / 2 := by lia
theorem below_go {xs : Array Nat} {j : Nat} (hr : Rising xs) : ∀ (fuel lo hi : Nat), lo ≤ hi → hi ≤ xs.size → hi - lo ≤ fuel → (∀ i, i < lo → xs.getD i 0 < j) → (∀ i, hi ≤ i → i < xs.size → j ≤ xs.getD i 0) →
    SetTable.below.go xs j fuel lo hi ≤ xs.size ∧ (∀ i, i < SetTable.below.go xs j fuel lo hi → xs.getD i 0 < j) ∧ (∀ i, SetTable.below.go xs j fuel lo hi ≤ i → i < xs.size → j ≤ xs.getD i 0)
  | 0, lo, hi, hle, hsz, hf, h1, h2 => by
    obtain rfl : lo = hi := Nat.le_antisymm hle (Nat.le_of_sub_eq_zero (Nat.le_zero.mp hf))
    unfold SetTable.below.go
    exact ⟨hsz, h1, h2⟩
  | fuel + 1, lo, hi, hle, hsz, hf, h1, h2 => by
    unfold SetTable.below.go
    by_cases hlt : lo < hi
    · rw [if_pos hlt]
      dsimp only
      have hm := mid_lt hlt
      have hm2 := mid_le hlt
      generalize (lo + hi) / 2 = mid at hm hm2 ⊢
      have hms := Nat.lt_of_lt_of_le hm hsz
      have eD : xs.getD mid j = xs.getD mid 0 := by
        simp [Array.getD, hms]
      rw [eD]
      by_cases hc : xs.getD mid 0 < j
      · rw [if_pos hc]
        refine below_go hr fuel _ _ hm hsz (Nat.le_trans (Nat.sub_le_sub_left (Nat.succ_le_succ hm2) hi) (Nat.pred_le_pred hf)) (fun i hi' => ?_) h2
        by_cases e : i = mid
        · rw [e]; exact hc
        · exact Nat.lt_trans (hr i mid (Nat.lt_of_le_of_ne (Nat.le_of_lt_succ hi') e) hms) hc
      · rw [if_neg hc]
        refine below_go hr fuel _ _ hm2 (Nat.le_of_lt hms) (Nat.le_of_lt_succ (Nat.lt_of_lt_of_le (Nat.sub_lt_sub_right hm2 hm) hf)) h1 (fun i hi' hs => ?_)
        by_cases e : i = mid
        · rw [e]; exact Nat.not_lt.mp hc
        · exact Nat.le_trans (Nat.not_lt.mp hc) (Nat.le_of_lt (hr mid i (Nat.lt_of_le_of_ne hi' (Ne.symm e)) hs))
    · rw [if_neg hlt]
      obtain rfl : lo = hi := Nat.le_antisymm hle (Nat.not_lt.mp hlt)
      exact ⟨hsz, h1, h2⟩
theorem below_is {xs : Array Nat} (hr : Rising xs) (j : Nat) :
    SetTable.below xs j ≤ xs.size ∧ (∀ i, i < SetTable.below xs j → xs.getD i 0 < j) ∧ (∀ i, SetTable.below xs j ≤ i → i < xs.size → j ≤ xs.getD i 0) := by
  unfold SetTable.below
  exact below_go hr _ _ _ (Nat.zero_le _) (Nat.le_refl _) (by lia) (fun i hi => absurd hi (Nat.not_lt_zero _)) (fun i hi hs => absurd hi (by lia))
theorem getD_insert {xs : Array Nat} {p j : Nat} (hp : p ≤ xs.size) (i : Nat) : (SetTable.insertAt xs p j).getD i 0 = if i < p then xs.getD i 0 else if i = p then j else xs.getD (i - 1) 0 := by
  have e : (SetTable.insertAt xs p j).toList = xs.toList.take p ++ j :: xs.toList.drop p := SetTable.toList_insertAt xs p j
  have eg : ∀ (a : Array Nat) (i : Nat), a.getD i 0 = (a.toList[i]?).getD 0 := fun a i => by simp
  rw [eg, e, eg, eg]
  have hl : (xs.toList.take p).length = p := by rw [List.length_take]; simp; lia
  by_cases h1 : i < p
  · rw [if_pos h1, List.getElem?_append_left (by rw [hl]; exact h1), List.getElem?_take, if_pos h1]
  · rw [if_neg h1, List.getElem?_append_right (by rw [hl]; exact Nat.not_lt.mp h1), hl]
    by_cases h2 : i = p
    · subst h2; simp
    · rw [if_neg h2]
      obtain ⟨d, rfl⟩ := Nat.exists_eq_add_of_lt (Nat.lt_of_le_of_ne (Nat.not_lt.mp h1) (Ne.symm h2))
      rw [show p + d + 1 - p = d + 1 from Nat.add_sub_cancel_left p (d + 1), List.getElem?_cons_succ, List.getElem?_drop]
      rfl
theorem size_insert (xs : Array Nat) {p : Nat} (j : Nat) (hp : p ≤ xs.size) : (SetTable.insertAt xs p j).size = xs.size + 1 := by
  have := (SetTable.insertAt_perm xs p j).length_eq
  simpa using this
theorem rising_put {xs : Array Nat} {j : Nat} (hr : Rising xs) (hn : xs[SetTable.below xs j]? ≠ some j) : Rising (SetTable.insertAt xs (SetTable.below xs j) j) := by
  obtain ⟨hp, h1, h2⟩ := below_is hr j
  generalize SetTable.below xs j = p at *
  have h3 : ∀ i, p ≤ i → i < xs.size → j < xs.getD i 0 := fun i hi hs => by
    have := h2 i hi hs
    rcases Nat.lt_or_eq_of_le this with h | h
    · exact h
    · by_cases e : i = p
      · subst e
        exact absurd (by rw [h]; simp [hs]) hn
      · have a := h2 p (Nat.le_refl _) (by lia)
        have b := hr p i (by lia) hs
        lia
  intro a b hab hb
  rw [size_insert xs j hp] at hb
  rw [getD_insert hp, getD_insert hp]
  by_cases ha : a < p
  · rw [if_pos ha]
    by_cases hb1 : b < p
    · rw [if_pos hb1]; exact hr a b hab (Nat.lt_of_lt_of_le hb1 hp)
    · rw [if_neg hb1]
      by_cases hb2 : b = p
      · rw [if_pos hb2]; exact h1 a ha
      · rw [if_neg hb2]
        obtain ⟨c, rfl⟩ := Nat.exists_eq_succ_of_ne_zero (n := b) (fun e => Nat.not_lt_zero _ (e ▸ hab))
        exact Nat.lt_trans (h1 a ha) (h3 c (Nat.le_of_lt_succ (Nat.lt_of_le_of_ne (Nat.not_lt.mp hb1) (Ne.symm hb2))) (Nat.lt_of_succ_lt_succ hb))
  · have hpa := Nat.not_lt.mp ha
    have hpb : p < b := Nat.lt_of_le_of_lt hpa hab
    rw [if_neg ha, if_neg (Nat.not_lt.mpr (Nat.le_of_lt hpb)), if_neg (Nat.ne_of_gt hpb)]
    obtain ⟨c, rfl⟩ := Nat.exists_eq_succ_of_ne_zero (n := b) (Nat.ne_of_gt (Nat.lt_of_le_of_lt (Nat.zero_le p) hpb))
    by_cases ha2 : a = p
    · rw [if_pos ha2]; exact h3 c (Nat.le_of_lt_succ hpb) (Nat.lt_of_succ_lt_succ hb)
    · rw [if_neg ha2]
      obtain ⟨d, rfl⟩ := Nat.exists_eq_succ_of_ne_zero (n := a) (Nat.ne_of_gt (Nat.lt_of_le_of_lt (Nat.zero_le p) (Nat.lt_of_le_of_ne hpa (Ne.symm ha2))))
      exact hr d c (Nat.lt_of_succ_lt_succ hab) (Nat.lt_of_succ_lt_succ hb)
theorem rising_range (n : Nat) : Rising (Array.range n) := by
  intro i j hij hj
  have : j < n := by simpa using hj
  simp [Array.getD, this, show i < n by lia]
  exact hij
theorem rising_pairwise {l : List Nat} (h : l.Pairwise (· < ·)) : Rising l.toArray := by
  intro i j hij hj
  have hj' : j < l.length := by simpa using hj
  have := List.pairwise_iff_getElem.mp h i j (by lia) hj' hij
  simpa [hj', show i < l.length by lia] using this
/-- the table of a set as set(list) keeps it -/
structure TableOk (w : World) (t : SetTable) : Prop where
  led : t.led = !w.params.followText "set-order"
  rise : Rising t.place
theorem probe_free {t : SetTable} {ha : Nat → Int} {h : Int} : ∀ (fuel : Nat) (p : SetTable.Probe) (j : Nat) (d : Option Nat), (∀ x, p.dummy = some x → t.place[SetTable.below t.place x]? ≠ some x) →
    SetTable.probe.go t ha h fuel p = some (.empty j d) → t.place[SetTable.below t.place j]? ≠ some j ∧ (∀ x, d = some x → t.place[SetTable.below t.place x]? ≠ some x)
  | 0, p, j, d, _, h => by unfold SetTable.probe.go at h; cases h
  | fuel + 1, p, j, d, hd, h => by
    unfold SetTable.probe.go at h
    have adv : ∀ q : SetTable.Probe, (t.advance q).dummy = q.dummy := fun q => by unfold SetTable.advance; split <;> rfl
    unfold SetTable.slot at h
    dsimp only at h
    by_cases hl : (t.place[SetTable.below t.place p.j]? == some p.j) = true
    · rw [if_pos hl] at h
      dsimp only at h
      split at h
      · cases h
      · exact probe_free fuel _ j d (by rw [adv]; exact hd) h
    · rw [if_neg hl] at h
      have hl' : t.place[SetTable.below t.place p.j]? ≠ some p.j := fun e => hl (by rw [e]; simp)
      split at h
      · cases h; exact ⟨hl', hd⟩
      · exact probe_free fuel _ j d (by rw [adv]; intro x hx; cases hx; exact hl') h
      · rename_i e
        split at e <;> cases e
theorem free_slot {t : SetTable} {h : Int} {j : Nat} {d : Bool} (e : t.freeSlot h = some (j, d)) : t.place[SetTable.below t.place j]? ≠ some j := by
  unfold SetTable.freeSlot at e
  split at e
  · rename_i j' dm e'
    unfold SetTable.probe at e'
    have hp := probe_free _ _ j' dm (fun x hx => by unfold SetTable.probeStart at hx; cases hx) e'
    cases dm with
    | none => cases e; exact hp.1
    | some x => cases e; exact hp.2 x rfl
  · cases e
theorem ok_standIn {w : World} {t : SetTable} (h : TableOk w t) (n : Nat) : TableOk w (t.standIn n) := ⟨h.led, rising_range n⟩
theorem ok_orStandIn {w : World} {t : SetTable} (h : TableOk w t) (n : Nat) : TableOk w (t.orStandIn n) := by
  unfold SetTable.orStandIn
  split
  · exact h
  · exact ok_standIn h n
theorem ok_layNew {w : World} {t : SetTable} (ht : TableOk w t) (es : Array (Int × Value)) (h : Int) (x : Value) : TableOk w (layNew t es h x).2.1 := by
  unfold layNew
  split
  · rename_i slot wd e
    have hp : TableOk w (t.put slot).1 := ⟨ht.led, rising_put ht.rise (free_slot e)⟩
    exact ok_orStandIn hp _
  · exact ok_standIn ht _
theorem ok_laid {w : World} {mask finger moves : Nat} {led plain : Bool} {hs : Array Int} {t : SetTable} {o : Array Nat} (hl : led = !w.params.followText "set-order") (e : SetTable.laid mask finger moves led plain hs = some (t, o)) : TableOk w t := by
  unfold SetTable.laid at e
  cases hc : SetTable.layClean mask hs with
  | none => rw [hc] at e; cases e
  | some owner =>
    rw [hc] at e
    cases e
    refine ⟨hl, rising_pairwise ?_⟩
    rw [List.pairwise_map]
    have : ∀ l : List Nat, l.Pairwise (· < ·) → (l.filterMap fun j => (owner.getD j none).map (j, ·)).Pairwise fun a b => a.1 < b.1 := fun l hp => by
      refine List.pairwise_filterMap.mpr (hp.imp fun {a b} hab x hx y hy => ?_)
      cases ha : owner.getD a none with
      | none => rw [ha] at hx; cases hx
      | some u =>
        cases hb : owner.getD b none with
        | none => rw [hb] at hy; cases hy
        | some v =>
          rw [ha] at hx; rw [hb] at hy
          cases hx; cases hy; exact hab
    exact this _ List.pairwise_lt_range
theorem ok_relayAll {w : World} {t : SetTable} (ht : TableOk w t) (es : Array (Int × Value)) (wanted : Nat) : TableOk w (relayAll t es wanted).2.1 := by
  unfold relayAll
  split
  · rename_i t' order e
    dsimp only
    split
    · exact ok_laid ht.led e
    · exact ok_standIn ht _
  · exact ok_standIn ht _
end

section
noncomputable def keyI : Value → Int
  | .int k _ => k
  | _ => 0
/-- a set of ints: its keys, and a table that keeps its places rising -/
noncomputable def SetI (prog : Program) (w : World) (o : Obj) (ks : List Int) : Prop := o.ExactSet ∧ ∃ es ep t, o.data = .set es ep t ∧ ElemsOf (intKind prog w) es.toList ∧ (es.toList.map fun e => keyI e.2).Perm ks ∧ t.fits es.size = true ∧ TableOk w t
section
variable {prog : Program} {w : World} {A : Around} {E : Value → Shared → Prop} {s : Shared}
theorem elem_int {es : List (Int × Value)} (h : ElemsOf (intKind prog w) es) {e : Int × Value} (he : e ∈ es) : ∃ k t, e.2 = .int k t := by
  obtain ⟨⟨k, hk, _⟩, _⟩ := h e he
  obtain ⟨t, q⟩ := Value.isInt_shape hk
  exact ⟨k, t, q⟩
theorem SetI.size {o : Obj} {ks : List Int} {es : Array (Int × Value)} (hp : (es.toList.map fun e => keyI e.2).Perm ks) : es.size = ks.length := by
  have := hp.length_eq
  simpa using this
theorem find_key {es : List (Int × Value)} (h : ElemsOf (intKind prog w) es) {ks : List Int} (hp : (es.map fun e => keyI e.2).Perm ks) (k : Int) :
    (∃ e ∈ es, (intKind prog w).is k e.2 = true) ↔ k ∈ ks := by
  rw [← hp.mem_iff]
  constructor
  · rintro ⟨e, he, hk⟩
    obtain ⟨t, q⟩ := Value.isInt_shape hk
    exact List.mem_map.mpr ⟨e, he, by rw [q]; rfl⟩
  · intro hm
    obtain ⟨e, he, q⟩ := List.mem_map.mp hm
    obtain ⟨k', t, q'⟩ := elem_int h he
    rw [q'] at q
    have : k' = k := q
    exact ⟨e, he, by rw [q', this]; exact intKind_is prog w k t⟩
theorem store_I {a : Addr} {o : Obj} {es : Array (Int × Value)} {ep : Nat} {t : SetTable} {h : Heap} (ho : h.get? a = some o) (hex : o.ExactSet) (hd : o.data = .set es ep t) (es' : Array (Int × Value)) (t' : SetTable) :
    (h.update a (Obj.putSet es' t')).get? a = some { o with data := .set es' (ep + 1) t' } := by
  have := Heap.get?_update_self (Obj.putSet es' t') ho (by rw [putSet_of es' t' hd]; rfl)
  rw [putSet_of es' t' hd] at this
  exact this
theorem addTail_I {g : Bool → Sem Unit} (hg : ∀ (b : Bool) (s₁ : Shared) (Q' : Unit → Shared → Prop), Q' () s₁ → wpAny (model prog w) A (g b) Q' E s₁)
    {a : Addr} {o : Obj} {es : Array (Int × Value)} {ep : Nat} {t : SetTable} (ho : s.heap.get? a = some o) (hex : o.ExactSet) (hd : o.data = .set es ep t)
    {es1 : Array (Int × Value)} {t2 : SetTable} {ks : List Int} (hel1 : ElemsOf (intKind prog w) es1.toList) (hp1 : (es1.toList.map fun e => keyI e.2).Perm ks)
    (hb1 : ks.length < scanBound) (hf2 : t2.fits es1.size = true) (ht2 : TableOk w t2) {wasDummy : Bool} {R : Option Bool → Shared → Prop}
    (h : ∀ h' o', Heap.SameBut a s.heap h' → h'.get? a = some o' → SetI prog w o' ks → R (some true) { s with heap := h' }) :
    wpAny (model prog w) A (do
        storeSet a es1 t2
        if (!wasDummy && t2.tooFull) = true then do
            g (relayAll t2 es1 (SetTable.grown es1.size)).2.2
            storeSet a (relayAll t2 es1 (SetTable.grown es1.size)).1 (relayAll t2 es1 (SetTable.grown es1.size)).2.1
            pure (some true)
          else pure (some true)) R E s := by
  have hs1 := SetI.size (o := o) hp1
  refine wpAny_bind (wpAny_storeSet_of ho hd ?_ (fits_of_scanBound (by rw [hs1]; exact hb1)))
  have ho1 := store_I ho hex hd es1 t2
  have hsb1 := Heap.SameBut.update s.heap a (Obj.putSet es1 t2)
  split
  · have hp := relayAll_perm t2 es1 (SetTable.grown es1.size)
    have hfr := relayAll_fits t2 es1 (SetTable.grown es1.size)
    have hok := ok_relayAll ht2 es1 (SetTable.grown es1.size)
    generalize relayAll t2 es1 (SetTable.grown es1.size) = Rl at hp hfr hok ⊢
    obtain ⟨es2, t3, gave2⟩ := Rl
    dsimp only at hp hfr hok ⊢
    have hp2 : (es2.toList.map fun e => keyI e.2).Perm ks := (hp.map _).trans hp1
    have hs2 := SetI.size (o := o) hp2
    refine wpAny_bind (hg _ _ _ ?_)
    refine wpAny_bind (wpAny_storeSet_of ho1 rfl ?_ (fits_of_scanBound (by rw [hs2]; exact hb1)))
    exact wpAny_pure (h _ _ (hsb1.trans (Heap.SameBut.update _ a _)) (store_I ho1 hex rfl es2 t3) ⟨hex, es2, _, t3, rfl, hel1.perm hp, hp2, hfr, hok⟩)
  · exact wpAny_pure (h _ _ hsb1 ho1 ⟨hex, es1, _, t2, rfl, hel1, hp1, hf2, ht2⟩)
theorem addHashed_I {a : Addr} {o : Obj} {ks : List Int} {k : Int} {u : Tok} {Q : Bool → Shared → Prop} (ho : s.heap.get? a = some o) (hS : SetI prog w o ks) (hb : ks.length + 1 < scanBound)
    (h : ∀ r h' o', Heap.SameBut a s.heap h' → h'.get? a = some o' → SetI prog w o' (step_dedup ks k) → Q r { s with heap := h' }) :
    wpAny (model prog w) A (setAddHashed a (.int k u) ((intKind prog w).hash k)) Q E s := by
  obtain ⟨hex, es, ep, t, hd, hel, hp, hf, ht⟩ := hS
  have hkey := intKind_is prog w k u
  have hsc : (Value.int k u).scannable = true := rfl
  have hsz := SetI.size (o := o) hp
  unfold setAddHashed setAddHashedIn
  refine wpAny_holding (wpAny_bind (wpAny_setState_of ho hd hf ?_))
  dsimp only
  rw [byScan_of hsc (by rw [hsz]; lia) hel]
  simp only [↓reduceIte]
  unfold setAddByScan
  refine wpAny_bind ?_
  refine wpAny_bind (wpAny_rule ?_)
  refine wpAny_bind (wpAny_setScan_of hkey ho hd hf hel ?_)
  cases hr : List.findIdx? (fun e => (intKind prog w).is k e.2) es.toList with
  | some j =>
    dsimp only
    obtain ⟨hj, hpj, _⟩ := List.findIdx?_eq_some_iff_getElem.mp hr
    have hm : k ∈ ks := (find_key hel hp k).mp ⟨es.toList[j], List.getElem_mem hj, hpj⟩
    have e : step_dedup ks k = ks := by
      unfold step_dedup
      rw [if_pos (List.any_eq_true.mpr ⟨k, hm, by simp⟩)]
    refine wpAny_pure (wpAny_pure ?_)
    exact h _ s.heap o (Heap.SameBut.refl a s.heap) ho (by rw [e]; exact ⟨hex, es, ep, t, hd, hel, hp, hf, ht⟩)
  | none =>
    dsimp only
    have hm : ¬ k ∈ ks := fun hm => by
      obtain ⟨e, he, hpe⟩ := (find_key hel hp k).mpr hm
      have := List.findIdx?_eq_none_iff.mp hr e he
      rw [hpe] at this; exact Bool.noConfusion this
    have e : step_dedup ks k = ks ++ [k] := by
      unfold step_dedup
      rw [if_neg (fun q => by obtain ⟨y, hy, q⟩ := List.any_eq_true.mp q; exact hm (by rw [← show y = k by simpa using q]; exact hy))]
    rw [e] at h
    have hgw : ∀ (b : Bool) {s₁ : Shared} {Q' : Unit → Shared → Prop}, Q' () s₁ → wpAny (model prog w) A (match b with | true => rule "set.scan.the-table-gave-way" | false => pure ()) Q' E s₁ :=
      fun b s₁ Q' hq => by cases b <;> first | exact wpAny_pure hq | exact wpAny_rule hq
    have hperm := layNew_perm t es ((intKind prog w).hash k) (.int k u)
    have hfits := layNew_fits t es ((intKind prog w).hash k) (.int k u)
    have hok := ok_layNew ht es ((intKind prog w).hash k) (.int k u)
    generalize layNew t es ((intKind prog w).hash k) (.int k u) = Ln at hperm hfits hok ⊢
    obtain ⟨es1, t1, wasDummy, gave⟩ := Ln
    dsimp only at hperm hfits hok ⊢
    rw [Array.toList_push] at hperm
    have hel1 : ElemsOf (intKind prog w) es1.toList := (hel.push hkey hsc).perm hperm
    have hp1 : (es1.toList.map fun e => keyI e.2).Perm (ks ++ [k]) := by
      refine (hperm.map _).trans ?_
      rw [List.map_append]
      exact hp.append_right _
    refine wpAny_bind (hgw _ ?_)
    split
    · refine wpAny_bind ?_
      rw [hashByValue_scannable 8 hsc]
      refine wpAny_pure ?_
      refine addTail_I ?_ ho hex hd hel1 hp1 (by simpa using hb) ?_ ?_ ?_
      · intro b s₁ Q' hq; cases b <;> first | exact wpAny_pure hq | exact wpAny_rule hq
      · split
        · exact hfits
        · exact SetTable.fits_plain_off hfits
      · split
        · exact hok
        · exact ⟨hok.led, hok.rise⟩
      · intro h' o' hsb ho' hS'; dsimp only; exact wpAny_pure (h _ _ _ hsb ho' hS')
    · refine wpAny_bind (wpAny_pure ?_)
      simp only [↓reduceIte]
      refine addTail_I ?_ ho hex hd hel1 hp1 (by simpa using hb) hfits hok ?_
      · intro b s₁ Q' hq; cases b <;> first | exact wpAny_pure hq | exact wpAny_rule hq
      · intro h' o' hsb ho' hS'; dsimp only; exact wpAny_pure (h _ _ _ hsb ho' hS')
end
end

section
set_option maxRecDepth 100000
section
variable {prog : Program} {w : World} {A : Around} {R : Result → Shared → Prop} {I : Addr} {fp wr : List Addr} {G : Array GenState → Array GenState → Prop} {n : Nat} {P : Nat → Value → Prop} {St : Nat → Shared → Prop}
theorem update_loop_I (W : WalksS prog w A.in1 I fp wr G n P St) (S : Addr) (hSf : S ∉ fp)
    (val : Nat → Int) (hval : ∀ i v, P i v → ∃ t, v = .int (val i) t) (hb : n + 1 < scanBound) :
    ∀ (k i : Nat) (s : Shared) (o : Obj), n - i = k → i ≤ n → St i s → s.heap.get? S = some o → SetI prog w o (firstMet val i) →
      (∀ s' o', Moved (S :: wr) G s s' → s'.heap.get? S = some o' → SetI prog w o' (firstMet val n) → R (.ok (.ret .none)) s') →
      codeAny (model prog w) A (.builtin "set.update.loop" ⟨[.ref S, .ref I], []⟩) R s := by
  have hSw : S ∉ wr := fun h => hSf (W.sub _ h)
  have hsub : ∀ b ∈ wr, b ∈ S :: wr := fun b hb => List.mem_cons_of_mem _ hb
  intro k
  induction k with
  | zero =>
    intro i s o hk hi hst ho hS hR
    have hin : i = n := by lia
    subst hin
    refine codeAny_builtin F.entry_set_update_loop ?_
    rw [Around.under_plainId F.plain_set_update_loop _]
    show wpAny _ A.in1 (pyNext (.ref I) >>= _) _ _ s
    refine wpAny_bind (W.done s _ _ hst fun s' hm => ?_)
    show wpAny _ A.in1 (ret Value.none) _ _ s'
    exact wpAny_pure (hR s' o (hm.mono hsub) (hm.heap S _ hSw ho) hS)
  | succ k ih =>
    intro i s o hk hi hst ho hS hR
    have hlt : i < n := by lia
    refine codeAny_builtin F.entry_set_update_loop ?_
    rw [Around.under_plainId F.plain_set_update_loop _]
    show wpAny _ A.in1 (pyNext (.ref I) >>= _) _ _ s
    refine wpAny_bind (W.item i s _ _ hlt hst fun v s' hP hst' hm => ?_)
    obtain ⟨t, rfl⟩ := hval i v hP
    have ho' := hm.heap S _ hSw ho
    show wpAny _ A.in1 (holding [Value.int (val i) t] (setAdd S (.int (val i) t)) >>= _) _ _ s'
    refine wpAny_bind (wpAny_holding ?_)
    unfold setAdd
    refine wpAny_holding ?_
    refine wpAny_bind ((intKind prog w).pyHash (k := val i) (intKind_is _ _ _ _) ?_)
    have hroom : (firstMet val i).length + 1 < scanBound := by have := firstMet_length_le val i; lia
    refine addHashed_I (s := { s' with toks := s'.toks + 1 }) ho' hS hroom fun r h' o2 hsb ho2 hS2 => ?_
    rw [← firstMet_succ] at hS2
    refine wpAny_pure ⟨plainId_quiet F.plain_set_update_loop _, ih (i + 1) _ o2 (by lia) hlt (W.frame _ s' _ _ hst' (Nat.le_succ _) fun b hb o e => ?_) ho2 hS2 fun s'' o'' hm'' ho'' hS'' => ?_⟩
    · rw [hsb.2 b (fun h : b = S => hSf (by rw [← h]; exact hb))]; exact e
    · refine hR s'' o'' (Moved.trans W.gtrans ((hm.mono hsub).then_heap (Nat.le_succ _) fun b o hb e => ?_) hm'') ho'' hS''
      rw [hsb.2 b (fun h : b = S => hb (by rw [h]; exact List.mem_cons_self))]; exact e
end
section
variable {prog : Program} {w : World} {A : Around} {E : Value → Shared → Prop} {s : Shared}
theorem freshSet_I : SetI prog w { cls := .type "set", dict := none, data := .set #[] 0 (.fresh 0 0 (!w.params.followText "set-order")) } [] :=
  ⟨⟨rfl, rfl, rfl⟩, #[], 0, _, rfl, fun e he => by simp at he, .nil, by rfl, ⟨rfl, fun i j _ hj => absurd hj (Nat.not_lt_zero _)⟩⟩
theorem set_new_I (a : Value) {Q₁ : Value → Shared → Prop}
    (h : Q₁ (.ref s.heap.objs.size) { s with heap := s.heap.push { cls := .type "set", dict := none, data := .set #[] 0 (.fresh 0 0 (!w.params.followText "set-order")) } }) :
    codeAny (model prog w) A (.call (.builtin "set.__new__") ⟨[.type "set", a], []⟩) (wants Q₁ E) s := by
  refine codeAny_of_tree ?_
  show wpAny _ A.in1 (do checkBuiltinCall "set.__new__" ⟨[.type "set", a], []⟩; again (.builtin "set.__new__" ⟨[.type "set", a], []⟩)) _ _ s
  refine wpAny_bind (wpAny_of_eq (F.newCall_set_1 a) (wpAny_pure ⟨plainId_quiet F.plain_set_new _, codeAny_builtin F.entry_set_new ?_⟩))
  rw [Around.under_plainId F.plain_set_new _]
  unfold Builtin.«set.__new__» Builtin.Frozenset.newClass
  have hsub := sub_set_self
  obtain ⟨hp, g, d, tk, os⟩ := s
  dsimp only
  wp_walk
  refine wpAny_askSetting (wpAny_pure ?_)
  dsimp only
  simp only [newObj]
  refine wpAny_bind (wpAny_alloc (wpAny_pure ?_))
  exact wpAny_pure h
set_option maxHeartbeats 3200000 in
theorem call_set_I {l : Addr} {items : Array Value} {ns : List Int} {Q : Value → Shared → Prop}
    (hh : A.handled = none) (hl : s.heap.IsList l items) (hi : IntsAre items.toList ns) (hb : items.size + 1 < scanBound)
    (h : ∀ (h' : Heap) (tk : Nat) (o : Obj), h'.get? s.heap.objs.size = some o → SetI prog w o (firstMet (fun i => ns.getD i 0) items.size) →
      (∀ b o, b < s.heap.objs.size → s.heap.get? b = some o → h'.get? b = some o) → Q (.ref s.heap.objs.size) { s with heap := h', toks := tk }) :
    wpAny (model prog w) A (call (.type "set") [.ref l]) Q E s := by
  obtain ⟨c, tl, hmro⟩ := F.called_set.mro
  have hmade := F.called_set.made
  have hsub := F.called_set.sub
  refine wpAny_call (codeAny_of_tree ?_)
  show wpAny _ _ (callAny (.type "set") _) _ _ _
  refine wpAny_pure ⟨Code.quiet_builtin _ (by decide +kernel), codeAny_builtin F.entry_type_call ?_⟩
  rw [Around.under_plain (weight_type_call_type "set" [.ref l] []) rfl]
  have h1 := F.called_set.notType
  have h2 := F.called_set.canCreate
  have hct := F.typeCall_set_1 (.ref l)
  repeat (any_goals (first | assumption | wp_step))
  refine codeAny_mono (set_new_I (.ref l) (E := E) (Q₁ := fun obj s₁ => obj = .ref s.heap.objs.size ∧ s₁ = { s with heap := s.heap.push { cls := .type "set", dict := none, data := .set #[] 0 (.fresh 0 0 (!w.params.followText "set-order")) } }) ⟨rfl, rfl⟩) fun r s₁ hr => ?_
  cases r with
  | error e => exact hr
  | ok fl =>
    cases fl with
    | ret obj =>
      obtain ⟨rfl, rfl⟩ := hr
      have hfr := freshSet_I (prog := prog) (w := w)
      generalize hO : ({ cls := .type "set", dict := none, data := .set #[] 0 (.fresh 0 0 (!w.params.followText "set-order")) } : Obj) = oS at hfr ⊢
      have hcls : oS.cls = .type "set" := by rw [← hO]
      have hfd : oS.isFreed = false := by rw [← hO]; rfl
      have hS : (s.heap.push oS).get? s.heap.objs.size = some oS := Heap.get?_push_size _ hfd
      have hT : Shared.TypeIs { s with heap := s.heap.push oS } (.ref s.heap.objs.size) "set" := ⟨_, hS, hcls⟩
      have hli := F.called_set.init.lookup
      have hbi := F.called_set.init.bind (.ref s.heap.objs.size)
      repeat (any_goals (first | assumption | wp_step))
      refine codeAny_mono (codeAny_call_builtin (R := wants (fun r s₂ => r = .none ∧ ∃ h' tk o, s₂ = { s with heap := h', toks := tk } ∧
          h'.get? s.heap.objs.size = some o ∧ SetI prog w o (firstMet (fun i => ns.getD i 0) items.size) ∧
          (∀ b o, b < s.heap.objs.size → s.heap.get? b = some o → h'.get? b = some o)) E) F.called_set.init.plain F.entry_set_init (check_set_init_1 hT ?_)) fun r₂ s₂ hr₂ => ?_
      · obtain ⟨ol, hol, hcl, nl, hdl⟩ := hl
        obtain ⟨ocls, odict, odata, oslots⟩ := ol
        simp only at hcl hdl
        subst hcl; subst hdl
        have hol' : (s.heap.push oS).get? l = some { cls := .type "list", dict := odict, data := .seq items nl, slots := oslots } := Heap.get?_push_of_some _ hol
        have hsls := F.sub_list_set
        have hslf := F.sub_list_frozenset
        have hne : (Value.type "list" == Value.type "dict") = false := by decide
        have hl1 : (s.heap.push oS).IsList l items := ⟨_, hol', rfl, nl, rfl⟩
        subst hO
        unfold Builtin.«set.__init__» noKeywords Builtin.Frozenset.updateFrom
        generalize hPI : pyIter = PI
        wp_walk
        subst hPI
        refine wpAny_pyIter_list hl1 ?_
        refine wpAny_bind (wpAny_runValue ?_)
        have hlS : l < s.heap.objs.size := Heap.lt_size hol
        have hh3 : A.in1.in1.in1.handled = none := by simp [hh]
        have hneI : l ≠ (s.heap.push { cls := .type "set", dict := none, data := .set #[] 0 (.fresh 0 0 (!w.params.followText "set-order")) }).objs.size := by
          rw [Heap.size_push]; exact Nat.ne_of_lt (Nat.lt_succ_of_lt hlS)
        have hSf : s.heap.objs.size ∉ [(s.heap.push { cls := .type "set", dict := none, data := .set #[] 0 (.fresh 0 0 (!w.params.followText "set-order")) }).objs.size, l] := by
          rw [Heap.size_push]; simp only [List.mem_cons, List.mem_singleton, List.not_mem_nil, or_false, not_or]
          exact ⟨Nat.ne_of_lt (Nat.lt_succ_self _), Nat.ne_of_gt hlS⟩
        have hval : ∀ (i : Nat) (v : Value), items[i]? = some v → ∃ t, v = .int ((fun i => ns.getD i 0) i) t := fun i v hv =>
          PyProof.Rows.IntsAre.int_at hi i v (by rw [Array.getElem?_toList]; exact hv)
        refine update_loop_I ((Walks.list hh3 _ l hneI items).toS) s.heap.objs.size
          hSf (fun i => ns.getD i 0) hval hb (items.size - 0) 0 _ { cls := .type "set", dict := none, data := .set #[] 0 (.fresh 0 0 (!w.params.followText "set-order")) } (by lia) (Nat.zero_le _)
          ⟨⟨_, Heap.get?_push_size _ rfl, rfl, rfl⟩, (hl1.push _)⟩ (Heap.get?_push_of_some _ hS) hfr ?hR
        case hR =>
          intro s' o' hm ho' hS'
          obtain ⟨h', g', d', tk', os'⟩ := s'
          have eg : g' = s.gens := hm.gens
          have ed : d' = s.drawn := hm.drawn
          have eo : os' = s.os := hm.os
          subst eg; subst ed; subst eo
          show wpAny _ _ _ _ _ _
          refine wpAny_pure ?_
          show wpAny _ _ (ret Value.none) _ _ _
          refine wpAny_pure ⟨rfl, h', tk', o', rfl, ho', hS', fun b o hb e => ?_⟩
          have hb1 : b ≠ s.heap.objs.size := Nat.ne_of_lt hb
          have hb2 : b ≠ (s.heap.push { cls := .type "set", dict := none, data := .set #[] 0 (.fresh 0 0 (!w.params.followText "set-order")) }).objs.size := by
            rw [Heap.size_push]; exact Nat.ne_of_lt (Nat.lt_succ_of_lt hb)
          exact hm.heap b o (by simp only [List.mem_cons, List.mem_singleton, List.not_mem_nil, or_false, not_or]; exact ⟨hb1, hb2⟩) (Heap.get?_push_of_some _ (Heap.get?_push_of_some _ e))
      · cases r₂ with
        | error e => exact hr₂
        | ok fl₂ =>
          cases fl₂ with
          | ret r =>
            obtain ⟨rfl, h', tk, o', rfl, ho', hS', hk'⟩ := hr₂
            repeat (any_goals (first | assumption | wp_step))
            exact h _ _ _ ho' hS' hk'
          | _ => exact hr₂.elim
    | _ => exact hr.elim
end
end

section
set_option maxRecDepth 100000
namespace SF
theorem slot_next : Slot "set_iterator" "__next__" "set_iterator.__next__" :=
  .of (owner := "set_iterator") (n := "__next__") (by rw [typeLookup_type, builtinLookup_eq_fast]; kernel_rfl) (by decide +kernel) (by decide +kernel) (by decide +kernel)
    (by first | exact .inl (by decide +kernel) | exact .inr (by decide +kernel)) (by rw [isSubtype_type]; kernel_rfl)
theorem entry_next : entryFor table "set_iterator.__next__" = some Builtin.«set_iterator.__next__» := entryFor_of_fast (by kernel_rfl)
theorem args_next (a : Value) : argsOk "set_iterator.__next__" ⟨[a], []⟩ := by unfold argsOk; kernel_rfl
theorem slot_iter : Slot "set_iterator" "__iter__" "set_iterator.__iter__" :=
  .of (owner := "set_iterator") (n := "__iter__") (by rw [typeLookup_type, builtinLookup_eq_fast]; kernel_rfl) (by decide +kernel) (by decide +kernel) (by decide +kernel)
    (by first | exact .inl (by decide +kernel) | exact .inr (by decide +kernel)) (by rw [isSubtype_type]; kernel_rfl)
theorem entry_iter : entryFor table "set_iterator.__iter__" = some Builtin.«dict_keyiterator.__iter__» :=
  entryFor_alias (id' := "dict_keyiterator.__iter__") (by kernel_rfl) (by first | rfl | decide +kernel | (unfold String.splitOn; simp +decide [String.splitOnAux])) (by decide +kernel) (by kernel_rfl)
theorem args_iter (a : Value) : argsOk "set_iterator.__iter__" ⟨[a], []⟩ := by unfold argsOk; kernel_rfl
theorem entry_set_iter : entryFor table "set.__iter__" = some Builtin.«frozenset.__iter__» :=
  entryFor_alias (id' := "frozenset.__iter__") (by kernel_rfl) (by first | rfl | decide +kernel | (unfold String.splitOn; simp +decide [String.splitOnAux])) (by decide +kernel) (by kernel_rfl)
theorem nolen : typeLookup (.type "set_iterator") "__len__" = pure none := by rw [typeLookup_type, builtinLookup_eq_fast]; kernel_rfl
theorem hint : typeLookup (.type "set_iterator") "__length_hint__" = pure (some (.builtin "set_iterator.__length_hint__")) := by rw [typeLookup_type, builtinLookup_eq_fast]; kernel_rfl
end SF
end

section
set_option maxRecDepth 100000
noncomputable abbrev setIt (first : Value) (i : Nat) (S : Addr) (n ep : Nat) : Obj := { cls := .type "set_iterator", dict := none, data := .fields #[first, .int i 0, .ref S, .int n 0, .int ep 0], slots := #[] }
section
variable {prog : Program} {w : World} {A : Around} {E : Value → Shared → Prop} {s : Shared}
theorem setWalk_text {S : Addr} {oS : Obj} {es : Array (Int × Value)} {ep : Nat} {t : SetTable} {Q : Array (Int × Value) → Shared → Prop}
    (hS : s.heap.get? S = some oS) (hd : oS.data = .set es ep t) (hf : t.fits es.size = true)
    (ht : w.params.followText "set-order" = true) (h : Q (pickOrder (w.params.setOrder S ep) es) s) : wpAny (model prog w) A (setWalk S) Q E s := by
  unfold setWalk
  refine wpAny_bind (wpAny_setState_of hS hd hf ?_)
  dsimp only
  unfold setsByText
  refine wpAny_bind (wpAny_bind (wpAny_askSetting (wpAny_pure ?_)))
  show wpAny _ _ (if w.params.followText "set-order" = true then _ else _) _ _ _
  rw [if_pos ht]
  exact wpAny_bind (wpAny_askSetting (wpAny_pure h))
theorem setNext_text {S : Addr} {slot given : Nat} {oS : Obj} {es : Array (Int × Value)} {ep : Nat} {t : SetTable} {Q : Option (Value × Nat) → Shared → Prop}
    (hS : s.heap.get? S = some oS) (hd : oS.data = .set es ep t) (hf : t.fits es.size = true)
    (ht : w.params.followText "set-order" = true) (h : Q (((pickOrder (w.params.setOrder S ep) es)[given]?).map fun e => (e.2, slot)) s) : wpAny (model prog w) A (setNext S slot given ep) Q E s := by
  unfold setNext
  refine wpAny_bind (wpAny_setState_of hS hd hf ?_)
  dsimp only
  unfold setsByText
  refine wpAny_bind (wpAny_bind (wpAny_askSetting (wpAny_pure ?_)))
  show wpAny _ _ (if w.params.followText "set-order" = true then _ else _) _ _ _
  rw [if_pos ht, if_neg (by simp)]
  exact wpAny_bind (setWalk_text hS hd hf ht (wpAny_pure h))
theorem setNext_led {S : Addr} {slot given : Nat} {oS : Obj} {es : Array (Int × Value)} {ep : Nat} {t : SetTable} {Q : Option (Value × Nat) → Shared → Prop}
    (hS : s.heap.get? S = some oS) (hd : oS.data = .set es ep t) (hf : t.fits es.size = true)
    (ht : w.params.followText "set-order" = false) (hdr : (!t.plain && decide (es.size > 1)) = false) (hl : t.led = true)
    (h : Q (match es[SetTable.below t.place slot]?, t.place[SetTable.below t.place slot]? with | some (_, x), some j => some (x, j + 1) | _, _ => none) s) : wpAny (model prog w) A (setNext S slot given ep) Q E s := by
  unfold setNext
  refine wpAny_bind (wpAny_setState_of hS hd hf ?_)
  dsimp only
  unfold setsByText
  refine wpAny_bind (wpAny_bind (wpAny_askSetting (wpAny_pure ?_)))
  show wpAny _ _ (if w.params.followText "set-order" = true then _ else _) _ _ _
  rw [if_neg (show ¬ (w.params.followText "set-order" = true) by rw [ht]; simp)]
  show wpAny _ _ (if (!t.plain && decide (es.size > 1)) = true then _ else _) _ _ _
  rw [if_neg (by rw [hdr]; simp)]
  refine wpAny_bind ?_
  show wpAny _ _ (if (!t.led && !es.isEmpty) = true then _ else pure ()) _ _ _
  rw [if_neg (by rw [hl]; simp)]
  exact wpAny_pure (wpAny_pure h)
theorem si_upd {I : Addr} {first x : Value} {i : Nat} {S : Addr} {n ep : Nat} {h : Heap} (k : Nat) (hI : h.get? I = some (setIt first i S n ep)) :
    (h.update I (Obj.mapFields (·.setIfInBounds k x))).get? I = some { cls := .type "set_iterator", dict := none, data := .fields ((#[first, .int i 0, .ref S, .int n 0, .int ep 0] : Array Value).setIfInBounds k x), slots := #[] } :=
  Heap.get?_update_self _ hI rfl
/-- one more item of a set's iterator that keeps a place -/
theorem si_item {I S : Addr} {i slot next : Nat} {x : Value} {oS : Obj} {es : Array (Int × Value)} {ep : Nat} {t : SetTable} {Q : Option Value → Shared → Prop}
    (hI : s.heap.get? I = some (setIt (.int slot 0) i S es.size ep)) (hS : s.heap.get? S = some oS) (hd : oS.data = .set es ep t) (hf : t.fits es.size = true)
    (hn : ∀ (Q' : Option (Value × Nat) → Shared → Prop) (E' : Value → Shared → Prop), Q' (some (x, next)) s → wpAny (model prog w) A.in1 (setNext S slot i ep) Q' E' s)
    (hQ : ∀ h', h'.get? I = some (setIt (.int next 0) (i + 1) S es.size ep) → Heap.SameBut I s.heap h' → Q (some x) { s with heap := h' }) :
    wpAny (model prog w) A (pyNext (.ref I)) Q E s := by
  unfold pyNext
  refine wpAny_bind (wpAny_attempt (wpAny_callSpecial?_slot (name := Str.ofString "__next__") ⟨_, hI, rfl⟩ SF.slot_next (wpAny_call_entry SF.slot_next ⟨_, hI, rfl⟩ SF.entry_next ?_ (SF.args_next _))))
  unfold Builtin.«set_iterator.__next__»
  refine wpAny_bind (wpAny_pure ?_)
  refine wpAny_bind (wpAny_fieldsOf hI rfl ?_)
  dsimp only
  refine wpAny_bind (wpAny_setEntries_of hS hd hf ?_)
  rw [if_neg (by simp)]
  simp only [Int.toNat_natCast]
  refine wpAny_bind (hn _ _ ?_)
  dsimp only
  refine wpAny_bind (wpAny_setField hI rfl (by simp) ?_)
  have h1 := si_upd (x := rawInt next) 0 hI
  refine wpAny_bind (wpAny_setField h1 rfl (by simp) ?_)
  have h2 := Heap.get?_update_self (Obj.mapFields (·.setIfInBounds 1 (rawInt ((i : Int) + 1)))) h1 rfl
  exact wpAny_pure ⟨_, rfl, wpAny_pure (hQ _ h2 ((Heap.SameBut.update ..).trans (Heap.SameBut.update ..)))⟩
theorem si_stop {I : Addr} {vs : Array Value} {h₀ : Heap} {Q : Option Value → Shared → Prop} (hh : A.handled = none) (hsb : Heap.SameBut I h₀ s.heap)
    (hQ : ∀ h', Heap.ExtBut I h₀ h' → Q none { s with heap := h' }) :
    wpAny (model prog w) A.in1 (newExc (.type "StopIteration") [] >>= fun e => raiseNew e) (fun fin s' => ∃ v, fin = Fin.done (Flow.ret v) ∧ wpAny (model prog w) A (pure (some v)) Q E s')
      (fun e s' => wpAny (model prog w) A (do let __do_lift ← isInstance e (Value.type "StopIteration"); if __do_lift = true then pure none else throw e) Q E s') s := by
  refine wpAny_bind ?_
  simp only [newExc, newTuple]
  refine wpAny_bind (wpAny_newObj_type ?_ (by size_fits))
  refine wpAny_bind (m := firstArgMember _ _) (wpAny_of_eq (a := Value.none) (by first | rfl | (simp only [firstArgMember]; rfl)) ?_)
  refine wpAny_newObj_type ?_ (by size_fits)
  simp only [raiseNew]
  refine wpAny_bind (wpAny_handled ?_)
  rw [show A.in1.handled = none from hh]
  refine wpAny_bind (wpAny_pure (wpAny_throw ?_))
  refine wpAny_bind (wpAny_isInstance (T := "StopIteration") (b := true) ⟨_, Heap.get?_push_size _ rfl, rfl⟩ isSubtype_stop ?_)
  exact wpAny_pure (hQ _ ((hsb.extBut.push _).push _))
theorem si_end {I S : Addr} {i slot : Nat} {oS : Obj} {es : Array (Int × Value)} {ep : Nat} {t : SetTable} {Q : Option Value → Shared → Prop} (hh : A.handled = none)
    (hI : s.heap.get? I = some (setIt (.int slot 0) i S es.size ep)) (hS : s.heap.get? S = some oS) (hd : oS.data = .set es ep t) (hf : t.fits es.size = true)
    (hn : ∀ (Q' : Option (Value × Nat) → Shared → Prop) (E' : Value → Shared → Prop), Q' none s → wpAny (model prog w) A.in1 (setNext S slot i ep) Q' E' s)
    (hQ : ∀ h', Heap.ExtBut I s.heap h' → Q none { s with heap := h' }) :
    wpAny (model prog w) A (pyNext (.ref I)) Q E s := by
  unfold pyNext
  refine wpAny_bind (wpAny_attempt (wpAny_callSpecial?_slot (name := Str.ofString "__next__") ⟨_, hI, rfl⟩ SF.slot_next (wpAny_call_entry SF.slot_next ⟨_, hI, rfl⟩ SF.entry_next ?_ (SF.args_next _))))
  unfold Builtin.«set_iterator.__next__»
  refine wpAny_bind (wpAny_pure ?_)
  refine wpAny_bind (wpAny_fieldsOf hI rfl ?_)
  dsimp only
  refine wpAny_bind (wpAny_setEntries_of hS hd hf ?_)
  rw [if_neg (by simp)]
  simp only [Int.toNat_natCast]
  refine wpAny_bind (hn _ _ ?_)
  dsimp only
  refine wpAny_bind (wpAny_setField hI rfl (by simp) ?_)
  exact si_stop (vs := #[]) hh (Heap.SameBut.update ..) hQ
theorem si_item_drawn {I S T : Addr} {i p : Nat} {ps : List Nat} {x : Int × Value} {oS oT : Obj} {e : Nat} {es : Array (Int × Value)} {ep : Nat} {t : SetTable} {Q : Option Value → Shared → Prop}
    (hI : s.heap.get? I = some (setIt (.ref T) i S es.size ep)) (hS : s.heap.get? S = some oS) (hd : oS.data = .set es ep t) (hf : t.fits es.size = true)
    (hT : s.heap.get? T = some oT) (hdT : oT.data = .seq (ps.map fun p => Value.int (p : Nat) 0).toArray e) (hp : ps[i]? = some p) (hx : es[p]? = some x)
    (hQ : ∀ h', h'.get? I = some (setIt (.ref T) (i + 1) S es.size ep) → Heap.SameBut I s.heap h' → Q (some x.2) { s with heap := h' }) :
    wpAny (model prog w) A (pyNext (.ref I)) Q E s := by
  unfold pyNext
  refine wpAny_bind (wpAny_attempt (wpAny_callSpecial?_slot (name := Str.ofString "__next__") ⟨_, hI, rfl⟩ SF.slot_next (wpAny_call_entry SF.slot_next ⟨_, hI, rfl⟩ SF.entry_next ?_ (SF.args_next _))))
  unfold Builtin.«set_iterator.__next__»
  refine wpAny_bind (wpAny_pure ?_)
  refine wpAny_bind (wpAny_fieldsOf hI rfl ?_)
  dsimp only
  refine wpAny_bind (wpAny_setEntries_of hS hd hf ?_)
  rw [if_neg (by simp)]
  simp only [Int.toNat_natCast]
  refine wpAny_bind (wpAny_seqItems hT hdT ?_)
  dsimp only
  rw [show ((ps.map fun p => Value.int (p : Nat) 0).toArray[i]?) = some (Value.int (p : Nat) 0) by simp [hp]]
  dsimp only
  unfold setNextDrawn
  refine wpAny_bind (wpAny_bind (wpAny_setState_of hS hd hf ?_))
  dsimp only
  rw [if_neg (by simp)]
  simp only [Int.toNat_natCast]
  rw [hx]
  refine wpAny_bind (wpAny_pure (wpAny_pure ?_))
  refine wpAny_bind (wpAny_setField hI rfl (by simp) ?_)
  have h2 := Heap.get?_update_self (Obj.mapFields (·.setIfInBounds 1 (rawInt ((i : Int) + 1)))) hI rfl
  exact wpAny_pure ⟨_, rfl, wpAny_pure (hQ _ h2 (Heap.SameBut.update ..))⟩
theorem si_end_drawn {I S T : Addr} {i : Nat} {ps : List Nat} {oS oT : Obj} {e : Nat} {es : Array (Int × Value)} {ep : Nat} {t : SetTable} {Q : Option Value → Shared → Prop} (hh : A.handled = none)
    (hI : s.heap.get? I = some (setIt (.ref T) i S es.size ep)) (hS : s.heap.get? S = some oS) (hd : oS.data = .set es ep t) (hf : t.fits es.size = true)
    (hT : s.heap.get? T = some oT) (hdT : oT.data = .seq (ps.map fun p => Value.int (p : Nat) 0).toArray e) (hp : ps[i]? = none)
    (hQ : ∀ h', Heap.ExtBut I s.heap h' → Q none { s with heap := h' }) :
    wpAny (model prog w) A (pyNext (.ref I)) Q E s := by
  unfold pyNext
  refine wpAny_bind (wpAny_attempt (wpAny_callSpecial?_slot (name := Str.ofString "__next__") ⟨_, hI, rfl⟩ SF.slot_next (wpAny_call_entry SF.slot_next ⟨_, hI, rfl⟩ SF.entry_next ?_ (SF.args_next _))))
  unfold Builtin.«set_iterator.__next__»
  refine wpAny_bind (wpAny_pure ?_)
  refine wpAny_bind (wpAny_fieldsOf hI rfl ?_)
  dsimp only
  refine wpAny_bind (wpAny_setEntries_of hS hd hf ?_)
  rw [if_neg (by simp)]
  simp only [Int.toNat_natCast]
  refine wpAny_bind (wpAny_seqItems hT hdT ?_)
  dsimp only
  rw [show ((ps.map fun p => Value.int (p : Nat) 0).toArray[i]?) = none by simpa using hp]
  dsimp only
  refine wpAny_bind (wpAny_setField hI rfl (by simp) ?_)
  have h1 := si_upd (x := rawInt 0) 0 hI
  refine wpAny_bind (wpAny_setField h1 rfl (by simp) ?_)
  exact si_stop (vs := #[]) hh ((Heap.SameBut.update ..).trans (Heap.SameBut.update ..)) hQ
theorem si_self {I S : Addr} {first : Value} {i n ep : Nat} {Q : Value → Shared → Prop} (hI : s.heap.get? I = some (setIt first i S n ep)) (h : Q (.ref I) s) : wpAny (model prog w) A (pyIter (.ref I)) Q E s := by
  refine wpAny_pyIter_slot ⟨_, hI, rfl⟩ SF.slot_iter (wpAny_call_entry SF.slot_iter ⟨_, hI, rfl⟩ SF.entry_iter ?_ (SF.args_iter _))
  show wpAny _ _ (ret (.ref I)) _ _ s
  exact wpAny_pure ⟨_, rfl, "set_iterator", _, ⟨_, hI, rfl⟩, SF.slot_next.lookup, h⟩
end
end

section
set_option maxRecDepth 100000
theorem pick_go {α : Type} (next : Nat → Nat) : ∀ (fuel k : Nat) (left : List α) (out : Array α), left.length = fuel → (pickOrder.go next fuel k left out).toList.Perm (out.toList ++ left)
  | 0, k, left, out, h => by
    have : left = [] := List.length_eq_zero_iff.mp h
    subst this
    unfold pickOrder.go
    simp
  | fuel + 1, k, left, out, h => by
    unfold pickOrder.go
    have hm : next k % left.length < left.length := Nat.mod_lt _ (by lia)
    obtain ⟨x, hx⟩ : ∃ x, left[next k % left.length]? = some x := ⟨_, List.getElem?_eq_getElem hm⟩
    rw [hx]
    dsimp only
    refine (pick_go next fuel (k + 1) _ _ (by rw [List.length_eraseIdx]; simp [hm]; lia)).trans ?_
    rw [Array.toList_push, List.append_assoc]
    exact (perm_at _ _ _ hx).append_left _
theorem pick_perm {α : Type} (next : Nat → Nat) (xs : Array α) : (pickOrder next xs).toList.Perm xs.toList := by
  unfold pickOrder
  simpa using pick_go next xs.size 0 xs.toList #[] (by simp)
theorem below_zero {xs : Array Nat} (hr : Rising xs) : SetTable.below xs 0 = 0 := by
  obtain ⟨h1, h2, h3⟩ := below_is hr 0
  by_cases h : SetTable.below xs 0 = 0
  · exact h
  · exact absurd (h2 0 (by lia)) (Nat.not_lt_zero _)
theorem below_next {xs : Array Nat} (hr : Rising xs) {i : Nat} (hi : i < xs.size) : SetTable.below xs (xs.getD i 0 + 1) = i + 1 := by
  obtain ⟨h1, h2, h3⟩ := below_is hr (xs.getD i 0 + 1)
  generalize SetTable.below xs (xs.getD i 0 + 1) = p at *
  have a : i < p := by
    rcases Nat.lt_or_ge i p with h | h
    · exact h
    · have := h3 i h hi; lia
  rcases Nat.lt_or_ge (i + 1) p with h | h
  · have b := h2 (i + 1) h
    have c := hr i (i + 1) (by lia) (by lia)
    lia
  · lia
section
variable {prog : Program} {w : World} {A : Around} {E : Value → Shared → Prop} {s : Shared}
theorem walks_text (hh : A.handled = none) {I S : Addr} (hne : S ≠ I) {oS : Obj} {es : Array (Int × Value)} {ep : Nat} {t : SetTable} (hd : oS.data = .set es ep t) (hf : t.fits es.size = true)
    (ht : w.params.followText "set-order" = true) : Walks prog w A I [I, S] [I] es.size (fun i v => ((pickOrder (w.params.setOrder S ep) es)[i]?).map (·.2) = some v)
      (fun i h => h.get? I = some (setIt (.int 0 0) i S es.size ep) ∧ h.get? S = some oS) where
  sub := fun b hb => by simp at hb; simp [hb]
  frame := fun _ _ _ st hk => ⟨hk I (by simp) _ st.1, hk S (by simp) _ st.2⟩
  item := fun i s Q E hi st hQ => by
    have hsz : (pickOrder (w.params.setOrder S ep) es).size = es.size := by simpa using (pick_perm (w.params.setOrder S ep) es).length_eq
    obtain ⟨v, hv⟩ : ∃ v, (pickOrder (w.params.setOrder S ep) es)[i]? = some v := ⟨_, Array.getElem?_eq_getElem (by rw [hsz]; exact hi)⟩
    refine si_item (slot := 0) (next := 0) (x := v.2) st.1 st.2 hd hf (fun Q' E' hq => setNext_text st.2 hd hf ht (by rw [hv]; exact hq)) fun h' hI' hsb => ?_
    exact hQ v.2 h' s.toks (by rw [hv]; rfl) ⟨hI', (hsb.2 S hne).trans st.2⟩ fun b o hb e => (hsb.2 b (fun h => hb (by simp [h]))).trans e
  done := fun s Q E st hQ => by
    have hsz : (pickOrder (w.params.setOrder S ep) es).size = es.size := by simpa using (pick_perm (w.params.setOrder S ep) es).length_eq
    refine si_end (slot := 0) hh st.1 st.2 hd hf (fun Q' E' hq => setNext_text st.2 hd hf ht (by rw [Array.getElem?_eq_none (by rw [hsz]; exact Nat.le_refl _)]; exact hq)) fun h' he => ?_
    exact hQ h' s.toks fun b o hb e => he b o (fun h => hb (by simp [h])) e
  self := fun _ _ _ _ st hQ => si_self st.1 hQ
theorem walks_led (hh : A.handled = none) {I S : Addr} (hne : S ≠ I) {oS : Obj} {es : Array (Int × Value)} {ep : Nat} {t : SetTable} (hd : oS.data = .set es ep t) (hf : t.fits es.size = true)
    (ht : w.params.followText "set-order" = false) (hdr : (!t.plain && decide (es.size > 1)) = false) (hl : t.led = true) (hr : Rising t.place) : Walks prog w A I [I, S] [I] es.size (fun i v => (es[i]?).map (·.2) = some v)
      (fun i h => ∃ slot : Nat, h.get? I = some (setIt (.int slot 0) i S es.size ep) ∧ SetTable.below t.place slot = i ∧ h.get? S = some oS) where
  sub := fun b hb => by simp at hb; simp [hb]
  frame := fun _ _ _ st hk => let ⟨slot, a, b, c⟩ := st; ⟨slot, hk I (by simp) _ a, b, hk S (by simp) _ c⟩
  item := fun i s Q E hi st hQ => by
    obtain ⟨slot, hI, hb, hS⟩ := st
    have hsz : t.place.size = es.size := by
      simp only [SetTable.fits, Bool.and_eq_true, beq_iff_eq] at hf
      exact hf.1
    have hp : t.place[i]? = some (t.place.getD i 0) := by simp [hsz, hi]
    have he : es[i]? = some es[i] := Array.getElem?_eq_getElem hi
    refine si_item (slot := slot) (next := t.place.getD i 0 + 1) (x := es[i].2) hI hS hd hf (fun Q' E' hq => setNext_led hS hd hf ht hdr hl ?_) fun h' hI' hsb => ?_
    · rw [hb, he, hp]; exact hq
    · exact hQ es[i].2 h' s.toks (by rw [he]; rfl) ⟨_, hI', below_next hr (by rw [hsz]; exact hi), (hsb.2 S hne).trans hS⟩ fun b o hb e => (hsb.2 b (fun h => hb (by simp [h]))).trans e
  done := fun s Q E st hQ => by
    obtain ⟨slot, hI, hb, hS⟩ := st
    refine si_end (slot := slot) hh hI hS hd hf (fun Q' E' hq => setNext_led hS hd hf ht hdr hl ?_) fun h' he => ?_
    · rw [hb, Array.getElem?_eq_none (Nat.le_refl _)]; exact hq
    · exact hQ h' s.toks fun b o hb e => he b o (fun h => hb (by simp [h])) e
  self := fun _ _ _ _ st hQ => let ⟨_, hI, _⟩ := st; si_self hI hQ
theorem walks_drawn (hh : A.handled = none) {I S T : Addr} (hne : S ≠ I) (hne2 : T ≠ I) {oS oT : Obj} {es : Array (Int × Value)} {ep e : Nat} {ps : List Nat} {t : SetTable} (hd : oS.data = .set es ep t) (hf : t.fits es.size = true)
    (hdT : oT.data = .seq (ps.map fun p => Value.int (p : Nat) 0).toArray e) (hp : ps.Perm (List.range es.size)) :
    Walks prog w A I [I, S, T] [I] es.size (fun i v => (ps[i]?).bind (fun p => (es[p]?).map (·.2)) = some v)
      (fun i h => h.get? I = some (setIt (.ref T) i S es.size ep) ∧ h.get? S = some oS ∧ h.get? T = some oT) where
  sub := fun b hb => by simp at hb; simp [hb]
  frame := fun _ _ _ st hk => ⟨hk I (by simp) _ st.1, hk S (by simp) _ st.2.1, hk T (by simp) _ st.2.2⟩
  item := fun i s Q E hi st hQ => by
    have hsz : ps.length = es.size := by simpa using hp.length_eq
    obtain ⟨p, hpi⟩ : ∃ p, ps[i]? = some p := ⟨_, List.getElem?_eq_getElem (by lia)⟩
    have hpl : p < es.size := by simpa using hp.mem_iff.mp (List.mem_of_getElem? hpi)
    refine si_item_drawn (x := es[p]) st.1 st.2.1 hd hf st.2.2 hdT hpi (Array.getElem?_eq_getElem hpl) fun h' hI' hsb => ?_
    exact hQ es[p].2 h' s.toks (by rw [hpi]; simp [hpl]) ⟨hI', (hsb.2 S hne).trans st.2.1, (hsb.2 T hne2).trans st.2.2⟩ fun b o hb e => (hsb.2 b (fun h => hb (by simp [h]))).trans e
  done := fun s Q E st hQ => by
    have hsz : ps.length = es.size := by simpa using hp.length_eq
    refine si_end_drawn hh st.1 st.2.1 hd hf st.2.2 hdT (List.getElem?_eq_none (by lia)) fun h' he => ?_
    exact hQ h' s.toks fun b o hb e => he b o (fun h => hb (by simp [h])) e
  self := fun _ _ _ _ st hQ => si_self st.1 hQ
/-- what a walk of the set gives, in some order -/
theorem items_text {S : Addr} {ep : Nat} {es : Array (Int × Value)} {acc : Array Value} (h : ItemsOf (fun i v => ((pickOrder (w.params.setOrder S ep) es)[i]?).map (·.2) = some v) acc es.size) : acc.toList.Perm (es.toList.map (·.2)) := by
  have hp := pick_perm (w.params.setOrder S ep) es
  have e : acc.toList = (pickOrder (w.params.setOrder S ep) es).toList.map (·.2) := by
    refine List.ext_getElem? fun i => ?_
    rw [List.getElem?_map, Array.getElem?_toList, Array.getElem?_toList]
    by_cases hi : i < acc.size
    · rw [h.2 i acc[i] (Array.getElem?_eq_getElem hi), Array.getElem?_eq_getElem hi]
    · have hsz : (pickOrder (w.params.setOrder S ep) es).size = es.size := by simpa using hp.length_eq
      rw [Array.getElem?_eq_none (by lia), Array.getElem?_eq_none (by have := h.1; lia)]; rfl
  rw [e]
  exact hp.map _
theorem items_led {es : Array (Int × Value)} {acc : Array Value} (h : ItemsOf (fun i v => (es[i]?).map (·.2) = some v) acc es.size) : acc.toList.Perm (es.toList.map (·.2)) := by
  have e : acc.toList = es.toList.map (·.2) := by
    refine List.ext_getElem? fun i => ?_
    rw [List.getElem?_map, Array.getElem?_toList, Array.getElem?_toList]
    by_cases hi : i < acc.size
    · rw [h.2 i acc[i] (Array.getElem?_eq_getElem hi), Array.getElem?_eq_getElem hi]
    · rw [Array.getElem?_eq_none (by lia), Array.getElem?_eq_none (by have := h.1; lia)]; rfl
  rw [e]
theorem items_drawn {es : Array (Int × Value)} {ps : List Nat} (hp : ps.Perm (List.range es.size)) {acc : Array Value} (h : ItemsOf (fun i v => (ps[i]?).bind (fun p => (es[p]?).map (·.2)) = some v) acc es.size) : acc.toList.Perm (es.toList.map (·.2)) := by
  have hsz : ps.length = es.size := by simpa using hp.length_eq
  have e : acc.toList = ps.map fun p => (es.getD p (0, .none)).2 := by
    refine List.ext_getElem? fun i => ?_
    rw [List.getElem?_map, Array.getElem?_toList]
    by_cases hi : i < acc.size
    · have this : (ps[i]?).bind (fun p => (es[p]?).map (·.2)) = some acc[i] := h.2 i acc[i] (Array.getElem?_eq_getElem hi)
      have hi' : i < ps.length := by have := h.1; lia
      rw [List.getElem?_eq_getElem hi'] at this ⊢
      have hl : ps[i] < es.size := by simpa using hp.mem_iff.mp (List.getElem_mem hi')
      rw [Array.getElem?_eq_getElem hi]
      simp [hl] at this ⊢
      exact this.symm
    · rw [Array.getElem?_eq_none (by lia), List.getElem?_eq_none (by have := h.1; lia)]; rfl
  rw [e]
  refine (hp.map _).trans ?_
  have e2 : (List.range es.size).map (fun p => (es.getD p (0, .none)).2) = es.toList.map (·.2) := by
    refine List.ext_getElem? fun i => ?_
    rw [List.getElem?_map, List.getElem?_map, Array.getElem?_toList]
    by_cases hi : i < es.size
    · simp [hi]
    · simp [hi]
  rw [e2]
end
end

section
set_option maxRecDepth 100000
section
variable {prog : Program} {w : World} {A : Around} {E : Value → Shared → Prop} {s : Shared}
theorem pyIter_set {S : Addr} {oS : Obj} {es : Array (Int × Value)} {ep : Nat} {t : SetTable} {Q : Value → Shared → Prop}
    (hS : s.heap.get? S = some oS) (hc : oS.cls = .type "set") (hd : oS.data = .set es ep t) (hf : t.fits es.size = true) (hok : TableOk w t) (hsm : es.size ≤ 1000)
    (h : ∀ I h' d fp P St, (∀ A' : Around, A'.handled = none → Walks prog w A' I fp [I] es.size P St) → St 0 h' → (∃ o, h'.get? I = some o ∧ o.cls = .type "set_iterator") → I ∈ fp → (∀ b ∈ fp, b < h'.objs.size) → (∀ b ∈ fp, b = S ∨ s.heap.objs.size ≤ b) →
      (∀ b o, s.heap.get? b = some o → h'.get? b = some o) → s.heap.objs.size ≤ I → (∀ acc, ItemsOf P acc es.size → acc.toList.Perm (es.toList.map (·.2))) → Q (.ref I) { s with heap := h', drawn := d }) :
    wpAny (model prog w) A (pyIter (.ref S)) Q E s := by
  have hT : s.TypeIs (.ref S) "set" := ⟨_, hS, hc⟩
  have hSl := Heap.lt_size hS
  refine wpAny_pyIter_slot hT F.slot_set_iter (wpAny_call_entry F.slot_set_iter hT SF.entry_set_iter ?_ (F.args_set_iter_1 _))
  unfold Builtin.«frozenset.__iter__»
  refine wpAny_bind (wpAny_pure ?_)
  refine wpAny_bind (wpAny_bind (wpAny_setEntries_of hS hd hf (wpAny_pure ?_)))
  unfold setDrawn setsByText
  refine wpAny_bind (wpAny_bind (wpAny_setState_of hS hd hf ?_))
  dsimp only
  refine wpAny_bind (wpAny_bind (wpAny_askSetting (wpAny_pure ?_)))
  refine wpAny_pure ?_
  show wpAny _ _ (if (!w.params.followText "set-order" && (!t.plain && decide (es.size > 1))) = true then _ else _) _ _ _
  by_cases ht : w.params.followText "set-order" = true
  · rw [if_neg (by rw [ht]; simp)]
    refine wpAny_bind (wpAny_pure ?_)
    refine wpAny_bind (wpAny_setEpoch_of hS hd hf ?_)
    refine wpAny_bind (wpAny_newObj_type (wpAny_pure ⟨_, rfl, "set_iterator", _, ⟨_, Heap.get?_push_size _ rfl, rfl⟩, SF.slot_next.lookup, ?_⟩))
    refine h s.heap.objs.size _ s.drawn [s.heap.objs.size, S] _ _ (fun A' hh => walks_text hh (Nat.ne_of_lt hSl) hd hf ht) ⟨Heap.get?_push_size _ rfl, Heap.get?_push_of_some _ hS⟩ ⟨_, Heap.get?_push_size _ rfl, rfl⟩ (.head _) (fun b hb => ?_) (fun b hb => ?_) (fun b o e => Heap.get?_push_of_some _ e) (Nat.le_refl _) (fun acc ha => items_text ha)
    · rw [Heap.size_push]; simp at hb; rcases hb with rfl | rfl; exact Nat.lt_succ_self _; exact Nat.lt_succ_of_lt hSl
    · simp at hb; rcases hb with rfl | rfl
      · exact .inr (Nat.le_refl _)
      · exact .inl rfl
  · have ht' : w.params.followText "set-order" = false := by simpa using ht
    by_cases hdr : (!t.plain && decide (es.size > 1)) = true
    · rw [if_pos (by rw [ht', hdr]; rfl)]
      refine wpAny_bind (wpAny_drew _ _ _ _ (by simp) fun ps d hp => ?_)
      refine wpAny_bind (wpAny_newTuple ?_ (by rw [List.length_map, hp.length_eq, List.length_range, sizeLine_eq]; lia))
      have hS1 : (s.heap.push { cls := .type "tuple", data := .seq (ps.map fun (i : Nat) => rawInt i).toArray }).get? S = some oS := Heap.get?_push_of_some _ hS
      refine wpAny_bind (wpAny_setEpoch_of hS1 hd hf ?_)
      have hsz : (s.heap.push { cls := .type "tuple", data := .seq (ps.map fun (i : Nat) => rawInt i).toArray }).objs.size = s.heap.objs.size + 1 := Heap.size_push _ _
      refine wpAny_bind (wpAny_newObj_type (wpAny_pure ⟨_, rfl, "set_iterator", _, ⟨_, Heap.get?_push_size _ rfl, rfl⟩, SF.slot_next.lookup, ?_⟩))
      refine h _ _ d [(s.heap.push { cls := .type "tuple", data := .seq (ps.map fun (i : Nat) => rawInt i).toArray }).objs.size, S, s.heap.objs.size] _ _ (fun A' hh => walks_drawn (T := s.heap.objs.size) (oT := { cls := .type "tuple", data := .seq (ps.map fun (i : Nat) => rawInt i).toArray }) hh (by rw [hsz]; exact Nat.ne_of_lt (Nat.lt_succ_of_lt hSl)) (by rw [hsz]; exact Nat.ne_of_lt (Nat.lt_succ_self _)) hd hf rfl hp)
        ⟨Heap.get?_push_size _ rfl, Heap.get?_push_of_some _ hS1, Heap.get?_push_of_some _ (Heap.get?_push_size _ rfl)⟩ ⟨_, Heap.get?_push_size _ rfl, rfl⟩ (.head _) (fun b hb => ?_) (fun b hb => ?_) (fun b o e => Heap.get?_push_of_some _ (Heap.get?_push_of_some _ e)) (by rw [hsz]; exact Nat.le_succ _) (fun acc ha => items_drawn hp ha)
      · rw [Heap.size_push, hsz]; simp only [hsz, List.mem_cons, List.not_mem_nil, or_false] at hb
        rcases hb with rfl | rfl | rfl
        · exact Nat.lt_succ_self _
        · exact Nat.lt_succ_of_lt (Nat.lt_succ_of_lt hSl)
        · exact Nat.lt_succ_of_lt (Nat.lt_succ_self _)
      · simp only [hsz, List.mem_cons, List.not_mem_nil, or_false] at hb
        rcases hb with rfl | rfl | rfl
        · exact .inr (Nat.le_succ _)
        · exact .inl rfl
        · exact .inr (Nat.le_refl _)
    · have hdr' : (!t.plain && decide (es.size > 1)) = false := by simpa using hdr
      rw [if_neg (by rw [hdr']; simp)]
      have hl : t.led = true := by rw [hok.led, ht']; rfl
      refine wpAny_bind (wpAny_pure ?_)
      refine wpAny_bind (wpAny_setEpoch_of hS hd hf ?_)
      refine wpAny_bind (wpAny_newObj_type (wpAny_pure ⟨_, rfl, "set_iterator", _, ⟨_, Heap.get?_push_size _ rfl, rfl⟩, SF.slot_next.lookup, ?_⟩))
      refine h s.heap.objs.size _ s.drawn [s.heap.objs.size, S] (fun i v => (es[i]?).map (·.2) = some v) (fun i h => ∃ slot : Nat, h.get? s.heap.objs.size = some (setIt (.int slot 0) i S es.size ep) ∧ SetTable.below t.place slot = i ∧ h.get? S = some oS) (fun A' hh => walks_led hh (Nat.ne_of_lt hSl) hd hf ht' hdr' hl hok.rise) ⟨0, Heap.get?_push_size _ rfl, below_zero hok.rise, Heap.get?_push_of_some _ hS⟩ ⟨_, Heap.get?_push_size _ rfl, rfl⟩ (.head _) (fun b hb => ?_) (fun b hb => ?_) (fun b o e => Heap.get?_push_of_some _ e) (Nat.le_refl _) (fun acc ha => items_led ha)
      · rw [Heap.size_push]; simp at hb; rcases hb with rfl | rfl; exact Nat.lt_succ_self _; exact Nat.lt_succ_of_lt hSl
      · simp at hb; rcases hb with rfl | rfl
        · exact .inr (Nat.le_refl _)
        · exact .inl rfl
theorem collect_set {S : Addr} {oS : Obj} {es : Array (Int × Value)} {ep : Nat} {t : SetTable} {Q : List Value → Shared → Prop} (hh : A.handled = none)
    (hS : s.heap.get? S = some oS) (hc : oS.cls = .type "set") (hd : oS.data = .set es ep t) (hf : t.fits es.size = true) (hok : TableOk w t) (hsm : es.size ≤ 1000)
    (h : ∀ vs h' tk d, vs.Perm (es.toList.map (·.2)) → (∀ b o, s.heap.get? b = some o → h'.get? b = some o) → s.heap.objs.size < h'.objs.size → Q vs { s with heap := h', toks := tk, drawn := d }) :
    wpAny (model prog w) A (collect (.ref S)) Q E s := by
  have hSl := Heap.lt_size hS
  unfold collect
  refine wpAny_bind (wpAny_runValue (codeAny_builtin F.entry_proto_collect ?_))
  rw [Around.under_plainId F.plain_proto_collect _]
  show wpAny _ A.in1 (newList [] >>= fun l => again (.builtin "list.__iadd__" ⟨[l, .ref S], []⟩)) _ _ s
  refine wpAny_bind (wpAny_newObj_type ?_)
  refine wpAny_pure ⟨plainId_quiet F.plain_list_iadd _, codeAny_builtin F.entry_list_iadd ?_⟩
  rw [Around.under_plainId F.plain_list_iadd _]
  generalize hoN : ({ cls := .type "list", data := .seq ([] : List Value).toArray } : Obj) = oN
  have hSS : (s.heap.push oN).get? S = some oS := Heap.get?_push_of_some _ hS
  have hL : (s.heap.push oN).get? s.heap.objs.size = some oN := Heap.get?_push_size _ (by rw [← hoN]; rfl)
  have hsz : (s.heap.push oN).objs.size = s.heap.objs.size + 1 := Heap.size_push _ _
  show wpAny _ A.in1 (Builtin.List.listExtendWith (.ref s.heap.objs.size) (.ref S) (.ref s.heap.objs.size)) _ _ _
  unfold Builtin.List.listExtendWith
  refine wpAny_bind (wpAny_typeOf (T := "set") ⟨oS, hSS, hc⟩ ?_)
  have h1 : Builtin.List.listSameRef (.ref s.heap.objs.size) (.ref S) = false := by simp [Builtin.List.listSameRef]; exact Nat.ne_of_gt hSl
  rw [if_neg (by rw [h1]; decide)]
  refine wpAny_bind (pyIter_set hSS hc hd hf hok hsm fun I h' d fp P St W hst hI hIf hfl hfo hk hIs hacc => ?_)
  rw [hsz] at hIs hfo
  obtain ⟨oI, hIo, hIc⟩ := hI
  refine wpAny_bind (wpAny_holding ?_)
  unfold Builtin.List.listLengthHint
  have hTS : Shared.TypeIs { s with heap := h', drawn := d } (.ref S) "set" := ⟨oS, hk _ _ hSS, hc⟩
  refine wpAny_bind (wpAny_specialOf hTS F.slot_set_len.lookup ?_)
  (generalize hid : ("set.__len__" : String) = id0; (fail_if_success (clear hid id0)); wp_delta; rw [show splitId id0 = some ("set", "__len__") from by subst hid; decide +kernel]; subst hid)
  refine wpAny_bind (wpAny_isInstance (b := true) hTS (by rw [isSubtype_type]; kernel_rfl) ?_)
  refine wpAny_bind (wpAny_typeOf hTS ?_)
  refine wpAny_pure ?_
  rw [if_pos (by decide +kernel)]
  refine wpAny_bind (wpAny_rule ?_)
  refine wpAny_bind ?_
  show wpAny _ A.in1 (updateSeq s.heap.objs.size (·.push .none) >>= fun _ => updateSeq s.heap.objs.size (·.pop)) _ _ _
  have hL1 : h'.get? s.heap.objs.size = some oN := hk _ _ hL
  subst hoN
  refine wpAny_bind (wpAny_updateSeq hL1 rfl ?_)
  have hL2 := Heap.get?_update_self (Obj.mapSeq (·.push Value.none)) hL1 rfl
  refine wpAny_updateSeq hL2 rfl ?_
  have hL3 := Heap.get?_update_self (Obj.mapSeq (·.pop)) hL2 rfl
  have oth : ∀ b o, b ≠ s.heap.objs.size → h'.get? b = some o → ((h'.update s.heap.objs.size (Obj.mapSeq (·.push Value.none))).update s.heap.objs.size (Obj.mapSeq (·.pop))).get? b = some o :=
    fun b o hb e => (Heap.get?_update_other _ _ (Ne.symm hb)).trans ((Heap.get?_update_other _ _ (Ne.symm hb)).trans e)
  have hSf : s.heap.objs.size ∉ fp := fun hm => by
    rcases hfo _ hm with q | q
    · exact absurd hSl (by rw [q]; exact Nat.lt_irrefl _)
    · exact absurd q (Nat.not_succ_le_self _)
  have W1 := (W A.in1 hh).toS
  refine wpAny_pure ⟨plainId_quiet F.plain_extend_loop _, codeAny_extend_loopS W1 (by rw [sizeLine_eq]; lia) _ hSf _ es.size 0 _ _ _ rfl (Nat.zero_le _)
    ((W A hh).frame 0 h' _ hst fun b hb o e => oth b o (fun q => hSf (q ▸ hb)) e) hL3 (ItemsOf.nil P) fun s' acc' c' hm hS' ha => ?_⟩
  show wpAny _ A (load s.heap.objs.size >>= _) _ _ s'
  refine wpAny_bind (wpAny_load hS' ?_)
  obtain ⟨h2, g2, d2, tk2, os2⟩ := s'
  have eg : g2 = s.gens := hm.gens
  have ed : d2 = d := hm.drawn
  have eo : os2 = s.os := hm.os
  subst eg ed eo
  refine wpAny_pure (h _ _ _ _ (hacc _ ha) (fun b o e => ?_) (Heap.lt_size hS'))
  have hb := Heap.lt_size e
  refine hm.heap b o ?_ (oth b o (Nat.ne_of_lt hb) (hk _ _ (Heap.get?_push_of_some _ e)))
  simp only [List.mem_cons, List.not_mem_nil, or_false, not_or]
  refine ⟨Nat.ne_of_lt hb, Nat.ne_of_lt (Nat.lt_of_lt_of_le (Nat.lt_succ_of_lt hb) hIs)⟩
theorem sorted_set {S : Addr} {oS : Obj} {es : Array (Int × Value)} {ep : Nat} {t : SetTable} {ks : List Int} {Q : Value → Shared → Prop} (hh : A.handled = none)
    (hS : s.heap.get? S = some oS) (hc : oS.cls = .type "set") (hd : oS.data = .set es ep t) (hf : t.fits es.size = true) (hok : TableOk w t) (hsm : es.size < 64)
    (hel : ElemsOf (intKind prog w) es.toList) (hp : (es.toList.map fun e => keyI e.2).Perm ks)
    (h : ∀ D vs' ns' e h' tk d, IntsAre vs' ns' → ns'.Perm ks → ns'.Pairwise (· ≤ ·) → (∀ b o, s.heap.get? b = some o → h'.get? b = some o) → s.heap.objs.size ≤ D → h'.get? D = some (seqObj "list" vs'.toArray e) → Q (.ref D) { s with heap := h', toks := tk, drawn := d }) :
    wpAny (model prog w) A (call (.builtin "sorted") [.ref S]) Q E s := by
  refine Calls.call_function_entry kind_sorted plain_sorted entry_sorted (args_sorted1 _) ?_
  unfold Builtin.«sorted»
  refine wpAny_bind (m := checkCount "sorted" 1 1 _) (wpAny_pure ?_)
  refine wpAny_bind (collect_set hh hS hc hd hf hok (by lia) fun vs h1 tk d hvs hk hlt => ?_)
  have hvl : vs.length = es.size := by simpa using hvs.length_eq
  have hI : ∃ ns, IntsAre vs ns ∧ ns.Perm ks := by
    have q : ∀ vs : List Value, (∀ v ∈ vs, ∃ k t, v = .int k t) → IntsAre vs (vs.map keyI) := fun vs => by
      induction vs with
      | nil => intro _; exact .nil
      | cons v r ih =>
        intro hv
        obtain ⟨k, t, rfl⟩ := hv v (.head _)
        exact .cons _ _ (ih fun x hx => hv x (.tail _ hx))
    refine ⟨vs.map keyI, q vs fun v hv => ?_, ?_⟩
    · obtain ⟨e, he, rfl⟩ := List.mem_map.mp (hvs.mem_iff.mp hv)
      exact elem_int hel he
    · refine (hvs.map keyI).trans ?_
      rw [List.map_map]
      exact hp
  obtain ⟨ns, hI, hns⟩ := hI
  refine wpAny_bind (wpAny_newList ?_ (by rw [sizeLine_eq]; lia))
  have hoL : (h1.push (seqObj "list" vs.toArray 0)).get? h1.objs.size = some (seqObj "list" vs.toArray 0) := Heap.get?_push_size _ rfl
  have hl64 : vs.length < 64 := by lia
  refine wpAny_bind (wpAny_holding (wpAny_call_entry slot_list_sort ⟨_, hoL, rfl⟩ entry_list_sort (list_sort_tree hoL hI hl64 fun out ns' a1 a2 a3 => ⟨_, rfl, ?_⟩) (args_list_sort _)))
  obtain ⟨e, he⟩ := sortedHeap_at (out := out) hoL
  refine wpAny_pure ⟨_, rfl, h h1.objs.size out.toList ns' e _ tk d a1 (a2.trans hns) a3 (fun b o hb => ?_) (Nat.le_of_lt hlt) he⟩
  have hb1 := Heap.lt_size (hk _ _ hb)
  rw [sortedHeap_old (Nat.ne_of_lt hb1) (by rw [Heap.size_push]; exact Nat.lt_succ_of_lt hb1)]
  exact Heap.get?_push_of_some _ (hk _ _ hb)
end
end

section
/-- a rising list is told by its members -/
theorem rising_eq : ∀ {a b : List Int}, a.Pairwise (· < ·) → b.Pairwise (· < ·) → (∀ x, x ∈ a ↔ x ∈ b) → a = b
  | [], [], _, _, _ => rfl
  | [], y :: b, _, _, h => by have := (h y).mpr (.head _); cases this
  | x :: a, [], _, _, h => by have := (h x).mp (.head _); cases this
  | x :: a, y :: b, ha, hb, h => by
    rw [List.pairwise_cons] at ha hb
    have e : x = y := by
      have h1 := (h x).mp (.head _)
      have h2 := (h y).mpr (.head _)
      rcases List.mem_cons.mp h1 with q | q
      · exact q
      · rcases List.mem_cons.mp h2 with q2 | q2
        · exact q2.symm
        · have := hb.1 x q
          have := ha.1 y q2
          lia
    subst e
    congr 1
    refine rising_eq ha.2 hb.2 fun z => ⟨fun hz => ?_, fun hz => ?_⟩
    · rcases List.mem_cons.mp ((h z).mp (.tail _ hz)) with q | q
      · subst q; have := ha.1 z hz; lia
      · exact q
    · rcases List.mem_cons.mp ((h z).mpr (.tail _ hz)) with q | q
      · subst q; have := hb.1 z hz; lia
      · exact q
end

section
theorem step_nodup {σ : List Int} (h : σ.Nodup) (v : Int) : (step_dedup σ v).Nodup := by
  unfold step_dedup
  split
  · exact h
  · rename_i q
    refine List.nodup_append.mpr ⟨h, by simp, fun a ha b hb e => ?_⟩
    simp at hb
    exact q (List.any_eq_true.mpr ⟨a, ha, by simp [e, hb]⟩)
theorem firstMet_nodup (val : Nat → Int) : ∀ n, (firstMet val n).Nodup
  | 0 => by rw [firstMet_zero]; exact .nil
  | n + 1 => by rw [firstMet_succ]; exact step_nodup (firstMet_nodup val n) _
theorem firstMet_mem (ns : List Int) (x : Int) : x ∈ firstMet (fun i => ns.getD i 0) ns.length ↔ x ∈ ns := by
  have h := firstMet_any (fun i => ns.getD i 0) ns.length x
  have e : (List.range ns.length).map (fun i => ns.getD i 0) = ns := by
    refine List.ext_getElem? fun i => ?_
    rw [List.getElem?_map]
    by_cases hi : i < ns.length
    · simp [hi]
    · simp [hi]
  rw [e] at h
  have q : ∀ l : List Int, l.any (· == x) = true ↔ x ∈ l := fun l => by simp
  rw [← q, ← q, h]
section
variable {prog : Program} {w : World} {A : Around} {E : Value → Shared → Prop} {s : Shared} {h₀ : Heap} {L l : Addr} {m : Str → Option Value} {nx : Ledg} {vs : List Value} {e : Nat} {ns : List Int} {Q : Value → Shared → Prop}
/-- sorted(set(a list of ints)): the set -/
theorem newSetL (hh : A.handled = none) (F : Fr h₀ L s.heap m) (N : News h₀ L s.heap nx) (hl : (l, listOf vs.toArray e) ∈ nx) (hi : IntsAre vs ns) (hb : ns.length ≤ 60)
    (h : ∀ D o h' tk, SetI prog w o (firstMet (fun i => ns.getD i 0) ns.length) → Fr h₀ L h' m → News h₀ L h' ((D, o) :: nx) → (∀ p ∈ nx, p.1 < D) → Q (.ref D) { s with heap := h', toks := tk }) : wpAny (model prog w) A (call (.type "set") [.ref l]) Q E s := by
  have hvl : vs.toArray.size = ns.length := by rw [List.size_toArray, hi.length]
  refine call_set_I (items := vs.toArray) hh (News.isList N hl) hi (by unfold scanBound; lia) fun h' tk o ho hS hk => ?_
  rw [hvl] at hS
  have hk' : ∀ b o, s.heap.get? b = some o → h'.get? b = some o := fun b o e => hk b o (Heap.lt_size e) e
  exact h _ o h' tk hS (F.kept hk') (N.kept_cons F hk' (Nat.le_refl _) ho) fun p hp => Heap.lt_size (N p hp).1
theorem sortedSetL {D : Addr} {o : Obj} {ks : List Int} (hh : A.handled = none) (F : Fr h₀ L s.heap m) (N : News h₀ L s.heap nx) (hD : (D, o) ∈ nx) (hS : SetI prog w o ks) (hb : ks.length ≤ 60) (hn : ks.Nodup)
    (h : ∀ D' ns' h' tk d e' vs', IntsAre vs' ns' → ns'.Pairwise (· < ·) → (∀ x, x ∈ ns' ↔ x ∈ ks) → Fr h₀ L h' m → News h₀ L h' ((D', listOf vs'.toArray e') :: nx) → (∀ p ∈ nx, p.1 < D') → Q (.ref D') { s with heap := h', toks := tk, drawn := d }) : wpAny (model prog w) A (call (.builtin "sorted") [.ref D]) Q E s := by
  obtain ⟨hex, es, ep, t, hd, hel, hp, hf, ht⟩ := hS
  have hsz := SetI.size (o := o) hp
  refine sorted_set hh (N _ hD).1 hex.1 hd hf ht (by lia) hel hp fun D' vs' ns' e' h' tk d hi hpm hpw hk hle hD' => ?_
  refine h D' ns' h' tk d e' vs' hi ?_ (fun x => hpm.mem_iff) (F.kept hk) (N.kept_cons F hk hle hD') fun p hp => Nat.lt_of_lt_of_le (Heap.lt_size (N p hp).1) hle
  have hn' : ns'.Nodup := hpm.nodup_iff.mpr hn
  refine (hpw.and hn').imp fun {a b} q => ?_
  have := q.1; have := q.2; lia
end
end

section
section
variable {prog : Program} {w : World} {A : Around} {E : Value → Shared → Prop} {s : Shared} {env : Env} {h₀ : Heap} {L : Addr} {m : Str → Option Value} {nx : Ledg} {target : PySem.Expr} {body : List Stmt}
theorem draw_list {it t : Addr} {items : Array Value} (hne : t ≠ it) : ∀ (n i : Nat) (s : Shared) (Q : List Value → Shared → Prop), s.heap.IsListIter it t i → s.heap.IsList t items → i + n ≤ items.size →
    (∀ h', h'.IsListIter it t (i + n) → Heap.ExtBut it s.heap h' → Q ((items.toList.drop i).take n) { s with heap := h' }) → wpAny (model prog w) A (draw (.ref it) n) Q E s
  | 0, i, s, Q, hit, _, _, hQ => by
    show wpAny _ _ (pure []) Q E s
    exact wpAny_pure (by simpa using hQ s.heap hit (fun _ _ _ e => e))
  | n + 1, i, s, Q, hit, ht, hle, hQ => by
    have hlt : i < items.size := by lia
    show wpAny _ _ (pyNext (.ref it) >>= _) Q E s
    refine wpAny_bind (wpAny_pyNext_list_item hit ht (x := items[i]) (by simp [hlt]) fun h₁ hit₁ hs₁ => ?_)
    refine wpAny_bind (wpAny_holding (draw_list hne n (i + 1) _ _ hit₁ (ht.extBut hs₁.extBut hne) (by lia) fun h₂ hit₂ hs₂ => wpAny_pure ?_))
    have hd : items.toList.drop i = items[i] :: items.toList.drop (i + 1) := by simp [List.drop_eq_getElem_cons, hlt]
    have := hQ h₂ (by rw [show i + (n + 1) = i + 1 + n by lia]; exact hit₂) (fun b o hb e => hs₂ b o hb (hs₁.extBut b o hb e))
    rw [hd, List.take_succ_cons] at this
    exact this
theorem unpackItems_list {t : Addr} {items : Array Value} {Q : List Value → Shared → Prop} (hh : A.handled = none) (ht : s.heap.IsList t items)
    (hQ : ∀ h', Heap.ExtBut s.heap.objs.size s.heap h' → Q items.toList { s with heap := h' }) : wpAny (model prog w) A (unpackItems (.ref t) items.size none) Q E s := by
  have hlt : t ≠ s.heap.objs.size := by obtain ⟨o, ho, _⟩ := ht; exact Nat.ne_of_lt (Heap.lt_size ho)
  have hT : s.TypeIs (.ref t) "list" := by obtain ⟨o, ho, hc, _⟩ := ht; exact ⟨o, ho, hc⟩
  unfold unpackItems
  refine wpAny_bind ?_
  unfold notIterableAtAll
  refine wpAny_bind (wpAny_specialOf hT F.slot_list_iter.lookup ?_)
  refine wpAny_pure ?_
  simp only [Bool.false_eq_true, if_false]
  refine wpAny_bind (wpAny_holding (wpAny_pyIter_list ht ?_))
  refine wpAny_bind (wpAny_holding (draw_list hlt items.size 0 _ _ ⟨_, Heap.get?_push_size _ rfl, rfl, rfl⟩ (ht.at fun o e => Heap.get?_push_of_some _ e) (by lia) fun h₁ hit₁ hs₁ => ?_))
  have hall : List.take items.size (List.drop 0 items.toList) = items.toList := by
    rw [List.drop_zero]; exact List.take_of_length_le (by simp)
  rw [hall]
  rw [if_neg (by simp)]
  have ht₁ : h₁.IsList t items := ht.at fun o e => hs₁ t o hlt (Heap.get?_push_of_some _ e)
  refine wpAny_bind (wpAny_holding (wpAny_pyNext_list_end hh hit₁ ht₁ (by simp) fun h₂ he₂ => ?_))
  simp only [Option.isSome_none, Bool.false_eq_true, if_false]
  exact wpAny_pure (hQ h₂ fun b o hb e => he₂ b o hb (hs₁ b o hb (Heap.get?_push_of_some _ e)))
/-- a target of many names, given a list -/
theorem unpackL {elts : List PySem.Expr} {k} {pos : Pos} {t : Addr} {vs : List Value} {e : Nat} {Q : Unit → Shared → Prop} (F : Fr h₀ L s.heap m) (N : News h₀ L s.heap nx) (ht : (t, listOf vs.toArray e) ∈ nx)
    (hh : A.handled = none) (hn : (assignEach elts env).length = vs.length) (hstar : (assignEach elts env).findIdx? (·.1) = none)
    (h : ∀ h', Fr h₀ L h' m → News h₀ L h' nx → wpAny (model prog w) A (assignInOrder ((assignEach elts env).map (·.2)) vs) Q E { s with heap := h' }) :
    wpAny (model prog w) A (assign (.Tuple elts k pos) env (.ref t)) Q E s := by
  rw [assign_Tuple]
  refine wpAny_bind (wpAny_standAt ?_)
  unfold unpack
  have e1 : vs.toArray.size = vs.length := by simp
  rw [hn, hstar, ← e1]
  refine wpAny_bind (wpAny_holding (unpackItems_list hh (News.isList N ht) fun h' he => ?_))
  exact h h' (F.extBut he (Nat.le_refl _)) fun p hp => ⟨he p.1 p.2 (Nat.ne_of_lt (Heap.lt_size (N p hp).1)) (N p hp).1, (N p hp).2⟩
theorem forLT {l : Addr} {vs : List Value} {e : Nat} {m₀ : Str → Option Value} {news : Ledg} {Q : Flow → Shared → Prop} (J : Nat → (Str → Option Value) → Ledg → Prop)
    (hh : A.handled = none) (F : Fr h₀ env.locals s.heap m₀) (N : News h₀ env.locals s.heap news) (hl : (l, listOf vs.toArray e) ∈ news) (hj : J 0 m₀ news) (hJl : ∀ i m nx, J i m nx → (l, listOf vs.toArray e) ∈ nx)
    (hgo2 : ∀ i (s' : Shared) I v (Q' : Unit → Shared → Prop), s'.heap.IsListIter I l i → Q' () s' → wpAny (model prog w) A (letOwnedTupleGo target (.ref I) v) Q' E s')
    (turn : ∀ I i v m₁ nx s₁ oI, vs[i]? = some v → J i m₁ nx → (∀ p ∈ nx, p.1 ≠ I) → Fr h₀ env.locals s₁.heap m₁ → News h₀ env.locals s₁.heap ((I, oI) :: nx) →
      wpAny (model prog w) A (assign target env v) (fun _ s₃ => wpAny (model prog w) A (execs body env) (EndT h₀ env.locals I oI [(l, listOf vs.toArray e)] (J (i + 1)) s₁) E s₃) E s₁)
    (done : ∀ m₁ nx h tk, J vs.length m₁ nx → Fr h₀ env.locals h m₁ → News h₀ env.locals h nx → Q .next { s with heap := h, toks := tk }) :
    wpAny (model prog w) A (pyIter (.ref l)) (fun it s₂ => LoopAtT prog w A h₀ env target body Q E it s₂) E s := by
  have hls : s.heap.IsList l vs.toArray := News.isList N hl
  have hlt : l < s.heap.objs.size := Heap.lt_size (N _ hl).1
  have hne : l ≠ s.heap.objs.size := Nat.ne_of_lt hlt
  refine wpAny_pyIter_list hls ?_
  have W := Walks.list (prog := prog) (w := w) hh s.heap.objs.size l hne vs.toArray
  have hnI : h₀.get? s.heap.objs.size = none := next_is_new F
  refine ⟨s.heap.objs.size, _, _, vs.toArray.size, _, _, m₀, news, J, rfl, W, ?_, ?_, ?_, ?_, F.push _, fun p hp => ⟨Heap.get?_push_of_some _ (N p hp).1, (N p hp).2⟩, ?_, hj, ?_, ?_⟩
  · intro hm
    rcases List.mem_cons.mp hm with e' | hm
    · exact absurd F.ns.lt (e' ▸ Nat.lt_irrefl _)
    · exact (N _ hl).2.1 (List.mem_singleton.mp hm).symm
  · intro b hb; rw [List.mem_singleton.mp hb]; exact hnI
  · intro p hp hI
    exact absurd (Heap.lt_size (N p hp).1) ((List.mem_singleton.mp hI) ▸ Nat.lt_irrefl _)
  · exact ⟨⟨_, Heap.get?_push_size _ rfl, rfl, rfl⟩, hls.at fun o e => Heap.get?_push_of_some _ e⟩
  · intro i s' v Q' hst hQ
    exact hgo2 i s' _ v Q' hst.1 hQ
  · intro i v m₁ nx s₁ own hi hP hJ hoff hown hget hall hst F₁ N₁
    obtain ⟨oI, hst', hst2⟩ := hst.1
    have hIo := hall _ (List.mem_cons_self) hnI _ hst'
    have hoff' : ∀ p ∈ nx, p.1 ≠ s.heap.objs.size := fun p hp e => hoff p hp (List.mem_singleton.mpr e)
    refine wpAny_mono (turn s.heap.objs.size i v m₁ nx s₁ oI (by simpa using hP) hJ hoff' F₁ (fun p hp => ?_)) (fun _ s₃ q => wpAny_mono q (fun f s₄ q => ?_) fun _ _ e => e) fun _ _ e => e
    · rcases List.mem_cons.mp hp with rfl | hp
      · exact N₁ _ (List.mem_append_left _ hIo)
      · exact N₁ p (List.mem_append_right _ hp)
    · obtain ⟨rfl, h', tk', m', nx', rfl, F', N', off', hmu, hJ'⟩ := q
      refine ⟨rfl, h', tk', m', nx', rfl, F', fun p hp => ?_, fun p hp hq => off' p hp (List.mem_singleton.mp hq), hJ'⟩
      rcases List.mem_append.mp hp with q | q
      · have e1 := hown p q
        have e2 := hget p q
        obtain ⟨pa, po⟩ := p
        dsimp only at e2
        rcases List.mem_cons.mp e1 with e1 | e1
        · dsimp only at e1
          subst e1
          rw [hst'] at e2
          cases e2
          exact N' _ (.head _)
        · have e1 := List.mem_singleton.mp e1
          dsimp only at e1
          subst e1
          have e3 := (N₁ _ (List.mem_append_right _ (hJl _ _ _ hJ))).1
          rw [e3] at e2
          cases e2
          exact N' _ (.tail _ (hmu _ (.head _)))
      · exact N' p (List.mem_cons_of_mem _ q)
  · intro h' tk m' nx F' N' _ hJ
    rw [List.size_toArray] at hJ
    exact done m' nx h' tk hJ F' N'
theorem go_tuple {elts : List PySem.Expr} {x1} {pos : Pos} {l : Addr} (i : Nat) (s' : Shared) (I : Addr) (v : Value) (Q' : Unit → Shared → Prop) (hit : s'.heap.IsListIter I l i) (hQ : Q' () s') :
    wpAny (model prog w) A (letOwnedTupleGo (.Tuple elts x1 pos) (.ref I) v) Q' E s' := by
  cases v with
  | ref T => exact wpAny_letOwnedTupleGo_listiter hit hQ
  | _ => exact wpAny_pure hQ
end
end

section
theorem join_mk (sep : List Nat) (l : List Nat) : Txt.join (mkS sep) (l.map fun c => mkS [c]) = mkS (joinN sep l) := by
  unfold Txt.join
  rw [StrLaws.glued_eq_join]
  induction l with
  | nil => rfl
  | cons x r ih =>
    cases r with
    | nil => rfl
    | cons y r =>
      show mkS [x] ++ mkS sep ++ Str.join (mkS sep) ((y :: r).map fun c => mkS [c]) = mkS (x :: (sep ++ joinN sep (y :: r)))
      rw [ih]
      show Str.append (Str.append _ _) _ = _
      simp [Str.append, mkS]
theorem joinN_nil : ∀ l : List Nat, joinN [] l = l
  | [] => rfl
  | [x] => rfl
  | x :: y :: r => by
    show x :: ([] ++ joinN [] (y :: r)) = _
    rw [List.nil_append, joinN_nil (y :: r)]
theorem mul_dot {n : Int} (h : n ≤ 5) : Txt.mul (Str.ofString ".") n = mkS (List.replicate n.toNat 46) := by
  by_cases h1 : n < 1
  · unfold Txt.mul
    rw [if_pos h1, show n.toNat = 0 by lia]
    rfl
  · obtain ⟨k, rfl⟩ := Int.eq_ofNat_of_zero_le (show 0 ≤ n by lia)
    have q : ∀ k : Fin 6, 0 < k.val → Txt.mul (Str.ofString ".") ((k.val : Nat) : Int) = mkS (List.replicate k.val 46) := by decide +kernel
    exact q ⟨k, by lia⟩ (by show 0 < k; lia)
theorem ones_sum : ∀ l : List Nat, ((l.map fun c => mkS [c]).map (·.length)).sum = l.length
  | [] => rfl
  | a :: l => by
    rw [List.map_cons, List.map_cons, List.sum_cons, ones_sum l, List.length_cons]
    show 1 + _ = _
    lia
theorem app_mk (a b : List Nat) : mkS a ++ mkS b = mkS (a ++ b) := by
  show Str.append _ _ = _
  simp [Str.append, mkS]
theorem spread_eq (n : Nat) (signs : List Nat) (h : n ≤ 5) : mkS (List.replicate ((n : Int) - 1).toNat 46) ++ mkS (joinN (List.replicate ((n : Int) - 2).toNat 46) signs) ++ mkS (List.replicate ((n : Int) - 1).toNat 46) = mkS (spreadN n signs) := by
  rw [app_mk, app_mk, show ((n : Int) - 1).toNat = n - 1 by lia, show ((n : Int) - 2).toNat = n - 2 by lia]
  rfl
theorem joinN_len (sep : List Nat) : ∀ l : List Nat, (joinN sep l).length ≤ l.length + l.length * sep.length
  | [] => by simp [joinN]
  | [x] => by simp [joinN]
  | x :: y :: r => by
    show (x :: (sep ++ joinN sep (y :: r))).length ≤ _
    have := joinN_len sep (y :: r)
    simp only [List.length_cons, List.length_append, Nat.add_mul, Nat.one_mul] at this ⊢
    lia
theorem spread_len {n : Nat} {signs : List Nat} (h : n ≤ 5) (h5 : signs.length = 5) : (spreadN n signs).length ≤ 40 := by
  unfold spreadN
  have := joinN_len (List.replicate (n - 2) 46) signs
  rw [h5, List.length_replicate] at this
  rw [List.length_append, List.length_append, List.length_replicate]
  have : 5 * (n - 2) ≤ 15 := by lia
  lia
theorem joinN_mem (sep : List Nat) : ∀ (l : List Nat) (c : Nat), c ∈ joinN sep l → c ∈ sep ∨ c ∈ l
  | [], c, h => by cases h
  | [x], c, h => .inr h
  | x :: y :: r, c, h => by
    have h' : c ∈ x :: (sep ++ joinN sep (y :: r)) := h
    rcases List.mem_cons.mp h' with rfl | h'
    · exact .inr (.head _)
    · rcases List.mem_append.mp h' with h' | h'
      · exact .inl h'
      · rcases joinN_mem sep (y :: r) c h' with q | q
        · exact .inl q
        · exact .inr (.tail _ q)
theorem spread_signs {n : Nat} {signs : List Nat} (h : ∀ x ∈ signs, x ∈ signCs) : ∀ x ∈ spreadN n signs, x ∈ signCs := fun x hx => by
  have h46 : ∀ k, x ∈ List.replicate k 46 → x ∈ signCs := fun k hm => by rw [(List.mem_replicate.mp hm).2]; decide
  unfold spreadN at hx
  rcases List.mem_append.mp hx with hx | hx
  · rcases List.mem_append.mp hx with hx | hx
    · exact h46 _ hx
    · rcases joinN_mem _ _ _ hx with q | q
      · exact h46 _ q
      · exact h x q
  · exact h46 _ hx
noncomputable def headN (x : Str) : Nat := x.cps.toList.headD 0
theorem rising_ones : ∀ (l : List Nat) (p : Nat), risingS (mkS [p]) (l.map fun c => mkS [c]) = true → (p :: l).Pairwise (· ≤ ·)
  | [], p, _ => by simp
  | x :: r, p, h => by
    have h' : (!ltCps [x] [p] && risingS (mkS [x]) (r.map fun c => mkS [c])) = true := h
    rw [Bool.and_eq_true] at h'
    have h2 := rising_ones r x h'.2
    have h1 : p ≤ x := by
      have := h'.1
      simp [ltCps] at this
      exact this
    rw [List.pairwise_cons]
    refine ⟨fun a ha => ?_, h2⟩
    rcases List.mem_cons.mp ha with rfl | ha
    · exact h1
    · exact Nat.le_trans h1 ((List.pairwise_cons.mp h2).1 a ha)
theorem sorted_unique : ∀ {a b : List Nat}, a.Perm b → a.Pairwise (· ≤ ·) → b.Pairwise (· ≤ ·) → a = b
  | [], b, hp, _, _ => by rw [List.nil_perm.mp hp]
  | x :: a, [], hp, _, _ => by have := hp.length_eq; simp at this
  | x :: a, y :: b, hp, ha, hb => by
    rw [List.pairwise_cons] at ha hb
    have e : x = y := by
      have h1 : x ∈ y :: b := hp.mem_iff.mp (.head _)
      have h2 : y ∈ x :: a := hp.mem_iff.mpr (.head _)
      rcases List.mem_cons.mp h1 with q | q
      · exact q
      · rcases List.mem_cons.mp h2 with q2 | q2
        · exact q2.symm
        · exact Nat.le_antisymm (ha.1 y q2) (hb.1 x q)
    subst e
    rw [sorted_unique (List.Perm.cons_inv hp) ha.2 hb.2]
theorem text_of {ss : List Str} {signs text : List Nat} (hp : ss.Perm (signs.map fun c => mkS [c])) (hs : sortedS ss = true) (h1 : text.Perm signs) (h2 : text.Pairwise (· ≤ ·)) : ss = text.map fun c => mkS [c] := by
  have e : ss = (ss.map headN).map fun c => mkS [c] := by
    rw [List.map_map]
    refine (List.map_id ss).symm.trans (List.map_congr_left fun x hx => ?_)
    obtain ⟨c, _, rfl⟩ := List.mem_map.mp (hp.mem_iff.mp hx)
    rfl
  have hpc : (ss.map headN).Perm signs := by
    refine (hp.map headN).trans ?_
    rw [List.map_map]
    refine List.Perm.of_eq ((List.map_congr_left fun c _ => ?_).trans (List.map_id signs))
    rfl
  generalize ss.map headN = cs at e hpc
  subst e
  congr 1
  refine sorted_unique (hpc.trans h1.symm) ?_ h2
  cases cs with
  | nil => exact .nil
  | cons p l => exact rising_ones l p hs
end

section
/-- strictly rising -/
noncomputable def Up (f : Nat → Int) : Prop := ∀ x y, x < y → f x < f y
theorem Up.lt {f : Nat → Int} (h : Up f) {x y : Nat} : f x < f y ↔ x < y := by
  constructor
  · intro q
    rcases Nat.lt_trichotomy x y with z | z | z
    · exact z
    · subst z; lia
    · have := h _ _ z; lia
  · exact h x y
theorem Up.le {f : Nat → Int} (h : Up f) {x y : Nat} : f x ≤ f y ↔ x ≤ y := by
  have := h.lt (x := y) (y := x)
  lia
theorem Up.inj {f : Nat → Int} (h : Up f) {x y : Nat} : f x = f y ↔ x = y := by
  have a := h.le (x := x) (y := y)
  have b := h.le (x := y) (y := x)
  lia
theorem map_getD {f : Nat → Int} {l : List Nat} {i : Nat} (h : i < l.length) : (l.map f).getD i 0 = f (l.getD i 0) := by simp [h]
noncomputable def brN (l : List Nat) (x : Nat) : Nat → Nat → Nat → Nat
  | 0, lo, _ => lo
  | f + 1, lo, hi => if lo < hi then (if x < l.getD ((lo + hi) / 2) 0 then brN l x f lo ((lo + hi) / 2) else brN l x f ((lo + hi) / 2 + 1) hi) else lo
noncomputable def blN (l : List Nat) (x : Nat) : Nat → Nat → Nat → Nat
  | 0, lo, _ => lo
  | f + 1, lo, hi => if lo < hi then (if l.getD ((lo + hi) / 2) 0 < x then blN l x f ((lo + hi) / 2 + 1) hi else blN l x f lo ((lo + hi) / 2)) else lo
theorem mid_nat (lo hi : Nat) : Int.fdiv ((lo : Int) + (hi : Int)) 2 = (((lo + hi) / 2 : Nat) : Int) := by
  rw [Int.fdiv_eq_ediv_of_nonneg _ (by decide)]
  lia
theorem brI_map {f : Nat → Int} (hf : Up f) (l : List Nat) (x : Nat) : ∀ (k lo hi : Nat), hi ≤ l.length → brI (l.map f) (f x) k lo hi = (brN l x k lo hi : Nat) := by
  intro k
  induction k with
  | zero => intro lo hi _; rfl
  | succ k ih =>
    intro lo hi h
    simp only [brI, brN, mid_nat, Int.toNat_natCast]
    by_cases q : lo < hi
    · have m : (lo + hi) / 2 < l.length := by lia
      rw [if_pos (by lia), if_pos q, map_getD m]
      by_cases q2 : x < l.getD ((lo + hi) / 2) 0
      · rw [if_pos (hf.lt.mpr q2), if_pos q2, ih _ _ (by lia)]
      · rw [if_neg (fun z => q2 (hf.lt.mp z)), if_neg q2]
        exact ih ((lo + hi) / 2 + 1) hi h
    · rw [if_neg (by lia), if_neg q]
theorem blI_map {f : Nat → Int} (hf : Up f) (l : List Nat) (x : Nat) : ∀ (k lo hi : Nat), hi ≤ l.length → blI (l.map f) (f x) k lo hi = (blN l x k lo hi : Nat) := by
  intro k
  induction k with
  | zero => intro lo hi _; rfl
  | succ k ih =>
    intro lo hi h
    simp only [blI, blN, mid_nat, Int.toNat_natCast]
    by_cases q : lo < hi
    · have m : (lo + hi) / 2 < l.length := by lia
      rw [if_pos (by lia), if_pos q, map_getD m]
      by_cases q2 : l.getD ((lo + hi) / 2) 0 < x
      · rw [if_pos (hf.lt.mpr q2), if_pos q2]
        exact ih ((lo + hi) / 2 + 1) hi h
      · rw [if_neg (fun z => q2 (hf.lt.mp z)), if_neg q2, ih _ _ (by lia)]
    · rw [if_neg (by lia), if_neg q]
noncomputable def bN (b : Bool) (l : List Nat) (x : Nat) : Nat := if b then blN l x l.length 0 l.length else brN l x l.length 0 l.length
theorem blF_map {f : Nat → Int} (hf : Up f) (l : List Nat) (x : Nat) : blF (l.map f) (f x) = (blN l x l.length 0 l.length : Nat) := by
  have := blI_map hf l x l.length 0 l.length (Nat.le_refl _)
  unfold blF
  simpa using this
theorem bF_map {f : Nat → Int} (hf : Up f) (b : Bool) (l : List Nat) (x : Nat) : bF b (l.map f) (f x) = (bN b l x : Nat) := by
  cases b
  · have := brI_map hf l x l.length 0 l.length (Nat.le_refl _)
    unfold bF bN brF
    simpa using this
  · exact blF_map hf l x
theorem bN_le {f : Nat → Int} (hf : Up f) (b : Bool) (l : List Nat) (x : Nat) : bN b l x ≤ l.length := by
  have := (bF_bound b (l.map f) (f x)).2
  rw [bF_map hf, List.length_map] at this
  lia
noncomputable def insN (b : Bool) : List (List Nat) → Nat → List (List Nat) × Nat
  | [], x => ([[x]], 0)
  | l :: ls, x =>
    let p := bN b l x
    if p = l.length then ((l ++ [x]) :: ls, 0)
    else
      let q := insN b ls (l.getD p 0)
      (l.set p x :: q.1, q.2 + 1)
theorem insF_map {f : Nat → Int} (hf : Up f) (b : Bool) : ∀ (ls : List (List Nat)) (x : Nat), insF b (ls.map (List.map f)) (f x) = ((insN b ls x).1.map (List.map f), (insN b ls x).2)
  | [], x => rfl
  | l :: ls, x => by
    simp only [List.map_cons, insF, insN, bF_map hf, List.length_map, Int.toNat_natCast]
    have hle := bN_le hf b l x
    by_cases h : bN b l x = l.length
    · rw [if_pos (by lia), if_pos h]
      simp
    · rw [if_neg (by lia), if_neg h, map_getD (by lia), insF_map hf b ls]
      simp [List.map_set]
noncomputable def tabNStep (b : Bool) (c : List (List Nat) × List Nat) (x : Nat) : List (List Nat) × List Nat :=
  let q := insN b c.1 x
  (q.1, c.2 ++ [q.2])
noncomputable def tabN (b : Bool) (row : List Nat) : List (List Nat) × List Nat := row.foldl (tabNStep b) ([], [])
theorem tabF_map {f : Nat → Int} (hf : Up f) (b : Bool) (row : List Nat) : tabF b (row.map f) = ((tabN b row).1.map (List.map f), natI (tabN b row).2) := by
  unfold tabF tabN
  have : ∀ (r : List Nat) (c : List (List Nat) × List Nat), (r.map f).foldl (tabStep b) (c.1.map (List.map f), natI c.2) = (((r.foldl (tabNStep b) c).1).map (List.map f), natI (r.foldl (tabNStep b) c).2) := by
    intro r
    induction r with
    | nil => intro c; rfl
    | cons x r ih =>
      intro c
      rw [List.map_cons, List.foldl_cons, List.foldl_cons]
      have e : tabStep b (c.1.map (List.map f), natI c.2) (f x) = ((tabNStep b c x).1.map (List.map f), natI (tabNStep b c x).2) := by
        unfold tabStep tabNStep natI
        simp [insF_map hf]
      rw [e, ih]
  exact this row ([], [])
noncomputable def turnN (one : List Nat) (k : Nat) : List Nat :=
  let a := one.getD k 0
  let b := one.getD (k + 1) 0
  let c := one.getD (k + 2) 0
  if min b c < a ∧ a ≤ max b c then one.take (k + 1) ++ [c, b] ++ one.drop (k + 3)
  else if min a b ≤ c ∧ c < max a b then one.take k ++ [b, a] ++ one.drop (k + 2)
  else one
theorem pyMin_map {f : Nat → Int} (hf : Up f) (a b : Nat) : pyMin (f a) (f b) = f (min a b) := by
  unfold pyMin
  by_cases h : b < a
  · rw [if_pos (hf.lt.mpr h), Nat.min_eq_right (by lia)]
  · rw [if_neg (fun z => h (hf.lt.mp z)), Nat.min_eq_left (by lia)]
theorem pyMax_map {f : Nat → Int} (hf : Up f) (a b : Nat) : pyMax (f a) (f b) = f (max a b) := by
  unfold pyMax
  by_cases h : a < b
  · rw [if_pos (hf.lt.mpr h), Nat.max_eq_right (by lia)]
  · rw [if_neg (fun z => h (hf.lt.mp z)), Nat.max_eq_left (by lia)]
theorem turnF_map {f : Nat → Int} (hf : Up f) {one : List Nat} {k : Nat} (h : k + 2 < one.length) : turnF (one.map f) k = (turnN one k).map f := by
  unfold turnF turnN
  rw [map_getD (by lia), map_getD (by lia), map_getD (by lia)]
  simp only [pyMin_map hf, pyMax_map hf, hf.lt, hf.le]
  split
  · simp [List.map_take, List.map_drop]
  · split
    · simp [List.map_take, List.map_drop]
    · rfl
noncomputable def kinPutN (kin : List (List Nat)) (t : List Nat) : List (List Nat) := if kin.contains t then kin else kin ++ [t]
noncomputable def kinFoldN (one : List Nat) : Nat → List (List Nat) → List (List Nat)
  | 0, kin => kin
  | k + 1, kin => kinPutN (kinFoldN one k kin) (turnN one k)
noncomputable def kinLoopN : Nat → List (List Nat) → Nat → Option (List (List Nat))
  | 0, _, _ => none
  | f + 1, kin, i => if i < kin.length then kinLoopN f (kinFoldN (kin.getD i []) 3 kin) (i + 1) else some kin
theorem map_inj' {f : Nat → Int} (hf : Up f) : ∀ {a b : List Nat}, a.map f = b.map f → a = b
  | [], [], _ => rfl
  | [], _ :: _, h => by simp at h
  | _ :: _, [], h => by simp at h
  | x :: a, y :: b, h => by
    rw [List.map_cons, List.map_cons, List.cons.injEq] at h
    rw [hf.inj.mp h.1, map_inj' hf h.2]
theorem contains_map {f : Nat → Int} (hf : Up f) (kin : List (List Nat)) (t : List Nat) : (kin.map (List.map f)).contains (t.map f) = kin.contains t := by
  induction kin with
  | nil => rfl
  | cons x r ih =>
    rw [List.map_cons, List.contains_cons, List.contains_cons, ih]
    congr 1
    by_cases h : t = x
    · subst h; simp
    · have : t.map f ≠ x.map f := fun z => h (map_inj' hf z)
      have e1 : (t.map f == x.map f) = false := beq_false_of_ne this
      have e2 : (t == x) = false := beq_false_of_ne h
      rw [e1, e2]
theorem turnN_length {one : List Nat} {k : Nat} (h : k + 2 < one.length) : (turnN one k).length = one.length := by
  unfold turnN
  dsimp only
  split
  · simp; lia
  · split
    · simp; lia
    · rfl
theorem kinPutN_all {kin : List (List Nat)} {t : List Nat} (h : ∀ xs ∈ kin, xs.length = 5) (ht : t.length = 5) : ∀ xs ∈ kinPutN kin t, xs.length = 5 := by
  unfold kinPutN
  split
  · exact h
  · intro xs hx
    rcases List.mem_append.mp hx with q | q
    · exact h xs q
    · rw [List.mem_singleton.mp q]; exact ht
theorem kinFold_map {f : Nat → Int} (hf : Up f) {one : List Nat} (h5 : one.length = 5) {kin : List (List Nat)} (hk : ∀ xs ∈ kin, xs.length = 5) : ∀ i, i ≤ 3 → kinFold (one.map f) i (kin.map (List.map f)) = (kinFoldN one i kin).map (List.map f) ∧ ∀ xs ∈ kinFoldN one i kin, xs.length = 5
  | 0, _ => ⟨rfl, hk⟩
  | i + 1, h => by
    obtain ⟨h1, h2⟩ := kinFold_map hf h5 hk i (by lia)
    have ht : (turnN one i).length = 5 := by rw [turnN_length (by lia), h5]
    refine ⟨?_, kinPutN_all h2 ht⟩
    rw [kinFold, h1, turnF_map hf (by lia), kinFoldN, kinPut, kinPutN, contains_map hf]
    split
    · rfl
    · simp
theorem kinLoop_map {f : Nat → Int} (hf : Up f) : ∀ (k : Nat) (kin : List (List Nat)) (i : Nat), (∀ xs ∈ kin, xs.length = 5) → kinLoop k (kin.map (List.map f)) i = (kinLoopN k kin i).map (List.map (List.map f))
  | 0, _, _, _ => rfl
  | k + 1, kin, i, h => by
    simp only [kinLoop, kinLoopN, List.length_map]
    by_cases q : i < kin.length
    · rw [if_pos q, if_pos q]
      have e1 : (kin.map (List.map f)).getD i [] = (kin.getD i []).map f := by simp [q]
      have e2 : (kin.getD i []).length = 5 := by
        rw [List.getD_eq_getElem?_getD, List.getElem?_eq_getElem q]
        exact h _ (List.getElem_mem _)
      obtain ⟨h1, h2⟩ := kinFold_map hf e2 h 3 (Nat.le_refl _)
      rw [e1, h1, kinLoop_map hf k _ _ h2]
    · rw [if_neg q, if_neg q]
      rfl
noncomputable def upN : Nat → List (List Nat) → Nat → Option (List (List Nat) × Nat)
  | 0, xss, y => some (xss, y)
  | j + 1, xss, y =>
    let l := xss.getD j []
    let p := blN l y l.length 0 l.length
    if 1 ≤ p then upN j (xss.set j (l.set (p - 1) y)) (l.getD (p - 1) 0) else none
noncomputable def backN : List Nat → List (List Nat) → List Nat → Option (List Nat)
  | [], _, row => some row
  | d :: ds, xss, row => if d < xss.length ∧ 0 < (xss.getD d []).length then
      (match upN d (xss.set d (xss.getD d []).dropLast) ((xss.getD d []).getLastD 0) with
        | some r => backN ds r.1 (row ++ [r.2])
        | none => none)
    else none
theorem map_getD' {f : Nat → Int} {l : List (List Nat)} {i : Nat} : (l.map (List.map f)).getD i [] = (l.getD i []).map f := by
  by_cases h : i < l.length <;> simp [h]
theorem upF_map {f : Nat → Int} (hf : Up f) : ∀ (d : Nat) (xss : List (List Nat)) (y : Nat), upF d (xss.map (List.map f)) (f y) = (upN d xss y).map fun q => (q.1.map (List.map f), f q.2)
  | 0, _, _ => rfl
  | j + 1, xss, y => by
    simp only [upF, upN, map_getD', blF_map hf]
    generalize hl : xss.getD j [] = l
    have hle : blN l y l.length 0 l.length ≤ l.length := bN_le hf true l y
    by_cases h : 1 ≤ blN l y l.length 0 l.length
    · rw [if_pos (by lia), if_pos h]
      have e : (((blN l y l.length 0 l.length : Nat) : Int) - 1).toNat = blN l y l.length 0 l.length - 1 := by lia
      rw [e, map_getD (by lia), ← List.map_set, ← List.map_set, upF_map hf j]
    · rw [if_neg (by lia), if_neg h]
      rfl
theorem backF_map {f : Nat → Int} (hf : Up f) : ∀ (ds : List Nat) (xss : List (List Nat)) (row : List Nat), backF (natI ds) (xss.map (List.map f)) (row.map f) = (backN ds xss row).map (List.map f)
  | [], _, _ => rfl
  | d :: ds, xss, row => by
    simp only [natI, List.map_cons, backF, backN, Int.toNat_natCast, List.length_map, map_getD']
    by_cases h : d < xss.length ∧ 0 < (xss.getD d []).length
    · rw [if_pos ⟨by lia, by lia, h.2⟩, if_pos h]
      have e : (List.map f (xss.getD d [])).getLastD 0 = f ((xss.getD d []).getLastD 0) := by
        have := h.2
        generalize xss.getD d [] = l at *
        cases l with
        | nil => simp at this
        | cons x r =>
          rw [List.getLastD_eq_getLast?, List.getLastD_eq_getLast?, List.getLast?_map, List.getLast?_eq_getLast (List.cons_ne_nil x r)]
          rfl
      rw [e, ← List.map_dropLast, ← List.map_set, upF_map hf]
      cases upN d (xss.set d (xss.getD d []).dropLast) ((xss.getD d []).getLastD 0) with
      | none => rfl
      | some r =>
        dsimp only [Option.map_some]
        have := backF_map hf ds r.1 (row ++ [r.2])
        rw [List.map_append] at this
        exact this
    · rw [if_neg (fun z => h ⟨by lia, z.2.2⟩), if_neg h]
      rfl
end

section
noncomputable def fallsN (one : List Nat) : List Nat := [1, 2, 3, 4].filter fun k => Nat.blt (one.getD k 0) (one.getD (k - 1) 0)
noncomputable def risesN (rests : List Nat) : List Nat := [1, 2, 3, 4].filter fun k => Nat.blt (rests.getD (k - 1) 0) (rests.getD k 0)
noncomputable def colsN (tab : List (List Nat)) : List (List Nat) := (List.range (tab.headD []).length).map fun k => (tab.filter fun l => Nat.blt k l.length).map fun l => l.getD k 0
noncomputable def shapes : List (List Nat) := [[5], [4, 1], [3, 2], [3, 1, 1], [2, 2, 1], [2, 1, 1, 1], [1, 1, 1, 1, 1]]
/-- how many standard fillings have falls of each sum, from the least sum on -/
noncomputable def qdig : List Nat → List Nat
  | [5] => [1]
  | [4, 1] => [1, 1, 1, 1]
  | [3, 2] => [1, 1, 1, 1, 1]
  | [3, 1, 1] => [1, 1, 2, 1, 1]
  | [2, 2, 1] => [1, 1, 1, 1, 1]
  | [2, 1, 1, 1] => [1, 1, 1, 1]
  | _ => [1]
noncomputable def weightFrom : Nat → List Nat → Nat
  | _, [] => 0
  | d, x :: r => d * x + weightFrom (d + 1) r
noncomputable def countsN (sums : List Nat) : List Nat := (List.range (sums.foldl max 0 + 1)).map fun k => sums.count k
noncomputable def levInN (ch : Nat) : List Nat → List Nat → Nat → Nat → Nat → List Nat × Nat × Nat
  | x :: as, y :: row, d, r, mn =>
    let r' := min (min r y + 2) (d + if ch = x then 0 else 2)
    let q := levInN ch as row y r' (if r' < mn then r' else mn)
    (r' :: q.1, q.2)
  | _, _, _, r, mn => ([], r, mn)
noncomputable def levOutN (as : List Nat) (c : Nat) : List Nat → Nat → List Nat → Nat → Nat
  | [], _, _, res => res
  | ch :: bs, i, row, _ =>
    let q := levInN ch as row (i * 2) (i * 2) 9223372036854775807
    if c < q.2.2 then c + 1 else levOutN as c bs (i + 1) q.1 q.2.1
noncomputable def levCoreN (a b : List Nat) (c : Nat) : Nat :=
  if c < (b.length - a.length) * 2 then c + 1
  else levOutN a c b 0 ((List.range a.length).map fun k => 2 + 2 * k) 0
noncomputable def levCutN (a b : List Nat) (c : Nat) : Nat :=
  if a = [] ∨ b = [] then 2 * (a.length + b.length)
  else if b.length < a.length then levCoreN b a c else levCoreN a b c
noncomputable def levN (a b : List Nat) (c : Nat) : Nat :=
  if a = b then 0
  else
    let a1 := a.drop (preF a b)
    let b1 := b.drop (preF a b)
    levCutN (cutS a1 b1) (cutS b1 a1) c
noncomputable def putN (x : Nat) : List Nat → List Nat
  | [] => [x]
  | y :: r => if x ≤ y then x :: y :: r else y :: putN x r
noncomputable def sortN : List Nat → List Nat
  | [] => []
  | x :: r => putN x (sortN r)
noncomputable def unlikeN (r : List Nat) : List Nat := [0, 1, 2, 3, 4].filter fun k => r.contains k
noncomputable def signsN (r : List Nat) : List Nat := r.map fun x => 97 + blN (unlikeN r) x (unlikeN r).length 0 (unlikeN r).length
noncomputable def dueN (text : List Nat) (signs : List Nat) (len : Nat) : Nat := 2 * ((spreadN text.length signs).length - len)
noncomputable def levOk (text signs : List Nat) (len : Nat) : Bool := len ≤ (spreadN text.length signs).length && levN text (spreadN text.length signs) (dueN text signs len) == dueN text signs len
noncomputable def kinOk (r : List Nat) : Bool :=
  match kinLoopN 20 [r] 0 with
  | none => false
  | some kin =>
    let tab := (tabN false r).1
    let shape := tab.map List.length
    let last := kin.getLastD []
    kin.head? == some r && shapes.contains shape && kin.all (fun one => let t := tabN false one; t.1 == tab && risesN t.2 == fallsN one)
      && (tabN true last.reverse).1 == colsN tab && backN (tabN false last).2.reverse tab [] == some last.reverse
      && countsN (kin.map fun one => (fallsN one).sum) == List.replicate (weightFrom 0 shape) 0 ++ qdig shape
noncomputable def textOk (r : List Nat) : Bool :=
  let tab := (tabN false r).1
  levOk (sortN (signsN r)) (signsN r) (tab.headD []).length && levOk ([101, 100, 99, 98, 97].drop (5 - (unlikeN r).length)) (signsN r) tab.length
noncomputable def gapless (r : List Nat) : Bool := r.all fun x => x == 0 || r.contains (x - 1)
noncomputable def lists : Nat → List (List Nat)
  | 0 => [[]]
  | n + 1 => (lists n).flatMap fun l => [0, 1, 2, 3, 4].map fun x => x :: l
noncomputable def pats : List (List Nat) := (lists 5).filter gapless
end

section
set_option maxRecDepth 100000
noncomputable def strictN {α : Type} (n : Nat) (k : Nat → α) : α := match n with | 0 => k 0 | m + 1 => k (m + 1)
theorem strictN_eq {α : Type} (n : Nat) (k : Nat → α) : strictN n k = k n := by cases n <;> rfl
noncomputable def normL {α : Type} : List Nat → (List Nat → α) → α
  | [], k => k []
  | x :: l, k => strictN x fun x' => normL l fun l' => k (x' :: l')
theorem normL_eq {α : Type} : ∀ (l : List Nat) (k : List Nat → α), normL l k = k l
  | [], k => rfl
  | x :: l, k => by rw [normL, strictN_eq, normL_eq l]
noncomputable def normLL {α : Type} : List (List Nat) → (List (List Nat) → α) → α
  | [], k => k []
  | x :: l, k => normL x fun x' => normLL l fun l' => k (x' :: l')
theorem normLL_eq {α : Type} : ∀ (l : List (List Nat)) (k : List (List Nat) → α), normLL l k = k l
  | [], k => rfl
  | x :: l, k => by rw [normLL, normL_eq, normLL_eq l]
noncomputable def eqL : List Nat → List Nat → Bool
  | [], [] => true
  | x :: a, y :: b => Nat.beq x y && eqL a b
  | _, _ => false
theorem eqL_iff : ∀ {a b : List Nat}, eqL a b = true ↔ a = b
  | [], [] => by simp [eqL]
  | [], _ :: _ => by simp [eqL]
  | _ :: _, [] => by simp [eqL]
  | x :: a, y :: b => by simp [eqL, eqL_iff (a := a) (b := b)]
noncomputable def eqLL : List (List Nat) → List (List Nat) → Bool
  | [], [] => true
  | x :: a, y :: b => eqL x y && eqLL a b
  | _, _ => false
theorem eqLL_iff : ∀ {a b : List (List Nat)}, eqLL a b = true ↔ a = b
  | [], [] => by simp [eqLL]
  | [], _ :: _ => by simp [eqLL]
  | _ :: _, [] => by simp [eqLL]
  | x :: a, y :: b => by simp [eqLL, eqL_iff, eqLL_iff (a := a) (b := b)]
noncomputable def hasL (t : List Nat) : List (List Nat) → Bool
  | [] => false
  | x :: l => eqL t x || hasL t l
theorem hasL_iff {t : List Nat} : ∀ {l : List (List Nat)}, hasL t l = true ↔ t ∈ l
  | [] => by simp [hasL]
  | x :: l => by simp [hasL, eqL_iff, hasL_iff (l := l)]
noncomputable def tri {α : Type} (a b c : Nat) (k : Nat → Nat → Nat → α) : α :=
  bif (Nat.blt b a || Nat.blt c a) && (Nat.ble a b || Nat.ble a c) then k a c b
  else bif (Nat.ble a c || Nat.ble b c) && (Nat.blt c a || Nat.blt c b) then k b a c else k a b c
noncomputable def turns {α : Type} : List Nat → (List Nat → List Nat → List Nat → α) → α
  | [a, b, c, d, e], k => tri a b c fun x y z => tri b c d fun x1 y1 z1 => tri c d e fun x2 y2 z2 => k [x, y, z, d, e] [a, x1, y1, z1, e] [a, b, x2, y2, z2]
  | l, k => k l l l
noncomputable def snocL : List (List Nat) → List Nat → List (List Nat)
  | [], t => [t]
  | x :: l, t => x :: snocL l t
theorem snocL_eq : ∀ l t, snocL l t = l ++ [t]
  | [], t => rfl
  | x :: l, t => by rw [snocL, snocL_eq l, List.cons_append]
noncomputable def putC (t : List Nat) (done todo : List (List Nat)) (k : List (List Nat) → Bool) : Bool := bif hasL t done || hasL t todo then k todo else k (snocL todo t)
/-- breadth first: what is done (last first), and the queue -/
noncomputable def kinC : Nat → List (List Nat) → List (List Nat) → (List (List Nat) → Bool) → Bool
  | 0, _, _, _ => false
  | f + 1, done, todo, k => match todo with
    | [] => k done
    | one :: rest => turns one fun t0 t1 t2 =>
      putC t0 (one :: done) rest fun rest => putC t1 (one :: done) rest fun rest => putC t2 (one :: done) rest fun rest => kinC f (one :: done) rest k
noncomputable def dropsAt (i : Nat) : List Nat → List Nat
  | x :: l => match l with
    | [] => []
    | y :: _ => bif Nat.blt y x then i :: dropsAt (i + 1) l else dropsAt (i + 1) l
  | [] => []
noncomputable def risesAt (i : Nat) : List Nat → List Nat
  | x :: l => match l with
    | [] => []
    | y :: _ => bif Nat.blt x y then i :: risesAt (i + 1) l else risesAt (i + 1) l
  | [] => []
noncomputable def allC : List (List Nat) → (List Nat → Bool) → Bool
  | [], _ => true
  | x :: l, p => p x && allC l p
theorem allC_iff {p : List Nat → Bool} : ∀ {l : List (List Nat)}, allC l p = true ↔ ∀ x ∈ l, p x = true
  | [] => by simp [allC]
  | x :: l => by simp [allC, allC_iff (l := l)]
noncomputable def sumL : List Nat → Nat
  | [] => 0
  | x :: l => x + sumL l
noncomputable def mapSums : List (List Nat) → (List Nat → Bool) → Bool
  | [], k => k []
  | x :: l, k => strictN (sumL (dropsAt 1 x)) fun s => mapSums l fun r => k (s :: r)
theorem mapSums_eq : ∀ (l : List (List Nat)) (k : List Nat → Bool), mapSums l k = k (l.map fun x => sumL (dropsAt 1 x))
  | [], k => rfl
  | x :: l, k => by rw [mapSums, strictN_eq, mapSums_eq l]; rfl
noncomputable def hasShape (s : List Nat) : Bool := hasL s shapes
noncomputable def chkKin (r : List Nat) : Bool :=
  kinC 100 [] [r] fun done => normLL (tabN false r).1 fun tab =>
    allC done (fun one => normL (tabN false one).2 fun ds => eqLL (tabN false one).1 tab && Nat.beq ds.length 5 && eqL (risesAt 1 ds) (dropsAt 1 one))
    && (normL (tab.map List.length) fun shape => hasShape shape
    && eqLL (tabN true (done.headD []).reverse).1 (colsN tab)
    && (match backN (tabN false (done.headD [])).2.reverse tab [] with | some b => eqL b (done.headD []).reverse | none => false)
    && mapSums done.reverse fun sums => eqL (countsN sums) (List.replicate (weightFrom 0 shape) 0 ++ qdig shape))
noncomputable def minB (a b : Nat) : Nat := bif Nat.ble a b then a else b
/-- one row of the distance -/
noncomputable def rowC {α : Type} (ch : Nat) : List Nat → List Nat → Nat → Nat → Nat → (List Nat → Nat → Nat → α) → α
  | x :: as, y :: row, d, r, mn, k =>
    strictN (minB (minB r y + 2) (bif Nat.beq ch x then d else d + 2)) fun r' => strictN (minB r' mn) fun mn => rowC ch as row y r' mn fun row' res mn => k (r' :: row') res mn
  | _, _, _, r, mn, k => k [] r mn
noncomputable def outC (as : List Nat) (c : Nat) : List Nat → Nat → List Nat → Nat → Nat
  | [], _, _, res => res
  | ch :: bs, i, row, _ => rowC ch as row i i 9223372036854775807 fun row' res mn => bif Nat.blt c mn then c + 1 else strictN (i + 2) fun i => outC as c bs i row' res
noncomputable def chkLev (text signs : List Nat) (len : Nat) : Bool := normL (spreadN text.length signs) fun sp => strictN (2 * (sp.length - len)) fun due =>
  Nat.ble len sp.length && Nat.ble text.length sp.length && Nat.ble ((sp.length - text.length) * 2) due && Nat.beq (outC text due sp 0 ((List.range text.length).map fun k => 2 + 2 * k) 0) due
noncomputable def chkText (r : List Nat) : Bool :=
  normL (signsN r) fun signs => normL ((tabN false r).1.map List.length) fun shape =>
    normL (sortN signs) (fun text => chkLev text signs (shape.headD 0)) && (Nat.beq (unlikeN r).length 1 || normL ([101, 100, 99, 98, 97].drop (5 - (unlikeN r).length)) (fun text => chkLev text signs shape.length))
noncomputable def gapB (r : List Nat) : Bool := r.all fun x => Nat.beq x 0 || r.any fun y => Nat.beq (y + 1) x
theorem kin0 : ((lists 4).all fun t => bif gapB (0 :: t) then chkKin (0 :: t) else true) = true := by decide +kernel
theorem kin1 : ((lists 4).all fun t => bif gapB (1 :: t) then chkKin (1 :: t) else true) = true := by decide +kernel
theorem kin2 : ((lists 4).all fun t => bif gapB (2 :: t) then chkKin (2 :: t) else true) = true := by decide +kernel
theorem kin3 : ((lists 4).all fun t => bif gapB (3 :: t) then chkKin (3 :: t) else true) = true := by decide +kernel
theorem kin4 : ((lists 4).all fun t => bif gapB (4 :: t) then chkKin (4 :: t) else true) = true := by decide +kernel
theorem txt0 : ((lists 4).all fun t => bif gapB (0 :: t) then chkText (0 :: t) else true) = true := by decide +kernel
theorem txt1 : ((lists 4).all fun t => bif gapB (1 :: t) then chkText (1 :: t) else true) = true := by decide +kernel
theorem txt2 : ((lists 4).all fun t => bif gapB (2 :: t) then chkText (2 :: t) else true) = true := by decide +kernel
theorem txt3 : ((lists 4).all fun t => bif gapB (3 :: t) then chkText (3 :: t) else true) = true := by decide +kernel
theorem txt4 : ((lists 4).all fun t => bif gapB (4 :: t) then chkText (4 :: t) else true) = true := by decide +kernel
theorem mem_lists : ∀ (n : Nat) (t : List Nat), t.length = n → (∀ x ∈ t, x < 5) → t ∈ lists n
  | 0, [], _, _ => .head _
  | n + 1, x :: t, hl, hx => by
    unfold lists
    refine List.mem_flatMap.mpr ⟨t, mem_lists n t (by simpa using hl) fun y hy => hx y (.tail _ hy), List.mem_map.mpr ⟨x, ?_, rfl⟩⟩
    have := hx x (.head _)
    simp
    lia
theorem all_pats (P : List Nat → Bool) (h0 : ((lists 4).all fun t => bif gapB (0 :: t) then P (0 :: t) else true) = true) (h1 : ((lists 4).all fun t => bif gapB (1 :: t) then P (1 :: t) else true) = true)
    (h2 : ((lists 4).all fun t => bif gapB (2 :: t) then P (2 :: t) else true) = true) (h3 : ((lists 4).all fun t => bif gapB (3 :: t) then P (3 :: t) else true) = true) (h4 : ((lists 4).all fun t => bif gapB (4 :: t) then P (4 :: t) else true) = true)
    {r : List Nat} (hl : r.length = 5) (hx : ∀ x ∈ r, x < 5) (hg : gapB r = true) : P r = true := by
  cases r with
  | nil => simp at hl
  | cons a t =>
    have ht := mem_lists 4 t (by simpa using hl) fun y hy => hx y (.tail _ hy)
    have ha := hx a (.head _)
    have go : ∀ a', a = a' → ((lists 4).all fun t => bif gapB (a' :: t) then P (a' :: t) else true) = true → P (a :: t) = true := fun a' e h => by
      subst e
      have := List.all_eq_true.mp h t ht
      rw [hg] at this
      exact this
    have : a = 0 ∨ a = 1 ∨ a = 2 ∨ a = 3 ∨ a = 4 := by lia
    rcases this with e | e | e | e | e
    · exact go _ e h0
    · exact go _ e h1
    · exact go _ e h2
    · exact go _ e h3
    · exact go _ e h4
theorem chkKin_all {r : List Nat} (hl : r.length = 5) (hx : ∀ x ∈ r, x < 5) (hg : gapB r = true) : chkKin r = true := all_pats chkKin kin0 kin1 kin2 kin3 kin4 hl hx hg
theorem chkText_all {r : List Nat} (hl : r.length = 5) (hx : ∀ x ∈ r, x < 5) (hg : gapB r = true) : chkText r = true := all_pats chkText txt0 txt1 txt2 txt3 txt4 hl hx hg
end

section
theorem nmin_lt {a b c : Nat} : min b c < a ↔ b < a ∨ c < a := by
  rw [← Nat.not_le, Nat.le_min, Decidable.not_and_iff_or_not, Nat.not_le, Nat.not_le]
theorem nlt_max {a b c : Nat} : a < max b c ↔ a < b ∨ a < c := by
  rw [← Nat.not_le, Nat.max_le, Decidable.not_and_iff_or_not, Nat.not_le, Nat.not_le]
theorem tri_eq {α : Type} (a b c : Nat) (k : Nat → Nat → Nat → α) : tri a b c k = if min b c < a ∧ a ≤ max b c then k a c b else if min a b ≤ c ∧ c < max a b then k b a c else k a b c := by
  unfold tri
  have e1 : ((Nat.blt b a || Nat.blt c a) && (Nat.ble a b || Nat.ble a c)) = decide (min b c < a ∧ a ≤ max b c) := by
    rw [Bool.eq_iff_iff, Bool.and_eq_true, Bool.or_eq_true, Bool.or_eq_true, decide_eq_true_iff, nmin_lt, Std.le_max, Nat.blt_eq, Nat.blt_eq, Nat.ble_eq, Nat.ble_eq]
  have e2 : ((Nat.ble a c || Nat.ble b c) && (Nat.blt c a || Nat.blt c b)) = decide (min a b ≤ c ∧ c < max a b) := by
    rw [Bool.eq_iff_iff, Bool.and_eq_true, Bool.or_eq_true, Bool.or_eq_true, decide_eq_true_iff, Std.min_le, nlt_max, Nat.blt_eq, Nat.blt_eq, Nat.ble_eq, Nat.ble_eq]
  rw [e1, e2]
  by_cases h1 : min b c < a ∧ a ≤ max b c
  · rw [if_pos h1, decide_eq_true h1]; rfl
  · rw [if_neg h1, decide_eq_false h1]
    by_cases h2 : min a b ≤ c ∧ c < max a b
    · rw [if_pos h2, decide_eq_true h2]; rfl
    · rw [if_neg h2, decide_eq_false h2]; rfl
noncomputable def tri3 (a b c : Nat) : Nat × Nat × Nat := if min b c < a ∧ a ≤ max b c then (a, c, b) else if min a b ≤ c ∧ c < max a b then (b, a, c) else (a, b, c)
theorem tri_3 {α : Type} (a b c : Nat) (k : Nat → Nat → Nat → α) : tri a b c k = k (tri3 a b c).1 (tri3 a b c).2.1 (tri3 a b c).2.2 := by
  rw [tri_eq]
  unfold tri3
  split
  · rfl
  · split <;> rfl
theorem turns_eq {α : Type} {one : List Nat} (h : one.length = 5) (k : List Nat → List Nat → List Nat → α) : turns one k = k (turnN one 0) (turnN one 1) (turnN one 2) := by
  match one, h with
  | [a, b, c, d, e], _ =>
    have t0 : turnN [a, b, c, d, e] 0 = [(tri3 a b c).1, (tri3 a b c).2.1, (tri3 a b c).2.2, d, e] := by
      show (if min b c < a ∧ a ≤ max b c then [a, c, b, d, e] else if min a b ≤ c ∧ c < max a b then [b, a, c, d, e] else [a, b, c, d, e]) = _
      unfold tri3
      split
      · rfl
      · split <;> rfl
    have t1 : turnN [a, b, c, d, e] 1 = [a, (tri3 b c d).1, (tri3 b c d).2.1, (tri3 b c d).2.2, e] := by
      show (if min c d < b ∧ b ≤ max c d then [a, b, d, c, e] else if min b c ≤ d ∧ d < max b c then [a, c, b, d, e] else [a, b, c, d, e]) = _
      unfold tri3
      split
      · rfl
      · split <;> rfl
    have t2 : turnN [a, b, c, d, e] 2 = [a, b, (tri3 c d e).1, (tri3 c d e).2.1, (tri3 c d e).2.2] := by
      show (if min d e < c ∧ c ≤ max d e then [a, b, c, e, d] else if min c d ≤ e ∧ e < max c d then [a, b, d, c, e] else [a, b, c, d, e]) = _
      unfold tri3
      split
      · rfl
      · split <;> rfl
    rw [t0, t1, t2]
    simp only [turns, tri_3]
noncomputable def putR (t : List Nat) (done todo : List (List Nat)) : List (List Nat) := bif hasL t done || hasL t todo then todo else todo ++ [t]
theorem putC_eq (t done todo k) : putC t done todo k = k (putR t done todo) := by
  unfold putC putR
  rw [snocL_eq]
  cases (hasL t done || hasL t todo) <;> rfl
theorem putR_eq (t : List Nat) (done todo : List (List Nat)) : kinPutN (done.reverse ++ todo) t = done.reverse ++ putR t done todo := by
  unfold kinPutN putR
  by_cases h : t ∈ done.reverse ++ todo
  · rw [if_pos (List.contains_iff_mem.mpr h)]
    have : (hasL t done || hasL t todo) = true := by
      rw [Bool.or_eq_true, hasL_iff, hasL_iff]
      simpa using h
    rw [this]; rfl
  · rw [if_neg (fun q => h (List.contains_iff_mem.mp q))]
    have : (hasL t done || hasL t todo) = false := by
      rw [Bool.eq_false_iff, ne_eq, Bool.or_eq_true, hasL_iff, hasL_iff]
      simpa using h
    rw [this]
    simp
theorem putR_all {t : List Nat} {done todo : List (List Nat)} {P : List Nat → Prop} (h : ∀ x ∈ todo, P x) (ht : P t) : ∀ x ∈ putR t done todo, P x := fun x hx => by
  unfold putR at hx
  cases hb : (hasL t done || hasL t todo)
  · rw [hb] at hx
    rcases List.mem_append.mp hx with q | q
    · exact h x q
    · rw [List.mem_singleton.mp q]; exact ht
  · rw [hb] at hx; exact h x hx
theorem kinC_eq : ∀ (f : Nat) (done todo : List (List Nat)) (k : List (List Nat) → Bool), (∀ x ∈ todo, x.length = 5) →
    kinC f done todo k = match kinLoopN f (done.reverse ++ todo) done.length with | some kin => k kin.reverse | none => false
  | 0, done, todo, k, h => rfl
  | f + 1, done, [], k, h => by
    unfold kinC kinLoopN
    rw [if_neg (by simp)]
    simp
  | f + 1, done, one :: rest, k, h => by
    have h1 := h one (.head _)
    have hr : ∀ x ∈ rest, x.length = 5 := fun x hx => h x (.tail _ hx)
    have ht : ∀ j, j < 3 → (turnN one j).length = 5 := fun j hj => (turnN_length (by lia)).trans h1
    unfold kinC kinLoopN
    dsimp only
    rw [turns_eq h1, putC_eq, putC_eq, putC_eq, if_pos (by simp)]
    have e1 : (done.reverse ++ one :: rest).getD done.length [] = one := by
      rw [List.getD_eq_getElem?_getD, List.getElem?_append_right (by simp)]
      simp
    have e2 : done.reverse ++ one :: rest = (one :: done).reverse ++ rest := by simp
    rw [e1, e2]
    have e3 : kinFoldN one 3 ((one :: done).reverse ++ rest) = (one :: done).reverse ++ putR (turnN one 2) (one :: done) (putR (turnN one 1) (one :: done) (putR (turnN one 0) (one :: done) rest)) := by
      show kinPutN (kinPutN (kinPutN ((one :: done).reverse ++ rest) _) _) _ = _
      rw [putR_eq, putR_eq, putR_eq]
    rw [e3]
    exact kinC_eq f (one :: done) _ k (putR_all (putR_all (putR_all hr (ht 0 (by lia))) (ht 1 (by lia))) (ht 2 (by lia)))
theorem kinFold5 {one : List Nat} (h5 : one.length = 5) {kin : List (List Nat)} (hk : ∀ xs ∈ kin, xs.length = 5) : ∀ xs ∈ kinFoldN one 3 kin, xs.length = 5 :=
  kinPutN_all (kinPutN_all (kinPutN_all hk ((turnN_length (k := 0) (by lia)).trans h5)) ((turnN_length (k := 1) (by lia)).trans h5)) ((turnN_length (k := 2) (by lia)).trans h5)
theorem kinLoop5 : ∀ (f : Nat) (kin : List (List Nat)) (i : Nat) (res : List (List Nat)), (∀ xs ∈ kin, xs.length = 5) → kinLoopN f kin i = some res → ∀ xs ∈ res, xs.length = 5
  | 0, kin, i, res, h, e => by cases e
  | f + 1, kin, i, res, h, e => by
    unfold kinLoopN at e
    by_cases q : i < kin.length
    · rw [if_pos q] at e
      have e2 : (kin.getD i []).length = 5 := by
        rw [List.getD_eq_getElem?_getD, List.getElem?_eq_getElem q]
        exact h _ (List.getElem_mem _)
      exact kinLoop5 f _ _ res (kinFold5 e2 h) e
    · rw [if_neg q] at e
      cases e
      exact h
theorem kinPutN_pre (kin : List (List Nat)) (t : List Nat) : ∃ r, kinPutN kin t = kin ++ r := by
  unfold kinPutN
  split
  · exact ⟨[], by simp⟩
  · exact ⟨_, rfl⟩
/-- the first stays the first, and no more than two (and a bit) come with a turn -/
theorem kinLoop_pre : ∀ (f : Nat) (kin : List (List Nat)) (i : Nat) (res : List (List Nat)), kinLoopN f kin i = some res → ∃ r, res = kin ++ r
  | 0, kin, i, res, e => by cases e
  | f + 1, kin, i, res, e => by
    unfold kinLoopN at e
    by_cases q : i < kin.length
    · rw [if_pos q] at e
      obtain ⟨r, hr⟩ := kinLoop_pre f _ _ res e
      obtain ⟨r1, h1⟩ := kinPutN_pre kin (turnN (kin.getD i []) 0)
      obtain ⟨r2, h2⟩ := kinPutN_pre (kin ++ r1) (turnN (kin.getD i []) 1)
      obtain ⟨r3, h3⟩ := kinPutN_pre (kin ++ r1 ++ r2) (turnN (kin.getD i []) 2)
      have e3 : kinFoldN (kin.getD i []) 3 kin = kin ++ r1 ++ r2 ++ r3 := by
        show kinPutN (kinPutN (kinPutN kin _) _) _ = _
        rw [h1, h2, h3]
      exact ⟨r1 ++ (r2 ++ (r3 ++ r)), by rw [hr, e3]; simp⟩
    · rw [if_neg q] at e
      cases e
      exact ⟨[], by simp⟩
theorem kinLoop_len : ∀ (f : Nat) (kin : List (List Nat)) (i : Nat) (res : List (List Nat)), i ≤ kin.length → kinLoopN f kin i = some res → res.length ≤ i + f
  | 0, kin, i, res, _, e => by cases e
  | f + 1, kin, i, res, h, e => by
    unfold kinLoopN at e
    by_cases q : i < kin.length
    · rw [if_pos q] at e
      have := kinLoop_len f _ (i + 1) res (by
        obtain ⟨r1, h1⟩ := kinPutN_pre kin (turnN (kin.getD i []) 0)
        obtain ⟨r2, h2⟩ := kinPutN_pre (kin ++ r1) (turnN (kin.getD i []) 1)
        obtain ⟨r3, h3⟩ := kinPutN_pre (kin ++ r1 ++ r2) (turnN (kin.getD i []) 2)
        show i + 1 ≤ (kinPutN (kinPutN (kinPutN kin _) _) _).length
        rw [h1, h2, h3]
        simp
        lia) e
      lia
    · rw [if_neg q] at e
      cases e
      lia
end

section
theorem falls5 (a b c d e : Int) : fallsI [a, b, c, d, e] = (if b < a then [1] else []) ++ ((if c < b then [2] else []) ++ ((if d < c then [3] else []) ++ (if e < d then [4] else []))) := by
  have e0 : fallsI [a, b, c, d, e] = (([0, 1, 2, 3] : List Nat).filter (fallAt [a, b, c, d, e])).map fun (i : Nat) => 1 + ((i : Nat) : Int) := rfl
  rw [e0]
  have f0 : fallAt [a, b, c, d, e] 0 = decide (b < a) := rfl
  have f1 : fallAt [a, b, c, d, e] 1 = decide (c < b) := rfl
  have f2 : fallAt [a, b, c, d, e] 2 = decide (d < c) := rfl
  have f3 : fallAt [a, b, c, d, e] 3 = decide (e < d) := rfl
  simp only [List.filter, f0, f1, f2, f3]
  by_cases h0 : b < a <;> by_cases h1 : c < b <;> by_cases h2 : d < c <;> by_cases h3 : e < d <;> simp only [h0, h1, h2, h3, decide_true, decide_false, if_true, if_false] <;> rfl
theorem rises5 (a b c d e : Int) : risesI [a, b, c, d, e] = (if a < b then [1] else []) ++ ((if b < c then [2] else []) ++ ((if c < d then [3] else []) ++ (if d < e then [4] else []))) := by
  have e0 : risesI [a, b, c, d, e] = (([0, 1, 2, 3] : List Nat).filter (riseAt [a, b, c, d, e])).map fun (i : Nat) => 1 + ((i : Nat) : Int) := rfl
  rw [e0]
  have f0 : riseAt [a, b, c, d, e] 0 = decide (a < b) := rfl
  have f1 : riseAt [a, b, c, d, e] 1 = decide (b < c) := rfl
  have f2 : riseAt [a, b, c, d, e] 2 = decide (c < d) := rfl
  have f3 : riseAt [a, b, c, d, e] 3 = decide (d < e) := rfl
  simp only [List.filter, f0, f1, f2, f3]
  by_cases h0 : a < b <;> by_cases h1 : b < c <;> by_cases h2 : c < d <;> by_cases h3 : d < e <;> simp only [h0, h1, h2, h3, decide_true, decide_false, if_true, if_false] <;> rfl
theorem drops5 (a b c d e : Nat) : dropsAt 1 [a, b, c, d, e] = (if b < a then [1] else []) ++ ((if c < b then [2] else []) ++ ((if d < c then [3] else []) ++ (if e < d then [4] else []))) := by
  have q : ∀ x y : Nat, Nat.blt x y = decide (x < y) := fun x y => by rw [Bool.eq_iff_iff]; simp [Nat.blt]; lia
  simp only [dropsAt, q]
  by_cases h0 : b < a <;> by_cases h1 : c < b <;> by_cases h2 : d < c <;> by_cases h3 : e < d <;> simp only [h0, h1, h2, h3, decide_true, decide_false, if_true, if_false] <;> rfl
theorem risesN5 (a b c d e : Nat) : risesAt 1 [a, b, c, d, e] = (if a < b then [1] else []) ++ ((if b < c then [2] else []) ++ ((if c < d then [3] else []) ++ (if d < e then [4] else []))) := by
  have q : ∀ x y : Nat, Nat.blt x y = decide (x < y) := fun x y => by rw [Bool.eq_iff_iff]; simp [Nat.blt]; lia
  simp only [risesAt, q]
  by_cases h0 : a < b <;> by_cases h1 : b < c <;> by_cases h2 : c < d <;> by_cases h3 : d < e <;> simp only [h0, h1, h2, h3, decide_true, decide_false, if_true, if_false] <;> rfl
theorem map_if (p : Prop) [Decidable p] (n : Nat) (m : Int) (h : (n : Int) = m) : (if p then [n] else []).map (fun (k : Nat) => (k : Int)) = if p then [m] else [] := by
  split
  · rw [← h]; rfl
  · rfl
theorem falls_map {f : Nat → Int} (hf : Up f) {one : List Nat} (h : one.length = 5) : fallsI (one.map f) = (dropsAt 1 one).map fun (k : Nat) => (k : Int) := by
  match one, h with
  | [a, b, c, d, e], _ =>
    show fallsI [f a, f b, f c, f d, f e] = _
    rw [falls5, drops5, List.map_append, List.map_append, List.map_append, map_if _ 1 1 rfl, map_if _ 2 2 rfl, map_if _ 3 3 rfl, map_if _ 4 4 rfl]
    simp only [hf.lt]
theorem rises_map {ds : List Nat} (h : ds.length = 5) : risesI (natI ds) = (risesAt 1 ds).map fun (k : Nat) => (k : Int) := by
  match ds, h with
  | [a, b, c, d, e], _ =>
    show risesI [(a : Int), (b : Int), (c : Int), (d : Int), (e : Int)] = _
    rw [rises5, risesN5, List.map_append, List.map_append, List.map_append, map_if _ 1 1 rfl, map_if _ 2 2 rfl, map_if _ 3 3 rfl, map_if _ 4 4 rfl]
    simp only [Int.ofNat_lt]
theorem sum_cast : ∀ l : List Nat, (l.map fun (k : Nat) => (k : Int)).sum = ((sumL l : Nat) : Int)
  | [] => rfl
  | x :: l => by
    rw [List.map_cons, List.sum_cons, sum_cast l, sumL]
    norm_cast
theorem maxF_cast (l : List Nat) : maxF (l.map fun (k : Nat) => (k : Int)) = ((l.foldl max 0 : Nat) : Int) := by
  have q : ∀ (l : List Nat) (a : Nat), (l.map fun (k : Nat) => (k : Int)).foldl (fun a x => if x > a then x else a) (a : Int) = ((l.foldl max a : Nat) : Int) := fun l => by
    induction l with
    | nil => intro a; rfl
    | cons x l ih =>
      intro a
      rw [List.map_cons, List.foldl_cons, List.foldl_cons]
      have : (if ((x : Nat) : Int) > (a : Int) then ((x : Nat) : Int) else (a : Int)) = ((max a x : Nat) : Int) := by
        split <;> lia
      rw [this, ih]
  unfold maxF
  cases l with
  | nil => rfl
  | cons x l =>
    rw [show (List.map (fun (k : Nat) => (k : Int)) (x :: l)).headD 0 = ((x : Nat) : Int) from rfl, q]
    simp
theorem counts_cast (l : List Nat) : countsF (l.map fun (k : Nat) => (k : Int)) = (countsN l).map fun (k : Nat) => (k : Int) := by
  unfold countsF countsN
  rw [maxF_cast, Int.toNat_natCast, List.map_map]
  refine List.map_congr_left fun k hk => ?_
  clear hk
  show ((List.count (k : Int) (l.map fun (k : Nat) => (k : Int)) : Nat) : Int) = ((l.count k : Nat) : Int)
  congr 1
  induction l with
  | nil => rfl
  | cons x l ih =>
    rw [List.map_cons, List.count_cons, List.count_cons, ih]
    congr 1
    by_cases h : x = k
    · simp [h]
    · have : ¬ ((x : Nat) : Int) = (k : Int) := by lia
      simp [h, this]
theorem cols_map {f : Nat → Int} (tab : List (List Nat)) : colsI (tab.map (List.map f)) = (colsN tab).map (List.map f) := by
  unfold colsI colsN
  have e0 : ((tab.map (List.map f)).getD 0 []).length = (tab.headD []).length := by cases tab <;> simp
  rw [e0, List.map_map]
  refine List.map_congr_left fun k _ => ?_
  show colI (tab.map (List.map f)) k = (((tab.filter fun l => Nat.blt k l.length).map fun l => l.getD k 0)).map f
  unfold colI
  rw [List.filter_map, List.map_map, List.map_map]
  have e1 : (tab.filter ((fun l : List Int => decide (k < l.length)) ∘ List.map f)) = tab.filter fun l => Nat.blt k l.length := by
    refine List.filter_congr fun l _ => ?_
    rw [Bool.eq_iff_iff]
    simp [Nat.blt]
    lia
  rw [e1]
  refine List.map_congr_left fun l hl => ?_
  have := (List.mem_filter.mp hl).2
  simp [Nat.blt] at this
  show (l.map f).getD k 0 = f (l.getD k 0)
  exact map_getD (by lia)
/-- a rising list of ints is the image of 0, 1 .. under a rising map -/
theorem up_of : ∀ un : List Int, un.Pairwise (· < ·) → ∃ f, Up f ∧ un = (List.range un.length).map f
  | [], _ => ⟨fun n => (n : Int), fun x y h => Int.ofNat_lt.mpr h, rfl⟩
  | a :: l, h => by
    rw [List.pairwise_cons] at h
    obtain ⟨f, hf, e⟩ := up_of l h.2
    by_cases hl : l = []
    · subst hl
      exact ⟨fun n => a + (n : Int), fun x y h => by show a + (x : Int) < a + (y : Int); lia, by simp⟩
    · refine ⟨fun n => match n with | 0 => a | n + 1 => f n, fun x y hxy => ?_, ?_⟩
      · have h0 : ∀ n, f 0 ≤ f n := fun n => hf.le.mpr (Nat.zero_le _)
        have ha : a < f 0 := by
          refine h.1 _ ?_
          rw [e]
          exact List.mem_map.mpr ⟨0, by simp; exact Nat.pos_of_ne_zero fun q => hl (List.length_eq_zero_iff.mp q), rfl⟩
        match x, y, hxy with
        | 0, y + 1, _ => exact Int.lt_of_lt_of_le ha (h0 y)
        | x + 1, y + 1, hxy => exact hf x y (by lia)
      · rw [List.length_cons, List.range_succ_eq_map, List.map_cons, List.map_map]
        conv => lhs; rw [e]
        rfl
/-- put into a rising list -/
noncomputable def putI (x : Int) : List Int → List Int
  | [] => [x]
  | y :: l => if x < y then x :: y :: l else if x = y then y :: l else y :: putI x l
theorem putI_mem (x z : Int) : ∀ l, z ∈ putI x l ↔ z = x ∨ z ∈ l
  | [] => by simp [putI]
  | y :: l => by
    unfold putI
    split
    · simp
    · split
      · rename_i h
        subst h
        simp
      · rw [List.mem_cons, putI_mem x z l, List.mem_cons]
        constructor
        · rintro (h | h | h) <;> simp [h]
        · rintro (h | h | h) <;> simp [h]
theorem putI_up (x : Int) : ∀ l : List Int, l.Pairwise (· < ·) → (putI x l).Pairwise (· < ·)
  | [], _ => by simp [putI]
  | y :: l, h => by
    have h' := List.pairwise_cons.mp h
    unfold putI
    split
    · rename_i q
      refine List.pairwise_cons.mpr ⟨fun z hz => ?_, h⟩
      rcases List.mem_cons.mp hz with rfl | hz
      · exact q
      · exact Int.lt_trans q (h'.1 z hz)
    · split
      · exact h
      · refine List.pairwise_cons.mpr ⟨fun z hz => ?_, putI_up x l h'.2⟩
        rcases (putI_mem x z l).mp hz with rfl | hz
        · lia
        · exact h'.1 z hz
theorem un_of : ∀ row : List Int, ∃ un : List Int, un.Pairwise (· < ·) ∧ ∀ x, x ∈ un ↔ x ∈ row
  | [] => ⟨[], .nil, fun x => Iff.rfl⟩
  | a :: row => by
    obtain ⟨un, h1, h2⟩ := un_of row
    exact ⟨putI a un, putI_up a un h1, fun x => by rw [putI_mem, h2, List.mem_cons]⟩
theorem ranks_of {un : List Int} {f : Nat → Int} (e : un = (List.range un.length).map f) : ∀ row : List Int, (∀ x ∈ row, x ∈ un) → ∃ r : List Nat, row = r.map f ∧ ∀ k ∈ r, k < un.length
  | [], _ => ⟨[], rfl, fun k h => nomatch h⟩
  | a :: row, h => by
    obtain ⟨r, h1, h2⟩ := ranks_of e row fun x hx => h x (.tail _ hx)
    have ha := h a (.head _)
    rw [e] at ha
    obtain ⟨k, hk, rfl⟩ := List.mem_map.mp ha
    refine ⟨k :: r, by rw [h1]; rfl, fun j hj => ?_⟩
    rcases List.mem_cons.mp hj with rfl | hj
    · simpa using hk
    · exact h2 j hj
theorem nodup_le : ∀ {a b : List Nat}, a.Nodup → (∀ x ∈ a, x ∈ b) → a.length ≤ b.length
  | [], b, _, _ => Nat.zero_le _
  | x :: a, b, hn, h => by
    rw [List.nodup_cons] at hn
    have hx := h x (.head _)
    have := nodup_le (b := b.erase x) hn.2 fun y hy => (List.mem_erase_of_ne (fun q => hn.1 (by rw [← q]; exact hy))).mpr (h y (.tail _ hy))
    rw [List.length_erase_of_mem hx] at this
    have := List.length_pos_of_mem hx
    simp only [List.length_cons]
    lia
/-- five ints in any order: a pattern without gaps, and a rising map -/
theorem pattern_of {row : List Int} (h5 : row.length = 5) : ∃ (f : Nat → Int) (r : List Nat) (n : Nat), Up f ∧ row = r.map f ∧ r.length = 5 ∧ (∀ k ∈ r, k < n) ∧ (∀ k, k < n → k ∈ r) ∧ 0 < n ∧ n ≤ 5 ∧ gapB r = true := by
  obtain ⟨un, h1, h2⟩ := un_of row
  obtain ⟨f, hf, e⟩ := up_of un h1
  obtain ⟨r, hr, hk⟩ := ranks_of e row fun x hx => (h2 x).mpr hx
  have hrl : r.length = 5 := by rw [← h5, hr, List.length_map]
  have hall : ∀ k, k < un.length → k ∈ r := fun k hk => by
    have : f k ∈ un := by rw [e]; exact List.mem_map.mpr ⟨k, by simpa using hk, rfl⟩
    have : f k ∈ r.map f := by rw [← hr]; exact (h2 _).mp this
    obtain ⟨j, hj, ej⟩ := List.mem_map.mp this
    rw [← hf.inj.mp ej]
    exact hj
  refine ⟨f, r, un.length, hf, hr, hrl, hk, hall, ?_, ?_, ?_⟩
  · match r, hrl with
    | a :: r, _ => exact Nat.lt_of_le_of_lt (Nat.zero_le _) (hk a (.head _))
  · have := nodup_le (a := List.range un.length) (b := r) List.nodup_range fun x hx => hall x (by simpa using hx)
    rw [List.length_range, hrl] at this
    exact this
  · unfold gapB
    rw [List.all_eq_true]
    intro x hx
    by_cases h0 : x = 0
    · simp [h0]
    · have := hall (x - 1) (by have := hk x hx; lia)
      rw [Bool.or_eq_true]
      refine .inr (List.any_eq_true.mpr ⟨x - 1, this, ?_⟩)
      simp
      lia
end

section
set_option maxRecDepth 100000
/-- a table of a shape -/
noncomputable def tabOf (s : List Nat) : List (List Int) := s.map fun n => List.replicate n 0
noncomputable def eqI : List Int → List Nat → Bool
  | [], [] => true
  | x :: a, y :: b => Nat.beq x.toNat y && eqI a b
  | _, _ => false
noncomputable def divOk (s : List Nat) (w : Nat) : Bool :=
  let T := tabOf s
  strictN (aboveF (2 ^ w) 5 + (w - 2)) fun a => strictN (belowF (2 ^ w) T T.length) fun b => strictN (a / b) fun q => strictN (bitsF a) fun ba => strictN (bitsF b) fun bb => strictN ((bitsF q + w - 1) / w) fun c =>
  Nat.blt 0 b && Nat.blt ba 1990 && Nat.blt bb 1990 && Nat.ble ((ba + bb - 1) / bb) 100 && Nat.beq (a % b) (w - 2) && Nat.ble (weightF T T.length) 100 && Nat.ble c 100 && eqI (dg w q c) (qdig s) && Nat.beq (weightF T T.length) (weightFrom 0 s)
theorem div_0 : ((List.range 64).all fun i => divOk [5] (i + 2)) = true := by decide +kernel
theorem div_1 : ((List.range 64).all fun i => divOk [4, 1] (i + 2)) = true := by decide +kernel
theorem div_2 : ((List.range 64).all fun i => divOk [3, 2] (i + 2)) = true := by decide +kernel
theorem div_3 : ((List.range 64).all fun i => divOk [3, 1, 1] (i + 2)) = true := by decide +kernel
theorem div_4 : ((List.range 64).all fun i => divOk [2, 2, 1] (i + 2)) = true := by decide +kernel
theorem div_5 : ((List.range 64).all fun i => divOk [2, 1, 1, 1] (i + 2)) = true := by decide +kernel
theorem div_6 : ((List.range 64).all fun i => divOk [1, 1, 1, 1, 1] (i + 2)) = true := by decide +kernel
theorem div_all {s : List Nat} (hs : hasShape s = true) {n : Nat} (hn : n ≤ 63) : divOk s (2 + n) = true := by
  have go : ((List.range 64).all fun i => divOk s (i + 2)) = true → divOk s (2 + n) = true := fun h => by
    have := List.all_eq_true.mp h n (by simp; lia)
    rw [Nat.add_comm]; exact this
  have := hasL_iff.mp hs
  simp only [shapes, List.mem_cons, List.not_mem_nil, or_false] at this
  rcases this with rfl | rfl | rfl | rfl | rfl | rfl | rfl
  · exact go div_0
  · exact go div_1
  · exact go div_2
  · exact go div_3
  · exact go div_4
  · exact go div_5
  · exact go div_6
theorem eqI_iff : ∀ {a : List Int} {b : List Nat}, (∀ x ∈ a, 0 ≤ x) → eqI a b = true → a = b.map fun (k : Nat) => (k : Int)
  | [], [], _, _ => rfl
  | [], _ :: _, _, h => by cases h
  | _ :: _, [], _, h => by cases h
  | x :: a, y :: b, h0, h => by
    simp only [eqI, Bool.and_eq_true] at h
    have := h0 x (.head _)
    rw [List.map_cons, ← Nat.eq_of_beq_eq_true h.1, eqI_iff (fun z hz => h0 z (.tail _ hz)) h.2]
    congr 1
    lia
theorem dg_nonneg (n : Nat) : ∀ k x, ∀ z ∈ dg n x k, 0 ≤ z
  | 0, x, z, h => nomatch h
  | k + 1, x, z, h => by
    rcases List.mem_cons.mp h with rfl | h
    · lia
    · exact dg_nonneg n k _ z h
/-- hooks, and so what lies below, hang on the shape alone -/
theorem len_of {tab T : List (List Int)} (h : tab.map List.length = T.map List.length) (d : Nat) : (tab.getD d []).length = (T.getD d []).length := by
  have e : ∀ t : List (List Int), (t.getD d []).length = (t.map List.length).getD d 0 := fun t => by
    by_cases hd : d < t.length <;> simp [hd]
  rw [e, e, h]
theorem hook_of {tab T : List (List Int)} (h : tab.map List.length = T.map List.length) (d k : Nat) : hookF tab d k = hookF T d k := by
  unfold hookF
  rw [len_of h d]
  congr 1
  have e : ∀ t : List (List Int), ((t.drop (d + 1)).filter fun l => decide (k < l.length)).length = (((t.map List.length).drop (d + 1)).filter fun n => decide (k < n)).length := fun t => by
    rw [← List.map_drop, List.filter_map, List.length_map]
    rfl
  rw [e, e, h]
theorem below_of {tab T : List (List Int)} (h : tab.map List.length = T.map List.length) (B n : Nat) : belowF B tab n = belowF B T n := by
  unfold belowF
  congr 1
  funext a d
  unfold hookRow
  rw [len_of h d]
  congr 1
  funext a k
  rw [hook_of h]
theorem weight_of {tab T : List (List Int)} (h : tab.map List.length = T.map List.length) (n : Nat) : weightF tab n = weightF T n := by
  unfold weightF
  congr 1
  funext a d
  rw [len_of h d]
theorem tabOf_len (s : List Nat) : (tabOf s).map List.length = s := by
  unfold tabOf
  rw [List.map_map]
  refine (List.map_congr_left fun n _ => ?_).trans (List.map_id s)
  simp
structure DivOk (tab : List (List Int)) (s : List Nat) (w n : Nat) : Prop where
  bpos : 0 < belowF (2 ^ w) tab tab.length
  bsm : bitsF (aboveF (2 ^ w) 5 + n) < 1990 ∧ bitsF (belowF (2 ^ w) tab tab.length) < 1990
  bcnt : (bitsF (aboveF (2 ^ w) 5 + n) + bitsF (belowF (2 ^ w) tab tab.length) - 1) / bitsF (belowF (2 ^ w) tab tab.length) ≤ 100
  left : (aboveF (2 ^ w) 5 + n) % belowF (2 ^ w) tab tab.length = n
  wsm : weightF tab tab.length ≤ 100
  qcnt : (bitsF ((aboveF (2 ^ w) 5 + n) / belowF (2 ^ w) tab tab.length) + w - 1) / w ≤ 100
  digs : dg w ((aboveF (2 ^ w) 5 + n) / belowF (2 ^ w) tab tab.length) ((bitsF ((aboveF (2 ^ w) 5 + n) / belowF (2 ^ w) tab tab.length) + w - 1) / w) = (qdig s).map fun (k : Nat) => (k : Int)
  wt : weightF tab tab.length = weightFrom 0 s
theorem div_ok {tab : List (List Int)} {s : List Nat} (hs : hasShape s = true) (h : tab.map List.length = s) {n : Nat} (hn : n ≤ 63) : DivOk tab s (2 + n) n := by
  have hT : tab.map List.length = (tabOf s).map List.length := by rw [tabOf_len, h]
  have hl : tab.length = (tabOf s).length := by
    have := congrArg List.length hT
    simpa using this
  have hd := div_all hs hn
  unfold divOk at hd
  simp only [strictN_eq] at hd
  rw [show 2 + n - 2 = n by lia] at hd
  simp only [Bool.and_eq_true] at hd
  obtain ⟨⟨⟨⟨⟨⟨⟨⟨h1, h2⟩, h3⟩, h4⟩, h5⟩, h6⟩, h7⟩, h8⟩, h9⟩ := hd
  have e := fun B => below_of hT B tab.length
  constructor
  · rw [e, hl]; exact Nat.le_of_ble_eq_true h1
  · rw [e, hl]; exact ⟨Nat.le_of_ble_eq_true h2, Nat.le_of_ble_eq_true h3⟩
  · rw [e, hl]; exact Nat.le_of_ble_eq_true h4
  · rw [e, hl]; exact Nat.eq_of_beq_eq_true h5
  · rw [weight_of hT, hl]; exact Nat.le_of_ble_eq_true h6
  · rw [e, hl]; exact Nat.le_of_ble_eq_true h7
  · rw [e, hl]; exact eqI_iff (dg_nonneg _ _ _) h8
  · rw [weight_of hT, hl]; exact Nat.eq_of_beq_eq_true h9
end

section
noncomputable def castL (l : List Nat) : List Int := l.map fun (k : Nat) => (k : Int)
theorem min_link (a b : Nat) : pyMin (a : Int) (b : Int) = ((minB a b : Nat) : Int) := by
  unfold pyMin minB
  cases h : Nat.ble a b
  · have : ¬ a ≤ b := fun q => by rw [Nat.ble_eq_true_of_le q] at h; cases h
    split <;> first | rfl | (simp only [cond_false]; lia)
  · have := Nat.le_of_ble_eq_true h
    split <;> first | rfl | (simp only [cond_true]; lia)
theorem row_link (ch : Nat) : ∀ (as row : List Nat) (d r mn : Nat), ∃ row' res mn', (∀ k : List Nat → Nat → Nat → Nat, rowC ch as row d r mn k = k row' res mn') ∧ levIn ch as (castL row) (d : Int) (r : Int) (mn : Int) = (castL row', (res : Int), (mn' : Int))
  | x :: as, y :: row, d, r, mn => by
    have e1 : (d : Int) + (if ch = x then 0 else 2) = ((bif Nat.beq ch x then d else d + 2 : Nat) : Int) := by
      cases h : Nat.beq ch x
      · have : ch ≠ x := fun q => by rw [q, Nat.beq_refl] at h; cases h
        rw [if_neg this]; rfl
      · rw [if_pos (Nat.eq_of_beq_eq_true h)]
        simp
    have e2 : pyMin (pyMin (r : Int) (y : Int) + 2) ((d : Int) + (if ch = x then 0 else 2)) = ((minB (minB r y + 2) (bif Nat.beq ch x then d else d + 2) : Nat) : Int) := by
      rw [e1, min_link, show ((minB r y : Nat) : Int) + 2 = ((minB r y + 2 : Nat) : Int) from rfl, min_link]
    generalize hr' : minB (minB r y + 2) (bif Nat.beq ch x then d else d + 2) = r' at e2
    have e3 : (if (r' : Int) < (mn : Int) then (r' : Int) else (mn : Int)) = ((minB r' mn : Nat) : Int) := by
      unfold minB
      cases h : Nat.ble r' mn
      · have : ¬ r' ≤ mn := fun q => by rw [Nat.ble_eq_true_of_le q] at h; cases h
        rw [if_neg (by lia)]; rfl
      · have := Nat.le_of_ble_eq_true h
        simp only [cond_true]
        split <;> lia
    obtain ⟨row', res, mn', h1, h2⟩ := row_link ch as row y r' (minB r' mn)
    refine ⟨r' :: row', res, mn', fun k => ?_, ?_⟩
    · rw [rowC, strictN_eq, strictN_eq, hr', h1]
    · show levIn ch (x :: as) ((y : Int) :: castL row) (d : Int) (r : Int) (mn : Int) = _
      simp only [levIn, e2, e3, h2]
      rfl
  | [], row, d, r, mn => ⟨[], r, mn, fun k => by cases row <;> rfl, by cases row <;> rfl⟩
  | x :: as, [], d, r, mn => ⟨[], r, mn, fun k => rfl, rfl⟩
theorem out_link (as : List Nat) (c : Nat) : ∀ (bs : List Nat) (i : Nat) (row : List Nat) (res : Nat), levOut as (c : Int) bs (i : Int) (castL row) (res : Int) = ((outC as c bs (2 * i) row res : Nat) : Int)
  | [], i, row, res => rfl
  | ch :: bs, i, row, res => by
    obtain ⟨row', res', mn', h1, h2⟩ := row_link ch as row (2 * i) (2 * i) 9223372036854775807
    have e : (i : Int) * 2 = ((2 * i : Nat) : Int) := by lia
    have h2' : levIn ch as (castL row) ((2 * i : Nat) : Int) ((2 * i : Nat) : Int) 9223372036854775807 = (castL row', (res' : Int), (mn' : Int)) := h2
    rw [outC, h1, strictN_eq]
    simp only [levOut, e, h2']
    cases h : Nat.blt c mn'
    · have : ¬ c + 1 ≤ mn' := fun q => by
        have : Nat.blt c mn' = true := Nat.ble_eq_true_of_le q
        rw [this] at h; cases h
      rw [if_neg (by lia)]
      exact out_link as c bs (i + 1) row' res'
    · have : c + 1 ≤ mn' := Nat.le_of_ble_eq_true h
      rw [if_pos (by lia)]
      rfl
/-- a bound can only cut the distance short -/
theorem out_alt (as : List Nat) (c : Int) : ∀ (bs : List Nat) (i : Int) (row : List Int) (res : Int), levOut as c bs i row res = c + 1 ∨ ∀ c' : Int, levOut as c' bs i row res = c' + 1 ∨ levOut as c' bs i row res = levOut as c bs i row res
  | [], i, row, res => .inr fun c' => .inr rfl
  | ch :: bs, i, row, res => by
    simp only [levOut]
    generalize levIn ch as row (i * 2) (i * 2) 9223372036854775807 = q
    by_cases h : q.2.2 > c
    · rw [if_pos h]; exact .inl rfl
    · rw [if_neg h]
      rcases out_alt as c bs (i + 1) q.1 q.2.1 with h1 | h1
      · exact .inl h1
      · refine .inr fun c' => ?_
        by_cases h' : q.2.2 > c'
        · rw [if_pos h']; exact .inl rfl
        · rw [if_neg h']; exact h1 c'
theorem preF_ne {x y : Nat} (a b : List Nat) (h : x ≠ y) : preF (x :: a) (y :: b) = 0 := by
  unfold preF
  rw [if_neg h]
theorem rep_rev (n : Nat) (l : List Nat) : ∃ u v, List.replicate (n + 1) 46 ++ l ++ List.replicate (n + 1) 46 = 46 :: u ∧ (List.replicate (n + 1) 46 ++ l ++ List.replicate (n + 1) 46).reverse = 46 :: v := by
  refine ⟨List.replicate n 46 ++ (l ++ List.replicate (n + 1) 46), List.replicate n 46 ++ (l.reverse ++ List.replicate (n + 1) 46), ?_, ?_⟩
  · simp [List.replicate_succ]
  · rw [List.reverse_append, List.reverse_append, List.reverse_replicate]
    rfl
theorem lev_core {a b : List Nat} (h46 : ∀ x ∈ a, x ≠ 46) (ha : a ≠ []) {u v : List Nat} (hb1 : b = 46 :: u) (hb2 : b.reverse = 46 :: v) (hl : a.length ≤ b.length) (c : Int) : levF a b c = levCore a b c := by
  obtain ⟨x, a', rfl⟩ : ∃ x a', a = x :: a' := by cases a with | nil => exact absurd rfl ha | cons x a' => exact ⟨x, a', rfl⟩
  have hx : x ≠ 46 := h46 x (.head _)
  have hne : (x :: a') ≠ b := fun q => by rw [hb1] at q; cases q; exact hx rfl
  have hp : preF (x :: a') b = 0 := by rw [hb1]; exact preF_ne _ _ hx
  obtain ⟨y, r, hr⟩ : ∃ y r, (x :: a').reverse = y :: r := by
    cases h : (x :: a').reverse with
    | nil => simp at h
    | cons y r => exact ⟨y, r, rfl⟩
  have hy : y ≠ 46 := h46 y (by rw [← List.mem_reverse, hr]; exact .head _)
  have hp2 : preF (x :: a').reverse b.reverse = 0 := by rw [hr, hb2]; exact preF_ne _ _ hy
  have hp3 : preF b.reverse (x :: a').reverse = 0 := by rw [hr, hb2]; exact preF_ne _ _ (Ne.symm hy)
  have hb0 : b ≠ [] := fun q => by rw [q] at hb1; cases hb1
  unfold levF
  rw [if_neg hne, hp]
  simp only [List.drop_zero]
  unfold cutS
  rw [hp2, hp3]
  simp only [Nat.sub_zero, List.take_length]
  unfold levCut
  rw [if_neg (fun q => by rcases q with q | q; · cases q
                          · exact hb0 q), if_neg (by lia)]
theorem lev_ok {text signs : List Nat} {len : Nat} (h : chkLev text signs len = true) (h46 : ∀ x ∈ text, x ≠ 46) (h2 : 2 ≤ text.length) {w : Int} :
    levF text (spreadN text.length signs) (dueI text signs len - Int.fmod w 2) = dueI text signs len := by
  unfold chkLev at h
  rw [normL_eq, strictN_eq] at h
  simp only [Bool.and_eq_true] at h
  obtain ⟨⟨⟨h1, h3⟩, h4⟩, h5⟩ := h
  replace h1 := Nat.le_of_ble_eq_true h1
  replace h3 := Nat.le_of_ble_eq_true h3
  replace h4 := Nat.le_of_ble_eq_true h4
  replace h5 := Nat.eq_of_beq_eq_true h5
  obtain ⟨u, v, hu, hv⟩ := rep_rev (text.length - 2) (joinN (List.replicate (text.length - 2) 46) signs)
  rw [show text.length - 2 + 1 = text.length - 1 by lia] at hu hv
  replace hu : spreadN text.length signs = 46 :: u := hu
  replace hv : (spreadN text.length signs).reverse = 46 :: v := hv
  have hd : dueI text signs len = ((2 * ((spreadN text.length signs).length - len) : Nat) : Int) := by
    unfold dueI
    lia
  rw [hd]
  generalize hde : 2 * ((spreadN text.length signs).length - len) = due at h4 h5
  rw [lev_core h46 (fun q => by rw [q] at h2; simp at h2) (u := u) (v := v) hu hv h3]
  have hm : Int.fmod w 2 = 0 ∨ Int.fmod w 2 = 1 := by
    have e : Int.fmod w 2 = w % 2 := Int.fmod_eq_emod_of_nonneg _ (by decide)
    rw [e]
    lia
  have ei : (List.range text.length).map (fun (k : Nat) => (2 + 2 * (k : Nat) : Int)) = castL ((List.range text.length).map fun k => 2 + 2 * k) := by
    unfold castL
    rw [List.map_map]
    refine List.map_congr_left fun k _ => ?_
    show (2 + 2 * (k : Int)) = ((2 + 2 * k : Nat) : Int)
    lia
  have h0 : levOut text (due : Int) (spreadN text.length signs) 0 (castL ((List.range text.length).map fun k => 2 + 2 * k)) 0 = (due : Int) := by
    have := out_link text due (spreadN text.length signs) 0 ((List.range text.length).map fun k => 2 + 2 * k) 0
    rw [Nat.mul_zero, h5] at this
    exact this
  unfold levCore
  rw [ei]
  rcases hm with hm | hm
  · rw [hm, Int.sub_zero, if_neg (by lia)]
    exact h0
  · rw [hm]
    by_cases hc : ((spreadN text.length signs).length - (text.length : Int)) * 2 > (due : Int) - 1
    · rw [if_pos hc]; lia
    · rw [if_neg hc]
      rcases out_alt text (due : Int) (spreadN text.length signs) 0 (castL ((List.range text.length).map fun k => 2 + 2 * k)) 0 with q | q
      · rw [h0] at q; lia
      · rcases q ((due : Int) - 1) with q | q
        · rw [q]; lia
        · rw [q, h0]
end

section
theorem putN_perm (x : Nat) : ∀ l, (putN x l).Perm (x :: l)
  | [] => .refl _
  | y :: l => by
    unfold putN
    split
    · exact .refl _
    · exact ((putN_perm x l).cons y).trans (.swap x y l)
theorem putN_up (x : Nat) : ∀ l : List Nat, l.Pairwise (· ≤ ·) → (putN x l).Pairwise (· ≤ ·)
  | [], _ => by simp [putN]
  | y :: l, h => by
    have h' := List.pairwise_cons.mp h
    unfold putN
    split
    · rename_i q
      refine List.pairwise_cons.mpr ⟨fun z hz => ?_, h⟩
      rcases List.mem_cons.mp hz with rfl | hz
      · exact q
      · exact Nat.le_trans q (h'.1 z hz)
    · rename_i q
      refine List.pairwise_cons.mpr ⟨fun z hz => ?_, putN_up x l h'.2⟩
      rcases List.mem_cons.mp ((putN_perm x l).mem_iff.mp hz) with rfl | hz
      · lia
      · exact h'.1 z hz
theorem sortN_ok : ∀ l : List Nat, (sortN l).Perm l ∧ (sortN l).Pairwise (· ≤ ·)
  | [] => ⟨.refl _, .nil⟩
  | x :: l => by
    obtain ⟨h1, h2⟩ := sortN_ok l
    exact ⟨(putN_perm x _).trans (h1.cons x), putN_up x _ h2⟩
theorem unlike_eq {r : List Nat} {n : Nat} (hlt : ∀ k ∈ r, k < n) (hall : ∀ k, k < n → k ∈ r) (h5 : n ≤ 5) : unlikeN r = List.range n := by
  have e : unlikeN r = [0, 1, 2, 3, 4].filter fun k => decide (k < n) := by
    unfold unlikeN
    refine List.filter_congr fun k _ => ?_
    rw [Bool.eq_iff_iff, List.contains_iff_mem, decide_eq_true_iff]
    exact ⟨hlt k, hall k⟩
  rw [e]
  have : n = 0 ∨ n = 1 ∨ n = 2 ∨ n = 3 ∨ n = 4 ∨ n = 5 := by lia
  rcases this with rfl | rfl | rfl | rfl | rfl | rfl <;> decide
theorem bl_range {n x : Nat} (h : x < n) (h5 : n ≤ 5) : blN (List.range n) x (List.range n).length 0 (List.range n).length < 5 := by
  have q : ∀ n : Fin 6, ∀ x : Fin 5, x.val < n.val → blN (List.range n.val) x.val (List.range n.val).length 0 (List.range n.val).length < 5 := by decide +kernel
  exact q ⟨n, by lia⟩ ⟨x, by lia⟩ h
theorem shape_ok {s : List Nat} (h : hasShape s = true) : (0 < s.length ∧ s.length ≤ 5) ∧ (∀ x ∈ s, 0 < x ∧ x ≤ 5) ∧ weightFrom 0 s + (qdig s).length ≤ 11 := by
  have q : ∀ s ∈ shapes, (0 < s.length ∧ s.length ≤ 5) ∧ (∀ x ∈ s, 0 < x ∧ x ≤ 5) ∧ weightFrom 0 s + (qdig s).length ≤ 11 := by decide +kernel
  exact q s (hasL_iff.mp h)
theorem last_map {f : Nat → Int} : ∀ {kin : List (List Nat)}, kin ≠ [] → (kin.map (List.map f)).getLastD [] = (kin.getLastD []).map f
  | [], h => absurd rfl h
  | [x], _ => rfl
  | x :: y :: l, _ => by
    have := last_map (f := f) (kin := y :: l) (by simp)
    simpa [List.getLastD] using this
theorem head_rev (kin : List (List Nat)) : kin.reverse.headD [] = kin.getLastD [] := by
  rw [List.headD_eq_head?_getD, List.head?_reverse, List.getLastD_eq_getLast?]
theorem plain_row {row : List Int} (hrow : row.length = 5) {n : Nat} (hn : n ≤ 63) : ∃ kin tab un signs text, LawOk row (2 + n) n kin tab un signs text := by
  obtain ⟨f, r, z, hf, hr, h5, hlt, hall, hz0, hz5, hg⟩ := pattern_of hrow
  have h55 : ∀ x ∈ r, x < 5 := fun x hx => by have := hlt x hx; lia
  have hk := chkKin_all h5 h55 hg
  have ht := chkText_all h5 h55 hg
  have hall5 : ∀ xs ∈ [r], xs.length = 5 := fun xs hx => by rw [List.mem_singleton.mp hx]; exact h5
  unfold chkKin at hk
  rw [kinC_eq 100 [] [r] _ hall5] at hk
  simp only [List.reverse_nil, List.nil_append, List.length_nil] at hk
  cases hkl : kinLoopN 100 [r] 0 with
  | none => rw [hkl] at hk; cases hk
  | some kn =>
    rw [hkl] at hk
    simp only [normLL_eq, normL_eq, mapSums_eq, List.reverse_reverse, head_rev, Bool.and_eq_true] at hk
    obtain ⟨hA, ⟨⟨hB, hC⟩, hD⟩, hE⟩ := hk
    obtain ⟨rest, hpre⟩ := kinLoop_pre 100 [r] 0 kn hkl
    have hlen := kinLoop_len 100 [r] 0 kn (by simp) hkl
    have hk5 := kinLoop5 100 [r] 0 kn hall5 hkl
    have hne : kn ≠ [] := fun q => by rw [q] at hpre; simp at hpre
    have hA' : ∀ o ∈ kn, (tabN false o).1 = (tabN false r).1 ∧ (tabN false o).2.length = 5 ∧ risesAt 1 (tabN false o).2 = dropsAt 1 o := fun o ho => by
      have := allC_iff.mp hA o (List.mem_reverse.mpr ho)
      simp only [Bool.and_eq_true] at this
      exact ⟨eqLL_iff.mp this.1.1, Nat.eq_of_beq_eq_true this.1.2, eqL_iff.mp this.2⟩
    have hlast : kn.getLastD [] ∈ kn := by
      rw [List.getLastD_eq_getLast?, List.getLast?_eq_some_getLast hne]
      exact List.getLast_mem hne
    generalize hS : (tabN false r).1.map List.length = shape at hB hE
    have hsh := shape_ok hB
    have hmapl : ((tabN false r).1.map (List.map f)).map List.length = shape := by
      rw [← hS, List.map_map]
      exact List.map_congr_left fun l _ => by simp
    have hdv := div_ok hB hmapl hn
    have htl : ((tabN false r).1.map (List.map f)).length = shape.length := by
      have := congrArg List.length hmapl
      rw [List.length_map] at this
      exact this
    have hsums : sumsF (kn.map (List.map f)) = (kn.map fun o => sumL (dropsAt 1 o)).map fun (k : Nat) => (k : Int) := by
      unfold sumsF
      rw [List.map_map, List.map_map]
      refine List.map_congr_left fun o ho => ?_
      show (fallsI (o.map f)).sum = ((sumL (dropsAt 1 o) : Nat) : Int)
      rw [falls_map hf (hk5 o ho), sum_cast]
    have hcnt := eqL_iff.mp hE
    have hun : unlikeN r = List.range z := unlike_eq hlt hall hz5
    have hblF : ∀ x ∈ r, blF ((List.range z).map f) (f x) = ((blN (List.range z) x (List.range z).length 0 (List.range z).length : Nat) : Int) := fun x _ => blF_map hf _ x
    have hsg : signsN r = row.map fun x => 97 + (blF ((List.range z).map f) x).toNat := by
      unfold signsN
      rw [hr, List.map_map, hun]
      refine List.map_congr_left fun x hx => ?_
      show _ = 97 + (blF ((List.range z).map f) (f x)).toNat
      rw [hblF x hx, Int.toNat_natCast]
    have hsl : (signsN r).length = 5 := by unfold signsN; rw [List.length_map, h5]
    obtain ⟨hp1, hp2⟩ := sortN_ok (signsN r)
    have htx5 : (sortN (signsN r)).length = 5 := by rw [hp1.length_eq, hsl]
    have hge : ∀ x ∈ signsN r, x ≠ 46 := fun x hx => by
      unfold signsN at hx
      obtain ⟨y, _, rfl⟩ := List.mem_map.mp hx
      lia
    unfold chkText at ht
    simp only [normL_eq, Bool.and_eq_true] at ht
    rw [hS] at ht
    have hhd : (((tabN false r).1.map (List.map f)).getD 0 []).length = shape.headD 0 := by
      rw [← hS]
      cases (tabN false r).1 <;> simp
    refine ⟨kn.map (List.map f), (tabN false r).1.map (List.map f), (List.range z).map f, signsN r, sortN (signsN r), ?_⟩
    constructor
    case hkin =>
      have := kinLoop_map hf 100 [r] 0 hall5
      rw [hkl] at this
      rw [hr]
      exact this
    case k0 => rw [hpre, hr]; rfl
    case klen =>
      rw [List.length_map]
      exact ⟨List.length_pos_iff.mpr hne, by lia⟩
    case k5 =>
      intro one hone
      obtain ⟨o, ho, rfl⟩ := List.mem_map.mp hone
      rw [List.length_map]
      exact hk5 o ho
    case ktab =>
      intro one hone
      obtain ⟨o, ho, rfl⟩ := List.mem_map.mp hone
      obtain ⟨a1, a2, a3⟩ := hA' o ho
      rw [tabF_map hf]
      refine ⟨by rw [a1], by unfold natI; rw [List.length_map]; exact a2, ?_⟩
      rw [rises_map a2, falls_map hf (hk5 o ho), a3]
    case cols =>
      rw [last_map hne, ← List.map_reverse, tabF_map hf, cols_map]
      rw [eqLL_iff.mp hC]
    case back =>
      rw [last_map hne, tabF_map hf, ← List.map_reverse]
      have e : (natI (tabN false (kn.getLastD [])).2).reverse = natI (tabN false (kn.getLastD [])).2.reverse := by unfold natI; rw [List.map_reverse]
      have := backF_map hf (tabN false (kn.getLastD [])).2.reverse (tabN false r).1 []
      rw [e]
      refine this.trans ?_
      cases hb : backN (tabN false (kn.getLastD [])).2.reverse (tabN false r).1 [] with
      | none => rw [hb] at hD; cases hD
      | some b =>
        rw [hb] at hD
        rw [Option.map_some, eqL_iff.mp hD]
    case t5 => rw [htl]; exact hsh.1
    case tl =>
      intro l hl
      have : l.length ∈ shape := by rw [← hmapl]; exact List.mem_map.mpr ⟨l, hl, rfl⟩
      exact hsh.2.1 _ this
    case bpos => exact hdv.bpos
    case bsm => exact hdv.bsm
    case bcnt => exact hdv.bcnt
    case left => exact hdv.left
    case wsm => exact hdv.wsm
    case qcnt => exact hdv.qcnt
    case counts =>
      rw [hdv.digs, hdv.wt, hsums, counts_cast, hcnt, List.map_append, List.map_replicate]
      rfl
    case smax =>
      rw [hsums, maxF_cast]
      have := congrArg List.length hcnt
      unfold countsN at this
      rw [List.length_map, List.length_range, List.length_append, List.length_replicate] at this
      have := hsh.2.2
      lia
    case un1 =>
      rw [List.pairwise_map]
      exact List.pairwise_lt_range.imp fun {a b} h => hf a b h
    case un2 =>
      intro x
      rw [hr, List.mem_map, List.mem_map]
      constructor
      · rintro ⟨k, hk, e⟩
        exact ⟨k, hall k (by simpa using hk), e⟩
      · rintro ⟨k, hk, e⟩
        exact ⟨k, by simpa using hlt k hk, e⟩
    case unl => rw [List.length_map, List.length_range]; exact ⟨hz0, hz5⟩
    case sg => exact hsg
    case sg5 =>
      intro x hx
      rw [hr] at hx
      obtain ⟨k, hk, rfl⟩ := List.mem_map.mp hx
      rw [hblF k hk]
      have := bl_range (hlt k hk) hz5
      lia
    case tx => exact ⟨hp1, hp2⟩
    case lev1 =>
      rw [hhd]
      have := lev_ok (w := ((2 + n : Nat) : Int)) ht.1 (fun x hx => hge x (hp1.mem_iff.mp hx)) (by lia)
      rw [htx5] at this
      exact this
    case lev2 =>
      rw [htl, List.length_map, List.length_range]
      rw [hun, List.length_range, Bool.or_eq_true] at ht
      have hdl : (([101, 100, 99, 98, 97] : List Nat).drop (5 - z)).length = z := by rw [List.length_drop]; simp; lia
      by_cases h1 : z = 1
      · subst h1
        have hr0 : r = [0, 0, 0, 0, 0] := by
          match r, h5 with
          | [a, b, c, d, e], _ =>
            have q : ∀ x ∈ [a, b, c, d, e], x = 0 := fun x hx => by have := hlt x hx; lia
            rw [q a (by simp), q b (by simp), q c (by simp), q d (by simp), q e (by simp)]
        subst hr0
        have es : shape.length = 1 := by rw [← hS]; decide +kernel
        rw [es, show signsN [0, 0, 0, 0, 0] = [97, 97, 97, 97, 97] by decide +kernel]
        rfl
      · have h2 := ht.2.resolve_left fun q => h1 (Nat.eq_of_beq_eq_true q)
        have := lev_ok (w := ((2 + n : Nat) : Int)) h2 (fun x hx => (by decide : ∀ x ∈ ([101, 100, 99, 98, 97] : List Nat), x ≠ 46) x (List.mem_of_mem_drop hx)) (by rw [hdl]; lia)
        rw [hdl] at this
        exact this
theorem plain (ns : List Int) (h : ns.length ≤ 63) : ∃ kin tab un signs text, LawOk (rowF ns) (2 + ns.length) ns.length kin tab un signs text := plain_row (rowF_length ns) h
end

section
local macro_rules | `(tactic| walk_at "stopc") => `(tactic| ((fail_if_success (with_reducible show wpAny _ _ (call (Value.ref _) _ _) _ _ _)); (fail_if_success (with_reducible show wpAny _ _ (getMethod (Value.ref _) _ _) _ _ _)); (fail_if_success (with_reducible show wpAny _ _ (setItem (Value.ref _) _ _) _ _ _)); (fail_if_success (with_reducible show wpAny _ _ (exec (Stmt.While _ _ _ _) _) _ _ _)); (fail_if_success (with_reducible show wpAny _ _ (pyIter _) _ _ _)); (fail_if_success (with_reducible show wpAny _ _ (compareOp _ (Value.ref _) _) _ _ _)); (fail_if_success (with_reducible show wpAny _ _ (compareOp _ _ (Value.ref _)) _ _ _)); (fail_if_success (with_reducible refine kswEnd_id ?_)); (fail_if_success (with_reducible refine forEnd_id ?_))))
local macro_rules | `(tactic| walk_at "st1") => `(tactic| (first | ((((fail_if_success (fail_if_success k_unfold)); first | (refine (?_ : wpAny _ _ _ _ _ _); (try dsimp only)) | (k_unfold; (try dsimp only)))); (try (((fail_if_success (fail_if_success (conv in (Shared.mk _ _ _ _ _) => skip))); (refine (?_ : let s' : Shared := _; wpAny _ _ _ _ _ s')); intro s')))) | (walk1 <;> (try walk_at "lq")) | (dsimp only; walk1 <;> (try walk_at "lq")) | (leave1; try dsimp only)))
local macro_rules | `(tactic| walk_at "pre") => `(tactic| ((try (((fail_if_success (fail_if_success (conv in (Shared.mk _ _ _ _ _) => skip))); (refine (?_ : let s' : Shared := _; wpAny _ _ _ _ _ s')); intro s'))) <;> (try walk_at "lq")))
local macro_rules | `(tactic| walk_at "nf") => `(tactic| (fail_if_success (with_reducible show wpAny _ _ (exec (Stmt.For _ _ _ _ _) _) _ _ _)))
local macro_rules | `(tactic| walk_at "k15") => `(tactic| ((case k1 => k_asm); (case k2 => k_asm); (case k3 => k_asm); (case k4 => k_asm); (case k5 => k_asm)))
local macro_rules | `(tactic| walk_at "kAH") => `(tactic| ((case kA => exact rfl); (case kF => exact rfl); (case kK => exact rfl); (case kH => exact rfl)))
local macro_rules | `(tactic| walk_at "k89") => `(tactic| ((case k8 => (dsimp +zetaDelta only [Around.deeper]; omega)); (case k9 => (dsimp +zetaDelta only [Around.deeper]; omega))))
local macro_rules | `(tactic| walk_at "stop") => `(tactic| ((fail_if_success (with_reducible show wpAny _ _ (subscriptTail _ _ (Value.ref _) _) _ _ _)); (fail_if_success (with_reducible show wpAny _ _ (call (Value.builtin _) (Value.ref _ :: _) _) _ _ _)); (fail_if_success (with_reducible show wpAny _ _ (binaryOp _ (Value.ref _) _) _ _ _)); walk_at "stopc"))
local macro_rules | `(tactic| walk_at "go") => `(tactic| walk_at "pre" <;> repeat' (walk_at "stop"; walk_at "st1"))
local macro_rules | `(tactic| walk_at "stop2") => `(tactic| ((fail_if_success (with_reducible show wpAny _ _ (call (Value.builtin "list.append") (Value.ref _ :: _) _) _ _ _)); walk_at "stopc"))
local macro_rules | `(tactic| walk_at "led") => `(tactic| focus ((repeat (first | (with_reducible exact List.Mem.head _) | ktr_member | (refine List.mem_cons_of_mem _ ?_) | (refine List.mem_append_right _ ?_))); done))
local macro_rules | `(tactic| k_mem) => `(tactic| walk_at "led")
local macro_rules | `(tactic| is_list) => `(tactic| exact News.isList (by k_asm) (by walk_at "led"))
local macro_rules | `(tactic| walk_at "size") => `(tactic| ((try simp only [List.length_append, List.length_take, List.length_drop, List.length_cons, List.length_nil, List.length_reverse, List.length_map, sizeLine_eq]); omega))
local macro_rules | `(tactic| walk_at "call builtin:min") => `(tactic| ((with_reducible show wpAny _ _ (call (Value.builtin _) [Value.int _ _, Value.int _ _]) _ _ _); refine min_py rfl (by k_asm) (by k_asm) ?_; intro t' h' tk' F' N'))
local macro_rules | `(tactic| walk_at "call builtin:max") => `(tactic| ((with_reducible show wpAny _ _ (call (Value.builtin _) [Value.int _ _, Value.int _ _]) _ _ _); refine max_py rfl (by k_asm) (by k_asm) ?_; intro t' h' tk' F' N'))
local macro_rules | `(tactic| walk_at "subscriptTail Name Slice ref ref") => `(tactic| ((with_reducible show wpAny _ _ (subscriptTail _ (PySem.Expr.Slice none (some _) none _) (Value.ref _) (Value.ref _)) _ _ _); k_dflt (refine' slice_upto_L ?F ?N ?l ?p ?z ?_ ?s ?t; (case F => k_asm); (case N => k_asm); (case l => walk_at "led"); (case p => first | assumption | decide); (case z => walk_at "size"); (case s => with_unfolding_all rfl); (case t => (intro _; with_unfolding_all rfl)); k_whole; intro D' h' F' N' l1)))
local macro_rules | `(tactic| walk_at "subscriptTail Name Slice ref ref") => `(tactic| ((with_reducible show wpAny _ _ (subscriptTail _ (PySem.Expr.Slice (some _) none none _) (Value.ref _) (Value.ref _)) _ _ _); k_dflt (refine' slice_from_L ?F ?N ?l ?p ?z ?_ ?s ?t; (case F => k_asm); (case N => k_asm); (case l => walk_at "led"); (case p => first | assumption | decide); (case z => walk_at "size"); (case s => with_unfolding_all rfl); (case t => (intro _; with_unfolding_all rfl)); k_whole; intro D' h' F' N' l1)))
local macro_rules | `(tactic| walk_at "binaryOp Add ref ref") => `(tactic| ((with_reducible show wpAny _ _ (binaryOp _ (Value.ref _) (Value.ref _)) _ _ _); refine cat_L (by k_asm) (by k_asm) (by walk_at "led") (by walk_at "led") (by walk_at "size") ?_; intro D' h' F' N' l1))
local macro_rules | `(tactic| walk_at "execs nil") => `(tactic| (with_reducible refine wpAny_execs_nil ?_; (try dsimp only)))
local macro_rules | `(tactic| walk_at "gof") => `(tactic| walk_at "pre" <;> repeat' (walk_at "nf"; walk_at "stop"; walk_at "st1"))
local macro_rules | `(tactic| k_all) => `(tactic| first | exact ne_all_lt (by assumption) (by omega) | exact ne_all_gt (by assumption) (by omega) | (refine List.forall_mem_append.mpr ⟨?_, ?_⟩ <;> k_all))
local macro_rules | `(tactic| walk_at "gob") => `(tactic| walk_at "pre" <;> repeat' (walk_at "nf"; (fail_if_success (with_reducible show wpAny _ _ (binaryOp Operator.RShift _ _) _ _ _)); (fail_if_success (with_reducible show wpAny _ _ (binaryOp Operator.LShift _ _) _ _ _)); (fail_if_success (with_reducible show wpAny _ _ (binaryOp Operator.BitXor _ _) _ _ _)); walk_at "stop"; walk_at "st1"))
local macro_rules | `(tactic| walk_at "lq") => `(tactic| (first | (fail_if_success k_fold) | ((refine (?_ : let Q1 : _ → Shared → Prop := _; wpAny _ _ _ Q1 _ _)); intro Q1)))
local macro_rules | `(tactic| walk_at "execs cons") => `(tactic| ((fail_if_success k_gentoks); (with_reducible refine wpAny_execs_cons ?_); (refine (?_ : let Q1 : Flow → Shared → Prop := _; wpAny _ _ _ Q1 _ _)); intro Q1))
local macro_rules | `(tactic| walk_at "storeName") => `(tactic| (k_here; k_dflt (refine' storeX_L ?F ?N ?_ ?a ?b; (case F => k_asm); (case N => k_asm); (case a => rfl); (case b => rfl); k_whole; (refine (?_ : ∀ h' : Heap, let m' : Str → Option Value := _; Fr _ _ h' m' → _)); intro h' m' F' N'; (try k_sweep))))
local macro_rules | `(tactic| walk_at "same") => `(tactic| (intro z h2 h3; repeat (first | with_reducible rfl | (refine sk ?hh ?_; (case hh => (first | assumption | exact ne_ct h3 (by decide +kernel) | exact ct_sub h3 (by decide +kernel) | with_reducible exact h2 _ (List.Mem.head _) | with_reducible exact h2 _ (List.Mem.tail _ (List.Mem.head _)) | with_reducible exact h2 _ (List.Mem.tail _ (List.Mem.tail _ (List.Mem.head _))) | with_reducible exact h2 _ (List.Mem.tail _ (List.Mem.tail _ (List.Mem.tail _ (List.Mem.head _))))))))))
local macro_rules | `(tactic| walk_at "kb") => `(tactic| (intro z h1 h2 h3; repeat (first | with_reducible rfl | (refine sk ?hh ?_; (case hh => (first | exact h1 | assumption | exact ne_ct h3 (by decide +kernel) | exact ct_sub h3 (by decide +kernel) | with_reducible exact h2 _ (List.Mem.head _) | with_reducible exact h2 _ (List.Mem.tail _ (List.Mem.head _)) | with_reducible exact h2 _ (List.Mem.tail _ (List.Mem.tail _ (List.Mem.head _))) | with_reducible exact h2 _ (List.Mem.tail _ (List.Mem.tail _ (List.Mem.tail _ (List.Mem.head _))))))))))
local macro_rules | `(tactic| k_ne) => `(tactic| (refine neN ?_; (try dsimp only); first | lia | omega))
local macro_rules | `(tactic| walk_at "eval Name") => `(tactic| (k_here; k_dflt (refine' nameX_L ?F ?v ?_ ?a ?b; (case F => k_asm); (case a => rfl); (case b => rfl); (case v => rfl); k_whole)))

section
theorem fill (w : World) : (Mine.hd.heap_39 w.params).In {} → PySem.Challenge.rw_pu0050_01.Holds → True := by
  k_fill
  intros
  trivial
local macro_rules | `(tactic| walk_at "to_while") => `(tactic| repeat' ((fail_if_success (with_reducible show wpAny _ _ (exec (Stmt.While _ _ _ _) _) _ _ _)); first | ((((fail_if_success (fail_if_success k_unfold)); first | (refine (?_ : wpAny _ _ _ _ _ _); (try dsimp only)) | (k_unfold; (try dsimp only)))); (try (((fail_if_success (fail_if_success (conv in (Shared.mk _ _ _ _ _) => skip))); (refine (?_ : let s' : Shared := _; wpAny _ _ _ _ _ s')); intro s')))) | (walk1 <;> (try walk_at "lq")) | (dsimp only; walk1 <;> (try walk_at "lq")) | (leave1; try dsimp only)))
local macro_rules | `(tactic| walk_at "go1") => `(tactic| (try (((fail_if_success (fail_if_success (conv in (Shared.mk _ _ _ _ _) => skip))); (refine (?_ : let s' : Shared := _; wpAny _ _ _ _ _ s')); intro s'))) <;> (try walk_at "lq") <;> repeat' ((fail_if_success (with_reducible refine kswEnd_id ?_)); first | ((((fail_if_success (fail_if_success k_unfold)); first | (refine (?_ : wpAny _ _ _ _ _ _); (try dsimp only)) | (k_unfold; (try dsimp only)))); (try (((fail_if_success (fail_if_success (conv in (Shared.mk _ _ _ _ _) => skip))); (refine (?_ : let s' : Shared := _; wpAny _ _ _ _ _ s')); intro s')))) | (walk1 <;> (try walk_at "lq")) | (dsimp only; walk1 <;> (try walk_at "lq")) | (leave1; try dsimp only)))

set_option maxRecDepth 100000 in
set_option maxHeartbeats 8000000 in
theorem br_call {prog : Program} {w : World} {p : Program} {loose : List Str} {mean : ExcName → Option Value} {mg mb : Str → Option Value}
    {A A₀ : Around} {base h₀ : Heap} {outer : List Env} {env : Env} {L : Addr} {m : Str → Option Value} {news : List (Addr × Obj)} {s : Shared} {Q E : Value → Shared → Prop}
    {l : Addr} {vs : List Value} {e : Nat} {ns : List Int} {x : Int} {tk : Tok}
    (B : Below A₀ base outer h₀) (F : Fr h₀ L s.heap m) (X : (Mine.hd.heap_39 w.params).In h₀) (N : News h₀ L s.heap news) (T : Top p loose mean mg mb h₀)
    (hA : A.frames = some (env :: outer)) (hf : env.frame = some L) (hk : env.scope.kind = .function) (hh : A.handled = none) (hd : A.depth + 1 < recursionLimit) (hu : A.units + 8 < cLine)
    (hl : (l, listOf vs.toArray e) ∈ news) (hi : IntsAre vs ns) (hfit : ns.length < 2 ^ 20)
    (hret : ∀ t h' tk', Fr h₀ L h' m → News h₀ L h' news → Q (.int (brI ns x ns.length 0 ns.length) t) { s with heap := h', toks := tk' }) :
    wpAny (model prog w) A (call (.ref 23) [.ref l, .int x tk]) Q E s := by
  obtain ⟨hdl, dp, fr, gd, un⟩ := A
  cases hh
  cases hA
  dsimp only at hd hu
  refine wpAny_call ?_
  k_dflt ((refine' code_def ?k1 ?k2 ?k3 ?k4 ?k5 ?kA ?kF ?kK ?k6 ?k7 ?k8 ?k9 ?kB ?_ ?c2 ?c3 ?c4 ?c5; (case kA => exact rfl); (case kF => assumption); (case kK => assumption); walk_at "k15"; (case k6 => k_is); (case k7 => k_is); (case k8 => (dsimp only; omega)); (case k9 => first | exact BindsTo.of_eq rfl | (refine' kp_binds ?kx ?ke; (case kx => k_in); (case ke => exact fun _ => rfl))); (case c5 => decide); (case kB => exact locs rfl); (case c2 => exact rfl); (case c3 => exact rfl); (case c4 => exact rfl); k_whole; intro g' L' h' FG' F' N' B' X' T'; (try dsimp only); (try k_lift B'); (try k_fold)))
  k_with_none
  (((refine (?_ : let env1 : Env := _; let A1 : Around := Around.deeper _ env1; let Q1 : Flow → Shared → Prop := _; let E1 : Value → Shared → Prop := _; let s1 : Shared := _; wpAny _ A1 (execs _ env1) Q1 E1 s1)); intro env1 A1 Q1 E1 s1))
  walk_at "to_while"
  (rename Fr _ _ _ _ => lF'); (rename News _ _ _ _ => lN')
  refine' ksw_while (fun _ => news) (fun c => [(Str.ofString "lo", .int c.1 c.2.2.1), (Str.ofString "hi", .int c.2.1 c.2.2.2)]) (fun _ => True) [Str.ofString "mid"] (brIInv ns x) (fun c => (c.2.1 - c.1).toNat) ⟨0, ns.length, ?t1, ?t2⟩ lF' lN' trivial ?kk (brIInv_start _ _ _ _) ?_
  case kk => kst_all
  rintro ⟨lo, hi, t1, t2⟩ u h tk _ hinv F' N'
  dsimp only [kstB] at F' N'
  have hlo := hinv.1
  have hhi := hinv.2.2.1
  dsimp only at hlo hhi
  walk_at "go1"
  · refine ksw_end ⟨_, _, _, _⟩ (by assumption) (by assumption) (fun _ h => h) trivial (by kst_all) (by walk_at "same") (brIInv_left hinv (by assumption) (by assumption)) ?_
    have := mid_facts hlo (by assumption)
    dsimp only
    omega
  · refine ksw_end ⟨_, _, _, _⟩ (by assumption) (by assumption) (fun _ h => h) trivial (by kst_all) (by walk_at "same") (brIInv_right hinv (by assumption) (by assumption)) ?_
    have := mid_facts hlo (by assumption)
    dsimp only
    omega
  · rw [brIInv_end hinv (by assumption)]
    exact hret _ _ _ (by k_asm) (by k_asm)

set_option maxRecDepth 100000 in
set_option maxHeartbeats 8000000 in
theorem bl_call {prog : Program} {w : World} {p : Program} {loose : List Str} {mean : ExcName → Option Value} {mg mb : Str → Option Value}
    {A A₀ : Around} {base h₀ : Heap} {outer : List Env} {env : Env} {L : Addr} {m : Str → Option Value} {news : List (Addr × Obj)} {s : Shared} {Q E : Value → Shared → Prop}
    {l : Addr} {vs : List Value} {e : Nat} {ns : List Int} {x : Int} {tk : Tok}
    (B : Below A₀ base outer h₀) (F : Fr h₀ L s.heap m) (X : (Mine.hd.heap_39 w.params).In h₀) (N : News h₀ L s.heap news) (T : Top p loose mean mg mb h₀)
    (hA : A.frames = some (env :: outer)) (hf : env.frame = some L) (hk : env.scope.kind = .function) (hh : A.handled = none) (hd : A.depth + 1 < recursionLimit) (hu : A.units + 8 < cLine)
    (hl : (l, listOf vs.toArray e) ∈ news) (hi : IntsAre vs ns) (hfit : ns.length < 2 ^ 20)
    (hret : ∀ t h' tk', Fr h₀ L h' m → News h₀ L h' news → Q (.int (blI ns x ns.length 0 ns.length) t) { s with heap := h', toks := tk' }) :
    wpAny (model prog w) A (call (.ref 32) [.ref l, .int x tk]) Q E s := by
  obtain ⟨hdl, dp, fr, gd, un⟩ := A
  cases hh
  cases hA
  dsimp only at hd hu
  refine wpAny_call ?_
  k_dflt ((refine' code_def ?k1 ?k2 ?k3 ?k4 ?k5 ?kA ?kF ?kK ?k6 ?k7 ?k8 ?k9 ?kB ?_ ?c2 ?c3 ?c4 ?c5; (case kA => exact rfl); (case kF => assumption); (case kK => assumption); walk_at "k15"; (case k6 => k_is); (case k7 => k_is); (case k8 => (dsimp only; omega)); (case k9 => first | exact BindsTo.of_eq rfl | (refine' kp_binds ?kx ?ke; (case kx => k_in); (case ke => exact fun _ => rfl))); (case c5 => decide); (case kB => exact locs rfl); (case c2 => exact rfl); (case c3 => exact rfl); (case c4 => exact rfl); k_whole; intro g' L' h' FG' F' N' B' X' T'; (try dsimp only); (try k_lift B'); (try k_fold)))
  k_with_none
  (((refine (?_ : let env1 : Env := _; let A1 : Around := Around.deeper _ env1; let Q1 : Flow → Shared → Prop := _; let E1 : Value → Shared → Prop := _; let s1 : Shared := _; wpAny _ A1 (execs _ env1) Q1 E1 s1)); intro env1 A1 Q1 E1 s1))
  walk_at "to_while"
  (rename Fr _ _ _ _ => lF'); (rename News _ _ _ _ => lN')
  refine' ksw_while (fun _ => news) (fun c => [(Str.ofString "lo", .int c.1 c.2.2.1), (Str.ofString "hi", .int c.2.1 c.2.2.2)]) (fun _ => True) [Str.ofString "mid"] (blIInv ns x) (fun c => (c.2.1 - c.1).toNat) ⟨0, ns.length, ?t1, ?t2⟩ lF' lN' trivial ?kk (blIInv_start _ _ _ _) ?_
  case kk => kst_all
  rintro ⟨lo, hi, t1, t2⟩ u h tk _ hinv F' N'
  dsimp only [kstB] at F' N'
  have hlo := hinv.1
  have hhi := hinv.2.2.1
  dsimp only at hlo hhi
  walk_at "go1"
  · refine ksw_end ⟨_, _, _, _⟩ (by assumption) (by assumption) (fun _ h => h) trivial (by kst_all) (by walk_at "same") (blIInv_right hinv (by assumption) (by assumption)) ?_
    have := mid_facts hlo (by assumption)
    dsimp only
    omega
  · refine ksw_end ⟨_, _, _, _⟩ (by assumption) (by assumption) (fun _ h => h) trivial (by kst_all) (by walk_at "same") (blIInv_left hinv (by assumption) (by assumption)) ?_
    have := mid_facts hlo (by assumption)
    dsimp only
    omega
  · rw [blIInv_end hinv (by assumption)]
    exact hret _ _ _ (by k_asm) (by k_asm)
end



section
noncomputable def TabJ (news : Ledg) (ln rs : Addr) (b : Bool) (ns : List Int) (m₀ : Str → Option Value) (i : Nat) (m : Str → Option Value) (nx : Ledg) : Prop :=
  ∃ as xss ds, TabL news nx ln rs as xss ds ∧ (xss, ds) = tabF b (ns.take i) ∧ (∀ z, (∀ p ∈ ([] : List (Str × Value)), z ≠ p.1) → [Str.ofString "number", Str.ofString "depth", Str.ofString "line", Str.ofString "place", Str.ofString "pushed"].contains z = false → m z = m₀ z)
theorem canon {stored : List Str} {m₀ m₁ : Str → Option Value} (h : ∀ z, (∀ p ∈ ([] : List (Str × Value)), z ≠ p.1) → stored.contains z = false → m₁ z = m₀ z) : m₁ = fun z => if stored.contains z then m₁ z else m₀ z := by
  funext z
  by_cases q : stored.contains z = true
  · simp only [q, if_true]
  · simp only [q, if_false]
    exact h z (fun _ hp => nomatch hp) (by simpa using q)

set_option maxRecDepth 100000 in
set_option maxHeartbeats 8000000 in
theorem table_call {prog : Program} {w : World} {p : Program} {loose : List Str} {mean : ExcName → Option Value} {mg mb : Str → Option Value}
    {A A₀ : Around} {base h₀ : Heap} {outer : List Env} {env : Env} {L : Addr} {m : Str → Option Value} {news : List (Addr × Obj)} {s : Shared} {Q E : Value → Shared → Prop}
    {l : Addr} {vs : List Value} {e : Nat} {ns : List Int} {b : Bool}
    (B : Below A₀ base outer h₀) (F : Fr h₀ L s.heap m) (X : (Mine.hd.heap_39 w.params).In h₀) (N : News h₀ L s.heap news) (T : Top p loose mean mg mb h₀)
    (hA : A.frames = some (env :: outer)) (hf : env.frame = some L) (hk : env.scope.kind = .function) (hh : A.handled = none) (hd : A.depth + 2 < recursionLimit) (hu : A.units + 16 < cLine)
    (hl : (l, listOf vs.toArray e) ∈ news) (hi : IntsAre vs ns) (hfit : ns.length ≤ 1000)
    (hret : ∀ r ln rs as nx h' tk', Fr h₀ L h' m → News h₀ L h' nx → (r, ({ cls := .type "tuple", data := .seq #[.ref ln, .ref rs] } : Obj)) ∈ nx → TabL news nx ln rs as (tabF b ns).1 (tabF b ns).2 → (∀ p ∈ news, p.1 < r) → Q (.ref r) { s with heap := h', toks := tk' }) :
    wpAny (model prog w) A (call (.ref 95) [.ref l, .bool b]) Q E s := by
  obtain ⟨hdl, dp, fr, gd, un⟩ := A
  cases hh
  cases hA
  dsimp only at hd hu
  refine wpAny_call ?_
  k_dflt ((refine' code_def ?k1 ?k2 ?k3 ?k4 ?k5 ?kA ?kF ?kK ?k6 ?k7 ?k8 ?k9 ?kB ?_ ?c2 ?c3 ?c4 ?c5; (case kA => exact rfl); (case kF => assumption); (case kK => assumption); walk_at "k15"; (case k6 => k_is); (case k7 => k_is); (case k8 => (dsimp only; omega)); (case k9 => first | exact BindsTo.of_eq rfl | (refine' kp_binds ?kx ?ke; (case kx => k_in); (case ke => exact fun _ => rfl))); (case c5 => decide); (case kB => exact locs rfl); (case c2 => exact rfl); (case c3 => exact rfl); (case c4 => exact rfl); k_whole; intro g' L' h' FG' F' N' B' X' T'; (try dsimp only); (try k_lift B'); (try k_fold)))
  k_with_none
  (((refine (?_ : let env1 : Env := _; let A1 : Around := Around.deeper _ env1; let Q1 : Flow → Shared → Prop := _; let E1 : Value → Shared → Prop := _; let s1 : Shared := _; wpAny _ A1 (execs _ env1) Q1 E1 s1)); intro env1 A1 Q1 E1 s1))
  walk_at "gof"
  (rename Fr _ _ _ _ => F1)
  refine forAt F1 rfl rfl ?_
  walk_at "go"
  (rename Fr _ _ _ _ => F1); (rename News _ _ _ _ => N1)
  refine forL (TabJ news _ _ b ns _) rfl F1 N1 (.tail _ (.tail _ (.tail _ hl))) ⟨[], [], [], TabL.start (by assumption) ?ts, rfl, fun _ _ _ => rfl⟩ ?_ ?_
  case ts => omega
  · intro I i v m₁ nx h tk own hv hJ hI hIo hown F2 N2
    obtain ⟨as, xss, ds, hT, htab, hm⟩ := hJ
    rw [canon hm] at F2
    obtain ⟨oI, hIo⟩ := hIo
    have hil : i < ns.length := by rw [← hi.length]; exact (List.getElem?_eq_some_iff.mp hv).1
    obtain ⟨t, ht⟩ := ints_get hi hil
    rw [hv] at ht
    cases ht
    have hT1 := hT.lift (own := own) (l := l) hI hown ⟨_, hl⟩
    have hsm : Small 1000 xss := by
      have h1 := tabF_small b (ns.take i)
      rw [← htab] at h1
      exact ⟨by have := h1.1; simp at this; omega, fun xs hx => by have := h1.2 xs hx; simp at this; omega⟩
    have hdsl : ds.length = i := by
      have h1 := tabF_len b (ns.take i)
      rw [← htab] at h1
      simp at h1
      omega
    walk_at "go"
    (rename Fr _ _ _ _ => F3); (rename News _ _ _ _ => N3)
    refine' ksw_while (σ := Ledg × List (List Int) × Int × Int × Tok × Tok) (fun c => c.1) (fun c => [(Str.ofString "depth", .int c.2.2.1 c.2.2.2.2.1), (Str.ofString "number", .int c.2.2.2.1 c.2.2.2.2.2)]) (fun _ => True) [Str.ofString "line", Str.ofString "place", Str.ofString "pushed"]
      (fun c => TabL (own ++ news) c.1 _ _ as c.2.1 ds ∧ TabIn b xss (ns.getD i 0) c.2.1 c.2.2.1 c.2.2.2.1 ∧ Small 1000 c.2.1) (fun c => ((c.2.1.length : Int) - c.2.2.1).toNat) ⟨own ++ nx, xss, 0, ns.getD i 0, ?t1, ?t2⟩ F3 N3 trivial ?kk ⟨hT1, TabIn.start _ _ _, hsm⟩ ?_
    case kk => kst_all
    rintro ⟨ny, yss, d, y, t1, t2⟩ u h4 tk4 _ ⟨hT4, hin, hsm4⟩ F4 N4
    dsimp only [kstB] at F4 N4 hT4 hin hsm4
    obtain ⟨el, hlines⟩ := hT4.lines
    have hal : as.length = yss.length := hT4.rows.len
    have hyl : yss.length ≤ 1000 := hsm4.1
    have hd0 := hin.d0
    walk_at "go"
    refine len_L N4 hlines (by simp; omega) ?_
    simp only [List.length_map, hal]
    walk_at "go"
    · obtain ⟨a, ha⟩ : ∃ a, as[d.toNat]? = some a := ⟨as[d.toNat]'(by omega), by simp⟩
      obtain ⟨vr, er, hr, ir⟩ := hT4.rows.at' _ a ha
      have hrl := hsm4.getD d.toNat
      refine item_L (by k_asm) hlines hd0 (by omega) (show (as.map Value.ref)[d.toNat]? = some (.ref a) by simp [ha]) ?_
      walk_at "go"
      all_goals first | (((refine' bl_call ?k1 ?k2 ?k3 ?k4 ?k5 ?kA ?kF ?kK ?kH ?k8 ?k9 ?kl ?ki ?kf ?_; walk_at "kAH"; walk_at "k15"; walk_at "k89")); (case kl => exact hr); (case ki => exact ir); (case kf => omega); intro t5 h5 tk5 F5 N5; rw [bF_true (by assumption)]) | (((refine' br_call ?k1 ?k2 ?k3 ?k4 ?k5 ?kA ?kF ?kK ?kH ?k8 ?k9 ?kl ?ki ?kf ?_; walk_at "kAH"; walk_at "k15"; walk_at "k89")); (case kl => exact hr); (case ki => exact ir); (case kf => omega); intro t5 h5 tk5 F5 N5; rw [bF_false (by assumption)])
      all_goals (
        have hbb := bF_bound b (yss.getD d.toNat []) y
        have hvl : vr.length = (yss.getD d.toNat []).length := ir.length
        walk_at "go"
        refine len_L (by k_asm) hr (by omega) ?_
        rw [hvl]
        walk_at "go")
      · refine len_L (by k_asm) hlines (by simp; omega) ?_
        simp only [List.length_map, hal]
        walk_at "go"
        · exfalso; omega
        refine item_L (by k_asm) hlines hd0 (by omega) (show (as.map Value.ref)[d.toNat]? = some (.ref a) by simp [ha]) ?_
        walk_at "go"
        refine getMethod_append_N (by k_asm) hr ?_
        walk_at "go"
        refine append_L (by k_asm) (by k_asm) hr (by rw [sizeLine_eq]; omega) ?_
        intro h7 F7 N7
        have hT7 := hT4.setRow (e := er + 1) ha (ints_snoc (y := y) (t := t2) ir)
        obtain ⟨vq, eq, hq, iq⟩ := hT7.rests
        have hvq : vq.length ≤ 1000 := by rw [iq.length, hdsl]; omega
        walk_at "go"
        refine getMethod_append_N (by k_asm) hq ?_
        walk_at "go"
        refine append_L (by k_asm) (by k_asm) hq (by rw [sizeLine_eq]; omega) ?_
        intro h8 F8 N8
        have hT8 := hT7.setRests (e := eq + 1) (ints_snoc (y := d) (t := t1) iq)
        walk_at "go"
        refine ⟨_, _, _, _, rfl, by assumption, by assumption, fun p hp => hT8.old p (List.mem_append_left _ hp), as, _, _, hT8.filter hIo (fun p hp => hI p (hT.old p hp)), tab_next htab hil hd0 (hin.stop (by assumption) (by assumption)), ?_⟩
        walk_at "same"
      · obtain ⟨t6, ht6⟩ := ints_get ir (i := (bF b (yss.getD d.toNat []) y).toNat) (by omega)
        refine item_L (by k_asm) hr hbb.1 (by omega) ht6 ?_
        walk_at "go"
        refine set_L (by k_asm) (by k_asm) hr hbb.1 (by omega) (by omega) ?_
        intro h7 F7 N7
        have hT7 := hT4.setRow (e := er) ha (ints_set (x := y) (u := t2) ir (bF b (yss.getD d.toNat []) y).toNat)
        walk_at "go"
        refine ksw_end ⟨_, _, _, _, _, _⟩ (by assumption) (by assumption) (fun _ h => h) trivial (by kst_all) (by walk_at "same") ⟨hT7, hin.step (by assumption) (by assumption), hsm4.set (by rw [List.length_set]; exact hrl)⟩ ?_
        dsimp only
        rw [List.length_set]
        omega
      · refine len_L (by k_asm) hlines (by simp; omega) ?_
        simp only [List.length_map, hal]
        walk_at "go"
        · exfalso; omega
        refine item_L (by k_asm) hlines hd0 (by omega) (show (as.map Value.ref)[d.toNat]? = some (.ref a) by simp [ha]) ?_
        walk_at "go"
        refine getMethod_append_N (by k_asm) hr ?_
        walk_at "go"
        refine append_L (by k_asm) (by k_asm) hr (by rw [sizeLine_eq]; omega) ?_
        intro h7 F7 N7
        have hT7 := hT4.setRow (e := er + 1) ha (ints_snoc (y := y) (t := t2) ir)
        obtain ⟨vq, eq, hq, iq⟩ := hT7.rests
        have hvq : vq.length ≤ 1000 := by rw [iq.length, hdsl]; omega
        walk_at "go"
        refine getMethod_append_N (by k_asm) hq ?_
        walk_at "go"
        refine append_L (by k_asm) (by k_asm) hq (by rw [sizeLine_eq]; omega) ?_
        intro h8 F8 N8
        have hT8 := hT7.setRests (e := eq + 1) (ints_snoc (y := d) (t := t1) iq)
        walk_at "go"
        refine ⟨_, _, _, _, rfl, by assumption, by assumption, fun p hp => hT8.old p (List.mem_append_left _ hp), as, _, _, hT8.filter hIo (fun p hp => hI p (hT.old p hp)), tab_next htab hil hd0 (hin.stop (by assumption) (by assumption)), ?_⟩
        walk_at "same"
      · obtain ⟨t6, ht6⟩ := ints_get ir (i := (bF b (yss.getD d.toNat []) y).toNat) (by omega)
        refine item_L (by k_asm) hr hbb.1 (by omega) ht6 ?_
        walk_at "go"
        refine set_L (by k_asm) (by k_asm) hr hbb.1 (by omega) (by omega) ?_
        intro h7 F7 N7
        have hT7 := hT4.setRow (e := er) ha (ints_set (x := y) (u := t2) ir (bF b (yss.getD d.toNat []) y).toNat)
        walk_at "go"
        refine ksw_end ⟨_, _, _, _, _, _⟩ (by assumption) (by assumption) (fun _ h => h) trivial (by kst_all) (by walk_at "same") ⟨hT7, hin.step (by assumption) (by assumption), hsm4.set (by rw [List.length_set]; exact hrl)⟩ ?_
        dsimp only
        rw [List.length_set]
        omega
    · refine len_L (by k_asm) hlines (by simp; omega) ?_
      simp only [List.length_map, hal]
      walk_at "go"
      · refine getMethod_append_N (by k_asm) hlines ?_
        walk_at "go"
        (rename News _ _ _ _ => N6)
        refine append_L (by k_asm) N6 (.tail _ hlines) (by rw [sizeLine_eq]; simp; omega) ?_
        intro h7 F7 N7
        have hT7 := hT4.newRow (e1 := el + 1) (e2 := 0) (by assumption) IntsAre.nil
        obtain ⟨el7, hlines7⟩ := hT7.lines
        obtain ⟨vr, er, hr, ir⟩ := hT7.rows.at' d.toNat _ (last_at hal (by assumption))
        rw [getD_last' hal.symm (by assumption)] at ir
        cases ir
        walk_at "go"
        refine item_L (by k_asm) hlines7 hd0 (by omega) (last_ref (last_at hal (by assumption))) ?_
        walk_at "go"
        refine getMethod_append_N (by k_asm) hr ?_
        walk_at "go"
        refine append_L (by k_asm) (by k_asm) hr (by rw [sizeLine_eq]; simp) ?_
        intro h8 F8 N8
        have hT8 := hT7.setRow (e := er + 1) (d := d.toNat) (last_at hal (by assumption)) (ints_snoc (y := y) (t := t2) IntsAre.nil)
        obtain ⟨vq, eq, hq, iq⟩ := hT8.rests
        have hvq : vq.length ≤ 1000 := by rw [iq.length, hdsl]; omega
        walk_at "go"
        refine getMethod_append_N (by k_asm) hq ?_
        walk_at "go"
        refine append_L (by k_asm) (by k_asm) hq (by rw [sizeLine_eq]; omega) ?_
        intro h9 F9 N9
        have hT9 := hT8.setRests (e := eq + 1) (ints_snoc (y := d) (t := t1) iq)
        rw [set_last (by assumption)] at hT9
        walk_at "go"
        refine ⟨_, _, _, _, rfl, by assumption, by assumption, fun p hp => hT9.old p (List.mem_append_left _ hp), _, _, _, hT9.filter hIo (fun p hp => hI p (hT.old p hp)), tab_next htab hil hd0 (hin.past (by assumption)), ?_⟩
        walk_at "same"
      · exfalso
        have := hin.dl
        omega
  · intro m₁ nx h tk hJ F2 N2
    obtain ⟨as, xss, ds, hT, htab, hm⟩ := hJ
    rw [canon hm] at F2
    have hvl : vs.length = ns.length := hi.length
    rw [hvl, List.take_length] at htab
    walk_at "go"
    (rename (∀ (q : Addr × Obj), q ∈ nx → q.1 < _) => hlt9)
    refine hret _ _ _ as _ _ _ (by assumption) (by assumption) (.head _) ?_ (fun p hp => hlt9 p (hT.old p hp))
    have h1 : xss = (tabF b ns).1 := congrArg Prod.fst htab
    have h2 : ds = (tabF b ns).2 := congrArg Prod.snd htab
    rw [← h1, ← h2]
    exact hT.grow fun p hp => .tail _ hp
end

section
local macro_rules | `(tactic| k_lt $_h:ident) => `(tactic| skip)
local macro_rules | `(tactic| walk_at "subscriptTail Name Name ref int") => `(tactic| ((with_reducible show wpAny _ _ (subscriptTail _ _ (Value.ref _) (Value.int _ _)) _ _ _); refine item_L (by k_asm) (by walk_at "led") (by assumption) (by assumption) (by assumption) ?_))
local macro_rules | `(tactic| walk_at "subscriptTail Name BinOp ref int") => `(tactic| ((with_reducible show wpAny _ _ (subscriptTail _ _ (Value.ref _) (Value.int _ _)) _ _ _); refine item_L (by k_asm) (by walk_at "led") (by assumption) (by assumption) (by assumption) ?_))
noncomputable def TurnP (mc : Str → Option Value) (nw : Ledg) (kn : Addr) (bs : List Addr) (xs : List (List Int)) (one : List Int) (a I : Addr) (i : Nat) (m' : Str → Option Value) (nx' : Ledg) : Prop :=
  ∃ D, Told' [(Str.ofString "turned", .ref D)] [] mc m' ∧ KinL nw nx' kn bs xs ∧ IntsAt nx' D (turnF one i) ∧ IntsAt nx' a one ∧ D ≠ I ∧ D ≠ kn
theorem cutK {M : Model} {A : Around} {env : Env} {st : Stmt} {Q : Flow → Shared → Prop} {E : Value → Shared → Prop} {s : Shared} {h₀ : Heap} {L : Addr} {mc : Str → Option Value} {nw nx : Ledg} {kn : Addr} {bs : List Addr} {xs : List (List Int)} (one : List Int) (a I : Addr) (i : Nat)
    (F : Fr h₀ L s.heap mc) (hK : KinL nw nx kn bs xs)
    (hw : ∀ Q' : Flow → Shared → Prop, (∀ h' tk' m' nx', Fr h₀ L h' m' → News h₀ L h' nx' → TurnP mc nw kn bs xs one a I i m' nx' → Q' .next { s with heap := h', toks := tk' }) → wpAny M A (exec st env) Q' E s)
    (hc : ∀ h' tk' m' nx', Fr h₀ L h' m' → News h₀ L h' nx' → TurnP mc nw kn bs xs one a I i m' nx' → Q .next { s with heap := h', toks := tk' }) : wpAny M A (exec st env) Q E s := hw Q hc
theorem canonK' {stored : List Str} {m₀ m₁ : Str → Option Value} (h : ∀ z, (∀ p ∈ ([] : List (Str × Value)), z ≠ p.1) → stored.contains z = false → m₁ z = m₀ z) : m₁ = fun z => if stored.contains z then m₁ z else m₀ z := by
  funext z
  by_cases q : stored.contains z = true
  · simp only [q, if_true]
  · simp only [q, if_false]
    exact h z (fun _ hp => nomatch hp) (by simpa using q)

noncomputable def KinJ (news : Ledg) (kn a : Addr) (one : List Int) (xss : List (List Int)) (m₀ : Str → Option Value) (i : Nat) (m : Str → Option Value) (nx : Ledg) : Prop :=
  ∃ as, KinL news nx kn as (kinFold one i xss) ∧ IntsAt nx a one ∧ (∀ xs ∈ kinFold one i xss, xs.length = 5) ∧ (kinFold one i xss).length ≤ xss.length + i ∧ (∀ z, (∀ p ∈ ([] : List (Str × Value)), z ≠ p.1) → [Str.ofString "k", Str.ofString "turned"].contains z = false → m z = m₀ z)
set_option maxRecDepth 100000 in
set_option maxHeartbeats 8000000 in
theorem kin_call' {prog : Program} {w : World} {p : Program} {loose : List Str} {mean : ExcName → Option Value} {mg mb : Str → Option Value}
    {A A₀ : Around} {base h₀ : Heap} {outer : List Env} {env : Env} {L : Addr} {m : Str → Option Value} {news : List (Addr × Obj)} {s : Shared} {Q E : Value → Shared → Prop}
    {l : Addr} {ns : List Int} {res : List (List Int)} {fuel : Nat}
    (B : Below A₀ base outer h₀) (F : Fr h₀ L s.heap m) (X : (Mine.hd.heap_39 w.params).In h₀) (N : News h₀ L s.heap news) (T : Top p loose mean mg mb h₀)
    (hA : A.frames = some (env :: outer)) (hf : env.frame = some L) (hk : env.scope.kind = .function) (hh : A.handled = none) (hd : A.depth + 2 < recursionLimit) (hu : A.units + 16 < cLine)
    (hl : IntsAt news l ns) (h5 : ns.length = 5) (hres : kinLoop fuel [ns] 0 = some res) (hfuel : fuel ≤ 1000)
    (hret : ∀ kn as nx h' tk', Fr h₀ L h' m → News h₀ L h' nx → KinL news nx kn as res → Q (.ref kn) { s with heap := h', toks := tk' }) :
    wpAny (model prog w) A (call (.ref 88) [.ref l]) Q E s := by
  obtain ⟨hdl, dp, fr, gd, un⟩ := A
  cases hh
  cases hA
  dsimp only at hd hu
  refine wpAny_call ?_
  k_dflt ((refine' code_def ?k1 ?k2 ?k3 ?k4 ?k5 ?kA ?kF ?kK ?k6 ?k7 ?k8 ?k9 ?kB ?_ ?c2 ?c3 ?c4 ?c5; (case kA => exact rfl); (case kF => assumption); (case kK => assumption); walk_at "k15"; (case k6 => k_is); (case k7 => k_is); (case k8 => (dsimp only; omega)); (case k9 => first | exact BindsTo.of_eq rfl | (refine' kp_binds ?kx ?ke; (case kx => k_in); (case ke => exact fun _ => rfl))); (case c5 => decide); (case kB => exact locs rfl); (case c2 => exact rfl); (case c3 => exact rfl); (case c4 => exact rfl); k_whole; intro g' L' h' FG' F' N' B' X' T'; (try dsimp only); (try k_lift B'); (try k_fold)))
  k_with_none
  (((refine (?_ : let env1 : Env := _; let A1 : Around := Around.deeper _ env1; let Q1 : Flow → Shared → Prop := _; let E1 : Value → Shared → Prop := _; let s1 : Shared := _; wpAny _ A1 (execs _ env1) Q1 E1 s1)); intro env1 A1 Q1 E1 s1))
  walk_at "go"
  (rename Fr _ _ _ _ => F1); (rename News _ _ _ _ => N1)
  refine' ksw_while (σ := Ledg × List Addr × List (List Int) × Int × Nat × Tok) (fun c => c.1) (fun c => [(Str.ofString "at", .int c.2.2.2.1 c.2.2.2.2.2)]) (fun _ => True) [Str.ofString "one", Str.ofString "k", Str.ofString "turned"]
      (fun c => KinL news c.1 _ c.2.1 c.2.2.1 ∧ 0 ≤ c.2.2.2.1 ∧ kinLoop c.2.2.2.2.1 c.2.2.1 c.2.2.2.1.toNat = some res ∧ (∀ xs ∈ c.2.2.1, xs.length = 5) ∧ c.2.2.1.length + 3 * c.2.2.2.2.1 ≤ 4000) (fun c => c.2.2.2.2.1) ⟨_, [l], [ns], 0, fuel, ?t1⟩ F1 N1 trivial ?kk ⟨KinL.start (by assumption) hl, Int.le_refl _, hres, by simpa using h5, by simp; omega⟩ ?_
  case kk => kst_all
  rintro ⟨nx, as, xss, at', f, t1⟩ u h4 tk4 _ ⟨hK, hat, hloop, hlen, hsz⟩ F4 N4
  dsimp only [kstB] at F4 N4 hK hat hloop hlen hsz
  obtain ⟨ek, hkin⟩ := hK.kin
  have hal : as.length = xss.length := hK.rows.len
  walk_at "go"
  refine len_L (by k_asm) hkin (by simp; omega) ?_
  simp only [List.length_map, hal]
  walk_at "go"
  · cases f with
    | zero => cases hloop
    | succ f =>
    rw [kinLoop, if_pos (by omega)] at hloop
    obtain ⟨a, ha⟩ : ∃ a, as[at'.toNat]? = some a := ⟨as[at'.toNat]'(by omega), by simp⟩
    refine item_L (by k_asm) hkin hat (by omega) (show (as.map Value.ref)[at'.toNat]? = some (.ref a) by simp [ha]) ?_
    walk_at "go"
    have hone : (xss.getD at'.toNat []).length = 5 := by
      rw [List.getD_eq_getElem?_getD, List.getElem?_eq_getElem (by omega)]
      exact hlen _ (List.getElem_mem _)
    have hane := hK.ne (List.mem_of_getElem? ha)
    have hia := hK.rows.at' _ a ha
    (rename Fr _ _ _ _ => F5); (rename News _ _ _ _ => N5); (rename IsRange _ _ _ _ _ _ _ _ => hrg)
    refine forR (n := 3) (KinJ news _ a (xss.getD at'.toNat []) xss _) rfl hrg (by decide) rfl F5 N5 ⟨as, hK, hia, hlen, Nat.le_refl _, fun _ _ _ => rfl⟩ ?_ ?_
    · intro I i t m₁ ny h tk own hi3 hJ hI hIo hown F6 N6
      obtain ⟨bs, hK6, hia6, hlen6, hsz6, hm6⟩ := hJ
      obtain ⟨oI, hIo⟩ := hIo
      rw [canonK' hm6] at F6
      simp only [Int.zero_add] at F6
      have hK7 := hK6.lift (own := own) hI hown
      obtain ⟨va, ea, hva, hiv⟩ : IntsAt (own ++ ny) a (xss.getD at'.toNat []) := hia6.mono fun o h => List.mem_append_right _ h
      have p0 : (0 : Int) ≤ (i : Int) := by omega
      have p1 : (0 : Int) ≤ (i : Int) + 1 := by omega
      have p2 : (0 : Int) ≤ (i : Int) + 2 := by omega
      have p3 : (0 : Int) ≤ (i : Int) + 3 := by omega
      have hval : va.length = 5 := by rw [hiv.length]; exact hone
      have q0 : (i : Int) < 2 ^ 63 := by omega
      have q1 : (i : Int) + 1 < 2 ^ 63 := by omega
      have q2 : (i : Int) + 2 < 2 ^ 63 := by omega
      obtain ⟨s0, x0⟩ := ints_at hiv (k := (i : Int)) (j := i) (by omega) (by omega)
      obtain ⟨s1, x1⟩ := ints_at hiv (k := (i : Int) + 1) (j := i + 1) (by omega) (by omega)
      obtain ⟨s2, x2⟩ := ints_at hiv (k := (i : Int) + 2) (j := i + 2) (by omega) (by omega)
      have haI8 : a ≠ I := by
        obtain ⟨v, e, hm, _⟩ := hia6
        exact hI _ hm
      have hIbs : I ∉ bs := fun q => by
        obtain ⟨j, hj, e⟩ := List.getElem_of_mem q
        obtain ⟨v, ee, hm, _⟩ := hK6.rows.at' j I (by simp [hj, e])
        exact hI _ hm rfl
      (walk_at "pre" <;> repeat' ((fail_if_success (with_reducible show wpAny _ _ (exec (Stmt.If _ _ _ _) _) _ _ _)); walk_at "stop2"; walk_at "st1"))
      (rename Fr _ _ _ _ => Fc)
      refine cutK (xss.getD at'.toNat []) a I i Fc hK7 ?_ ?_
      · intro Q' hQ'
        (walk_at "pre" <;> repeat' (walk_at "stop2"; walk_at "st1"))
        · have hys8 := turnF_one (one := xss.getD at'.toNat []) (k := i) (by assumption) (by assumption)
          have e1 : ((i : Int) + 1).toNat = i + 1 := by omega
          have e3 : ((i : Int) + 3).toNat = i + 3 := by omega
          (rename IntsAre _ _ => hI8)
          rw [e1, e3] at hI8
          (rename (∀ (q : Addr × Obj), q ∈ _ → q.1 < _) => hlt8)
          (rename News _ _ _ _ => N7)
          have hlt9 : ∀ q ∈ own ++ ny, q.1 < _ := fun q hq => hlt8 q (by repeat (first | exact hq | apply List.mem_cons_of_mem))
          have hK8 := hK7.grow (nx' := _) (fun p hp => kinGrow N7 (by repeat (first | exact hp | apply List.mem_cons_of_mem)))
          have ht8 := IntsAt.head N7 hI8
          have hia8 : IntsAt _ a (xss.getD at'.toNat []) := IntsAt.mono ⟨va, ea, hva, hiv⟩ (fun o ho => kinGrow N7 (by repeat (first | exact ho | apply List.mem_cons_of_mem)))
          obtain ⟨ek7, hkin7⟩ := hK7.kin
          have htk8 := Nat.ne_of_gt (hlt9 _ hkin7)
          have htI8 := Nat.ne_of_gt (hlt9 _ (List.mem_append_left _ hIo))
          rw [hys8] at ht8
          exact hQ' _ _ _ _ (by assumption) N7 ⟨_, ⟨by kst_all, by walk_at "same"⟩, hK8, ht8, hia8, htI8, htk8⟩
        · have hys8 := turnF_two (one := xss.getD at'.toNat []) (k := i) (by first | exact fun z => absurd z.1 (by assumption) | exact fun z => absurd z.2 (by assumption)) (by assumption) (by assumption)
          have e1 : ((i : Int)).toNat = i := by omega
          have e3 : ((i : Int) + 2).toNat = i + 2 := by omega
          (rename IntsAre _ _ => hI8)
          rw [e1, e3] at hI8
          (rename (∀ (q : Addr × Obj), q ∈ _ → q.1 < _) => hlt8)
          (rename News _ _ _ _ => N7)
          have hlt9 : ∀ q ∈ own ++ ny, q.1 < _ := fun q hq => hlt8 q (by repeat (first | exact hq | apply List.mem_cons_of_mem))
          have hK8 := hK7.grow (nx' := _) (fun p hp => kinGrow N7 (by repeat (first | exact hp | apply List.mem_cons_of_mem)))
          have ht8 := IntsAt.head N7 hI8
          have hia8 : IntsAt _ a (xss.getD at'.toNat []) := IntsAt.mono ⟨va, ea, hva, hiv⟩ (fun o ho => kinGrow N7 (by repeat (first | exact ho | apply List.mem_cons_of_mem)))
          obtain ⟨ek7, hkin7⟩ := hK7.kin
          have htk8 := Nat.ne_of_gt (hlt9 _ hkin7)
          have htI8 := Nat.ne_of_gt (hlt9 _ (List.mem_append_left _ hIo))
          rw [hys8] at ht8
          exact hQ' _ _ _ _ (by assumption) N7 ⟨_, ⟨by kst_all, by walk_at "same"⟩, hK8, ht8, hia8, htI8, htk8⟩
        · have hys8 : xss.getD at'.toNat [] = turnF (xss.getD at'.toNat []) i := by
            rw [turnF]
            first | rw [if_neg (fun z => absurd z.1 (by assumption))] | rw [if_neg (fun z => absurd z.2 (by assumption))]
            first | rw [if_neg (fun z => absurd z.1 (by assumption))] | rw [if_neg (fun z => absurd z.2 (by assumption))]
          have hK8 := hK7
          have ht8 : IntsAt (own ++ ny) a (xss.getD at'.toNat []) := ⟨va, ea, hva, hiv⟩
          have hia8 := ht8
          have htk8 := hane
          have htI8 := haI8
          rw [hys8] at ht8
          (rename News _ _ _ _ => N7)
          exact hQ' _ _ _ _ (by assumption) N7 ⟨_, ⟨by kst_all, by walk_at "same"⟩, hK8, ht8, hia8, htI8, htk8⟩
        · have hys8 : xss.getD at'.toNat [] = turnF (xss.getD at'.toNat []) i := by
            rw [turnF]
            first | rw [if_neg (fun z => absurd z.1 (by assumption))] | rw [if_neg (fun z => absurd z.2 (by assumption))]
            first | rw [if_neg (fun z => absurd z.1 (by assumption))] | rw [if_neg (fun z => absurd z.2 (by assumption))]
          have hK8 := hK7
          have ht8 : IntsAt (own ++ ny) a (xss.getD at'.toNat []) := ⟨va, ea, hva, hiv⟩
          have hia8 := ht8
          have htk8 := hane
          have htI8 := haI8
          rw [hys8] at ht8
          (rename News _ _ _ _ => N7)
          exact hQ' _ _ _ _ (by assumption) N7 ⟨_, ⟨by kst_all, by walk_at "same"⟩, hK8, ht8, hia8, htI8, htk8⟩
        · have hys8 := turnF_two (one := xss.getD at'.toNat []) (k := i) (by first | exact fun z => absurd z.1 (by assumption) | exact fun z => absurd z.2 (by assumption)) (by assumption) (by assumption)
          have e1 : ((i : Int)).toNat = i := by omega
          have e3 : ((i : Int) + 2).toNat = i + 2 := by omega
          (rename IntsAre _ _ => hI8)
          rw [e1, e3] at hI8
          (rename (∀ (q : Addr × Obj), q ∈ _ → q.1 < _) => hlt8)
          (rename News _ _ _ _ => N7)
          have hlt9 : ∀ q ∈ own ++ ny, q.1 < _ := fun q hq => hlt8 q (by repeat (first | exact hq | apply List.mem_cons_of_mem))
          have hK8 := hK7.grow (nx' := _) (fun p hp => kinGrow N7 (by repeat (first | exact hp | apply List.mem_cons_of_mem)))
          have ht8 := IntsAt.head N7 hI8
          have hia8 : IntsAt _ a (xss.getD at'.toNat []) := IntsAt.mono ⟨va, ea, hva, hiv⟩ (fun o ho => kinGrow N7 (by repeat (first | exact ho | apply List.mem_cons_of_mem)))
          obtain ⟨ek7, hkin7⟩ := hK7.kin
          have htk8 := Nat.ne_of_gt (hlt9 _ hkin7)
          have htI8 := Nat.ne_of_gt (hlt9 _ (List.mem_append_left _ hIo))
          rw [hys8] at ht8
          exact hQ' _ _ _ _ (by assumption) N7 ⟨_, ⟨by kst_all, by walk_at "same"⟩, hK8, ht8, hia8, htI8, htk8⟩
        · have hys8 : xss.getD at'.toNat [] = turnF (xss.getD at'.toNat []) i := by
            rw [turnF]
            first | rw [if_neg (fun z => absurd z.1 (by assumption))] | rw [if_neg (fun z => absurd z.2 (by assumption))]
            first | rw [if_neg (fun z => absurd z.1 (by assumption))] | rw [if_neg (fun z => absurd z.2 (by assumption))]
          have hK8 := hK7
          have ht8 : IntsAt (own ++ ny) a (xss.getD at'.toNat []) := ⟨va, ea, hva, hiv⟩
          have hia8 := ht8
          have htk8 := hane
          have htI8 := haI8
          rw [hys8] at ht8
          (rename News _ _ _ _ => N7)
          exact hQ' _ _ _ _ (by assumption) N7 ⟨_, ⟨by kst_all, by walk_at "same"⟩, hK8, ht8, hia8, htI8, htk8⟩
        · have hys8 : xss.getD at'.toNat [] = turnF (xss.getD at'.toNat []) i := by
            rw [turnF]
            first | rw [if_neg (fun z => absurd z.1 (by assumption))] | rw [if_neg (fun z => absurd z.2 (by assumption))]
            first | rw [if_neg (fun z => absurd z.1 (by assumption))] | rw [if_neg (fun z => absurd z.2 (by assumption))]
          have hK8 := hK7
          have ht8 : IntsAt (own ++ ny) a (xss.getD at'.toNat []) := ⟨va, ea, hva, hiv⟩
          have hia8 := ht8
          have htk8 := hane
          have htI8 := haI8
          rw [hys8] at ht8
          (rename News _ _ _ _ => N7)
          exact hQ' _ _ _ _ (by assumption) N7 ⟨_, ⟨by kst_all, by walk_at "same"⟩, hK8, ht8, hia8, htI8, htk8⟩
      · intro h8 tk8 m8 nx8 F8 N8 hP8
        obtain ⟨D8, hT8, hK8, ht8, hia8, htI8, htk8⟩ := hP8
        have hys8 : turnF (xss.getD at'.toNat []) i = turnF (xss.getD at'.toNat []) i := rfl
        replace F8 := hT8.fr F8
        dsimp only [kstB] at F8
        (walk_at "pre" <;> repeat' (walk_at "stop2"; walk_at "st1"))
        (rename News _ _ _ _ => N8)
        refine notIn_kin N8 hK8 ht8 (by dsimp +zetaDelta only [Around.deeper]; omega) ?_
        obtain ⟨ek8, hkin8⟩ := hK8.kin
        have hbl : bs.length ≤ 4000 := by rw [hK6.rows.len]; omega
        have hIo8 := hK8.old _ (List.mem_append_left _ hIo)
        (walk_at "pre" <;> repeat' (walk_at "stop2"; walk_at "st1"))
        · refine ⟨_, _, _, _, rfl, by assumption, by assumption, fun p hp => hK8.old p (List.mem_append_left _ hp), bs, ?_, hia8.filter haI8, ?_, ?_, ?_⟩
          · rw [kinFold_in hys8 (by assumption)]
            exact hK8.filter hIo (fun p hp => hI p (hK6.old p hp)) hIbs
          · rw [kinFold_in hys8 (by assumption)]
            exact hlen6
          · rw [kinFold_in hys8 (by assumption)]
            omega
          · walk_at "same"
        · refine getMethod_append_N (by k_asm) hkin8 ?_
          (walk_at "pre" <;> repeat' (walk_at "stop2"; walk_at "st1"))
          refine append_L (by k_asm) (by k_asm) hkin8 (by rw [sizeLine_eq]; simp; omega) ?_
          intro h9 F9 N9
          have hK9 := hK8.put (e := ek8 + 1) ht8 htk8
          (walk_at "pre" <;> repeat' (walk_at "stop2"; walk_at "st1"))
          refine' ⟨_, _, _, _, rfl, by assumption, by assumption, fun p hp => hK9.old p (List.mem_append_left _ hp), _, ?kk9, (hia8.upd hane).filter haI8, ?_, ?_, ?_⟩
          case kk9 =>
            rw [kinFold_new hys8 (by assumption)]
            refine hK9.filter hIo (fun p hp => hI p (hK6.old p hp)) (fun q => ?_)
            rcases List.mem_append.mp q with q | q
            · exact hIbs q
            · exact htI8 (List.mem_singleton.mp q).symm
          · intro xs hx
            rw [kinFold_new hys8 (by assumption)] at hx
            rcases List.mem_append.mp hx with q | q
            · exact hlen6 xs q
            · rw [List.mem_singleton.mp q, hys8, turnF_length (by omega)]; exact hone
          · rw [kinFold_new hys8 (by assumption), List.length_append]
            simp only [List.length_cons, List.length_nil]
            omega
          · walk_at "same"
    · intro m₁ ny h tk hJ F6 N6
      obtain ⟨bs, hK6, hia6, hlen6, hsz6, hm6⟩ := hJ
      rw [canonK' hm6] at F6
      walk_at "go"
      refine ksw_end ⟨_, bs, kinFold (xss.getD at'.toNat []) 3 xss, at' + 1, f, _⟩ (by assumption) (by assumption) (fun _ h => h) trivial (by kst_all) (by walk_at "same") ⟨hK6, show (0 : Int) ≤ at' + 1 by omega, ?_, hlen6, ?_⟩ (Nat.lt_succ_self _)
      · have e1 : (at' + 1).toNat = at'.toNat + 1 := by omega
        dsimp only
        rw [e1]
        exact hloop
      · dsimp only
        omega
  · have hr : xss = res := by
      cases f with
      | zero => cases hloop
      | succ f =>
        rw [kinLoop, if_neg (by omega)] at hloop
        exact Option.some.inj hloop
    exact hret _ as nx _ _ (by assumption) (by assumption) (hr ▸ hK)
end

section
local macro_rules | `(tactic| k_lt $_h:ident) => `(tactic| skip)
theorem canon4 {stored : List Str} {m₀ m₁ : Str → Option Value} (h : ∀ z, (∀ p ∈ ([] : List (Str × Value)), z ≠ p.1) → stored.contains z = false → m₁ z = m₀ z) : m₁ = fun z => if stored.contains z then m₁ z else m₀ z := by
  funext z
  by_cases q : stored.contains z = true
  · simp only [q, if_true]
  · simp only [q]
    exact h z (fun _ hp => nomatch hp) (by simpa using q)
noncomputable def BackJ (keep : Ledg) (ln rs rw : Addr) (as : List Addr) (ds res : List Int) (m₀ : Str → Option Value) (i : Nat) (m : Str → Option Value) (nx : Ledg) : Prop :=
  ∃ xss row, BkL keep nx ln rs rw as xss ds row ∧ Small 1000 xss ∧ row.length = i ∧ backF (ds.reverse.drop i) xss row = some res ∧ (∀ z, (∀ p ∈ ([] : List (Str × Value)), z ≠ p.1) → [Str.ofString "depth", Str.ofString "number", Str.ofString "line", Str.ofString "place", Str.ofString "pushed"].contains z = false → m z = m₀ z)
noncomputable def BackI (keep : Ledg) (ln rs rw : Addr) (as : List Addr) (ds row : List Int) (n : Nat) (r : List (List Int) × Int) (m₀ : Str → Option Value) (i : Nat) (m : Str → Option Value) (nx : Ledg) : Prop :=
  ∃ xss y t, BkL keep nx ln rs rw as xss ds row ∧ Small 1000 xss ∧ upF (n - i) xss y = some r ∧ (∀ p ∈ [(Str.ofString "number", Value.int y t)], m p.1 = some p.2) ∧ (∀ z, z ≠ Str.ofString "line" → (∀ p ∈ [(Str.ofString "number", Value.int y t)], z ≠ p.1) → [Str.ofString "place", Str.ofString "pushed"].contains z = false → m z = m₀ z)
set_option maxRecDepth 100000 in
set_option maxHeartbeats 8000000 in
theorem back_call {prog : Program} {w : World} {p : Program} {loose : List Str} {mean : ExcName → Option Value} {mg mb : Str → Option Value}
    {A A₀ : Around} {base h₀ : Heap} {outer : List Env} {env : Env} {L : Addr} {m : Str → Option Value} {news keep : Ledg} {s : Shared} {Q E : Value → Shared → Prop}
    {ln rs : Addr} {as : List Addr} {xss : List (List Int)} {ds res : List Int}
    (B : Below A₀ base outer h₀) (F : Fr h₀ L s.heap m) (X : (Mine.hd.heap_39 w.params).In h₀) (N : News h₀ L s.heap news) (T : Top p loose mean mg mb h₀)
    (hA : A.frames = some (env :: outer)) (hf : env.frame = some L) (hk : env.scope.kind = .function) (hh : A.handled = none) (hd : A.depth + 2 < recursionLimit) (hu : A.units + 16 < cLine)
    (hT : TabL keep news ln rs as xss ds) (hsm : Small 1000 xss) (hdl : ds.length ≤ 1000) (hres : backF ds.reverse xss [] = some res)
    (hret : ∀ r nx h' tk', Fr h₀ L h' m → News h₀ L h' nx → (∀ p ∈ keep, p ∈ nx) → IntsAt nx r res.reverse → IntsAt nx rs ds → Q (.ref r) { s with heap := h', toks := tk' }) :
    wpAny (model prog w) A (call (.ref 102) [.ref ln, .ref rs]) Q E s := by
  obtain ⟨hdl, dp, fr, gd, un⟩ := A
  cases hh
  cases hA
  dsimp only at hd hu
  refine wpAny_call ?_
  k_dflt ((refine' code_def ?k1 ?k2 ?k3 ?k4 ?k5 ?kA ?kF ?kK ?k6 ?k7 ?k8 ?k9 ?kB ?_ ?c2 ?c3 ?c4 ?c5; (case kA => exact rfl); (case kF => assumption); (case kK => assumption); walk_at "k15"; (case k6 => k_is); (case k7 => k_is); (case k8 => (dsimp only; omega)); (case k9 => first | exact BindsTo.of_eq rfl | (refine' kp_binds ?kx ?ke; (case kx => k_in); (case ke => exact fun _ => rfl))); (case c5 => decide); (case kB => exact locs rfl); (case c2 => exact rfl); (case c3 => exact rfl); (case c4 => exact rfl); k_whole; intro g' L' h' FG' F' N' B' X' T'; (try dsimp only); (try k_lift B'); (try k_fold)))
  k_with_none
  (((refine (?_ : let env1 : Env := _; let A1 : Around := Around.deeper _ env1; let Q1 : Flow → Shared → Prop := _; let E1 : Value → Shared → Prop := _; let s1 : Shared := _; wpAny _ A1 (execs _ env1) Q1 E1 s1)); intro env1 A1 Q1 E1 s1))
  walk_at "gof"
  (rename Fr _ _ _ _ => F1)
  refine forAt F1 rfl rfl ?_
  walk_at "gof"
  obtain ⟨vr, er, hr, ir⟩ := hT.rests
  (rename Fr _ _ _ _ => F1); (rename News _ _ _ _ => N1)
  refine slice_rev_L F1 N1 (List.mem_cons_of_mem _ hr) (by rw [sizeLine_eq, ir.length]; omega) ?_ rfl (fun _ => rfl)
  intro D2 h2 F2 N2 l2
  have hK2 := (BkL.start hT (by assumption)).keepNew (o := listOf vr.reverse.toArray 0) l2
  have hrv := ir.reverse
  walk_at "gof"
  (rename Fr _ _ _ _ => F2); (rename News _ _ _ _ => N2)
  refine forL (BackJ _ ln rs _ as ds res _) rfl F2 N2 (List.Mem.head _) ⟨xss, [], hK2, hsm, rfl, hres, fun _ _ _ => rfl⟩ ?_ ?_
  · intro I i v m₁ nx h tk own hv hJ hI hIo hown F3 N3
    obtain ⟨yss, row, hK3, hsm3, hrow3, hbk3, hm3⟩ := hJ
    obtain ⟨oI, hIo⟩ := hIo
    have hil : i < ds.reverse.length := by rw [← hrv.length]; exact (List.getElem?_eq_some_iff.mp hv).1
    obtain ⟨t, ht⟩ := ints_get hrv hil
    rw [hv] at ht
    cases ht
    rw [drop_at hil] at hbk3
    obtain ⟨⟨hd0, hd1, hd2⟩, ⟨zss, z⟩, hup, hbk4⟩ := backF_step hbk3
    rw [canon4 hm3] at F3
    have hK4 := hK3.lift (own := own) (l := D2) hI hown ⟨_, List.Mem.head _⟩
    generalize ds.reverse.getD i 0 = d at *
    have hal : as.length = yss.length := hK4.tab.rows.len
    have hyl : yss.length ≤ 1000 := hsm3.1
    obtain ⟨el, hlines⟩ := hK4.tab.lines
    obtain ⟨a, ha⟩ : ∃ a, as[d.toNat]? = some a := ⟨as[d.toNat]'(by omega), by simp⟩
    obtain ⟨vp, ep, hp, ip⟩ := hK4.tab.rows.at' _ a ha
    obtain ⟨p0, t0, rfl, ip0⟩ := ints_unsnoc ip hd2
    have hrl := hsm3.getD d.toNat
    walk_at "gof"
    refine item_L (by k_asm) hlines hd0 (by omega) (show (as.map Value.ref)[d.toNat]? = some (.ref a) by simp [ha]) ?_
    walk_at "gof"
    refine kl_method (by k_asm) hp PySem.F.slot_list_pop PySem.F.type_list_pop ?_
    walk_at "gof"
    refine pop_L (by k_asm) (by k_asm) hp (by rw [sizeLine_eq, ip.length]; omega) ?_
    intro h5 F5 N5
    have hK5 := hK4.setRow (e := ep + 1) ha ip0
    have hsm5 := hsm3.set (i := d.toNat) (xs := (yss.getD d.toNat []).dropLast) (by rw [List.length_dropLast]; omega)
    obtain ⟨el5, hlines5⟩ := hK5.tab.lines
    walk_at "gof"
    (rename Fr _ _ _ _ => F6)
    refine forAt F6 rfl rfl ?_
    walk_at "gof"
    (rename Fr _ _ _ _ => F6); (rename News _ _ _ _ => N6)
    refine slice_upto_L F6 N6 hlines5 hd0 (by rw [sizeLine_eq]; simp; omega) ?_ rfl (fun _ => rfl)
    intro D7 h7 F7 N7 l7
    have hK7 := hK5.keepNew (o := listOf ((as.map Value.ref).take d.toNat).toArray 0) l7
    walk_at "gof"
    (rename Fr _ _ _ _ => F7); (rename News _ _ _ _ => N7)
    refine kba_turn (value' := PySem.Expr.Name (PySem.Str.ofString "_") ⟨0, 0, 0, 0⟩) (fun _ => rfl) ?_
    refine slice_rev_L F7 N7 (List.Mem.head _) (by rw [sizeLine_eq]; simp; omega) ?_ rfl (fun _ => rfl)
    intro D8 h8 F8 N8 l8
    have hK8 := hK7.keepNew (o := listOf ((as.map Value.ref).take d.toNat).reverse.toArray 0) l8
    walk_at "gof"
    (rename Fr _ _ _ _ => F8); (rename News _ _ _ _ => N8)
    refine forL (BackI _ ln rs _ as ds row d.toNat (zss, z) _) rfl F8 N8 (List.Mem.head _) ⟨_, _, _, hK8, hsm5, hup, by kst_all, fun _ _ _ _ => rfl⟩ ?_ ?_
    · intro I2 j v2 m₂ ny h9 tk9 own2 hv2 hJ2 hI2 hIo2 hown2 F9 N9
      obtain ⟨wss, y, ty, hK9, hsm9, hup9, hps9, hm9⟩ := hJ2
      obtain ⟨oI2, hIo2⟩ := hIo2
      obtain ⟨hjd, b, hb, rfl⟩ := rev_take_at hv2 (by omega)
      obtain ⟨hpl, hup10⟩ := upF_step hjd hup9
      replace F9 := kst_fr (ps := [(Str.ofString "number", .int y ty)]) hps9 hm9 F9
      dsimp only [kstB] at F9
      have hK10 := hK9.lift (own := own2) (l := D8) hI2 hown2 ⟨_, List.Mem.head _⟩
      obtain ⟨vb, eb, hbm, ib⟩ := hK10.tab.rows.at' _ b hb
      have hbl := hsm9.getD (d.toNat - 1 - j)
      have hbb := blF_bound (wss.getD (d.toNat - 1 - j) []) y
      walk_at "gof"
      ((refine' bl_call ?k1 ?k2 ?k3 ?k4 ?k5 ?kA ?kF ?kK ?kH ?k8 ?k9 ?kl ?ki ?kf ?_; walk_at "kAH"; walk_at "k15"; walk_at "k89"))
      (case kl => exact hbm)
      (case ki => exact ib)
      (case kf => omega)
      intro t11 h11 tk11 F11 N11
      rw [show blI (wss.getD (d.toNat - 1 - j) []) y (wss.getD (d.toNat - 1 - j) []).length 0 (wss.getD (d.toNat - 1 - j) []).length = blF (wss.getD (d.toNat - 1 - j) []) y from rfl]
      have hq0 : 0 ≤ blF (wss.getD (d.toNat - 1 - j) []) y - 1 := by omega
      have hvb : vb.length = (wss.getD (d.toNat - 1 - j) []).length := ib.length
      obtain ⟨t12, ht12⟩ := ints_get ib (i := (blF (wss.getD (d.toNat - 1 - j) []) y - 1).toNat) (by omega)
      walk_at "gof"
      refine item_L (by k_asm) hbm hq0 (by omega) ht12 ?_
      walk_at "gof"
      refine set_L (by k_asm) (by k_asm) hbm hq0 (by omega) (by omega) ?_
      intro h13 F13 N13
      have hK13 := hK10.setRow (e := eb) hb (ints_set (x := y) (u := ty) ib (blF (wss.getD (d.toNat - 1 - j) []) y - 1).toNat)
      walk_at "gof"
      refine' ⟨_, _, _, _, rfl, by assumption, by assumption, fun p hp => hK13.tab.old p (List.mem_append_left _ hp), _, _, ?tkk, hK13.filter hIo2 (fun p hp => hI2 p (hK9.tab.old p hp)), hsm9.set (by rw [List.length_set]; exact hbl), hup10, ?ka, ?kb⟩
      case ka => kst_all
      case kb =>
        walk_at "kb"
    · intro m₂ ny h9 tk9 hJ2 F9 N9
      obtain ⟨wss, y, ty, hK9, hsm9, hup9, hps9, hm9⟩ := hJ2
      have hlz : d.toNat - ((as.map Value.ref).take d.toNat).reverse.length = 0 := by simp; omega
      rw [hlz, upF] at hup9
      cases hup9
      replace F9 := kst_frOut (ps := [(Str.ofString "number", .int z ty)]) hps9 hm9 F9
      dsimp only [kstB] at F9
      obtain ⟨vw, ew, hw, iw⟩ := hK9.row
      walk_at "gof"
      refine getMethod_append_N (by k_asm) hw ?_
      walk_at "gof"
      refine append_L (by k_asm) (by k_asm) hw (by rw [sizeLine_eq, iw.length, hrow3]; simp at hil; omega) ?_
      intro h14 F14 N14
      have hK14 := hK9.setOut (e := ew + 1) (ints_snoc (y := z) (t := ty) iw)
      walk_at "gof"
      refine' ⟨_, _, _, _, rfl, by assumption, by assumption, fun p hp => hK14.tab.old p (.tail _ (.tail _ (List.mem_append_left _ hp))), _, _, (hK14.weaken (fun p hp => .tail _ (.tail _ hp))).filter hIo (fun p hp => hI p (hK3.tab.old p hp)), hsm9, ?_, hbk4, ?_⟩
      · rw [List.length_append, hrow3]; rfl
      · walk_at "same"
  · intro m₁ nx h tk hJ F3 N3
    obtain ⟨yss, row, hK3, hsm3, hrow3, hbk3, hm3⟩ := hJ
    have hle : vr.reverse.length = ds.reverse.length := hrv.length
    rw [hle, List.drop_length, backF] at hbk3
    cases hbk3
    rw [canon4 hm3] at F3
    obtain ⟨vw, ew, hw, iw⟩ := hK3.row
    walk_at "gof"
    (rename Fr _ _ _ _ => F4); (rename News _ _ _ _ => N4)
    refine slice_rev_L F4 N4 hw (by rw [sizeLine_eq, iw.length, hrow3, hle]; simp; omega) ?_ rfl (fun _ => rfl)
    intro D5 h5 F5 N5 l5
    walk_at "gof"
    exact hret _ _ _ _ (by assumption) (by assumption) (fun p hp => .tail _ (hK3.tab.old p (.tail _ hp))) ⟨_, _, .head _, iw.reverse⟩ (hK3.tab.rests.mono fun o h => .tail _ h)
end

section
local macro_rules | `(tactic| k_lt $_h:ident) => `(tactic| skip)
set_option maxRecDepth 100000 in
set_option maxHeartbeats 8000000 in
theorem div2_call {prog : Program} {w : World} {p : Program} {loose : List Str} {mean : ExcName → Option Value} {mg mb : Str → Option Value}
    {A A₀ : Around} {base h₀ : Heap} {outer : List Env} {env : Env} {L : Addr} {m : Str → Option Value} {news : Ledg} {s : Shared} {Q E : Value → Shared → Prop}
    {a b n : Int} {ta tb tn : Tok}
    (B : Below A₀ base outer h₀) (F : Fr h₀ L s.heap m) (X : (Mine.hd.heap_39 w.params).In h₀) (N : News h₀ L s.heap news) (T : Top p loose mean mg mb h₀)
    (hA : A.frames = some (env :: outer)) (hf : env.frame = some L) (hk : env.scope.kind = .function) (hh : A.handled = none) (hd : A.depth + 2 < recursionLimit) (hu : A.units + 16 < cLine)
    (hb : b ≠ 0) (hsmall : ((Builtin.Int.intBits a : Nat) : Int) - n ≤ 4000) (hbl : b.natAbs.log2 < 9000)
    (hret : ∀ r tq tr h' tk', Fr h₀ L h' m → News h₀ L h' ((r, ({ cls := .type "tuple", data := .seq #[.int (Int.fdiv a b) tq, .int (Int.fmod a b) tr] } : Obj)) :: news) → (∀ p ∈ news, p.1 < r) → Q (.ref r) { s with heap := h', toks := tk' }) :
    wpAny (model prog w) A (call (.ref 39) [.int a ta, .int b tb, .int n tn]) Q E s := by
  obtain ⟨hdl, dp, fr, gd, un⟩ := A
  cases hh
  cases hA
  dsimp only at hd hu
  refine wpAny_call ?_
  k_dflt ((refine' code_def ?k1 ?k2 ?k3 ?k4 ?k5 ?kA ?kF ?kK ?k6 ?k7 ?k8 ?k9 ?kB ?_ ?c2 ?c3 ?c4 ?c5; (case kA => exact rfl); (case kF => assumption); (case kK => assumption); walk_at "k15"; (case k6 => k_is); (case k7 => k_is); (case k8 => (dsimp only; omega)); (case k9 => first | exact BindsTo.of_eq rfl | (refine' kp_binds ?kx ?ke; (case kx => k_in); (case ke => exact fun _ => rfl))); (case c5 => decide); (case kB => exact locs rfl); (case c2 => exact rfl); (case c3 => exact rfl); (case c4 => exact rfl); k_whole; intro g' L' h' FG' F' N' B' X' T'; (try dsimp only); (try k_lift B'); (try k_fold)))
  k_with_none
  (((refine (?_ : let env1 : Env := _; let A1 : Around := Around.deeper _ env1; let Q1 : Flow → Shared → Prop := _; let E1 : Value → Shared → Prop := _; let s1 : Shared := _; wpAny _ A1 (execs _ env1) Q1 E1 s1)); intro env1 A1 Q1 E1 s1))
  walk_at "gof"
  · refine divmod_N (by k_asm) (by k_asm) hb ?_ (Or.inl (PyProof.noPylong_of_log2 hbl))
    intro h2 F2 N2
    walk_at "gof"
    refine hret _ _ _ _ _ (by assumption) (by assumption) ?_
    intro p hp
    exact Heap.lt_size ((by assumption : News _ _ _ news) p hp).1
  all_goals (exfalso; omega)
end

section
set_option maxRecDepth 100000 in
set_option maxHeartbeats 8000000 in
theorem i2d_call {prog : Program} {w : World} {p : Program} {loose : List Str} {mean : ExcName → Option Value} {mg mb : Str → Option Value}
    {A A₀ : Around} {base h₀ : Heap} {outer : List Env} {env : Env} {L : Addr} {m : Str → Option Value} {news : Ledg} {s : Shared} {Q E : Value → Shared → Prop}
    {a n cnt : Nat} {ta tn : Tok}
    (B : Below A₀ base outer h₀) (F : Fr h₀ L s.heap m) (X : (Mine.hd.heap_39 w.params).In h₀) (N : News h₀ L s.heap news) (T : Top p loose mean mg mb h₀)
    (hA : A.frames = some (env :: outer)) (hf : env.frame = some L) (hk : env.scope.kind = .function) (hh : A.handled = none) (hd : A.depth + 110 < recursionLimit) (hu : A.units + 900 < cLine)
    (C : CodeHd base 52 48) (TB : TabOk 48 73 4 "_int2digits.<locals>.inner" news) (hn : 0 < n) (hn2 : n < 5000) (ha : Builtin.Int.intBits (a : Int) < 10000) (hcnt : (Builtin.Int.intBits (a : Int) + n - 1) / n = cnt) (hc100 : cnt ≤ 100)
    (hret : ∀ r nx h' tk', IntsAt nx r (dg n a cnt) → TabOk 48 73 4 "_int2digits.<locals>.inner" nx → (∀ p ∈ news, p.1 ≠ 48 → p ∈ nx) → (∀ p ∈ news, p.1 < r) → Fr h₀ L h' m → News h₀ L h' nx → Q (.ref r) { s with heap := h', toks := tk' }) :
    wpAny (model prog w) A (call (.ref 53) [.int a ta, .int n tn]) Q E s := by
  obtain ⟨hdl, dp, fr, gd, un⟩ := A
  cases hh
  cases hA
  dsimp only at hd hu
  refine wpAny_call ?_
  k_dflt ((refine' code_defC ?k1 ?k2 ?k3 ?k4 ?k5 ?kA ?kF ?kK ?k6 ?k7 ?k8 ?k9 ?kB ?kD ?_ ?c2 ?c3 ?c4; (case kA => exact rfl); (case kF => assumption); (case kK => assumption); walk_at "k15"; (case k6 => k_is); (case k7 => k_is); (case k8 => (dsimp only; omega)); (case k9 => first | exact BindsTo.of_eq rfl | (refine' kp_binds ?kx ?ke; (case kx => k_in); (case ke => exact fun _ => rfl))); (case kB => exact rfl); (case kD => decide +kernel); (case c2 => exact rfl); (case c3 => exact rfl); (case c4 => exact rfl); k_whole; intro g' L' h' tk' cells' FG' F' N' Y' B' X' T' l1; (try k_lt l1); k_cells Y'; (try simp only [List.cons_append, List.nil_append] at N'); (try dsimp only); (try k_lift B'); (try k_fold)))
  k_with_none
  (((refine (?_ : let env1 : Env := _; let A1 : Around := Around.deeper _ env1; let Q1 : Flow → Shared → Prop := _; let E1 : Value → Shared → Prop := _; let s1 : Shared := _; wpAny _ A1 (execs _ env1) Q1 E1 s1)); intro env1 A1 Q1 E1 s1))
  walk_at "gof"
  have hc0 : ((Builtin.Int.intBits (a : Int) : Int) + n - 1).fdiv n = (cnt : Int) := by
    rw [Int.fdiv_eq_ediv_of_nonneg _ (by lia), ← hcnt, show ((Builtin.Int.intBits (a : Int) : Int) + n - 1) = ((Builtin.Int.intBits (a : Int) + n - 1 : Nat) : Int) by lia]
    exact (Int.natCast_ediv _ _).symm
  rw [hc0]
  (rename News _ _ _ _ => N1)
  refine mul_L (by k_asm) N1 (List.Mem.head _) (by lia) (by lia) ?_
  rw [Int.toNat_natCast]
  intro D2 h2 F2 N2 l2
  have hbig : True ∧ ∀ p ∈ news, p.1 < D2 := ⟨trivial, fun p hp => l2 p (by repeat (first | exact hp | refine List.mem_cons_of_mem _ ?_))⟩
  k_lt l2
  walk_at "gof"
  refine' nestDef_K ?d0 ?k0 ?a0 ?_; (case d0 => exact rfl); (case k0 => exact rfl); (case a0 => exact rfl)
  (rename News _ _ _ _ => N1)
  k_dflt (refine' nest_pre [_, _, _, _, _] ?F N1 ?T ?C ?cd TB ?hn ?kp ?cl ?_; (case F => k_asm); (case T => k_asm); (case cd => exact rfl); (case C => kn_code); (case hn => assumption); (case kp => (refine List.forall_mem_cons.mpr ⟨?_, List.forall_mem_cons.mpr ⟨?_, List.forall_mem_cons.mpr ⟨?_, List.forall_mem_cons.mpr ⟨?_, List.forall_mem_cons.mpr ⟨?_, fun _ h => nomatch h⟩⟩⟩⟩⟩ <;> dsimp only <;> lia)); (case cl => exact rfl); k_whole)
  intro f c' oc vs t ctv doc h' tk F' N' e1 e2 l1 l2 l3 l4 l5 lf
  simp only [List.forall_mem_cons, List.cons_append, List.nil_append] at l1 l3 N'
  clear N1
  have hkeep := filt_keep news 48
  generalize hnw : (news.filter fun q => q.1 != 48) = nw at N' lf hkeep
  walk_at "gof"
  · (rename News _ _ _ _ => N2)
    refine' use_inn prog w p loose mean mg mb N2 ?d1 ?d2 ?d3 ?h1 ?nD ?_
    (case d1 => assumption)
    (case d2 => assumption)
    (case d3 => assumption)
    (case nD => refine ⟨?_, ?_, ?_, ?_, ?_⟩ <;> (show @Ne Nat _ _) <;> lia)
    (case h1 =>
      clear N2
      intro dI dD dN n1 n2 n3 n4 n5 k
      induction k using Nat.strongRecOn with
      | ind k ih =>
      unfold InnI
      intro A A₀ base h₀ outer env L m nx s Q E x lo tx tl th pre mid post e hi B F X N T hA hf hk hh hd hu mF mc mI mD mN mL hpre hmid hhi h0 hx hnk hlk hret
      obtain ⟨hdl, dp, fr, gd, un⟩ := A
      cases hh
      cases hA
      dsimp only at hd hu
      obtain ⟨m1, m2, rfl, hm1, hm2⟩ := split_len mid hmid (Nat.div_le_self k 2)
      subst hhi
      have hnj : n * (k / 2) ≤ n * k := Nat.mul_le_mul_left _ (Nat.div_le_self k 2)
      have hxb : Builtin.Int.intBits ((x / 2 ^ (n * (k / 2)) : Nat) : Int) ≤ n * k := bits_lt (Nat.lt_of_le_of_lt (Nat.div_le_self _ _) hx)
      refine wpAny_call ?_
      k_dflt ((refine' code_nest ?k1 ?k2 ?k3 ?k4 ?k5 ?kA ?kF ?kK ?k6 ?k7 ?k8 ?k9 ?kB ?_ ?c2 ?c3 ?c4 ?c5; (case kA => exact rfl); (case kF => assumption); (case kK => assumption); walk_at "k15"; (case k6 => assumption); (case k7 => exact codeRec_news (by k_asm) (by assumption) (by assumption) (by assumption)); (case k8 => (dsimp only; omega)); (case k9 => exact BindsTo.of_eq rfl); (case c5 => decide); (case kB => exact locs rfl); (case c2 => exact rfl); (case c3 => exact rfl); (case c4 => exact rfl); k_whole; intro g' L' h' FG' F' N' B' X' T'; (try dsimp only); (try k_lift B'); (try k_fold)))
      k_with_none
      (((refine (?_ : let env1 : Env := _; let A1 : Around := Around.deeper _ env1; let Q1 : Flow → Shared → Prop := _; let E1 : Value → Shared → Prop := _; let s1 : Shared := _; wpAny _ A1 (execs _ env1) Q1 E1 s1)); intro env1 A1 Q1 E1 s1))
      walk_at "gob"
      · have hk1 : k = 1 := by lia
        subst hk1
        have hm : m1 = [] := List.length_eq_zero_iff.mp (by simpa using hm1)
        subst hm
        obtain ⟨v0, rfl⟩ : ∃ v0, m2 = [v0] := List.length_eq_one_iff.mp (by simpa using hm2)
        refine set_L (by k_asm) (by k_asm) mL (by lia) (by simp; lia) (by lia) ?_
        intro h2 F2 N2
        walk_at "gob"
        refine hret [.int (x : Int) tx] _ _ (dg_one hx) (by assumption) ?_
        have e9 : (pre ++ ([] ++ [v0] ++ post)).set (lo : Int).toNat (.int (x : Int) tx) = pre ++ ([.int (x : Int) tx] ++ post) := by
          rw [Int.toNat_natCast, ← hpre]
          exact set_mid
        rw [← e9]
        assumption
      · have hk2 : 2 ≤ k := by lia
        refine rsh_to (x := 2 * lo + k) (k := 1) (y := lo + k / 2) (by lia) rfl (by lia) ?_
        walk_at "gob"
        refine rsh_to (x := x) (k := n * (k / 2)) (y := x / 2 ^ (n * (k / 2))) rfl shift_eq rfl ?_
        walk_at "gob"
        refine lsh_to (x := x / 2 ^ (n * (k / 2))) (k := n * (k / 2)) rfl shift_eq (by lia) ?_
        walk_at "gob"
        refine xor_to (x := x) (k := n * (k / 2)) rfl rfl ?_
        walk_at "gob"
        have mL1 : (D2, listOf (pre ++ (m1 ++ (m2 ++ post))).toArray e) ∈ nx := by rw [← List.append_assoc m1]; exact mL
        have hxm : x % 2 ^ (n * (k / 2)) < 2 ^ (n * (k / 2)) := Nat.mod_lt _ (Nat.two_pow_pos _)
        have hj1 : k / 2 < k := by lia
        have hj0 : 0 < k / 2 := by lia
        have hj3 : n * (k / 2) ≤ 20000 := by lia
        have hj4 : lo + k / 2 ≤ 30000 := by lia
        refine' InnI.use (ih (k / 2) hj1) (x % 2 ^ (n * (k / 2))) lo pre m1 (m2 ++ post) ?k1 ?k2 ?k3 ?k4 ?k5 ?kA ?kF ?kK ?kH ?k8 ?k9 mF mc mI mD mN mL1 hpre hm1 rfl hj0 hxm hj3 hj4 ?_
        ((walk_at "kAH"; walk_at "k15"; walk_at "k89"))
        intro m1' h2 tk2 hI1 F2 N2
        have hl1 : m1'.length = k / 2 := (IntsAre.length hI1).trans (dg_length _ _ _)
        obtain ⟨oL2, hoL2⟩ : ∃ o, o = listOf (pre ++ (m1' ++ (m2 ++ post))).toArray e := ⟨_, rfl⟩
        rw [← hoL2] at N2
        have mF2 := mem_upd_ne (o := oL2) mF n1
        have mc2 := mem_upd_ne (o := oL2) mc n2
        have mI2 := mem_upd_ne (o := oL2) mI n3
        have mD2 := mem_upd_ne (o := oL2) mD n4
        have mN2 := mem_upd_ne (o := oL2) mN n5
        have mL2 := mem_upd_self (o := oL2) mL1
        have huu : ∀ o, upd (upd nx D2 oL2) D2 o = upd nx D2 o := fun o => upd_upd
        generalize upd nx D2 oL2 = nx2 at N2 mF2 mc2 mI2 mD2 mN2 mL2 huu
        rw [hoL2, ← List.append_assoc pre] at mL2
        walk_at "gob"
        have hnk2 : n * (k - k / 2) ≤ n * k := Nat.mul_le_mul_left _ (Nat.sub_le _ _)
        have hxd := div_lt_pow (Nat.div_le_self k 2) hx
        have hpl : (pre ++ m1').length = lo + k / 2 := by simp [hpre, hl1]
        have hj5 : k - k / 2 < k := by lia
        have hj6 : 0 < k - k / 2 := by lia
        have hj7 : n * (k - k / 2) ≤ 20000 := by lia
        have hj8 : lo + k / 2 + (k - k / 2) ≤ 30000 := by lia
        have hj9 : ((lo + k : Nat) : Int) = ((lo + k / 2 + (k - k / 2) : Nat) : Int) := by lia
        refine' InnI.use (ih (k - k / 2) hj5) (x / 2 ^ (n * (k / 2))) (lo + k / 2) (pre ++ m1') m2 post ?k1 ?k2 ?k3 ?k4 ?k5 ?kA ?kF ?kK ?kH ?k8 ?k9 mF2 mc2 mI2 mD2 mN2 mL2 hpl hm2 hj9 hj6 hxd hj7 hj8 ?_
        ((walk_at "kAH"; walk_at "k15"; walk_at "k89"))
        intro m2' h3 tk3 hI2 F3 N3
        rw [huu, List.append_assoc pre, ← List.append_assoc m1'] at N3
        walk_at "gob"
        refine hret (m1' ++ m2') _ _ (dg_two (Nat.div_le_self k 2) hI1 hI2) (by assumption) (by assumption))
    intro inn
    have hb0 : 0 < Builtin.Int.intBits (a : Int) := by
      rw [bits_nat, if_neg (by lia)]
      lia
    have hc1 : 0 < cnt := by
      rw [← hcnt]
      exact Nat.div_pos (by lia) hn
    have hdm := Nat.div_add_mod (Builtin.Int.intBits (a : Int) + n - 1) n
    have hml := Nat.mod_lt (Builtin.Int.intBits (a : Int) + n - 1) hn
    rw [hcnt] at hdm
    have hge : Builtin.Int.intBits (a : Int) ≤ n * cnt := by lia
    have hle : n * cnt ≤ 20000 := by lia
    have hax : a < 2 ^ (n * cnt) := Nat.lt_of_lt_of_le (lt_bits a) (Nat.pow_le_pow_right (by lia) hge)
    refine len_L N2 (.tail _ (.tail _ (.tail _ (.head _)))) (by rw [List.length_replicate]; lia) ?_
    rw [List.length_replicate]
    walk_at "gof"
    refine' InnI.use (inn cnt) a 0 [] (List.replicate cnt _) [] ?k1 ?k2 ?k3 ?k4 ?k5 ?kA ?kF ?kK ?kH ?k8 ?k9 (.head _) (.tail _ (.head _)) (.tail _ (.tail _ (.tail _ (.tail _ (.tail _ (.head _)))))) (.tail _ (.tail _ (.tail _ (.tail _ (.tail _ (.tail _ (.head _))))))) (.tail _ (.tail _ (.tail _ (.tail _ (.tail _ (.tail _ (.tail _ (.head _)))))))) ?kL rfl List.length_replicate (by rw [Nat.zero_add]) hc1 hax hle (by lia) ?_
    ((walk_at "kAH"; walk_at "k15"; walk_at "k89"))
    (case kL => rw [List.nil_append, List.append_nil]; exact (.tail _ (.tail _ (.tail _ (.head _)))))
    intro mid' h3 tk3 hI F3 N3
    rw [List.nil_append, List.append_nil] at N3
    refine' fin_i2d N3 ?b ?c ?d ?e hkeep ?_
    (case b => show @Ne Nat _ _; lia)
    (case c => show @Ne Nat _ _; lia)
    (case d => show @Ne Nat _ _; lia)
    (case e => exact fun p hp => Nat.ne_of_lt (Nat.lt_trans (lf p hp) (by show @LT.lt Nat _ _ _; lia)))
    clear N3
    intro nx N4 q1 q2 q3 q4 q5
    walk_at "gof"
    refine hret D2 nx _ _ ⟨_, _, q4, hI⟩ (.inr ⟨c', oc, vs, t, q2, q1, e1, e2⟩) q5 hbig.2 (by assumption) (by assumption)
  · have ha0 : a = 0 := by lia
    subst ha0
    have hc0' : cnt = 0 := by
      rw [← hcnt, bits_nat, if_pos rfl]
      exact Nat.div_eq_of_lt (by lia)
    subst hc0'
    refine hret D2 _ _ _ ⟨_, _, (.tail _ (.tail _ (.tail _ (.head _)))), .nil⟩ (.inr ⟨c', oc, vs, t, (.tail _ (.tail _ (.head _))), (.tail _ (.head _)), e1, e2⟩) (fun p hp hn => (.tail _ (.tail _ (.tail _ (.tail _ (.tail _ (.tail _ (.tail _ (.tail _ (hkeep p hp hn)))))))))) hbig.2 (by assumption) (by assumption)
end

section
local macro_rules | `(tactic| walk_at "nf") => `(tactic| ((fail_if_success (with_reducible show wpAny _ _ (exec (Stmt.For _ _ _ _ _) _) _ _ _)); (fail_if_success (with_reducible show wpAny _ _ (truthy (Value.ref _)) _ _ _))))
set_option maxRecDepth 100000 in
set_option maxHeartbeats 8000000 in
theorem d2i_call {prog : Program} {w : World} {p : Program} {loose : List Str} {mean : ExcName → Option Value} {mg mb : Str → Option Value}
    {A A₀ : Around} {base h₀ : Heap} {outer : List Env} {env : Env} {L : Addr} {m : Str → Option Value} {news : Ledg} {s : Shared} {Q E : Value → Shared → Prop}
    {l : Addr} {n : Nat} {tn : Tok} {vs0 : List Value} {e0 : Nat} {ds : List Nat}
    (B : Below A₀ base outer h₀) (F : Fr h₀ L s.heap m) (X : (Mine.hd.heap_39 w.params).In h₀) (N : News h₀ L s.heap news) (T : Top p loose mean mg mb h₀)
    (hA : A.frames = some (env :: outer)) (hf : env.frame = some L) (hk : env.scope.kind = .function) (hh : A.handled = none) (hd : A.depth + 110 < recursionLimit) (hu : A.units + 900 < cLine)
    (C : CodeHd base 59 55) (TB : TabOk 55 88 4 "_digits2int.<locals>.inner" news) (hn2 : n < 5000) (hl : (l, listOf vs0.toArray e0) ∈ news) (hl55 : l ≠ 55) (hI : IntsAre vs0 (natI ds)) (hds : ∀ d ∈ ds, d < 2 ^ n) (hc100 : ds.length ≤ 100) (hnk : n * ds.length ≤ 20000)
    (hret : ∀ v t nx h' tk', v = ((ud n ds : Nat) : Int) → TabOk 55 88 4 "_digits2int.<locals>.inner" nx → (∀ p ∈ news, p.1 ≠ 55 → p ∈ nx) → Fr h₀ L h' m → News h₀ L h' nx → Q (.int v t) { s with heap := h', toks := tk' }) :
    wpAny (model prog w) A (call (.ref 60) [.ref l, .int n tn]) Q E s := by
  obtain ⟨hdl, dp, fr, gd, un⟩ := A
  cases hh
  cases hA
  dsimp only at hd hu
  refine wpAny_call ?_
  k_dflt ((refine' code_defC ?k1 ?k2 ?k3 ?k4 ?k5 ?kA ?kF ?kK ?k6 ?k7 ?k8 ?k9 ?kB ?kD ?_ ?c2 ?c3 ?c4; (case kA => exact rfl); (case kF => assumption); (case kK => assumption); walk_at "k15"; (case k6 => k_is); (case k7 => k_is); (case k8 => (dsimp only; omega)); (case k9 => first | exact BindsTo.of_eq rfl | (refine' kp_binds ?kx ?ke; (case kx => k_in); (case ke => exact fun _ => rfl))); (case kB => exact rfl); (case kD => decide +kernel); (case c2 => exact rfl); (case c3 => exact rfl); (case c4 => exact rfl); k_whole; intro g' L' h' tk' cells' FG' F' N' Y' B' X' T' l1; (try k_lt l1); k_cells Y'; (try simp only [List.cons_append, List.nil_append] at N'); (try dsimp only); (try k_lift B'); (try k_fold)))
  k_with_none
  (((refine (?_ : let env1 : Env := _; let A1 : Around := Around.deeper _ env1; let Q1 : Flow → Shared → Prop := _; let E1 : Value → Shared → Prop := _; let s1 : Shared := _; wpAny _ A1 (execs _ env1) Q1 E1 s1)); intro env1 A1 Q1 E1 s1))
  walk_at "gof"
  refine' nestDef_K ?d0 ?k0 ?a0 ?_; (case d0 => exact rfl); (case k0 => exact rfl); (case a0 => exact rfl)
  (rename News _ _ _ _ => N1)
  k_dflt (refine' nest_pre [_, _, _] ?F N1 ?T ?C ?cd TB ?hn ?kp ?cl ?_; (case F => k_asm); (case T => k_asm); (case cd => exact rfl); (case C => kn_code); (case hn => assumption); (case kp => (refine List.forall_mem_cons.mpr ⟨?_, List.forall_mem_cons.mpr ⟨?_, List.forall_mem_cons.mpr ⟨?_, fun _ h => nomatch h⟩⟩⟩ <;> dsimp only <;> omega)); (case cl => exact rfl); k_whole)
  intro f c' oc vs t ctv doc h' tk F' N' e1 e2 l1 l2 l3 l4 l5 lf
  simp only [List.forall_mem_cons, List.cons_append, List.nil_append] at l1 l3 N'
  clear N1
  have hkeep := filt_keep news 55
  generalize hnw : (news.filter fun q => q.1 != 55) = nw at N' lf hkeep
  have hlw : (l, listOf vs0.toArray e0) ∈ nw := hkeep _ hl hl55
  walk_at "gof"
  (rename News _ _ _ _ => N2)
  have hlen : vs0.length = ds.length := by
    have := IntsAre.length hI
    simpa [natI] using this
  refine' use_innD (D := l) (n := n) prog w p loose mean mg mb N2 ?d1 ?d2 ?d3 ?h1 ?_
  (case d1 => assumption)
  (case d2 => assumption)
  (case d3 => assumption)
  (case h1 =>
    clear N2 hret hI hds hc100 hnk hn2 hl hlen hlw
    intro dI dD dN k
    induction k using Nat.strongRecOn with
    | ind k ih =>
    unfold InnD
    intro A A₀ base h₀ outer env L m nx s Q E lo ds tl th vs e hi B F X N T hA hf hk hh hd hu mF mc mI mD mN mL hIs hlk hhi h0 hds hnk hdl hret
    obtain ⟨hdl, dp, fr, gd, un⟩ := A
    cases hh
    cases hA
    dsimp only at hd hu
    subst hhi
    have hnj : n * (k / 2) ≤ n * k := Nat.mul_le_mul_left _ (Nat.div_le_self k 2)
    have hnk2 : n * (k - k / 2) ≤ n * k := Nat.mul_le_mul_left _ (Nat.sub_le _ _)
    refine wpAny_call ?_
    k_dflt ((refine' code_nest ?k1 ?k2 ?k3 ?k4 ?k5 ?kA ?kF ?kK ?k6 ?k7 ?k8 ?k9 ?kB ?_ ?c2 ?c3 ?c4 ?c5; (case kA => exact rfl); (case kF => assumption); (case kK => assumption); walk_at "k15"; (case k6 => assumption); (case k7 => exact codeRec_news (by k_asm) (by assumption) (by assumption) (by assumption)); (case k8 => (dsimp only; omega)); (case k9 => exact BindsTo.of_eq rfl); (case c5 => decide); (case kB => exact locs rfl); (case c2 => exact rfl); (case c3 => exact rfl); (case c4 => exact rfl); k_whole; intro g' L' h' FG' F' N' B' X' T'; (try dsimp only); (try k_lift B'); (try k_fold)))
    k_with_none
    (((refine (?_ : let env1 : Env := _; let A1 : Around := Around.deeper _ env1; let Q1 : Flow → Shared → Prop := _; let E1 : Value → Shared → Prop := _; let s1 : Shared := _; wpAny _ A1 (execs _ env1) Q1 E1 s1)); intro env1 A1 Q1 E1 s1))
    walk_at "gob"
    · have hk1 : k = 1 := by omega
      subst hk1
      obtain ⟨t0, ht0⟩ := natI_get (n := n) hIs (show lo < ds.length by omega)
      refine item_L (by k_asm) mL (by omega) (by omega) ht0 ?_
      walk_at "gob"
      exact hret _ _ _ _ rfl (by assumption) (by assumption)
    · have hk2 : 2 ≤ k := by omega
      refine rsh_to (x := 2 * lo + k) (k := 1) (y := lo + k / 2) (by omega) rfl (by omega) ?_
      walk_at "gob"
      have hj5 : k - k / 2 < k := by omega
      have hj6 : 0 < k - k / 2 := by omega
      have hj7 : n * (k - k / 2) ≤ 20000 := by omega
      have hj8 : lo + k / 2 + (k - k / 2) ≤ ds.length := by omega
      have hj9 : ((lo + k : Nat) : Int) = ((lo + k / 2 + (k - k / 2) : Nat) : Int) := by omega
      refine' InnD.use (ih (k - k / 2) hj5) (lo + k / 2) ds ?k1 ?k2 ?k3 ?k4 ?k5 ?kA ?kF ?kK ?kH ?k8 ?k9 mF mc mI mD mN mL hIs hj8 hj9 hj6 hds hj7 hdl ?_
      ((walk_at "kAH"; walk_at "k15"; walk_at "k89"))
      intro v1 t1 h2 tk2 hv1 F2 N2
      subst hv1
      walk_at "gob"
      have hbv : Builtin.Int.intBits ((ud n (seg ds (lo + k / 2) (k - k / 2)) : Nat) : Int) ≤ n * (k - k / 2) := by
        have := ud_lt n (seg ds (lo + k / 2) (k - k / 2)) (seg_mem hds)
        rw [seg_length hj8] at this
        exact bits_lt this
      refine lsh_to (x := ud n (seg ds (lo + k / 2) (k - k / 2))) (k := n * (k / 2)) rfl shift_eq (by omega) ?_
      walk_at "gob"
      have hj1 : k / 2 < k := by omega
      have hj0 : 0 < k / 2 := by omega
      have hj3 : n * (k / 2) ≤ 20000 := by omega
      have hj4 : lo + k / 2 ≤ ds.length := by omega
      refine' InnD.use (ih (k / 2) hj1) lo ds ?k1 ?k2 ?k3 ?k4 ?k5 ?kA ?kF ?kK ?kH ?k8 ?k9 mF mc mI mD mN mL hIs hj4 rfl hj0 hds hj3 hdl ?_
      ((walk_at "kAH"; walk_at "k15"; walk_at "k89"))
      intro v2 t2 h3 tk3 hv2 F3 N3
      subst hv2
      walk_at "gob"
      exact hret _ _ _ _ (seg_two (Nat.div_le_self k 2) hlk) (by assumption) (by assumption))
  intro inn
  refine truthy_L N2 (.tail _ (.tail _ (.tail _ (.tail _ (.tail _ (.tail _ (hlw))))))) (by omega) ?_
  intro b tkb hb
  cases b
  · walk_at "gof"
    have hv : vs0 = [] := by simpa using hb
    have hd0 : ds = [] := List.length_eq_zero_iff.mp (by rw [← hlen, hv]; rfl)
    subst hd0
    refine hret _ _ _ _ _ rfl (.inr ⟨c', oc, vs, t, (.tail _ (.tail _ (.head _))), (.tail _ (.head _)), e1, e2⟩) (fun p hp hn => (.tail _ (.tail _ (.tail _ (.tail _ (.tail _ (.tail _ (hkeep p hp hn)))))))) (by assumption) (by assumption)
  · have hv : vs0 ≠ [] := by simpa using hb
    have hd0 : 0 < ds.length := by rw [← hlen]; exact List.length_pos_iff.mpr hv
    walk_at "gof"
    refine len_L (by k_asm) (.tail _ (.tail _ (.tail _ (.tail _ (.tail _ (.tail _ (hlw))))))) (by omega) ?_
    rw [hlen]
    walk_at "gof"
    refine' InnD.use (inn ds.length) 0 ds ?k1 ?k2 ?k3 ?k4 ?k5 ?kA ?kF ?kK ?kH ?k8 ?k9 (.head _) (.tail _ (.head _)) (.tail _ (.tail _ (.tail _ (.head _)))) (.tail _ (.tail _ (.tail _ (.tail _ (.tail _ (.head _)))))) (.tail _ (.tail _ (.tail _ (.tail _ (.head _))))) (.tail _ (.tail _ (.tail _ (.tail _ (.tail _ (.tail _ (hlw))))))) hI (by omega) (by rw [Nat.zero_add]) hd0 hds hnk (by omega) ?_
    ((walk_at "kAH"; walk_at "k15"; walk_at "k89"))
    intro v3 t3 h3 tk3 hv3 F3 N3
    rw [seg_all] at hv3
    walk_at "gof"
    refine hret _ _ _ _ _ hv3 (.inr ⟨c', oc, vs, t, (.tail _ (.tail _ (.head _))), (.tail _ (.head _)), e1, e2⟩) (fun p hp hn => (.tail _ (.tail _ (.tail _ (.tail _ (.tail _ (.tail _ (hkeep p hp hn)))))))) (by assumption) (by assumption)
end

section
local macro_rules | `(tactic| k_lt $_h:ident) => `(tactic| skip)
noncomputable def DmJ (keep : Ledg) (ql : Addr) (b n : Nat) (ds : List Nat) (m₀ : Str → Option Value) (i : Nat) (m : Str → Option Value) (nx : Ledg) : Prop :=
  ∃ t, DmL keep nx ql b n (ds.drop (ds.length - i)) ∧ (∀ p ∈ [(Str.ofString "r", Value.int (((divL b n (ds.drop (ds.length - i))).2 : Nat) : Int) t)], m p.1 = some p.2) ∧ (∀ z, z ≠ Str.ofString "a_digit" → (∀ p ∈ [(Str.ofString "r", Value.int (((divL b n (ds.drop (ds.length - i))).2 : Nat) : Int) t)], z ≠ p.1) → [Str.ofString "q_digit"].contains z = false → m z = m₀ z)
set_option maxRecDepth 100000 in
set_option maxHeartbeats 8000000 in
theorem dmp_call {prog : Program} {w : World} {p : Program} {loose : List Str} {mean : ExcName → Option Value} {mg mb : Str → Option Value}
    {A A₀ : Around} {base h₀ : Heap} {outer : List Env} {env : Env} {L : Addr} {m : Str → Option Value} {news : Ledg} {s : Shared} {Q E : Value → Shared → Prop}
    {a b : Nat} {ta tb : Tok}
    (B : Below A₀ base outer h₀) (F : Fr h₀ L s.heap m) (X : (Mine.hd.heap_39 w.params).In h₀) (N : News h₀ L s.heap news) (T : Top p loose mean mg mb h₀)
    (hA : A.frames = some (env :: outer)) (hf : env.frame = some L) (hk : env.scope.kind = .function) (hh : A.handled = none) (hd : A.depth + 120 < recursionLimit) (hu : A.units + 1000 < cLine)
    (C1 : CodeHd base 52 48) (TB1 : TabOk 48 73 4 "_int2digits.<locals>.inner" news) (C2 : CodeHd base 59 55) (TB2 : TabOk 55 88 4 "_digits2int.<locals>.inner" news)
    (hb : 0 < b) (hbb : Builtin.Int.intBits (b : Int) < 2000) (ha : Builtin.Int.intBits (a : Int) < 2000) (hcnt : (Builtin.Int.intBits (a : Int) + Builtin.Int.intBits (b : Int) - 1) / Builtin.Int.intBits (b : Int) ≤ 100)
    (hret : ∀ r vq vr tq tr nx h' tk', vq = ((a / b : Nat) : Int) → vr = ((a % b : Nat) : Int) → (r, ({ cls := .type "tuple", data := .seq #[.int vq tq, .int vr tr] } : Obj)) ∈ nx →
      TabOk 48 73 4 "_int2digits.<locals>.inner" nx → TabOk 55 88 4 "_digits2int.<locals>.inner" nx → (∀ p ∈ news, p.1 ≠ 48 → p.1 ≠ 55 → p ∈ nx) → Fr h₀ L h' m → News h₀ L h' nx → Q (.ref r) { s with heap := h', toks := tk' }) :
    wpAny (model prog w) A (call (.ref 67) [.int a ta, .int b tb]) Q E s := by
  obtain ⟨hdl, dp, fr, gd, un⟩ := A
  cases hh
  cases hA
  dsimp only at hd hu
  obtain ⟨n, hn⟩ : ∃ n, n = Builtin.Int.intBits (b : Int) := ⟨_, rfl⟩
  obtain ⟨cnt, hcn⟩ : ∃ c, (Builtin.Int.intBits (a : Int) + Builtin.Int.intBits (b : Int) - 1) / Builtin.Int.intBits (b : Int) = c := ⟨_, rfl⟩
  rw [hcn] at hcnt
  have hn0 : 0 < n := by
    rw [hn, bits_nat, if_neg (by omega)]
    omega
  refine wpAny_call ?_
  k_dflt ((refine' code_def ?k1 ?k2 ?k3 ?k4 ?k5 ?kA ?kF ?kK ?k6 ?k7 ?k8 ?k9 ?kB ?_ ?c2 ?c3 ?c4 ?c5; (case kA => exact rfl); (case kF => assumption); (case kK => assumption); walk_at "k15"; (case k6 => k_is); (case k7 => k_is); (case k8 => (dsimp only; omega)); (case k9 => first | exact BindsTo.of_eq rfl | (refine' kp_binds ?kx ?ke; (case kx => k_in); (case ke => exact fun _ => rfl))); (case c5 => decide); (case kB => exact locs rfl); (case c2 => exact rfl); (case c3 => exact rfl); (case c4 => exact rfl); k_whole; intro g' L' h' FG' F' N' B' X' T'; (try dsimp only); (try k_lift B'); (try k_fold)))
  k_with_none
  (((refine (?_ : let env1 : Env := _; let A1 : Around := Around.deeper _ env1; let Q1 : Flow → Shared → Prop := _; let E1 : Value → Shared → Prop := _; let s1 : Shared := _; wpAny _ A1 (execs _ env1) Q1 E1 s1)); intro env1 A1 Q1 E1 s1))
  walk_at "gof"
  (rename Fr _ _ _ _ => F1); (rename News _ _ _ _ => N1)
  change Fr _ _ _ (fun y => if y = _ then some _ else _) at F1
  rw [← hn] at F1 ⊢
  replace hcn := hcn
  rw [← hn] at hcn
  replace hbb := hbb
  rw [← hn] at hbb
  obtain ⟨hax, hncl⟩ := bits_cnt hn0 hcn
  refine' i2d_call (n := n) (cnt := cnt) ?k1 ?k2 ?k3 ?k4 ?k5 ?kA ?kF ?kK ?kH ?k8 ?k9 C1 TB1 hn0 (by omega) (by omega) hcn hcnt ?_
  ((walk_at "kAH"; walk_at "k15"; walk_at "k89"))
  intro al nx1 h2 tk2 hIa hT1 hkeep1 hlt1 F2 N2
  have hT2 := TB2.stay N1 TB1 (by decide) hkeep1
  obtain ⟨vsa, ea, hma, hia⟩ := hIa
  rw [dg_eq] at hia
  have hds := dgN_lt n cnt a
  have hdl := dgN_length n cnt a
  obtain ⟨hq, hr⟩ := divL_div (n := n) (cnt := cnt) hb hax
  have hqd := divL_digits hb _ hds
  generalize dgN n a cnt = ds at *
  clear N1 F1
  walk_at "gob"
  (rename Fr _ _ _ _ => F3)
  refine forAt F3 rfl rfl ?_
  walk_at "gob"
  (rename Fr _ _ _ _ => F4); (rename News _ _ _ _ => N4)
  have hvl : vsa.length = ds.length := by
    have := hia.length
    rw [natI_length] at this
    exact this
  have hK0 := DmL.start (nx := nx1) (b := b) (n := n) ds (by assumption)
  refine forRev (DmJ nx1 _ b n ds _) rfl F4 N4 (List.mem_cons_of_mem _ hma) (by assumption) ⟨_, hK0, by rw [divL_none]; kst_all, fun _ _ _ _ => rfl⟩ ?_ ?_
  · intro i v m₁ nx h tk own hi hv hJ hI hIo hown F5 N5
    obtain ⟨tr, hK, hps, hm⟩ := hJ
    obtain ⟨oI, hIo⟩ := hIo
    rw [hvl] at hi hv
    obtain ⟨t5, ht5⟩ := ints_get hia (i := ds.length - 1 - i) (by rw [natI_length]; omega)
    rw [hv, natI_getD] at ht5
    cases ht5
    replace F5 := kst_fr hps hm F5
    dsimp only [kstB] at F5
    obtain ⟨vq, eq, hmq, hiq⟩ := hK.row
    have hRb := divL_lt (n := n) hb (ds.drop (ds.length - i))
    have hdd : ds.getD (ds.length - 1 - i) 0 < 2 ^ n := getD_lt_all hds (by omega)
    have hstep := drop_one hi
    generalize ds.getD (ds.length - 1 - i) 0 = d at *
    have hbi := dm_bits hRb hdd hn
    have hRbits : Builtin.Int.intBits (((divL b n (ds.drop (ds.length - i))).2 : Nat) : Int) ≤ n := bits_lt (Nat.lt_trans hRb (by rw [hn]; exact lt_bits b))
    walk_at "gob"
    refine lsh_to (x := (divL b n (ds.drop (ds.length - i))).2) (k := n) rfl rfl (by omega) ?_
    walk_at "gob"
    refine' div2_call ?k1 ?k2 ?k3 ?k4 ?k5 ?kA ?kF ?kK ?kH ?k8 ?k9 (by omega) (by omega) (Nat.lt_of_lt_of_le (log2_of_bits (k := 2000) (by omega)) (by omega)) ?_
    ((walk_at "kAH"; walk_at "k15"; walk_at "k89"))
    intro r6 tq6 tr6 h6 tk6 F6 N6 l6
    rw [← Int.natCast_add, fdiv_nat, fmod_nat] at N6
    walk_at "gob"
    refine getMethod_append_N (by k_asm) (show (_, listOf vq.toArray eq) ∈ _ from .tail _ (List.mem_append_right _ hmq)) ?_
    walk_at "gob"
    refine append_L (by k_asm) (by k_asm) (.tail _ (List.mem_append_right _ hmq)) (by rw [sizeLine_eq, hiq.length, natI_length, List.length_reverse, divL_len, List.length_drop]; omega) ?_
    intro h7 F7 N7
    walk_at "gob"
    have hqn : ∀ p ∈ own, p.1 ≠ _ := own_ne hI hown hmq (hK.off _ hma)
    refine' ⟨_, _, _, _, rfl, by assumption, by assumption, fun p hp => mem_upd_ne (.tail _ (List.mem_append_left _ hp)) (hqn p hp), ?_⟩
    unfold DmJ
    rw [hstep, divL_cons2]
    refine' ⟨?tkk, (hK.step hmq hiq _ (fun p hp => .tail _ (List.mem_append_right _ hp)) rfl).filter (fun p hp => hI p (hK.old p hp)) (fun e => hI _ hmq e), ?ka, ?kb⟩
    case ka => kst_all
    case kb =>
      walk_at "kb"
  · intro m₁ nx h tk hJ F5 N5
    unfold DmJ at hJ
    rw [hvl, Nat.sub_self, List.drop_zero] at hJ
    obtain ⟨tr, hK, hps, hm⟩ := hJ
    replace F5 := kst_frOut hps hm F5
    dsimp only [kstB] at F5
    obtain ⟨vq, eq, hmq, hiq⟩ := hK.row
    have hql : vq.length = ds.length := by rw [hiq.length, natI_length, List.length_reverse, divL_len]
    walk_at "gob"
    refine kl_method (by k_asm) hmq PySem.F.slot_list_reverse PySem.F.type_list_reverse ?_
    walk_at "gob"
    refine reverse_L (by k_asm) (by k_asm) hmq (by rw [sizeLine_eq]; omega) ?_
    intro h7 F7 N7
    have hmq2 := mem_upd_self (o := listOf vq.reverse.toArray eq) hmq
    have hkp := fun p hp => mem_upd_ne (o := listOf vq.reverse.toArray eq) (hK.old p hp) (hK.off p hp)
    generalize upd nx _ (listOf vq.reverse.toArray eq) = nx2 at N7 hmq2 hkp
    have hT1' := hT1.mono hkp
    have hT2' := hT2.mono hkp
    obtain ⟨o55, ho55⟩ := hT2.got
    have hl55 := hK.off _ ho55
    clear N5 hm hps
    walk_at "gob"
    refine' d2i_call ?k1 ?k2 ?k3 ?k4 ?k5 ?kA ?kF ?kK ?kH ?k8 ?k9 C2 hT2' (by omega) hmq2 hl55.symm (ints_rev hiq) hqd (by rw [divL_len]; omega) (by rw [divL_len, hdl]; omega) ?_
    ((walk_at "kAH"; walk_at "k15"; walk_at "k89"))
    intro v8 t8 nx3 h8 tk8 hv8 hT2'' hkeep3 F8 N8
    have hT1'' := hT1'.stay N7 hT2' (by decide) hkeep3
    clear N7
    walk_at "gob"
    refine hret _ _ _ _ _ _ _ _ (hv8.trans (congrArg (fun q : Nat => (q : Int)) hq)) (congrArg (fun q : Nat => (q : Int)) hr) (.head _) (hT1''.mono fun p hp => .tail _ hp) (hT2''.mono fun p hp => .tail _ hp) (fun p hp h1 h2 => .tail _ (hkeep3 _ (hkp _ (hkeep1 p hp h1)) h2)) (by assumption) (by assumption)
end

section
local macro_rules | `(tactic| k_lt $_h:ident) => `(tactic| skip)
set_option maxRecDepth 100000 in
set_option maxHeartbeats 8000000 in
theorem sub_call {prog : Program} {w : World} {p : Program} {loose : List Str} {mean : ExcName → Option Value} {mg mb : Str → Option Value}
    {A A₀ : Around} {base h₀ : Heap} {outer : List Env} {env : Env} {L : Addr} {m : Str → Option Value} {news : Ledg} {s : Shared} {Q E : Value → Shared → Prop}
    {c d : Nat} {ta tb : Tok}
    (B : Below A₀ base outer h₀) (F : Fr h₀ L s.heap m) (X : (Mine.hd.heap_39 w.params).In h₀) (N : News h₀ L s.heap news) (T : Top p loose mean mg mb h₀)
    (hA : A.frames = some (env :: outer)) (hf : env.frame = some L) (hk : env.scope.kind = .function) (hh : A.handled = none) (hd : A.depth + 2 < recursionLimit) (hu : A.units + 8 < cLine)
    (hc : c ∈ signCs) (hd' : d ∈ signCs)
    (hret : ∀ t h' tk', Fr h₀ L h' m → News h₀ L h' news → Q (.int (if c = d then 0 else 2) t) { s with heap := h', toks := tk' }) :
    wpAny (model prog w) A (call (.ref 74) [.str (mkS [c]) ta, .str (mkS [d]) tb]) Q E s := by
  obtain ⟨hdl, dp, fr, gd, un⟩ := A
  cases hh
  cases hA
  dsimp only at hd hu
  refine wpAny_call ?_
  k_dflt ((refine' code_def ?k1 ?k2 ?k3 ?k4 ?k5 ?kA ?kF ?kK ?k6 ?k7 ?k8 ?k9 ?kB ?_ ?c2 ?c3 ?c4 ?c5; (case kA => exact rfl); (case kF => assumption); (case kK => assumption); walk_at "k15"; (case k6 => k_is); (case k7 => k_is); (case k8 => (dsimp only; omega)); (case k9 => first | exact BindsTo.of_eq rfl | (refine' kp_binds ?kx ?ke; (case kx => k_in); (case ke => exact fun _ => rfl))); (case c5 => decide); (case kB => exact locs rfl); (case c2 => exact rfl); (case c3 => exact rfl); (case c4 => exact rfl); k_whole; intro g' L' h' FG' F' N' B' X' T'; (try dsimp only); (try k_lift B'); (try k_fold)))
  k_with_none
  (((refine (?_ : let env1 : Env := _; let A1 : Around := Around.deeper _ env1; let Q1 : Flow → Shared → Prop := _; let E1 : Value → Shared → Prop := _; let s1 : Shared := _; wpAny _ A1 (execs _ env1) Q1 E1 s1)); intro env1 A1 Q1 E1 s1))
  walk_at "gof"
  · (rename (_ == _) = true => hq)
    rw [beq_mkS] at hq
    have e : c = d := by simpa using hq
    rw [if_pos e] at hret
    exact hret _ _ _ (by assumption) (by assumption)
  · (rename (_ == _) = false => hq)
    rw [beq_mkS] at hq
    have e : c ≠ d := by simpa using hq
    rw [if_neg e] at hret
    refine PySem.W.KXw.lower (low_sign c hc) (by rw [low_sign c hc]; rfl) ?_
    intro t1 k1
    walk_at "gof"
    refine PySem.W.KXw.lower (low_sign d hd') (by rw [low_sign d hd']; rfl) ?_
    intro t2 k2
    walk_at "gof"
    · exfalso
      (rename (_ == _) = true => hq2)
      rw [beq_mkS, hq] at hq2
      cases hq2
    · exact hret _ _ _ (by assumption) (by assumption)
end

local macro_rules | `(tactic| walk_at "gox") => `(tactic| ((fail_if_success (with_reducible show wpAny _ _ (subscriptTail _ _ (Value.str _ _) _) _ _ _)); (fail_if_success (with_reducible show wpAny _ _ (truthy (Value.str _ _)) _ _ _))))
local macro_rules | `(tactic| walk_at "gos") => `(tactic| (try dsimp only) <;> walk_at "pre" <;> repeat' (walk_at "nf"; walk_at "gox"; (fail_if_success (with_reducible show wpAny _ _ (eval (PySem.Expr.BoolOp BoolOp.Or _ _) _) _ _ _)); walk_at "stop"; walk_at "st1"))

section
local macro_rules | `(tactic| k_lt $_h:ident) => `(tactic| skip)
set_option maxRecDepth 100000 in
set_option maxHeartbeats 8000000 in
theorem lev_call {prog : Program} {w : World} {p : Program} {loose : List Str} {mean : ExcName → Option Value} {mg mb : Str → Option Value}
    {A A₀ : Around} {base h₀ : Heap} {outer : List Env} {env : Env} {L : Addr} {m : Str → Option Value} {news : Ledg} {s : Shared} {Q E : Value → Shared → Prop}
    {a b : List Nat} {c : Int} {ta tb tc : Tok}
    (B : Below A₀ base outer h₀) (F : Fr h₀ L s.heap m) (X : (Mine.hd.heap_39 w.params).In h₀) (N : News h₀ L s.heap news) (T : Top p loose mean mg mb h₀)
    (hA : A.frames = some (env :: outer)) (hf : env.frame = some L) (hk : env.scope.kind = .function) (hh : A.handled = none) (hd : A.depth + 4 < recursionLimit) (hu : A.units + 24 < cLine)
    (hla : a.length ≤ 40) (hlb : b.length ≤ 40) (hca : ∀ x ∈ a, x ∈ signCs) (hcb : ∀ x ∈ b, x ∈ signCs)
    (hret : ∀ v t nx h' tk', v = levF a b c → Fr h₀ L h' m → News h₀ L h' nx → (∀ p ∈ news, p ∈ nx) → Q (.int v t) { s with heap := h', toks := tk' }) :
    wpAny (model prog w) A (call (.ref 81) [.str (mkS a) ta, .str (mkS b) tb, .int c tc]) Q E s := by
  obtain ⟨hdl, dp, fr, gd, un⟩ := A
  cases hh
  cases hA
  dsimp only at hd hu
  refine wpAny_call ?_
  k_dflt ((refine' code_def ?k1 ?k2 ?k3 ?k4 ?k5 ?kA ?kF ?kK ?k6 ?k7 ?k8 ?k9 ?kB ?_ ?c2 ?c3 ?c4 ?c5; (case kA => exact rfl); (case kF => assumption); (case kK => assumption); walk_at "k15"; (case k6 => k_is); (case k7 => k_is); (case k8 => (dsimp only; omega)); (case k9 => first | exact BindsTo.of_eq rfl | (refine' kp_binds ?kx ?ke; (case kx => k_in); (case ke => exact fun _ => rfl))); (case c5 => decide); (case kB => exact locs rfl); (case c2 => exact rfl); (case c3 => exact rfl); (case c4 => exact rfl); k_whole; intro g' L' h' FG' F' N' B' X' T'; (try dsimp only); (try k_lift B'); (try k_fold)))
  k_with_none
  (((refine (?_ : let env1 : Env := _; let A1 : Around := Around.deeper _ env1; let Q1 : Flow → Shared → Prop := _; let E1 : Value → Shared → Prop := _; let s1 : Shared := _; wpAny _ A1 (execs _ env1) Q1 E1 s1)); intro env1 A1 Q1 E1 s1))
  walk_at "gos"
  · (rename (_ == _) = true => hab)
    replace hab := hab
    rw [beq_mkS] at hab
    have e : a = b := by simpa using hab
    exact hret _ _ _ _ _ (by rw [levF, if_pos e]) (by assumption) (by assumption) (fun _ h => h)
  (rename (_ == _) = false => hab)
  replace hab := hab
  rw [beq_mkS] at hab
  have hab' : a ≠ b := by simpa using hab
  have hpl := preF_le a b
  (rename Fr _ _ _ _ => F1); (rename News _ _ _ _ => N1)
  refine cutAt F1 N1 (Str.ofString "pre") (fun t => .int (preF a b : Int) t) ?_ ?_
  · intro Q' hQ'
    refine' ksw_while (σ := Nat × Tok) (fun _ => news) (fun c => [(Str.ofString "pre", .int (c.1 : Int) c.2)]) (fun _ => True) []
        (fun c => c.1 ≤ preF a b) (fun c => a.length - c.1) ⟨0, ?t1⟩ F1 N1 trivial ?kk (Nat.zero_le _) ?_
    case kk => kst_all
    rintro ⟨i, t1⟩ u h4 tk4 _ hin F4 N4
    dsimp only [kstB] at F4 N4 hin
    walk_at "gos"
    (rename Fr _ _ _ _ => F5); (rename News _ _ _ _ => N5)
    refine sfrom_L (k := i) F5 N5 rfl (by lia) (by lia) ?_ rfl (fun _ => rfl)
    intro h6 t6 tk6 F6 N6
    walk_at "gos"
    refine struthy (by rw [List.length_drop]; lia) ?_
    intro b1 tk7 hb1
    cases b1
    · have e9 : a.drop i = [] := dec_nil hb1
      have e10 : a.length ≤ i := List.drop_eq_nil_iff.mp e9
      have e11 : i = preF a b := by lia
      subst e11
      walk_at "gos"
      exact hQ' _ _ _ (fr_nil F6) N6
    · have e9 : a.drop i ≠ [] := dec_cons hb1
      have e10 : i < a.length := Nat.lt_of_not_le fun q => e9 (List.drop_eq_nil_iff.mpr q)
      walk_at "gos"
      refine sfrom_L (k := i) F6 N6 rfl (by lia) (by lia) ?_ rfl (fun _ => rfl)
      intro h8 t8 tk8 F8 N8
      walk_at "gos"
      refine struthy (by rw [List.length_drop]; lia) ?_
      intro b2 tk9 hb2
      cases b2
      · have f9 : b.drop i = [] := dec_nil hb2
        have f10 : b.length ≤ i := List.drop_eq_nil_iff.mp f9
        have f11 : i = preF a b := by lia
        subst f11
        walk_at "gos"
        exact hQ' _ _ _ (fr_nil F8) N8
      · have f9 : b.drop i ≠ [] := dec_cons hb2
        have f10 : i < b.length := Nat.lt_of_not_le fun q => f9 (List.drop_eq_nil_iff.mpr q)
        have hat := preF_at hin e10 f10
        walk_at "gos"
        refine sitem_L (k := i) rfl e10 (by lia) ?_ rfl (fun _ => rfl)
        walk_at "gos"
        refine sitem_L (k := i) rfl f10 (by lia) ?_ rfl (fun _ => rfl)
        walk_at "gos"
        · (rename (_ == _) = true => hq)
          rw [beq_mkS] at hq
          have hq1 : a.getD i 0 = b.getD i 0 := by simpa using hq
          have hlt := hat.1 hq1
          refine ksw_end ⟨i + 1, _⟩ (by assumption) (by assumption) (fun _ h => h) trivial (by kst_all) (by walk_at "same") hlt (by dsimp only; lia)
        · (rename (_ == _) = false => hq)
          rw [beq_mkS] at hq
          have hq1 : a.getD i 0 ≠ b.getD i 0 := by simpa using hq
          have f11 := hat.2 hq1
          subst f11
          exact hQ' _ _ _ (fr_nil F8) N8
  · intro t2 h2 tk2 F2 N2
    walk_at "gos"
    refine sfrom_L (k := preF a b) F2 N2 rfl (by lia) (by lia) ?_ rfl (fun _ => rfl)
    intro h3 t3 tk3 F3 N3
    walk_at "gos"
    (rename Fr _ _ _ _ => F3); (rename News _ _ _ _ => N3)
    refine sfrom_L (k := preF a b) F3 N3 rfl (by lia) (by lia) ?_ rfl (fun _ => rfl)
    intro h4 t4 tk4 F4 N4
    have hlevF : levF a b c = levCut (cutS (a.drop (preF a b)) (b.drop (preF a b))) (cutS (b.drop (preF a b)) (a.drop (preF a b))) c := by rw [levF, if_neg hab']
    replace hret := hret
    rw [hlevF] at hret
    have hla1 : (a.drop (preF a b)).length ≤ 40 := by rw [List.length_drop]; lia
    have hlb1 : (b.drop (preF a b)).length ≤ 40 := by rw [List.length_drop]; lia
    have hca1 : ∀ x ∈ a.drop (preF a b), x ∈ signCs := fun x hx => hca x (List.mem_of_mem_drop hx)
    have hcb1 : ∀ x ∈ b.drop (preF a b), x ∈ signCs := fun x hx => hcb x (List.mem_of_mem_drop hx)
    change Fr _ _ _ (fun y => if y = _ then some _ else _) at F4
    clear hlevF
    generalize a.drop (preF a b) = a1 at F4 hret hla1 hca1
    generalize b.drop (preF a b) = b1 at hret hlb1 hcb1 ⊢
    walk_at "gos"
    (rename Fr _ _ _ _ => F5); (rename News _ _ _ _ => N5)
    have hpl2 := preF_le a1.reverse b1.reverse
    rw [List.length_reverse, List.length_reverse] at hpl2
    refine cutAt F5 N5 (Str.ofString "post") (fun t => .int (-(preF a1.reverse b1.reverse : Int)) t) ?_ ?_
    · intro Q' hQ'
      refine' ksw_while (σ := Nat × Int × Tok) (fun _ => news) (fun c => [(Str.ofString "post", .int c.2.1 c.2.2)]) (fun _ => True) []
          (fun c => c.1 ≤ preF a1.reverse b1.reverse ∧ c.2.1 = -(c.1 : Int)) (fun c => a1.length - c.1) ⟨0, 0, ?t9⟩ F5 N5 trivial ?kk ⟨Nat.zero_le _, rfl⟩ ?_
      case kk => kst_all
      rintro ⟨i, z, t1⟩ u h6 tk6 _ ⟨hin, hz⟩ F6 N6
      dsimp only [kstB] at F6 N6 hin hz
      walk_at "gos"
      (rename Fr _ _ _ _ => F6); (rename News _ _ _ _ => N6)
      refine cutE (OrV i) F6 N6 ?_ ?_
      · intro Q2 hQ2
        ((try dsimp only) <;> walk_at "pre" <;> repeat' (walk_at "nf"; walk_at "gox"; walk_at "stop"; walk_at "st1"))
        · exact hQ2 _ _ _ (.inr ⟨by lia, _, by rw [hz]⟩) F6 N6
        · exact hQ2 _ _ _ (.inl ⟨by lia, rfl⟩) F6 N6
      intro v7 h7 tk7 hv7 F7 N7
      walk_at "gos"
      refine sopt_L F7 N7 hv7 (by lia) (by lia) ?_ rfl (fun _ => rfl)
      intro h8 t8 tk8 F8 N8
      walk_at "gos"
      refine struthy (by rw [List.length_take]; lia) ?_
      intro c1 tk9 hc1
      cases c1
      · have e9 : a1.take (a1.length - i) = [] := dec_nil hc1
        have e11 : i = preF a1.reverse b1.reverse := by have := take_nil.mp e9; lia
        have e12 : z = -(preF a1.reverse b1.reverse : Int) := by lia
        subst e12
        walk_at "gos"
        exact hQ' _ _ _ (fr_nil F8) N8
      · have e9 : a1.take (a1.length - i) ≠ [] := dec_cons hc1
        have e10 : i < a1.length := Nat.lt_of_not_le fun q => e9 (take_nil.mpr q)
        walk_at "gos"
        (rename Fr _ _ _ _ => F8); (rename News _ _ _ _ => N8)
        refine cutE (OrV i) F8 N8 ?_ ?_
        · intro Q2 hQ2
          ((try dsimp only) <;> walk_at "pre" <;> repeat' (walk_at "nf"; walk_at "gox"; walk_at "stop"; walk_at "st1"))
          · exact hQ2 _ _ _ (.inr ⟨by lia, _, by rw [hz]⟩) F8 N8
          · exact hQ2 _ _ _ (.inl ⟨by lia, rfl⟩) F8 N8
        intro v10 h10 tk10 hv10 F10 N10
        walk_at "gos"
        refine sopt_L F10 N10 hv10 (by lia) (by lia) ?_ rfl (fun _ => rfl)
        intro h11 t11 tk11 F11 N11
        walk_at "gos"
        refine struthy (by rw [List.length_take]; lia) ?_
        intro c2 tk12 hc2
        cases c2
        · have f9 : b1.take (b1.length - i) = [] := dec_nil hc2
          have f11 : i = preF a1.reverse b1.reverse := by have := take_nil.mp f9; lia
          have f12 : z = -(preF a1.reverse b1.reverse : Int) := by lia
          subst f12
          walk_at "gos"
          exact hQ' _ _ _ (fr_nil F11) N11
        · have f9 : b1.take (b1.length - i) ≠ [] := dec_cons hc2
          have f10 : i < b1.length := Nat.lt_of_not_le fun q => f9 (take_nil.mpr q)
          have hat := preF_at hin (by rw [List.length_reverse]; exact e10) (by rw [List.length_reverse]; exact f10)
          rw [rev_getD e10, rev_getD f10] at hat
          walk_at "gos"
          refine sneg_L (k := i) (by rw [hz]) e10 (by lia) ?_ rfl (fun _ => rfl)
          walk_at "gos"
          refine sneg_L (k := i) (by rw [hz]) f10 (by lia) ?_ rfl (fun _ => rfl)
          walk_at "gos"
          · (rename (_ == _) = true => hq)
            rw [beq_mkS] at hq
            have hq1 : a1.getD (a1.length - 1 - i) 0 = b1.getD (b1.length - 1 - i) 0 := by simpa using hq
            have hlt := hat.1 hq1
            refine ksw_end ⟨i + 1, z - 1, _⟩ (by assumption) (by assumption) (fun _ h => h) trivial (by kst_all) (by walk_at "same") ⟨hlt, by dsimp only; lia⟩ (by dsimp only; lia)
          · (rename (_ == _) = false => hq)
            rw [beq_mkS] at hq
            have hq1 : a1.getD (a1.length - 1 - i) 0 ≠ b1.getD (b1.length - 1 - i) 0 := by simpa using hq
            have f11 := hat.2 hq1
            have f12 : z = -(preF a1.reverse b1.reverse : Int) := by lia
            subst f12
            exact hQ' _ _ _ (fr_nil F11) N11
    · intro t6 h6 tk6 F6 N6
      have hvo : ∀ t, preF a1.reverse b1.reverse ≠ 0 → OrV (preF a1.reverse b1.reverse) (.int (-(preF a1.reverse b1.reverse : Int)) t) := fun t h => .inr ⟨by lia, t, rfl⟩
      walk_at "gos"
      (rename Fr _ _ _ _ => F6); (rename News _ _ _ _ => N6)
      refine cutE (OrV (preF a1.reverse b1.reverse)) F6 N6 ?_ ?_
      · intro Q2 hQ2
        ((try dsimp only) <;> walk_at "pre" <;> repeat' (walk_at "nf"; walk_at "gox"; walk_at "stop"; walk_at "st1"))
        · exact hQ2 _ _ _ (.inr ⟨by lia, _, rfl⟩) F6 N6
        · exact hQ2 _ _ _ (.inl ⟨by lia, rfl⟩) F6 N6
      intro v7 h7 tk7 hv7 F7 N7
      walk_at "gos"
      refine sopt_L F7 N7 hv7 (by lia) (by lia) ?_ rfl (fun _ => rfl)
      intro h8 t8 tk8 F8 N8
      walk_at "gos"
      (rename Fr _ _ _ _ => F8); (rename News _ _ _ _ => N8)
      refine cutE (OrV (preF a1.reverse b1.reverse)) F8 N8 ?_ ?_
      · intro Q2 hQ2
        ((try dsimp only) <;> walk_at "pre" <;> repeat' (walk_at "nf"; walk_at "gox"; walk_at "stop"; walk_at "st1"))
        · exact hQ2 _ _ _ (.inr ⟨by lia, _, rfl⟩) F8 N8
        · exact hQ2 _ _ _ (.inl ⟨by lia, rfl⟩) F8 N8
      intro v9 h9 tk9 hv9 F9 N9
      walk_at "gos"
      refine sopt_L F9 N9 hv9 (by lia) (by lia) ?_ rfl (fun _ => rfl)
      intro h10 t10 tk10 F10 N10
      have hea : a1.take (a1.length - preF a1.reverse b1.reverse) = cutS a1 b1 := rfl
      have heb : b1.take (b1.length - preF a1.reverse b1.reverse) = cutS b1 a1 := by rw [preF_comm]; rfl
      change Fr _ _ _ (fun y => if y = _ then some _ else _) at F10
      rw [hea] at F10
      rw [heb]
      have hla2 : (cutS a1 b1).length ≤ 40 := by rw [cutS, List.length_take]; lia
      have hlb2 : (cutS b1 a1).length ≤ 40 := by rw [cutS, List.length_take]; lia
      have hca2 : ∀ x ∈ cutS a1 b1, x ∈ signCs := fun x hx => hca1 x (List.mem_of_mem_take hx)
      have hcb2 : ∀ x ∈ cutS b1 a1, x ∈ signCs := fun x hx => hcb1 x (List.mem_of_mem_take hx)
      clear hea heb
      generalize cutS a1 b1 = a2 at F10 hret hla2 hca2
      generalize cutS b1 a1 = b2 at hret hlb2 hcb2 ⊢
      have hlA : (mkS a2).length ≤ 40 := by rw [mkS_length]; exact hla2
      have hlB : (mkS b2).length ≤ 40 := by rw [mkS_length]; exact hlb2
      walk_at "gos"
      refine struthy (by lia) ?_
      intro d1 tk11 hd1
      cases d1
      · have e9 := dec_nil hd1
        walk_at "gos"
        exact hret _ _ _ _ _ (by rw [levCut, if_pos (.inl e9), mkS_length, mkS_length]) (by assumption) (by assumption) (fun _ h => h)
      have e9 := dec_cons hd1
      walk_at "gos"
      refine struthy (by lia) ?_
      intro d2 tk12 hd2
      cases d2
      · have e10 := dec_nil hd2
        walk_at "gos"
        exact hret _ _ _ _ _ (by rw [levCut, if_pos (.inr e10), mkS_length, mkS_length]) (by assumption) (by assumption) (fun _ h => h)
      have e10 := dec_cons hd2
      ((try dsimp only) <;> walk_at "pre" <;> repeat' ((fail_if_success (with_reducible show wpAny _ _ (exec (Stmt.If _ _ _ _) _) _ _ _)); walk_at "nf"; walk_at "gox"; (fail_if_success (with_reducible show wpAny _ _ (eval (PySem.Expr.BoolOp BoolOp.Or _ _) _) _ _ _)); walk_at "stop"; walk_at "st1"))
      walk1
      ((try dsimp only) <;> walk_at "pre" <;> repeat' ((fail_if_success (with_reducible show wpAny _ _ (exec (Stmt.If _ _ _ _) _) _ _ _)); walk_at "nf"; walk_at "gox"; (fail_if_success (with_reducible show wpAny _ _ (eval (PySem.Expr.BoolOp BoolOp.Or _ _) _) _ _ _)); walk_at "stop"; walk_at "st1"))
      (rename Fr _ _ _ _ => F12); (rename News _ _ _ _ => N12)
      obtain ⟨a3, b3, hs1, hs2⟩ := swapE a2 b2
      replace hret := hret
      rw [levCut_swap e9 e10 hs1 hs2] at hret
      refine cutSt (SwapP a3 b3) F12 N12 ?_ ?_
      · intro Q2 hQ2
        walk_at "gos"
        · obtain ⟨rfl, rfl⟩ := hs1 (by rw [mkS_length, mkS_length] at *; lia)
          (rename Fr _ _ _ _ => F12b); (rename News _ _ _ _ => N12b)
          exact hQ2 _ _ _ ⟨_, _, by kst_all, by walk_at "same"⟩ F12b (kst_newsOf N12b fun p hp => .tail _ hp)
        · obtain ⟨rfl, rfl⟩ := hs2 (by rw [mkS_length, mkS_length] at *; lia)
          (rename Fr _ _ _ _ => F12b); (rename News _ _ _ _ => N12b)
          exact hQ2 _ _ _ ⟨_, _, by kst_all, by walk_at "same"⟩ F12b N12b
      intro m' h13 tk13 hP F13 N13
      obtain ⟨t13, t14, hT13⟩ := hP
      replace F13 := hT13.fr F13
      dsimp only [kstB] at F13
      have h340 : a3.length ≤ 40 ∧ b3.length ≤ 40 ∧ a3.length ≤ b3.length ∧ (∀ x ∈ a3, x ∈ signCs) ∧ (∀ x ∈ b3, x ∈ signCs) ∧ b3 ≠ [] := by
        by_cases hlt : b2.length < a2.length
        · obtain ⟨rfl, rfl⟩ := hs1 hlt
          exact ⟨hlb2, hla2, by lia, hcb2, hca2, e9⟩
        · obtain ⟨rfl, rfl⟩ := hs2 hlt
          exact ⟨hla2, hlb2, by lia, hca2, hcb2, e10⟩
      obtain ⟨hla3, hlb3, hab3, hca3, hcb3, hb3⟩ := h340
      have hlA3 : (mkS a3).length ≤ 40 := by rw [mkS_length]; exact hla3
      have hlB3 : (mkS b3).length ≤ 40 := by rw [mkS_length]; exact hlb3
      clear hs1 hs2 hlA hlB hla2 hlb2 hca2 hcb2 e9 e10 hd1 hd2 hT13 F12 N12
      walk_at "gos"
      · (rename (_ < _ * 2) => hq)
        rw [mkS_length, mkS_length] at hq
        exact hret _ _ _ _ _ (by rw [levCore, if_pos hq]) (by assumption) (by assumption) (fun _ h => h)
      (rename ¬ (_ < _ * 2) => hq)
      rw [mkS_length, mkS_length] at hq
      replace hret := hret
      rw [levCore, if_neg hq] at hret
      (rename Fr _ _ _ _ => F14); (rename News _ _ _ _ => N14); (rename IsRange _ _ _ _ _ _ _ _ => hrg)
      simp only [mkS_length] at hrg
      refine lrange_L (n := a3.length) rfl F14 N14 hrg (small_two (by lia)) rangeSize_two (by lia) ?_
      intro D h15 tk15 ys ye hys F15 N15 l15
      have hrow0 : rangeInts 2 2 a3.length = (List.range a3.length).map (fun (k : Nat) => (2 + 2 * (k : Nat) : Int)) := by
        unfold rangeInts
        refine List.map_congr_left fun k _ => ?_
        lia
      rw [hrow0] at hys
      have hrl : ((List.range a3.length).map (fun (k : Nat) => (2 + 2 * (k : Nat) : Int))).length = a3.length := by simp
      have hR0 : RowL news ((D, listOf ys.toArray ye) :: news) D ((List.range a3.length).map (fun (k : Nat) => (2 + 2 * (k : Nat) : Int))) :=
        ⟨fun p hp => .tail _ hp, fun p hp => Nat.ne_of_lt (l15 p hp), ys, ye, .head _, hys⟩
      generalize hfin : levOut a3 c b3 0 ((List.range a3.length).map fun (k : Nat) => (2 + 2 * (k : Nat) : Int)) 0 = fin at hret
      generalize (List.range a3.length).map (fun (k : Nat) => (2 + 2 * (k : Nat) : Int)) = row0 at hfin hrl hys hR0
      clear F14 N14 hrg hrow0
      walk_at "gos"
      (rename Fr _ _ _ _ => F16)
      refine forAt F16 rfl rfl ?_
      walk_at "gos"
      (rename Fr _ _ _ _ => F17); (rename News _ _ _ _ => N17); (rename IsRange _ _ _ _ _ _ _ _ => hrg)
      simp only [mkS_length] at hrg
      refine forR (n := b3.length) (LevJ a3 b3 c fin news D _) rfl hrg (small_one (by lia) (by lia) (by lia) (by lia)) rangeSize_one F17 N17 ⟨row0, 0, _, hfin, hrl, hR0, by kst_all, fun _ _ _ _ => rfl⟩ ?_ ?_
      · intro I i t m₁ nx h tk own hi hJ hI hIo hown F18 N18
        obtain ⟨row, res, tr, hlev, hlen, hR, hps, hm⟩ := hJ
        obtain ⟨oI, hIo⟩ := hIo
        replace F18 := kst_fr hps hm F18
        simp only [Int.zero_add] at F18
        dsimp only [kstB] at F18
        replace hlev := hlev
        rw [levOut_at hi] at hlev
        have hR2 := hR.lift (own := own) hI hown
        walk_at "gos"
        refine sitem_L (k := i) rfl hi (by lia) ?_ rfl (fun _ => rfl)
        walk_at "gos"
        (rename Fr _ _ _ _ => F19)
        refine forAt F19 rfl rfl ?_
        walk_at "gos"
        (rename Fr _ _ _ _ => F20); (rename News _ _ _ _ => N20); (rename IsRange _ _ _ _ _ _ _ _ => hrg2)
        simp only [mkS_length] at hrg2
        have hch : b3.getD i 0 ∈ signCs := hcb3 _ (getD_mem hi)
        generalize hI1 : levIn (b3.getD i 0) a3 row ((i : Int) * 2) ((i : Int) * 2) 9223372036854775807 = fin1 at hlev
        change Fr _ _ _ (fun y => if y = _ then some _ else if y = _ then some _ else if y = _ then some _ else if y = _ then some _ else _) at F20
        generalize b3.getD i 0 = ch at F20 hI1 hch
        refine forR (n := a3.length) (InJ ch a3 row fin1 (own ++ news) D _) rfl hrg2 (small_one (by lia) (by lia) (by lia) (by lia)) rangeSize_one F20 N20 ⟨[], _, _, _, _, _, _, rfl, by simpa using hI1, hR2, by kst_all, fun _ _ _ _ => rfl⟩ ?_ ?_
        · intro I2 j t m₂ ny h tk own2 hj hJ2 hI2 hIo2 hown2 F21 N21
          obtain ⟨dn, d, r, mn, t1, t2, t3, hdn, hin, hR3, hps2, hm2⟩ := hJ2
          obtain ⟨oI2, hIo2⟩ := hIo2
          replace F21 := kst_fr hps2 hm2 F21
          simp only [Int.zero_add] at F21
          dsimp only [kstB] at F21
          replace hin := hin
          rw [levIn_at hj (by lia)] at hin
          have hR4 := hR3.lift (own := own2) hI2 hown2
          obtain ⟨va, ea, hva, hia⟩ := hR4.row
          have hDI : D ≠ I2 := by
            obtain ⟨v0, e0, hm0, _⟩ := hR3.row
            exact hI2 _ hm0
          have hx : a3.getD j 0 ∈ signCs := hca3 _ (getD_mem hj)
          have hjr : j < row.length := by lia
          have hjl : j < (dn ++ row.drop j).length := by rw [List.length_append, List.length_drop]; lia
          have hval : va.length = (dn ++ row.drop j).length := hia.length
          obtain ⟨t6, ht6⟩ := ints_get hia (i := j) hjl
          rw [mid_get (rs := []) hdn hjr] at ht6
          walk_at "gos"
          refine sitem_L (k := j) rfl hj (by lia) ?_ rfl (fun _ => rfl)
          generalize a3.getD j 0 = x at hin hx ⊢
          generalize row.getD j 0 = y at hin ht6
          walk_at "gos"
          refine' sub_call ?k1 ?k2 ?k3 ?k4 ?k5 ?kA ?kF ?kK ?kH ?k8 ?k9 hch hx ?_
          ((walk_at "kAH"; walk_at "k15"; walk_at "k89"))
          intro t7 h7 tk7 F7 N7
          generalize hsc : (if ch = x then (0 : Int) else 2) = sc at hin N7 ⊢
          walk_at "gos"
          refine item_L (by k_asm) hva (by lia) (by lia) (show va[((j : Nat) : Int).toNat]? = _ from ht6) ?_
          walk_at "gos"
          refine set_L (by k_asm) (by k_asm) hva (by lia) (by lia) (by lia) ?_
          intro h9 F9 N9
          rw [Int.toNat_natCast] at N9
          obtain ⟨nz, N10, hR5⟩ := hR4.put hia N9
          clear N9
          rw [mid_set hdn hjr] at hR5
          change Fr _ _ _ (fun y => if y = _ then some _ else _) at F9
          generalize hrn : pyMin (pyMin r y + 2) (d + sc) = rn at hin F9 hR5
          have hR6 := (hR5.weaken (fun p hp => List.mem_append_right _ hp)).filter (I := I2) (fun p hp => hI2 p (hR3.old p hp)) hDI
          walk_at "gos"
          · (rename _ < mn => hq2)
            replace hin := hin
            rw [if_pos hq2] at hin
            refine' ⟨_, _, _, _, rfl, by assumption, by assumption, fun p hp => hR5.old p (List.mem_append_left _ hp), ⟨dn ++ [rn], y, rn, rn, _, _, _, by simp [hdn], by rw [List.append_assoc]; exact hin, hR6, ?ka, ?kb⟩⟩
            case ka => kst_all
            case kb =>
              walk_at "kb"
          · (rename ¬ _ < mn => hq2)
            replace hin := hin
            rw [if_neg hq2] at hin
            refine' ⟨_, _, _, _, rfl, by assumption, by assumption, fun p hp => hR5.old p (List.mem_append_left _ hp), ⟨dn ++ [rn], y, rn, mn, _, _, _, by simp [hdn], by rw [List.append_assoc]; exact hin, hR6, ?ka, ?kb⟩⟩
            case ka => kst_all
            case kb =>
              walk_at "kb"
        · intro m₂ ny h tk hJ2 F21 N21
          obtain ⟨dn, d, r, mn, t1, t2, t3, hdn, hin, hR3, hps2, hm2⟩ := hJ2
          replace F21 := kst_frOut hps2 hm2 F21
          dsimp only [kstB] at F21
          have e1 : row.drop a3.length = [] := by rw [← hlen, List.drop_length]
          rw [e1, List.append_nil] at hR3
          replace hin := hin
          rw [List.drop_length, e1] at hin
          have e2 : (levIn ch [] [] d r mn) = ([], r, mn) := rfl
          replace hin := hin
          rw [e2, List.append_nil] at hin
          subst hin
          walk_at "gos"
          · (rename c < mn => hq2)
            replace hlev := hlev
            rw [if_pos (show mn > c from hq2)] at hlev
            dsimp only [ForPost]
            walk_at "gos"
            exact hret _ _ _ _ _ hlev (by assumption) (by assumption) (fun p hp => hR3.old p (List.mem_append_right _ hp))
          · (rename ¬ c < mn => hq2)
            replace hlev := hlev
            rw [if_neg (show ¬ mn > c from hq2)] at hlev
            have hR4 := (hR3.weaken (fun p hp => List.mem_append_right _ hp)).filter (I := I) (fun p hp => hI p (hR.old p hp)) (by obtain ⟨v0, e0, hm0, _⟩ := hR.row; exact hI _ hm0)
            refine' ⟨_, _, _, _, rfl, by assumption, by assumption, fun p hp => hR3.old p (List.mem_append_left _ hp), ⟨dn, r, _, by rw [Int.natCast_succ]; exact hlev, hdn, hR4, ?ka, ?kb⟩⟩
            case ka => kst_all
            case kb =>
              walk_at "kb"
      · intro m₁ nx h tk hJ F18 N18
        obtain ⟨row, res, tr, hlev, hlen, hR, hps, hm⟩ := hJ
        replace F18 := kst_frOut hps hm F18
        dsimp only [kstB] at F18
        replace hlev := hlev
        rw [List.drop_length] at hlev
        walk_at "gos"
        exact hret _ _ _ _ _ hlev (by assumption) (by assumption) hR.old
end

local macro_rules | `(tactic| walk_at "glx") => `(tactic| ((fail_if_success (with_reducible show wpAny _ _ (binaryOp _ (Value.str _ _) (Value.str _ _)) _ _ _)); (fail_if_success (with_reducible show wpAny _ _ (call (Value.builtin _) (Value.str _ _ :: _) _) _ _ _)); (fail_if_success (with_reducible refine endT_id ?_)); (fail_if_success (with_reducible show wpAny _ _ (binaryOp Operator.Pow (Value.int (Nat.cast _) _) _) _ _ _)); (fail_if_success (with_reducible show wpAny _ _ (inplaceOp Operator.Mult _ _) _ _ _)); (fail_if_success (with_reducible refine srcK_id ?_)); (fail_if_success (with_reducible refine endK_id ?_)); (fail_if_success (with_reducible refine compSrcT_id ?_)); (fail_if_success (with_reducible refine compSrc_id ?_)); (fail_if_success (with_reducible refine compEnd_id ?_)); (fail_if_success (with_reducible show wpAny _ _ (eval (PySem.Expr.ListComp _ _ _ _) _) _ _ _)); (fail_if_success (with_reducible show wpAny _ _ (exec (Stmt.Assign _ (PySem.Expr.ListComp _ _ _ _) _) _) _ _ _))))
local macro_rules | `(tactic| walk_at "gl") => `(tactic| (try dsimp only) <;> walk_at "pre" <;> repeat' (walk_at "nf"; walk_at "glx"; walk_at "stop"; walk_at "st1"))
local macro_rules | `(tactic| walk_at "me") => `(tactic| focus ((repeat (first | (with_reducible exact List.mem_cons_self) | (first | with_reducible exact C6.a1 | with_reducible exact C6.a2 | with_reducible exact C6.a3 | with_reducible exact C6.a4 | with_reducible exact C6.a5 | with_reducible exact C6.a6 | with_reducible exact C5.a1 | with_reducible exact C5.a2 | with_reducible exact C5.a3 | with_reducible exact C5.a4 | with_reducible exact C5.a6) | (first | (with_reducible refine C6.r _ ?_) | (with_reducible refine C5.r _ ?_) | (with_reducible refine List.mem_cons_of_mem _ ?_)))); done))
local macro_rules | `(tactic| walk_at "ms") => `(tactic| first | walk_at "me" | simp)
local macro_rules | `(tactic| walk_at "tl") => `(tactic| repeat (first | with_reducible assumption | (first | (with_reducible refine C6.r _ ?_) | (with_reducible refine C5.r _ ?_) | (with_reducible refine List.mem_cons_of_mem _ ?_))))
local macro_rules | `(tactic| walk_at "inc") => `(tactic| first | ((with_reducible refine C6.all ?_ ?_ ?_ ?_ ?_ ?_ ?_); walk_at "me"; walk_at "me"; walk_at "me"; walk_at "me"; walk_at "me"; walk_at "me"; walk_at "inc") | ((with_reducible refine C5.all ?_ ?_ ?_ ?_ ?_ ?_); walk_at "me"; walk_at "me"; walk_at "me"; walk_at "me"; walk_at "me"; walk_at "inc") | ((with_reducible refine inc_cons ?_ ?_); walk_at "me"; walk_at "inc") | (intro p hp; walk_at "tl"))
local macro_rules | `(tactic| walk_at "led") => `(tactic| focus ((repeat (first | (with_reducible exact List.Mem.head _) | (first | with_reducible exact C6.a1 | with_reducible exact C6.a2 | with_reducible exact C6.a3 | with_reducible exact C6.a4 | with_reducible exact C6.a5 | with_reducible exact C6.a6 | with_reducible exact C5.a1 | with_reducible exact C5.a2 | with_reducible exact C5.a3 | with_reducible exact C5.a4 | with_reducible exact C5.a6) | ktr_member | (with_reducible refine C6.r _ ?_) | (refine List.mem_cons_of_mem _ ?_) | (refine List.mem_append_right _ ?_))); done))
local macro_rules | `(tactic| walk_at "eval Name") => `(tactic| (k_here; (fail_if_success (with_reducible show wpAny _ _ (eval (PySem.Expr.Name _ _) (compEnvC _ _ _ _)) _ _ _)); k_dflt (first | (refine' nameX_L ?F ?v ?_ ?a ?b; (case F => k_asm); (case a => rfl); (case b => rfl); (case v => rfl); k_whole) | (refine' nameX_C ?N ?c ?m ?d ?_ ?a ?b; (case a => rfl); (case b => rfl); (case N => k_asm); (case c => rfl); (case m => k_mem); (case d => k_asm); k_whole))))
local macro_rules | `(tactic| walk_at "callWith ref") => `(tactic| (k_here; k_dflt (refine' callWith_K ?k1 ?k2 ?_; (case k1 => k_asm); (case k2 => k_is); k_whole)))

section
set_option maxRecDepth 100000
set_option maxHeartbeats 0
local macro_rules | `(tactic| k_lt $_h:ident) => `(tactic| skip)


noncomputable def funAt (P : Params) (f : Addr) : Option FuncData := match (Mine.hd.heap_39 P).lookup f with | some ⟨_, _, .func d, _⟩ => some d | _ => none
noncomputable def bodyAt (P : Params) (f : Addr) : List Stmt := match funAt P f with | some d => (match d.body with | .stmts b => b | _ => []) | _ => []
noncomputable def scopeAt (P : Params) (f : Addr) : Scope := match funAt P f with | some d => d.scope | _ => default
section
variable {w : World} {p : Program} {loose : List Str} {mean : ExcName → Option Value} {mg mb : Str → Option Value} {fa : Addr} {cd : Value} {hb : Heap} {L : Addr} {s : Shared} {Q : Flow → Shared → Prop} {E : Value → Shared → Prop}
  {m : Str → Option Value} {R : Ledg} {o1 o2 o3 o4 o5 o6 : Obj} {rw ln : Addr} {as : List Addr} {v6 : Option Value} {W : Int} {tw : Tok} {ps qs : Array Value}
  {row : List Int} {wd n : Nat} {kin tab : List (List Int)} {un : List Int} {signs text : List Nat}
theorem lenS {prog : Program} {A : Around} {l : List Nat} {t : Tok} {Q : Value → Shared → Prop} {E : Value → Shared → Prop} {s : Shared} (hz : l.length ≤ 1000) (h : Q (.int (l.length : Nat) (s.toks + 1)) { s with toks := s.toks + 1 + 1 }) : wpAny (model prog w) A (call (.builtin "len") [.str (mkS l) t]) Q E s := by
  refine PyProof.Rows.len_str (by rw [mkS_length]; omega) ?_
  rw [mkS_length]
  exact h
theorem strs_snoc : ∀ {vs : List Value} {ss : List Str}, StrsAre vs ss → ∀ (x : Str) (t : Tok), StrsAre (vs ++ [.str x t]) (ss ++ [x])
  | [], [], _, x, t => .cons _ _ .nil
  | _ :: _, _ :: _, .cons a b h, x, t => .cons a b (strs_snoc h x t)
set_option maxHeartbeats 0 in
theorem tail_run (KX : (Mine.hd.heap_39 w.params).In hb) (KT : Top p loose mean mg mb hb) (KB : Below callerA hb [] hb)
    (hP : LawOk row wd n kin tab un signs text) (hW : W = (wd : Nat)) (hr5 : row.length = 5)
    (hrow : m (Str.ofString "row") = some (.ref rw)) (hwid : m (Str.ofString "width") = some (.int W tw))
    (F : Fr hb L s.heap m)
    (N : News hb L s.heap (C6 L o6 o5 o4 o3 o2 o1 R))
    (e6 : o6.data = .cell v6) (e2 : o2.data = .cell (some (.ref ln))) (hR : ∀ q ∈ R, q.1 < L ∨ @LT.lt Nat _ (L + 6) q.1)
    (hRow : IntsAt R rw row) (hTab : GridAt R ln as tab) (h55 : (55, tabObj ps) ∈ R) (h48 : (48, tabObj qs) ∈ R)
    (hE : PassesOwn (model PySem.Challenge.rw_pu0050_01.row.prog w) (callerA.deeper (envOfC (Str.ofString "law") (scopeAt w.params 107) L fa cd)) (envOfC (Str.ofString "law") (scopeAt w.params 107) L fa cd) E)
    (hQ : ∀ h tk d m', Fr hb L h m' → GrownAt 55 h → GrownAt 48 h → Q (.ret (.bool true)) { s with heap := h, toks := tk, drawn := d }) :
    wpAny (model PySem.Challenge.rw_pu0050_01.row.prog w) (callerA.deeper (envOfC (Str.ofString "law") (scopeAt w.params 107) L fa cd)) (execs ((bodyAt w.params 107).drop 17) (envOfC (Str.ofString "law") (scopeAt w.params 107) L fa cd)) Q E s := by
  obtain ⟨m0, rfl⟩ : ∃ m0 : Str → Option Value, m = fun y => if y = Str.ofString "row" then some (.ref rw) else if y = Str.ofString "width" then some (.int W tw) else m0 y := by
    refine ⟨m, ?_⟩
    funext y
    by_cases h1 : y = Str.ofString "row"
    · rw [if_pos h1, h1, hrow]
    · rw [if_neg h1]
      by_cases h2 : y = Str.ofString "width"
      · rw [if_pos h2, h2, hwid]
      · rw [if_neg h2]
  clear hrow hwid
  show wpAny _ (callerA.deeper (envOfC _ ⟨_, _, _, _, _⟩ _ _ _)) (execs [_, _, _, _] (envOfC _ ⟨_, _, _, _, _⟩ _ _ _)) _ _ _
  obtain ⟨vr8, er8, hmr8, hir8⟩ := hRow
  walk_at "gl"
  refine newSetL rfl (by assumption) N (sub6 _ hmr8) hir8 (by omega) ?_
  intro D1 oS h1 tk1 hS F1 N1 l1
  clear F N
  walk_at "gl"
  refine sortedSetL rfl (by assumption) (by assumption) (.head _) hS (Nat.le_trans (firstMet_length_le _ _) (by omega)) (firstMet_nodup _ _) ?_
  intro D2 un2 h2 tk2 d2 e2' vs2 hi2 hp2 hm2 F2 N2 l2
  have e2u : un2 = un := rising_eq hp2 hP.un1 fun x => (hm2 x).trans ((firstMet_mem row x).trans (hP.un2 x).symm)
  subst e2u
  walk_at "gl"
  have hD2 : D2 < L ∨ @LT.lt Nat _ (L + 6) D2 := gt6 (l2 _ (.tail _ C6.a6))
  have hR2 := hR_cons (o := listOf vs2.toArray e2') hR hD2
  have N3 : News hb L h2 (C6 L o6 o5 o4 o3 o2 o1 ((D2, listOf vs2.toArray e2') :: R)) := kst_newsOf N2 (by walk_at "inc")
  refine store_c6 F2 N3 hR2 e6 rfl rfl rfl ?_
  intro h4 o6' F4 N4 e6'
  clear F2 N2 N3 l2 l1 N1 F1 e6
  walk_at "gl"
  ((k_dflt (refine' LCg.Assign_ListComp_U (F₀ := ?F08q) ?h18q ?h28q ?h38q ?h48q ?h58q ?h68q ?h78q ?h88q ?h98q ?_; (case F08q => k_asm); (case h18q => rfl); (case h28q => with_unfolding_all rfl); (case h38q => with_unfolding_all rfl); (case h48q => decide); (case h58q => rfl); (case h68q => decide); (case h78q => rfl); (case h88q => rfl); (case h98q => rfl); k_whole)))
  walk_at "gl"
  have hun := hP.unl
  (rename Fr _ _ _ _ => F5); (rename News _ _ _ _ => N5)
  refine LCg.CompSrc.ledger rfl F5 N5 (sub6 _ (sub1 _ hmr8)) (by rw [sizeLine_eq]; have := hir8.length; simp; omega) ?_
  intro g5
  refine compRest_inv (fun i ys nx => nx = _ ∧ StrsAre ys ((row.take i).map fun x => mkS [97 + (blF un2 x).toNat])) ?_ ?_ _ 0 [] _ (Nat.zero_add _) ⟨rfl, .nil⟩
  · intro i ys nx v I oI C oC D m₂ h tk E' hi hJ hv hC hx F N off ne
    obtain ⟨hJ1, hJ2⟩ := hJ
    subst hJ1
    have hi5 : i < row.length := by have := hir8.length; simp at hi; omega
    obtain ⟨tv, rfl⟩ := IntsAre.int_at hir8 i v (by simpa using hv)
    walk_at "gl"
    refine' bl_call ?k1 ?k2 ?k3 ?k4 ?k5 ?kA ?kF ?kK ?kH ?k8 ?k9 (sub3 _ (sub6 _ (.head _))) hi2 (Nat.lt_of_le_of_lt hun.2 (by decide)) ?_
    ((walk_at "kAH"; walk_at "k15"; (case k8 => exact Nat.le_of_ble_eq_true rfl); (case k9 => exact Nat.le_of_ble_eq_true rfl)))
    intro t7 h7 tk7 F7 N7
    have hx5 : blI un2 (row.getD i 0) un2.length 0 un2.length < 5 := hP.sg5 _ (by rw [List.getD_eq_getElem?_getD, List.getElem?_eq_getElem hi5]; exact List.getElem_mem hi5)
    have hx0 : 0 ≤ blI un2 (row.getD i 0) un2.length 0 un2.length := (blI_bound un2 _ un2.length 0 un2.length (Int.le_refl _) (by omega)).1
    walk_at "gl"
    walk_at "gl"
    have ei : Txt.item (Str.ofString "abcde") (blI un2 (row.getD i 0) un2.length 0 un2.length) = mkS [97 + (blF un2 (row.getD i 0)).toNat] := by
      show Txt.item (Str.ofString "abcde") (blF un2 (row.getD i 0)) = _
      change 0 ≤ blF un2 (row.getD i 0) at hx0
      change blF un2 (row.getD i 0) < 5 at hx5
      generalize blF un2 (row.getD i 0) = z at hx0 hx5
      obtain ⟨k, rfl⟩ := Int.eq_ofNat_of_zero_le hx0
      have : k < 5 := by omega
      have q : ∀ k : Fin 5, Txt.item (Str.ofString "abcde") ((k.val : Nat) : Int) = mkS [97 + k.val] := by decide +kernel
      exact q ⟨k, this⟩
    rw [ei]
    refine compEnd_same F7 N7 off (.inr ⟨_, sub6 _ (sub1 _ hmr8), rfl, _, rfl⟩) ⟨rfl, ?_⟩
    rw [List.take_add_one, List.getElem?_eq_getElem hi5, List.map_append]
    have e9 : row.getD i 0 = row[i] := by rw [List.getD_eq_getElem?_getD, List.getElem?_eq_getElem hi5]; rfl
    rw [e9]
    exact strs_snoc hJ2 _ _
  · intro ys nx hJ
    walk_at "FinA"
    rename_i D8 h8 tk8 F8 N8 o8
    obtain ⟨hJ1, hJ2⟩ := hJ
    subst hJ1
    rw [show row.take vr8.toArray.size = row from List.take_of_length_le (by have := hir8.length; simp; omega)] at hJ2
    walk_at "gl"
    refine forAtT F8 ?_ (fun _ => rfl)
    walk_at "gl"
    have hyl : ys.length = 5 := by rw [PyProof.Rows.StrsAre.len_eq hJ2, List.length_map, hr5]
    refine sorted_N_str F8 N8 (News.isList N8 (.head _)) hJ2 (by omega) ?_
    intro h9 vs9 ss9 e9 F9 N9 hs9 hp9 hq9
    try dsimp only at N9 ⊢
    have l9 : ∀ q ∈ (D8, LCg.lst ys) :: C6 L o6' o5 o4 o3 o2 o1 ((D2, listOf vs2.toArray e2') :: R), q.1 < h8.objs.size + 1 := fun q hq => Nat.lt_succ_of_lt (Heap.lt_size (N8 q hq).1)
    generalize h8.objs.size + 1 = D9 at N9 l9 ⊢
    have esg : row.map (fun x => mkS [97 + (blF un2 x).toNat]) = signs.map fun c => mkS [c] := by
      rw [hP.sg, List.map_map]
      rfl
    rw [esg] at hp9 hJ2
    have e9 : ss9 = text.map fun c => mkS [c] := text_of hp9 hq9 hP.tx.1 hP.tx.2
    subst e9
    have hsC : ∀ x ∈ signs, x ∈ signCs := fun x hx => by
      rw [hP.sg] at hx
      obtain ⟨z, hz, rfl⟩ := List.mem_map.mp hx
      have h5 := hP.sg5 z hz
      have q : ∀ k : Fin 5, 97 + k.val ∈ signCs := by decide
      exact q ⟨(blF un2 z).toNat, by omega⟩
    have hsl5 : signs.length = 5 := by rw [hP.sg, List.length_map, hr5]
    have htl : text.length = 5 := by rw [hP.tx.1.length_eq, hP.sg, List.length_map, hr5]
    walk_at "gl"
    refine join_list (News.isList (by assumption) (.head _)) hs9 ?_ ?_
    · rw [show Str.ofString "" = mkS [] from rfl, mkS_length, ones_sum, List.length_map, htl]
      decide
    intro t10 tk10
    have e10 : Txt.join (Str.ofString "") (text.map fun c => mkS [c]) = mkS text := by
      rw [show Str.ofString "" = mkS [] from rfl, join_mk, joinN_nil]
    rw [e10]
    walk_at "gl"
    obtain ⟨et, htm⟩ := hTab.1
    have htl5 : as.length = tab.length := hTab.2.len
    have ht5 := hP.t5
    obtain ⟨t0, ht0⟩ : ∃ a, as[0]? = some a := ⟨as[0]'(by omega), by simp⟩
    obtain ⟨vt0, et0, hvt0, hit0⟩ := hTab.2.at' 0 t0 ht0
    have htl0 := hP.tl _ (getD_memL (i := 0) ht5.1)
    have inR : ∀ q ∈ R, q ∈ (D9, seqObj "list" vs9.toArray e9) :: (D8, LCg.lst ys) :: C6 L o6' o5 o4 o3 o2 o1 ((D2, listOf vs2.toArray e2') :: R) := fun q hq => sub1 _ (sub1 _ (sub6 _ (sub1 _ hq)))
    refine item_L (by k_asm) (inR _ htm) (by decide) (by decide) (show (as.map Value.ref)[(0 : Int).toNat]? = some (.ref t0) by simp [ht0]) ?_
    walk_at "gl"
    refine len_L (by k_asm) (inR _ hvt0) (by rw [hit0.length]; omega) ?_
    rw [hit0.length]
    walk_at "gl"
    (rename Fr _ _ _ _ => F11); (rename News _ _ _ _ => N11)
    refine len_L N11 (sub1 _ (sub1 _ (sub1 _ (sub6 _ (.head _))))) (by rw [hi2.length]; omega) ?_
    rw [hi2.length]
    walk_at "gl"
    (rename Fr _ _ _ _ => F12); (rename News _ _ _ _ => N12)
    refine len_L N12 (sub1 _ (inR _ htm)) (by simp; omega) ?_
    rw [List.length_map, htl5]
    walk_at "gl"
    rename_i la _ l1 _ _ _ _ _ _ _ _ _ _ _ _ _ _ _ _ _ tb kb _ _ _ _ _ _ _ lb _ l2 _ lo _ F13 N13 l3
    have esl : Txt.slice (Str.ofString "edcba") (some (5 - (un2.length : Int))) none = mkS (([101, 100, 99, 98, 97] : List Nat).drop (5 - un2.length)) := by
      rw [show (5 - (un2.length : Int)) = ((5 - un2.length : Nat) : Int) by omega]
      exact slice_from_mk (l := [101, 100, 99, 98, 97]) (by simp)
    rw [esl] at N13
    have inR2 : ∀ q ∈ R, q ∈ (lo, listOf #[Value.ref la, .ref lb] 0) :: (lb, listOf #[Value.str (mkS (([101, 100, 99, 98, 97] : List Nat).drop (5 - un2.length))) tb, .int (tab.length : Nat) (kb + 1)] 0) :: (la, listOf #[Value.str (mkS text) t10, .int ((tab.getD 0 []).length : Nat) (tk10 + 1 + 1)] 0) :: (D8, LCg.lst ys) :: R := fun q hq => sub1 _ (sub1 _ (sub1 _ (sub1 _ hq)))
    have N14 : News hb L _ ((lo, listOf #[Value.ref la, .ref lb] 0) :: (lb, listOf #[Value.str (mkS (([101, 100, 99, 98, 97] : List Nat).drop (5 - un2.length))) tb, .int (tab.length : Nat) (kb + 1)] 0) :: (la, listOf #[Value.str (mkS text) t10, .int ((tab.getD 0 []).length : Nat) (tk10 + 1 + 1)] 0) :: (D8, LCg.lst ys) :: R) := kst_newsOf N13 (by walk_at "inc")
    clear N13 l1 l2 l3
    refine forLT (vs := [.ref la, .ref lb]) (e := 0) (fun i m nx => (∀ q ∈ (lo, listOf #[Value.ref la, .ref lb] 0) :: (lb, listOf #[Value.str (mkS (([101, 100, 99, 98, 97] : List Nat).drop (5 - un2.length))) tb, .int (tab.length : Nat) (kb + 1)] 0) :: (la, listOf #[Value.str (mkS text) t10, .int ((tab.getD 0 []).length : Nat) (tk10 + 1 + 1)] 0) :: (D8, LCg.lst ys) :: R, q ∈ nx) ∧ Told' [(Str.ofString "signs", .ref D8), (Str.ofString "width", .int W tw)] [Str.ofString "text", Str.ofString "length", Str.ofString "ends", Str.ofString "spread", Str.ofString "due", Str.ofString "row"] m0 m) rfl F13 N14 (.head _) ⟨fun q hq => hq, by kst_all, by ksw_same⟩ (fun i m nx h => h.1 _ (.head _)) (fun i s' I v Q' hit hq => go_tuple i s' I v Q' hit hq) ?_ ?_
    · intro I i v m₁ nx s₁ oI hv hJ hoff F N
      obtain ⟨hK, hT⟩ := hJ
      obtain ⟨h15, g15, d15, tk15, os15⟩ := s₁
      try dsimp only at F N
      replace F : Fr hb L h15 _ := hT.fr F
      dsimp only [kstB] at F
      obtain ⟨a, T, ln, tT, tl, rfl, hmem, hTl, hTc, hlev⟩ : ∃ (a : Addr) (T : List Nat) (ln : Nat) (tT tl : Tok), v = .ref a ∧ (a, listOf [Value.str (mkS T) tT, .int (ln : Nat) tl].toArray 0) ∈ nx ∧ (0 < T.length ∧ T.length ≤ 5) ∧ (∀ x ∈ T, x ∈ signCs) ∧
          levF T (spreadN T.length signs) (dueI T signs ln - Int.fmod (wd : Int) 2) = dueI T signs ln := by
        match i, hv with
        | 0, hv =>
          cases hv
          refine ⟨la, text, _, _, _, rfl, hK _ (.tail _ (.tail _ (.head _))), ⟨by omega, by omega⟩, fun x hx => hsC x (hP.tx.1.mem_iff.mp hx), ?_⟩
          rw [htl]
          exact hP.lev1
        | 1, hv =>
          cases hv
          have hl : (([101, 100, 99, 98, 97] : List Nat).drop (5 - un2.length)).length = un2.length := by rw [List.length_drop]; simp; omega
          refine ⟨lb, _, _, _, _, rfl, hK _ (.tail _ (.head _)), ⟨by omega, by omega⟩, fun x hx => ?_, ?_⟩
          · exact (by decide : ∀ x ∈ ([101, 100, 99, 98, 97] : List Nat), x ∈ signCs) x (List.mem_of_mem_drop hx)
          · rw [hl]
            exact hP.lev2
      refine unpackL F N (.tail _ hmem) rfl rfl rfl ?_
      intro h16 F16 N16
      walk_at "gl"
      refine lenS (by omega) ?_
      walk_at "gl"
      (rename Fr _ _ _ _ => F17); (rename News _ _ _ _ => N17)
      refine lenS (by omega) ?_
      change Fr _ _ _ (fun y => if y = _ then some _ else _) at F17
      rw [mul_dot (by omega)] at F17
      walk_at "gl"
      rw [mul_dot (by omega)]
      refine join_list (News.isList (by assumption) (.tail _ (hK _ (.tail _ (.tail _ (.tail _ (.head _))))))) hJ2 ?_ ?_
      · rw [mkS_length, List.length_replicate, ones_sum, List.length_map, hsl5]
        omega
      intro t18 tk18
      rw [join_mk]
      walk_at "gl"
      have hjl := joinN_len (List.replicate ((T.length : Int) - 2).toNat 46) signs
      rw [List.length_replicate, hsl5] at hjl
      rw [mul_dot (by omega)]
      refine PyProof.Rows.add_str ?_ (by rw [mkS_length, mkS_length, List.length_replicate, sizeLine_eq]; omega)
      intro t19 tk19
      walk_at "gl"
      try rw [mul_dot (by omega)]
      refine PyProof.Rows.add_str ?_ (by rw [app_mk, mkS_length, mkS_length, List.length_append, List.length_replicate, sizeLine_eq]; omega)
      intro t20 tk20
      rw [spread_eq _ _ hTl.2]
      walk_at "gl"
      have hspl := spread_len (n := T.length) hTl.2 hsl5
      refine lenS (by omega) ?_
      walk_at "gl"
      (rename Fr _ _ _ _ => F20)
      try dsimp only at F20
      refine' lev_call (a := T) (b := spreadN T.length signs) ?k1 ?k2 ?k3 ?k4 ?k5 ?kA ?kF ?kK ?kH ?k8 ?k9 (by omega) hspl hTc (spread_signs hsC) ?_
      ((walk_at "kAH"; walk_at "k15"; (case k8 => exact Nat.le_of_ble_eq_true rfl); (case k9 => exact Nat.le_of_ble_eq_true rfl)))
      intro v21 t21 nx21 h21 tk21 hv21 F21 N21 hK21
      rw [hW] at hv21
      have hv22 : v21 = 2 * (((spreadN T.length signs).length : Int) - (ln : Int)) := hv21.trans hlev
      subst hv22
      clear hv21
      walk_at "gl"
      · exact absurd rfl (by assumption)
      have hIn := hK21 _ (.head _)
      refine ⟨rfl, h21, _, _, _, rfl, F21, ?nw, fun q hq => hoff q (hK q hq), fun q hq => ?mu, fun q hq => hq, ?told, ?same⟩
      case nw =>
        refine kst_newsOf N21 fun q hq => ?_
        rcases List.mem_cons.mp hq with h | h
        · exact h ▸ hIn
        · exact hK21 _ (.tail _ (hK q h))
      case mu => exact (List.mem_singleton.mp hq) ▸ .head _
      case told => kst_all
      case same => walk_at "same"
    · intro m₁ nx h tk hJ F N
      obtain ⟨hK, hT⟩ := hJ
      walk_at "gl"
      exact hQ _ _ _ _ F (GrownAt.of N (hK _ (inR2 _ h55))) (GrownAt.of N (hK _ (inR2 _ h48)))
end
end

section
set_option maxRecDepth 100000
set_option maxHeartbeats 0
local macro_rules | `(tactic| k_lt $_h:ident) => `(tactic| skip)

theorem law_post (a b : List WData) : PySem.Challenge.rw_pu0050_01.row.claim.post a (.bool true) b = true := by
  with_unfolding_all rfl
theorem law_run {w : World} {p : Program} {loose : List Str} {mean : ExcName → Option Value} {mg mb : Str → Option Value} {fa : Addr} {cd : Value} {hb : Heap} {L l : Addr} {s : Shared} {Q : Flow → Shared → Prop} {E : Value → Shared → Prop}
    {m : Str → Option Value} {o1 o2 o3 o4 o5 o6 : Obj} {ns : List Int} {vs : List Value}
    (KX : (Mine.hd.heap_39 w.params).In hb) (KT : Top p loose mean mg mb hb) (KB : Below callerA hb [] hb) (C52 : CodeHd hb 52 48) (C59 : CodeHd hb 59 55)
    (hSl : hb.IsList l vs.toArray) (hI : IntsAre vs ns) (hcond : ns.length ≤ 63) (kl0 : ∀ p ∈ [((55 : Addr), tabObj #[]), (48, tabObj #[])], p.1 < L)
    (hscr : m (Str.ofString "script") = some (.ref l)) (F : Fr hb L s.heap m)
    (N : News hb L s.heap (C6 L o6 o5 o4 o3 o2 o1 ([(55, tabObj #[]), (48, tabObj #[])])))
    (e6 : o6.data = .cell none) (e5 : o5.data = .cell none) (e4 : o4.data = .cell none) (e3 : o3.data = .cell none) (e2 : o2.data = .cell none) (e1 : o1.data = .cell none)
    (hE : PassesOwn (model PySem.Challenge.rw_pu0050_01.row.prog w) (callerA.deeper (envOfC (Str.ofString "law") (scopeAt w.params 107) L fa cd)) (envOfC (Str.ofString "law") (scopeAt w.params 107) L fa cd) E)
    (hQ : ∀ h tk d m', Fr hb L h m' → GrownAt 55 h → GrownAt 48 h → Q (.ret (.bool true)) { s with heap := h, toks := tk, drawn := d }) :
    wpAny (model PySem.Challenge.rw_pu0050_01.row.prog w) (callerA.deeper (envOfC (Str.ofString "law") (scopeAt w.params 107) L fa cd)) (execs (bodyAt w.params 107) (envOfC (Str.ofString "law") (scopeAt w.params 107) L fa cd)) Q E s := by
  obtain ⟨m0, rfl⟩ : ∃ m0 : Str → Option Value, m = fun y => if y = Str.ofString "script" then some (.ref l) else m0 y := by
    refine ⟨m, ?_⟩
    funext y
    by_cases h1 : y = Str.ofString "script"
    · rw [if_pos h1, h1, hscr]
    · rw [if_neg h1]
  clear hscr
  show wpAny _ (callerA.deeper (envOfC _ ⟨_, _, _, _, _⟩ _ _ _)) (execs [_, _, _, _, _, _, _, _, _, _, _, _, _, _, _, _, _, _, _, _, _] (envOfC _ ⟨_, _, _, _, _⟩ _ _ _)) _ _ _
  refine (?_ : let env1 : Env := _; let A1 : Around := Around.deeper _ env1; wpAny _ A1 (execs _ env1) _ _ _)
  intro env1 A1
  walk_at "gof"
  ((k_dflt (refine' slice_upto_I ?F8q ?N8q ?l8q ?p8q ?z8q ?_ ?s8q ?t8q; (case F8q => k_asm); (case N8q => k_asm); (case l8q => assumption); (case p8q => first | assumption | decide); (case z8q => (rw [IntsAre.length (by assumption), sizeLine_eq]; omega)); (case s8q => with_unfolding_all rfl); (case t8q => (intro _; with_unfolding_all rfl)); k_whole)))
  intro D2 h2 F2 N2 l2
  walk_at "gof"
  ((k_dflt (refine' slice_upto_I ?F9q ?N9q ?l9q ?p9q ?z9q ?_ ?s9q ?t9q; (case F9q => k_asm); (case N9q => k_asm); (case l9q => assumption); (case p9q => first | assumption | decide); (case z9q => (rw [IntsAre.length (by assumption), sizeLine_eq]; omega)); (case s9q => with_unfolding_all rfl); (case t9q => (intro _; with_unfolding_all rfl)); k_whole)))
  intro D3 h3 F3 N3 l3
  walk_at "gof"
  refine len_L N3 (.head _) (by rw [List.length_take]; omega) ?_
  walk_at "gof"
  ((refine kba_turn (value' := PySem.Expr.Name (PySem.Str.ofString "x") ⟨0, 0, 0, 0⟩) (fun _ => rfl) ?_))
  have hdisp := N3 _ (.tail _ (.head _))
  (refine' slice_from_L (vs := [Value.int 3 _, .int 1 _, .int 2 _, .int 1 _, .int 2 _]) F3 N3 (.tail _ (.head _)) ?hpp ?hzz ?_ ?hss ?htt; (case hpp => omega); (case hzz => (rw [sizeLine_eq]; simp)); (case hss => with_unfolding_all rfl); (case htt => (intro _; rfl)))
  intro D4 h4 F4 N4 l4
  walk_at "gl"
  refine cat_L F4 N4 (.tail _ (.tail _ (.tail _ (.head _)))) (.head _) (by rw [sizeLine_eq]; simp only [List.length_take, List.length_drop, List.length_cons, List.length_nil]; omega) ?_
  intro D5 h5 F5 N5 l5
  have hrow5 := IntsAt.head N5 (row_ints hI)
  obtain ⟨R1, N6, hR1, hk1, hi1⟩ := packC (L := L) (o1 := o1) (o2 := o2) (o3 := o3) (o4 := o4) (o5 := o5) (o6 := o6) N5 (by walk_at "ms") e1 (by walk_at "ms") e2 (by walk_at "ms") e3 (by walk_at "ms") e4 (by walk_at "ms") e5 (by walk_at "ms") e6
  have hrow := hrow5.off hk1
  have hT48 : TabOk 48 73 4 "_int2digits.<locals>.inner" R1 := .inl (hk1 _ (by walk_at "ms") fun v e => by cases e)
  have hT55 : TabOk 55 88 4 "_digits2int.<locals>.inner" R1 := .inl (hk1 _ (by walk_at "ms") fun v e => by cases e)
  clear hrow5 hk1 hi1 N5 l5 N4 F4 l4 N3 F3 l3 l2 kl0 hdisp
  walk_at "gl"
  (rename Fr _ _ _ _ => F7)
  refine len_I F7 hSl (by rw [hI.length]; omega) ?_
  rw [hI.length]
  walk_at "gl"
  have eb : (2 : Int) ^ (2 + (ns.length : Int)).toNat = ((2 ^ (2 + ns.length) : Nat) : Int) := by
    rw [show (2 + (ns.length : Int)).toNat = 2 + ns.length by omega]
    norm_cast
  (rename Fr _ _ _ _ => F8); (rename News _ _ _ _ => N8)
  change Fr _ _ _ (fun y => if y = _ then some _ else _) at F8
  rw [eb] at F8
  obtain ⟨kin, tab, un, signs, text, hP⟩ : ∃ kin tab un signs text, LawOk (rowF ns) (2 + ns.length) ns.length kin tab un signs text := plain ns (by omega)
  refine' kin_call' (fuel := 100) (res := kin) ?k1 ?k2 ?k3 ?k4 ?k5 ?kA ?kF ?kK ?kH ?k8 ?k9 (hrow.sub sub6) (rowF_length ns) hP.hkin (by decide) ?_
  ((walk_at "kAH"; walk_at "k15"; (case k8 => exact Nat.le_of_ble_eq_true rfl); (case k9 => exact Nat.le_of_ble_eq_true rfl)))
  intro kn ka nx9 h9 tk9 F9 N9 hK9
  have ho9 := hK9.old
  obtain ⟨R2, N10, hR2, hk2, hi2⟩ := packC (L := L) (o1 := o1) (o2 := o2) (o3 := o3) (o4 := o4) (o5 := o5) (o6 := o6) N9 (ho9 _ (by walk_at "ms")) e1 (ho9 _ (by walk_at "ms")) e2 (ho9 _ (by walk_at "ms")) e3 (ho9 _ (by walk_at "ms")) e4 (ho9 _ (by walk_at "ms")) e5 (ho9 _ (by walk_at "ms")) e6
  have hrow2 := ((hrow.sub sub6).sub ho9).off hk2
  have hT48b := ((hT48.mono sub6).mono ho9).off hk2
  have hT55b := ((hT55.mono sub6).mono ho9).off hk2
  have hkin := hK9.grid.off hk2
  clear hrow hT48 hT55 N9 hK9 ho9 hk2 hi2 hR1 N8 F8
  walk_at "gl"
  ((k_dflt (refine' LCg.Assign_ListComp_U (F₀ := ?F014q) ?h114q ?h214q ?h314q ?h414q ?h514q ?h614q ?h714q ?h814q ?h914q ?_; (case F014q => k_asm); (case h114q => rfl); (case h214q => with_unfolding_all rfl); (case h314q => with_unfolding_all rfl); (case h414q => decide); (case h514q => rfl); (case h614q => decide); (case h714q => rfl); (case h814q => rfl); (case h914q => rfl); k_whole)))
  walk1
  obtain ⟨ek, hkm⟩ := hkin.1
  have hkl : ka.length = kin.length := hkin.2.len
  have hk100 := hP.klen
  (rename Fr _ _ _ _ => F11); (rename News _ _ _ _ => N11)
  refine LCg.CompSrc.ledger rfl F11 N11 (sub6 _ hkm) (by rw [sizeLine_eq]; simp; omega) ?_
  intro g1
  refine compRest_inv (TabsTo _ kin) ?_ ?_ _ 0 [] _ (Nat.zero_add _) (TabsTo.start _ kin)
  · intro i ys nx v I oI C oC D m₂ h tk E' hi hJ hv hC hx F N off ne
    obtain ⟨a, ha, rfl⟩ := ref_at hv
    obtain ⟨va, ea, hva, hia⟩ := hkin.2.at' i a ha
    have hone5 : (kin.getD i []).length = 5 := hP.k5 _ (getD_memL (by simp at hi; omega))
    have hvn : (a, listOf va.toArray ea) ∈ nx := hJ.choose_spec.2.2.1 _ (sub6 _ hva)
    walk_at "gl"
    refine' table_call (b := false) ?k1 ?k2 ?k3 ?k4 ?k5 ?kA ?kF ?kK ?kH ?k8 ?k9 (List.mem_cons_of_mem _ (List.mem_cons_of_mem _ (List.mem_cons_of_mem _ hvn))) hia (by omega) ?_
    ((walk_at "kAH"; walk_at "k15"; (case k8 => exact Nat.le_of_ble_eq_true rfl); (case k9 => exact Nat.le_of_ble_eq_true rfl)))
    intro r ln rs as nz h12 tk12 F12 N12 hr12 hT12 hlt12
    walk_at "gl"
    have ho12 := hT12.old
    have hn12 := ledger_off3 (fun p hp => ho12 _ (sub3 p hp)) off
    exact compEnd_more F12 N12 (ho12 _ (.head _)) (ho12 _ (.tail _ (.head _))) (ho12 _ (.tail _ (.tail _ (.head _)))) (.inr ⟨_, hn12 _ (hJ.keep _ (sub6 _ hkm)), rfl, _, rfl⟩) (hJ.step hn12 (hT12.off3 hr12 hlt12 (.head _) (.tail _ (.head _)) (.tail _ (.tail _ (.head _)))))
  · intro ys nx hJ
    walk_at "FinA"
    rename_i D13 h13 tk13 F13 N13 o13
    have hk13 := hJ.keep
    obtain ⟨rs, hT13⟩ := hJ.all (D := D13) (by simp; omega)
    obtain ⟨R3, N14, hR3, hk3, hi3⟩ := packC (L := L) (o1 := o1) (o2 := o2) (o3 := o3) (o4 := o4) (o5 := o5) (o6 := o6) N13 (sub1 _ (hk13 _ (by walk_at "ms"))) e1 (sub1 _ (hk13 _ (by walk_at "ms"))) e2 (sub1 _ (hk13 _ (by walk_at "ms"))) e3 (sub1 _ (hk13 _ (by walk_at "ms"))) e4 (sub1 _ (hk13 _ (by walk_at "ms"))) e5 (sub1 _ (hk13 _ (by walk_at "ms"))) e6
    have hrow3 := (((hrow2.sub sub6).sub hk13).sub sub1).off hk3
    have hT48c := (((hT48b.mono sub6).mono hk13).mono sub1).off hk3
    have hT55c := (((hT55b.mono sub6).mono hk13).mono sub1).off hk3
    have hkin3 := (((hkin.sub sub6).sub hk13).sub sub1).off hk3
    have hTs3 := hT13.off hk3
    clear hrow2 hT48b hT55b hkin hT13 N13 hk3 hi3 hR2 o13 hJ hk13 F11 N11 hkm
    walk_at "gl"
    have hrl : rs.length = kin.length := hTs3.2.1
    obtain ⟨r0, hr0⟩ : ∃ r, rs[0]? = some r := ⟨rs[0]'(by omega), by walk_at "ms"⟩
    obtain ⟨et, hTm⟩ := hTs3.1
    refine item_L (by k_asm) (sub6 _ hTm) (by decide) (by decide) (show (rs.map Value.ref)[(0 : Int).toNat]? = some (.ref r0) by simp [hr0]) ?_
    obtain ⟨ln0, rs0, as0, hr0m, hTab, hRs0⟩ := hTs3.2.2 0 r0 hr0
    have hone0 : (tabF false (kin.getD 0 [])).1 = tab := (hP.ktab _ (getD_memL (by omega))).1
    rw [hone0] at hTab
    walk_at "gl"
    refine pair_fst (by k_asm) (sub6 _ hr0m) ?_ rfl
    walk_at "gl"
    (rename Fr _ _ _ _ => F15); (rename News _ _ _ _ => N15)
    refine store_c2 F15 N15 hR3 e2 rfl rfl rfl ?_
    intro h16 o2' F16 N16 e2'
    clear F15 N15 e2
    walk_at "gl"
    (rename News _ _ _ _ => N17); (rename Fr _ _ _ _ => F17)
    (rename (∀ (p : Addr × Obj), p ∈ _ → p.1 < _) => l17)
    rename_i D17 h17 _
    have hD17 : D17 < L ∨ @LT.lt Nat _ (L + 6) D17 := gt6 (l17 _ C6.a6)
    have hR17 := hR_cons (o := listOf #[] 0) hR3 hD17
    have hsD17 : ∀ p ∈ R3, p.1 ≠ D17 := fun p hp => Nat.ne_of_lt (l17 p (sub6 p hp))
    have N18 : News hb L h17 (C6 L o6 o5 o4 o3 o2' o1 ((D17, listOf #[] 0) :: R3)) := kst_newsOf N17 (by walk_at "inc")
    refine store_c3 F17 N18 hR17 e3 rfl rfl rfl ?_
    intro h19 o3' F19 N19 e3'
    clear F17 N17 N18 l17 e3
    walk_at "gl"
    (rename Fr _ _ _ _ => F20)
    refine forAt F20 rfl rfl ?_
    walk_at "gl"
    obtain ⟨ek3, hkm3⟩ := hkin3.1
    refine len_L (by k_asm) (sub6 _ (sub1 _ hkm3)) (by simp; omega) ?_
    walk_at "gl"
    (rename Fr _ _ _ _ => F21); (rename News _ _ _ _ => N21); (rename IsRange _ _ _ _ _ _ _ _ => hrg)
    rw [List.length_map, hkl] at hrg
    refine forR (n := kin.length) (LoopJ L D17 kin ((L + 1 + 1 + 1 + 1 + 1 + 1, o6) :: (L + 1 + 1 + 1 + 1 + 1, o5) :: (L + 1 + 1 + 1, o3') :: (L + 1 + 1, o2') :: R3) _) rfl hrg (small_one (by omega) (by omega) (by omega) (by omega)) rangeSize_one F21 N21
      ⟨o1, none, o4, none, [], 0, by walk_at "ms", e1, by walk_at "ms", e4, by walk_at "ms", .nil, by walk_at "inc", fun _ _ _ _ => rfl⟩ ?_ ?_
    · intro I i t m₁ nx h tk own hi hJ hI hIo hown F22 N22
      obtain ⟨p1, v1, p4, v4, sv, es, hm1, hd1, hm4, hd4, hmS, hiS, hK, hm⟩ := hJ
      obtain ⟨oI, hIo⟩ := hIo
      replace F22 : Fr hb L h _ := kst_fr (ps := []) (fun _ h => nomatch h) hm F22
      simp only [Int.zero_add] at F22
      dsimp only [kstB] at F22
      have hown2 := own_is N22 hown hIo
      have hIout : I < L ∨ @LT.lt Nat _ (L + 6) I := out6 (N22 _ (List.mem_append_left _ hIo)).2.1 (fun e => hI _ hm1 e.symm) (fun e => hI _ (hK _ (by walk_at "ms")) (show ((L + 1 + 1, o2') : Addr × Obj).1 = I from e.symm)) (fun e => hI _ (hK _ (by walk_at "ms")) (show ((L + 1 + 1 + 1, o3') : Addr × Obj).1 = I from e.symm)) (fun e => hI _ hm4 e.symm) (fun e => hI _ (hK _ (by walk_at "ms")) (show ((L + 1 + 1 + 1 + 1 + 1, o5) : Addr × Obj).1 = I from e.symm)) (fun e => hI _ (hK _ (by walk_at "ms")) (show ((L + 1 + 1 + 1 + 1 + 1 + 1, o6) : Addr × Obj).1 = I from e.symm))
      have N23 : News hb L h (C6 L o6 o5 p4 o3' o2' p1 ((I, oI) :: (D17, listOf sv.toArray es) :: R3)) := kst_newsOf N22 (C6.all (List.mem_append_right _ (hK _ (by walk_at "ms"))) (List.mem_append_right _ (hK _ (by walk_at "ms"))) (List.mem_append_right _ (hm4)) (List.mem_append_right _ (hK _ (by walk_at "ms"))) (List.mem_append_right _ (hK _ (by walk_at "ms"))) (List.mem_append_right _ (hm1)) (List.forall_mem_cons.mpr ⟨List.mem_append_left _ (hIo), List.forall_mem_cons.mpr ⟨List.mem_append_right _ (hmS), fun p hp => List.mem_append_right _ (hK p (by walk_at "tl"))⟩⟩))
      have hR23 := hR_cons (o := oI) (hR_cons (o := listOf sv.toArray es) hR3 hD17) hIout
      have hsIR3 : ∀ p ∈ R3, p.1 ≠ I := fun p hp => hI p (hK p (by walk_at "tl"))
      have hID17 : D17 ≠ I := hI _ hmS
      walk_at "gl"
      obtain ⟨a, ha⟩ : ∃ a, ka[i]? = some a := ⟨ka[i]'(by omega), by walk_at "ms"⟩
      have hsub8 : ∀ p ∈ R3, p ∈ C6 L o6 o5 p4 o3' o2' p1 ((I, oI) :: (D17, listOf sv.toArray es) :: R3) := fun p hp => sub6 _ (sub1 _ (sub1 _ hp))
      refine item_L N23 (hsub8 _ hkm3) (by omega) (by omega) (show (ka.map Value.ref)[((i : Nat) : Int).toNat]? = some (.ref a) by simp [ha]) ?_
      have hone := hkin3.2.at' i a ha
      have hone5 : (kin.getD i []).length = 5 := hP.k5 _ (getD_memL hi)
      have htabi := hP.ktab _ (getD_memL hi)
      obtain ⟨ri, hri⟩ : ∃ r, rs[i]? = some r := ⟨rs[i]'(by omega), by walk_at "ms"⟩
      obtain ⟨lni, rsi, asi, hrim, hTabi, hRsi⟩ := hTs3.2.2 i ri hri
      walk_at "gl"
      refine store_c1 F22 N23 hR23 hd1 rfl rfl rfl ?_
      intro h24 p1' F24 N24 hd1'
      clear N23 F22 hd1
      walk_at "gl"
      have hsub8 : ∀ p ∈ R3, p ∈ C6 L o6 o5 p4 o3' o2' p1' ((I, oI) :: (D17, listOf sv.toArray es) :: R3) := fun p hp => sub6 _ (sub1 _ (sub1 _ hp))
      refine item_L N24 (hsub8 _ hTm) (by omega) (by omega) (show (rs.map Value.ref)[((i : Nat) : Int).toNat]? = some (.ref ri) by simp [hri]) ?_
      walk_at "gl"
      (rename Fr _ _ _ _ => F25); (rename News _ _ _ _ => N25)
      refine store_c4 F25 N25 hR23 hd4 rfl rfl rfl ?_
      intro h26 p4' F26 N26 hd4'
      clear N25 F25 hd4
      walk_at "gl"
      ((k_dflt (refine' LCt.Assign_ListComp_T (F₀ := ?F015q) ?h115q ?h215q ?h315q ?h415q ?h515q ?h615q ?h715q ?h815q ?h915q ?_; (case F015q => k_asm); (case h115q => rfl); (case h215q => with_unfolding_all rfl); (case h315q => with_unfolding_all rfl); (case h415q => decide); (case h515q => rfl); (case h615q => decide); (case h715q => rfl); (case h815q => rfl); (case h915q => rfl); k_whole)))
      walk_at "gl"
      (rename Fr _ _ _ _ => F27); (rename News _ _ _ _ => N27); (rename IsRange _ _ _ _ _ _ _ _ => hrg27)
      have hsub8 : ∀ p ∈ R3, p ∈ C6 L o6 o5 p4' o3' o2' p1' ((I, oI) :: (D17, listOf sv.toArray es) :: R3) := fun p hp => sub6 _ (sub1 _ (sub1 _ hp))
      obtain ⟨va, ea, hva, hia⟩ := hone
      refine LCt.CompSrcT.range (n := 4) rfl F27 N27 hrg27 (by decide) (by decide) (by decide) ?_
      intro g27
      refine compRestT_inv (PickJ _ (fallAt (kin.getD i []))) ?_ ?_ _ 0 [] _ (Nat.zero_add _) (PickJ.start _ _)
      · intro k ys nx v I2 oI2 C oC D m₂ h tk E' hk hJ hv hC hx F N off ne
        obtain ⟨tv, rfl⟩ := hv
        have hJ1 := hJ.1
        subst hJ1
        walk_at "gl"
        obtain ⟨t1, x1⟩ := ints_at hia (k := 1 + (k : Int) - 1) (j := k) (by omega) (by omega)
        obtain ⟨t2, x2⟩ := ints_at hia (k := 1 + (k : Int)) (j := k + 1) (by omega) (by omega)
        refine item_L N (sub3 _ (hsub8 _ hva)) (by omega) (by omega) x1 ?_
        walk_at "gl"
        refine item_L (by k_asm) (sub3 _ (hsub8 _ hva)) (by omega) (by omega) x2 ?_
        walk_at "gl"
        · (rename _ < List.getD _ _ _ => hq)
          (rename Fr _ _ _ _ => F28); (rename News _ _ _ _ => N28)
          exact compEnd_same F28 N28 off trivial (hJ.put (decide_eq_true hq))
        · (rename ¬ (_ < List.getD _ _ _) => hq)
          (rename Fr _ _ _ _ => F28); (rename News _ _ _ _ => N28)
          exact compEnd_same F28 N28 off trivial (hJ.pass (decide_eq_false hq))
      · intro ys nx hJ
        walk_at "FinA"
        rename_i D29 h29 tk29 F29 N29 o29
        obtain ⟨hJ1, hJ2⟩ := hJ
        subst hJ1
        have hfal : IntsAt ((D29, LCg.lst ys) :: C6 L o6 o5 p4' o3' o2' p1' ((I, oI) :: (D17, listOf sv.toArray es) :: R3)) D29 (fallsI (kin.getD i [])) := ⟨ys, _, .head _, hJ2⟩
        walk_at "gl"
        refine ne_grid (by k_asm) (hTabi.sub fun p hp => sub1 _ (hsub8 p hp)) (hTab.sub fun p hp => sub1 _ (hsub8 p hp)) (Nat.le_of_ble_eq_true rfl) ?_
        rw [htabi.1, show (!decide (tab = tab)) = false by simp]
        walk_at "gl"
        have hsub9 : ∀ p ∈ R3, p ∈ (D29, LCg.lst ys) :: C6 L o6 o5 p4' o3' o2' p1' ((I, oI) :: (D17, listOf sv.toArray es) :: R3) := fun p hp => sub1 _ (hsub8 p hp)
        obtain ⟨vr, er, hvr, hir⟩ := hRsi
        have hr5 := htabi.2.1
        ((k_dflt (refine' LCt.ListComp_T (F₀ := ?F018q) ?h118q ?h218q ?h318q ?h418q ?h518q ?_; (case F018q => k_asm); (case h118q => with_unfolding_all rfl); (case h218q => decide); (case h318q => rfl); (case h418q => decide); (case h518q => rfl); k_whole)))
        walk_at "gl"
        (rename Fr _ _ _ _ => F31); (rename News _ _ _ _ => N31); (rename IsRange _ _ _ _ _ _ _ _ => hrg31)
        refine LCt.CompSrcT.range (n := 4) rfl F31 N31 hrg31 (by decide) (by decide) (by decide) ?_
        intro g31
        refine compRestT_inv (PickJ _ (riseAt (tabF false (kin.getD i [])).2)) ?_ ?_ _ 0 [] _ (Nat.zero_add _) (PickJ.start _ _)
        · intro k ys2 nx v I2 oI2 C oC D m₂ h tk E' hk hJ hv hC hx F N off ne
          obtain ⟨tv, rfl⟩ := hv
          have hJ1 := hJ.1
          subst hJ1
          walk_at "gl"
          obtain ⟨t1, x1⟩ := ints_at hir (k := 1 + (k : Int) - 1) (j := k) (by omega) (by omega)
          obtain ⟨t2, x2⟩ := ints_at hir (k := 1 + (k : Int)) (j := k + 1) (by omega) (by omega)
          refine item_L N (sub3 _ (hsub9 _ hvr)) (by omega) (by omega) x1 ?_
          walk_at "gl"
          refine item_L (by k_asm) (sub3 _ (hsub9 _ hvr)) (by omega) (by omega) x2 ?_
          walk_at "gl"
          · (rename _ < List.getD _ _ _ => hq)
            (rename Fr _ _ _ _ => F28); (rename News _ _ _ _ => N28)
            exact compEnd_same F28 N28 off trivial (hJ.put (decide_eq_true hq))
          · (rename ¬ (_ < List.getD _ _ _) => hq)
            (rename Fr _ _ _ _ => F28); (rename News _ _ _ _ => N28)
            exact compEnd_same F28 N28 off trivial (hJ.pass (decide_eq_false hq))
        · intro ys2 nx hJ
          walk_at "FinE"
          rename_i D32 h32 tk32 F32 N32 o32
          obtain ⟨hJ1, hJ3⟩ := hJ
          subst hJ1
          walk_at "gl"
          refine ne_ints (xs := risesI (tabF false (kin.getD i [])).2) N32 ⟨ys2, _, .head _, hJ3⟩ (hfal.sub sub1) (Nat.le_of_ble_eq_true rfl) ?_
          rw [htabi.2.2, show (!decide (fallsI (kin.getD i []) = fallsI (kin.getD i []))) = false by simp]
          walk_at "gl"
          have hmS32 : (D17, listOf sv.toArray es) ∈ (D32, LCg.lst ys2) :: (D29, LCg.lst ys) :: C6 L o6 o5 p4' o3' o2' p1' ((I, oI) :: (D17, listOf sv.toArray es) :: R3) := sub1 _ (sub1 _ (sub6 _ (sub1 _ (.head _))))
          refine getMethod_append_N (by k_asm) hmS32 ?_
          walk_at "gl"
          (rename Fr _ _ _ _ => F33); (rename News _ _ _ _ => N33)
          refine sum_L rfl F33 N33 (.tail _ (.head _)) hJ2 ?_
          intro h34 tk34 t34 F34 N34
          walk_at "gl"
          have hsvl : sv.length ≤ 200 := by rw [hiS.length, sumsF, List.length_map, List.length_take]; omega
          refine append_L (by k_asm) (by k_asm) hmS32 (by rw [sizeLine_eq]; omega) ?_
          intro h35 F35 N35
          walk_at "gl"
          have hc17 := fun k hk => Ne.symm (out_ne hD17 k hk)
          have hcI := fun k hk => Ne.symm (out_ne hIout k hk)
          refine' ⟨_, _, _, _, rfl, F35, N35, fun p hp => ?own, p1', _, p4', _, _, _, in_end (sub1 _ (sub1 _ (by walk_at "ms"))) (hc17 1 rfl) (hcI 1 rfl), hd1', in_end (sub1 _ (sub1 _ (by walk_at "ms"))) (hc17 4 rfl) (hcI 4 rfl), hd4', in_endD hmS32 hID17, ?isum, fun p hp => ?old, ?kb⟩
          case own =>
            rw [hown2 p hp]
            refine mem_upd_ne (o' := oI) ?_ (Ne.symm hID17)
            walk_at "ms"
          case isum =>
            rw [sumsF_succ hi]
            exact ints_snoc hiS
          case old =>
            simp only [List.mem_cons] at hp
            rcases hp with rfl | rfl | rfl | rfl | hp
            · exact in_end (sub1 _ (sub1 _ (by walk_at "ms"))) (hc17 6 rfl) (hcI 6 rfl)
            · exact in_end (sub1 _ (sub1 _ (by walk_at "ms"))) (hc17 5 rfl) (hcI 5 rfl)
            · exact in_end (sub1 _ (sub1 _ (by walk_at "ms"))) (hc17 3 rfl) (hcI 3 rfl)
            · exact in_end (sub1 _ (sub1 _ (by walk_at "ms"))) (hc17 2 rfl) (hcI 2 rfl)
            · obtain ⟨pa, po⟩ := p
              exact in_end (sub1 _ (hsub9 _ hp)) (hsD17 _ hp) (hsIR3 _ hp)
          case kb =>
            walk_at "kb"
    · intro m₁ nx h tk hJ F22 N22
      obtain ⟨p1, v1, p4, v4, sv, es, hm1, hd1, hm4, hd4, hmS, hiS, hK, hm⟩ := hJ
      replace F22 : Fr hb L h _ := kst_frOut (ps := []) (fun _ h => nomatch h) hm F22
      dsimp only [kstB] at F22
      rw [List.take_length] at hiS
      have N23 : News hb L h (C6 L o6 o5 p4 o3' o2' p1 ((D17, listOf sv.toArray es) :: R3)) := kst_newsOf N22 (C6.all (hK _ (by walk_at "ms")) (hK _ (by walk_at "ms")) (hm4) (hK _ (by walk_at "ms")) (hK _ (by walk_at "ms")) (hm1) (List.forall_mem_cons.mpr ⟨hmS, fun p hp => hK p (by walk_at "tl")⟩))
      have hR24 := hR_cons (o := listOf sv.toArray es) hR3 hD17
      have hsums : IntsAt ((D17, listOf sv.toArray es) :: R3) D17 (sumsF kin) := ⟨sv, es, .head _, hiS⟩
      have hrow4 := hrow3.sub (sub1 (a := (D17, listOf sv.toArray es)))
      have hT48d := hT48c.mono (sub1 (a := (D17, listOf sv.toArray es)))
      have hT55d := hT55c.mono (sub1 (a := (D17, listOf sv.toArray es)))
      have hkin4 := hkin3.sub (sub1 (a := (D17, listOf sv.toArray es)))
      have hTs4 := hTs3.sub (sub1 (a := (D17, listOf sv.toArray es)))
      have hTab4 := hTab.sub (sub1 (a := (D17, listOf sv.toArray es)))
      generalize (D17, listOf sv.toArray es) :: R3 = R4 at N23 hR24 hsums hrow4 hT48d hT55d hkin4 hTs4 hTab4
      clear N22 hmS hiS hK hm1 hm4 hm hrow3 hT48c hT55c hkin3 hTs3 hTab hR3 hR17 hsD17 hkm3 hTm hr0m hRs0 F21 N21 hrg
      walk_at "gl"
      obtain ⟨ek4, hkm4⟩ := hkin4.1
      have hlastD : kin.getLastD [] = kin.getD (kin.length - 1) [] := getLastD_eq hk100.1
      obtain ⟨al, hal⟩ : ∃ a, ka[kin.length - 1]? = some a := ⟨ka[kin.length - 1]'(by omega), by walk_at "ms"⟩
      have hlast := hkin4.2.at' _ al hal
      have hlast5 : (kin.getD (kin.length - 1) []).length = 5 := hP.k5 _ (getD_memL (by omega))
      rw [← hlastD] at hlast hlast5
      refine last_L (by k_asm) (sub6 _ hkm4) (by simp; omega) (show (ka.map Value.ref)[(ka.map Value.ref).length - 1]? = some (.ref al) by rw [List.length_map, hkl]; simp [hal]) ?_ rfl
      walk_at "gl"
      ((refine kba_turn (value' := PySem.Expr.Name (PySem.Str.ofString "x") ⟨0, 0, 0, 0⟩) (fun _ => rfl) ?_))
      obtain ⟨vl, el, hvl, hil⟩ := hlast
      (rename Fr _ _ _ _ => F25); (rename News _ _ _ _ => N25)
      refine' slice_rev_L F25 N25 (sub6 _ hvl) ?z1 ?_ ?s1 (fun _ => rfl)
      case z1 => (rw [hil.length, sizeLine_eq]; omega)
      case s1 => with_unfolding_all rfl
      intro D26 h26 F26 N26 l26
      walk_at "gl"
      refine' table_call (b := true) ?k1 ?k2 ?k3 ?k4 ?k5 ?kA ?kF ?kK ?kH ?k8 ?k9 (.head _) hil.reverse (by rw [List.length_reverse]; omega) ?_
      ((walk_at "kAH"; walk_at "k15"; (case k8 => exact Nat.le_of_ble_eq_true rfl); (case k9 => exact Nat.le_of_ble_eq_true rfl)))
      intro rc lc rsc asc nx27 h27 tk27 F27 N27 hr27 hT27 hlt27
      have ho27 := hT27.old
      obtain ⟨R5, N28, hR5, hk5, hi5⟩ := packC (L := L) (o1 := p1) (o2 := o2') (o3 := o3') (o4 := p4) (o5 := o5) (o6 := o6) N27 (ho27 _ (by walk_at "ms")) hd1 (ho27 _ (by walk_at "ms")) e2' (ho27 _ (by walk_at "ms")) e3' (ho27 _ (by walk_at "ms")) hd4 (ho27 _ (by walk_at "ms")) e5 (ho27 _ (by walk_at "ms")) e6
      have hs27 : ∀ p ∈ R4, p ∈ nx27 := fun p hp => ho27 _ (sub1 _ (sub6 _ hp))
      have hrow5 := (hrow4.sub hs27).off hk5
      have hT48e := (hT48d.mono hs27).off hk5
      have hT55e := (hT55d.mono hs27).off hk5
      have hkin5 := (hkin4.sub hs27).off hk5
      have hTs5 := (hTs4.sub hs27).off hk5
      have hTab5 := (hTab4.sub hs27).off hk5
      have hsums5 := (hsums.sub hs27).off hk5
      obtain ⟨ln6, rs6, as6, hpair, hCols, hRs6⟩ := (hT27.pair hr27).off hk5
      rw [hP.cols] at hCols
      clear hrow4 hT48d hT55d hkin4 hTs4 hTab4 hsums N27 hT27 hlt27 hr27 ho27 hk5 hi5 hs27 hR24 F25 N25 F26 N26 l26 hkm4 hvl
      walk_at "gl"
      ((refine kba_turn (value' := PySem.Expr.Name (PySem.Str.ofString "x") ⟨0, 0, 0, 0⟩) (fun _ => rfl) ?_))
      refine pair_fst (by k_asm) (sub6 _ hpair) ?_ rfl
      walk_at "gl"
      ((k_dflt (refine' ListComp_K (F₀ := ?F021q) ?h121q ?h221q ?h321q ?h421q ?h521q ?_ ?h621q; (case F021q => k_asm); (case h121q => with_unfolding_all rfl); (case h221q => rfl); (case h321q => rfl); (case h421q => decide); (case h521q => (intro _ _; rfl)); (case h621q => (intro _; rfl)); k_whole)))
      walk_at "gl"
      obtain ⟨et5, htm5⟩ := hTab5.1
      have htl5 : as0.length = tab.length := hTab5.2.len
      have ht5 := hP.t5
      obtain ⟨t0, ht0⟩ : ∃ a, as0[0]? = some a := ⟨as0[0]'(by omega), by walk_at "ms"⟩
      obtain ⟨vt0, et0, hvt0, hit0⟩ := hTab5.2.at' 0 t0 ht0
      have htl0 := hP.tl _ (getD_memL (i := 0) ht5.1)
      refine item_L (by k_asm) (sub6 _ htm5) (by decide) (by decide) (show (as0.map Value.ref)[(0 : Int).toNat]? = some (.ref t0) by simp [ht0]) ?_
      walk_at "gl"
      refine len_L (by k_asm) (sub6 _ hvt0) (by rw [hit0.length]; omega) ?_
      rw [hit0.length]
      walk_at "gl"
      (rename Fr _ _ _ _ => F30); (rename News _ _ _ _ => N30); (rename IsRange _ _ _ _ _ _ _ _ => hrg30)
      refine ⟨_, _, _, _, _, _, (tab.getD 0 []).length, _, ColsTo _ tab, rfl, rfl, F30, N30, hrg30, small_one (by omega) (by omega) (by omega) (by omega), rangeSize_one, by rw [sizeLine_eq]; omega, ColsTo.start _ tab, ?_, ?_⟩
      · intro k ys nx v I2 oI2 C oC c oc D h tk E' hk hJ hv hoc F N off
        obtain ⟨tv, rfl⟩ := hv
        simp only [Int.zero_add] at hoc
        have hkp := hJ.keep
        simp only [List.cons_append, List.nil_append] at N
        ((k_dflt (refine' LCt.ListComp_T (F₀ := ?F019q) ?h119q ?h219q ?h319q ?h419q ?h519q ?_; (case F019q => k_asm); (case h119q => with_unfolding_all rfl); (case h219q => decide); (case h319q => rfl); (case h419q => decide); (case h519q => rfl); k_whole)))
        refine lcf_cell N rfl (sub1 _ (sub3 _ (hkp _ (by walk_at "ms")))) e2' ?_ rfl rfl
        (rename Fr _ _ _ _ => F31); (rename News _ _ _ _ => N31)
        have hin5 : ∀ p ∈ R5, p ∈ (I2, oI2) :: (C, oC) :: (c, oc) :: (D, LCg.lst ys) :: nx := fun p hp => sub1 _ (sub3 _ (hkp _ (sub6 _ hp)))
        refine LCt.CompSrcT.ledger rfl F31 N31 (hin5 _ htm5) (by rw [sizeLine_eq]; simp; omega) ?_
        intro g31
        refine compRestT_inv (ColJ _ tab k) ?_ ?_ _ 0 [] _ (Nat.zero_add _) (ColJ.start _ tab k)
        · intro j ys2 nx2 v I3 oI3 C3 oC3 D3 m₂ h tk E' hj hJ2 hv hC3 hx F N off3
          obtain ⟨a, ha, rfl⟩ := ref_at hv
          have hJ1 := hJ2.1
          subst hJ1
          have hjt : j < tab.length := by simp at hj; omega
          obtain ⟨vj, ej, hvj, hij⟩ := hTab5.2.at' j a ha
          have hlj := hP.tl _ (getD_memL hjt)
          intro ne3
          walk_at "gl"
          refine len_L (by k_asm) (sub3 _ (hin5 _ hvj)) (by rw [hij.length]; omega) ?_
          rw [hij.length]
          walk_at "gl"
          · (rename _ < ((List.length _ : Nat) : Int) => hq)
            have hq' : k < (tab.getD j []).length := by omega
            obtain ⟨t1, x1⟩ := ints_at hij (k := (k : Int)) (j := k) rfl hq'
            refine item_L (by k_asm) (sub3 _ (hin5 _ hvj)) (by omega) (by omega) x1 ?_
            walk_at "gl"
            (rename Fr _ _ _ _ => F32); (rename News _ _ _ _ => N32)
            exact compEnd_same F32 N32 off3 (.inr ⟨_, hin5 _ htm5, rfl, _, rfl⟩) (hJ2.put hjt hq')
          · (rename ¬ (_ < ((List.length _ : Nat) : Int)) => hq)
            have hq' : ¬ k < (tab.getD j []).length := by omega
            (rename Fr _ _ _ _ => F32); (rename News _ _ _ _ => N32)
            exact compEnd_same F32 N32 off3 (.inr ⟨_, hin5 _ htm5, rfl, _, rfl⟩) (hJ2.pass hjt hq')
        · intro ys2 nx2 hJ2
          walk_at "FinE"
          rename_i D33 h33 tk33 F33 N33 o33
          obtain ⟨hJ1, hJ3⟩ := hJ2
          subst hJ1
          have e33 : tab.take (as0.map Value.ref).toArray.size = tab := List.take_of_length_le (by simp; omega)
          rw [e33] at hJ3
          exact endK_new F33 N33 o33 off (hJ.step sub1 ⟨ys2, _, .head _, hJ3⟩)
      · intro ys nx D h tk hJ F N off
        obtain ⟨cs, hcs⟩ := hJ.all (D := D) rfl
        have hkp := hJ.keep
        walk_at "gl"
        refine ne_grid N (hCols.sub fun p hp => sub1 _ (hkp _ (sub6 _ hp))) hcs (Nat.le_of_ble_eq_true rfl) ?_
        rw [show (!decide (colsI tab = colsI tab)) = false by simp]
        have N34 : News hb L h (C6 L o6 o5 p4 o3' o2' p1 R5) := kst_newsOf N (fun p hp => sub1 _ (hkp p hp))
        clear N off hcs hkp hJ hCols N30 F30 hrg30
        walk_at "gl"
        ((k_dflt (refine' LCg.ListComp_U (F₀ := ?F016q) ?h116q ?h216q ?h316q ?h416q ?h516q ?_; (case F016q => k_asm); (case h116q => with_unfolding_all rfl); (case h216q => decide); (case h316q => rfl); (case h416q => decide); (case h516q => rfl); k_whole)))
        walk_at "gl"
        (rename Fr _ _ _ _ => F35); (rename News _ _ _ _ => N35)
        refine LCg.CompSrc.ledger rfl F35 N35 (sub6 _ htm5) (by rw [sizeLine_eq]; simp; omega) ?_
        intro g35
        refine compRest_inv (CopyTo _ tab) ?_ ?_ _ 0 [] _ (Nat.zero_add _) (CopyTo.start _ tab)
        · intro i ys nx v I oI C oC D m₂ h tk E' hi hJ hv hC hx F N off ne
          obtain ⟨a, ha, rfl⟩ := ref_at hv
          obtain ⟨va, ea, hva, hia⟩ := hTab5.2.at' i a ha
          have hit : i < tab.length := by simp at hi; omega
          have hli := hP.tl _ (getD_memL hit)
          have hvn : (a, listOf va.toArray ea) ∈ nx := hJ.keep _ (sub6 _ hva)
          walk_at "gl"
          (rename Fr _ _ _ _ => F36); (rename News _ _ _ _ => N36)
          refine' slice_all_L F36 N36 (sub3 _ hvn) ?zz1 ?_ ?ss1 (fun _ => rfl)
          case zz1 => (rw [hia.length, sizeLine_eq]; omega)
          case ss1 => with_unfolding_all rfl
          intro D37 h37 F37 N37 l37
          walk_at "gl"
          have hn37 := ledger_off3 (I := I) (C := C) (D := D) (nz := (D37, listOf va.toArray 0) :: (I, oI) :: (C, oC) :: (D, LCg.lst ys) :: nx) (fun p hp => sub1 _ (sub3 p hp)) off
          exact compEnd_more F37 N37 (.tail _ (.head _)) (.tail _ (.tail _ (.head _))) (.tail _ (.tail _ (.tail _ (.head _)))) (.inr ⟨_, hn37 _ (hJ.keep _ (sub6 _ htm5)), rfl, _, rfl⟩)
            (hJ.step hn37 (fun p hp => l37 p (sub3 p hp)) ⟨va, 0, mem_off3.mpr ⟨.head _, Nat.ne_of_gt (l37 (I, oI) (.head _)), Nat.ne_of_gt (l37 (C, oC) (.tail _ (.head _))), Nat.ne_of_gt (l37 (D, LCg.lst ys) (.tail _ (.tail _ (.head _))))⟩, hia⟩)
        · intro ys nx hJ
          walk_at "FinE"
          rename_i D36 h36 tk36 F36 N36 o36
          have hkp := hJ.keep
          have hsub36 : ∀ p ∈ R5, p ∈ (D36, LCg.lst ys) :: nx := fun p hp => sub1 _ (hkp _ (sub6 _ hp))
          obtain ⟨et5b, hTm5⟩ := hTs5.1
          obtain ⟨rl, hrl9⟩ : ∃ r, rs[kin.length - 1]? = some r := ⟨rs[kin.length - 1]'(by omega), by walk_at "ms"⟩
          obtain ⟨lnl, rsl, asl, hrlm, hTabl, hRsl⟩ := hTs5.2.2 _ rl hrl9
          rw [← hlastD] at hRsl hTabl
          walk_at "gl"
          refine last_L (by k_asm) (hsub36 _ hTm5) (by simp; omega) (show (rs.map Value.ref)[(rs.map Value.ref).length - 1]? = some (.ref rl) by rw [List.length_map, hTs5.2.1]; simp [hrl9]) ?_ rfl
          walk_at "gl"
          refine pair_snd (by k_asm) (hsub36 _ hrlm) ?_ rfl
          walk_at "gl"
          have hlastM : kin.getLastD [] ∈ kin := by rw [hlastD]; exact getD_memL (by omega)
          have htabL := hP.ktab _ hlastM
          have hNR5 : News hb L h36 R5 := kst_newsOf N36 hsub36
          have hrsl : rsl < L ∨ @LT.lt Nat _ (L + 6) rsl := by
            obtain ⟨v, e, hm, _⟩ := hRsl
            exact hR5 _ hm
          obtain ⟨csb, hTb⟩ := hJ.tab (D := D36) (rl := rsl) (ds := (tabF false (kin.getLastD [])).2) (keep := (C6 L o6 o5 p4 o3' o2' p1 R5).filter fun p => p.1 != rsl) (by simp; omega) (off1_mem o36) (hRsl.sub sub6) (fun p hp => by
            have q := List.mem_filter.mp hp
            exact ⟨q.1, by simpa using q.2⟩)
          refine' back_call ?k1 ?k2 ?k3 ?k4 ?k5 ?kA ?kF ?kK ?kH ?k8 ?k9 hTb ⟨by omega, fun xs hx => by have := hP.tl xs hx; omega⟩ (by omega) hP.back ?_
          ((walk_at "kAH"; walk_at "k15"; (case k8 => exact Nat.le_of_ble_eq_true rfl); (case k9 => exact Nat.le_of_ble_eq_true rfl)))
          intro r39 nx39 h39 tk39 F39 N39 hkeep39 hres39 hrs39
          rw [List.reverse_reverse] at hres39
          have hthru : ∀ p ∈ R5, p.1 ≠ rsl → p ∈ nx39 := fun p hp hn => hkeep39 _ (List.mem_filter.mpr ⟨sub6 _ hp, by simpa using hn⟩)
          have hcell : ∀ (j : Addr) (o : Obj), (j, o) ∈ (C6 L o6 o5 p4 o3' o2' p1 R5) → @LE.le Nat _ L j → @LE.le Nat _ j (L + 6) → (j, o) ∈ nx39 := fun j o hm h1 h2 => hkeep39 _ (List.mem_filter.mpr ⟨hm, by simpa using ne_out hrsl h1 h2⟩)
          have w1 := hcell (L + 1) p1 (by walk_at "ms") (lo6 L 1) (hi6 L 1 rfl)
          have w2 := hcell (L + 1 + 1) o2' (by walk_at "ms") (lo6 L 2) (hi6 L 2 rfl)
          have w3 := hcell (L + 1 + 1 + 1) o3' (by walk_at "ms") (lo6 L 3) (hi6 L 3 rfl)
          have w4 := hcell (L + 1 + 1 + 1 + 1) p4 (by walk_at "ms") (lo6 L 4) (hi6 L 4 rfl)
          have w5 := hcell (L + 1 + 1 + 1 + 1 + 1) o5 (by walk_at "ms") (lo6 L 5) (hi6 L 5 rfl)
          have w6 := hcell (L + 1 + 1 + 1 + 1 + 1 + 1) o6 (by walk_at "ms") (lo6 L 6) (hi6 L 6 rfl)
          obtain ⟨R6, N40, hR6, hk6, hi6⟩ := packC (L := L) N39 w1 hd1 w2 e2' w3 e3' w4 hd4 w5 e5 w6 e6
          have hrow6 := (IntsAt.thru hNR5 hRsl hrs39 hthru hrow5).off hk6
          have hsums6 := (IntsAt.thru hNR5 hRsl hrs39 hthru hsums5).off hk6
          have hT48f := (TabOk.thru hNR5 hRsl hthru hT48e).off hk6
          have hT55f := (TabOk.thru hNR5 hRsl hthru hT55e).off hk6
          have hkin6 := (GridAt.thru hNR5 hRsl hrs39 hthru (by omega) hkin5).off hk6
          have hTab6 := (GridAt.thru hNR5 hRsl hrs39 hthru (by omega) hTab5).off hk6
          have hr6 := hres39.off hk6
          clear hNR5 hTb hthru hcell w1 w2 w3 w4 w5 w6 N39 hkeep39 hres39 hrs39 hk6 hi6 hrow5 hsums5 hT48e hT55e hkin5 hTs5 hTab5 hRsl hTabl hrlm hTm5 htm5 hvt0 hit0 N36 o36 hJ hkp hsub36 hR5 N35 hpair hRs6
          walk_at "gl"
          obtain ⟨ek6, hkm6⟩ := hkin6.1
          refine last_L (by k_asm) (sub6 _ hkm6) (by simp; omega) (show (ka.map Value.ref)[(ka.map Value.ref).length - 1]? = some (.ref al) by rw [List.length_map, hkl]; simp [hal]) ?_ rfl
          have hlast6 := hkin6.2.at' _ al hal
          rw [← hlastD] at hlast6
          walk_at "gl"
          (rename News _ _ _ _ => N41)
          refine ne_ints N41 (hr6.sub sub6) (hlast6.sub sub6) (Nat.le_of_ble_eq_true rfl) ?_
          rw [show (!decide (kin.getLastD [] = kin.getLastD [])) = false by simp]
          walk_at "gl"
          (rename Fr _ _ _ _ => F42); (rename News _ _ _ _ => N42)
          have N43 := kst_newsOf N42 (sub1 (a := _))
          clear N42
          have hB1 : 1 ≤ 2 ^ (2 + ns.length) := Nat.pos_of_ne_zero (by walk_at "ms")
          have hBb : Builtin.Int.intBits ((2 ^ (2 + ns.length) : Nat) : Int) ≤ 1000 := by
            have := bits_of_le (x := 2 ^ (2 + ns.length)) (B := 2 ^ (2 + ns.length)) (W := 2 + ns.length) (e := 1) rfl (by walk_at "ms")
            omega
          obtain ⟨B, hBe⟩ : ∃ B : Nat, 2 ^ (2 + ns.length) = B := ⟨_, rfl⟩
          rw [hBe] at hB1 hBb
          refine forAtT F42 ?_ (fun _ => rfl)
          walk_at "gl"
          (rename Fr _ _ _ _ => F44); (rename News _ _ _ _ => N44); (rename IsRange _ _ _ _ _ _ _ _ => hrg44)
          refine forT (n := 5) (AboveJ L B (C5 L o6 p4 o3' o2' p1 R6) _) rfl hrg44 (by decide) (by decide) F44 N44
            ⟨_, o5, none, by walk_at "ms", e5, by walk_at "inc", by kst_all, fun _ _ _ => rfl⟩ (fun _ _ => rfl) ?_ ?_
          · intro I i t m₁ nx s₁ oI hi hJ hoff F N
            obtain ⟨ta, o5b, v5b, hm5, hd5, hK, hT⟩ := hJ
            obtain ⟨h45, g45, d45, tk45, os45⟩ := s₁
            try dsimp only at F N
            replace F : Fr hb L h45 _ := hT.fr F
            dsimp only [kstB] at F
            have hIout := out5 N hoff hm5 hK
            have hRI : ∀ p ∈ R6, p.1 ≠ I := fun p hp => hoff p (hK p (by walk_at "tl"))
            have N45 := news5 N hm5 hK
            have hR45 := hR_cons (o := oI) hR6 hIout
            simp only [Int.zero_add]
            clear N
            walk_at "gl"
            refine store_c5 F N45 hR45 hd5 rfl rfl rfl ?_
            intro h46 o5c F46 N46 hd5c
            clear F N45
            walk_at "gl"
            have bits_small : ∀ {x e : Nat}, x ≤ B ^ e → e ≤ 700 → Builtin.Int.intBits ((x : Nat) : Int) ≤ 50000 := fun {x e} h he => by
              have q := bits_of_le hBe.symm h
              have : (2 + ns.length) * e ≤ 65 * 700 := Nat.mul_le_mul (by omega) he
              omega
            refine powN (B := B) (h := i + 1) (by rw [hBe]) (by omega) hBb (by omega) ?_
            walk_at "gl"
            refine imulN (x := aboveF B i) (y := B ^ (i + 1) - 1) rfl (mulH_int hB1) (bits_small (aboveF_le hB1 i (by omega)) (by omega)) (bits_small (e := i + 1) (Nat.sub_le _ _) (by omega)) ?_
            rw [show aboveF B i * (B ^ (i + 1) - 1) = aboveF B (i + 1) from (aboveF_succ B i).symm]
            walk_at "gl"
            (rename Fr _ _ _ _ => F47); (rename News _ _ _ _ => N47)
            refine endT5 F47 N47 hIout hRI (fun nx h5 hK => ?_)
            refine' ⟨_, o5c, _, h5, hd5c, hK, ?told, ?same⟩
            case told => kst_all
            case same => walk_at "same"
          · intro m₁ nx h tk hJ F N
            obtain ⟨ta, o5b, v5b, hm5, hd5, hK, hT⟩ := hJ
            have bits_small : ∀ {x e : Nat}, x ≤ B ^ e → e ≤ 700 → Builtin.Int.intBits ((x : Nat) : Int) ≤ 50000 := fun {x e} h he => by
              have q := bits_of_le hBe.symm h
              have : (2 + ns.length) * e ≤ 65 * 700 := Nat.mul_le_mul (by omega) he
              omega
            replace F : Fr hb L h _ := hT.fr F
            replace N : News hb L h _ := N
            dsimp only [kstB] at F
            have N45 := news5' N hm5 hK
            clear N N44 F44 hrg44
            walk_at "gl"
            (rename Fr _ _ _ _ => F46)
            refine forAtT F46 ?_ (fun _ => rfl)
            walk_at "gl"
            obtain ⟨et6, htm6⟩ := hTab6.1
            refine len_L (by k_asm) (sub6 _ htm6) (by simp; omega) ?_
            rw [List.length_map, htl5]
            walk_at "gl"
            (rename Fr _ _ _ _ => F47); (rename News _ _ _ _ => N47); (rename IsRange _ _ _ _ _ _ _ _ => hrg47)
            refine forT (n := tab.length) (DepthJ L B tab (C5 L o6 p4 o3' o2' p1 R6) _) rfl hrg47 (small_one (by omega) (by omega) (by omega) (by omega)) rangeSize_one F47 N47
              ⟨_, _, o5b, _, by walk_at "ms", hd5, by walk_at "inc", by kst_all, fun _ _ _ => rfl⟩ (fun _ _ => rfl) ?_ ?_
            · intro I d t m₁ nx s₁ oI hdt hJ hoff F N
              obtain ⟨tb, tw, o5b, v5b, hm5, hd5, hK, hT⟩ := hJ
              obtain ⟨h45, g45, d45, tk45, os45⟩ := s₁
              try dsimp only at F N
              replace F : Fr hb L h45 _ := hT.fr F
              replace N : News hb L h45 _ := N
              dsimp only [kstB] at F
              have hIout := out5 N hoff hm5 hK
              have hRI : ∀ p ∈ R6, p.1 ≠ I := fun p hp => hoff p (hK p (by walk_at "tl"))
              have N45 := news5 N hm5 hK
              have hR45 := hR_cons (o := oI) hR6 hIout
              simp only [Int.zero_add]
              clear N
              walk_at "gl"
              obtain ⟨ad, had⟩ : ∃ a, as0[d]? = some a := ⟨as0[d]'(by omega), by walk_at "ms"⟩
              obtain ⟨vd, ed, hvd, hid⟩ := hTab6.2.at' d ad had
              have hld := hP.tl _ (getD_memL hdt)
              have hin6 : ∀ p ∈ R6, p ∈ C6 L o6 o5b p4 o3' o2' p1 ((I, oI) :: R6) := fun p hp => sub6 _ (sub1 _ hp)
              refine item_L (by k_asm) (hin6 _ htm6) (by omega) (by omega) (show (as0.map Value.ref)[((d : Nat) : Int).toNat]? = some (.ref ad) by simp [had]) ?_
              walk_at "gl"
              refine len_L (by k_asm) (hin6 _ hvd) (by rw [hid.length]; omega) ?_
              rw [hid.length]
              walk_at "gl"
              have ew : (weightF tab d : Int) + (d : Int) * ((tab.getD d []).length : Int) = ((weightF tab (d + 1) : Nat) : Int) := by
                rw [weightF_succ]
                norm_cast
              (rename Fr _ _ _ _ => F48); (rename News _ _ _ _ => N48)
              change Fr _ _ _ (fun y => if y = _ then some _ else _) at F48
              rw [ew] at F48
              have hbel := belowF_le hB1 ht5.2 hP.tl d (by omega)
              refine forAtT F48 ?_ (fun _ => rfl)
              walk_at "gl"
              (rename Fr _ _ _ _ => F49); (rename News _ _ _ _ => N49); (rename IsRange _ _ _ _ _ _ _ _ => hrg49)
              refine forT (n := (tab.getD d []).length) (HookJ L B tab d (belowF B tab d) (C5 L o6 p4 o3' o2' p1 ((I, oI) :: R6)) _) rfl hrg49 (small_one (by omega) (by omega) (by omega) (by omega)) rangeSize_one F49 N49
                ⟨_, o5b, _, by walk_at "ms", hd5, by walk_at "inc", by kst_all, fun _ _ _ => rfl⟩ (fun _ _ => rfl) ?_ ?_
              · intro I2 k t m₁ nx s₁ oI2 hk hJ hoff2 F N
                obtain ⟨tb2, o5d, v5d, hm5, hd5d, hK, hT⟩ := hJ
                obtain ⟨h45, g45, d45, tk45, os45⟩ := s₁
                try dsimp only at F N
                replace F : Fr hb L h45 _ := hT.fr F
                replace N : News hb L h45 _ := N
                dsimp only [kstB] at F
                have hIout2 := out5 N hoff2 hm5 hK
                have hRI2 : ∀ p ∈ (I, oI) :: R6, p.1 ≠ I2 := fun p hp => hoff2 p (hK p (by walk_at "tl"))
                have N50 := news5 N hm5 hK
                have hR50 := hR_cons (o := oI2) hR45 hIout2
                simp only [Int.zero_add]
                clear N
                walk_at "gl"
                refine store_c5 F N50 hR50 hd5d rfl rfl rfl ?_
                intro h51 o5e F51 N51 hd5e
                clear F N50
                have hin7 : ∀ p ∈ R6, p ∈ C6 L o6 o5e p4 o3' o2' p1 ((I2, oI2) :: (I, oI) :: R6) := fun p hp => sub6 _ (sub1 _ (sub1 _ hp))
                walk_at "gl"
                ((k_dflt (refine' LCt.ListComp_T (F₀ := ?F020q) ?h120q ?h220q ?h320q ?h420q ?h520q ?_; (case F020q => k_asm); (case h120q => with_unfolding_all rfl); (case h220q => decide); (case h320q => rfl); (case h420q => decide); (case h520q => rfl); k_whole)))
                walk_at "gl"
                (rename Fr _ _ _ _ => F52); (rename News _ _ _ _ => N52)
                refine' slice_from_L F52 N52 (hin7 _ htm6) ?zp1 ?zp2 ?_ ?zp3 (fun _ => rfl)
                case zp1 => omega
                case zp2 => (rw [sizeLine_eq]; simp; omega)
                case zp3 => with_unfolding_all rfl
                intro D53 h53 F53 N53 l53
                have ed1 : ((d : Int) + 1).toNat = d + 1 := by omega
                rw [ed1] at N53
                try dsimp only
                refine LCt.CompSrcT.ledger rfl F53 N53 (.head _) (by rw [sizeLine_eq]; simp; omega) ?_
                intro g53
                refine compRestT_inv (LinesJ _ (tab.drop (d + 1)) k) ?_ ?_ _ 0 [] _ (Nat.zero_add _) (LinesJ.start _ _ k)
                · intro j ys2 nx2 v I3 oI3 C3 oC3 D3 m₂ h tk E' hj hJ2 hv hC3 hx F N off3 ne3
                  have hJ1 := hJ2.1
                  subst hJ1
                  obtain ⟨a, ha, rfl⟩ : ∃ a, as0[d + 1 + j]? = some a ∧ v = .ref a := by
                    simp only [List.getElem?_toArray, List.getElem?_drop, List.getElem?_map, Option.map_eq_some_iff] at hv
                    obtain ⟨a, h1, h2⟩ := hv
                    exact ⟨a, h1, h2.symm⟩
                  have hjt : j < (tab.drop (d + 1)).length := by rw [List.length_drop]; simp at hj; omega
                  have ejt : (tab.drop (d + 1)).getD j [] = tab.getD (d + 1 + j) [] := by rw [List.getD_eq_getElem?_getD, List.getElem?_drop, ← List.getD_eq_getElem?_getD]
                  obtain ⟨vj, ej, hvj, hij⟩ := hTab6.2.at' _ a ha
                  have hjl : (tab.getD (d + 1 + j) []).length ≤ 5 := (hP.tl _ (getD_memL (by rw [List.length_drop] at hjt; omega))).2
                  walk_at "gl"
                  refine len_L (by k_asm) (sub3 _ (sub1 _ (hin7 _ hvj))) (by rw [hij.length]; omega) ?_
                  rw [hij.length]
                  walk_at "gl"
                  · (rename _ < ((List.length _ : Nat) : Int) => hq)
                    (rename Fr _ _ _ _ => F54); (rename News _ _ _ _ => N54)
                    exact compEnd_same F54 N54 off3 (.inr ⟨_, .head _, rfl, _, rfl⟩) (hJ2.put hjt (by rw [ejt]; omega))
                  · (rename ¬ (_ < ((List.length _ : Nat) : Int)) => hq)
                    (rename Fr _ _ _ _ => F54); (rename News _ _ _ _ => N54)
                    exact compEnd_same F54 N54 off3 (.inr ⟨_, .head _, rfl, _, rfl⟩) (hJ2.pass hjt (by rw [ejt]; omega))
                · intro ys2 nx2 hJ2
                  walk_at "FinE"
                  rename_i D55 h55 tk55 F55 N55 o55
                  obtain ⟨hJ1, hJ3⟩ := hJ2
                  subst hJ1
                  have e55 : (tab.drop (d + 1)).take ((as0.map Value.ref).drop (d + 1)).toArray.size = tab.drop (d + 1) := List.take_of_length_le (by simp; omega)
                  rw [e55] at hJ3
                  have hsm55 : ys2.length ≤ 5 := by
                    rw [hJ3]
                    exact Nat.le_trans (List.length_filter_le _ _) (by rw [List.length_drop]; omega)
                  walk_at "gl"
                  refine len_L (by k_asm) (.head _) (by omega) ?_
                  walk_at "gl"
                  have hhook : ((tab.getD d []).length : Int) - (k : Int) + (ys2.length : Int) = ((hookF tab d k : Nat) : Int) := by
                    unfold hookF
                    rw [← hJ3]
                    omega
                  have hh10 := hookF_le ht5.2 hP.tl d k
                  have hrow7 := hookRow_le hB1 ht5.2 hP.tl d _ (50 * d) hbel k
                  refine powN (B := B) (h := hookF tab d k) (by rw [hBe]) hhook hBb (by omega) ?_
                  walk_at "gl"
                  refine imulN (x := hookRow B tab d (belowF B tab d) k) (y := B ^ hookF tab d k - 1) rfl (mulH_int hB1) (bits_small hrow7 (by omega)) (bits_small (e := hookF tab d k) (Nat.sub_le _ _) (by omega)) ?_
                  rw [show hookRow B tab d (belowF B tab d) k * (B ^ hookF tab d k - 1) = hookRow B tab d (belowF B tab d) (k + 1) from (hookRow_succ B tab d _ k).symm]
                  walk_at "gl"
                  (rename Fr _ _ _ _ => F56); (rename News _ _ _ _ => N56)
                  refine endT5 F56 (kst_newsOf N56 fun p hp => sub1 _ (sub1 _ hp)) hIout2 hRI2 (fun nx h5 hK => ?_)
                  refine' ⟨_, o5e, _, h5, hd5e, hK, ?told, ?same⟩
                  case told => kst_all
                  case same => walk_at "same"
              · intro m₁ nx h tk hJ F N
                obtain ⟨tb2, o5d, v5d, hm5, hd5d, hK, hT⟩ := hJ
                replace F : Fr hb L h _ := hT.fr F
                replace N : News hb L h _ := N
                dsimp only [kstB] at F
                rw [← belowF_succ] at F
                have N57 := news5' N hm5 hK
                clear N
                walk_at "gl"
                (rename Fr _ _ _ _ => F58); (rename News _ _ _ _ => N58)
                refine endT5 F58 N58 hIout hRI (fun nx h5 hK => ?_)
                refine' ⟨_, _, o5d, _, h5, hd5d, hK, ?told2, ?same2⟩
                case told2 => kst_all
                case same2 => walk_at "same"
            · intro m₁ nx h tk hJ F N
              obtain ⟨tb, tw, o5b, v5b, hm5, hd5, hK, hT⟩ := hJ
              replace F : Fr hb L h _ := hT.fr F
              replace N : News hb L h _ := N
              dsimp only [kstB] at F
              have N57 := news5' N hm5 hK
              clear N F47 N47 hrg47
              walk_at "gl"
              refine len_I F hSl (by rw [hI.length]; omega) ?_
              rw [hI.length]
              walk_at "gl"
              (rename Fr _ _ _ _ => F60); (rename News _ _ _ _ => N60)
              rw [show ((aboveF B 5 : Nat) : Int) + (ns.length : Int) = ((aboveF B 5 + ns.length : Nat) : Int) by norm_cast]
              have hbpos := hP.bpos
              have hbsm := hP.bsm
              have hbcnt := hP.bcnt
              have hleft := hP.left
              have hcounts := hP.counts
              have hqcnt := hP.qcnt
              rw [hBe] at hbpos hbsm hbcnt hleft hcounts hqcnt
              have hw100 := hP.wsm
              refine' dmp_call ?k1 ?k2 ?k3 ?k4 ?k5 ?kA ?kF ?kK ?kH ?k8 ?k9 C52 (hT48f.mono sub6) C59 (hT55f.mono sub6) hbpos (Nat.lt_of_lt_of_le hbsm.2 (by decide)) (Nat.lt_of_lt_of_le hbsm.1 (by decide)) hbcnt ?_
              ((walk_at "kAH"; walk_at "k15"; (case k8 => exact Nat.le_of_ble_eq_true rfl); (case k9 => exact Nat.le_of_ble_eq_true rfl)))
              intro r61 vq vr tq tr nx61 h61 tk61 hvq hvr hm61 hT48g hT55g hkeep61 F61 N61
              have hNR6 : News hb L h R6 := kst_newsOf N60 sub6
              have hne48 : ∀ (a : Addr) (v : Array Value) (e : Nat), (a, listOf v e) ∈ R6 → a ≠ 48 ∧ a ≠ 55 := fun a v e hm => by
                refine ⟨fun q => ?_, fun q => ?_⟩
                · subst q
                  obtain ⟨o, ho⟩ : ∃ o, ((48 : Addr), tabObj o) ∈ R6 := by rcases hT48f with h | ⟨_, _, _, _, h, _⟩ <;> exact ⟨_, h⟩
                  have z1 := (hNR6 _ hm).1
                  have z2 := (hNR6 _ ho).1
                  rw [z1] at z2
                  cases z2
                · subst q
                  obtain ⟨o, ho⟩ : ∃ o, ((55 : Addr), tabObj o) ∈ R6 := by rcases hT55f with h | ⟨_, _, _, _, h, _⟩ <;> exact ⟨_, h⟩
                  have z1 := (hNR6 _ hm).1
                  have z2 := (hNR6 _ ho).1
                  rw [z1] at z2
                  cases z2
              have hlt48 : @LT.lt Nat _ 48 L ∨ @LT.lt Nat _ (L + 6) 48 := by
                obtain ⟨o, ho⟩ := hT48f.got
                exact hR6 _ ho
              have hlt55 : @LT.lt Nat _ 55 L ∨ @LT.lt Nat _ (L + 6) 55 := by
                obtain ⟨o, ho⟩ := hT55f.got
                exact hR6 _ ho
              have hk61 : ∀ (j : Addr) (o : Obj), (j, o) ∈ (C6 L o6 o5b p4 o3' o2' p1 R6) → @LE.le Nat _ L j → @LE.le Nat _ j (L + 6) → (j, o) ∈ nx61 := fun j o hm h1 h2 => hkeep61 _ hm (ne_out hlt48 h1 h2) (ne_out hlt55 h1 h2)
              have w1 := hk61 (L + 1) p1 (by walk_at "ms") (lo6 L 1) (hi6 L 1 rfl)
              have w2 := hk61 (L + 1 + 1) o2' (by walk_at "ms") (lo6 L 2) (hi6 L 2 rfl)
              have w3 := hk61 (L + 1 + 1 + 1) o3' (by walk_at "ms") (lo6 L 3) (hi6 L 3 rfl)
              have w4 := hk61 (L + 1 + 1 + 1 + 1) p4 (by walk_at "ms") (lo6 L 4) (hi6 L 4 rfl)
              have w5 := hk61 (L + 1 + 1 + 1 + 1 + 1) o5b (by walk_at "ms") (lo6 L 5) (hi6 L 5 rfl)
              have w6 := hk61 (L + 1 + 1 + 1 + 1 + 1 + 1) o6 (by walk_at "ms") (lo6 L 6) (hi6 L 6 rfl)
              obtain ⟨R7, N62, hR7, hk7, hi7⟩ := packC (L := L) N61 w1 hd1 w2 e2' w3 e3' w4 hd4 w5 hd5 w6 e6
              have hlist7 : ∀ (a : Addr) (xs : List Int), IntsAt R6 a xs → IntsAt R7 a xs := fun a xs hx => by
                refine IntsAt.off (nx := nx61) ?_ hk7
                obtain ⟨v, e, hm, hi⟩ := hx
                have q := hne48 _ _ _ hm
                exact ⟨v, e, hkeep61 _ (sub6 _ hm) q.1 q.2, hi⟩
              have hrow7 := hlist7 _ _ hrow6
              have hsums7 := hlist7 _ _ hsums6
              have hTab7 : GridAt R7 ln0 as0 tab := ⟨let ⟨e, hm⟩ := hTab6.1; ⟨e, hk7 _ (hkeep61 _ (sub6 _ hm) (hne48 _ _ _ hm).1 (hne48 _ _ _ hm).2) nc_list⟩, ⟨hTab6.2.len, fun i a ha => hlist7 _ _ (hTab6.2.at' i a ha)⟩⟩
              have hT48h := hT48g.off hk7
              have hT55h := hT55g.off hk7
              have hm7 := hk7 _ hm61 nc_tup
              rw [hleft] at hvr
              subst hvq hvr
              clear hlist7 hk7 hi7 w1 w2 w3 w4 w5 w6 hk61 hlt48 hlt55 hne48 hNR6 hkeep61 N61 hm61 hT48g hT55g hrow6 hsums6 hTab6 hT48f hT55f hkin6 hr6 hR6 N60 F60 hT hK hm5 hlast6 hkm6 htm6
              walk_at "gl"
              (rename Fr _ _ _ _ => F63); (rename News _ _ _ _ => N63)
              refine mul_L F63 N63 (.head _) (by omega) (by omega) ?_
              intro D64 h64 F64 N64 l64
              rw [Int.toNat_natCast] at N64
              obtain ⟨o48, ho48⟩ := hT48h.got
              have hD48 : D64 ≠ 48 := Nat.ne_of_gt (l64 _ (sub1 _ (sub6 _ ho48)))
              have hlt48 : @LT.lt Nat _ 48 L ∨ @LT.lt Nat _ (L + 6) 48 := hR7 _ ho48
              walk_at "gl"
              rw [show (2 + (ns.length : Int)) = ((2 + ns.length : Nat) : Int) by norm_cast]
              generalize hqe : (aboveF B 5 + ns.length) / belowF B tab tab.length = qu at hqcnt hcounts ⊢
              have hqb : bitsF qu < 10000 := by
                have h1 : qu ≤ aboveF B 5 + ns.length := by rw [← hqe]; exact Nat.div_le_self _ _
                have h2 := lt_bits (aboveF B 5 + ns.length)
                have h3 := bits_lt (Nat.lt_of_le_of_lt h1 h2)
                have h4 := hbsm.1
                unfold bitsF at h4 ⊢
                omega
              refine' i2d_call (n := 2 + ns.length) ?k1 ?k2 ?k3 ?k4 ?k5 ?kA ?kF ?kK ?kH ?k8 ?k9 C52 (hT48h.mono fun p hp => sub1 _ (sub1 _ (sub6 _ hp))) (by omega) (by omega) hqb rfl hqcnt ?_
              ((walk_at "kAH"; walk_at "k15"; (case k8 => exact Nat.le_of_ble_eq_true rfl); (case k9 => exact Nat.le_of_ble_eq_true rfl)))
              intro r65 nx65 h65 tk65 hdig hT48i hkeep65 hlt65 F65 N65
              have hk65 : ∀ (j : Addr) (o : Obj), (j, o) ∈ (C6 L o6 o5b p4 o3' o2' p1 R7) → @LE.le Nat _ L j → @LE.le Nat _ j (L + 6) → (j, o) ∈ nx65 := fun j o hm h1 h2 => hkeep65 _ (sub1 _ (sub1 _ hm)) (ne_out hlt48 h1 h2)
              have w1 := hk65 (L + 1) p1 (by walk_at "ms") (lo6 L 1) (hi6 L 1 rfl)
              have w2 := hk65 (L + 1 + 1) o2' (by walk_at "ms") (lo6 L 2) (hi6 L 2 rfl)
              have w3 := hk65 (L + 1 + 1 + 1) o3' (by walk_at "ms") (lo6 L 3) (hi6 L 3 rfl)
              have w4 := hk65 (L + 1 + 1 + 1 + 1) p4 (by walk_at "ms") (lo6 L 4) (hi6 L 4 rfl)
              have w5 := hk65 (L + 1 + 1 + 1 + 1 + 1) o5b (by walk_at "ms") (lo6 L 5) (hi6 L 5 rfl)
              have w6 := hk65 (L + 1 + 1 + 1 + 1 + 1 + 1) o6 (by walk_at "ms") (lo6 L 6) (hi6 L 6 rfl)
              obtain ⟨R8, N66, hR8, hk8, hi8⟩ := packC (L := L) N65 w1 hd1 w2 e2' w3 e3' w4 hd4 w5 hd5 w6 e6
              have hNR7 : News hb L h64 R7 := kst_newsOf N64 fun p hp => sub1 _ (sub1 _ (sub6 _ hp))
              have hne48 : ∀ (a : Addr) (v : Array Value) (e : Nat), (a, listOf v e) ∈ R7 → a ≠ 48 := fun a v e hm q => by
                subst q
                obtain ⟨o, ho⟩ : ∃ o, ((48 : Addr), tabObj o) ∈ R7 := by rcases hT48h with h | ⟨_, _, _, _, h, _⟩ <;> exact ⟨_, h⟩
                have z1 := (hNR7 _ hm).1
                have z2 := (hNR7 _ ho).1
                rw [z1] at z2
                cases z2
              have hlist8 : ∀ (a : Addr) (xs : List Int), IntsAt R7 a xs → IntsAt R8 a xs := fun a xs hx => by
                refine IntsAt.off (nx := nx65) ?_ hk8
                obtain ⟨v, e, hm, hi⟩ := hx
                exact ⟨v, e, hkeep65 _ (sub1 _ (sub1 _ (sub6 _ hm))) (hne48 _ _ _ hm), hi⟩
              have hrow8 := hlist8 _ _ hrow7
              have hsums8 := hlist8 _ _ hsums7
              have hTab8 : GridAt R8 ln0 as0 tab := ⟨let ⟨e, hm⟩ := hTab7.1; ⟨e, hk8 _ (hkeep65 _ (sub1 _ (sub1 _ (sub6 _ hm))) (hne48 _ _ _ hm)) nc_list⟩, ⟨hTab7.2.len, fun i a ha => hlist8 _ _ (hTab7.2.at' i a ha)⟩⟩
              have hdig8 := hdig.off hk8
              have hm64 := hk8 _ (hkeep65 _ (.head _) hD48) nc_list
              obtain ⟨q48, h48⟩ : ∃ o, ((48 : Addr), tabObj o) ∈ nx65 := by rcases hT48i with h | ⟨_, _, _, _, h, _⟩ <;> exact ⟨_, h⟩
              obtain ⟨q55, h55⟩ : ∃ o, ((55 : Addr), tabObj o) ∈ R7 := by rcases hT55h with h | ⟨_, _, _, _, h, _⟩ <;> exact ⟨_, h⟩
              replace h48 := hk8 _ h48 (fun v e => by cases e)
              replace h55 := hk8 _ (hkeep65 _ (sub1 _ (sub1 _ (sub6 _ h55))) (show (55 : Addr) ≠ 48 by decide)) (fun v e => by cases e)
              clear hlist8 hk8 hi8 w1 w2 w3 w4 w5 w6 hk65 hlt48 hne48 hNR7 hkeep65 hlt65 N65 hdig hT48i hT48h hrow7 hsums7 hTab7 hR7 N64 F64 l64 ho48 hm7 F63 N63
              walk_at "gl"
              obtain ⟨vg, eg, hmg, hig⟩ := hdig8
              (rename Fr _ _ _ _ => F67); (rename News _ _ _ _ => N67)
              have hq9 : (Builtin.Int.intBits ((qu : Nat) : Int) + (2 + ns.length) - 1) / (2 + ns.length) ≤ 100 := hqcnt
              refine cat_L F67 N67 (sub6 _ hm64) (sub6 _ hmg) (by rw [sizeLine_eq, hig.length, dg_length, List.length_replicate]; omega) ?_
              intro D68 h68 F68 N68 l68
              have ints_rep : ∀ (n : Nat) (t : Tok), IntsAre (List.replicate n (Value.int 0 t)) (List.replicate n (0 : Int)) := fun n t => by
                induction n with
                | zero => exact .nil
                | succ n ih => exact .cons _ _ ih
              have hcnt68 := IntsAt.head N68 ((ints_rep _ _).append hig)
              rw [show (Builtin.Int.intBits ((qu : Nat) : Int)) = bitsF qu from rfl, hcounts] at hcnt68
              have hsm9 := hP.smax
              clear hcounts hqcnt hq9 hqb hqe hleft hbcnt hbsm hbpos hig hmg l68 bits_small
              walk_at "gl"
              refine len_I (by k_asm) hSl (by rw [hI.length]; omega) ?_
              rw [hI.length]
              walk1
              walk1
              walk1
              · exact absurd rfl (by assumption)
              walk_at "gl"
              ((k_dflt (refine' LCg.ListComp_U (F₀ := ?F017q) ?h117q ?h217q ?h317q ?h417q ?h517q ?_; (case F017q => k_asm); (case h117q => with_unfolding_all rfl); (case h217q => decide); (case h317q => rfl); (case h417q => decide); (case h517q => rfl); k_whole)))
              walk_at "gl"
              obtain ⟨vs8, es8, hms8, his8⟩ := hsums8
              have hsl8 : (sumsF kin).length = kin.length := by rw [sumsF, List.length_map]
              (rename Fr _ _ _ _ => F70); (rename News _ _ _ _ => N70)
              have foldl_max : ∀ (l : List Int) (a : Int), a ≤ l.foldl (fun a x => if x > a then x else a) a ∧ (∀ x ∈ l, x ≤ l.foldl (fun a x => if x > a then x else a) a) ∧ (l.foldl (fun a x => if x > a then x else a) a = a ∨ l.foldl (fun a x => if x > a then x else a) a ∈ l) := fun l => by
                induction l with
                | nil => intro a; exact ⟨Int.le_refl _, (fun x h => nomatch h), .inl rfl⟩
                | cons y r ih =>
                  intro a
                  obtain ⟨h1, h2, h3⟩ := ih (if y > a then y else a)
                  simp only [List.foldl_cons]
                  have h0 : a ≤ (if y > a then y else a) ∧ y ≤ (if y > a then y else a) := by split <;> omega
                  refine ⟨by omega, fun x hx => ?_, ?_⟩
                  · rcases List.mem_cons.mp hx with rfl | hx
                    · omega
                    · exact h2 x hx
                  · rcases h3 with h3 | h3
                    · rw [h3]
                      split
                      · exact .inr (.head _)
                      · exact .inl rfl
                    · exact .inr (.tail _ h3)
              have maxF_is : ∀ (l : List Int) (M : Int), M ∈ l → (∀ a, a ∈ l → a ≤ M) → M = maxF l := fun l M h1 h2 => by
                obtain ⟨q1, q2, q3⟩ := foldl_max l (l.headD 0)
                unfold maxF
                have e1 := q2 M h1
                have e2 : l.foldl (fun a x => if x > a then x else a) (l.headD 0) ≤ M := by
                  rcases q3 with q | q
                  · rw [q]
                    cases l with
                    | nil => cases h1
                    | cons y r => exact h2 y (.head _)
                  · exact h2 _ q
                omega
              refine max_list_N rfl F70 N70 (News.isList N70 (sub1 _ (sub6 _ hms8))) his8 (by rw [hsl8]; omega) ?_
              intro h71 M t71 tk71 F71 N71 hM1 hM2
              have eM := maxF_is _ _ hM1 hM2
              subst eM
              walk_at "gl"
              (rename Fr _ _ _ _ => F72); (rename News _ _ _ _ => N72); (rename IsRange _ _ _ _ _ _ _ _ => hrg72)
              refine LCg.CompSrc.range (n := (maxF (sumsF kin)).toNat + 1) rfl F72 N72 hrg72 (small_one (by omega) (by omega) (by omega) (by omega)) (by rw [rangeSize_nat]; omega) (by rw [sizeLine_eq]; omega) ?_
              intro g72
              refine compRest_inv (fun i ys nx => nx = _ ∧ IntsAre ys ((List.range i).map fun (k : Nat) => (((sumsF kin).count ((k : Nat) : Int) : Nat) : Int))) ?_ ?_ _ 0 [] _ (Nat.zero_add _) ⟨rfl, .nil⟩
              · intro i ys nx v I oI C oC D m₂ h tk E' hi hJ hv hC hx F N off ne
                obtain ⟨tv, rfl⟩ := hv
                obtain ⟨hJ1, hJ2⟩ := hJ
                subst hJ1
                simp only [Int.zero_add] at hx ⊢
                walk_at "gl"
                refine kl_method (by k_asm) (sub3 _ (sub1 _ (sub6 _ hms8))) PySem.F.slot_list_count PySem.F.type_list_count ?_
                walk_at "gl"
                refine count_list_ints (News.isList (by k_asm) (sub3 _ (sub1 _ (sub6 _ hms8)))) his8 ?_
                walk_at "gl"
                (rename Fr _ _ _ _ => F74); (rename News _ _ _ _ => N74)
                refine compEnd_same F74 N74 off trivial ⟨rfl, ?_⟩
                rw [List.range_succ, List.map_append]
                exact hJ2.append (.cons _ _ .nil)
              · intro ys nx hJ
                walk_at "FinE"
                rename_i D73 h73 tk73 F73 N73 o73
                obtain ⟨hJ1, hJ2⟩ := hJ
                subst hJ1
                walk_at "gl"
                refine ne_ints (ys := countsF (sumsF kin)) N73 (hcnt68.sub sub1) ⟨ys, _, .head _, hJ2⟩ (Nat.le_of_ble_eq_true rfl) ?_
                rw [show (!decide (countsF (sumsF kin) = countsF (sumsF kin))) = false by simp]
                ((try dsimp only) <;> walk_at "pre" <;> repeat' ((fail_if_success (with_reducible show wpAny _ _ (execs [_, _, _, _] _) _ _ _)); walk_at "nf"; walk_at "glx"; walk_at "stop"; walk_at "st1"))
                have hN75 : News hb L h73 (C6 L o6 o5b p4 o3' o2' p1 R8) := kst_newsOf N73 fun p hp => sub1 _ (sub1 _ hp)
                clear N73 o73 hJ2 hcnt68
                (rename Fr _ _ _ _ => F76)
                show wpAny _ (callerA.deeper (envOfC (Str.ofString "law") (scopeAt w.params 107) L fa cd)) (execs ((bodyAt w.params 107).drop 17) (envOfC (Str.ofString "law") (scopeAt w.params 107) L fa cd)) _ _ _
                refine' tail_run (W := 2 + (ns.length : Int)) KX KT KB hP ?hW (rowF_length ns) ?hrow ?hwid F76 hN75 e6 e2' hR8 hrow8 hTab8 h55 h48 hE ?hQ
                case hrow => exact rfl
                case hwid => exact rfl
                case hW => omega
                case hQ => exact fun h tk d m' F G55 G48 => hQ h tk d m' F G55 G48
theorem law_all : PySem.Challenge.rw_pu0050_01.Holds := by
  refine hd ?_
  k_go0
  (try k_fold)
  rename_i w s0 s1 mg mb G Y fa o pm cd doc ho hcd hg X V T B TE TW ns hs hlay0 hL hr hl2 as1 as2 l vs as3 hIL ra w1 r0 hI hr2 hcond hcond2 hD h1 tk1 o6 o5 o4 o3 o2 o1 d6 d5 d4 d3 d2 d1 X0 KX KT KB KF C59 KN kl0
  rename CodeHd _ _ _ => C52
  rename Heap.IsList (ghostOf _ _) _ _ => hSl
  clear G Y ho hcd hT8 X V T B TE TW hT9 hs hlay0 hL hr hl2 hIL ra w1 r0 hr2 hcond2 hD X0
  try dsimp only at C52 C59
  have e6 : o6.data = .cell none := by rw [d6]; rfl
  have e5 : o5.data = .cell none := by rw [d5]; rfl
  have e4 : o4.data = .cell none := by rw [d4]; rfl
  have e3 : o3.data = .cell none := by rw [d3]; rfl
  have e2 : o2.data = .cell none := by rw [d2]; rfl
  have e1 : o1.data = .cell none := by rw [d1]; rfl
  clear d6 d5 d4 d3 d2 d1
  generalize ghostOf s1.heap [(59, 55), (52, 48)] = hb at *
  generalize s1.heap.objs.size = L at *
  show wpAny _ (callerA.deeper (envOfC (Str.ofString "law") (scopeAt w.params 107) L fa cd)) (execs (bodyAt w.params 107) (envOfC (Str.ofString "law") (scopeAt w.params 107) L fa cd)) _ _ _
  refine' law_run KX KT KB C52 C59 hSl hI ?hn kl0 ?hscr KF (by rw [C6.eq]; exact KN) e6 e5 e4 e3 e2 e1 ?hE ?hQ
  case hn => omega
  case hscr => exact rfl
  case hE => passes_own
  case hQ =>
    intro h tk d m' F G55 G48
    try dsimp only
    refine ⟨?_, G55, G48, trivial⟩
    exact ⟨.inl ⟨.bool true, .bool true, [], rfl, fun _ => rfl, .bool _, law_post _ _, fun _ => ⟨.nil, fun a ha => nomatch ha⟩⟩, F.keep, rfl, hg⟩
end

end
end Mine
theorem PySem.Challenge.cw_pu0050_01_holds : PySem.Challenge.rw_pu0050_01.Holds :=
  Mine.law_all
