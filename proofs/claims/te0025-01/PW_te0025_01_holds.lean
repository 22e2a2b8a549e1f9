import PyProof.Rows.All
import Wide.All
import OpenK.AllK
import Wide.FinOn
import Lean
import PySem.Challenge.RW_te0025_01
set_option Elab.async false
set_option genInjectivity false
set_option genSizeOf false
set_option genCtorIdx false
set_option bootstrap.genMatcherCode false
set_option compiler.extract_closed false
section
open PySem PySem.W PySem.Calls PyProof.Rows
set_option maxRecDepth 100000
set_option maxHeartbeats 0

namespace Mine.Top
noncomputable section
open PySem.Challenge (pw_te0025_01 rw_te0025_01)
def tS (i : Nat) : Stmt := (pw_te0025_01.main.body.drop i).headD (.Pass ⟨0, 0, 0, 0⟩)
def cB : Stmt → List Stmt
  | .ClassDef _ _ _ b _ _ _ _ _ _ _ => b
  | _ => []
def mS (i j : Nat) : Stmt := ((cB (tS i)).drop j).headD (.Pass ⟨0, 0, 0, 0⟩)
def fA : Stmt → Arguments
  | .FunctionDef _ a _ _ _ _ _ _ _ _ => a
  | _ => ⟨[], [], none, [], [], none, []⟩
def fB : Stmt → List Stmt
  | .FunctionDef _ _ b _ _ _ _ _ _ _ => b
  | _ => []
def fC : Stmt → Scope
  | .FunctionDef _ _ _ _ _ _ c _ _ _ => c
  | _ => pw_te0025_01.main.scope
def s (x : Str) (t : Tok) : Value := .str x t
def r (a : Addr) : Value := .ref a
def e (P : Params) (x : Str) (t : Tok) (v : Value) : DictEntry := ⟨PyData.keyHash P x, .str x t, v⟩
def fo (nm ql : Str) (st : Stmt) (dV kV doc pm cd ct : Value) : Data :=
  .func { name := nm, qualname := ql, params := fA st, body := .stmts (fB st), scope := fC st, globals := mainGlobals, closure := [], defaults := dV, kwdefaults := kV, doc := doc, pyModule := pm, annotations := none, code := cd, closureTuple := ct, builtins := builtinsNs }
def d (v : Obj) (x y : BT) : BT := .node v x y
def l (v : Obj) : BT := .node v .nil .nil
def n : BT := .nil

noncomputable def o11 : Obj := ⟨(.type "tuple"), none, (.seq [].toArray 0), [].toArray⟩
noncomputable def o12 : Obj := ⟨.none, none, (.fields [].toArray), [].toArray⟩
noncomputable def o13 : Obj := ⟨(.type "code"), none, (.fields [(s "<module>" 182), (s "<module>" 183), (s "/claim/cut.py" 184), (.int 1 0), (.int 0 0), (.int 0 0), (.int 0 0), (.int 0 0), (r 11), (.bool false), (.int 181 0), (r 12), .none, .none, .none, .none, (.int 185 0), (.int 1 0), (s "/claim/cut.py" 186)].toArray), [].toArray⟩
noncomputable def o14 : Obj := ⟨(.type "frame"), none, .plain, [some (r 13), some (r 3), some (r 3), none, some (s "__main__" 164), none, some (r 0)].toArray⟩
noncomputable def Ha (P : Params) : Heap := ⟨⟨[(boot_o_0 P), (boot_o_1 P), (boot_o_2 P), (boot_o_3 P), (boot_o_4 P), (boot_o_5 P), (boot_o_6 P), (boot_o_7 P), (boot_o_8 P), (boot_o_9 P), (boot_o_10 P), o11, o12, o13, o14]⟩, {}⟩
noncomputable def T0 (P : Params) : BT := (d (boot_o_0 P) (d (boot_o_1 P) (d (boot_o_3 P) (l (boot_o_7 P)) (l o11)) (d (boot_o_5 P) (l (boot_o_9 P)) (l o13))) (d (boot_o_2 P) (d (boot_o_4 P) (l (boot_o_8 P)) (l o12)) (d (boot_o_6 P) (l (boot_o_10 P)) (l o14))))
noncomputable def o3 (P : Params) : Obj := ⟨(.type "dict"), none, (.dict [e P "__name__" 165 (s "html5lib.constants" 194), e P "__doc__" 166 .none, e P "__package__" 167 .none, e P "__loader__" 168 (.builtin "__main__.__loader__#opaque"), e P "__spec__" 169 .none, e P "__annotations__" 170 (r 6), e P "__builtins__" 171 (r 4), e P "__file__" 173 (s "/claim/cut.py" 172), e P "__cached__" 174 .none, e P "_wall" 193 (r 21), e P "EOF" 196 .none, e P "spaceCharacters" 202 (r 22)].toArray 12), [].toArray⟩
noncomputable def o12v1 : Obj := ⟨.none, none, (.fields [(.int 1 0), (.int 0 0), (r 20)].toArray), [].toArray⟩
noncomputable def o15 : Obj := ⟨(.type "tuple"), none, (.seq [].toArray 0), [].toArray⟩
noncomputable def o16 : Obj := ⟨.none, none, (.fields [].toArray), [].toArray⟩
noncomputable def o17 : Obj := ⟨(.type "tuple"), none, (.seq [(s "k" 190)].toArray 0), [].toArray⟩
noncomputable def o18 : Obj := ⟨(.type "tuple"), none, (.seq [].toArray 0), [].toArray⟩
noncomputable def o19 : Obj := ⟨.none, none, (.func ⟨"_wall", "_wall", fA (tS 0), .stmts (fB (tS 0)), fC (tS 0), 0, [], .none, .none, .none, .none, none, .none, .none, 0⟩), [].toArray⟩
noncomputable def o20 : Obj := ⟨(.type "code"), none, (.fields [(s "_wall" 187), (s "_wall" 188), (s "/claim/cut.py" 189), (.int 1 0), (.int 1 0), (.int 0 0), (.int 0 0), (.int 3 0), (r 15), (.bool true), (.int 181 0), (r 16), .none, (r 17), (r 18), (r 19), (.int 191 0), (.int 1 0), (s "/claim/cut.py" 192)].toArray), [].toArray⟩
noncomputable def o21 : Obj := ⟨(.type "function"), none, (fo "_wall" "_wall" (tS 0) .none .none .none (s "__main__" 164) (r 20) .none), [].toArray⟩
noncomputable def o22 : Obj := ⟨(.type "tuple"), none, (.seq [(s "\t" 197), (s "\n" 198), (s "\x0c" 199), (s " " 200), (s "\x0d" 201)].toArray 0), [].toArray⟩
noncomputable def T1 (P : Params) : BT := (d (boot_o_0 P) (d (boot_o_1 P) (d (o3 P) (d (boot_o_7 P) (l o15) n) (d o11 (l o19) n)) (d (boot_o_5 P) (d (boot_o_9 P) (l o17) n) (d o13 (l o21) n))) (d (boot_o_2 P) (d (boot_o_4 P) (d (boot_o_8 P) (l o16) n) (d o12v1 (l o20) n)) (d (boot_o_6 P) (d (boot_o_10 P) (l o18) n) (d o14 (l o22) n))))
noncomputable def o3v1 (P : Params) : Obj := ⟨(.type "dict"), none, (.dict [e P "__name__" 165 (s "html5lib.constants" 194), e P "__doc__" 166 .none, e P "__package__" 167 .none, e P "__loader__" 168 (.builtin "__main__.__loader__#opaque"), e P "__spec__" 169 .none, e P "__annotations__" 170 (r 6), e P "__builtins__" 171 (r 4), e P "__file__" 173 (s "/claim/cut.py" 172), e P "__cached__" 174 .none, e P "_wall" 193 (r 21), e P "EOF" 196 .none, e P "spaceCharacters" 202 (r 22), e P "asciiLetters" 256 (r 27)].toArray 13), [].toArray⟩
noncomputable def o23 : Obj := ⟨(.type "list"), none, (.seq [(s "a" 204), (s "b" 205), (s "c" 206), (s "d" 207), (s "e" 208), (s "f" 209), (s "g" 210), (s "h" 211), (s "i" 212), (s "j" 213), (s "k" 214), (s "l" 215), (s "m" 216), (s "n" 217), (s "o" 218), (s "p" 219), (s "q" 220), (s "r" 221), (s "s" 222), (s "t" 223), (s "u" 224), (s "v" 225), (s "w" 226), (s "x" 227), (s "y" 228), (s "z" 229), (s "A" 230), (s "B" 231), (s "C" 232), (s "D" 233), (s "E" 234), (s "F" 235), (s "G" 236), (s "H" 237), (s "I" 238), (s "J" 239), (s "K" 240), (s "L" 241), (s "M" 242), (s "N" 243), (s "O" 244), (s "P" 245), (s "Q" 246), (s "R" 247), (s "S" 248), (s "T" 249), (s "U" 250), (s "V" 251), (s "W" 252), (s "X" 253), (s "Y" 254), (s "Z" 255)].toArray 52), [].toArray⟩
noncomputable def o24 : Obj := ⟨(.type "str_ascii_iterator"), none, (.fields [.none, (.int 52 0)].toArray), [].toArray⟩
noncomputable def o25 : Obj := ⟨(.type "tuple"), none, (.seq [].toArray 0), [].toArray⟩
noncomputable def o26 : Obj := ⟨(.type "StopIteration"), none, (.fields [(r 25), .none, .none, .none, (.bool false), .none].toArray), [].toArray⟩
noncomputable def o27 : Obj := ⟨(.type "tuple"), none, (.seq [(s "a" 204), (s "b" 205), (s "c" 206), (s "d" 207), (s "e" 208), (s "f" 209), (s "g" 210), (s "h" 211), (s "i" 212), (s "j" 213), (s "k" 214), (s "l" 215), (s "m" 216), (s "n" 217), (s "o" 218), (s "p" 219), (s "q" 220), (s "r" 221), (s "s" 222), (s "t" 223), (s "u" 224), (s "v" 225), (s "w" 226), (s "x" 227), (s "y" 228), (s "z" 229), (s "A" 230), (s "B" 231), (s "C" 232), (s "D" 233), (s "E" 234), (s "F" 235), (s "G" 236), (s "H" 237), (s "I" 238), (s "J" 239), (s "K" 240), (s "L" 241), (s "M" 242), (s "N" 243), (s "O" 244), (s "P" 245), (s "Q" 246), (s "R" 247), (s "S" 248), (s "T" 249), (s "U" 250), (s "V" 251), (s "W" 252), (s "X" 253), (s "Y" 254), (s "Z" 255)].toArray 0), [].toArray⟩
noncomputable def T2 (P : Params) : BT := (d (boot_o_0 P) (d (boot_o_1 P) (d (o3v1 P) (d (boot_o_7 P) (l o15) (l o23)) (d o11 (l o19) (l o27))) (d (boot_o_5 P) (d (boot_o_9 P) (l o17) (l o25)) (d o13 (l o21) n))) (d (boot_o_2 P) (d (boot_o_4 P) (d (boot_o_8 P) (l o16) (l o24)) (d o12v1 (l o20) n)) (d (boot_o_6 P) (d (boot_o_10 P) (l o18) (l o26)) (d o14 (l o22) n))))
noncomputable def o3v2 (P : Params) : Obj := ⟨(.type "dict"), none, (.dict [e P "__name__" 165 (s "html5lib.constants" 194), e P "__doc__" 166 .none, e P "__package__" 167 .none, e P "__loader__" 168 (.builtin "__main__.__loader__#opaque"), e P "__spec__" 169 .none, e P "__annotations__" 170 (r 6), e P "__builtins__" 171 (r 4), e P "__file__" 173 (s "/claim/cut.py" 172), e P "__cached__" 174 .none, e P "_wall" 193 (r 21), e P "EOF" 196 .none, e P "spaceCharacters" 202 (r 22), e P "asciiLetters" 256 (r 27), e P "digits" 268 (r 32)].toArray 14), [].toArray⟩
noncomputable def o28 : Obj := ⟨(.type "list"), none, (.seq [(s "0" 258), (s "1" 259), (s "2" 260), (s "3" 261), (s "4" 262), (s "5" 263), (s "6" 264), (s "7" 265), (s "8" 266), (s "9" 267)].toArray 10), [].toArray⟩
noncomputable def o29 : Obj := ⟨(.type "str_ascii_iterator"), none, (.fields [.none, (.int 10 0)].toArray), [].toArray⟩
noncomputable def o30 : Obj := ⟨(.type "tuple"), none, (.seq [].toArray 0), [].toArray⟩
noncomputable def o31 : Obj := ⟨(.type "StopIteration"), none, (.fields [(r 30), .none, .none, .none, (.bool false), .none].toArray), [].toArray⟩
noncomputable def o32 : Obj := ⟨(.type "tuple"), none, (.seq [(s "0" 258), (s "1" 259), (s "2" 260), (s "3" 261), (s "4" 262), (s "5" 263), (s "6" 264), (s "7" 265), (s "8" 266), (s "9" 267)].toArray 0), [].toArray⟩
noncomputable def T3 (P : Params) : BT := (d (boot_o_0 P) (d (boot_o_1 P) (d (o3v2 P) (d (boot_o_7 P) (d o15 (l o31) n) (l o23)) (d o11 (l o19) (l o27))) (d (boot_o_5 P) (d (boot_o_9 P) (l o17) (l o25)) (d o13 (l o21) (l o29)))) (d (boot_o_2 P) (d (boot_o_4 P) (d (boot_o_8 P) (d o16 (l o32) n) (l o24)) (d o12v1 (l o20) (l o28))) (d (boot_o_6 P) (d (boot_o_10 P) (l o18) (l o26)) (d o14 (l o22) (l o30)))))
noncomputable def o3v3 (P : Params) : Obj := ⟨(.type "dict"), none, (.dict [e P "__name__" 165 (s "html5lib.constants" 194), e P "__doc__" 166 .none, e P "__package__" 167 .none, e P "__loader__" 168 (.builtin "__main__.__loader__#opaque"), e P "__spec__" 169 .none, e P "__annotations__" 170 (r 6), e P "__builtins__" 171 (r 4), e P "__file__" 173 (s "/claim/cut.py" 172), e P "__cached__" 174 .none, e P "_wall" 193 (r 21), e P "EOF" 196 .none, e P "spaceCharacters" 202 (r 22), e P "asciiLetters" 256 (r 27), e P "digits" 268 (r 32), e P "hexDigits" 292 (r 37), e P "asciiLower" 298 (r 42)].toArray 16), [].toArray⟩
noncomputable def o12v2 : Obj := ⟨.none, none, (.fields [(.int 1 0), (.int 0 0), (r 20), (.int 10 0), (.int 0 0), (r 41)].toArray), [].toArray⟩
noncomputable def o33 : Obj := ⟨(.type "list"), none, (.seq [(s "0" 270), (s "1" 271), (s "2" 272), (s "3" 273), (s "4" 274), (s "5" 275), (s "6" 276), (s "7" 277), (s "8" 278), (s "9" 279), (s "a" 280), (s "b" 281), (s "c" 282), (s "d" 283), (s "e" 284), (s "f" 285), (s "A" 286), (s "B" 287), (s "C" 288), (s "D" 289), (s "E" 290), (s "F" 291)].toArray 22), [].toArray⟩
noncomputable def o34 : Obj := ⟨(.type "str_ascii_iterator"), none, (.fields [.none, (.int 22 0)].toArray), [].toArray⟩
noncomputable def o35 : Obj := ⟨(.type "tuple"), none, (.seq [].toArray 0), [].toArray⟩
noncomputable def o36 : Obj := ⟨(.type "StopIteration"), none, (.fields [(r 35), .none, .none, .none, (.bool false), .none].toArray), [].toArray⟩
noncomputable def o37 : Obj := ⟨(.type "tuple"), none, (.seq [(s "0" 270), (s "1" 271), (s "2" 272), (s "3" 273), (s "4" 274), (s "5" 275), (s "6" 276), (s "7" 277), (s "8" 278), (s "9" 279), (s "a" 280), (s "b" 281), (s "c" 282), (s "d" 283), (s "e" 284), (s "f" 285), (s "A" 286), (s "B" 287), (s "C" 288), (s "D" 289), (s "E" 290), (s "F" 291)].toArray 0), [].toArray⟩
noncomputable def o38 : Obj := ⟨(.type "tuple"), none, (.seq [].toArray 0), [].toArray⟩
noncomputable def o39 : Obj := ⟨.none, none, (.fields [].toArray), [].toArray⟩
noncomputable def o40 : Obj := ⟨.none, none, (.func ⟨"asciiLower", "asciiLower", fA (tS 7), .stmts (fB (tS 7)), fC (tS 7), 0, [], .none, .none, .none, .none, none, .none, .none, 0⟩), [].toArray⟩
noncomputable def o41 : Obj := ⟨(.type "code"), none, (.fields [(s "asciiLower" 293), (s "asciiLower" 294), (s "/claim/cut.py" 295), (.int 10 0), (.int 1 0), (.int 0 0), (.int 0 0), (.int 3 0), (r 38), (.bool true), (.int 181 0), (r 39), .none, .none, .none, (r 40), (.int 296 0), (.int 10 0), (s "/claim/cut.py" 297)].toArray), [].toArray⟩
noncomputable def o42 : Obj := ⟨(.type "function"), none, (fo "asciiLower" "asciiLower" (tS 7) .none .none .none (s "html5lib.constants" 194) (r 41) .none), [].toArray⟩
noncomputable def T4 (P : Params) : BT := (d (boot_o_0 P) (d (boot_o_1 P) (d (o3v3 P) (d (boot_o_7 P) (d o15 (l o31) n) (d o23 (l o39) n)) (d o11 (d o19 (l o35) n) (l o27))) (d (boot_o_5 P) (d (boot_o_9 P) (d o17 (l o33) n) (d o25 (l o41) n)) (d o13 (d o21 (l o37) n) (l o29)))) (d (boot_o_2 P) (d (boot_o_4 P) (d (boot_o_8 P) (d o16 (l o32) n) (d o24 (l o40) n)) (d o12v2 (d o20 (l o36) n) (l o28))) (d (boot_o_6 P) (d (boot_o_10 P) (d o18 (l o34) n) (d o26 (l o42) n)) (d o14 (d o22 (l o38) n) (l o30)))))
noncomputable def o3v4 (P : Params) : Obj := ⟨(.type "dict"), none, (.dict [e P "__name__" 165 (s "html5lib.constants" 194), e P "__doc__" 166 .none, e P "__package__" 167 .none, e P "__loader__" 168 (.builtin "__main__.__loader__#opaque"), e P "__spec__" 169 .none, e P "__annotations__" 170 (r 6), e P "__builtins__" 171 (r 4), e P "__file__" 173 (s "/claim/cut.py" 172), e P "__cached__" 174 .none, e P "_wall" 193 (r 21), e P "EOF" 196 .none, e P "spaceCharacters" 202 (r 22), e P "asciiLetters" 256 (r 27), e P "digits" 268 (r 32), e P "hexDigits" 292 (r 37), e P "asciiLower" 298 (r 42), e P "entities" 428 (r 43)].toArray 17), [].toArray⟩
noncomputable def o43 (P : Params) : Obj := ⟨(.type "dict"), none, (.dict [e P "AMP" 299 (s "&" 300), e P "AMP;" 302 (s "&" 303), e P "Eacute" 305 (s "É" 306), e P "Eacute;" 308 (s "É" 309), e P "Mopf;" 311 (s "𝕄" 312), e P "ac;" 314 (s "∾" 315), e P "acE;" 317 (s "∾̳" 318), e P "acute" 320 (s "´" 321), e P "acute;" 323 (s "´" 324), e P "amp" 326 (s "&" 327), e P "amp;" 329 (s "&" 330), e P "ang;" 332 (s "∠" 333), e P "angle;" 335 (s "∠" 336), e P "bne;" 338 (s "=⃥" 339), e P "copy" 341 (s "©" 342), e P "copy;" 344 (s "©" 345), e P "eacute" 347 (s "é" 348), e P "eacute;" 350 (s "é" 351), e P "frac12" 353 (s "½" 354), e P "frac12;" 356 (s "½" 357), e P "gt" 359 (s ">" 360), e P "gt;" 362 (s ">" 363), e P "lt" 365 (s "<" 366), e P "lt;" 368 (s "<" 369), e P "nbsp" 371 (s " " 372), e P "nbsp;" 374 (s " " 375), e P "not" 377 (s "¬" 378), e P "not;" 380 (s "¬" 381), e P "notin;" 383 (s "∉" 384), e P "notni;" 386 (s "∌" 387), e P "para" 389 (s "¶" 390), e P "para;" 392 (s "¶" 393), e P "parallel;" 395 (s "∥" 396), e P "quot" 398 (s "\"" 399), e P "quot;" 401 (s "\"" 402), e P "sup1" 403 (s "¹" 404), e P "sup1;" 405 (s "¹" 406), e P "sup2" 407 (s "²" 408), e P "sup2;" 409 (s "²" 410), e P "sup;" 411 (s "⊃" 412), e P "times" 413 (s "×" 414), e P "times;" 415 (s "×" 416), e P "timesb;" 417 (s "⊠" 418)].toArray 43), [].toArray⟩
noncomputable def o44 (P : Params) : Obj := ⟨(.type "dict"), none, (.dict [e P "eacute;" 350 (s "é" 351), e P "frac12" 353 (s "½" 354), e P "frac12;" 356 (s "½" 357), e P "gt" 359 (s ">" 360), e P "gt;" 362 (s ">" 363), e P "lt" 365 (s "<" 366), e P "lt;" 368 (s "<" 369), e P "nbsp" 371 (s " " 372), e P "nbsp;" 374 (s " " 375), e P "not" 377 (s "¬" 378), e P "not;" 380 (s "¬" 381), e P "notin;" 383 (s "∉" 384), e P "notni;" 386 (s "∌" 387), e P "para" 389 (s "¶" 390), e P "para;" 392 (s "¶" 393), e P "parallel;" 395 (s "∥" 396), e P "quot" 398 (s "\"" 399)].toArray 17), [].toArray⟩
noncomputable def o45 (P : Params) : Obj := ⟨(.type "dict"), none, (.dict [e P "quot;" 401 (s "\"" 402), e P "sup1" 403 (s "¹" 404), e P "sup1;" 405 (s "¹" 406), e P "sup2" 407 (s "²" 408), e P "sup2;" 409 (s "²" 410), e P "sup;" 411 (s "⊃" 412), e P "times" 413 (s "×" 414), e P "times;" 415 (s "×" 416), e P "timesb;" 417 (s "⊠" 418)].toArray 9), [].toArray⟩
noncomputable def T5 (P : Params) : BT := (d (boot_o_0 P) (d (boot_o_1 P) (d (o3v4 P) (d (boot_o_7 P) (d o15 (l o31) n) (d o23 (l o39) n)) (d o11 (d o19 (l o35) n) (d o27 (l (o43 P)) n))) (d (boot_o_5 P) (d (boot_o_9 P) (d o17 (l o33) n) (d o25 (l o41) n)) (d o13 (d o21 (l o37) n) (d o29 (l (o45 P)) n)))) (d (boot_o_2 P) (d (boot_o_4 P) (d (boot_o_8 P) (d o16 (l o32) n) (d o24 (l o40) n)) (d o12v2 (d o20 (l o36) n) (d o28 (l (o44 P)) n))) (d (boot_o_6 P) (d (boot_o_10 P) (d o18 (l o34) n) (d o26 (l o42) n)) (d o14 (d o22 (l o38) n) (l o30)))))
noncomputable def o3v5 (P : Params) : Obj := ⟨(.type "dict"), none, (.dict [e P "__name__" 165 (s "html5lib.constants" 194), e P "__doc__" 166 .none, e P "__package__" 167 .none, e P "__loader__" 168 (.builtin "__main__.__loader__#opaque"), e P "__spec__" 169 .none, e P "__annotations__" 170 (r 6), e P "__builtins__" 171 (r 4), e P "__file__" 173 (s "/claim/cut.py" 172), e P "__cached__" 174 .none, e P "_wall" 193 (r 21), e P "EOF" 196 .none, e P "spaceCharacters" 202 (r 22), e P "asciiLetters" 256 (r 27), e P "digits" 268 (r 32), e P "hexDigits" 292 (r 37), e P "asciiLower" 298 (r 42), e P "entities" 428 (r 43), e P "replacementCharacters" 531 (r 46)].toArray 18), [].toArray⟩
noncomputable def o46 : Obj := ⟨(.type "dict"), none, (.dict [⟨0, (.int 0 429), (s "�" 430)⟩, ⟨13, (.int 13 432), (s "\x0d" 433)⟩, ⟨128, (.int 128 435), (s "€" 436)⟩, ⟨129, (.int 129 438), (s "" 439)⟩, ⟨130, (.int 130 441), (s "‚" 442)⟩, ⟨131, (.int 131 444), (s "ƒ" 445)⟩, ⟨132, (.int 132 447), (s "„" 448)⟩, ⟨133, (.int 133 450), (s "…" 451)⟩, ⟨134, (.int 134 453), (s "†" 454)⟩, ⟨135, (.int 135 456), (s "‡" 457)⟩, ⟨136, (.int 136 459), (s "ˆ" 460)⟩, ⟨137, (.int 137 462), (s "‰" 463)⟩, ⟨138, (.int 138 465), (s "Š" 466)⟩, ⟨139, (.int 139 468), (s "‹" 469)⟩, ⟨140, (.int 140 471), (s "Œ" 472)⟩, ⟨141, (.int 141 474), (s "" 475)⟩, ⟨142, (.int 142 477), (s "Ž" 478)⟩, ⟨143, (.int 143 480), (s "" 481)⟩, ⟨144, (.int 144 483), (s "" 484)⟩, ⟨145, (.int 145 486), (s "‘" 487)⟩, ⟨146, (.int 146 489), (s "’" 490)⟩, ⟨147, (.int 147 492), (s "“" 493)⟩, ⟨148, (.int 148 495), (s "”" 496)⟩, ⟨149, (.int 149 498), (s "•" 499)⟩, ⟨150, (.int 150 501), (s "–" 502)⟩, ⟨151, (.int 151 504), (s "—" 505)⟩, ⟨152, (.int 152 507), (s "˜" 508)⟩, ⟨153, (.int 153 510), (s "™" 511)⟩, ⟨154, (.int 154 513), (s "š" 514)⟩, ⟨155, (.int 155 516), (s "›" 517)⟩, ⟨156, (.int 156 519), (s "œ" 520)⟩, ⟨157, (.int 157 522), (s "" 523)⟩, ⟨158, (.int 158 525), (s "ž" 526)⟩, ⟨159, (.int 159 528), (s "Ÿ" 529)⟩].toArray 34), [].toArray⟩
noncomputable def o47 : Obj := ⟨(.type "dict"), none, (.dict [⟨143, (.int 143 480), (s "" 481)⟩, ⟨144, (.int 144 483), (s "" 484)⟩, ⟨145, (.int 145 486), (s "‘" 487)⟩, ⟨146, (.int 146 489), (s "’" 490)⟩, ⟨147, (.int 147 492), (s "“" 493)⟩, ⟨148, (.int 148 495), (s "”" 496)⟩, ⟨149, (.int 149 498), (s "•" 499)⟩, ⟨150, (.int 150 501), (s "–" 502)⟩, ⟨151, (.int 151 504), (s "—" 505)⟩, ⟨152, (.int 152 507), (s "˜" 508)⟩, ⟨153, (.int 153 510), (s "™" 511)⟩, ⟨154, (.int 154 513), (s "š" 514)⟩, ⟨155, (.int 155 516), (s "›" 517)⟩, ⟨156, (.int 156 519), (s "œ" 520)⟩, ⟨157, (.int 157 522), (s "" 523)⟩, ⟨158, (.int 158 525), (s "ž" 526)⟩, ⟨159, (.int 159 528), (s "Ÿ" 529)⟩].toArray 17), [].toArray⟩
noncomputable def T6 (P : Params) : BT := (d (boot_o_0 P) (d (boot_o_1 P) (d (o3v5 P) (d (boot_o_7 P) (d o15 (l o31) (l o47)) (d o23 (l o39) n)) (d o11 (d o19 (l o35) n) (d o27 (l (o43 P)) n))) (d (boot_o_5 P) (d (boot_o_9 P) (d o17 (l o33) n) (d o25 (l o41) n)) (d o13 (d o21 (l o37) n) (d o29 (l (o45 P)) n)))) (d (boot_o_2 P) (d (boot_o_4 P) (d (boot_o_8 P) (d o16 (l o32) n) (d o24 (l o40) n)) (d o12v2 (d o20 (l o36) n) (d o28 (l (o44 P)) n))) (d (boot_o_6 P) (d (boot_o_10 P) (d o18 (l o34) n) (d o26 (l o42) n)) (d o14 (d o22 (l o38) n) (d o30 (l o46) n)))))
noncomputable def o3v6 (P : Params) : Obj := ⟨(.type "dict"), none, (.dict [e P "__name__" 165 (s "html5lib._inputstream" 564), e P "__doc__" 166 .none, e P "__package__" 167 .none, e P "__loader__" 168 (.builtin "__main__.__loader__#opaque"), e P "__spec__" 169 .none, e P "__annotations__" 170 (r 6), e P "__builtins__" 171 (r 4), e P "__file__" 173 (s "/claim/cut.py" 172), e P "__cached__" 174 .none, e P "_wall" 193 (r 21), e P "EOF" 196 .none, e P "spaceCharacters" 202 (r 22), e P "asciiLetters" 256 (r 27), e P "digits" 268 (r 32), e P "hexDigits" 292 (r 37), e P "asciiLower" 298 (r 42), e P "entities" 428 (r 43), e P "replacementCharacters" 531 (r 46), e P "tokenTypes" 556 (r 48), e P "tagTokenTypes" 563 (r 49)].toArray 20), [].toArray⟩
noncomputable def o48 (P : Params) : Obj := ⟨(.type "dict"), none, (.dict [e P "Doctype" 532 (.int 0 533), e P "Characters" 534 (.int 1 535), e P "SpaceCharacters" 536 (.int 2 537), e P "StartTag" 538 (.int 3 539), e P "EndTag" 540 (.int 4 541), e P "EmptyTag" 542 (.int 5 543), e P "Comment" 544 (.int 6 545), e P "ParseError" 546 (.int 7 547)].toArray 8), [].toArray⟩
noncomputable def o49 : Obj := ⟨(.type "tuple"), none, (.seq [(.int 3 539), (.int 4 541), (.int 5 543)].toArray 0), [].toArray⟩
noncomputable def T7 (P : Params) : BT := (d (boot_o_0 P) (d (boot_o_1 P) (d (o3v6 P) (d (boot_o_7 P) (d o15 (l o31) (l o47)) (d o23 (l o39) n)) (d o11 (d o19 (l o35) n) (d o27 (l (o43 P)) n))) (d (boot_o_5 P) (d (boot_o_9 P) (d o17 (l o33) (l o49)) (d o25 (l o41) n)) (d o13 (d o21 (l o37) n) (d o29 (l (o45 P)) n)))) (d (boot_o_2 P) (d (boot_o_4 P) (d (boot_o_8 P) (d o16 (l o32) (l (o48 P))) (d o24 (l o40) n)) (d o12v2 (d o20 (l o36) n) (d o28 (l (o44 P)) n))) (d (boot_o_6 P) (d (boot_o_10 P) (d o18 (l o34) n) (d o26 (l o42) n)) (d o14 (d o22 (l o38) n) (d o30 (l o46) n)))))
noncomputable def o3v7 (P : Params) : Obj := ⟨(.type "dict"), none, (.dict [e P "__name__" 165 (s "html5lib._inputstream" 564), e P "__doc__" 166 .none, e P "__package__" 167 .none, e P "__loader__" 168 (.builtin "__main__.__loader__#opaque"), e P "__spec__" 169 .none, e P "__annotations__" 170 (r 6), e P "__builtins__" 171 (r 4), e P "__file__" 173 (s "/claim/cut.py" 172), e P "__cached__" 174 .none, e P "_wall" 193 (r 21), e P "EOF" 196 .none, e P "spaceCharacters" 202 (r 22), e P "asciiLetters" 256 (r 27), e P "digits" 268 (r 32), e P "hexDigits" 292 (r 37), e P "asciiLower" 298 (r 42), e P "entities" 428 (r 43), e P "replacementCharacters" 531 (r 46), e P "tokenTypes" 556 (r 48), e P "tagTokenTypes" 563 (r 49), e P "Text" 604 (r 73), e P "_is_invalid" 611 (r 84)].toArray 22), [].toArray⟩
noncomputable def o12v3 : Obj := ⟨.none, none, (.fields [(.int 1 0), (.int 0 0), (r 20), (.int 10 0), (.int 0 0), (r 41), (.int 17 0), (.int 0 0), (r 55), (.int 27 0), (.int 0 0), (r 83)].toArray), [].toArray⟩
noncomputable def o50 : Obj := ⟨(.type "tuple"), none, (.seq [(.type "object")].toArray 0), [].toArray⟩
noncomputable def o51 : Obj := ⟨(.type "builtin_function_or_method"), none, (.fields [(.builtin "type.__prepare__"), (.type "type")].toArray), [].toArray⟩
noncomputable def o52 (P : Params) : Obj := ⟨(.type "dict"), none, (.dict [e P "__module__" 573 (s "html5lib._inputstream" 564), e P "__qualname__" 575 (s "Text" 574), e P "__firstlineno__" 577 (.int 17 576), e P "__init__" 585 (r 63), e P "read" 594 (r 70), e P "__static_attributes__" 597 (r 71)].toArray 6), [].toArray⟩
noncomputable def o53 : Obj := ⟨(.type "tuple"), none, (.seq [].toArray 0), [].toArray⟩
noncomputable def o54 : Obj := ⟨.none, none, (.fields [(.int 19 0), (.int 4 0), (r 62), (.int 23 0), (.int 4 0), (r 69)].toArray), [].toArray⟩
noncomputable def o55 : Obj := ⟨(.type "code"), none, (.fields [(s "Text" 568), (s "Text" 569), (s "/claim/cut.py" 570), (.int 17 0), (.int 0 0), (.int 0 0), (.int 0 0), (.int 0 0), (r 53), (.bool false), (.int 181 0), (r 54), .none, .none, .none, .none, (.int 571 0), (.int 17 0), (s "/claim/cut.py" 572)].toArray), [].toArray⟩
noncomputable def o56 : Obj := ⟨(.type "frame"), none, .plain, [some (r 55), some (r 3), some (r 52), none, some (s "html5lib._inputstream" 564), none, some (r 0)].toArray⟩
noncomputable def o57 : Obj := ⟨(.type "tuple"), none, (.seq [].toArray 0), [].toArray⟩
noncomputable def o58 : Obj := ⟨.none, none, (.fields [].toArray), [].toArray⟩
noncomputable def o59 : Obj := ⟨(.type "tuple"), none, (.seq [(s "self" 581), (s "text" 582)].toArray 0), [].toArray⟩
noncomputable def o60 : Obj := ⟨(.type "tuple"), none, (.seq [].toArray 0), [].toArray⟩
noncomputable def o61 : Obj := ⟨.none, none, (.func ⟨"__init__", "Text.__init__", fA (mS 13 0), .stmts (fB (mS 13 0)), fC (mS 13 0), 0, [], .none, .none, .none, .none, none, .none, .none, 0⟩), [].toArray⟩
noncomputable def o62 : Obj := ⟨(.type "code"), none, (.fields [(s "__init__" 578), (s "Text.__init__" 579), (s "/claim/cut.py" 580), (.int 19 0), (.int 2 0), (.int 0 0), (.int 0 0), (.int 3 0), (r 57), (.bool true), (.int 181 0), (r 58), .none, (r 59), (r 60), (r 61), (.int 583 0), (.int 19 0), (s "/claim/cut.py" 584)].toArray), [].toArray⟩
noncomputable def o63 : Obj := ⟨(.type "function"), none, (fo "__init__" "Text.__init__" (mS 13 0) .none .none .none (s "html5lib._inputstream" 564) (r 62) .none), [].toArray⟩
noncomputable def o64 : Obj := ⟨(.type "tuple"), none, (.seq [].toArray 0), [].toArray⟩
noncomputable def o65 : Obj := ⟨.none, none, (.fields [].toArray), [].toArray⟩
noncomputable def o66 : Obj := ⟨(.type "tuple"), none, (.seq [(s "self" 589), (s "size" 590), (s "part" 591)].toArray 0), [].toArray⟩
noncomputable def o67 : Obj := ⟨(.type "tuple"), none, (.seq [].toArray 0), [].toArray⟩
noncomputable def o68 : Obj := ⟨.none, none, (.func ⟨"read", "Text.read", fA (mS 13 1), .stmts (fB (mS 13 1)), fC (mS 13 1), 0, [], .none, .none, .none, .none, none, .none, .none, 0⟩), [].toArray⟩
noncomputable def o69 : Obj := ⟨(.type "code"), none, (.fields [(s "read" 586), (s "Text.read" 587), (s "/claim/cut.py" 588), (.int 23 0), (.int 2 0), (.int 0 0), (.int 0 0), (.int 3 0), (r 64), (.bool true), (.int 181 0), (r 65), .none, (r 66), (r 67), (r 68), (.int 592 0), (.int 23 0), (s "/claim/cut.py" 593)].toArray), [].toArray⟩
noncomputable def o70 : Obj := ⟨(.type "function"), none, (fo "read" "Text.read" (mS 13 1) .none .none .none (s "html5lib._inputstream" 564) (r 69) .none), [].toArray⟩
noncomputable def o71 : Obj := ⟨(.type "tuple"), none, (.seq [(s "place" 595), (s "text" 596)].toArray 0), [].toArray⟩
noncomputable def o72 (P : Params) : Obj := ⟨(.type "dict"), none, (.dict [e P "__module__" 573 (s "html5lib._inputstream" 564), e P "__firstlineno__" 577 (.int 17 576), e P "__init__" 585 (r 63), e P "read" 594 (r 70), e P "__static_attributes__" 597 (r 71), e P "__dict__" 599 (r 74), e P "__weakref__" 601 (r 75), e P "__doc__" 602 .none].toArray 4), [].toArray⟩
noncomputable def o73 : Obj := ⟨(.type "type"), none, (.cls ⟨"Text", [(.type "object")], [(r 73), (.type "object")], 72, "Text", true, [], [], false, none, false⟩), [some (r 50), none, some (s "Text" 566), some (s "Text" 574), some (.builtin "object.__new__"), some (.bool true)].toArray⟩
noncomputable def o74 : Obj := ⟨(.type "getset_descriptor"), none, (.fields [(s "__dict__" 598), (r 73), (.builtin "function.__dict__"), (.builtin "function.__dict__#set")].toArray), [].toArray⟩
noncomputable def o75 : Obj := ⟨(.type "getset_descriptor"), none, (.fields [(s "__weakref__" 600), (r 73), (.builtin "ExceptionGroup.__weakref__"), .none].toArray), [].toArray⟩
noncomputable def o76 : Obj := ⟨(.type "super"), none, (.fields [(r 73), (r 73), (r 73)].toArray), [].toArray⟩
noncomputable def o77 : Obj := ⟨(.type "builtin_function_or_method"), none, (.fields [(.builtin "object.__init_subclass__"), (r 73)].toArray), [].toArray⟩
noncomputable def o78 : Obj := ⟨(.type "tuple"), none, (.seq [].toArray 0), [].toArray⟩
noncomputable def o79 : Obj := ⟨.none, none, (.fields [].toArray), [].toArray⟩
noncomputable def o80 : Obj := ⟨(.type "tuple"), none, (.seq [(s "codepoint" 608)].toArray 0), [].toArray⟩
noncomputable def o81 : Obj := ⟨(.type "tuple"), none, (.seq [].toArray 0), [].toArray⟩
noncomputable def o82 : Obj := ⟨.none, none, (.func ⟨"_is_invalid", "_is_invalid", fA (tS 14), .stmts (fB (tS 14)), fC (tS 14), 0, [], .none, .none, .none, .none, none, .none, .none, 0⟩), [].toArray⟩
noncomputable def o83 : Obj := ⟨(.type "code"), none, (.fields [(s "_is_invalid" 605), (s "_is_invalid" 606), (s "/claim/cut.py" 607), (.int 27 0), (.int 1 0), (.int 0 0), (.int 0 0), (.int 3 0), (r 78), (.bool true), (.int 181 0), (r 79), .none, (r 80), (r 81), (r 82), (.int 609 0), (.int 27 0), (s "/claim/cut.py" 610)].toArray), [].toArray⟩
noncomputable def o84 : Obj := ⟨(.type "function"), none, (fo "_is_invalid" "_is_invalid" (tS 14) .none .none .none (s "html5lib._inputstream" 564) (r 83) .none), [].toArray⟩
noncomputable def T8 (P : Params) : BT := (d (boot_o_0 P) (d (boot_o_1 P) (d (o3v7 P) (d (boot_o_7 P) (d o15 (d o31 (l o63) n) (d o47 (l o79) n)) (d o23 (d o39 (l o71) n) (l o55))) (d o11 (d o19 (d o35 (l o67) n) (d o51 (l o83) n)) (d o27 (d (o43 P) (l o75) n) (l o59)))) (d (boot_o_5 P) (d (boot_o_9 P) (d o17 (d o33 (l o65) n) (d o49 (l o81) n)) (d o25 (d o41 (l o73) n) (l o57))) (d o13 (d o21 (d o37 (l o69) n) (l o53)) (d o29 (d (o45 P) (l o77) n) (l o61))))) (d (boot_o_2 P) (d (boot_o_4 P) (d (boot_o_8 P) (d o16 (d o32 (l o64) n) (d (o48 P) (l o80) n)) (d o24 (d o40 (l (o72 P)) n) (l o56))) (d o12v3 (d o20 (d o36 (l o68) n) (d (o52 P) (l o84) n)) (d o28 (d (o44 P) (l o76) n) (l o60)))) (d (boot_o_6 P) (d (boot_o_10 P) (d o18 (d o34 (l o66) n) (d o50 (l o82) n)) (d o26 (d o42 (l o74) n) (l o58))) (d o14 (d o22 (d o38 (l o70) n) (l o54)) (d o30 (d o46 (l o78) n) (l o62))))))
noncomputable def o3v8 (P : Params) : Obj := ⟨(.type "dict"), none, (.dict [e P "__name__" 165 (s "html5lib._inputstream" 564), e P "__doc__" 166 .none, e P "__package__" 167 .none, e P "__loader__" 168 (.builtin "__main__.__loader__#opaque"), e P "__spec__" 169 .none, e P "__annotations__" 170 (r 6), e P "__builtins__" 171 (r 4), e P "__file__" 173 (s "/claim/cut.py" 172), e P "__cached__" 174 .none, e P "_wall" 193 (r 21), e P "EOF" 196 .none, e P "spaceCharacters" 202 (r 22), e P "asciiLetters" 256 (r 27), e P "digits" 268 (r 32), e P "hexDigits" 292 (r 37), e P "asciiLower" 298 (r 42), e P "entities" 428 (r 43), e P "replacementCharacters" 531 (r 46), e P "tokenTypes" 556 (r 48), e P "tagTokenTypes" 563 (r 49), e P "Text" 604 (r 73), e P "_is_invalid" 611 (r 84), e P "HTMLUnicodeInputStream" 737 (r 166)].toArray 23), [].toArray⟩
noncomputable def o12v4 : Obj := ⟨.none, none, (.fields [(.int 1 0), (.int 0 0), (r 20), (.int 10 0), (.int 0 0), (r 41), (.int 17 0), (.int 0 0), (r 55), (.int 27 0), (.int 0 0), (r 83), (.int 29 0), (.int 0 0), (r 90)].toArray), [].toArray⟩
noncomputable def o85 : Obj := ⟨(.type "tuple"), none, (.seq [(.type "object")].toArray 0), [].toArray⟩
noncomputable def o86 : Obj := ⟨(.type "builtin_function_or_method"), none, (.fields [(.builtin "type.__prepare__"), (.type "type")].toArray), [].toArray⟩
noncomputable def o87 (P : Params) : Obj := ⟨(.type "dict"), none, (.dict [e P "__module__" 619 (s "html5lib._inputstream" 564), e P "__qualname__" 621 (s "HTMLUnicodeInputStream" 620), e P "__firstlineno__" 623 (.int 29 622), e P "_defaultChunkSize" 625 (.int 10240 624), e P "__init__" 633 (r 98), e P "reset" 640 (r 105), e P "openStream" 649 (r 112), e P "_position" 662 (r 119), e P "position" 671 (r 126), e P "char" 680 (r 133), e P "readChunk" 690 (r 141), e P "characterErrorsUCS4" 699 (r 148), e P "charsUntil" 711 (r 156), e P "unget" 719 (r 163), e P "__static_attributes__" 730 (r 164)].toArray 15), [].toArray⟩
noncomputable def o88 : Obj := ⟨(.type "tuple"), none, (.seq [].toArray 0), [].toArray⟩
noncomputable def o89 : Obj := ⟨.none, none, (.fields [(.int 32 0), (.int 4 0), (r 97), (.int 38 0), (.int 4 0), (r 104), (.int 47 0), (.int 4 0), (r 111), (.int 51 0), (.int 4 0), (r 118), (.int 62 0), (.int 4 0), (r 125), (.int 66 0), (.int 4 0), (r 132), (.int 75 0), (.int 4 0), (r 140), (.int 101 0), (.int 4 0), (r 147), (.int 106 0), (.int 4 0), (r 155), (.int 125 0), (.int 4 0), (r 162)].toArray), [].toArray⟩
noncomputable def o90 : Obj := ⟨(.type "code"), none, (.fields [(s "HTMLUnicodeInputStream" 614), (s "HTMLUnicodeInputStream" 615), (s "/claim/cut.py" 616), (.int 29 0), (.int 0 0), (.int 0 0), (.int 0 0), (.int 0 0), (r 88), (.bool false), (.int 181 0), (r 89), .none, .none, .none, .none, (.int 617 0), (.int 29 0), (s "/claim/cut.py" 618)].toArray), [].toArray⟩
noncomputable def o91 : Obj := ⟨(.type "frame"), none, .plain, [some (r 90), some (r 3), some (r 87), none, some (s "html5lib._inputstream" 564), none, some (r 0)].toArray⟩
noncomputable def o92 : Obj := ⟨(.type "tuple"), none, (.seq [].toArray 0), [].toArray⟩
noncomputable def o93 : Obj := ⟨.none, none, (.fields [].toArray), [].toArray⟩
noncomputable def o94 : Obj := ⟨(.type "tuple"), none, (.seq [(s "self" 629), (s "source" 630)].toArray 0), [].toArray⟩
noncomputable def o95 : Obj := ⟨(.type "tuple"), none, (.seq [].toArray 0), [].toArray⟩
noncomputable def o96 : Obj := ⟨.none, none, (.func ⟨"__init__", "HTMLUnicodeInputStream.__init__", fA (mS 15 1), .stmts (fB (mS 15 1)), fC (mS 15 1), 0, [], .none, .none, .none, .none, none, .none, .none, 0⟩), [].toArray⟩
noncomputable def o97 : Obj := ⟨(.type "code"), none, (.fields [(s "__init__" 626), (s "HTMLUnicodeInputStream.__init__" 627), (s "/claim/cut.py" 628), (.int 32 0), (.int 2 0), (.int 0 0), (.int 0 0), (.int 3 0), (r 92), (.bool true), (.int 181 0), (r 93), .none, (r 94), (r 95), (r 96), (.int 631 0), (.int 32 0), (s "/claim/cut.py" 632)].toArray), [].toArray⟩
noncomputable def o98 : Obj := ⟨(.type "function"), none, (fo "__init__" "HTMLUnicodeInputStream.__init__" (mS 15 1) .none .none .none (s "html5lib._inputstream" 564) (r 97) .none), [].toArray⟩
noncomputable def o99 : Obj := ⟨(.type "tuple"), none, (.seq [].toArray 0), [].toArray⟩
noncomputable def o100 : Obj := ⟨.none, none, (.fields [].toArray), [].toArray⟩
noncomputable def o101 : Obj := ⟨(.type "tuple"), none, (.seq [(s "self" 637)].toArray 0), [].toArray⟩
noncomputable def o102 : Obj := ⟨(.type "tuple"), none, (.seq [].toArray 0), [].toArray⟩
noncomputable def o103 : Obj := ⟨.none, none, (.func ⟨"reset", "HTMLUnicodeInputStream.reset", fA (mS 15 2), .stmts (fB (mS 15 2)), fC (mS 15 2), 0, [], .none, .none, .none, .none, none, .none, .none, 0⟩), [].toArray⟩
noncomputable def o104 : Obj := ⟨(.type "code"), none, (.fields [(s "reset" 634), (s "HTMLUnicodeInputStream.reset" 635), (s "/claim/cut.py" 636), (.int 38 0), (.int 1 0), (.int 0 0), (.int 0 0), (.int 3 0), (r 99), (.bool true), (.int 181 0), (r 100), .none, (r 101), (r 102), (r 103), (.int 638 0), (.int 38 0), (s "/claim/cut.py" 639)].toArray), [].toArray⟩
noncomputable def o105 : Obj := ⟨(.type "function"), none, (fo "reset" "HTMLUnicodeInputStream.reset" (mS 15 2) .none .none .none (s "html5lib._inputstream" 564) (r 104) .none), [].toArray⟩
noncomputable def o106 : Obj := ⟨(.type "tuple"), none, (.seq [].toArray 0), [].toArray⟩
noncomputable def o107 : Obj := ⟨.none, none, (.fields [].toArray), [].toArray⟩
noncomputable def o108 : Obj := ⟨(.type "tuple"), none, (.seq [(s "self" 644), (s "source" 645), (s "stream" 646)].toArray 0), [].toArray⟩
noncomputable def o109 : Obj := ⟨(.type "tuple"), none, (.seq [].toArray 0), [].toArray⟩
noncomputable def o110 : Obj := ⟨.none, none, (.func ⟨"openStream", "HTMLUnicodeInputStream.openStream", fA (mS 15 3), .stmts (fB (mS 15 3)), fC (mS 15 3), 0, [], .none, .none, .none, .none, none, .none, .none, 0⟩), [].toArray⟩
noncomputable def o111 : Obj := ⟨(.type "code"), none, (.fields [(s "openStream" 641), (s "HTMLUnicodeInputStream.openStream" 642), (s "/claim/cut.py" 643), (.int 47 0), (.int 2 0), (.int 0 0), (.int 0 0), (.int 3 0), (r 106), (.bool true), (.int 181 0), (r 107), .none, (r 108), (r 109), (r 110), (.int 647 0), (.int 47 0), (s "/claim/cut.py" 648)].toArray), [].toArray⟩
noncomputable def o112 : Obj := ⟨(.type "function"), none, (fo "openStream" "HTMLUnicodeInputStream.openStream" (mS 15 3) .none .none .none (s "html5lib._inputstream" 564) (r 111) .none), [].toArray⟩
noncomputable def o113 : Obj := ⟨(.type "tuple"), none, (.seq [].toArray 0), [].toArray⟩
noncomputable def o114 : Obj := ⟨.none, none, (.fields [].toArray), [].toArray⟩
noncomputable def o115 : Obj := ⟨(.type "tuple"), none, (.seq [(s "self" 653), (s "offset" 654), (s "chunk" 655), (s "nLines" 656), (s "positionLine" 657), (s "lastLinePos" 658), (s "positionColumn" 659)].toArray 0), [].toArray⟩
noncomputable def o116 : Obj := ⟨(.type "tuple"), none, (.seq [].toArray 0), [].toArray⟩
noncomputable def o117 : Obj := ⟨.none, none, (.func ⟨"_position", "HTMLUnicodeInputStream._position", fA (mS 15 4), .stmts (fB (mS 15 4)), fC (mS 15 4), 0, [], .none, .none, .none, .none, none, .none, .none, 0⟩), [].toArray⟩
noncomputable def o118 : Obj := ⟨(.type "code"), none, (.fields [(s "_position" 650), (s "HTMLUnicodeInputStream._position" 651), (s "/claim/cut.py" 652), (.int 51 0), (.int 2 0), (.int 0 0), (.int 0 0), (.int 3 0), (r 113), (.bool true), (.int 181 0), (r 114), .none, (r 115), (r 116), (r 117), (.int 660 0), (.int 51 0), (s "/claim/cut.py" 661)].toArray), [].toArray⟩
noncomputable def o119 : Obj := ⟨(.type "function"), none, (fo "_position" "HTMLUnicodeInputStream._position" (mS 15 4) .none .none .none (s "html5lib._inputstream" 564) (r 118) .none), [].toArray⟩
noncomputable def o120 : Obj := ⟨(.type "tuple"), none, (.seq [].toArray 0), [].toArray⟩
noncomputable def o121 : Obj := ⟨.none, none, (.fields [].toArray), [].toArray⟩
noncomputable def o122 : Obj := ⟨(.type "tuple"), none, (.seq [(s "self" 666), (s "line" 667), (s "col" 668)].toArray 0), [].toArray⟩
noncomputable def o123 : Obj := ⟨(.type "tuple"), none, (.seq [].toArray 0), [].toArray⟩
noncomputable def o124 : Obj := ⟨.none, none, (.func ⟨"position", "HTMLUnicodeInputStream.position", fA (mS 15 5), .stmts (fB (mS 15 5)), fC (mS 15 5), 0, [], .none, .none, .none, .none, none, .none, .none, 0⟩), [].toArray⟩
noncomputable def o125 : Obj := ⟨(.type "code"), none, (.fields [(s "position" 663), (s "HTMLUnicodeInputStream.position" 664), (s "/claim/cut.py" 665), (.int 62 0), (.int 1 0), (.int 0 0), (.int 0 0), (.int 3 0), (r 120), (.bool true), (.int 181 0), (r 121), .none, (r 122), (r 123), (r 124), (.int 669 0), (.int 62 0), (s "/claim/cut.py" 670)].toArray), [].toArray⟩
noncomputable def o126 : Obj := ⟨(.type "function"), none, (fo "position" "HTMLUnicodeInputStream.position" (mS 15 5) .none .none .none (s "html5lib._inputstream" 564) (r 125) .none), [].toArray⟩
noncomputable def o127 : Obj := ⟨(.type "tuple"), none, (.seq [].toArray 0), [].toArray⟩
noncomputable def o128 : Obj := ⟨.none, none, (.fields [].toArray), [].toArray⟩
noncomputable def o129 : Obj := ⟨(.type "tuple"), none, (.seq [(s "self" 675), (s "chunkOffset" 676), (s "char" 677)].toArray 0), [].toArray⟩
noncomputable def o130 : Obj := ⟨(.type "tuple"), none, (.seq [].toArray 0), [].toArray⟩
noncomputable def o131 : Obj := ⟨.none, none, (.func ⟨"char", "HTMLUnicodeInputStream.char", fA (mS 15 6), .stmts (fB (mS 15 6)), fC (mS 15 6), 0, [], .none, .none, .none, .none, none, .none, .none, 0⟩), [].toArray⟩
noncomputable def o132 : Obj := ⟨(.type "code"), none, (.fields [(s "char" 672), (s "HTMLUnicodeInputStream.char" 673), (s "/claim/cut.py" 674), (.int 66 0), (.int 1 0), (.int 0 0), (.int 0 0), (.int 3 0), (r 127), (.bool true), (.int 181 0), (r 128), .none, (r 129), (r 130), (r 131), (.int 678 0), (.int 66 0), (s "/claim/cut.py" 679)].toArray), [].toArray⟩
noncomputable def o133 : Obj := ⟨(.type "function"), none, (fo "char" "HTMLUnicodeInputStream.char" (mS 15 6) .none .none .none (s "html5lib._inputstream" 564) (r 132) .none), [].toArray⟩
noncomputable def o134 : Obj := ⟨(.type "tuple"), none, (.seq [.none].toArray 0), [].toArray⟩
noncomputable def o135 : Obj := ⟨(.type "tuple"), none, (.seq [].toArray 0), [].toArray⟩
noncomputable def o136 : Obj := ⟨.none, none, (.fields [].toArray), [].toArray⟩
noncomputable def o137 : Obj := ⟨(.type "tuple"), none, (.seq [(s "self" 684), (s "chunkSize" 685), (s "data" 686), (s "lastv" 687)].toArray 0), [].toArray⟩
noncomputable def o138 : Obj := ⟨(.type "tuple"), none, (.seq [].toArray 0), [].toArray⟩
noncomputable def o139 : Obj := ⟨.none, none, (.func ⟨"readChunk", "HTMLUnicodeInputStream.readChunk", fA (mS 15 7), .stmts (fB (mS 15 7)), fC (mS 15 7), 0, [], .none, .none, .none, .none, none, .none, .none, 0⟩), [].toArray⟩
noncomputable def o140 : Obj := ⟨(.type "code"), none, (.fields [(s "readChunk" 681), (s "HTMLUnicodeInputStream.readChunk" 682), (s "/claim/cut.py" 683), (.int 75 0), (.int 2 0), (.int 0 0), (.int 0 0), (.int 3 0), (r 135), (.bool true), (.int 181 0), (r 136), .none, (r 137), (r 138), (r 139), (.int 688 0), (.int 75 0), (s "/claim/cut.py" 689)].toArray), [].toArray⟩
noncomputable def o141 : Obj := ⟨(.type "function"), none, (fo "readChunk" "HTMLUnicodeInputStream.readChunk" (mS 15 7) (r 134) .none .none (s "html5lib._inputstream" 564) (r 140) .none), [].toArray⟩
noncomputable def o142 : Obj := ⟨(.type "tuple"), none, (.seq [].toArray 0), [].toArray⟩
noncomputable def o143 : Obj := ⟨.none, none, (.fields [].toArray), [].toArray⟩
noncomputable def o144 : Obj := ⟨(.type "tuple"), none, (.seq [(s "self" 694), (s "data" 695), (s "c" 696)].toArray 0), [].toArray⟩
noncomputable def o145 : Obj := ⟨(.type "tuple"), none, (.seq [].toArray 0), [].toArray⟩
noncomputable def o146 : Obj := ⟨.none, none, (.func ⟨"characterErrorsUCS4", "HTMLUnicodeInputStream.characterErrorsUCS4", fA (mS 15 8), .stmts (fB (mS 15 8)), fC (mS 15 8), 0, [], .none, .none, .none, .none, none, .none, .none, 0⟩), [].toArray⟩
noncomputable def o147 : Obj := ⟨(.type "code"), none, (.fields [(s "characterErrorsUCS4" 691), (s "HTMLUnicodeInputStream.characterErrorsUCS4" 692), (s "/claim/cut.py" 693), (.int 101 0), (.int 2 0), (.int 0 0), (.int 0 0), (.int 3 0), (r 142), (.bool true), (.int 181 0), (r 143), .none, (r 144), (r 145), (r 146), (.int 697 0), (.int 101 0), (s "/claim/cut.py" 698)].toArray), [].toArray⟩
noncomputable def o148 : Obj := ⟨(.type "function"), none, (fo "characterErrorsUCS4" "HTMLUnicodeInputStream.characterErrorsUCS4" (mS 15 8) .none .none .none (s "html5lib._inputstream" 564) (r 147) .none), [].toArray⟩
noncomputable def o149 : Obj := ⟨(.type "tuple"), none, (.seq [(.bool false)].toArray 0), [].toArray⟩
noncomputable def o150 : Obj := ⟨(.type "tuple"), none, (.seq [].toArray 0), [].toArray⟩
noncomputable def o151 : Obj := ⟨.none, none, (.fields [].toArray), [].toArray⟩
noncomputable def o152 : Obj := ⟨(.type "tuple"), none, (.seq [(s "self" 703), (s "characters" 704), (s "opposite" 705), (s "rv" 706), (s "end" 707), (s "r" 708)].toArray 0), [].toArray⟩
noncomputable def o153 : Obj := ⟨(.type "tuple"), none, (.seq [].toArray 0), [].toArray⟩
noncomputable def o154 : Obj := ⟨.none, none, (.func ⟨"charsUntil", "HTMLUnicodeInputStream.charsUntil", fA (mS 15 9), .stmts (fB (mS 15 9)), fC (mS 15 9), 0, [], .none, .none, .none, .none, none, .none, .none, 0⟩), [].toArray⟩
noncomputable def o155 : Obj := ⟨(.type "code"), none, (.fields [(s "charsUntil" 700), (s "HTMLUnicodeInputStream.charsUntil" 701), (s "/claim/cut.py" 702), (.int 106 0), (.int 3 0), (.int 0 0), (.int 0 0), (.int 3 0), (r 150), (.bool true), (.int 181 0), (r 151), .none, (r 152), (r 153), (r 154), (.int 709 0), (.int 106 0), (s "/claim/cut.py" 710)].toArray), [].toArray⟩
noncomputable def o156 : Obj := ⟨(.type "function"), none, (fo "charsUntil" "HTMLUnicodeInputStream.charsUntil" (mS 15 9) (r 149) .none .none (s "html5lib._inputstream" 564) (r 155) .none), [].toArray⟩
noncomputable def o157 : Obj := ⟨(.type "tuple"), none, (.seq [].toArray 0), [].toArray⟩
noncomputable def o158 : Obj := ⟨.none, none, (.fields [].toArray), [].toArray⟩
noncomputable def o159 : Obj := ⟨(.type "tuple"), none, (.seq [(s "self" 715), (s "char" 716)].toArray 0), [].toArray⟩
noncomputable def o160 : Obj := ⟨(.type "tuple"), none, (.seq [].toArray 0), [].toArray⟩
noncomputable def o161 : Obj := ⟨.none, none, (.func ⟨"unget", "HTMLUnicodeInputStream.unget", fA (mS 15 10), .stmts (fB (mS 15 10)), fC (mS 15 10), 0, [], .none, .none, .none, .none, none, .none, .none, 0⟩), [].toArray⟩
noncomputable def o162 : Obj := ⟨(.type "code"), none, (.fields [(s "unget" 712), (s "HTMLUnicodeInputStream.unget" 713), (s "/claim/cut.py" 714), (.int 125 0), (.int 2 0), (.int 0 0), (.int 0 0), (.int 3 0), (r 157), (.bool true), (.int 181 0), (r 158), .none, (r 159), (r 160), (r 161), (.int 717 0), (.int 125 0), (s "/claim/cut.py" 718)].toArray), [].toArray⟩
noncomputable def o163 : Obj := ⟨(.type "function"), none, (fo "unget" "HTMLUnicodeInputStream.unget" (mS 15 10) .none .none .none (s "html5lib._inputstream" 564) (r 162) .none), [].toArray⟩
noncomputable def o164 : Obj := ⟨(.type "tuple"), none, (.seq [(s "_bufferedCharacter" 720), (s "chunk" 721), (s "chunkOffset" 722), (s "chunkSize" 723), (s "dataStream" 724), (s "errors" 725), (s "newLines" 726), (s "prevNumCols" 727), (s "prevNumLines" 728), (s "reportCharacterErrors" 729)].toArray 0), [].toArray⟩
noncomputable def o165 (P : Params) : Obj := ⟨(.type "dict"), none, (.dict [e P "__module__" 619 (s "html5lib._inputstream" 564), e P "__firstlineno__" 623 (.int 29 622), e P "_defaultChunkSize" 625 (.int 10240 624), e P "__init__" 633 (r 98), e P "reset" 640 (r 105), e P "openStream" 649 (r 112), e P "_position" 662 (r 119), e P "position" 671 (r 126), e P "char" 680 (r 133), e P "readChunk" 690 (r 141), e P "characterErrorsUCS4" 699 (r 148), e P "charsUntil" 711 (r 156), e P "unget" 719 (r 163), e P "__static_attributes__" 730 (r 164), e P "__dict__" 732 (r 167), e P "__weakref__" 734 (r 168), e P "__doc__" 735 .none].toArray 4), [].toArray⟩
noncomputable def o166 : Obj := ⟨(.type "type"), none, (.cls ⟨"HTMLUnicodeInputStream", [(.type "object")], [(r 166), (.type "object")], 165, "HTMLUnicodeInputStream", true, [], [], false, none, false⟩), [some (r 85), none, some (s "HTMLUnicodeInputStream" 612), some (s "HTMLUnicodeInputStream" 620), some (.builtin "object.__new__"), some (.bool true)].toArray⟩
noncomputable def o167 : Obj := ⟨(.type "getset_descriptor"), none, (.fields [(s "__dict__" 731), (r 166), (.builtin "function.__dict__"), (.builtin "function.__dict__#set")].toArray), [].toArray⟩
noncomputable def o168 : Obj := ⟨(.type "getset_descriptor"), none, (.fields [(s "__weakref__" 733), (r 166), (.builtin "ExceptionGroup.__weakref__"), .none].toArray), [].toArray⟩
noncomputable def o169 : Obj := ⟨(.type "super"), none, (.fields [(r 166), (r 166), (r 166)].toArray), [].toArray⟩
noncomputable def o170 : Obj := ⟨(.type "builtin_function_or_method"), none, (.fields [(.builtin "object.__init_subclass__"), (r 166)].toArray), [].toArray⟩
noncomputable def T9 (P : Params) : BT := (d (boot_o_0 P) (d (boot_o_1 P) (d (o3v8 P) (d (boot_o_7 P) (d o15 (d o31 (d o63 (l o127) n) (d o95 (l o159) n)) (d o47 (d o79 (l o143) n) (l o111))) (d o23 (d o39 (d o71 (l o135) n) (d o103 (l o167) n)) (d o55 (d (o87 P) (l o151) n) (l o119)))) (d o11 (d o19 (d o35 (d o67 (l o131) n) (d o99 (l o163) n)) (d o51 (d o83 (l o147) n) (l o115))) (d o27 (d (o43 P) (d o75 (l o139) n) (l o107)) (d o59 (d o91 (l o155) n) (l o123))))) (d (boot_o_5 P) (d (boot_o_9 P) (d o17 (d o33 (d o65 (l o129) n) (d o97 (l o161) n)) (d o49 (d o81 (l o145) n) (l o113))) (d o25 (d o41 (d o73 (l o137) n) (d o105 (l o169) n)) (d o57 (d o89 (l o153) n) (l o121)))) (d o13 (d o21 (d o37 (d o69 (l o133) n) (d o101 (l (o165 P)) n)) (d o53 (d o85 (l o149) n) (l o117))) (d o29 (d (o45 P) (d o77 (l o141) n) (l o109)) (d o61 (d o93 (l o157) n) (l o125)))))) (d (boot_o_2 P) (d (boot_o_4 P) (d (boot_o_8 P) (d o16 (d o32 (d o64 (l o128) n) (d o96 (l o160) n)) (d (o48 P) (d o80 (l o144) n) (l o112))) (d o24 (d o40 (d (o72 P) (l o136) n) (d o104 (l o168) n)) (d o56 (d o88 (l o152) n) (l o120)))) (d o12v4 (d o20 (d o36 (d o68 (l o132) n) (d o100 (l o164) n)) (d (o52 P) (d o84 (l o148) n) (l o116))) (d o28 (d (o44 P) (d o76 (l o140) n) (l o108)) (d o60 (d o92 (l o156) n) (l o124))))) (d (boot_o_6 P) (d (boot_o_10 P) (d o18 (d o34 (d o66 (l o130) n) (d o98 (l o162) n)) (d o50 (d o82 (l o146) n) (l o114))) (d o26 (d o42 (d o74 (l o138) n) (d o106 (l o170) n)) (d o58 (d o90 (l o154) n) (l o122)))) (d o14 (d o22 (d o38 (d o70 (l o134) n) (d o102 (l o166) n)) (d o54 (d o86 (l o150) n) (l o118))) (d o30 (d o46 (d o78 (l o142) n) (l o110)) (d o62 (d o94 (l o158) n) (l o126)))))))
noncomputable def o3v9 (P : Params) : Obj := ⟨(.type "dict"), none, (.dict [e P "__name__" 165 (s "html5lib._trie.py" 738), e P "__doc__" 166 .none, e P "__package__" 167 .none, e P "__loader__" 168 (.builtin "__main__.__loader__#opaque"), e P "__spec__" 169 .none, e P "__annotations__" 170 (r 6), e P "__builtins__" 171 (r 4), e P "__file__" 173 (s "/claim/cut.py" 172), e P "__cached__" 174 .none, e P "_wall" 193 (r 21), e P "EOF" 196 .none, e P "spaceCharacters" 202 (r 22), e P "asciiLetters" 256 (r 27), e P "digits" 268 (r 32), e P "hexDigits" 292 (r 37), e P "asciiLower" 298 (r 42), e P "entities" 428 (r 43), e P "replacementCharacters" 531 (r 46), e P "tokenTypes" 556 (r 48), e P "tagTokenTypes" 563 (r 49), e P "Text" 604 (r 73), e P "_is_invalid" 611 (r 84), e P "HTMLUnicodeInputStream" 737 (r 166), e P "bisect_left" 751 (r 178)].toArray 24), [].toArray⟩
noncomputable def o12v5 : Obj := ⟨.none, none, (.fields [(.int 1 0), (.int 0 0), (r 20), (.int 10 0), (.int 0 0), (r 41), (.int 17 0), (.int 0 0), (r 55), (.int 27 0), (.int 0 0), (r 83), (.int 29 0), (.int 0 0), (r 90), (.int 134 0), (.int 0 0), (r 177)].toArray), [].toArray⟩
noncomputable def o171 : Obj := ⟨(.type "tuple"), none, (.seq [(.int 0 740), .none].toArray 0), [].toArray⟩
noncomputable def o172 : Obj := ⟨(.type "tuple"), none, (.seq [].toArray 0), [].toArray⟩
noncomputable def o173 : Obj := ⟨.none, none, (.fields [].toArray), [].toArray⟩
noncomputable def o174 : Obj := ⟨(.type "tuple"), none, (.seq [(s "rows" 744), (s "key" 745), (s "low" 746), (s "high" 747), (s "middle" 748)].toArray 0), [].toArray⟩
noncomputable def o175 : Obj := ⟨(.type "tuple"), none, (.seq [].toArray 0), [].toArray⟩
noncomputable def o176 : Obj := ⟨.none, none, (.func ⟨"bisect_left", "bisect_left", fA (tS 17), .stmts (fB (tS 17)), fC (tS 17), 0, [], .none, .none, .none, .none, none, .none, .none, 0⟩), [].toArray⟩
noncomputable def o177 : Obj := ⟨(.type "code"), none, (.fields [(s "bisect_left" 741), (s "bisect_left" 742), (s "/claim/cut.py" 743), (.int 134 0), (.int 4 0), (.int 0 0), (.int 0 0), (.int 3 0), (r 172), (.bool true), (.int 181 0), (r 173), .none, (r 174), (r 175), (r 176), (.int 749 0), (.int 134 0), (s "/claim/cut.py" 750)].toArray), [].toArray⟩
noncomputable def o178 : Obj := ⟨(.type "function"), none, (fo "bisect_left" "bisect_left" (tS 17) (r 171) .none .none (s "html5lib._trie.py" 738) (r 177) .none), [].toArray⟩
noncomputable def T10 (P : Params) : BT := (d (boot_o_0 P) (d (boot_o_1 P) (d (o3v9 P) (d (boot_o_7 P) (d o15 (d o31 (d o63 (l o127) n) (d o95 (l o159) n)) (d o47 (d o79 (l o143) n) (d o111 (l o175) n))) (d o23 (d o39 (d o71 (l o135) n) (d o103 (l o167) n)) (d o55 (d (o87 P) (l o151) n) (l o119)))) (d o11 (d o19 (d o35 (d o67 (l o131) n) (d o99 (l o163) n)) (d o51 (d o83 (l o147) n) (l o115))) (d o27 (d (o43 P) (d o75 (l o139) n) (d o107 (l o171) n)) (d o59 (d o91 (l o155) n) (l o123))))) (d (boot_o_5 P) (d (boot_o_9 P) (d o17 (d o33 (d o65 (l o129) n) (d o97 (l o161) n)) (d o49 (d o81 (l o145) n) (d o113 (l o177) n))) (d o25 (d o41 (d o73 (l o137) n) (d o105 (l o169) n)) (d o57 (d o89 (l o153) n) (l o121)))) (d o13 (d o21 (d o37 (d o69 (l o133) n) (d o101 (l (o165 P)) n)) (d o53 (d o85 (l o149) n) (l o117))) (d o29 (d (o45 P) (d o77 (l o141) n) (d o109 (l o173) n)) (d o61 (d o93 (l o157) n) (l o125)))))) (d (boot_o_2 P) (d (boot_o_4 P) (d (boot_o_8 P) (d o16 (d o32 (d o64 (l o128) n) (d o96 (l o160) n)) (d (o48 P) (d o80 (l o144) n) (d o112 (l o176) n))) (d o24 (d o40 (d (o72 P) (l o136) n) (d o104 (l o168) n)) (d o56 (d o88 (l o152) n) (l o120)))) (d o12v5 (d o20 (d o36 (d o68 (l o132) n) (d o100 (l o164) n)) (d (o52 P) (d o84 (l o148) n) (l o116))) (d o28 (d (o44 P) (d o76 (l o140) n) (d o108 (l o172) n)) (d o60 (d o92 (l o156) n) (l o124))))) (d (boot_o_6 P) (d (boot_o_10 P) (d o18 (d o34 (d o66 (l o130) n) (d o98 (l o162) n)) (d o50 (d o82 (l o146) n) (d o114 (l o178) n))) (d o26 (d o42 (d o74 (l o138) n) (d o106 (l o170) n)) (d o58 (d o90 (l o154) n) (l o122)))) (d o14 (d o22 (d o38 (d o70 (l o134) n) (d o102 (l o166) n)) (d o54 (d o86 (l o150) n) (l o118))) (d o30 (d o46 (d o78 (l o142) n) (d o110 (l o174) n)) (d o62 (d o94 (l o158) n) (l o126)))))))
noncomputable def o3v10 (P : Params) : Obj := ⟨(.type "dict"), none, (.dict [e P "__name__" 165 (s "html5lib._trie.py" 738), e P "__doc__" 166 .none, e P "__package__" 167 .none, e P "__loader__" 168 (.builtin "__main__.__loader__#opaque"), e P "__spec__" 169 .none, e P "__annotations__" 170 (r 6), e P "__builtins__" 171 (r 4), e P "__file__" 173 (s "/claim/cut.py" 172), e P "__cached__" 174 .none, e P "_wall" 193 (r 21), e P "EOF" 196 .none, e P "spaceCharacters" 202 (r 22), e P "asciiLetters" 256 (r 27), e P "digits" 268 (r 32), e P "hexDigits" 292 (r 37), e P "asciiLower" 298 (r 42), e P "entities" 428 (r 43), e P "replacementCharacters" 531 (r 46), e P "tokenTypes" 556 (r 48), e P "tagTokenTypes" 563 (r 49), e P "Text" 604 (r 73), e P "_is_invalid" 611 (r 84), e P "HTMLUnicodeInputStream" 737 (r 166), e P "bisect_left" 751 (r 178), e P "Trie" 826 (r 230)].toArray 25), [].toArray⟩
noncomputable def o12v6 : Obj := ⟨.none, none, (.fields [(.int 1 0), (.int 0 0), (r 20), (.int 10 0), (.int 0 0), (r 41), (.int 17 0), (.int 0 0), (r 55), (.int 27 0), (.int 0 0), (r 83), (.int 29 0), (.int 0 0), (r 90), (.int 134 0), (.int 0 0), (r 177), (.int 144 0), (.int 0 0), (r 184)].toArray), [].toArray⟩
noncomputable def o179 : Obj := ⟨(.type "tuple"), none, (.seq [(.type "object")].toArray 0), [].toArray⟩
noncomputable def o180 : Obj := ⟨(.type "builtin_function_or_method"), none, (.fields [(.builtin "type.__prepare__"), (.type "type")].toArray), [].toArray⟩
noncomputable def o181 (P : Params) : Obj := ⟨(.type "dict"), none, (.dict [e P "__module__" 759 (s "html5lib._trie.py" 738), e P "__qualname__" 761 (s "Trie" 760), e P "__firstlineno__" 763 (.int 144 762), e P "__init__" 771 (r 192), e P "__contains__" 779 (r 199), e P "__len__" 786 (r 206), e P "__getitem__" 794 (r 213), e P "has_keys_with_prefix" 805 (r 220), e P "longest_prefix" 814 (r 227), e P "__static_attributes__" 819 (r 228)].toArray 10), [].toArray⟩
noncomputable def o182 : Obj := ⟨(.type "tuple"), none, (.seq [].toArray 0), [].toArray⟩
noncomputable def o183 : Obj := ⟨.none, none, (.fields [(.int 146 0), (.int 4 0), (r 191), (.int 152 0), (.int 4 0), (r 198), (.int 155 0), (.int 4 0), (r 205), (.int 158 0), (.int 4 0), (r 212), (.int 161 0), (.int 4 0), (r 219), (.int 173 0), (.int 4 0), (r 226)].toArray), [].toArray⟩
noncomputable def o184 : Obj := ⟨(.type "code"), none, (.fields [(s "Trie" 754), (s "Trie" 755), (s "/claim/cut.py" 756), (.int 144 0), (.int 0 0), (.int 0 0), (.int 0 0), (.int 0 0), (r 182), (.bool false), (.int 181 0), (r 183), .none, .none, .none, .none, (.int 757 0), (.int 144 0), (s "/claim/cut.py" 758)].toArray), [].toArray⟩
noncomputable def o185 : Obj := ⟨(.type "frame"), none, .plain, [some (r 184), some (r 3), some (r 181), none, some (s "html5lib._trie.py" 738), none, some (r 0)].toArray⟩
noncomputable def o186 : Obj := ⟨(.type "tuple"), none, (.seq [].toArray 0), [].toArray⟩
noncomputable def o187 : Obj := ⟨.none, none, (.fields [].toArray), [].toArray⟩
noncomputable def o188 : Obj := ⟨(.type "tuple"), none, (.seq [(s "self" 767), (s "data" 768)].toArray 0), [].toArray⟩
noncomputable def o189 : Obj := ⟨(.type "tuple"), none, (.seq [].toArray 0), [].toArray⟩
noncomputable def o190 : Obj := ⟨.none, none, (.func ⟨"__init__", "Trie.__init__", fA (mS 18 0), .stmts (fB (mS 18 0)), fC (mS 18 0), 0, [], .none, .none, .none, .none, none, .none, .none, 0⟩), [].toArray⟩
noncomputable def o191 : Obj := ⟨(.type "code"), none, (.fields [(s "__init__" 764), (s "Trie.__init__" 765), (s "/claim/cut.py" 766), (.int 146 0), (.int 2 0), (.int 0 0), (.int 0 0), (.int 3 0), (r 186), (.bool true), (.int 181 0), (r 187), .none, (r 188), (r 189), (r 190), (.int 769 0), (.int 146 0), (s "/claim/cut.py" 770)].toArray), [].toArray⟩
noncomputable def o192 : Obj := ⟨(.type "function"), none, (fo "__init__" "Trie.__init__" (mS 18 0) .none .none .none (s "html5lib._trie.py" 738) (r 191) .none), [].toArray⟩
noncomputable def o193 : Obj := ⟨(.type "tuple"), none, (.seq [].toArray 0), [].toArray⟩
noncomputable def o194 : Obj := ⟨.none, none, (.fields [].toArray), [].toArray⟩
noncomputable def o195 : Obj := ⟨(.type "tuple"), none, (.seq [(s "self" 775), (s "key" 776)].toArray 0), [].toArray⟩
noncomputable def o196 : Obj := ⟨(.type "tuple"), none, (.seq [].toArray 0), [].toArray⟩
noncomputable def o197 : Obj := ⟨.none, none, (.func ⟨"__contains__", "Trie.__contains__", fA (mS 18 1), .stmts (fB (mS 18 1)), fC (mS 18 1), 0, [], .none, .none, .none, .none, none, .none, .none, 0⟩), [].toArray⟩
noncomputable def o198 : Obj := ⟨(.type "code"), none, (.fields [(s "__contains__" 772), (s "Trie.__contains__" 773), (s "/claim/cut.py" 774), (.int 152 0), (.int 2 0), (.int 0 0), (.int 0 0), (.int 3 0), (r 193), (.bool true), (.int 181 0), (r 194), .none, (r 195), (r 196), (r 197), (.int 777 0), (.int 152 0), (s "/claim/cut.py" 778)].toArray), [].toArray⟩
noncomputable def o199 : Obj := ⟨(.type "function"), none, (fo "__contains__" "Trie.__contains__" (mS 18 1) .none .none .none (s "html5lib._trie.py" 738) (r 198) .none), [].toArray⟩
noncomputable def o200 : Obj := ⟨(.type "tuple"), none, (.seq [].toArray 0), [].toArray⟩
noncomputable def o201 : Obj := ⟨.none, none, (.fields [].toArray), [].toArray⟩
noncomputable def o202 : Obj := ⟨(.type "tuple"), none, (.seq [(s "self" 783)].toArray 0), [].toArray⟩
noncomputable def o203 : Obj := ⟨(.type "tuple"), none, (.seq [].toArray 0), [].toArray⟩
noncomputable def o204 : Obj := ⟨.none, none, (.func ⟨"__len__", "Trie.__len__", fA (mS 18 2), .stmts (fB (mS 18 2)), fC (mS 18 2), 0, [], .none, .none, .none, .none, none, .none, .none, 0⟩), [].toArray⟩
noncomputable def o205 : Obj := ⟨(.type "code"), none, (.fields [(s "__len__" 780), (s "Trie.__len__" 781), (s "/claim/cut.py" 782), (.int 155 0), (.int 1 0), (.int 0 0), (.int 0 0), (.int 3 0), (r 200), (.bool true), (.int 181 0), (r 201), .none, (r 202), (r 203), (r 204), (.int 784 0), (.int 155 0), (s "/claim/cut.py" 785)].toArray), [].toArray⟩
noncomputable def o206 : Obj := ⟨(.type "function"), none, (fo "__len__" "Trie.__len__" (mS 18 2) .none .none .none (s "html5lib._trie.py" 738) (r 205) .none), [].toArray⟩
noncomputable def o207 : Obj := ⟨(.type "tuple"), none, (.seq [].toArray 0), [].toArray⟩
noncomputable def o208 : Obj := ⟨.none, none, (.fields [].toArray), [].toArray⟩
noncomputable def o209 : Obj := ⟨(.type "tuple"), none, (.seq [(s "self" 790), (s "key" 791)].toArray 0), [].toArray⟩
noncomputable def o210 : Obj := ⟨(.type "tuple"), none, (.seq [].toArray 0), [].toArray⟩
noncomputable def o211 : Obj := ⟨.none, none, (.func ⟨"__getitem__", "Trie.__getitem__", fA (mS 18 3), .stmts (fB (mS 18 3)), fC (mS 18 3), 0, [], .none, .none, .none, .none, none, .none, .none, 0⟩), [].toArray⟩
noncomputable def o212 : Obj := ⟨(.type "code"), none, (.fields [(s "__getitem__" 787), (s "Trie.__getitem__" 788), (s "/claim/cut.py" 789), (.int 158 0), (.int 2 0), (.int 0 0), (.int 0 0), (.int 3 0), (r 207), (.bool true), (.int 181 0), (r 208), .none, (r 209), (r 210), (r 211), (.int 792 0), (.int 158 0), (s "/claim/cut.py" 793)].toArray), [].toArray⟩
noncomputable def o213 : Obj := ⟨(.type "function"), none, (fo "__getitem__" "Trie.__getitem__" (mS 18 3) .none .none .none (s "html5lib._trie.py" 738) (r 212) .none), [].toArray⟩
noncomputable def o214 : Obj := ⟨(.type "tuple"), none, (.seq [].toArray 0), [].toArray⟩
noncomputable def o215 : Obj := ⟨.none, none, (.fields [].toArray), [].toArray⟩
noncomputable def o216 : Obj := ⟨(.type "tuple"), none, (.seq [(s "self" 798), (s "prefix" 799), (s "lo" 800), (s "hi" 801), (s "i" 802)].toArray 0), [].toArray⟩
noncomputable def o217 : Obj := ⟨(.type "tuple"), none, (.seq [].toArray 0), [].toArray⟩
noncomputable def o218 : Obj := ⟨.none, none, (.func ⟨"has_keys_with_prefix", "Trie.has_keys_with_prefix", fA (mS 18 4), .stmts (fB (mS 18 4)), fC (mS 18 4), 0, [], .none, .none, .none, .none, none, .none, .none, 0⟩), [].toArray⟩
noncomputable def o219 : Obj := ⟨(.type "code"), none, (.fields [(s "has_keys_with_prefix" 795), (s "Trie.has_keys_with_prefix" 796), (s "/claim/cut.py" 797), (.int 161 0), (.int 2 0), (.int 0 0), (.int 0 0), (.int 3 0), (r 214), (.bool true), (.int 181 0), (r 215), .none, (r 216), (r 217), (r 218), (.int 803 0), (.int 161 0), (s "/claim/cut.py" 804)].toArray), [].toArray⟩
noncomputable def o220 : Obj := ⟨(.type "function"), none, (fo "has_keys_with_prefix" "Trie.has_keys_with_prefix" (mS 18 4) .none .none .none (s "html5lib._trie.py" 738) (r 219) .none), [].toArray⟩
noncomputable def o221 : Obj := ⟨(.type "tuple"), none, (.seq [].toArray 0), [].toArray⟩
noncomputable def o222 : Obj := ⟨.none, none, (.fields [].toArray), [].toArray⟩
noncomputable def o223 : Obj := ⟨(.type "tuple"), none, (.seq [(s "self" 809), (s "prefix" 810), (s "i" 811)].toArray 0), [].toArray⟩
noncomputable def o224 : Obj := ⟨(.type "tuple"), none, (.seq [].toArray 0), [].toArray⟩
noncomputable def o225 : Obj := ⟨.none, none, (.func ⟨"longest_prefix", "Trie.longest_prefix", fA (mS 18 5), .stmts (fB (mS 18 5)), fC (mS 18 5), 0, [], .none, .none, .none, .none, none, .none, .none, 0⟩), [].toArray⟩
noncomputable def o226 : Obj := ⟨(.type "code"), none, (.fields [(s "longest_prefix" 806), (s "Trie.longest_prefix" 807), (s "/claim/cut.py" 808), (.int 173 0), (.int 2 0), (.int 0 0), (.int 0 0), (.int 3 0), (r 221), (.bool true), (.int 181 0), (r 222), .none, (r 223), (r 224), (r 225), (.int 812 0), (.int 173 0), (s "/claim/cut.py" 813)].toArray), [].toArray⟩
noncomputable def o227 : Obj := ⟨(.type "function"), none, (fo "longest_prefix" "Trie.longest_prefix" (mS 18 5) .none .none .none (s "html5lib._trie.py" 738) (r 226) .none), [].toArray⟩
noncomputable def o228 : Obj := ⟨(.type "tuple"), none, (.seq [(s "_cachepoints" 815), (s "_cachestr" 816), (s "_data" 817), (s "_keys" 818)].toArray 0), [].toArray⟩
noncomputable def o229 (P : Params) : Obj := ⟨(.type "dict"), none, (.dict [e P "__module__" 759 (s "html5lib._trie.py" 738), e P "__firstlineno__" 763 (.int 144 762), e P "__init__" 771 (r 192), e P "__contains__" 779 (r 199), e P "__len__" 786 (r 206), e P "__getitem__" 794 (r 213), e P "has_keys_with_prefix" 805 (r 220), e P "longest_prefix" 814 (r 227), e P "__static_attributes__" 819 (r 228), e P "__dict__" 821 (r 231), e P "__weakref__" 823 (r 232), e P "__doc__" 824 .none].toArray 4), [].toArray⟩
noncomputable def o230 : Obj := ⟨(.type "type"), none, (.cls ⟨"Trie", [(.type "object")], [(r 230), (.type "object")], 229, "Trie", true, [], [], false, none, false⟩), [some (r 179), none, some (s "Trie" 752), some (s "Trie" 760), some (.builtin "object.__new__"), some (.bool true)].toArray⟩
noncomputable def o231 : Obj := ⟨(.type "getset_descriptor"), none, (.fields [(s "__dict__" 820), (r 230), (.builtin "function.__dict__"), (.builtin "function.__dict__#set")].toArray), [].toArray⟩
noncomputable def o232 : Obj := ⟨(.type "getset_descriptor"), none, (.fields [(s "__weakref__" 822), (r 230), (.builtin "ExceptionGroup.__weakref__"), .none].toArray), [].toArray⟩
noncomputable def o233 : Obj := ⟨(.type "super"), none, (.fields [(r 230), (r 230), (r 230)].toArray), [].toArray⟩
noncomputable def o234 : Obj := ⟨(.type "builtin_function_or_method"), none, (.fields [(.builtin "object.__init_subclass__"), (r 230)].toArray), [].toArray⟩
noncomputable def T11 (P : Params) : BT := (d (boot_o_0 P) (d (boot_o_1 P) (d (o3v10 P) (d (boot_o_7 P) (d o15 (d o31 (d o63 (l o127) (l o191)) (d o95 (l o159) (l o223))) (d o47 (d o79 (l o143) (l o207)) (d o111 (l o175) n))) (d o23 (d o39 (d o71 (l o135) (l o199)) (d o103 (l o167) (l o231))) (d o55 (d (o87 P) (l o151) (l o215)) (d o119 (l o183) n)))) (d o11 (d o19 (d o35 (d o67 (l o131) (l o195)) (d o99 (l o163) (l o227))) (d o51 (d o83 (l o147) (l o211)) (d o115 (l o179) n))) (d o27 (d (o43 P) (d o75 (l o139) (l o203)) (d o107 (l o171) n)) (d o59 (d o91 (l o155) (l o219)) (d o123 (l o187) n))))) (d (boot_o_5 P) (d (boot_o_9 P) (d o17 (d o33 (d o65 (l o129) (l o193)) (d o97 (l o161) (l o225))) (d o49 (d o81 (l o145) (l o209)) (d o113 (l o177) n))) (d o25 (d o41 (d o73 (l o137) (l o201)) (d o105 (l o169) (l o233))) (d o57 (d o89 (l o153) (l o217)) (d o121 (l o185) n)))) (d o13 (d o21 (d o37 (d o69 (l o133) (l o197)) (d o101 (l (o165 P)) (l (o229 P)))) (d o53 (d o85 (l o149) (l o213)) (d o117 (l (o181 P)) n))) (d o29 (d (o45 P) (d o77 (l o141) (l o205)) (d o109 (l o173) n)) (d o61 (d o93 (l o157) (l o221)) (d o125 (l o189) n)))))) (d (boot_o_2 P) (d (boot_o_4 P) (d (boot_o_8 P) (d o16 (d o32 (d o64 (l o128) (l o192)) (d o96 (l o160) (l o224))) (d (o48 P) (d o80 (l o144) (l o208)) (d o112 (l o176) n))) (d o24 (d o40 (d (o72 P) (l o136) (l o200)) (d o104 (l o168) (l o232))) (d o56 (d o88 (l o152) (l o216)) (d o120 (l o184) n)))) (d o12v6 (d o20 (d o36 (d o68 (l o132) (l o196)) (d o100 (l o164) (l o228))) (d (o52 P) (d o84 (l o148) (l o212)) (d o116 (l o180) n))) (d o28 (d (o44 P) (d o76 (l o140) (l o204)) (d o108 (l o172) n)) (d o60 (d o92 (l o156) (l o220)) (d o124 (l o188) n))))) (d (boot_o_6 P) (d (boot_o_10 P) (d o18 (d o34 (d o66 (l o130) (l o194)) (d o98 (l o162) (l o226))) (d o50 (d o82 (l o146) (l o210)) (d o114 (l o178) n))) (d o26 (d o42 (d o74 (l o138) (l o202)) (d o106 (l o170) (l o234))) (d o58 (d o90 (l o154) (l o218)) (d o122 (l o186) n)))) (d o14 (d o22 (d o38 (d o70 (l o134) (l o198)) (d o102 (l o166) (l o230))) (d o54 (d o86 (l o150) (l o214)) (d o118 (l o182) n))) (d o30 (d o46 (d o78 (l o142) (l o206)) (d o110 (l o174) n)) (d o62 (d o94 (l o158) (l o222)) (d o126 (l o190) n)))))))
noncomputable def o3v11 (P : Params) : Obj := ⟨(.type "dict"), none, (.dict [e P "__name__" 165 (s "html5lib._tokenizer" 827), e P "__doc__" 166 .none, e P "__package__" 167 .none, e P "__loader__" 168 (.builtin "__main__.__loader__#opaque"), e P "__spec__" 169 .none, e P "__annotations__" 170 (r 6), e P "__builtins__" 171 (r 4), e P "__file__" 173 (s "/claim/cut.py" 172), e P "__cached__" 174 .none, e P "_wall" 193 (r 21), e P "EOF" 196 .none, e P "spaceCharacters" 202 (r 22), e P "asciiLetters" 256 (r 27), e P "digits" 268 (r 32), e P "hexDigits" 292 (r 37), e P "asciiLower" 298 (r 42), e P "entities" 428 (r 43), e P "replacementCharacters" 531 (r 46), e P "tokenTypes" 556 (r 48), e P "tagTokenTypes" 563 (r 49), e P "Text" 604 (r 73), e P "_is_invalid" 611 (r 84), e P "HTMLUnicodeInputStream" 737 (r 166), e P "bisect_left" 751 (r 178), e P "Trie" 826 (r 230)].toArray 25), [].toArray⟩
noncomputable def T12 (P : Params) : BT := (d (boot_o_0 P) (d (boot_o_1 P) (d (o3v11 P) (d (boot_o_7 P) (d o15 (d o31 (d o63 (l o127) (l o191)) (d o95 (l o159) (l o223))) (d o47 (d o79 (l o143) (l o207)) (d o111 (l o175) n))) (d o23 (d o39 (d o71 (l o135) (l o199)) (d o103 (l o167) (l o231))) (d o55 (d (o87 P) (l o151) (l o215)) (d o119 (l o183) n)))) (d o11 (d o19 (d o35 (d o67 (l o131) (l o195)) (d o99 (l o163) (l o227))) (d o51 (d o83 (l o147) (l o211)) (d o115 (l o179) n))) (d o27 (d (o43 P) (d o75 (l o139) (l o203)) (d o107 (l o171) n)) (d o59 (d o91 (l o155) (l o219)) (d o123 (l o187) n))))) (d (boot_o_5 P) (d (boot_o_9 P) (d o17 (d o33 (d o65 (l o129) (l o193)) (d o97 (l o161) (l o225))) (d o49 (d o81 (l o145) (l o209)) (d o113 (l o177) n))) (d o25 (d o41 (d o73 (l o137) (l o201)) (d o105 (l o169) (l o233))) (d o57 (d o89 (l o153) (l o217)) (d o121 (l o185) n)))) (d o13 (d o21 (d o37 (d o69 (l o133) (l o197)) (d o101 (l (o165 P)) (l (o229 P)))) (d o53 (d o85 (l o149) (l o213)) (d o117 (l (o181 P)) n))) (d o29 (d (o45 P) (d o77 (l o141) (l o205)) (d o109 (l o173) n)) (d o61 (d o93 (l o157) (l o221)) (d o125 (l o189) n)))))) (d (boot_o_2 P) (d (boot_o_4 P) (d (boot_o_8 P) (d o16 (d o32 (d o64 (l o128) (l o192)) (d o96 (l o160) (l o224))) (d (o48 P) (d o80 (l o144) (l o208)) (d o112 (l o176) n))) (d o24 (d o40 (d (o72 P) (l o136) (l o200)) (d o104 (l o168) (l o232))) (d o56 (d o88 (l o152) (l o216)) (d o120 (l o184) n)))) (d o12v6 (d o20 (d o36 (d o68 (l o132) (l o196)) (d o100 (l o164) (l o228))) (d (o52 P) (d o84 (l o148) (l o212)) (d o116 (l o180) n))) (d o28 (d (o44 P) (d o76 (l o140) (l o204)) (d o108 (l o172) n)) (d o60 (d o92 (l o156) (l o220)) (d o124 (l o188) n))))) (d (boot_o_6 P) (d (boot_o_10 P) (d o18 (d o34 (d o66 (l o130) (l o194)) (d o98 (l o162) (l o226))) (d o50 (d o82 (l o146) (l o210)) (d o114 (l o178) n))) (d o26 (d o42 (d o74 (l o138) (l o202)) (d o106 (l o170) (l o234))) (d o58 (d o90 (l o154) (l o218)) (d o122 (l o186) n)))) (d o14 (d o22 (d o38 (d o70 (l o134) (l o198)) (d o102 (l o166) (l o230))) (d o54 (d o86 (l o150) (l o214)) (d o118 (l o182) n))) (d o30 (d o46 (d o78 (l o142) (l o206)) (d o110 (l o174) n)) (d o62 (d o94 (l o158) (l o222)) (d o126 (l o190) n)))))))
noncomputable def o3v12 (P : Params) : Obj := ⟨(.type "dict"), none, (.dict [e P "__name__" 165 (s "html5lib._tokenizer" 827), e P "__doc__" 166 .none, e P "__package__" 167 .none, e P "__loader__" 168 (.builtin "__main__.__loader__#opaque"), e P "__spec__" 169 .none, e P "__annotations__" 170 (r 6), e P "__builtins__" 171 (r 4), e P "__file__" 173 (s "/claim/cut.py" 172), e P "__cached__" 174 .none, e P "_wall" 193 (r 21), e P "EOF" 196 .none, e P "spaceCharacters" 202 (r 22), e P "asciiLetters" 256 (r 27), e P "digits" 268 (r 32), e P "hexDigits" 292 (r 37), e P "asciiLower" 298 (r 42), e P "entities" 428 (r 43), e P "replacementCharacters" 531 (r 46), e P "tokenTypes" 556 (r 48), e P "tagTokenTypes" 563 (r 49), e P "Text" 604 (r 73), e P "_is_invalid" 611 (r 84), e P "HTMLUnicodeInputStream" 737 (r 166), e P "bisect_left" 751 (r 178), e P "Trie" 826 (r 230), e P "entitiesTrie" 843 (r 236)].toArray 26), [].toArray⟩
noncomputable def o235 (P : Params) : Obj := ⟨(.type "dict"), none, (.dict [e P "_data" 832 (r 43), e P "_keys" 834 (r 243), e P "_cachestr" 837 (s "" 835), e P "_cachepoints" 842 (r 246)].toArray 4), [].toArray⟩
noncomputable def o236 : Obj := ⟨(r 230), some 235, .plain, [].toArray⟩
noncomputable def o237 (P : Params) : Obj := ⟨(.type "frame"), none, (.dict [e P "self" 829 (r 236), e P "data" 830 (r 43)].toArray 2), [].toArray⟩
noncomputable def o238 : Obj := ⟨(.type "dict_keys"), none, (.fields [(r 43)].toArray), [].toArray⟩
noncomputable def o239 : Obj := ⟨(.type "list"), none, (.seq [(s "AMP" 299), (s "AMP;" 302), (s "Eacute" 305), (s "Eacute;" 308), (s "Mopf;" 311), (s "ac;" 314), (s "acE;" 317), (s "acute" 320), (s "acute;" 323), (s "amp" 326), (s "amp;" 329), (s "ang;" 332), (s "angle;" 335), (s "bne;" 338), (s "copy" 341), (s "copy;" 344), (s "eacute" 347), (s "eacute;" 350), (s "frac12" 353), (s "frac12;" 356), (s "gt" 359), (s "gt;" 362), (s "lt" 365), (s "lt;" 368), (s "nbsp" 371), (s "nbsp;" 374), (s "not" 377), (s "not;" 380), (s "notin;" 383), (s "notni;" 386), (s "para" 389), (s "para;" 392), (s "parallel;" 395), (s "quot" 398), (s "quot;" 401), (s "sup1" 403), (s "sup1;" 405), (s "sup2" 407), (s "sup2;" 409), (s "sup;" 411), (s "times" 413), (s "times;" 415), (s "timesb;" 417)].toArray 45), [].toArray⟩
noncomputable def o240 : Obj := ⟨(.type "dict_keyiterator"), none, (.fields [.none, (.int 43 0), (.int 43 0), (.int 43 0)].toArray), [].toArray⟩
noncomputable def o241 : Obj := ⟨(.type "tuple"), none, (.seq [].toArray 0), [].toArray⟩
noncomputable def o242 : Obj := ⟨(.type "StopIteration"), none, (.fields [(r 241), .none, .none, .none, (.bool false), .none].toArray), [].toArray⟩
noncomputable def o243 : Obj := ⟨(.type "list"), none, (.seq [(s "AMP" 299), (s "AMP;" 302), (s "Eacute" 305), (s "Eacute;" 308), (s "Mopf;" 311), (s "ac;" 314), (s "acE;" 317), (s "acute" 320), (s "acute;" 323), (s "amp" 326), (s "amp;" 329), (s "ang;" 332), (s "angle;" 335), (s "bne;" 338), (s "copy" 341), (s "copy;" 344), (s "eacute" 347), (s "eacute;" 350), (s "frac12" 353), (s "frac12;" 356), (s "gt" 359), (s "gt;" 362), (s "lt" 365), (s "lt;" 368), (s "nbsp" 371), (s "nbsp;" 374), (s "not" 377), (s "not;" 380), (s "notin;" 383), (s "notni;" 386), (s "para" 389), (s "para;" 392), (s "parallel;" 395), (s "quot" 398), (s "quot;" 401), (s "sup1" 403), (s "sup1;" 405), (s "sup2" 407), (s "sup2;" 409), (s "sup;" 411), (s "times" 413), (s "times;" 415), (s "timesb;" 417)].toArray 2), [].toArray⟩
noncomputable def o244 : Obj := ⟨(.type "tuple"), none, (.seq [(s "AMP" 299), (s "AMP;" 302), (s "Eacute" 305), (s "Eacute;" 308), (s "Mopf;" 311), (s "ac;" 314), (s "acE;" 317), (s "acute" 320), (s "acute;" 323), (s "amp" 326), (s "amp;" 329), (s "ang;" 332), (s "angle;" 335), (s "bne;" 338), (s "copy" 341), (s "copy;" 344), (s "eacute" 347), (s "eacute;" 350), (s "frac12" 353), (s "frac12;" 356), (s "gt" 359), (s "gt;" 362), (s "lt" 365), (s "lt;" 368), (s "nbsp" 371), (s "nbsp;" 374), (s "not" 377), (s "not;" 380), (s "notin;" 383), (s "notni;" 386), (s "para" 389), (s "para;" 392), (s "parallel;" 395), (s "quot" 398), (s "quot;" 401), (s "sup1" 403), (s "sup1;" 405), (s "sup2" 407), (s "sup2;" 409), (s "sup;" 411), (s "times" 413), (s "times;" 415), (s "timesb;" 417)].toArray 0), [].toArray⟩
noncomputable def o245 : Obj := ⟨(.type "list"), none, (.seq [].toArray 0), [].toArray⟩
noncomputable def o246 : Obj := ⟨(.type "tuple"), none, (.seq [(.int 0 838), (.int 43 840)].toArray 0), [].toArray⟩
noncomputable def T13 (P : Params) : BT := (d (boot_o_0 P) (d (boot_o_1 P) (d (o3v12 P) (d (boot_o_7 P) (d o15 (d o31 (d o63 (l o127) (l o191)) (d o95 (l o159) (l o223))) (d o47 (d o79 (l o143) (l o207)) (d o111 (l o175) (l o239)))) (d o23 (d o39 (d o71 (l o135) (l o199)) (d o103 (l o167) (l o231))) (d o55 (d (o87 P) (l o151) (l o215)) (d o119 (l o183) n)))) (d o11 (d o19 (d o35 (d o67 (l o131) (l o195)) (d o99 (l o163) (l o227))) (d o51 (d o83 (l o147) (l o211)) (d o115 (l o179) (l o243)))) (d o27 (d (o43 P) (d o75 (l o139) (l o203)) (d o107 (l o171) (l (o235 P)))) (d o59 (d o91 (l o155) (l o219)) (d o123 (l o187) n))))) (d (boot_o_5 P) (d (boot_o_9 P) (d o17 (d o33 (d o65 (l o129) (l o193)) (d o97 (l o161) (l o225))) (d o49 (d o81 (l o145) (l o209)) (d o113 (l o177) (l o241)))) (d o25 (d o41 (d o73 (l o137) (l o201)) (d o105 (l o169) (l o233))) (d o57 (d o89 (l o153) (l o217)) (d o121 (l o185) n)))) (d o13 (d o21 (d o37 (d o69 (l o133) (l o197)) (d o101 (l (o165 P)) (l (o229 P)))) (d o53 (d o85 (l o149) (l o213)) (d o117 (l (o181 P)) (l o245)))) (d o29 (d (o45 P) (d o77 (l o141) (l o205)) (d o109 (l o173) (l (o237 P)))) (d o61 (d o93 (l o157) (l o221)) (d o125 (l o189) n)))))) (d (boot_o_2 P) (d (boot_o_4 P) (d (boot_o_8 P) (d o16 (d o32 (d o64 (l o128) (l o192)) (d o96 (l o160) (l o224))) (d (o48 P) (d o80 (l o144) (l o208)) (d o112 (l o176) (l o240)))) (d o24 (d o40 (d (o72 P) (l o136) (l o200)) (d o104 (l o168) (l o232))) (d o56 (d o88 (l o152) (l o216)) (d o120 (l o184) n)))) (d o12v6 (d o20 (d o36 (d o68 (l o132) (l o196)) (d o100 (l o164) (l o228))) (d (o52 P) (d o84 (l o148) (l o212)) (d o116 (l o180) (l o244)))) (d o28 (d (o44 P) (d o76 (l o140) (l o204)) (d o108 (l o172) (l o236))) (d o60 (d o92 (l o156) (l o220)) (d o124 (l o188) n))))) (d (boot_o_6 P) (d (boot_o_10 P) (d o18 (d o34 (d o66 (l o130) (l o194)) (d o98 (l o162) (l o226))) (d o50 (d o82 (l o146) (l o210)) (d o114 (l o178) (l o242)))) (d o26 (d o42 (d o74 (l o138) (l o202)) (d o106 (l o170) (l o234))) (d o58 (d o90 (l o154) (l o218)) (d o122 (l o186) n)))) (d o14 (d o22 (d o38 (d o70 (l o134) (l o198)) (d o102 (l o166) (l o230))) (d o54 (d o86 (l o150) (l o214)) (d o118 (l o182) (l o246)))) (d o30 (d o46 (d o78 (l o142) (l o206)) (d o110 (l o174) (l o238))) (d o62 (d o94 (l o158) (l o222)) (d o126 (l o190) n)))))))
noncomputable def o3v13 (P : Params) : Obj := ⟨(.type "dict"), none, (.dict [e P "__name__" 165 (s "html5lib._tokenizer" 827), e P "__doc__" 166 .none, e P "__package__" 167 .none, e P "__loader__" 168 (.builtin "__main__.__loader__#opaque"), e P "__spec__" 169 .none, e P "__annotations__" 170 (r 6), e P "__builtins__" 171 (r 4), e P "__file__" 173 (s "/claim/cut.py" 172), e P "__cached__" 174 .none, e P "_wall" 193 (r 21), e P "EOF" 196 .none, e P "spaceCharacters" 202 (r 22), e P "asciiLetters" 256 (r 27), e P "digits" 268 (r 32), e P "hexDigits" 292 (r 37), e P "asciiLower" 298 (r 42), e P "entities" 428 (r 43), e P "replacementCharacters" 531 (r 46), e P "tokenTypes" 556 (r 48), e P "tagTokenTypes" 563 (r 49), e P "Text" 604 (r 73), e P "_is_invalid" 611 (r 84), e P "HTMLUnicodeInputStream" 737 (r 166), e P "bisect_left" 751 (r 178), e P "Trie" 826 (r 230), e P "entitiesTrie" 843 (r 236), e P "HTMLTokenizer" 1443 (r 762)].toArray 27), [].toArray⟩
noncomputable def o12v7 : Obj := ⟨.none, none, (.fields [(.int 1 0), (.int 0 0), (r 20), (.int 10 0), (.int 0 0), (r 41), (.int 17 0), (.int 0 0), (r 55), (.int 27 0), (.int 0 0), (r 83), (.int 29 0), (.int 0 0), (r 90), (.int 134 0), (.int 0 0), (r 177), (.int 144 0), (.int 0 0), (r 184), (.int 182 0), (.int 0 0), (r 252)].toArray), [].toArray⟩
noncomputable def o247 : Obj := ⟨(.type "tuple"), none, (.seq [(.type "object")].toArray 0), [].toArray⟩
noncomputable def o248 : Obj := ⟨(.type "builtin_function_or_method"), none, (.fields [(.builtin "type.__prepare__"), (.type "type")].toArray), [].toArray⟩
noncomputable def o249 (P : Params) : Obj := ⟨(.type "dict"), none, (.dict [e P "__module__" 851 (s "html5lib._tokenizer" 827), e P "__qualname__" 853 (s "HTMLTokenizer" 852), e P "__firstlineno__" 855 (.int 182 854), e P "__init__" 864 (r 261), e P "__iter__" 871 (r 268), e P "consumeNumberEntity" 886 (r 275), e P "consumeEntity" 901 (r 283), e P "processEntityInAttribute" 909 (r 290), e P "emitCurrentToken" 919 (r 297), e P "dataState" 928 (r 304), e P "entityDataState" 935 (r 311), e P "rcdataState" 942 (r 318), e P "characterReferenceInRcdata" 949 (r 325), e P "rawtextState" 956 (r 332), e P "scriptDataState" 963 (r 339), e P "plaintextState" 970 (r 346), e P "tagOpenState" 978 (r 353), e P "closeTagOpenState" 986 (r 360), e P "tagNameState" 994 (r 367), e P "rcdataLessThanSignState" 1001 (r 374), e P "rcdataEndTagOpenState" 1008 (r 381), e P "rcdataEndTagNameState" 1015 (r 388), e P "rawtextLessThanSignState" 1022 (r 395), e P "rawtextEndTagOpenState" 1029 (r 402), e P "rawtextEndTagNameState" 1036 (r 409), e P "scriptDataLessThanSignState" 1043 (r 416), e P "scriptDataEndTagOpenState" 1050 (r 423), e P "scriptDataEndTagNameState" 1057 (r 430), e P "scriptDataEscapeStartState" 1064 (r 437), e P "scriptDataEscapeStartDashState" 1071 (r 444), e P "scriptDataEscapedState" 1078 (r 451), e P "scriptDataEscapedDashState" 1085 (r 458), e P "scriptDataEscapedDashDashState" 1092 (r 465), e P "scriptDataEscapedLessThanSignState" 1099 (r 472), e P "scriptDataEscapedEndTagOpenState" 1106 (r 479), e P "scriptDataEscapedEndTagNameState" 1113 (r 486), e P "scriptDataDoubleEscapeStartState" 1120 (r 493), e P "scriptDataDoubleEscapedState" 1127 (r 500), e P "scriptDataDoubleEscapedDashState" 1134 (r 507), e P "scriptDataDoubleEscapedDashDashState" 1141 (r 514), e P "scriptDataDoubleEscapedLessThanSignState" 1148 (r 521), e P "scriptDataDoubleEscapeEndState" 1155 (r 528), e P "beforeAttributeNameState" 1163 (r 535), e P "attributeNameState" 1175 (r 542), e P "afterAttributeNameState" 1183 (r 549), e P "beforeAttributeValueState" 1191 (r 556), e P "attributeValueDoubleQuotedState" 1199 (r 563), e P "attributeValueSingleQuotedState" 1207 (r 570), e P "attributeValueUnQuotedState" 1215 (r 577), e P "afterAttributeValueState" 1223 (r 584), e P "selfClosingStartTagState" 1231 (r 591), e P "bogusCommentState" 1239 (r 598), e P "markupDeclarationOpenState" 1249 (r 605), e P "commentStartState" 1257 (r 612), e P "commentStartDashState" 1265 (r 619), e P "commentState" 1273 (r 626), e P "commentEndDashState" 1281 (r 633), e P "commentEndState" 1289 (r 640), e P "commentEndBangState" 1297 (r 647), e P "doctypeState" 1305 (r 654), e P "beforeDoctypeNameState" 1313 (r 661), e P "doctypeNameState" 1321 (r 668), e P "afterDoctypeNameState" 1331 (r 675), e P "afterDoctypePublicKeywordState" 1339 (r 682), e P "beforeDoctypePublicIdentifierState" 1347 (r 689), e P "doctypePublicIdentifierDoubleQuotedState" 1355 (r 696), e P "doctypePublicIdentifierSingleQuotedState" 1363 (r 703), e P "afterDoctypePublicIdentifierState" 1371 (r 710), e P "betweenDoctypePublicAndSystemIdentifiersState" 1379 (r 717), e P "afterDoctypeSystemKeywordState" 1387 (r 724), e P "beforeDoctypeSystemIdentifierState" 1395 (r 731), e P "doctypeSystemIdentifierDoubleQuotedState" 1403 (r 738), e P "doctypeSystemIdentifierSingleQuotedState" 1411 (r 745), e P "afterDoctypeSystemIdentifierState" 1419 (r 752), e P "bogusDoctypeState" 1427 (r 759), e P "__static_attributes__" 1436 (r 760)].toArray 76), [].toArray⟩
noncomputable def o250 : Obj := ⟨(.type "tuple"), none, (.seq [].toArray 0), [].toArray⟩
noncomputable def o251 : Obj := ⟨.none, none, (.fields [(.int 184 0), (.int 4 0), (r 260), (.int 193 0), (.int 4 0), (r 267), (.int 201 0), (.int 4 0), (r 274), (.int 232 0), (.int 4 0), (r 282), (.int 283 0), (.int 4 0), (r 289), (.int 286 0), (.int 4 0), (r 296), (.int 304 0), (.int 4 0), (r 303), (.int 322 0), (.int 4 0), (r 310), (.int 327 0), (.int 4 0), (r 317), (.int 330 0), (.int 4 0), (r 324), (.int 333 0), (.int 4 0), (r 331), (.int 336 0), (.int 4 0), (r 338), (.int 339 0), (.int 4 0), (r 345), (.int 342 0), (.int 4 0), (r 352), (.int 366 0), (.int 4 0), (r 359), (.int 384 0), (.int 4 0), (r 366), (.int 402 0), (.int 4 0), (r 373), (.int 405 0), (.int 4 0), (r 380), (.int 408 0), (.int 4 0), (r 387), (.int 411 0), (.int 4 0), (r 394), (.int 414 0), (.int 4 0), (r 401), (.int 417 0), (.int 4 0), (r 408), (.int 420 0), (.int 4 0), (r 415), (.int 423 0), (.int 4 0), (r 422), (.int 426 0), (.int 4 0), (r 429), (.int 429 0), (.int 4 0), (r 436), (.int 432 0), (.int 4 0), (r 443), (.int 435 0), (.int 4 0), (r 450), (.int 438 0), (.int 4 0), (r 457), (.int 441 0), (.int 4 0), (r 464), (.int 444 0), (.int 4 0), (r 471), (.int 447 0), (.int 4 0), (r 478), (.int 450 0), (.int 4 0), (r 485), (.int 453 0), (.int 4 0), (r 492), (.int 456 0), (.int 4 0), (r 499), (.int 459 0), (.int 4 0), (r 506), (.int 462 0), (.int 4 0), (r 513), (.int 465 0), (.int 4 0), (r 520), (.int 468 0), (.int 4 0), (r 527), (.int 471 0), (.int 4 0), (r 534), (.int 498 0), (.int 4 0), (r 541), (.int 537 0), (.int 4 0), (r 548), (.int 566 0), (.int 4 0), (r 555), (.int 596 0), (.int 4 0), (r 562), (.int 612 0), (.int 4 0), (r 569), (.int 628 0), (.int 4 0), (r 576), (.int 649 0), (.int 4 0), (r 583), (.int 667 0), (.int 4 0), (r 590), (.int 682 0), (.int 4 0), (r 597), (.int 690 0), (.int 4 0), (r 604), (.int 715 0), (.int 4 0), (r 611), (.int 735 0), (.int 4 0), (r 618), (.int 755 0), (.int 4 0), (r 625), (.int 770 0), (.int 4 0), (r 632), (.int 787 0), (.int 4 0), (r 639), (.int 812 0), (.int 4 0), (r 646), (.int 833 0), (.int 4 0), (r 653), (.int 848 0), (.int 4 0), (r 660), (.int 871 0), (.int 4 0), (r 667), (.int 894 0), (.int 4 0), (r 674), (.int 934 0), (.int 4 0), (r 681), (.int 952 0), (.int 4 0), (r 688), (.int 978 0), (.int 4 0), (r 695), (.int 999 0), (.int 4 0), (r 702), (.int 1020 0), (.int 4 0), (r 709), (.int 1046 0), (.int 4 0), (r 716), (.int 1070 0), (.int 4 0), (r 723), (.int 1088 0), (.int 4 0), (r 730), (.int 1114 0), (.int 4 0), (r 737), (.int 1135 0), (.int 4 0), (r 744), (.int 1156 0), (.int 4 0), (r 751), (.int 1173 0), (.int 4 0), (r 758)].toArray), [].toArray⟩
noncomputable def o252 : Obj := ⟨(.type "code"), none, (.fields [(s "HTMLTokenizer" 846), (s "HTMLTokenizer" 847), (s "/claim/cut.py" 848), (.int 182 0), (.int 0 0), (.int 0 0), (.int 0 0), (.int 0 0), (r 250), (.bool false), (.int 181 0), (r 251), .none, .none, .none, .none, (.int 849 0), (.int 182 0), (s "/claim/cut.py" 850)].toArray), [].toArray⟩
noncomputable def o253 : Obj := ⟨(.type "frame"), none, .plain, [some (r 252), some (r 3), some (r 249), none, some (s "html5lib._tokenizer" 827), none, some (r 0)].toArray⟩
noncomputable def o254 : Obj := ⟨(.type "tuple"), none, (.seq [.none].toArray 0), [].toArray⟩
noncomputable def o255 : Obj := ⟨(.type "tuple"), none, (.seq [].toArray 0), [].toArray⟩
noncomputable def o256 : Obj := ⟨.none, none, (.fields [].toArray), [].toArray⟩
noncomputable def o257 : Obj := ⟨(.type "tuple"), none, (.seq [(s "self" 859), (s "stream" 860), (s "parser" 861)].toArray 0), [].toArray⟩
noncomputable def o258 : Obj := ⟨(.type "tuple"), none, (.seq [].toArray 0), [].toArray⟩
noncomputable def o259 : Obj := ⟨.none, none, (.func ⟨"__init__", "HTMLTokenizer.__init__", fA (mS 21 0), .stmts (fB (mS 21 0)), fC (mS 21 0), 0, [], .none, .none, .none, .none, none, .none, .none, 0⟩), [].toArray⟩
noncomputable def o260 : Obj := ⟨(.type "code"), none, (.fields [(s "__init__" 856), (s "HTMLTokenizer.__init__" 857), (s "/claim/cut.py" 858), (.int 184 0), (.int 3 0), (.int 0 0), (.int 0 0), (.int 3 0), (r 255), (.bool true), (.int 181 0), (r 256), .none, (r 257), (r 258), (r 259), (.int 862 0), (.int 184 0), (s "/claim/cut.py" 863)].toArray), [].toArray⟩
noncomputable def o261 : Obj := ⟨(.type "function"), none, (fo "__init__" "HTMLTokenizer.__init__" (mS 21 0) (r 254) .none .none (s "html5lib._tokenizer" 827) (r 260) .none), [].toArray⟩
noncomputable def o262 : Obj := ⟨(.type "tuple"), none, (.seq [].toArray 0), [].toArray⟩
noncomputable def o263 : Obj := ⟨.none, none, (.fields [].toArray), [].toArray⟩
noncomputable def o264 : Obj := ⟨(.type "tuple"), none, (.seq [(s "self" 868)].toArray 0), [].toArray⟩
noncomputable def o265 : Obj := ⟨(.type "tuple"), none, (.seq [].toArray 0), [].toArray⟩
noncomputable def o266 : Obj := ⟨.none, none, (.func ⟨"__iter__", "HTMLTokenizer.__iter__", fA (mS 21 1), .stmts (fB (mS 21 1)), fC (mS 21 1), 0, [], .none, .none, .none, .none, none, .none, .none, 0⟩), [].toArray⟩
noncomputable def o267 : Obj := ⟨(.type "code"), none, (.fields [(s "__iter__" 865), (s "HTMLTokenizer.__iter__" 866), (s "/claim/cut.py" 867), (.int 193 0), (.int 1 0), (.int 0 0), (.int 0 0), (.int 35 0), (r 262), (.bool true), (.int 181 0), (r 263), .none, (r 264), (r 265), (r 266), (.int 869 0), (.int 193 0), (s "/claim/cut.py" 870)].toArray), [].toArray⟩
noncomputable def o268 : Obj := ⟨(.type "function"), none, (fo "__iter__" "HTMLTokenizer.__iter__" (mS 21 1) .none .none .none (s "html5lib._tokenizer" 827) (r 267) .none), [].toArray⟩
noncomputable def o269 : Obj := ⟨(.type "tuple"), none, (.seq [].toArray 0), [].toArray⟩
noncomputable def o270 : Obj := ⟨.none, none, (.fields [].toArray), [].toArray⟩
noncomputable def o271 : Obj := ⟨(.type "tuple"), none, (.seq [(s "self" 875), (s "isHex" 876), (s "allowed" 877), (s "radix" 878), (s "charStack" 879), (s "c" 880), (s "charAsInt" 881), (s "char" 882), (s "v" 883)].toArray 0), [].toArray⟩
noncomputable def o272 : Obj := ⟨(.type "tuple"), none, (.seq [].toArray 0), [].toArray⟩
noncomputable def o273 : Obj := ⟨.none, none, (.func ⟨"consumeNumberEntity", "HTMLTokenizer.consumeNumberEntity", fA (mS 21 2), .stmts (fB (mS 21 2)), fC (mS 21 2), 0, [], .none, .none, .none, .none, none, .none, .none, 0⟩), [].toArray⟩
noncomputable def o274 : Obj := ⟨(.type "code"), none, (.fields [(s "consumeNumberEntity" 872), (s "HTMLTokenizer.consumeNumberEntity" 873), (s "/claim/cut.py" 874), (.int 201 0), (.int 2 0), (.int 0 0), (.int 0 0), (.int 3 0), (r 269), (.bool true), (.int 181 0), (r 270), .none, (r 271), (r 272), (r 273), (.int 884 0), (.int 201 0), (s "/claim/cut.py" 885)].toArray), [].toArray⟩
noncomputable def o275 : Obj := ⟨(.type "function"), none, (fo "consumeNumberEntity" "HTMLTokenizer.consumeNumberEntity" (mS 21 2) .none .none .none (s "html5lib._tokenizer" 827) (r 274) .none), [].toArray⟩
noncomputable def o276 : Obj := ⟨(.type "tuple"), none, (.seq [.none, (.bool false)].toArray 0), [].toArray⟩
noncomputable def o277 : Obj := ⟨(.type "tuple"), none, (.seq [].toArray 0), [].toArray⟩
noncomputable def o278 : Obj := ⟨.none, none, (.fields [].toArray), [].toArray⟩
noncomputable def o279 : Obj := ⟨(.type "tuple"), none, (.seq [(s "self" 890), (s "allowedChar" 891), (s "fromAttribute" 892), (s "output" 893), (s "charStack" 894), (s "hex" 895), (s "entityName" 896), (s "entityLength" 897), (s "tokenType" 898)].toArray 0), [].toArray⟩
noncomputable def o280 : Obj := ⟨(.type "tuple"), none, (.seq [].toArray 0), [].toArray⟩
noncomputable def o281 : Obj := ⟨.none, none, (.func ⟨"consumeEntity", "HTMLTokenizer.consumeEntity", fA (mS 21 3), .stmts (fB (mS 21 3)), fC (mS 21 3), 0, [], .none, .none, .none, .none, none, .none, .none, 0⟩), [].toArray⟩
noncomputable def o282 : Obj := ⟨(.type "code"), none, (.fields [(s "consumeEntity" 887), (s "HTMLTokenizer.consumeEntity" 888), (s "/claim/cut.py" 889), (.int 232 0), (.int 3 0), (.int 0 0), (.int 0 0), (.int 3 0), (r 277), (.bool true), (.int 181 0), (r 278), .none, (r 279), (r 280), (r 281), (.int 899 0), (.int 232 0), (s "/claim/cut.py" 900)].toArray), [].toArray⟩
noncomputable def o283 : Obj := ⟨(.type "function"), none, (fo "consumeEntity" "HTMLTokenizer.consumeEntity" (mS 21 3) (r 276) .none .none (s "html5lib._tokenizer" 827) (r 282) .none), [].toArray⟩
noncomputable def o284 : Obj := ⟨(.type "tuple"), none, (.seq [].toArray 0), [].toArray⟩
noncomputable def o285 : Obj := ⟨.none, none, (.fields [].toArray), [].toArray⟩
noncomputable def o286 : Obj := ⟨(.type "tuple"), none, (.seq [(s "self" 905), (s "allowedChar" 906)].toArray 0), [].toArray⟩
noncomputable def o287 : Obj := ⟨(.type "tuple"), none, (.seq [].toArray 0), [].toArray⟩
noncomputable def o288 : Obj := ⟨.none, none, (.func ⟨"processEntityInAttribute", "HTMLTokenizer.processEntityInAttribute", fA (mS 21 4), .stmts (fB (mS 21 4)), fC (mS 21 4), 0, [], .none, .none, .none, .none, none, .none, .none, 0⟩), [].toArray⟩
noncomputable def o289 : Obj := ⟨(.type "code"), none, (.fields [(s "processEntityInAttribute" 902), (s "HTMLTokenizer.processEntityInAttribute" 903), (s "/claim/cut.py" 904), (.int 283 0), (.int 2 0), (.int 0 0), (.int 0 0), (.int 3 0), (r 284), (.bool true), (.int 181 0), (r 285), .none, (r 286), (r 287), (r 288), (.int 907 0), (.int 283 0), (s "/claim/cut.py" 908)].toArray), [].toArray⟩
noncomputable def o290 : Obj := ⟨(.type "function"), none, (fo "processEntityInAttribute" "HTMLTokenizer.processEntityInAttribute" (mS 21 4) .none .none .none (s "html5lib._tokenizer" 827) (r 289) .none), [].toArray⟩
noncomputable def o291 : Obj := ⟨(.type "tuple"), none, (.seq [].toArray 0), [].toArray⟩
noncomputable def o292 : Obj := ⟨.none, none, (.fields [].toArray), [].toArray⟩
noncomputable def o293 : Obj := ⟨(.type "tuple"), none, (.seq [(s "self" 913), (s "token" 914), (s "raw" 915), (s "data" 916)].toArray 0), [].toArray⟩
noncomputable def o294 : Obj := ⟨(.type "tuple"), none, (.seq [].toArray 0), [].toArray⟩
noncomputable def o295 : Obj := ⟨.none, none, (.func ⟨"emitCurrentToken", "HTMLTokenizer.emitCurrentToken", fA (mS 21 5), .stmts (fB (mS 21 5)), fC (mS 21 5), 0, [], .none, .none, .none, .none, none, .none, .none, 0⟩), [].toArray⟩
noncomputable def o296 : Obj := ⟨(.type "code"), none, (.fields [(s "emitCurrentToken" 910), (s "HTMLTokenizer.emitCurrentToken" 911), (s "/claim/cut.py" 912), (.int 286 0), (.int 1 0), (.int 0 0), (.int 0 0), (.int 3 0), (r 291), (.bool true), (.int 181 0), (r 292), .none, (r 293), (r 294), (r 295), (.int 917 0), (.int 286 0), (s "/claim/cut.py" 918)].toArray), [].toArray⟩
noncomputable def o297 : Obj := ⟨(.type "function"), none, (fo "emitCurrentToken" "HTMLTokenizer.emitCurrentToken" (mS 21 5) .none .none .none (s "html5lib._tokenizer" 827) (r 296) .none), [].toArray⟩
noncomputable def o298 : Obj := ⟨(.type "tuple"), none, (.seq [].toArray 0), [].toArray⟩
noncomputable def o299 : Obj := ⟨.none, none, (.fields [].toArray), [].toArray⟩
noncomputable def o300 : Obj := ⟨(.type "tuple"), none, (.seq [(s "self" 923), (s "data" 924), (s "chars" 925)].toArray 0), [].toArray⟩
noncomputable def o301 : Obj := ⟨(.type "tuple"), none, (.seq [].toArray 0), [].toArray⟩
noncomputable def o302 : Obj := ⟨.none, none, (.func ⟨"dataState", "HTMLTokenizer.dataState", fA (mS 21 6), .stmts (fB (mS 21 6)), fC (mS 21 6), 0, [], .none, .none, .none, .none, none, .none, .none, 0⟩), [].toArray⟩
noncomputable def o303 : Obj := ⟨(.type "code"), none, (.fields [(s "dataState" 920), (s "HTMLTokenizer.dataState" 921), (s "/claim/cut.py" 922), (.int 304 0), (.int 1 0), (.int 0 0), (.int 0 0), (.int 3 0), (r 298), (.bool true), (.int 181 0), (r 299), .none, (r 300), (r 301), (r 302), (.int 926 0), (.int 304 0), (s "/claim/cut.py" 927)].toArray), [].toArray⟩
noncomputable def o304 : Obj := ⟨(.type "function"), none, (fo "dataState" "HTMLTokenizer.dataState" (mS 21 6) .none .none .none (s "html5lib._tokenizer" 827) (r 303) .none), [].toArray⟩
noncomputable def o305 : Obj := ⟨(.type "tuple"), none, (.seq [].toArray 0), [].toArray⟩
noncomputable def o306 : Obj := ⟨.none, none, (.fields [].toArray), [].toArray⟩
noncomputable def o307 : Obj := ⟨(.type "tuple"), none, (.seq [(s "self" 932)].toArray 0), [].toArray⟩
noncomputable def o308 : Obj := ⟨(.type "tuple"), none, (.seq [].toArray 0), [].toArray⟩
noncomputable def o309 : Obj := ⟨.none, none, (.func ⟨"entityDataState", "HTMLTokenizer.entityDataState", fA (mS 21 7), .stmts (fB (mS 21 7)), fC (mS 21 7), 0, [], .none, .none, .none, .none, none, .none, .none, 0⟩), [].toArray⟩
noncomputable def o310 : Obj := ⟨(.type "code"), none, (.fields [(s "entityDataState" 929), (s "HTMLTokenizer.entityDataState" 930), (s "/claim/cut.py" 931), (.int 322 0), (.int 1 0), (.int 0 0), (.int 0 0), (.int 3 0), (r 305), (.bool true), (.int 181 0), (r 306), .none, (r 307), (r 308), (r 309), (.int 933 0), (.int 322 0), (s "/claim/cut.py" 934)].toArray), [].toArray⟩
noncomputable def o311 : Obj := ⟨(.type "function"), none, (fo "entityDataState" "HTMLTokenizer.entityDataState" (mS 21 7) .none .none .none (s "html5lib._tokenizer" 827) (r 310) .none), [].toArray⟩
noncomputable def o312 : Obj := ⟨(.type "tuple"), none, (.seq [].toArray 0), [].toArray⟩
noncomputable def o313 : Obj := ⟨.none, none, (.fields [].toArray), [].toArray⟩
noncomputable def o314 : Obj := ⟨(.type "tuple"), none, (.seq [(s "self" 939)].toArray 0), [].toArray⟩
noncomputable def o315 : Obj := ⟨(.type "tuple"), none, (.seq [].toArray 0), [].toArray⟩
noncomputable def o316 : Obj := ⟨.none, none, (.func ⟨"rcdataState", "HTMLTokenizer.rcdataState", fA (mS 21 8), .stmts (fB (mS 21 8)), fC (mS 21 8), 0, [], .none, .none, .none, .none, none, .none, .none, 0⟩), [].toArray⟩
noncomputable def o317 : Obj := ⟨(.type "code"), none, (.fields [(s "rcdataState" 936), (s "HTMLTokenizer.rcdataState" 937), (s "/claim/cut.py" 938), (.int 327 0), (.int 1 0), (.int 0 0), (.int 0 0), (.int 3 0), (r 312), (.bool true), (.int 181 0), (r 313), .none, (r 314), (r 315), (r 316), (.int 940 0), (.int 327 0), (s "/claim/cut.py" 941)].toArray), [].toArray⟩
noncomputable def o318 : Obj := ⟨(.type "function"), none, (fo "rcdataState" "HTMLTokenizer.rcdataState" (mS 21 8) .none .none .none (s "html5lib._tokenizer" 827) (r 317) .none), [].toArray⟩
noncomputable def o319 : Obj := ⟨(.type "tuple"), none, (.seq [].toArray 0), [].toArray⟩
noncomputable def o320 : Obj := ⟨.none, none, (.fields [].toArray), [].toArray⟩
noncomputable def o321 : Obj := ⟨(.type "tuple"), none, (.seq [(s "self" 946)].toArray 0), [].toArray⟩
noncomputable def o322 : Obj := ⟨(.type "tuple"), none, (.seq [].toArray 0), [].toArray⟩
noncomputable def o323 : Obj := ⟨.none, none, (.func ⟨"characterReferenceInRcdata", "HTMLTokenizer.characterReferenceInRcdata", fA (mS 21 9), .stmts (fB (mS 21 9)), fC (mS 21 9), 0, [], .none, .none, .none, .none, none, .none, .none, 0⟩), [].toArray⟩
noncomputable def o324 : Obj := ⟨(.type "code"), none, (.fields [(s "characterReferenceInRcdata" 943), (s "HTMLTokenizer.characterReferenceInRcdata" 944), (s "/claim/cut.py" 945), (.int 330 0), (.int 1 0), (.int 0 0), (.int 0 0), (.int 3 0), (r 319), (.bool true), (.int 181 0), (r 320), .none, (r 321), (r 322), (r 323), (.int 947 0), (.int 330 0), (s "/claim/cut.py" 948)].toArray), [].toArray⟩
noncomputable def o325 : Obj := ⟨(.type "function"), none, (fo "characterReferenceInRcdata" "HTMLTokenizer.characterReferenceInRcdata" (mS 21 9) .none .none .none (s "html5lib._tokenizer" 827) (r 324) .none), [].toArray⟩
noncomputable def o326 : Obj := ⟨(.type "tuple"), none, (.seq [].toArray 0), [].toArray⟩
noncomputable def o327 : Obj := ⟨.none, none, (.fields [].toArray), [].toArray⟩
noncomputable def o328 : Obj := ⟨(.type "tuple"), none, (.seq [(s "self" 953)].toArray 0), [].toArray⟩
noncomputable def o329 : Obj := ⟨(.type "tuple"), none, (.seq [].toArray 0), [].toArray⟩
noncomputable def o330 : Obj := ⟨.none, none, (.func ⟨"rawtextState", "HTMLTokenizer.rawtextState", fA (mS 21 10), .stmts (fB (mS 21 10)), fC (mS 21 10), 0, [], .none, .none, .none, .none, none, .none, .none, 0⟩), [].toArray⟩
noncomputable def o331 : Obj := ⟨(.type "code"), none, (.fields [(s "rawtextState" 950), (s "HTMLTokenizer.rawtextState" 951), (s "/claim/cut.py" 952), (.int 333 0), (.int 1 0), (.int 0 0), (.int 0 0), (.int 3 0), (r 326), (.bool true), (.int 181 0), (r 327), .none, (r 328), (r 329), (r 330), (.int 954 0), (.int 333 0), (s "/claim/cut.py" 955)].toArray), [].toArray⟩
noncomputable def o332 : Obj := ⟨(.type "function"), none, (fo "rawtextState" "HTMLTokenizer.rawtextState" (mS 21 10) .none .none .none (s "html5lib._tokenizer" 827) (r 331) .none), [].toArray⟩
noncomputable def o333 : Obj := ⟨(.type "tuple"), none, (.seq [].toArray 0), [].toArray⟩
noncomputable def o334 : Obj := ⟨.none, none, (.fields [].toArray), [].toArray⟩
noncomputable def o335 : Obj := ⟨(.type "tuple"), none, (.seq [(s "self" 960)].toArray 0), [].toArray⟩
noncomputable def o336 : Obj := ⟨(.type "tuple"), none, (.seq [].toArray 0), [].toArray⟩
noncomputable def o337 : Obj := ⟨.none, none, (.func ⟨"scriptDataState", "HTMLTokenizer.scriptDataState", fA (mS 21 11), .stmts (fB (mS 21 11)), fC (mS 21 11), 0, [], .none, .none, .none, .none, none, .none, .none, 0⟩), [].toArray⟩
noncomputable def o338 : Obj := ⟨(.type "code"), none, (.fields [(s "scriptDataState" 957), (s "HTMLTokenizer.scriptDataState" 958), (s "/claim/cut.py" 959), (.int 336 0), (.int 1 0), (.int 0 0), (.int 0 0), (.int 3 0), (r 333), (.bool true), (.int 181 0), (r 334), .none, (r 335), (r 336), (r 337), (.int 961 0), (.int 336 0), (s "/claim/cut.py" 962)].toArray), [].toArray⟩
noncomputable def o339 : Obj := ⟨(.type "function"), none, (fo "scriptDataState" "HTMLTokenizer.scriptDataState" (mS 21 11) .none .none .none (s "html5lib._tokenizer" 827) (r 338) .none), [].toArray⟩
noncomputable def o340 : Obj := ⟨(.type "tuple"), none, (.seq [].toArray 0), [].toArray⟩
noncomputable def o341 : Obj := ⟨.none, none, (.fields [].toArray), [].toArray⟩
noncomputable def o342 : Obj := ⟨(.type "tuple"), none, (.seq [(s "self" 967)].toArray 0), [].toArray⟩
noncomputable def o343 : Obj := ⟨(.type "tuple"), none, (.seq [].toArray 0), [].toArray⟩
noncomputable def o344 : Obj := ⟨.none, none, (.func ⟨"plaintextState", "HTMLTokenizer.plaintextState", fA (mS 21 12), .stmts (fB (mS 21 12)), fC (mS 21 12), 0, [], .none, .none, .none, .none, none, .none, .none, 0⟩), [].toArray⟩
noncomputable def o345 : Obj := ⟨(.type "code"), none, (.fields [(s "plaintextState" 964), (s "HTMLTokenizer.plaintextState" 965), (s "/claim/cut.py" 966), (.int 339 0), (.int 1 0), (.int 0 0), (.int 0 0), (.int 3 0), (r 340), (.bool true), (.int 181 0), (r 341), .none, (r 342), (r 343), (r 344), (.int 968 0), (.int 339 0), (s "/claim/cut.py" 969)].toArray), [].toArray⟩
noncomputable def o346 : Obj := ⟨(.type "function"), none, (fo "plaintextState" "HTMLTokenizer.plaintextState" (mS 21 12) .none .none .none (s "html5lib._tokenizer" 827) (r 345) .none), [].toArray⟩
noncomputable def o347 : Obj := ⟨(.type "tuple"), none, (.seq [].toArray 0), [].toArray⟩
noncomputable def o348 : Obj := ⟨.none, none, (.fields [].toArray), [].toArray⟩
noncomputable def o349 : Obj := ⟨(.type "tuple"), none, (.seq [(s "self" 974), (s "data" 975)].toArray 0), [].toArray⟩
noncomputable def o350 : Obj := ⟨(.type "tuple"), none, (.seq [].toArray 0), [].toArray⟩
noncomputable def o351 : Obj := ⟨.none, none, (.func ⟨"tagOpenState", "HTMLTokenizer.tagOpenState", fA (mS 21 13), .stmts (fB (mS 21 13)), fC (mS 21 13), 0, [], .none, .none, .none, .none, none, .none, .none, 0⟩), [].toArray⟩
noncomputable def o352 : Obj := ⟨(.type "code"), none, (.fields [(s "tagOpenState" 971), (s "HTMLTokenizer.tagOpenState" 972), (s "/claim/cut.py" 973), (.int 342 0), (.int 1 0), (.int 0 0), (.int 0 0), (.int 3 0), (r 347), (.bool true), (.int 181 0), (r 348), .none, (r 349), (r 350), (r 351), (.int 976 0), (.int 342 0), (s "/claim/cut.py" 977)].toArray), [].toArray⟩
noncomputable def o353 : Obj := ⟨(.type "function"), none, (fo "tagOpenState" "HTMLTokenizer.tagOpenState" (mS 21 13) .none .none .none (s "html5lib._tokenizer" 827) (r 352) .none), [].toArray⟩
noncomputable def o354 : Obj := ⟨(.type "tuple"), none, (.seq [].toArray 0), [].toArray⟩
noncomputable def o355 : Obj := ⟨.none, none, (.fields [].toArray), [].toArray⟩
noncomputable def o356 : Obj := ⟨(.type "tuple"), none, (.seq [(s "self" 982), (s "data" 983)].toArray 0), [].toArray⟩
noncomputable def o357 : Obj := ⟨(.type "tuple"), none, (.seq [].toArray 0), [].toArray⟩
noncomputable def o358 : Obj := ⟨.none, none, (.func ⟨"closeTagOpenState", "HTMLTokenizer.closeTagOpenState", fA (mS 21 14), .stmts (fB (mS 21 14)), fC (mS 21 14), 0, [], .none, .none, .none, .none, none, .none, .none, 0⟩), [].toArray⟩
noncomputable def o359 : Obj := ⟨(.type "code"), none, (.fields [(s "closeTagOpenState" 979), (s "HTMLTokenizer.closeTagOpenState" 980), (s "/claim/cut.py" 981), (.int 366 0), (.int 1 0), (.int 0 0), (.int 0 0), (.int 3 0), (r 354), (.bool true), (.int 181 0), (r 355), .none, (r 356), (r 357), (r 358), (.int 984 0), (.int 366 0), (s "/claim/cut.py" 985)].toArray), [].toArray⟩
noncomputable def o360 : Obj := ⟨(.type "function"), none, (fo "closeTagOpenState" "HTMLTokenizer.closeTagOpenState" (mS 21 14) .none .none .none (s "html5lib._tokenizer" 827) (r 359) .none), [].toArray⟩
noncomputable def o361 : Obj := ⟨(.type "tuple"), none, (.seq [].toArray 0), [].toArray⟩
noncomputable def o362 : Obj := ⟨.none, none, (.fields [].toArray), [].toArray⟩
noncomputable def o363 : Obj := ⟨(.type "tuple"), none, (.seq [(s "self" 990), (s "data" 991)].toArray 0), [].toArray⟩
noncomputable def o364 : Obj := ⟨(.type "tuple"), none, (.seq [].toArray 0), [].toArray⟩
noncomputable def o365 : Obj := ⟨.none, none, (.func ⟨"tagNameState", "HTMLTokenizer.tagNameState", fA (mS 21 15), .stmts (fB (mS 21 15)), fC (mS 21 15), 0, [], .none, .none, .none, .none, none, .none, .none, 0⟩), [].toArray⟩
noncomputable def o366 : Obj := ⟨(.type "code"), none, (.fields [(s "tagNameState" 987), (s "HTMLTokenizer.tagNameState" 988), (s "/claim/cut.py" 989), (.int 384 0), (.int 1 0), (.int 0 0), (.int 0 0), (.int 3 0), (r 361), (.bool true), (.int 181 0), (r 362), .none, (r 363), (r 364), (r 365), (.int 992 0), (.int 384 0), (s "/claim/cut.py" 993)].toArray), [].toArray⟩
noncomputable def o367 : Obj := ⟨(.type "function"), none, (fo "tagNameState" "HTMLTokenizer.tagNameState" (mS 21 15) .none .none .none (s "html5lib._tokenizer" 827) (r 366) .none), [].toArray⟩
noncomputable def o368 : Obj := ⟨(.type "tuple"), none, (.seq [].toArray 0), [].toArray⟩
noncomputable def o369 : Obj := ⟨.none, none, (.fields [].toArray), [].toArray⟩
noncomputable def o370 : Obj := ⟨(.type "tuple"), none, (.seq [(s "self" 998)].toArray 0), [].toArray⟩
noncomputable def o371 : Obj := ⟨(.type "tuple"), none, (.seq [].toArray 0), [].toArray⟩
noncomputable def o372 : Obj := ⟨.none, none, (.func ⟨"rcdataLessThanSignState", "HTMLTokenizer.rcdataLessThanSignState", fA (mS 21 16), .stmts (fB (mS 21 16)), fC (mS 21 16), 0, [], .none, .none, .none, .none, none, .none, .none, 0⟩), [].toArray⟩
noncomputable def o373 : Obj := ⟨(.type "code"), none, (.fields [(s "rcdataLessThanSignState" 995), (s "HTMLTokenizer.rcdataLessThanSignState" 996), (s "/claim/cut.py" 997), (.int 402 0), (.int 1 0), (.int 0 0), (.int 0 0), (.int 3 0), (r 368), (.bool true), (.int 181 0), (r 369), .none, (r 370), (r 371), (r 372), (.int 999 0), (.int 402 0), (s "/claim/cut.py" 1000)].toArray), [].toArray⟩
noncomputable def o374 : Obj := ⟨(.type "function"), none, (fo "rcdataLessThanSignState" "HTMLTokenizer.rcdataLessThanSignState" (mS 21 16) .none .none .none (s "html5lib._tokenizer" 827) (r 373) .none), [].toArray⟩
noncomputable def o375 : Obj := ⟨(.type "tuple"), none, (.seq [].toArray 0), [].toArray⟩
noncomputable def o376 : Obj := ⟨.none, none, (.fields [].toArray), [].toArray⟩
noncomputable def o377 : Obj := ⟨(.type "tuple"), none, (.seq [(s "self" 1005)].toArray 0), [].toArray⟩
noncomputable def o378 : Obj := ⟨(.type "tuple"), none, (.seq [].toArray 0), [].toArray⟩
noncomputable def o379 : Obj := ⟨.none, none, (.func ⟨"rcdataEndTagOpenState", "HTMLTokenizer.rcdataEndTagOpenState", fA (mS 21 17), .stmts (fB (mS 21 17)), fC (mS 21 17), 0, [], .none, .none, .none, .none, none, .none, .none, 0⟩), [].toArray⟩
noncomputable def o380 : Obj := ⟨(.type "code"), none, (.fields [(s "rcdataEndTagOpenState" 1002), (s "HTMLTokenizer.rcdataEndTagOpenState" 1003), (s "/claim/cut.py" 1004), (.int 405 0), (.int 1 0), (.int 0 0), (.int 0 0), (.int 3 0), (r 375), (.bool true), (.int 181 0), (r 376), .none, (r 377), (r 378), (r 379), (.int 1006 0), (.int 405 0), (s "/claim/cut.py" 1007)].toArray), [].toArray⟩
noncomputable def o381 : Obj := ⟨(.type "function"), none, (fo "rcdataEndTagOpenState" "HTMLTokenizer.rcdataEndTagOpenState" (mS 21 17) .none .none .none (s "html5lib._tokenizer" 827) (r 380) .none), [].toArray⟩
noncomputable def o382 : Obj := ⟨(.type "tuple"), none, (.seq [].toArray 0), [].toArray⟩
noncomputable def o383 : Obj := ⟨.none, none, (.fields [].toArray), [].toArray⟩
noncomputable def o384 : Obj := ⟨(.type "tuple"), none, (.seq [(s "self" 1012)].toArray 0), [].toArray⟩
noncomputable def o385 : Obj := ⟨(.type "tuple"), none, (.seq [].toArray 0), [].toArray⟩
noncomputable def o386 : Obj := ⟨.none, none, (.func ⟨"rcdataEndTagNameState", "HTMLTokenizer.rcdataEndTagNameState", fA (mS 21 18), .stmts (fB (mS 21 18)), fC (mS 21 18), 0, [], .none, .none, .none, .none, none, .none, .none, 0⟩), [].toArray⟩
noncomputable def o387 : Obj := ⟨(.type "code"), none, (.fields [(s "rcdataEndTagNameState" 1009), (s "HTMLTokenizer.rcdataEndTagNameState" 1010), (s "/claim/cut.py" 1011), (.int 408 0), (.int 1 0), (.int 0 0), (.int 0 0), (.int 3 0), (r 382), (.bool true), (.int 181 0), (r 383), .none, (r 384), (r 385), (r 386), (.int 1013 0), (.int 408 0), (s "/claim/cut.py" 1014)].toArray), [].toArray⟩
noncomputable def o388 : Obj := ⟨(.type "function"), none, (fo "rcdataEndTagNameState" "HTMLTokenizer.rcdataEndTagNameState" (mS 21 18) .none .none .none (s "html5lib._tokenizer" 827) (r 387) .none), [].toArray⟩
noncomputable def o389 : Obj := ⟨(.type "tuple"), none, (.seq [].toArray 0), [].toArray⟩
noncomputable def o390 : Obj := ⟨.none, none, (.fields [].toArray), [].toArray⟩
noncomputable def o391 : Obj := ⟨(.type "tuple"), none, (.seq [(s "self" 1019)].toArray 0), [].toArray⟩
noncomputable def o392 : Obj := ⟨(.type "tuple"), none, (.seq [].toArray 0), [].toArray⟩
noncomputable def o393 : Obj := ⟨.none, none, (.func ⟨"rawtextLessThanSignState", "HTMLTokenizer.rawtextLessThanSignState", fA (mS 21 19), .stmts (fB (mS 21 19)), fC (mS 21 19), 0, [], .none, .none, .none, .none, none, .none, .none, 0⟩), [].toArray⟩
noncomputable def o394 : Obj := ⟨(.type "code"), none, (.fields [(s "rawtextLessThanSignState" 1016), (s "HTMLTokenizer.rawtextLessThanSignState" 1017), (s "/claim/cut.py" 1018), (.int 411 0), (.int 1 0), (.int 0 0), (.int 0 0), (.int 3 0), (r 389), (.bool true), (.int 181 0), (r 390), .none, (r 391), (r 392), (r 393), (.int 1020 0), (.int 411 0), (s "/claim/cut.py" 1021)].toArray), [].toArray⟩
noncomputable def o395 : Obj := ⟨(.type "function"), none, (fo "rawtextLessThanSignState" "HTMLTokenizer.rawtextLessThanSignState" (mS 21 19) .none .none .none (s "html5lib._tokenizer" 827) (r 394) .none), [].toArray⟩
noncomputable def o396 : Obj := ⟨(.type "tuple"), none, (.seq [].toArray 0), [].toArray⟩
noncomputable def o397 : Obj := ⟨.none, none, (.fields [].toArray), [].toArray⟩
noncomputable def o398 : Obj := ⟨(.type "tuple"), none, (.seq [(s "self" 1026)].toArray 0), [].toArray⟩
noncomputable def o399 : Obj := ⟨(.type "tuple"), none, (.seq [].toArray 0), [].toArray⟩
noncomputable def o400 : Obj := ⟨.none, none, (.func ⟨"rawtextEndTagOpenState", "HTMLTokenizer.rawtextEndTagOpenState", fA (mS 21 20), .stmts (fB (mS 21 20)), fC (mS 21 20), 0, [], .none, .none, .none, .none, none, .none, .none, 0⟩), [].toArray⟩
noncomputable def o401 : Obj := ⟨(.type "code"), none, (.fields [(s "rawtextEndTagOpenState" 1023), (s "HTMLTokenizer.rawtextEndTagOpenState" 1024), (s "/claim/cut.py" 1025), (.int 414 0), (.int 1 0), (.int 0 0), (.int 0 0), (.int 3 0), (r 396), (.bool true), (.int 181 0), (r 397), .none, (r 398), (r 399), (r 400), (.int 1027 0), (.int 414 0), (s "/claim/cut.py" 1028)].toArray), [].toArray⟩
noncomputable def o402 : Obj := ⟨(.type "function"), none, (fo "rawtextEndTagOpenState" "HTMLTokenizer.rawtextEndTagOpenState" (mS 21 20) .none .none .none (s "html5lib._tokenizer" 827) (r 401) .none), [].toArray⟩
noncomputable def o403 : Obj := ⟨(.type "tuple"), none, (.seq [].toArray 0), [].toArray⟩
noncomputable def o404 : Obj := ⟨.none, none, (.fields [].toArray), [].toArray⟩
noncomputable def o405 : Obj := ⟨(.type "tuple"), none, (.seq [(s "self" 1033)].toArray 0), [].toArray⟩
noncomputable def o406 : Obj := ⟨(.type "tuple"), none, (.seq [].toArray 0), [].toArray⟩
noncomputable def o407 : Obj := ⟨.none, none, (.func ⟨"rawtextEndTagNameState", "HTMLTokenizer.rawtextEndTagNameState", fA (mS 21 21), .stmts (fB (mS 21 21)), fC (mS 21 21), 0, [], .none, .none, .none, .none, none, .none, .none, 0⟩), [].toArray⟩
noncomputable def o408 : Obj := ⟨(.type "code"), none, (.fields [(s "rawtextEndTagNameState" 1030), (s "HTMLTokenizer.rawtextEndTagNameState" 1031), (s "/claim/cut.py" 1032), (.int 417 0), (.int 1 0), (.int 0 0), (.int 0 0), (.int 3 0), (r 403), (.bool true), (.int 181 0), (r 404), .none, (r 405), (r 406), (r 407), (.int 1034 0), (.int 417 0), (s "/claim/cut.py" 1035)].toArray), [].toArray⟩
noncomputable def o409 : Obj := ⟨(.type "function"), none, (fo "rawtextEndTagNameState" "HTMLTokenizer.rawtextEndTagNameState" (mS 21 21) .none .none .none (s "html5lib._tokenizer" 827) (r 408) .none), [].toArray⟩
noncomputable def o410 : Obj := ⟨(.type "tuple"), none, (.seq [].toArray 0), [].toArray⟩
noncomputable def o411 : Obj := ⟨.none, none, (.fields [].toArray), [].toArray⟩
noncomputable def o412 : Obj := ⟨(.type "tuple"), none, (.seq [(s "self" 1040)].toArray 0), [].toArray⟩
noncomputable def o413 : Obj := ⟨(.type "tuple"), none, (.seq [].toArray 0), [].toArray⟩
noncomputable def o414 : Obj := ⟨.none, none, (.func ⟨"scriptDataLessThanSignState", "HTMLTokenizer.scriptDataLessThanSignState", fA (mS 21 22), .stmts (fB (mS 21 22)), fC (mS 21 22), 0, [], .none, .none, .none, .none, none, .none, .none, 0⟩), [].toArray⟩
noncomputable def o415 : Obj := ⟨(.type "code"), none, (.fields [(s "scriptDataLessThanSignState" 1037), (s "HTMLTokenizer.scriptDataLessThanSignState" 1038), (s "/claim/cut.py" 1039), (.int 420 0), (.int 1 0), (.int 0 0), (.int 0 0), (.int 3 0), (r 410), (.bool true), (.int 181 0), (r 411), .none, (r 412), (r 413), (r 414), (.int 1041 0), (.int 420 0), (s "/claim/cut.py" 1042)].toArray), [].toArray⟩
noncomputable def o416 : Obj := ⟨(.type "function"), none, (fo "scriptDataLessThanSignState" "HTMLTokenizer.scriptDataLessThanSignState" (mS 21 22) .none .none .none (s "html5lib._tokenizer" 827) (r 415) .none), [].toArray⟩
noncomputable def o417 : Obj := ⟨(.type "tuple"), none, (.seq [].toArray 0), [].toArray⟩
noncomputable def o418 : Obj := ⟨.none, none, (.fields [].toArray), [].toArray⟩
noncomputable def o419 : Obj := ⟨(.type "tuple"), none, (.seq [(s "self" 1047)].toArray 0), [].toArray⟩
noncomputable def o420 : Obj := ⟨(.type "tuple"), none, (.seq [].toArray 0), [].toArray⟩
noncomputable def o421 : Obj := ⟨.none, none, (.func ⟨"scriptDataEndTagOpenState", "HTMLTokenizer.scriptDataEndTagOpenState", fA (mS 21 23), .stmts (fB (mS 21 23)), fC (mS 21 23), 0, [], .none, .none, .none, .none, none, .none, .none, 0⟩), [].toArray⟩
noncomputable def o422 : Obj := ⟨(.type "code"), none, (.fields [(s "scriptDataEndTagOpenState" 1044), (s "HTMLTokenizer.scriptDataEndTagOpenState" 1045), (s "/claim/cut.py" 1046), (.int 423 0), (.int 1 0), (.int 0 0), (.int 0 0), (.int 3 0), (r 417), (.bool true), (.int 181 0), (r 418), .none, (r 419), (r 420), (r 421), (.int 1048 0), (.int 423 0), (s "/claim/cut.py" 1049)].toArray), [].toArray⟩
noncomputable def o423 : Obj := ⟨(.type "function"), none, (fo "scriptDataEndTagOpenState" "HTMLTokenizer.scriptDataEndTagOpenState" (mS 21 23) .none .none .none (s "html5lib._tokenizer" 827) (r 422) .none), [].toArray⟩
noncomputable def o424 : Obj := ⟨(.type "tuple"), none, (.seq [].toArray 0), [].toArray⟩
noncomputable def o425 : Obj := ⟨.none, none, (.fields [].toArray), [].toArray⟩
noncomputable def o426 : Obj := ⟨(.type "tuple"), none, (.seq [(s "self" 1054)].toArray 0), [].toArray⟩
noncomputable def o427 : Obj := ⟨(.type "tuple"), none, (.seq [].toArray 0), [].toArray⟩
noncomputable def o428 : Obj := ⟨.none, none, (.func ⟨"scriptDataEndTagNameState", "HTMLTokenizer.scriptDataEndTagNameState", fA (mS 21 24), .stmts (fB (mS 21 24)), fC (mS 21 24), 0, [], .none, .none, .none, .none, none, .none, .none, 0⟩), [].toArray⟩
noncomputable def o429 : Obj := ⟨(.type "code"), none, (.fields [(s "scriptDataEndTagNameState" 1051), (s "HTMLTokenizer.scriptDataEndTagNameState" 1052), (s "/claim/cut.py" 1053), (.int 426 0), (.int 1 0), (.int 0 0), (.int 0 0), (.int 3 0), (r 424), (.bool true), (.int 181 0), (r 425), .none, (r 426), (r 427), (r 428), (.int 1055 0), (.int 426 0), (s "/claim/cut.py" 1056)].toArray), [].toArray⟩
noncomputable def o430 : Obj := ⟨(.type "function"), none, (fo "scriptDataEndTagNameState" "HTMLTokenizer.scriptDataEndTagNameState" (mS 21 24) .none .none .none (s "html5lib._tokenizer" 827) (r 429) .none), [].toArray⟩
noncomputable def o431 : Obj := ⟨(.type "tuple"), none, (.seq [].toArray 0), [].toArray⟩
noncomputable def o432 : Obj := ⟨.none, none, (.fields [].toArray), [].toArray⟩
noncomputable def o433 : Obj := ⟨(.type "tuple"), none, (.seq [(s "self" 1061)].toArray 0), [].toArray⟩
noncomputable def o434 : Obj := ⟨(.type "tuple"), none, (.seq [].toArray 0), [].toArray⟩
noncomputable def o435 : Obj := ⟨.none, none, (.func ⟨"scriptDataEscapeStartState", "HTMLTokenizer.scriptDataEscapeStartState", fA (mS 21 25), .stmts (fB (mS 21 25)), fC (mS 21 25), 0, [], .none, .none, .none, .none, none, .none, .none, 0⟩), [].toArray⟩
noncomputable def o436 : Obj := ⟨(.type "code"), none, (.fields [(s "scriptDataEscapeStartState" 1058), (s "HTMLTokenizer.scriptDataEscapeStartState" 1059), (s "/claim/cut.py" 1060), (.int 429 0), (.int 1 0), (.int 0 0), (.int 0 0), (.int 3 0), (r 431), (.bool true), (.int 181 0), (r 432), .none, (r 433), (r 434), (r 435), (.int 1062 0), (.int 429 0), (s "/claim/cut.py" 1063)].toArray), [].toArray⟩
noncomputable def o437 : Obj := ⟨(.type "function"), none, (fo "scriptDataEscapeStartState" "HTMLTokenizer.scriptDataEscapeStartState" (mS 21 25) .none .none .none (s "html5lib._tokenizer" 827) (r 436) .none), [].toArray⟩
noncomputable def o438 : Obj := ⟨(.type "tuple"), none, (.seq [].toArray 0), [].toArray⟩
noncomputable def o439 : Obj := ⟨.none, none, (.fields [].toArray), [].toArray⟩
noncomputable def o440 : Obj := ⟨(.type "tuple"), none, (.seq [(s "self" 1068)].toArray 0), [].toArray⟩
noncomputable def o441 : Obj := ⟨(.type "tuple"), none, (.seq [].toArray 0), [].toArray⟩
noncomputable def o442 : Obj := ⟨.none, none, (.func ⟨"scriptDataEscapeStartDashState", "HTMLTokenizer.scriptDataEscapeStartDashState", fA (mS 21 26), .stmts (fB (mS 21 26)), fC (mS 21 26), 0, [], .none, .none, .none, .none, none, .none, .none, 0⟩), [].toArray⟩
noncomputable def o443 : Obj := ⟨(.type "code"), none, (.fields [(s "scriptDataEscapeStartDashState" 1065), (s "HTMLTokenizer.scriptDataEscapeStartDashState" 1066), (s "/claim/cut.py" 1067), (.int 432 0), (.int 1 0), (.int 0 0), (.int 0 0), (.int 3 0), (r 438), (.bool true), (.int 181 0), (r 439), .none, (r 440), (r 441), (r 442), (.int 1069 0), (.int 432 0), (s "/claim/cut.py" 1070)].toArray), [].toArray⟩
noncomputable def o444 : Obj := ⟨(.type "function"), none, (fo "scriptDataEscapeStartDashState" "HTMLTokenizer.scriptDataEscapeStartDashState" (mS 21 26) .none .none .none (s "html5lib._tokenizer" 827) (r 443) .none), [].toArray⟩
noncomputable def o445 : Obj := ⟨(.type "tuple"), none, (.seq [].toArray 0), [].toArray⟩
noncomputable def o446 : Obj := ⟨.none, none, (.fields [].toArray), [].toArray⟩
noncomputable def o447 : Obj := ⟨(.type "tuple"), none, (.seq [(s "self" 1075)].toArray 0), [].toArray⟩
noncomputable def o448 : Obj := ⟨(.type "tuple"), none, (.seq [].toArray 0), [].toArray⟩
noncomputable def o449 : Obj := ⟨.none, none, (.func ⟨"scriptDataEscapedState", "HTMLTokenizer.scriptDataEscapedState", fA (mS 21 27), .stmts (fB (mS 21 27)), fC (mS 21 27), 0, [], .none, .none, .none, .none, none, .none, .none, 0⟩), [].toArray⟩
noncomputable def o450 : Obj := ⟨(.type "code"), none, (.fields [(s "scriptDataEscapedState" 1072), (s "HTMLTokenizer.scriptDataEscapedState" 1073), (s "/claim/cut.py" 1074), (.int 435 0), (.int 1 0), (.int 0 0), (.int 0 0), (.int 3 0), (r 445), (.bool true), (.int 181 0), (r 446), .none, (r 447), (r 448), (r 449), (.int 1076 0), (.int 435 0), (s "/claim/cut.py" 1077)].toArray), [].toArray⟩
noncomputable def o451 : Obj := ⟨(.type "function"), none, (fo "scriptDataEscapedState" "HTMLTokenizer.scriptDataEscapedState" (mS 21 27) .none .none .none (s "html5lib._tokenizer" 827) (r 450) .none), [].toArray⟩
noncomputable def o452 : Obj := ⟨(.type "tuple"), none, (.seq [].toArray 0), [].toArray⟩
noncomputable def o453 : Obj := ⟨.none, none, (.fields [].toArray), [].toArray⟩
noncomputable def o454 : Obj := ⟨(.type "tuple"), none, (.seq [(s "self" 1082)].toArray 0), [].toArray⟩
noncomputable def o455 : Obj := ⟨(.type "tuple"), none, (.seq [].toArray 0), [].toArray⟩
noncomputable def o456 : Obj := ⟨.none, none, (.func ⟨"scriptDataEscapedDashState", "HTMLTokenizer.scriptDataEscapedDashState", fA (mS 21 28), .stmts (fB (mS 21 28)), fC (mS 21 28), 0, [], .none, .none, .none, .none, none, .none, .none, 0⟩), [].toArray⟩
noncomputable def o457 : Obj := ⟨(.type "code"), none, (.fields [(s "scriptDataEscapedDashState" 1079), (s "HTMLTokenizer.scriptDataEscapedDashState" 1080), (s "/claim/cut.py" 1081), (.int 438 0), (.int 1 0), (.int 0 0), (.int 0 0), (.int 3 0), (r 452), (.bool true), (.int 181 0), (r 453), .none, (r 454), (r 455), (r 456), (.int 1083 0), (.int 438 0), (s "/claim/cut.py" 1084)].toArray), [].toArray⟩
noncomputable def o458 : Obj := ⟨(.type "function"), none, (fo "scriptDataEscapedDashState" "HTMLTokenizer.scriptDataEscapedDashState" (mS 21 28) .none .none .none (s "html5lib._tokenizer" 827) (r 457) .none), [].toArray⟩
noncomputable def o459 : Obj := ⟨(.type "tuple"), none, (.seq [].toArray 0), [].toArray⟩
noncomputable def o460 : Obj := ⟨.none, none, (.fields [].toArray), [].toArray⟩
noncomputable def o461 : Obj := ⟨(.type "tuple"), none, (.seq [(s "self" 1089)].toArray 0), [].toArray⟩
noncomputable def o462 : Obj := ⟨(.type "tuple"), none, (.seq [].toArray 0), [].toArray⟩
noncomputable def o463 : Obj := ⟨.none, none, (.func ⟨"scriptDataEscapedDashDashState", "HTMLTokenizer.scriptDataEscapedDashDashState", fA (mS 21 29), .stmts (fB (mS 21 29)), fC (mS 21 29), 0, [], .none, .none, .none, .none, none, .none, .none, 0⟩), [].toArray⟩
noncomputable def o464 : Obj := ⟨(.type "code"), none, (.fields [(s "scriptDataEscapedDashDashState" 1086), (s "HTMLTokenizer.scriptDataEscapedDashDashState" 1087), (s "/claim/cut.py" 1088), (.int 441 0), (.int 1 0), (.int 0 0), (.int 0 0), (.int 3 0), (r 459), (.bool true), (.int 181 0), (r 460), .none, (r 461), (r 462), (r 463), (.int 1090 0), (.int 441 0), (s "/claim/cut.py" 1091)].toArray), [].toArray⟩
noncomputable def o465 : Obj := ⟨(.type "function"), none, (fo "scriptDataEscapedDashDashState" "HTMLTokenizer.scriptDataEscapedDashDashState" (mS 21 29) .none .none .none (s "html5lib._tokenizer" 827) (r 464) .none), [].toArray⟩
noncomputable def o466 : Obj := ⟨(.type "tuple"), none, (.seq [].toArray 0), [].toArray⟩
noncomputable def o467 : Obj := ⟨.none, none, (.fields [].toArray), [].toArray⟩
noncomputable def o468 : Obj := ⟨(.type "tuple"), none, (.seq [(s "self" 1096)].toArray 0), [].toArray⟩
noncomputable def o469 : Obj := ⟨(.type "tuple"), none, (.seq [].toArray 0), [].toArray⟩
noncomputable def o470 : Obj := ⟨.none, none, (.func ⟨"scriptDataEscapedLessThanSignState", "HTMLTokenizer.scriptDataEscapedLessThanSignState", fA (mS 21 30), .stmts (fB (mS 21 30)), fC (mS 21 30), 0, [], .none, .none, .none, .none, none, .none, .none, 0⟩), [].toArray⟩
noncomputable def o471 : Obj := ⟨(.type "code"), none, (.fields [(s "scriptDataEscapedLessThanSignState" 1093), (s "HTMLTokenizer.scriptDataEscapedLessThanSignState" 1094), (s "/claim/cut.py" 1095), (.int 444 0), (.int 1 0), (.int 0 0), (.int 0 0), (.int 3 0), (r 466), (.bool true), (.int 181 0), (r 467), .none, (r 468), (r 469), (r 470), (.int 1097 0), (.int 444 0), (s "/claim/cut.py" 1098)].toArray), [].toArray⟩
noncomputable def o472 : Obj := ⟨(.type "function"), none, (fo "scriptDataEscapedLessThanSignState" "HTMLTokenizer.scriptDataEscapedLessThanSignState" (mS 21 30) .none .none .none (s "html5lib._tokenizer" 827) (r 471) .none), [].toArray⟩
noncomputable def o473 : Obj := ⟨(.type "tuple"), none, (.seq [].toArray 0), [].toArray⟩
noncomputable def o474 : Obj := ⟨.none, none, (.fields [].toArray), [].toArray⟩
noncomputable def o475 : Obj := ⟨(.type "tuple"), none, (.seq [(s "self" 1103)].toArray 0), [].toArray⟩
noncomputable def o476 : Obj := ⟨(.type "tuple"), none, (.seq [].toArray 0), [].toArray⟩
noncomputable def o477 : Obj := ⟨.none, none, (.func ⟨"scriptDataEscapedEndTagOpenState", "HTMLTokenizer.scriptDataEscapedEndTagOpenState", fA (mS 21 31), .stmts (fB (mS 21 31)), fC (mS 21 31), 0, [], .none, .none, .none, .none, none, .none, .none, 0⟩), [].toArray⟩
noncomputable def o478 : Obj := ⟨(.type "code"), none, (.fields [(s "scriptDataEscapedEndTagOpenState" 1100), (s "HTMLTokenizer.scriptDataEscapedEndTagOpenState" 1101), (s "/claim/cut.py" 1102), (.int 447 0), (.int 1 0), (.int 0 0), (.int 0 0), (.int 3 0), (r 473), (.bool true), (.int 181 0), (r 474), .none, (r 475), (r 476), (r 477), (.int 1104 0), (.int 447 0), (s "/claim/cut.py" 1105)].toArray), [].toArray⟩
noncomputable def o479 : Obj := ⟨(.type "function"), none, (fo "scriptDataEscapedEndTagOpenState" "HTMLTokenizer.scriptDataEscapedEndTagOpenState" (mS 21 31) .none .none .none (s "html5lib._tokenizer" 827) (r 478) .none), [].toArray⟩
noncomputable def o480 : Obj := ⟨(.type "tuple"), none, (.seq [].toArray 0), [].toArray⟩
noncomputable def o481 : Obj := ⟨.none, none, (.fields [].toArray), [].toArray⟩
noncomputable def o482 : Obj := ⟨(.type "tuple"), none, (.seq [(s "self" 1110)].toArray 0), [].toArray⟩
noncomputable def o483 : Obj := ⟨(.type "tuple"), none, (.seq [].toArray 0), [].toArray⟩
noncomputable def o484 : Obj := ⟨.none, none, (.func ⟨"scriptDataEscapedEndTagNameState", "HTMLTokenizer.scriptDataEscapedEndTagNameState", fA (mS 21 32), .stmts (fB (mS 21 32)), fC (mS 21 32), 0, [], .none, .none, .none, .none, none, .none, .none, 0⟩), [].toArray⟩
noncomputable def o485 : Obj := ⟨(.type "code"), none, (.fields [(s "scriptDataEscapedEndTagNameState" 1107), (s "HTMLTokenizer.scriptDataEscapedEndTagNameState" 1108), (s "/claim/cut.py" 1109), (.int 450 0), (.int 1 0), (.int 0 0), (.int 0 0), (.int 3 0), (r 480), (.bool true), (.int 181 0), (r 481), .none, (r 482), (r 483), (r 484), (.int 1111 0), (.int 450 0), (s "/claim/cut.py" 1112)].toArray), [].toArray⟩
noncomputable def o486 : Obj := ⟨(.type "function"), none, (fo "scriptDataEscapedEndTagNameState" "HTMLTokenizer.scriptDataEscapedEndTagNameState" (mS 21 32) .none .none .none (s "html5lib._tokenizer" 827) (r 485) .none), [].toArray⟩
noncomputable def o487 : Obj := ⟨(.type "tuple"), none, (.seq [].toArray 0), [].toArray⟩
noncomputable def o488 : Obj := ⟨.none, none, (.fields [].toArray), [].toArray⟩
noncomputable def o489 : Obj := ⟨(.type "tuple"), none, (.seq [(s "self" 1117)].toArray 0), [].toArray⟩
noncomputable def o490 : Obj := ⟨(.type "tuple"), none, (.seq [].toArray 0), [].toArray⟩
noncomputable def o491 : Obj := ⟨.none, none, (.func ⟨"scriptDataDoubleEscapeStartState", "HTMLTokenizer.scriptDataDoubleEscapeStartState", fA (mS 21 33), .stmts (fB (mS 21 33)), fC (mS 21 33), 0, [], .none, .none, .none, .none, none, .none, .none, 0⟩), [].toArray⟩
noncomputable def o492 : Obj := ⟨(.type "code"), none, (.fields [(s "scriptDataDoubleEscapeStartState" 1114), (s "HTMLTokenizer.scriptDataDoubleEscapeStartState" 1115), (s "/claim/cut.py" 1116), (.int 453 0), (.int 1 0), (.int 0 0), (.int 0 0), (.int 3 0), (r 487), (.bool true), (.int 181 0), (r 488), .none, (r 489), (r 490), (r 491), (.int 1118 0), (.int 453 0), (s "/claim/cut.py" 1119)].toArray), [].toArray⟩
noncomputable def o493 : Obj := ⟨(.type "function"), none, (fo "scriptDataDoubleEscapeStartState" "HTMLTokenizer.scriptDataDoubleEscapeStartState" (mS 21 33) .none .none .none (s "html5lib._tokenizer" 827) (r 492) .none), [].toArray⟩
noncomputable def o494 : Obj := ⟨(.type "tuple"), none, (.seq [].toArray 0), [].toArray⟩
noncomputable def o495 : Obj := ⟨.none, none, (.fields [].toArray), [].toArray⟩
noncomputable def o496 : Obj := ⟨(.type "tuple"), none, (.seq [(s "self" 1124)].toArray 0), [].toArray⟩
noncomputable def o497 : Obj := ⟨(.type "tuple"), none, (.seq [].toArray 0), [].toArray⟩
noncomputable def o498 : Obj := ⟨.none, none, (.func ⟨"scriptDataDoubleEscapedState", "HTMLTokenizer.scriptDataDoubleEscapedState", fA (mS 21 34), .stmts (fB (mS 21 34)), fC (mS 21 34), 0, [], .none, .none, .none, .none, none, .none, .none, 0⟩), [].toArray⟩
noncomputable def o499 : Obj := ⟨(.type "code"), none, (.fields [(s "scriptDataDoubleEscapedState" 1121), (s "HTMLTokenizer.scriptDataDoubleEscapedState" 1122), (s "/claim/cut.py" 1123), (.int 456 0), (.int 1 0), (.int 0 0), (.int 0 0), (.int 3 0), (r 494), (.bool true), (.int 181 0), (r 495), .none, (r 496), (r 497), (r 498), (.int 1125 0), (.int 456 0), (s "/claim/cut.py" 1126)].toArray), [].toArray⟩
noncomputable def o500 : Obj := ⟨(.type "function"), none, (fo "scriptDataDoubleEscapedState" "HTMLTokenizer.scriptDataDoubleEscapedState" (mS 21 34) .none .none .none (s "html5lib._tokenizer" 827) (r 499) .none), [].toArray⟩
noncomputable def o501 : Obj := ⟨(.type "tuple"), none, (.seq [].toArray 0), [].toArray⟩
noncomputable def o502 : Obj := ⟨.none, none, (.fields [].toArray), [].toArray⟩
noncomputable def o503 : Obj := ⟨(.type "tuple"), none, (.seq [(s "self" 1131)].toArray 0), [].toArray⟩
noncomputable def o504 : Obj := ⟨(.type "tuple"), none, (.seq [].toArray 0), [].toArray⟩
noncomputable def o505 : Obj := ⟨.none, none, (.func ⟨"scriptDataDoubleEscapedDashState", "HTMLTokenizer.scriptDataDoubleEscapedDashState", fA (mS 21 35), .stmts (fB (mS 21 35)), fC (mS 21 35), 0, [], .none, .none, .none, .none, none, .none, .none, 0⟩), [].toArray⟩
noncomputable def o506 : Obj := ⟨(.type "code"), none, (.fields [(s "scriptDataDoubleEscapedDashState" 1128), (s "HTMLTokenizer.scriptDataDoubleEscapedDashState" 1129), (s "/claim/cut.py" 1130), (.int 459 0), (.int 1 0), (.int 0 0), (.int 0 0), (.int 3 0), (r 501), (.bool true), (.int 181 0), (r 502), .none, (r 503), (r 504), (r 505), (.int 1132 0), (.int 459 0), (s "/claim/cut.py" 1133)].toArray), [].toArray⟩
noncomputable def o507 : Obj := ⟨(.type "function"), none, (fo "scriptDataDoubleEscapedDashState" "HTMLTokenizer.scriptDataDoubleEscapedDashState" (mS 21 35) .none .none .none (s "html5lib._tokenizer" 827) (r 506) .none), [].toArray⟩
noncomputable def o508 : Obj := ⟨(.type "tuple"), none, (.seq [].toArray 0), [].toArray⟩
noncomputable def o509 : Obj := ⟨.none, none, (.fields [].toArray), [].toArray⟩
noncomputable def o510 : Obj := ⟨(.type "tuple"), none, (.seq [(s "self" 1138)].toArray 0), [].toArray⟩
noncomputable def o511 : Obj := ⟨(.type "tuple"), none, (.seq [].toArray 0), [].toArray⟩
noncomputable def o512 : Obj := ⟨.none, none, (.func ⟨"scriptDataDoubleEscapedDashDashState", "HTMLTokenizer.scriptDataDoubleEscapedDashDashState", fA (mS 21 36), .stmts (fB (mS 21 36)), fC (mS 21 36), 0, [], .none, .none, .none, .none, none, .none, .none, 0⟩), [].toArray⟩
noncomputable def o513 : Obj := ⟨(.type "code"), none, (.fields [(s "scriptDataDoubleEscapedDashDashState" 1135), (s "HTMLTokenizer.scriptDataDoubleEscapedDashDashState" 1136), (s "/claim/cut.py" 1137), (.int 462 0), (.int 1 0), (.int 0 0), (.int 0 0), (.int 3 0), (r 508), (.bool true), (.int 181 0), (r 509), .none, (r 510), (r 511), (r 512), (.int 1139 0), (.int 462 0), (s "/claim/cut.py" 1140)].toArray), [].toArray⟩
noncomputable def o514 : Obj := ⟨(.type "function"), none, (fo "scriptDataDoubleEscapedDashDashState" "HTMLTokenizer.scriptDataDoubleEscapedDashDashState" (mS 21 36) .none .none .none (s "html5lib._tokenizer" 827) (r 513) .none), [].toArray⟩
noncomputable def o515 : Obj := ⟨(.type "tuple"), none, (.seq [].toArray 0), [].toArray⟩
noncomputable def o516 : Obj := ⟨.none, none, (.fields [].toArray), [].toArray⟩
noncomputable def o517 : Obj := ⟨(.type "tuple"), none, (.seq [(s "self" 1145)].toArray 0), [].toArray⟩
noncomputable def o518 : Obj := ⟨(.type "tuple"), none, (.seq [].toArray 0), [].toArray⟩
noncomputable def o519 : Obj := ⟨.none, none, (.func ⟨"scriptDataDoubleEscapedLessThanSignState", "HTMLTokenizer.scriptDataDoubleEscapedLessThanSignState", fA (mS 21 37), .stmts (fB (mS 21 37)), fC (mS 21 37), 0, [], .none, .none, .none, .none, none, .none, .none, 0⟩), [].toArray⟩
noncomputable def o520 : Obj := ⟨(.type "code"), none, (.fields [(s "scriptDataDoubleEscapedLessThanSignState" 1142), (s "HTMLTokenizer.scriptDataDoubleEscapedLessThanSignState" 1143), (s "/claim/cut.py" 1144), (.int 465 0), (.int 1 0), (.int 0 0), (.int 0 0), (.int 3 0), (r 515), (.bool true), (.int 181 0), (r 516), .none, (r 517), (r 518), (r 519), (.int 1146 0), (.int 465 0), (s "/claim/cut.py" 1147)].toArray), [].toArray⟩
noncomputable def o521 : Obj := ⟨(.type "function"), none, (fo "scriptDataDoubleEscapedLessThanSignState" "HTMLTokenizer.scriptDataDoubleEscapedLessThanSignState" (mS 21 37) .none .none .none (s "html5lib._tokenizer" 827) (r 520) .none), [].toArray⟩
noncomputable def o522 : Obj := ⟨(.type "tuple"), none, (.seq [].toArray 0), [].toArray⟩
noncomputable def o523 : Obj := ⟨.none, none, (.fields [].toArray), [].toArray⟩
noncomputable def o524 : Obj := ⟨(.type "tuple"), none, (.seq [(s "self" 1152)].toArray 0), [].toArray⟩
noncomputable def o525 : Obj := ⟨(.type "tuple"), none, (.seq [].toArray 0), [].toArray⟩
noncomputable def o526 : Obj := ⟨.none, none, (.func ⟨"scriptDataDoubleEscapeEndState", "HTMLTokenizer.scriptDataDoubleEscapeEndState", fA (mS 21 38), .stmts (fB (mS 21 38)), fC (mS 21 38), 0, [], .none, .none, .none, .none, none, .none, .none, 0⟩), [].toArray⟩
noncomputable def o527 : Obj := ⟨(.type "code"), none, (.fields [(s "scriptDataDoubleEscapeEndState" 1149), (s "HTMLTokenizer.scriptDataDoubleEscapeEndState" 1150), (s "/claim/cut.py" 1151), (.int 468 0), (.int 1 0), (.int 0 0), (.int 0 0), (.int 3 0), (r 522), (.bool true), (.int 181 0), (r 523), .none, (r 524), (r 525), (r 526), (.int 1153 0), (.int 468 0), (s "/claim/cut.py" 1154)].toArray), [].toArray⟩
noncomputable def o528 : Obj := ⟨(.type "function"), none, (fo "scriptDataDoubleEscapeEndState" "HTMLTokenizer.scriptDataDoubleEscapeEndState" (mS 21 38) .none .none .none (s "html5lib._tokenizer" 827) (r 527) .none), [].toArray⟩
noncomputable def o529 : Obj := ⟨(.type "tuple"), none, (.seq [].toArray 0), [].toArray⟩
noncomputable def o530 : Obj := ⟨.none, none, (.fields [].toArray), [].toArray⟩
noncomputable def o531 : Obj := ⟨(.type "tuple"), none, (.seq [(s "self" 1159), (s "data" 1160)].toArray 0), [].toArray⟩
noncomputable def o532 : Obj := ⟨(.type "tuple"), none, (.seq [].toArray 0), [].toArray⟩
noncomputable def o533 : Obj := ⟨.none, none, (.func ⟨"beforeAttributeNameState", "HTMLTokenizer.beforeAttributeNameState", fA (mS 21 39), .stmts (fB (mS 21 39)), fC (mS 21 39), 0, [], .none, .none, .none, .none, none, .none, .none, 0⟩), [].toArray⟩
noncomputable def o534 : Obj := ⟨(.type "code"), none, (.fields [(s "beforeAttributeNameState" 1156), (s "HTMLTokenizer.beforeAttributeNameState" 1157), (s "/claim/cut.py" 1158), (.int 471 0), (.int 1 0), (.int 0 0), (.int 0 0), (.int 3 0), (r 529), (.bool true), (.int 181 0), (r 530), .none, (r 531), (r 532), (r 533), (.int 1161 0), (.int 471 0), (s "/claim/cut.py" 1162)].toArray), [].toArray⟩
noncomputable def o535 : Obj := ⟨(.type "function"), none, (fo "beforeAttributeNameState" "HTMLTokenizer.beforeAttributeNameState" (mS 21 39) .none .none .none (s "html5lib._tokenizer" 827) (r 534) .none), [].toArray⟩
noncomputable def o536 : Obj := ⟨(.type "tuple"), none, (.seq [].toArray 0), [].toArray⟩
noncomputable def o537 : Obj := ⟨.none, none, (.fields [].toArray), [].toArray⟩
noncomputable def o538 : Obj := ⟨(.type "tuple"), none, (.seq [(s "self" 1167), (s "data" 1168), (s "leavingThisState" 1169), (s "emitToken" 1170), (s "name" 1171), (s "_" 1172)].toArray 0), [].toArray⟩
noncomputable def o539 : Obj := ⟨(.type "tuple"), none, (.seq [].toArray 0), [].toArray⟩
noncomputable def o540 : Obj := ⟨.none, none, (.func ⟨"attributeNameState", "HTMLTokenizer.attributeNameState", fA (mS 21 40), .stmts (fB (mS 21 40)), fC (mS 21 40), 0, [], .none, .none, .none, .none, none, .none, .none, 0⟩), [].toArray⟩
noncomputable def o541 : Obj := ⟨(.type "code"), none, (.fields [(s "attributeNameState" 1164), (s "HTMLTokenizer.attributeNameState" 1165), (s "/claim/cut.py" 1166), (.int 498 0), (.int 1 0), (.int 0 0), (.int 0 0), (.int 3 0), (r 536), (.bool true), (.int 181 0), (r 537), .none, (r 538), (r 539), (r 540), (.int 1173 0), (.int 498 0), (s "/claim/cut.py" 1174)].toArray), [].toArray⟩
noncomputable def o542 : Obj := ⟨(.type "function"), none, (fo "attributeNameState" "HTMLTokenizer.attributeNameState" (mS 21 40) .none .none .none (s "html5lib._tokenizer" 827) (r 541) .none), [].toArray⟩
noncomputable def o543 : Obj := ⟨(.type "tuple"), none, (.seq [].toArray 0), [].toArray⟩
noncomputable def o544 : Obj := ⟨.none, none, (.fields [].toArray), [].toArray⟩
noncomputable def o545 : Obj := ⟨(.type "tuple"), none, (.seq [(s "self" 1179), (s "data" 1180)].toArray 0), [].toArray⟩
noncomputable def o546 : Obj := ⟨(.type "tuple"), none, (.seq [].toArray 0), [].toArray⟩
noncomputable def o547 : Obj := ⟨.none, none, (.func ⟨"afterAttributeNameState", "HTMLTokenizer.afterAttributeNameState", fA (mS 21 41), .stmts (fB (mS 21 41)), fC (mS 21 41), 0, [], .none, .none, .none, .none, none, .none, .none, 0⟩), [].toArray⟩
noncomputable def o548 : Obj := ⟨(.type "code"), none, (.fields [(s "afterAttributeNameState" 1176), (s "HTMLTokenizer.afterAttributeNameState" 1177), (s "/claim/cut.py" 1178), (.int 537 0), (.int 1 0), (.int 0 0), (.int 0 0), (.int 3 0), (r 543), (.bool true), (.int 181 0), (r 544), .none, (r 545), (r 546), (r 547), (.int 1181 0), (.int 537 0), (s "/claim/cut.py" 1182)].toArray), [].toArray⟩
noncomputable def o549 : Obj := ⟨(.type "function"), none, (fo "afterAttributeNameState" "HTMLTokenizer.afterAttributeNameState" (mS 21 41) .none .none .none (s "html5lib._tokenizer" 827) (r 548) .none), [].toArray⟩
noncomputable def o550 : Obj := ⟨(.type "tuple"), none, (.seq [].toArray 0), [].toArray⟩
noncomputable def o551 : Obj := ⟨.none, none, (.fields [].toArray), [].toArray⟩
noncomputable def o552 : Obj := ⟨(.type "tuple"), none, (.seq [(s "self" 1187), (s "data" 1188)].toArray 0), [].toArray⟩
noncomputable def o553 : Obj := ⟨(.type "tuple"), none, (.seq [].toArray 0), [].toArray⟩
noncomputable def o554 : Obj := ⟨.none, none, (.func ⟨"beforeAttributeValueState", "HTMLTokenizer.beforeAttributeValueState", fA (mS 21 42), .stmts (fB (mS 21 42)), fC (mS 21 42), 0, [], .none, .none, .none, .none, none, .none, .none, 0⟩), [].toArray⟩
noncomputable def o555 : Obj := ⟨(.type "code"), none, (.fields [(s "beforeAttributeValueState" 1184), (s "HTMLTokenizer.beforeAttributeValueState" 1185), (s "/claim/cut.py" 1186), (.int 566 0), (.int 1 0), (.int 0 0), (.int 0 0), (.int 3 0), (r 550), (.bool true), (.int 181 0), (r 551), .none, (r 552), (r 553), (r 554), (.int 1189 0), (.int 566 0), (s "/claim/cut.py" 1190)].toArray), [].toArray⟩
noncomputable def o556 : Obj := ⟨(.type "function"), none, (fo "beforeAttributeValueState" "HTMLTokenizer.beforeAttributeValueState" (mS 21 42) .none .none .none (s "html5lib._tokenizer" 827) (r 555) .none), [].toArray⟩
noncomputable def o557 : Obj := ⟨(.type "tuple"), none, (.seq [].toArray 0), [].toArray⟩
noncomputable def o558 : Obj := ⟨.none, none, (.fields [].toArray), [].toArray⟩
noncomputable def o559 : Obj := ⟨(.type "tuple"), none, (.seq [(s "self" 1195), (s "data" 1196)].toArray 0), [].toArray⟩
noncomputable def o560 : Obj := ⟨(.type "tuple"), none, (.seq [].toArray 0), [].toArray⟩
noncomputable def o561 : Obj := ⟨.none, none, (.func ⟨"attributeValueDoubleQuotedState", "HTMLTokenizer.attributeValueDoubleQuotedState", fA (mS 21 43), .stmts (fB (mS 21 43)), fC (mS 21 43), 0, [], .none, .none, .none, .none, none, .none, .none, 0⟩), [].toArray⟩
noncomputable def o562 : Obj := ⟨(.type "code"), none, (.fields [(s "attributeValueDoubleQuotedState" 1192), (s "HTMLTokenizer.attributeValueDoubleQuotedState" 1193), (s "/claim/cut.py" 1194), (.int 596 0), (.int 1 0), (.int 0 0), (.int 0 0), (.int 3 0), (r 557), (.bool true), (.int 181 0), (r 558), .none, (r 559), (r 560), (r 561), (.int 1197 0), (.int 596 0), (s "/claim/cut.py" 1198)].toArray), [].toArray⟩
noncomputable def o563 : Obj := ⟨(.type "function"), none, (fo "attributeValueDoubleQuotedState" "HTMLTokenizer.attributeValueDoubleQuotedState" (mS 21 43) .none .none .none (s "html5lib._tokenizer" 827) (r 562) .none), [].toArray⟩
noncomputable def o564 : Obj := ⟨(.type "tuple"), none, (.seq [].toArray 0), [].toArray⟩
noncomputable def o565 : Obj := ⟨.none, none, (.fields [].toArray), [].toArray⟩
noncomputable def o566 : Obj := ⟨(.type "tuple"), none, (.seq [(s "self" 1203), (s "data" 1204)].toArray 0), [].toArray⟩
noncomputable def o567 : Obj := ⟨(.type "tuple"), none, (.seq [].toArray 0), [].toArray⟩
noncomputable def o568 : Obj := ⟨.none, none, (.func ⟨"attributeValueSingleQuotedState", "HTMLTokenizer.attributeValueSingleQuotedState", fA (mS 21 44), .stmts (fB (mS 21 44)), fC (mS 21 44), 0, [], .none, .none, .none, .none, none, .none, .none, 0⟩), [].toArray⟩
noncomputable def o569 : Obj := ⟨(.type "code"), none, (.fields [(s "attributeValueSingleQuotedState" 1200), (s "HTMLTokenizer.attributeValueSingleQuotedState" 1201), (s "/claim/cut.py" 1202), (.int 612 0), (.int 1 0), (.int 0 0), (.int 0 0), (.int 3 0), (r 564), (.bool true), (.int 181 0), (r 565), .none, (r 566), (r 567), (r 568), (.int 1205 0), (.int 612 0), (s "/claim/cut.py" 1206)].toArray), [].toArray⟩
noncomputable def o570 : Obj := ⟨(.type "function"), none, (fo "attributeValueSingleQuotedState" "HTMLTokenizer.attributeValueSingleQuotedState" (mS 21 44) .none .none .none (s "html5lib._tokenizer" 827) (r 569) .none), [].toArray⟩
noncomputable def o571 : Obj := ⟨(.type "tuple"), none, (.seq [].toArray 0), [].toArray⟩
noncomputable def o572 : Obj := ⟨.none, none, (.fields [].toArray), [].toArray⟩
noncomputable def o573 : Obj := ⟨(.type "tuple"), none, (.seq [(s "self" 1211), (s "data" 1212)].toArray 0), [].toArray⟩
noncomputable def o574 : Obj := ⟨(.type "tuple"), none, (.seq [].toArray 0), [].toArray⟩
noncomputable def o575 : Obj := ⟨.none, none, (.func ⟨"attributeValueUnQuotedState", "HTMLTokenizer.attributeValueUnQuotedState", fA (mS 21 45), .stmts (fB (mS 21 45)), fC (mS 21 45), 0, [], .none, .none, .none, .none, none, .none, .none, 0⟩), [].toArray⟩
noncomputable def o576 : Obj := ⟨(.type "code"), none, (.fields [(s "attributeValueUnQuotedState" 1208), (s "HTMLTokenizer.attributeValueUnQuotedState" 1209), (s "/claim/cut.py" 1210), (.int 628 0), (.int 1 0), (.int 0 0), (.int 0 0), (.int 3 0), (r 571), (.bool true), (.int 181 0), (r 572), .none, (r 573), (r 574), (r 575), (.int 1213 0), (.int 628 0), (s "/claim/cut.py" 1214)].toArray), [].toArray⟩
noncomputable def o577 : Obj := ⟨(.type "function"), none, (fo "attributeValueUnQuotedState" "HTMLTokenizer.attributeValueUnQuotedState" (mS 21 45) .none .none .none (s "html5lib._tokenizer" 827) (r 576) .none), [].toArray⟩
noncomputable def o578 : Obj := ⟨(.type "tuple"), none, (.seq [].toArray 0), [].toArray⟩
noncomputable def o579 : Obj := ⟨.none, none, (.fields [].toArray), [].toArray⟩
noncomputable def o580 : Obj := ⟨(.type "tuple"), none, (.seq [(s "self" 1219), (s "data" 1220)].toArray 0), [].toArray⟩
noncomputable def o581 : Obj := ⟨(.type "tuple"), none, (.seq [].toArray 0), [].toArray⟩
noncomputable def o582 : Obj := ⟨.none, none, (.func ⟨"afterAttributeValueState", "HTMLTokenizer.afterAttributeValueState", fA (mS 21 46), .stmts (fB (mS 21 46)), fC (mS 21 46), 0, [], .none, .none, .none, .none, none, .none, .none, 0⟩), [].toArray⟩
noncomputable def o583 : Obj := ⟨(.type "code"), none, (.fields [(s "afterAttributeValueState" 1216), (s "HTMLTokenizer.afterAttributeValueState" 1217), (s "/claim/cut.py" 1218), (.int 649 0), (.int 1 0), (.int 0 0), (.int 0 0), (.int 3 0), (r 578), (.bool true), (.int 181 0), (r 579), .none, (r 580), (r 581), (r 582), (.int 1221 0), (.int 649 0), (s "/claim/cut.py" 1222)].toArray), [].toArray⟩
noncomputable def o584 : Obj := ⟨(.type "function"), none, (fo "afterAttributeValueState" "HTMLTokenizer.afterAttributeValueState" (mS 21 46) .none .none .none (s "html5lib._tokenizer" 827) (r 583) .none), [].toArray⟩
noncomputable def o585 : Obj := ⟨(.type "tuple"), none, (.seq [].toArray 0), [].toArray⟩
noncomputable def o586 : Obj := ⟨.none, none, (.fields [].toArray), [].toArray⟩
noncomputable def o587 : Obj := ⟨(.type "tuple"), none, (.seq [(s "self" 1227), (s "data" 1228)].toArray 0), [].toArray⟩
noncomputable def o588 : Obj := ⟨(.type "tuple"), none, (.seq [].toArray 0), [].toArray⟩
noncomputable def o589 : Obj := ⟨.none, none, (.func ⟨"selfClosingStartTagState", "HTMLTokenizer.selfClosingStartTagState", fA (mS 21 47), .stmts (fB (mS 21 47)), fC (mS 21 47), 0, [], .none, .none, .none, .none, none, .none, .none, 0⟩), [].toArray⟩
noncomputable def o590 : Obj := ⟨(.type "code"), none, (.fields [(s "selfClosingStartTagState" 1224), (s "HTMLTokenizer.selfClosingStartTagState" 1225), (s "/claim/cut.py" 1226), (.int 667 0), (.int 1 0), (.int 0 0), (.int 0 0), (.int 3 0), (r 585), (.bool true), (.int 181 0), (r 586), .none, (r 587), (r 588), (r 589), (.int 1229 0), (.int 667 0), (s "/claim/cut.py" 1230)].toArray), [].toArray⟩
noncomputable def o591 : Obj := ⟨(.type "function"), none, (fo "selfClosingStartTagState" "HTMLTokenizer.selfClosingStartTagState" (mS 21 47) .none .none .none (s "html5lib._tokenizer" 827) (r 590) .none), [].toArray⟩
noncomputable def o592 : Obj := ⟨(.type "tuple"), none, (.seq [].toArray 0), [].toArray⟩
noncomputable def o593 : Obj := ⟨.none, none, (.fields [].toArray), [].toArray⟩
noncomputable def o594 : Obj := ⟨(.type "tuple"), none, (.seq [(s "self" 1235), (s "data" 1236)].toArray 0), [].toArray⟩
noncomputable def o595 : Obj := ⟨(.type "tuple"), none, (.seq [].toArray 0), [].toArray⟩
noncomputable def o596 : Obj := ⟨.none, none, (.func ⟨"bogusCommentState", "HTMLTokenizer.bogusCommentState", fA (mS 21 48), .stmts (fB (mS 21 48)), fC (mS 21 48), 0, [], .none, .none, .none, .none, none, .none, .none, 0⟩), [].toArray⟩
noncomputable def o597 : Obj := ⟨(.type "code"), none, (.fields [(s "bogusCommentState" 1232), (s "HTMLTokenizer.bogusCommentState" 1233), (s "/claim/cut.py" 1234), (.int 682 0), (.int 1 0), (.int 0 0), (.int 0 0), (.int 3 0), (r 592), (.bool true), (.int 181 0), (r 593), .none, (r 594), (r 595), (r 596), (.int 1237 0), (.int 682 0), (s "/claim/cut.py" 1238)].toArray), [].toArray⟩
noncomputable def o598 : Obj := ⟨(.type "function"), none, (fo "bogusCommentState" "HTMLTokenizer.bogusCommentState" (mS 21 48) .none .none .none (s "html5lib._tokenizer" 827) (r 597) .none), [].toArray⟩
noncomputable def o599 : Obj := ⟨(.type "tuple"), none, (.seq [].toArray 0), [].toArray⟩
noncomputable def o600 : Obj := ⟨.none, none, (.fields [].toArray), [].toArray⟩
noncomputable def o601 : Obj := ⟨(.type "tuple"), none, (.seq [(s "self" 1243), (s "charStack" 1244), (s "matched" 1245), (s "expected" 1246)].toArray 0), [].toArray⟩
noncomputable def o602 : Obj := ⟨(.type "tuple"), none, (.seq [].toArray 0), [].toArray⟩
noncomputable def o603 : Obj := ⟨.none, none, (.func ⟨"markupDeclarationOpenState", "HTMLTokenizer.markupDeclarationOpenState", fA (mS 21 49), .stmts (fB (mS 21 49)), fC (mS 21 49), 0, [], .none, .none, .none, .none, none, .none, .none, 0⟩), [].toArray⟩
noncomputable def o604 : Obj := ⟨(.type "code"), none, (.fields [(s "markupDeclarationOpenState" 1240), (s "HTMLTokenizer.markupDeclarationOpenState" 1241), (s "/claim/cut.py" 1242), (.int 690 0), (.int 1 0), (.int 0 0), (.int 0 0), (.int 3 0), (r 599), (.bool true), (.int 181 0), (r 600), .none, (r 601), (r 602), (r 603), (.int 1247 0), (.int 690 0), (s "/claim/cut.py" 1248)].toArray), [].toArray⟩
noncomputable def o605 : Obj := ⟨(.type "function"), none, (fo "markupDeclarationOpenState" "HTMLTokenizer.markupDeclarationOpenState" (mS 21 49) .none .none .none (s "html5lib._tokenizer" 827) (r 604) .none), [].toArray⟩
noncomputable def o606 : Obj := ⟨(.type "tuple"), none, (.seq [].toArray 0), [].toArray⟩
noncomputable def o607 : Obj := ⟨.none, none, (.fields [].toArray), [].toArray⟩
noncomputable def o608 : Obj := ⟨(.type "tuple"), none, (.seq [(s "self" 1253), (s "data" 1254)].toArray 0), [].toArray⟩
noncomputable def o609 : Obj := ⟨(.type "tuple"), none, (.seq [].toArray 0), [].toArray⟩
noncomputable def o610 : Obj := ⟨.none, none, (.func ⟨"commentStartState", "HTMLTokenizer.commentStartState", fA (mS 21 50), .stmts (fB (mS 21 50)), fC (mS 21 50), 0, [], .none, .none, .none, .none, none, .none, .none, 0⟩), [].toArray⟩
noncomputable def o611 : Obj := ⟨(.type "code"), none, (.fields [(s "commentStartState" 1250), (s "HTMLTokenizer.commentStartState" 1251), (s "/claim/cut.py" 1252), (.int 715 0), (.int 1 0), (.int 0 0), (.int 0 0), (.int 3 0), (r 606), (.bool true), (.int 181 0), (r 607), .none, (r 608), (r 609), (r 610), (.int 1255 0), (.int 715 0), (s "/claim/cut.py" 1256)].toArray), [].toArray⟩
noncomputable def o612 : Obj := ⟨(.type "function"), none, (fo "commentStartState" "HTMLTokenizer.commentStartState" (mS 21 50) .none .none .none (s "html5lib._tokenizer" 827) (r 611) .none), [].toArray⟩
noncomputable def o613 : Obj := ⟨(.type "tuple"), none, (.seq [].toArray 0), [].toArray⟩
noncomputable def o614 : Obj := ⟨.none, none, (.fields [].toArray), [].toArray⟩
noncomputable def o615 : Obj := ⟨(.type "tuple"), none, (.seq [(s "self" 1261), (s "data" 1262)].toArray 0), [].toArray⟩
noncomputable def o616 : Obj := ⟨(.type "tuple"), none, (.seq [].toArray 0), [].toArray⟩
noncomputable def o617 : Obj := ⟨.none, none, (.func ⟨"commentStartDashState", "HTMLTokenizer.commentStartDashState", fA (mS 21 51), .stmts (fB (mS 21 51)), fC (mS 21 51), 0, [], .none, .none, .none, .none, none, .none, .none, 0⟩), [].toArray⟩
noncomputable def o618 : Obj := ⟨(.type "code"), none, (.fields [(s "commentStartDashState" 1258), (s "HTMLTokenizer.commentStartDashState" 1259), (s "/claim/cut.py" 1260), (.int 735 0), (.int 1 0), (.int 0 0), (.int 0 0), (.int 3 0), (r 613), (.bool true), (.int 181 0), (r 614), .none, (r 615), (r 616), (r 617), (.int 1263 0), (.int 735 0), (s "/claim/cut.py" 1264)].toArray), [].toArray⟩
noncomputable def o619 : Obj := ⟨(.type "function"), none, (fo "commentStartDashState" "HTMLTokenizer.commentStartDashState" (mS 21 51) .none .none .none (s "html5lib._tokenizer" 827) (r 618) .none), [].toArray⟩
noncomputable def o620 : Obj := ⟨(.type "tuple"), none, (.seq [].toArray 0), [].toArray⟩
noncomputable def o621 : Obj := ⟨.none, none, (.fields [].toArray), [].toArray⟩
noncomputable def o622 : Obj := ⟨(.type "tuple"), none, (.seq [(s "self" 1269), (s "data" 1270)].toArray 0), [].toArray⟩
noncomputable def o623 : Obj := ⟨(.type "tuple"), none, (.seq [].toArray 0), [].toArray⟩
noncomputable def o624 : Obj := ⟨.none, none, (.func ⟨"commentState", "HTMLTokenizer.commentState", fA (mS 21 52), .stmts (fB (mS 21 52)), fC (mS 21 52), 0, [], .none, .none, .none, .none, none, .none, .none, 0⟩), [].toArray⟩
noncomputable def o625 : Obj := ⟨(.type "code"), none, (.fields [(s "commentState" 1266), (s "HTMLTokenizer.commentState" 1267), (s "/claim/cut.py" 1268), (.int 755 0), (.int 1 0), (.int 0 0), (.int 0 0), (.int 3 0), (r 620), (.bool true), (.int 181 0), (r 621), .none, (r 622), (r 623), (r 624), (.int 1271 0), (.int 755 0), (s "/claim/cut.py" 1272)].toArray), [].toArray⟩
noncomputable def o626 : Obj := ⟨(.type "function"), none, (fo "commentState" "HTMLTokenizer.commentState" (mS 21 52) .none .none .none (s "html5lib._tokenizer" 827) (r 625) .none), [].toArray⟩
noncomputable def o627 : Obj := ⟨(.type "tuple"), none, (.seq [].toArray 0), [].toArray⟩
noncomputable def o628 : Obj := ⟨.none, none, (.fields [].toArray), [].toArray⟩
noncomputable def o629 : Obj := ⟨(.type "tuple"), none, (.seq [(s "self" 1277), (s "data" 1278)].toArray 0), [].toArray⟩
noncomputable def o630 : Obj := ⟨(.type "tuple"), none, (.seq [].toArray 0), [].toArray⟩
noncomputable def o631 : Obj := ⟨.none, none, (.func ⟨"commentEndDashState", "HTMLTokenizer.commentEndDashState", fA (mS 21 53), .stmts (fB (mS 21 53)), fC (mS 21 53), 0, [], .none, .none, .none, .none, none, .none, .none, 0⟩), [].toArray⟩
noncomputable def o632 : Obj := ⟨(.type "code"), none, (.fields [(s "commentEndDashState" 1274), (s "HTMLTokenizer.commentEndDashState" 1275), (s "/claim/cut.py" 1276), (.int 770 0), (.int 1 0), (.int 0 0), (.int 0 0), (.int 3 0), (r 627), (.bool true), (.int 181 0), (r 628), .none, (r 629), (r 630), (r 631), (.int 1279 0), (.int 770 0), (s "/claim/cut.py" 1280)].toArray), [].toArray⟩
noncomputable def o633 : Obj := ⟨(.type "function"), none, (fo "commentEndDashState" "HTMLTokenizer.commentEndDashState" (mS 21 53) .none .none .none (s "html5lib._tokenizer" 827) (r 632) .none), [].toArray⟩
noncomputable def o634 : Obj := ⟨(.type "tuple"), none, (.seq [].toArray 0), [].toArray⟩
noncomputable def o635 : Obj := ⟨.none, none, (.fields [].toArray), [].toArray⟩
noncomputable def o636 : Obj := ⟨(.type "tuple"), none, (.seq [(s "self" 1285), (s "data" 1286)].toArray 0), [].toArray⟩
noncomputable def o637 : Obj := ⟨(.type "tuple"), none, (.seq [].toArray 0), [].toArray⟩
noncomputable def o638 : Obj := ⟨.none, none, (.func ⟨"commentEndState", "HTMLTokenizer.commentEndState", fA (mS 21 54), .stmts (fB (mS 21 54)), fC (mS 21 54), 0, [], .none, .none, .none, .none, none, .none, .none, 0⟩), [].toArray⟩
noncomputable def o639 : Obj := ⟨(.type "code"), none, (.fields [(s "commentEndState" 1282), (s "HTMLTokenizer.commentEndState" 1283), (s "/claim/cut.py" 1284), (.int 787 0), (.int 1 0), (.int 0 0), (.int 0 0), (.int 3 0), (r 634), (.bool true), (.int 181 0), (r 635), .none, (r 636), (r 637), (r 638), (.int 1287 0), (.int 787 0), (s "/claim/cut.py" 1288)].toArray), [].toArray⟩
noncomputable def o640 : Obj := ⟨(.type "function"), none, (fo "commentEndState" "HTMLTokenizer.commentEndState" (mS 21 54) .none .none .none (s "html5lib._tokenizer" 827) (r 639) .none), [].toArray⟩
noncomputable def o641 : Obj := ⟨(.type "tuple"), none, (.seq [].toArray 0), [].toArray⟩
noncomputable def o642 : Obj := ⟨.none, none, (.fields [].toArray), [].toArray⟩
noncomputable def o643 : Obj := ⟨(.type "tuple"), none, (.seq [(s "self" 1293), (s "data" 1294)].toArray 0), [].toArray⟩
noncomputable def o644 : Obj := ⟨(.type "tuple"), none, (.seq [].toArray 0), [].toArray⟩
noncomputable def o645 : Obj := ⟨.none, none, (.func ⟨"commentEndBangState", "HTMLTokenizer.commentEndBangState", fA (mS 21 55), .stmts (fB (mS 21 55)), fC (mS 21 55), 0, [], .none, .none, .none, .none, none, .none, .none, 0⟩), [].toArray⟩
noncomputable def o646 : Obj := ⟨(.type "code"), none, (.fields [(s "commentEndBangState" 1290), (s "HTMLTokenizer.commentEndBangState" 1291), (s "/claim/cut.py" 1292), (.int 812 0), (.int 1 0), (.int 0 0), (.int 0 0), (.int 3 0), (r 641), (.bool true), (.int 181 0), (r 642), .none, (r 643), (r 644), (r 645), (.int 1295 0), (.int 812 0), (s "/claim/cut.py" 1296)].toArray), [].toArray⟩
noncomputable def o647 : Obj := ⟨(.type "function"), none, (fo "commentEndBangState" "HTMLTokenizer.commentEndBangState" (mS 21 55) .none .none .none (s "html5lib._tokenizer" 827) (r 646) .none), [].toArray⟩
noncomputable def o648 : Obj := ⟨(.type "tuple"), none, (.seq [].toArray 0), [].toArray⟩
noncomputable def o649 : Obj := ⟨.none, none, (.fields [].toArray), [].toArray⟩
noncomputable def o650 : Obj := ⟨(.type "tuple"), none, (.seq [(s "self" 1301), (s "data" 1302)].toArray 0), [].toArray⟩
noncomputable def o651 : Obj := ⟨(.type "tuple"), none, (.seq [].toArray 0), [].toArray⟩
noncomputable def o652 : Obj := ⟨.none, none, (.func ⟨"doctypeState", "HTMLTokenizer.doctypeState", fA (mS 21 56), .stmts (fB (mS 21 56)), fC (mS 21 56), 0, [], .none, .none, .none, .none, none, .none, .none, 0⟩), [].toArray⟩
noncomputable def o653 : Obj := ⟨(.type "code"), none, (.fields [(s "doctypeState" 1298), (s "HTMLTokenizer.doctypeState" 1299), (s "/claim/cut.py" 1300), (.int 833 0), (.int 1 0), (.int 0 0), (.int 0 0), (.int 3 0), (r 648), (.bool true), (.int 181 0), (r 649), .none, (r 650), (r 651), (r 652), (.int 1303 0), (.int 833 0), (s "/claim/cut.py" 1304)].toArray), [].toArray⟩
noncomputable def o654 : Obj := ⟨(.type "function"), none, (fo "doctypeState" "HTMLTokenizer.doctypeState" (mS 21 56) .none .none .none (s "html5lib._tokenizer" 827) (r 653) .none), [].toArray⟩
noncomputable def o655 : Obj := ⟨(.type "tuple"), none, (.seq [].toArray 0), [].toArray⟩
noncomputable def o656 : Obj := ⟨.none, none, (.fields [].toArray), [].toArray⟩
noncomputable def o657 : Obj := ⟨(.type "tuple"), none, (.seq [(s "self" 1309), (s "data" 1310)].toArray 0), [].toArray⟩
noncomputable def o658 : Obj := ⟨(.type "tuple"), none, (.seq [].toArray 0), [].toArray⟩
noncomputable def o659 : Obj := ⟨.none, none, (.func ⟨"beforeDoctypeNameState", "HTMLTokenizer.beforeDoctypeNameState", fA (mS 21 57), .stmts (fB (mS 21 57)), fC (mS 21 57), 0, [], .none, .none, .none, .none, none, .none, .none, 0⟩), [].toArray⟩
noncomputable def o660 : Obj := ⟨(.type "code"), none, (.fields [(s "beforeDoctypeNameState" 1306), (s "HTMLTokenizer.beforeDoctypeNameState" 1307), (s "/claim/cut.py" 1308), (.int 848 0), (.int 1 0), (.int 0 0), (.int 0 0), (.int 3 0), (r 655), (.bool true), (.int 181 0), (r 656), .none, (r 657), (r 658), (r 659), (.int 1311 0), (.int 848 0), (s "/claim/cut.py" 1312)].toArray), [].toArray⟩
noncomputable def o661 : Obj := ⟨(.type "function"), none, (fo "beforeDoctypeNameState" "HTMLTokenizer.beforeDoctypeNameState" (mS 21 57) .none .none .none (s "html5lib._tokenizer" 827) (r 660) .none), [].toArray⟩
noncomputable def o662 : Obj := ⟨(.type "tuple"), none, (.seq [].toArray 0), [].toArray⟩
noncomputable def o663 : Obj := ⟨.none, none, (.fields [].toArray), [].toArray⟩
noncomputable def o664 : Obj := ⟨(.type "tuple"), none, (.seq [(s "self" 1317), (s "data" 1318)].toArray 0), [].toArray⟩
noncomputable def o665 : Obj := ⟨(.type "tuple"), none, (.seq [].toArray 0), [].toArray⟩
noncomputable def o666 : Obj := ⟨.none, none, (.func ⟨"doctypeNameState", "HTMLTokenizer.doctypeNameState", fA (mS 21 58), .stmts (fB (mS 21 58)), fC (mS 21 58), 0, [], .none, .none, .none, .none, none, .none, .none, 0⟩), [].toArray⟩
noncomputable def o667 : Obj := ⟨(.type "code"), none, (.fields [(s "doctypeNameState" 1314), (s "HTMLTokenizer.doctypeNameState" 1315), (s "/claim/cut.py" 1316), (.int 871 0), (.int 1 0), (.int 0 0), (.int 0 0), (.int 3 0), (r 662), (.bool true), (.int 181 0), (r 663), .none, (r 664), (r 665), (r 666), (.int 1319 0), (.int 871 0), (s "/claim/cut.py" 1320)].toArray), [].toArray⟩
noncomputable def o668 : Obj := ⟨(.type "function"), none, (fo "doctypeNameState" "HTMLTokenizer.doctypeNameState" (mS 21 58) .none .none .none (s "html5lib._tokenizer" 827) (r 667) .none), [].toArray⟩
noncomputable def o669 : Obj := ⟨(.type "tuple"), none, (.seq [].toArray 0), [].toArray⟩
noncomputable def o670 : Obj := ⟨.none, none, (.fields [].toArray), [].toArray⟩
noncomputable def o671 : Obj := ⟨(.type "tuple"), none, (.seq [(s "self" 1325), (s "data" 1326), (s "matched" 1327), (s "expected" 1328)].toArray 0), [].toArray⟩
noncomputable def o672 : Obj := ⟨(.type "tuple"), none, (.seq [].toArray 0), [].toArray⟩
noncomputable def o673 : Obj := ⟨.none, none, (.func ⟨"afterDoctypeNameState", "HTMLTokenizer.afterDoctypeNameState", fA (mS 21 59), .stmts (fB (mS 21 59)), fC (mS 21 59), 0, [], .none, .none, .none, .none, none, .none, .none, 0⟩), [].toArray⟩
noncomputable def o674 : Obj := ⟨(.type "code"), none, (.fields [(s "afterDoctypeNameState" 1322), (s "HTMLTokenizer.afterDoctypeNameState" 1323), (s "/claim/cut.py" 1324), (.int 894 0), (.int 1 0), (.int 0 0), (.int 0 0), (.int 3 0), (r 669), (.bool true), (.int 181 0), (r 670), .none, (r 671), (r 672), (r 673), (.int 1329 0), (.int 894 0), (s "/claim/cut.py" 1330)].toArray), [].toArray⟩
noncomputable def o675 : Obj := ⟨(.type "function"), none, (fo "afterDoctypeNameState" "HTMLTokenizer.afterDoctypeNameState" (mS 21 59) .none .none .none (s "html5lib._tokenizer" 827) (r 674) .none), [].toArray⟩
noncomputable def o676 : Obj := ⟨(.type "tuple"), none, (.seq [].toArray 0), [].toArray⟩
noncomputable def o677 : Obj := ⟨.none, none, (.fields [].toArray), [].toArray⟩
noncomputable def o678 : Obj := ⟨(.type "tuple"), none, (.seq [(s "self" 1335), (s "data" 1336)].toArray 0), [].toArray⟩
noncomputable def o679 : Obj := ⟨(.type "tuple"), none, (.seq [].toArray 0), [].toArray⟩
noncomputable def o680 : Obj := ⟨.none, none, (.func ⟨"afterDoctypePublicKeywordState", "HTMLTokenizer.afterDoctypePublicKeywordState", fA (mS 21 60), .stmts (fB (mS 21 60)), fC (mS 21 60), 0, [], .none, .none, .none, .none, none, .none, .none, 0⟩), [].toArray⟩
noncomputable def o681 : Obj := ⟨(.type "code"), none, (.fields [(s "afterDoctypePublicKeywordState" 1332), (s "HTMLTokenizer.afterDoctypePublicKeywordState" 1333), (s "/claim/cut.py" 1334), (.int 934 0), (.int 1 0), (.int 0 0), (.int 0 0), (.int 3 0), (r 676), (.bool true), (.int 181 0), (r 677), .none, (r 678), (r 679), (r 680), (.int 1337 0), (.int 934 0), (s "/claim/cut.py" 1338)].toArray), [].toArray⟩
noncomputable def o682 : Obj := ⟨(.type "function"), none, (fo "afterDoctypePublicKeywordState" "HTMLTokenizer.afterDoctypePublicKeywordState" (mS 21 60) .none .none .none (s "html5lib._tokenizer" 827) (r 681) .none), [].toArray⟩
noncomputable def o683 : Obj := ⟨(.type "tuple"), none, (.seq [].toArray 0), [].toArray⟩
noncomputable def o684 : Obj := ⟨.none, none, (.fields [].toArray), [].toArray⟩
noncomputable def o685 : Obj := ⟨(.type "tuple"), none, (.seq [(s "self" 1343), (s "data" 1344)].toArray 0), [].toArray⟩
noncomputable def o686 : Obj := ⟨(.type "tuple"), none, (.seq [].toArray 0), [].toArray⟩
noncomputable def o687 : Obj := ⟨.none, none, (.func ⟨"beforeDoctypePublicIdentifierState", "HTMLTokenizer.beforeDoctypePublicIdentifierState", fA (mS 21 61), .stmts (fB (mS 21 61)), fC (mS 21 61), 0, [], .none, .none, .none, .none, none, .none, .none, 0⟩), [].toArray⟩
noncomputable def o688 : Obj := ⟨(.type "code"), none, (.fields [(s "beforeDoctypePublicIdentifierState" 1340), (s "HTMLTokenizer.beforeDoctypePublicIdentifierState" 1341), (s "/claim/cut.py" 1342), (.int 952 0), (.int 1 0), (.int 0 0), (.int 0 0), (.int 3 0), (r 683), (.bool true), (.int 181 0), (r 684), .none, (r 685), (r 686), (r 687), (.int 1345 0), (.int 952 0), (s "/claim/cut.py" 1346)].toArray), [].toArray⟩
noncomputable def o689 : Obj := ⟨(.type "function"), none, (fo "beforeDoctypePublicIdentifierState" "HTMLTokenizer.beforeDoctypePublicIdentifierState" (mS 21 61) .none .none .none (s "html5lib._tokenizer" 827) (r 688) .none), [].toArray⟩
noncomputable def o690 : Obj := ⟨(.type "tuple"), none, (.seq [].toArray 0), [].toArray⟩
noncomputable def o691 : Obj := ⟨.none, none, (.fields [].toArray), [].toArray⟩
noncomputable def o692 : Obj := ⟨(.type "tuple"), none, (.seq [(s "self" 1351), (s "data" 1352)].toArray 0), [].toArray⟩
noncomputable def o693 : Obj := ⟨(.type "tuple"), none, (.seq [].toArray 0), [].toArray⟩
noncomputable def o694 : Obj := ⟨.none, none, (.func ⟨"doctypePublicIdentifierDoubleQuotedState", "HTMLTokenizer.doctypePublicIdentifierDoubleQuotedState", fA (mS 21 62), .stmts (fB (mS 21 62)), fC (mS 21 62), 0, [], .none, .none, .none, .none, none, .none, .none, 0⟩), [].toArray⟩
noncomputable def o695 : Obj := ⟨(.type "code"), none, (.fields [(s "doctypePublicIdentifierDoubleQuotedState" 1348), (s "HTMLTokenizer.doctypePublicIdentifierDoubleQuotedState" 1349), (s "/claim/cut.py" 1350), (.int 978 0), (.int 1 0), (.int 0 0), (.int 0 0), (.int 3 0), (r 690), (.bool true), (.int 181 0), (r 691), .none, (r 692), (r 693), (r 694), (.int 1353 0), (.int 978 0), (s "/claim/cut.py" 1354)].toArray), [].toArray⟩
noncomputable def o696 : Obj := ⟨(.type "function"), none, (fo "doctypePublicIdentifierDoubleQuotedState" "HTMLTokenizer.doctypePublicIdentifierDoubleQuotedState" (mS 21 62) .none .none .none (s "html5lib._tokenizer" 827) (r 695) .none), [].toArray⟩
noncomputable def o697 : Obj := ⟨(.type "tuple"), none, (.seq [].toArray 0), [].toArray⟩
noncomputable def o698 : Obj := ⟨.none, none, (.fields [].toArray), [].toArray⟩
noncomputable def o699 : Obj := ⟨(.type "tuple"), none, (.seq [(s "self" 1359), (s "data" 1360)].toArray 0), [].toArray⟩
noncomputable def o700 : Obj := ⟨(.type "tuple"), none, (.seq [].toArray 0), [].toArray⟩
noncomputable def o701 : Obj := ⟨.none, none, (.func ⟨"doctypePublicIdentifierSingleQuotedState", "HTMLTokenizer.doctypePublicIdentifierSingleQuotedState", fA (mS 21 63), .stmts (fB (mS 21 63)), fC (mS 21 63), 0, [], .none, .none, .none, .none, none, .none, .none, 0⟩), [].toArray⟩
noncomputable def o702 : Obj := ⟨(.type "code"), none, (.fields [(s "doctypePublicIdentifierSingleQuotedState" 1356), (s "HTMLTokenizer.doctypePublicIdentifierSingleQuotedState" 1357), (s "/claim/cut.py" 1358), (.int 999 0), (.int 1 0), (.int 0 0), (.int 0 0), (.int 3 0), (r 697), (.bool true), (.int 181 0), (r 698), .none, (r 699), (r 700), (r 701), (.int 1361 0), (.int 999 0), (s "/claim/cut.py" 1362)].toArray), [].toArray⟩
noncomputable def o703 : Obj := ⟨(.type "function"), none, (fo "doctypePublicIdentifierSingleQuotedState" "HTMLTokenizer.doctypePublicIdentifierSingleQuotedState" (mS 21 63) .none .none .none (s "html5lib._tokenizer" 827) (r 702) .none), [].toArray⟩
noncomputable def o704 : Obj := ⟨(.type "tuple"), none, (.seq [].toArray 0), [].toArray⟩
noncomputable def o705 : Obj := ⟨.none, none, (.fields [].toArray), [].toArray⟩
noncomputable def o706 : Obj := ⟨(.type "tuple"), none, (.seq [(s "self" 1367), (s "data" 1368)].toArray 0), [].toArray⟩
noncomputable def o707 : Obj := ⟨(.type "tuple"), none, (.seq [].toArray 0), [].toArray⟩
noncomputable def o708 : Obj := ⟨.none, none, (.func ⟨"afterDoctypePublicIdentifierState", "HTMLTokenizer.afterDoctypePublicIdentifierState", fA (mS 21 64), .stmts (fB (mS 21 64)), fC (mS 21 64), 0, [], .none, .none, .none, .none, none, .none, .none, 0⟩), [].toArray⟩
noncomputable def o709 : Obj := ⟨(.type "code"), none, (.fields [(s "afterDoctypePublicIdentifierState" 1364), (s "HTMLTokenizer.afterDoctypePublicIdentifierState" 1365), (s "/claim/cut.py" 1366), (.int 1020 0), (.int 1 0), (.int 0 0), (.int 0 0), (.int 3 0), (r 704), (.bool true), (.int 181 0), (r 705), .none, (r 706), (r 707), (r 708), (.int 1369 0), (.int 1020 0), (s "/claim/cut.py" 1370)].toArray), [].toArray⟩
noncomputable def o710 : Obj := ⟨(.type "function"), none, (fo "afterDoctypePublicIdentifierState" "HTMLTokenizer.afterDoctypePublicIdentifierState" (mS 21 64) .none .none .none (s "html5lib._tokenizer" 827) (r 709) .none), [].toArray⟩
noncomputable def o711 : Obj := ⟨(.type "tuple"), none, (.seq [].toArray 0), [].toArray⟩
noncomputable def o712 : Obj := ⟨.none, none, (.fields [].toArray), [].toArray⟩
noncomputable def o713 : Obj := ⟨(.type "tuple"), none, (.seq [(s "self" 1375), (s "data" 1376)].toArray 0), [].toArray⟩
noncomputable def o714 : Obj := ⟨(.type "tuple"), none, (.seq [].toArray 0), [].toArray⟩
noncomputable def o715 : Obj := ⟨.none, none, (.func ⟨"betweenDoctypePublicAndSystemIdentifiersState", "HTMLTokenizer.betweenDoctypePublicAndSystemIdentifiersState", fA (mS 21 65), .stmts (fB (mS 21 65)), fC (mS 21 65), 0, [], .none, .none, .none, .none, none, .none, .none, 0⟩), [].toArray⟩
noncomputable def o716 : Obj := ⟨(.type "code"), none, (.fields [(s "betweenDoctypePublicAndSystemIdentifiersState" 1372), (s "HTMLTokenizer.betweenDoctypePublicAndSystemIdentifiersState" 1373), (s "/claim/cut.py" 1374), (.int 1046 0), (.int 1 0), (.int 0 0), (.int 0 0), (.int 3 0), (r 711), (.bool true), (.int 181 0), (r 712), .none, (r 713), (r 714), (r 715), (.int 1377 0), (.int 1046 0), (s "/claim/cut.py" 1378)].toArray), [].toArray⟩
noncomputable def o717 : Obj := ⟨(.type "function"), none, (fo "betweenDoctypePublicAndSystemIdentifiersState" "HTMLTokenizer.betweenDoctypePublicAndSystemIdentifiersState" (mS 21 65) .none .none .none (s "html5lib._tokenizer" 827) (r 716) .none), [].toArray⟩
noncomputable def o718 : Obj := ⟨(.type "tuple"), none, (.seq [].toArray 0), [].toArray⟩
noncomputable def o719 : Obj := ⟨.none, none, (.fields [].toArray), [].toArray⟩
noncomputable def o720 : Obj := ⟨(.type "tuple"), none, (.seq [(s "self" 1383), (s "data" 1384)].toArray 0), [].toArray⟩
noncomputable def o721 : Obj := ⟨(.type "tuple"), none, (.seq [].toArray 0), [].toArray⟩
noncomputable def o722 : Obj := ⟨.none, none, (.func ⟨"afterDoctypeSystemKeywordState", "HTMLTokenizer.afterDoctypeSystemKeywordState", fA (mS 21 66), .stmts (fB (mS 21 66)), fC (mS 21 66), 0, [], .none, .none, .none, .none, none, .none, .none, 0⟩), [].toArray⟩
noncomputable def o723 : Obj := ⟨(.type "code"), none, (.fields [(s "afterDoctypeSystemKeywordState" 1380), (s "HTMLTokenizer.afterDoctypeSystemKeywordState" 1381), (s "/claim/cut.py" 1382), (.int 1070 0), (.int 1 0), (.int 0 0), (.int 0 0), (.int 3 0), (r 718), (.bool true), (.int 181 0), (r 719), .none, (r 720), (r 721), (r 722), (.int 1385 0), (.int 1070 0), (s "/claim/cut.py" 1386)].toArray), [].toArray⟩
noncomputable def o724 : Obj := ⟨(.type "function"), none, (fo "afterDoctypeSystemKeywordState" "HTMLTokenizer.afterDoctypeSystemKeywordState" (mS 21 66) .none .none .none (s "html5lib._tokenizer" 827) (r 723) .none), [].toArray⟩
noncomputable def o725 : Obj := ⟨(.type "tuple"), none, (.seq [].toArray 0), [].toArray⟩
noncomputable def o726 : Obj := ⟨.none, none, (.fields [].toArray), [].toArray⟩
noncomputable def o727 : Obj := ⟨(.type "tuple"), none, (.seq [(s "self" 1391), (s "data" 1392)].toArray 0), [].toArray⟩
noncomputable def o728 : Obj := ⟨(.type "tuple"), none, (.seq [].toArray 0), [].toArray⟩
noncomputable def o729 : Obj := ⟨.none, none, (.func ⟨"beforeDoctypeSystemIdentifierState", "HTMLTokenizer.beforeDoctypeSystemIdentifierState", fA (mS 21 67), .stmts (fB (mS 21 67)), fC (mS 21 67), 0, [], .none, .none, .none, .none, none, .none, .none, 0⟩), [].toArray⟩
noncomputable def o730 : Obj := ⟨(.type "code"), none, (.fields [(s "beforeDoctypeSystemIdentifierState" 1388), (s "HTMLTokenizer.beforeDoctypeSystemIdentifierState" 1389), (s "/claim/cut.py" 1390), (.int 1088 0), (.int 1 0), (.int 0 0), (.int 0 0), (.int 3 0), (r 725), (.bool true), (.int 181 0), (r 726), .none, (r 727), (r 728), (r 729), (.int 1393 0), (.int 1088 0), (s "/claim/cut.py" 1394)].toArray), [].toArray⟩
noncomputable def o731 : Obj := ⟨(.type "function"), none, (fo "beforeDoctypeSystemIdentifierState" "HTMLTokenizer.beforeDoctypeSystemIdentifierState" (mS 21 67) .none .none .none (s "html5lib._tokenizer" 827) (r 730) .none), [].toArray⟩
noncomputable def o732 : Obj := ⟨(.type "tuple"), none, (.seq [].toArray 0), [].toArray⟩
noncomputable def o733 : Obj := ⟨.none, none, (.fields [].toArray), [].toArray⟩
noncomputable def o734 : Obj := ⟨(.type "tuple"), none, (.seq [(s "self" 1399), (s "data" 1400)].toArray 0), [].toArray⟩
noncomputable def o735 : Obj := ⟨(.type "tuple"), none, (.seq [].toArray 0), [].toArray⟩
noncomputable def o736 : Obj := ⟨.none, none, (.func ⟨"doctypeSystemIdentifierDoubleQuotedState", "HTMLTokenizer.doctypeSystemIdentifierDoubleQuotedState", fA (mS 21 68), .stmts (fB (mS 21 68)), fC (mS 21 68), 0, [], .none, .none, .none, .none, none, .none, .none, 0⟩), [].toArray⟩
noncomputable def o737 : Obj := ⟨(.type "code"), none, (.fields [(s "doctypeSystemIdentifierDoubleQuotedState" 1396), (s "HTMLTokenizer.doctypeSystemIdentifierDoubleQuotedState" 1397), (s "/claim/cut.py" 1398), (.int 1114 0), (.int 1 0), (.int 0 0), (.int 0 0), (.int 3 0), (r 732), (.bool true), (.int 181 0), (r 733), .none, (r 734), (r 735), (r 736), (.int 1401 0), (.int 1114 0), (s "/claim/cut.py" 1402)].toArray), [].toArray⟩
noncomputable def o738 : Obj := ⟨(.type "function"), none, (fo "doctypeSystemIdentifierDoubleQuotedState" "HTMLTokenizer.doctypeSystemIdentifierDoubleQuotedState" (mS 21 68) .none .none .none (s "html5lib._tokenizer" 827) (r 737) .none), [].toArray⟩
noncomputable def o739 : Obj := ⟨(.type "tuple"), none, (.seq [].toArray 0), [].toArray⟩
noncomputable def o740 : Obj := ⟨.none, none, (.fields [].toArray), [].toArray⟩
noncomputable def o741 : Obj := ⟨(.type "tuple"), none, (.seq [(s "self" 1407), (s "data" 1408)].toArray 0), [].toArray⟩
noncomputable def o742 : Obj := ⟨(.type "tuple"), none, (.seq [].toArray 0), [].toArray⟩
noncomputable def o743 : Obj := ⟨.none, none, (.func ⟨"doctypeSystemIdentifierSingleQuotedState", "HTMLTokenizer.doctypeSystemIdentifierSingleQuotedState", fA (mS 21 69), .stmts (fB (mS 21 69)), fC (mS 21 69), 0, [], .none, .none, .none, .none, none, .none, .none, 0⟩), [].toArray⟩
noncomputable def o744 : Obj := ⟨(.type "code"), none, (.fields [(s "doctypeSystemIdentifierSingleQuotedState" 1404), (s "HTMLTokenizer.doctypeSystemIdentifierSingleQuotedState" 1405), (s "/claim/cut.py" 1406), (.int 1135 0), (.int 1 0), (.int 0 0), (.int 0 0), (.int 3 0), (r 739), (.bool true), (.int 181 0), (r 740), .none, (r 741), (r 742), (r 743), (.int 1409 0), (.int 1135 0), (s "/claim/cut.py" 1410)].toArray), [].toArray⟩
noncomputable def o745 : Obj := ⟨(.type "function"), none, (fo "doctypeSystemIdentifierSingleQuotedState" "HTMLTokenizer.doctypeSystemIdentifierSingleQuotedState" (mS 21 69) .none .none .none (s "html5lib._tokenizer" 827) (r 744) .none), [].toArray⟩
noncomputable def o746 : Obj := ⟨(.type "tuple"), none, (.seq [].toArray 0), [].toArray⟩
noncomputable def o747 : Obj := ⟨.none, none, (.fields [].toArray), [].toArray⟩
noncomputable def o748 : Obj := ⟨(.type "tuple"), none, (.seq [(s "self" 1415), (s "data" 1416)].toArray 0), [].toArray⟩
noncomputable def o749 : Obj := ⟨(.type "tuple"), none, (.seq [].toArray 0), [].toArray⟩
noncomputable def o750 : Obj := ⟨.none, none, (.func ⟨"afterDoctypeSystemIdentifierState", "HTMLTokenizer.afterDoctypeSystemIdentifierState", fA (mS 21 70), .stmts (fB (mS 21 70)), fC (mS 21 70), 0, [], .none, .none, .none, .none, none, .none, .none, 0⟩), [].toArray⟩
noncomputable def o751 : Obj := ⟨(.type "code"), none, (.fields [(s "afterDoctypeSystemIdentifierState" 1412), (s "HTMLTokenizer.afterDoctypeSystemIdentifierState" 1413), (s "/claim/cut.py" 1414), (.int 1156 0), (.int 1 0), (.int 0 0), (.int 0 0), (.int 3 0), (r 746), (.bool true), (.int 181 0), (r 747), .none, (r 748), (r 749), (r 750), (.int 1417 0), (.int 1156 0), (s "/claim/cut.py" 1418)].toArray), [].toArray⟩
noncomputable def o752 : Obj := ⟨(.type "function"), none, (fo "afterDoctypeSystemIdentifierState" "HTMLTokenizer.afterDoctypeSystemIdentifierState" (mS 21 70) .none .none .none (s "html5lib._tokenizer" 827) (r 751) .none), [].toArray⟩
noncomputable def o753 : Obj := ⟨(.type "tuple"), none, (.seq [].toArray 0), [].toArray⟩
noncomputable def o754 : Obj := ⟨.none, none, (.fields [].toArray), [].toArray⟩
noncomputable def o755 : Obj := ⟨(.type "tuple"), none, (.seq [(s "self" 1423), (s "data" 1424)].toArray 0), [].toArray⟩
noncomputable def o756 : Obj := ⟨(.type "tuple"), none, (.seq [].toArray 0), [].toArray⟩
noncomputable def o757 : Obj := ⟨.none, none, (.func ⟨"bogusDoctypeState", "HTMLTokenizer.bogusDoctypeState", fA (mS 21 71), .stmts (fB (mS 21 71)), fC (mS 21 71), 0, [], .none, .none, .none, .none, none, .none, .none, 0⟩), [].toArray⟩
noncomputable def o758 : Obj := ⟨(.type "code"), none, (.fields [(s "bogusDoctypeState" 1420), (s "HTMLTokenizer.bogusDoctypeState" 1421), (s "/claim/cut.py" 1422), (.int 1173 0), (.int 1 0), (.int 0 0), (.int 0 0), (.int 3 0), (r 753), (.bool true), (.int 181 0), (r 754), .none, (r 755), (r 756), (r 757), (.int 1425 0), (.int 1173 0), (s "/claim/cut.py" 1426)].toArray), [].toArray⟩
noncomputable def o759 : Obj := ⟨(.type "function"), none, (fo "bogusDoctypeState" "HTMLTokenizer.bogusDoctypeState" (mS 21 71) .none .none .none (s "html5lib._tokenizer" 827) (r 758) .none), [].toArray⟩
noncomputable def o760 : Obj := ⟨(.type "tuple"), none, (.seq [(s "currentToken" 1428), (s "escape" 1429), (s "escapeFlag" 1430), (s "lastFourChars" 1431), (s "parser" 1432), (s "state" 1433), (s "stream" 1434), (s "tokenQueue" 1435)].toArray 0), [].toArray⟩
noncomputable def o761 (P : Params) : Obj := ⟨(.type "dict"), none, (.dict [e P "__module__" 851 (s "html5lib._tokenizer" 827), e P "__firstlineno__" 855 (.int 182 854), e P "__init__" 864 (r 261), e P "__iter__" 871 (r 268), e P "consumeNumberEntity" 886 (r 275), e P "consumeEntity" 901 (r 283), e P "processEntityInAttribute" 909 (r 290), e P "emitCurrentToken" 919 (r 297), e P "dataState" 928 (r 304), e P "entityDataState" 935 (r 311), e P "rcdataState" 942 (r 318), e P "characterReferenceInRcdata" 949 (r 325), e P "rawtextState" 956 (r 332), e P "scriptDataState" 963 (r 339), e P "plaintextState" 970 (r 346), e P "tagOpenState" 978 (r 353), e P "closeTagOpenState" 986 (r 360), e P "tagNameState" 994 (r 367), e P "rcdataLessThanSignState" 1001 (r 374), e P "rcdataEndTagOpenState" 1008 (r 381), e P "rcdataEndTagNameState" 1015 (r 388), e P "rawtextLessThanSignState" 1022 (r 395), e P "rawtextEndTagOpenState" 1029 (r 402), e P "rawtextEndTagNameState" 1036 (r 409), e P "scriptDataLessThanSignState" 1043 (r 416), e P "scriptDataEndTagOpenState" 1050 (r 423), e P "scriptDataEndTagNameState" 1057 (r 430), e P "scriptDataEscapeStartState" 1064 (r 437), e P "scriptDataEscapeStartDashState" 1071 (r 444), e P "scriptDataEscapedState" 1078 (r 451), e P "scriptDataEscapedDashState" 1085 (r 458), e P "scriptDataEscapedDashDashState" 1092 (r 465), e P "scriptDataEscapedLessThanSignState" 1099 (r 472), e P "scriptDataEscapedEndTagOpenState" 1106 (r 479), e P "scriptDataEscapedEndTagNameState" 1113 (r 486), e P "scriptDataDoubleEscapeStartState" 1120 (r 493), e P "scriptDataDoubleEscapedState" 1127 (r 500), e P "scriptDataDoubleEscapedDashState" 1134 (r 507), e P "scriptDataDoubleEscapedDashDashState" 1141 (r 514), e P "scriptDataDoubleEscapedLessThanSignState" 1148 (r 521), e P "scriptDataDoubleEscapeEndState" 1155 (r 528), e P "beforeAttributeNameState" 1163 (r 535), e P "attributeNameState" 1175 (r 542), e P "afterAttributeNameState" 1183 (r 549), e P "beforeAttributeValueState" 1191 (r 556), e P "attributeValueDoubleQuotedState" 1199 (r 563), e P "attributeValueSingleQuotedState" 1207 (r 570), e P "attributeValueUnQuotedState" 1215 (r 577), e P "afterAttributeValueState" 1223 (r 584), e P "selfClosingStartTagState" 1231 (r 591), e P "bogusCommentState" 1239 (r 598), e P "markupDeclarationOpenState" 1249 (r 605), e P "commentStartState" 1257 (r 612), e P "commentStartDashState" 1265 (r 619), e P "commentState" 1273 (r 626), e P "commentEndDashState" 1281 (r 633), e P "commentEndState" 1289 (r 640), e P "commentEndBangState" 1297 (r 647), e P "doctypeState" 1305 (r 654), e P "beforeDoctypeNameState" 1313 (r 661), e P "doctypeNameState" 1321 (r 668), e P "afterDoctypeNameState" 1331 (r 675), e P "afterDoctypePublicKeywordState" 1339 (r 682), e P "beforeDoctypePublicIdentifierState" 1347 (r 689), e P "doctypePublicIdentifierDoubleQuotedState" 1355 (r 696), e P "doctypePublicIdentifierSingleQuotedState" 1363 (r 703), e P "afterDoctypePublicIdentifierState" 1371 (r 710), e P "betweenDoctypePublicAndSystemIdentifiersState" 1379 (r 717), e P "afterDoctypeSystemKeywordState" 1387 (r 724), e P "beforeDoctypeSystemIdentifierState" 1395 (r 731), e P "doctypeSystemIdentifierDoubleQuotedState" 1403 (r 738), e P "doctypeSystemIdentifierSingleQuotedState" 1411 (r 745), e P "afterDoctypeSystemIdentifierState" 1419 (r 752), e P "bogusDoctypeState" 1427 (r 759), e P "__static_attributes__" 1436 (r 760), e P "__dict__" 1438 (r 763), e P "__weakref__" 1440 (r 764), e P "__doc__" 1441 .none].toArray 4), [].toArray⟩
noncomputable def o762 : Obj := ⟨(.type "type"), none, (.cls ⟨"HTMLTokenizer", [(.type "object")], [(r 762), (.type "object")], 761, "HTMLTokenizer", true, [], [], false, none, false⟩), [some (r 247), none, some (s "HTMLTokenizer" 844), some (s "HTMLTokenizer" 852), some (.builtin "object.__new__"), some (.bool true)].toArray⟩
noncomputable def o763 : Obj := ⟨(.type "getset_descriptor"), none, (.fields [(s "__dict__" 1437), (r 762), (.builtin "function.__dict__"), (.builtin "function.__dict__#set")].toArray), [].toArray⟩
noncomputable def o764 : Obj := ⟨(.type "getset_descriptor"), none, (.fields [(s "__weakref__" 1439), (r 762), (.builtin "ExceptionGroup.__weakref__"), .none].toArray), [].toArray⟩
noncomputable def o765 : Obj := ⟨(.type "super"), none, (.fields [(r 762), (r 762), (r 762)].toArray), [].toArray⟩
noncomputable def o766 : Obj := ⟨(.type "builtin_function_or_method"), none, (.fields [(.builtin "object.__init_subclass__"), (r 762)].toArray), [].toArray⟩
noncomputable def T14 (P : Params) : BT := (d (boot_o_0 P) (d (boot_o_1 P) (d (o3v13 P) (d (boot_o_7 P) (d o15 (d o31 (d o63 (d o127 (d o255 (l o511) n) (d o383 (l o639) n)) (d o191 (d o319 (l o575) n) (d o447 (l o703) n))) (d o95 (d o159 (d o287 (l o543) n) (d o415 (l o671) n)) (d o223 (d o351 (l o607) n) (d o479 (l o735) n)))) (d o47 (d o79 (d o143 (d o271 (l o527) n) (d o399 (l o655) n)) (d o207 (d o335 (l o591) n) (d o463 (l o719) n))) (d o111 (d o175 (d o303 (l o559) n) (d o431 (l o687) n)) (d o239 (d o367 (l o623) n) (d o495 (l o751) n))))) (d o23 (d o39 (d o71 (d o135 (d o263 (l o519) n) (d o391 (l o647) n)) (d o199 (d o327 (l o583) n) (d o455 (l o711) n))) (d o103 (d o167 (d o295 (l o551) n) (d o423 (l o679) n)) (d o231 (d o359 (l o615) n) (d o487 (l o743) n)))) (d o55 (d (o87 P) (d o151 (d o279 (l o535) n) (d o407 (l o663) n)) (d o215 (d o343 (l o599) n) (d o471 (l o727) n))) (d o119 (d o183 (d o311 (l o567) n) (d o439 (l o695) n)) (d o247 (d o375 (l o631) n) (d o503 (l o759) n)))))) (d o11 (d o19 (d o35 (d o67 (d o131 (d o259 (l o515) n) (d o387 (l o643) n)) (d o195 (d o323 (l o579) n) (d o451 (l o707) n))) (d o99 (d o163 (d o291 (l o547) n) (d o419 (l o675) n)) (d o227 (d o355 (l o611) n) (d o483 (l o739) n)))) (d o51 (d o83 (d o147 (d o275 (l o531) n) (d o403 (l o659) n)) (d o211 (d o339 (l o595) n) (d o467 (l o723) n))) (d o115 (d o179 (d o307 (l o563) n) (d o435 (l o691) n)) (d o243 (d o371 (l o627) n) (d o499 (l o755) n))))) (d o27 (d (o43 P) (d o75 (d o139 (d o267 (l o523) n) (d o395 (l o651) n)) (d o203 (d o331 (l o587) n) (d o459 (l o715) n))) (d o107 (d o171 (d o299 (l o555) n) (d o427 (l o683) n)) (d (o235 P) (d o363 (l o619) n) (d o491 (l o747) n)))) (d o59 (d o91 (d o155 (d o283 (l o539) n) (d o411 (l o667) n)) (d o219 (d o347 (l o603) n) (d o475 (l o731) n))) (d o123 (d o187 (d o315 (l o571) n) (d o443 (l o699) n)) (d o251 (d o379 (l o635) n) (d o507 (l o763) n))))))) (d (boot_o_5 P) (d (boot_o_9 P) (d o17 (d o33 (d o65 (d o129 (d o257 (l o513) n) (d o385 (l o641) n)) (d o193 (d o321 (l o577) n) (d o449 (l o705) n))) (d o97 (d o161 (d o289 (l o545) n) (d o417 (l o673) n)) (d o225 (d o353 (l o609) n) (d o481 (l o737) n)))) (d o49 (d o81 (d o145 (d o273 (l o529) n) (d o401 (l o657) n)) (d o209 (d o337 (l o593) n) (d o465 (l o721) n))) (d o113 (d o177 (d o305 (l o561) n) (d o433 (l o689) n)) (d o241 (d o369 (l o625) n) (d o497 (l o753) n))))) (d o25 (d o41 (d o73 (d o137 (d o265 (l o521) n) (d o393 (l o649) n)) (d o201 (d o329 (l o585) n) (d o457 (l o713) n))) (d o105 (d o169 (d o297 (l o553) n) (d o425 (l o681) n)) (d o233 (d o361 (l o617) n) (d o489 (l o745) n)))) (d o57 (d o89 (d o153 (d o281 (l o537) n) (d o409 (l o665) n)) (d o217 (d o345 (l o601) n) (d o473 (l o729) n))) (d o121 (d o185 (d o313 (l o569) n) (d o441 (l o697) n)) (d (o249 P) (d o377 (l o633) n) (d o505 (l (o761 P)) n)))))) (d o13 (d o21 (d o37 (d o69 (d o133 (d o261 (l o517) n) (d o389 (l o645) n)) (d o197 (d o325 (l o581) n) (d o453 (l o709) n))) (d o101 (d (o165 P) (d o293 (l o549) n) (d o421 (l o677) n)) (d (o229 P) (d o357 (l o613) n) (d o485 (l o741) n)))) (d o53 (d o85 (d o149 (d o277 (l o533) n) (d o405 (l o661) n)) (d o213 (d o341 (l o597) n) (d o469 (l o725) n))) (d o117 (d (o181 P) (d o309 (l o565) n) (d o437 (l o693) n)) (d o245 (d o373 (l o629) n) (d o501 (l o757) n))))) (d o29 (d (o45 P) (d o77 (d o141 (d o269 (l o525) n) (d o397 (l o653) n)) (d o205 (d o333 (l o589) n) (d o461 (l o717) n))) (d o109 (d o173 (d o301 (l o557) n) (d o429 (l o685) n)) (d (o237 P) (d o365 (l o621) n) (d o493 (l o749) n)))) (d o61 (d o93 (d o157 (d o285 (l o541) n) (d o413 (l o669) n)) (d o221 (d o349 (l o605) n) (d o477 (l o733) n))) (d o125 (d o189 (d o317 (l o573) n) (d o445 (l o701) n)) (d o253 (d o381 (l o637) n) (d o509 (l o765) n)))))))) (d (boot_o_2 P) (d (boot_o_4 P) (d (boot_o_8 P) (d o16 (d o32 (d o64 (d o128 (d o256 (l o512) n) (d o384 (l o640) n)) (d o192 (d o320 (l o576) n) (d o448 (l o704) n))) (d o96 (d o160 (d o288 (l o544) n) (d o416 (l o672) n)) (d o224 (d o352 (l o608) n) (d o480 (l o736) n)))) (d (o48 P) (d o80 (d o144 (d o272 (l o528) n) (d o400 (l o656) n)) (d o208 (d o336 (l o592) n) (d o464 (l o720) n))) (d o112 (d o176 (d o304 (l o560) n) (d o432 (l o688) n)) (d o240 (d o368 (l o624) n) (d o496 (l o752) n))))) (d o24 (d o40 (d (o72 P) (d o136 (d o264 (l o520) n) (d o392 (l o648) n)) (d o200 (d o328 (l o584) n) (d o456 (l o712) n))) (d o104 (d o168 (d o296 (l o552) n) (d o424 (l o680) n)) (d o232 (d o360 (l o616) n) (d o488 (l o744) n)))) (d o56 (d o88 (d o152 (d o280 (l o536) n) (d o408 (l o664) n)) (d o216 (d o344 (l o600) n) (d o472 (l o728) n))) (d o120 (d o184 (d o312 (l o568) n) (d o440 (l o696) n)) (d o248 (d o376 (l o632) n) (d o504 (l o760) n)))))) (d o12v7 (d o20 (d o36 (d o68 (d o132 (d o260 (l o516) n) (d o388 (l o644) n)) (d o196 (d o324 (l o580) n) (d o452 (l o708) n))) (d o100 (d o164 (d o292 (l o548) n) (d o420 (l o676) n)) (d o228 (d o356 (l o612) n) (d o484 (l o740) n)))) (d (o52 P) (d o84 (d o148 (d o276 (l o532) n) (d o404 (l o660) n)) (d o212 (d o340 (l o596) n) (d o468 (l o724) n))) (d o116 (d o180 (d o308 (l o564) n) (d o436 (l o692) n)) (d o244 (d o372 (l o628) n) (d o500 (l o756) n))))) (d o28 (d (o44 P) (d o76 (d o140 (d o268 (l o524) n) (d o396 (l o652) n)) (d o204 (d o332 (l o588) n) (d o460 (l o716) n))) (d o108 (d o172 (d o300 (l o556) n) (d o428 (l o684) n)) (d o236 (d o364 (l o620) n) (d o492 (l o748) n)))) (d o60 (d o92 (d o156 (d o284 (l o540) n) (d o412 (l o668) n)) (d o220 (d o348 (l o604) n) (d o476 (l o732) n))) (d o124 (d o188 (d o316 (l o572) n) (d o444 (l o700) n)) (d o252 (d o380 (l o636) n) (d o508 (l o764) n))))))) (d (boot_o_6 P) (d (boot_o_10 P) (d o18 (d o34 (d o66 (d o130 (d o258 (l o514) n) (d o386 (l o642) n)) (d o194 (d o322 (l o578) n) (d o450 (l o706) n))) (d o98 (d o162 (d o290 (l o546) n) (d o418 (l o674) n)) (d o226 (d o354 (l o610) n) (d o482 (l o738) n)))) (d o50 (d o82 (d o146 (d o274 (l o530) n) (d o402 (l o658) n)) (d o210 (d o338 (l o594) n) (d o466 (l o722) n))) (d o114 (d o178 (d o306 (l o562) n) (d o434 (l o690) n)) (d o242 (d o370 (l o626) n) (d o498 (l o754) n))))) (d o26 (d o42 (d o74 (d o138 (d o266 (l o522) n) (d o394 (l o650) n)) (d o202 (d o330 (l o586) n) (d o458 (l o714) n))) (d o106 (d o170 (d o298 (l o554) n) (d o426 (l o682) n)) (d o234 (d o362 (l o618) n) (d o490 (l o746) n)))) (d o58 (d o90 (d o154 (d o282 (l o538) n) (d o410 (l o666) n)) (d o218 (d o346 (l o602) n) (d o474 (l o730) n))) (d o122 (d o186 (d o314 (l o570) n) (d o442 (l o698) n)) (d o250 (d o378 (l o634) n) (d o506 (l o762) n)))))) (d o14 (d o22 (d o38 (d o70 (d o134 (d o262 (l o518) n) (d o390 (l o646) n)) (d o198 (d o326 (l o582) n) (d o454 (l o710) n))) (d o102 (d o166 (d o294 (l o550) n) (d o422 (l o678) n)) (d o230 (d o358 (l o614) n) (d o486 (l o742) n)))) (d o54 (d o86 (d o150 (d o278 (l o534) n) (d o406 (l o662) n)) (d o214 (d o342 (l o598) n) (d o470 (l o726) n))) (d o118 (d o182 (d o310 (l o566) n) (d o438 (l o694) n)) (d o246 (d o374 (l o630) n) (d o502 (l o758) n))))) (d o30 (d o46 (d o78 (d o142 (d o270 (l o526) n) (d o398 (l o654) n)) (d o206 (d o334 (l o590) n) (d o462 (l o718) n))) (d o110 (d o174 (d o302 (l o558) n) (d o430 (l o686) n)) (d o238 (d o366 (l o622) n) (d o494 (l o750) n)))) (d o62 (d o94 (d o158 (d o286 (l o542) n) (d o414 (l o670) n)) (d o222 (d o350 (l o606) n) (d o478 (l o734) n))) (d o126 (d o190 (d o318 (l o574) n) (d o446 (l o702) n)) (d o254 (d o382 (l o638) n) (d o510 (l o766) n)))))))))
noncomputable def o3v14 (P : Params) : Obj := ⟨(.type "dict"), none, (.dict [e P "__name__" 165 (s "law_te0025_01" 1444), e P "__doc__" 166 .none, e P "__package__" 167 .none, e P "__loader__" 168 (.builtin "__main__.__loader__#opaque"), e P "__spec__" 169 .none, e P "__annotations__" 170 (r 6), e P "__builtins__" 171 (r 4), e P "__file__" 173 (s "/claim/cut.py" 172), e P "__cached__" 174 .none, e P "_wall" 193 (r 21), e P "EOF" 196 .none, e P "spaceCharacters" 202 (r 22), e P "asciiLetters" 256 (r 27), e P "digits" 268 (r 32), e P "hexDigits" 292 (r 37), e P "asciiLower" 298 (r 42), e P "entities" 428 (r 43), e P "replacementCharacters" 531 (r 46), e P "tokenTypes" 556 (r 48), e P "tagTokenTypes" 563 (r 49), e P "Text" 604 (r 73), e P "_is_invalid" 611 (r 84), e P "HTMLUnicodeInputStream" 737 (r 166), e P "bisect_left" 751 (r 178), e P "Trie" 826 (r 230), e P "entitiesTrie" 843 (r 236), e P "HTMLTokenizer" 1443 (r 762), e P "_law_PIECES" 1451 (r 773), e P "_law_WAYS" 1457 (r 780), e P "_law_CLOSE" 1459 (s "=0123456789ABCDEFGHIJKLMNOPQRSTUVWXYZabcdefghijklmnopqrstuvwxyz" 1458), e P "_law_named" 1470 (r 787), e P "_law_read" 1483 (r 794), e P "_law_trie" 1490 (r 801), e P "_law_place" 1498 (r 808), e P "law" 1504 (r 813)].toArray 35), [].toArray⟩
noncomputable def o12v8 : Obj := ⟨.none, none, (.fields [(.int 1 0), (.int 0 0), (r 20), (.int 10 0), (.int 0 0), (r 41), (.int 17 0), (.int 0 0), (r 55), (.int 27 0), (.int 0 0), (r 83), (.int 29 0), (.int 0 0), (r 90), (.int 134 0), (.int 0 0), (r 177), (.int 144 0), (.int 0 0), (r 184), (.int 182 0), (.int 0 0), (r 252), (.int 1186 0), (.int 0 0), (r 772), (.int 1188 0), (.int 0 0), (r 779), (.int 1191 0), (.int 0 0), (r 786), (.int 1202 0), (.int 0 0), (r 793), (.int 1212 0), (.int 0 0), (r 800), (.int 1217 0), (.int 0 0), (r 807), (.int 1220 0), (.int 0 0), (r 812)].toArray), [].toArray⟩
noncomputable def o767 : Obj := ⟨(.type "tuple"), none, (.seq [].toArray 0), [].toArray⟩
noncomputable def o768 : Obj := ⟨.none, none, (.fields [].toArray), [].toArray⟩
noncomputable def o769 : Obj := ⟨(.type "tuple"), none, (.seq [].toArray 0), [].toArray⟩
noncomputable def o770 : Obj := ⟨(.type "tuple"), none, (.seq [].toArray 0), [].toArray⟩
noncomputable def o771 : Obj := ⟨.none, none, (.func ⟨"_law_PIECES", "_law_PIECES", fA (tS 23), .stmts (fB (tS 23)), fC (tS 23), 0, [], .none, .none, .none, .none, none, .none, .none, 0⟩), [].toArray⟩
noncomputable def o772 : Obj := ⟨(.type "code"), none, (.fields [(s "_law_PIECES" 1446), (s "_law_PIECES" 1447), (s "/claim/cut.py" 1448), (.int 1186 0), (.int 0 0), (.int 0 0), (.int 0 0), (.int 3 0), (r 767), (.bool true), (.int 181 0), (r 768), .none, (r 769), (r 770), (r 771), (.int 1449 0), (.int 1186 0), (s "/claim/cut.py" 1450)].toArray), [].toArray⟩
noncomputable def o773 : Obj := ⟨(.type "function"), none, (fo "_law_PIECES" "_law_PIECES" (tS 23) .none .none .none (s "law_te0025_01" 1444) (r 772) .none), [].toArray⟩
noncomputable def o774 : Obj := ⟨(.type "tuple"), none, (.seq [].toArray 0), [].toArray⟩
noncomputable def o775 : Obj := ⟨.none, none, (.fields [].toArray), [].toArray⟩
noncomputable def o776 : Obj := ⟨(.type "tuple"), none, (.seq [].toArray 0), [].toArray⟩
noncomputable def o777 : Obj := ⟨(.type "tuple"), none, (.seq [].toArray 0), [].toArray⟩
noncomputable def o778 : Obj := ⟨.none, none, (.func ⟨"_law_WAYS", "_law_WAYS", fA (tS 24), .stmts (fB (tS 24)), fC (tS 24), 0, [], .none, .none, .none, .none, none, .none, .none, 0⟩), [].toArray⟩
noncomputable def o779 : Obj := ⟨(.type "code"), none, (.fields [(s "_law_WAYS" 1452), (s "_law_WAYS" 1453), (s "/claim/cut.py" 1454), (.int 1188 0), (.int 0 0), (.int 0 0), (.int 0 0), (.int 3 0), (r 774), (.bool true), (.int 181 0), (r 775), .none, (r 776), (r 777), (r 778), (.int 1455 0), (.int 1188 0), (s "/claim/cut.py" 1456)].toArray), [].toArray⟩
noncomputable def o780 : Obj := ⟨(.type "function"), none, (fo "_law_WAYS" "_law_WAYS" (tS 24) .none .none .none (s "law_te0025_01" 1444) (r 779) .none), [].toArray⟩
noncomputable def o781 : Obj := ⟨(.type "tuple"), none, (.seq [].toArray 0), [].toArray⟩
noncomputable def o782 : Obj := ⟨.none, none, (.fields [].toArray), [].toArray⟩
noncomputable def o783 : Obj := ⟨(.type "tuple"), none, (.seq [(s "rest" 1463), (s "best" 1464), (s "along" 1465), (s "name" 1466), (s "size" 1467)].toArray 0), [].toArray⟩
noncomputable def o784 : Obj := ⟨(.type "tuple"), none, (.seq [].toArray 0), [].toArray⟩
noncomputable def o785 : Obj := ⟨.none, none, (.func ⟨"_law_named", "_law_named", fA (tS 26), .stmts (fB (tS 26)), fC (tS 26), 0, [], .none, .none, .none, .none, none, .none, .none, 0⟩), [].toArray⟩
noncomputable def o786 : Obj := ⟨(.type "code"), none, (.fields [(s "_law_named" 1460), (s "_law_named" 1461), (s "/claim/cut.py" 1462), (.int 1191 0), (.int 1 0), (.int 0 0), (.int 0 0), (.int 3 0), (r 781), (.bool true), (.int 181 0), (r 782), .none, (r 783), (r 784), (r 785), (.int 1468 0), (.int 1191 0), (s "/claim/cut.py" 1469)].toArray), [].toArray⟩
noncomputable def o787 : Obj := ⟨(.type "function"), none, (fo "_law_named" "_law_named" (tS 26) .none .none .none (s "law_te0025_01" 1444) (r 786) .none), [].toArray⟩
noncomputable def o788 : Obj := ⟨(.type "tuple"), none, (.seq [].toArray 0), [].toArray⟩
noncomputable def o789 : Obj := ⟨.none, none, (.fields [].toArray), [].toArray⟩
noncomputable def o790 : Obj := ⟨(.type "tuple"), none, (.seq [(s "rest" 1474), (s "closing" 1475), (s "inside" 1476), (s "best" 1477), (s "along" 1478), (s "told" 1479), (s "behind" 1480)].toArray 0), [].toArray⟩
noncomputable def o791 : Obj := ⟨(.type "tuple"), none, (.seq [].toArray 0), [].toArray⟩
noncomputable def o792 : Obj := ⟨.none, none, (.func ⟨"_law_read", "_law_read", fA (tS 27), .stmts (fB (tS 27)), fC (tS 27), 0, [], .none, .none, .none, .none, none, .none, .none, 0⟩), [].toArray⟩
noncomputable def o793 : Obj := ⟨(.type "code"), none, (.fields [(s "_law_read" 1471), (s "_law_read" 1472), (s "/claim/cut.py" 1473), (.int 1202 0), (.int 5 0), (.int 0 0), (.int 0 0), (.int 3 0), (r 788), (.bool true), (.int 181 0), (r 789), .none, (r 790), (r 791), (r 792), (.int 1481 0), (.int 1202 0), (s "/claim/cut.py" 1482)].toArray), [].toArray⟩
noncomputable def o794 : Obj := ⟨(.type "function"), none, (fo "_law_read" "_law_read" (tS 27) .none .none .none (s "law_te0025_01" 1444) (r 793) .none), [].toArray⟩
noncomputable def o795 : Obj := ⟨(.type "tuple"), none, (.seq [].toArray 0), [].toArray⟩
noncomputable def o796 : Obj := ⟨.none, none, (.fields [].toArray), [].toArray⟩
noncomputable def o797 : Obj := ⟨(.type "tuple"), none, (.seq [(s "rest" 1487)].toArray 0), [].toArray⟩
noncomputable def o798 : Obj := ⟨(.type "tuple"), none, (.seq [].toArray 0), [].toArray⟩
noncomputable def o799 : Obj := ⟨.none, none, (.func ⟨"_law_trie", "_law_trie", fA (tS 28), .stmts (fB (tS 28)), fC (tS 28), 0, [], .none, .none, .none, .none, none, .none, .none, 0⟩), [].toArray⟩
noncomputable def o800 : Obj := ⟨(.type "code"), none, (.fields [(s "_law_trie" 1484), (s "_law_trie" 1485), (s "/claim/cut.py" 1486), (.int 1212 0), (.int 1 0), (.int 0 0), (.int 0 0), (.int 3 0), (r 795), (.bool true), (.int 181 0), (r 796), .none, (r 797), (r 798), (r 799), (.int 1488 0), (.int 1212 0), (s "/claim/cut.py" 1489)].toArray), [].toArray⟩
noncomputable def o801 : Obj := ⟨(.type "function"), none, (fo "_law_trie" "_law_trie" (tS 28) .none .none .none (s "law_te0025_01" 1444) (r 800) .none), [].toArray⟩
noncomputable def o802 : Obj := ⟨(.type "tuple"), none, (.seq [].toArray 0), [].toArray⟩
noncomputable def o803 : Obj := ⟨.none, none, (.fields [].toArray), [].toArray⟩
noncomputable def o804 : Obj := ⟨(.type "tuple"), none, (.seq [(s "head" 1494), (s "rows" 1495)].toArray 0), [].toArray⟩
noncomputable def o805 : Obj := ⟨(.type "tuple"), none, (.seq [].toArray 0), [].toArray⟩
noncomputable def o806 : Obj := ⟨.none, none, (.func ⟨"_law_place", "_law_place", fA (tS 29), .stmts (fB (tS 29)), fC (tS 29), 0, [], .none, .none, .none, .none, none, .none, .none, 0⟩), [].toArray⟩
noncomputable def o807 : Obj := ⟨(.type "code"), none, (.fields [(s "_law_place" 1491), (s "_law_place" 1492), (s "/claim/cut.py" 1493), (.int 1217 0), (.int 1 0), (.int 0 0), (.int 0 0), (.int 3 0), (r 802), (.bool true), (.int 181 0), (r 803), .none, (r 804), (r 805), (r 806), (.int 1496 0), (.int 1217 0), (s "/claim/cut.py" 1497)].toArray), [].toArray⟩
noncomputable def o808 : Obj := ⟨(.type "function"), none, (fo "_law_place" "_law_place" (tS 29) .none .none .none (s "law_te0025_01" 1444) (r 807) .none), [].toArray⟩
noncomputable def o809 : Obj := ⟨(.type "tuple"), none, (.seq [].toArray 0), [].toArray⟩
noncomputable def o810 : Obj := ⟨.none, none, (.fields [].toArray), [].toArray⟩
noncomputable def o811 : Obj := ⟨.none, none, (.func ⟨"law", "law", fA (tS 30), .stmts (fB (tS 30)), fC (tS 30), 0, [], .none, .none, .none, .none, none, .none, .none, 0⟩), [].toArray⟩
noncomputable def o812 : Obj := ⟨(.type "code"), none, (.fields [(s "law" 1499), (s "law" 1500), (s "/claim/cut.py" 1501), (.int 1220 0), (.int 1 0), (.int 0 0), (.int 0 0), (.int 3 0), (r 809), (.bool true), (.int 181 0), (r 810), .none, .none, .none, (r 811), (.int 1502 0), (.int 1220 0), (s "/claim/cut.py" 1503)].toArray), [].toArray⟩
noncomputable def o813 : Obj := ⟨(.type "function"), none, (fo "law" "law" (tS 30) .none .none .none (s "law_te0025_01" 1444) (r 812) .none), [].toArray⟩
noncomputable def T15 (P : Params) : BT := (d (boot_o_0 P) (d (boot_o_1 P) (d (o3v14 P) (d (boot_o_7 P) (d o15 (d o31 (d o63 (d o127 (d o255 (l o511) (l o767)) (d o383 (l o639) n)) (d o191 (d o319 (l o575) n) (d o447 (l o703) n))) (d o95 (d o159 (d o287 (l o543) (l o799)) (d o415 (l o671) n)) (d o223 (d o351 (l o607) n) (d o479 (l o735) n)))) (d o47 (d o79 (d o143 (d o271 (l o527) (l o783)) (d o399 (l o655) n)) (d o207 (d o335 (l o591) n) (d o463 (l o719) n))) (d o111 (d o175 (d o303 (l o559) n) (d o431 (l o687) n)) (d o239 (d o367 (l o623) n) (d o495 (l o751) n))))) (d o23 (d o39 (d o71 (d o135 (d o263 (l o519) (l o775)) (d o391 (l o647) n)) (d o199 (d o327 (l o583) n) (d o455 (l o711) n))) (d o103 (d o167 (d o295 (l o551) (l o807)) (d o423 (l o679) n)) (d o231 (d o359 (l o615) n) (d o487 (l o743) n)))) (d o55 (d (o87 P) (d o151 (d o279 (l o535) (l o791)) (d o407 (l o663) n)) (d o215 (d o343 (l o599) n) (d o471 (l o727) n))) (d o119 (d o183 (d o311 (l o567) n) (d o439 (l o695) n)) (d o247 (d o375 (l o631) n) (d o503 (l o759) n)))))) (d o11 (d o19 (d o35 (d o67 (d o131 (d o259 (l o515) (l o771)) (d o387 (l o643) n)) (d o195 (d o323 (l o579) n) (d o451 (l o707) n))) (d o99 (d o163 (d o291 (l o547) (l o803)) (d o419 (l o675) n)) (d o227 (d o355 (l o611) n) (d o483 (l o739) n)))) (d o51 (d o83 (d o147 (d o275 (l o531) (l o787)) (d o403 (l o659) n)) (d o211 (d o339 (l o595) n) (d o467 (l o723) n))) (d o115 (d o179 (d o307 (l o563) n) (d o435 (l o691) n)) (d o243 (d o371 (l o627) n) (d o499 (l o755) n))))) (d o27 (d (o43 P) (d o75 (d o139 (d o267 (l o523) (l o779)) (d o395 (l o651) n)) (d o203 (d o331 (l o587) n) (d o459 (l o715) n))) (d o107 (d o171 (d o299 (l o555) (l o811)) (d o427 (l o683) n)) (d (o235 P) (d o363 (l o619) n) (d o491 (l o747) n)))) (d o59 (d o91 (d o155 (d o283 (l o539) (l o795)) (d o411 (l o667) n)) (d o219 (d o347 (l o603) n) (d o475 (l o731) n))) (d o123 (d o187 (d o315 (l o571) n) (d o443 (l o699) n)) (d o251 (d o379 (l o635) n) (d o507 (l o763) n))))))) (d (boot_o_5 P) (d (boot_o_9 P) (d o17 (d o33 (d o65 (d o129 (d o257 (l o513) (l o769)) (d o385 (l o641) n)) (d o193 (d o321 (l o577) n) (d o449 (l o705) n))) (d o97 (d o161 (d o289 (l o545) (l o801)) (d o417 (l o673) n)) (d o225 (d o353 (l o609) n) (d o481 (l o737) n)))) (d o49 (d o81 (d o145 (d o273 (l o529) (l o785)) (d o401 (l o657) n)) (d o209 (d o337 (l o593) n) (d o465 (l o721) n))) (d o113 (d o177 (d o305 (l o561) n) (d o433 (l o689) n)) (d o241 (d o369 (l o625) n) (d o497 (l o753) n))))) (d o25 (d o41 (d o73 (d o137 (d o265 (l o521) (l o777)) (d o393 (l o649) n)) (d o201 (d o329 (l o585) n) (d o457 (l o713) n))) (d o105 (d o169 (d o297 (l o553) (l o809)) (d o425 (l o681) n)) (d o233 (d o361 (l o617) n) (d o489 (l o745) n)))) (d o57 (d o89 (d o153 (d o281 (l o537) (l o793)) (d o409 (l o665) n)) (d o217 (d o345 (l o601) n) (d o473 (l o729) n))) (d o121 (d o185 (d o313 (l o569) n) (d o441 (l o697) n)) (d (o249 P) (d o377 (l o633) n) (d o505 (l (o761 P)) n)))))) (d o13 (d o21 (d o37 (d o69 (d o133 (d o261 (l o517) (l o773)) (d o389 (l o645) n)) (d o197 (d o325 (l o581) n) (d o453 (l o709) n))) (d o101 (d (o165 P) (d o293 (l o549) (l o805)) (d o421 (l o677) n)) (d (o229 P) (d o357 (l o613) n) (d o485 (l o741) n)))) (d o53 (d o85 (d o149 (d o277 (l o533) (l o789)) (d o405 (l o661) n)) (d o213 (d o341 (l o597) n) (d o469 (l o725) n))) (d o117 (d (o181 P) (d o309 (l o565) n) (d o437 (l o693) n)) (d o245 (d o373 (l o629) n) (d o501 (l o757) n))))) (d o29 (d (o45 P) (d o77 (d o141 (d o269 (l o525) (l o781)) (d o397 (l o653) n)) (d o205 (d o333 (l o589) n) (d o461 (l o717) n))) (d o109 (d o173 (d o301 (l o557) (l o813)) (d o429 (l o685) n)) (d (o237 P) (d o365 (l o621) n) (d o493 (l o749) n)))) (d o61 (d o93 (d o157 (d o285 (l o541) (l o797)) (d o413 (l o669) n)) (d o221 (d o349 (l o605) n) (d o477 (l o733) n))) (d o125 (d o189 (d o317 (l o573) n) (d o445 (l o701) n)) (d o253 (d o381 (l o637) n) (d o509 (l o765) n)))))))) (d (boot_o_2 P) (d (boot_o_4 P) (d (boot_o_8 P) (d o16 (d o32 (d o64 (d o128 (d o256 (l o512) (l o768)) (d o384 (l o640) n)) (d o192 (d o320 (l o576) n) (d o448 (l o704) n))) (d o96 (d o160 (d o288 (l o544) (l o800)) (d o416 (l o672) n)) (d o224 (d o352 (l o608) n) (d o480 (l o736) n)))) (d (o48 P) (d o80 (d o144 (d o272 (l o528) (l o784)) (d o400 (l o656) n)) (d o208 (d o336 (l o592) n) (d o464 (l o720) n))) (d o112 (d o176 (d o304 (l o560) n) (d o432 (l o688) n)) (d o240 (d o368 (l o624) n) (d o496 (l o752) n))))) (d o24 (d o40 (d (o72 P) (d o136 (d o264 (l o520) (l o776)) (d o392 (l o648) n)) (d o200 (d o328 (l o584) n) (d o456 (l o712) n))) (d o104 (d o168 (d o296 (l o552) (l o808)) (d o424 (l o680) n)) (d o232 (d o360 (l o616) n) (d o488 (l o744) n)))) (d o56 (d o88 (d o152 (d o280 (l o536) (l o792)) (d o408 (l o664) n)) (d o216 (d o344 (l o600) n) (d o472 (l o728) n))) (d o120 (d o184 (d o312 (l o568) n) (d o440 (l o696) n)) (d o248 (d o376 (l o632) n) (d o504 (l o760) n)))))) (d o12v8 (d o20 (d o36 (d o68 (d o132 (d o260 (l o516) (l o772)) (d o388 (l o644) n)) (d o196 (d o324 (l o580) n) (d o452 (l o708) n))) (d o100 (d o164 (d o292 (l o548) (l o804)) (d o420 (l o676) n)) (d o228 (d o356 (l o612) n) (d o484 (l o740) n)))) (d (o52 P) (d o84 (d o148 (d o276 (l o532) (l o788)) (d o404 (l o660) n)) (d o212 (d o340 (l o596) n) (d o468 (l o724) n))) (d o116 (d o180 (d o308 (l o564) n) (d o436 (l o692) n)) (d o244 (d o372 (l o628) n) (d o500 (l o756) n))))) (d o28 (d (o44 P) (d o76 (d o140 (d o268 (l o524) (l o780)) (d o396 (l o652) n)) (d o204 (d o332 (l o588) n) (d o460 (l o716) n))) (d o108 (d o172 (d o300 (l o556) (l o812)) (d o428 (l o684) n)) (d o236 (d o364 (l o620) n) (d o492 (l o748) n)))) (d o60 (d o92 (d o156 (d o284 (l o540) (l o796)) (d o412 (l o668) n)) (d o220 (d o348 (l o604) n) (d o476 (l o732) n))) (d o124 (d o188 (d o316 (l o572) n) (d o444 (l o700) n)) (d o252 (d o380 (l o636) n) (d o508 (l o764) n))))))) (d (boot_o_6 P) (d (boot_o_10 P) (d o18 (d o34 (d o66 (d o130 (d o258 (l o514) (l o770)) (d o386 (l o642) n)) (d o194 (d o322 (l o578) n) (d o450 (l o706) n))) (d o98 (d o162 (d o290 (l o546) (l o802)) (d o418 (l o674) n)) (d o226 (d o354 (l o610) n) (d o482 (l o738) n)))) (d o50 (d o82 (d o146 (d o274 (l o530) (l o786)) (d o402 (l o658) n)) (d o210 (d o338 (l o594) n) (d o466 (l o722) n))) (d o114 (d o178 (d o306 (l o562) n) (d o434 (l o690) n)) (d o242 (d o370 (l o626) n) (d o498 (l o754) n))))) (d o26 (d o42 (d o74 (d o138 (d o266 (l o522) (l o778)) (d o394 (l o650) n)) (d o202 (d o330 (l o586) n) (d o458 (l o714) n))) (d o106 (d o170 (d o298 (l o554) (l o810)) (d o426 (l o682) n)) (d o234 (d o362 (l o618) n) (d o490 (l o746) n)))) (d o58 (d o90 (d o154 (d o282 (l o538) (l o794)) (d o410 (l o666) n)) (d o218 (d o346 (l o602) n) (d o474 (l o730) n))) (d o122 (d o186 (d o314 (l o570) n) (d o442 (l o698) n)) (d o250 (d o378 (l o634) n) (d o506 (l o762) n)))))) (d o14 (d o22 (d o38 (d o70 (d o134 (d o262 (l o518) (l o774)) (d o390 (l o646) n)) (d o198 (d o326 (l o582) n) (d o454 (l o710) n))) (d o102 (d o166 (d o294 (l o550) (l o806)) (d o422 (l o678) n)) (d o230 (d o358 (l o614) n) (d o486 (l o742) n)))) (d o54 (d o86 (d o150 (d o278 (l o534) (l o790)) (d o406 (l o662) n)) (d o214 (d o342 (l o598) n) (d o470 (l o726) n))) (d o118 (d o182 (d o310 (l o566) n) (d o438 (l o694) n)) (d o246 (d o374 (l o630) n) (d o502 (l o758) n))))) (d o30 (d o46 (d o78 (d o142 (d o270 (l o526) (l o782)) (d o398 (l o654) n)) (d o206 (d o334 (l o590) n) (d o462 (l o718) n))) (d o110 (d o174 (d o302 (l o558) n) (d o430 (l o686) n)) (d o238 (d o366 (l o622) n) (d o494 (l o750) n)))) (d o62 (d o94 (d o158 (d o286 (l o542) (l o798)) (d o414 (l o670) n)) (d o222 (d o350 (l o606) n) (d o478 (l o734) n))) (d o126 (d o190 (d o318 (l o574) n) (d o446 (l o702) n)) (d o254 (d o382 (l o638) n) (d o510 (l o766) n)))))))))
noncomputable def Hz (P : Params) : Heap := ⟨⟨[(boot_o_0 P), (boot_o_1 P), (boot_o_2 P), (o3v14 P), (boot_o_4 P), (boot_o_5 P), (boot_o_6 P), (boot_o_7 P), (boot_o_8 P), (boot_o_9 P), (boot_o_10 P), o11, o12v8, o13, o14, o15, o16, o17, o18, o19, o20, o21, o22, o23, o24, o25, o26, o27, o28, o29, o30, o31, o32, o33, o34, o35, o36, o37, o38, o39, o40, o41, o42, (o43 P), (o44 P), (o45 P), o46, o47, (o48 P), o49, o50, o51, (o52 P), o53, o54, o55, o56, o57, o58, o59, o60, o61, o62, o63, o64, o65, o66, o67, o68, o69, o70, o71, (o72 P), o73, o74, o75, o76, o77, o78, o79, o80, o81, o82, o83, o84, o85, o86, (o87 P), o88, o89, o90, o91, o92, o93, o94, o95, o96, o97, o98, o99, o100, o101, o102, o103, o104, o105, o106, o107, o108, o109, o110, o111, o112, o113, o114, o115, o116, o117, o118, o119, o120, o121, o122, o123, o124, o125, o126, o127, o128, o129, o130, o131, o132, o133, o134, o135, o136, o137, o138, o139, o140, o141, o142, o143, o144, o145, o146, o147, o148, o149, o150, o151, o152, o153, o154, o155, o156, o157, o158, o159, o160, o161, o162, o163, o164, (o165 P), o166, o167, o168, o169, o170, o171, o172, o173, o174, o175, o176, o177, o178, o179, o180, (o181 P), o182, o183, o184, o185, o186, o187, o188, o189, o190, o191, o192, o193, o194, o195, o196, o197, o198, o199, o200, o201, o202, o203, o204, o205, o206, o207, o208, o209, o210, o211, o212, o213, o214, o215, o216, o217, o218, o219, o220, o221, o222, o223, o224, o225, o226, o227, o228, (o229 P), o230, o231, o232, o233, o234, (o235 P), o236, (o237 P), o238, o239, o240, o241, o242, o243, o244, o245, o246, o247, o248, (o249 P), o250, o251, o252, o253, o254, o255, o256, o257, o258, o259, o260, o261, o262, o263, o264, o265, o266, o267, o268, o269, o270, o271, o272, o273, o274, o275, o276, o277, o278, o279, o280, o281, o282, o283, o284, o285, o286, o287, o288, o289, o290, o291, o292, o293, o294, o295, o296, o297, o298, o299, o300, o301, o302, o303, o304, o305, o306, o307, o308, o309, o310, o311, o312, o313, o314, o315, o316, o317, o318, o319, o320, o321, o322, o323, o324, o325, o326, o327, o328, o329, o330, o331, o332, o333, o334, o335, o336, o337, o338, o339, o340, o341, o342, o343, o344, o345, o346, o347, o348, o349, o350, o351, o352, o353, o354, o355, o356, o357, o358, o359, o360, o361, o362, o363, o364, o365, o366, o367, o368, o369, o370, o371, o372, o373, o374, o375, o376, o377, o378, o379, o380, o381, o382, o383, o384, o385, o386, o387, o388, o389, o390, o391, o392, o393, o394, o395, o396, o397, o398, o399, o400, o401, o402, o403, o404, o405, o406, o407, o408, o409, o410, o411, o412, o413, o414, o415, o416, o417, o418, o419, o420, o421, o422, o423, o424, o425, o426, o427, o428, o429, o430, o431, o432, o433, o434, o435, o436, o437, o438, o439, o440, o441, o442, o443, o444, o445, o446, o447, o448, o449, o450, o451, o452, o453, o454, o455, o456, o457, o458, o459, o460, o461, o462, o463, o464, o465, o466, o467, o468, o469, o470, o471, o472, o473, o474, o475, o476, o477, o478, o479, o480, o481, o482, o483, o484, o485, o486, o487, o488, o489, o490, o491, o492, o493, o494, o495, o496, o497, o498, o499, o500, o501, o502, o503, o504, o505, o506, o507, o508, o509, o510, o511, o512, o513, o514, o515, o516, o517, o518, o519, o520, o521, o522, o523, o524, o525, o526, o527, o528, o529, o530, o531, o532, o533, o534, o535, o536, o537, o538, o539, o540, o541, o542, o543, o544, o545, o546, o547, o548, o549, o550, o551, o552, o553, o554, o555, o556, o557, o558, o559, o560, o561, o562, o563, o564, o565, o566, o567, o568, o569, o570, o571, o572, o573, o574, o575, o576, o577, o578, o579, o580, o581, o582, o583, o584, o585, o586, o587, o588, o589, o590, o591, o592, o593, o594, o595, o596, o597, o598, o599, o600, o601, o602, o603, o604, o605, o606, o607, o608, o609, o610, o611, o612, o613, o614, o615, o616, o617, o618, o619, o620, o621, o622, o623, o624, o625, o626, o627, o628, o629, o630, o631, o632, o633, o634, o635, o636, o637, o638, o639, o640, o641, o642, o643, o644, o645, o646, o647, o648, o649, o650, o651, o652, o653, o654, o655, o656, o657, o658, o659, o660, o661, o662, o663, o664, o665, o666, o667, o668, o669, o670, o671, o672, o673, o674, o675, o676, o677, o678, o679, o680, o681, o682, o683, o684, o685, o686, o687, o688, o689, o690, o691, o692, o693, o694, o695, o696, o697, o698, o699, o700, o701, o702, o703, o704, o705, o706, o707, o708, o709, o710, o711, o712, o713, o714, o715, o716, o717, o718, o719, o720, o721, o722, o723, o724, o725, o726, o727, o728, o729, o730, o731, o732, o733, o734, o735, o736, o737, o738, o739, o740, o741, o742, o743, o744, o745, o746, o747, o748, o749, o750, o751, o752, o753, o754, o755, o756, o757, o758, o759, o760, (o761 P), o762, o763, o764, o765, o766, o767, o768, o769, o770, o771, o772, o773, o774, o775, o776, o777, o778, o779, o780, o781, o782, o783, o784, o785, o786, o787, o788, o789, o790, o791, o792, o793, o794, o795, o796, o797, o798, o799, o800, o801, o802, o803, o804, o805, o806, o807, o808, o809, o810, o811, o812, o813]⟩, {}⟩
noncomputable def KW (P : Params) : Frag := (nat_lit 2, (boot_o_2 P)) :: (nat_lit 3, (o3v14 P)) :: (nat_lit 22, o22) :: (nat_lit 27, o27) :: (nat_lit 32, o32) :: (nat_lit 37, o37) :: (nat_lit 43, (o43 P)) :: (nat_lit 48, (o48 P)) :: (nat_lit 62, o62) :: (nat_lit 63, o63) :: (nat_lit 69, o69) :: (nat_lit 70, o70) :: (nat_lit 72, (o72 P)) :: (nat_lit 73, o73) :: (nat_lit 83, o83) :: (nat_lit 84, o84) :: (nat_lit 97, o97) :: (nat_lit 98, o98) :: (nat_lit 104, o104) :: (nat_lit 105, o105) :: (nat_lit 111, o111) :: (nat_lit 112, o112) :: (nat_lit 118, o118) :: (nat_lit 119, o119) :: (nat_lit 125, o125) :: (nat_lit 126, o126) :: (nat_lit 132, o132) :: (nat_lit 133, o133) :: (nat_lit 134, o134) :: (nat_lit 140, o140) :: (nat_lit 141, o141) :: (nat_lit 147, o147) :: (nat_lit 148, o148) :: (nat_lit 149, o149) :: (nat_lit 155, o155) :: (nat_lit 156, o156) :: (nat_lit 162, o162) :: (nat_lit 163, o163) :: (nat_lit 165, (o165 P)) :: (nat_lit 166, o166) :: (nat_lit 171, o171) :: (nat_lit 177, o177) :: (nat_lit 178, o178) :: (nat_lit 198, o198) :: (nat_lit 199, o199) :: (nat_lit 219, o219) :: (nat_lit 220, o220) :: (nat_lit 226, o226) :: (nat_lit 227, o227) :: (nat_lit 229, (o229 P)) :: (nat_lit 230, o230) :: (nat_lit 235, (o235 P)) :: (nat_lit 236, o236) :: (nat_lit 243, o243) :: (nat_lit 246, o246) :: (nat_lit 254, o254) :: (nat_lit 260, o260) :: (nat_lit 261, o261) :: (nat_lit 276, o276) :: (nat_lit 282, o282) :: (nat_lit 283, o283) :: (nat_lit 303, o303) :: (nat_lit 304, o304) :: (nat_lit 761, (o761 P)) :: (nat_lit 762, o762) :: (nat_lit 772, o772) :: (nat_lit 773, o773) :: (nat_lit 779, o779) :: (nat_lit 780, o780) :: (nat_lit 786, o786) :: (nat_lit 787, o787) :: (nat_lit 793, o793) :: (nat_lit 794, o794) :: (nat_lit 800, o800) :: (nat_lit 801, o801) :: (nat_lit 807, o807) :: (nat_lit 808, o808) :: (nat_lit 812, o812) :: (nat_lit 813, o813) :: []
noncomputable def kAs : List Nat := [nat_lit 2, nat_lit 3, nat_lit 22, nat_lit 27, nat_lit 32, nat_lit 37, nat_lit 43, nat_lit 48, nat_lit 62, nat_lit 63, nat_lit 69, nat_lit 70, nat_lit 72, nat_lit 73, nat_lit 83, nat_lit 84, nat_lit 97, nat_lit 98, nat_lit 104, nat_lit 105, nat_lit 111, nat_lit 112, nat_lit 118, nat_lit 119, nat_lit 125, nat_lit 126, nat_lit 132, nat_lit 133, nat_lit 134, nat_lit 140, nat_lit 141, nat_lit 147, nat_lit 148, nat_lit 149, nat_lit 155, nat_lit 156, nat_lit 162, nat_lit 163, nat_lit 165, nat_lit 166, nat_lit 171, nat_lit 177, nat_lit 178, nat_lit 198, nat_lit 199, nat_lit 219, nat_lit 220, nat_lit 226, nat_lit 227, nat_lit 229, nat_lit 230, nat_lit 235, nat_lit 236, nat_lit 243, nat_lit 246, nat_lit 254, nat_lit 260, nat_lit 261, nat_lit 276, nat_lit 282, nat_lit 283, nat_lit 303, nat_lit 304, nat_lit 761, nat_lit 762, nat_lit 772, nat_lit 773, nat_lit 779, nat_lit 780, nat_lit 786, nat_lit 787, nat_lit 793, nat_lit 794, nat_lit 800, nat_lit 801, nat_lit 807, nat_lit 808, nat_lit 812, nat_lit 813]


def env : Env := { scope := pw_te0025_01.main.scope, locals := mainNs, globals := mainNs, cells := [], code := .ref 13, frame := some 14 }
def bd : List Stmt := behindTheImports pw_te0025_01
def cE : Code := .body bd env
def z : Pos := ⟨0, 0, 0, 0⟩
def St (T : Params → BT) (k tk : Nat) (w : World) (os : OsState) : SharedT := ⟨T w.params, k, {}, .mk [], {}, tk, os⟩
def sts (i k : Nat) : List Stmt := (bd.drop i).take k
def pc (i k : Nat) (p : Pos) : Thread := piecesOf (sts i k) env cE p [topFrame z]
def back (T : Params → BT) (k tk : Nat) (p : Pos) (w : World) (os : OsState) : Option (Flow × SharedT × Code × Pos) := some (.next, St T k tk w os, cE, p)
def Y (w : World) (k : Nat) (S : SharedT) (t : Thread) : Option (Flow × SharedT × Code × Pos) := PySem.W.Fast.tw10110043849684766642 PySem.W.Fast.tw14364793385576792824 pw_te0025_01 w 11 (some (.ref 6)) 1 k S t
theorem of_Y {w : World} {k : Nat} {S S' : SharedT} {t : Thread} {c : Code} {p : Pos} (h : Y w k S t = some (.next, S', c, p)) : segRun treeTable pw_te0025_01 w 11 (some (.ref 6)) 1 k S.abs t = some (.next, S'.abs, c, p) := by
  refine segRun_of ?_
  rw [PySem.W.Fast.te10110043849684766642, PySem.W.Fast.te14364793385576792824]
  exact h
abbrev Ends (N : Nat) (w : World) (sh : Shared) (rest : List Stmt) (p : Pos) (o : Shared) : Prop := topRun treeTable pw_te0025_01 w 11 (some (.ref 6)) N sh (restOf rest env cE p [topFrame z]) = some o

theorem p1 (w : World) : (fun os => Y w 62 (St T0 15 187 w os) (pc 0 4 ⟨0, 0, 0, 0⟩)) = back T1 23 203 ⟨6, 0, 6, 15⟩ w := by kernel_rfl
theorem c1 {N : Nat} {w : World} {os : OsState} {rest : List Stmt} {o : Shared} (k : Ends N w (St T1 23 203 w os).abs rest ⟨6, 0, 6, 15⟩ o) : Ends (62 + N) w (St T0 15 187 w os).abs (sts 0 4 ++ rest) ⟨0, 0, 0, 0⟩ o := piece_app (of_Y (congrFun (p1 w) os)) k
theorem p2a (w : World) : (fun os => Y (w.withFollow "special-get-raises" false) 784 (St T1 23 203 (w.withFollow "special-get-raises" false) os) (pc 4 1 ⟨6, 0, 6, 15⟩)) = back T2 28 257 ⟨7, 0, 7, 12⟩ (w.withFollow "special-get-raises" false) := by kernel_rfl
theorem p2b (w : World) : (fun os => Y (w.withFollow "special-get-raises" true) 784 (St T1 23 203 (w.withFollow "special-get-raises" true) os) (pc 4 1 ⟨6, 0, 6, 15⟩)) = back T2 28 257 ⟨7, 0, 7, 12⟩ (w.withFollow "special-get-raises" true) := by kernel_rfl
theorem p2 (w : World) : (fun os => Y w 784 (St T1 23 203 w os) (pc 4 1 ⟨6, 0, 6, 15⟩)) = back T2 28 257 ⟨7, 0, 7, 12⟩ w := byRow2 "special-get-raises" (P := fun w => (fun os => Y w 784 (St T1 23 203 w os) (pc 4 1 ⟨6, 0, 6, 15⟩)) = back T2 28 257 ⟨7, 0, 7, 12⟩ w) p2a p2b w
theorem c2 {N : Nat} {w : World} {os : OsState} {rest : List Stmt} {o : Shared} (k : Ends N w (St T2 28 257 w os).abs rest ⟨7, 0, 7, 12⟩ o) : Ends (784 + N) w (St T1 23 203 w os).abs (sts 4 1 ++ rest) ⟨6, 0, 6, 15⟩ o := piece_app (of_Y (congrFun (p2 w) os)) k
theorem p3a (w : World) : (fun os => Y (w.withFollow "special-get-raises" false) 196 (St T2 28 257 (w.withFollow "special-get-raises" false) os) (pc 5 1 ⟨7, 0, 7, 12⟩)) = back T3 33 269 ⟨8, 0, 8, 6⟩ (w.withFollow "special-get-raises" false) := by kernel_rfl
theorem p3b (w : World) : (fun os => Y (w.withFollow "special-get-raises" true) 196 (St T2 28 257 (w.withFollow "special-get-raises" true) os) (pc 5 1 ⟨7, 0, 7, 12⟩)) = back T3 33 269 ⟨8, 0, 8, 6⟩ (w.withFollow "special-get-raises" true) := by kernel_rfl
theorem p3 (w : World) : (fun os => Y w 196 (St T2 28 257 w os) (pc 5 1 ⟨7, 0, 7, 12⟩)) = back T3 33 269 ⟨8, 0, 8, 6⟩ w := byRow2 "special-get-raises" (P := fun w => (fun os => Y w 196 (St T2 28 257 w os) (pc 5 1 ⟨7, 0, 7, 12⟩)) = back T3 33 269 ⟨8, 0, 8, 6⟩ w) p3a p3b w
theorem c3 {N : Nat} {w : World} {os : OsState} {rest : List Stmt} {o : Shared} (k : Ends N w (St T3 33 269 w os).abs rest ⟨8, 0, 8, 6⟩ o) : Ends (196 + N) w (St T2 28 257 w os).abs (sts 5 1 ++ rest) ⟨7, 0, 7, 12⟩ o := piece_app (of_Y (congrFun (p3 w) os)) k
theorem p4a (w : World) : (fun os => Y (w.withFollow "special-get-raises" false) 390 (St T3 33 269 (w.withFollow "special-get-raises" false) os) (pc 6 2 ⟨8, 0, 8, 6⟩)) = back T4 43 299 ⟨10, 0, 11, 78⟩ (w.withFollow "special-get-raises" false) := by kernel_rfl
theorem p4b (w : World) : (fun os => Y (w.withFollow "special-get-raises" true) 390 (St T3 33 269 (w.withFollow "special-get-raises" true) os) (pc 6 2 ⟨8, 0, 8, 6⟩)) = back T4 43 299 ⟨10, 0, 11, 78⟩ (w.withFollow "special-get-raises" true) := by kernel_rfl
theorem p4 (w : World) : (fun os => Y w 390 (St T3 33 269 w os) (pc 6 2 ⟨8, 0, 8, 6⟩)) = back T4 43 299 ⟨10, 0, 11, 78⟩ w := byRow2 "special-get-raises" (P := fun w => (fun os => Y w 390 (St T3 33 269 w os) (pc 6 2 ⟨8, 0, 8, 6⟩)) = back T4 43 299 ⟨10, 0, 11, 78⟩ w) p4a p4b w
theorem c4 {N : Nat} {w : World} {os : OsState} {rest : List Stmt} {o : Shared} (k : Ends N w (St T4 43 299 w os).abs rest ⟨10, 0, 11, 78⟩ o) : Ends (390 + N) w (St T3 33 269 w os).abs (sts 6 2 ++ rest) ⟨8, 0, 8, 6⟩ o := piece_app (of_Y (congrFun (p4 w) os)) k
theorem p5a (w : World) : (fun os => Y (w.withFollow "special-get-raises" false) 826 (St T4 43 299 (w.withFollow "special-get-raises" false) os) (pc 8 1 ⟨10, 0, 11, 78⟩)) = back T5 46 429 ⟨12, 0, 12, 8⟩ (w.withFollow "special-get-raises" false) := by kernel_rfl
theorem p5b (w : World) : (fun os => Y (w.withFollow "special-get-raises" true) 826 (St T4 43 299 (w.withFollow "special-get-raises" true) os) (pc 8 1 ⟨10, 0, 11, 78⟩)) = back T5 46 429 ⟨12, 0, 12, 8⟩ (w.withFollow "special-get-raises" true) := by kernel_rfl
theorem p5 (w : World) : (fun os => Y w 826 (St T4 43 299 w os) (pc 8 1 ⟨10, 0, 11, 78⟩)) = back T5 46 429 ⟨12, 0, 12, 8⟩ w := byRow2 "special-get-raises" (P := fun w => (fun os => Y w 826 (St T4 43 299 w os) (pc 8 1 ⟨10, 0, 11, 78⟩)) = back T5 46 429 ⟨12, 0, 12, 8⟩ w) p5a p5b w
theorem c5 {N : Nat} {w : World} {os : OsState} {rest : List Stmt} {o : Shared} (k : Ends N w (St T5 46 429 w os).abs rest ⟨12, 0, 12, 8⟩ o) : Ends (826 + N) w (St T4 43 299 w os).abs (sts 8 1 ++ rest) ⟨10, 0, 11, 78⟩ o := piece_app (of_Y (congrFun (p5 w) os)) k
theorem p6a (w : World) : (fun os => Y (w.withFollow "special-get-raises" false) 563 (St T5 46 429 (w.withFollow "special-get-raises" false) os) (pc 9 1 ⟨12, 0, 12, 8⟩)) = back T6 48 532 ⟨13, 0, 13, 21⟩ (w.withFollow "special-get-raises" false) := by kernel_rfl
theorem p6b (w : World) : (fun os => Y (w.withFollow "special-get-raises" true) 563 (St T5 46 429 (w.withFollow "special-get-raises" true) os) (pc 9 1 ⟨12, 0, 12, 8⟩)) = back T6 48 532 ⟨13, 0, 13, 21⟩ (w.withFollow "special-get-raises" true) := by kernel_rfl
theorem p6 (w : World) : (fun os => Y w 563 (St T5 46 429 w os) (pc 9 1 ⟨12, 0, 12, 8⟩)) = back T6 48 532 ⟨13, 0, 13, 21⟩ w := byRow2 "special-get-raises" (P := fun w => (fun os => Y w 563 (St T5 46 429 w os) (pc 9 1 ⟨12, 0, 12, 8⟩)) = back T6 48 532 ⟨13, 0, 13, 21⟩ w) p6a p6b w
theorem c6 {N : Nat} {w : World} {os : OsState} {rest : List Stmt} {o : Shared} (k : Ends N w (St T6 48 532 w os).abs rest ⟨13, 0, 13, 21⟩ o) : Ends (563 + N) w (St T5 46 429 w os).abs (sts 9 1 ++ rest) ⟨12, 0, 12, 8⟩ o := piece_app (of_Y (congrFun (p6 w) os)) k
theorem p7a (w : World) : (fun os => Y (w.withFollow "special-get-raises" false) 231 (St T6 48 532 (w.withFollow "special-get-raises" false) os) (pc 10 3 ⟨13, 0, 13, 21⟩)) = back T7 50 566 ⟨16, 0, 16, 8⟩ (w.withFollow "special-get-raises" false) := by kernel_rfl
theorem p7b (w : World) : (fun os => Y (w.withFollow "special-get-raises" true) 231 (St T6 48 532 (w.withFollow "special-get-raises" true) os) (pc 10 3 ⟨13, 0, 13, 21⟩)) = back T7 50 566 ⟨16, 0, 16, 8⟩ (w.withFollow "special-get-raises" true) := by kernel_rfl
theorem p7 (w : World) : (fun os => Y w 231 (St T6 48 532 w os) (pc 10 3 ⟨13, 0, 13, 21⟩)) = back T7 50 566 ⟨16, 0, 16, 8⟩ w := byRow2 "special-get-raises" (P := fun w => (fun os => Y w 231 (St T6 48 532 w os) (pc 10 3 ⟨13, 0, 13, 21⟩)) = back T7 50 566 ⟨16, 0, 16, 8⟩ w) p7a p7b w
theorem c7 {N : Nat} {w : World} {os : OsState} {rest : List Stmt} {o : Shared} (k : Ends N w (St T7 50 566 w os).abs rest ⟨16, 0, 16, 8⟩ o) : Ends (231 + N) w (St T6 48 532 w os).abs (sts 10 3 ++ rest) ⟨13, 0, 13, 21⟩ o := piece_app (of_Y (congrFun (p7 w) os)) k
theorem p8 (w : World) : (fun os => Y w 290 (St T7 50 566 w os) (pc 13 2 ⟨16, 0, 16, 8⟩)) = back T8 85 612 ⟨27, 0, 28, 210⟩ w := by kernel_rfl
theorem c8 {N : Nat} {w : World} {os : OsState} {rest : List Stmt} {o : Shared} (k : Ends N w (St T8 85 612 w os).abs rest ⟨27, 0, 28, 210⟩ o) : Ends (290 + N) w (St T7 50 566 w os).abs (sts 13 2 ++ rest) ⟨16, 0, 16, 8⟩ o := piece_app (of_Y (congrFun (p8 w) os)) k
theorem p9 (w : World) : (fun os => Y w 550 (St T8 85 612 w os) (pc 15 1 ⟨27, 0, 28, 210⟩)) = back T9 171 738 ⟨29, 0, 132, 59⟩ w := by kernel_rfl
theorem c9 {N : Nat} {w : World} {os : OsState} {rest : List Stmt} {o : Shared} (k : Ends N w (St T9 171 738 w os).abs rest ⟨29, 0, 132, 59⟩ o) : Ends (550 + N) w (St T8 85 612 w os).abs (sts 15 1 ++ rest) ⟨27, 0, 28, 210⟩ o := piece_app (of_Y (congrFun (p9 w) os)) k
theorem p10 (w : World) : (fun os => Y w 45 (St T9 171 738 w os) (pc 16 2 ⟨29, 0, 132, 59⟩)) = back T10 179 752 ⟨134, 0, 143, 14⟩ w := by kernel_rfl
theorem c10 {N : Nat} {w : World} {os : OsState} {rest : List Stmt} {o : Shared} (k : Ends N w (St T10 179 752 w os).abs rest ⟨134, 0, 143, 14⟩ o) : Ends (45 + N) w (St T9 171 738 w os).abs (sts 16 2 ++ rest) ⟨29, 0, 132, 59⟩ o := piece_app (of_Y (congrFun (p10 w) os)) k
theorem p11 (w : World) : (fun os => Y w 393 (St T10 179 752 w os) (pc 18 1 ⟨134, 0, 143, 14⟩)) = back T11 235 827 ⟨144, 0, 179, 30⟩ w := by kernel_rfl
theorem c11 {N : Nat} {w : World} {os : OsState} {rest : List Stmt} {o : Shared} (k : Ends N w (St T11 235 827 w os).abs rest ⟨144, 0, 179, 30⟩ o) : Ends (393 + N) w (St T10 179 752 w os).abs (sts 18 1 ++ rest) ⟨134, 0, 143, 14⟩ o := piece_app (of_Y (congrFun (p11 w) os)) k
theorem p12 (w : World) : (fun os => Y w 10 (St T11 235 827 w os) (pc 19 1 ⟨144, 0, 179, 30⟩)) = back T12 235 829 ⟨180, 0, 180, 8⟩ w := by kernel_rfl
theorem c12 {N : Nat} {w : World} {os : OsState} {rest : List Stmt} {o : Shared} (k : Ends N w (St T12 235 829 w os).abs rest ⟨180, 0, 180, 8⟩ o) : Ends (10 + N) w (St T11 235 827 w os).abs (sts 19 1 ++ rest) ⟨144, 0, 179, 30⟩ o := piece_app (of_Y (congrFun (p12 w) os)) k
theorem p13a (w : World) : (fun os => Y (w.withFollow "special-get-raises" false) 1239 (St T12 235 829 (w.withFollow "special-get-raises" false) os) (pc 20 1 ⟨180, 0, 180, 8⟩)) = back T13 247 844 ⟨181, 0, 181, 12⟩ (w.withFollow "special-get-raises" false) := by kernel_rfl
theorem p13b (w : World) : (fun os => Y (w.withFollow "special-get-raises" true) 1239 (St T12 235 829 (w.withFollow "special-get-raises" true) os) (pc 20 1 ⟨180, 0, 180, 8⟩)) = back T13 247 844 ⟨181, 0, 181, 12⟩ (w.withFollow "special-get-raises" true) := by kernel_rfl
theorem p13 (w : World) : (fun os => Y w 1239 (St T12 235 829 w os) (pc 20 1 ⟨180, 0, 180, 8⟩)) = back T13 247 844 ⟨181, 0, 181, 12⟩ w := byRow2 "special-get-raises" (P := fun w => (fun os => Y w 1239 (St T12 235 829 w os) (pc 20 1 ⟨180, 0, 180, 8⟩)) = back T13 247 844 ⟨181, 0, 181, 12⟩ w) p13a p13b w
theorem c13 {N : Nat} {w : World} {os : OsState} {rest : List Stmt} {o : Shared} (k : Ends N w (St T13 247 844 w os).abs rest ⟨181, 0, 181, 12⟩ o) : Ends (1239 + N) w (St T12 235 829 w os).abs (sts 20 1 ++ rest) ⟨180, 0, 180, 8⟩ o := piece_app (of_Y (congrFun (p13 w) os)) k
theorem p14 (w : World) : (fun os => Y w 2504 (St T13 247 844 w os) (pc 21 1 ⟨181, 0, 181, 12⟩)) = back T14 767 1444 ⟨182, 0, 1184, 19⟩ w := by kernel_rfl
theorem c14 {N : Nat} {w : World} {os : OsState} {rest : List Stmt} {o : Shared} (k : Ends N w (St T14 767 1444 w os).abs rest ⟨182, 0, 1184, 19⟩ o) : Ends (2504 + N) w (St T13 247 844 w os).abs (sts 21 1 ++ rest) ⟨181, 0, 181, 12⟩ o := piece_app (of_Y (congrFun (p14 w) os)) k
theorem p15 (w : World) : (fun os => Y w 228 (St T14 767 1444 w os) (pc 22 9 ⟨182, 0, 1184, 19⟩)) = back T15 814 1505 ⟨1220, 0, 1256, 81⟩ w := by kernel_rfl
theorem c15 {N : Nat} {w : World} {os : OsState} {rest : List Stmt} {o : Shared} (k : Ends N w (St T15 814 1505 w os).abs rest ⟨1220, 0, 1256, 81⟩ o) : Ends (228 + N) w (St T14 767 1444 w os).abs (sts 22 9 ++ rest) ⟨182, 0, 1184, 19⟩ o := piece_app (of_Y (congrFun (p15 w) os)) k
theorem bd_eq : bd = sts 0 4 ++ (sts 4 1 ++ (sts 5 1 ++ (sts 6 2 ++ (sts 8 1 ++ (sts 9 1 ++ (sts 10 3 ++ (sts 13 2 ++ (sts 15 1 ++ (sts 16 2 ++ (sts 18 1 ++ (sts 19 1 ++ (sts 20 1 ++ (sts 21 1 ++ (sts 22 9 ++ [])))))))))))))) := by kernel_rfl

theorem fin_k (w : World) : (fun os => PySem.W.Fast.tw14082659384304107361 PySem.W.Fast.tw14364793385576792824 pw_te0025_01 w 11 (some (.ref 6)) 2 (St T15 814 1505 w os).abs ⟨doneF .next, cE, ⟨1220, 0, 1256, 81⟩, [topFrame z]⟩) = fun os => some ⟨Hz w.params, .mk [], {}, 1505, os⟩ := by kernel_rfl
theorem fin (w : World) (os : OsState) : Ends 2 w (St T15 814 1505 w os).abs [] ⟨1220, 0, 1256, 81⟩ ⟨Hz w.params, .mk [], {}, 1505, os⟩ := by
  refine piece_nil ?_
  rw [PySem.W.Fast.te14082659384304107361, PySem.W.Fast.te14364793385576792824]
  exact congrFun (fin_k w) os
theorem block_k (w : World) : (fun os => PySem.W.Fast.tw14374325043358763698 PySem.W.Fast.tw14364793385576792824 pw_te0025_01 w 11 (some (.ref 6)) 1 1 ⟨Ha w.params, .mk [], {}, 187, os⟩ (blockOf bd env cE z [topFrame z])) = fun os => some (.next, (St T0 15 187 w os).abs, cE, z) := by kernel_rfl
theorem block (w : World) (os : OsState) : segRun treeTable pw_te0025_01 w 11 (some (.ref 6)) 1 1 ⟨Ha w.params, .mk [], {}, 187, os⟩ (blockOf bd env cE z [topFrame z]) = some (.next, (St T0 15 187 w os).abs, cE, z) := by
  rw [PySem.W.Fast.te14374325043358763698, PySem.W.Fast.te14364793385576792824]
  exact congrFun (block_k w) os
theorem pre_k (w : World) : (fun os => PySem.W.Fast.tw15667345088766844465 PySem.W.Fast.tw14364793385576792824 pw_te0025_01 w 11 (some (.ref 6)) 12 ⟨boot_heap w.params, .mk [], boot_drawn, boot_toks, os⟩ (topStub pw_te0025_01)) = fun os => some (⟨Ha w.params, .mk [], {}, 187, os⟩, ⟨PySem.W.Fast.tw11892475500146522536 PySem.W.Fast.tw14364793385576792824 (.body bd env), cE, z, [topFrame z]⟩) := by kernel_rfl
theorem pre (w : World) (os : OsState) : topGo treeTable pw_te0025_01 w 11 (some (.ref 6)) 12 ⟨boot_heap w.params, .mk [], boot_drawn, boot_toks, os⟩ (topStub pw_te0025_01) = some (⟨Ha w.params, .mk [], {}, 187, os⟩, ⟨denote treeTable (.body bd env), cE, z, [topFrame z]⟩) := by
  rw [PySem.W.Fast.te15667345088766844465, PySem.W.Fast.te14364793385576792824, PySem.W.Fast.te11892475500146522536]
  exact congrFun (pre_k w) os

theorem run (w : World) (os : OsState) : topRun treeTable pw_te0025_01 w 11 (some (.ref 6)) (12 + (1 + (62 + (784 + (196 + (390 + (826 + (563 + (231 + (290 + (550 + (45 + (393 + (10 + (1239 + (2504 + (228 + 2))))))))))))))))) ⟨boot_heap w.params, .mk [], boot_drawn, boot_toks, os⟩ (topStub pw_te0025_01) = some ⟨Hz w.params, .mk [], {}, 1505, os⟩ := by
  refine go_top (pre w os) ?_
  refine piece_block (block w os) ?_
  show Ends _ w _ bd z _
  rw [bd_eq]
  exact c1 (c2 (c3 (c4 (c5 (c6 (c7 (c8 (c9 (c10 (c11 (c12 (c13 (c14 (c15 (fin w os)))))))))))))))


def q : Program := { pw_te0025_01 with main := { pw_te0025_01.main with body := pw_te0025_01.main.body.drop 30 } }
def loose : List Str := ["_wall", "EOF", "spaceCharacters", "asciiLetters", "digits", "hexDigits", "asciiLower", "entities", "replacementCharacters", "tokenTypes", "tagTokenTypes", "Text", "_is_invalid", "HTMLUnicodeInputStream", "bisect_left", "Trie", "entitiesTrie", "HTMLTokenizer", "_law_PIECES", "_law_WAYS", "_law_CLOSE", "_law_named", "_law_read", "_law_trie", "_law_place"]
def Sz (w : World) (os : OsState) : Shared := ⟨Hz w.params, .mk [], {}, 1505, os⟩
theorem open0 : ∀ w : World, (fencedOpening treeTable pw_te0025_01 w 16718).map (fun s => (s.heap, s.gens, s.drawn, s.toks)) = some (boot_heap w.params, .mk [], boot_drawn, boot_toks) :=
  boot_open (by kernel_rfl) (by decide) (fun s => by kernel_rfl)
theorem size_k (w : World) : ((boot_heap w.params).isNs mainGlobals && (Array.mk [] : Array GenState).size == 0, (boot_heap w.params).objs.size, PySem.W.Fast.tw8920871248978507458 (boot_heap w.params) mainGlobals "__annotations__") = (true, 11, some (.ref 6)) := by kernel_rfl
theorem size (w : World) : ((boot_heap w.params).isNs mainGlobals && (Array.mk [] : Array GenState).size == 0, (boot_heap w.params).objs.size, (boot_heap w.params).nsMap mainGlobals "__annotations__") = (true, 11, some (.ref 6)) := by
  rw [PySem.W.Fast.te8920871248978507458]
  exact size_k w
theorem seen_k (w : World) : (fun os => PySem.W.Fast.tw4187177175401517315 q loose (PySem.W.Fast.tw5923862056798008813 pw_te0025_01.main.body) (fun _ => true) true (Sz w os)) = fun _ => openGood q loose := by kernel_rfl
theorem seen (w : World) (os : OsState) : openSeen q loose (importedModules pw_te0025_01.main.body) (fun _ => true) true (Sz w os) = openGood q loose := by
  rw [PySem.W.Fast.te4187177175401517315, PySem.W.Fast.te5923862056798008813]
  exact congrFun (seen_k w) os
theorem stat_k (w : World) : (fun os => (staticsOk (PySem.W.Fast.tw5923862056798008813 pw_te0025_01.main.body) (boot_heap w.params) (Hz w.params) && namesBound pw_te0025_01 (Hz w.params) && gensDone (Sz w os) && laidKept (boot_heap w.params) (Hz w.params))) = fun _ => true := by kernel_rfl
theorem stat (w : World) (os : OsState) : (staticsOk (importedModules pw_te0025_01.main.body) (boot_heap w.params) (Hz w.params) && namesBound pw_te0025_01 (Hz w.params) && gensDone (Sz w os) && laidKept (boot_heap w.params) (Hz w.params)) = true := by
  rw [PySem.W.Fast.te5923862056798008813]
  exact congrFun (stat_k w) os
theorem looks_k (w : World) : PySem.W.R.mapR (Hz w.params).get? kAs = PySem.W.R.mapR (fun p => some p.2) (KW w.params) := by kernel_rfl
theorem looks (w : World) : kAs.map (Hz w.params).get? = (KW w.params).map (fun p => some p.2) := by
  rw [PySem.W.R.mapR_eq]
  exact looks_k w
theorem left : LeftO pw_te0025_01 q loose (fun _ => true) (fun s => kAs.map s.heap.get?) (fun w => (KW w.params).map fun p => some p.2) 16718 :=
  LeftO.of_pieces open0 size run (by decide) fun w => funext fun os => looks_pair (stat w os) (looks_pair (seen w os) (looks w))

end
end Mine.Top
end
section
open PySem PySem.W PySem.Calls PyProof.Rows
set_option maxRecDepth 100000
set_option maxHeartbeats 0
namespace Mine.Top
open PySem.Challenge (pw_te0025_01 rw_te0025_01)
noncomputable def lkv : Look := { strict := false, foot := none, writes := false, but := none, yields := false, awaits := false, loops := false, place := false, bare := [], may := none }
theorem bare_k : PySem.W.R.filterR (PySem.W.Fast.tw13343964577679436407 pw_te0025_01 pw_te0025_01.main.body) (["vars", "dir", "locals"] : List Str) = [] := by kernel_rfl
theorem strict_k : (!PySem.W.R.allR (PySem.W.Fast.tw5923862056798008813 pw_te0025_01.main.body) cThrough.contains) = false := by kernel_rfl
theorem lk_eq : ({ strict := !(importedModules pw_te0025_01.main.body).all cThrough.contains, foot := none, bare := (["vars", "dir", "locals"] : List Str).filter (readsOut pw_te0025_01 pw_te0025_01.main.body) } : Look) = lkv := by
  have h1 : (["vars", "dir", "locals"] : List Str).filter (readsOut pw_te0025_01 pw_te0025_01.main.body) = [] := by
    rw [PySem.W.R.filterR_eq, PySem.W.Fast.te13343964577679436407]; exact bare_k
  have h2 : (!(importedModules pw_te0025_01.main.body).all cThrough.contains) = false := by
    rw [PySem.W.R.allR_eq, PySem.W.Fast.te5923862056798008813]; exact strict_k
  rw [h1, h2]; rfl
theorem road_k : PySem.W.Fast.tw8326940854005059898 lkv pw_te0025_01.main.body = true := by kernel_rfl
theorem road : noRoadLSs lkv pw_te0025_01.main.body = true := by rw [PySem.W.Fast.te8326940854005059898]; exact road_k
theorem resolve_k : PySem.W.Fast.tw8377067652309620493 pw_te0025_01 = true := by kernel_rfl
theorem resolve : namesResolve pw_te0025_01 = true := by rw [PySem.W.Fast.te8377067652309620493]; exact resolve_k
theorem meet_k : PySem.W.Fast.tw17119622794617984870 pw_te0025_01 pw_te0025_01.main.body (fun _ n => PySem.W.Fast.tw17868728402115742887 n) = true := by kernel_rfl
theorem meet : (namesMeet pw_te0025_01 pw_te0025_01.main.body fun _ n => attrL n) = true := by rw [PySem.W.Fast.te17119622794617984870, PySem.W.Fast.te17868728402115742887]; exact meet_k
noncomputable def ownv : List Str := ["law", "_law_place", "_law_trie", "_law_read", "_law_named", "_law_CLOSE", "_law_WAYS", "_law_PIECES"]
theorem own_k : PySem.W.Fast.tw10792542408131684335 rw_te0025_01 = ownv := by kernel_rfl
theorem own_eq : rw_te0025_01.own = ownv := by rw [PySem.W.Fast.te10792542408131684335]; exact own_k
theorem above_k : PySem.W.Fast.tw17119622794617984870 pw_te0025_01 (pw_te0025_01.main.body.take 23) (fun _ n => !PySem.W.Fast.tw3471404346716756564 ownv n) = true := by kernel_rfl
end Mine.Top
end
section
open PySem PySem.W PySem.Calls PyProof.Rows
set_option maxRecDepth 100000
set_option maxHeartbeats 0
namespace Mine.Top
open PySem.Challenge (pw_te0025_01 rw_te0025_01)
theorem open_said : looksOpen pw_te0025_01 = true := by
  unfold looksOpen
  rw [lk_eq]
  repeat' (with_reducible refine look_both ?_ ?_)
  · (try rewrite [PySem.W.R.allR_eq]); (try rewrite [PySem.W.R.elemR_eq]); (try rewrite [PySem.W.Fast.te3471404346716756564]); (try rewrite [PySem.W.Fast.named_eq]); (try rewrite [PySem.W.Fast.te17119622794617984870]); (try rewrite [PySem.W.Fast.te8326940854005059898]); (try rewrite [PySem.W.Fast.te8179353310426384613]); (try rewrite [PySem.W.Fast.te10501279942588096481]); (try rewrite [PySem.W.Fast.te9558739934217749035]); (try rewrite [PySem.W.Fast.te16286561074155671207]); (try rewrite [PySem.W.Fast.te6984425678791042302]); (try rewrite [PySem.W.Fast.te797321630700447069]); (try rewrite [PySem.W.Fast.te12879404354523853263]); (try rewrite [PySem.W.Fast.te482687673346738481]); (try rewrite [PySem.W.Fast.te18344453789297297638]); (try rewrite [PySem.W.Fast.te14412699480532031325]); (try rewrite [PySem.W.Fast.te9807087744658564304]); (try rewrite [PySem.W.Fast.te12862048085361865435]); (try rewrite [PySem.W.Fast.te11788848310118352699]); (try rewrite [PySem.W.Fast.te4857012375875476094]); kernel_rfl
  · (try rewrite [PySem.W.R.allR_eq]); (try rewrite [PySem.W.R.elemR_eq]); (try rewrite [PySem.W.Fast.te3471404346716756564]); (try rewrite [PySem.W.Fast.named_eq]); (try rewrite [PySem.W.Fast.te17119622794617984870]); (try rewrite [PySem.W.Fast.te8326940854005059898]); (try rewrite [PySem.W.Fast.te8179353310426384613]); (try rewrite [PySem.W.Fast.te10501279942588096481]); (try rewrite [PySem.W.Fast.te9558739934217749035]); (try rewrite [PySem.W.Fast.te16286561074155671207]); (try rewrite [PySem.W.Fast.te6984425678791042302]); (try rewrite [PySem.W.Fast.te797321630700447069]); (try rewrite [PySem.W.Fast.te12879404354523853263]); (try rewrite [PySem.W.Fast.te482687673346738481]); (try rewrite [PySem.W.Fast.te18344453789297297638]); (try rewrite [PySem.W.Fast.te14412699480532031325]); (try rewrite [PySem.W.Fast.te9807087744658564304]); (try rewrite [PySem.W.Fast.te12862048085361865435]); (try rewrite [PySem.W.Fast.te11788848310118352699]); (try rewrite [PySem.W.Fast.te4857012375875476094]); kernel_rfl
  · exact resolve
  · (try rewrite [PySem.W.R.allR_eq]); (try rewrite [PySem.W.R.elemR_eq]); (try rewrite [PySem.W.Fast.te3471404346716756564]); (try rewrite [PySem.W.Fast.named_eq]); (try rewrite [PySem.W.Fast.te17119622794617984870]); (try rewrite [PySem.W.Fast.te8326940854005059898]); (try rewrite [PySem.W.Fast.te8179353310426384613]); (try rewrite [PySem.W.Fast.te10501279942588096481]); (try rewrite [PySem.W.Fast.te9558739934217749035]); (try rewrite [PySem.W.Fast.te16286561074155671207]); (try rewrite [PySem.W.Fast.te6984425678791042302]); (try rewrite [PySem.W.Fast.te797321630700447069]); (try rewrite [PySem.W.Fast.te12879404354523853263]); (try rewrite [PySem.W.Fast.te482687673346738481]); (try rewrite [PySem.W.Fast.te18344453789297297638]); (try rewrite [PySem.W.Fast.te14412699480532031325]); (try rewrite [PySem.W.Fast.te9807087744658564304]); (try rewrite [PySem.W.Fast.te12862048085361865435]); (try rewrite [PySem.W.Fast.te11788848310118352699]); (try rewrite [PySem.W.Fast.te4857012375875476094]); kernel_rfl
  · exact road
  · exact meet
theorem row_said : rw_te0025_01.row.wellSaid = true := by
  unfold OpenRow.wellSaid OpenRow.partSaid
  repeat' (with_reducible refine look_both ?_ ?_)
  · exact open_said
  all_goals ((try rewrite [PySem.W.R.allR_eq]); (try rewrite [PySem.W.R.elemR_eq]); (try rewrite [PySem.W.Fast.te3471404346716756564]); (try rewrite [PySem.W.Fast.named_eq]); (try rewrite [PySem.W.Fast.te17119622794617984870]); (try rewrite [PySem.W.Fast.te8326940854005059898]); (try rewrite [PySem.W.Fast.te8179353310426384613]); (try rewrite [PySem.W.Fast.te10501279942588096481]); (try rewrite [PySem.W.Fast.te9558739934217749035]); (try rewrite [PySem.W.Fast.te16286561074155671207]); (try rewrite [PySem.W.Fast.te6984425678791042302]); (try rewrite [PySem.W.Fast.te797321630700447069]); (try rewrite [PySem.W.Fast.te12879404354523853263]); (try rewrite [PySem.W.Fast.te482687673346738481]); (try rewrite [PySem.W.Fast.te18344453789297297638]); (try rewrite [PySem.W.Fast.te14412699480532031325]); (try rewrite [PySem.W.Fast.te9807087744658564304]); (try rewrite [PySem.W.Fast.te12862048085361865435]); (try rewrite [PySem.W.Fast.te11788848310118352699]); (try rewrite [PySem.W.Fast.te4857012375875476094]); kernel_rfl)
theorem above : (namesMeet rw_te0025_01.prog rw_te0025_01.above fun _ n => !rw_te0025_01.own.contains n) = true := by
  rw [own_eq, PySem.W.Fast.te17119622794617984870, PySem.W.Fast.te3471404346716756564]
  exact above_k
theorem said : rw_te0025_01.wellSaid = true := by
  unfold OpenLaw.wellSaid
  repeat' (with_reducible refine look_both ?_ ?_)
  · exact row_said
  · (try rewrite [PySem.W.R.allR_eq]); (try rewrite [PySem.W.R.elemR_eq]); (try rewrite [PySem.W.Fast.te3471404346716756564]); (try rewrite [PySem.W.Fast.named_eq]); (try rewrite [PySem.W.Fast.te17119622794617984870]); (try rewrite [PySem.W.Fast.te8326940854005059898]); (try rewrite [PySem.W.Fast.te8179353310426384613]); (try rewrite [PySem.W.Fast.te10501279942588096481]); (try rewrite [PySem.W.Fast.te9558739934217749035]); (try rewrite [PySem.W.Fast.te16286561074155671207]); (try rewrite [PySem.W.Fast.te6984425678791042302]); (try rewrite [PySem.W.Fast.te797321630700447069]); (try rewrite [PySem.W.Fast.te12879404354523853263]); (try rewrite [PySem.W.Fast.te482687673346738481]); (try rewrite [PySem.W.Fast.te18344453789297297638]); (try rewrite [PySem.W.Fast.te14412699480532031325]); (try rewrite [PySem.W.Fast.te9807087744658564304]); (try rewrite [PySem.W.Fast.te12862048085361865435]); (try rewrite [PySem.W.Fast.te11788848310118352699]); (try rewrite [PySem.W.Fast.te4857012375875476094]); kernel_rfl
  · (try rewrite [PySem.W.R.allR_eq]); (try rewrite [PySem.W.R.elemR_eq]); (try rewrite [PySem.W.Fast.te3471404346716756564]); (try rewrite [PySem.W.Fast.named_eq]); (try rewrite [PySem.W.Fast.te17119622794617984870]); (try rewrite [PySem.W.Fast.te8326940854005059898]); (try rewrite [PySem.W.Fast.te8179353310426384613]); (try rewrite [PySem.W.Fast.te10501279942588096481]); (try rewrite [PySem.W.Fast.te9558739934217749035]); (try rewrite [PySem.W.Fast.te16286561074155671207]); (try rewrite [PySem.W.Fast.te6984425678791042302]); (try rewrite [PySem.W.Fast.te797321630700447069]); (try rewrite [PySem.W.Fast.te12879404354523853263]); (try rewrite [PySem.W.Fast.te482687673346738481]); (try rewrite [PySem.W.Fast.te18344453789297297638]); (try rewrite [PySem.W.Fast.te14412699480532031325]); (try rewrite [PySem.W.Fast.te9807087744658564304]); (try rewrite [PySem.W.Fast.te12862048085361865435]); (try rewrite [PySem.W.Fast.te11788848310118352699]); (try rewrite [PySem.W.Fast.te4857012375875476094]); kernel_rfl
  · (try rewrite [PySem.W.R.allR_eq]); (try rewrite [PySem.W.R.elemR_eq]); (try rewrite [PySem.W.Fast.te3471404346716756564]); (try rewrite [PySem.W.Fast.named_eq]); (try rewrite [PySem.W.Fast.te17119622794617984870]); (try rewrite [PySem.W.Fast.te8326940854005059898]); (try rewrite [PySem.W.Fast.te8179353310426384613]); (try rewrite [PySem.W.Fast.te10501279942588096481]); (try rewrite [PySem.W.Fast.te9558739934217749035]); (try rewrite [PySem.W.Fast.te16286561074155671207]); (try rewrite [PySem.W.Fast.te6984425678791042302]); (try rewrite [PySem.W.Fast.te797321630700447069]); (try rewrite [PySem.W.Fast.te12879404354523853263]); (try rewrite [PySem.W.Fast.te482687673346738481]); (try rewrite [PySem.W.Fast.te18344453789297297638]); (try rewrite [PySem.W.Fast.te14412699480532031325]); (try rewrite [PySem.W.Fast.te9807087744658564304]); (try rewrite [PySem.W.Fast.te12862048085361865435]); (try rewrite [PySem.W.Fast.te11788848310118352699]); (try rewrite [PySem.W.Fast.te4857012375875476094]); kernel_rfl
  · (try rewrite [PySem.W.R.allR_eq]); (try rewrite [PySem.W.R.elemR_eq]); (try rewrite [PySem.W.Fast.te3471404346716756564]); (try rewrite [PySem.W.Fast.named_eq]); (try rewrite [PySem.W.Fast.te17119622794617984870]); (try rewrite [PySem.W.Fast.te8326940854005059898]); (try rewrite [PySem.W.Fast.te8179353310426384613]); (try rewrite [PySem.W.Fast.te10501279942588096481]); (try rewrite [PySem.W.Fast.te9558739934217749035]); (try rewrite [PySem.W.Fast.te16286561074155671207]); (try rewrite [PySem.W.Fast.te6984425678791042302]); (try rewrite [PySem.W.Fast.te797321630700447069]); (try rewrite [PySem.W.Fast.te12879404354523853263]); (try rewrite [PySem.W.Fast.te482687673346738481]); (try rewrite [PySem.W.Fast.te18344453789297297638]); (try rewrite [PySem.W.Fast.te14412699480532031325]); (try rewrite [PySem.W.Fast.te9807087744658564304]); (try rewrite [PySem.W.Fast.te12862048085361865435]); (try rewrite [PySem.W.Fast.te11788848310118352699]); (try rewrite [PySem.W.Fast.te4857012375875476094]); kernel_rfl
  · (try rewrite [PySem.W.R.allR_eq]); (try rewrite [PySem.W.R.elemR_eq]); (try rewrite [PySem.W.Fast.te3471404346716756564]); (try rewrite [PySem.W.Fast.named_eq]); (try rewrite [PySem.W.Fast.te17119622794617984870]); (try rewrite [PySem.W.Fast.te8326940854005059898]); (try rewrite [PySem.W.Fast.te8179353310426384613]); (try rewrite [PySem.W.Fast.te10501279942588096481]); (try rewrite [PySem.W.Fast.te9558739934217749035]); (try rewrite [PySem.W.Fast.te16286561074155671207]); (try rewrite [PySem.W.Fast.te6984425678791042302]); (try rewrite [PySem.W.Fast.te797321630700447069]); (try rewrite [PySem.W.Fast.te12879404354523853263]); (try rewrite [PySem.W.Fast.te482687673346738481]); (try rewrite [PySem.W.Fast.te18344453789297297638]); (try rewrite [PySem.W.Fast.te14412699480532031325]); (try rewrite [PySem.W.Fast.te9807087744658564304]); (try rewrite [PySem.W.Fast.te12862048085361865435]); (try rewrite [PySem.W.Fast.te11788848310118352699]); (try rewrite [PySem.W.Fast.te4857012375875476094]); kernel_rfl
  · (try rewrite [PySem.W.R.allR_eq]); (try rewrite [PySem.W.R.elemR_eq]); (try rewrite [PySem.W.Fast.te3471404346716756564]); (try rewrite [PySem.W.Fast.named_eq]); (try rewrite [PySem.W.Fast.te17119622794617984870]); (try rewrite [PySem.W.Fast.te8326940854005059898]); (try rewrite [PySem.W.Fast.te8179353310426384613]); (try rewrite [PySem.W.Fast.te10501279942588096481]); (try rewrite [PySem.W.Fast.te9558739934217749035]); (try rewrite [PySem.W.Fast.te16286561074155671207]); (try rewrite [PySem.W.Fast.te6984425678791042302]); (try rewrite [PySem.W.Fast.te797321630700447069]); (try rewrite [PySem.W.Fast.te12879404354523853263]); (try rewrite [PySem.W.Fast.te482687673346738481]); (try rewrite [PySem.W.Fast.te18344453789297297638]); (try rewrite [PySem.W.Fast.te14412699480532031325]); (try rewrite [PySem.W.Fast.te9807087744658564304]); (try rewrite [PySem.W.Fast.te12862048085361865435]); (try rewrite [PySem.W.Fast.te11788848310118352699]); (try rewrite [PySem.W.Fast.te4857012375875476094]); kernel_rfl
  · (try rewrite [PySem.W.R.allR_eq]); (try rewrite [PySem.W.R.elemR_eq]); (try rewrite [PySem.W.Fast.te3471404346716756564]); (try rewrite [PySem.W.Fast.named_eq]); (try rewrite [PySem.W.Fast.te17119622794617984870]); (try rewrite [PySem.W.Fast.te8326940854005059898]); (try rewrite [PySem.W.Fast.te8179353310426384613]); (try rewrite [PySem.W.Fast.te10501279942588096481]); (try rewrite [PySem.W.Fast.te9558739934217749035]); (try rewrite [PySem.W.Fast.te16286561074155671207]); (try rewrite [PySem.W.Fast.te6984425678791042302]); (try rewrite [PySem.W.Fast.te797321630700447069]); (try rewrite [PySem.W.Fast.te12879404354523853263]); (try rewrite [PySem.W.Fast.te482687673346738481]); (try rewrite [PySem.W.Fast.te18344453789297297638]); (try rewrite [PySem.W.Fast.te14412699480532031325]); (try rewrite [PySem.W.Fast.te9807087744658564304]); (try rewrite [PySem.W.Fast.te12862048085361865435]); (try rewrite [PySem.W.Fast.te11788848310118352699]); (try rewrite [PySem.W.Fast.te4857012375875476094]); kernel_rfl
  · (try rewrite [PySem.W.R.allR_eq]); (try rewrite [PySem.W.R.elemR_eq]); (try rewrite [PySem.W.Fast.te3471404346716756564]); (try rewrite [PySem.W.Fast.named_eq]); (try rewrite [PySem.W.Fast.te17119622794617984870]); (try rewrite [PySem.W.Fast.te8326940854005059898]); (try rewrite [PySem.W.Fast.te8179353310426384613]); (try rewrite [PySem.W.Fast.te10501279942588096481]); (try rewrite [PySem.W.Fast.te9558739934217749035]); (try rewrite [PySem.W.Fast.te16286561074155671207]); (try rewrite [PySem.W.Fast.te6984425678791042302]); (try rewrite [PySem.W.Fast.te797321630700447069]); (try rewrite [PySem.W.Fast.te12879404354523853263]); (try rewrite [PySem.W.Fast.te482687673346738481]); (try rewrite [PySem.W.Fast.te18344453789297297638]); (try rewrite [PySem.W.Fast.te14412699480532031325]); (try rewrite [PySem.W.Fast.te9807087744658564304]); (try rewrite [PySem.W.Fast.te12862048085361865435]); (try rewrite [PySem.W.Fast.te11788848310118352699]); (try rewrite [PySem.W.Fast.te4857012375875476094]); kernel_rfl
  · (try rewrite [PySem.W.R.allR_eq]); (try rewrite [PySem.W.R.elemR_eq]); (try rewrite [PySem.W.Fast.te3471404346716756564]); (try rewrite [PySem.W.Fast.named_eq]); (try rewrite [PySem.W.Fast.te17119622794617984870]); (try rewrite [PySem.W.Fast.te8326940854005059898]); (try rewrite [PySem.W.Fast.te8179353310426384613]); (try rewrite [PySem.W.Fast.te10501279942588096481]); (try rewrite [PySem.W.Fast.te9558739934217749035]); (try rewrite [PySem.W.Fast.te16286561074155671207]); (try rewrite [PySem.W.Fast.te6984425678791042302]); (try rewrite [PySem.W.Fast.te797321630700447069]); (try rewrite [PySem.W.Fast.te12879404354523853263]); (try rewrite [PySem.W.Fast.te482687673346738481]); (try rewrite [PySem.W.Fast.te18344453789297297638]); (try rewrite [PySem.W.Fast.te14412699480532031325]); (try rewrite [PySem.W.Fast.te9807087744658564304]); (try rewrite [PySem.W.Fast.te12862048085361865435]); (try rewrite [PySem.W.Fast.te11788848310118352699]); (try rewrite [PySem.W.Fast.te4857012375875476094]); kernel_rfl
  · (try rewrite [PySem.W.R.allR_eq]); (try rewrite [PySem.W.R.elemR_eq]); (try rewrite [PySem.W.Fast.te3471404346716756564]); (try rewrite [PySem.W.Fast.named_eq]); (try rewrite [PySem.W.Fast.te17119622794617984870]); (try rewrite [PySem.W.Fast.te8326940854005059898]); (try rewrite [PySem.W.Fast.te8179353310426384613]); (try rewrite [PySem.W.Fast.te10501279942588096481]); (try rewrite [PySem.W.Fast.te9558739934217749035]); (try rewrite [PySem.W.Fast.te16286561074155671207]); (try rewrite [PySem.W.Fast.te6984425678791042302]); (try rewrite [PySem.W.Fast.te797321630700447069]); (try rewrite [PySem.W.Fast.te12879404354523853263]); (try rewrite [PySem.W.Fast.te482687673346738481]); (try rewrite [PySem.W.Fast.te18344453789297297638]); (try rewrite [PySem.W.Fast.te14412699480532031325]); (try rewrite [PySem.W.Fast.te9807087744658564304]); (try rewrite [PySem.W.Fast.te12862048085361865435]); (try rewrite [PySem.W.Fast.te11788848310118352699]); (try rewrite [PySem.W.Fast.te4857012375875476094]); kernel_rfl
  · (try rewrite [PySem.W.R.allR_eq]); (try rewrite [PySem.W.R.elemR_eq]); (try rewrite [PySem.W.Fast.te3471404346716756564]); (try rewrite [PySem.W.Fast.named_eq]); (try rewrite [PySem.W.Fast.te17119622794617984870]); (try rewrite [PySem.W.Fast.te8326940854005059898]); (try rewrite [PySem.W.Fast.te8179353310426384613]); (try rewrite [PySem.W.Fast.te10501279942588096481]); (try rewrite [PySem.W.Fast.te9558739934217749035]); (try rewrite [PySem.W.Fast.te16286561074155671207]); (try rewrite [PySem.W.Fast.te6984425678791042302]); (try rewrite [PySem.W.Fast.te797321630700447069]); (try rewrite [PySem.W.Fast.te12879404354523853263]); (try rewrite [PySem.W.Fast.te482687673346738481]); (try rewrite [PySem.W.Fast.te18344453789297297638]); (try rewrite [PySem.W.Fast.te14412699480532031325]); (try rewrite [PySem.W.Fast.te9807087744658564304]); (try rewrite [PySem.W.Fast.te12862048085361865435]); (try rewrite [PySem.W.Fast.te11788848310118352699]); (try rewrite [PySem.W.Fast.te4857012375875476094]); kernel_rfl
  · (try rewrite [PySem.W.R.allR_eq]); (try rewrite [PySem.W.R.elemR_eq]); (try rewrite [PySem.W.Fast.te3471404346716756564]); (try rewrite [PySem.W.Fast.named_eq]); (try rewrite [PySem.W.Fast.te17119622794617984870]); (try rewrite [PySem.W.Fast.te8326940854005059898]); (try rewrite [PySem.W.Fast.te8179353310426384613]); (try rewrite [PySem.W.Fast.te10501279942588096481]); (try rewrite [PySem.W.Fast.te9558739934217749035]); (try rewrite [PySem.W.Fast.te16286561074155671207]); (try rewrite [PySem.W.Fast.te6984425678791042302]); (try rewrite [PySem.W.Fast.te797321630700447069]); (try rewrite [PySem.W.Fast.te12879404354523853263]); (try rewrite [PySem.W.Fast.te482687673346738481]); (try rewrite [PySem.W.Fast.te18344453789297297638]); (try rewrite [PySem.W.Fast.te14412699480532031325]); (try rewrite [PySem.W.Fast.te9807087744658564304]); (try rewrite [PySem.W.Fast.te12862048085361865435]); (try rewrite [PySem.W.Fast.te11788848310118352699]); (try rewrite [PySem.W.Fast.te4857012375875476094]); kernel_rfl
  · (try rewrite [PySem.W.R.allR_eq]); (try rewrite [PySem.W.R.elemR_eq]); (try rewrite [PySem.W.Fast.te3471404346716756564]); (try rewrite [PySem.W.Fast.named_eq]); (try rewrite [PySem.W.Fast.te17119622794617984870]); (try rewrite [PySem.W.Fast.te8326940854005059898]); (try rewrite [PySem.W.Fast.te8179353310426384613]); (try rewrite [PySem.W.Fast.te10501279942588096481]); (try rewrite [PySem.W.Fast.te9558739934217749035]); (try rewrite [PySem.W.Fast.te16286561074155671207]); (try rewrite [PySem.W.Fast.te6984425678791042302]); (try rewrite [PySem.W.Fast.te797321630700447069]); (try rewrite [PySem.W.Fast.te12879404354523853263]); (try rewrite [PySem.W.Fast.te482687673346738481]); (try rewrite [PySem.W.Fast.te18344453789297297638]); (try rewrite [PySem.W.Fast.te14412699480532031325]); (try rewrite [PySem.W.Fast.te9807087744658564304]); (try rewrite [PySem.W.Fast.te12862048085361865435]); (try rewrite [PySem.W.Fast.te11788848310118352699]); (try rewrite [PySem.W.Fast.te4857012375875476094]); kernel_rfl
  · (try rewrite [PySem.W.R.allR_eq]); (try rewrite [PySem.W.R.elemR_eq]); (try rewrite [PySem.W.Fast.te3471404346716756564]); (try rewrite [PySem.W.Fast.named_eq]); (try rewrite [PySem.W.Fast.te17119622794617984870]); (try rewrite [PySem.W.Fast.te8326940854005059898]); (try rewrite [PySem.W.Fast.te8179353310426384613]); (try rewrite [PySem.W.Fast.te10501279942588096481]); (try rewrite [PySem.W.Fast.te9558739934217749035]); (try rewrite [PySem.W.Fast.te16286561074155671207]); (try rewrite [PySem.W.Fast.te6984425678791042302]); (try rewrite [PySem.W.Fast.te797321630700447069]); (try rewrite [PySem.W.Fast.te12879404354523853263]); (try rewrite [PySem.W.Fast.te482687673346738481]); (try rewrite [PySem.W.Fast.te18344453789297297638]); (try rewrite [PySem.W.Fast.te14412699480532031325]); (try rewrite [PySem.W.Fast.te9807087744658564304]); (try rewrite [PySem.W.Fast.te12862048085361865435]); (try rewrite [PySem.W.Fast.te11788848310118352699]); (try rewrite [PySem.W.Fast.te4857012375875476094]); kernel_rfl
  · (try rewrite [PySem.W.R.allR_eq]); (try rewrite [PySem.W.R.elemR_eq]); (try rewrite [PySem.W.Fast.te3471404346716756564]); (try rewrite [PySem.W.Fast.named_eq]); (try rewrite [PySem.W.Fast.te17119622794617984870]); (try rewrite [PySem.W.Fast.te8326940854005059898]); (try rewrite [PySem.W.Fast.te8179353310426384613]); (try rewrite [PySem.W.Fast.te10501279942588096481]); (try rewrite [PySem.W.Fast.te9558739934217749035]); (try rewrite [PySem.W.Fast.te16286561074155671207]); (try rewrite [PySem.W.Fast.te6984425678791042302]); (try rewrite [PySem.W.Fast.te797321630700447069]); (try rewrite [PySem.W.Fast.te12879404354523853263]); (try rewrite [PySem.W.Fast.te482687673346738481]); (try rewrite [PySem.W.Fast.te18344453789297297638]); (try rewrite [PySem.W.Fast.te14412699480532031325]); (try rewrite [PySem.W.Fast.te9807087744658564304]); (try rewrite [PySem.W.Fast.te12862048085361865435]); (try rewrite [PySem.W.Fast.te11788848310118352699]); (try rewrite [PySem.W.Fast.te4857012375875476094]); kernel_rfl
  · (try rewrite [PySem.W.R.allR_eq]); (try rewrite [PySem.W.R.elemR_eq]); (try rewrite [PySem.W.Fast.te3471404346716756564]); (try rewrite [PySem.W.Fast.named_eq]); (try rewrite [PySem.W.Fast.te17119622794617984870]); (try rewrite [PySem.W.Fast.te8326940854005059898]); (try rewrite [PySem.W.Fast.te8179353310426384613]); (try rewrite [PySem.W.Fast.te10501279942588096481]); (try rewrite [PySem.W.Fast.te9558739934217749035]); (try rewrite [PySem.W.Fast.te16286561074155671207]); (try rewrite [PySem.W.Fast.te6984425678791042302]); (try rewrite [PySem.W.Fast.te797321630700447069]); (try rewrite [PySem.W.Fast.te12879404354523853263]); (try rewrite [PySem.W.Fast.te482687673346738481]); (try rewrite [PySem.W.Fast.te18344453789297297638]); (try rewrite [PySem.W.Fast.te14412699480532031325]); (try rewrite [PySem.W.Fast.te9807087744658564304]); (try rewrite [PySem.W.Fast.te12862048085361865435]); (try rewrite [PySem.W.Fast.te11788848310118352699]); (try rewrite [PySem.W.Fast.te4857012375875476094]); kernel_rfl
  · exact above
  · (try rewrite [PySem.W.R.allR_eq]); (try rewrite [PySem.W.R.elemR_eq]); (try rewrite [PySem.W.Fast.te3471404346716756564]); (try rewrite [PySem.W.Fast.named_eq]); (try rewrite [PySem.W.Fast.te17119622794617984870]); (try rewrite [PySem.W.Fast.te8326940854005059898]); (try rewrite [PySem.W.Fast.te8179353310426384613]); (try rewrite [PySem.W.Fast.te10501279942588096481]); (try rewrite [PySem.W.Fast.te9558739934217749035]); (try rewrite [PySem.W.Fast.te16286561074155671207]); (try rewrite [PySem.W.Fast.te6984425678791042302]); (try rewrite [PySem.W.Fast.te797321630700447069]); (try rewrite [PySem.W.Fast.te12879404354523853263]); (try rewrite [PySem.W.Fast.te482687673346738481]); (try rewrite [PySem.W.Fast.te18344453789297297638]); (try rewrite [PySem.W.Fast.te14412699480532031325]); (try rewrite [PySem.W.Fast.te9807087744658564304]); (try rewrite [PySem.W.Fast.te12862048085361865435]); (try rewrite [PySem.W.Fast.te11788848310118352699]); (try rewrite [PySem.W.Fast.te4857012375875476094]); kernel_rfl
end Mine.Top
end
section
open PySem PySem.W PySem.Calls PyProof.Rows
set_option maxRecDepth 100000
set_option maxHeartbeats 0
namespace Mine.Top
open PySem.Challenge (pw_te0025_01 rw_te0025_01)
noncomputable def noImpH (f : List Stmt → Bool) (hs : List ExceptHandler) : Bool :=
  List.rec true (fun x _ r => ExceptHandler.casesOn (motive_4 := fun _ => Bool) x (fun _ _ b _ => f b && r)) hs
noncomputable def noImpS (f : List Stmt → Bool) (st : Stmt) : Bool :=
  Stmt.casesOn (motive_2 := fun _ => Bool) st (fun _ _ b _ _ _ _ _ _ _ => f b) (fun _ _ _ _ _ _ _ _ _ _ => false) (fun _ _ _ b _ _ _ _ _ _ _ => f b)
    (fun _ _ => true) (fun _ _ => false) (fun _ _ _ => true) (fun _ _ _ _ _ _ _ => false) (fun _ _ _ _ => true) (fun _ _ _ _ _ => false)
    (fun _ _ b o _ => f b && f o) (fun _ _ _ _ _ => false) (fun _ b o _ => f b && f o) (fun _ b o _ => f b && f o)
    (fun _ _ _ => false) (fun _ _ _ => false) (fun _ _ _ => false) (fun _ _ _ => true) (fun b hs o g _ => ((f b && noImpH f hs) && f o) && f g)
    (fun _ _ _ _ _ => false) (fun _ _ _ => true) (fun _ _ => false) (fun _ _ _ _ => false) (fun _ _ => false) (fun _ _ => false)
    (fun _ _ => true) (fun _ => true) (fun _ => true) (fun _ => true)
noncomputable def noImp (k : Nat) : List Stmt → Bool :=
  Nat.rec (fun _ => false) (fun _ f ss => List.rec true (fun st _ r => noImpS f st && r) ss) k
theorem two {a b : Bool} (h : (a && b) = true) : a = true ∧ b = true := by rwa [Bool.and_eq_true] at h
theorem two_or {a b : Bool} (h : a = false) (k : b = false) : (a || b) = false := by rw [h, k]; rfl
theorem bi_nil : bearImports [] = false := by first | rfl | simp [bearImports]
theorem bi_cons (st : Stmt) (rest : List Stmt) : bearImports (st :: rest) = (bearsImport st || bearImports rest) := by first | rfl | simp [bearImports]
theorem bh_nil : bearImportsH [] = false := by first | rfl | simp [bearImportsH]
theorem bh_cons (a : Option Expr) (n : Option Str) (b : List Stmt) (p : Pos) (r : List ExceptHandler) : bearImportsH (.ExceptHandler a n b p :: r) = (bearImports b || bearImportsH r) := by first | rfl | simp [bearImportsH]
section
variable {f : List Stmt → Bool} (ih : ∀ b, f b = true → bearImports b = false)
include ih
theorem noImpH_ok (hs : List ExceptHandler) : noImpH f hs = true → bearImportsH hs = false :=
  List.rec (motive := fun hs => noImpH f hs = true → bearImportsH hs = false) (fun _ => bh_nil)
    (fun x r k => ExceptHandler.casesOn (motive_4 := fun x => noImpH f (x :: r) = true → bearImportsH (x :: r) = false) x fun a n b p h => (bh_cons a n b p r).trans (two_or (ih b (two (a := f b) h).1) (k (two (a := f b) h).2))) hs
theorem noImpS_ok (st : Stmt) : noImpS f st = true → bearsImport st = false :=
  Stmt.casesOn (motive_2 := fun st => noImpS f st = true → bearsImport st = false) st
    (fun _ _ b _ _ _ _ _ _ _ h => (by have e := ih b h; first | exact e | (simp only [bearsImport]; exact e))) (fun _ _ _ _ _ _ _ _ _ _ h => absurd h Bool.false_ne_true) (fun _ _ _ b _ _ _ _ _ _ _ h => (by have e := ih b h; first | exact e | (simp only [bearsImport]; exact e)))
    (fun _ _ _ => (by first | rfl | simp [bearsImport])) (fun _ _ h => absurd h Bool.false_ne_true) (fun _ _ _ _ => (by first | rfl | simp [bearsImport])) (fun _ _ _ _ _ _ _ h => absurd h Bool.false_ne_true) (fun _ _ _ _ _ => (by first | rfl | simp [bearsImport])) (fun _ _ _ _ _ h => absurd h Bool.false_ne_true)
    (fun _ _ b o _ h => (by have e := two_or (ih b (two (a := f b) h).1) (ih o (two (a := f b) h).2); first | exact e | (simp only [bearsImport]; exact e))) (fun _ _ _ _ _ h => absurd h Bool.false_ne_true) (fun _ b o _ h => (by have e := two_or (ih b (two (a := f b) h).1) (ih o (two (a := f b) h).2); first | exact e | (simp only [bearsImport]; exact e))) (fun _ b o _ h => (by have e := two_or (ih b (two (a := f b) h).1) (ih o (two (a := f b) h).2); first | exact e | (simp only [bearsImport]; exact e)))
    (fun _ _ _ h => absurd h Bool.false_ne_true) (fun _ _ _ h => absurd h Bool.false_ne_true) (fun _ _ _ h => absurd h Bool.false_ne_true) (fun _ _ _ _ => (by first | rfl | simp [bearsImport]))
    (fun b hs o g _ h => (by have e := two_or (two_or (two_or (ih b (two (a := f b) (two (two h).1).1).1) (noImpH_ok ih hs (two (a := f b) (two (two h).1).1).2)) (ih o (two (two h).1).2)) (ih g (two h).2); first | exact e | (simp only [bearsImport]; exact e)))
    (fun _ _ _ _ _ h => absurd h Bool.false_ne_true) (fun _ _ _ _ => (by first | rfl | simp [bearsImport])) (fun _ _ h => absurd h Bool.false_ne_true) (fun _ _ _ _ h => absurd h Bool.false_ne_true) (fun _ _ h => absurd h Bool.false_ne_true) (fun _ _ h => absurd h Bool.false_ne_true)
    (fun _ _ _ => (by first | rfl | simp [bearsImport])) (fun _ _ => (by first | rfl | simp [bearsImport])) (fun _ _ => (by first | rfl | simp [bearsImport])) (fun _ _ => (by first | rfl | simp [bearsImport]))
end
theorem noImp_ok (k : Nat) : ∀ b : List Stmt, noImp k b = true → bearImports b = false :=
  Nat.rec (motive := fun k => ∀ b : List Stmt, noImp k b = true → bearImports b = false) (fun _ h => absurd h Bool.false_ne_true)
    (fun k ih ss => List.rec (motive := fun ss => noImp (k + 1) ss = true → bearImports ss = false) (fun _ => bi_nil)
      (fun st r j h => (bi_cons st r).trans (two_or (noImpS_ok ih st (two (a := noImpS (noImp k) st) h).1) (j (two (a := noImpS (noImp k) st) h).2))) ss) k
theorem bear_k : noImp 200 (behindTheImports pw_te0025_01) = true := by kernel_rfl
theorem bear : (!bearImports (behindTheImports rw_te0025_01.row.prog)) = true := by
  show (!bearImports (behindTheImports pw_te0025_01)) = true
  rw [noImp_ok _ _ bear_k]; rfl
theorem okq : (chainsOk q && opensWell rw_te0025_01.row.prog && (frees rw_te0025_01.row.toRowW && rw_te0025_01.row.within.isEmpty)) = true :=
  look_both (look_both (by kernel_rfl) (look_both (by kernel_rfl) bear)) (by kernel_rfl)
noncomputable def lawD : DefRec := ⟨"law", fA (tS 30), fB (tS 30), fC (tS 30), ⟨1220, 0, 1256, 81⟩⟩
theorem kAs_eq : ∀ P, kAs = (KW P).map (·.1) := fun P => by kernel_rfl
theorem law_def : defOf q rw_te0025_01.row.name = some (lawD, []) := by kernel_rfl
theorem law_the : rw_te0025_01.row.prog.theDef rw_te0025_01.row.name = some (lawD.params, lawD.body, lawD.scope) := by kernel_rfl
theorem law_kw : kwWritten? lawD.params.kwonlyargs lawD.params.kw_defaults = some [] := by kernel_rfl
theorem whole_k : (TablesWhole.Alg.all (⟨fun sc n _ => PySem.W.Fast.tw15985051520779696433 sc n, fun _ _ _ ok => ok, fun _ => true, true, false, fun a b => a && b⟩ : TablesWhole.Alg Bool) [PySem.W.Fast.tw6116379765354995101 (⟨fun sc n _ => PySem.W.Fast.tw15985051520779696433 sc n, fun _ _ _ ok => ok, fun _ => true, true, false, fun a b => a && b⟩ : TablesWhole.Alg Bool) pw_te0025_01.main, true, true, true]) = true := by kernel_rfl
theorem whole : pw_te0025_01.tablesWhole = true := by
  unfold Program.tablesWhole TablesWhole.wProgram TablesWhole.holds
  rewrite [PySem.W.Fast.te15985051520779696433, PySem.W.Fast.te6116379765354995101]
  exact whole_k
theorem bare : rw_te0025_01.row.prog.bare := ⟨rfl, rfl, rfl, rfl, rfl, whole⟩
theorem promised : rw_te0025_01.row.toRowW.promised := by w_on; w_witness2
noncomputable abbrev Walk : Prop := WalkO q loose (fun _ _ => True ∧ True) (fun w h => (KW w.params).In h) rw_te0025_01.row.toRowW lawD [] fun f vs => PySem.call f vs
theorem hd (walk : Walk) : rw_te0025_01.Holds :=
  holds_law said fun _ => PySem.W.holds_open (q := q) (loose := loose) (Xt := fun _ => true) (XP := fun _ _ => True ∧ True) (Yf := fun s => kAs.map s.heap.get?) (Ya := fun w => (KW w.params).map fun p : Addr × Obj => some p.2)
    (YP := fun w h => (KW w.params).In h) (d := lawD) (kwd := []) (N := 16718) left (fun w s x => Frag.in_of (kAs_eq w.params) x) (fun _ _ _ x k => x.keeps k) (fun _ _ => ⟨trivial, trivial⟩) (fun _ _ _ x _ => x) law_def law_the law_kw (fun _ _ => recFacts_nil rfl) rfl row_said okq bare promised walk
end Mine.Top
end
section
open PySem PySem.W PySem.Calls PyProof.Rows PySem.Spec
namespace Mine
theorem runs_toks {M : Model} {Γ : PySem.Ctx} {p : Pos} {t : Sem Fin} {fs : List Frame} {s s' : Shared} {e : End} (h : Runs M Γ p t fs s e s') : s.toks ≤ s'.toks := by
  induction h with
  | done | raise | yield => exact Nat.le_refl _
  | fresh _ ih => exact Nat.le_trans (Nat.le_succ _) ih
  | again _ _ ih | rule _ ih | «at» _ ih | load _ _ ih | update _ _ ih | loadIfAlive _ ih | point _ ih | alloc _ ih | ask _ ih | choose _ _ ih | os _ ih | handled _ ih | genState _ _ ih | stack _ ih | thread _ ih | newGen _ ih => exact ih
  | call _ _ a b => exact Nat.le_trans a b
  | callSusp _ ih => exact ih
  | resumeFresh _ _ _ _ a b => exact Nat.le_trans a b
  | resumeSuspended _ _ _ _ a b => exact Nat.le_trans a b
  | resumeJustStarted _ _ _ ih => exact ih
  | resumeThrowFresh _ _ ih | resumeRunning _ _ ih | resumeFinished _ _ ih => exact ih
  | segRet _ _ a b | segGen _ _ a b => exact Nat.le_trans a b
  | segSuspOut _ _ ih => exact ih
  | segSuspGen _ _ _ _ a b => exact Nat.le_trans a b

theorem wakes_toks {M : Model} {Γ : PySem.Ctx} {p : Pos} {g : Nat} {r : Resume} {s s' : Shared} {res : GenResult} (h : Wakes M Γ p g r s res s') : s.toks ≤ s'.toks := by
  unfold Wakes at h
  split at h
  · exact h.elim
  · split at h
    · obtain ⟨e₁, s₁, h, _, _, rfl⟩ := h; have q := runs_toks h; exact q
    · obtain ⟨_, rfl⟩ := h; exact Nat.le_refl _
    · obtain ⟨_, rfl⟩ := h; exact Nat.le_refl _
  · obtain ⟨e₁, s₁, h, _, _, rfl⟩ := h; have q := runs_toks h; exact q
  · obtain ⟨_, rfl⟩ := h; exact Nat.le_refl _
  · obtain ⟨_, rfl⟩ := h; exact Nat.le_refl _

theorem wp_toks {α : Type} {M : Model} {Γ : PySem.Ctx} {n : Nat} (t : Sem α) : ∀ {Q : α → Pos → Shared → Prop} {E : Value → Pos → Shared → Prop} {p : Pos} {s : Shared}, n ≤ s.toks → Sem.wp M Γ t Q E p s →
    Sem.wp M Γ t (fun a p' s' => n ≤ s'.toks ∧ Q a p' s') (fun e p' s' => n ≤ s'.toks ∧ E e p' s') p s := by
  induction t with
  | pure a => intro Q E p s hn h; simp only [Sem.wp] at h ⊢; exact ⟨hn, h⟩
  | raise e => intro Q E p s hn h; simp only [Sem.wp] at h ⊢; exact ⟨hn, h⟩
  | call c hd g l k ih =>
    intro Q E p s hn h
    simp only [Sem.wp, wpCode] at h ⊢
    obtain ⟨r, s', hr, h⟩ := h
    exact ⟨r, s', hr, ih _ (Nat.le_trans hn (runs_toks hr)) h⟩
  | resume g r l k ih =>
    intro Q E p s hn h
    simp only [Sem.wp] at h ⊢
    obtain ⟨r, s', hr, h⟩ := h
    exact ⟨r, s', hr, ih _ (Nat.le_trans hn (wakes_toks hr)) h⟩
  | fresh k ih => intro Q E p s hn h; simp only [Sem.wp] at h ⊢; exact ih _ (Nat.le_trans hn (Nat.le_succ _)) h
  | load a part k ih => intro Q E p s hn h; simp only [Sem.wp] at h ⊢; obtain ⟨o, e, h⟩ := h; exact ⟨o, e, ih _ hn h⟩
  | genState g k ih => intro Q E p s hn h; simp only [Sem.wp] at h ⊢; obtain ⟨o, e, h⟩ := h; exact ⟨o, e, ih _ hn h⟩
  | update a part f k ih => intro Q E p s hn h; simp only [Sem.wp] at h ⊢; exact ⟨h.1, ih _ hn h.2⟩
  | choose src n k ih => intro Q E p s hn h; simp only [Sem.wp] at h ⊢; exact ⟨h.1, ih _ hn h.2⟩
  | _ => 
    intro Q E p s hn h
    (try simp only [Sem.wp] at h ⊢)
    all_goals first | done | exact h.elim | (rename_i ih; exact ih _ hn h)

/-- the walk never hands a token back: behind any tree there are at least as many as ahead of it -/
theorem wpAny_toks {α : Type} {M : Model} {A : Around} {t : Sem α} {Q : α → Shared → Prop} {E : Value → Shared → Prop} {s : Shared} {n : Nat} (hn : n ≤ s.toks)
    (h : wpAny M A t (fun a s' => n ≤ s'.toks → Q a s') (fun e s' => n ≤ s'.toks → E e s') s) : wpAny M A t Q E s := fun Γ p hΓ => by
  exact Sem.wp_mono M Γ t (fun a _ s h => h.2 h.1) (fun e _ s h => h.2 h.1) p s (wp_toks t hn (h Γ p hΓ))
end Mine
end
section
open PySem PySem.W PySem.Calls PyProof.Rows PySem.Spec
namespace Mine
open Mine.Top (KW)
open PySem.Challenge (pw_te0025_01 rw_te0025_01)

/-- all that stood in h and lies off the list stands in h' -/
noncomputable def Keep (h h' : Heap) (foot : List Addr) : Prop := ∀ b o, h.get? b = some o → b ∉ foot → h'.get? b = some o

/-- the walk stops here: a call, a loop: it is met by hand -/
noncomputable def Stop (P : Prop) : Prop := P
theorem stop {P : Prop} (h : Stop P) : P := h

noncomputable abbrev TopQ (mean : ExcName → Option Value) (mg mb : Str → Option Value) (h : Heap) : Prop := Top Top.q (looseW Top.q Top.loose) mean mg mb h

/-- the end of a def's body: what is handed back and the objects it may turn -/
noncomputable def Done (g : Heap) (post : Value → List (Addr × Obj) → Prop) (s : Shared) (v : Value) (s' : Shared) : Prop :=
  ∃ foot' h' tk' L' m', s' = { s with heap := h', toks := tk' } ∧ Fr g L' h' m' ∧ News g L' h' foot' ∧ post v foot'

/-- a contract: f, called with these arguments over these objects, hands back what post says; all else stands -/
noncomputable def Ctr (w : World) (f : Addr) (args : List Value) (D : Nat) (foot : List (Addr × Obj)) (post : Value → List (Addr × Obj) → Prop) : Prop :=
  ∀ (dp un : Nat) (gd : Option (List Code)) (cn : Str) (cs : Scope) (a : Addr) (ccd : Value) (cl : List (Str × Addr)) (outer : List Env) (A₀ : Around) (base h₀ : Heap) (L : Addr) (m : Str → Option Value) (s : Shared) (mean : ExcName → Option Value) (mg mb : Str → Option Value)
    (Q E : Value → Shared → Prop),
    Below A₀ base outer h₀ → Fr h₀ L s.heap m → (KW w.params).In h₀ → News h₀ L s.heap foot → TopQ mean mg mb h₀ → cs.kind = .function → dp + D < recursionLimit → un + 8 * D < cLine → 0 < s.toks →
    (∀ v foot' h' tk', post v foot' → Fr h₀ L h' m → News h₀ L h' foot' → Keep s.heap h' (foot.map (·.1)) → Q v { s with heap := h', toks := tk' }) →
    wpAny (model pw_te0025_01 w) (ktrTop dp un gd cn cs L a ccd cl outer) (call (.ref f) args) Q E s

/-- the same contract, for the code of a call (a bound method's call comes to it) -/
noncomputable def CtrC (w : World) (f : Addr) (args : List Value) (D : Nat) (foot : List (Addr × Obj)) (post : Value → List (Addr × Obj) → Prop) : Prop :=
  ∀ (dp un : Nat) (gd : Option (List Code)) (cn : Str) (cs : Scope) (a : Addr) (ccd : Value) (cl : List (Str × Addr)) (outer : List Env) (A₀ : Around) (base h₀ : Heap) (L : Addr) (m : Str → Option Value) (s : Shared) (mean : ExcName → Option Value) (mg mb : Str → Option Value)
    (R : Result → Shared → Prop),
    Below A₀ base outer h₀ → Fr h₀ L s.heap m → (KW w.params).In h₀ → News h₀ L s.heap foot → TopQ mean mg mb h₀ → cs.kind = .function → dp + D < recursionLimit → un + 8 * D < cLine → 0 < s.toks →
    (∀ v foot' h' tk', post v foot' → Fr h₀ L h' m → News h₀ L h' foot' → Keep s.heap h' (foot.map (·.1)) → R (.ok (.ret v)) { s with heap := h', toks := tk' }) →
    codeAny (model pw_te0025_01 w) (ktrTop dp un gd cn cs L a ccd cl outer) (.call (.ref f) ⟨args, []⟩) R s

theorem enterC {w : World} {dp un : Nat} {gd : Option (List Code)} {cn : Str} {cs : Scope} {a : Addr} {ccd : Value} {cl : List (Str × Addr)} {outer : List Env} {A₀ : Around} {base h₀ : Heap} {L : Addr} {m : Str → Option Value} {s : Shared} {mean : ExcName → Option Value} {mg mb : Str → Option Value}
    {R : Result → Shared → Prop} {foot : List (Addr × Obj)} {post : Value → List (Addr × Obj) → Prop} {f : Addr} {args : List Value}
    {name qual : Str} {po pa ko : List Arg} {va vk : Option Arg} {kd : List (Option PySem.Expr)} {ds : List PySem.Expr} {st₀ : Stmt} {sts : List Stmt} {names : List (Str × NameKind)} {more : List (Str × Const)} {dV kV doc pm cdv ct oc : Value} {an od : Option Addr} {osl : Array (Option Value)} {binds : List (Str × Value)}
    (B : Below A₀ base outer h₀) (F : Fr h₀ L s.heap m) (X : (KW w.params).In h₀) (N : News h₀ L s.heap foot) (T : TopQ mean mg mb h₀) (hke : cs.kind = .function)
    (ret : ∀ v foot' h' tk', post v foot' → Fr h₀ L h' m → News h₀ L h' foot' → Keep s.heap h' (foot.map (·.1)) → R (.ok (.ret v)) { s with heap := h', toks := tk' })
    (ho : (KW w.params).lookup f = some ⟨oc, od, .func (fnOf name qual ⟨po, pa, va, ko, kd, vk, ds⟩ (st₀ :: sts) ⟨.function, names, false, false, more⟩ dV kV doc pm an cdv ct), osl⟩) (hcd : codeIn (KW w.params) cdv qual = true) (hroom : dp < recursionLimit)
    (hbind : BindsTo s (fnOf name qual ⟨po, pa, va, ko, kd, vk, ds⟩ (st₀ :: sts) ⟨.function, names, false, false, more⟩ dV kV doc pm an cdv ct) ⟨args, []⟩ binds) (hloc : (binds.all fun x => decide (names.lookup x.1 = some .local)) = true)
    (h : ∀ g L' h₁, Fr g L' h₁ (fun y => binds.reverse.lookup y) → News g L' h₁ foot → Below (ktrTop dp un gd cn cs L a ccd cl outer) base (envX cn cs L a ccd cl :: outer) g → (KW w.params).In g → TopQ mean mg mb g → (∀ p ∈ foot, p.1 < L') →
      wpAny (model pw_te0025_01 w) ((ktrTop dp un gd cn cs L a ccd cl outer).deeper (envOf qual ⟨.function, names, false, false, more⟩ L' f cdv)) (execs (st₀ :: sts) (envOf qual ⟨.function, names, false, false, more⟩ L' f cdv))
        (fun fl s' => Done g post s (match fl with | .ret v => v | _ => .none) s') (fun _ _ => False) { s with heap := h₁, toks := s.toks + binds.length })
    (hcell : ∀ x ∈ names, x.2 ≠ .cell) :
    codeAny (model pw_te0025_01 w) (ktrTop dp un gd cn cs L a ccd cl outer) (.call (.ref f) ⟨args, []⟩) R s := by
  have nm : ∀ b o, h₀.get? b = some o → b ∉ foot.map (·.1) := fun b o e q => by
    obtain ⟨p, hp, rfl⟩ := List.mem_map.mp q
    rw [(N p hp).2.2] at e; cases e
  obtain ⟨FG, BG, st, lv⟩ := groundX (A := ktrTop dp un gd cn cs L a ccd cl outer) (env := envX cn cs L a ccd cl) (R := R) B F N rfl rfl hke
  refine codeAny_call_def (fd := fnOf name qual ⟨po, pa, va, ko, kd, vk, ds⟩ (st₀ :: sts) ⟨.function, names, false, false, more⟩ dV kV doc pm an cdv ct) (body := st₀ :: sts) (binds := binds) hroom ((X.keeps F.keep) _ _ ho) rfl (T.nolimit.keeps F.keep) (codeRec_of (X.keeps F.keep) hcd) rfl hbind hcell (fun x hx => of_decide_eq_true (List.all_eq_true.mp hloc x hx)) (fun h₁ hns hk₁ => ?_) rfl rfl rfl
  have FF : Fr (hideAll s.heap (foot.map (·.1))) s.heap.objs.size h₁ (fun y => binds.reverse.lookup y) := ⟨hns, fun b o e => hk₁ b o (of_hideAll _ e), Nat.le_of_eq (hideAll_size _ _)⟩
  have NN : News (hideAll s.heap (foot.map (·.1))) s.heap.objs.size h₁ foot := fun p hp => ⟨hk₁ _ _ (N p hp).1, Nat.ne_of_lt (Heap.lt_size (N p hp).1), hideAll_none _ (List.mem_map_of_mem hp)⟩
  have key : ∀ (v : Value) (s' : Shared), Done (hideAll s.heap (foot.map (·.1))) post s v s' → R (.ok (.ret v)) s' := by
    rintro v s' ⟨foot', h', tk', L', m', rfl, F', N', hp⟩
    exact lv v _ ⟨L', m', foot', F', N', fun F₂ N₂ => ret _ foot' h' tk' hp F₂ N₂ fun b o e nb => F'.keep b o (hideAll_get _ e nb)⟩
  exact wpAny_mono (h _ s.heap.objs.size h₁ FF NN BG (X.keeps st) (T.keeps st) (fun p hp => Heap.lt_size (N p hp).1)) (fun fl s' hd => key _ s' hd) (fun _ _ x => x.elim)

theorem enter {w : World} {dp un : Nat} {gd : Option (List Code)} {cn : Str} {cs : Scope} {a : Addr} {ccd : Value} {cl : List (Str × Addr)} {outer : List Env} {A₀ : Around} {base h₀ : Heap} {L : Addr} {m : Str → Option Value} {s : Shared} {mean : ExcName → Option Value} {mg mb : Str → Option Value}
    {Q E : Value → Shared → Prop} {foot : List (Addr × Obj)} {post : Value → List (Addr × Obj) → Prop} {f : Addr} {args : List Value}
    {name qual : Str} {po pa ko : List Arg} {va vk : Option Arg} {kd : List (Option PySem.Expr)} {ds : List PySem.Expr} {st₀ : Stmt} {sts : List Stmt} {names : List (Str × NameKind)} {more : List (Str × Const)} {dV kV doc pm cdv ct oc : Value} {an od : Option Addr} {osl : Array (Option Value)} {binds : List (Str × Value)}
    (B : Below A₀ base outer h₀) (F : Fr h₀ L s.heap m) (X : (KW w.params).In h₀) (N : News h₀ L s.heap foot) (T : TopQ mean mg mb h₀) (hke : cs.kind = .function)
    (ret : ∀ v foot' h' tk', post v foot' → Fr h₀ L h' m → News h₀ L h' foot' → Keep s.heap h' (foot.map (·.1)) → Q v { s with heap := h', toks := tk' })
    (ho : (KW w.params).lookup f = some ⟨oc, od, .func (fnOf name qual ⟨po, pa, va, ko, kd, vk, ds⟩ (st₀ :: sts) ⟨.function, names, false, false, more⟩ dV kV doc pm an cdv ct), osl⟩) (hcd : codeIn (KW w.params) cdv qual = true) (hroom : dp < recursionLimit)
    (hbind : BindsTo s (fnOf name qual ⟨po, pa, va, ko, kd, vk, ds⟩ (st₀ :: sts) ⟨.function, names, false, false, more⟩ dV kV doc pm an cdv ct) ⟨args, []⟩ binds) (hloc : (binds.all fun x => decide (names.lookup x.1 = some .local)) = true)
    (h : ∀ g L' h₁, Fr g L' h₁ (fun y => binds.reverse.lookup y) → News g L' h₁ foot → Below (ktrTop dp un gd cn cs L a ccd cl outer) base (envX cn cs L a ccd cl :: outer) g → (KW w.params).In g → TopQ mean mg mb g → (∀ p ∈ foot, p.1 < L') →
      wpAny (model pw_te0025_01 w) ((ktrTop dp un gd cn cs L a ccd cl outer).deeper (envOf qual ⟨.function, names, false, false, more⟩ L' f cdv)) (execs (st₀ :: sts) (envOf qual ⟨.function, names, false, false, more⟩ L' f cdv))
        (fun fl s' => Done g post s (match fl with | .ret v => v | _ => .none) s') (fun _ _ => False) { s with heap := h₁, toks := s.toks + binds.length })
    (hcell : ∀ x ∈ names, x.2 ≠ .cell) :
    wpAny (model pw_te0025_01 w) (ktrTop dp un gd cn cs L a ccd cl outer) (call (.ref f) args) Q E s :=
  wpAny_call (enterC B F X N T hke ret ho hcd hroom hbind hloc h hcell)

theorem cons_pos {M : Model} {A : Around} {E : Value → Shared → Prop} {s : Shared} {env : Env} {st : Stmt} {rest : List Stmt} {Q : Flow → Shared → Prop} (hp : 0 < s.toks)
    (h : wpAny M A (exec st env) (fun f s' => match f with | .next => 0 < s'.toks → wpAny M A (execs rest env) Q E s' | f => Q f s') E s) : wpAny M A (execs (st :: rest) env) Q E s := by
  refine wpAny_execs_cons (wpAny_toks hp (wpAny_mono h (fun f s' h' n => ?_) (fun _ _ h' _ => h')))
  cases f <;> first | exact h' n | exact h'

theorem cons_gen {M : Model} {A : Around} {E : Value → Shared → Prop} {h : Heap} {g : Array GenState} {d : Drawn} {n : Nat} {os : OsState} {env : Env} {st : Stmt} {rest : List Stmt} {Q : Flow → Shared → Prop} (hp : 0 < n)
    (H : ∀ tk, 0 < tk → wpAny M A (exec st env) (fun f s' => match f with | .next => 0 < s'.toks → wpAny M A (execs rest env) Q E s' | f => Q f s') E ⟨h, g, d, tk, os⟩) : wpAny M A (execs (st :: rest) env) Q E ⟨h, g, d, n, os⟩ :=
  cons_pos hp (H n hp)

theorem cons_flat {M : Model} {A : Around} {E : Value → Shared → Prop} {h : Heap} {g : Array GenState} {d : Drawn} {n : Nat} {os : OsState} {env : Env} {st : Stmt} {rest : List Stmt} {Q : Flow → Shared → Prop} (hp : 0 < n)
    (H : wpAny M A (exec st env) (fun f s' => match f with | .next => 0 < s'.toks → wpAny M A (execs rest env) Q E s' | f => Q f s') E ⟨h, g, d, n, os⟩) : wpAny M A (execs (st :: rest) env) Q E ⟨h, g, d, n, os⟩ :=
  cons_pos hp H
theorem cons_deep {M : Model} {A : Around} {E : Value → Shared → Prop} {h : Heap} {g : Array GenState} {d : Drawn} {n : Nat} {os : OsState} {env : Env} {st : Stmt} {rest : List Stmt} {Q : Flow → Shared → Prop}
    (H : ∀ tk, 0 < tk → wpAny M A (exec st env) (fun f s' => match f with | .next => 0 < s'.toks → wpAny M A (execs rest env) Q E s' | f => Q f s') E ⟨h, g, d, tk, os⟩) : wpAny M A (execs (st :: rest) env) Q E ⟨h, g, d, n + 1 + 1 + 1 + 1 + 1 + 1 + 1 + 1, os⟩ :=
  cons_pos (Nat.succ_pos _) (H _ (Nat.succ_pos _))
theorem cons_len {α : Type} {l : List α} {M : Model} {A : Around} {E : Value → Shared → Prop} {h : Heap} {g : Array GenState} {d : Drawn} {n : Nat} {os : OsState} {env : Env} {st : Stmt} {rest : List Stmt} {Q : Flow → Shared → Prop} (hp : 0 < n + l.length)
    (H : ∀ tk, 0 < tk → wpAny M A (exec st env) (fun f s' => match f with | .next => 0 < s'.toks → wpAny M A (execs rest env) Q E s' | f => Q f s') E ⟨h, g, d, tk, os⟩) : wpAny M A (execs (st :: rest) env) Q E ⟨h, g, d, n + l.length, os⟩ :=
  cons_pos hp (H _ hp)
theorem cons_one {M : Model} {A : Around} {E : Value → Shared → Prop} {h : Heap} {g : Array GenState} {d : Drawn} {n : Nat} {os : OsState} {env : Env} {st : Stmt} {rest : List Stmt} {Q : Flow → Shared → Prop}
    (H : ∀ tk, 0 < tk → wpAny M A (exec st env) (fun f s' => match f with | .next => 0 < s'.toks → wpAny M A (execs rest env) Q E s' | f => Q f s') E ⟨h, g, d, tk, os⟩) : wpAny M A (execs (st :: rest) env) Q E ⟨h, g, d, n + 1, os⟩ :=
  cons_pos (Nat.succ_pos _) (H _ (Nat.succ_pos _))
theorem drop_known {n : Nat} {P : Prop} (_ : 0 < n) (p : P) : 0 < n → P := fun _ => p

theorem rm0 {dp D c : Nat} (h : dp + D < c) : dp < c := Nat.lt_of_le_of_lt (Nat.le_add_right _ _) h
theorem rm1 {dp D d c : Nat} (h : dp + D < c) (hd : 1 + d ≤ D) : dp + 1 + d < c := Nat.lt_of_le_of_lt (by rw [Nat.add_assoc]; exact Nat.add_le_add_left hd dp) h
theorem rm2 {un D d c : Nat} (h : un + 8 * D < c) (hd : 3 + 8 * d ≤ 8 * D) : un + 3 + 8 * d < c := Nat.lt_of_le_of_lt (by rw [Nat.add_assoc]; exact Nat.add_le_add_left hd un) h
theorem fill : (PySem.Challenge.rw_te0025_01 = PySem.Challenge.rw_te0025_01) ∧ KW = KW := by
  k_fill
  exact ⟨rfl, rfl⟩
end Mine
end
section
open PySem PySem.W PySem.Calls PyProof.Rows PySem.Spec PySem.Builtin PySem.Builtin.Str PySem.Builtin.Int
namespace Mine
theorem gives_count4 (x y : Str) (i j : Int) (t u v v' : Tok) : Gives (Builtin.«str.count» ⟨[.str x t, .str y u, .int i v, .int j v'], []⟩) (.int (occurrences x y (fromIndex x.length i) (min (fromIndex x.length j) x.length) (x.length + 1)).length) := by
  show Gives (retInt (occurrences x y (fromIndex x.length i) (min (fromIndex x.length j) x.length) (x.length + 1)).length) _
  exact .of_eq rfl
theorem gives_rfind4 (x y : Str) (i j : Int) (t u v v' : Tok) : Gives (Builtin.«str.rfind» ⟨[.str x t, .str y u, .int i v, .int j v'], []⟩) (.int (match lastOccurrence x y (fromIndex x.length i) (min (fromIndex x.length j) x.length) with | some i => (i : Int) | none => -1)) := by
  show Gives (match lastOccurrence x y (fromIndex x.length i) (min (fromIndex x.length j) x.length) with | some i => retInt i | none => (do rule "str.rfind.not-found"; retInt (-1))) _
  cases lastOccurrence x y (fromIndex x.length i) (min (fromIndex x.length j) x.length) with
  | none => exact .rule (.of_eq rfl)
  | some i => exact .of_eq rfl
theorem gives_index3 (x y : Str) (i : Int) (t u v : Tok) (k : Nat) (rest : List Nat) (h : occurrences x y (fromIndex x.length i) x.length 1 = k :: rest) : Gives (Builtin.«str.index» ⟨[.str x t, .str y u, .int i v], []⟩) (.int k) := by
  show Gives (match occurrences x y (fromIndex x.length i) (min x.length x.length) 1 with | i :: _ => retInt i | [] => (do rule "str.index.not-found"; raiseError "ValueError" "substring not found")) _
  rw [Nat.min_self, h]
  exact .of_eq rfl

theorem noBool_method : typeLookup (.type "method") "__bool__" = pure none := by rw [typeLookup_type, builtinLookup_eq_fast]; kernel_rfl
theorem noLen_method : typeLookup (.type "method") "__len__" = pure none := by rw [typeLookup_type, builtinLookup_eq_fast]; kernel_rfl
theorem truthy_method {M : Model} {A : Around} {E : Value → Shared → Prop} {s : Shared} {L a : Addr} {h₀ : Heap} {news : List (Addr × Obj)} {f self : Value} {Q : Bool → Shared → Prop} (N : News h₀ L s.heap news) (hm : (a, methodObj f self) ∈ news) (h : Q true s) : wpAny M A (truthy (.ref a)) Q E s := by
  have hT : s.TypeIs (.ref a) "method" := ⟨_, (N _ hm).1, rfl⟩
  unfold truthy
  first
    | refine wpAny_bind (wpAny_callSpecial?_none (name := Str.ofString "__bool__") hT noBool_method ?_)
    | refine wpAny_bind (wpAny_pure (wpAny_bind (wpAny_callSpecial?_none (name := Str.ofString "__bool__") hT noBool_method ?_)))
  first
    | refine wpAny_bind (wpAny_specialOf (name := Str.ofString "__len__") hT noLen_method ?_)
    | refine wpAny_bind (wpAny_pure (wpAny_bind (wpAny_specialOf (name := Str.ofString "__len__") hT noLen_method ?_)))
  first
    | exact wpAny_pure h
    | exact wpAny_bind (wpAny_pure (wpAny_pure h))
section
variable {prog : Program} {w : World} {A : Around} {E : Value → Shared → Prop} {s : Shared} {x y : Str} {t u v v' : Tok} {i j : Int} {Q : Value → Shared → Prop}
noncomputable def cnt (x y : Str) (j : Int) : Int := (occurrences x y 0 (min (fromIndex x.length j) x.length) (x.length + 1)).length
noncomputable def rfd (x y : Str) (j : Int) : Int := match lastOccurrence x y 0 (min (fromIndex x.length j) x.length) with | some i => (i : Int) | none => -1
theorem call_count4 (hq : Q (.int (cnt x y j) s.toks) { s with toks := s.toks + 1 }) : wpAny (model prog w) A (call (.builtin "str.count") [.str x t, .str y u, .int 0 v, .int j v']) Q E s :=
  call_gives F.slot_str_count (typeIs_str _ _ _) F.entry_str_count (F.args_str_count_4 _ _ _ _) (gives_count4 x y 0 j t u v v') hq
theorem call_rfind4 (hq : Q (.int (rfd x y j) s.toks) { s with toks := s.toks + 1 }) : wpAny (model prog w) A (call (.builtin "str.rfind") [.str x t, .str y u, .int 0 v, .int j v']) Q E s :=
  call_gives F.slot_str_rfind (typeIs_str _ _ _) F.entry_str_rfind (F.args_str_rfind_4 _ _ _ _) (gives_rfind4 x y 0 j t u v v') hq
theorem call_index3 {k : Nat} {rest : List Nat} (h : occurrences x y (fromIndex x.length i) x.length 1 = k :: rest) (hq : Q (.int k s.toks) { s with toks := s.toks + 1 }) : wpAny (model prog w) A (call (.builtin "str.index") [.str x t, .str y u, .int i v]) Q E s :=
  call_gives F.slot_str_index (typeIs_str _ _ _) F.entry_str_index (F.args_str_index_3 _ _ _) (gives_index3 x y i t u v k rest h) hq
end
end Mine
end
section
open PySem PySem.W PySem.Calls PyProof.Rows PySem.Spec PySem.Builtin PySem.Builtin.Str
namespace Mine
/-- the text of these letters -/
def tx (l : List Nat) : Str := ⟨l.toArray⟩
theorem tx_cps (l : List Nat) : (tx l).cps = l.toArray := rfl
theorem tx_toList (l : List Nat) : (tx l).cps.toList = l := rfl
theorem tx_length (l : List Nat) : (tx l).length = l.length := rfl
theorem tx_of (x : Str) : tx x.cps.toList = x := by cases x; rfl
theorem tx_inj {a b : List Nat} : tx a = tx b ↔ a = b := ⟨fun h => by have := congrArg (fun x => x.cps.toList) h; exact this, fun h => h ▸ rfl⟩
theorem tx_append (a b : List Nat) : tx a ++ tx b = tx (a ++ b) := Str.ext' (by rw [Str.cps_append]; simp [tx])
theorem tx_beq (a b : List Nat) : (tx a == tx b) = decide (a = b) := by
  by_cases h : a = b
  · subst h; simp
  · rw [decide_eq_false h]; exact beq_eq_false_iff_ne.mpr fun e => h (tx_inj.mp e)
theorem range_pick (l : List Nat) (a c : Nat) (h : a + c ≤ l.length) : ((List.range c).map fun (k : Nat) => ((a : Int) + 1 * (k : Int)).toNat).filterMap (l.toArray[·]?) = (l.drop a).take c := by
  have e : (List.range c).map (fun (k : Nat) => ((a : Int) + 1 * (k : Int)).toNat) = List.range' a c := by
    rw [List.range_eq_range', List.range'_eq_map_range, List.range'_eq_map_range, List.map_map]
    refine List.map_congr_left fun k _ => ?_
    simp
    lia
  rw [e]
  clear e
  induction c generalizing a with
  | zero => simp
  | succ c ih =>
    have hlt : a < l.length := by lia
    rw [List.range'_succ, List.filterMap_cons_some (b := l[a]) (by simp [hlt]), ih (a + 1) (by lia), List.drop_eq_getElem_cons hlt, List.take_succ_cons]
theorem slice_clip (l : List Nat) (lo hi : Option Int) (a b : Nat) (hi' : strSliceIndices lo hi 1 l.length = sliceRange a b 1) (hb : b ≤ l.length) : Txt.slice (tx l) lo hi = tx ((l.take b).drop a) := by
  unfold Txt.slice
  rw [tx_length, hi']
  have key : sliceRange (a : Int) (b : Int) 1 = (List.range (b - a)).map fun (k : Nat) => ((a : Int) + 1 * (k : Int)).toNat := by
    unfold sliceRange
    by_cases hab : a < b
    · have e1 : (b : Int) - a + 1 - 1 = ((b - a : Nat) : Int) := by lia
      simp only [show (1 : Int) > 0 from by decide, if_true, show (a : Int) < b from by lia, e1, Int.ediv_one, Int.toNat_natCast]
    · have e1 : b - a = 0 := by lia
      simp only [show (1 : Int) > 0 from by decide, if_true, show ¬ (a : Int) < b from by lia, if_false, e1, Int.toNat_zero]
  rw [key]
  have hd : (l.take b).drop a = (l.drop a).take (b - a) := List.drop_take ..
  rw [hd]
  split
  · rename_i h
    simp only [beq_self_eq_true, Bool.true_and, beq_iff_eq, List.length_map, List.length_range] at h
    have : (l.drop a).take (b - a) = l := by
      rw [h]
      by_cases h0 : l.length = 0
      · rw [List.length_eq_zero_iff.mp h0]; simp
      · have : a = 0 := by lia
        subst this; simp
    rw [this]
  · unfold tx
    by_cases hab : a ≤ b
    · have := range_pick l a (b - a) (by lia)
      exact congrArg (fun (z : List Nat) => (⟨z.toArray⟩ : Str)) this
    · have e1 : b - a = 0 := by lia
      rw [e1]; simp

theorem slice_nat (l : List Nat) (i j : Nat) : Txt.slice (tx l) (some (i : Int)) (some (j : Int)) = tx ((l.take j).drop i) := by
  rw [slice_clip l _ _ (min i l.length) (min j l.length) ?_ (Nat.min_le_right ..)]
  · congr 1
    by_cases h1 : j ≤ l.length
    · rw [Nat.min_eq_left h1]
      by_cases h2 : i ≤ l.length
      · rw [Nat.min_eq_left h2]
      · rw [Nat.min_eq_right (by lia), List.drop_eq_nil_of_le (by rw [List.length_take]; lia), List.drop_eq_nil_of_le (by rw [List.length_take]; lia)]
    · rw [Nat.min_eq_right (show l.length ≤ j by lia), List.take_of_length_le (Nat.le_refl _), List.take_of_length_le (by lia)]
      by_cases h2 : i ≤ l.length
      · rw [Nat.min_eq_left h2]
      · rw [Nat.min_eq_right (by lia), List.drop_eq_nil_of_le (Nat.le_refl _), List.drop_eq_nil_of_le (by lia)]
  · simp only [strSliceIndices, show ¬ ((i : Int) < 0) from by lia, show ¬ ((j : Int) < 0) from by lia, show (1 : Int) > 0 from by decide, if_true, if_false]
    congr 1 <;> lia
theorem slice_from (l : List Nat) (i : Nat) : Txt.slice (tx l) (some (i : Int)) none = tx (l.drop i) := by
  rw [slice_clip l _ _ (min i l.length) l.length ?_ (Nat.le_refl _)]
  · rw [List.take_of_length_le (Nat.le_refl _)]
    congr 1
    by_cases h2 : i ≤ l.length
    · rw [Nat.min_eq_left h2]
    · rw [Nat.min_eq_right (by lia), List.drop_eq_nil_of_le (Nat.le_refl _), List.drop_eq_nil_of_le (by lia)]
  · simp only [strSliceIndices, show ¬ ((i : Int) < 0) from by lia, show (1 : Int) > 0 from by decide, if_true, if_false]
    congr 1; lia
theorem slice_to (l : List Nat) (j : Nat) : Txt.slice (tx l) none (some (j : Int)) = tx (l.take j) := by
  rw [slice_clip l _ _ 0 (min j l.length) ?_ (Nat.min_le_right ..)]
  · rw [List.drop_zero]
    congr 1
    by_cases h1 : j ≤ l.length
    · rw [Nat.min_eq_left h1]
    · rw [Nat.min_eq_right (by lia), List.take_of_length_le (Nat.le_refl _), List.take_of_length_le (by lia)]
  · simp only [strSliceIndices, show ¬ ((j : Int) < 0) from by lia, show (1 : Int) > 0 from by decide, if_true, if_false]
    congr 1; lia
theorem slice_but (l : List Nat) (k : Nat) (h0 : 0 < k) (hk : k ≤ l.length) : Txt.slice (tx l) none (some (-(k : Int))) = tx (l.take (l.length - k)) := by
  rw [slice_clip l _ _ 0 (l.length - k) ?_ (Nat.sub_le ..)]
  · rw [List.drop_zero]
  · simp only [strSliceIndices, show (-(k : Int) < 0) from by lia, show (1 : Int) > 0 from by decide, if_true]
    congr 1; lia
end Mine
end
section
open PySem PySem.W PySem.Calls PyProof.Rows PySem.Spec PySem.Builtin PySem.Builtin.Str
namespace Mine
/-- where the pattern p is cut out of the letters l that begin at i, from the left, none over another -/
noncomputable def cuts (p : List Nat) : Nat → List Nat → Nat → List Nat
  | 0, _, _ => []
  | _ + 1, [], _ => []
  | n + 1, c :: r, i => if p.isPrefixOf (c :: r) then i :: cuts p n ((c :: r).drop p.length) (i + p.length) else cuts p n r (i + 1)
/-- the letters with z for each such p -/
noncomputable def rep (p z : List Nat) : Nat → List Nat → List Nat
  | 0, l => l
  | _ + 1, [] => []
  | n + 1, c :: r => if p.isPrefixOf (c :: r) then z ++ rep p z n ((c :: r).drop p.length) else c :: rep p z n r

theorem at_iff (x : Str) (p : List Nat) (hi i : Nat) (hhi : hi ≤ x.length) (hp : p ≠ []) : (i + (tx p).length ≤ hi ∧ subAt x (tx p) i = true) ↔ p.isPrefixOf ((x.cps.toList.drop i).take (hi - i)) = true := by
  rw [StrLaws.subAt_eq, tx_toList, tx_length, beq_iff_eq, List.isPrefixOf_iff_prefix, List.prefix_iff_eq_take]
  have hl : x.cps.toList.length = x.length := by simp [Str.length]
  have hp0 : 0 < p.length := List.length_pos_iff.mpr hp
  constructor
  · rintro ⟨h1, h2⟩
    rw [List.take_take, Nat.min_eq_left (by lia), h2]
  · intro h
    have hlen := congrArg List.length h
    simp only [List.length_take, List.length_drop] at hlen
    rw [List.take_take, Nat.min_eq_left (by lia)] at h
    exact ⟨by lia, h.symm⟩

theorem skip_run (x sub : Str) (hi limit : Nat) (arr : Array Nat) (free : Nat) : ∀ (n i : Nat), i + n ≤ free →
    forIn (List.range' i n) (arr, free) (StrLaws.occBody x sub hi limit) = pure (arr, free)
  | 0, i, _ => by simp
  | n + 1, i, h => by
    rw [List.range'_succ, List.forIn_cons]
    unfold StrLaws.occBody
    rw [if_neg (fun h' => by have := h'.1.1.2; dsimp only at this; lia)]
    exact skip_run x sub hi limit arr free n (i + 1) (by lia)

theorem forIn_app {m : Type → Type} [Monad m] [LawfulMonad m] {α β : Type} (a b : List α) (st : β) (f : α → β → m (ForInStep β)) (hf : ∀ x s, ∃ s', f x s = pure (.yield s')) :
    forIn (a ++ b) st f = (forIn a st f >>= fun s => forIn b s f) := by
  induction a generalizing st with
  | nil => simp
  | cons x r ih =>
    obtain ⟨s', e⟩ := hf x st
    simp only [List.cons_append, List.forIn_cons, e, pure_bind]
    exact ih s'
theorem occBody_yields (x sub : Str) (hi limit i : Nat) (st : Array Nat × Nat) : ∃ s', StrLaws.occBody x sub hi limit i st = pure (.yield s') := by
  unfold StrLaws.occBody
  split <;> exact ⟨_, rfl⟩

theorem cuts_run (x : Str) (p : List Nat) (hp : p ≠ []) (hi limit : Nat) (hhi : hi ≤ x.length) : ∀ (n : Nat) (suf : List Nat) (i : Nat) (arr : Array Nat) (free : Nat),
    (x.cps.toList.drop i).take (hi - i) = suf → i ≤ hi → free ≤ i → suf.length ≤ n → arr.size + suf.length < limit →
    (forIn (List.range' i (suf.length + 1)) (arr, free) (StrLaws.occBody x (tx p) hi limit)).run.fst.toList = arr.toList ++ cuts p n suf i := by
  have hp0 : 0 < p.length := List.length_pos_iff.mpr hp
  have hl : x.cps.toList.length = x.length := by simp [Str.length]
  intro n
  induction n with
  | zero =>
    intro suf i arr free hs hi' hf hn hlim
    have : suf = [] := List.length_eq_zero_iff.mp (by lia)
    subst this
    have key : ¬ ((((arr, free).fst.size < limit ∧ (arr, free).snd ≤ i) ∧ i + (tx p).length ≤ hi) ∧ subAt x (tx p) i = true) := fun h => by
      have := (at_iff x p hi i hhi hp).mp ⟨h.1.2, h.2⟩
      rw [hs] at this
      cases p with
      | nil => exact hp rfl
      | cons a b => simp [List.isPrefixOf] at this
    simp only [List.length_nil, List.range'_succ, List.range'_zero, List.forIn_cons, List.forIn_nil, cuts, List.append_nil]
    unfold StrLaws.occBody
    rw [if_neg key]
    rfl
  | succ n ih =>
    intro suf i arr free hs hi' hf hn hlim
    cases suf with
    | nil =>
      have key : ¬ ((((arr, free).fst.size < limit ∧ (arr, free).snd ≤ i) ∧ i + (tx p).length ≤ hi) ∧ subAt x (tx p) i = true) := fun h => by
        have := (at_iff x p hi i hhi hp).mp ⟨h.1.2, h.2⟩
        rw [hs] at this
        cases p with
        | nil => exact hp rfl
        | cons a b => simp [List.isPrefixOf] at this
      simp only [List.length_nil, List.range'_succ, List.range'_zero, List.forIn_cons, List.forIn_nil, cuts, List.append_nil]
      unfold StrLaws.occBody
      rw [if_neg key]
      rfl
    | cons c r =>
      have hlen := congrArg List.length hs
      simp only [List.length_take, List.length_drop, List.length_cons] at hlen
      have hd : ∀ k, (x.cps.toList.drop (i + k)).take (hi - (i + k)) = (c :: r).drop k := fun k => by
        rw [← hs, List.drop_take, List.drop_drop]
        congr 1
        lia
      rw [List.length_cons, List.range'_succ, List.forIn_cons]
      by_cases hm : p.isPrefixOf (c :: r) = true
      · have hat := (at_iff x p hi i hhi hp).mpr (hs ▸ hm)
        have hpl : p.length ≤ r.length + 1 := by have := (List.isPrefixOf_iff_prefix.mp hm).length_le; simpa using this
        have hst : StrLaws.occBody x (tx p) hi limit i (arr, free) = pure (.yield (arr.push i, i + (tx p).length)) := by
          unfold StrLaws.occBody
          rw [if_pos ⟨⟨⟨by simp only [List.length_cons] at hlim; dsimp only; lia, hf⟩, hat.1⟩, hat.2⟩]
        rw [hst]
        show (forIn (List.range' (i + 1) (r.length + 1)) (arr.push i, i + p.length) (StrLaws.occBody x (tx p) hi limit)).run.fst.toList = _
        have hr : List.range' (i + 1) (r.length + 1) = List.range' (i + 1) (p.length - 1) ++ List.range' (i + p.length) (((c :: r).drop p.length).length + 1) := by
          have e1 : r.length + 1 = (p.length - 1) + (((c :: r).drop p.length).length + 1) := by simp only [List.length_drop, List.length_cons]; lia
          rw [e1, ← List.range'_append_1]
          congr 2
          lia
        rw [hr, forIn_app _ _ _ _ (occBody_yields x (tx p) hi limit), skip_run _ _ _ _ _ _ _ _ (by lia)]
        show (forIn (List.range' (i + p.length) (((c :: r).drop p.length).length + 1)) (arr.push i, i + p.length) (StrLaws.occBody x (tx p) hi limit)).run.fst.toList = _
        rw [ih ((c :: r).drop p.length) (i + p.length) (arr.push i) (i + p.length) (hd _) (by lia) (Nat.le_refl _) (by simp only [List.length_drop, List.length_cons] at *; lia) (by simp only [List.length_drop, List.length_cons, Array.size_push] at *; lia)]
        simp only [cuts, hm, if_true, Array.toList_push, List.append_assoc, List.cons_append, List.nil_append]
      · have hat : ¬ ((((arr, free).fst.size < limit ∧ (arr, free).snd ≤ i) ∧ i + (tx p).length ≤ hi) ∧ subAt x (tx p) i = true) := fun h => hm (hs ▸ (at_iff x p hi i hhi hp).mp ⟨h.1.2, h.2⟩)
        have hst : StrLaws.occBody x (tx p) hi limit i (arr, free) = pure (.yield (arr, free)) := by
          unfold StrLaws.occBody
          rw [if_neg hat]
        rw [hst]
        show (forIn (List.range' (i + 1) (r.length + 1)) (arr, free) (StrLaws.occBody x (tx p) hi limit)).run.fst.toList = _
        rw [ih r (i + 1) arr free (by have := hd 1; simpa using this) (by lia) (by lia) (by simp only [List.length_cons] at hn; lia) (by simp only [List.length_cons] at hlim; lia)]
        simp only [cuts, hm, if_false, Bool.false_eq_true]

theorem occ_cuts (x : Str) (p : List Nat) (hp : p ≠ []) (lo hi limit : Nat) (hlh : lo ≤ hi) (hhi : hi ≤ x.length) (hlim : hi - lo < limit) :
    occurrences x (tx p) lo hi limit = cuts p (hi - lo) ((x.cps.toList.drop lo).take (hi - lo)) lo := by
  have hl : x.cps.toList.length = x.length := by simp [Str.length]
  have hlen : ((x.cps.toList.drop lo).take (hi - lo)).length = hi - lo := by simp only [List.length_take, List.length_drop]; lia
  rw [StrLaws.occ_eq, show hi + 1 - lo = ((x.cps.toList.drop lo).take (hi - lo)).length + 1 by lia]
  rw [cuts_run x p hp hi limit hhi (hi - lo) _ lo #[] lo rfl hlh (Nat.le_refl _) (by lia) (by rw [hlen]; simpa using hlim)]
  rfl

theorem cuts_count (c : Nat) : ∀ (n : Nat) (l : List Nat) (i : Nat), l.length ≤ n → (cuts [c] n l i).length = l.count c
  | 0, l, i, h => by rw [List.length_eq_zero_iff.mp (Nat.le_zero.mp h)]; rfl
  | n + 1, [], i, h => rfl
  | n + 1, a :: r, i, h => by
    have h' : r.length ≤ n := by simpa using h
    unfold cuts
    by_cases e : c = a
    · subst e
      have : ([c].isPrefixOf (c :: r)) = true := by simp [List.isPrefixOf]
      rw [if_pos this]
      simp only [List.length_cons, List.length_nil, List.drop_succ_cons, List.drop_zero]
      rw [cuts_count c n r _ h']
      simp
    · have : ¬ ([c].isPrefixOf (a :: r)) = true := by simp [List.isPrefixOf, e]
      rw [if_neg this, cuts_count c n r _ h', List.count_cons_of_ne (Ne.symm e)]

theorem sub_drop (x : Str) (a b : Nat) : strSub x a b = tx ((x.cps.toList.drop a).take (b - a)) := Str.ext' (Array.toList_inj.mp (by rw [StrLaws.strSub_toList, tx_toList]))

theorem parts_ne (x : Str) (w a : Nat) (cs : List Nat) : StrLaws.partsFrom x w a cs ≠ [] := by cases cs <;> simp [StrLaws.partsFrom]
theorem join_cons_ne (z p : Str) {q : List Str} (h : q ≠ []) : Str.join z (p :: q) = p ++ z ++ Str.join z q := by
  cases q with
  | nil => exact absurd rfl h
  | cons a r => rfl

theorem join_cuts (x : Str) (p z : List Nat) (hp : p ≠ []) : ∀ (n : Nat) (suf : List Nat) (i a : Nat), x.cps.toList.drop i = suf → a ≤ i → i ≤ x.length → suf.length ≤ n →
    Str.join (tx z) (StrLaws.partsFrom x p.length a (cuts p n suf i)) = tx ((x.cps.toList.drop a).take (i - a) ++ rep p z n suf) := by
  have hp0 : 0 < p.length := List.length_pos_iff.mpr hp
  have hl : x.cps.toList.length = x.length := by simp [Str.length]
  intro n
  induction n with
  | zero =>
    intro suf i a hs ha hi hn
    have h0 : suf = [] := List.length_eq_zero_iff.mp (by lia)
    subst h0
    have hlen := congrArg List.length hs
    simp only [List.length_drop, List.length_nil] at hlen
    show strSub x a x.length = _
    rw [sub_drop]
    simp only [rep, List.append_nil]
    congr 2
    lia
  | succ n ih =>
    intro suf i a hs ha hi hn
    cases suf with
    | nil =>
      have hlen := congrArg List.length hs
      simp only [List.length_drop, List.length_nil] at hlen
      show strSub x a x.length = _
      rw [sub_drop]
      simp only [rep, List.append_nil]
      congr 2
      lia
    | cons c r =>
      have hlen := congrArg List.length hs
      simp only [List.length_drop, List.length_cons] at hlen
      have hd : ∀ k, x.cps.toList.drop (i + k) = (c :: r).drop k := fun k => by rw [← hs, List.drop_drop]
      by_cases hm : p.isPrefixOf (c :: r) = true
      · have hpl : p.length ≤ r.length + 1 := by have := (List.isPrefixOf_iff_prefix.mp hm).length_le; simpa using this
        simp only [cuts, hm, if_true, rep]
        show Str.join (tx z) (strSub x a i :: StrLaws.partsFrom x p.length (i + p.length) (cuts p n ((c :: r).drop p.length) (i + p.length))) = _
        rw [join_cons_ne _ _ (parts_ne _ _ _ _), ih _ _ _ (hd _) (Nat.le_refl _) (by lia) (by simp only [List.length_drop, List.length_cons] at *; lia), sub_drop, tx_append, tx_append]
        congr 1
        simp
      · simp only [cuts, hm, rep, Bool.false_eq_true, if_false]
        rw [ih r (i + 1) a (by have := hd 1; simpa using this) (by lia) (by lia) (by simp only [List.length_cons] at hn; lia)]
        congr 1
        have e : i + 1 - a = (i - a) + 1 := by lia
        have hc : (x.cps.toList.drop a)[i - a]? = some c := by
          rw [List.getElem?_drop, show a + (i - a) = i + 0 by lia, ← List.getElem?_drop, hs]
          rfl
        rw [e, List.take_add_one, hc]
        simp

theorem rep_nil_cuts (x : Str) (p z : List Nat) : ∀ (n : Nat) (suf : List Nat) (i : Nat), cuts p n suf i = [] → rep p z n suf = suf
  | 0, _, _, _ => rfl
  | _ + 1, [], _, _ => rfl
  | n + 1, c :: r, i, h => by
    unfold cuts at h
    unfold rep
    split at h
    · cases h
    · rename_i hm
      rw [if_neg hm, rep_nil_cuts x p z n r (i + 1) h]

theorem replace_rep (l p z : List Nat) (hp : p ≠ []) : Txt.replace (tx l) (tx p) (tx z) = tx (rep p z l.length l) := by
  have h1 : occurrences (tx l) (tx p) 0 (tx l).length ((tx l).length + 1) = cuts p l.length l 0 := by
    rw [occ_cuts (tx l) p hp 0 _ _ (Nat.zero_le _) (Nat.le_refl _) (by lia)]
    rw [tx_toList, tx_length, List.drop_zero, Nat.sub_zero, List.take_of_length_le (Nat.le_refl _)]
  have h0 : ((tx p).length == 0) = false := by
    rw [tx_length]
    cases p with
    | nil => exact absurd rfl hp
    | cons a b => rfl
  unfold Txt.replace
  rw [h0, Bool.false_and, Bool.or_false, h1]
  split
  · rename_i h
    rw [rep_nil_cuts (tx l) p z l.length l 0 (List.isEmpty_iff.mp h)]
  · rw [StrLaws.glued_eq_join, StrLaws.partsBetween_eq, tx_length, join_cuts (tx l) p z hp l.length l 0 0 rfl (Nat.le_refl _) (Nat.zero_le _) (Nat.le_refl _)]
    simp

/-- the reader's line ends: "\r\n" and "\r" are told as "\n" -/
noncomputable def mend : List Nat → List Nat
  | [] => []
  | [c] => [if c = 13 then 10 else c]
  | c :: d :: r => if c = 13 then (if d = 10 then 10 :: mend r else 10 :: mend (d :: r)) else c :: mend (d :: r)
theorem rep_one (n : Nat) : ∀ l : List Nat, l.length ≤ n → rep [13] [10] n l = l.map fun c => if c = 13 then 10 else c := by
  induction n with
  | zero => intro l h; rw [List.length_eq_zero_iff.mp (Nat.le_zero.mp h)]; rfl
  | succ n ih =>
    intro l h
    cases l with
    | nil => rfl
    | cons c r =>
      have h' : r.length ≤ n := by simpa using h
      unfold rep
      by_cases e : c = 13
      · subst e
        rw [if_pos (by simp [List.isPrefixOf])]
        show [10] ++ rep [13] [10] n r = _
        rw [ih r h']
        rfl
      · rw [if_neg (by simp [List.isPrefixOf]; lia), ih r h', List.map_cons, if_neg e]
theorem rep_two : ∀ (n : Nat) (l : List Nat), l.length ≤ n → (rep [13, 10] [10] n l).map (fun c => if c = 13 then 10 else c) = mend l := by
  intro n
  induction n with
  | zero => intro l h; rw [List.length_eq_zero_iff.mp (Nat.le_zero.mp h)]; rfl
  | succ n ih =>
    intro l h
    match l with
    | [] => rfl
    | [c] =>
      have : ¬ ([13, 10].isPrefixOf [c]) = true := by simp [List.isPrefixOf]
      unfold rep
      rw [if_neg this]
      cases n <;> rfl
    | c :: d :: r =>
      have h' : (d :: r).length ≤ n := by simpa using h
      unfold rep mend
      by_cases e : c = 13
      · subst e
        by_cases e' : d = 10
        · subst e'
          rw [if_pos (by simp [List.isPrefixOf]), if_pos rfl, if_pos rfl]
          show (10 :: rep [13, 10] [10] n r).map _ = _
          rw [List.map_cons, ih r (by simp at h'; lia)]
          rfl
        · rw [if_neg (by simp [List.isPrefixOf]; lia), if_pos rfl, if_neg e', List.map_cons, ih (d :: r) h']
          rfl
      · rw [if_neg (by simp [List.isPrefixOf]; lia), if_neg e, List.map_cons, ih (d :: r) h', if_neg e]
theorem mend_eq (l : List Nat) : Txt.replace (Txt.replace (tx l) (tx [13, 10]) (tx [10])) (tx [13]) (tx [10]) = tx (mend l) := by
  rw [replace_rep l _ _ (by simp), replace_rep _ _ _ (by simp), rep_one _ _ (Nat.le_refl _), rep_two _ _ (Nat.le_refl _)]
end Mine
end
section
open PySem PySem.W PySem.Calls PyProof.Rows PySem.Spec PySem.Builtin PySem.Builtin.Str
namespace Mine
/-- how many letters stand behind the last line end -/
noncomputable def tailLen (l : List Nat) : Nat := (l.reverse.takeWhile (· != 10)).length
theorem tailLen_le (l : List Nat) : tailLen l ≤ l.length := by
  unfold tailLen
  have := (List.takeWhile_prefix (p := (· != 10)) (l := l.reverse)).length_le
  simpa using this
theorem tailLen_none {l : List Nat} (h : 10 ∉ l) : tailLen l = l.length := by
  unfold tailLen
  have := List.takeWhile_append_of_pos (p := (· != 10)) (l₁ := l.reverse) (l₂ := []) (fun a ha => by
    simp only [bne_iff_ne]
    rintro rfl
    exact h (List.mem_reverse.mp ha))
  rw [List.append_nil, List.takeWhile_nil, List.append_nil] at this
  rw [this, List.length_reverse]
theorem tailLen_split (a b : List Nat) (h : 10 ∉ b) : tailLen (a ++ 10 :: b) = b.length := by
  unfold tailLen
  rw [List.reverse_append, List.reverse_cons, List.append_assoc, List.takeWhile_append_of_pos]
  · simp
  · intro x hx
    simp only [bne_iff_ne]
    rintro rfl
    exact h (List.mem_reverse.mp hx)
theorem tailLen_app_mem (a b : List Nat) (h : 10 ∈ b) : tailLen (a ++ b) = tailLen b := by
  obtain ⟨x, y, rfl, hy⟩ : ∃ x y, b = x ++ 10 :: y ∧ 10 ∉ y := by
    clear a
    induction b with
    | nil => cases h
    | cons c r ih =>
      by_cases hr : 10 ∈ r
      · obtain ⟨x, y, e, hy⟩ := ih hr
        exact ⟨c :: x, y, by rw [e]; rfl, hy⟩
      · have : c = 10 := by simpa [hr, eq_comm] using h
        subst this
        exact ⟨[], r, rfl, hr⟩
  rw [← List.append_assoc, tailLen_split _ _ hy, tailLen_split _ _ hy]
theorem tailLen_app_not (a b : List Nat) (h : 10 ∉ b) : tailLen (a ++ b) = tailLen a + b.length := by
  unfold tailLen
  rw [List.reverse_append, List.takeWhile_append_of_pos]
  · simp; lia
  · intro x hx
    simp only [bne_iff_ne]
    rintro rfl
    exact h (List.mem_reverse.mp hx)

theorem cnt_tx (l : List Nat) (c o : Nat) : cnt (tx l) (tx [c]) (o : Int) = ((l.take o).count c : Nat) := by
  unfold cnt
  have e : min (fromIndex (tx l).length (o : Int)) (tx l).length = min o l.length := by
    rw [tx_length]
    unfold fromIndex
    rw [if_neg (by lia)]
    lia
  rw [e, occ_cuts (tx l) [c] (by simp) 0 _ _ (Nat.zero_le _) (by rw [tx_length]; exact Nat.min_le_right ..) (by rw [tx_length]; lia)]
  rw [cuts_count _ _ _ _ (by simp only [List.length_take]; lia), List.drop_zero, Nat.sub_zero, tx_toList]
  congr 2
  by_cases h : o ≤ l.length
  · rw [Nat.min_eq_left h]
  · rw [Nat.min_eq_right (by lia), List.take_of_length_le (Nat.le_refl _), List.take_of_length_le (by lia)]
theorem at_one (l : List Nat) (c hi i : Nat) (hhi : hi ≤ l.length) : StrLaws.At (tx l) (tx [c]) hi i ↔ (l.take hi)[i]? = some c := by
  have := at_iff (tx l) [c] hi i hhi (by simp)
  refine Iff.trans this ?_
  rw [tx_toList]
  have e : (l.take hi)[i]? = ((l.take hi).drop i)[0]? := by rw [List.getElem?_drop]; rfl
  rw [e, List.drop_take]
  cases (l.drop i).take (hi - i) with
  | nil => exact ⟨fun h => absurd h Bool.false_ne_true, fun h => absurd h (by simp)⟩
  | cons a r =>
    show ((c == a) && true) = true ↔ some a = some c
    rw [Bool.and_true, beq_iff_eq]
    exact ⟨fun h => by rw [h], fun h => (Option.some.inj h).symm⟩
theorem rfd_tx (l : List Nat) (o : Nat) (ho : o ≤ l.length) :
    (rfd (tx l) (tx [10]) (o : Int) = -1 ∧ 10 ∉ l.take o) ∨ (rfd (tx l) (tx [10]) (o : Int) ≠ -1 ∧ 10 ∈ l.take o ∧ (o : Int) - (rfd (tx l) (tx [10]) (o : Int) + 1) = (tailLen (l.take o) : Nat)) := by
  have e : min (fromIndex (tx l).length (o : Int)) (tx l).length = o := by
    rw [tx_length]
    unfold fromIndex
    rw [if_neg (by lia)]
    lia
  unfold rfd
  rw [e, StrLaws.last_eq]
  have key := StrLaws.last_run (tx l) (tx [10]) o (List.range' 0 (o + 1 - 0)) [] none (fun _ h => nomatch h) (fun _ h => nomatch h) (by simpa using List.pairwise_lt_range' (s := 0) (n := o + 1 - 0))
  have mem : ∀ i, StrLaws.At (tx l) (tx [10]) o i → i ∈ [] ++ List.range' 0 (o + 1 - 0) := fun i hi => by have := hi.1; simp [List.mem_range'] <;> lia
  cases hr : (forIn (List.range' 0 (o + 1 - 0)) none (StrLaws.lastBody (tx l) (tx [10]) o)).run with
  | none =>
    rw [hr] at key
    refine .inl ⟨rfl, fun hm => ?_⟩
    obtain ⟨i, hi⟩ := List.mem_iff_getElem?.mp hm
    have ha := (at_one l 10 o i ho).mpr hi
    exact key i (mem i ha) ha
  | some a =>
    rw [hr] at key
    have h1 := (at_one l 10 o a ho).mp key.1
    have hlt : a < (l.take o).length := (List.getElem?_eq_some_iff.mp h1).1
    have hlen : (l.take o).length = o := by simp only [List.length_take]; lia
    refine .inr ⟨by dsimp only; lia, List.mem_of_getElem? h1, ?_⟩
    have hs : l.take o = (l.take o).take a ++ 10 :: (l.take o).drop (a + 1) := by
      have e1 := (List.take_append_drop a (l.take o)).symm
      rw [List.drop_eq_getElem_cons hlt] at e1
      rw [(List.getElem?_eq_some_iff.mp h1).2] at e1
      exact e1
    have hn : 10 ∉ (l.take o).drop (a + 1) := fun hm => by
      obtain ⟨i, hi⟩ := List.mem_iff_getElem?.mp hm
      rw [List.getElem?_drop] at hi
      have ha := (at_one l 10 o _ ho).mpr hi
      exact key.2 _ (mem _ ha) (by lia) ha
    rw [hs, tailLen_split _ _ hn]
    simp only [List.length_drop, hlen]
    lia
theorem lit_n : Str.ofString "\n" = tx [10] := by kernel_rfl
theorem lit_r : Str.ofString "\r" = tx [13] := by kernel_rfl
theorem lit_rn : Str.ofString "\r\n" = tx [13, 10] := by kernel_rfl
theorem lit_nil : Str.ofString "" = tx [] := by kernel_rfl
noncomputable def colOf (chunk : List Nat) (pc : Int) (o : Nat) : Int := if 10 ∈ chunk.take o then (tailLen (chunk.take o) : Nat) else pc + o
theorem item_nat (l : List Nat) (i : Nat) (h : i < l.length) : Txt.item (tx l) (i : Int) = tx [l[i]] := by
  have := item_meets (x := tx l) (i := (i : Int)) (n := l[i]) (by lia) (by simp [tx_cps, h])
  exact this
theorem item_last (l : List Nat) (h : l ≠ []) : Txt.item (tx l) (-1) = tx [l.getLast h] := by
  have hp : 0 < l.length := List.length_pos_iff.mpr h
  have e := beq_iff_eq.mp (item_closes_neg (x := tx l) (i := -1) (j := ((l.length - 1 : Nat) : Int)) (by decide) (by rw [tx_length]; lia) (by rw [tx_length]; lia))
  rw [e]
  show tx [_] = _
  congr 2
  rw [List.getLast_eq_getElem, tx_cps]
  have hlt : l.length - 1 < l.length := by lia
  simp [Array.getD, hlt]
theorem item_last_code (l : List Nat) (h : l ≠ []) : (Txt.item (tx l) (-1)).cps.getD 0 0 = l.getLast h := by rw [item_last l h]; rfl
end Mine
end
section
open PySem PySem.W PySem.Calls PyProof.Rows PySem.Spec
namespace Mine
open Mine.Top (KW)
open PySem.Challenge (pw_te0025_01 rw_te0025_01)
/-- what stays of a stream: the addresses of its objects, the hashes and tokens of its keys, the text -/
structure Strm where
  st : Nat
  sd : Nat
  ds : Nat
  dd : Nat
  mth : Nat
  vnl : Value
  vel : Value
  k : Nat → Int
  t : Nat → Tok
  text : List Nat
  tt : Tok
/-- what a stream turns -/
structure SV where
  chunk : List Nat
  tc : Tok
  size : Nat
  ts : Tok
  off : Nat
  to : Tok
  pl : Int
  tpl : Tok
  pc : Int
  tpc : Tok
  buf : Value
  place : Nat
  tpa : Tok
noncomputable def Strm.Ord (c : Strm) : Prop := c.sd < c.st ∧ c.st < c.mth ∧ c.mth < c.dd ∧ c.dd < c.ds
noncomputable abbrev Strm.sdO (c : Strm) (v : SV) : Obj :=
  dictOf [⟨c.k 0, .str "reportCharacterErrors" (c.t 0), .ref c.mth⟩, ⟨c.k 1, .str "newLines" (c.t 1), c.vnl⟩, ⟨c.k 2, .str "dataStream" (c.t 2), .ref c.ds⟩,
      ⟨c.k 3, .str "chunk" (c.t 3), .str (tx v.chunk) v.tc⟩, ⟨c.k 4, .str "chunkSize" (c.t 4), .int (v.size : Nat) v.ts⟩, ⟨c.k 5, .str "chunkOffset" (c.t 5), .int (v.off : Nat) v.to⟩,
      ⟨c.k 6, .str "errors" (c.t 6), c.vel⟩, ⟨c.k 7, .str "prevNumLines" (c.t 7), .int v.pl v.tpl⟩, ⟨c.k 8, .str "prevNumCols" (c.t 8), .int v.pc v.tpc⟩,
      ⟨c.k 9, .str "_bufferedCharacter" (c.t 9), v.buf⟩] 10
noncomputable abbrev Strm.ddO (c : Strm) (v : SV) : Obj := dictOf [⟨c.k 10, .str "text" (c.t 10), .str (tx c.text) c.tt⟩, ⟨c.k 11, .str "place" (c.t 11), .int (v.place : Nat) v.tpa⟩] 2
noncomputable def Strm.led (c : Strm) (v : SV) : List (Addr × Obj) :=
  [(c.st, instObj 166 c.sd), (c.sd, c.sdO v), (c.ds, instObj 73 c.dd), (c.dd, c.ddO v), (c.mth, methodObj (.ref 148) (.ref c.st))]
noncomputable abbrev tupOf (its : Array Value) : Obj := { cls := .type "tuple", data := .seq its }
theorem flatD {M : Model} {A : Around} {t : Sem Flow} {E : Value → Shared → Prop} {g h₁ : Heap} {post : Value → List (Addr × Obj) → Prop} {s : Shared} {n : Nat} (hn : 0 < n)
    (h : ∀ g₉ d₉ os₉ n₉, 0 < n₉ → wpAny M A t (fun fl s' => Done g post ⟨h₁, g₉, d₉, n₉, os₉⟩ (match fl with | .ret v => v | _ => .none) s') E ⟨h₁, g₉, d₉, n₉, os₉⟩) :
    wpAny M A t (fun fl s' => Done g post s (match fl with | .ret v => v | _ => .none) s') E ⟨h₁, s.gens, s.drawn, n, s.os⟩ := h s.gens s.drawn s.os n hn
theorem Ctr.use {w : World} {f : Addr} {args : List Value} {D : Nat} {foot : List (Addr × Obj)} {post : Value → List (Addr × Obj) → Prop} (C : Ctr w f args D foot post)
    {dp un : Nat} {gd : Option (List Code)} {cn : Str} {cs : Scope} {a : Addr} {ccd : Value} {cl : List (Str × Addr)} {outer : List Env} {A₀ : Around} {base h₀ : Heap} {L : Addr} {m : Str → Option Value} {hh₉ : Heap} {g₉ : Array GenState} {d₉ : Drawn} {n₉ : Nat} {os₉ : OsState} {mean : ExcName → Option Value} {mg mb : Str → Option Value}
    {Q E : Value → Shared → Prop} {A : Around} (hA : A = ktrTop dp un gd cn cs L a ccd cl outer)
    (B : Below A₀ base outer h₀) (F : Fr h₀ L hh₉ m) (X : (KW w.params).In h₀) (N : News h₀ L hh₉ foot) (T : TopQ mean mg mb h₀) (hk : cs.kind = .function) (hd : dp + D < recursionLimit) (hu : un + 8 * D < cLine) (hp : 0 < n₉)
    (ret : ∀ v foot' h' tk', post v foot' → Fr h₀ L h' m → News h₀ L h' foot' → Keep hh₉ h' (foot.map (·.1)) → Q v ⟨h', g₉, d₉, tk', os₉⟩) :
    wpAny (model pw_te0025_01 w) A (call (.ref f) args) Q E ⟨hh₉, g₉, d₉, n₉, os₉⟩ := by
  subst hA
  exact C _ _ _ _ _ _ _ _ _ _ _ _ _ _ _ _ _ _ _ _ B F X N T hk hd hu hp ret
theorem CtrC.use {w : World} {f : Addr} {args : List Value} {D : Nat} {foot : List (Addr × Obj)} {post : Value → List (Addr × Obj) → Prop} (C : CtrC w f args D foot post)
    {dp un : Nat} {gd : Option (List Code)} {cn : Str} {cs : Scope} {a : Addr} {ccd : Value} {cl : List (Str × Addr)} {outer : List Env} {A₀ : Around} {base h₀ : Heap} {L : Addr} {m : Str → Option Value} {hh₉ : Heap} {g₉ : Array GenState} {d₉ : Drawn} {n₉ : Nat} {os₉ : OsState} {mean : ExcName → Option Value} {mg mb : Str → Option Value}
    {R : Result → Shared → Prop} {A : Around} (hA : A = ktrTop dp un gd cn cs L a ccd cl outer)
    (B : Below A₀ base outer h₀) (F : Fr h₀ L hh₉ m) (X : (KW w.params).In h₀) (N : News h₀ L hh₉ foot) (T : TopQ mean mg mb h₀) (hk : cs.kind = .function) (hd : dp + D < recursionLimit) (hu : un + 8 * D < cLine) (hp : 0 < n₉)
    (ret : ∀ v foot' h' tk', post v foot' → Fr h₀ L h' m → News h₀ L h' foot' → Keep hh₉ h' (foot.map (·.1)) → R (.ok (.ret v)) ⟨h', g₉, d₉, tk', os₉⟩) :
    codeAny (model pw_te0025_01 w) A (.call (.ref f) ⟨args, []⟩) R ⟨hh₉, g₉, d₉, n₉, os₉⟩ := by
  subst hA
  exact C _ _ _ _ _ _ _ _ _ _ _ _ _ _ _ _ _ _ _ B F X N T hk hd hu hp ret
theorem CtrC.plain {w : World} {f : Addr} {args : List Value} {D : Nat} {foot : List (Addr × Obj)} {post : Value → List (Addr × Obj) → Prop} (C : CtrC w f args D foot post) : Ctr w f args D foot post :=
  fun dp un gd cn cs a ccd cl outer A₀ base h₀ L m s mean mg mb Q E B F X N T hk hd hu hp ret => wpAny_call (C dp un gd cn cs a ccd cl outer A₀ base h₀ L m s mean mg mb _ B F X N T hk hd hu hp ret)
end Mine
end
section
open PySem PySem.W PySem.Calls PyProof.Rows PySem.Spec
namespace Mine
open Mine.Top (KW)
open PySem.Challenge (pw_te0025_01 rw_te0025_01)

/-- the end of one turn of a for loop: the iterator stands, the rest is as J says for the next turn -/
noncomputable def ForEnd (h₀ : Heap) (L I : Addr) (oI : Obj) (Jn : (Str → Option Value) → List (Addr × Obj) → Prop) (s : Shared) (s₃ : Shared) : Prop :=
  ∃ h' tk' m' led', s₃ = { s with heap := h', toks := tk' } ∧ Fr h₀ L h' m' ∧ News h₀ L h' ((I, oI) :: led') ∧ (∀ p ∈ led', p.1 ≠ I) ∧ Jn m' led'
noncomputable def ForPost (h₀ : Heap) (L I : Addr) (oI : Obj) (Jn : (Str → Option Value) → List (Addr × Obj) → Prop) (s : Shared) (Q : Flow → Shared → Prop) (f : Flow) (s₃ : Shared) : Prop :=
  match f with
  | .ret v => Q (.ret v) s₃
  | .brk => Q .next s₃
  | _ => ForEnd h₀ L I oI Jn s s₃

/-- where a for loop stands -/
noncomputable def ForAt (h₀ : Heap) (L I : Addr) (St : Nat → Heap → Prop) (J : Nat → (Str → Option Value) → List (Addr × Obj) → Prop) (n : Nat) (s : Shared) (k : Nat) (s' : Shared) : Prop :=
  ∀ P : Prop, (∀ h' tk m' led' i, s' = { s with heap := h', toks := tk } → St i h' → Fr h₀ L h' m' → News h₀ L h' led' → (∀ p ∈ led', p.1 ≠ I) → J i m' led' → i ≤ n → s.toks ≤ tk → k = n + 1 - i → P) → P
section
variable {prog : Program} {w : World} {A : Around} {E : Value → Shared → Prop} {s : Shared} {env : Env} {h₀ : Heap} {target : PySem.Expr} {body : List Stmt} {Q : Flow → Shared → Prop}
theorem forWC (C : Obj → Prop) {I : Addr} {fp : List Addr} {n : Nat} {P : Nat → Value → Prop} {St : Nat → Heap → Prop} {m₀ : Str → Option Value} {led₀ : List (Addr × Obj)} (J : Nat → (Str → Option Value) → List (Addr × Obj) → Prop)
    (W : Walks prog w A I fp [I] n P St) (hLI : env.locals ≠ I)
    (hgo : ∀ i v (s : Shared) (Q : Unit → Shared → Prop) (E : Value → Shared → Prop), St i s.heap → Q () s → wpAny (model prog w) A (letOwnedTupleGo target (.ref I) v) Q E s)
    (hI : h₀.get? I = none) (hfix : ∀ b ∈ fp, b ≠ I → ∃ o, h₀.get? b = some o ∨ ∀ i m led, J i m led → (b, o) ∈ led)
    (hst : St 0 s.heap) (F : Fr h₀ env.locals s.heap m₀) (N : News h₀ env.locals s.heap led₀) (hne : ∀ p ∈ led₀, p.1 ≠ I) (h0 : J 0 m₀ led₀)
    (hIk : ∀ i (h : Heap), St i h → ∃ o, h.get? I = some o ∧ C o)
    (turn : ∀ i v m₁ led₁ h tk oI, C oI → i < n → P i v → J i m₁ led₁ → (∀ p ∈ led₁, p.1 ≠ I) → s.toks ≤ tk → Fr h₀ env.locals h m₁ → News h₀ env.locals h ((I, oI) :: led₁) →
      wpAny (model prog w) A (assign target env v) (fun _ s₂ => wpAny (model prog w) A (execs body env) (ForPost h₀ env.locals I oI (J (i + 1)) s Q) E s₂) E { s with heap := h, toks := tk })
    (done : ∀ m₁ led₁ h tk, J n m₁ led₁ → Fr h₀ env.locals h m₁ → News h₀ env.locals h led₁ → Q .next { s with heap := h, toks := tk })
    (hE : PassesOwn (model prog w) A env E) :
    codeAny (model prog w) A (.forLoop target (.ref I) body [] env) (fun r s' => match r with | .ok f => Q f s' | .error e => cameBackBy (model prog w) A env E e s') s := by
  have old : ∀ b o, h₀.get? b = some o → b ∉ [I] := fun b o e hb => by rw [List.mem_singleton.mp hb, hI] at e; cases e
  refine codeAny_forLoop_any (ForAt h₀ env.locals I St J n s) ?_ (n + 1)
    (fun P k => k s.heap s.toks m₀ led₀ 0 rfl hst F N hne h0 (Nat.zero_le _) (Nat.le_refl _) rfl)
  intro k s' H
  refine H _ fun h' tk m' led' i e hst' F' N' hne' hJ hi htk ek => ?_
  subst e ek
  clear H
  refine wpAny_toks (n := s.toks) htk ?_
  have next : ∀ h₁ : Heap, (∀ b o, b ∉ [I] → h'.get? b = some o → h₁.get? b = some o) → Fr h₀ env.locals h₁ m' ∧ News h₀ env.locals h₁ led' := fun h₁ hk₁ =>
    ⟨⟨F'.ns.at' fun o e => hk₁ _ o (fun hb => hLI (List.mem_singleton.mp hb)) e, fun b o e => hk₁ b o (old b o e) (F'.keep b o e), F'.above⟩, fun p hp => ⟨hk₁ _ _ (fun hb => hne' p hp (List.mem_singleton.mp hb)) (N' p hp).1, (N' p hp).2⟩⟩
  by_cases hlt : i < n
  · refine W.item i _ _ _ hlt hst' fun v h₁ tk₁ hP hst₁ hk₁ htk₁ => ?_
    have FN := next h₁ hk₁
    clear next
    refine (hIk _ _ hst₁).elim fun oI ho => ?_
    refine hgo _ v _ _ _ hst₁ ?_
    refine wpAny_toks (n := s.toks) htk₁ ?_
    refine wpAny_mono (turn i v m' led' h₁ tk₁ oI ho.2 hlt hP hJ hne' htk₁ FN.1 (List.forall_mem_cons.mpr ⟨⟨ho.1, fun e => hLI e.symm, hI⟩, FN.2⟩)) (fun _ s₂ h₂ htk₂ => wpAny_toks htk₂ (wpAny_mono h₂ (fun f s₃ h₃ htk₃ => ?_) fun e s' x _ => hE e s' x)) fun e s' x _ => hE e s' x
    have fin : ForEnd h₀ env.locals I oI (J (i + 1)) s s₃ → ∃ k', k' < n + 1 - i ∧ ForAt h₀ env.locals I St J n s k' s₃ := by
      rintro ⟨h₃', tk₃', m₂, led₂, rfl, F₃, N₃, ne₃, J₃⟩
      refine ⟨n + 1 - (i + 1), Nat.sub_lt_sub_left (Nat.lt_succ_of_lt hlt) (Nat.lt_succ_self _), fun P k => k h₃' tk₃' m₂ led₂ (i + 1) rfl ?_ F₃ (fun p hp => N₃ p (.tail _ hp)) ne₃ J₃ hlt htk₃ rfl⟩
      clear k
      refine W.frame _ _ _ hst₁ fun b hb o e => ?_
      by_cases hbI : b = I
      · subst hbI
        exact (Option.some.inj (e.symm.trans ho.1)) ▸ (N₃ _ (.head _)).1
      · refine (hfix b hb hbI).elim fun o' hh => hh.elim (fun h' => ?_) fun h' => ?_
        · exact (Option.some.inj (e.symm.trans (FN.1.keep b o' h'))) ▸ F₃.keep b _ h'
        · exact (Option.some.inj (e.symm.trans (FN.2 _ (h' _ _ _ hJ)).1)) ▸ (N₃ _ (.tail _ (h' _ _ _ J₃))).1
    cases f with
    | ret v => exact h₃
    | brk => exact h₃
    | cont => exact fin h₃
    | next => exact fin h₃
  · have hin : i = n := Nat.le_antisymm hi (Nat.le_of_not_lt hlt)
    subst hin
    refine W.done _ _ _ hst' fun h₁ tk₁ hk₁ _ => wpAny_execs_nil ?_
    exact done m' led' h₁ tk₁ hJ (next h₁ hk₁).1 (next h₁ hk₁).2
theorem forW {I : Addr} {fp : List Addr} {n : Nat} {P : Nat → Value → Prop} {St : Nat → Heap → Prop} {m₀ : Str → Option Value} {led₀ : List (Addr × Obj)} (J : Nat → (Str → Option Value) → List (Addr × Obj) → Prop)
    (W : Walks prog w A I fp [I] n P St) (hLI : env.locals ≠ I)
    (hgo : ∀ i v (s : Shared) (Q : Unit → Shared → Prop) (E : Value → Shared → Prop), St i s.heap → Q () s → wpAny (model prog w) A (letOwnedTupleGo target (.ref I) v) Q E s)
    (hI : h₀.get? I = none) (hfix : ∀ b ∈ fp, b ≠ I → ∃ o, h₀.get? b = some o ∨ ∀ i m led, J i m led → (b, o) ∈ led)
    (hst : St 0 s.heap) (hIs : ∃ o, s.heap.get? I = some o) (F : Fr h₀ env.locals s.heap m₀) (N : News h₀ env.locals s.heap led₀) (hne : ∀ p ∈ led₀, p.1 ≠ I) (h0 : J 0 m₀ led₀)
    (hIk : ∀ i (h : Heap), St i h → ∃ o, h.get? I = some o)
    (turn : ∀ i v m₁ led₁ h tk oI, i < n → P i v → J i m₁ led₁ → (∀ p ∈ led₁, p.1 ≠ I) → s.toks ≤ tk → Fr h₀ env.locals h m₁ → News h₀ env.locals h ((I, oI) :: led₁) →
      wpAny (model prog w) A (assign target env v) (fun _ s₂ => wpAny (model prog w) A (execs body env) (ForPost h₀ env.locals I oI (J (i + 1)) s Q) E s₂) E { s with heap := h, toks := tk })
    (done : ∀ m₁ led₁ h tk, J n m₁ led₁ → Fr h₀ env.locals h m₁ → News h₀ env.locals h led₁ → Q .next { s with heap := h, toks := tk })
    (hE : PassesOwn (model prog w) A env E) :
    codeAny (model prog w) A (.forLoop target (.ref I) body [] env) (fun r s' => match r with | .ok f => Q f s' | .error e => cameBackBy (model prog w) A env E e s') s := by
  exact forWC (fun _ => True) J W hLI hgo hI hfix hst F N hne h0 (fun i h st => (hIk i h st).imp fun _ e => ⟨e, trivial⟩) (fun i v m₁ led₁ h tk oI _ => turn i v m₁ led₁ h tk oI) done hE

/-- one turn of a while loop -/
noncomputable def WhileEnd (h₀ : Heap) (L : Addr) (s : Shared) (J : Nat → (Str → Option Value) → List (Addr × Obj) → Prop) (n : Nat) (s₃ : Shared) : Prop :=
  ∃ k h' tk' m' led', k < n ∧ s₃ = { s with heap := h', toks := tk' } ∧ Fr h₀ L h' m' ∧ News h₀ L h' led' ∧ J k m' led'
noncomputable def WhilePost (h₀ : Heap) (L : Addr) (s : Shared) (J : Nat → (Str → Option Value) → List (Addr × Obj) → Prop) (Q : Flow → Shared → Prop) (n : Nat) (f : Flow) (s₃ : Shared) : Prop :=
  match f with
  | .ret v => Q (.ret v) s₃
  | .brk => Q .next s₃
  | _ => WhileEnd h₀ L s J n s₃
theorem whileJ {L : Addr} {test : PySem.Expr} {pos : Pos} {m : Str → Option Value} {led : List (Addr × Obj)} (J : Nat → (Str → Option Value) → List (Addr × Obj) → Prop) {n₀ : Nat}
    (F : Fr h₀ L s.heap m) (N : News h₀ L s.heap led) (hJ : J n₀ m led)
    (turn : ∀ n m₁ led₁ h₁ tk₁, J n m₁ led₁ → s.toks ≤ tk₁ → Fr h₀ L h₁ m₁ → News h₀ L h₁ led₁ →
      wpAny (model prog w) A (isTrue test env (eval test env)) (fun b s₂ =>
        if b = true then wpAny (model prog w) A (execs body env) (WhilePost h₀ L s J Q n) E s₂ else Q .next s₂) E { s with heap := h₁, toks := tk₁ })
    (hE : PassesOwn (model prog w) A env E) :
    wpAny (model prog w) A (exec (.While test body [] pos) env) Q E s := by
  refine wpAny_While (codeAny_whileLoop (fun n s' => ∃ h₁ tk₁ m₁ led₁, s' = { s with heap := h₁, toks := tk₁ } ∧ s.toks ≤ tk₁ ∧ Fr h₀ L h₁ m₁ ∧ News h₀ L h₁ led₁ ∧ J n m₁ led₁) ?_ n₀ ⟨s.heap, s.toks, m, led, rfl, Nat.le_refl _, F, N, hJ⟩)
  rintro n s' ⟨h₁, tk₁, m₁, led₁, rfl, htk, F₁, N₁, J₁⟩
  refine wpAny_toks (n := s.toks) htk ?_
  refine wpAny_mono (turn n m₁ led₁ h₁ tk₁ J₁ htk F₁ N₁) (fun b s₂ h₂ htk₂ => ?_) fun e s' x _ => hE e s' x
  cases b with
  | false =>
    simp only [Bool.false_eq_true, if_false] at h₂ ⊢
    exact wpAny_execs_nil h₂
  | true =>
    simp only [if_true] at h₂ ⊢
    refine wpAny_toks htk₂ (wpAny_mono h₂ (fun f s₃ h₃ htk₃ => ?_) fun e s' x _ => hE e s' x)
    have fin : WhileEnd h₀ L s J n s₃ → ∃ k, k < n ∧ ∃ h₁ tk₁ m₁ led₁, s₃ = { s with heap := h₁, toks := tk₁ } ∧ s.toks ≤ tk₁ ∧ Fr h₀ L h₁ m₁ ∧ News h₀ L h₁ led₁ ∧ J k m₁ led₁ := by
      rintro ⟨k, h', tk', m', led', hk, rfl, F', N', J'⟩
      exact ⟨k, hk, h', tk', m', led', rfl, htk₃, F', N', J'⟩
    cases f with
    | ret v => exact h₃
    | brk => exact h₃
    | cont => exact fin h₃
    | next => exact fin h₃

theorem letGo_listiter {target : PySem.Expr} {I l : Addr} {i : Nat} {v : Value} {Q' : Unit → Shared → Prop} {s' : Shared} (hit : s'.heap.IsListIter I l i) (h : Q' () s') :
    wpAny (model prog w) A (letOwnedTupleGo target (.ref I) v) Q' E s' := by
  obtain ⟨o, ho, hc, hd⟩ := hit
  unfold letOwnedTupleGo
  cases target <;> first
    | exact wpAny_pure h
    | (cases v <;> first
        | exact wpAny_pure h
        | (refine wpAny_bind (wpAny_load ho ?_)
           rw [hc, hd]
           exact wpAny_pure h))

/-- a for loop over a list whose items stay: of the ground or of the ledger -/
theorem for_list2 {l : Addr} {items : Array Value} {m₀ : Str → Option Value} {led₀ : List (Addr × Obj)} (J : Nat → (Str → Option Value) → List (Addr × Obj) → Prop)
    (hh : A.handled = none) {ol : Obj} (hol : s.heap.get? l = some ol) (hc : ol.cls = .type "list") {nl : Nat} (hdl : ol.data = .seq items nl)
    (hfix : h₀.get? l = some ol ∨ ∀ i m led, J i m led → (l, ol) ∈ led)
    (F : Fr h₀ env.locals s.heap m₀) (N : News h₀ env.locals s.heap led₀) (h0 : J 0 m₀ led₀)
    (turn : ∀ i v m₁ led₁ h tk I oI, oI.cls = .type "list_iterator" → items[i]? = some v → J i m₁ led₁ → (∀ p ∈ led₁, p.1 ≠ I) → I = s.heap.objs.size → s.toks ≤ tk → Fr h₀ env.locals h m₁ → News h₀ env.locals h ((I, oI) :: led₁) →
      wpAny (model prog w) A (assign target env v) (fun _ s₂ => wpAny (model prog w) A (execs body env) (ForPost h₀ env.locals I oI (J (i + 1)) s Q) E s₂) E { s with heap := h, toks := tk })
    (done : ∀ m₁ led₁ h tk, J items.size m₁ led₁ → Fr h₀ env.locals h m₁ → News h₀ env.locals h led₁ → Q .next { s with heap := h, toks := tk })
    (hE : PassesOwn (model prog w) A env E) :
    wpAny (model prog w) A (pyIter (.ref l)) (fun it s₂ => codeAny (model prog w) A (.forLoop target it body [] env) (fun r s' => match r with | .ok f => Q f s' | .error e => cameBackBy (model prog w) A env E e s') s₂) E s := by
  have hls : s.heap.IsList l items := ⟨ol, hol, hc, nl, hdl⟩
  have hne : l ≠ s.heap.objs.size := Nat.ne_of_lt (Heap.lt_size hol)
  refine wpAny_pyIter_list hls ?_
  have W := Walks.list (prog := prog) (w := w) hh s.heap.objs.size l hne items
  have step := forWC (fun o => o.cls = .type "list_iterator") (s := { s with heap := s.heap.push { cls := .type "list_iterator", data := .fields #[.ref l, .int 0 0] } }) (Q := Q) (E := E) (target := target) (body := body) (env := env) (h₀ := h₀) (m₀ := m₀) (led₀ := led₀) J W ?_ ?_ ?_ ?_ ?_ (F.push _) (fun p hp => ⟨Heap.get?_push_of_some _ (N p hp).1, (N p hp).2⟩) ?_ h0 ?_ ?_ ?_ hE
  · exact step
  · exact fun e => absurd F.ns.lt (e ▸ Nat.lt_irrefl _)
  · exact fun i v s' Q' E' st hq => letGo_listiter st.1 hq
  · exact next_is_new F
  · intro b hb hbI
    simp only [List.mem_cons, List.not_mem_nil, or_false] at hb
    rcases hb with e | rfl
    · exact absurd e hbI
    · exact ⟨ol, hfix⟩
  · exact ⟨⟨_, Heap.get?_push_size _ rfl, rfl, rfl⟩, hls.at fun o e => Heap.get?_push_of_some _ e⟩
  · intro p hp e
    exact absurd (Heap.lt_size (N p hp).1) (e ▸ Nat.lt_irrefl _)
  · exact fun i h st => by obtain ⟨o, ho, hc, _⟩ := st.1; exact ⟨o, ho, hc⟩
  · intro i v m₁ led₁ h tk oI hoc hi hP hJ hne' ht F₁ N₁
    exact turn i v m₁ led₁ h tk _ oI hoc hP hJ hne' rfl ht F₁ N₁
  · exact done
/-- a for loop over a list whose items stay: of the ground or of the ledger -/
theorem for_list {l : Addr} {items : Array Value} {m₀ : Str → Option Value} {led₀ : List (Addr × Obj)} (J : Nat → (Str → Option Value) → List (Addr × Obj) → Prop)
    (hh : A.handled = none) {ol : Obj} (hol : s.heap.get? l = some ol) (hc : ol.cls = .type "list") {nl : Nat} (hdl : ol.data = .seq items nl)
    (hfix : h₀.get? l = some ol ∨ ∀ i m led, J i m led → (l, ol) ∈ led)
    (F : Fr h₀ env.locals s.heap m₀) (N : News h₀ env.locals s.heap led₀) (h0 : J 0 m₀ led₀)
    (turn : ∀ i v m₁ led₁ h tk I oI, items[i]? = some v → J i m₁ led₁ → (∀ p ∈ led₁, p.1 ≠ I) → I = s.heap.objs.size → s.toks ≤ tk → Fr h₀ env.locals h m₁ → News h₀ env.locals h ((I, oI) :: led₁) →
      wpAny (model prog w) A (assign target env v) (fun _ s₂ => wpAny (model prog w) A (execs body env) (ForPost h₀ env.locals I oI (J (i + 1)) s Q) E s₂) E { s with heap := h, toks := tk })
    (done : ∀ m₁ led₁ h tk, J items.size m₁ led₁ → Fr h₀ env.locals h m₁ → News h₀ env.locals h led₁ → Q .next { s with heap := h, toks := tk })
    (hE : PassesOwn (model prog w) A env E) :
    wpAny (model prog w) A (pyIter (.ref l)) (fun it s₂ => codeAny (model prog w) A (.forLoop target it body [] env) (fun r s' => match r with | .ok f => Q f s' | .error e => cameBackBy (model prog w) A env E e s') s₂) E s :=
  for_list2 J hh hol hc hdl hfix F N h0 (fun i v m₁ led₁ h tk I oI _ => turn i v m₁ led₁ h tk I oI) done hE

/-- a for loop over a text, letter by letter -/
theorem for_str {x : Str} {t : Tok} {m₀ : Str → Option Value} {led₀ : List (Addr × Obj)} (J : Nat → (Str → Option Value) → List (Addr × Obj) → Prop)
    (hh : A.handled = none) (htgt : ∀ it v, letOwnedTupleGo target it v = pure ())
    (F : Fr h₀ env.locals s.heap m₀) (N : News h₀ env.locals s.heap led₀) (h0 : J 0 m₀ led₀)
    (turn : ∀ i c u m₁ led₁ h tk I oI, x.cps[i]? = some c → J i m₁ led₁ → (∀ p ∈ led₁, p.1 ≠ I) → I = s.heap.objs.size → s.toks ≤ tk → Fr h₀ env.locals h m₁ → News h₀ env.locals h ((I, oI) :: led₁) →
      wpAny (model prog w) A (assign target env (.str ⟨#[c]⟩ u)) (fun _ s₂ => wpAny (model prog w) A (execs body env) (ForPost h₀ env.locals I oI (J (i + 1)) s Q) E s₂) E { s with heap := h, toks := tk })
    (done : ∀ m₁ led₁ h tk, J x.cps.size m₁ led₁ → Fr h₀ env.locals h m₁ → News h₀ env.locals h led₁ → Q .next { s with heap := h, toks := tk })
    (hE : PassesOwn (model prog w) A env E) :
    wpAny (model prog w) A (pyIter (.str x t)) (fun it s₂ => codeAny (model prog w) A (.forLoop target it body [] env) (fun r s' => match r with | .ok f => Q f s' | .error e => cameBackBy (model prog w) A env E e s') s₂) E s := by
  have go : ∀ (ty : String) (o : Obj), (s.heap.push o).IsStrIter s.heap.objs.size ty x t 0 → Walks prog w A s.heap.objs.size [s.heap.objs.size] [s.heap.objs.size] x.cps.size (SignAt x) (fun i h => h.IsStrIter s.heap.objs.size ty x t i) →
      codeAny (model prog w) A (.forLoop target (.ref s.heap.objs.size) body [] env) (fun r s' => match r with | .ok f => Q f s' | .error e => cameBackBy (model prog w) A env E e s') { s with heap := s.heap.push o } := by
    intro ty o hst W
    refine forW (s := { s with heap := s.heap.push o }) J W ?_ ?_ ?_ ?_ hst ?_ (F.push _) (fun p hp => ⟨Heap.get?_push_of_some _ (N p hp).1, (N p hp).2⟩) ?_ h0 ?_ ?_ done hE
    · exact fun e => absurd F.ns.lt (e ▸ Nat.lt_irrefl _)
    · exact fun i v s' Q' E' st hq => wpAny_of_eq (htgt _ _) hq
    · exact next_is_new F
    · intro b hb hbI
      exact absurd (List.mem_singleton.mp hb) hbI
    · exact ⟨_, hst.choose_spec.1⟩
    · intro p hp e
      exact absurd (Heap.lt_size (N p hp).1) (e ▸ Nat.lt_irrefl _)
    · exact fun i h st => ⟨_, st.choose_spec.1⟩
    · rintro i v m₁ led₁ h tk oI hi ⟨c, u, hc, rfl⟩ hJ hne' ht F₁ N₁
      exact turn i c u m₁ led₁ h tk _ oI hc hJ hne' rfl ht F₁ N₁
  cases ha : x.cps.all (· < 128)
  · exact wpAny_pyIter_wide ha (go _ _ ⟨_, Heap.get?_push_size _ rfl, rfl, rfl⟩ (Walks.strWide hh _ x t))
  · exact wpAny_pyIter_ascii ha (go _ _ ⟨_, Heap.get?_push_size _ rfl, rfl, rfl⟩ (Walks.strAscii hh _ x t))
end
end Mine
end
section
open PySem PySem.W PySem.Calls PyProof.Rows PySem.Spec
namespace Mine
/-- m is m₀ but for the name x -/
noncomputable def Sets (x : Str) (m₀ m : Str → Option Value) : Prop := ∃ v, m = fun y => if y = x then v else m₀ y
theorem Sets.self (x : Str) (m₀ : Str → Option Value) : Sets x m₀ m₀ := ⟨m₀ x, by funext y; by_cases h : y = x <;> simp [h]⟩
theorem Sets.put {x : Str} {m₀ m : Str → Option Value} {v : Option Value} (_h : Sets x m₀ m) : Sets x m₀ (fun y => if y = x then v else m y) := by
  obtain ⟨u, rfl⟩ := _h
  exact ⟨v, by funext y; by_cases h : y = x <;> simp [h]⟩
theorem News.reframe {h₀ h h' : Heap} {L : Addr} {foot foot' rest : List (Addr × Obj)} (N : News h₀ L h (foot ++ rest)) (K : Keep h h' (foot.map (·.1))) (N' : News h₀ L h' foot') (hd : ∀ p ∈ rest, p.1 ∉ foot.map (·.1)) : News h₀ L h' (foot' ++ rest) := fun p hp => by
  rcases List.mem_append.mp hp with hp | hp
  · exact N' p hp
  · obtain ⟨a, b, c⟩ := N p (List.mem_append.mpr (.inr hp))
    exact ⟨K _ _ a (hd p hp), b, c⟩
theorem News.keep0 {h₀ h h' : Heap} {L : Addr} {rest : List (Addr × Obj)} (N : News h₀ L h rest) (K : Keep h h' []) : News h₀ L h' rest := fun p hp => by
  obtain ⟨a, b, c⟩ := N p hp
  exact ⟨K _ _ a (fun h => nomatch h), b, c⟩
theorem News.tl {h₀ h : Heap} {L : Addr} {q : Addr × Obj} {a : List (Addr × Obj)} (N : News h₀ L h (q :: a)) : News h₀ L h a := fun p hp => N p (.tail _ hp)
theorem News.sub {h₀ h : Heap} {L : Addr} {a b : List (Addr × Obj)} (N : News h₀ L h a) (hs : ∀ p ∈ b, p ∈ a) : News h₀ L h b := fun p hp => N p (hs p hp)
/-- the walk is cut behind a statement: what it leaves is said once -/
theorem exec_cut {M : Model} {A : Around} {E : Value → Shared → Prop} {s : Shared} {env : Env} {st : Stmt} {Q : Flow → Shared → Prop} (mid : Shared → Prop)
    (h1 : wpAny M A (exec st env) (fun f s' => (f = .next ∧ mid s') ∨ (f ≠ .next ∧ Q f s')) E s) (h2 : ∀ s', mid s' → Q .next s') : wpAny M A (exec st env) Q E s :=
  wpAny_mono h1 (fun f s' h => by
    rcases h with ⟨rfl, h⟩ | ⟨_, h⟩
    · exact h2 _ h
    · exact h) fun _ _ h => h
theorem Fr.like {h₀ h : Heap} {L : Addr} {m m' : Str → Option Value} (F : Fr h₀ L h m) (e : ∀ y, m y = m' y) : Fr h₀ L h m' := by
  rw [show m = m' from funext e] at F; exact F
theorem Fr.twice {h₀ h : Heap} {L : Addr} {m : Str → Option Value} {x : Str} {v1 v2 : Option Value} (F : Fr h₀ L h (fun y => if y = x then v1 else if y = x then v2 else m y)) : Fr h₀ L h (fun y => if y = x then v1 else m y) :=
  Fr.like F fun y => by by_cases h : y = x <;> simp [h]
section
variable {h₀ h : Heap} {L : Addr} {m : Str → Option Value} {x y : Str} {v1 v2 v3 : Option Value}
theorem Fr.three (F : Fr h₀ L h (fun z => if z = x then v1 else if z = y then v2 else if z = x then v3 else m z)) : Fr h₀ L h (fun z => if z = x then v1 else if z = y then v2 else m z) :=
  Fr.like F fun z => by by_cases h : z = x <;> simp [h]
theorem Fr.swap (hxy : x ≠ y) (F : Fr h₀ L h (fun z => if z = y then v2 else if z = x then v1 else m z)) : Fr h₀ L h (fun z => if z = x then v1 else if z = y then v2 else m z) :=
  Fr.like F fun z => by
    by_cases h : z = x
    · subst h; simp [hxy]
    · simp [h]
theorem Fr.pad (y : Str) (F : Fr h₀ L h (fun z => if z = x then v1 else m z)) : Fr h₀ L h (fun z => if z = x then v1 else if z = y then m y else m z) :=
  Fr.like F fun z => by
    by_cases h : z = y
    · subst h; simp
    · simp [h]
end
/-- two frames agree on some names; off some names a frame is another -/
noncomputable def Agree (m m' : Str → Option Value) (ks : List Str) : Prop := ∀ u ∈ ks, m u = m' u
noncomputable def Bare (ks : List Str) (m b : Str → Option Value) : Prop := ∀ u, u ∉ ks → m u = b u
theorem Agree.nil {m m' : Str → Option Value} : Agree m m' [] := fun _ h => nomatch h
theorem Agree.cons {m m' : Str → Option Value} {x : Str} {ks : List Str} (h : m x = m' x) (t : Agree m m' ks) : Agree m m' (x :: ks) := fun u hu => by
  rcases List.mem_cons.mp hu with rfl | hu
  · exact h
  · exact t u hu
theorem Bare.nil {ks : List Str} {b : Str → Option Value} : Bare ks b b := fun _ _ => rfl
theorem Bare.ite {ks : List Str} {m b : Str → Option Value} {x : Str} {v : Option Value} (hx : ks.contains x = true) (t : Bare ks m b) : Bare ks (fun y => if y = x then v else m y) b := fun u hu => by
  show (if u = x then v else m u) = b u
  rw [if_neg (fun e => hu (by rw [e]; exact List.contains_iff_mem.mp hx))]
  exact t u hu
theorem Bare.look {ks : List Str} {x : Str} {v : Value} (hx : ks.contains x = true) : Bare ks (fun y => List.lookup y [(x, v)].reverse) (fun _ => none) := fun u hu => by
  have e : u ≠ x := fun e => hu (by rw [e]; exact List.contains_iff_mem.mp hx)
  show (match u == x with | true => _ | false => _) = none
  rw [show (u == x) = false from beq_eq_false_iff_ne.mpr e]
  rfl
theorem like_keys {ks : List Str} {m m' b : Str → Option Value} (A : Agree m m' ks) (O : Bare ks m b) (O' : Bare ks m' b) : ∀ u, m u = m' u := fun u =>
  if h : u ∈ ks then A u h else (O u h).trans (O' u h).symm
end Mine
end
section
open PySem PySem.W PySem.Calls PyProof.Rows PySem.Spec
namespace Mine
/-- the walk is cut behind a statement that goes on; what it leaves is said once and hidden while it is walked -/
theorem exec_cutX {M : Model} {A : Around} {E : Value → Shared → Prop} {s : Shared} {env : Env} {st : Stmt} {Q : Flow → Shared → Prop} (mid : Shared → Prop)
    (h1 : ∀ X : Shared → Prop, (∀ s', mid s' → X s') → wpAny M A (exec st env) (fun f s' => f = .next ∧ X s') E s) (h2 : ∀ s', mid s' → Q .next s') : wpAny M A (exec st env) Q E s :=
  wpAny_mono (h1 mid fun _ h => h) (fun f s' h => by
    obtain ⟨rfl, h⟩ := h
    exact h2 _ h) fun _ _ h => h
theorem exec_cutZ {M : Model} {A : Around} {E : Value → Shared → Prop} {s : Shared} {env : Env} {st : Stmt} {Q : Flow → Shared → Prop} (mid : Shared → Prop)
    (h1 : ∀ X : Flow → Shared → Prop, (∀ s', mid s' → X .next s') → (∀ f s', f ≠ .next → Q f s' → X f s') → wpAny M A (exec st env) X E s) (h2 : ∀ s', mid s' → Q .next s') : wpAny M A (exec st env) Q E s :=
  h1 Q h2 fun _ _ _ h => h
/-- the end of a def's body, hidden while the body is walked -/
theorem hideDone {M : Model} {A : Around} {E : Value → Shared → Prop} {s s₀ : Shared} {t : Sem Flow} {g : Heap} {post : Value → List (Addr × Obj) → Prop}
    (h : ∀ R : Value → Shared → Prop, (∀ v s', Done g post s₀ v s' → R v s') → wpAny M A t (fun fl s' => R (match fl with | .ret v => v | _ => .none) s') E s) :
    wpAny M A t (fun fl s' => Done g post s₀ (match fl with | .ret v => v | _ => .none) s') E s := h _ fun _ _ h => h
/-- a cut in continuation form: P says what the walker may go on with -/
theorem cps {α : Type} {M : Model} {A : Around} {E : Value → Shared → Prop} {s : Shared} {t : Sem α} {Q : α → Shared → Prop} (P : (α → Shared → Prop) → Prop) (h1 : ∀ X, P X → wpAny M A t X E s) (h2 : P Q) : wpAny M A t Q E s := h1 Q h2
theorem test_cutX {α : Type} {M : Model} {A : Around} {E : Value → Shared → Prop} {s : Shared} {t : Sem α} {Q : α → Shared → Prop} (mid : α → Shared → Prop)
    (h1 : ∀ X : α → Shared → Prop, (∀ b s', mid b s' → X b s') → wpAny M A t X E s) (h2 : ∀ b s', mid b s' → Q b s') : wpAny M A t Q E s :=
  wpAny_mono (h1 mid fun _ _ h => h) h2 fun _ _ h => h
section
variable {prog : Program} {w : World} {A : Around} {E : Value → Shared → Prop} {s : Shared} {env : Env} {h₀ : Heap} {body : List Stmt} {Q : Flow → Shared → Prop}
theorem whileX {L : Addr} {test : PySem.Expr} {pos : Pos} {m : Str → Option Value} {led : List (Addr × Obj)} (J : Nat → (Str → Option Value) → List (Addr × Obj) → Prop) {n₀ : Nat}
    (F : Fr h₀ L s.heap m) (N : News h₀ L s.heap led) (hJ : J n₀ m led)
    (turn : ∀ X : Nat → (Str → Option Value) → List (Addr × Obj) → Prop, (∀ n m led, J n m led → X n m led) → ∀ n m₁ led₁ h₁ tk₁, J n m₁ led₁ → s.toks ≤ tk₁ → Fr h₀ L h₁ m₁ → News h₀ L h₁ led₁ →
      wpAny (model prog w) A (isTrue test env (eval test env)) (fun b s₂ =>
        if b = true then wpAny (model prog w) A (execs body env) (WhilePost h₀ L s X Q n) E s₂ else Q .next s₂) E { s with heap := h₁, toks := tk₁ })
    (hE : PassesOwn (model prog w) A env E) :
    wpAny (model prog w) A (exec (.While test body [] pos) env) Q E s :=
  whileJ J F N hJ (turn J fun _ _ _ h => h) hE
end
end Mine
end
section
open PySem PySem.W PySem.Calls PyProof.Rows PySem.Spec
namespace Mine
/-- a cut in continuation form, behind a statement that may also go elsewhere -/
theorem cpsZ {M : Model} {A : Around} {E : Value → Shared → Prop} {s : Shared} {t : Sem Flow} {Q : Flow → Shared → Prop} (P : (Flow → Shared → Prop) → Prop)
    (h1 : ∀ X, P X → (∀ f s', f ≠ .next → Q f s' → X f s') → wpAny M A t X E s) (h2 : P Q) : wpAny M A t Q E s := h1 Q h2 fun _ _ _ h => h
end Mine
end
section
open PySem PySem.W PySem.Calls PyProof.Rows PySem.Spec
namespace Mine
/-- the letters of a text here: line ends, plain signs, é -/
noncomputable def Plain (c : Nat) : Prop := c = 10 ∨ c = 13 ∨ (32 ≤ c ∧ c ≤ 126) ∨ c = 233
noncomputable def dataOf (text : List Nat) (place n : Nat) (b : Bool) : List Nat := (if b then [13] else []) ++ (text.drop place).take n
noncomputable def cutR (e : List Nat) : Bool := decide (1 < e.length) && decide (e.getLast? = some 13)
noncomputable def keepR (e : List Nat) : List Nat := if cutR e then e.dropLast else e
noncomputable def readPost (c : Strm) (v : SV) (n : Nat) (b : Bool) (r : Value) (led : List (Addr × Obj)) : Prop :=
  ∃ v', led = c.led v' ∧ v'.off = 0 ∧ v'.pl = v.pl + ((v.chunk.take v.size).count 10 : Nat) ∧ v'.pc = colOf v.chunk v.pc v.size ∧
    ((dataOf c.text v.place n b = [] ∧ r = .bool false ∧ v'.chunk = [] ∧ v'.size = 0 ∧ v'.buf = .none ∧ v'.place = v.place) ∨
     (dataOf c.text v.place n b ≠ [] ∧ r = .bool true ∧ v'.chunk = mend (keepR (dataOf c.text v.place n b)) ∧ v'.size = v'.chunk.length ∧
       (∃ tz, v'.buf = if cutR (dataOf c.text v.place n b) then .str (tx [13]) tz else .none) ∧ v'.place = v.place + ((c.text.drop v.place).take n).length))
theorem mend_append : ∀ (n : Nat) (a b : List Nat), a.length ≤ n → (a.getLast? ≠ some 13 ∨ b.head? ≠ some 10) → mend (a ++ b) = mend a ++ mend b := by
  intro n
  induction n with
  | zero => intro a b h _; rw [List.length_eq_zero_iff.mp (Nat.le_zero.mp h)]; rfl
  | succ n ih =>
    intro a b h hx
    match a, h, hx with
    | [], _, _ => rfl
    | [x], _, hx =>
      cases b with
      | nil => rfl
      | cons d r =>
        show (if x = 13 then (if d = 10 then 10 :: mend r else 10 :: mend (d :: r)) else x :: mend (d :: r)) = (if x = 13 then 10 else x) :: mend (d :: r)
        by_cases h1 : x = 13
        · by_cases h2 : d = 10
          · subst h1 h2
            rcases hx with hx | hx <;> exact absurd rfl hx
          · rw [if_pos h1, if_neg h2, if_pos h1]
        · rw [if_neg h1, if_neg h1]
    | x :: y :: r, h, hx =>
      have hl : r.length + 1 ≤ n := by simp only [List.length_cons] at h; lia
      have hx' : (y :: r).getLast? ≠ some 13 ∨ b.head? ≠ some 10 := by rwa [List.getLast?_cons_cons] at hx
      have i1 := ih (y :: r) b hl hx'
      show (if x = 13 then (if y = 10 then 10 :: mend (r ++ b) else 10 :: mend (y :: (r ++ b))) else x :: mend (y :: (r ++ b))) = (if x = 13 then (if y = 10 then 10 :: mend r else 10 :: mend (y :: r)) else x :: mend (y :: r)) ++ mend b
      by_cases h1 : x = 13
      · by_cases h2 : y = 10
        · rw [if_pos h1, if_pos h2, if_pos h1, if_pos h2]
          have i2 := ih r b (by lia) (by
            cases r with
            | nil => exact .inl (fun h => nomatch h)
            | cons z t => rwa [List.getLast?_cons_cons] at hx')
          rw [i2]; rfl
        · rw [if_pos h1, if_neg h2, if_pos h1, if_neg h2]
          exact congrArg (10 :: ·) i1
      · rw [if_neg h1, if_neg h1]
        exact congrArg (x :: ·) i1
theorem mend_ne {a : List Nat} (h : a ≠ []) : mend a ≠ [] := by
  match a, h with
  | [x], _ => exact fun h => nomatch h
  | x :: y :: r, _ =>
    show (if x = 13 then (if y = 10 then 10 :: mend r else 10 :: mend (y :: r)) else x :: mend (y :: r)) ≠ []
    split
    · split <;> exact fun h => nomatch h
    · exact fun h => nomatch h
theorem cut_last {e : List Nat} (h : cutR e = true) : e = e.dropLast ++ [13] := by
  unfold cutR at h
  rw [Bool.and_eq_true, decide_eq_true_eq, decide_eq_true_eq] at h
  have hne : e ≠ [] := by intro q; subst q; exact absurd h.1 (by decide)
  have h2 := h.2
  rw [List.getLast?_eq_some_getLast hne] at h2
  have := List.dropLast_concat_getLast hne
  rw [Option.some.inj h2] at this
  exact this.symm
theorem keep_ne {e : List Nat} (h : e ≠ []) : keepR e ≠ [] := by
  unfold keepR
  split
  · rename_i hc
    unfold cutR at hc
    rw [Bool.and_eq_true, decide_eq_true_eq, decide_eq_true_eq] at hc
    intro q
    have := congrArg List.length q
    rw [List.length_dropLast, List.length_nil] at this
    lia
  · exact h
/-- what is not yet read, unmended, after the chunk -/
noncomputable def bufL : Value → List Nat
  | .str x _ => x.cps.toList
  | _ => []
noncomputable def left (c : Strm) (v : SV) : List Nat := bufL v.buf ++ c.text.drop v.place
theorem data_split (text : List Nat) (place n : Nat) (b : Bool) :
    (if b then [13] else []) ++ text.drop place = dataOf text place n b ++ text.drop (place + ((text.drop place).take n).length) := by
  have h : text.drop place = (text.drop place).take n ++ text.drop (place + ((text.drop place).take n).length) := by
    rw [← List.drop_drop]
    conv => lhs; rw [← List.take_append_drop n (text.drop place)]
    congr 1
    rw [List.length_take]
    by_cases hq : n ≤ (text.drop place).length
    · rw [Nat.min_eq_left hq]
    · rw [Nat.min_eq_right (by lia), List.drop_of_length_le (by lia), List.drop_of_length_le (by lia)]
  unfold dataOf
  rw [List.append_assoc, ← h]
theorem mend_data (text : List Nat) (place n : Nat) (b : Bool) (hn : 2 ≤ n) :
    mend ((if b then [13] else []) ++ text.drop place) = mend (keepR (dataOf text place n b)) ++ mend ((if cutR (dataOf text place n b) then [13] else []) ++ text.drop (place + ((text.drop place).take n).length)) := by
  have hs := data_split text place n b
  rw [hs]
  by_cases hc : cutR (dataOf text place n b) = true
  · rw [keepR, if_pos hc, if_pos hc]
    conv => lhs; rw [cut_last hc]
    rw [List.append_assoc]
    exact mend_append _ _ _ (Nat.le_refl _) (.inr (by simp))
  · rw [keepR, if_neg hc, if_neg hc]
    refine mend_append _ _ _ (Nat.le_refl _) ?_
    by_cases hl : (dataOf text place n b).length ≤ 1
    · right
      have h1 : ((text.drop place).take n).length ≤ 1 := by
        have : (dataOf text place n b).length = (if b then [13] else []).length + ((text.drop place).take n).length := List.length_append
        lia
      rw [List.length_take] at h1
      rw [List.drop_of_length_le]
      · exact fun h => nomatch h
      · rw [List.length_take]
        rw [List.length_drop] at h1 ⊢
        lia
    · left
      intro q
      apply hc
      unfold cutR
      rw [Bool.and_eq_true, decide_eq_true_eq, decide_eq_true_eq]
      exact ⟨by lia, q⟩
theorem rep_len : ∀ (n : Nat) (l : List Nat), (rep [13, 10] [10] n l).length ≤ l.length := by
  intro n
  induction n with
  | zero => intro l; exact Nat.le_refl _
  | succ n ih =>
    intro l
    cases l with
    | nil => exact Nat.le_refl _
    | cons c r =>
      show (if [13, 10].isPrefixOf (c :: r) then [10] ++ rep [13, 10] [10] n ((c :: r).drop 2) else c :: rep [13, 10] [10] n r).length ≤ r.length + 1
      split
      · have := ih ((c :: r).drop 2)
        rw [List.length_append, List.length_singleton]
        simp only [List.drop_succ_cons] at this ⊢
        have h2 : (r.drop 1).length ≤ r.length := by rw [List.length_drop]; lia
        rename_i hp
        cases r with
        | nil => simp [List.isPrefixOf] at hp
        | cons d r => simp only [List.drop_succ_cons, List.drop_zero, List.length_cons] at this ⊢; lia
      · have := ih r
        rw [List.length_cons]
        lia
theorem rep_tx_len (f : List Nat) : (Txt.replace (tx f) (Str.ofString "\r\n") (Str.ofString "\n")).length ≤ f.length := by
  rw [lit_rn, lit_n, replace_rep _ _ _ (by decide), tx_length]
  exact rep_len _ _
theorem mend_len (l : List Nat) : (mend l).length ≤ l.length := by
  rw [← rep_two l.length l (Nat.le_refl _), List.length_map]
  exact rep_len _ _
theorem mend_tx_len (f : List Nat) : (Txt.replace (Txt.replace (tx f) (Str.ofString "\r\n") (Str.ofString "\n")) (Str.ofString "\r") (Str.ofString "\n")).length ≤ f.length := by
  rw [lit_rn, lit_n, lit_r, mend_eq, tx_length]
  exact mend_len _
/-- the stream has read seen of the mended text, and rest is left -/
structure Inv (c : Strm) (v : SV) (seen rest : List Nat) : Prop where
  size : v.size = v.chunk.length
  off : v.off ≤ v.size
  len : v.chunk.length ≤ 1001
  buf : v.buf = .none ∨ ∃ tb, v.buf = .str (tx [13]) tb
  ex : ∃ pre, seen = pre ++ v.chunk.take v.off ∧ v.pl = (pre.count 10 : Nat) ∧ v.pc = (tailLen pre : Nat)
  rest : rest = v.chunk.drop v.off ++ mend (left c v)
theorem col_app (pre l : List Nat) (o : Nat) (ho : o ≤ l.length) : colOf l (tailLen pre : Nat) o = (tailLen (pre ++ l.take o) : Nat) := by
  unfold colOf
  split
  · rename_i h; rw [tailLen_app_mem _ _ h]
  · rename_i h; rw [tailLen_app_not _ _ h, List.length_take, Nat.min_eq_left ho]; lia
theorem inv_read {c : Strm} {v : SV} {seen rest : List Nat} {n : Nat} {b : Bool} {tb : Tok} {r : Value} {led : List (Addr × Obj)} (hI : Inv c v seen rest) (hx : c.text.length ≤ 1000) (hn : 2 ≤ n) (hb : v.buf = if b then .str (tx [13]) tb else .none) (h : readPost c v n b r led) :
    ∃ v', led = c.led v' ∧ ((r = .bool false ∧ rest = v.chunk.drop v.off ∧ Inv c v' (seen ++ v.chunk.drop v.off) []) ∨
      (r = .bool true ∧ v'.off = 0 ∧ v'.chunk ≠ [] ∧ (left c v').length < (left c v).length ∧ ∃ rest', rest = v.chunk.drop v.off ++ rest' ∧ Inv c v' (seen ++ v.chunk.drop v.off) rest')) := by
  obtain ⟨v', rfl, ho, hl, hc, h⟩ := h
  obtain ⟨pre, e1, e2, e3⟩ := hI.ex
  have hbl : bufL v.buf = if b then [13] else [] := by rw [hb]; cases b <;> rfl
  have hle : left c v = dataOf c.text v.place n b ++ c.text.drop (v.place + ((c.text.drop v.place).take n).length) := by rw [left, hbl, data_split _ _ n]
  have hex : ∃ pre', seen ++ v.chunk.drop v.off = pre' ++ v'.chunk.take v'.off ∧ v'.pl = (pre'.count 10 : Nat) ∧ v'.pc = (tailLen pre' : Nat) := by
    refine ⟨pre ++ v.chunk, ?_, ?_, ?_⟩
    · rw [ho, List.take_zero, List.append_nil, e1, List.append_assoc, List.take_append_drop]
    · rw [hl, e2, hI.size, List.take_length, List.count_append]; lia
    · rw [hc, e3, hI.size, col_app _ _ _ (Nat.le_refl _), List.take_length]
  refine ⟨v', rfl, ?_⟩
  rcases h with ⟨h0, rfl, h2, h3, h4, h5⟩ | ⟨h0, rfl, h2, h3, ⟨tz, h4⟩, h5⟩
  · have ht : (c.text.drop v.place).take n = [] := (List.append_eq_nil_iff.mp h0).2
    have hd : c.text.drop v.place = [] := by
      have := congrArg List.length ht
      rw [List.length_take, List.length_nil] at this
      exact List.length_eq_zero_iff.mp (by lia)
    have hz : left c v = [] := by rw [hle, h0, ht, List.length_nil, Nat.add_zero, hd]; rfl
    refine .inl ⟨rfl, ?_, ?_⟩
    · rw [hI.rest, hz]; exact List.append_nil _
    · refine ⟨by rw [h3, h2]; rfl, by rw [ho]; exact Nat.zero_le _, by rw [h2]; exact Nat.zero_le _, .inl h4, hex, ?_⟩
      rw [h2, left, h4, h5, hd, List.drop_nil]; rfl
  · have hbl' : bufL v'.buf = if cutR (dataOf c.text v.place n b) then [13] else [] := by rw [h4]; split <;> rfl
    have hne : v'.chunk ≠ [] := by rw [h2]; exact mend_ne (keep_ne h0)
    have hlen : (left c v).length = (keepR (dataOf c.text v.place n b)).length + (left c v').length := by
      rw [hle, left, hbl', h5, List.length_append, List.length_append, ← Nat.add_assoc]
      congr 1
      unfold keepR
      split
      · rename_i hq
        conv => lhs; rw [cut_last hq]
        rw [List.length_append]
      · rfl
    refine .inr ⟨rfl, ho, hne, ?_, mend (left c v), ?_, ?_⟩
    · have := List.length_pos_iff.mpr (keep_ne h0)
      lia
    · exact hI.rest
    · refine ⟨h3, by rw [ho]; exact Nat.zero_le _, ?_, ?_, hex, ?_⟩
      · rw [h2]
        refine Nat.le_trans (mend_len _) ?_
        have h7 : (keepR (dataOf c.text v.place n b)).length ≤ (dataOf c.text v.place n b).length := by
          unfold keepR; split
          · rw [List.length_dropLast]; lia
          · exact Nat.le_refl _
        have h8 : (dataOf c.text v.place n b).length = (if b then [13] else []).length + ((c.text.drop v.place).take n).length := List.length_append
        have h9 : (if b then [13] else [] : List Nat).length ≤ 1 := by cases b <;> decide
        rw [List.length_take, List.length_drop] at h8
        lia
      · rw [h4]; split
        · exact .inr ⟨_, rfl⟩
        · exact .inl rfl
      · rw [ho, List.drop_zero, h2, left, left, hbl, hbl', h5]
        exact mend_data _ _ _ _ hn
theorem inv_go {c : Strm} {v : SV} {seen rest : List Nat} (hI : Inv c v seen rest) {e : Nat} (h1 : v.off ≤ e) (h2 : e ≤ v.chunk.length) :
    ∃ rest', rest = (v.chunk.take e).drop v.off ++ rest' ∧ rest' = v.chunk.drop e ++ mend (left c v) ∧ ∀ to, Inv c { v with off := e, to := to } (seen ++ (v.chunk.take e).drop v.off) rest' := by
  obtain ⟨pre, p1, p2, p3⟩ := hI.ex
  have hsp : ∀ l : List Nat, l.drop v.off = (l.take e).drop v.off ++ l.drop e := fun l => by
    conv => lhs; rw [← List.take_append_drop e l]
    by_cases hq : e ≤ l.length
    · rw [List.drop_append_of_le_length (by rw [List.length_take]; lia)]
    · rw [List.drop_of_length_le (i := e) (by lia), List.append_nil, List.append_nil]
  refine ⟨v.chunk.drop e ++ mend (left c v), ?_, rfl, fun to => ⟨hI.size, by show e ≤ v.size; rw [hI.size]; exact h2, hI.len, hI.buf, ⟨pre, ?_, p2, p3⟩, rfl⟩⟩
  · rw [← List.append_assoc, ← hsp]; exact hI.rest
  · show seen ++ (v.chunk.take e).drop v.off = pre ++ v.chunk.take e
    rw [p1, List.append_assoc]
    congr 1
    conv => rhs; rw [← List.take_append_drop v.off (v.chunk.take e)]
    rw [List.take_take, Nat.min_eq_left h1]
theorem inv_char {c : Strm} {v : SV} {seen rest : List Nat} (hI : Inv c v seen rest) (h : v.off < v.chunk.length) :
    ∃ rest', rest = v.chunk[v.off] :: rest' ∧ ∀ to, Inv c { v with off := v.off + 1, to := to } (seen ++ [v.chunk[v.off]]) rest' := by
  obtain ⟨rest', e1, -, e2⟩ := inv_go hI (Nat.le_succ v.off) h
  have e : (v.chunk.take (v.off + 1)).drop v.off = [v.chunk[v.off]] := by
    rw [List.take_succ_eq_append_getElem h, List.drop_append_of_le_length (by rw [List.length_take]; lia), List.drop_of_length_le (by rw [List.length_take]; lia)]
    rfl
  rw [show v.off.succ = v.off + 1 from rfl] at e1 e2
  rw [e] at e1 e2
  exact ⟨rest', e1, e2⟩
theorem inv_unget {c : Strm} {v : SV} {seen rest : List Nat} {x : Nat} (hI : Inv c v (seen ++ [x]) rest) (h : 0 < v.off) :
    v.chunk[v.off - 1]? = some x ∧ ∀ to, Inv c { v with off := v.off - 1, to := to } seen (x :: rest) := by
  obtain ⟨pre, p1, p2, p3⟩ := hI.ex
  have ho := hI.off
  rw [hI.size] at ho
  have hlt : v.off - 1 < v.chunk.length := by lia
  have e : v.chunk.take v.off = v.chunk.take (v.off - 1) ++ [v.chunk[v.off - 1]] := by
    conv => lhs; rw [show v.off = v.off - 1 + 1 by lia]
    exact List.take_succ_eq_append_getElem hlt
  rw [e, ← List.append_assoc] at p1
  obtain ⟨q1, q2⟩ := List.append_inj' p1 rfl
  have q3 : x = v.chunk[v.off - 1] := (List.cons.inj q2).1
  refine ⟨by rw [List.getElem?_eq_getElem hlt, q3], fun to => ⟨hI.size, by show v.off - 1 ≤ v.size; rw [hI.size]; lia, hI.len, hI.buf, ⟨pre, q1, p2, p3⟩, ?_⟩⟩
  show x :: rest = v.chunk.drop (v.off - 1) ++ mend (left c v)
  rw [List.drop_eq_getElem_cons hlt, show v.off - 1 + 1 = v.off by lia, q3, hI.rest]
  rfl
theorem inv_place {c : Strm} {v : SV} {seen rest : List Nat} (hI : Inv c v seen rest) :
    v.pl + ((v.chunk.take v.off).count 10 : Nat) = (seen.count 10 : Nat) ∧ colOf v.chunk v.pc v.off = (tailLen seen : Nat) := by
  obtain ⟨pre, p1, p2, p3⟩ := hI.ex
  have ho := hI.off
  rw [hI.size] at ho
  constructor
  · rw [p1, p2, List.count_append]; lia
  · rw [p3, p1, col_app _ _ _ ho]
end Mine
end
section
open PySem PySem.W PySem.Calls PyProof.Rows PySem.Spec
namespace Mine
theorem join0s : ∀ ys : List Str, Str.join (tx []) ys = tx (ys.flatMap fun y => y.cps.toList)
  | [] => rfl
  | x :: r => by
    have h := PyProof.Rows.join_nil_cons x r
    have ih := join0s r
    show Str.join (tx []) (x :: r) = tx (x.cps.toList ++ r.flatMap fun y => y.cps.toList)
    rw [← tx_append, ← ih, tx_of]
    exact h
theorem join0 (ys : List Str) : Txt.join (tx []) ys = tx (ys.flatMap fun y => y.cps.toList) := (StrLaws.glued_eq_join _ _).trans (join0s ys)
theorem StrsAre.push {vs : List Value} {ys : List Str} (h : StrsAre vs ys) (y : Str) (t : Tok) : StrsAre (vs ++ [.str y t]) (ys ++ [y]) := by
  induction h with
  | nil => exact .cons y t .nil
  | cons z u _ ih => exact .cons z u ih
/-- the list of texts its, which joined are the letters acc -/
structure Pile (its : Array Value) (acc : List Nat) : Prop where
  ex : ∃ ys, StrsAre its.toList ys ∧ ys.flatMap (fun y => y.cps.toList) = acc ∧ (ys.map (·.length)).sum = acc.length ∧ ys.length = its.size
theorem Pile.nil : Pile #[] [] := ⟨[], .nil, rfl, rfl, rfl⟩
theorem Pile.push {its : Array Value} {acc : List Nat} (h : Pile its acc) (p : List Nat) (t : Tok) : Pile (its.push (.str (tx p) t)) (acc ++ p) := by
  obtain ⟨ys, h1, h2, h3, h4⟩ := h.ex
  refine ⟨ys ++ [tx p], ?_, ?_, ?_, ?_⟩
  · rw [Array.toList_push]; exact StrsAre.push h1 _ _
  · rw [List.flatMap_append, h2]; simp [tx_toList]
  · rw [List.map_append, List.sum_append, h3, List.length_append]; simp [tx_length]
  · rw [List.length_append, h4, Array.size_push]; rfl
/-- what charsUntil keeps from turn to turn -/
structure Got (c : Strm) (v : SV) (its : Array Value) (seen rest acc rest' : List Nat) : Prop where
  inv : Inv c v (seen ++ acc) rest'
  split : rest = acc ++ rest'
  no : 38 ∉ acc
  pile : Pile its acc
theorem inv_len {c : Strm} {v : SV} {seen rest : List Nat} (hI : Inv c v seen rest) (hx : c.text.length ≤ 1000) : rest.length ≤ 2002 ∧ (left c v).length ≤ 1001 := by
  have h1 : (left c v).length ≤ 1001 := by
    unfold left
    rw [List.length_append, List.length_drop]
    have : (bufL v.buf).length ≤ 1 := by
      rcases hI.buf with h | ⟨tb, h⟩
      · rw [h]; exact Nat.zero_le _
      · rw [h]; exact Nat.le_refl _
    lia
  refine ⟨?_, h1⟩
  rw [hI.rest, List.length_append, List.length_drop]
  have := mend_len (left c v)
  have := hI.len
  lia
theorem got_go {c : Strm} {v : SV} {its : Array Value} {seen rest acc rest' : List Nat} (G : Got c v its seen rest acc rest') {e : Nat} (h1 : v.off ≤ e) (h2 : e ≤ v.chunk.length) (h38 : ∀ j, v.off ≤ j → j < e → v.chunk[j]? ≠ some 38) :
    ∃ rest'', rest'' = v.chunk.drop e ++ mend (left c v) ∧ ∀ to t, Got c { v with off := e, to := to } (its.push (.str (tx ((v.chunk.take e).drop v.off)) t)) seen rest (acc ++ (v.chunk.take e).drop v.off) rest'' := by
  obtain ⟨rest'', e1, e2, e3⟩ := inv_go G.inv h1 h2
  refine ⟨rest'', e2, fun to t => ⟨by rw [← List.append_assoc]; exact e3 to, by rw [List.append_assoc, ← e1]; exact G.split, ?_, G.pile.push _ _⟩⟩
  intro h
  rcases List.mem_append.mp h with h | h
  · exact G.no h
  · obtain ⟨k, hk⟩ := List.mem_iff_getElem?.mp h
    rw [List.getElem?_drop] at hk
    have hlt : v.off + k < e := by
      have := (List.getElem?_eq_some_iff.mp hk).1
      rw [List.length_take] at this
      lia
    rw [List.getElem?_take_of_lt hlt] at hk
    exact h38 _ (by lia) hlt hk
theorem any38 {chunk : List Nat} {i : Nat} (h : i < chunk.length) : (([tx [38]].any fun x => x == Txt.item (tx chunk) (i : Int)) == false) = !decide (chunk[i]? = some 38) := by
  rw [item_nat chunk i h, List.any_cons, List.any_nil, Bool.or_false, tx_beq, List.getElem?_eq_getElem h]
  by_cases hq : chunk[i] = 38
  · rw [hq]; decide
  · rw [decide_eq_false (fun e => hq (List.cons.inj e).1.symm), decide_eq_false (fun e => hq (Option.some.inj e))]; rfl
theorem inv_head {c : Strm} {v : SV} {seen rest : List Nat} (hI : Inv c v seen rest) (h : v.chunk[v.off]? = some 38) : ∃ r2, rest = 38 :: r2 := by
  obtain ⟨h1, h2⟩ := List.getElem?_eq_some_iff.mp h
  rw [hI.rest, List.drop_eq_getElem_cons h1, h2]
  exact ⟨_, rfl⟩
theorem got_next {c : Strm} {v v' : SV} {its : Array Value} {seen rest acc rest' rest'' : List Nat} (G : Got c v its seen rest acc rest') (h38 : ∀ j, v.off ≤ j → j < v.chunk.length → v.chunk[j]? ≠ some 38)
    (hI : Inv c v' ((seen ++ acc) ++ v.chunk.drop v.off) rest'') (he : rest' = v.chunk.drop v.off ++ rest'') (t : Tok) : Got c v' (its.push (.str (tx (v.chunk.drop v.off)) t)) seen rest (acc ++ v.chunk.drop v.off) rest'' := by
  refine ⟨by rw [← List.append_assoc]; exact hI, by rw [List.append_assoc, ← he]; exact G.split, ?_, G.pile.push _ _⟩
  intro h
  rcases List.mem_append.mp h with h | h
  · exact G.no h
  · obtain ⟨k, hk⟩ := List.mem_iff_getElem?.mp h
    rw [List.getElem?_drop] at hk
    exact h38 _ (by lia) (List.getElem?_eq_some_iff.mp hk).1 hk
theorem Strm.above (c : Strm) (v : SV) (h : c.Ord) {D : Nat} (hD : c.ds < D) : D ∉ (c.led v).map (·.1) := by
  obtain ⟨h1, h2, h3, h4⟩ := h
  intro hm
  simp only [Strm.led, List.map_cons, List.map_nil, List.mem_cons, List.not_mem_nil, or_false] at hm
  rcases hm with e | e | e | e | e <;> (have e' : @Eq Nat D _ := e; lia)
theorem News.onto {h₀ h h' : Heap} {L : Addr} {foot foot' : List (Addr × Obj)} (pre : List (Addr × Obj)) (N : News h₀ L h (pre ++ foot)) (K : Keep h h' (foot.map (·.1))) (N' : News h₀ L h' foot') (hd : ∀ p ∈ pre, p.1 ∉ foot.map (·.1)) : News h₀ L h' (pre ++ foot') := fun p hp => by
  rcases List.mem_append.mp hp with hp | hp
  · obtain ⟨a, b, c⟩ := N p (List.mem_append.mpr (.inl hp))
    exact ⟨K _ _ a (hd p hp), b, c⟩
  · exact N' p hp
theorem any38t {chunk : List Nat} {i : Nat} (h : i < chunk.length) (e : (([tx [38]].any fun x => x == Txt.item (tx chunk) (i : Int)) == false) = true) : chunk[i]? ≠ some 38 := by
  rw [any38 h] at e
  intro hq
  rw [hq] at e
  exact absurd e (by decide)
theorem any38f {chunk : List Nat} {i : Nat} (h : i < chunk.length) (e : (([tx [38]].any fun x => x == Txt.item (tx chunk) (i : Int)) == false) = false) : chunk[i]? = some 38 := by
  rw [any38 h] at e
  by_cases hq : chunk[i]? = some 38
  · exact hq
  · rw [decide_eq_false hq] at e
    exact absurd e (by decide)
end Mine
end
section
open PySem PySem.W PySem.Calls PyProof.Rows PySem.Spec
namespace Mine
open Mine.Top (KW)
open PySem.Challenge (pw_te0025_01 rw_te0025_01)
/-- the names with their signs: letters of the name, its token, letters of the sign, its token -/
noncomputable def entL : List (List Nat × Nat × List Nat × Nat) := [
  ([65, 77, 80], 299, [38], 300),
  ([65, 77, 80, 59], 302, [38], 303),
  ([69, 97, 99, 117, 116, 101], 305, [201], 306),
  ([69, 97, 99, 117, 116, 101, 59], 308, [201], 309),
  ([77, 111, 112, 102, 59], 311, [120132], 312),
  ([97, 99, 59], 314, [8766], 315),
  ([97, 99, 69, 59], 317, [8766, 819], 318),
  ([97, 99, 117, 116, 101], 320, [180], 321),
  ([97, 99, 117, 116, 101, 59], 323, [180], 324),
  ([97, 109, 112], 326, [38], 327),
  ([97, 109, 112, 59], 329, [38], 330),
  ([97, 110, 103, 59], 332, [8736], 333),
  ([97, 110, 103, 108, 101, 59], 335, [8736], 336),
  ([98, 110, 101, 59], 338, [61, 8421], 339),
  ([99, 111, 112, 121], 341, [169], 342),
  ([99, 111, 112, 121, 59], 344, [169], 345),
  ([101, 97, 99, 117, 116, 101], 347, [233], 348),
  ([101, 97, 99, 117, 116, 101, 59], 350, [233], 351),
  ([102, 114, 97, 99, 49, 50], 353, [189], 354),
  ([102, 114, 97, 99, 49, 50, 59], 356, [189], 357),
  ([103, 116], 359, [62], 360),
  ([103, 116, 59], 362, [62], 363),
  ([108, 116], 365, [60], 366),
  ([108, 116, 59], 368, [60], 369),
  ([110, 98, 115, 112], 371, [160], 372),
  ([110, 98, 115, 112, 59], 374, [160], 375),
  ([110, 111, 116], 377, [172], 378),
  ([110, 111, 116, 59], 380, [172], 381),
  ([110, 111, 116, 105, 110, 59], 383, [8713], 384),
  ([110, 111, 116, 110, 105, 59], 386, [8716], 387),
  ([112, 97, 114, 97], 389, [182], 390),
  ([112, 97, 114, 97, 59], 392, [182], 393),
  ([112, 97, 114, 97, 108, 108, 101, 108, 59], 395, [8741], 396),
  ([113, 117, 111, 116], 398, [34], 399),
  ([113, 117, 111, 116, 59], 401, [34], 402),
  ([115, 117, 112, 49], 403, [185], 404),
  ([115, 117, 112, 49, 59], 405, [185], 406),
  ([115, 117, 112, 50], 407, [178], 408),
  ([115, 117, 112, 50, 59], 409, [178], 410),
  ([115, 117, 112, 59], 411, [8835], 412),
  ([116, 105, 109, 101, 115], 413, [215], 414),
  ([116, 105, 109, 101, 115, 59], 415, [215], 416),
  ([116, 105, 109, 101, 115, 98, 59], 417, [8864], 418)]
noncomputable def entE (P : Params) : List DictEntry := entL.map fun p => ⟨PyData.keyHash P (tx p.1), .str (tx p.1) p.2.1, .str (tx p.2.2.1) p.2.2.2⟩
theorem ent_obj (P : Params) : (KW P).lookup 43 = some ⟨.type "dict", none, .dict (entE P).toArray 43, #[]⟩ := by kernel_rfl
theorem keys_obj (P : Params) : (KW P).lookup 243 = some ⟨.type "list", none, .seq (entL.map fun p => Value.str (tx p.1) p.2.1).toArray 2, #[]⟩ := by kernel_rfl
theorem lit_map (P : Params) : ∀ l : List (List Nat × Nat × List Nat × Nat), KeysLit P (l.map fun p => (⟨PyData.keyHash P (tx p.1), .str (tx p.1) p.2.1, .str (tx p.2.2.1) p.2.2.2⟩ : DictEntry))
  | [] => trivial
  | _ :: r => ⟨⟨_, _, rfl, rfl⟩, lit_map P r⟩
theorem ent_lit (P : Params) : KeysLit P (entE P).toArray.toList := lit_map P entL
/-- the sign of the name l -/
noncomputable def entV (l : List Nat) : Option Value := (entL.find? fun p => p.1 == l).map fun p => .str (tx p.2.2.1) p.2.2.2
theorem find_map (P : Params) (l : List Nat) : ∀ r : List (List Nat × Nat × List Nat × Nat),
    (r.map fun p => (⟨PyData.keyHash P (tx p.1), .str (tx p.1) p.2.1, .str (tx p.2.2.1) p.2.2.2⟩ : DictEntry)).find? (·.key.isStr (tx l)) = (r.find? fun p => p.1 == l).map fun p => (⟨PyData.keyHash P (tx p.1), .str (tx p.1) p.2.1, .str (tx p.2.2.1) p.2.2.2⟩ : DictEntry) := by
  intro r
  induction r with
  | nil => rfl
  | cons p r ih =>
    rw [List.map_cons, List.find?_cons, List.find?_cons]
    have e : (Value.str (tx p.1) p.2.1).isStr (tx l) = (p.1 == l) := by
      show (tx p.1 == tx l) = (p.1 == l)
      rw [tx_beq]
      by_cases h : p.1 = l
      · rw [h]; simp
      · simp [h]
    dsimp only
    rw [e]
    cases p.1 == l with
    | true => rfl
    | false => exact ih
theorem ent_find (P : Params) (l : List Nat) : nsIn (KW P) 43 (tx l) = some (entV l) := by
  unfold nsIn
  rw [ent_obj]
  dsimp only
  have h := find_map P l entL
  show (match (entE P).find? (·.key.isStr (tx l)) with | some e => some (some e.val) | none => if (entE P).any (·.refKey) then none else some none) = _
  unfold entE
  rw [h]
  unfold entV
  cases entL.find? fun p => p.1 == l with
  | some p => rfl
  | none => rfl
end Mine
end
section
open PySem PySem.W PySem.Calls PyProof.Rows PySem.Spec
namespace Mine
theorem entL_len : entL.length = 43 := by decide +kernel
theorem ent_at {i : Nat} (h : i < 43) : ∃ p, entL[i]? = some p := by
  cases q : entL[i]? with
  | some p => exact ⟨p, rfl⟩
  | none => have := List.getElem?_eq_none_iff.mp q; rw [entL_len] at this; lia
theorem mid_eq (lo hi : Nat) : Int.fdiv ((lo : Int) + (hi : Int)) 2 = (((lo + hi) / 2 : Nat) : Int) := by
  rw [Int.fdiv_eq_ediv_of_nonneg _ (by decide)]
  lia
theorem key_at {i : Nat} {p : List Nat × Nat × List Nat × Nat} (h : entL[i]? = some p) : (entL.map fun p => Value.str (tx p.1) p.2.1)[((i : Nat) : Int).toNat]? = some (Value.str (tx p.1) p.2.1) := by
  rw [Int.toNat_natCast, List.getElem?_map, h]; rfl
theorem ent_sorted : entL.Pairwise fun p q => p.1 < q.1 := by decide +kernel
theorem lt_tr {a b c : List Nat} (h : a < b) (h' : b < c) : a < c := List.lt_trans h h'
theorem ent_lt {i k : Nat} {p q : List Nat × Nat × List Nat × Nat} (h : i < k) (hp : entL[i]? = some p) (hq : entL[k]? = some q) : p.1 < q.1 := by
  obtain ⟨h1, e1⟩ := List.getElem?_eq_some_iff.mp hp
  obtain ⟨h2, e2⟩ := List.getElem?_eq_some_iff.mp hq
  have := List.pairwise_iff_getElem.mp ent_sorted i k h1 h2 h
  rw [e1, e2] at this
  exact this
theorem low_step {l : List Nat} {m : Nat} {p : List Nat × Nat × List Nat × Nat} (hp : entL[m]? = some p) (h : p.1 < l) : ∀ i q, i < m + 1 → entL[i]? = some q → q.1 < l := fun i q hi hq => by
  by_cases e : i = m
  · subst e; rw [hp] at hq; cases hq; exact h
  · exact lt_tr (ent_lt (by lia) hq hp) h
theorem high_step {l : List Nat} {m : Nat} {p : List Nat × Nat × List Nat × Nat} (hp : entL[m]? = some p) (h : ¬ p.1 < l) : ∀ i q, m ≤ i → entL[i]? = some q → ¬ q.1 < l := fun i q hi hq hl => by
  by_cases e : i = m
  · subst e; rw [hp] at hq; cases hq; exact h hl
  · exact h (lt_tr (ent_lt (by lia) hp hq) hl)
end Mine
end
section
open PySem PySem.W PySem.Calls PyProof.Rows PySem.Spec
namespace Mine
/-- some name begins with l -/
noncomputable def hasPre (l : List Nat) : Bool := entL.any fun p => l.isPrefixOf p.1
theorem pre_between : ∀ (l p s : List Nat), ¬ p < l → ¬ (l ++ s) < p → l <+: p
  | [], p, _, _, _ => List.nil_prefix
  | a :: l, [], _, h, _ => absurd (List.nil_lt_cons a l) h
  | a :: l, b :: p, s, h1, h2 => by
    rw [List.cons_lt_cons_iff] at h1
    rw [List.cons_append, List.cons_lt_cons_iff] at h2
    have e : a = b := by lia
    subst e
    obtain ⟨t, ht⟩ := pre_between l p s (fun h => h1 (.inr ⟨rfl, h⟩)) (fun h => h2 (.inr ⟨rfl, h⟩))
    exact ⟨t, by rw [List.cons_append, ht]⟩
theorem not_app_lt : ∀ (l s : List Nat), ¬ (l ++ s) < l
  | [], s => List.not_lt_nil s
  | a :: l, s => by
    rw [List.cons_append, List.cons_lt_cons_iff]
    rintro (h | ⟨_, h⟩)
    · lia
    · exact not_app_lt l s h
theorem not_lt_of_lt {a b : List Nat} (h : a < b) : ¬ b < a := fun h' => List.lt_irrefl a (List.lt_trans h h')
theorem has_ex {l : List Nat} (h : hasPre l = true) : ∃ (k : Nat) (q : List Nat × Nat × List Nat × Nat) (s : List Nat), entL[k]? = some q ∧ q.1 = l ++ s := by
  obtain ⟨q, hq, hp⟩ := List.any_eq_true.mp h
  obtain ⟨k, hk⟩ := List.mem_iff_getElem?.mp hq
  obtain ⟨s, hs⟩ := List.isPrefixOf_iff_prefix.mp hp
  exact ⟨k, q, s, hk, hs.symm⟩
theorem has_of {l : List Nat} {k : Nat} {q : List Nat × Nat × List Nat × Nat} (h : entL[k]? = some q) (hp : l <+: q.1) : hasPre l = true :=
  List.any_eq_true.mpr ⟨q, List.mem_of_getElem? h, List.isPrefixOf_iff_prefix.mpr hp⟩
theorem has_name {l : List Nat} (h : (entV l).isSome = true) : hasPre l = true := by
  unfold entV at h
  rw [Option.isSome_map, List.find?_isSome] at h
  obtain ⟨q, hq, hp⟩ := h
  obtain ⟨k, hk⟩ := List.mem_iff_getElem?.mp hq
  exact has_of hk (by rw [beq_iff_eq.mp hp]; exact List.prefix_rfl)
theorem has_end {l : List Nat} (h : ∀ i q, i < 43 → entL[i]? = some q → q.1 < l) : hasPre l = false := by
  cases hq : hasPre l with
  | false => rfl
  | true =>
    obtain ⟨k, q, s, hk, hs⟩ := has_ex hq
    have hl := (List.getElem?_eq_some_iff.mp hk).1
    rw [entL_len] at hl
    have := h k q hl hk
    rw [hs] at this
    exact absurd this (not_app_lt _ _)
theorem has_at {l : List Nat} {j : Nat} {p : List Nat × Nat × List Nat × Nat} (h1 : ∀ i q, i < j → entL[i]? = some q → q.1 < l) (h2 : ∀ i q, j ≤ i → entL[i]? = some q → ¬ q.1 < l) (hp : entL[j]? = some p) : l.isPrefixOf p.1 = hasPre l := by
  cases hq : hasPre l with
  | true =>
    obtain ⟨k, q, s, hk, hs⟩ := has_ex hq
    refine List.isPrefixOf_iff_prefix.mpr (pre_between l p.1 s (h2 j p (Nat.le_refl _) hp) ?_)
    have hjk : j ≤ k := by
      apply Classical.byContradiction
      intro hn
      have := h1 k q (by lia) hk
      rw [hs] at this
      exact not_app_lt _ _ this
    rw [← hs]
    by_cases e : j = k
    · subst e; rw [hp] at hk; cases hk; exact List.lt_irrefl _
    · exact not_lt_of_lt (ent_lt (by lia) hp hk)
  | false =>
    cases hz : l.isPrefixOf p.1 with
    | false => rfl
    | true => rw [has_of hp (List.isPrefixOf_iff_prefix.mp hz)] at hq; cases hq
theorem sw_tx (l p : List Nat) : Txt.startswith (tx l) (tx p) = p.isPrefixOf l := by
  by_cases hp : p = []
  · subst hp
    unfold Txt.startswith
    rw [StrLaws.subAt_eq]
    simp [tx_length, tx_toList]
  · have h := at_iff (tx l) p l.length 0 (Nat.le_refl _) hp
    rw [List.drop_zero, Nat.sub_zero, tx_toList, List.take_of_length_le (Nat.le_refl _)] at h
    apply Bool.eq_iff_iff.mpr
    unfold Txt.startswith
    rw [Bool.and_eq_true, decide_eq_true_eq]
    exact h
theorem sw_nil (l : List Nat) : Txt.startswith (tx l) (Str.ofString "") = true := by
  rw [lit_nil, sw_tx]; rfl
theorem keys_size : (((entL.map fun p => Value.str (tx p.1) p.2.1).toArray.size : Nat) : Int) = 43 := by
  rw [List.size_toArray, List.length_map, entL_len]; rfl
end Mine
end
section
open PySem PySem.W PySem.Calls PyProof.Rows PySem.Spec
namespace Mine
/-- the longest of the first k letters' beginnings that is a name -/
noncomputable def bestAt (l : List Nat) : Nat → Option (List Nat)
  | 0 => none
  | k + 1 => if (entV (l.take (k + 1))).isSome then some (l.take (k + 1)) else bestAt l k
noncomputable def bestPre (l : List Nat) : Option (List Nat) := bestAt l l.length
theorem entV_nil : (entV []).isSome = false := by decide +kernel
theorem best_hit {l : List Nat} {k : Nat} (h : (entV (l.take k)).isSome = true) : bestAt l k = some (l.take k) := by
  cases k with
  | zero => rw [List.take_zero, entV_nil] at h; cases h
  | succ k => rw [bestAt, if_pos h]
theorem best_step {l : List Nat} {k : Nat} (h : (entV (l.take k)).isSome = false) : bestAt l k = bestAt l (k - 1) := by
  cases k with
  | zero => rfl
  | succ k => rw [bestAt, if_neg (by rw [h]; decide)]; rfl
theorem best_le {l b : List Nat} : ∀ k : Nat, bestAt l k = some b → b.length ≤ l.length ∧ (entV b).isSome = true ∧ b <+: l
  | 0, h => by cases h
  | k + 1, h => by
    rw [bestAt] at h
    split at h
    · rename_i hs
      cases h
      exact ⟨by rw [List.length_take]; lia, hs, List.take_prefix _ _⟩
    · exact best_le k h
end Mine
end
section
open PySem PySem.W PySem.Calls PyProof.Rows PySem.Spec
namespace Mine
open Mine.Top (KW)
open PySem.Challenge (pw_te0025_01 rw_te0025_01)
/-- a contract of a function that turns nothing and may raise KeyError -/
noncomputable def CtrX (w : World) (f : Addr) (args : List Value) (D : Nat) (post : Value → Prop) (bad : Prop) : Prop :=
  ∀ (dp un : Nat) (gd : Option (List Code)) (cn : Str) (cs : Scope) (a : Addr) (ccd : Value) (cl : List (Str × Addr)) (outer : List Env) (A₀ : Around) (base h₀ : Heap) (L : Addr) (m : Str → Option Value) (s : Shared) (mean : ExcName → Option Value) (mg mb : Str → Option Value) (news : List (Addr × Obj))
    (R : Result → Shared → Prop),
    Below A₀ base outer h₀ → Fr h₀ L s.heap m → (KW w.params).In h₀ → News h₀ L s.heap news → TopQ mean mg mb h₀ → cs.kind = .function → dp + D < recursionLimit → un + 8 * D < cLine → 0 < s.toks →
    (∀ v h' tk', post v → Fr h₀ L h' m → News h₀ L h' news → R (.ok (.ret v)) { s with heap := h', toks := tk' }) →
    (∀ e G h' tk', bad → Fr h₀ L G m → RaisedSN base G (envX cn cs L a ccd cl :: outer) e (.type "KeyError") news h' → G.UpToSlots h' → R (.error (.ref e)) { s with heap := h', toks := tk' }) →
    codeAny (model pw_te0025_01 w) (ktrTop dp un gd cn cs L a ccd cl outer) (.call (.ref f) ⟨args, []⟩) R s

/-- the body raised -/
noncomputable def Bad (g : Heap) (L' : Addr) (bad : Prop) (s : Shared) (e : Value) (s' : Shared) : Prop :=
  bad ∧ ∃ er h m', e = .ref er ∧ (∃ h' tk', s' = { s with heap := h', toks := tk' }) ∧ Fr g L' h m' ∧ Heap.NewExc h s'.heap er "KeyError"

theorem enterX {w : World} {dp un : Nat} {gd : Option (List Code)} {cn : Str} {cs : Scope} {a : Addr} {ccd : Value} {cl : List (Str × Addr)} {outer : List Env} {A₀ : Around} {base h₀ : Heap} {L : Addr} {m : Str → Option Value} {s : Shared} {mean : ExcName → Option Value} {mg mb : Str → Option Value}
    {R : Result → Shared → Prop} {news : List (Addr × Obj)} {post : Value → Prop} {bad : Prop} {f : Addr} {args : List Value}
    {name qual : Str} {po pa ko : List Arg} {va vk : Option Arg} {kd : List (Option PySem.Expr)} {ds : List PySem.Expr} {st₀ : Stmt} {sts : List Stmt} {names : List (Str × NameKind)} {more : List (Str × Const)} {dV kV doc pm cdv ct oc : Value} {an od : Option Addr} {osl : Array (Option Value)} {binds : List (Str × Value)}
    (B : Below A₀ base outer h₀) (F : Fr h₀ L s.heap m) (X : (KW w.params).In h₀) (N : News h₀ L s.heap news) (T : TopQ mean mg mb h₀) (hke : cs.kind = .function)
    (ret : ∀ v h' tk', post v → Fr h₀ L h' m → News h₀ L h' news → R (.ok (.ret v)) { s with heap := h', toks := tk' })
    (err : ∀ e G h' tk', bad → Fr h₀ L G m → RaisedSN base G (envX cn cs L a ccd cl :: outer) e (.type "KeyError") news h' → G.UpToSlots h' → R (.error (.ref e)) { s with heap := h', toks := tk' })
    (ho : (KW w.params).lookup f = some ⟨oc, od, .func (fnOf name qual ⟨po, pa, va, ko, kd, vk, ds⟩ (st₀ :: sts) ⟨.function, names, false, false, more⟩ dV kV doc pm an cdv ct), osl⟩) (hcd : codeIn (KW w.params) cdv qual = true) (hroom : dp < recursionLimit)
    (hbind : BindsTo s (fnOf name qual ⟨po, pa, va, ko, kd, vk, ds⟩ (st₀ :: sts) ⟨.function, names, false, false, more⟩ dV kV doc pm an cdv ct) ⟨args, []⟩ binds) (hloc : (binds.all fun x => decide (names.lookup x.1 = some .local)) = true)
    (h : ∀ g L' h₁, Fr g L' h₁ (fun y => binds.reverse.lookup y) → News g L' h₁ [] → Below (ktrTop dp un gd cn cs L a ccd cl outer) base (envX cn cs L a ccd cl :: outer) g → (KW w.params).In g → TopQ mean mg mb g →
      wpAny (model pw_te0025_01 w) ((ktrTop dp un gd cn cs L a ccd cl outer).deeper (envOf qual ⟨.function, names, false, false, more⟩ L' f cdv)) (execs (st₀ :: sts) (envOf qual ⟨.function, names, false, false, more⟩ L' f cdv))
        (fun fl s' => Done g (fun v led => post v ∧ led = []) s (match fl with | .ret v => v | _ => .none) s') (fun e s' => Bad g L' bad s e s') { s with heap := h₁, toks := s.toks + binds.length })
    (hcell : ∀ x ∈ names, x.2 ≠ .cell) :
    codeAny (model pw_te0025_01 w) (ktrTop dp un gd cn cs L a ccd cl outer) (.call (.ref f) ⟨args, []⟩) R s := by
  obtain ⟨FG, BG, st, lv⟩ := groundX (A := ktrTop dp un gd cn cs L a ccd cl outer) (env := envX cn cs L a ccd cl) (R := R) B F (News.nil : News h₀ L s.heap []) rfl rfl hke
  obtain ⟨FH, BH, stH, lvH⟩ := groundX (A := ktrTop dp un gd cn cs L a ccd cl outer) (env := envX cn cs L a ccd cl) (R := R) B F N rfl rfl hke
  have hg0 : ∀ b o, s.heap.get? b = some o → (hideAll s.heap (([] : List (Addr × Obj)).map (·.1))).get? b = some o := fun b o e => hideAll_get _ e (fun h => nomatch h)
  refine codeAny_call_def (fd := fnOf name qual ⟨po, pa, va, ko, kd, vk, ds⟩ (st₀ :: sts) ⟨.function, names, false, false, more⟩ dV kV doc pm an cdv ct) (body := st₀ :: sts) (binds := binds) hroom ((X.keeps F.keep) _ _ ho) rfl (T.nolimit.keeps F.keep) (codeRec_of (X.keeps F.keep) hcd) rfl hbind hcell (fun x hx => of_decide_eq_true (List.all_eq_true.mp hloc x hx)) (fun h₁ hns hk₁ => ?_) rfl rfl rfl
  have FF : Fr (hideAll s.heap (([] : List (Addr × Obj)).map (·.1))) s.heap.objs.size h₁ (fun y => binds.reverse.lookup y) := ⟨hns, fun b o e => hk₁ b o (of_hideAll _ e), Nat.le_of_eq (hideAll_size _ _)⟩
  refine wpAny_mono (h _ s.heap.objs.size h₁ FF News.nil BG (X.keeps st) (T.keeps st)) (fun fl s' hd => ?_) (fun e s' hd => ?_)
  · obtain ⟨foot', h', tk', L', m', rfl, F', N', hp, rfl⟩ := hd
    refine lv _ _ ⟨L', m', [], F', N', fun F₂ _ => ret _ h' tk' hp F₂ fun p hp => ⟨F'.keep _ _ (hg0 _ _ (N p hp).1), (N p hp).2⟩⟩
  · obtain ⟨hbad, er, h2, m', rfl, ⟨h', tk', rfl⟩, F', hx⟩ := hd
    refine leave_newS (m := m') BH hx ⟨F'.ns, fun b o e => F'.keep b o (hg0 _ _ (of_hideAll _ e)), Nat.le_of_eq (hideAll_size _ _)⟩ (fun p hp => ⟨F'.keep _ _ (hg0 _ _ (N p hp).1), Nat.ne_of_lt (Heap.lt_size (N p hp).1), hideAll_none _ (List.mem_map_of_mem hp)⟩) (fun h3 RS _ U => err er _ h3 tk' hbad FH RS U)
theorem flatX {M : Model} {A : Around} {t : Sem Flow} {g h₁ : Heap} {L' : Addr} {bad : Prop} {post : Value → List (Addr × Obj) → Prop} {s : Shared} {n : Nat} (hn : 0 < n)
    (h : ∀ g₉ d₉ os₉ n₉, 0 < n₉ → wpAny M A t (fun fl s' => Done g post ⟨h₁, g₉, d₉, n₉, os₉⟩ (match fl with | .ret v => v | _ => .none) s') (fun e s' => Bad g L' bad ⟨h₁, g₉, d₉, n₉, os₉⟩ e s') ⟨h₁, g₉, d₉, n₉, os₉⟩) :
    wpAny M A t (fun fl s' => Done g post s (match fl with | .ret v => v | _ => .none) s') (fun e s' => Bad g L' bad s e s') ⟨h₁, s.gens, s.drawn, n, s.os⟩ := h s.gens s.drawn s.os n hn
end Mine
end
section
open PySem PySem.W PySem.Calls PyProof.Rows PySem.Spec
namespace Mine
section
variable {prog : Program} {w : World} {A : Around} {E : Value → Shared → Prop} {s : Shared} {env : Env} {h₀ : Heap} {target : PySem.Expr} {body : List Stmt} {Q : Flow → Shared → Prop}
/-- a for loop over a range -/
theorem for_range {r : Addr} {a b c : Int} {t u v : Tok} {n : Nat} {m₀ : Str → Option Value} {led₀ : List (Addr × Obj)} (J : Nat → (Str → Option Value) → List (Addr × Obj) → Prop)
    (hh : A.handled = none) (htgt : ∀ it v, letOwnedTupleGo target it v = pure ()) (hr : IsRange s.heap r a b c t u v) (hsmall : Builtin.Range.small a b c = true) (hn : Builtin.Range.rangeSize a b c = (n : Int))
    (F : Fr h₀ env.locals s.heap m₀) (N : News h₀ env.locals s.heap led₀) (h0 : J 0 m₀ led₀)
    (turn : ∀ i u m₁ led₁ h tk I oI, i < n → J i m₁ led₁ → (∀ p ∈ led₁, p.1 ≠ I) → I = s.heap.objs.size → s.toks ≤ tk → Fr h₀ env.locals h m₁ → News h₀ env.locals h ((I, oI) :: led₁) →
      wpAny (model prog w) A (assign target env (.int (a + (i : Nat) * c) u)) (fun _ s₂ => wpAny (model prog w) A (execs body env) (ForPost h₀ env.locals I oI (J (i + 1)) s Q) E s₂) E { s with heap := h, toks := tk })
    (done : ∀ m₁ led₁ h tk, J n m₁ led₁ → Fr h₀ env.locals h m₁ → News h₀ env.locals h led₁ → Q .next { s with heap := h, toks := tk })
    (hE : PassesOwn (model prog w) A env E) :
    wpAny (model prog w) A (pyIter (.ref r)) (fun it s₂ => codeAny (model prog w) A (.forLoop target it body [] env) (fun r s' => match r with | .ok f => Q f s' | .error e => cameBackBy (model prog w) A env E e s') s₂) E s := by
  refine wpAny_pyIter_range hr hsmall ?_
  have W := Walks.range (prog := prog) (w := w) hh s.heap.objs.size a c n
  refine forW (s := { s with heap := s.heap.push _ }) J W ?_ ?_ ?_ ?_ ?_ ?_ (F.push _) (fun p hp => ⟨Heap.get?_push_of_some _ (N p hp).1, (N p hp).2⟩) ?_ h0 ?_ ?_ done hE
  · exact fun e => absurd F.ns.lt (e ▸ Nat.lt_irrefl _)
  · exact fun i v s' Q' E' st hq => wpAny_of_eq (htgt _ _) hq
  · exact next_is_new F
  · intro b hb hbI
    exact absurd (List.mem_singleton.mp hb) hbI
  · show IsRangeIter _ _ _ _ _
    rw [hn]
    simpa using Heap.get?_push_size _ rfl
  · exact ⟨_, Heap.get?_push_size _ rfl⟩
  · intro p hp e
    exact absurd (Heap.lt_size (N p hp).1) (e ▸ Nat.lt_irrefl _)
  · exact fun i h st => ⟨_, st⟩
  · rintro i v m₁ led₁ h tk oI hi ⟨t', rfl⟩ hJ hne' ht F₁ N₁
    exact turn i t' m₁ led₁ h tk _ oI hi hJ hne' rfl ht F₁ N₁
/-- a for loop over the keys of a dict of texts of the ground -/
theorem for_keys {d : Addr} {kvs : List (Str × Value)} {ep : Nat} {m₀ : Str → Option Value} {led₀ : List (Addr × Obj)} (J : Nat → (Str → Option Value) → List (Addr × Obj) → Prop)
    (hh : A.handled = none) (htgt : ∀ it v, letOwnedTupleGo target it v = pure ()) (lo : (d == sysModules) = false) (hd : s.heap.DictAt (strKind prog w) d kvs ep) (hfix : ∃ o, h₀.get? d = some o)
    (F : Fr h₀ env.locals s.heap m₀) (N : News h₀ env.locals s.heap led₀) (h0 : J 0 m₀ led₀)
    (turn : ∀ i k x t m₁ led₁ h tk I oI, kvs[i]? = some (k, x) → J i m₁ led₁ → (∀ p ∈ led₁, p.1 ≠ I) → I = s.heap.objs.size → s.toks ≤ tk → Fr h₀ env.locals h m₁ → News h₀ env.locals h ((I, oI) :: led₁) →
      wpAny (model prog w) A (assign target env (.str k t)) (fun _ s₂ => wpAny (model prog w) A (execs body env) (ForPost h₀ env.locals I oI (J (i + 1)) s Q) E s₂) E { s with heap := h, toks := tk })
    (done : ∀ m₁ led₁ h tk, J kvs.length m₁ led₁ → Fr h₀ env.locals h m₁ → News h₀ env.locals h led₁ → Q .next { s with heap := h, toks := tk })
    (hE : PassesOwn (model prog w) A env E) :
    wpAny (model prog w) A (pyIter (.ref d)) (fun it s₂ => codeAny (model prog w) A (.forLoop target it body [] env) (fun r s' => match r with | .ok f => Q f s' | .error e => cameBackBy (model prog w) A env E e s') s₂) E s := by
  have hne : d ≠ s.heap.objs.size := by
    obtain ⟨o, _, ho, _⟩ := id hd
    exact Nat.ne_of_lt (Heap.lt_size ho)
  refine wpAny_pyIter_dict lo hd ?_
  have W := Walks.dictKeys (prog := prog) (w := w) (knd := strKind prog w) hh s.heap.objs.size d hne kvs ep
  refine forW (s := { s with heap := s.heap.push _ }) J W ?_ ?_ ?_ ?_ ?_ ?_ (F.push _) (fun p hp => ⟨Heap.get?_push_of_some _ (N p hp).1, (N p hp).2⟩) ?_ h0 ?_ ?_ done hE
  · exact fun e => absurd F.ns.lt (e ▸ Nat.lt_irrefl _)
  · exact fun i v s' Q' E' st hq => wpAny_of_eq (htgt _ _) hq
  · exact next_is_new F
  · intro b hb hbI
    simp only [List.mem_cons, List.not_mem_nil, or_false] at hb
    rcases hb with e | rfl
    · exact absurd e hbI
    · obtain ⟨o, ho⟩ := hfix
      exact ⟨o, .inl ho⟩
  · exact ⟨⟨_, Heap.get?_push_size _ rfl, rfl, rfl⟩, hd.at' fun o e => Heap.get?_push_of_some _ e⟩
  · exact ⟨_, Heap.get?_push_size _ rfl⟩
  · intro p hp e
    exact absurd (Heap.lt_size (N p hp).1) (e ▸ Nat.lt_irrefl _)
  · exact fun i h st => ⟨_, st.1.choose_spec.1⟩
  · rintro i v m₁ led₁ h tk oI hi ⟨k, x, hk, hv⟩ hJ hne' ht F₁ N₁
    obtain ⟨t', rfl⟩ := Value.isStrOf_shape hv
    exact turn i k x t' m₁ led₁ h tk _ oI hk hJ hne' rfl ht F₁ N₁
end
end Mine
end
section
open PySem PySem.W PySem.Calls PyProof.Rows PySem.Spec
namespace Mine
theorem seqs_append {vs : List Value} {ys : List Str} (h : StrsAre vs ys) {ws : List Value} {zs : List Str} (h' : StrsAre ws zs) : StrsAre (vs ++ ws) (ys ++ zs) := by
  induction h with
  | nil => exact h'
  | cons z u _ ih => exact .cons z u ih
/-- letters as texts of one sign -/
noncomputable def sgs (l : List Nat) : List Str := l.map fun x => tx [x]
theorem sgs_flat : ∀ l : List Nat, (sgs l).flatMap (fun y => y.cps.toList) = l
  | [] => rfl
  | x :: r => by
    show [x] ++ (sgs r).flatMap (fun y => y.cps.toList) = x :: r
    rw [sgs_flat r]; rfl
theorem sgs_join (l : List Nat) : Txt.join (tx []) (sgs l) = tx l := by rw [join0, sgs_flat]
theorem sgs_sum : ∀ l : List Nat, ((sgs l).map (·.length)).sum = l.length
  | [] => rfl
  | x :: r => by
    show 1 + ((sgs r).map (·.length)).sum = r.length + 1
    rw [sgs_sum r, Nat.add_comm]
theorem sgs_len (l : List Nat) : (sgs l).length = l.length := List.length_map ..
/-- what char gives: a letter or nothing -/
noncomputable def Ch (last : Option Nat) (lv : Value) : Prop := (last = none ∧ lv = .none) ∨ ∃ x t, last = some x ∧ lv = .str (tx [x]) t
structure Stk (its : Array Value) (pre : List Nat) (last : Option Nat) : Prop where
  ex : ∃ vs lv, its.toList = vs ++ [lv] ∧ StrsAre vs (sgs pre) ∧ Ch last lv
theorem StrsAre.len {vs : List Value} {ys : List Str} (h : StrsAre vs ys) : vs.length = ys.length := by
  induction h with
  | nil => rfl
  | cons _ _ _ ih => rw [List.length_cons, List.length_cons, ih]
theorem Stk.size {its : Array Value} {pre : List Nat} {last : Option Nat} (S : Stk its pre last) : its.size = pre.length + 1 := by
  obtain ⟨vs, lv, h1, h2, -⟩ := S.ex
  rw [← Array.length_toList, h1, List.length_append, StrsAre.len h2, sgs_len]; rfl
theorem Stk.one {last : Option Nat} {lv : Value} (h : Ch last lv) : Stk #[lv] [] last := ⟨[], lv, rfl, .nil, h⟩
theorem Stk.strs {its : Array Value} {pre : List Nat} {x : Nat} (S : Stk its pre (some x)) : StrsAre its.toList (sgs (pre ++ [x])) := by
  obtain ⟨vs, lv, h1, h2, h3⟩ := S.ex
  rcases h3 with ⟨h, _⟩ | ⟨y, t, h, rfl⟩
  · cases h
  · cases h
    rw [h1, sgs, List.map_append]
    exact seqs_append h2 (.cons _ _ .nil)
theorem Stk.push {its : Array Value} {pre : List Nat} {x : Nat} (S : Stk its pre (some x)) {last : Option Nat} {lv : Value} (h : Ch last lv) : Stk (its.push lv) (pre ++ [x]) last :=
  ⟨its.toList, lv, Array.toList_push, S.strs, h⟩
theorem Stk.lastv {its : Array Value} {pre : List Nat} {last : Option Nat} (S : Stk its pre last) : ∃ vs lv, its.toList = vs ++ [lv] ∧ its.toList[its.size - 1]? = some lv ∧ kl_last its.toList = some (vs, lv) ∧ StrsAre vs (sgs pre) ∧ Ch last lv := by
  obtain ⟨vs, lv, h1, h2, h3⟩ := S.ex
  refine ⟨vs, lv, h1, ?_, ?_, h2, h3⟩
  · rw [h1, S.size, Nat.add_sub_cancel, ← sgs_len pre, ← StrsAre.len h2, List.getElem?_append_right (Nat.le_refl _), Nat.sub_self]; rfl
  · rw [h1]
    clear h1 h2
    induction vs with
    | nil => rfl
    | cons a r ih => rw [List.cons_append, kl_last, ih]
theorem pick_but {its : Array Value} {vs : List Value} {lv : Value} (h : its.toList = vs ++ [lv]) : (slicePick its none (some (-1)) none) = vs.toArray := by
  have hs : its.size = vs.length + 1 := by rw [← Array.length_toList, h, List.length_append]; rfl
  have e : sliceBounds none (some (-1)) none its.size = (((0 : Nat) : Int), ((its.size - 1 : Nat) : Int), 1) := by
    simp only [sliceBounds, Option.getD_none, show (1 : Int) > 0 by decide, if_true, if_pos (show (-1 : Int) < 0 by decide)]
    refine Prod.ext rfl (Prod.ext ?_ rfl)
    dsimp only
    lia
  rw [kmk_pick_nat its e, h, hs, List.drop_zero, Nat.sub_zero, Nat.add_sub_cancel, List.take_left]
theorem pick_from (its : Array Value) (k : Nat) (hk : k ≤ its.size) : (slicePick its (some (k : Int)) none none) = (its.toList.drop k).toArray := by
  have e : sliceBounds (some (k : Int)) none none its.size = ((k : Int), ((its.size : Nat) : Int), 1) := by
    simp only [sliceBounds, Option.getD_none, show (1 : Int) > 0 by decide, if_true, if_neg (show ¬ ((k : Int) < 0) by lia)]
    refine Prod.ext ?_ (Prod.ext rfl rfl)
    dsimp only
    lia
  rw [kmk_pick_nat its e, List.take_of_length_le]
  rw [List.length_drop, Array.length_toList]
  exact Nat.le_refl _
theorem StrsAre.drop : ∀ {vs : List Value} {ys : List Str}, StrsAre vs ys → ∀ k : Nat, StrsAre (vs.drop k) (ys.drop k)
  | _, _, h, 0 => h
  | _, _, .nil, _ + 1 => .nil
  | _, _, .cons _ _ h, k + 1 => StrsAre.drop h k
theorem sgs_drop (l : List Nat) (k : Nat) : (sgs l).drop k = sgs (l.drop k) := by unfold sgs; rw [List.map_drop]
/-- how far the letters go along with some name -/
noncomputable def goOn : List Nat → List Nat → Nat
  | _, [] => 0
  | pre, x :: r => if hasPre (pre ++ [x]) then goOn (pre ++ [x]) r + 1 else 0
noncomputable def alongOf (rest : List Nat) : Nat := goOn [] rest
theorem go_le : ∀ (r pre : List Nat), goOn pre r ≤ r.length
  | [], _ => Nat.le_refl _
  | x :: r, pre => by
    unfold goOn
    split
    · have := go_le r (pre ++ [x]); rw [List.length_cons]; lia
    · exact Nat.zero_le _
theorem go_end : ∀ (r pre : List Nat), hasPre (pre ++ r) = true → goOn pre r = r.length
  | [], _, _ => rfl
  | x :: r, pre, h => by
    have h1 : hasPre (pre ++ [x]) = true := by
      obtain ⟨k, q, s, hk, hs⟩ := has_ex h
      exact has_of hk ⟨r ++ s, by rw [hs]; simp⟩
    rw [goOn, if_pos h1, go_end r (pre ++ [x]) (by simpa using h)]
    rfl
theorem go_stop : ∀ (r pre : List Nat) (x : Nat) (t : List Nat), hasPre (pre ++ r) = true → hasPre (pre ++ r ++ [x]) = false → goOn pre (r ++ x :: t) = r.length
  | [], pre, x, t, _, h => by
    rw [List.nil_append, goOn, if_neg (by rw [List.append_nil] at h; rw [h]; decide)]; rfl
  | y :: r, pre, x, t, h, h' => by
    have h1 : hasPre (pre ++ [y]) = true := by
      obtain ⟨k, q, s, hk, hs⟩ := has_ex h
      exact has_of hk ⟨r ++ s, by rw [hs]; simp⟩
    rw [List.cons_append, goOn, if_pos h1, go_stop r (pre ++ [y]) x t (by simpa using h) (by simpa using h')]
    rfl
/-- the reference goes no further: a blank, a sign, the closing sign, the end -/
noncomputable def stops (cl : Option Nat) : List Nat → Bool
  | [] => true
  | x :: _ => [9, 10, 12, 32, 13, 60, 38].contains x || cl == some x
/-- letters and figures and = -/
noncomputable def wordly (x : Nat) : Bool := (decide (48 ≤ x) && decide (x ≤ 57)) || (decide (65 ≤ x) && decide (x ≤ 90)) || (decide (97 ≤ x) && decide (x ≤ 122)) || x == 61
noncomputable def wordlyAt : Option Nat → Bool
  | some x => wordly x
  | none => false
noncomputable def signOf (b : List Nat) : List Nat := ((entL.find? fun p => p.1 == b).map fun p => p.2.2.1).getD []
/-- what a reference comes to: its text, the fault, what it reads -/
noncomputable def refOut (cl : Option Nat) (inside : Bool) (rest : List Nat) : List Nat × Option Str × Nat :=
  if stops cl rest then ([38], none, 0) else
  match bestPre (rest.take (alongOf rest)) with
  | none => (38 :: rest.take (alongOf rest), some (Str.ofString "expected-named-entity"), alongOf rest)
  | some b =>
    if b.getLast? = some 59 then (signOf b ++ (rest.take (alongOf rest)).drop b.length, none, alongOf rest)
    else if inside && wordlyAt rest[b.length]? then (38 :: rest.take (alongOf rest), some (Str.ofString "named-entity-without-semicolon"), alongOf rest)
    else (signOf b ++ (rest.take (alongOf rest)).drop b.length, some (Str.ofString "named-entity-without-semicolon"), alongOf rest)
end Mine
end
section
open PySem PySem.W PySem.Calls PyProof.Rows PySem.Spec
namespace Mine
open Mine.Top (KW)
open PySem.Challenge (pw_te0025_01 rw_te0025_01)
noncomputable def eqOf (x y : Value) : Bool := match y, x with
  | .none, .none => true
  | .str a _, .str b _ => a == b
  | _, _ => false
noncomputable def Flatv (x : Value) : Prop := x = .none ∨ ∃ a t, x = .str a t
theorem eq_flat {x y : Value} (hx : Flatv x) (hy : Flatv y) : MeetsSeq.EqGives y x (eqOf x y) := fun prog w A E s Q h => by
  rcases hx with rfl | ⟨a, t, rfl⟩ <;> rcases hy with rfl | ⟨b, u, rfl⟩
  · exact SeqAt.EqAt.same .none prog w E Q h
  · exact SeqAt.EqAt.str_none b u prog w E Q h
  · exact SeqAt.EqAt.none_str a t prog w E Q h
  · exact SeqAt.EqAt.str_str b u a t prog w E Q h
section
variable {prog : Program} {w : World} {A : Around} {E : Value → Shared → Prop} {s : Shared} {Q : Value → Shared → Prop} {h₀ : Heap} {L : Addr} {m : Str → Option Value}
theorem in_flat {l : Addr} {items : Array Value} {n : Nat} {x : Value} (hx : Flatv x) (hf : ∀ y, y ∈ items → Flatv y)
    (hl : s.heap.get? l = some { cls := .type "tuple", dict := none, data := .seq items n, slots := #[] }) (h : Q (.bool (items.any (eqOf x))) s) : wpAny (model prog w) A (compareOp .In x (.ref l)) Q E s :=
  SeqRoads2.in_tuple (eqOf x) (fun y hy => eq_flat hx (hf y hy)) hl h
/-- texts of one sign, as values -/
noncomputable def sgv (l : List (Nat × Nat)) : List Value := l.map fun p => .str (tx [p.1]) p.2
theorem sgv_any (l : List (Nat × Nat)) (y : List Nat) (t : Tok) : (sgv l).toArray.any (eqOf (.str (tx y) t)) = l.any fun p => [p.1] == y := by
  rw [List.any_toArray]
  induction l with
  | nil => rfl
  | cons p r ih =>
    show (tx [p.1] == tx y || (sgv r).any (eqOf (.str (tx y) t))) = _
    rw [ih, List.any_cons, tx_beq]
    by_cases h : [p.1] = y
    · rw [h]; simp
    · simp [h]
theorem sgv_none (l : List (Nat × Nat)) : (sgv l).toArray.any (eqOf .none) = false := by
  rw [List.any_toArray]
  induction l with
  | nil => rfl
  | cons p r ih => exact ih
theorem sgv_flat (l : List (Nat × Nat)) : ∀ y, y ∈ (sgv l).toArray → Flatv y := fun y hy => by
  rw [List.mem_toArray] at hy
  obtain ⟨p, _, rfl⟩ := List.mem_map.mp hy
  exact .inr ⟨_, _, rfl⟩
noncomputable def spL : List (Nat × Nat) := [(9, 197), (10, 198), (12, 199), (32, 200), (13, 201)]
noncomputable def diL : List (Nat × Nat) := (List.range 10).map fun i => (48 + i, 258 + i)
noncomputable def leL : List (Nat × Nat) := (List.range 26).map (fun i => (97 + i, 204 + i)) ++ (List.range 26).map (fun i => (65 + i, 230 + i))
theorem sp_obj (P : Params) : (KW P).lookup 22 = some ⟨.type "tuple", none, .seq (sgv spL).toArray 0, #[]⟩ := by kernel_rfl
theorem di_obj (P : Params) : (KW P).lookup 32 = some ⟨.type "tuple", none, .seq (sgv diL).toArray 0, #[]⟩ := by kernel_rfl
theorem le_obj (P : Params) : (KW P).lookup 27 = some ⟨.type "tuple", none, .seq (sgv leL).toArray 0, #[]⟩ := by kernel_rfl
theorem in22_str {y : List Nat} {t : Tok} (F : Fr h₀ L s.heap m) (X : (KW w.params).In h₀) (h : Q (.bool (spL.any fun p => [p.1] == y)) s) : wpAny (model prog w) A (compareOp .In (.str (tx y) t) (.ref 22)) Q E s :=
  in_flat (.inr ⟨_, _, rfl⟩) (sgv_flat _) (F.keep _ _ (X _ _ (sp_obj _))) (by rw [sgv_any]; exact h)
theorem in32_str {y : List Nat} {t : Tok} (F : Fr h₀ L s.heap m) (X : (KW w.params).In h₀) (h : Q (.bool (diL.any fun p => [p.1] == y)) s) : wpAny (model prog w) A (compareOp .In (.str (tx y) t) (.ref 32)) Q E s :=
  in_flat (.inr ⟨_, _, rfl⟩) (sgv_flat _) (F.keep _ _ (X _ _ (di_obj _))) (by rw [sgv_any]; exact h)
theorem in27_str {y : List Nat} {t : Tok} (F : Fr h₀ L s.heap m) (X : (KW w.params).In h₀) (h : Q (.bool (leL.any fun p => [p.1] == y)) s) : wpAny (model prog w) A (compareOp .In (.str (tx y) t) (.ref 27)) Q E s :=
  in_flat (.inr ⟨_, _, rfl⟩) (sgv_flat _) (F.keep _ _ (X _ _ (le_obj _))) (by rw [sgv_any]; exact h)
theorem in22_none (F : Fr h₀ L s.heap m) (X : (KW w.params).In h₀) (h : Q (.bool false) s) : wpAny (model prog w) A (compareOp .In .none (.ref 22)) Q E s :=
  in_flat (.inl rfl) (sgv_flat _) (F.keep _ _ (X _ _ (sp_obj _))) (by rw [sgv_none]; exact h)
theorem in32_none (F : Fr h₀ L s.heap m) (X : (KW w.params).In h₀) (h : Q (.bool false) s) : wpAny (model prog w) A (compareOp .In .none (.ref 32)) Q E s :=
  in_flat (.inl rfl) (sgv_flat _) (F.keep _ _ (X _ _ (di_obj _))) (by rw [sgv_none]; exact h)
theorem in27_none (F : Fr h₀ L s.heap m) (X : (KW w.params).In h₀) (h : Q (.bool false) s) : wpAny (model prog w) A (compareOp .In .none (.ref 27)) Q E s :=
  in_flat (.inl rfl) (sgv_flat _) (F.keep _ _ (X _ _ (le_obj _))) (by rw [sgv_none]; exact h)
theorem inE_str {l : Addr} {news : List (Addr × Obj)} {a b : Str} {t1 t2 : Tok} {x : Str} {t : Tok} (N : News h₀ L s.heap news) (hm : (l, ({ cls := .type "tuple", data := .seq #[.none, .str a t1, .str b t2] } : Obj)) ∈ news) (h : Q (.bool (a == x || b == x)) s) : wpAny (model prog w) A (compareOp .In (.str x t) (.ref l)) Q E s := by
  refine in_flat (.inr ⟨_, _, rfl⟩) (fun y hy => ?_) (N _ hm).1 ?_
  · simp only [List.mem_toArray, List.mem_cons, List.not_mem_nil, or_false] at hy
    rcases hy with rfl | rfl | rfl
    · exact .inl rfl
    · exact .inr ⟨_, _, rfl⟩
    · exact .inr ⟨_, _, rfl⟩
  · rw [List.any_toArray]
    simpa [eqOf] using h
theorem inE_none {l : Addr} {news : List (Addr × Obj)} {a b : Str} {t1 t2 : Tok} (N : News h₀ L s.heap news) (hm : (l, ({ cls := .type "tuple", data := .seq #[.none, .str a t1, .str b t2] } : Obj)) ∈ news) (h : Q (.bool true) s) : wpAny (model prog w) A (compareOp .In .none (.ref l)) Q E s := by
  refine in_flat (.inl rfl) (fun y hy => ?_) (N _ hm).1 ?_
  · simp only [List.mem_toArray, List.mem_cons, List.not_mem_nil, or_false] at hy
    rcases hy with rfl | rfl | rfl
    · exact .inl rfl
    · exact .inr ⟨_, _, rfl⟩
    · exact .inr ⟨_, _, rfl⟩
  · rw [List.any_toArray]
    simpa [eqOf] using h
end
theorem lit_amp : Str.ofString "&" = tx [38] := by kernel_rfl
theorem lit_lt : Str.ofString "<" = tx [60] := by kernel_rfl
theorem lit_hash : Str.ofString "#" = tx [35] := by kernel_rfl
theorem lit_semi : Str.ofString ";" = tx [59] := by kernel_rfl
theorem lit_eq : Str.ofString "=" = tx [61] := by kernel_rfl
theorem sp_one (x : Nat) : (spL.any fun p => [p.1] == [x]) = [9, 10, 12, 32, 13].contains x := by
  rw [Bool.eq_iff_iff]
  simp [spL]
  lia
theorem words_one (x : Nat) : ((leL.any fun p => [p.1] == [x]) || ((diL.any fun p => [p.1] == [x]) || tx [x] == tx [61])) = wordly x := by
  by_cases h : x < 128
  · have : ∀ x : Fin 128, ((leL.any fun p => [p.1] == [x.1]) || ((diL.any fun p => [p.1] == [x.1]) || tx [x.1] == tx [61])) = wordly x.1 := by decide +kernel
    exact this ⟨x, h⟩
  · have h1 : (leL.any fun p => [p.1] == [x]) = false := by
      rw [List.any_eq_false]
      intro p hp hq
      simp only [beq_iff_eq, List.cons.injEq, and_true] at hq
      simp only [leL, List.mem_append, List.mem_map, List.mem_range] at hp
      rcases hp with ⟨i, hi, rfl⟩ | ⟨i, hi, rfl⟩ <;> (dsimp only at hq; lia)
    have h2 : (diL.any fun p => [p.1] == [x]) = false := by
      rw [List.any_eq_false]
      intro p hp hq
      simp only [beq_iff_eq, List.cons.injEq, and_true] at hq
      simp only [diL, List.mem_map, List.mem_range] at hp
      obtain ⟨i, hi, rfl⟩ := hp
      dsimp only at hq
      lia
    have h3 : (tx [x] == tx [61]) = false := by rw [tx_beq]; exact decide_eq_false (fun e => by have := (List.cons.inj e).1; lia)
    have h4 : wordly x = false := by
      unfold wordly
      rw [decide_eq_false (show ¬ x ≤ 57 by lia), decide_eq_false (show ¬ x ≤ 90 by lia), decide_eq_false (show ¬ x ≤ 122 by lia)]
      have : (x == 61) = false := by rw [beq_eq_false_iff_ne]; lia
      rw [this]; simp
    rw [h1, h2, h3, h4]; rfl
theorem sp_true {cl : Option Nat} {x : Nat} {r : List Nat} (h : (spL.any fun p => [p.1] == [x]) = true) : true = stops cl (x :: r) := by
  rw [sp_one] at h
  simp only [stops, List.contains_eq_mem, List.mem_cons, List.not_mem_nil, or_false, decide_eq_true_eq] at h ⊢
  symm
  rw [Bool.or_eq_true, decide_eq_true_eq]
  lia
theorem lt_true {cl : Option Nat} {x : Nat} {r : List Nat} (h : (Str.ofString "<" == tx [x] || Str.ofString "&" == tx [x]) = true) : true = stops cl (x :: r) := by
  rw [lit_lt, lit_amp, tx_beq, tx_beq, Bool.or_eq_true, decide_eq_true_eq, decide_eq_true_eq] at h
  simp only [stops, List.contains_eq_mem, List.mem_cons, List.not_mem_nil, or_false]
  symm
  rw [Bool.or_eq_true, decide_eq_true_eq]
  rcases h with h | h <;> (have := (List.cons.inj h).1; lia)
theorem cl_true {x y : Nat} {r : List Nat} (h : (tx [y] == tx [x]) = true) : true = stops (some y) (x :: r) := by
  rw [tx_beq, decide_eq_true_eq] at h
  have := (List.cons.inj h).1
  subst this
  simp [stops]
theorem no_stop {cl : Option Nat} {x : Nat} {r : List Nat} (h1 : (spL.any fun p => [p.1] == [x]) = false) (h2 : (Str.ofString "<" == tx [x] || Str.ofString "&" == tx [x]) = false) (h3 : cl ≠ some x) : false = stops cl (x :: r) := by
  rw [sp_one] at h1
  rw [lit_lt, lit_amp, tx_beq, tx_beq, Bool.or_eq_false_iff, decide_eq_false_iff_not, decide_eq_false_iff_not] at h2
  obtain ⟨h2, h4⟩ := h2
  simp only [stops, List.contains_eq_mem, List.mem_cons, List.not_mem_nil, or_false, decide_eq_false_iff_not] at h1 ⊢
  symm
  rw [Bool.or_eq_false_iff, decide_eq_false_iff_not]
  refine ⟨?_, ?_⟩
  · have : x ≠ 60 := fun e => h2 (by rw [e])
    have : x ≠ 38 := fun e => h4 (by rw [e])
    lia
  · cases cl with
    | none => rfl
    | some y => simp only [beq_eq_false_iff_ne, ne_eq, Option.some.injEq]; exact fun e => h3 (by rw [e])
theorem cl_false {x y : Nat} (h : (tx [y] == tx [x]) = false) : some y ≠ some x := by
  rw [tx_beq, decide_eq_false_iff_not] at h
  intro e
  exact h (by rw [Option.some.inj e])
end Mine
end
section
open PySem PySem.W PySem.Calls PyProof.Rows PySem.Spec
namespace Mine
open Mine.Top (KW)
open PySem.Challenge (pw_te0025_01 rw_te0025_01)
/-- the end of a def's body that may have caught an exception: the frames below may have new slots -/
noncomputable def DoneS (fs : List Addr) (g : Heap) (post : Value → List (Addr × Obj) → Prop) (s : Shared) (v : Value) (s' : Shared) : Prop :=
  ∃ g'' foot' h' tk' L' m', s' = { s with heap := h', toks := tk' } ∧ KtsTurn fs g g'' ∧ Fr g'' L' h' m' ∧ News g'' L' h' foot' ∧ post v foot'
/-- a contract of a function that catches what its callee raises; it is called by the law itself -/
noncomputable def CtrS (w : World) (f : Addr) (args : List Value) (D : Nat) (foot : List (Addr × Obj)) (post : Value → List (Addr × Obj) → Prop) : Prop :=
  ∀ (dp un : Nat) (gd : Option (List Code)) (cn : Str) (cs : Scope) (a : Addr) (ccd : Value) (A₀ : Around) (base h₀ : Heap) (L : Addr) (m : Str → Option Value) (s : Shared) (mean : ExcName → Option Value) (mg mb : Str → Option Value)
    (Q E : Value → Shared → Prop),
    Below A₀ base [] h₀ → Fr h₀ L s.heap m → (KW w.params).In h₀ → News h₀ L s.heap foot → TopQ mean mg mb h₀ → (KW w.params).In base → TopQ mean mg mb base → cs.kind = .function → dp + D < recursionLimit → un + 8 * D < cLine → 0 < s.toks →
    (∀ v foot' h' tk', post v foot' → Fr h₀ L h' m → News h₀ L h' foot' → Keep s.heap h' (L :: foot.map (·.1)) → Q v { s with heap := h', toks := tk' }) →
    wpAny (model pw_te0025_01 w) (ktrTop dp un gd cn cs L a ccd [] []) (call (.ref f) args) Q E s
theorem enterS {w : World} {dp un : Nat} {gd : Option (List Code)} {cn : Str} {cs : Scope} {a : Addr} {ccd : Value} {A₀ : Around} {base h₀ : Heap} {L : Addr} {m : Str → Option Value} {s : Shared} {mean : ExcName → Option Value} {mg mb : Str → Option Value}
    {Q E : Value → Shared → Prop} {foot : List (Addr × Obj)} {post : Value → List (Addr × Obj) → Prop} {f : Addr} {args : List Value}
    {name qual : Str} {po pa ko : List Arg} {va vk : Option Arg} {kd : List (Option PySem.Expr)} {ds : List PySem.Expr} {st₀ : Stmt} {sts : List Stmt} {names : List (Str × NameKind)} {more : List (Str × Const)} {dV kV doc pm cdv ct oc : Value} {an od : Option Addr} {osl : Array (Option Value)} {binds : List (Str × Value)}
    (B : Below A₀ base [] h₀) (F : Fr h₀ L s.heap m) (X : (KW w.params).In h₀) (N : News h₀ L s.heap foot) (T : TopQ mean mg mb h₀) (hke : cs.kind = .function)
    (ret : ∀ v foot' h' tk', post v foot' → Fr h₀ L h' m → News h₀ L h' foot' → Keep s.heap h' (L :: foot.map (·.1)) → Q v { s with heap := h', toks := tk' })
    (ho : (KW w.params).lookup f = some ⟨oc, od, .func (fnOf name qual ⟨po, pa, va, ko, kd, vk, ds⟩ (st₀ :: sts) ⟨.function, names, false, false, more⟩ dV kV doc pm an cdv ct), osl⟩) (hcd : codeIn (KW w.params) cdv qual = true) (hroom : dp < recursionLimit)
    (hbind : BindsTo s (fnOf name qual ⟨po, pa, va, ko, kd, vk, ds⟩ (st₀ :: sts) ⟨.function, names, false, false, more⟩ dV kV doc pm an cdv ct) ⟨args, []⟩ binds) (hloc : (binds.all fun x => decide (names.lookup x.1 = some .local)) = true)
    (h : ∀ g L' h₁, Fr g L' h₁ (fun y => binds.reverse.lookup y) → News g L' h₁ foot → Below (ktrTop dp un gd cn cs L a ccd [] []) base [envX cn cs L a ccd []] g → (KW w.params).In g → TopQ mean mg mb g → KtsDicts [L] g → (∀ p ∈ foot, p.1 < L') →
      wpAny (model pw_te0025_01 w) ((ktrTop dp un gd cn cs L a ccd [] []).deeper (envOf qual ⟨.function, names, false, false, more⟩ L' f cdv)) (execs (st₀ :: sts) (envOf qual ⟨.function, names, false, false, more⟩ L' f cdv))
        (fun fl s' => DoneS [L] g post s (match fl with | .ret v => v | _ => .none) s') (fun _ _ => False) { s with heap := h₁, toks := s.toks + binds.length })
    (hcell : ∀ x ∈ names, x.2 ≠ .cell) :
    wpAny (model pw_te0025_01 w) (ktrTop dp un gd cn cs L a ccd [] []) (call (.ref f) args) Q E s := by
  refine wpAny_call ?_
  obtain ⟨oL, es, ep, hLg, hLd, hN, hNs, st, B₂⟩ := kts_enter (A := ktrTop dp un gd cn cs L a ccd [] []) B F N rfl hke
  have nL : L ∉ foot.map (·.1) := fun q => by
    obtain ⟨p, hp, e⟩ := List.mem_map.mp q
    exact (N p hp).2.1 e
  refine codeAny_call_def (fd := fnOf name qual ⟨po, pa, va, ko, kd, vk, ds⟩ (st₀ :: sts) ⟨.function, names, false, false, more⟩ dV kV doc pm an cdv ct) (body := st₀ :: sts) (binds := binds) hroom ((X.keeps F.keep) _ _ ho) rfl (T.nolimit.keeps F.keep) (codeRec_of (X.keeps F.keep) hcd) rfl hbind hcell (fun x hx => of_decide_eq_true (List.all_eq_true.mp hloc x hx)) (fun h₁ hns hk₁ => ?_) rfl rfl rfl
  refine wpAny_mono (h _ s.heap.objs.size h₁ ⟨hns, fun b o e => hk₁ b o (of_hideAll _ e), Nat.le_of_eq (hideAll_size _ _)⟩
    (fun p hp => ⟨hk₁ _ _ (N p hp).1, Nat.ne_of_lt (Heap.lt_size (N p hp).1), hideAll_none _ (List.mem_map_of_mem hp)⟩) B₂ (X.keeps st) (T.keeps st)
    (fun b hb => by rw [List.mem_singleton.mp hb]; exact ⟨oL, es, ep, hLg, hLd⟩) (fun p hp => Heap.lt_size (N p hp).1)) (fun fl s' hd => ?_) (fun _ _ x => x.elim)
  obtain ⟨g'', foot', h', tk', L', m', rfl, T', F', N', hp⟩ := hd
  have nL₀ : h₀.get? L = none := kts_self F
  obtain ⟨sl, hs⟩ := T'.up hLg
  refine ret _ foot' h' tk' hp ⟨hNs sl _ (F'.keep _ _ hs), fun b o e => F'.keep b o (T'.other b o (st b o e) (fun q => ?_)), F.above⟩ (fun p hp => ⟨(N' p hp).1, fun q => ?_, ?_⟩) (fun b o e nb => ?_)
  · rw [List.mem_singleton.mp q, nL₀] at e
    cases e
  · have := (N' p hp).2.2; rw [q, hs] at this; cases this
  · cases q : h₀.get? p.1 with
    | none => rfl
    | some o =>
      obtain ⟨sl', hs'⟩ := T'.up (st _ _ q)
      have := (N' p hp).2.2
      rw [hs'] at this
      cases this
  · exact F'.keep b o (T'.other b o (hideAll_get _ e fun q => nb (.tail _ q)) (fun q => nb (by rw [List.mem_singleton.mp q]; exact .head _)))
theorem flatS {M : Model} {A : Around} {t : Sem Flow} {E : Value → Shared → Prop} {ks : List Addr} {g h₁ : Heap} {post : Value → List (Addr × Obj) → Prop} {s : Shared} {n : Nat} (hn : 0 < n)
    (h : ∀ g₉ d₉ os₉ n₉, 0 < n₉ → wpAny M A t (fun fl s' => DoneS ks g post ⟨h₁, g₉, d₉, n₉, os₉⟩ (match fl with | .ret v => v | _ => .none) s') E ⟨h₁, g₉, d₉, n₉, os₉⟩) :
    wpAny M A t (fun fl s' => DoneS ks g post s (match fl with | .ret v => v | _ => .none) s') E ⟨h₁, s.gens, s.drawn, n, s.os⟩ := h s.gens s.drawn s.os n hn
end Mine
end
section
open PySem PySem.W PySem.Calls PyProof.Rows PySem.Spec
namespace Mine
theorem tailLen_cons (J : List Nat) : tailLen (10 :: J) = tailLen J := by
  by_cases h : 10 ∈ J
  · exact tailLen_app_mem [10] J h
  · rw [show 10 :: J = [] ++ 10 :: J from rfl, tailLen_split [] J h, tailLen_none h]
theorem join_free : ∀ ps : List Str, ps ≠ [] → (∀ p ∈ ps, 10 ∉ p.cps.toList) → (Str.join (tx [10]) ps).cps.toList.count 10 + 1 = ps.length ∧ ∃ y, ps.getLast? = some y ∧ tailLen (Str.join (tx [10]) ps).cps.toList = y.cps.toList.length
  | [], h, _ => absurd rfl h
  | [p], _, hf => by
    have h := hf p (.head _)
    refine ⟨?_, p, rfl, ?_⟩
    · show p.cps.toList.count 10 + 1 = 1
      rw [List.count_eq_zero.mpr h]
    · exact tailLen_none h
  | p :: q :: r, _, hf => by
    obtain ⟨h1, y, h2, h3⟩ := join_free (q :: r) (fun h => nomatch h) (fun z hz => hf z (.tail _ hz))
    have hp := hf p (.head _)
    have e : (Str.join (tx [10]) (p :: q :: r)).cps.toList = p.cps.toList ++ 10 :: (Str.join (tx [10]) (q :: r)).cps.toList := by
      show (p ++ tx [10] ++ Str.join (tx [10]) (q :: r)).cps.toList = _
      rw [Str.cps_append, Str.cps_append]
      simp [tx]
    rw [e]
    refine ⟨?_, y, by rw [List.getLast?_cons_cons]; exact h2, ?_⟩
    · rw [List.count_append, List.count_cons_self, List.count_eq_zero.mpr hp, List.length_cons, ← h1]; lia
    · rw [tailLen_app_mem _ _ (.head _), tailLen_cons, h3]
theorem split_rows (l : List Nat) : (Txt.split (tx l) (Str.ofString "\n")).length = l.count 10 + 1 ∧ ∃ y, (Txt.split (tx l) (Str.ofString "\n")).getLast? = some y ∧ y.length = tailLen l := by
  rw [lit_n]
  have hj := StrLaws.join_split (tx l) (tx [10])
  have hf := StrLaws.split_free (tx l) 10
  have hne : Txt.split (tx l) (tx [10]) ≠ [] := by
    intro h
    rw [h] at hj
    have hl : l = [] := by
      have := congrArg (fun x => x.cps.toList) hj
      exact this.symm
    subst hl
    exact absurd h (by decide +kernel)
  obtain ⟨h1, y, h2, h3⟩ := join_free _ hne hf
  rw [hj, tx_toList] at h1 h3
  exact ⟨h1.symm, y, h2, by rw [h3]; simp [Str.length]⟩
theorem last_at {l : List (Str × Tok)} {y y2 : Str} (h0 : 0 < l.length) (hy : (l.map (·.1))[((-1 : Int) + (l.length : Nat)).toNat]? = some y) (h2 : (l.map (·.1)).getLast? = some y2) : y = y2 := by
  rw [List.getLast?_eq_getElem?, List.length_map] at h2
  rw [show ((-1 : Int) + (l.length : Nat)).toNat = l.length - 1 by lia] at hy
  rw [hy] at h2
  exact Option.some.inj h2
end Mine
end
section
open PySem PySem.W PySem.Calls PyProof.Rows PySem.Spec
namespace Mine
open Mine.Top (KW)
open PySem.Challenge (pw_te0025_01 rw_te0025_01)
noncomputable def entK : List (Str × Value) := entL.map fun p => (tx p.1, .str (tx p.2.2.1) p.2.2.2)
theorem ent_pairs (prog : Program) (w : World) : ∀ l : List (List Nat × Nat × List Nat × Nat), Pairs (PySem.strKind prog w) (l.map fun p => (⟨PyData.keyHash w.params (tx p.1), .str (tx p.1) p.2.1, .str (tx p.2.2.1) p.2.2.2⟩ : DictEntry)) (l.map fun p => (tx p.1, .str (tx p.2.2.1) p.2.2.2))
  | [] => .nil
  | _ :: r => .cons (strKind_is prog w _ _) rfl (ent_pairs prog w r)
theorem ent_nodup : (entL.map (·.1)).Nodup := by decide +kernel
theorem ent_dict {prog : Program} {w : World} {h : Heap} (X : (KW w.params).In h) : h.DictAt (PySem.strKind prog w) 43 entK 43 := by
  refine ⟨_, (entE w.params).toArray, X _ _ (ent_obj w.params), ⟨rfl, rfl, rfl⟩, rfl, fun e he => ?_, ent_pairs prog w entL, ?_⟩
  · obtain ⟨x, t, e1, e2⟩ := (ent_lit w.params).all e (Array.mem_toList_iff.mpr he)
    exact ⟨x, by rw [e1]; exact strKind_is prog w x t, e2⟩
  · unfold entK
    rw [List.map_map]
    have h := ent_nodup
    have e : (entL.map ((fun x : Str × Value => x.1) ∘ fun p => (tx p.1, Value.str (tx p.2.2.1) p.2.2.2))) = (entL.map (·.1)).map tx := by rw [List.map_map]; rfl
    rw [e]
    exact List.Pairwise.map _ (fun a b hab hh => hab (tx_inj.mp hh)) h
theorem entK_at {i : Nat} {k : Str} {x : Value} (h : entK[i]? = some (k, x)) : ∃ p, entL[i]? = some p ∧ k = tx p.1 := by
  unfold entK at h
  rw [List.getElem?_map] at h
  cases q : entL[i]? with
  | none => rw [q] at h; cases h
  | some p => rw [q] at h; cases h; exact ⟨p, rfl, rfl⟩
/-- how many letters two texts begin with alike -/
noncomputable def lcp : List Nat → List Nat → Nat
  | x :: r, y :: n => if x = y then lcp r n + 1 else 0
  | _, _ => 0
theorem lcp_eq : ∀ (k : Nat) (rest name : List Nat), k ≤ name.length → rest.take k = name.take k → (k = name.length ∨ rest[k]? ≠ name[k]?) → k = lcp rest name
  | 0, rest, name, _, _, h => by
    cases rest with
    | nil => cases name <;> rfl
    | cons x r =>
      cases name with
      | nil => rfl
      | cons y n =>
        rcases h with h | h
        · cases h
        · simp only [List.getElem?_cons_zero, ne_eq, Option.some.injEq] at h
          rw [lcp, if_neg h]
  | k + 1, rest, name, hk, ht, h => by
    cases name with
    | nil => cases hk
    | cons y n =>
      cases rest with
      | nil => rw [List.take_nil, List.take_succ_cons] at ht; cases ht
      | cons x r =>
        rw [List.take_succ_cons, List.take_succ_cons] at ht
        obtain ⟨e, ht⟩ := List.cons.inj ht
        rw [lcp, if_pos e, ← lcp_eq k r n (by rw [List.length_cons] at hk; lia) ht (by
          rcases h with h | h
          · rw [List.length_cons] at h; exact .inl (by lia)
          · exact .inr (by simpa using h))]
theorem lcp_le (rest name : List Nat) : lcp rest name ≤ name.length := by
  induction rest generalizing name with
  | nil => exact Nat.zero_le _
  | cons x r ih =>
    cases name with
    | nil => exact Nat.le_refl _
    | cons y n =>
      unfold lcp
      split
      · have := ih n; rw [List.length_cons]; lia
      · exact Nat.zero_le _
/-- what _law_named has found: the longest name, how far some name goes along -/
noncomputable def namedStep (rest : List Nat) (s : List Nat × Nat) (name : List Nat) : List Nat × Nat :=
  (if lcp rest name = name.length ∧ s.1.length < lcp rest name then name else s.1, max s.2 (lcp rest name))
noncomputable def namedOf (rest : List Nat) : List Nat × Nat := (entL.map (·.1)).foldl (namedStep rest) ([], 0)
theorem named_take {rest : List Nat} {i : Nat} {p : List Nat × Nat × List Nat × Nat} (h : entL[i]? = some p) :
    ((entL.take (i + 1)).map (·.1)).foldl (namedStep rest) ([], 0) = namedStep rest (((entL.take i).map (·.1)).foldl (namedStep rest) ([], 0)) p.1 := by
  obtain ⟨h1, h2⟩ := List.getElem?_eq_some_iff.mp h
  rw [List.take_succ_eq_append_getElem h1, h2, List.map_append, List.foldl_append]
  rfl
theorem ent_name_len : ∀ p ∈ entL, p.1.length ≤ 12 ∧ p.1 ≠ [] := by decide +kernel
theorem cut_one (rest : List Nat) (k : Nat) : (rest.take (k + 1)).drop k = (rest[k]?).toList := by
  by_cases h : k < rest.length
  · rw [List.take_succ_eq_append_getElem h, List.drop_append_of_le_length (by rw [List.length_take]; lia), List.drop_of_length_le (by rw [List.length_take]; lia), List.getElem?_eq_getElem h]; rfl
  · rw [List.drop_of_length_le (by rw [List.length_take]; lia), List.getElem?_eq_none_iff.mpr (by lia)]; rfl
theorem same_letter {rest name : List Nat} {k : Nat} (h : k < name.length) : (Txt.slice (tx rest) (some (k : Int)) (some ((k : Int) + 1)) == Txt.item (tx name) (k : Int)) = decide (rest[k]? = name[k]?) := by
  rw [show (k : Int) + 1 = ((k + 1 : Nat) : Int) by lia, slice_nat, item_nat name k h, tx_beq, cut_one, List.getElem?_eq_getElem h]
  rw [Bool.eq_iff_iff, decide_eq_true_eq, decide_eq_true_eq]
  cases rest[k]? with
  | none => simp
  | some x => simp
theorem max_if (a b : Nat) : (if (b : Int) > (a : Int) then (b : Int) else (a : Int)) = ((max a b : Nat) : Int) := by
  split <;> lia
theorem take_same {l n : List Nat} {q : Nat} (h : l.take q = n.take q) (h2 : l[q]? = n[q]?) : l.take (q + 1) = n.take (q + 1) := by
  rw [List.take_add_one, List.take_add_one, h, h2]
theorem named_len (rest : List Nat) : ∀ (ns : List (List Nat)) (s : List Nat × Nat), (∀ n ∈ ns, n.length ≤ 12) → s.1.length ≤ 12 → (ns.foldl (namedStep rest) s).1.length ≤ 12
  | [], _, _, h => h
  | n :: r, s, hn, h => by
    refine named_len rest r _ (fun x hx => hn x (.tail _ hx)) ?_
    unfold namedStep
    dsimp only
    split
    · exact hn n (.head _)
    · exact h
theorem named_len_at (rest : List Nat) (i : Nat) : (((entL.take i).map (·.1)).foldl (namedStep rest) ([], 0)).1.length ≤ 12 :=
  named_len rest _ _ (fun n hn => by
    obtain ⟨p, hp, rfl⟩ := List.mem_map.mp hn
    exact (ent_name_len p (List.mem_of_mem_take hp)).1) (Nat.zero_le _)
end Mine
end
section
open PySem PySem.W PySem.Calls PyProof.Rows PySem.Spec
namespace Mine
/-- the letters of a mended text -/
noncomputable def Mended (x : Nat) : Prop := x = 10 ∨ (32 ≤ x ∧ x ≤ 126) ∨ x = 233
theorem in_signs {x : Nat} (h : Mended x) : (Builtin.Str.occurrences (Str.ofString " \n<&") (tx [x]) 0 (Str.ofString " \n<&").length 1).isEmpty = !([9, 10, 12, 32, 13, 60, 38].contains x) := by
  have key : ∀ x : Fin 234, (x.1 = 10 ∨ (32 ≤ x.1 ∧ x.1 ≤ 126) ∨ x.1 = 233) → (Builtin.Str.occurrences (Str.ofString " \n<&") (tx [x.1]) 0 (Str.ofString " \n<&").length 1).isEmpty = !([9, 10, 12, 32, 13, 60, 38].contains x.1) := by decide +kernel
  exact key ⟨x, by unfold Mended at h; lia⟩ h
noncomputable def ToldV (v : Array Value) : Option Str → Prop
  | none => v = #[]
  | some e => ∃ t, v = #[.str e t]
/-- what _law_read says of the longest name b and the way a -/
noncomputable def readOut (cl : Option Nat) (inside : Bool) (rest b : List Nat) (a : Nat) : List Nat × Option Str × Nat :=
  if stops cl rest then ([38], none, 0) else
  if b = [] then (38 :: rest.take a, some (Str.ofString "expected-named-entity"), a) else
  if b.getLast? = some 59 then (signOf b ++ (rest.take a).drop b.length, none, a) else
  if inside && wordlyAt rest[b.length]? then (38 :: rest.take a, some (Str.ofString "named-entity-without-semicolon"), a) else
  (signOf b ++ (rest.take a).drop b.length, some (Str.ofString "named-entity-without-semicolon"), a)
theorem read_ref (cl : Option Nat) (inside : Bool) (rest : List Nat) : readOut cl inside rest ((bestPre (rest.take (alongOf rest))).getD []) (alongOf rest) = refOut cl inside rest := by
  unfold readOut refOut
  split
  · rfl
  · cases hb : bestPre (rest.take (alongOf rest)) with
    | none => rfl
    | some b =>
      have hne : b ≠ [] := by
        intro e
        have := (best_le _ hb).2.1
        rw [e, entV_nil] at this
        cases this
      show (if b = [] then _ else _) = _
      rw [if_neg hne]
      rfl
theorem item_head (x : Nat) (r : List Nat) : Txt.item (tx (x :: r)) 0 = tx [x] := item_nat (x :: r) 0 (Nat.zero_lt_succ _)
theorem beq_empty (l : List Nat) : (tx l == Str.ofString "") = decide (l = []) := by rw [lit_nil, tx_beq]
theorem sg_true {cl : Option Nat} {x : Nat} {r : List Nat} (hm : Mended x) (h : (Builtin.Str.occurrences (Str.ofString " \n<&") (Txt.item (tx (x :: r)) 0) 0 (Str.ofString " \n<&").length 1).isEmpty = false) : true = stops cl (x :: r) := by
  rw [item_head, in_signs hm] at h
  show true = ([9, 10, 12, 32, 13, 60, 38].contains x || cl == some x)
  cases hc : [9, 10, 12, 32, 13, 60, 38].contains x with
  | true => rfl
  | false => rw [hc] at h; cases h
theorem sg_cl {y x : Nat} {r : List Nat} (h : (Txt.item (tx (x :: r)) 0 == tx [y]) = true) : true = stops (some y) (x :: r) := by
  rw [item_head, tx_beq, decide_eq_true_eq] at h
  have := (List.cons.inj h).1
  subst this
  simp [stops]
theorem sg_no {cl : Option Nat} {x : Nat} {r : List Nat} (hm : Mended x) (h : (Builtin.Str.occurrences (Str.ofString " \n<&") (Txt.item (tx (x :: r)) 0) 0 (Str.ofString " \n<&").length 1).isEmpty = true) (h3 : cl ≠ some x) : false = stops cl (x :: r) := by
  rw [item_head, in_signs hm] at h
  show false = ([9, 10, 12, 32, 13, 60, 38].contains x || cl == some x)
  have hc : [9, 10, 12, 32, 13, 60, 38].contains x = false := by
    cases hc : [9, 10, 12, 32, 13, 60, 38].contains x with
    | true => rw [hc] at h; cases h
    | false => rfl
  rw [hc]
  cases cl with
  | none => rfl
  | some y =>
    symm
    show (some y == some x) = false
    simp only [beq_eq_false_iff_ne, ne_eq, Option.some.injEq]
    exact fun e => h3 (by rw [e])
theorem sg_ne {y x : Nat} {r : List Nat} (h : (Txt.item (tx (x :: r)) 0 == tx [y]) = false) : some y ≠ some x := by
  rw [item_head, tx_beq, decide_eq_false_iff_not] at h
  intro e
  exact h (by rw [Option.some.inj e])
section
variable {prog : Program} {w : World} {A : Around} {E : Value → Shared → Prop} {s : Shared} {Q : Value → Shared → Prop} {h₀ : Heap} {L a b : Addr} {n m : Nat} {rest : List (Addr × Obj)} {x : Value}
theorem ne_lists0 (N : News h₀ L s.heap ((b, listOf #[] n) :: (a, listOf #[] m) :: rest)) (hu : A.units < cLine) (h : Q (.bool false) s) : wpAny (model prog w) A (compareOp .NotEq (.ref a) (.ref b)) Q E s :=
  SeqAt.RcNeAt.lists (items := #[]) (items2 := #[]) (e := fun _ => true) ⟨_, (N _ (.tail _ (.head _))).1, rfl, _, rfl⟩ ⟨_, (N _ (.head _)).1, rfl, _, rfl⟩ rfl hu (fun j h1 _ => absurd h1 (Nat.not_lt_zero _)) prog w E Q h
theorem ne_lists1 (N : News h₀ L s.heap ((b, listOf #[] n) :: (a, listOf #[x] m) :: rest)) (hu : A.units < cLine) (h : Q (.bool true) s) : wpAny (model prog w) A (compareOp .NotEq (.ref a) (.ref b)) Q E s :=
  SeqAt.RcNeAt.lists_lengths (items := #[x]) (items2 := #[]) ⟨_, (N _ (.tail _ (.head _))).1, rfl, _, rfl⟩ ⟨_, (N _ (.head _)).1, rfl, _, rfl⟩ rfl hu prog w E Q h
end
theorem close_in {x : Nat} (h : Mended x) : (Builtin.Str.occurrences (Str.ofString "=0123456789ABCDEFGHIJKLMNOPQRSTUVWXYZabcdefghijklmnopqrstuvwxyz") (tx [x]) 0 (Str.ofString "=0123456789ABCDEFGHIJKLMNOPQRSTUVWXYZabcdefghijklmnopqrstuvwxyz").length 1).isEmpty = !wordly x := by
  have key : ∀ x : Fin 234, (x.1 = 10 ∨ (32 ≤ x.1 ∧ x.1 ≤ 126) ∨ x.1 = 233) → (Builtin.Str.occurrences (Str.ofString "=0123456789ABCDEFGHIJKLMNOPQRSTUVWXYZabcdefghijklmnopqrstuvwxyz") (tx [x.1]) 0 (Str.ofString "=0123456789ABCDEFGHIJKLMNOPQRSTUVWXYZabcdefghijklmnopqrstuvwxyz").length 1).isEmpty = !wordly x.1 := by decide +kernel
  exact key ⟨x, by unfold Mended at h; lia⟩ h
theorem beh_cut (rest b : List Nat) : Txt.slice (tx rest) (some (((tx b).length : Nat) : Int)) (some ((((tx b).length : Nat) : Int) + 1)) = tx (rest[b.length]?).toList := by
  show Txt.slice (tx rest) (some ((b.length : Nat) : Int)) (some (((b.length : Nat) : Int) + 1)) = _
  rw [show ((b.length : Nat) : Int) + 1 = ((b.length + 1 : Nat) : Int) by lia, slice_nat, cut_one]
theorem beh_yes {rest b : List Nat} (hm : ∀ x ∈ rest, Mended x) (hn : (Txt.slice (tx rest) (some (((tx b).length : Nat) : Int)) (some ((((tx b).length : Nat) : Int) + 1)) != Str.ofString "") = true)
    (h : (Builtin.Str.occurrences (Str.ofString "=0123456789ABCDEFGHIJKLMNOPQRSTUVWXYZabcdefghijklmnopqrstuvwxyz") (Txt.slice (tx rest) (some (((tx b).length : Nat) : Int)) (some ((((tx b).length : Nat) : Int) + 1))) 0 (Str.ofString "=0123456789ABCDEFGHIJKLMNOPQRSTUVWXYZabcdefghijklmnopqrstuvwxyz").length 1).isEmpty = false) : wordlyAt rest[b.length]? = true := by
  rw [beh_cut] at hn h
  cases q : rest[b.length]? with
  | none => rw [q] at hn; exact absurd hn (by rw [bne, beq_empty]; decide)
  | some x =>
    rw [q] at h
    have := close_in (hm x (List.mem_of_getElem? q))
    rw [show (some x).toList = [x] from rfl] at h
    rw [this] at h
    show wordly x = true
    cases hw : wordly x with
    | true => rfl
    | false => rw [hw] at h; cases h
theorem beh_no {rest b : List Nat} (hm : ∀ x ∈ rest, Mended x)
    (h : (Builtin.Str.occurrences (Str.ofString "=0123456789ABCDEFGHIJKLMNOPQRSTUVWXYZabcdefghijklmnopqrstuvwxyz") (Txt.slice (tx rest) (some (((tx b).length : Nat) : Int)) (some ((((tx b).length : Nat) : Int) + 1))) 0 (Str.ofString "=0123456789ABCDEFGHIJKLMNOPQRSTUVWXYZabcdefghijklmnopqrstuvwxyz").length 1).isEmpty = true) : wordlyAt rest[b.length]? = false := by
  rw [beh_cut] at h
  cases q : rest[b.length]? with
  | none => rfl
  | some x =>
    rw [q] at h
    have := close_in (hm x (List.mem_of_getElem? q))
    rw [show (some x).toList = [x] from rfl] at h
    rw [this] at h
    show wordly x = false
    cases hw : wordly x with
    | false => rfl
    | true => rw [hw] at h; cases h
theorem beh_end {rest b : List Nat} (hn : (Txt.slice (tx rest) (some (((tx b).length : Nat) : Int)) (some ((((tx b).length : Nat) : Int) + 1)) != Str.ofString "") = false) : wordlyAt rest[b.length]? = false := by
  rw [beh_cut] at hn
  cases q : rest[b.length]? with
  | none => rfl
  | some x =>
    rw [q] at hn
    rw [bne, beq_empty] at hn
    cases hn
end Mine
end
section
open PySem PySem.W PySem.Calls PyProof.Rows PySem.Spec
set_option linter.unusedVariables false
namespace Mine
/-- the law's pieces and ways -/
noncomputable def pieceL : List (List Nat) := [
  [38], [38, 110, 111], [38, 110, 111, 116], [38, 110, 111, 116, 105], [38, 110, 111, 116, 105, 110, 59], [38, 99, 111, 112, 121], [38, 98, 110, 101, 59], [38, 97, 109, 112], [38, 112, 97, 114, 97, 108, 108, 101], [38, 115, 117, 112], [38, 116, 105, 109, 101, 115], [38, 97], [38, 102, 114, 97, 99, 49], [110, 59], [108, 59], [49], [50, 59], [98], [61], [32], [10], [120], [60], [34], [39], [62], [59], [233], [13]]
noncomputable def wayL : List (Option Nat × Bool) := [(none, false), (some 34, true), (some 39, true), (some 62, true)]
noncomputable def pieceOf (n : Int) : List Nat := (pieceL[(n.fmod 29).toNat]?).getD []
noncomputable def wayOf (n : Int) : Option Nat × Bool := (wayL[((n.fdiv 29).fmod 4).toNat]?).getD (none, false)
theorem piece_lt (n : Int) : 0 ≤ n.fmod 29 ∧ n.fmod 29 < 29 := ⟨Int.fmod_nonneg_of_pos n (by decide), Int.fmod_lt_of_pos n (by decide)⟩
theorem way_lt (n : Int) : 0 ≤ (n.fdiv 29).fmod 4 ∧ (n.fdiv 29).fmod 4 < 4 := ⟨Int.fmod_nonneg_of_pos _ (by decide), Int.fmod_lt_of_pos _ (by decide)⟩
theorem piece_at (n : Int) : pieceL[(n.fmod 29).toNat]? = some (pieceOf n) := by
  obtain ⟨h1, h2⟩ := piece_lt n
  unfold pieceOf
  have h : (n.fmod 29).toNat < pieceL.length := by rw [show pieceL.length = 29 from rfl]; lia
  rw [List.getElem?_eq_getElem h]; rfl
theorem piece_ok : ∀ p ∈ pieceL, p ≠ [] ∧ p.length ≤ 8 ∧ (∀ x ∈ p, Plain x) ∧ 35 ∉ p ∧ (38 ∈ p → p.head? = some 38) ∧ p.count 38 ≤ 1 := by
  unfold Plain
  decide +kernel
theorem strs_piece (n : Int) {its : Array Value} (h : StrsAre its.toList (pieceL.map tx)) : ∃ t, its[(n.fmod 29).toNat]? = some (.str (tx (pieceOf n)) t) := by
  have e : (pieceL.map tx)[(n.fmod 29).toNat]? = some (tx (pieceOf n)) := by rw [List.getElem?_map, piece_at]; rfl
  obtain ⟨t, ht⟩ := PyProof.Rows.StrsAre.get h _ _ e
  exact ⟨t, by rw [← Array.getElem?_toList]; exact ht⟩
/-- the law's text and its ways, for the first ints of the script -/
noncomputable def textOf (ns : List Int) : List Nat := ns.flatMap pieceOf
noncomputable def waysOf (ns : List Int) : List (Option Nat × Bool) := (ns.filter fun n => decide ((pieceOf n).head? = some 38)).map wayOf
theorem textOf_snoc (ns : List Int) (n : Int) : textOf (ns ++ [n]) = textOf ns ++ pieceOf n := by unfold textOf; rw [List.flatMap_append]; simp
theorem waysOf_snoc (ns : List Int) (n : Int) : waysOf (ns ++ [n]) = waysOf ns ++ (if (pieceOf n).head? = some 38 then [wayOf n] else []) := by
  unfold waysOf
  rw [List.filter_append, List.map_append]
  congr 1
  by_cases h : (pieceOf n).head? = some 38
  · rw [if_pos h, List.filter_cons_of_pos (by rw [decide_eq_true h])]; rfl
  · rw [if_neg h, List.filter_cons_of_neg (by rw [decide_eq_false h]; decide)]; rfl
theorem piece_mem (n : Int) : pieceOf n ∈ pieceL := List.mem_of_getElem? (piece_at n)
theorem textOf_len : ∀ ns : List Int, (textOf ns).length ≤ 8 * ns.length
  | [] => Nat.zero_le _
  | n :: r => by
    have h := (piece_ok _ (piece_mem n)).2.1
    have ih := textOf_len r
    show (pieceOf n ++ textOf r).length ≤ _
    rw [List.length_append, List.length_cons]
    lia
theorem textOf_all {P : Nat → Prop} (hP : ∀ p ∈ pieceL, ∀ x ∈ p, P x) (ns : List Int) : ∀ x ∈ textOf ns, P x := fun x hx => by
  obtain ⟨n, _, hn⟩ := List.mem_flatMap.mp hx
  exact hP _ (piece_mem n) x hn
/-- the tuples of the ways -/
noncomputable def WaysAre : List (Addr × Obj) → List Value → List (Option Nat × Bool) → Prop
  | [], [], [] => True
  | (q, o) :: ts, v :: vs, (c, b) :: ws => v = .ref q ∧ (∃ z, Ch c z ∧ o = tupOf #[z, .bool b]) ∧ WaysAre ts vs ws
  | _, _, _ => False
theorem WaysAre.snoc : ∀ {ts : List (Addr × Obj)} {vs : List Value} {ws : List (Option Nat × Bool)}, WaysAre ts vs ws → ∀ {d : Addr} {z : Value} {c : Option Nat} {b : Bool}, Ch c z →
    WaysAre (ts ++ [(d, tupOf #[z, .bool b])]) (vs ++ [.ref d]) (ws ++ [(c, b)])
  | [], [], [], _, _, _, _, _, h => ⟨rfl, ⟨_, h, rfl⟩, trivial⟩
  | (q, o) :: ts, v :: vs, (c, b) :: ws, ⟨h1, h2, h3⟩, _, _, _, _, h => ⟨h1, h2, WaysAre.snoc h3 h⟩
  | [], [], _ :: _, h, _, _, _, _, _ => h.elim
  | [], _ :: _, _, h, _, _, _, _, _ => h.elim
  | _ :: _, [], _, h, _, _, _, _, _ => h.elim
  | _ :: _, _ :: _, [], h, _, _, _, _, _ => h.elim
theorem ints_at : ∀ {vs : List Value} {ns : List Int}, IntsAre vs ns → ∀ {i : Nat} {v : Value}, vs[i]? = some v → ∃ n t, ns[i]? = some n ∧ v = .int n t
  | _, _, .nil, _, _, h => by cases h
  | _, _, .cons n t _, 0, _, h => by cases h; exact ⟨n, t, rfl, rfl⟩
  | _, _, .cons n t hs, i + 1, _, h => by
    obtain ⟨m, u, h1, h2⟩ := ints_at hs (i := i) (by simpa using h)
    exact ⟨m, u, by simpa using h1, h2⟩
theorem way_pick (n : Int) {d0 d1 d2 d3 : Addr} {t1 t2 t3 : Tok} : ∃ d z, (#[Value.ref d0, .ref d1, .ref d2, .ref d3] : Array Value)[((n.fdiv 29).fmod 4).toNat]? = some (.ref d) ∧ Ch (wayOf n).1 z ∧
    (d, tupOf #[z, .bool (wayOf n).2]) ∈ [(d3, tupOf #[.str (tx [62]) t3, .bool true]), (d2, tupOf #[.str (tx [39]) t2, .bool true]), (d1, tupOf #[.str (tx [34]) t1, .bool true]), (d0, tupOf #[.none, .bool false])] := by
  obtain ⟨h1, h2⟩ := way_lt n
  have h : ((n.fdiv 29).fmod 4).toNat = 0 ∨ ((n.fdiv 29).fmod 4).toNat = 1 ∨ ((n.fdiv 29).fmod 4).toNat = 2 ∨ ((n.fdiv 29).fmod 4).toNat = 3 := by lia
  unfold wayOf
  rcases h with h | h | h | h <;> rw [h]
  · exact ⟨d0, .none, rfl, .inl ⟨rfl, rfl⟩, by simp [wayL]⟩
  · exact ⟨d1, _, rfl, .inr ⟨34, t1, rfl, rfl⟩, by simp [wayL]⟩
  · exact ⟨d2, _, rfl, .inr ⟨39, t2, rfl, rfl⟩, by simp [wayL]⟩
  · exact ⟨d3, _, rfl, .inr ⟨62, t3, rfl, rfl⟩, by simp [wayL]⟩
theorem WaysAre.tup : ∀ {ts : List (Addr × Obj)} {vs : List Value} {ws : List (Option Nat × Bool)}, WaysAre ts vs ws → ∀ p ∈ ts, p.2.cls = .type "tuple"
  | [], _, _, _, _, h => nomatch h
  | (q, o) :: ts, v :: vs, (c, b) :: ws, ⟨_, ⟨z, _, h2⟩, h3⟩, p, hp => by
    rcases List.mem_cons.mp hp with rfl | hp
    · show o.cls = _; rw [h2]
    · exact WaysAre.tup h3 p hp
  | _ :: _, [], _, h, _, _ => h.elim
  | _ :: _, _ :: _, [], h, _, _ => h.elim
theorem News.apart {h₀ h : Heap} {L X : Addr} {o : Obj} {led ts : List (Addr × Obj)} (N : News h₀ L h led) (hX : (X, o) ∈ led) (ho : o.cls ≠ .type "tuple") (hs : ∀ p ∈ ts, p ∈ led) (ht : ∀ p ∈ ts, p.2.cls = .type "tuple") : ∀ p ∈ ts, p.1 ≠ X := fun p hp e => by
  have h1 := (N p (hs p hp)).1
  have h2 := (N _ hX).1
  rw [e] at h1
  have h3 := Option.some.inj (h1.symm.trans h2)
  exact ho (by have q := ht p hp; rw [h3] at q; exact q)
theorem head_amp (p : List Nat) (h : p ≠ []) : (Txt.item (tx p) 0 == Str.ofString "&") = decide (p.head? = some 38) := by
  obtain ⟨x, r, rfl⟩ := List.exists_cons_of_ne_nil h
  rw [item_head, lit_amp, tx_beq, List.head?_cons]
  rw [Bool.eq_iff_iff, decide_eq_true_eq, decide_eq_true_eq]
  constructor
  · intro e; rw [(List.cons.inj e).1]
  · intro e; rw [Option.some.inj e]
end Mine
end
section
open PySem PySem.W PySem.Calls PyProof.Rows PySem.Spec PySem.Builtin PySem.Builtin.Str
set_option linter.unusedVariables false
namespace Mine
theorem range_split : ∀ {n lo a : Nat} {pre post : List Nat}, List.range' lo n = pre ++ a :: post → ∀ k, lo ≤ k → k < a → k ∈ pre
  | 0, _, _, pre, _, h, _, _, _ => by cases pre <;> cases h
  | n + 1, lo, a, pre, post, h, k, h1, h2 => by
    rw [List.range'_succ] at h
    cases pre with
    | nil => have := (List.cons.inj h).1; lia
    | cons b pre =>
      obtain ⟨e1, e2⟩ := List.cons.inj h
      by_cases hk : k = lo
      · rw [hk, e1]; exact .head _
      · exact .tail _ (range_split e2 k (by lia) h2)
theorem at_amp (l : List Nat) (c i : Nat) : StrLaws.At (tx l) (tx [c]) (tx l).length i ↔ l[i]? = some c := by
  rw [tx_length, at_one l c l.length i (Nat.le_refl _), List.take_length]
theorem index_at (l : List Nat) (lo : Nat) (pre r : List Nat) (h : l.drop lo = pre ++ 38 :: r) (hp : 38 ∉ pre) :
    ∃ rest, occurrences (tx l) (tx [38]) lo (tx l).length 1 = (lo + pre.length) :: rest := by
  have hlen : l.length - lo = pre.length + (r.length + 1) := by
    have := congrArg List.length h
    rw [List.length_drop, List.length_append, List.length_cons] at this
    exact this
  have hat : l[lo + pre.length]? = some 38 := by
    rw [← List.getElem?_drop, h, List.getElem?_append_right (Nat.le_refl _), Nat.sub_self]; rfl
  have hbe : ∀ k, lo ≤ k → k < lo + pre.length → l[k]? ≠ some 38 := by
    intro k h1 h2 e
    have e2 : (l.drop lo)[k - lo]? = some 38 := by rw [List.getElem?_drop, show lo + (k - lo) = k by lia]; exact e
    rw [h, List.getElem?_append_left (by lia)] at e2
    exact hp (List.mem_of_getElem? e2)
  rw [StrLaws.occ_eq]
  rcases StrLaws.occ_first (tx l) (tx [38]) (tx l).length 1 (Nat.le_refl _) (List.range' lo ((tx l).length + 1 - lo)) lo (fun i hi => by have := List.mem_range'_1.mp hi; lia) with ⟨_, hn⟩ | ⟨pr, a, po, e, h0, ha, hn⟩
  · exact absurd ((at_amp l 38 _).mpr hat) (hn _ (List.mem_range'_1.mpr ⟨by lia, by rw [tx_length]; lia⟩))
  · rw [at_amp] at ha
    have ha1 : lo ≤ a := by
      have : a ∈ List.range' lo ((tx l).length + 1 - lo) := by rw [e]; simp
      exact (List.mem_range'_1.mp this).1
    have ha2 : ¬ a < lo + pre.length := fun q => hbe a ha1 q ha
    have ha3 : ¬ lo + pre.length < a := fun q => hn _ (range_split e _ (by lia) q) ((at_amp l 38 _).mpr hat)
    have : a = lo + pre.length := by lia
    subst this
    generalize (forIn (List.range' lo ((tx l).length + 1 - lo)) ((#[] : Array Nat), lo) (StrLaws.occBody (tx l) (tx [38]) (tx l).length 1)).run.fst = arr at h0
    have h1 : arr.toList[0]? = some (lo + pre.length) := by simpa using h0
    cases hL : arr.toList with
    | nil => rw [hL] at h1; cases h1
    | cons b t => rw [hL] at h1; simp at h1; rw [h1]; exact ⟨t, rfl⟩
theorem from_nat (n p : Nat) : fromIndex n (p : Int) = p := by
  unfold fromIndex
  rw [if_neg (by lia)]
  rfl
/-- the letters up to the next & -/
theorem split_amp : ∀ l : List Nat, 38 ∈ l → ∃ pre r, l = pre ++ 38 :: r ∧ 38 ∉ pre
  | x :: l, h => by
    by_cases hx : x = 38
    · subst hx; exact ⟨[], l, rfl, fun h => nomatch h⟩
    · have : 38 ∈ l := by
        rcases List.mem_cons.mp h with e | e
        · exact absurd e.symm hx
        · exact e
      obtain ⟨pre, r, rfl, h2⟩ := split_amp l this
      exact ⟨x :: pre, r, rfl, fun q => by
        rcases List.mem_cons.mp q with e | e
        · exact hx e.symm
        · exact h2 e⟩
theorem amp_uniq {pre r acc rest' : List Nat} (h1 : 38 ∉ pre) (h2 : 38 ∉ acc) (h : pre ++ 38 :: r = acc ++ rest') (h3 : rest' = [] ∨ ∃ r2, rest' = 38 :: r2) : acc = pre ∧ rest' = 38 :: r := by
  rcases h3 with rfl | ⟨r2, rfl⟩
  · rw [List.append_nil] at h
    exact absurd (h ▸ (by simp : 38 ∈ pre ++ 38 :: r)) h2
  · induction pre generalizing acc with
    | nil =>
      cases acc with
      | nil => exact ⟨rfl, h.symm⟩
      | cons a acc => have := (List.cons.inj h).1; subst this; exact absurd (List.mem_cons_self ..) h2
    | cons b pre ih =>
      cases acc with
      | nil => have := (List.cons.inj h).1; subst this; exact absurd (List.mem_cons_self ..) h1
      | cons a acc =>
        obtain ⟨e1, e2⟩ := List.cons.inj h
        subst e1
        obtain ⟨i1, i2⟩ := ih (fun q => h1 (.tail _ q)) (fun q => h2 (.tail _ q)) e2
        exact ⟨by rw [i1], i2⟩
theorem amp_none {l acc rest' : List Nat} (h1 : 38 ∉ l) (h : l = acc ++ rest') (h3 : rest' = [] ∨ ∃ r2, rest' = 38 :: r2) : acc = l ∧ rest' = [] := by
  rcases h3 with rfl | ⟨r2, rfl⟩
  · rw [List.append_nil] at h; exact ⟨h.symm, rfl⟩
  · subst h; exact absurd (by simp) h1
end Mine
end
section
open PySem PySem.W PySem.Calls PyProof.Rows PySem.Spec
set_option linter.unusedVariables false
namespace Mine
theorem ent_isSome {n : List Nat} : (entV n).isSome = true ↔ ∃ p ∈ entL, p.1 = n := by
  unfold entV
  rw [Option.isSome_map, List.find?_isSome]
  constructor
  · rintro ⟨p, h, e⟩; exact ⟨p, h, beq_iff_eq.mp e⟩
  · rintro ⟨p, h, e⟩; exact ⟨p, h, beq_iff_eq.mpr e⟩
theorem has_nil : hasPre [] = true := by decide +kernel
theorem go_has : ∀ (r pre : List Nat), hasPre pre = true → hasPre (pre ++ r.take (goOn pre r)) = true
  | [], pre, h => by rw [List.take_nil, List.append_nil]; exact h
  | x :: r, pre, h => by
    unfold goOn
    split
    · rename_i hx
      rw [List.take_succ_cons]
      have := go_has r (pre ++ [x]) hx
      rw [List.append_assoc] at this
      exact this
    · rw [List.take_zero, List.append_nil]; exact h
theorem along_has (r : List Nat) : hasPre (r.take (alongOf r)) = true := go_has r [] has_nil
theorem along_le (r : List Nat) : alongOf r ≤ r.length := go_le r []
theorem has_pre {a b : List Nat} (h : hasPre b = true) (hp : a <+: b) : hasPre a = true := by
  obtain ⟨k, q, s, hk, hs⟩ := has_ex h
  exact has_of hk (hp.trans ⟨s, hs.symm⟩)
theorem go_max : ∀ (r pre : List Nat) (k : Nat), k ≤ r.length → hasPre (pre ++ r.take k) = true → k ≤ goOn pre r
  | _, _, 0, _, _ => Nat.zero_le _
  | [], _, k + 1, h, _ => absurd h (Nat.not_succ_le_zero _)
  | x :: r, pre, k + 1, h, hh => by
    rw [List.take_succ_cons] at hh
    have h1 : hasPre (pre ++ [x]) = true := has_pre hh ⟨r.take k, by simp⟩
    rw [goOn, if_pos h1]
    have := go_max r (pre ++ [x]) k (Nat.le_of_succ_le_succ h) (by rw [List.append_assoc]; exact hh)
    lia
theorem along_max (r : List Nat) {k : Nat} (h : k ≤ r.length) (hh : hasPre (r.take k) = true) : k ≤ alongOf r := go_max r [] k h hh
theorem lcp_take : ∀ (r n : List Nat), r.take (lcp r n) = n.take (lcp r n) ∧ lcp r n ≤ r.length
  | [], n => by unfold lcp; exact ⟨by simp, Nat.zero_le _⟩
  | x :: r, [] => by unfold lcp; exact ⟨by simp, Nat.zero_le _⟩
  | x :: r, y :: n => by
    unfold lcp
    split
    · rename_i e
      obtain ⟨h1, h2⟩ := lcp_take r n
      rw [List.take_succ_cons, List.take_succ_cons, h1, e]
      exact ⟨rfl, by rw [List.length_cons]; lia⟩
    · exact ⟨rfl, Nat.zero_le _⟩
theorem lcp_ge : ∀ (p r n : List Nat), p <+: r → p <+: n → p.length ≤ lcp r n
  | [], _, _, _, _ => Nat.zero_le _
  | a :: p, r, n, ⟨s, hr⟩, ⟨t, hn⟩ => by
    subst hr hn
    rw [List.cons_append, List.cons_append, lcp, if_pos rfl, List.length_cons]
    exact Nat.succ_le_succ (lcp_ge p _ _ ⟨s, rfl⟩ ⟨t, rfl⟩)
theorem lcp_full (r n : List Nat) : lcp r n = n.length ↔ n <+: r := by
  constructor
  · intro h
    obtain ⟨h1, h2⟩ := lcp_take r n
    rw [h, List.take_length] at h1
    rw [← h1]
    exact List.take_prefix _ _
  · intro h
    exact Nat.le_antisymm (lcp_le r n) (lcp_ge n r n h List.prefix_rfl)
/-- b is the longest name that r begins with, or nothing -/
noncomputable def IsBest (r b : List Nat) : Prop := (b = [] ∨ ((entV b).isSome = true ∧ b <+: r)) ∧ ∀ n, (entV n).isSome = true → n <+: r → n.length ≤ b.length
theorem IsBest.uniq {r b c : List Nat} (h : IsBest r b) (h' : IsBest r c) : b = c := by
  obtain ⟨h1, h2⟩ := h
  obtain ⟨h3, h4⟩ := h'
  rcases h1 with rfl | ⟨h1, p1⟩ <;> rcases h3 with rfl | ⟨h3, p3⟩
  · rfl
  · exact (List.length_eq_zero_iff.mp (Nat.le_zero.mp (h2 c h3 p3))).symm
  · exact List.length_eq_zero_iff.mp (Nat.le_zero.mp (h4 b h1 p1))
  · have e := Nat.le_antisymm (h4 b h1 p1) (h2 c h3 p3)
    rw [List.prefix_iff_eq_take] at p1 p3
    rw [p1, p3, e]
theorem best_max : ∀ (k : Nat) (l n : List Nat), (entV n).isSome = true → n <+: l → n.length ≤ k → ∃ b, bestAt l k = some b ∧ n.length ≤ b.length
  | 0, l, n, hn, _, hk => by
    have : n = [] := List.length_eq_zero_iff.mp (Nat.le_zero.mp hk)
    subst this
    rw [entV_nil] at hn; cases hn
  | k + 1, l, n, hn, hp, hk => by
    rw [bestAt]
    split
    · exact ⟨_, rfl, by have := hp.length_le; rw [List.length_take]; lia⟩
    · rename_i hs
      have : n.length ≠ k + 1 := fun e => hs (by rw [← e, ← List.prefix_iff_eq_take.mp hp]; exact hn)
      exact best_max k l n hn hp (by lia)
theorem best_is {r : List Nat} {k : Nat} (hk : ∀ n, (entV n).isSome = true → n <+: r → n.length ≤ k) : IsBest r ((bestPre (r.take k)).getD []) := by
  constructor
  · cases h : bestPre (r.take k) with
    | none => exact .inl rfl
    | some b =>
      obtain ⟨_, h2, h3⟩ := best_le _ h
      exact .inr ⟨h2, h3.trans (List.take_prefix _ _)⟩
  · intro n hn hp
    have h1 := hk n hn hp
    have h2 : n <+: r.take k := by
      have := List.prefix_iff_eq_take.mp hp
      rw [List.prefix_iff_eq_take, List.take_take, Nat.min_eq_left h1]
      exact this
    obtain ⟨b, h3, h4⟩ := best_max (r.take k).length (r.take k) n hn h2 h2.length_le
    unfold bestPre
    rw [h3]
    exact h4
theorem name_along {r n : List Nat} (hn : (entV n).isSome = true) (hp : n <+: r) : n.length ≤ alongOf r :=
  along_max r hp.length_le (by rw [← List.prefix_iff_eq_take.mp hp]; exact has_name hn)
theorem name_short {r n : List Nat} (hn : (entV n).isSome = true) (_hp : n <+: r) : n.length ≤ 12 := by
  obtain ⟨p, hp, rfl⟩ := ent_isSome.mp hn
  exact (ent_name_len p hp).1
/-- the fold's first part: the longest of these names -/
theorem fold_best (r : List Nat) : ∀ (ns : List (List Nat)) (s : List Nat × Nat), (∀ n ∈ ns, (entV n).isSome = true) → (s.1 = [] ∨ ((entV s.1).isSome = true ∧ s.1 <+: r)) →
    ((ns.foldl (namedStep r) s).1 = [] ∨ ((entV (ns.foldl (namedStep r) s).1).isSome = true ∧ (ns.foldl (namedStep r) s).1 <+: r)) ∧ s.1.length ≤ (ns.foldl (namedStep r) s).1.length ∧ ∀ n ∈ ns, n <+: r → n.length ≤ (ns.foldl (namedStep r) s).1.length
  | [], s, _, h => ⟨h, Nat.le_refl _, fun _ h => nomatch h⟩
  | m :: ns, s, hn, h => by
    rw [List.foldl_cons]
    by_cases hc : lcp r m = m.length ∧ s.1.length < lcp r m
    · have e : (namedStep r s m).1 = m := by unfold namedStep; exact if_pos hc
      obtain ⟨i1, i2, i3⟩ := fold_best r ns (namedStep r s m) (fun n h => hn n (.tail _ h)) (by rw [e]; exact .inr ⟨hn m (.head _), (lcp_full r m).mp hc.1⟩)
      rw [e] at i2
      refine ⟨i1, by lia, fun n h hp => ?_⟩
      rcases List.mem_cons.mp h with rfl | h
      · exact i2
      · exact i3 n h hp
    · have e : (namedStep r s m).1 = s.1 := by unfold namedStep; exact if_neg hc
      obtain ⟨i1, i2, i3⟩ := fold_best r ns (namedStep r s m) (fun n h => hn n (.tail _ h)) (by rw [e]; exact h)
      rw [e] at i2
      refine ⟨i1, i2, fun n h hp => ?_⟩
      rcases List.mem_cons.mp h with rfl | h
      · have := (lcp_full r n).mpr hp
        lia
      · exact i3 n h hp
theorem fold_max (r : List Nat) : ∀ (ns : List (List Nat)) (s : List Nat × Nat), s.2 ≤ (ns.foldl (namedStep r) s).2 ∧ (∀ n ∈ ns, lcp r n ≤ (ns.foldl (namedStep r) s).2) ∧ ((ns.foldl (namedStep r) s).2 = s.2 ∨ ∃ n ∈ ns, (ns.foldl (namedStep r) s).2 = lcp r n)
  | [], s => ⟨Nat.le_refl _, (fun _ h => nomatch h), .inl rfl⟩
  | m :: ns, s => by
    rw [List.foldl_cons]
    obtain ⟨i1, i2, i3⟩ := fold_max r ns (namedStep r s m)
    have e : (namedStep r s m).2 = max s.2 (lcp r m) := rfl
    rw [e] at i1 i3
    refine ⟨by lia, fun n h => ?_, ?_⟩
    · rcases List.mem_cons.mp h with rfl | h
      · lia
      · exact i2 n h
    · rcases i3 with i3 | ⟨n, h, i3⟩
      · by_cases q : s.2 ≤ lcp r m
        · exact .inr ⟨m, .head _, by lia⟩
        · exact .inl (by lia)
      · exact .inr ⟨n, .tail _ h, i3⟩
theorem named_is (r : List Nat) : namedOf r = ((bestPre (r.take (alongOf r))).getD [], alongOf r) := by
  have hsome : ∀ n ∈ entL.map (·.1), (entV n).isSome = true := fun n h => by
    obtain ⟨p, hp, rfl⟩ := List.mem_map.mp h
    exact ent_isSome.mpr ⟨p, hp, rfl⟩
  refine Prod.ext ?_ ?_
  · obtain ⟨h1, _, h3⟩ := fold_best r (entL.map (·.1)) ([], 0) hsome (.inl rfl)
    refine IsBest.uniq (r := r) ⟨h1, fun n hn hp => ?_⟩ (best_is fun n hn hp => name_along hn hp)
    obtain ⟨p, hp', rfl⟩ := ent_isSome.mp hn
    exact h3 _ (List.mem_map_of_mem hp') hp
  · obtain ⟨_, h2, h3⟩ := fold_max r (entL.map (·.1)) ([], 0)
    show ((entL.map (·.1)).foldl (namedStep r) ([], 0)).2 = alongOf r
    refine Nat.le_antisymm ?_ ?_
    · rcases h3 with h3 | ⟨n, hn, h3⟩
      · rw [h3]; exact Nat.zero_le _
      · rw [h3]
        obtain ⟨l1, l2⟩ := lcp_take r n
        refine along_max r l2 ?_
        rw [l1]
        exact has_pre (has_name (hsome n hn)) (List.take_prefix _ _)
    · obtain ⟨k, q, s, hk, hs⟩ := has_ex (along_has r)
      have h4 := lcp_ge (r.take (alongOf r)) r q.1 (List.take_prefix _ _) ⟨s, hs.symm⟩
      rw [List.length_take, Nat.min_eq_left (along_le r)] at h4
      exact Nat.le_trans h4 (h2 _ (List.mem_map_of_mem (List.mem_of_getElem? hk)))
theorem trie_is (r : List Nat) : (bestPre (r.take 12)).getD [] = (bestPre (r.take (alongOf r))).getD [] :=
  IsBest.uniq (r := r) (best_is fun n hn hp => name_short hn hp) (best_is fun n hn hp => name_along hn hp)
theorem best_ok (r : List Nat) : ((entV ((bestPre (r.take (alongOf r))).getD [])).isSome = true ∨ (bestPre (r.take (alongOf r))).getD [] = []) ∧ ((bestPre (r.take (alongOf r))).getD []).length ≤ 12 := by
  have h := best_is (r := r) (k := alongOf r) fun n hn hp => name_along hn hp
  rcases h.1 with h | ⟨h, hp⟩
  · rw [h]; exact ⟨.inr rfl, Nat.zero_le _⟩
  · exact ⟨.inl h, name_short h hp⟩
theorem ent_no38 : ∀ p ∈ entL, 38 ∉ p.1 := by decide +kernel
theorem has_no38 {l : List Nat} (h : hasPre l = true) : 38 ∉ l := by
  obtain ⟨k, q, s, hk, hs⟩ := has_ex h
  have := ent_no38 q (List.mem_of_getElem? hk)
  rw [hs] at this
  exact fun q => this (List.mem_append_left _ q)
theorem out_size (cl : Option Nat) (inside : Bool) (r : List Nat) : (refOut cl inside r).2.2 = 0 ∨ (refOut cl inside r).2.2 = alongOf r := by
  unfold refOut
  split
  · exact .inl rfl
  · split
    · exact .inr rfl
    · split
      · exact .inr rfl
      · split <;> exact .inr rfl
theorem out_le (cl : Option Nat) (inside : Bool) (r : List Nat) : (refOut cl inside r).2.2 ≤ r.length := by
  rcases out_size cl inside r with h | h <;> rw [h]
  · exact Nat.zero_le _
  · exact along_le r
theorem out_no38 (cl : Option Nat) (inside : Bool) (r : List Nat) : 38 ∉ r.take (refOut cl inside r).2.2 := by
  rcases out_size cl inside r with h | h <;> rw [h]
  · rw [List.take_zero]; exact fun h => nomatch h
  · exact has_no38 (along_has r)
theorem out_count (cl : Option Nat) (inside : Bool) (r : List Nat) : (r.drop (refOut cl inside r).2.2).count 38 = r.count 38 := by
  have h := List.count_eq_zero.mpr (out_no38 cl inside r)
  have e : r.count 38 = (r.take (refOut cl inside r).2.2 ++ r.drop (refOut cl inside r).2.2).count 38 := by rw [List.take_append_drop]
  rw [e, List.count_append, h, Nat.zero_add]
theorem mend_all {P Q : Nat → Prop} (h : ∀ x, P x → Q (if x = 13 then 10 else x)) : ∀ (n : Nat) (l : List Nat), l.length ≤ n → (∀ x ∈ l, P x) → ∀ x ∈ mend l, Q x
  | 0, l, hn, _ => by rw [List.length_eq_zero_iff.mp (Nat.le_zero.mp hn)]; exact fun _ h => nomatch h
  | n + 1, [], _, _ => fun _ h => nomatch h
  | n + 1, [c], _, hl => fun x hx => by
    rw [mend] at hx
    rw [List.mem_singleton.mp hx]
    exact h c (hl c (.head _))
  | n + 1, c :: d :: r, hn, hl => fun x hx => by
    rw [mend] at hx
    have hc := h c (hl c (.head _))
    have hr := mend_all h n (d :: r) (by simpa using hn) (fun y hy => hl y (.tail _ hy))
    have hr2 := mend_all h n r (by simp at hn; lia) (fun y hy => hl y (.tail _ (.tail _ hy)))
    by_cases e : c = 13
    · rw [if_pos e] at hx hc
      split at hx
      · rcases List.mem_cons.mp hx with rfl | hx
        · exact hc
        · exact hr2 x hx
      · rcases List.mem_cons.mp hx with rfl | hx
        · exact hc
        · exact hr x hx
    · rw [if_neg e] at hx hc
      rcases List.mem_cons.mp hx with rfl | hx
      · exact hc
      · exact hr x hx
theorem mend_count : ∀ (n : Nat) (l : List Nat), l.length ≤ n → (mend l).count 38 = l.count 38
  | 0, l, hn => by rw [List.length_eq_zero_iff.mp (Nat.le_zero.mp hn)]; rfl
  | n + 1, [], _ => rfl
  | n + 1, [c], _ => by
    rw [mend]
    by_cases e : c = 13
    · subst e; rfl
    · rw [if_neg e]
  | n + 1, c :: d :: r, hn => by
    rw [mend]
    have hr := mend_count n (d :: r) (by simpa using hn)
    have hr2 := mend_count n r (by simp at hn; lia)
    by_cases e : c = 13
    · rw [if_pos e]
      subst e
      split
      · rename_i e2
        subst e2
        rw [List.count_cons_of_ne (by decide), List.count_cons_of_ne (by decide), List.count_cons_of_ne (by decide), hr2]
      · rw [List.count_cons_of_ne (by decide), List.count_cons_of_ne (by decide), hr]
    · rw [if_neg e, List.count_cons, List.count_cons, hr]
theorem piece_count (n : Int) : (pieceOf n).count 38 = if (pieceOf n).head? = some 38 then 1 else 0 := by
  have h := piece_ok _ (piece_mem n)
  obtain ⟨h1, _, _, _, h5, h6⟩ := h
  split
  · rename_i e
    have : 38 ∈ pieceOf n := List.mem_of_head? e
    have := List.count_pos_iff.mpr this
    lia
  · rename_i e
    exact List.count_eq_zero.mpr fun q => e (h5 q)
theorem text_count : ∀ ns : List Int, (textOf ns).count 38 = (waysOf ns).length
  | [] => rfl
  | n :: r => by
    have ih := text_count r
    show (pieceOf n ++ textOf r).count 38 = _
    rw [List.count_append, piece_count, ih]
    unfold waysOf
    by_cases e : (pieceOf n).head? = some 38
    · rw [if_pos e, List.filter_cons_of_pos (by rw [decide_eq_true e])]
      simp only [List.map_cons, List.length_cons]
      lia
    · rw [if_neg e, List.filter_cons_of_neg (by rw [decide_eq_false e]; decide), Nat.zero_add]
theorem text_plain (ns : List Int) : ∀ x ∈ textOf ns, Plain x := textOf_all (fun p hp => (piece_ok p hp).2.2.1) ns
theorem text_mended (ns : List Int) : ∀ x ∈ mend (textOf ns), Mended x :=
  mend_all (P := Plain) (fun x hx => by
    unfold Plain at hx
    unfold Mended
    split <;> lia) _ _ (Nat.le_refl _) (text_plain ns)
theorem text_no35 (ns : List Int) : 35 ∉ mend (textOf ns) := fun h =>
  mend_all (P := fun x => x ≠ 35) (Q := fun x => x ≠ 35) (fun x hx => by split <;> lia) _ _ (Nat.le_refl _)
    (textOf_all (P := fun x => x ≠ 35) (fun p hp x hx e => (piece_ok p hp).2.2.2.1 (e ▸ hx)) ns) 35 h rfl
theorem text_ways (ns : List Int) : (mend (textOf ns)).count 38 = (waysOf ns).length := by
  rw [mend_count _ _ (Nat.le_refl _), text_count]
theorem ways_len (ns : List Int) : (waysOf ns).length ≤ ns.length := by
  unfold waysOf
  rw [List.length_map]
  exact List.length_filter_le _ _
end Mine
end
section
open PySem PySem.W PySem.Calls PyProof.Rows PySem.Spec
namespace Mine
open Mine.Top (KW)
open PySem.Challenge (pw_te0025_01 rw_te0025_01)
/-- a contract over no objects, that says that what it makes is new -/
noncomputable def CtrF (w : World) (f : Addr) (args : List Value) (D : Nat) (post : Value → List (Addr × Obj) → Prop) : Prop :=
  ∀ (dp un : Nat) (gd : Option (List Code)) (cn : Str) (cs : Scope) (a : Addr) (ccd : Value) (cl : List (Str × Addr)) (outer : List Env) (A₀ : Around) (base h₀ : Heap) (L : Addr) (m : Str → Option Value) (s : Shared) (mean : ExcName → Option Value) (mg mb : Str → Option Value)
    (Q E : Value → Shared → Prop),
    Below A₀ base outer h₀ → Fr h₀ L s.heap m → (KW w.params).In h₀ → News h₀ L s.heap [] → TopQ mean mg mb h₀ → cs.kind = .function → dp + D < recursionLimit → un + 8 * D < cLine → 0 < s.toks →
    (∀ v foot' h' tk', post v foot' → Fr h₀ L h' m → News h₀ L h' foot' → Keep s.heap h' [] → (∀ p ∈ foot', s.heap.get? p.1 = none) → Q v { s with heap := h', toks := tk' }) →
    wpAny (model pw_te0025_01 w) (ktrTop dp un gd cn cs L a ccd cl outer) (call (.ref f) args) Q E s
theorem enterFC {w : World} {dp un : Nat} {gd : Option (List Code)} {cn : Str} {cs : Scope} {a : Addr} {ccd : Value} {cl : List (Str × Addr)} {outer : List Env} {A₀ : Around} {base h₀ : Heap} {L : Addr} {m : Str → Option Value} {s : Shared} {mean : ExcName → Option Value} {mg mb : Str → Option Value}
    {R : Result → Shared → Prop} {post : Value → List (Addr × Obj) → Prop} {f : Addr} {args : List Value}
    {name qual : Str} {po pa ko : List Arg} {va vk : Option Arg} {kd : List (Option PySem.Expr)} {ds : List PySem.Expr} {st₀ : Stmt} {sts : List Stmt} {names : List (Str × NameKind)} {more : List (Str × Const)} {dV kV doc pm cdv ct oc : Value} {an od : Option Addr} {osl : Array (Option Value)} {binds : List (Str × Value)}
    (B : Below A₀ base outer h₀) (F : Fr h₀ L s.heap m) (X : (KW w.params).In h₀) (N : News h₀ L s.heap []) (T : TopQ mean mg mb h₀) (hke : cs.kind = .function)
    (ret : ∀ v foot' h' tk', post v foot' → Fr h₀ L h' m → News h₀ L h' foot' → Keep s.heap h' [] → (∀ p ∈ foot', s.heap.get? p.1 = none) → R (.ok (.ret v)) { s with heap := h', toks := tk' })
    (ho : (KW w.params).lookup f = some ⟨oc, od, .func (fnOf name qual ⟨po, pa, va, ko, kd, vk, ds⟩ (st₀ :: sts) ⟨.function, names, false, false, more⟩ dV kV doc pm an cdv ct), osl⟩) (hcd : codeIn (KW w.params) cdv qual = true) (hroom : dp < recursionLimit)
    (hbind : BindsTo s (fnOf name qual ⟨po, pa, va, ko, kd, vk, ds⟩ (st₀ :: sts) ⟨.function, names, false, false, more⟩ dV kV doc pm an cdv ct) ⟨args, []⟩ binds) (hloc : (binds.all fun x => decide (names.lookup x.1 = some .local)) = true)
    (h : ∀ g L' h₁, Fr g L' h₁ (fun y => binds.reverse.lookup y) → News g L' h₁ [] → Below (ktrTop dp un gd cn cs L a ccd cl outer) base (envX cn cs L a ccd cl :: outer) g → (KW w.params).In g → TopQ mean mg mb g → (∀ p ∈ ([] : List (Addr × Obj)), p.1 < L') →
      wpAny (model pw_te0025_01 w) ((ktrTop dp un gd cn cs L a ccd cl outer).deeper (envOf qual ⟨.function, names, false, false, more⟩ L' f cdv)) (execs (st₀ :: sts) (envOf qual ⟨.function, names, false, false, more⟩ L' f cdv))
        (fun fl s' => Done g post s (match fl with | .ret v => v | _ => .none) s') (fun _ _ => False) { s with heap := h₁, toks := s.toks + binds.length })
    (hcell : ∀ x ∈ names, x.2 ≠ .cell) :
    codeAny (model pw_te0025_01 w) (ktrTop dp un gd cn cs L a ccd cl outer) (.call (.ref f) ⟨args, []⟩) R s := by
  have nm : ∀ b o, h₀.get? b = some o → b ∉ ([] : List (Addr × Obj)).map (·.1) := fun b o e q => by
    obtain ⟨p, hp, rfl⟩ := List.mem_map.mp q
    rw [(N p hp).2.2] at e; cases e
  obtain ⟨FG, BG, st, lv⟩ := groundX (A := ktrTop dp un gd cn cs L a ccd cl outer) (env := envX cn cs L a ccd cl) (R := R) B F N rfl rfl hke
  refine codeAny_call_def (fd := fnOf name qual ⟨po, pa, va, ko, kd, vk, ds⟩ (st₀ :: sts) ⟨.function, names, false, false, more⟩ dV kV doc pm an cdv ct) (body := st₀ :: sts) (binds := binds) hroom ((X.keeps F.keep) _ _ ho) rfl (T.nolimit.keeps F.keep) (codeRec_of (X.keeps F.keep) hcd) rfl hbind hcell (fun x hx => of_decide_eq_true (List.all_eq_true.mp hloc x hx)) (fun h₁ hns hk₁ => ?_) rfl rfl rfl
  have FF : Fr (hideAll s.heap (([] : List (Addr × Obj)).map (·.1))) s.heap.objs.size h₁ (fun y => binds.reverse.lookup y) := ⟨hns, fun b o e => hk₁ b o (of_hideAll _ e), Nat.le_of_eq (hideAll_size _ _)⟩
  have NN : News (hideAll s.heap (([] : List (Addr × Obj)).map (·.1))) s.heap.objs.size h₁ [] := fun p hp => ⟨hk₁ _ _ (N p hp).1, Nat.ne_of_lt (Heap.lt_size (N p hp).1), hideAll_none _ (List.mem_map_of_mem hp)⟩
  have key : ∀ (v : Value) (s' : Shared), Done (hideAll s.heap (([] : List (Addr × Obj)).map (·.1))) post s v s' → R (.ok (.ret v)) s' := by
    rintro v s' ⟨foot', h', tk', L', m', rfl, F', N', hp⟩
    exact lv v _ ⟨L', m', foot', F', N', fun F₂ N₂ => ret _ foot' h' tk' hp F₂ N₂ (fun b o e nb => F'.keep b o (hideAll_get _ e nb)) (fun p hp => by
      cases q : s.heap.get? p.1 with
      | none => rfl
      | some o => have z := (N' p hp).2.2; have z2 := hideAll_get (([] : List (Addr × Obj)).map (·.1)) q List.not_mem_nil; rw [z] at z2; cases z2)⟩
  exact wpAny_mono (h _ s.heap.objs.size h₁ FF NN BG (X.keeps st) (T.keeps st) (fun p hp => Heap.lt_size (N p hp).1)) (fun fl s' hd => key _ s' hd) (fun _ _ x => x.elim)
theorem enterF {w : World} {dp un : Nat} {gd : Option (List Code)} {cn : Str} {cs : Scope} {a : Addr} {ccd : Value} {cl : List (Str × Addr)} {outer : List Env} {A₀ : Around} {base h₀ : Heap} {L : Addr} {m : Str → Option Value} {s : Shared} {mean : ExcName → Option Value} {mg mb : Str → Option Value}
    {Q E : Value → Shared → Prop} {post : Value → List (Addr × Obj) → Prop} {f : Addr} {args : List Value}
    {name qual : Str} {po pa ko : List Arg} {va vk : Option Arg} {kd : List (Option PySem.Expr)} {ds : List PySem.Expr} {st₀ : Stmt} {sts : List Stmt} {names : List (Str × NameKind)} {more : List (Str × Const)} {dV kV doc pm cdv ct oc : Value} {an od : Option Addr} {osl : Array (Option Value)} {binds : List (Str × Value)}
    (B : Below A₀ base outer h₀) (F : Fr h₀ L s.heap m) (X : (KW w.params).In h₀) (N : News h₀ L s.heap []) (T : TopQ mean mg mb h₀) (hke : cs.kind = .function)
    (ret : ∀ v foot' h' tk', post v foot' → Fr h₀ L h' m → News h₀ L h' foot' → Keep s.heap h' [] → (∀ p ∈ foot', s.heap.get? p.1 = none) → Q v { s with heap := h', toks := tk' })
    (ho : (KW w.params).lookup f = some ⟨oc, od, .func (fnOf name qual ⟨po, pa, va, ko, kd, vk, ds⟩ (st₀ :: sts) ⟨.function, names, false, false, more⟩ dV kV doc pm an cdv ct), osl⟩) (hcd : codeIn (KW w.params) cdv qual = true) (hroom : dp < recursionLimit)
    (hbind : BindsTo s (fnOf name qual ⟨po, pa, va, ko, kd, vk, ds⟩ (st₀ :: sts) ⟨.function, names, false, false, more⟩ dV kV doc pm an cdv ct) ⟨args, []⟩ binds) (hloc : (binds.all fun x => decide (names.lookup x.1 = some .local)) = true)
    (h : ∀ g L' h₁, Fr g L' h₁ (fun y => binds.reverse.lookup y) → News g L' h₁ [] → Below (ktrTop dp un gd cn cs L a ccd cl outer) base (envX cn cs L a ccd cl :: outer) g → (KW w.params).In g → TopQ mean mg mb g → (∀ p ∈ ([] : List (Addr × Obj)), p.1 < L') →
      wpAny (model pw_te0025_01 w) ((ktrTop dp un gd cn cs L a ccd cl outer).deeper (envOf qual ⟨.function, names, false, false, more⟩ L' f cdv)) (execs (st₀ :: sts) (envOf qual ⟨.function, names, false, false, more⟩ L' f cdv))
        (fun fl s' => Done g post s (match fl with | .ret v => v | _ => .none) s') (fun _ _ => False) { s with heap := h₁, toks := s.toks + binds.length })
    (hcell : ∀ x ∈ names, x.2 ≠ .cell) :
    wpAny (model pw_te0025_01 w) (ktrTop dp un gd cn cs L a ccd cl outer) (call (.ref f) args) Q E s :=
  wpAny_call (enterFC B F X N T hke ret ho hcd hroom hbind hloc h hcell)
theorem CtrF.use {w : World} {f : Addr} {args : List Value} {D : Nat} {post : Value → List (Addr × Obj) → Prop} (C : CtrF w f args D post)
    {dp un : Nat} {gd : Option (List Code)} {cn : Str} {cs : Scope} {a : Addr} {ccd : Value} {cl : List (Str × Addr)} {outer : List Env} {A₀ : Around} {base h₀ : Heap} {L : Addr} {m : Str → Option Value} {hh₉ : Heap} {g₉ : Array GenState} {d₉ : Drawn} {n₉ : Nat} {os₉ : OsState} {mean : ExcName → Option Value} {mg mb : Str → Option Value}
    {Q E : Value → Shared → Prop} {A : Around} (hA : A = ktrTop dp un gd cn cs L a ccd cl outer)
    (B : Below A₀ base outer h₀) (F : Fr h₀ L hh₉ m) (X : (KW w.params).In h₀) (T : TopQ mean mg mb h₀) (hk : cs.kind = .function) (hd : dp + D < recursionLimit) (hu : un + 8 * D < cLine) (hp : 0 < n₉)
    (ret : ∀ v foot' h' tk', post v foot' → Fr h₀ L h' m → News h₀ L h' foot' → Keep hh₉ h' [] → (∀ p ∈ foot', hh₉.get? p.1 = none) → Q v ⟨h', g₉, d₉, tk', os₉⟩) :
    wpAny (model pw_te0025_01 w) A (call (.ref f) args) Q E ⟨hh₉, g₉, d₉, n₉, os₉⟩ := by
  subst hA
  exact C _ _ _ _ _ _ _ _ _ _ _ _ _ _ _ _ _ _ _ _ B F X News.nil T hk hd hu hp ret
end Mine
end
section
open PySem PySem.W PySem.Calls PyProof.Rows PySem.Spec
namespace Mine
open Mine.Top (KW)
open PySem.Challenge (pw_te0025_01 rw_te0025_01)
/-- one that breaks S, if any does: what holds of it holds of all. So the walk may speak of constants. -/
noncomputable def pick {X : Type} (ne : Nonempty X) (S : X → Prop) : X := @Classical.epsilon X ne fun x => ¬ S x
theorem of_pick {X : Type} {ne : Nonempty X} {S : X → Prop} (h : S (pick ne S)) (x : X) : S x :=
  Classical.byContradiction fun n => (@Classical.epsilon_spec_aux X ne (fun x => ¬ S x) ⟨x, n⟩ : ¬ S (pick ne S)) h
noncomputable def dW : World := { draws := fun _ _ => 0, params := { strHash := fun _ => 0, shareClass := fun _ => 0, mergeTok := fun t => t, idOf := fun _ => 0, idOfShared := fun _ _ => 0, followText := fun _ => false, idOfImm := fun _ => 0 } }
noncomputable def dS : Shared := ⟨{}, #[], {}, 1, {}⟩
noncomputable def dA : Around := ktrTop 0 0 none default default default default default [] []
noncomputable def dStrm : Strm := ⟨0, 0, 0, 0, 0, .none, .none, fun _ => 0, fun _ => 0, [], 0⟩
noncomputable def dSV : SV := ⟨[], 0, 0, 0, 0, 0, 0, 0, 0, 0, .none, 0, 0⟩
/-- the contract, at one place -/
noncomputable def CtrAt (w : World) (dp un : Nat) (gd : Option (List Code)) (cn : Str) (cs : Scope) (a : Addr) (ccd : Value) (cl : List (Str × Addr)) (outer : List Env) (A₀ : Around) (base h₀ : Heap) (L : Addr) (m : Str → Option Value) (s : Shared) (mean : ExcName → Option Value) (mg mb : Str → Option Value) (Q E : Value → Shared → Prop) (f : Addr) (args : List Value) (D : Nat) (foot : List (Addr × Obj)) (post : Value → List (Addr × Obj) → Prop)  : Prop :=

    Below A₀ base outer h₀ → Fr h₀ L s.heap m → (KW w.params).In h₀ → News h₀ L s.heap foot → TopQ mean mg mb h₀ → cs.kind = .function → dp + D < recursionLimit → un + 8 * D < cLine → 0 < s.toks →
    (∀ v foot' h' tk', post v foot' → Fr h₀ L h' m → News h₀ L h' foot' → Keep s.heap h' (foot.map (·.1)) → Q v { s with heap := h', toks := tk' }) →
    wpAny (model pw_te0025_01 w) (ktrTop dp un gd cn cs L a ccd cl outer) (call (.ref f) args) Q E s
/-- the contract, at one place -/
noncomputable def CtrCAt (w : World) (dp un : Nat) (gd : Option (List Code)) (cn : Str) (cs : Scope) (a : Addr) (ccd : Value) (cl : List (Str × Addr)) (outer : List Env) (A₀ : Around) (base h₀ : Heap) (L : Addr) (m : Str → Option Value) (s : Shared) (mean : ExcName → Option Value) (mg mb : Str → Option Value) (R : Result → Shared → Prop) (f : Addr) (args : List Value) (D : Nat) (foot : List (Addr × Obj)) (post : Value → List (Addr × Obj) → Prop)  : Prop :=

    Below A₀ base outer h₀ → Fr h₀ L s.heap m → (KW w.params).In h₀ → News h₀ L s.heap foot → TopQ mean mg mb h₀ → cs.kind = .function → dp + D < recursionLimit → un + 8 * D < cLine → 0 < s.toks →
    (∀ v foot' h' tk', post v foot' → Fr h₀ L h' m → News h₀ L h' foot' → Keep s.heap h' (foot.map (·.1)) → R (.ok (.ret v)) { s with heap := h', toks := tk' }) →
    codeAny (model pw_te0025_01 w) (ktrTop dp un gd cn cs L a ccd cl outer) (.call (.ref f) ⟨args, []⟩) R s
/-- the contract, at one place -/
noncomputable def CtrFAt (w : World) (dp un : Nat) (gd : Option (List Code)) (cn : Str) (cs : Scope) (a : Addr) (ccd : Value) (cl : List (Str × Addr)) (outer : List Env) (A₀ : Around) (base h₀ : Heap) (L : Addr) (m : Str → Option Value) (s : Shared) (mean : ExcName → Option Value) (mg mb : Str → Option Value) (Q E : Value → Shared → Prop) (f : Addr) (args : List Value) (D : Nat) (post : Value → List (Addr × Obj) → Prop)  : Prop :=

    Below A₀ base outer h₀ → Fr h₀ L s.heap m → (KW w.params).In h₀ → News h₀ L s.heap [] → TopQ mean mg mb h₀ → cs.kind = .function → dp + D < recursionLimit → un + 8 * D < cLine → 0 < s.toks →
    (∀ v foot' h' tk', post v foot' → Fr h₀ L h' m → News h₀ L h' foot' → Keep s.heap h' [] → (∀ p ∈ foot', s.heap.get? p.1 = none) → Q v { s with heap := h', toks := tk' }) →
    wpAny (model pw_te0025_01 w) (ktrTop dp un gd cn cs L a ccd cl outer) (call (.ref f) args) Q E s
/-- the contract, at one place -/
noncomputable def CtrXAt (w : World) (dp un : Nat) (gd : Option (List Code)) (cn : Str) (cs : Scope) (a : Addr) (ccd : Value) (cl : List (Str × Addr)) (outer : List Env) (A₀ : Around) (base h₀ : Heap) (L : Addr) (m : Str → Option Value) (s : Shared) (mean : ExcName → Option Value) (mg mb : Str → Option Value) (news : List (Addr × Obj)) (R : Result → Shared → Prop) (f : Addr) (args : List Value) (D : Nat) (post : Value → Prop) (bad : Prop)  : Prop :=

    Below A₀ base outer h₀ → Fr h₀ L s.heap m → (KW w.params).In h₀ → News h₀ L s.heap news → TopQ mean mg mb h₀ → cs.kind = .function → dp + D < recursionLimit → un + 8 * D < cLine → 0 < s.toks →
    (∀ v h' tk', post v → Fr h₀ L h' m → News h₀ L h' news → R (.ok (.ret v)) { s with heap := h', toks := tk' }) →
    (∀ e G h' tk', bad → Fr h₀ L G m → RaisedSN base G (envX cn cs L a ccd cl :: outer) e (.type "KeyError") news h' → G.UpToSlots h' → R (.error (.ref e)) { s with heap := h', toks := tk' }) →
    codeAny (model pw_te0025_01 w) (ktrTop dp un gd cn cs L a ccd cl outer) (.call (.ref f) ⟨args, []⟩) R s
/-- the contract, at one place -/
noncomputable def CtrSAt (w : World) (dp un : Nat) (gd : Option (List Code)) (cn : Str) (cs : Scope) (a : Addr) (ccd : Value) (A₀ : Around) (base h₀ : Heap) (L : Addr) (m : Str → Option Value) (s : Shared) (mean : ExcName → Option Value) (mg mb : Str → Option Value) (Q E : Value → Shared → Prop) (f : Addr) (args : List Value) (D : Nat) (foot : List (Addr × Obj)) (post : Value → List (Addr × Obj) → Prop)  : Prop :=

    Below A₀ base [] h₀ → Fr h₀ L s.heap m → (KW w.params).In h₀ → News h₀ L s.heap foot → TopQ mean mg mb h₀ → (KW w.params).In base → TopQ mean mg mb base → cs.kind = .function → dp + D < recursionLimit → un + 8 * D < cLine → 0 < s.toks →
    (∀ v foot' h' tk', post v foot' → Fr h₀ L h' m → News h₀ L h' foot' → Keep s.heap h' (L :: foot.map (·.1)) → Q v { s with heap := h', toks := tk' }) →
    wpAny (model pw_te0025_01 w) (ktrTop dp un gd cn cs L a ccd [] []) (call (.ref f) args) Q E s
end Mine
end
section
open PySem PySem.W PySem.Calls PyProof.Rows PySem.Spec
namespace Mine
open Mine.Top (KW)
open PySem.Challenge (pw_te0025_01 rw_te0025_01)
local macro_rules | `(tactic| walk_at "forall") => `(tactic| (k_here; first | refine drop_known (by assumption) ?_ | refine drop_known (Nat.succ_pos _) ?_ | (intro hp'; dsimp only at hp')))
set_option hygiene false
set_option compiler.extract_closed false
local macro_rules | `(tactic| walk_at "pos") => `(tactic| first | assumption | exact Nat.succ_pos _ | lia | (dsimp only; lia))
local macro_rules | `(tactic| walk_at "flat") => `(tactic| ((refine' cons_flat ?kp ?_); (case kp => walk_at "pos")))
local macro_rules | `(tactic| walk_at "str.replace") => `(tactic| (refine SC.replaceW (by walk_at "ne") (by walk_at "ne") (by walk_at "ne") (by first | decide | assumption) (by first | lia | assumption) (by first | decide | lia) ?_; intro _ _))
local macro_rules | `(tactic| walk_at "ne") => `(tactic| (show @Ne Nat _ _; lia))
local macro_rules | `(tactic| walk_at "one") => `(tactic| ((refine wpAny_toks (n := 1) ?kp ?_); (case kp => walk_at "pos")))
local macro_rules | `(tactic| walk_at "slice") => `(tactic| ((k_here; walk_at "one"); (with_reducible rename Fr _ _ _ _ => Fq); (with_reducible rename News _ _ _ _ => Nq); (first | (refine slice_strN_ns (hsz := ?hsz) (s := ⟨_, _, _, _, _⟩) Fq Nq ?_) | (refine slice_strN_sn (hsz := ?hsz) (s := ⟨_, _, _, _, _⟩) Fq Nq ?_) | (refine slice_strN_ss (hsz := ?hsz) (s := ⟨_, _, _, _, _⟩) Fq Nq ?_)); (case hsz => size_fits); intro _ _ _ _ _))
local macro_rules | `(tactic| walk_at "execs cons") => `(tactic| (k_here; (try k_made); (first | ((with_reducible refine cons_deep ?_); intro _ _) | walk_at "flat"); (try dsimp only)))
local macro_rules | `(tactic| walk_at "call builtin:str.count") => `(tactic| (k_here; refine call_count4 ?_))
local macro_rules | `(tactic| walk_at "call builtin:str.rfind") => `(tactic| (k_here; refine call_rfind4 ?_))
local macro_rules | `(tactic| walk_at "done") => `(tactic| (refine ⟨_, _, _, _, _, rfl, ‹Fr _ _ _ _›, ‹News _ _ _ _›, ?_⟩))
local macro_rules | `(tactic| walk_at "exec For") => `(tactic| (k_here; refine stop ?_))
local macro_rules | `(tactic| walk_at "exec For Name Name cons nil") => `(tactic| (k_here; refine stop ?_))
local macro_rules | `(tactic| walk_at "exec For Tuple Name cons nil") => `(tactic| (k_here; refine stop ?_))
local macro_rules | `(tactic| walk_at "exec For Name Call cons nil") => `(tactic| (k_here; refine stop ?_))
local macro_rules | `(tactic| walk_at "exec For Name Subscript cons nil") => `(tactic| (k_here; refine stop ?_))
local macro_rules | `(tactic| walk_at "exec While") => `(tactic| (k_here; refine stop ?_))
local macro_rules | `(tactic| walk_at "truthy ref") => `(tactic| (k_here; refine' truthy_method ?kn ?km ?_; (case kn => k_asm); (case km => k_mem)))
local macro_rules | `(tactic| walk_at "call builtin:str.replace") => `(tactic| (k_here; walk_at "str.replace"))
local macro_rules | `(tactic| walk_at "subscriptTail Name Attribute Name str int") => `(tactic| (k_here; refine item_str (fitsSsize_of (N := 9223372036854775808) (by lia) (by lia) (Int.le_refl _)) (by lia) (by lia) ?_; intro _))
local macro_rules | `(tactic| walk_at "subscriptTail Name Attribute str int") => `(tactic| walk_at "subscriptTail Name Attribute Name str int")
local macro_rules | `(tactic| size_fits) => `(tactic| (simp only [PySem.sizeLine_eq]; lia))
local macro_rules | `(tactic| walk_at "call builtin:str.join") => `(tactic| (k_here; refine stop ?_))
local macro_rules | `(tactic| walk_at "lt find") => `(tactic| first | assumption | (apply And.left; walk_at "lt deep") | (apply And.right; walk_at "lt deep"))
local macro_rules | `(tactic| walk_at "lt deep") => `(tactic| ((iterate 17 (try (first | assumption | apply And.right))); done))
local macro_rules | `(tactic| k_ne) => `(tactic| (refine neN ?_; (try dsimp only); first | (refine Nat.ne_of_lt ?_; walk_at "lt find") | (refine Nat.ne_of_gt ?_; walk_at "lt find") | (refine Nat.ne_of_lt ?_; refine Nat.lt_trans ?_ (by assumption); walk_at "lt find") | (refine Nat.ne_of_gt ?_; refine Nat.lt_trans ?_ (by assumption); walk_at "lt find") | lia))
local macro_rules | `(tactic| walk_at "execs nil") => `(tactic| (k_here; refine wpAny_execs_nil ?_))
set_option maxRecDepth 100000
set_option maxHeartbeats 4000000
section
local macro_rules | `(tactic| walk_at "call ref") => `(tactic| (k_here; refine stop ?_))
section
theorem read_spec (w : World) (c : Strm) (v : SV) (n : Nat) (tk : Tok) (hc : c.Ord) (hx : c.text.length ≤ 1000) :
    Ctr w 70 [.ref c.ds, .int (n : Nat) tk] 2 (c.led v)
      (fun r led => ∃ tr tp, r = .str (tx ((c.text.drop v.place).take n)) tr ∧ led = c.led { v with place := v.place + ((c.text.drop v.place).take n).length, tpa := tp }) := by
  w_on
  obtain ⟨st, sd, ds, dd, mth, vnl, vel, k, t, text, tt⟩ := c
  obtain ⟨chunk, tc, size, ts, off, to, pl, tpl, pc, tpc, buf, place, tpa⟩ := v
  obtain ⟨q1, q2, q3, q4⟩ := hc
  have q12 := Nat.lt_trans q1 q2
  have q23 := Nat.lt_trans q2 q3
  have q34 := Nat.lt_trans q3 q4
  have q13 := Nat.lt_trans q12 q3
  have q24 := Nat.lt_trans q23 q4
  have q14 := Nat.lt_trans q13 q4
  dsimp only [Strm.led, Strm.sdO, Strm.ddO] at *
  have hl := tx_length text
  intro dp un gd cn cs a ccd cl outer A₀ base h₀ L m s mean mg mb Q E B F X N T hk hd hu hp hret
  refine' enter (binds := [(Str.ofString "self", .ref ds), (Str.ofString "size", .int (n : Nat) tk)]) B F X N T hk hret ?k6 ?k7 ?k8 ?k9 ?kB ?_ ?c5
  (case k6 => k_is)
  (case k7 => k_is)
  (case k8 => first | exact rm0 (by assumption) | lia)
  (case k9 => first | exact BindsTo.of_eq rfl | exact binds_K (by k_in) rfl (by k_is) rfl rfl rfl)
  (case c5 => decide)
  (case kB => exact rfl)
  clear hret N F T X B
  intro g' L' h' F' N' B' X' T' hlt
  refine flatD (Nat.add_pos_left hp _) ?_
  intro g₉ d₉ os₉ n₉ hp₉
  refine hideDone ?_
  intro R9 hR9
  (try dsimp only)
  (try k_fold)
  k_steps
  have e : Txt.slice (tx text) (some (place : Int)) (some ((place : Int) + (n : Int))) = tx ((text.drop place).take n) := by
    rw [show ((place : Int) + (n : Int)) = ((place + n : Nat) : Int) from rfl, slice_nat, List.drop_take, Nat.add_sub_cancel_left]
  refine hR9 _ _ ⟨_, _, _, _, _, rfl, ‹Fr _ _ _ _›, ‹News _ _ _ _›, ?_⟩
  rw [e]
  exact ⟨_, _, rfl, rfl⟩
end
section
local macro_rules | `(tactic| walk_at "none 0") => `(tactic| fail)
noncomputable def position_at_S (w : World) (tk : Tok) (st : Nat) (sd : Nat) (ds : Nat) (dd : Nat) (mth : Nat) (vnl : Value) (vel : Value) (k : Nat → Int) (t : Nat → Tok) (text : List Nat) (tt : Tok) (dp : Nat) (un : Nat) (gd : Option (List Code)) (cn : Str) (cs : Scope) (a : Addr) (ccd : Value) (cl : List (Str × Addr)) (outer : List Env) (A₀ : Around) (base : Heap) (h₀ : Heap) (L : Addr) (m : Str → Option Value) (s : Shared) (mean : ExcName → Option Value) (mg : Str → Option Value) (mb : Str → Option Value) (Q : Value → Shared → Prop) (E : Value → Shared → Prop) : Prop :=
  ∀ (v : SV) (o : Nat), ((Strm.mk st sd ds dd mth vnl vel k t text tt).Ord) →
    (o ≤ v.chunk.length) →
    CtrAt w dp un gd cn cs a ccd cl outer A₀ base h₀ L m s mean mg mb Q E 119 [.ref (Strm.mk st sd ds dd mth vnl vel k t text tt).st, .int (o : Nat) tk] 2 ((Strm.mk st sd ds dd mth vnl vel k t text tt).led v) (fun r led => ∃ a n1 n2 t1 t2, r = .ref a ∧ led = (a, tupOf #[.int n1 t1, .int n2 t2]) :: (Strm.mk st sd ds dd mth vnl vel k t text tt).led v ∧ @LT.lt Nat _ (Strm.mk st sd ds dd mth vnl vel k t text tt).ds a ∧ n1 = v.pl + ((v.chunk.take o).count 10 : Nat) ∧ n2 = colOf v.chunk v.pc o)
noncomputable abbrev position_at_T : Type := (World) × (Tok) × (Nat) × (Nat) × (Nat) × (Nat) × (Nat) × (Value) × (Value) × (Nat → Int) × (Nat → Tok) × (List Nat) × (Tok) × (Nat) × (Nat) × (Option (List Code)) × (Str) × (Scope) × (Addr) × (Value) × (List (Str × Addr)) × (List Env) × (Around) × (Heap) × (Heap) × (Addr) × (Str → Option Value) × (Shared) × (ExcName → Option Value) × (Str → Option Value) × (Str → Option Value) × (Value → Shared → Prop) × (Value → Shared → Prop)
theorem position_at_ne : Nonempty position_at_T := ⟨(dW, default, default, default, default, default, default, default, default, (fun _ => default), (fun _ => default), default, default, default, default, default, default, default, default, default, default, default, dA, default, default, default, (fun _ => default), dS, (fun _ => default), (fun _ => default), (fun _ => default), (fun _ _ => True), (fun _ _ => True))⟩
noncomputable abbrev position_at_F (x : position_at_T) : Prop := position_at_S x.1 x.2.1 x.2.2.1 x.2.2.2.1 x.2.2.2.2.1 x.2.2.2.2.2.1 x.2.2.2.2.2.2.1 x.2.2.2.2.2.2.2.1 x.2.2.2.2.2.2.2.2.1 x.2.2.2.2.2.2.2.2.2.1 x.2.2.2.2.2.2.2.2.2.2.1 x.2.2.2.2.2.2.2.2.2.2.2.1 x.2.2.2.2.2.2.2.2.2.2.2.2.1 x.2.2.2.2.2.2.2.2.2.2.2.2.2.1 x.2.2.2.2.2.2.2.2.2.2.2.2.2.2.1 x.2.2.2.2.2.2.2.2.2.2.2.2.2.2.2.1 x.2.2.2.2.2.2.2.2.2.2.2.2.2.2.2.2.1 x.2.2.2.2.2.2.2.2.2.2.2.2.2.2.2.2.2.1 x.2.2.2.2.2.2.2.2.2.2.2.2.2.2.2.2.2.2.1 x.2.2.2.2.2.2.2.2.2.2.2.2.2.2.2.2.2.2.2.1 x.2.2.2.2.2.2.2.2.2.2.2.2.2.2.2.2.2.2.2.2.1 x.2.2.2.2.2.2.2.2.2.2.2.2.2.2.2.2.2.2.2.2.2.1 x.2.2.2.2.2.2.2.2.2.2.2.2.2.2.2.2.2.2.2.2.2.2.1 x.2.2.2.2.2.2.2.2.2.2.2.2.2.2.2.2.2.2.2.2.2.2.2.1 x.2.2.2.2.2.2.2.2.2.2.2.2.2.2.2.2.2.2.2.2.2.2.2.2.1 x.2.2.2.2.2.2.2.2.2.2.2.2.2.2.2.2.2.2.2.2.2.2.2.2.2.1 x.2.2.2.2.2.2.2.2.2.2.2.2.2.2.2.2.2.2.2.2.2.2.2.2.2.2.1 x.2.2.2.2.2.2.2.2.2.2.2.2.2.2.2.2.2.2.2.2.2.2.2.2.2.2.2.1 x.2.2.2.2.2.2.2.2.2.2.2.2.2.2.2.2.2.2.2.2.2.2.2.2.2.2.2.2.1 x.2.2.2.2.2.2.2.2.2.2.2.2.2.2.2.2.2.2.2.2.2.2.2.2.2.2.2.2.2.1 x.2.2.2.2.2.2.2.2.2.2.2.2.2.2.2.2.2.2.2.2.2.2.2.2.2.2.2.2.2.2.1 x.2.2.2.2.2.2.2.2.2.2.2.2.2.2.2.2.2.2.2.2.2.2.2.2.2.2.2.2.2.2.2.1 x.2.2.2.2.2.2.2.2.2.2.2.2.2.2.2.2.2.2.2.2.2.2.2.2.2.2.2.2.2.2.2.2
noncomputable def position_at_P : position_at_T := pick position_at_ne position_at_F
namespace position_at_V
@[irreducible] noncomputable def w : World := position_at_P.1
@[irreducible] noncomputable def tk : Tok := position_at_P.2.1
@[irreducible] noncomputable def st : Nat := position_at_P.2.2.1
@[irreducible] noncomputable def sd : Nat := position_at_P.2.2.2.1
@[irreducible] noncomputable def ds : Nat := position_at_P.2.2.2.2.1
@[irreducible] noncomputable def dd : Nat := position_at_P.2.2.2.2.2.1
@[irreducible] noncomputable def mth : Nat := position_at_P.2.2.2.2.2.2.1
@[irreducible] noncomputable def vnl : Value := position_at_P.2.2.2.2.2.2.2.1
@[irreducible] noncomputable def vel : Value := position_at_P.2.2.2.2.2.2.2.2.1
@[irreducible] noncomputable def k : Nat → Int := position_at_P.2.2.2.2.2.2.2.2.2.1
@[irreducible] noncomputable def t : Nat → Tok := position_at_P.2.2.2.2.2.2.2.2.2.2.1
@[irreducible] noncomputable def text : List Nat := position_at_P.2.2.2.2.2.2.2.2.2.2.2.1
@[irreducible] noncomputable def tt : Tok := position_at_P.2.2.2.2.2.2.2.2.2.2.2.2.1
@[irreducible] noncomputable def dp : Nat := position_at_P.2.2.2.2.2.2.2.2.2.2.2.2.2.1
@[irreducible] noncomputable def un : Nat := position_at_P.2.2.2.2.2.2.2.2.2.2.2.2.2.2.1
@[irreducible] noncomputable def gd : Option (List Code) := position_at_P.2.2.2.2.2.2.2.2.2.2.2.2.2.2.2.1
@[irreducible] noncomputable def cn : Str := position_at_P.2.2.2.2.2.2.2.2.2.2.2.2.2.2.2.2.1
@[irreducible] noncomputable def cs : Scope := position_at_P.2.2.2.2.2.2.2.2.2.2.2.2.2.2.2.2.2.1
@[irreducible] noncomputable def a : Addr := position_at_P.2.2.2.2.2.2.2.2.2.2.2.2.2.2.2.2.2.2.1
@[irreducible] noncomputable def ccd : Value := position_at_P.2.2.2.2.2.2.2.2.2.2.2.2.2.2.2.2.2.2.2.1
@[irreducible] noncomputable def cl : List (Str × Addr) := position_at_P.2.2.2.2.2.2.2.2.2.2.2.2.2.2.2.2.2.2.2.2.1
@[irreducible] noncomputable def outer : List Env := position_at_P.2.2.2.2.2.2.2.2.2.2.2.2.2.2.2.2.2.2.2.2.2.1
@[irreducible] noncomputable def A₀ : Around := position_at_P.2.2.2.2.2.2.2.2.2.2.2.2.2.2.2.2.2.2.2.2.2.2.1
@[irreducible] noncomputable def base : Heap := position_at_P.2.2.2.2.2.2.2.2.2.2.2.2.2.2.2.2.2.2.2.2.2.2.2.1
@[irreducible] noncomputable def h₀ : Heap := position_at_P.2.2.2.2.2.2.2.2.2.2.2.2.2.2.2.2.2.2.2.2.2.2.2.2.1
@[irreducible] noncomputable def L : Addr := position_at_P.2.2.2.2.2.2.2.2.2.2.2.2.2.2.2.2.2.2.2.2.2.2.2.2.2.1
@[irreducible] noncomputable def m : Str → Option Value := position_at_P.2.2.2.2.2.2.2.2.2.2.2.2.2.2.2.2.2.2.2.2.2.2.2.2.2.2.1
@[irreducible] noncomputable def s : Shared := position_at_P.2.2.2.2.2.2.2.2.2.2.2.2.2.2.2.2.2.2.2.2.2.2.2.2.2.2.2.1
@[irreducible] noncomputable def mean : ExcName → Option Value := position_at_P.2.2.2.2.2.2.2.2.2.2.2.2.2.2.2.2.2.2.2.2.2.2.2.2.2.2.2.2.1
@[irreducible] noncomputable def mg : Str → Option Value := position_at_P.2.2.2.2.2.2.2.2.2.2.2.2.2.2.2.2.2.2.2.2.2.2.2.2.2.2.2.2.2.1
@[irreducible] noncomputable def mb : Str → Option Value := position_at_P.2.2.2.2.2.2.2.2.2.2.2.2.2.2.2.2.2.2.2.2.2.2.2.2.2.2.2.2.2.2.1
@[irreducible] noncomputable def Q : Value → Shared → Prop := position_at_P.2.2.2.2.2.2.2.2.2.2.2.2.2.2.2.2.2.2.2.2.2.2.2.2.2.2.2.2.2.2.2.1
@[irreducible] noncomputable def E : Value → Shared → Prop := position_at_P.2.2.2.2.2.2.2.2.2.2.2.2.2.2.2.2.2.2.2.2.2.2.2.2.2.2.2.2.2.2.2.2
theorem core : position_at_S w tk st sd ds dd mth vnl vel k t text tt dp un gd cn cs a ccd cl outer A₀ base h₀ L m s mean mg mb Q E := by
  unfold position_at_S
  w_on
  intro v o hc ho
  obtain ⟨chunk, tc, size, ts, off, to, pl, tpl, pc, tpc, buf, place, tpa⟩ := v
  obtain ⟨q1, q2, q3, q4⟩ := hc
  have q12 := Nat.lt_trans q1 q2
  have q23 := Nat.lt_trans q2 q3
  have q34 := Nat.lt_trans q3 q4
  have q13 := Nat.lt_trans q12 q3
  have q24 := Nat.lt_trans q23 q4
  have q14 := Nat.lt_trans q13 q4
  dsimp only [Strm.led, Strm.sdO, Strm.ddO] at *
  intro B F X N T hk hd hu hp hret
  refine' enter (binds := [(Str.ofString "self", .ref st), (Str.ofString "offset", .int (o : Nat) tk)]) B F X N T hk hret ?k6 ?k7 ?k8 ?k9 ?kB ?_ ?c5
  (case k6 => k_is)
  (case k7 => k_is)
  (case k8 => first | exact rm0 (by assumption) | lia)
  (case k9 => first | exact BindsTo.of_eq rfl | exact binds_K (by k_in) rfl (by k_is) rfl rfl rfl)
  (case c5 => decide)
  (case kB => exact rfl)
  clear hret N F T X B
  intro g' L' h' F' N' B' X' T' hlt
  refine flatD (Nat.add_pos_left hp _) ?_
  intro g₉ d₉ os₉ n₉ hp₉
  refine hideDone ?_
  intro R9 hR9
  (try dsimp only)
  (try k_fold)
  k_steps
  · skip
    refine hR9 _ _ ⟨_, _, _, _, _, rfl, ‹Fr _ _ _ _›, ‹News _ _ _ _›, ?_⟩
    refine ⟨_, _, _, _, _, rfl, rfl, by lia, ?_, ?_⟩
    · rw [lit_n, cnt_tx]
    · rcases rfd_tx chunk o ho with ⟨h1, h2⟩ | ⟨h1, h2, h3⟩
      · rw [colOf, if_neg h2]
      · exact absurd (lit_n ▸ ‹rfd _ _ _ = -1›) h1
  · refine hR9 _ _ ⟨_, _, _, _, _, rfl, ‹Fr _ _ _ _›, ‹News _ _ _ _›, ?_⟩
    refine ⟨_, _, _, _, _, rfl, rfl, by lia, ?_, ?_⟩
    · rw [lit_n, cnt_tx]
    · rcases rfd_tx chunk o ho with ⟨h1, h2⟩ | ⟨h1, h2, h3⟩
      · exact absurd h1 (lit_n ▸ ‹¬ rfd _ _ _ = -1›)
      · rw [colOf, if_pos h2, lit_n, h3]
end position_at_V
theorem position_at_all (w : World) (tk : Tok) (st : Nat) (sd : Nat) (ds : Nat) (dd : Nat) (mth : Nat) (vnl : Value) (vel : Value) (k : Nat → Int) (t : Nat → Tok) (text : List Nat) (tt : Tok) (dp : Nat) (un : Nat) (gd : Option (List Code)) (cn : Str) (cs : Scope) (a : Addr) (ccd : Value) (cl : List (Str × Addr)) (outer : List Env) (A₀ : Around) (base : Heap) (h₀ : Heap) (L : Addr) (m : Str → Option Value) (s : Shared) (mean : ExcName → Option Value) (mg : Str → Option Value) (mb : Str → Option Value) (Q : Value → Shared → Prop) (E : Value → Shared → Prop) : position_at_S w tk st sd ds dd mth vnl vel k t text tt dp un gd cn cs a ccd cl outer A₀ base h₀ L m s mean mg mb Q E := of_pick (S := position_at_F) (show position_at_F position_at_P by with_unfolding_all exact position_at_V.core) (w, tk, st, sd, ds, dd, mth, vnl, vel, k, t, text, tt, dp, un, gd, cn, cs, a, ccd, cl, outer, A₀, base, h₀, L, m, s, mean, mg, mb, Q, E)
theorem position_at (w : World) (c : Strm) (v : SV) (o : Nat) (tk : Tok) (hc : c.Ord) (ho : o ≤ v.chunk.length) : Ctr w 119 [.ref c.st, .int (o : Nat) tk] 2 (c.led v) (fun r led => ∃ a n1 n2 t1 t2, r = .ref a ∧ led = (a, tupOf #[.int n1 t1, .int n2 t2]) :: c.led v ∧ @LT.lt Nat _ c.ds a ∧ n1 = v.pl + ((v.chunk.take o).count 10 : Nat) ∧ n2 = colOf v.chunk v.pc o) :=
  fun dp un gd cn cs a ccd cl outer A₀ base h₀ L m s mean mg mb Q E => position_at_all w tk c.st c.sd c.ds c.dd c.mth c.vnl c.vel c.k c.t c.text c.tt dp un gd cn cs a ccd cl outer A₀ base h₀ L m s mean mg mb Q E v o hc ho
end
section
theorem ends_mod {n : Int} (h0 : 0 ≤ n) (h1 : n ≤ 255) : (([65534, 65535] : List Int).any fun x => x == n.fmod 65536) = false := by
  have e : n.fmod 65536 = n := by rw [Int.fmod_eq_emod_of_nonneg _ (by lia), Int.emod_eq_of_lt h0 (by lia)]
  rw [e]
  simp only [List.any_cons, List.any_nil, Bool.or_false, Bool.or_eq_false_iff, beq_eq_false_iff_ne]
  lia
theorem invalid_spec (w : World) (n : Int) (tk : Tok) (h0 : 0 ≤ n) (h1 : n = 10 ∨ n = 13 ∨ (32 ≤ n ∧ n ≤ 126) ∨ n = 233) :
    Ctr w 84 [.int n tk] 2 [] (fun r led => r = .bool false ∧ led = []) := by
  have ne : n ≤ 255 := by lia
  have em := ends_mod h0 ne
  w_on
  intro dp un gd cn cs a ccd cl outer A₀ base h₀ L m s mean mg mb Q E B F X N T hk hd hu hp hret
  refine' enter (binds := [(Str.ofString "codepoint", .int n tk)]) B F X N T hk hret ?k6 ?k7 ?k8 ?k9 ?kB ?_ ?c5
  (case k6 => k_is)
  (case k7 => k_is)
  (case k8 => first | exact rm0 (by assumption) | lia)
  (case k9 => first | exact BindsTo.of_eq rfl | exact binds_K (by k_in) rfl (by k_is) rfl rfl rfl)
  (case c5 => decide)
  (case kB => exact rfl)
  clear hret N F T X B
  intro g' L' h' F' N' B' X' T' hlt
  refine flatD (Nat.add_pos_left hp _) ?_
  intro g₉ d₉ os₉ n₉ hp₉
  (try dsimp only)
  (try k_fold)
  k_steps
  all_goals (refine ⟨[], _, _, _, _, rfl, ‹Fr _ _ _ _›, News.nil, congrArg Value.bool ?_, rfl⟩)
  all_goals first | exact em | (exact decide_eq_false (by lia)) | (exact beq_eq_false_iff_ne.mpr (by lia)) | trace_state
end
section
local macro_rules | `(tactic| walk_at "none 0") => `(tactic| fail)
theorem errors_spec (w : World) (a₀ : Addr) (data : Str) (td : Tok) (hpl : ∀ c ∈ data.cps.toList, Plain c) :
    CtrC w 148 [.ref a₀, .str data td] 5 [] (fun r led => r = .none ∧ led = []) := by
  w_on
  intro dp un gd cn cs a ccd cl outer A₀ base h₀ L m s mean mg mb R B F X N T hk hd hu hp hret
  refine' enterC (binds := [(Str.ofString "self", .ref a₀), (Str.ofString "data", .str data td)]) B F X N T hk hret ?k6 ?k7 ?k8 ?k9 ?kB ?_ ?c5
  (case k6 => k_is)
  (case k7 => k_is)
  (case k8 => first | exact rm0 (by assumption) | lia)
  (case k9 => first | exact BindsTo.of_eq rfl | exact binds_K (by k_in) rfl (by k_is) rfl rfl rfl)
  (case c5 => decide)
  (case kB => exact rfl)
  clear hret N F T X B
  intro g' L' h' F' N' B' X' T' hlt
  refine flatD (Nat.add_pos_left hp _) ?_
  intro g₉ d₉ os₉ n₉ hp₉
  (try dsimp only)
  (try k_fold)
  k_steps
  unfold Stop
  refine wpAny_For ?_
  k_steps
  refine for_str (led₀ := []) (fun i m led => Sets (Str.ofString "c") _ m ∧ led = []) rfl (fun _ _ => rfl) ‹Fr _ _ _ _› ‹News _ _ _ _› ⟨Sets.self _ _, rfl⟩ ?_ ?_ PassesOwn.never
  · rintro i c u m₁ led₁ h tk I oI hc ⟨⟨vc, rfl⟩, rfl⟩ hne hI htk F₁ N₁
    have hpc := hpl c (List.mem_of_getElem? (by rw [← Array.getElem?_toList] at hc; exact hc))
    unfold Plain at hpc
    have hpos : 0 < tk := by first | lia | (dsimp only at htk; lia)
    k_steps
    unfold Stop
    have N₂ := ‹News _ _ _ [_]›
    refine Ctr.use (invalid_spec w _ _ (by lia) (by lia)) rfl B' ‹Fr _ _ _ _› X' News.nil T' rfl (by dsimp only [ktrTop]; first | exact rm1 (by assumption) (by decide) | lia) (by dsimp only [ktrTop]; first | exact rm2 (by assumption) (by decide) | lia) (by first | lia | (dsimp only; lia)) ?_
    rintro v foot' h2 tk2 ⟨rfl, rfl⟩ F2 N2 K2
    have N3 := News.keep0 N₂ K2
    clear N₂
    k_steps
    exact ⟨_, _, _, [], rfl, ‹Fr _ _ _ _›, ‹News _ _ _ [_]›, (fun _ h => nomatch h), Sets.put ⟨_, rfl⟩, rfl⟩
  · rintro m₁ led₁ h tk ⟨⟨vc, rfl⟩, rfl⟩ F₁ N₁
    k_steps
    refine ⟨[], _, _, _, _, rfl, ‹Fr _ _ _ _›, News.nil, rfl, rfl⟩
end
section
local macro_rules | `(tactic| walk_at "none 0") => `(tactic| fail)
local macro_rules | `(tactic| walk_at "exec If") => `(tactic| (k_here; refine stop ?_))
noncomputable def read_chunk_S (w : World) (st : Nat) (sd : Nat) (ds : Nat) (dd : Nat) (mth : Nat) (vnl : Value) (vel : Value) (k : Nat → Int) (t : Nat → Tok) (text : List Nat) (tt : Tok) (chunk : List Nat) (tc : Tok) (size : Nat) (ts : Tok) (off : Nat) (to : Tok) (pl : Int) (tpl : Tok) (pc : Int) (tpc : Tok) (place : Nat) (tpa : Tok) (dp : Nat) (un : Nat) (gd : Option (List Code)) (cn : Str) (cs : Scope) (a : Addr) (ccd : Value) (cl : List (Str × Addr)) (outer : List Env) (A₀ : Around) (base : Heap) (h₀ : Heap) (L : Addr) (m : Str → Option Value) (s : Shared) (mean : ExcName → Option Value) (mg : Str → Option Value) (mb : Str → Option Value) (Q : Value → Shared → Prop) (E : Value → Shared → Prop) : Prop :=
  Strm.Ord ⟨st, sd, ds, dd, mth, vnl, vel, k, t, text, tt⟩ → text.length ≤ 1000 → size ≤ chunk.length → (∀ x ∈ text, Plain x) → ∀ (n : Nat) (tk : Tok) (b : Bool) (tb : Tok) (z : Value) (args : List Value) (buf : Value),
    (z = .int (n : Nat) tk ∧ args = [.ref st, .int (n : Nat) tk]) ∨ (z = .none ∧ args = [.ref st] ∧ n = 10240) → n ≤ 20000 → (buf = if b then .str (tx [13]) tb else .none) →
    CtrAt w dp un gd cn cs a ccd cl outer A₀ base h₀ L m s mean mg mb Q E 141 args 10 (Strm.led ⟨st, sd, ds, dd, mth, vnl, vel, k, t, text, tt⟩ ⟨chunk, tc, size, ts, off, to, pl, tpl, pc, tpc, buf, place, tpa⟩) (readPost ⟨st, sd, ds, dd, mth, vnl, vel, k, t, text, tt⟩ ⟨chunk, tc, size, ts, off, to, pl, tpl, pc, tpc, buf, place, tpa⟩ n b)
noncomputable abbrev read_chunk_T : Type := (World) × (Nat) × (Nat) × (Nat) × (Nat) × (Nat) × (Value) × (Value) × (Nat → Int) × (Nat → Tok) × (List Nat) × (Tok) × (List Nat) × (Tok) × (Nat) × (Tok) × (Nat) × (Tok) × (Int) × (Tok) × (Int) × (Tok) × (Nat) × (Tok) × (Nat) × (Nat) × (Option (List Code)) × (Str) × (Scope) × (Addr) × (Value) × (List (Str × Addr)) × (List Env) × (Around) × (Heap) × (Heap) × (Addr) × (Str → Option Value) × (Shared) × (ExcName → Option Value) × (Str → Option Value) × (Str → Option Value) × (Value → Shared → Prop) × (Value → Shared → Prop)
theorem read_chunk_ne : Nonempty read_chunk_T := ⟨(dW, default, default, default, default, default, default, default, (fun _ => default), (fun _ => default), default, default, default, default, default, default, default, default, default, default, default, default, default, default, default, default, default, default, default, default, default, default, default, dA, default, default, default, (fun _ => default), dS, (fun _ => default), (fun _ => default), (fun _ => default), (fun _ _ => True), (fun _ _ => True))⟩
noncomputable abbrev read_chunk_F (x : read_chunk_T) : Prop := read_chunk_S x.1 x.2.1 x.2.2.1 x.2.2.2.1 x.2.2.2.2.1 x.2.2.2.2.2.1 x.2.2.2.2.2.2.1 x.2.2.2.2.2.2.2.1 x.2.2.2.2.2.2.2.2.1 x.2.2.2.2.2.2.2.2.2.1 x.2.2.2.2.2.2.2.2.2.2.1 x.2.2.2.2.2.2.2.2.2.2.2.1 x.2.2.2.2.2.2.2.2.2.2.2.2.1 x.2.2.2.2.2.2.2.2.2.2.2.2.2.1 x.2.2.2.2.2.2.2.2.2.2.2.2.2.2.1 x.2.2.2.2.2.2.2.2.2.2.2.2.2.2.2.1 x.2.2.2.2.2.2.2.2.2.2.2.2.2.2.2.2.1 x.2.2.2.2.2.2.2.2.2.2.2.2.2.2.2.2.2.1 x.2.2.2.2.2.2.2.2.2.2.2.2.2.2.2.2.2.2.1 x.2.2.2.2.2.2.2.2.2.2.2.2.2.2.2.2.2.2.2.1 x.2.2.2.2.2.2.2.2.2.2.2.2.2.2.2.2.2.2.2.2.1 x.2.2.2.2.2.2.2.2.2.2.2.2.2.2.2.2.2.2.2.2.2.1 x.2.2.2.2.2.2.2.2.2.2.2.2.2.2.2.2.2.2.2.2.2.2.1 x.2.2.2.2.2.2.2.2.2.2.2.2.2.2.2.2.2.2.2.2.2.2.2.1 x.2.2.2.2.2.2.2.2.2.2.2.2.2.2.2.2.2.2.2.2.2.2.2.2.1 x.2.2.2.2.2.2.2.2.2.2.2.2.2.2.2.2.2.2.2.2.2.2.2.2.2.1 x.2.2.2.2.2.2.2.2.2.2.2.2.2.2.2.2.2.2.2.2.2.2.2.2.2.2.1 x.2.2.2.2.2.2.2.2.2.2.2.2.2.2.2.2.2.2.2.2.2.2.2.2.2.2.2.1 x.2.2.2.2.2.2.2.2.2.2.2.2.2.2.2.2.2.2.2.2.2.2.2.2.2.2.2.2.1 x.2.2.2.2.2.2.2.2.2.2.2.2.2.2.2.2.2.2.2.2.2.2.2.2.2.2.2.2.2.1 x.2.2.2.2.2.2.2.2.2.2.2.2.2.2.2.2.2.2.2.2.2.2.2.2.2.2.2.2.2.2.1 x.2.2.2.2.2.2.2.2.2.2.2.2.2.2.2.2.2.2.2.2.2.2.2.2.2.2.2.2.2.2.2.1 x.2.2.2.2.2.2.2.2.2.2.2.2.2.2.2.2.2.2.2.2.2.2.2.2.2.2.2.2.2.2.2.2.1 x.2.2.2.2.2.2.2.2.2.2.2.2.2.2.2.2.2.2.2.2.2.2.2.2.2.2.2.2.2.2.2.2.2.1 x.2.2.2.2.2.2.2.2.2.2.2.2.2.2.2.2.2.2.2.2.2.2.2.2.2.2.2.2.2.2.2.2.2.2.1 x.2.2.2.2.2.2.2.2.2.2.2.2.2.2.2.2.2.2.2.2.2.2.2.2.2.2.2.2.2.2.2.2.2.2.2.1 x.2.2.2.2.2.2.2.2.2.2.2.2.2.2.2.2.2.2.2.2.2.2.2.2.2.2.2.2.2.2.2.2.2.2.2.2.1 x.2.2.2.2.2.2.2.2.2.2.2.2.2.2.2.2.2.2.2.2.2.2.2.2.2.2.2.2.2.2.2.2.2.2.2.2.2.1 x.2.2.2.2.2.2.2.2.2.2.2.2.2.2.2.2.2.2.2.2.2.2.2.2.2.2.2.2.2.2.2.2.2.2.2.2.2.2.1 x.2.2.2.2.2.2.2.2.2.2.2.2.2.2.2.2.2.2.2.2.2.2.2.2.2.2.2.2.2.2.2.2.2.2.2.2.2.2.2.1 x.2.2.2.2.2.2.2.2.2.2.2.2.2.2.2.2.2.2.2.2.2.2.2.2.2.2.2.2.2.2.2.2.2.2.2.2.2.2.2.2.1 x.2.2.2.2.2.2.2.2.2.2.2.2.2.2.2.2.2.2.2.2.2.2.2.2.2.2.2.2.2.2.2.2.2.2.2.2.2.2.2.2.2.1 x.2.2.2.2.2.2.2.2.2.2.2.2.2.2.2.2.2.2.2.2.2.2.2.2.2.2.2.2.2.2.2.2.2.2.2.2.2.2.2.2.2.2.1 x.2.2.2.2.2.2.2.2.2.2.2.2.2.2.2.2.2.2.2.2.2.2.2.2.2.2.2.2.2.2.2.2.2.2.2.2.2.2.2.2.2.2.2
noncomputable def read_chunk_P : read_chunk_T := pick read_chunk_ne read_chunk_F
namespace read_chunk_V
@[irreducible] noncomputable def w : World := read_chunk_P.1
@[irreducible] noncomputable def st : Nat := read_chunk_P.2.1
@[irreducible] noncomputable def sd : Nat := read_chunk_P.2.2.1
@[irreducible] noncomputable def ds : Nat := read_chunk_P.2.2.2.1
@[irreducible] noncomputable def dd : Nat := read_chunk_P.2.2.2.2.1
@[irreducible] noncomputable def mth : Nat := read_chunk_P.2.2.2.2.2.1
@[irreducible] noncomputable def vnl : Value := read_chunk_P.2.2.2.2.2.2.1
@[irreducible] noncomputable def vel : Value := read_chunk_P.2.2.2.2.2.2.2.1
@[irreducible] noncomputable def k : Nat → Int := read_chunk_P.2.2.2.2.2.2.2.2.1
@[irreducible] noncomputable def t : Nat → Tok := read_chunk_P.2.2.2.2.2.2.2.2.2.1
@[irreducible] noncomputable def text : List Nat := read_chunk_P.2.2.2.2.2.2.2.2.2.2.1
@[irreducible] noncomputable def tt : Tok := read_chunk_P.2.2.2.2.2.2.2.2.2.2.2.1
@[irreducible] noncomputable def chunk : List Nat := read_chunk_P.2.2.2.2.2.2.2.2.2.2.2.2.1
@[irreducible] noncomputable def tc : Tok := read_chunk_P.2.2.2.2.2.2.2.2.2.2.2.2.2.1
@[irreducible] noncomputable def size : Nat := read_chunk_P.2.2.2.2.2.2.2.2.2.2.2.2.2.2.1
@[irreducible] noncomputable def ts : Tok := read_chunk_P.2.2.2.2.2.2.2.2.2.2.2.2.2.2.2.1
@[irreducible] noncomputable def off : Nat := read_chunk_P.2.2.2.2.2.2.2.2.2.2.2.2.2.2.2.2.1
@[irreducible] noncomputable def to : Tok := read_chunk_P.2.2.2.2.2.2.2.2.2.2.2.2.2.2.2.2.2.1
@[irreducible] noncomputable def pl : Int := read_chunk_P.2.2.2.2.2.2.2.2.2.2.2.2.2.2.2.2.2.2.1
@[irreducible] noncomputable def tpl : Tok := read_chunk_P.2.2.2.2.2.2.2.2.2.2.2.2.2.2.2.2.2.2.2.1
@[irreducible] noncomputable def pc : Int := read_chunk_P.2.2.2.2.2.2.2.2.2.2.2.2.2.2.2.2.2.2.2.2.1
@[irreducible] noncomputable def tpc : Tok := read_chunk_P.2.2.2.2.2.2.2.2.2.2.2.2.2.2.2.2.2.2.2.2.2.1
@[irreducible] noncomputable def place : Nat := read_chunk_P.2.2.2.2.2.2.2.2.2.2.2.2.2.2.2.2.2.2.2.2.2.2.1
@[irreducible] noncomputable def tpa : Tok := read_chunk_P.2.2.2.2.2.2.2.2.2.2.2.2.2.2.2.2.2.2.2.2.2.2.2.1
@[irreducible] noncomputable def dp : Nat := read_chunk_P.2.2.2.2.2.2.2.2.2.2.2.2.2.2.2.2.2.2.2.2.2.2.2.2.1
@[irreducible] noncomputable def un : Nat := read_chunk_P.2.2.2.2.2.2.2.2.2.2.2.2.2.2.2.2.2.2.2.2.2.2.2.2.2.1
@[irreducible] noncomputable def gd : Option (List Code) := read_chunk_P.2.2.2.2.2.2.2.2.2.2.2.2.2.2.2.2.2.2.2.2.2.2.2.2.2.2.1
@[irreducible] noncomputable def cn : Str := read_chunk_P.2.2.2.2.2.2.2.2.2.2.2.2.2.2.2.2.2.2.2.2.2.2.2.2.2.2.2.1
@[irreducible] noncomputable def cs : Scope := read_chunk_P.2.2.2.2.2.2.2.2.2.2.2.2.2.2.2.2.2.2.2.2.2.2.2.2.2.2.2.2.1
@[irreducible] noncomputable def a : Addr := read_chunk_P.2.2.2.2.2.2.2.2.2.2.2.2.2.2.2.2.2.2.2.2.2.2.2.2.2.2.2.2.2.1
@[irreducible] noncomputable def ccd : Value := read_chunk_P.2.2.2.2.2.2.2.2.2.2.2.2.2.2.2.2.2.2.2.2.2.2.2.2.2.2.2.2.2.2.1
@[irreducible] noncomputable def cl : List (Str × Addr) := read_chunk_P.2.2.2.2.2.2.2.2.2.2.2.2.2.2.2.2.2.2.2.2.2.2.2.2.2.2.2.2.2.2.2.1
@[irreducible] noncomputable def outer : List Env := read_chunk_P.2.2.2.2.2.2.2.2.2.2.2.2.2.2.2.2.2.2.2.2.2.2.2.2.2.2.2.2.2.2.2.2.1
@[irreducible] noncomputable def A₀ : Around := read_chunk_P.2.2.2.2.2.2.2.2.2.2.2.2.2.2.2.2.2.2.2.2.2.2.2.2.2.2.2.2.2.2.2.2.2.1
@[irreducible] noncomputable def base : Heap := read_chunk_P.2.2.2.2.2.2.2.2.2.2.2.2.2.2.2.2.2.2.2.2.2.2.2.2.2.2.2.2.2.2.2.2.2.2.1
@[irreducible] noncomputable def h₀ : Heap := read_chunk_P.2.2.2.2.2.2.2.2.2.2.2.2.2.2.2.2.2.2.2.2.2.2.2.2.2.2.2.2.2.2.2.2.2.2.2.1
@[irreducible] noncomputable def L : Addr := read_chunk_P.2.2.2.2.2.2.2.2.2.2.2.2.2.2.2.2.2.2.2.2.2.2.2.2.2.2.2.2.2.2.2.2.2.2.2.2.1
@[irreducible] noncomputable def m : Str → Option Value := read_chunk_P.2.2.2.2.2.2.2.2.2.2.2.2.2.2.2.2.2.2.2.2.2.2.2.2.2.2.2.2.2.2.2.2.2.2.2.2.2.1
@[irreducible] noncomputable def s : Shared := read_chunk_P.2.2.2.2.2.2.2.2.2.2.2.2.2.2.2.2.2.2.2.2.2.2.2.2.2.2.2.2.2.2.2.2.2.2.2.2.2.2.1
@[irreducible] noncomputable def mean : ExcName → Option Value := read_chunk_P.2.2.2.2.2.2.2.2.2.2.2.2.2.2.2.2.2.2.2.2.2.2.2.2.2.2.2.2.2.2.2.2.2.2.2.2.2.2.2.1
@[irreducible] noncomputable def mg : Str → Option Value := read_chunk_P.2.2.2.2.2.2.2.2.2.2.2.2.2.2.2.2.2.2.2.2.2.2.2.2.2.2.2.2.2.2.2.2.2.2.2.2.2.2.2.2.1
@[irreducible] noncomputable def mb : Str → Option Value := read_chunk_P.2.2.2.2.2.2.2.2.2.2.2.2.2.2.2.2.2.2.2.2.2.2.2.2.2.2.2.2.2.2.2.2.2.2.2.2.2.2.2.2.2.1
@[irreducible] noncomputable def Q : Value → Shared → Prop := read_chunk_P.2.2.2.2.2.2.2.2.2.2.2.2.2.2.2.2.2.2.2.2.2.2.2.2.2.2.2.2.2.2.2.2.2.2.2.2.2.2.2.2.2.2.1
@[irreducible] noncomputable def E : Value → Shared → Prop := read_chunk_P.2.2.2.2.2.2.2.2.2.2.2.2.2.2.2.2.2.2.2.2.2.2.2.2.2.2.2.2.2.2.2.2.2.2.2.2.2.2.2.2.2.2.2
theorem core : read_chunk_S w st sd ds dd mth vnl vel k t text tt chunk tc size ts off to pl tpl pc tpc place tpa dp un gd cn cs a ccd cl outer A₀ base h₀ L m s mean mg mb Q E := by
  unfold read_chunk_S
  w_on
  intro hc hx hs hpl n tk b tb z args buf hz hn hb
  obtain ⟨q1, q2, q3, q4⟩ := hc
  have q12 := Nat.lt_trans q1 q2
  have q23 := Nat.lt_trans q2 q3
  have q34 := Nat.lt_trans q3 q4
  have q13 := Nat.lt_trans q12 q3
  have q24 := Nat.lt_trans q23 q4
  have q14 := Nat.lt_trans q13 q4
  dsimp only [Strm.led, Strm.sdO, Strm.ddO] at *
  intro B F X N T hk hd hu hp hret
  refine' enter (binds := [(Str.ofString "self", .ref st), (Str.ofString "chunkSize", z)]) B F X N T hk hret ?k6 ?k7 ?k8 ?k9 ?kB ?_ ?c5
  (case k6 => k_is)
  (case k7 => k_is)
  (case k8 => first | exact rm0 (by assumption) | lia)
  (case k9 => rcases hz with ⟨rfl, rfl⟩ | ⟨rfl, rfl, rfl⟩ <;> first | exact BindsTo.of_eq rfl | exact binds_K (by k_in) rfl (by k_is) rfl rfl rfl)
  (case c5 => decide)
  (case kB => exact rfl)
  clear hret N F T X B
  intro g' L' h' F' N' B' X' T' hlt
  refine flatD (Nat.add_pos_left hp _) ?_
  intro g₉ d₉ os₉ n₉ hp₉
  refine hideDone ?_
  intro R9 hR9
  (try dsimp only)
  (try k_fold)
  k_steps
  unfold Stop
  refine cpsZ (fun X => ∀ h' tk' tn, (Fr g' L' h' (fun y => (if y = Str.ofString "chunkSize" then some (.int (n : Nat) tn) else List.lookup y [(Str.ofString "self", Value.ref st), (Str.ofString "chunkSize", z)].reverse))) → (News g' L' h' (Strm.led ⟨st, sd, ds, dd, mth, vnl, vel, k, t, text, tt⟩ ⟨chunk, tc, size, ts, off, to, pl, tpl, pc, tpc, buf, place, tpa⟩)) → X .next (⟨h', g₉, d₉, tk', os₉⟩)) ?_ ?_
  · intro X9 hX9 hN9
    rcases hz with ⟨rfl, rfl⟩ | ⟨rfl, rfl, rfl⟩
    · refine wpAny_If ?_
      k_steps
      refine hX9 _ _ tk (Fr.like ‹Fr _ _ _ _› (fun y => ?_)) (‹News _ _ _ _›)
      by_cases hy : y = Str.ofString "chunkSize"
      · subst hy; rfl
      · rw [if_neg hy]
    · refine wpAny_If ?_
      k_steps
      exact hX9 _ _ _ (‹Fr _ _ _ _›) (‹News _ _ _ _›)
  rintro h' tk' tn F' N' hp8
  dsimp only at hp8
  dsimp only [Strm.led, Strm.sdO, Strm.ddO] at N'
  k_steps
  unfold Stop
  have N₂ := ‹News _ _ _ _›
  refine Ctr.use (position_at w ⟨st, sd, ds, dd, mth, vnl, vel, k, t, text, tt⟩ ⟨_, _, _, _, _, _, _, _, _, _, _, _, _⟩ _ _ ⟨q1, q2, q3, q4⟩ hs) rfl B' ‹Fr _ _ _ _› X' N₂ T' rfl (by dsimp only [ktrTop]; first | exact rm1 (by assumption) (by decide) | lia) (by dsimp only [ktrTop]; first | exact rm2 (by assumption) (by decide) | lia) (by first | assumption | exact Nat.succ_pos _ | lia | (dsimp only; lia)) ?_
  rintro v foot' h2 tk2 ⟨a2, n1, n2, t1, t2, rfl, rfl, la, e1, e2⟩ F2 N2 -
  clear N₂
  dsimp only [Strm.led, Strm.sdO, Strm.ddO] at N2 la e1 e2
  k_steps
  unfold Stop
  have N₂ := ‹News _ _ _ _›
  refine Ctr.use (read_spec w ⟨st, sd, ds, dd, mth, vnl, vel, k, t, text, tt⟩ ⟨[], _, 0, _, 0, _, _, _, _, _, _, _, _⟩ _ _ ⟨q1, q2, q3, q4⟩ hx) rfl B' ‹Fr _ _ _ _› X' (News.tl N₂) T' rfl (by dsimp only [ktrTop]; first | exact rm1 (by assumption) (by decide) | lia) (by dsimp only [ktrTop]; first | exact rm2 (by assumption) (by decide) | lia) (by first | assumption | exact Nat.succ_pos _ | lia | (dsimp only; lia)) ?_
  rintro v foot' h2 tk2 ⟨t3, t4, rfl, rfl⟩ F2 N2 -
  clear N₂ la
  dsimp only [Strm.led, Strm.sdO, Strm.ddO] at N2
  obtain ⟨d, hd⟩ : ∃ d, d = (text.drop place).take n := ⟨_, rfl⟩
  have hdl : d.length ≤ 1000 := by rw [hd, List.length_take, List.length_drop]; lia
  have hdp : ∀ x ∈ d, Plain x := fun x hx => hpl x (List.mem_of_mem_drop (List.mem_of_mem_take (hd ▸ hx)))
  rw [← hd] at N2 ⊢
  have hln := tx_length d
  k_steps
  unfold Stop
  refine cpsZ (fun X => ∀ h' tk' te σ, ((if b then [13] else []) ++ d ≠ []) → (σ.chunk = []) → (σ.size = 0) → (σ.off = 0) → (σ.pl = n1) → (σ.pc = n2) → (σ.buf = .none) → (σ.place = place + d.length) → (Fr g' L' h' (fun y => if y = Str.ofString "data" then some (.str (tx ((if b then [13] else []) ++ d)) te) else (if y = Str.ofString "chunkSize" then some (.int (n : Nat) tn) else List.lookup y [(Str.ofString "self", Value.ref st), (Str.ofString "chunkSize", z)].reverse))) → (News g' L' h' (Strm.led ⟨st, sd, ds, dd, mth, vnl, vel, k, t, text, tt⟩ σ)) → X .next (⟨h', g₉, d₉, tk', os₉⟩)) ?_ ?_
  · intro X9 hX9 hN9
    cases b
    · simp only [Bool.false_eq_true, if_false] at hb
      subst hb
      refine wpAny_If ?_
      k_steps
      unfold Stop
      refine wpAny_If ?_
      k_steps
      · refine hX9 _ _ _ ⟨_, _, _, _, _, _, _, _, _, _, _, _, _⟩ ?_ rfl rfl rfl rfl rfl rfl rfl (‹Fr _ _ _ _›) (‹News _ _ _ _›)
        rintro rfl
        exact absurd rfl ‹((tx _).length : Int) ≠ 0›
      · refine hN9 _ _ (fun e => nomatch e) ?_
        refine hR9 _ _ ⟨_, _, _, _, _, rfl, ‹Fr _ _ _ _›, ‹News _ _ _ _›, ?_⟩
        have e0 : d = [] := List.length_eq_zero_iff.mp (Int.ofNat.inj ‹_›)
        refine ⟨⟨_, _, _, _, _, _, _, _, _, _, _, _, _⟩, rfl, rfl, e1, e2, .inl ⟨?_, rfl, rfl, rfl, rfl, (by rw [e0]; rfl)⟩⟩
        rw [dataOf, if_neg (by decide), ← hd, e0]
        rfl
    · simp only [if_true] at hb
      subst hb
      refine wpAny_If ?_
      k_steps
      have F₅ := Fr.twice ‹Fr _ _ _ _›
      simp only [tx_append] at F₅
      exact hX9 _ _ _ ⟨_, _, _, _, _, _, _, _, _, _, _, _, _⟩ ((fun e => nomatch e)) rfl rfl rfl rfl rfl rfl rfl F₅ (‹News _ _ _ _›)
  · rintro h' tk' te ⟨chunk, tc, size, ts, off, to, pl, tpl, pc, tpc, buf, place', tpa⟩ hne g1 g2 g3 g4 g5 g6 g7 F3 N3 hp9
    dsimp only at g1 g2 g3 g4 g5 g6 g7 hp9
    subst g1 g2 g3 g4 g5 g6 g7
    dsimp only [Strm.led, Strm.sdO, Strm.ddO] at N3
    obtain ⟨e, he⟩ : ∃ e, e = (if b then [13] else []) ++ d := ⟨_, rfl⟩
    rw [← he] at F3 hne
    have hle := tx_length e
    have hel : e.length ≤ 1001 := by rw [he, List.length_append]; split <;> simp only [List.length_cons, List.length_nil] <;> lia
    have hcode := item_last_code e hne
    have hpe : ∀ x ∈ e, Plain x := fun x hx => by
      rw [he] at hx
      rcases List.mem_append.mp hx with h | h
      · split at h
        · rw [List.mem_singleton.mp h]; exact .inr (.inl rfl)
        · cases h
      · exact hdp x h
    have hlast : ((((Txt.item (tx e) (-1)).cps.getD 0 0) : Nat) : Int) ≤ 233 := by
      have := hpe _ (List.getLast_mem hne)
      unfold Plain at this
      rw [hcode]
      lia
    k_steps
    unfold Stop
    refine cpsZ (fun X => ∀ h' tk' te vl σ, (σ.chunk = []) → (σ.size = 0) → (σ.off = 0) → (σ.pl = pl) → (σ.pc = pc) → ((∃ tz, σ.buf = if cutR e then .str (tx [13]) tz else .none)) → (σ.place = place + d.length) → (Fr g' L' h' (fun y => if y = Str.ofString "data" then some (.str (tx (keepR e)) te) else if y = Str.ofString "lastv" then vl else (if y = Str.ofString "chunkSize" then some (.int (n : Nat) tn) else List.lookup y [(Str.ofString "self", Value.ref st), (Str.ofString "chunkSize", z)].reverse))) → (News g' L' h' (Strm.led ⟨st, sd, ds, dd, mth, vnl, vel, k, t, text, tt⟩ σ)) → X .next (⟨h', g₉, d₉, tk', os₉⟩)) ?_ ?_
    · intro X9 hX9 hN9
      refine wpAny_If ?_
      k_steps
      · unfold Stop
        refine wpAny_If ?_
        k_steps
        · have ec : cutR e = true := by
            unfold cutR
            rw [List.getLast?_eq_some_getLast hne, ← hcode]
            rw [Bool.and_eq_true, decide_eq_true_eq, decide_eq_true_eq]
            exact ⟨by lia, congrArg some (by lia)⟩
          have F₅ := ‹Fr _ _ _ _›
          rw [show Txt.slice (tx e) none (some (-1)) = tx (keepR e) from by rw [keepR, if_pos ec, List.dropLast_eq_take]; exact slice_but e 1 (by decide) (List.length_pos_iff.mpr hne)] at F₅
          have N₅ := ‹News _ _ _ _›
          rw [show Txt.item (tx e) (-1) = tx [13] from by rw [item_last e hne]; congr 2; lia] at N₅
          exact hX9 _ _ _ _ ⟨_, _, _, _, _, _, _, _, _, _, _, _, _⟩ rfl rfl rfl rfl rfl (⟨_, (if_pos ec).symm⟩) rfl (Fr.three F₅) N₅
        · have ec : cutR e = false := by
            unfold cutR
            rw [List.getLast?_eq_some_getLast hne, ← hcode, Bool.and_eq_false_iff]
            exact .inr (decide_eq_false fun h => absurd (congrArg (fun (n : Nat) => (n : Int)) (Option.some.inj h)) ‹_›)
          have F₅ := Fr.swap (show Str.ofString "data" ≠ Str.ofString "lastv" from by decide) ‹Fr _ _ _ _›
          rw [show tx e = tx (keepR e) from by rw [keepR, ec]; rfl] at F₅
          have N₅ := ‹News _ _ _ _›
          exact hX9 _ _ _ _ ⟨_, _, _, _, _, _, _, _, _, _, _, _, _⟩ rfl rfl rfl rfl rfl (⟨0, by rw [ec]; rfl⟩) rfl F₅ N₅
      · have ec : cutR e = false := by
          unfold cutR
          rw [Bool.and_eq_false_iff]
          exact .inl (decide_eq_false (by lia))
        have F₅ := Fr.pad (Str.ofString "lastv") ‹Fr _ _ _ _›
        rw [show tx e = tx (keepR e) from by rw [keepR, ec]; rfl] at F₅
        have N₅ := ‹News _ _ _ _›
        exact hX9 _ _ _ _ ⟨_, _, _, _, _, _, _, _, _, _, _, _, _⟩ rfl rfl rfl rfl rfl (⟨0, by rw [ec]; rfl⟩) rfl F₅ N₅
    · rintro h' tk' te vl ⟨chunk, tc, size, ts, off, to, pl, tpl, pc, tpc, buf, place', tpa⟩ g1 g2 g3 g4 g5 ⟨tz, g6⟩ g7 F3 N3 hp9
      dsimp only at g1 g2 g3 g4 g5 g6 g7 hp9
      subst g1 g2 g3 g4 g5 g7
      dsimp only [Strm.led, Strm.sdO, Strm.ddO] at N3
      obtain ⟨f, hf⟩ : ∃ f, f = keepR e := ⟨_, rfl⟩
      rw [← hf] at F3
      have hlf := tx_length f
      have hfs : ∀ x ∈ f, x ∈ e := fun x hx => by
        rw [hf, keepR] at hx
        split at hx
        · exact List.dropLast_subset _ hx
        · exact hx
      have hrl := rep_tx_len f
      have hml := mend_tx_len f
      have hfl : f.length ≤ 1001 := by
        rw [hf, keepR]
        split
        · rw [List.length_dropLast]; lia
        · exact hel
      k_steps
      unfold Stop
      refine wpAny_If ?_
      k_steps
      unfold Stop
      have N₂ := ‹News _ _ _ _›
      refine call_meth N₂ (by k_mem) ?_
      refine CtrC.use (errors_spec w st (tx f) te (fun x hx => hpe x (hfs x hx))) rfl B' ‹Fr _ _ _ _› X' News.nil T' rfl (by dsimp only [ktrTop]; first | exact rm1 (by assumption) (by decide) | lia) (by dsimp only [ktrTop]; first | exact rm2 (by assumption) (by decide) | lia) (by first | assumption | exact Nat.succ_pos _ | lia | (dsimp only; lia)) ?_
      rintro v foot' h2 tk2 ⟨rfl, rfl⟩ F2 N2 K2
      have N3 := News.keep0 N₂ K2
      clear N₂
      k_steps
      have N₅ := ‹News _ _ _ _›
      rw [lit_rn, lit_r, lit_n, mend_eq] at N₅
      refine hR9 _ _ ⟨_, _, _, _, _, rfl, ‹Fr _ _ _ _›, N₅, ?_⟩
      have hde : dataOf text place n b = e := by rw [he, hd]; rfl
      refine ⟨⟨_, _, _, _, _, _, _, _, _, _, _, _, _⟩, rfl, rfl, e1, e2, .inr ⟨?_, rfl, ?_, rfl, ?_, ?_⟩⟩
      · rw [hde]; exact hne
      · rw [hde, hf]
      · rw [hde]; exact ⟨tz, g6⟩
      · rw [hd]
end read_chunk_V
theorem read_chunk_all (w : World) (st : Nat) (sd : Nat) (ds : Nat) (dd : Nat) (mth : Nat) (vnl : Value) (vel : Value) (k : Nat → Int) (t : Nat → Tok) (text : List Nat) (tt : Tok) (chunk : List Nat) (tc : Tok) (size : Nat) (ts : Tok) (off : Nat) (to : Tok) (pl : Int) (tpl : Tok) (pc : Int) (tpc : Tok) (place : Nat) (tpa : Tok) (dp : Nat) (un : Nat) (gd : Option (List Code)) (cn : Str) (cs : Scope) (a : Addr) (ccd : Value) (cl : List (Str × Addr)) (outer : List Env) (A₀ : Around) (base : Heap) (h₀ : Heap) (L : Addr) (m : Str → Option Value) (s : Shared) (mean : ExcName → Option Value) (mg : Str → Option Value) (mb : Str → Option Value) (Q : Value → Shared → Prop) (E : Value → Shared → Prop) : read_chunk_S w st sd ds dd mth vnl vel k t text tt chunk tc size ts off to pl tpl pc tpc place tpa dp un gd cn cs a ccd cl outer A₀ base h₀ L m s mean mg mb Q E := of_pick (S := read_chunk_F) (show read_chunk_F read_chunk_P by with_unfolding_all exact read_chunk_V.core) (w, st, sd, ds, dd, mth, vnl, vel, k, t, text, tt, chunk, tc, size, ts, off, to, pl, tpl, pc, tpc, place, tpa, dp, un, gd, cn, cs, a, ccd, cl, outer, A₀, base, h₀, L, m, s, mean, mg, mb, Q, E)
theorem read_chunk (w : World) (c : Strm) (v : SV) (n : Nat) (tk : Tok) (b : Bool) (tb : Tok) (z : Value) (args : List Value) (hz : (z = .int (n : Nat) tk ∧ args = [.ref c.st, .int (n : Nat) tk]) ∨ (z = .none ∧ args = [.ref c.st] ∧ n = 10240))
   (hc : c.Ord) (hn : n ≤ 20000) (hx : c.text.length ≤ 1000) (hs : v.size ≤ v.chunk.length)
   (hpl : ∀ x ∈ c.text, Plain x) (hb : v.buf = if b then .str (tx [13]) tb else .none) :
    Ctr w 141 args 10 (c.led v) (readPost c v n b) := fun dp un gd cn cs a ccd cl outer A₀ base h₀ L m s mean mg mb Q E =>
  read_chunk_all w c.st c.sd c.ds c.dd c.mth c.vnl c.vel c.k c.t c.text c.tt v.chunk v.tc v.size v.ts v.off v.to v.pl v.tpl v.pc v.tpc v.place v.tpa dp un gd cn cs a ccd cl outer A₀ base h₀ L m s mean mg mb Q E hc hx hs hpl n tk b tb z args v.buf hz hn hb
theorem Ctr.mono {w : World} {f : Addr} {args : List Value} {D : Nat} {foot : List (Addr × Obj)} {post post' : Value → List (Addr × Obj) → Prop} (C : Ctr w f args D foot post) (h : ∀ r led, post r led → post' r led) : Ctr w f args D foot post' :=
  fun dp un gd cn cs a ccd cl outer A₀ base h₀ L m s mean mg mb Q E B F X N T hk hd hu hp ret => C dp un gd cn cs a ccd cl outer A₀ base h₀ L m s mean mg mb Q E B F X N T hk hd hu hp fun v foot' h' tk' hq => ret v foot' h' tk' (h _ _ hq)
structure Good (c : Strm) : Prop where
  ord : c.Ord
  len : c.text.length ≤ 1000
  plain : ∀ x ∈ c.text, Plain x
noncomputable def readAbs (c : Strm) (v : SV) (seen rest : List Nat) (r : Value) (led : List (Addr × Obj)) : Prop :=
  ∃ v', led = c.led v' ∧ ((r = .bool false ∧ rest = v.chunk.drop v.off ∧ Inv c v' (seen ++ v.chunk.drop v.off) []) ∨
      (r = .bool true ∧ v'.off = 0 ∧ v'.chunk ≠ [] ∧ (left c v').length < (left c v).length ∧ ∃ rest', rest = v.chunk.drop v.off ++ rest' ∧ Inv c v' (seen ++ v.chunk.drop v.off) rest'))
theorem read_abs (w : World) (c : Strm) (v : SV) (seen rest : List Nat) (n : Nat) (tk : Tok) (z : Value) (args : List Value) (hz : (z = .int (n : Nat) tk ∧ args = [.ref c.st, .int (n : Nat) tk]) ∨ (z = .none ∧ args = [.ref c.st] ∧ n = 10240))
   (hG : Good c) (hI : Inv c v seen rest) (hn2 : 2 ≤ n) (hn : n ≤ 20000) : Ctr w 141 args 10 (c.led v) (readAbs c v seen rest) := by
  rcases hI.buf with h | ⟨tb, h⟩
  · exact Ctr.mono (read_chunk w c v n tk false 0 z args hz hG.ord hn hG.len (Nat.le_of_eq hI.size) hG.plain h) fun r led hp => inv_read hI hG.len hn2 (b := false) (tb := 0) h hp
  · exact Ctr.mono (read_chunk w c v n tk true tb z args hz hG.ord hn hG.len (Nat.le_of_eq hI.size) hG.plain h) fun r led hp => inv_read hI hG.len hn2 (b := true) (tb := tb) h hp
end
section
local macro_rules | `(tactic| walk_at "exec If") => `(tactic| (k_here; refine stop ?_))
/-- the stream at a place: what a call leaves -/
noncomputable def charPost (c : Strm) (seen rest : List Nat) (r : Value) (led : List (Addr × Obj)) : Prop :=
  ∃ v', led = c.led v' ∧ ((rest = [] ∧ r = .none ∧ Inv c v' seen []) ∨ (∃ x rest' t, rest = x :: rest' ∧ r = .str (tx [x]) t ∧ 0 < v'.off ∧ Inv c v' (seen ++ [x]) rest'))
noncomputable def char_spec_S (w : World) (st : Nat) (sd : Nat) (ds : Nat) (dd : Nat) (mth : Nat) (vnl : Value) (vel : Value) (k : Nat → Int) (t : Nat → Tok) (text : List Nat) (tt : Tok) (dp : Nat) (un : Nat) (gd : Option (List Code)) (cn : Str) (cs : Scope) (a : Addr) (ccd : Value) (cl : List (Str × Addr)) (outer : List Env) (A₀ : Around) (base : Heap) (h₀ : Heap) (L : Addr) (m : Str → Option Value) (s : Shared) (mean : ExcName → Option Value) (mg : Str → Option Value) (mb : Str → Option Value) (Q : Value → Shared → Prop) (E : Value → Shared → Prop) : Prop :=
  ∀ (v : SV) (seen : List Nat) (rest : List Nat), (Good (Strm.mk st sd ds dd mth vnl vel k t text tt)) →
    (Inv (Strm.mk st sd ds dd mth vnl vel k t text tt) v seen rest) →
    CtrAt w dp un gd cn cs a ccd cl outer A₀ base h₀ L m s mean mg mb Q E 133 [.ref (Strm.mk st sd ds dd mth vnl vel k t text tt).st] 20 ((Strm.mk st sd ds dd mth vnl vel k t text tt).led v) (charPost (Strm.mk st sd ds dd mth vnl vel k t text tt) seen rest)
noncomputable abbrev char_spec_T : Type := (World) × (Nat) × (Nat) × (Nat) × (Nat) × (Nat) × (Value) × (Value) × (Nat → Int) × (Nat → Tok) × (List Nat) × (Tok) × (Nat) × (Nat) × (Option (List Code)) × (Str) × (Scope) × (Addr) × (Value) × (List (Str × Addr)) × (List Env) × (Around) × (Heap) × (Heap) × (Addr) × (Str → Option Value) × (Shared) × (ExcName → Option Value) × (Str → Option Value) × (Str → Option Value) × (Value → Shared → Prop) × (Value → Shared → Prop)
theorem char_spec_ne : Nonempty char_spec_T := ⟨(dW, default, default, default, default, default, default, default, (fun _ => default), (fun _ => default), default, default, default, default, default, default, default, default, default, default, default, dA, default, default, default, (fun _ => default), dS, (fun _ => default), (fun _ => default), (fun _ => default), (fun _ _ => True), (fun _ _ => True))⟩
noncomputable abbrev char_spec_F (x : char_spec_T) : Prop := char_spec_S x.1 x.2.1 x.2.2.1 x.2.2.2.1 x.2.2.2.2.1 x.2.2.2.2.2.1 x.2.2.2.2.2.2.1 x.2.2.2.2.2.2.2.1 x.2.2.2.2.2.2.2.2.1 x.2.2.2.2.2.2.2.2.2.1 x.2.2.2.2.2.2.2.2.2.2.1 x.2.2.2.2.2.2.2.2.2.2.2.1 x.2.2.2.2.2.2.2.2.2.2.2.2.1 x.2.2.2.2.2.2.2.2.2.2.2.2.2.1 x.2.2.2.2.2.2.2.2.2.2.2.2.2.2.1 x.2.2.2.2.2.2.2.2.2.2.2.2.2.2.2.1 x.2.2.2.2.2.2.2.2.2.2.2.2.2.2.2.2.1 x.2.2.2.2.2.2.2.2.2.2.2.2.2.2.2.2.2.1 x.2.2.2.2.2.2.2.2.2.2.2.2.2.2.2.2.2.2.1 x.2.2.2.2.2.2.2.2.2.2.2.2.2.2.2.2.2.2.2.1 x.2.2.2.2.2.2.2.2.2.2.2.2.2.2.2.2.2.2.2.2.1 x.2.2.2.2.2.2.2.2.2.2.2.2.2.2.2.2.2.2.2.2.2.1 x.2.2.2.2.2.2.2.2.2.2.2.2.2.2.2.2.2.2.2.2.2.2.1 x.2.2.2.2.2.2.2.2.2.2.2.2.2.2.2.2.2.2.2.2.2.2.2.1 x.2.2.2.2.2.2.2.2.2.2.2.2.2.2.2.2.2.2.2.2.2.2.2.2.1 x.2.2.2.2.2.2.2.2.2.2.2.2.2.2.2.2.2.2.2.2.2.2.2.2.2.1 x.2.2.2.2.2.2.2.2.2.2.2.2.2.2.2.2.2.2.2.2.2.2.2.2.2.2.1 x.2.2.2.2.2.2.2.2.2.2.2.2.2.2.2.2.2.2.2.2.2.2.2.2.2.2.2.1 x.2.2.2.2.2.2.2.2.2.2.2.2.2.2.2.2.2.2.2.2.2.2.2.2.2.2.2.2.1 x.2.2.2.2.2.2.2.2.2.2.2.2.2.2.2.2.2.2.2.2.2.2.2.2.2.2.2.2.2.1 x.2.2.2.2.2.2.2.2.2.2.2.2.2.2.2.2.2.2.2.2.2.2.2.2.2.2.2.2.2.2.1 x.2.2.2.2.2.2.2.2.2.2.2.2.2.2.2.2.2.2.2.2.2.2.2.2.2.2.2.2.2.2.2
noncomputable def char_spec_P : char_spec_T := pick char_spec_ne char_spec_F
namespace char_spec_V
@[irreducible] noncomputable def w : World := char_spec_P.1
@[irreducible] noncomputable def st : Nat := char_spec_P.2.1
@[irreducible] noncomputable def sd : Nat := char_spec_P.2.2.1
@[irreducible] noncomputable def ds : Nat := char_spec_P.2.2.2.1
@[irreducible] noncomputable def dd : Nat := char_spec_P.2.2.2.2.1
@[irreducible] noncomputable def mth : Nat := char_spec_P.2.2.2.2.2.1
@[irreducible] noncomputable def vnl : Value := char_spec_P.2.2.2.2.2.2.1
@[irreducible] noncomputable def vel : Value := char_spec_P.2.2.2.2.2.2.2.1
@[irreducible] noncomputable def k : Nat → Int := char_spec_P.2.2.2.2.2.2.2.2.1
@[irreducible] noncomputable def t : Nat → Tok := char_spec_P.2.2.2.2.2.2.2.2.2.1
@[irreducible] noncomputable def text : List Nat := char_spec_P.2.2.2.2.2.2.2.2.2.2.1
@[irreducible] noncomputable def tt : Tok := char_spec_P.2.2.2.2.2.2.2.2.2.2.2.1
@[irreducible] noncomputable def dp : Nat := char_spec_P.2.2.2.2.2.2.2.2.2.2.2.2.1
@[irreducible] noncomputable def un : Nat := char_spec_P.2.2.2.2.2.2.2.2.2.2.2.2.2.1
@[irreducible] noncomputable def gd : Option (List Code) := char_spec_P.2.2.2.2.2.2.2.2.2.2.2.2.2.2.1
@[irreducible] noncomputable def cn : Str := char_spec_P.2.2.2.2.2.2.2.2.2.2.2.2.2.2.2.1
@[irreducible] noncomputable def cs : Scope := char_spec_P.2.2.2.2.2.2.2.2.2.2.2.2.2.2.2.2.1
@[irreducible] noncomputable def a : Addr := char_spec_P.2.2.2.2.2.2.2.2.2.2.2.2.2.2.2.2.2.1
@[irreducible] noncomputable def ccd : Value := char_spec_P.2.2.2.2.2.2.2.2.2.2.2.2.2.2.2.2.2.2.1
@[irreducible] noncomputable def cl : List (Str × Addr) := char_spec_P.2.2.2.2.2.2.2.2.2.2.2.2.2.2.2.2.2.2.2.1
@[irreducible] noncomputable def outer : List Env := char_spec_P.2.2.2.2.2.2.2.2.2.2.2.2.2.2.2.2.2.2.2.2.1
@[irreducible] noncomputable def A₀ : Around := char_spec_P.2.2.2.2.2.2.2.2.2.2.2.2.2.2.2.2.2.2.2.2.2.1
@[irreducible] noncomputable def base : Heap := char_spec_P.2.2.2.2.2.2.2.2.2.2.2.2.2.2.2.2.2.2.2.2.2.2.1
@[irreducible] noncomputable def h₀ : Heap := char_spec_P.2.2.2.2.2.2.2.2.2.2.2.2.2.2.2.2.2.2.2.2.2.2.2.1
@[irreducible] noncomputable def L : Addr := char_spec_P.2.2.2.2.2.2.2.2.2.2.2.2.2.2.2.2.2.2.2.2.2.2.2.2.1
@[irreducible] noncomputable def m : Str → Option Value := char_spec_P.2.2.2.2.2.2.2.2.2.2.2.2.2.2.2.2.2.2.2.2.2.2.2.2.2.1
@[irreducible] noncomputable def s : Shared := char_spec_P.2.2.2.2.2.2.2.2.2.2.2.2.2.2.2.2.2.2.2.2.2.2.2.2.2.2.1
@[irreducible] noncomputable def mean : ExcName → Option Value := char_spec_P.2.2.2.2.2.2.2.2.2.2.2.2.2.2.2.2.2.2.2.2.2.2.2.2.2.2.2.1
@[irreducible] noncomputable def mg : Str → Option Value := char_spec_P.2.2.2.2.2.2.2.2.2.2.2.2.2.2.2.2.2.2.2.2.2.2.2.2.2.2.2.2.1
@[irreducible] noncomputable def mb : Str → Option Value := char_spec_P.2.2.2.2.2.2.2.2.2.2.2.2.2.2.2.2.2.2.2.2.2.2.2.2.2.2.2.2.2.1
@[irreducible] noncomputable def Q : Value → Shared → Prop := char_spec_P.2.2.2.2.2.2.2.2.2.2.2.2.2.2.2.2.2.2.2.2.2.2.2.2.2.2.2.2.2.2.1
@[irreducible] noncomputable def E : Value → Shared → Prop := char_spec_P.2.2.2.2.2.2.2.2.2.2.2.2.2.2.2.2.2.2.2.2.2.2.2.2.2.2.2.2.2.2.2
theorem core : char_spec_S w st sd ds dd mth vnl vel k t text tt dp un gd cn cs a ccd cl outer A₀ base h₀ L m s mean mg mb Q E := by
  unfold char_spec_S
  w_on
  intro v seen rest hG hI
  have hc := hG.ord
  have hI' := hI
  obtain ⟨hs, ho, hle, -, -, hr⟩ := hI'
  obtain ⟨chunk, tc, size, ts, off, to, pl, tpl, pc, tpc, buf, place, tpa⟩ := v
  obtain ⟨q1, q2, q3, q4⟩ := hc
  have q12 := Nat.lt_trans q1 q2
  have q23 := Nat.lt_trans q2 q3
  have q34 := Nat.lt_trans q3 q4
  have q13 := Nat.lt_trans q12 q3
  have q24 := Nat.lt_trans q23 q4
  have q14 := Nat.lt_trans q13 q4
  dsimp only [Strm.led, Strm.sdO, Strm.ddO] at *
  (try dsimp only at hs ho hle hr)
  subst hs
  intro B F X N T hk hd hu hp hret
  refine' enter (binds := [(Str.ofString "self", .ref st)]) B F X N T hk hret ?k6 ?k7 ?k8 ?k9 ?kB ?_ ?c5
  (case k6 => k_is)
  (case k7 => k_is)
  (case k8 => first | exact rm0 (by assumption) | lia)
  (case k9 => first | exact BindsTo.of_eq rfl | exact binds_K (by k_in) rfl (by k_is) rfl rfl rfl)
  (case c5 => decide)
  (case kB => exact rfl)
  clear hret N F T X B
  intro g' L' h' F' N' B' X' T' hlt
  refine flatD (Nat.add_pos_left hp _) ?_
  intro g₉ d₉ os₉ n₉ hp₉
  refine hideDone ?_
  intro R9 hR9
  (try dsimp only)
  (try k_fold)
  k_steps
  unfold Stop
  refine exec_cut (fun s' => ∃ h' tk' σ, s' = ⟨h', g₉, d₉, tk', os₉⟩ ∧ σ.off < σ.chunk.length ∧ Inv ⟨st, sd, ds, dd, mth, vnl, vel, k, t, text, tt⟩ σ seen rest ∧
    Fr g' L' h' (fun y => List.lookup y [(Str.ofString "self", Value.ref st)].reverse) ∧ News g' L' h' (Strm.led ⟨st, sd, ds, dd, mth, vnl, vel, k, t, text, tt⟩ σ)) ?_ ?_
  · refine wpAny_If ?_
    k_steps
    · unfold Stop
      refine wpAny_If ?_
      k_steps
      unfold Stop
      have N₂ := ‹News _ _ _ _›
      refine Ctr.use (read_abs w ⟨st, sd, ds, dd, mth, vnl, vel, k, t, text, tt⟩ ⟨_, _, _, _, _, _, _, _, _, _, _, _, _⟩ seen rest 10240 0 _ _ (.inr ⟨rfl, rfl, rfl⟩) hG hI (by decide) (by decide)) rfl B' ‹Fr _ _ _ _› X' N₂ T' rfl (by dsimp only [ktrTop]; first | exact rm1 (by assumption) (by decide) | lia) (by dsimp only [ktrTop]; first | exact rm2 (by assumption) (by decide) | lia) (by first | assumption | exact Nat.succ_pos _ | lia | (dsimp only; lia)) ?_
      rintro v foot' h2 tk2 ⟨⟨chunk', tc, size', ts, off', to, pl', tpl, pc', tpc, buf', place', tpa⟩, rfl, hv⟩ F2 N2 -
      clear N₂
      dsimp only [Strm.led, Strm.sdO, Strm.ddO] at N2 hv
      rcases hv with ⟨rfl, e1, hI2⟩ | ⟨rfl, rfl, e2, -, rest', e3, hI2⟩
      · k_steps
        refine .inr ⟨(fun e => nomatch e), ?_⟩
        refine hR9 _ _ ⟨_, _, _, _, _, rfl, ‹Fr _ _ _ _›, ‹News _ _ _ _›, ?_⟩
        have e0 : chunk.drop off = [] := List.drop_of_length_le (by lia)
        rw [e0, List.append_nil] at hI2
        exact ⟨⟨_, _, _, _, _, _, _, _, _, _, _, _, _⟩, rfl, .inl ⟨e1.trans e0, rfl, hI2⟩⟩
      · k_steps
        have e0 : chunk.drop off = [] := List.drop_of_length_le (by lia)
        rw [e0, List.append_nil] at hI2
        rw [e0, List.nil_append] at e3
        subst e3
        exact .inl ⟨rfl, _, _, ⟨_, _, _, _, _, _, _, _, _, _, _, _, _⟩, rfl, List.length_pos_iff.mpr e2, hI2, ‹Fr _ _ _ _›, ‹News _ _ _ _›⟩
    · exact .inl ⟨rfl, _, _, ⟨_, _, _, _, _, _, _, _, _, _, _, _, _⟩, rfl, by dsimp only; lia, hI, ‹Fr _ _ _ _›, ‹News _ _ _ _›⟩
  · rintro s' ⟨h', tk', ⟨chunk, tc, size, ts, off, to, pl, tpl, pc, tpc, buf, place, tpa⟩, rfl, hlt, hI, F', N'⟩ hp8
    have hI' := hI
    obtain ⟨hs, ho, hle, -, ⟨pre, p1, p2, p3⟩, hr⟩ := hI'
    dsimp only at hlt hs ho hle p1 p2 p3 hr hp8
    subst hs
    dsimp only [Strm.led, Strm.sdO, Strm.ddO] at N'
    have hl := tx_length chunk
    k_steps
    obtain ⟨rest', e1, hI2⟩ := inv_char hI hlt
    dsimp only at e1 hI2
    refine hR9 _ _ ⟨_, _, _, _, _, rfl, ‹Fr _ _ _ _›, ‹News _ _ _ _›, ?_⟩
    refine ⟨⟨_, _, _, _, off + 1, _, _, _, _, _, _, _, _⟩, rfl, .inr ⟨_, rest', _, e1, congrArg (fun q => Value.str q _) (item_nat chunk off hlt), Nat.succ_pos _, hI2 _⟩⟩
end char_spec_V
theorem char_spec_all (w : World) (st : Nat) (sd : Nat) (ds : Nat) (dd : Nat) (mth : Nat) (vnl : Value) (vel : Value) (k : Nat → Int) (t : Nat → Tok) (text : List Nat) (tt : Tok) (dp : Nat) (un : Nat) (gd : Option (List Code)) (cn : Str) (cs : Scope) (a : Addr) (ccd : Value) (cl : List (Str × Addr)) (outer : List Env) (A₀ : Around) (base : Heap) (h₀ : Heap) (L : Addr) (m : Str → Option Value) (s : Shared) (mean : ExcName → Option Value) (mg : Str → Option Value) (mb : Str → Option Value) (Q : Value → Shared → Prop) (E : Value → Shared → Prop) : char_spec_S w st sd ds dd mth vnl vel k t text tt dp un gd cn cs a ccd cl outer A₀ base h₀ L m s mean mg mb Q E := of_pick (S := char_spec_F) (show char_spec_F char_spec_P by with_unfolding_all exact char_spec_V.core) (w, st, sd, ds, dd, mth, vnl, vel, k, t, text, tt, dp, un, gd, cn, cs, a, ccd, cl, outer, A₀, base, h₀, L, m, s, mean, mg, mb, Q, E)
theorem char_spec (w : World) (c : Strm) (v : SV) (seen rest : List Nat) (hG : Good c) (hI : Inv c v seen rest) : Ctr w 133 [.ref c.st] 20 (c.led v) (charPost c seen rest) :=
  fun dp un gd cn cs a ccd cl outer A₀ base h₀ L m s mean mg mb Q E => char_spec_all w c.st c.sd c.ds c.dd c.mth c.vnl c.vel c.k c.t c.text c.tt dp un gd cn cs a ccd cl outer A₀ base h₀ L m s mean mg mb Q E v seen rest hG hI
end
section
theorem unget_none (w : World) (a₀ : Addr) : Ctr w 163 [.ref a₀, .none] 5 [] (fun r led => r = .none ∧ led = []) := by
  w_on
  intro dp un gd cn cs a ccd cl outer A₀ base h₀ L m s mean mg mb Q E B F X N T hk hd hu hp hret
  refine' enter (binds := [(Str.ofString "self", .ref a₀), (Str.ofString "char", .none)]) B F X N T hk hret ?k6 ?k7 ?k8 ?k9 ?kB ?_ ?c5
  (case k6 => k_is)
  (case k7 => k_is)
  (case k8 => first | exact rm0 (by assumption) | lia)
  (case k9 => first | exact BindsTo.of_eq rfl | exact binds_K (by k_in) rfl (by k_is) rfl rfl rfl)
  (case c5 => decide)
  (case kB => exact rfl)
  clear hret N F T X B
  intro g' L' h' F' N' B' X' T' hlt
  refine flatD (Nat.add_pos_left hp _) ?_
  intro g₉ d₉ os₉ n₉ hp₉
  refine hideDone ?_
  intro R9 hR9
  (try dsimp only)
  (try k_fold)
  k_steps
  refine hR9 _ _ ⟨[], _, _, _, _, rfl, ‹Fr _ _ _ _›, News.nil, rfl, rfl⟩
noncomputable def unget_spec_S (w : World) (tk : Tok) (st : Nat) (sd : Nat) (ds : Nat) (dd : Nat) (mth : Nat) (vnl : Value) (vel : Value) (k : Nat → Int) (t : Nat → Tok) (text : List Nat) (tt : Tok) (dp : Nat) (un : Nat) (gd : Option (List Code)) (cn : Str) (cs : Scope) (a : Addr) (ccd : Value) (cl : List (Str × Addr)) (outer : List Env) (A₀ : Around) (base : Heap) (h₀ : Heap) (L : Addr) (m : Str → Option Value) (s : Shared) (mean : ExcName → Option Value) (mg : Str → Option Value) (mb : Str → Option Value) (Q : Value → Shared → Prop) (E : Value → Shared → Prop) : Prop :=
  ∀ (v : SV) (seen : List Nat) (rest : List Nat) (x : Nat), (Good (Strm.mk st sd ds dd mth vnl vel k t text tt)) →
    (Inv (Strm.mk st sd ds dd mth vnl vel k t text tt) v (seen ++ [x]) rest) →
    (0 < v.off) →
    CtrAt w dp un gd cn cs a ccd cl outer A₀ base h₀ L m s mean mg mb Q E 163 [.ref (Strm.mk st sd ds dd mth vnl vel k t text tt).st, .str (tx [x]) tk] 5 ((Strm.mk st sd ds dd mth vnl vel k t text tt).led v) (fun r led => r = .none ∧ ∃ v', led = (Strm.mk st sd ds dd mth vnl vel k t text tt).led v' ∧ Inv (Strm.mk st sd ds dd mth vnl vel k t text tt) v' seen (x :: rest))
noncomputable abbrev unget_spec_T : Type := (World) × (Tok) × (Nat) × (Nat) × (Nat) × (Nat) × (Nat) × (Value) × (Value) × (Nat → Int) × (Nat → Tok) × (List Nat) × (Tok) × (Nat) × (Nat) × (Option (List Code)) × (Str) × (Scope) × (Addr) × (Value) × (List (Str × Addr)) × (List Env) × (Around) × (Heap) × (Heap) × (Addr) × (Str → Option Value) × (Shared) × (ExcName → Option Value) × (Str → Option Value) × (Str → Option Value) × (Value → Shared → Prop) × (Value → Shared → Prop)
theorem unget_spec_ne : Nonempty unget_spec_T := ⟨(dW, default, default, default, default, default, default, default, default, (fun _ => default), (fun _ => default), default, default, default, default, default, default, default, default, default, default, default, dA, default, default, default, (fun _ => default), dS, (fun _ => default), (fun _ => default), (fun _ => default), (fun _ _ => True), (fun _ _ => True))⟩
noncomputable abbrev unget_spec_F (x : unget_spec_T) : Prop := unget_spec_S x.1 x.2.1 x.2.2.1 x.2.2.2.1 x.2.2.2.2.1 x.2.2.2.2.2.1 x.2.2.2.2.2.2.1 x.2.2.2.2.2.2.2.1 x.2.2.2.2.2.2.2.2.1 x.2.2.2.2.2.2.2.2.2.1 x.2.2.2.2.2.2.2.2.2.2.1 x.2.2.2.2.2.2.2.2.2.2.2.1 x.2.2.2.2.2.2.2.2.2.2.2.2.1 x.2.2.2.2.2.2.2.2.2.2.2.2.2.1 x.2.2.2.2.2.2.2.2.2.2.2.2.2.2.1 x.2.2.2.2.2.2.2.2.2.2.2.2.2.2.2.1 x.2.2.2.2.2.2.2.2.2.2.2.2.2.2.2.2.1 x.2.2.2.2.2.2.2.2.2.2.2.2.2.2.2.2.2.1 x.2.2.2.2.2.2.2.2.2.2.2.2.2.2.2.2.2.2.1 x.2.2.2.2.2.2.2.2.2.2.2.2.2.2.2.2.2.2.2.1 x.2.2.2.2.2.2.2.2.2.2.2.2.2.2.2.2.2.2.2.2.1 x.2.2.2.2.2.2.2.2.2.2.2.2.2.2.2.2.2.2.2.2.2.1 x.2.2.2.2.2.2.2.2.2.2.2.2.2.2.2.2.2.2.2.2.2.2.1 x.2.2.2.2.2.2.2.2.2.2.2.2.2.2.2.2.2.2.2.2.2.2.2.1 x.2.2.2.2.2.2.2.2.2.2.2.2.2.2.2.2.2.2.2.2.2.2.2.2.1 x.2.2.2.2.2.2.2.2.2.2.2.2.2.2.2.2.2.2.2.2.2.2.2.2.2.1 x.2.2.2.2.2.2.2.2.2.2.2.2.2.2.2.2.2.2.2.2.2.2.2.2.2.2.1 x.2.2.2.2.2.2.2.2.2.2.2.2.2.2.2.2.2.2.2.2.2.2.2.2.2.2.2.1 x.2.2.2.2.2.2.2.2.2.2.2.2.2.2.2.2.2.2.2.2.2.2.2.2.2.2.2.2.1 x.2.2.2.2.2.2.2.2.2.2.2.2.2.2.2.2.2.2.2.2.2.2.2.2.2.2.2.2.2.1 x.2.2.2.2.2.2.2.2.2.2.2.2.2.2.2.2.2.2.2.2.2.2.2.2.2.2.2.2.2.2.1 x.2.2.2.2.2.2.2.2.2.2.2.2.2.2.2.2.2.2.2.2.2.2.2.2.2.2.2.2.2.2.2.1 x.2.2.2.2.2.2.2.2.2.2.2.2.2.2.2.2.2.2.2.2.2.2.2.2.2.2.2.2.2.2.2.2
noncomputable def unget_spec_P : unget_spec_T := pick unget_spec_ne unget_spec_F
namespace unget_spec_V
@[irreducible] noncomputable def w : World := unget_spec_P.1
@[irreducible] noncomputable def tk : Tok := unget_spec_P.2.1
@[irreducible] noncomputable def st : Nat := unget_spec_P.2.2.1
@[irreducible] noncomputable def sd : Nat := unget_spec_P.2.2.2.1
@[irreducible] noncomputable def ds : Nat := unget_spec_P.2.2.2.2.1
@[irreducible] noncomputable def dd : Nat := unget_spec_P.2.2.2.2.2.1
@[irreducible] noncomputable def mth : Nat := unget_spec_P.2.2.2.2.2.2.1
@[irreducible] noncomputable def vnl : Value := unget_spec_P.2.2.2.2.2.2.2.1
@[irreducible] noncomputable def vel : Value := unget_spec_P.2.2.2.2.2.2.2.2.1
@[irreducible] noncomputable def k : Nat → Int := unget_spec_P.2.2.2.2.2.2.2.2.2.1
@[irreducible] noncomputable def t : Nat → Tok := unget_spec_P.2.2.2.2.2.2.2.2.2.2.1
@[irreducible] noncomputable def text : List Nat := unget_spec_P.2.2.2.2.2.2.2.2.2.2.2.1
@[irreducible] noncomputable def tt : Tok := unget_spec_P.2.2.2.2.2.2.2.2.2.2.2.2.1
@[irreducible] noncomputable def dp : Nat := unget_spec_P.2.2.2.2.2.2.2.2.2.2.2.2.2.1
@[irreducible] noncomputable def un : Nat := unget_spec_P.2.2.2.2.2.2.2.2.2.2.2.2.2.2.1
@[irreducible] noncomputable def gd : Option (List Code) := unget_spec_P.2.2.2.2.2.2.2.2.2.2.2.2.2.2.2.1
@[irreducible] noncomputable def cn : Str := unget_spec_P.2.2.2.2.2.2.2.2.2.2.2.2.2.2.2.2.1
@[irreducible] noncomputable def cs : Scope := unget_spec_P.2.2.2.2.2.2.2.2.2.2.2.2.2.2.2.2.2.1
@[irreducible] noncomputable def a : Addr := unget_spec_P.2.2.2.2.2.2.2.2.2.2.2.2.2.2.2.2.2.2.1
@[irreducible] noncomputable def ccd : Value := unget_spec_P.2.2.2.2.2.2.2.2.2.2.2.2.2.2.2.2.2.2.2.1
@[irreducible] noncomputable def cl : List (Str × Addr) := unget_spec_P.2.2.2.2.2.2.2.2.2.2.2.2.2.2.2.2.2.2.2.2.1
@[irreducible] noncomputable def outer : List Env := unget_spec_P.2.2.2.2.2.2.2.2.2.2.2.2.2.2.2.2.2.2.2.2.2.1
@[irreducible] noncomputable def A₀ : Around := unget_spec_P.2.2.2.2.2.2.2.2.2.2.2.2.2.2.2.2.2.2.2.2.2.2.1
@[irreducible] noncomputable def base : Heap := unget_spec_P.2.2.2.2.2.2.2.2.2.2.2.2.2.2.2.2.2.2.2.2.2.2.2.1
@[irreducible] noncomputable def h₀ : Heap := unget_spec_P.2.2.2.2.2.2.2.2.2.2.2.2.2.2.2.2.2.2.2.2.2.2.2.2.1
@[irreducible] noncomputable def L : Addr := unget_spec_P.2.2.2.2.2.2.2.2.2.2.2.2.2.2.2.2.2.2.2.2.2.2.2.2.2.1
@[irreducible] noncomputable def m : Str → Option Value := unget_spec_P.2.2.2.2.2.2.2.2.2.2.2.2.2.2.2.2.2.2.2.2.2.2.2.2.2.2.1
@[irreducible] noncomputable def s : Shared := unget_spec_P.2.2.2.2.2.2.2.2.2.2.2.2.2.2.2.2.2.2.2.2.2.2.2.2.2.2.2.1
@[irreducible] noncomputable def mean : ExcName → Option Value := unget_spec_P.2.2.2.2.2.2.2.2.2.2.2.2.2.2.2.2.2.2.2.2.2.2.2.2.2.2.2.2.1
@[irreducible] noncomputable def mg : Str → Option Value := unget_spec_P.2.2.2.2.2.2.2.2.2.2.2.2.2.2.2.2.2.2.2.2.2.2.2.2.2.2.2.2.2.1
@[irreducible] noncomputable def mb : Str → Option Value := unget_spec_P.2.2.2.2.2.2.2.2.2.2.2.2.2.2.2.2.2.2.2.2.2.2.2.2.2.2.2.2.2.2.1
@[irreducible] noncomputable def Q : Value → Shared → Prop := unget_spec_P.2.2.2.2.2.2.2.2.2.2.2.2.2.2.2.2.2.2.2.2.2.2.2.2.2.2.2.2.2.2.2.1
@[irreducible] noncomputable def E : Value → Shared → Prop := unget_spec_P.2.2.2.2.2.2.2.2.2.2.2.2.2.2.2.2.2.2.2.2.2.2.2.2.2.2.2.2.2.2.2.2
theorem core : unget_spec_S w tk st sd ds dd mth vnl vel k t text tt dp un gd cn cs a ccd cl outer A₀ base h₀ L m s mean mg mb Q E := by
  unfold unget_spec_S
  w_on
  intro v seen rest x hG hI h0
  have hc := hG.ord
  have hI' := hI
  obtain ⟨hs, ho, hle, -, -, -⟩ := hI'
  obtain ⟨u1, u2⟩ := inv_unget hI h0
  obtain ⟨chunk, tc, size, ts, off, to, pl, tpl, pc, tpc, buf, place, tpa⟩ := v
  obtain ⟨q1, q2, q3, q4⟩ := hc
  have q12 := Nat.lt_trans q1 q2
  have q23 := Nat.lt_trans q2 q3
  have q34 := Nat.lt_trans q3 q4
  have q13 := Nat.lt_trans q12 q3
  have q24 := Nat.lt_trans q23 q4
  have q14 := Nat.lt_trans q13 q4
  dsimp only [Strm.led, Strm.sdO, Strm.ddO] at *
  (try dsimp only at hs ho hle h0 u1 u2)
  subst hs
  have hl := tx_length chunk
  have hix : Txt.item (tx chunk) ((off : Int) - 1) = tx [x] := item_meets (by lia) (by rw [tx_cps, List.getElem?_toArray, show ((off : Int) - 1).toNat = off - 1 by lia]; exact u1)
  have hne : ¬ (off : Int) = 0 := by lia
  intro B F X N T hk hd hu hp hret
  refine' enter (binds := [(Str.ofString "self", .ref st), (Str.ofString "char", .str (tx [x]) tk)]) B F X N T hk hret ?k6 ?k7 ?k8 ?k9 ?kB ?_ ?c5
  (case k6 => k_is)
  (case k7 => k_is)
  (case k8 => first | exact rm0 (by assumption) | lia)
  (case k9 => first | exact BindsTo.of_eq rfl | exact binds_K (by k_in) rfl (by k_is) rfl rfl rfl)
  (case c5 => decide)
  (case kB => exact rfl)
  clear hret N F T X B
  intro g' L' h' F' N' B' X' T' hlt
  refine flatD (Nat.add_pos_left hp _) ?_
  intro g₉ d₉ os₉ n₉ hp₉
  refine hideDone ?_
  intro R9 hR9
  (try dsimp only)
  (try k_fold)
  k_steps
  · exact absurd ‹(off : Int) = 0› hne
  · have N₅ := ‹News _ _ _ _›
    rw [show ((off : Int) - 1) = ((off - 1 : Nat) : Int) by lia] at N₅
    refine hR9 _ _ ⟨_, _, _, _, _, rfl, ‹Fr _ _ _ _›, N₅, rfl, ⟨_, _, _, _, off - 1, _, _, _, _, _, _, _, _⟩, rfl, u2 _⟩
end unget_spec_V
theorem unget_spec_all (w : World) (tk : Tok) (st : Nat) (sd : Nat) (ds : Nat) (dd : Nat) (mth : Nat) (vnl : Value) (vel : Value) (k : Nat → Int) (t : Nat → Tok) (text : List Nat) (tt : Tok) (dp : Nat) (un : Nat) (gd : Option (List Code)) (cn : Str) (cs : Scope) (a : Addr) (ccd : Value) (cl : List (Str × Addr)) (outer : List Env) (A₀ : Around) (base : Heap) (h₀ : Heap) (L : Addr) (m : Str → Option Value) (s : Shared) (mean : ExcName → Option Value) (mg : Str → Option Value) (mb : Str → Option Value) (Q : Value → Shared → Prop) (E : Value → Shared → Prop) : unget_spec_S w tk st sd ds dd mth vnl vel k t text tt dp un gd cn cs a ccd cl outer A₀ base h₀ L m s mean mg mb Q E := of_pick (S := unget_spec_F) (show unget_spec_F unget_spec_P by with_unfolding_all exact unget_spec_V.core) (w, tk, st, sd, ds, dd, mth, vnl, vel, k, t, text, tt, dp, un, gd, cn, cs, a, ccd, cl, outer, A₀, base, h₀, L, m, s, mean, mg, mb, Q, E)
theorem unget_spec (w : World) (c : Strm) (v : SV) (seen rest : List Nat) (x : Nat) (tk : Tok) (hG : Good c) (hI : Inv c v (seen ++ [x]) rest) (h0 : 0 < v.off) : Ctr w 163 [.ref c.st, .str (tx [x]) tk] 5 (c.led v) (fun r led => r = .none ∧ ∃ v', led = c.led v' ∧ Inv c v' seen (x :: rest)) :=
  fun dp un gd cn cs a ccd cl outer A₀ base h₀ L m s mean mg mb Q E => unget_spec_all w tk c.st c.sd c.ds c.dd c.mth c.vnl c.vel c.k c.t c.text c.tt dp un gd cn cs a ccd cl outer A₀ base h₀ L m s mean mg mb Q E v seen rest x hG hI h0
end
section
local macro_rules | `(tactic| walk_at "none 0") => `(tactic| fail)
noncomputable def position_spec_S (w : World) (st : Nat) (sd : Nat) (ds : Nat) (dd : Nat) (mth : Nat) (vnl : Value) (vel : Value) (k : Nat → Int) (t : Nat → Tok) (text : List Nat) (tt : Tok) (dp : Nat) (un : Nat) (gd : Option (List Code)) (cn : Str) (cs : Scope) (a : Addr) (ccd : Value) (cl : List (Str × Addr)) (outer : List Env) (A₀ : Around) (base : Heap) (h₀ : Heap) (L : Addr) (m : Str → Option Value) (s : Shared) (mean : ExcName → Option Value) (mg : Str → Option Value) (mb : Str → Option Value) (Q : Value → Shared → Prop) (E : Value → Shared → Prop) : Prop :=
  ∀ (v : SV) (seen : List Nat) (rest : List Nat), (Good (Strm.mk st sd ds dd mth vnl vel k t text tt)) →
    (Inv (Strm.mk st sd ds dd mth vnl vel k t text tt) v seen rest) →
    CtrAt w dp un gd cn cs a ccd cl outer A₀ base h₀ L m s mean mg mb Q E 126 [.ref (Strm.mk st sd ds dd mth vnl vel k t text tt).st] 6 ((Strm.mk st sd ds dd mth vnl vel k t text tt).led v) (fun r led => ∃ a n1 n2 t1 t2, r = .ref a ∧ led = (a, tupOf #[.int n1 t1, .int n2 t2]) :: (Strm.mk st sd ds dd mth vnl vel k t text tt).led v ∧ @LT.lt Nat _ (Strm.mk st sd ds dd mth vnl vel k t text tt).ds a ∧ n1 = (seen.count 10 : Nat) + 1 ∧ n2 = (tailLen seen : Nat))
noncomputable abbrev position_spec_T : Type := (World) × (Nat) × (Nat) × (Nat) × (Nat) × (Nat) × (Value) × (Value) × (Nat → Int) × (Nat → Tok) × (List Nat) × (Tok) × (Nat) × (Nat) × (Option (List Code)) × (Str) × (Scope) × (Addr) × (Value) × (List (Str × Addr)) × (List Env) × (Around) × (Heap) × (Heap) × (Addr) × (Str → Option Value) × (Shared) × (ExcName → Option Value) × (Str → Option Value) × (Str → Option Value) × (Value → Shared → Prop) × (Value → Shared → Prop)
theorem position_spec_ne : Nonempty position_spec_T := ⟨(dW, default, default, default, default, default, default, default, (fun _ => default), (fun _ => default), default, default, default, default, default, default, default, default, default, default, default, dA, default, default, default, (fun _ => default), dS, (fun _ => default), (fun _ => default), (fun _ => default), (fun _ _ => True), (fun _ _ => True))⟩
noncomputable abbrev position_spec_F (x : position_spec_T) : Prop := position_spec_S x.1 x.2.1 x.2.2.1 x.2.2.2.1 x.2.2.2.2.1 x.2.2.2.2.2.1 x.2.2.2.2.2.2.1 x.2.2.2.2.2.2.2.1 x.2.2.2.2.2.2.2.2.1 x.2.2.2.2.2.2.2.2.2.1 x.2.2.2.2.2.2.2.2.2.2.1 x.2.2.2.2.2.2.2.2.2.2.2.1 x.2.2.2.2.2.2.2.2.2.2.2.2.1 x.2.2.2.2.2.2.2.2.2.2.2.2.2.1 x.2.2.2.2.2.2.2.2.2.2.2.2.2.2.1 x.2.2.2.2.2.2.2.2.2.2.2.2.2.2.2.1 x.2.2.2.2.2.2.2.2.2.2.2.2.2.2.2.2.1 x.2.2.2.2.2.2.2.2.2.2.2.2.2.2.2.2.2.1 x.2.2.2.2.2.2.2.2.2.2.2.2.2.2.2.2.2.2.1 x.2.2.2.2.2.2.2.2.2.2.2.2.2.2.2.2.2.2.2.1 x.2.2.2.2.2.2.2.2.2.2.2.2.2.2.2.2.2.2.2.2.1 x.2.2.2.2.2.2.2.2.2.2.2.2.2.2.2.2.2.2.2.2.2.1 x.2.2.2.2.2.2.2.2.2.2.2.2.2.2.2.2.2.2.2.2.2.2.1 x.2.2.2.2.2.2.2.2.2.2.2.2.2.2.2.2.2.2.2.2.2.2.2.1 x.2.2.2.2.2.2.2.2.2.2.2.2.2.2.2.2.2.2.2.2.2.2.2.2.1 x.2.2.2.2.2.2.2.2.2.2.2.2.2.2.2.2.2.2.2.2.2.2.2.2.2.1 x.2.2.2.2.2.2.2.2.2.2.2.2.2.2.2.2.2.2.2.2.2.2.2.2.2.2.1 x.2.2.2.2.2.2.2.2.2.2.2.2.2.2.2.2.2.2.2.2.2.2.2.2.2.2.2.1 x.2.2.2.2.2.2.2.2.2.2.2.2.2.2.2.2.2.2.2.2.2.2.2.2.2.2.2.2.1 x.2.2.2.2.2.2.2.2.2.2.2.2.2.2.2.2.2.2.2.2.2.2.2.2.2.2.2.2.2.1 x.2.2.2.2.2.2.2.2.2.2.2.2.2.2.2.2.2.2.2.2.2.2.2.2.2.2.2.2.2.2.1 x.2.2.2.2.2.2.2.2.2.2.2.2.2.2.2.2.2.2.2.2.2.2.2.2.2.2.2.2.2.2.2
noncomputable def position_spec_P : position_spec_T := pick position_spec_ne position_spec_F
namespace position_spec_V
@[irreducible] noncomputable def w : World := position_spec_P.1
@[irreducible] noncomputable def st : Nat := position_spec_P.2.1
@[irreducible] noncomputable def sd : Nat := position_spec_P.2.2.1
@[irreducible] noncomputable def ds : Nat := position_spec_P.2.2.2.1
@[irreducible] noncomputable def dd : Nat := position_spec_P.2.2.2.2.1
@[irreducible] noncomputable def mth : Nat := position_spec_P.2.2.2.2.2.1
@[irreducible] noncomputable def vnl : Value := position_spec_P.2.2.2.2.2.2.1
@[irreducible] noncomputable def vel : Value := position_spec_P.2.2.2.2.2.2.2.1
@[irreducible] noncomputable def k : Nat → Int := position_spec_P.2.2.2.2.2.2.2.2.1
@[irreducible] noncomputable def t : Nat → Tok := position_spec_P.2.2.2.2.2.2.2.2.2.1
@[irreducible] noncomputable def text : List Nat := position_spec_P.2.2.2.2.2.2.2.2.2.2.1
@[irreducible] noncomputable def tt : Tok := position_spec_P.2.2.2.2.2.2.2.2.2.2.2.1
@[irreducible] noncomputable def dp : Nat := position_spec_P.2.2.2.2.2.2.2.2.2.2.2.2.1
@[irreducible] noncomputable def un : Nat := position_spec_P.2.2.2.2.2.2.2.2.2.2.2.2.2.1
@[irreducible] noncomputable def gd : Option (List Code) := position_spec_P.2.2.2.2.2.2.2.2.2.2.2.2.2.2.1
@[irreducible] noncomputable def cn : Str := position_spec_P.2.2.2.2.2.2.2.2.2.2.2.2.2.2.2.1
@[irreducible] noncomputable def cs : Scope := position_spec_P.2.2.2.2.2.2.2.2.2.2.2.2.2.2.2.2.1
@[irreducible] noncomputable def a : Addr := position_spec_P.2.2.2.2.2.2.2.2.2.2.2.2.2.2.2.2.2.1
@[irreducible] noncomputable def ccd : Value := position_spec_P.2.2.2.2.2.2.2.2.2.2.2.2.2.2.2.2.2.2.1
@[irreducible] noncomputable def cl : List (Str × Addr) := position_spec_P.2.2.2.2.2.2.2.2.2.2.2.2.2.2.2.2.2.2.2.1
@[irreducible] noncomputable def outer : List Env := position_spec_P.2.2.2.2.2.2.2.2.2.2.2.2.2.2.2.2.2.2.2.2.1
@[irreducible] noncomputable def A₀ : Around := position_spec_P.2.2.2.2.2.2.2.2.2.2.2.2.2.2.2.2.2.2.2.2.2.1
@[irreducible] noncomputable def base : Heap := position_spec_P.2.2.2.2.2.2.2.2.2.2.2.2.2.2.2.2.2.2.2.2.2.2.1
@[irreducible] noncomputable def h₀ : Heap := position_spec_P.2.2.2.2.2.2.2.2.2.2.2.2.2.2.2.2.2.2.2.2.2.2.2.1
@[irreducible] noncomputable def L : Addr := position_spec_P.2.2.2.2.2.2.2.2.2.2.2.2.2.2.2.2.2.2.2.2.2.2.2.2.1
@[irreducible] noncomputable def m : Str → Option Value := position_spec_P.2.2.2.2.2.2.2.2.2.2.2.2.2.2.2.2.2.2.2.2.2.2.2.2.2.1
@[irreducible] noncomputable def s : Shared := position_spec_P.2.2.2.2.2.2.2.2.2.2.2.2.2.2.2.2.2.2.2.2.2.2.2.2.2.2.1
@[irreducible] noncomputable def mean : ExcName → Option Value := position_spec_P.2.2.2.2.2.2.2.2.2.2.2.2.2.2.2.2.2.2.2.2.2.2.2.2.2.2.2.1
@[irreducible] noncomputable def mg : Str → Option Value := position_spec_P.2.2.2.2.2.2.2.2.2.2.2.2.2.2.2.2.2.2.2.2.2.2.2.2.2.2.2.2.1
@[irreducible] noncomputable def mb : Str → Option Value := position_spec_P.2.2.2.2.2.2.2.2.2.2.2.2.2.2.2.2.2.2.2.2.2.2.2.2.2.2.2.2.2.1
@[irreducible] noncomputable def Q : Value → Shared → Prop := position_spec_P.2.2.2.2.2.2.2.2.2.2.2.2.2.2.2.2.2.2.2.2.2.2.2.2.2.2.2.2.2.2.1
@[irreducible] noncomputable def E : Value → Shared → Prop := position_spec_P.2.2.2.2.2.2.2.2.2.2.2.2.2.2.2.2.2.2.2.2.2.2.2.2.2.2.2.2.2.2.2
theorem core : position_spec_S w st sd ds dd mth vnl vel k t text tt dp un gd cn cs a ccd cl outer A₀ base h₀ L m s mean mg mb Q E := by
  unfold position_spec_S
  w_on
  intro v seen rest hG hI
  have hc := hG.ord
  have hI' := hI
  obtain ⟨hs, ho, hle, -, -, -⟩ := hI'
  obtain ⟨u1, u2⟩ := inv_place hI
  obtain ⟨chunk, tc, size, ts, off, to, pl, tpl, pc, tpc, buf, place, tpa⟩ := v
  obtain ⟨q1, q2, q3, q4⟩ := hc
  have q12 := Nat.lt_trans q1 q2
  have q23 := Nat.lt_trans q2 q3
  have q34 := Nat.lt_trans q3 q4
  have q13 := Nat.lt_trans q12 q3
  have q24 := Nat.lt_trans q23 q4
  have q14 := Nat.lt_trans q13 q4
  dsimp only [Strm.led, Strm.sdO, Strm.ddO] at *
  (try dsimp only at hs ho hle u1 u2)
  subst hs
  intro B F X N T hk hd hu hp hret
  refine' enter (binds := [(Str.ofString "self", .ref st)]) B F X N T hk hret ?k6 ?k7 ?k8 ?k9 ?kB ?_ ?c5
  (case k6 => k_is)
  (case k7 => k_is)
  (case k8 => first | exact rm0 (by assumption) | lia)
  (case k9 => first | exact BindsTo.of_eq rfl | exact binds_K (by k_in) rfl (by k_is) rfl rfl rfl)
  (case c5 => decide)
  (case kB => exact rfl)
  clear hret N F T X B
  intro g' L' h' F' N' B' X' T' hlt
  refine flatD (Nat.add_pos_left hp _) ?_
  intro g₉ d₉ os₉ n₉ hp₉
  refine hideDone ?_
  intro R9 hR9
  (try dsimp only)
  (try k_fold)
  k_steps
  unfold Stop
  have N₂ := ‹News _ _ _ _›
  refine Ctr.use (position_at w ⟨st, sd, ds, dd, mth, vnl, vel, k, t, text, tt⟩ ⟨_, _, _, _, _, _, _, _, _, _, _, _, _⟩ _ _ ⟨q1, q2, q3, q4⟩ ho) rfl B' ‹Fr _ _ _ _› X' N₂ T' rfl (by dsimp only [ktrTop]; first | exact rm1 (by assumption) (by decide) | lia) (by dsimp only [ktrTop]; first | exact rm2 (by assumption) (by decide) | lia) (by first | assumption | exact Nat.succ_pos _ | lia | (dsimp only; lia)) ?_
  rintro v foot' h2 tk2 ⟨a2, n1, n2, t1, t2, rfl, rfl, la, e1, e2⟩ F2 N2 -
  clear N₂
  dsimp only [Strm.led, Strm.sdO, Strm.ddO] at N2 la e1 e2
  rw [u1] at e1
  rw [u2] at e2
  k_steps
  have N₅ := News.sub ‹News _ _ _ _› (fun p hp => by
    rcases List.mem_cons.mp hp with rfl | hp
    · exact .head _
    · exact .tail _ (.tail _ hp))
  exact hR9 _ _ ⟨_, _, _, _, _, rfl, ‹Fr _ _ _ _›, N₅, _, _, _, _, _, rfl, rfl, by lia, by rw [e1], e2⟩
end position_spec_V
theorem position_spec_all (w : World) (st : Nat) (sd : Nat) (ds : Nat) (dd : Nat) (mth : Nat) (vnl : Value) (vel : Value) (k : Nat → Int) (t : Nat → Tok) (text : List Nat) (tt : Tok) (dp : Nat) (un : Nat) (gd : Option (List Code)) (cn : Str) (cs : Scope) (a : Addr) (ccd : Value) (cl : List (Str × Addr)) (outer : List Env) (A₀ : Around) (base : Heap) (h₀ : Heap) (L : Addr) (m : Str → Option Value) (s : Shared) (mean : ExcName → Option Value) (mg : Str → Option Value) (mb : Str → Option Value) (Q : Value → Shared → Prop) (E : Value → Shared → Prop) : position_spec_S w st sd ds dd mth vnl vel k t text tt dp un gd cn cs a ccd cl outer A₀ base h₀ L m s mean mg mb Q E := of_pick (S := position_spec_F) (show position_spec_F position_spec_P by with_unfolding_all exact position_spec_V.core) (w, st, sd, ds, dd, mth, vnl, vel, k, t, text, tt, dp, un, gd, cn, cs, a, ccd, cl, outer, A₀, base, h₀, L, m, s, mean, mg, mb, Q, E)
theorem position_spec (w : World) (c : Strm) (v : SV) (seen rest : List Nat) (hG : Good c) (hI : Inv c v seen rest) : Ctr w 126 [.ref c.st] 6 (c.led v) (fun r led => ∃ a n1 n2 t1 t2, r = .ref a ∧ led = (a, tupOf #[.int n1 t1, .int n2 t2]) :: c.led v ∧ @LT.lt Nat _ c.ds a ∧ n1 = (seen.count 10 : Nat) + 1 ∧ n2 = (tailLen seen : Nat)) :=
  fun dp un gd cn cs a ccd cl outer A₀ base h₀ L m s mean mg mb Q E => position_spec_all w c.st c.sd c.ds c.dd c.mth c.vnl c.vel c.k c.t c.text c.tt dp un gd cn cs a ccd cl outer A₀ base h₀ L m s mean mg mb Q E v seen rest hG hI
end
section
local macro_rules | `(tactic| walk_at "none 0") => `(tactic| fail)

local macro_rules | `(tactic| walk_at "exec If") => `(tactic| (k_here; refine stop ?_))
theorem Fr.pad0 {h₀ h : Heap} {L : Addr} {m : Str → Option Value} (y : Str) (F : Fr h₀ L h m) : Fr h₀ L h (fun z => if z = y then m y else m z) :=
  Fr.like F fun z => by
    by_cases h : z = y
    · subst h; simp
    · simp [h]
noncomputable def untilPost (c : Strm) (seen rest : List Nat) (r : Value) (led : List (Addr × Obj)) : Prop :=
  ∃ v' acc rest' t, led = c.led v' ∧ r = .str (tx acc) t ∧ rest = acc ++ rest' ∧ 38 ∉ acc ∧ (rest' = [] ∨ ∃ r2, rest' = 38 :: r2) ∧ Inv c v' (seen ++ acc) rest'
noncomputable def chars_until_S (w : World) (tq : Tok) (st : Nat) (sd : Nat) (ds : Nat) (dd : Nat) (mth : Nat) (vnl : Value) (vel : Value) (k : Nat → Int) (t : Nat → Tok) (text : List Nat) (tt : Tok) (dp : Nat) (un : Nat) (gd : Option (List Code)) (cn : Str) (cs : Scope) (a : Addr) (ccd : Value) (cl : List (Str × Addr)) (outer : List Env) (A₀ : Around) (base : Heap) (h₀ : Heap) (L : Addr) (m : Str → Option Value) (s : Shared) (mean : ExcName → Option Value) (mg : Str → Option Value) (mb : Str → Option Value) (Q : Value → Shared → Prop) (E : Value → Shared → Prop) : Prop :=
  ∀ (v : SV) (seen : List Nat) (rest : List Nat) (q : Nat), (Good (Strm.mk st sd ds dd mth vnl vel k t text tt)) →
    (Inv (Strm.mk st sd ds dd mth vnl vel k t text tt) v seen rest) →
    ((Strm.mk st sd ds dd mth vnl vel k t text tt).ds < q) →
    CtrAt w dp un gd cn cs a ccd cl outer A₀ base h₀ L m s mean mg mb Q E 156 [.ref (Strm.mk st sd ds dd mth vnl vel k t text tt).st, .ref q] 14 ((q, tupOf #[.str (tx [38]) tq]) :: (Strm.mk st sd ds dd mth vnl vel k t text tt).led v) (untilPost (Strm.mk st sd ds dd mth vnl vel k t text tt) seen rest)
noncomputable abbrev chars_until_T : Type := (World) × (Tok) × (Nat) × (Nat) × (Nat) × (Nat) × (Nat) × (Value) × (Value) × (Nat → Int) × (Nat → Tok) × (List Nat) × (Tok) × (Nat) × (Nat) × (Option (List Code)) × (Str) × (Scope) × (Addr) × (Value) × (List (Str × Addr)) × (List Env) × (Around) × (Heap) × (Heap) × (Addr) × (Str → Option Value) × (Shared) × (ExcName → Option Value) × (Str → Option Value) × (Str → Option Value) × (Value → Shared → Prop) × (Value → Shared → Prop)
theorem chars_until_ne : Nonempty chars_until_T := ⟨(dW, default, default, default, default, default, default, default, default, (fun _ => default), (fun _ => default), default, default, default, default, default, default, default, default, default, default, default, dA, default, default, default, (fun _ => default), dS, (fun _ => default), (fun _ => default), (fun _ => default), (fun _ _ => True), (fun _ _ => True))⟩
noncomputable abbrev chars_until_F (x : chars_until_T) : Prop := chars_until_S x.1 x.2.1 x.2.2.1 x.2.2.2.1 x.2.2.2.2.1 x.2.2.2.2.2.1 x.2.2.2.2.2.2.1 x.2.2.2.2.2.2.2.1 x.2.2.2.2.2.2.2.2.1 x.2.2.2.2.2.2.2.2.2.1 x.2.2.2.2.2.2.2.2.2.2.1 x.2.2.2.2.2.2.2.2.2.2.2.1 x.2.2.2.2.2.2.2.2.2.2.2.2.1 x.2.2.2.2.2.2.2.2.2.2.2.2.2.1 x.2.2.2.2.2.2.2.2.2.2.2.2.2.2.1 x.2.2.2.2.2.2.2.2.2.2.2.2.2.2.2.1 x.2.2.2.2.2.2.2.2.2.2.2.2.2.2.2.2.1 x.2.2.2.2.2.2.2.2.2.2.2.2.2.2.2.2.2.1 x.2.2.2.2.2.2.2.2.2.2.2.2.2.2.2.2.2.2.1 x.2.2.2.2.2.2.2.2.2.2.2.2.2.2.2.2.2.2.2.1 x.2.2.2.2.2.2.2.2.2.2.2.2.2.2.2.2.2.2.2.2.1 x.2.2.2.2.2.2.2.2.2.2.2.2.2.2.2.2.2.2.2.2.2.1 x.2.2.2.2.2.2.2.2.2.2.2.2.2.2.2.2.2.2.2.2.2.2.1 x.2.2.2.2.2.2.2.2.2.2.2.2.2.2.2.2.2.2.2.2.2.2.2.1 x.2.2.2.2.2.2.2.2.2.2.2.2.2.2.2.2.2.2.2.2.2.2.2.2.1 x.2.2.2.2.2.2.2.2.2.2.2.2.2.2.2.2.2.2.2.2.2.2.2.2.2.1 x.2.2.2.2.2.2.2.2.2.2.2.2.2.2.2.2.2.2.2.2.2.2.2.2.2.2.1 x.2.2.2.2.2.2.2.2.2.2.2.2.2.2.2.2.2.2.2.2.2.2.2.2.2.2.2.1 x.2.2.2.2.2.2.2.2.2.2.2.2.2.2.2.2.2.2.2.2.2.2.2.2.2.2.2.2.1 x.2.2.2.2.2.2.2.2.2.2.2.2.2.2.2.2.2.2.2.2.2.2.2.2.2.2.2.2.2.1 x.2.2.2.2.2.2.2.2.2.2.2.2.2.2.2.2.2.2.2.2.2.2.2.2.2.2.2.2.2.2.1 x.2.2.2.2.2.2.2.2.2.2.2.2.2.2.2.2.2.2.2.2.2.2.2.2.2.2.2.2.2.2.2.1 x.2.2.2.2.2.2.2.2.2.2.2.2.2.2.2.2.2.2.2.2.2.2.2.2.2.2.2.2.2.2.2.2
noncomputable def chars_until_P : chars_until_T := pick chars_until_ne chars_until_F
namespace chars_until_V
@[irreducible] noncomputable def w : World := chars_until_P.1
@[irreducible] noncomputable def tq : Tok := chars_until_P.2.1
@[irreducible] noncomputable def st : Nat := chars_until_P.2.2.1
@[irreducible] noncomputable def sd : Nat := chars_until_P.2.2.2.1
@[irreducible] noncomputable def ds : Nat := chars_until_P.2.2.2.2.1
@[irreducible] noncomputable def dd : Nat := chars_until_P.2.2.2.2.2.1
@[irreducible] noncomputable def mth : Nat := chars_until_P.2.2.2.2.2.2.1
@[irreducible] noncomputable def vnl : Value := chars_until_P.2.2.2.2.2.2.2.1
@[irreducible] noncomputable def vel : Value := chars_until_P.2.2.2.2.2.2.2.2.1
@[irreducible] noncomputable def k : Nat → Int := chars_until_P.2.2.2.2.2.2.2.2.2.1
@[irreducible] noncomputable def t : Nat → Tok := chars_until_P.2.2.2.2.2.2.2.2.2.2.1
@[irreducible] noncomputable def text : List Nat := chars_until_P.2.2.2.2.2.2.2.2.2.2.2.1
@[irreducible] noncomputable def tt : Tok := chars_until_P.2.2.2.2.2.2.2.2.2.2.2.2.1
@[irreducible] noncomputable def dp : Nat := chars_until_P.2.2.2.2.2.2.2.2.2.2.2.2.2.1
@[irreducible] noncomputable def un : Nat := chars_until_P.2.2.2.2.2.2.2.2.2.2.2.2.2.2.1
@[irreducible] noncomputable def gd : Option (List Code) := chars_until_P.2.2.2.2.2.2.2.2.2.2.2.2.2.2.2.1
@[irreducible] noncomputable def cn : Str := chars_until_P.2.2.2.2.2.2.2.2.2.2.2.2.2.2.2.2.1
@[irreducible] noncomputable def cs : Scope := chars_until_P.2.2.2.2.2.2.2.2.2.2.2.2.2.2.2.2.2.1
@[irreducible] noncomputable def a : Addr := chars_until_P.2.2.2.2.2.2.2.2.2.2.2.2.2.2.2.2.2.2.1
@[irreducible] noncomputable def ccd : Value := chars_until_P.2.2.2.2.2.2.2.2.2.2.2.2.2.2.2.2.2.2.2.1
@[irreducible] noncomputable def cl : List (Str × Addr) := chars_until_P.2.2.2.2.2.2.2.2.2.2.2.2.2.2.2.2.2.2.2.2.1
@[irreducible] noncomputable def outer : List Env := chars_until_P.2.2.2.2.2.2.2.2.2.2.2.2.2.2.2.2.2.2.2.2.2.1
@[irreducible] noncomputable def A₀ : Around := chars_until_P.2.2.2.2.2.2.2.2.2.2.2.2.2.2.2.2.2.2.2.2.2.2.1
@[irreducible] noncomputable def base : Heap := chars_until_P.2.2.2.2.2.2.2.2.2.2.2.2.2.2.2.2.2.2.2.2.2.2.2.1
@[irreducible] noncomputable def h₀ : Heap := chars_until_P.2.2.2.2.2.2.2.2.2.2.2.2.2.2.2.2.2.2.2.2.2.2.2.2.1
@[irreducible] noncomputable def L : Addr := chars_until_P.2.2.2.2.2.2.2.2.2.2.2.2.2.2.2.2.2.2.2.2.2.2.2.2.2.1
@[irreducible] noncomputable def m : Str → Option Value := chars_until_P.2.2.2.2.2.2.2.2.2.2.2.2.2.2.2.2.2.2.2.2.2.2.2.2.2.2.1
@[irreducible] noncomputable def s : Shared := chars_until_P.2.2.2.2.2.2.2.2.2.2.2.2.2.2.2.2.2.2.2.2.2.2.2.2.2.2.2.1
@[irreducible] noncomputable def mean : ExcName → Option Value := chars_until_P.2.2.2.2.2.2.2.2.2.2.2.2.2.2.2.2.2.2.2.2.2.2.2.2.2.2.2.2.1
@[irreducible] noncomputable def mg : Str → Option Value := chars_until_P.2.2.2.2.2.2.2.2.2.2.2.2.2.2.2.2.2.2.2.2.2.2.2.2.2.2.2.2.2.1
@[irreducible] noncomputable def mb : Str → Option Value := chars_until_P.2.2.2.2.2.2.2.2.2.2.2.2.2.2.2.2.2.2.2.2.2.2.2.2.2.2.2.2.2.2.1
@[irreducible] noncomputable def Q : Value → Shared → Prop := chars_until_P.2.2.2.2.2.2.2.2.2.2.2.2.2.2.2.2.2.2.2.2.2.2.2.2.2.2.2.2.2.2.2.1
@[irreducible] noncomputable def E : Value → Shared → Prop := chars_until_P.2.2.2.2.2.2.2.2.2.2.2.2.2.2.2.2.2.2.2.2.2.2.2.2.2.2.2.2.2.2.2.2
theorem core : chars_until_S w tq st sd ds dd mth vnl vel k t text tt dp un gd cn cs a ccd cl outer A₀ base h₀ L m s mean mg mb Q E := by
  unfold chars_until_S
  w_on
  intro v seen rest q hG hI hq
  have hc := hG.ord
  have hI' := hI
  obtain ⟨hs, ho, hle, -, -, -⟩ := hI'
  obtain ⟨chunk, tc, size, ts, off, to, pl, tpl, pc, tpc, buf, place, tpa⟩ := v
  obtain ⟨q1, q2, q3, q4⟩ := hc
  have q12 := Nat.lt_trans q1 q2
  have q23 := Nat.lt_trans q2 q3
  have q34 := Nat.lt_trans q3 q4
  have q13 := Nat.lt_trans q12 q3
  have q24 := Nat.lt_trans q23 q4
  have q14 := Nat.lt_trans q13 q4
  dsimp only [Strm.led, Strm.sdO, Strm.ddO] at *
  (try dsimp only at hs ho hle)
  subst hs
  intro B F X N T hk hd hu hp hret
  refine' enter (binds := [(Str.ofString "self", .ref st), (Str.ofString "characters", .ref q), (Str.ofString "opposite", .bool false)]) B F X N T hk hret ?k6 ?k7 ?k8 ?k9 ?kB ?_ ?c5
  (case k6 => k_is)
  (case k7 => k_is)
  (case k8 => first | exact rm0 (by assumption) | lia)
  (case k9 => first | exact BindsTo.of_eq rfl | exact binds_K (by k_in) rfl (by k_is) rfl rfl rfl)
  (case c5 => decide)
  (case kB => exact rfl)
  clear hret N F T X B
  intro g' L' h' F' N' B' X' T' hlt
  refine flatD (Nat.add_pos_left hp _) ?_
  intro g₉ d₉ os₉ n₉ hp₉
  refine hideDone ?_
  intro R9 hR9
  (try dsimp only)
  (try k_fold)
  k_steps
  unfold Stop
  refine cpsZ (fun X => ∀ h' tk' D ve its nn σ acc rest', (@LT.lt Nat _ q D) → (Got ⟨st, sd, ds, dd, mth, vnl, vel, k, t, text, tt⟩ σ its seen rest acc rest') → (its.size ≤ 1005) → ((rest' = [] ∨ ∃ r2, rest' = 38 :: r2)) → (Fr g' L' h' ((fun y => if y = Str.ofString "end" then ve else if y = Str.ofString "rv" then some (Value.ref D) else List.lookup y [(Str.ofString "self", Value.ref st), (Str.ofString "characters", Value.ref q), (Str.ofString "opposite", Value.bool false)].reverse))) → (News g' L' h' ((D, listOf its nn) :: (q, tupOf #[.str (tx [38]) tq]) :: Strm.led ⟨st, sd, ds, dd, mth, vnl, vel, k, t, text, tt⟩ σ)) → X .next (⟨h', g₉, d₉, tk', os₉⟩)) ?_ ?_
  · intro X9 hX9 hN9
    refine whileX (fun kk m led => ∃ D ve its nn σ acc rest', m = (fun y => if y = Str.ofString "end" then ve else if y = Str.ofString "rv" then some (Value.ref D) else List.lookup y [(Str.ofString "self", Value.ref st), (Str.ofString "characters", Value.ref q), (Str.ofString "opposite", Value.bool false)].reverse) ∧ led = ((D, listOf its nn) :: (q, tupOf #[.str (tx [38]) tq]) :: Strm.led ⟨st, sd, ds, dd, mth, vnl, vel, k, t, text, tt⟩ σ) ∧ @LT.lt Nat _ q D ∧ Got ⟨st, sd, ds, dd, mth, vnl, vel, k, t, text, tt⟩ σ its seen rest acc rest' ∧ its.size + kk ≤ 1003 ∧ kk = (left ⟨st, sd, ds, dd, mth, vnl, vel, k, t, text, tt⟩ σ).length)
      (Fr.pad0 (Str.ofString "end") ‹Fr _ _ _ _›) ‹News _ _ _ _› ⟨_, _, _, _, ⟨_, _, _, _, _, _, _, _, _, _, _, _, _⟩, [], rest, rfl, rfl, by lia, ⟨(List.append_nil seen).symm ▸ hI, rfl, (fun h => nomatch h), Pile.nil⟩, by have := (inv_len hI hG.len).2; simp only [List.size_toArray, List.length_nil]; lia, rfl⟩ ?_ PassesOwn.never
    rintro Y9 hY9 n m₁ led₁ h₁ tk₁ ⟨D, ve, its, nn, ⟨chunk, tc, size, ts, off, to, pl, tpl, pc, tpc, buf, place, tpa⟩, acc, rest', rfl, rfl, hD, hGt, hfew, hn⟩ htk F₁ N₁
    dsimp only at htk
    have hpos : 0 < tk₁ := by lia
    have hI' := hGt.inv
    obtain ⟨hs, ho, hle, -, -, -⟩ := hI'
    dsimp only at hs ho hle
    subst hs
    dsimp only [Strm.led, Strm.sdO, Strm.ddO] at N₁
    have hlc := tx_length chunk
    k_steps
    unfold Stop
    have F₂ := Fr.twice ‹Fr _ _ _ _›
    have N₂ := ‹News _ _ _ _›
    refine cpsZ (fun X => ∀ h' tk' i ti, (off ≤ i) → (i ≤ chunk.length) → ((∀ j, off ≤ j → j < i → chunk[j]? ≠ some 38)) → ((i = chunk.length ∨ chunk[i]? = some 38)) → (Fr g' L' h' ((fun y => if y = Str.ofString "end" then (some (.int (i : Nat) ti)) else if y = Str.ofString "rv" then some (Value.ref D) else List.lookup y [(Str.ofString "self", Value.ref st), (Str.ofString "characters", Value.ref q), (Str.ofString "opposite", Value.bool false)].reverse))) → (News g' L' h' ((D, listOf its nn) :: (q, tupOf #[.str (tx [38]) tq]) :: Strm.led ⟨st, sd, ds, dd, mth, vnl, vel, k, t, text, tt⟩ ⟨chunk, tc, chunk.length, ts, off, to, pl, tpl, pc, tpc, buf, place, tpa⟩)) → X .next (⟨h', g₉, d₉, tk', os₉⟩)) ?_ ?_
    · intro X8 hX8 hN8
      refine whileX (fun kk m led => ∃ i ti, m = (fun y => if y = Str.ofString "end" then (some (.int (i : Nat) ti)) else if y = Str.ofString "rv" then some (Value.ref D) else List.lookup y [(Str.ofString "self", Value.ref st), (Str.ofString "characters", Value.ref q), (Str.ofString "opposite", Value.bool false)].reverse) ∧ led = ((D, listOf its nn) :: (q, tupOf #[.str (tx [38]) tq]) :: Strm.led ⟨st, sd, ds, dd, mth, vnl, vel, k, t, text, tt⟩ ⟨chunk, tc, chunk.length, ts, off, to, pl, tpl, pc, tpc, buf, place, tpa⟩) ∧ off ≤ i ∧ i ≤ chunk.length ∧ (∀ j, off ≤ j → j < i → chunk[j]? ≠ some 38) ∧ kk = chunk.length - i)
        F₂ N₂ ⟨off, to, rfl, rfl, Nat.le_refl _, ho, (fun j h1 h2 => absurd h2 (Nat.not_lt.mpr h1)), rfl⟩ ?_ PassesOwn.never
      clear N₂ F₂
      rintro Y8 hY8 k2 m₂ led₂ h₂ tk₂ ⟨i, ti, rfl, rfl, hi1, hi2, hi3, rfl⟩ htk2 F₂ N₂
      dsimp only at htk2
      have hpos2 : 0 < tk₂ := by lia
      dsimp only [Strm.led, Strm.sdO, Strm.ddO] at N₂
      k_steps
      · have f38 := any38t (chunk := chunk) (i := i) (by lia) (by assumption)
        refine ⟨_, _, _, _, _, ?lt, rfl, Fr.twice ‹Fr _ _ _ _›, ‹News _ _ _ _›, hY8 _ _ _ ⟨i + 1, _, rfl, rfl, by lia, by lia, ?_, rfl⟩⟩
        case lt => lia
        intro j h1 h2
        by_cases hj : j = i
        · subst hj; exact f38
        · exact hi3 j h1 (by lia)
      · have f38 := any38f (chunk := chunk) (i := i) (by lia) (by assumption)
        exact hX8 _ _ i ti hi1 hi2 hi3 (.inr f38) (‹Fr _ _ _ _›) (‹News _ _ _ _›)
      · exact hX8 _ _ i ti hi1 hi2 hi3 (.inl (by lia)) (‹Fr _ _ _ _›) (‹News _ _ _ _›)
    · rintro h' tk' i ti hi1 hi2 hi3 hi4 F3 N3 hp9
      dsimp only at hp9
      dsimp only [Strm.led, Strm.sdO, Strm.ddO] at N3
      clear N₂ F₂
      k_steps
      unfold Stop
      refine cpsZ (fun X => ∀ h' tk', (i = chunk.length) → (Fr g' L' h' ((fun y => if y = Str.ofString "end" then (some (.int (i : Nat) ti)) else if y = Str.ofString "rv" then some (Value.ref D) else List.lookup y [(Str.ofString "self", Value.ref st), (Str.ofString "characters", Value.ref q), (Str.ofString "opposite", Value.bool false)].reverse))) → (News g' L' h' ((D, listOf its nn) :: (q, tupOf #[.str (tx [38]) tq]) :: Strm.led ⟨st, sd, ds, dd, mth, vnl, vel, k, t, text, tt⟩ ⟨chunk, tc, chunk.length, ts, off, to, pl, tpl, pc, tpc, buf, place, tpa⟩)) → X .next (⟨h', g₉, d₉, tk', os₉⟩)) ?_ ?_
      · intro X7 hX7 hN7
        refine wpAny_If ?_
        k_steps
        · unfold Stop
          refine wpAny_If ?_
          k_steps
          · refine hN7 _ _ (fun e => nomatch e) (hX9 _ _ D _ its nn _ acc rest' hD hGt (by lia) (.inr (inv_head hGt.inv ?_)) (‹Fr _ _ _ _›) (‹News _ _ _ _›))
            show chunk[off]? = some 38
            rcases hi4 with h | h
            · lia
            · rw [show off = i by lia]; exact h
          · exact hX7 _ _ (by lia) (‹Fr _ _ _ _›) (‹News _ _ _ _›)
        · unfold Stop
          refine wpAny_If ?_
          k_steps
          · have N₅ := ‹News _ _ _ _›
            rw [slice_nat] at N₅
            have hi6 : chunk[i]? = some 38 := by
              rcases hi4 with h | h
              · lia
              · exact h
            obtain ⟨rest'', e1, e2⟩ := got_go hGt hi1 hi2 hi3
            dsimp only at e1 e2
            refine hN7 _ _ (fun e => nomatch e) (hX9 _ _ D _ _ _ (⟨_, _, _, _, i, _, _, _, _, _, _, _, _⟩) _ _ hD (e2 _ _) ?_ (.inr (inv_head (e2 0 0).inv hi6)) (‹Fr _ _ _ _›) N₅)
            rw [Array.size_push]
            lia
          · exact hX7 _ _ (by lia) (‹Fr _ _ _ _›) (‹News _ _ _ _›)
      · rintro h' tk' hi5 F3 N3 hp9
        dsimp only at hp9
        dsimp only [Strm.led, Strm.sdO, Strm.ddO] at N3
        k_steps
        unfold Stop
        refine wpAny_If ?_
        k_steps
        unfold Stop
        have N₂ := ‹News _ _ _ _›
        rw [slice_from] at N₂
        refine Ctr.use (read_abs w ⟨st, sd, ds, dd, mth, vnl, vel, k, t, text, tt⟩ ⟨_, _, _, _, _, _, _, _, _, _, _, _, _⟩ (seen ++ acc) rest' 10240 0 _ _ (.inr ⟨rfl, rfl, rfl⟩) hG hGt.inv (by decide) (by decide)) rfl B' ‹Fr _ _ _ _› X' (News.tl (News.tl N₂)) T' rfl (by dsimp only [ktrTop]; first | exact rm1 (by assumption) (by decide) | lia) (by dsimp only [ktrTop]; first | exact rm2 (by assumption) (by decide) | lia) (by first | assumption | exact Nat.succ_pos _ | lia | (dsimp only; lia)) ?_
        rintro v foot' h2 tk2 ⟨⟨chunk', tc, size', ts, off', to, pl', tpl, pc', tpc, buf', place', tpa⟩, rfl, hv⟩ F2 N2 K2
        have N3 := News.onto [_, _] N₂ K2 N2 (List.forall_mem_cons.mpr ⟨Strm.above ⟨st, sd, ds, dd, mth, vnl, vel, k, t, text, tt⟩ ⟨_, _, _, _, _, _, _, _, _, _, _, _, _⟩ hG.ord (by first | lia | (dsimp only; lia)), List.forall_mem_cons.mpr ⟨Strm.above ⟨st, sd, ds, dd, mth, vnl, vel, k, t, text, tt⟩ ⟨_, _, _, _, _, _, _, _, _, _, _, _, _⟩ hG.ord (by first | lia | (dsimp only; lia)), List.forall_mem_nil _⟩⟩)
        clear N₂ N2
        dsimp only [Strm.led, Strm.sdO, Strm.ddO, List.cons_append, List.nil_append] at N3
        subst hi5
        rcases hv with ⟨rfl, e1, hI2⟩ | ⟨rfl, rfl, e2, e3, rest'', e4, hI2⟩
        · k_steps
          refine hX9 _ _ D _ _ _ ⟨_, _, _, _, _, _, _, _, _, _, _, _, _⟩ _ ([]) hD (got_next hGt hi3 hI2 (by rw [e1, List.append_nil]) _) ?_ (.inl rfl) (‹Fr _ _ _ _›) (‹News _ _ _ _›)
          rw [Array.size_push]
          lia
        · k_steps
          refine ⟨_, _, _, _, _, ?lt, rfl, ‹Fr _ _ _ _›, ‹News _ _ _ _›, hY9 _ _ _ ⟨D, _, _, _, ⟨_, _, _, _, _, _, _, _, _, _, _, _, _⟩, _, rest'', rfl, rfl, hD, got_next hGt hi3 hI2 e4 _, ?_, rfl⟩⟩
          case lt => rw [hn]; exact e3
          rw [Array.size_push]
          have e5 := e3
          rw [← hn] at e5
          lia
  · rintro h' tk' D ve its nn ⟨chunk, tc, size, ts, off, to, pl, tpl, pc, tpc, buf, place, tpa⟩ acc rest' hD hGt hfew hor F3 N3 hp9
    dsimp only at hp9
    dsimp only [Strm.led, Strm.sdO, Strm.ddO] at N3
    k_steps
    unfold Stop
    obtain ⟨ys, y1, y2, y3, y4⟩ := hGt.pile.ex
    have hlr := (inv_len hI hG.len).1
    rw [hGt.split, List.length_append] at hlr
    refine join_listW (D := D) (items := its) ⟨_, (‹News _ _ _ _› _ (.head _)).1, rfl, _, rfl⟩ y1 (by decide) (by lia) ?_
    intro t' k2
    rw [lit_nil, join0, y2]
    k_steps
    have N₅ := News.tl (News.tl ‹News _ _ _ _›)
    exact hR9 _ _ ⟨_, _, _, _, _, rfl, ‹Fr _ _ _ _›, N₅, ⟨_, _, _, _, _, _, _, _, _, _, _, _, _⟩, acc, rest', _, rfl, rfl, hGt.split, hGt.no, hor, hGt.inv⟩
end chars_until_V
theorem chars_until_all (w : World) (tq : Tok) (st : Nat) (sd : Nat) (ds : Nat) (dd : Nat) (mth : Nat) (vnl : Value) (vel : Value) (k : Nat → Int) (t : Nat → Tok) (text : List Nat) (tt : Tok) (dp : Nat) (un : Nat) (gd : Option (List Code)) (cn : Str) (cs : Scope) (a : Addr) (ccd : Value) (cl : List (Str × Addr)) (outer : List Env) (A₀ : Around) (base : Heap) (h₀ : Heap) (L : Addr) (m : Str → Option Value) (s : Shared) (mean : ExcName → Option Value) (mg : Str → Option Value) (mb : Str → Option Value) (Q : Value → Shared → Prop) (E : Value → Shared → Prop) : chars_until_S w tq st sd ds dd mth vnl vel k t text tt dp un gd cn cs a ccd cl outer A₀ base h₀ L m s mean mg mb Q E := of_pick (S := chars_until_F) (show chars_until_F chars_until_P by with_unfolding_all exact chars_until_V.core) (w, tq, st, sd, ds, dd, mth, vnl, vel, k, t, text, tt, dp, un, gd, cn, cs, a, ccd, cl, outer, A₀, base, h₀, L, m, s, mean, mg, mb, Q, E)
theorem chars_until (w : World) (c : Strm) (v : SV) (seen rest : List Nat) (q : Nat) (tq : Tok) (hG : Good c) (hI : Inv c v seen rest) (hq : c.ds < q) : Ctr w 156 [.ref c.st, .ref q] 14 ((q, tupOf #[.str (tx [38]) tq]) :: c.led v) (untilPost c seen rest) :=
  fun dp un gd cn cs a ccd cl outer A₀ base h₀ L m s mean mg mb Q E => chars_until_all w tq c.st c.sd c.ds c.dd c.mth c.vnl c.vel c.k c.t c.text c.tt dp un gd cn cs a ccd cl outer A₀ base h₀ L m s mean mg mb Q E v seen rest q hG hI hq
end
section

local macro_rules | `(tactic| walk_at "subscriptTail Name Name ref int") => `(tactic| (k_here; refine stop ?_))
/-- j is the place of l among the names -/
noncomputable def Place (l : List Nat) (j : Nat) : Prop := j ≤ 43 ∧ (∀ i q, i < j → entL[i]? = some q → q.1 < l) ∧ (∀ i q, j ≤ i → entL[i]? = some q → ¬ q.1 < l)
theorem bisect_spec (w : World) (l : List Nat) (tl t0 t1 : Tok) (a0 b0 : Nat) (ha : a0 = 0) (hb : b0 = 43) :
    Ctr w 178 [.ref 243, .str (tx l) tl, .int (a0 : Nat) t0, .int (b0 : Nat) t1] 3 [] (fun r led => ∃ j t, r = .int (j : Nat) t ∧ led = [] ∧ Place l j) := by
  w_on
  intro dp un gd cn cs a ccd cl outer A₀ base h₀ L m s mean mg mb Q E B F X N T hk hd hu hp hret
  refine' enter (binds := [(Str.ofString "rows", .ref 243), (Str.ofString "key", .str (tx l) tl), (Str.ofString "low", .int (a0 : Nat) t0), (Str.ofString "high", .int (b0 : Nat) t1)]) B F X N T hk hret ?k6 ?k7 ?k8 ?k9 ?kB ?_ ?c5
  (case k6 => k_is)
  (case k7 => k_is)
  (case k8 => first | exact rm0 (by assumption) | lia)
  (case k9 => first | exact BindsTo.of_eq rfl | exact binds_K (by k_in) rfl (by k_is) rfl rfl rfl)
  (case c5 => decide)
  (case kB => exact rfl)
  clear hret N F T X B
  intro g' L' h' F' N' B' X' T' hlt
  refine flatD (Nat.add_pos_left hp _) ?_
  intro g₉ d₉ os₉ n₉ hp₉
  refine hideDone ?_
  intro R9 hR9
  (try dsimp only)
  (try k_fold)
  k_steps
  unfold Stop
  have F₂ := Fr.like ‹Fr _ _ _ _› (m' := (fun y => if y = Str.ofString "middle" then none else if y = Str.ofString "high" then some (Value.int (b0 : Nat) t1) else if y = Str.ofString "low" then some (Value.int (a0 : Nat) t0) else List.lookup y [(Str.ofString "rows", Value.ref 243), (Str.ofString "key", Value.str (tx l) tl), (Str.ofString "low", Value.int (a0 : Nat) t0), (Str.ofString "high", Value.int (b0 : Nat) t1)].reverse)) (fun u => by
    by_cases e1 : u = Str.ofString "middle"
    · subst e1; rfl
    by_cases e2 : u = Str.ofString "high"
    · subst e2; rfl
    by_cases e3 : u = Str.ofString "low"
    · subst e3; rfl
    · simp only [if_neg e1, if_neg e2, if_neg e3])
  refine' whileJ (fun kk m led => ∃ (lo hi : Nat) (tlo thi : Tok) (vm : Option Value), m = (fun y => if y = Str.ofString "middle" then vm else if y = Str.ofString "high" then some (Value.int (hi : Nat) thi) else if y = Str.ofString "low" then some (Value.int (lo : Nat) tlo) else List.lookup y [(Str.ofString "rows", Value.ref 243), (Str.ofString "key", Value.str (tx l) tl), (Str.ofString "low", Value.int (a0 : Nat) t0), (Str.ofString "high", Value.int (b0 : Nat) t1)].reverse) ∧ led = [] ∧ lo ≤ hi ∧ hi ≤ 43 ∧ (∀ i q, i < lo → entL[i]? = some q → q.1 < l) ∧ (∀ i q, hi ≤ i → entL[i]? = some q → ¬ q.1 < l) ∧ kk = hi - lo)
    (n₀ := b0 - a0) ?aF ?aN ?aJ ?aT ?aE
  (case aF => exact F₂)
  (case aN => exact News.nil)
  (case aE => exact PassesOwn.never)
  (case aJ => exact ⟨a0, b0, t0, t1, none, rfl, rfl, by lia, by lia, fun i q h => by lia, fun i q h hq => by (have := (List.getElem?_eq_some_iff.mp hq).1; rw [entL_len] at this; lia), rfl⟩)
  rintro n m₁ led₁ h₁ tk₁ ⟨lo, hi, tlo, thi, vm, rfl, rfl, h1, h2, h3, h4, rfl⟩ htk F₁ N₁
  dsimp only at htk
  have hpos : 0 < tk₁ := by lia
  k_steps
  · obtain ⟨p, hp⟩ := ent_at (i := (lo + hi) / 2) (by lia)
    simp only [mid_eq] at *
    unfold Stop
    refine topList_K ‹Fr _ _ _ _› X' (keys_obj _) (by lia) (by lia) (key_at hp) ?_
    k_steps
    · have hlt : p.1 < l := ‹_›
      have F₃ := Fr.like ‹Fr _ _ _ _› (m' := (fun y => if y = Str.ofString "middle" then _ else if y = Str.ofString "high" then some (Value.int (hi : Nat) thi) else if y = Str.ofString "low" then some (Value.int (((lo + hi) / 2 + 1) : Nat) _) else List.lookup y [(Str.ofString "rows", Value.ref 243), (Str.ofString "key", Value.str (tx l) tl), (Str.ofString "low", Value.int (a0 : Nat) t0), (Str.ofString "high", Value.int (b0 : Nat) t1)].reverse)) (fun u => by
        by_cases e1 : u = Str.ofString "middle"
        · subst e1; rfl
        by_cases e2 : u = Str.ofString "high"
        · subst e2; rfl
        by_cases e3 : u = Str.ofString "low"
        · subst e3; rfl
        · simp only [if_neg e1, if_neg e2, if_neg e3])
      refine ⟨_, _, _, _, _, ?lt, rfl, F₃, News.nil, (lo + hi) / 2 + 1, hi, _, _, _, rfl, rfl, by lia, by lia, low_step hp hlt, h4, rfl⟩
      case lt => lia
    · have hlt : ¬ p.1 < l := ‹_›
      have F₃ := Fr.like ‹Fr _ _ _ _› (m' := (fun y => if y = Str.ofString "middle" then _ else if y = Str.ofString "high" then some (Value.int (((lo + hi) / 2) : Nat) _) else if y = Str.ofString "low" then some (Value.int (lo : Nat) tlo) else List.lookup y [(Str.ofString "rows", Value.ref 243), (Str.ofString "key", Value.str (tx l) tl), (Str.ofString "low", Value.int (a0 : Nat) t0), (Str.ofString "high", Value.int (b0 : Nat) t1)].reverse)) (fun u => by
        by_cases e1 : u = Str.ofString "middle"
        · subst e1; rfl
        by_cases e2 : u = Str.ofString "high"
        · subst e2; rfl
        by_cases e3 : u = Str.ofString "low"
        · subst e3; rfl
        · simp only [if_neg e1, if_neg e2, if_neg e3])
      refine ⟨_, _, _, _, _, ?lt, rfl, F₃, News.nil, lo, (lo + hi) / 2, _, _, _, rfl, rfl, by lia, by lia, h3, high_step hp hlt, rfl⟩
      case lt => lia
  · have e : lo = hi := by lia
    subst e
    exact hR9 _ _ ⟨_, _, _, _, _, rfl, ‹Fr _ _ _ _›, News.nil, lo, _, rfl, rfl, h2, h3, h4⟩
end
section
local macro_rules | `(tactic| walk_at "compareOp In str ref") => `(tactic| (k_here; refine topIn_K (a := 43) (by k_asm) (by k_asm) (ent_obj _) (ent_lit _) (ent_find _ _) (by decide) ?_))
local macro_rules | `(tactic| walk_at "exec If") => `(tactic| (k_here; refine stop ?_))
theorem has_spec (w : World) (l : List Nat) (tl : Tok) (hl : l.length ≤ 3000) :
    Ctr w 220 [.ref 236, .str (tx l) tl] 6 [] (fun r led => r = .bool (hasPre l) ∧ led = []) := by
  w_on
  have hll := tx_length l
  intro dp un gd cn cs a ccd cl outer A₀ base h₀ L m s mean mg mb Q E B F X N T hk hd hu hp hret
  refine' enter (binds := [(Str.ofString "self", .ref 236), (Str.ofString "prefix", .str (tx l) tl)]) B F X N T hk hret ?k6 ?k7 ?k8 ?k9 ?kB ?_ ?c5
  (case k6 => k_is)
  (case k7 => k_is)
  (case k8 => first | exact rm0 (by assumption) | lia)
  (case k9 => first | exact BindsTo.of_eq rfl | exact binds_K (by k_in) rfl (by k_is) rfl rfl rfl)
  (case c5 => decide)
  (case kB => exact rfl)
  clear hret N F T X B
  intro g' L' h' F' N' B' X' T' hlt
  refine flatD (Nat.add_pos_left hp _) ?_
  intro g₉ d₉ os₉ n₉ hp₉
  refine hideDone ?_
  intro R9 hR9
  (try dsimp only)
  (try k_fold)
  k_steps
  unfold Stop
  refine wpAny_If ?_
  k_steps
  refine topIn_K (a := 43) ‹Fr _ _ _ _› X' (ent_obj _) (ent_lit _) (ent_find _ _) (by decide) ?_
  k_steps
  · refine hR9 _ _ ⟨_, _, _, _, _, rfl, ‹Fr _ _ _ _›, News.nil, ?_, rfl⟩
    rw [has_name ‹_›]
  · unfold Stop
    refine wpAny_If ?_
    k_steps
    · change wpAny _ _ (assign _ _ (Value.ref 246)) _ _ _
      k_steps
      unfold Stop
      refine Ctr.use (bisect_spec w l _ _ _ 0 43 rfl rfl) rfl B' ‹Fr _ _ _ _› X' News.nil T' rfl (by dsimp only [ktrTop]; first | exact rm1 (by assumption) (by decide) | lia) (by dsimp only [ktrTop]; first | exact rm2 (by assumption) (by decide) | lia) (by first | assumption | exact Nat.succ_pos _ | lia | (dsimp only; lia)) ?_
      rintro v foot' h2 tk2 ⟨j, tj, rfl, rfl, hj, hlo, hhi⟩ F2 N2 -
      k_steps
      unfold Stop
      refine wpAny_If ?_
      k_steps
      have F₂ := ‹Fr _ _ _ _›
      refine call_len_list (l := 243) (lstK (X'.keeps F₂.keep) (keys_obj _)) (by rw [keys_size]; decide) ?_
      rw [keys_size]
      clear F₂
      k_steps
      · have e : j = 43 := by lia
        subst e
        refine hR9 _ _ ⟨_, _, _, _, _, rfl, ‹Fr _ _ _ _›, News.nil, ?_, rfl⟩
        rw [has_end hlo]
      · obtain ⟨p, hp⟩ := ent_at (i := j) (by lia)
        refine topList_K (a := 243) ‹Fr _ _ _ _› X' (keys_obj _) (by lia) (by lia) (key_at hp) ?_
        k_steps
        refine hR9 _ _ ⟨_, _, _, _, _, rfl, ‹Fr _ _ _ _›, News.nil, ?_, rfl⟩
        rw [sw_tx, has_at hlo hhi hp]
    · rw [sw_nil] at *
      contradiction
end
section
local macro_rules | `(tactic| walk_at "none 0") => `(tactic| fail)
theorem contains_spec (w : World) (l : List Nat) (tl : Tok) : Ctr w 199 [.ref 236, .str (tx l) tl] 2 [] (fun r led => r = .bool (entV l).isSome ∧ led = []) := by
  w_on
  intro dp un gd cn cs a ccd cl outer A₀ base h₀ L m s mean mg mb Q E B F X N T hk hd hu hp hret
  refine' enter (binds := [(Str.ofString "self", .ref 236), (Str.ofString "key", .str (tx l) tl)]) B F X N T hk hret ?k6 ?k7 ?k8 ?k9 ?kB ?_ ?c5
  (case k6 => k_is)
  (case k7 => k_is)
  (case k8 => first | exact rm0 (by assumption) | lia)
  (case k9 => first | exact BindsTo.of_eq rfl | exact binds_K (by k_in) rfl (by k_is) rfl rfl rfl)
  (case c5 => decide)
  (case kB => exact rfl)
  clear hret N F T X B
  intro g' L' h' F' N' B' X' T' hlt
  refine flatD (Nat.add_pos_left hp _) ?_
  intro g₉ d₉ os₉ n₉ hp₉
  (try dsimp only)
  (try k_fold)
  k_steps
  refine topIn_K (a := 43) ‹Fr _ _ _ _› X' (ent_obj _) (ent_lit _) (ent_find _ _) (by decide) ?_
  k_steps
  exact ⟨_, _, _, _, _, rfl, ‹Fr _ _ _ _›, News.nil, rfl, rfl⟩
theorem noExc {α : Type} {M : Model} {A : Around} {t : Sem α} {Q : α → Shared → Prop} {E : Value → Shared → Prop} {s : Shared} (h : wpAny M A t Q (fun _ _ => False) s) : wpAny M A t Q E s := wpAny_mono h (fun _ _ h => h) fun _ _ h => h.elim
local macro_rules | `(tactic| walk_at "subscriptTail Name Slice str ref") => `(tactic| walk_at "slice")
local macro_rules | `(tactic| walk_at "exec If") => `(tactic| (k_here; refine stop ?_))
theorem longest_spec (w : World) (l : List Nat) (tl : Tok) (hl : l.length ≤ 3000) : CtrX w 227 [.ref 236, .str (tx l) tl] 6 (fun r => ∃ b t, r = .str (tx b) t ∧ bestPre l = some b) (bestPre l = none) := by
  w_on
  have hll := tx_length l
  intro dp un gd cn cs a ccd cl outer A₀ base h₀ L m s mean mg mb news R B F X N T hk hd hu hp ret err
  refine' enterX (binds := [(Str.ofString "self", .ref 236), (Str.ofString "prefix", .str (tx l) tl)]) B F X N T hk ret err ?k6 ?k7 ?k8 ?k9 ?kB ?_ ?c5
  (case k6 => k_is)
  (case k7 => k_is)
  (case k8 => first | exact rm0 (by assumption) | lia)
  (case k9 => first | exact BindsTo.of_eq rfl | exact binds_K (by k_in) rfl (by k_is) rfl rfl rfl)
  (case c5 => decide)
  (case kB => exact rfl)
  clear ret err N F T X B
  intro g' L' h' F' N' B' X' T'
  refine flatX (Nat.add_pos_left hp _) ?_
  intro g₉ d₉ os₉ n₉ hp₉
  (try dsimp only)
  (try k_fold)
  k_steps
  unfold Stop
  refine wpAny_If ?_
  k_steps
  unfold Stop
  refine Ctr.use (contains_spec w l _) rfl B' ‹Fr _ _ _ _› X' News.nil T' rfl (by dsimp only [ktrTop]; first | exact rm1 (by assumption) (by decide) | lia) (by dsimp only [ktrTop]; first | exact rm2 (by assumption) (by decide) | lia) (by first | assumption | exact Nat.succ_pos _ | lia | (dsimp only; lia)) ?_
  rintro v foot' h2 tk2 ⟨rfl, rfl⟩ F2 N2 -
  k_steps
  · have hb := best_hit (l := l) (k := l.length) (by rw [List.take_length]; assumption)
    rw [List.take_length] at hb
    exact ⟨_, _, _, _, _, rfl, ‹Fr _ _ _ _›, News.nil, ⟨l, _, rfl, hb⟩, rfl⟩
  · have hb := best_step (l := l) (k := l.length) (by rw [List.take_length]; assumption)
    unfold Stop
    refine noExc ?_
    refine wpAny_For ?_
    refine wpAny_toks (n := 1) (by first | assumption | lia) ?_
    k_steps
    refine for_range (n := l.length) (led₀ := []) (fun i m led => Sets (Str.ofString "i") _ m ∧ led = [] ∧ bestPre l = bestAt l (l.length - 1 - i)) rfl (fun _ _ => rfl) ‹IsRange _ _ _ _ _ _ _ _› (small_one (by lia) (by lia) (by lia) (by lia)) (by rw [rangeSize_one]; split <;> lia) ‹Fr _ _ _ _› ‹News _ _ _ _› ⟨Sets.self _ _, rfl, hb⟩ ?_ ?_ ?_
    · rintro i u m₁ led₁ h tk I oI hi ⟨⟨vi, rfl⟩, rfl, hbi⟩ hne hI htk F₁ N₁
      have hpos : 0 < tk := by first | lia | (dsimp only at htk; lia)
      have e : (1 : Int) + (i : Nat) * 1 = ((i + 1 : Nat) : Int) := by lia
      rw [e]
      k_steps
      unfold Stop
      refine wpAny_If ?_
      k_steps
      rw [slice_but l (i + 1) (by lia) (by lia)]
      unfold Stop
      refine Ctr.use (contains_spec w _ _) rfl B' ‹Fr _ _ _ _› X' News.nil T' rfl (by dsimp only [ktrTop]; first | exact rm1 (by assumption) (by decide) | lia) (by dsimp only [ktrTop]; first | exact rm2 (by assumption) (by decide) | lia) (by first | assumption | exact Nat.succ_pos _ | lia | (dsimp only; lia)) ?_
      rintro v foot' h2 tk2 ⟨rfl, rfl⟩ F2 N2 K2
      have N3 := News.keep0 ‹News _ _ _ [_]› K2
      k_steps
      · have hb2 := best_hit (l := l) (k := l.length - (i + 1)) (by assumption)
        refine ⟨_, _, _, _, _, rfl, ‹Fr _ _ _ _›, News.nil, ⟨l.take (l.length - (i + 1)), _, congrArg (fun q => Value.str q _) (slice_but l (i + 1) (by lia) (by lia)), ?_⟩, rfl⟩
        rw [hbi, show l.length - 1 - i = l.length - (i + 1) by lia]
        exact hb2
      · have hb3 := best_step (l := l) (k := l.length - (i + 1)) (by assumption)
        refine ⟨_, _, _, [], rfl, ‹Fr _ _ _ _›, ‹News _ _ _ [_]›, (fun _ h => nomatch h), Sets.put ⟨_, rfl⟩, rfl, ?_⟩
        rw [hbi, show l.length - 1 - i = l.length - (i + 1) by lia, hb3]
        exact congrArg (bestAt l) (by lia)
    · rintro m₁ led₁ h tk ⟨⟨vi, rfl⟩, rfl, hbi⟩ F₁ N₁
      k_steps
      exact ⟨by rw [hbi, show l.length - 1 - l.length = 0 by lia]; rfl, _, _, _, rfl, ⟨_, _, rfl⟩, ‹Fr _ _ _ _›, ‹Heap.NewExc _ _ _ _›⟩
    · exact PassesOwn.never
end
section
structure Rdr where
  rd : Nat
  rdd : Nat
  tq : Nat
  cd : Nat
  dl : Nat
  pl : Nat
  k : Nat → Int
  t : Nat → Tok
  vlf : Value
  vst : Value
  vk : Value
  oc : Obj
  nd : Nat
  np : Nat
noncomputable def dRdr : Rdr := ⟨0, 0, 0, 0, 0, 0, fun _ => 0, fun _ => 0, .none, .none, .none, listOf #[] 0, 0, 0⟩
noncomputable abbrev Rdr.rddO (r : Rdr) (c : Strm) : Obj :=
  dictOf [⟨r.k 0, .str "stream" (r.t 0), .ref c.st⟩, ⟨r.k 1, .str "parser" (r.t 1), .none⟩, ⟨r.k 2, .str "escapeFlag" (r.t 2), .bool false⟩, ⟨r.k 3, .str "lastFourChars" (r.t 3), r.vlf⟩,
      ⟨r.k 4, .str "state" (r.t 4), r.vst⟩, ⟨r.k 5, .str "escape" (r.t 5), .bool false⟩, ⟨r.k 6, .str "currentToken" (r.t 6), .ref r.cd⟩, ⟨r.k 7, .str "tokenQueue" (r.t 7), .ref r.tq⟩] 8
noncomputable def Rdr.own (r : Rdr) (c : Strm) (its : Array Value) (nn : Nat) (val : List Nat) (tv : Tok) : List (Addr × Obj) :=
  [(r.rd, instObj 762 r.rdd), (r.rdd, r.rddO c), (r.tq, listOf its nn), (r.cd, r.oc), (r.dl, listOf #[.ref r.pl] r.nd), (r.pl, listOf #[r.vk, .str (tx val) tv] r.np)]
noncomputable def Rdr.led (r : Rdr) (c : Strm) (its : Array Value) (nn : Nat) (val : List Nat) (tv : Tok) (v : SV) : List (Addr × Obj) := r.own c its nn val tv ++ c.led v
noncomputable def Rdr.Ord (r : Rdr) (c : Strm) : Prop := c.Ord ∧ r.rdd < r.rd ∧ r.rd < c.sd ∧ c.ds < r.tq ∧ r.tq < r.cd ∧ r.cd < r.pl ∧ r.pl < r.dl
noncomputable def Rdr.Cur (w : World) (r : Rdr) : Prop := ∃ v1 v2 v3, r.oc.IsDictOf (PySem.strKind pw_te0025_01 w) [(Str.ofString "type", v1), (Str.ofString "name", v2), (Str.ofString "data", .ref r.dl), (Str.ofString "selfClosing", v3)]
theorem Rdr.apart {r : Rdr} {c : Strm} (h : r.Ord c) (its : Array Value) (nn : Nat) (val : List Nat) (tv : Tok) (v : SV) : ∀ p ∈ r.own c its nn val tv, p.1 ∉ (c.led v).map (·.1) := by
  obtain ⟨⟨h1, h2, h3, h4⟩, g1, g2, g3, g4, g5, g6⟩ := h
  intro p hp hm
  have low : @LE.le Nat _ c.sd p.1 ∧ @LE.le Nat _ p.1 c.ds := by
    simp only [Strm.led, List.map_cons, List.map_nil, List.mem_cons, List.not_mem_nil, or_false] at hm
    have a2 := Nat.le_of_lt (Nat.lt_trans h1 h2)
    have a3 := Nat.le_trans a2 (Nat.le_of_lt h3)
    have b3 := Nat.le_of_lt (Nat.lt_trans h3 h4)
    have b2 := Nat.le_trans (Nat.le_of_lt h2) b3
    rcases hm with e | e | e | e | e <;> rw [e]
    · exact ⟨Nat.le_of_lt h1, b2⟩
    · exact ⟨Nat.le_refl _, Nat.le_trans (Nat.le_of_lt h1) b2⟩
    · exact ⟨Nat.le_trans a3 (Nat.le_of_lt h4), Nat.le_refl _⟩
    · exact ⟨a3, Nat.le_of_lt h4⟩
    · exact ⟨a2, b3⟩
  obtain ⟨l1, l2⟩ := low
  simp only [Rdr.own, List.mem_cons, List.not_mem_nil, or_false] at hp
  have k1 := Nat.lt_trans g3 g4
  have k2 := Nat.lt_trans k1 g5
  rcases hp with rfl | rfl | rfl | rfl | rfl | rfl
  · exact Nat.lt_irrefl _ (Nat.lt_of_lt_of_le g2 l1)
  · exact Nat.lt_irrefl _ (Nat.lt_of_lt_of_le (Nat.lt_trans g1 g2) l1)
  · exact Nat.lt_irrefl _ (Nat.lt_of_lt_of_le g3 l2)
  · exact Nat.lt_irrefl _ (Nat.lt_of_lt_of_le k1 l2)
  · exact Nat.lt_irrefl _ (Nat.lt_of_lt_of_le (Nat.lt_trans k2 g6) l2)
  · exact Nat.lt_irrefl _ (Nat.lt_of_lt_of_le k2 l2)
theorem News.strm {h₀ h : Heap} {L : Addr} {pre : List (Addr × Obj)} {r : Rdr} {c : Strm} {its : Array Value} {nn : Nat} {val : List Nat} {tv : Tok} {v : SV} (N : News h₀ L h (pre ++ r.led c its nn val tv v)) : News h₀ L h (c.led v) :=
  fun p hp => N p (List.mem_append_right _ (List.mem_append_right _ hp))
theorem News.stream {h₀ h h' : Heap} {L : Addr} {pre : List (Addr × Obj)} {r : Rdr} {c : Strm} {its : Array Value} {nn : Nat} {val : List Nat} {tv : Tok} {v v' : SV} (hO : r.Ord c) (hpre : ∀ p ∈ pre, @LT.lt Nat _ r.dl p.1)
    (N : News h₀ L h (pre ++ r.led c its nn val tv v)) (K : Keep h h' ((c.led v).map (·.1))) (N' : News h₀ L h' (c.led v')) : News h₀ L h' (pre ++ r.led c its nn val tv v') := by
  have N2 : News h₀ L h ((pre ++ r.own c its nn val tv) ++ c.led v) := by rw [List.append_assoc]; exact N
  have := News.onto _ N2 K N' (fun p hp => by
    rcases List.mem_append.mp hp with hp | hp
    · refine Strm.above c v hO.1 ?_
      have := hpre p hp
      obtain ⟨_, g1, g2, g3, g4, g5, g6⟩ := hO
      lia
    · exact Rdr.apart hO _ _ _ _ _ p hp)
  rw [List.append_assoc] at this
  exact this
/-- token dicts, the items that point at them, what they say -/
noncomputable def Tks (w : World) : List (Addr × Obj) → List Value → List (Int × Str) → Prop
  | [], [], [] => True
  | (q, o) :: ex, v :: vs, (n, d) :: ts => v = .ref q ∧ (∃ t1 t2, o.IsDictOf (PySem.strKind pw_te0025_01 w) [(Str.ofString "type", .int n t1), (Str.ofString "data", .str d t2)]) ∧ Tks w ex vs ts
  | _, _, _ => False
/-- pre and what comes after it have been read of rest -/
noncomputable def CharAt (c : Strm) (v : SV) (seen rest pre : List Nat) : Option Nat → Prop
  | none => rest = pre ∧ Inv c v (seen ++ pre) []
  | some x => ∃ r, rest = pre ++ x :: r ∧ 0 < v.off ∧ Inv c v (seen ++ pre ++ [x]) r
theorem test_cut {α : Type} {M : Model} {A : Around} {E : Value → Shared → Prop} {s : Shared} {t : Sem α} {Q : α → Shared → Prop} (mid : α → Shared → Prop) (h1 : wpAny M A t mid E s) (h2 : ∀ b s', mid b s' → Q b s') : wpAny M A t Q E s :=
  wpAny_mono h1 h2 fun _ _ h => h
theorem char_at {c : Strm} {seen rest : List Nat} {z : Value} {led : List (Addr × Obj)} (h : charPost c seen rest z led) : ∃ v' last, led = c.led v' ∧ Ch last z ∧ CharAt c v' seen rest [] last := by
  obtain ⟨v', rfl, h⟩ := h
  rcases h with ⟨h1, rfl, h2⟩ | ⟨x, r', t', rfl, rfl, h3, h4⟩
  · exact ⟨v', none, rfl, .inl ⟨rfl, rfl⟩, h1, by rw [List.append_nil]; exact h2⟩
  · exact ⟨v', some x, rfl, .inr ⟨x, t', rfl, rfl⟩, r', rfl, h3, by rw [List.append_nil]; exact h4⟩
theorem char_more {c : Strm} {seen pre r : List Nat} {x : Nat} {z : Value} {led : List (Addr × Obj)} (h : charPost c (seen ++ pre ++ [x]) r z led) : ∃ v' last, led = c.led v' ∧ Ch last z ∧ CharAt c v' seen (pre ++ x :: r) (pre ++ [x]) last := by
  obtain ⟨v', rfl, h⟩ := h
  rcases h with ⟨rfl, rfl, h2⟩ | ⟨y, r', t', rfl, rfl, h3, h4⟩
  · exact ⟨v', none, rfl, .inl ⟨rfl, rfl⟩, rfl, by rw [← List.append_assoc]; exact h2⟩
  · exact ⟨v', some y, rfl, .inr ⟨y, t', rfl, rfl⟩, r', by simp, h3, by rw [← List.append_assoc seen]; exact h4⟩
theorem CtrX.use {w : World} {f : Addr} {args : List Value} {D : Nat} {post : Value → Prop} {bad : Prop} (C : CtrX w f args D post bad)
    {dp un : Nat} {gd : Option (List Code)} {cn : Str} {cs : Scope} {a : Addr} {ccd : Value} {cl : List (Str × Addr)} {outer : List Env} {A₀ : Around} {base h₀ : Heap} {L : Addr} {m : Str → Option Value} {hh₉ : Heap} {g₉ : Array GenState} {d₉ : Drawn} {n₉ : Nat} {os₉ : OsState} {mean : ExcName → Option Value} {mg mb : Str → Option Value} {news : List (Addr × Obj)}
    {Q E : Value → Shared → Prop} {A : Around} (hA : A = ktrTop dp un gd cn cs L a ccd cl outer)
    (B : Below A₀ base outer h₀) (F : Fr h₀ L hh₉ m) (X : (KW w.params).In h₀) (N : News h₀ L hh₉ news) (T : TopQ mean mg mb h₀) (hk : cs.kind = .function) (hd : dp + D < recursionLimit) (hu : un + 8 * D < cLine) (hp : 0 < n₉)
    (ret : ∀ v h' tk', post v → Fr h₀ L h' m → News h₀ L h' news → Q v ⟨h', g₉, d₉, tk', os₉⟩)
    (err : ∀ e G h' tk', bad → Fr h₀ L G m → RaisedSN base G (envX cn cs L a ccd cl :: outer) e (.type "KeyError") news h' → G.UpToSlots h' → E (.ref e) ⟨h', g₉, d₉, tk', os₉⟩) :
    wpAny (model pw_te0025_01 w) A (call (.ref f) args) Q E ⟨hh₉, g₉, d₉, n₉, os₉⟩ := by
  subst hA
  exact wpAny_call (C _ _ _ _ _ _ _ _ _ _ _ _ _ _ _ _ _ _ _ _ B F X N T hk hd hu hp ret err)
theorem StrsAre.get : ∀ {vs : List Value} {ys : List Str}, StrsAre vs ys → ∀ {k : Nat} {y : Str}, ys[k]? = some y → ∃ t, vs[k]? = some (.str y t)
  | _, _, .nil, _, _, h => by cases h
  | _, _, .cons y t hs, 0, _, h => by cases h; exact ⟨t, rfl⟩
  | _, _, .cons y t hs, k + 1, _, h => StrsAre.get hs (k := k) (by simpa using h)
theorem Stk.at {its : Array Value} {pre : List Nat} {last : Option Nat} {c : Strm} {v : SV} {seen rest : List Nat} (S : Stk its pre last) (hC : CharAt c v seen rest pre last) {k : Nat} (hk : k ≤ pre.length) :
    ∃ z, its.toList[k]? = some z ∧ Ch rest[k]? z := by
  obtain ⟨vs, lv, h1, h2, h3⟩ := S.ex
  have hl : vs.length = pre.length := by rw [StrsAre.len h2, sgs_len]
  by_cases hq : k < pre.length
  · obtain ⟨t, ht⟩ := StrsAre.get h2 (k := k) (y := tx [pre[k]]) (by unfold sgs; rw [List.getElem?_map, List.getElem?_eq_getElem hq]; rfl)
    refine ⟨_, by rw [h1, List.getElem?_append_left (by lia)]; exact ht, .inr ⟨pre[k], t, ?_, rfl⟩⟩
    cases last with
    | none => rw [hC.1, List.getElem?_eq_getElem hq]
    | some y => obtain ⟨r, e, -, -⟩ := hC; rw [e, List.getElem?_append_left hq, List.getElem?_eq_getElem hq]
  · have e : k = pre.length := by lia
    subst e
    refine ⟨lv, by rw [h1, ← hl, List.getElem?_append_right (Nat.le_refl _), Nat.sub_self]; rfl, ?_⟩
    have e2 : rest[pre.length]? = last := by
      cases last with
      | none => rw [hC.1, List.getElem?_eq_none_iff.mpr (Nat.le_refl _)]
      | some y => obtain ⟨r, e, -, -⟩ := hC; rw [e, List.getElem?_append_right (Nat.le_refl _), Nat.sub_self]; rfl
    rw [e2]; exact h3
theorem CharAt.take {c : Strm} {v : SV} {seen rest pre : List Nat} {last : Option Nat} (hC : CharAt c v seen rest pre last) : rest.take pre.length = pre ∧ pre.length ≤ rest.length := by
  cases last with
  | none => rw [hC.1]; exact ⟨List.take_length, Nat.le_refl _⟩
  | some y => obtain ⟨r, e, -, -⟩ := hC; rw [e]; exact ⟨List.take_left, by rw [List.length_append]; lia⟩
theorem News.drop2 {h₀ h : Heap} {L : Addr} {p q : Addr × Obj} {l : List (Addr × Obj)} (N : News h₀ L h (p :: q :: l)) : News h₀ L h (p :: l) := fun x hx => by
  rcases List.mem_cons.mp hx with rfl | hx
  · exact N _ (.head _)
  · exact N _ (.tail _ (.tail _ hx))
theorem News.rot {h₀ h : Heap} {L : Addr} {p q : Addr × Obj} {l : List (Addr × Obj)} (N : News h₀ L h (p :: q :: l)) : News h₀ L h (q :: (l ++ [p])) := fun x hx => by
  rcases List.mem_cons.mp hx with rfl | hx
  · exact N _ (.tail _ (.head _))
  · rcases List.mem_append.mp hx with hx | hx
    · exact N _ (.tail _ (.tail _ hx))
    · rw [List.mem_singleton.mp hx]; exact N _ (.head _)
theorem semi_ne (b : List Nat) (h : b ≠ []) : (Txt.item (tx b) (-1) != Str.ofString ";") = !decide (b.getLast? = some 59) := by
  rw [item_last b h, lit_semi, bne, tx_beq, List.getLast?_eq_some_getLast h]
  congr 1
  rw [Bool.eq_iff_iff, decide_eq_true_eq, decide_eq_true_eq]
  constructor
  · intro e; rw [(List.cons.inj e).1]
  · intro e; rw [Option.some.inj e]
theorem ent_sign {b : List Nat} (h : (entV b).isSome = true) : ∃ t, entV b = some (.str (tx (signOf b)) t) := by
  unfold entV at h ⊢
  unfold signOf
  cases q : entL.find? fun p => p.1 == b with
  | none => rw [q] at h; cases h
  | some p => exact ⟨p.2.2.2, rfl⟩
theorem wl {y : Nat} (h : (leL.any fun p => [p.1] == [y]) = true) : true = wordly y := by rw [← words_one, h]; rfl
theorem wd {y : Nat} (h0 : (leL.any fun p => [p.1] == [y]) = false) (h : (diL.any fun p => [p.1] == [y]) = true) : true = wordly y := by rw [← words_one, h0, h]; rfl
theorem we {y : Nat} (h0 : (leL.any fun p => [p.1] == [y]) = false) (h1 : (diL.any fun p => [p.1] == [y]) = false) (h : (tx [y] == Str.ofString "=") = true) : true = wordly y := by rw [lit_eq] at h; rw [← words_one, h0, h1, h]; rfl
theorem wn {y : Nat} (h0 : (leL.any fun p => [p.1] == [y]) = false) (h1 : (diL.any fun p => [p.1] == [y]) = false) (h : (tx [y] == Str.ofString "=") = false) : false = wordly y := by rw [lit_eq] at h; rw [← words_one, h0, h1, h]; rfl
theorem News.front {h₀ h : Heap} {L : Addr} {q : Addr × Obj} {l ex : List (Addr × Obj)} (N : News h₀ L h (q :: (l ++ ex))) : News h₀ L h ((q :: ex) ++ l) := fun x hx => by
  rcases List.mem_append.mp hx with hx | hx
  · rcases List.mem_cons.mp hx with rfl | hx
    · exact N _ (.head _)
    · exact N _ (.tail _ (List.mem_append_right _ hx))
  · exact N _ (.tail _ (List.mem_append_left _ hx))
theorem News.back {h₀ h : Heap} {L : Addr} {q : Addr × Obj} {l ex : List (Addr × Obj)} (N : News h₀ L h ((q :: ex) ++ l)) : News h₀ L h (q :: (l ++ ex)) := fun x hx => by
  rcases List.mem_cons.mp hx with rfl | hx
  · exact N _ (.head _)
  · rcases List.mem_append.mp hx with hx | hx
    · exact N _ (List.mem_append_right _ hx)
    · exact N _ (List.mem_append_left _ (.tail _ hx))
theorem ref_two {cl : Option Nat} {inside : Bool} {rest pre b : List Nat} {β : Bool} (hs : ¬ stops cl rest = true) (hap : rest.take (alongOf rest) = pre) (hal : alongOf rest = pre.length) (hb : bestPre pre = some b)
    (hβ : β = (!decide (b.getLast? = some 59) && (inside && wordlyAt rest[b.length]?))) :
    refOut cl inside rest = (if β then 38 :: pre else signOf b ++ pre.drop b.length, if b.getLast? = some 59 then none else some (Str.ofString "named-entity-without-semicolon"), pre.length) := by
  unfold refOut
  rw [if_neg hs, hap, hb, hal]
  dsimp only
  by_cases hsc : b.getLast? = some 59
  · rw [decide_eq_true hsc] at hβ
    have : β = false := hβ
    subst this
    rw [if_pos hsc, if_pos hsc]; rfl
  · rw [decide_eq_false hsc] at hβ
    have hβ2 : β = (inside && wordlyAt rest[b.length]?) := hβ
    rw [if_neg hsc, if_neg hsc, ← hβ2]
    cases β <;> rfl
theorem ent_small : ∀ p ∈ entL, p.2.2.1.length ≤ 10 := by decide +kernel
theorem sign_len (b : List Nat) : (signOf b).length ≤ 10 := by
  unfold signOf
  cases q : entL.find? fun p => p.1 == b with
  | none => exact Nat.zero_le _
  | some p => exact ent_small p (List.mem_of_find?_eq_some q)
theorem News.flip {h₀ h : Heap} {L : Addr} {a b : List (Addr × Obj)} (N : News h₀ L h (a ++ b)) : News h₀ L h (b ++ a) := fun x hx => N x (by
  rcases List.mem_append.mp hx with hx | hx
  · exact List.mem_append_right _ hx
  · exact List.mem_append_left _ hx)
theorem Tks.snoc {w : World} : ∀ {ex : List (Addr × Obj)} {add : List Value} {ts : List (Int × Str)}, Tks w ex add ts → ∀ {d : Addr} {o : Obj} {n : Int} {y : Str}, (∃ t1 t2, o.IsDictOf (PySem.strKind pw_te0025_01 w) [(Str.ofString "type", .int n t1), (Str.ofString "data", .str y t2)]) →
    Tks w (ex ++ [(d, o)]) (add ++ [.ref d]) (ts ++ [(n, y)])
  | [], [], [], _, _, _, _, _, h => ⟨rfl, h, trivial⟩
  | (q, o) :: ex, v :: vs, (n, d) :: ts, ⟨h1, h2, h3⟩, _, _, _, _, h => ⟨h1, h2, Tks.snoc h3 h⟩
  | [], [], _ :: _, h, _, _, _, _, _ => h.elim
  | [], _ :: _, _, h, _, _, _, _, _ => h.elim
  | _ :: _, [], _, h, _, _, _, _, _ => h.elim
  | _ :: _, _ :: _, [], h, _, _, _, _, _ => h.elim
theorem ent_head : ∀ p ∈ entL, (spL.any fun q => some q.1 == p.2.2.1.head?) = false ∧ p.2.2.1 ≠ [] := by decide +kernel
theorem out_word (cl : Option Nat) (inside : Bool) (rest : List Nat) : (spL.any fun p => [p.1] == (refOut cl inside rest).1) = false := by
  have amp : ∀ l : List Nat, (spL.any fun p => [p.1] == 38 :: l) = false := fun l => by
    rw [List.any_eq_false]
    intro p hp hq
    have := (List.cons.inj (beq_iff_eq.mp hq)).1
    have h38 : ∀ p ∈ spL, p.1 ≠ 38 := by decide
    exact h38 p hp this
  have sg : ∀ (b l : List Nat), (entV b).isSome = true → (spL.any fun p => [p.1] == signOf b ++ l) = false := fun b l hb => by
    unfold signOf
    unfold entV at hb
    cases q : entL.find? fun p => p.1 == b with
    | none => rw [q] at hb; cases hb
    | some e =>
      obtain ⟨h1, h2⟩ := ent_head e (List.mem_of_find?_eq_some q)
      show (spL.any fun p => [p.1] == e.2.2.1 ++ l) = false
      obtain ⟨x, r, hx⟩ := List.exists_cons_of_ne_nil h2
      rw [hx] at h1 ⊢
      rw [List.any_eq_false] at h1 ⊢
      intro p hp hq
      apply h1 p hp
      rw [List.head?_cons]
      have := (List.cons.inj (beq_iff_eq.mp hq)).1
      rw [this]
      exact beq_self_eq_true _
  unfold refOut
  split
  · exact amp []
  · split
    · exact amp _
    · rename_i b hb
      have h := (best_le _ hb).2.1
      split
      · exact sg b _ h
      · split
        · exact amp _
        · exact sg b _ h
theorem Tks.len {w : World} : ∀ {ex : List (Addr × Obj)} {add : List Value} {ts : List (Int × Str)}, Tks w ex add ts → add.length = ts.length
  | [], [], [], _ => rfl
  | (_, _) :: _, _ :: _, (_, _) :: _, ⟨_, _, h⟩ => congrArg (· + 1) (Tks.len h)
  | [], [], _ :: _, h => h.elim
  | [], _ :: _, _, h => h.elim
  | _ :: _, [], _, h => h.elim
  | _ :: _, _ :: _, [], h => h.elim
theorem told_len : ∀ told : Option Str, ((told.map fun e => ((7 : Int), e)).toList).length ≤ 1
  | none => Nat.zero_le _
  | some _ => Nat.le_refl _
theorem out_len (cl : Option Nat) (inside : Bool) (rest : List Nat) : (refOut cl inside rest).1.length ≤ rest.length + 11 := by
  unfold refOut
  have h1 : (rest.take (alongOf rest)).length ≤ rest.length := by rw [List.length_take]; lia
  split
  · show 1 ≤ _; lia
  · split
    · show (rest.take (alongOf rest)).length + 1 ≤ _; lia
    · rename_i b hb
      have h2 := sign_len b
      have h3 : (signOf b ++ (rest.take (alongOf rest)).drop b.length).length ≤ rest.length + 11 := by rw [List.length_append, List.length_drop]; lia
      split
      · exact h3
      · split
        · show (rest.take (alongOf rest)).length + 1 ≤ _; lia
        · exact h3
theorem News.rot2 {h₀ h : Heap} {L : Addr} {p : Addr × Obj} {l ex : List (Addr × Obj)} (N : News h₀ L h (p :: (l ++ ex))) : News h₀ L h (l ++ (ex ++ [p])) := fun x hx => by
  rcases List.mem_append.mp hx with hx | hx
  · exact N _ (.tail _ (List.mem_append_left _ hx))
  · rcases List.mem_append.mp hx with hx | hx
    · exact N _ (.tail _ (List.mem_append_right _ hx))
    · rw [List.mem_singleton.mp hx]; exact N _ (.head _)
theorem semi_eq (b : List Nat) (h : b ≠ []) : (Txt.item (tx b) (-1) == Str.ofString ";") = decide (b.getLast? = some 59) := by
  have e := semi_ne b h
  rw [bne] at e
  rw [← Bool.not_not (Txt.item (tx b) (-1) == Str.ofString ";"), e, Bool.not_not]
end
section
local macro_rules | `(tactic| walk_at "none 0") => `(tactic| fail)
theorem unget_any (w : World) (c : Strm) (σ : SV) (seen rest pre : List Nat) (last : Option Nat) (lv : Value) (hG : Good c) (hC : CharAt c σ seen rest pre last) (hl : Ch last lv) :
    Ctr w 163 [.ref c.st, lv] 5 (c.led σ) (fun r led => r = .none ∧ ∃ σ', led = c.led σ' ∧ Inv c σ' (seen ++ pre) (rest.drop pre.length)) := by
  rcases hl with ⟨rfl, rfl⟩ | ⟨x, t, rfl, rfl⟩
  · w_on
    obtain ⟨he, hI⟩ := hC
    intro dp un gd cn cs a ccd cl outer A₀ base h₀ L m s mean mg mb Q E B F X N T hk hd hu hp hret
    dsimp only [Strm.led, Strm.sdO, Strm.ddO] at N
    refine' enter (binds := [(Str.ofString "self", .ref c.st), (Str.ofString "char", .none)]) B F X N T hk hret ?k6 ?k7 ?k8 ?k9 ?kB ?_ ?c5
    (case k6 => k_is)
    (case k7 => k_is)
    (case k8 => first | exact rm0 (by assumption) | lia)
    (case k9 => first | exact BindsTo.of_eq rfl | exact binds_K (by k_in) rfl (by k_is) rfl rfl rfl)
    (case c5 => decide)
    (case kB => exact rfl)
    clear hret N F T X B
    intro g' L' h' F' N' B' X' T' hlt
    refine flatD (Nat.add_pos_left hp _) ?_
    intro g₉ d₉ os₉ n₉ hp₉
    (try dsimp only)
    (try k_fold)
    k_steps
    refine ⟨_, _, _, _, _, rfl, ‹Fr _ _ _ _›, N', rfl, σ, rfl, ?_⟩
    rw [he, List.drop_length]
    exact hI
  · obtain ⟨r, e, h0, hI⟩ := hC
    refine Ctr.mono (unget_spec w c σ (seen ++ pre) r x t hG hI h0) (fun z led hz => ?_)
    obtain ⟨h1, σ', h2, h3⟩ := hz
    refine ⟨h1, σ', h2, ?_⟩
    rw [e, List.drop_left]
    exact h3
end
section


local macro_rules | `(tactic| walk_at "exec If") => `(tactic| (k_here; refine stop ?_))
local macro_rules | `(tactic| walk_at "exec Try") => `(tactic| (k_here; refine stop ?_))
local macro_rules | `(tactic| walk_at "in22") => `(tactic| (first | with_reducible show wpAny _ _ (compareOp _ _ (Value.ref 22)) _ _ _ | with_reducible show wpAny _ _ (compareOp _ _ (Top.r 22)) _ _ _))
local macro_rules | `(tactic| walk_at "in27") => `(tactic| (first | with_reducible show wpAny _ _ (compareOp _ _ (Value.ref 27)) _ _ _ | with_reducible show wpAny _ _ (compareOp _ _ (Top.r 27)) _ _ _))
local macro_rules | `(tactic| walk_at "in32") => `(tactic| (first | with_reducible show wpAny _ _ (compareOp _ _ (Value.ref 32)) _ _ _ | with_reducible show wpAny _ _ (compareOp _ _ (Top.r 32)) _ _ _))
local macro_rules | `(tactic| walk_at "compareOp In str ref") => `(tactic| (k_here; first | (walk_at "in22"; refine in22_str (by k_asm) (by k_asm) ?_) | (walk_at "in27"; refine in27_str (by k_asm) (by k_asm) ?_) | (walk_at "in32"; refine in32_str (by k_asm) (by k_asm) ?_) | refine inE_str (by k_asm) (by k_mem) ?_))
local macro_rules | `(tactic| walk_at "compareOp In none ref") => `(tactic| (k_here; first | (walk_at "in22"; refine in22_none (by k_asm) (by k_asm) ?_) | (walk_at "in27"; refine in27_none (by k_asm) (by k_asm) ?_) | (walk_at "in32"; refine in32_none (by k_asm) (by k_asm) ?_) | refine inE_none (by k_asm) (by k_mem) ?_))
local macro_rules | `(tactic| walk_at "subscriptTail Name UnaryOp ref int") => `(tactic| (k_here; refine stop ?_))
local macro_rules | `(tactic| walk_at "subscriptTail Name Slice ref ref") => `(tactic| (k_here; refine stop ?_))
local macro_rules | `(tactic| walk_at "subscriptTail Subscript UnaryOp ref int") => `(tactic| (k_here; refine stop ?_))
local macro_rules | `(tactic| walk_at "exec While Compare") => `(tactic| (k_here; refine stop ?_))
local macro_rules | `(tactic| walk_at "call builtin:list.pop") => `(tactic| (k_here; refine stop ?_))
local macro_rules | `(tactic| walk_at "subscriptTail Name Name ref str") => `(tactic| (k_here; refine stop ?_))
local macro_rules | `(tactic| walk_at "subscriptTail Name Name ref int") => `(tactic| (k_here; k_dflt (refine item_list ⟨_, (‹News _ _ _ _› _ (List.Mem.head _)).1, rfl, _, rfl⟩ (by lia) (by lia) (by assumption) ?_)))
local macro_rules | `(tactic| k_all) => `(tactic| assumption)
noncomputable def consumePost (w : World) (c : Strm) (r : Rdr) (its : Array Value) (val seen rest : List Nat) (cl : Option Nat) (inside : Bool) (z : Value) (led : List (Addr × Obj)) : Prop :=
  ∃ σ its' nn' tv' ex add, led = ex ++ r.led c its' nn' (if inside then val ++ (refOut cl inside rest).1 else val) tv' σ ∧ Inv c σ (seen ++ rest.take (refOut cl inside rest).2.2) (rest.drop (refOut cl inside rest).2.2) ∧
    its'.toList = its.toList ++ add ∧ Tks w ex add (((refOut cl inside rest).2.1.map fun e => ((7 : Int), e)).toList ++ if inside then [] else [(1, tx (refOut cl inside rest).1)]) ∧ (∀ p ∈ ex, @LT.lt Nat _ r.dl p.1)
theorem char_go {dp un : Nat} {gd : Option (List Code)} {cn : Str} {cs : Scope} {a : Addr} {ccd : Value} {cl : List (Str × Addr)} {outer : List Env} {A₀ : Around} {base h₀ : Heap} {L : Addr} {m : Str → Option Value} {hh₉ : Heap} {g₉ : Array GenState} {d₉ : Drawn} {n₉ : Nat} {os₉ : OsState} {mean : ExcName → Option Value} {mg mb : Str → Option Value} {Q E : Value → Shared → Prop} {A : Around}
    {w : World} {c : Strm} {r : Rdr} {its : Array Value} {nn : Nat} {val : List Nat} {tv : Tok} {σ : SV} {seen rest : List Nat} {pre : List (Addr × Obj)} 
    (hG : Good c) (hO : r.Ord c) (hI : Inv c σ seen rest) (hpre : ∀ p ∈ pre, @LT.lt Nat _ r.dl p.1) (hA : A = ktrTop dp un gd cn cs L a ccd cl outer) (B : Below A₀ base outer h₀) (F : Fr h₀ L hh₉ m) (X : (KW w.params).In h₀) (N : News h₀ L hh₉ (pre ++ r.led c its nn val tv σ)) (T : TopQ mean mg mb h₀) (hk : cs.kind = .function) (hd : dp + 20 < recursionLimit) (hu : un + 8 * 20 < cLine) (hp : 0 < n₉)
    (ret : ∀ z σ' last h' tk', Ch last z → CharAt c σ' seen rest [] last → Fr h₀ L h' m → News h₀ L h' (pre ++ r.led c its nn val tv σ') → Q z ⟨h', g₉, d₉, tk', os₉⟩) :
    wpAny (model pw_te0025_01 w) A (call (.ref 133) [.ref c.st]) Q E ⟨hh₉, g₉, d₉, n₉, os₉⟩ := by
  refine Ctr.use (char_spec w c σ seen rest hG hI) hA B F X (News.strm N) T hk hd hu hp ?_
  rintro z foot' h2 tk2 hch F2 N2 K2
  obtain ⟨σ', last, rfl, hlv, hst⟩ := char_at hch
  exact ret _ _ _ _ _ hlv hst F2 (News.stream hO hpre N K2 N2)
theorem char_go2 {dp un : Nat} {gd : Option (List Code)} {cn : Str} {cs : Scope} {a : Addr} {ccd : Value} {cl : List (Str × Addr)} {outer : List Env} {A₀ : Around} {base h₀ : Heap} {L : Addr} {m : Str → Option Value} {hh₉ : Heap} {g₉ : Array GenState} {d₉ : Drawn} {n₉ : Nat} {os₉ : OsState} {mean : ExcName → Option Value} {mg mb : Str → Option Value} {Q E : Value → Shared → Prop} {A : Around}
    {w : World} {c : Strm} {r : Rdr} {its : Array Value} {nn : Nat} {val : List Nat} {tv : Tok} {σ : SV} {seen rest : List Nat} {pre : List (Addr × Obj)} {pr q : List Nat} {x : Nat}
    (hG : Good c) (hO : r.Ord c) (hI : Inv c σ (seen ++ pr ++ [x]) q) (hpre : ∀ p ∈ pre, @LT.lt Nat _ r.dl p.1) (hA : A = ktrTop dp un gd cn cs L a ccd cl outer) (B : Below A₀ base outer h₀) (F : Fr h₀ L hh₉ m) (X : (KW w.params).In h₀) (N : News h₀ L hh₉ (pre ++ r.led c its nn val tv σ)) (T : TopQ mean mg mb h₀) (hk : cs.kind = .function) (hd : dp + 20 < recursionLimit) (hu : un + 8 * 20 < cLine) (hp : 0 < n₉)
    (ret : ∀ z σ' last h' tk', Ch last z → CharAt c σ' seen (pr ++ x :: q) (pr ++ [x]) last → Fr h₀ L h' m → News h₀ L h' (pre ++ r.led c its nn val tv σ') → Q z ⟨h', g₉, d₉, tk', os₉⟩) :
    wpAny (model pw_te0025_01 w) A (call (.ref 133) [.ref c.st]) Q E ⟨hh₉, g₉, d₉, n₉, os₉⟩ := by
  refine Ctr.use (char_spec w c σ (seen ++ pr ++ [x]) q hG hI) hA B F X (News.strm N) T hk hd hu hp ?_
  rintro z foot' h2 tk2 hch F2 N2 K2
  obtain ⟨σ', last, rfl, hlv, hst⟩ := char_more hch
  exact ret _ _ _ _ _ hlv hst F2 (News.stream hO hpre N K2 N2)
theorem unget_go {dp un : Nat} {gd : Option (List Code)} {cn : Str} {cs : Scope} {a : Addr} {ccd : Value} {cl : List (Str × Addr)} {outer : List Env} {A₀ : Around} {base h₀ : Heap} {L : Addr} {m : Str → Option Value} {hh₉ : Heap} {g₉ : Array GenState} {d₉ : Drawn} {n₉ : Nat} {os₉ : OsState} {mean : ExcName → Option Value} {mg mb : Str → Option Value} {Q E : Value → Shared → Prop} {A : Around}
    {w : World} {c : Strm} {r : Rdr} {its : Array Value} {nn : Nat} {val : List Nat} {tv : Tok} {σ : SV} {seen rest : List Nat} {pre : List (Addr × Obj)} {pr : List Nat} {last : Option Nat} {lv : Value}
    (hG : Good c) (hO : r.Ord c) (hC : CharAt c σ seen rest pr last) (hl : Ch last lv) (hpre : ∀ p ∈ pre, @LT.lt Nat _ r.dl p.1) (hA : A = ktrTop dp un gd cn cs L a ccd cl outer) (B : Below A₀ base outer h₀) (F : Fr h₀ L hh₉ m) (X : (KW w.params).In h₀) (N : News h₀ L hh₉ (pre ++ r.led c its nn val tv σ)) (T : TopQ mean mg mb h₀) (hk : cs.kind = .function) (hd : dp + 5 < recursionLimit) (hu : un + 8 * 5 < cLine) (hp : 0 < n₉)
    (ret : ∀ σ' h' tk', Inv c σ' (seen ++ pr) (rest.drop pr.length) → Fr h₀ L h' m → News h₀ L h' (pre ++ r.led c its nn val tv σ') → Q .none ⟨h', g₉, d₉, tk', os₉⟩) :
    wpAny (model pw_te0025_01 w) A (call (.ref 163) [.ref c.st, lv]) Q E ⟨hh₉, g₉, d₉, n₉, os₉⟩ := by
  refine Ctr.use (unget_any w c σ seen rest pr last lv hG hC hl) hA B F X (News.strm N) T hk hd hu hp ?_
  rintro z foot' h2 tk2 ⟨rfl, σ', rfl, hI3⟩ F2 N2 K2
  exact ret _ _ _ hI3 F2 (News.stream hO hpre N K2 N2)
theorem unget_go1 {dp un : Nat} {gd : Option (List Code)} {cn : Str} {cs : Scope} {a : Addr} {ccd : Value} {cl : List (Str × Addr)} {outer : List Env} {A₀ : Around} {base h₀ : Heap} {L : Addr} {m : Str → Option Value} {hh₉ : Heap} {g₉ : Array GenState} {d₉ : Drawn} {n₉ : Nat} {os₉ : OsState} {mean : ExcName → Option Value} {mg mb : Str → Option Value} {Q E : Value → Shared → Prop} {A : Around}
    {w : World} {c : Strm} {r : Rdr} {its : Array Value} {nn : Nat} {val : List Nat} {tv : Tok} {σ : SV} {seen rest : List Nat} {pre : List (Addr × Obj)} {x : Nat} {t : Tok}
    (hG : Good c) (hO : r.Ord c) (hI : Inv c σ (seen ++ [x]) rest) (h0 : 0 < σ.off) (hpre : ∀ p ∈ pre, @LT.lt Nat _ r.dl p.1) (hA : A = ktrTop dp un gd cn cs L a ccd cl outer) (B : Below A₀ base outer h₀) (F : Fr h₀ L hh₉ m) (X : (KW w.params).In h₀) (N : News h₀ L hh₉ (pre ++ r.led c its nn val tv σ)) (T : TopQ mean mg mb h₀) (hk : cs.kind = .function) (hd : dp + 5 < recursionLimit) (hu : un + 8 * 5 < cLine) (hp : 0 < n₉)
    (ret : ∀ σ' h' tk', Inv c σ' seen (x :: rest) → Fr h₀ L h' m → News h₀ L h' (pre ++ r.led c its nn val tv σ') → Q .none ⟨h', g₉, d₉, tk', os₉⟩) :
    wpAny (model pw_te0025_01 w) A (call (.ref 163) [.ref c.st, .str (tx [x]) t]) Q E ⟨hh₉, g₉, d₉, n₉, os₉⟩ := by
  refine Ctr.use (unget_spec w c σ seen rest x t hG hI h0) hA B F X (News.strm N) T hk hd hu hp ?_
  rintro z foot' h2 tk2 ⟨rfl, σ', rfl, hI3⟩ F2 N2 K2
  exact ret _ _ _ hI3 F2 (News.stream hO hpre N K2 N2)
noncomputable def consume_spec_S (w : World) (c : Strm) (r : Rdr) (tv : Tok) (dp : Nat) (un : Nat) (gd : Option (List Code)) (cn : Str) (cs : Scope) (a : Addr) (ccd : Value) (A₀ : Around) (base : Heap) (h₀ : Heap) (L : Addr) (m : Str → Option Value) (s : Shared) (mean : ExcName → Option Value) (mg : Str → Option Value) (mb : Str → Option Value) (Q : Value → Shared → Prop) (E : Value → Shared → Prop) : Prop :=
  ∀ (v : SV) (its : Array Value) (nn : Nat) (val : List Nat) (seen : List Nat) (rest : List Nat) (cl : Option Nat) (clV : Value) (inside : Bool), (Good c) →
    (r.Ord c) →
    (r.Cur w) →
    (Inv c v seen rest) →
    (Ch cl clV) →
    (35 ∉ rest) →
    (its.size ≤ 100) →
    (val.length ≤ 5000) →
    CtrSAt w dp un gd cn cs a ccd A₀ base h₀ L m s mean mg mb Q E 283 [.ref r.rd, clV, .bool inside] 40 (r.led c its nn val tv v) (consumePost w c r its val seen rest cl inside)
noncomputable abbrev consume_spec_T : Type := (World) × (Strm) × (Rdr) × (Tok) × (Nat) × (Nat) × (Option (List Code)) × (Str) × (Scope) × (Addr) × (Value) × (Around) × (Heap) × (Heap) × (Addr) × (Str → Option Value) × (Shared) × (ExcName → Option Value) × (Str → Option Value) × (Str → Option Value) × (Value → Shared → Prop) × (Value → Shared → Prop)
theorem consume_spec_ne : Nonempty consume_spec_T := ⟨(dW, dStrm, dRdr, default, default, default, default, default, default, default, default, dA, default, default, default, (fun _ => default), dS, (fun _ => default), (fun _ => default), (fun _ => default), (fun _ _ => True), (fun _ _ => True))⟩
noncomputable abbrev consume_spec_F (x : consume_spec_T) : Prop := consume_spec_S x.1 x.2.1 x.2.2.1 x.2.2.2.1 x.2.2.2.2.1 x.2.2.2.2.2.1 x.2.2.2.2.2.2.1 x.2.2.2.2.2.2.2.1 x.2.2.2.2.2.2.2.2.1 x.2.2.2.2.2.2.2.2.2.1 x.2.2.2.2.2.2.2.2.2.2.1 x.2.2.2.2.2.2.2.2.2.2.2.1 x.2.2.2.2.2.2.2.2.2.2.2.2.1 x.2.2.2.2.2.2.2.2.2.2.2.2.2.1 x.2.2.2.2.2.2.2.2.2.2.2.2.2.2.1 x.2.2.2.2.2.2.2.2.2.2.2.2.2.2.2.1 x.2.2.2.2.2.2.2.2.2.2.2.2.2.2.2.2.1 x.2.2.2.2.2.2.2.2.2.2.2.2.2.2.2.2.2.1 x.2.2.2.2.2.2.2.2.2.2.2.2.2.2.2.2.2.2.1 x.2.2.2.2.2.2.2.2.2.2.2.2.2.2.2.2.2.2.2.1 x.2.2.2.2.2.2.2.2.2.2.2.2.2.2.2.2.2.2.2.2.1 x.2.2.2.2.2.2.2.2.2.2.2.2.2.2.2.2.2.2.2.2.2
noncomputable def consume_spec_P : consume_spec_T := pick consume_spec_ne consume_spec_F
namespace consume_spec_V
@[irreducible] noncomputable def w : World := consume_spec_P.1
@[irreducible] noncomputable def c : Strm := consume_spec_P.2.1
@[irreducible] noncomputable def r : Rdr := consume_spec_P.2.2.1
@[irreducible] noncomputable def tv : Tok := consume_spec_P.2.2.2.1
@[irreducible] noncomputable def dp : Nat := consume_spec_P.2.2.2.2.1
@[irreducible] noncomputable def un : Nat := consume_spec_P.2.2.2.2.2.1
@[irreducible] noncomputable def gd : Option (List Code) := consume_spec_P.2.2.2.2.2.2.1
@[irreducible] noncomputable def cn : Str := consume_spec_P.2.2.2.2.2.2.2.1
@[irreducible] noncomputable def cs : Scope := consume_spec_P.2.2.2.2.2.2.2.2.1
@[irreducible] noncomputable def a : Addr := consume_spec_P.2.2.2.2.2.2.2.2.2.1
@[irreducible] noncomputable def ccd : Value := consume_spec_P.2.2.2.2.2.2.2.2.2.2.1
@[irreducible] noncomputable def A₀ : Around := consume_spec_P.2.2.2.2.2.2.2.2.2.2.2.1
@[irreducible] noncomputable def base : Heap := consume_spec_P.2.2.2.2.2.2.2.2.2.2.2.2.1
@[irreducible] noncomputable def h₀ : Heap := consume_spec_P.2.2.2.2.2.2.2.2.2.2.2.2.2.1
@[irreducible] noncomputable def L : Addr := consume_spec_P.2.2.2.2.2.2.2.2.2.2.2.2.2.2.1
@[irreducible] noncomputable def m : Str → Option Value := consume_spec_P.2.2.2.2.2.2.2.2.2.2.2.2.2.2.2.1
@[irreducible] noncomputable def s : Shared := consume_spec_P.2.2.2.2.2.2.2.2.2.2.2.2.2.2.2.2.1
@[irreducible] noncomputable def mean : ExcName → Option Value := consume_spec_P.2.2.2.2.2.2.2.2.2.2.2.2.2.2.2.2.2.1
@[irreducible] noncomputable def mg : Str → Option Value := consume_spec_P.2.2.2.2.2.2.2.2.2.2.2.2.2.2.2.2.2.2.1
@[irreducible] noncomputable def mb : Str → Option Value := consume_spec_P.2.2.2.2.2.2.2.2.2.2.2.2.2.2.2.2.2.2.2.1
@[irreducible] noncomputable def Q : Value → Shared → Prop := consume_spec_P.2.2.2.2.2.2.2.2.2.2.2.2.2.2.2.2.2.2.2.2.1
@[irreducible] noncomputable def E : Value → Shared → Prop := consume_spec_P.2.2.2.2.2.2.2.2.2.2.2.2.2.2.2.2.2.2.2.2.2
theorem core : consume_spec_S w c r tv dp un gd cn cs a ccd A₀ base h₀ L m s mean mg mb Q E := by
  unfold consume_spec_S
  w_on
  intro v its nn val seen rest cl clV inside hG hO hT hI hcl h35 hits hval
  obtain ⟨⟨q1, q2, q3, q4⟩, p1, p2, p3, p4, p5, p6⟩ := id hO
  have o1 := Nat.lt_trans q4 p3
  have o2 := Nat.lt_trans q3 o1
  have o3 := Nat.lt_trans q2 o2
  have o4 := Nat.lt_trans q1 o3
  have o5 := Nat.lt_trans p2 o4
  have o6 := Nat.lt_trans p1 o5
  have o7 := Nat.lt_trans p4 p5
  have o8 := Nat.lt_trans o7 p6
  have d1 := Nat.lt_trans p5 p6
  have d2 := Nat.lt_trans p3 o8
  have d3 := Nat.lt_trans o1 o8
  have d4 := Nat.lt_trans o2 o8
  have d5 := Nat.lt_trans o3 o8
  have d6 := Nat.lt_trans o4 o8
  have d7 := Nat.lt_trans o5 o8
  have d8 := Nat.lt_trans o6 o8
  obtain ⟨v1, v2, v3, hoc⟩ := hT
  intro B F X N T XB TB hk hd hu hp hret
  dsimp only [Rdr.led, Rdr.own, Strm.led, List.cons_append, List.nil_append] at N
  have X := X
  have T := T
  refine' enterS (binds := [(Str.ofString "self", .ref r.rd), (Str.ofString "allowedChar", clV), (Str.ofString "fromAttribute", .bool inside)]) B F X N T hk hret ?k6 ?k7 ?k8 ?k9 ?kB ?_ ?c5
  (case k6 => k_is)
  (case k7 => k_is)
  (case k8 => first | exact rm0 (by assumption) | lia)
  (case k9 => first | exact BindsTo.of_eq rfl | exact binds_K (by k_in) rfl (by k_is) rfl rfl rfl)
  (case c5 => decide)
  (case kB => exact rfl)
  clear hret N F T X B
  intro g' L' h' F' N' B' X' T' D' hlt
  refine flatS (Nat.add_pos_left hp _) ?_
  intro g₉ d₉ os₉ n₉ hp₉
  (try dsimp only)
  (try k_fold)
  k_steps
  unfold Stop
  have N₂ : News g' L' _ ([] ++ r.led c its nn val tv v) := ‹News _ _ _ _›
  refine char_go hG hO hI (List.forall_mem_nil _) rfl B' ‹Fr _ _ _ _› X' N₂ T' rfl (by dsimp only [ktrTop]; first | exact rm1 (by assumption) (by decide) | lia) (by dsimp only [ktrTop]; first | exact rm2 (by assumption) (by decide) | lia) (by first | assumption | exact Nat.succ_pos _ | lia | (dsimp only; lia)) ?_
  intro z σ last h2 tk2 hlv hst F2 N3
  clear N₂
  dsimp only [Rdr.led, Rdr.own, Strm.led, List.cons_append, List.nil_append] at N3
  k_steps
  unfold Stop
  refine cps (fun X => ∀ g2 out told n σ its2 nn2 ex add ot vc ve vl h' tk', (refOut cl inside rest = (out, told, n)) → (Inv c σ (seen ++ rest.take n) (rest.drop n)) → (KtsTurn [L] g' g2) → (Below (ktrTop dp un gd cn cs L a ccd [] []) base [envX cn cs L a ccd []] g2) → ((KW w.params).In g2) → (TopQ mean mg mb g2) → (its2.toList = its.toList ++ add) → (Tks w ex add ((told.map fun e => ((7 : Int), e)).toList)) → ((∀ p ∈ ex, @LT.lt Nat _ r.dl p.1)) → (Fr g2 L' h' ((fun y => if y = Str.ofString "output" then some (Value.str (tx out) ot) else if y = Str.ofString "charStack" then vc else if y = Str.ofString "entityName" then ve else if y = Str.ofString "entityLength" then vl else List.lookup y [(Str.ofString "self", Value.ref r.rd), (Str.ofString "allowedChar", clV), (Str.ofString "fromAttribute", Value.bool inside)].reverse))) → (News g2 L' h' (ex ++ r.led c its2 nn2 val tv σ)) → X .next (⟨h', g₉, d₉, tk', os₉⟩)) ?_ ?_
  · intro X9 hX9
    refine wpAny_If ?_
    refine cps (fun X => ∀ b D t0 lv h' tk', (@LT.lt Nat _ r.dl D) → (b = stops cl rest) → (Ch last lv) → (Fr g' L' h' (fun y => if y = Str.ofString "charStack" then some (Value.ref D) else if y = Str.ofString "output" then some (Value.str (tx [38]) t0) else List.lookup y [(Str.ofString "self", Value.ref r.rd), (Str.ofString "allowedChar", clV), (Str.ofString "fromAttribute", Value.bool inside)].reverse)) → (News g' L' h' ((D, listOf #[lv] 0) :: r.led c its nn val tv σ)) → X b (⟨h', g₉, d₉, tk', os₉⟩)) ?_ ?_
    · intro X9 hX9
      cases last with
      | none =>
        obtain ⟨rfl, -⟩ := hst
        obtain rfl : z = .none := by
          rcases hlv with ⟨_, h⟩ | ⟨_, _, h, _⟩
          · exact h
          · cases h
        k_steps
        have F₅ := ‹Fr _ _ _ _›
        rw [lit_amp] at F₅
        have N₅ := ‹News _ _ _ _›
        first
          | exact hX9 _ _ _ _ _ _ (by lia) rfl hlv F₅ N₅
          | exact hX9 _ _ _ _ _ _ (by lia) rfl hlv F₅ (News.tl N₅)
          | exact hX9 _ _ _ _ _ _ (by lia) rfl hlv F₅ (News.tl (News.tl N₅))
      | some x =>
        obtain ⟨r', rfl, h0, hI2⟩ := hst
        obtain ⟨t1, rfl⟩ : ∃ t1, z = .str (tx [x]) t1 := by
          rcases hlv with ⟨h, _⟩ | ⟨_, t1, h, h'⟩
          · cases h
          · cases h; exact ⟨t1, h'⟩
        rcases hcl with ⟨rfl, rfl⟩ | ⟨y, ty, rfl, rfl⟩
        all_goals k_steps
        all_goals (
          have F₅ := ‹Fr _ _ _ _›
          rw [lit_amp] at F₅
          have N₅ := ‹News _ _ _ _›
          refine hX9 _ _ _ _ _ _ ?_ ?_ hlv F₅ ?_
          rotate_right
          · first
              | exact N₅
              | exact News.tl N₅
              | exact News.tl (News.tl N₅)
          · lia
          · first
              | exact sp_true ‹_›
              | exact lt_true ‹_›
              | exact cl_true ‹_›
              | exact no_stop ‹_› ‹_› (cl_false ‹_›)
              | exact no_stop ‹_› ‹_› (by simp))
    · rintro b D t0 lv h' tk' hD hb hlv2 F' N'
      dsimp only [Rdr.led, Rdr.own, Strm.led, List.cons_append, List.nil_append] at N'
      by_cases hs : stops cl rest = true
      · rw [if_pos (hb.trans hs)]
        have hr : refOut cl inside rest = ([38], none, 0) := by unfold refOut; rw [if_pos hs]
        cases last with
        | none =>
          obtain rfl : lv = .none := by
            rcases hlv2 with ⟨_, h⟩ | ⟨_, _, h, _⟩
            · exact h
            · cases h
          k_steps
          unfold Stop
          have N₂ := ‹News _ _ _ _›
          refine Ctr.use (unget_none w c.st) rfl B' ‹Fr _ _ _ _› X' News.nil T' rfl (by dsimp only [ktrTop]; first | exact rm1 (by assumption) (by decide) | lia) (by dsimp only [ktrTop]; first | exact rm2 (by assumption) (by decide) | lia) (by first | assumption | exact Nat.succ_pos _ | lia | (dsimp only; lia)) ?_
          rintro z foot' h2 tk2 ⟨rfl, rfl⟩ F2 N2 K2
          have N3 := News.keep0 N₂ K2
          clear N₂ N2
          k_steps
          try refine ⟨rfl, ?_⟩
          obtain ⟨he, hI2⟩ := hst
          have F₅ := Fr.like ‹Fr _ _ _ _› (m' := ((fun (vc ve vl : Option Value) (o9 : List Nat) (t9 : Tok) => (fun y => if y = Str.ofString "output" then some (Value.str (tx o9) t9) else if y = Str.ofString "charStack" then vc else if y = Str.ofString "entityName" then ve else if y = Str.ofString "entityLength" then vl else List.lookup y [(Str.ofString "self", Value.ref r.rd), (Str.ofString "allowedChar", clV), (Str.ofString "fromAttribute", Value.bool inside)].reverse)) (some (.ref D)) (none) (none) ([38]) (t0))) (by exact like_keys (ks := [Str.ofString "output", Str.ofString "charStack", Str.ofString "entityName", Str.ofString "entityLength"]) (.cons rfl (.cons rfl (.cons rfl (.cons rfl .nil)))) (by repeat' (first | ((with_reducible apply Bare.ite); rfl) | exact Bare.nil)) (by repeat' (first | ((with_reducible apply Bare.ite); rfl) | exact Bare.nil)))
          exact hX9 _ ([38]) none 0 σ its nn ([]) ([]) _ _ _ _ _ _ hr (by rw [he]; simpa using hI2) (KtsTurn.refl) B' X' T' ((List.append_nil _).symm) trivial (List.forall_mem_nil _) F₅ (News.tl ‹News _ _ _ _›)
        | some x =>
          obtain ⟨r', rfl, h0, hI2⟩ := hst
          obtain ⟨t1, rfl⟩ : ∃ t1, lv = .str (tx [x]) t1 := by
            rcases hlv2 with ⟨h, _⟩ | ⟨_, t1, h, h'⟩
            · cases h
            · cases h; exact ⟨t1, h'⟩
          rw [List.append_nil] at hI2
          k_steps
          unfold Stop
          have N₂ : News g' L' _ ([_] ++ r.led c its nn val tv σ) := ‹News _ _ _ _›
          refine unget_go1 hG hO hI2 h0 (List.forall_mem_singleton.mpr hD) rfl B' ‹Fr _ _ _ _› X' N₂ T' rfl (by dsimp only [ktrTop]; first | exact rm1 (by assumption) (by decide) | lia) (by dsimp only [ktrTop]; first | exact rm2 (by assumption) (by decide) | lia) (by first | assumption | exact Nat.succ_pos _ | lia | (dsimp only; lia)) ?_
          intro σ' h2 tk2 hI3 F2 N3
          clear N₂
          dsimp only [Rdr.led, Rdr.own, Strm.led, List.cons_append, List.nil_append] at N3
          k_steps
          try refine ⟨rfl, ?_⟩
          have F₅ := Fr.like ‹Fr _ _ _ _› (m' := ((fun (vc ve vl : Option Value) (o9 : List Nat) (t9 : Tok) => (fun y => if y = Str.ofString "output" then some (Value.str (tx o9) t9) else if y = Str.ofString "charStack" then vc else if y = Str.ofString "entityName" then ve else if y = Str.ofString "entityLength" then vl else List.lookup y [(Str.ofString "self", Value.ref r.rd), (Str.ofString "allowedChar", clV), (Str.ofString "fromAttribute", Value.bool inside)].reverse)) (some (.ref D)) (none) (none) ([38]) (t0))) (by exact like_keys (ks := [Str.ofString "output", Str.ofString "charStack", Str.ofString "entityName", Str.ofString "entityLength"]) (.cons rfl (.cons rfl (.cons rfl (.cons rfl .nil)))) (by repeat' (first | ((with_reducible apply Bare.ite); rfl) | exact Bare.nil)) (by repeat' (first | ((with_reducible apply Bare.ite); rfl) | exact Bare.nil)))
          exact hX9 _ ([38]) none 0 σ' its nn ([]) ([]) _ _ _ _ _ _ hr (by simpa using hI3) (KtsTurn.refl) B' X' T' ((List.append_nil _).symm) trivial (List.forall_mem_nil _) F₅ (News.tl ‹News _ _ _ _›)
      · rw [if_neg (fun e => hs (hb.symm.trans e))]
        obtain ⟨x, rfl⟩ : ∃ x, last = some x := by
          cases last with
          | none => rw [hst.1] at hs; exact absurd rfl hs
          | some x => exact ⟨x, rfl⟩
        obtain ⟨t1, rfl⟩ : ∃ t1, lv = .str (tx [x]) t1 := by
          rcases hlv2 with ⟨h, _⟩ | ⟨_, t1, h, h'⟩
          · cases h
          · cases h; exact ⟨t1, h'⟩
        have hx35 : (tx [x] == Str.ofString "#") = false := by
          obtain ⟨r', hr', -, -⟩ := hst
          rw [lit_hash, tx_beq]
          refine decide_eq_false (fun e => h35 ?_)
          rw [hr', (List.cons.inj e).1]
          exact .head _
        k_steps
        unfold Stop
        refine wpAny_If ?_
        k_steps
        unfold Stop
        refine cps (fun X => ∀ h' tk' σ its1 n1 pre last, (Stk its1 pre last) → (CharAt c σ seen rest pre last) → (alongOf rest = pre.length) → (Fr g' L' h' (fun y => if y = Str.ofString "charStack" then some (Value.ref D) else if y = Str.ofString "output" then some (Value.str (tx [38]) t0) else List.lookup y [(Str.ofString "self", Value.ref r.rd), (Str.ofString "allowedChar", clV), (Str.ofString "fromAttribute", Value.bool inside)].reverse)) → (News g' L' h' ((D, listOf its1 n1) :: r.led c its nn val tv σ)) → X .next (⟨h', g₉, d₉, tk', os₉⟩)) ?_ ?_
        · intro X9 hX9
          refine whileX (n₀ := rest.length) (fun kk m led => ∃ σ its1 n1 pre last, m = (fun y => if y = Str.ofString "charStack" then some (Value.ref D) else if y = Str.ofString "output" then some (Value.str (tx [38]) t0) else List.lookup y [(Str.ofString "self", Value.ref r.rd), (Str.ofString "allowedChar", clV), (Str.ofString "fromAttribute", Value.bool inside)].reverse) ∧ led = ((D, listOf its1 n1) :: r.led c its nn val tv σ) ∧ Stk its1 pre last ∧ CharAt c σ seen rest pre last ∧ hasPre pre = true ∧ kk = rest.length - pre.length)
            ‹Fr _ _ _ _› ‹News _ _ _ _› ⟨σ, _, _, [], some x, rfl, rfl, Stk.one hlv2, hst, by decide +kernel, rfl⟩ ?_ PassesOwn.never
          rintro Y9 hY9 kk m₁ led₁ h₁ tk₁ ⟨σ, its1, n1, pre, last, rfl, rfl, hS, hst1, hpre, rfl⟩ htk F₁ N₁
          dsimp only at htk
          have hpos : 0 < tk₁ := by lia
          dsimp only [Rdr.led, Rdr.own, Strm.led, List.cons_append, List.nil_append] at N₁
          have hlr := (inv_len hI hG.len).1
          have hple : pre.length ≤ rest.length := by
            cases last with
            | none => rw [hst1.1]; exact Nat.le_refl _
            | some y => obtain ⟨_, e, -, -⟩ := hst1; rw [e, List.length_append]; lia
          have hsz := hS.size
          k_steps
          unfold Stop
          obtain ⟨vs, lv2, e1, e2, e3, e4, e5⟩ := hS.lastv
          refine kde_neg (l := D) (vs := its1.toList) (by rw [Array.toArray_toList]; exact ⟨_, (‹News _ _ _ _› _ (.head _)).1, rfl, _, rfl⟩) (by decide) (by decide) (seqIndex?_neg_one (by rw [Array.length_toList]; lia)) (by rw [Array.length_toList]; exact e2) ?_
          cases last with
          | none =>
            obtain rfl : lv2 = .none := by
              rcases e5 with ⟨_, h⟩ | ⟨_, _, h, _⟩
              · exact h
              · cases h
            k_steps
            try refine ⟨rfl, ?_⟩
            refine hX9 _ _ σ its1 _ pre none hS hst1 ?_ (‹Fr _ _ _ _›) (‹News _ _ _ _›)
            rw [alongOf, hst1.1]
            exact go_end pre [] hpre
          | some y =>
            obtain ⟨t3, rfl⟩ : ∃ t3, lv2 = .str (tx [y]) t3 := by
              rcases e5 with ⟨h, _⟩ | ⟨_, t3, h, h'⟩
              · cases h
              · cases h; exact ⟨t3, h'⟩
            obtain ⟨r2, hr2, h02, hI2⟩ := id hst1
            k_steps
            unfold Stop
            refine wpAny_If ?_
            k_steps
            unfold Stop
            refine wpAny_toks (n := 1) (by first | assumption | exact Nat.succ_pos _ | lia | (dsimp only; lia)) ?_
            have hsum := sgs_sum (pre ++ [y])
            have hlen := sgs_len (pre ++ [y])
            rw [List.length_append, List.length_singleton] at hsum hlen
            refine join_listW (D := D) (items := its1) ⟨_, (‹News _ _ _ _› _ (.head _)).1, rfl, _, rfl⟩ hS.strs (by decide) (by lia) ?_
            intro t' k2 hk2
            rw [lit_nil, sgs_join]
            k_steps
            unfold Stop
            have N₂ := ‹News _ _ _ _›
            refine Ctr.use (has_spec w (pre ++ [y]) t' (by rw [List.length_append, List.length_singleton]; lia)) rfl B' ‹Fr _ _ _ _› X' News.nil T' rfl (by dsimp only [ktrTop]; first | exact rm1 (by assumption) (by decide) | lia) (by dsimp only [ktrTop]; first | exact rm2 (by assumption) (by decide) | lia) (by first | assumption | exact Nat.succ_pos _ | lia | (dsimp only; lia)) ?_
            rintro z foot' h2 tk2 ⟨rfl, rfl⟩ F2 N2 K2
            have N3 := News.keep0 N₂ K2
            clear N₂ N2
            cases hp2 : hasPre (pre ++ [y]) with
            | false =>
              k_steps
              try refine ⟨rfl, ?_⟩
              refine hX9 _ _ σ its1 _ pre (some y) hS hst1 ?_ (‹Fr _ _ _ _›) (‹News _ _ _ _›)
              rw [alongOf, hr2]
              exact go_stop pre [] y r2 hpre hp2
            | true =>
              k_steps
              unfold Stop
              have N₂ : News g' L' _ ([_] ++ r.led c its nn val tv σ) := ‹News _ _ _ _›
              refine char_go2 (rest := rest) hG hO hI2 (List.forall_mem_singleton.mpr hD) rfl B' ‹Fr _ _ _ _› X' N₂ T' rfl (by dsimp only [ktrTop]; first | exact rm1 (by assumption) (by decide) | lia) (by dsimp only [ktrTop]; first | exact rm2 (by assumption) (by decide) | lia) (by first | assumption | exact Nat.succ_pos _ | lia | (dsimp only; lia)) ?_
              intro z2 σ2 last2 h3 tk3 hlv3 hst2 F3 N4
              clear N₂
              dsimp only [Rdr.led, Rdr.own, Strm.led, List.cons_append, List.nil_append] at N4
              k_steps
              refine ⟨_, _, _, _, _, ?lt, rfl, ‹Fr _ _ _ _›, ‹News _ _ _ _›, hY9 _ _ _ ⟨σ2, _, _, pre ++ [y], last2, rfl, rfl, hS.push hlv3, by rw [hr2]; exact hst2, hp2, rfl⟩⟩
              case lt =>
                rw [hr2]
                simp only [List.length_append, List.length_cons, List.length_nil]
                lia
        · rintro h' tk' σ its1 n1 pre last hS hst1 hal F' N' hp9
          dsimp only at hp9
          dsimp only [Rdr.led, Rdr.own, Strm.led, List.cons_append, List.nil_append] at N'
          k_steps
          unfold Stop
          refine cps (fun X => ∀ g2 h' tk' ve vl, (KtsTurn [L] g' g2) → (Below (ktrTop dp un gd cn cs L a ccd [] []) base [envX cn cs L a ccd []] g2) → ((KW w.params).In g2) → (TopQ mean mg mb g2) → (((∃ b t4 t5, bestPre pre = some b ∧ ve = some (.str (tx b) t4) ∧ vl = some (.int (b.length : Nat) t5)) ∨ (bestPre pre = none ∧ ve = some .none))) → (Fr g2 L' h' (fun y => if y = Str.ofString "entityName" then ve else if y = Str.ofString "entityLength" then vl else (fun y => if y = Str.ofString "charStack" then some (Value.ref D) else if y = Str.ofString "output" then some (Value.str (tx [38]) t0) else List.lookup y [(Str.ofString "self", Value.ref r.rd), (Str.ofString "allowedChar", clV), (Str.ofString "fromAttribute", Value.bool inside)].reverse) y)) → (News g2 L' h' ((D, listOf its1 n1) :: r.led c its nn val tv σ)) → X .next (⟨h', g₉, d₉, tk', os₉⟩)) ?_ ?_
          · intro X9 hX9
            refine wpAny_Try_except ?_
            refine wpAny_toks (n := 1) (by first | assumption | exact Nat.succ_pos _ | lia | (dsimp only; lia)) ?_
            k_steps
            obtain ⟨vs, lv2, e1, e2, e3, e4, e5⟩ := hS.lastv
            have hlr := (inv_len hI hG.len).1
            have hple : pre.length ≤ rest.length := by
              cases last with
              | none => rw [hst1.1]; exact Nat.le_refl _
              | some y => obtain ⟨_, e, -, -⟩ := hst1; rw [e, List.length_append]; lia
            have hsz := hS.size
            unfold Stop
            refine kmk_slice (l := D) (its := its1) (lo := none) (hi := some (-1)) (s := ⟨_, _, _, _, _⟩) ‹Fr _ _ _ _› ‹News _ _ _ _› ⟨_, (‹News _ _ _ _› _ (.head _)).1, rfl, _, rfl⟩ (.none) (.int _ _) ?_ (by with_unfolding_all rfl) (by intro _; with_unfolding_all rfl) (by rw [PySem.sizeLine_eq]; lia)
            intro D2 h3 F3 N3 l3
            rw [pick_but e1] at N3
            k_steps
            unfold Stop
            refine wpAny_toks (n := 1) (by first | assumption | exact Nat.succ_pos _ | lia | (dsimp only; lia)) ?_
            have hsum := sgs_sum pre
            have hlen := sgs_len pre
            refine join_listW (D := D2) (items := vs.toArray) ⟨_, (‹News _ _ _ _› _ (.head _)).1, rfl, _, rfl⟩ e4 (by decide) (by lia) ?_
            intro t' k2 hk2
            rw [lit_nil, sgs_join]
            k_steps
            unfold Stop
            refine CtrX.use (longest_spec w pre t' (by lia)) rfl B' ‹Fr _ _ _ _› X' (News.tl ‹News _ _ _ _›) T' rfl (by dsimp only [ktrTop]; first | exact rm1 (by assumption) (by decide) | lia) (by dsimp only [ktrTop]; first | exact rm2 (by assumption) (by decide) | lia) (by first | assumption | exact Nat.succ_pos _ | lia | (dsimp only; lia)) ?_ ?_
            · rintro z h4 tk4 ⟨b, t4, rfl, hb⟩ F4 N4
              have hbl := (best_le _ hb).1
              have hbt := tx_length b
              k_steps
              try refine ⟨rfl, ?_⟩
              exact hX9 g' _ _ _ _ (KtsTurn.refl) B' X' T' (.inl ⟨b, _, _, hb, rfl, rfl⟩) (Fr.like ‹Fr _ _ _ _› (by exact like_keys (ks := [Str.ofString "entityName", Str.ofString "entityLength"]) (.cons rfl (.cons rfl .nil)) (by repeat' (first | ((with_reducible apply Bare.ite); rfl) | exact Bare.nil)) (by repeat' (first | ((with_reducible apply Bare.ite); rfl) | exact Bare.nil)))) (‹News _ _ _ _›)
            · rintro e G h4 tk4 hbad FG RS U
              dsimp only
              intro hk4
              refine caught_SN0 (T' := "KeyError") RS FG B' U XB TB D' KtsTurn.refl ?ex PyProof.Rows.Boot.«KeyError» ?hn kr_isExc_KeyError kr_notTuple_KeyError ?hs ?_
              case ex => k_is
              case hn => decide
              case hs => rw [isSubtype_type]; kernel_rfl
              rintro h5 g2 KT F5 N5 B5 X5 T5 D5
              k_steps
              try refine ⟨rfl, ?_⟩
              exact hX9 g2 _ _ _ none KT B5 X5 T5 (.inr ⟨hbad, rfl⟩) (Fr.like ‹Fr _ _ _ _› (by exact like_keys (ks := [Str.ofString "entityName", Str.ofString "entityLength"]) (.cons rfl (.cons rfl .nil)) (by repeat' (first | ((with_reducible apply Bare.ite); rfl) | exact Bare.nil)) (by repeat' (first | ((with_reducible apply Bare.ite); rfl) | exact Bare.nil)))) (‹News _ _ _ _›)
          · rintro g2 h' tk' ve vl KT B2 X2 T2 hbest F' N' hp10
            dsimp only at hp10
            dsimp only [Rdr.led, Rdr.own, Strm.led, List.cons_append, List.nil_append] at N'
            clear B' X' T'
            obtain ⟨htk, hple⟩ := hst1.take
            have hlr := (inv_len hI hG.len).1
            have hsz := hS.size
            obtain ⟨vs, lv2, e1, e2, e3, e4, e5⟩ := hS.lastv
            have hap : rest.take (alongOf rest) = pre := by rw [hal]; exact htk
            rcases hbest with ⟨b, t4, t5, hb, rfl, rfl⟩ | ⟨hb, rfl⟩
            · have hbl := best_le _ hb
              have hbn : b ≠ [] := by
                intro e
                have := hbl.2.1
                rw [e, entV_nil] at this
                cases this
              have hbt := tx_length b
              have hb0 := List.length_pos_iff.mpr hbn
              have hitem := item_last b hbn
              k_steps
              unfold Stop
              refine wpAny_If ?_
              k_steps
              unfold Stop
              refine cps (fun X => ∀ h' tk' told its2 nn2 ex add, (told = (if b.getLast? = some 59 then none else some (Str.ofString "named-entity-without-semicolon"))) → (its2.toList = its.toList ++ add) → (Tks w ex add ((told.map fun e => ((7 : Int), e)).toList)) → ((∀ p ∈ ex, @LT.lt Nat _ r.dl p.1)) → ((∀ p ∈ ex, p.1 ≠ D)) → (Fr g2 L' h' (fun y => if y = Str.ofString "entityName" then some (.str (tx b) t4) else if y = Str.ofString "entityLength" then some (.int (b.length : Nat) t5) else (fun y => if y = Str.ofString "charStack" then some (Value.ref D) else if y = Str.ofString "output" then some (Value.str (tx [38]) t0) else List.lookup y [(Str.ofString "self", Value.ref r.rd), (Str.ofString "allowedChar", clV), (Str.ofString "fromAttribute", Value.bool inside)].reverse) y)) → (News g2 L' h' ((D, listOf its1 n1) :: (r.led c its2 nn2 val tv σ ++ ex))) → X .next (⟨h', g₉, d₉, tk', os₉⟩)) ?_ ?_
              · intro X9 hX9
                refine wpAny_If ?_
                by_cases hsc : b.getLast? = some 59
                · have hse : (Txt.item (tx b) (-1) != Str.ofString ";") = false := by rw [semi_ne b hbn, decide_eq_true hsc]; rfl
                  k_steps
                  try refine ⟨rfl, ?_⟩
                  exact hX9 _ _ none its nn ([]) ([]) ((if_pos hsc).symm) ((List.append_nil _).symm) trivial (List.forall_mem_nil _) (List.forall_mem_nil _) (‹Fr _ _ _ _›) (‹News _ _ _ _›)
                · have hse : (Txt.item (tx b) (-1) != Str.ofString ";") = true := by rw [semi_ne b hbn, decide_eq_false hsc]; rfl
                  k_steps
                  try refine ⟨rfl, ?_⟩
                  refine hX9 _ _ (some (Str.ofString "named-entity-without-semicolon")) (its.push _) _ ([_]) ([.ref _]) ((if_neg hsc).symm) (Array.toList_push) (⟨rfl, ⟨_, _, ‹Obj.IsDictOf _ _ (strPairs _)›⟩, trivial⟩) ?_ ?_ (‹Fr _ _ _ _›) (News.rot ‹News _ _ _ _›)
                  · exact List.forall_mem_singleton.mpr (by first | lia | (dsimp only; lia))
                  · exact List.forall_mem_singleton.mpr (by first | k_ne | lia | (dsimp only; lia))
              · rintro h' tk' told its2 nn2 ex add htold hadd htks hex1 hex2 F' N' hp11
                dsimp only at hp11
                dsimp only [Rdr.led, Rdr.own, Strm.led, List.cons_append, List.nil_append] at N'
                k_steps
                unfold Stop
                refine wpAny_If ?_
                refine cps (fun X => ∀ β h' tk', (β = (!decide (b.getLast? = some 59) && (inside && wordlyAt rest[b.length]?))) → (Fr g2 L' h' (fun y => if y = Str.ofString "entityName" then some (.str (tx b) t4) else if y = Str.ofString "entityLength" then some (.int (b.length : Nat) t5) else (fun y => if y = Str.ofString "charStack" then some (Value.ref D) else if y = Str.ofString "output" then some (Value.str (tx [38]) t0) else List.lookup y [(Str.ofString "self", Value.ref r.rd), (Str.ofString "allowedChar", clV), (Str.ofString "fromAttribute", Value.bool inside)].reverse) y)) → (News g2 L' h' ((D, listOf its1 n1) :: (r.led c its2 nn2 val tv σ ++ ex))) → X β (⟨h', g₉, d₉, tk', os₉⟩)) ?_ ?_
                · intro X9 hX9
                  obtain ⟨z, hz1, hz2⟩ := hS.at hst1 (k := b.length) hbl.1
                  have hz3 : its1[((b.length : Nat) : Int).toNat]? = some z := by rw [Int.toNat_natCast, ← Array.getElem?_toList]; exact hz1
                  by_cases hsc : b.getLast? = some 59
                  · have hse : (Txt.item (tx b) (-1) != Str.ofString ";") = false := by rw [semi_ne b hbn, decide_eq_true hsc]; rfl
                    k_steps
                    exact hX9 _ _ _ (by rw [decide_eq_true hsc]; rfl) (‹Fr _ _ _ _›) (‹News _ _ _ _›)
                  · have hse : (Txt.item (tx b) (-1) != Str.ofString ";") = true := by rw [semi_ne b hbn, decide_eq_false hsc]; rfl
                    cases inside with
                    | true =>
                      rcases hz2 with ⟨hz4, rfl⟩ | ⟨y, ty, hz4, rfl⟩
                      · k_steps
                        exact hX9 _ _ _ (by rw [decide_eq_false hsc, hz4]; rfl) (‹Fr _ _ _ _›) (‹News _ _ _ _›)
                      · k_steps
                        all_goals (
                          refine hX9 _ _ _ ?_ (‹Fr _ _ _ _›) (‹News _ _ _ _›)
                          rw [decide_eq_false hsc, hz4]
                          first
                            | exact wl ‹_›
                            | exact wd ‹_› ‹_›
                            | exact we ‹_› ‹_› ‹_›
                            | exact wn ‹_› ‹_› ‹_›)
                    | false =>
                      k_steps
                      exact hX9 _ _ _ (by rw [decide_eq_false hsc]; rfl) (‹Fr _ _ _ _›) (‹News _ _ _ _›)
                · rintro β h' tk' hβ F' N'
                  dsimp only [Rdr.led, Rdr.own, Strm.led, List.cons_append, List.nil_append] at N'
                  have hr := ref_two hs hap hal hb hβ
                  rw [← htold] at hr
                  cases β with
                  | true =>
                    k_steps
                    unfold Stop
                    refine kl_pop ‹Fr _ _ _ _› ‹News _ _ _ _› e3 (by k_upd) (by rw [Array.length_toList, PySem.sizeLine_eq]; lia) ?_
                    intro h6 F6 N6
                    k_steps
                    unfold Stop
                    have N₂ : News g2 L' h6 ((D, listOf vs.toArray (n1 + 1)) :: (r.led c its2 nn2 val tv σ ++ ex)) := ‹News _ _ _ _›
                    have N₂ := News.front N₂
                    refine unget_go hG hO hst1 e5 (List.forall_mem_cons.mpr ⟨hD, hex1⟩) rfl B2 ‹Fr _ _ _ _› X2 N₂ T2 rfl (by dsimp only [ktrTop]; first | exact rm1 (by assumption) (by decide) | lia) (by dsimp only [ktrTop]; first | exact rm2 (by assumption) (by decide) | lia) (by first | assumption | exact Nat.succ_pos _ | lia | (dsimp only; lia)) ?_
                    intro σ' h7 tk7 hI3 F7 N7
                    have N8 := News.back N7
                    clear N₂ N7
                    dsimp only [Rdr.led, Rdr.own, Strm.led, List.cons_append, List.nil_append] at N8
                    k_steps
                    unfold Stop
                    refine wpAny_toks (n := 1) (by first | assumption | exact Nat.succ_pos _ | lia | (dsimp only; lia)) ?_
                    have hsum := sgs_sum pre
                    have hlen := sgs_len pre
                    have hpl := tx_length pre
                    refine join_listW (D := D) (items := vs.toArray) ⟨_, (‹News _ _ _ _› (D, listOf vs.toArray (n1 + 1)) (by k_mem)).1, rfl, _, rfl⟩ e4 (by decide) (by lia) ?_
                    intro t' k2 hk2
                    rw [lit_nil, sgs_join]
                    k_steps
                    have F₅ := ‹Fr _ _ _ _›
                    rw [lit_amp, tx_append] at F₅
                    have N₅ : News g2 L' _ ((D, listOf vs.toArray (n1 + 1)) :: (r.led c its2 nn2 val tv σ' ++ ex)) := ‹News _ _ _ _›
                    try refine ⟨rfl, ?_⟩
                    exact hX9 g2 _ _ _ σ' _ _ ex add _ (some (.ref D)) (some (.str (tx b) t4)) (some (.int (b.length : Nat) t5)) _ _ hr (by rw [htk]; exact hI3) KT B2 X2 T2 hadd htks hex1 (Fr.like F₅ (by exact like_keys (ks := [Str.ofString "output", Str.ofString "charStack", Str.ofString "entityName", Str.ofString "entityLength"]) (.cons rfl (.cons rfl (.cons rfl (.cons rfl .nil)))) (by repeat' (first | ((with_reducible apply Bare.ite); rfl) | exact Bare.nil)) (by repeat' (first | ((with_reducible apply Bare.ite); rfl) | exact Bare.nil)))) (News.tl (News.front N₅))
                  | false =>
                    obtain ⟨te, hte⟩ := ent_sign hbl.2.1
                    k_steps
                    unfold Stop
                    refine topItem_K (a := 43) ‹Fr _ _ _ _› X2 (ent_obj _) (ent_lit _) (v := .str (tx (signOf b)) te) (by rw [ent_find, hte]) ?_
                    k_steps
                    unfold Stop
                    refine kl_pop ‹Fr _ _ _ _› ‹News _ _ _ _› e3 (by k_upd) (by rw [Array.length_toList, PySem.sizeLine_eq]; lia) ?_
                    intro h6 F6 N6
                    k_steps
                    unfold Stop
                    have N₂ : News g2 L' h6 ((D, listOf vs.toArray (n1 + 1)) :: (r.led c its2 nn2 val tv σ ++ ex)) := ‹News _ _ _ _›
                    have N₂ := News.front N₂
                    refine unget_go hG hO hst1 e5 (List.forall_mem_cons.mpr ⟨hD, hex1⟩) rfl B2 ‹Fr _ _ _ _› X2 N₂ T2 rfl (by dsimp only [ktrTop]; first | exact rm1 (by assumption) (by decide) | lia) (by dsimp only [ktrTop]; first | exact rm2 (by assumption) (by decide) | lia) (by first | assumption | exact Nat.succ_pos _ | lia | (dsimp only; lia)) ?_
                    intro σ' h7 tk7 hI3 F7 N7
                    have N8 := News.back N7
                    clear N₂ N7
                    dsimp only [Rdr.led, Rdr.own, Strm.led, List.cons_append, List.nil_append] at N8
                    k_steps
                    have hvl : vs.length = pre.length := by rw [StrsAre.len e4, sgs_len]
                    unfold Stop
                    refine kmk_slice (l := D) (its := vs.toArray) (lo := some ((b.length : Nat) : Int)) (hi := none) (s := ⟨_, _, _, _, _⟩) ‹Fr _ _ _ _› ‹News _ _ _ _› ⟨_, (‹News _ _ _ _› (D, listOf vs.toArray (n1 + 1)) (by k_mem)).1, rfl, _, rfl⟩ (.int _ _) (.none) ?_ (by with_unfolding_all rfl) (by intro _; with_unfolding_all rfl) (by rw [PySem.sizeLine_eq, List.size_toArray]; lia)
                    intro D2 h8 F8 N9 l8
                    rw [pick_from vs.toArray b.length (by rw [List.size_toArray]; lia)] at N9
                    k_steps
                    unfold Stop
                    refine wpAny_toks (n := 1) (by first | assumption | exact Nat.succ_pos _ | lia | (dsimp only; lia)) ?_
                    have hsum := sgs_sum (pre.drop b.length)
                    have hlen := sgs_len (pre.drop b.length)
                    have hpl := tx_length (pre.drop b.length)
                    have hdl : (pre.drop b.length).length ≤ 2002 := by rw [List.length_drop]; lia
                    have hsl := sign_len b
                    have hst2 := tx_length (signOf b)
                    have e6 : StrsAre (vs.drop b.length) (sgs (pre.drop b.length)) := by rw [← sgs_drop]; exact StrsAre.drop e4 _
                    refine join_listW (D := D2) (items := (vs.drop b.length).toArray) ⟨_, (‹News _ _ _ _› (D2, listOf (vs.drop b.length).toArray 0) (by k_mem)).1, rfl, _, rfl⟩ e6 (by decide) (by lia) ?_
                    intro t' k2 hk2
                    rw [lit_nil, sgs_join]
                    k_steps
                    have F₅ := ‹Fr _ _ _ _›
                    rw [tx_append] at F₅
                    have N₅ : News g2 L' _ ((D, listOf vs.toArray (n1 + 1)) :: (r.led c its2 nn2 val tv σ' ++ ex)) := News.tl ‹News _ _ _ _›
                    try refine ⟨rfl, ?_⟩
                    exact hX9 g2 _ _ _ σ' _ _ ex add _ (some (.ref D)) (some (.str (tx b) t4)) (some (.int (b.length : Nat) t5)) _ _ hr (by rw [htk]; exact hI3) KT B2 X2 T2 hadd htks hex1 (Fr.like F₅ (by exact like_keys (ks := [Str.ofString "output", Str.ofString "charStack", Str.ofString "entityName", Str.ofString "entityLength"]) (.cons rfl (.cons rfl (.cons rfl (.cons rfl .nil)))) (by repeat' (first | ((with_reducible apply Bare.ite); rfl) | exact Bare.nil)) (by repeat' (first | ((with_reducible apply Bare.ite); rfl) | exact Bare.nil)))) (News.tl (News.front N₅))
            · skip
              have hr : refOut cl inside rest = (38 :: pre, some (Str.ofString "expected-named-entity"), pre.length) := by
                unfold refOut
                rw [if_neg hs, hap, hb, hal]
              k_steps
              unfold Stop
              refine wpAny_If ?_
              k_steps
              unfold Stop
              refine kl_pop ‹Fr _ _ _ _› ‹News _ _ _ _› e3 (by k_upd) (by rw [Array.length_toList, PySem.sizeLine_eq]; lia) ?_
              intro h6 F6 N6
              k_steps
              unfold Stop
              obtain ⟨d9, o9, N₂, h9, hd9⟩ : ∃ d9 o9, News g2 L' h6 ([(d9, o9), (D, listOf vs.toArray (n1 + 1))] ++ r.led c (its.push (.ref d9)) (nn + 1) val tv σ) ∧ @LT.lt Nat _ r.dl d9 ∧
                 ∃ t1 t2, o9.IsDictOf (PySem.strKind pw_te0025_01 w) [(Str.ofString "type", .int 7 t1), (Str.ofString "data", .str (Str.ofString "expected-named-entity") t2)] := ⟨_, _, ‹News _ _ _ _›, by lia, _, _, ‹Obj.IsDictOf _ _ (strPairs _)›⟩
              refine unget_go hG hO hst1 e5 (List.forall_mem_cons.mpr ⟨h9, List.forall_mem_cons.mpr ⟨hD, List.forall_mem_nil _⟩⟩) rfl B2 ‹Fr _ _ _ _› X2 N₂ T2 rfl (by dsimp only [ktrTop]; first | exact rm1 (by assumption) (by decide) | lia) (by dsimp only [ktrTop]; first | exact rm2 (by assumption) (by decide) | lia) (by first | assumption | exact Nat.succ_pos _ | lia | (dsimp only; lia)) ?_
              intro σ' h7 tk7 hI3 F7 N8
              clear N₂
              dsimp only [Rdr.led, Rdr.own, Strm.led, List.cons_append, List.nil_append] at N8
              k_steps
              unfold Stop
              refine wpAny_toks (n := 1) (by first | assumption | exact Nat.succ_pos _ | lia | (dsimp only; lia)) ?_
              have hsum := sgs_sum pre
              have hlen := sgs_len pre
              have hpl := tx_length pre
              refine join_listW (D := D) (items := vs.toArray) ⟨_, (‹News _ _ _ _› (D, listOf vs.toArray (n1 + 1)) (by k_mem)).1, rfl, _, rfl⟩ e4 (by decide) (by lia) ?_
              intro t' k2 hk2
              rw [lit_nil, sgs_join]
              k_steps
              have F₅ := ‹Fr _ _ _ _›
              rw [lit_amp, tx_append] at F₅
              try refine ⟨rfl, ?_⟩
              exact hX9 g2 _ _ _ σ' _ _ ([_]) ([.ref _]) _ (some (.ref D)) (some .none) _ _ _ hr (by rw [htk]; exact hI3) KT B2 X2 T2 (Array.toList_push) (⟨rfl, hd9, trivial⟩) (List.forall_mem_singleton.mpr h9) (Fr.like F₅ (by exact like_keys (ks := [Str.ofString "output", Str.ofString "charStack", Str.ofString "entityName", Str.ofString "entityLength"]) (.cons rfl (.cons rfl (.cons rfl (.cons rfl .nil)))) (by repeat' (first | ((with_reducible apply Bare.ite); rfl) | exact Bare.nil)) (by repeat' (first | ((with_reducible apply Bare.ite); rfl) | exact Bare.nil)))) (News.drop2 ‹News _ _ _ _›)
  · rintro g2 out told n σ2 its2 nn2 ex add ot vc ve vl h' tk' hr hI2 KT B2 X2 T2 hadd htks hex F' N' hp9
    dsimp only at hp9
    have N' := News.flip N'
    dsimp only [Rdr.led, Rdr.own, Strm.led, List.cons_append, List.nil_append] at N'
    clear B' X' T'
    have hsp := out_word cl inside rest
    rw [hr] at hsp
    dsimp only at hsp
    have ho1 : ∀ p ∈ ex, p.1 ≠ r.pl := fun p hp => neN (show @Ne Nat _ _ by have := hex p hp; lia)
    have ho2 : ∀ p ∈ ex, p.1 ≠ r.tq := fun p hp => neN (show @Ne Nat _ _ by have := hex p hp; lia)
    have hlo := tx_length out
    have hlv := tx_length val
    have hol : out.length ≤ 2100 := by
      have h1 := out_len cl inside rest
      rw [hr] at h1
      dsimp only at h1
      have := (inv_len hI hG.len).1
      lia
    have hsz2 : its2.size ≤ 110 := by
      have h1 := congrArg List.length hadd
      rw [List.length_append, Array.length_toList, Array.length_toList, Tks.len htks] at h1
      have := told_len told
      lia
    k_steps
    unfold Stop
    refine wpAny_If ?_
    cases inside with
    | true =>
      k_steps
      unfold Stop
      refine kde_neg (l := r.dl) (vs := [.ref r.pl]) ⟨_, (‹News _ _ _ _› (r.dl, listOf #[.ref r.pl] r.nd) (by k_mem)).1, rfl, _, rfl⟩ (by decide) (by decide) rfl rfl ?_
      k_steps
      refine wpAny_getItem_list (l := r.pl) (items := #[r.vk, .str (tx val) tv]) (x := .str (tx val) tv) ⟨_, (‹News _ _ _ _› (r.pl, listOf #[r.vk, .str (tx val) tv] r.np) (by k_mem)).1, rfl, _, rfl⟩ (by decide) (by decide) rfl ?_
      k_steps
      have N₅ := ‹News _ _ _ _›
      rw [tx_append] at N₅
      have N₆ : News g2 L' _ (r.led c its2 nn2 (val ++ out) _ σ2 ++ ex) := N₅
      refine ⟨g2, _, _, _, _, _, rfl, KT, ‹Fr _ _ _ _›, News.flip N₆, σ2, its2, nn2, ?tv, ex, add, ?e1, ?e2, hadd, ?e3, hex⟩
      case e1 => rw [hr]; rfl
      case e2 => rw [hr]; exact hI2
      case e3 => rw [hr]; simpa using htks
    | false =>
      k_steps
      unfold Stop
      refine wpAny_If ?_
      k_steps
      unfold Stop
      refine' topItem_K ‹Fr _ _ _ _› X2 ?hq1 ?hq2 ?hq3 ?_
      case hq1 => k_is
      case hq2 => k_keys
      case hq3 => k_is
      k_steps
      have N₅ : News g2 L' _ (_ :: (r.led c (its2.push _) (nn2 + 1) val tv σ2 ++ ex)) := ‹News _ _ _ _›
      refine ⟨g2, _, _, _, _, _, rfl, KT, ‹Fr _ _ _ _›, News.flip (News.rot2 N₅), σ2, its2.push _, _, tv, ex ++ [_], add ++ [.ref ?dd], rfl, ?e1, ?e2, ?e3, ?e4⟩
      case e2 => rw [Array.toList_push, hadd, List.append_assoc]
      case e1 => rw [hr]; exact hI2
      case e3 =>
        rw [hr]
        exact Tks.snoc htks ⟨_, _, ‹Obj.IsDictOf _ _ (strPairs _)›⟩
      case e4 =>
        intro p hp
        rcases List.mem_append.mp hp with hp | hp
        · exact hex p hp
        · rw [List.mem_singleton.mp hp]
          first | lia | (dsimp only; lia)
end consume_spec_V
theorem consume_spec_all (w : World) (c : Strm) (r : Rdr) (tv : Tok) (dp : Nat) (un : Nat) (gd : Option (List Code)) (cn : Str) (cs : Scope) (a : Addr) (ccd : Value) (A₀ : Around) (base : Heap) (h₀ : Heap) (L : Addr) (m : Str → Option Value) (s : Shared) (mean : ExcName → Option Value) (mg : Str → Option Value) (mb : Str → Option Value) (Q : Value → Shared → Prop) (E : Value → Shared → Prop) : consume_spec_S w c r tv dp un gd cn cs a ccd A₀ base h₀ L m s mean mg mb Q E := of_pick (S := consume_spec_F) (show consume_spec_F consume_spec_P by with_unfolding_all exact consume_spec_V.core) (w, c, r, tv, dp, un, gd, cn, cs, a, ccd, A₀, base, h₀, L, m, s, mean, mg, mb, Q, E)
theorem consume_spec (w : World) (c : Strm) (r : Rdr) (v : SV) (its : Array Value) (nn : Nat) (val : List Nat) (tv : Tok) (seen rest : List Nat) (cl : Option Nat) (clV : Value) (inside : Bool) (hG : Good c) (hO : r.Ord c) (hT : r.Cur w) (hI : Inv c v seen rest) (hcl : Ch cl clV) (h35 : 35 ∉ rest) (hits : its.size ≤ 100) (hval : val.length ≤ 5000) : CtrS w 283 [.ref r.rd, clV, .bool inside] 40 (r.led c its nn val tv v) (consumePost w c r its val seen rest cl inside) :=
  fun dp un gd cn cs a ccd A₀ base h₀ L m s mean mg mb Q E => consume_spec_all w c r tv dp un gd cn cs a ccd A₀ base h₀ L m s mean mg mb Q E v its nn val seen rest cl clV inside hG hO hT hI hcl h35 hits hval
end
section
/-- the reader as the law has made it -/
theorem News.sort {h₀ h : Heap} {L : Addr} {dl pl cd tq s l e ds dd n m st sd rd rdd : Addr × Obj} {rest : List (Addr × Obj)} (N : News h₀ L h (dl :: pl :: cd :: tq :: s :: l :: e :: ds :: dd :: n :: m :: st :: sd :: rd :: rdd :: rest)) : News h₀ L h ([rd, rdd, tq, cd, dl, pl, st, sd, ds, dd, m] ++ rest) :=
  List.forall_mem_cons.mpr ⟨N _ (.tail _ (.tail _ (.tail _ (.tail _ (.tail _ (.tail _ (.tail _ (.tail _ (.tail _ (.tail _ (.tail _ (.tail _ (.tail _ (.head _)))))))))))))), List.forall_mem_cons.mpr ⟨N _ (.tail _ (.tail _ (.tail _ (.tail _ (.tail _ (.tail _ (.tail _ (.tail _ (.tail _ (.tail _ (.tail _ (.tail _ (.tail _ (.tail _ (.head _))))))))))))))), List.forall_mem_cons.mpr ⟨N _ (.tail _ (.tail _ (.tail _ (.head _)))), List.forall_mem_cons.mpr ⟨N _ (.tail _ (.tail _ (.head _))), List.forall_mem_cons.mpr ⟨N _ (.head _), List.forall_mem_cons.mpr ⟨N _ (.tail _ (.head _)), List.forall_mem_cons.mpr ⟨N _ (.tail _ (.tail _ (.tail _ (.tail _ (.tail _ (.tail _ (.tail _ (.tail _ (.tail _ (.tail _ (.tail _ (.head _)))))))))))), List.forall_mem_cons.mpr ⟨N _ (.tail _ (.tail _ (.tail _ (.tail _ (.tail _ (.tail _ (.tail _ (.tail _ (.tail _ (.tail _ (.tail _ (.tail _ (.head _))))))))))))), List.forall_mem_cons.mpr ⟨N _ (.tail _ (.tail _ (.tail _ (.tail _ (.tail _ (.tail _ (.tail _ (.head _)))))))), List.forall_mem_cons.mpr ⟨N _ (.tail _ (.tail _ (.tail _ (.tail _ (.tail _ (.tail _ (.tail _ (.tail _ (.head _))))))))), List.forall_mem_cons.mpr ⟨N _ (.tail _ (.tail _ (.tail _ (.tail _ (.tail _ (.tail _ (.tail _ (.tail _ (.tail _ (.tail _ (.head _))))))))))), fun p hp => N p (.tail _ (.tail _ (.tail _ (.tail _ (.tail _ (.tail _ (.tail _ (.tail _ (.tail _ (.tail _ (.tail _ (.tail _ (.tail _ (.tail _ (.tail _ hp)))))))))))))))⟩⟩⟩⟩⟩⟩⟩⟩⟩⟩⟩
theorem mk_reader {h₀ h : Heap} {L : Addr} {w : World} {T : List Nat} {tt : Tok} {rest : List (Addr × Obj)}
    {rd rdd st sd mth dd ds tq cd pl dl er nl lf stm : Nat} {oc oe on_ ol om : Obj}
    {h0 h1 h2 h3 h4 h5 h6 h7 h8 h9 h10 h11 r0 r1 r2 r3 r4 r5 r6 r7 : Int} {t0 t1 t2 t3 t4 t5 t6 t7 t8 t9 t10 t11 s0 s1 s2 s3 s4 s5 s6 s7 : Tok} {a1 a2 a3 a4 a5 a6 a7 tk tv : Tok} {vnl vel vlf vst vk : Value} {em em2 : Str} {v1 v2 v3 : Value}
    (N : News h₀ L h ((dl, listOf #[.ref pl] 0) :: (pl, listOf #[vk, .str em2 tv] 0) :: (cd, oc) :: (tq, listOf #[] 0) :: (stm, om) :: (lf, ol) :: (er, oe) :: (ds, instObj 73 dd) ::
      (dd, dictOf [⟨h10, .str (Str.ofString "text") t10, .str (tx T) tt⟩, ⟨h11, .str (Str.ofString "place") t11, .int 0 a1⟩] 2) :: (nl, on_) :: (mth, methodObj (.ref 148) (.ref st)) :: (st, instObj 166 sd) ::
      (sd, dictOf [⟨h0, .str (Str.ofString "reportCharacterErrors") t0, .ref mth⟩, ⟨h1, .str (Str.ofString "newLines") t1, vnl⟩, ⟨h2, .str (Str.ofString "dataStream") t2, .ref ds⟩,
        ⟨h3, .str (Str.ofString "chunk") t3, .str em a2⟩, ⟨h4, .str (Str.ofString "chunkSize") t4, .int 0 a3⟩, ⟨h5, .str (Str.ofString "chunkOffset") t5, .int 0 a4⟩,
        ⟨h6, .str (Str.ofString "errors") t6, vel⟩, ⟨h7, .str (Str.ofString "prevNumLines") t7, .int 0 a5⟩, ⟨h8, .str (Str.ofString "prevNumCols") t8, .int 0 a6⟩, ⟨h9, .str (Str.ofString "_bufferedCharacter") t9, .none⟩] 10) ::
      (rd, instObj 762 rdd) ::
      (rdd, dictOf [⟨r0, .str (Str.ofString "stream") s0, .ref st⟩, ⟨r1, .str (Str.ofString "parser") s1, .none⟩, ⟨r2, .str (Str.ofString "escapeFlag") s2, .bool false⟩, ⟨r3, .str (Str.ofString "lastFourChars") s3, vlf⟩,
        ⟨r4, .str (Str.ofString "state") s4, vst⟩, ⟨r5, .str (Str.ofString "escape") s5, .bool false⟩, ⟨r6, .str (Str.ofString "currentToken") s6, .ref cd⟩, ⟨r7, .str (Str.ofString "tokenQueue") s7, .ref tq⟩] 8) :: rest))
    (he : em = tx []) (he2 : em2 = tx []) (hcur : oc.IsDictOf (PySem.strKind pw_te0025_01 w) [(Str.ofString "type", v1), (Str.ofString "name", v2), (Str.ofString "data", .ref dl), (Str.ofString "selfClosing", v3)])
    (o1 : rdd < rd) (o2 : rd < sd) (o3 : sd < st) (o4 : st < mth) (o5 : mth < dd) (o6 : dd < ds) (o7 : ds < tq) (o8 : tq < cd) (o9 : cd < pl) (o10 : pl < dl) :
    ∃ (c : Strm) (r : Rdr) (σ : SV) (tv' : Tok), News h₀ L h (r.led c #[] 0 [] tv' σ ++ rest) ∧ c.text = T ∧ r.rd = rd ∧ r.rdd = rdd ∧ r.dl = dl ∧ r.Ord c ∧ r.Cur w ∧ c.st = st ∧ r.tq = tq ∧ r.cd = cd ∧ r.pl = pl ∧ r.vk = vk ∧ r.np = 0 ∧ r.nd = 0 ∧ Inv c σ [] (mend T) ∧ σ.chunk = [] := by
  subst he he2
  have N2 := News.sort N
  refine ⟨⟨st, sd, ds, dd, mth, vnl, vel, fun i => match i with | 0 => h0 | 1 => h1 | 2 => h2 | 3 => h3 | 4 => h4 | 5 => h5 | 6 => h6 | 7 => h7 | 8 => h8 | 9 => h9 | 10 => h10 | _ => h11,
      fun i => match i with | 0 => t0 | 1 => t1 | 2 => t2 | 3 => t3 | 4 => t4 | 5 => t5 | 6 => t6 | 7 => t7 | 8 => t8 | 9 => t9 | 10 => t10 | _ => t11, T, tt⟩,
    ⟨rd, rdd, tq, cd, dl, pl, fun i => match i with | 0 => r0 | 1 => r1 | 2 => r2 | 3 => r3 | 4 => r4 | 5 => r5 | 6 => r6 | _ => r7,
      fun i => match i with | 0 => s0 | 1 => s1 | 2 => s2 | 3 => s3 | 4 => s4 | 5 => s5 | 6 => s6 | _ => s7, vlf, vst, vk, oc, 0, 0⟩,
    ⟨[], a2, 0, a3, 0, a4, 0, a5, 0, a6, .none, 0, a1⟩, tv, ?_, rfl, rfl, rfl, rfl, ⟨⟨o3, o4, o5, o6⟩, o1, o2, o7, o8, o9, o10⟩, ⟨v1, v2, v3, hcur⟩, rfl, rfl, rfl, rfl, rfl, rfl, rfl, ?_, rfl⟩
  · exact N2
  · exact ⟨rfl, Nat.le_refl _, Nat.zero_le _, .inl rfl, ⟨[], rfl, rfl, rfl⟩, rfl⟩
theorem item_listT {prog : Program} {w : World} {A : Around} {E : Value → Shared → Prop} {s : Shared} {value slice : PySem.Expr} {l : Addr} {items : Array Value} {k : Int} {u : Tok} {x : Value} {Q : Value → Shared → Prop} (hl : s.heap.IsList l items)
    (h0 : 0 ≤ k) (hfit : k < 2 ^ 63) (hx : items[k.toNat]? = some x) (h : Q x s)
    (hs : subscripted slice false (.ref l) (.int k u) = operate [.ref l, .int k u] (getItem (.ref l) (.int k u)) := by with_unfolding_all rfl) :
    wpAny (model prog w) A (subscriptTail value slice (.ref l) (.int k u)) Q E s :=
  tail_any hl.typeIs slot_list_getitem.lookup (wpAny_getItem_list hl h0 hfit hx h) hs
theorem way_at {h₀ h : Heap} {L l d0 d1 d2 d3 : Addr} {t1 t2 t3 : Tok} {rest : List (Addr × Obj)} (n : Int)
    (N : News h₀ L h ((l, listOf #[.ref d0, .ref d1, .ref d2, .ref d3] 0) :: (d3, tupOf #[.str (Str.ofString ">") t3, .bool true]) :: (d2, tupOf #[.str (Str.ofString "'") t2, .bool true]) :: (d1, tupOf #[.str (Str.ofString "\"") t1, .bool true]) :: (d0, tupOf #[.none, .bool false]) :: rest)) :
    h.IsList l #[.ref d0, .ref d1, .ref d2, .ref d3] ∧ ∃ d z, (#[Value.ref d0, .ref d1, .ref d2, .ref d3] : Array Value)[((n.fdiv 29).fmod 4).toNat]? = some (.ref d) ∧ Ch (wayOf n).1 z ∧ News h₀ L h ((d, tupOf #[z, .bool (wayOf n).2]) :: rest) ∧ (d = d3 ∨ d = d2 ∨ d = d1 ∨ d = d0) := by
  rw [show Str.ofString ">" = tx [62] by kernel_rfl, show Str.ofString "'" = tx [39] by kernel_rfl, show Str.ofString "\"" = tx [34] by kernel_rfl] at N
  refine ⟨⟨_, (N _ (.head _)).1, rfl, 0, rfl⟩, ?_⟩
  obtain ⟨d, z, h1, h2, h3⟩ := way_pick n (d0 := d0) (d1 := d1) (d2 := d2) (d3 := d3) (t1 := t1) (t2 := t2) (t3 := t3)
  refine ⟨d, z, h1, h2, ?_, ?_⟩
  · intro p hp
    rcases List.mem_cons.mp hp with rfl | hp
    · exact N _ (.tail _ (List.mem_append_left rest h3))
    · exact N p (.tail _ (.tail _ (.tail _ (.tail _ (.tail _ hp)))))
  · simp only [List.mem_cons, List.not_mem_nil, or_false] at h3
    rcases h3 with h | h | h | h <;> first | exact .inl (congrArg Prod.fst h) | exact .inr (.inl (congrArg Prod.fst h)) | exact .inr (.inr (.inl (congrArg Prod.fst h))) | exact .inr (.inr (.inr (congrArg Prod.fst h)))
theorem News.last3 {h₀ h : Heap} {L : Addr} {d a b c : Addr × Obj} {ts : List (Addr × Obj)} (N : News h₀ L h (d :: a :: b :: c :: ts)) : News h₀ L h (a :: b :: c :: (ts ++ [d])) := fun p hp => N p (by
  simp only [List.mem_cons, List.mem_append, List.not_mem_nil, or_false] at hp ⊢
  rcases hp with h | h | h | h | h <;> simp [h])
theorem ne_last {I d W : Addr} {a : Addr × Obj} {o o' o2 : Obj} {ts : List (Addr × Obj)} (N : ∀ p ∈ (a :: (W, o) :: ts), p.1 ≠ I) (hd : d ≠ I) : ∀ p ∈ (a :: (W, o') :: (ts ++ [(d, o2)])), p.1 ≠ I := fun p hp => by
  simp only [List.mem_cons, List.mem_append, List.not_mem_nil, or_false] at hp
  rcases hp with rfl | rfl | hp | rfl
  · exact N _ (.head _)
  · exact N (W, o) (.tail _ (.head _))
  · exact N p (.tail _ (.tail _ hp))
  · exact hd
end
section
local macro_rules | `(tactic| walk_at "none 0") => `(tactic| fail)
theorem place_spec (w : World) (l : List Nat) (tl : Tok) (hl : l.length ≤ 3000) : Ctr w 808 [.str (tx l) tl] 4 [] (fun r led => ∃ a n1 n2 t1 t2, r = .ref a ∧ led = [(a, tupOf #[.int n1 t1, .int n2 t2])] ∧ n1 = (l.count 10 : Nat) + 1 ∧ n2 = (tailLen l : Nat)) := by
  w_on
  have hll := tx_length l
  intro dp un gd cn cs a ccd cl outer A₀ base h₀ L m s mean mg mb Q E B F X N T hk hd hu hp hret
  refine' enter (binds := [(Str.ofString "head", .str (tx l) tl)]) B F X N T hk hret ?k6 ?k7 ?k8 ?k9 ?kB ?_ ?c5
  (case k6 => k_is)
  (case k7 => k_is)
  (case k8 => first | exact rm0 (by assumption) | lia)
  (case k9 => first | exact BindsTo.of_eq rfl | exact binds_K (by k_in) rfl (by k_is) rfl rfl rfl)
  (case c5 => decide)
  (case kB => exact rfl)
  clear hret N F T X B
  intro g' L' h' F' N' B' X' T' hlt
  refine flatD (Nat.add_pos_left hp _) ?_
  intro g₉ d₉ os₉ n₉ hp₉
  refine hideDone ?_
  intro R9 hR9
  (try dsimp only)
  (try k_fold)
  k_steps
  obtain ⟨h1, y2, h2, h3⟩ := split_rows l
  have hlk := ‹List.map _ _ = Txt.split _ _›
  have hlen := ‹∀ a : Str, a ∈ List.map _ _ → a.length ≤ _›
  rw [← hlk] at h1 h2
  rw [List.length_map] at h1
  refine item_strsTneg ⟨_, (‹News _ _ _ _› _ (.head _)).1, rfl, _, rfl⟩ (by decide) (by lia) (by decide) ?_
  intro y t' hy
  have hy2 := last_at (by lia) hy h2
  subst hy2
  have hyl := hlen _ (List.mem_of_getElem? hy)
  k_steps
  exact hR9 _ _ ⟨_, _, _, _, _, rfl, ‹Fr _ _ _ _›, News.sub ‹News _ _ _ _› (fun p hp => by rw [List.mem_singleton.mp hp]; exact .head _), _, _, _, _, _, rfl, rfl, by rw [h1]; rfl, by rw [h3]⟩
end
section
local macro_rules | `(tactic| walk_at "none 0") => `(tactic| fail)
local macro_rules | `(tactic| walk_at "exec Try") => `(tactic| (k_here; refine stop ?_))
theorem trie_spec (w : World) (l : List Nat) (tl : Tok) (hl : l.length ≤ 3000) : CtrS w 801 [.str (tx l) tl] 40 [] (fun r led => led = [] ∧ ∃ t, r = .str (tx ((bestPre l).getD [])) t) := by
  w_on
  have hll := tx_length l
  intro dp un gd cn cs a ccd A₀ base h₀ L m s mean mg mb Q E B F X N T XB TB hk hd hu hp hret
  have X := X
  have T := T
  refine' enterS (binds := [(Str.ofString "rest", .str (tx l) tl)]) B F X N T hk hret ?k6 ?k7 ?k8 ?k9 ?kB ?_ ?c5
  (case k6 => k_is)
  (case k7 => k_is)
  (case k8 => first | exact rm0 (by assumption) | lia)
  (case k9 => first | exact BindsTo.of_eq rfl | exact binds_K (by k_in) rfl (by k_is) rfl rfl rfl)
  (case c5 => decide)
  (case kB => exact rfl)
  clear hret N F T X B
  intro g' L' h' F' N' B' X' T' D' hlt
  refine flatS (Nat.add_pos_left hp _) ?_
  intro g₉ d₉ os₉ n₉ hp₉
  (try dsimp only)
  (try k_fold)
  k_steps
  unfold Stop
  refine exec_cut (fun s' => False) ?_ (fun _ h => h.elim)
  refine wpAny_Try_except ?_
  refine wpAny_toks (n := 1) (by first | assumption | exact Nat.succ_pos _ | lia | (dsimp only; lia)) ?_
  k_steps
  unfold Stop
  refine CtrX.use (longest_spec w l _ hl) rfl B' ‹Fr _ _ _ _› X' (news := []) News.nil T' rfl (by dsimp only [ktrTop]; first | exact rm1 (by assumption) (by decide) | lia) (by dsimp only [ktrTop]; first | exact rm2 (by assumption) (by decide) | lia) (by first | assumption | exact Nat.succ_pos _ | lia | (dsimp only; lia)) ?_ ?_
  · rintro z h4 tk4 ⟨b, t4, rfl, hb⟩ F4 N4
    k_steps
    refine .inr ⟨(fun e => nomatch e), ?_⟩
    exact ⟨g', [], _, _, _, _, rfl, KtsTurn.refl, ‹Fr _ _ _ _›, News.nil, rfl, _, by rw [hb]; rfl⟩
  · rintro e G h4 tk4 hbad FG RS U
    dsimp only
    intro hk4
    refine caught_SN0 (T' := "KeyError") RS FG B' U XB TB D' KtsTurn.refl ?ex PyProof.Rows.Boot.«KeyError» ?hn kr_isExc_KeyError kr_notTuple_KeyError ?hs ?_
    case ex => k_is
    case hn => decide
    case hs => rw [isSubtype_type]; kernel_rfl
    rintro h5 g2 KT F5 N5 B5 X5 T5 D5
    k_steps
    refine .inr ⟨(fun e => nomatch e), ?_⟩
    exact ⟨g2, [], _, _, _, _, rfl, KT, ‹Fr _ _ _ _›, News.nil, rfl, _, by rw [hbad]; exact congrArg (fun q => Value.str q _) lit_nil⟩
end
section

local macro_rules | `(tactic| walk_at "exec If") => `(tactic| (k_here; refine stop ?_))
theorem named_spec (w : World) (l : List Nat) (tl : Tok) (hl : l.length ≤ 3000) : Ctr w 787 [.str (tx l) tl] 6 [] (fun r led => ∃ a t1 t2, r = .ref a ∧ led = [(a, tupOf #[.str (tx (namedOf l).1) t1, .int ((namedOf l).2 : Nat) t2])]) := by
  w_on
  have hll := tx_length l
  intro dp un gd cn cs a ccd cl outer A₀ base h₀ L m s mean mg mb Q E B F X N T hk hd hu hp hret
  refine' enter (binds := [(Str.ofString "rest", .str (tx l) tl)]) B F X N T hk hret ?k6 ?k7 ?k8 ?k9 ?kB ?_ ?c5
  (case k6 => k_is)
  (case k7 => k_is)
  (case k8 => first | exact rm0 (by assumption) | lia)
  (case k9 => first | exact BindsTo.of_eq rfl | exact binds_K (by k_in) rfl (by k_is) rfl rfl rfl)
  (case c5 => decide)
  (case kB => exact rfl)
  clear hret N F T X B
  intro g' L' h' F' N' B' X' T' hlt
  refine flatD (Nat.add_pos_left hp _) ?_
  intro g₉ d₉ os₉ n₉ hp₉
  refine hideDone ?_
  intro R9 hR9
  (try dsimp only)
  (try k_fold)
  k_steps
  unfold Stop
  refine wpAny_For ?_
  k_steps
  have F₂ := ‹Fr _ _ _ _›
  rw [lit_nil] at F₂
  have F₃ := Fr.like F₂ (m' := (fun y => if y = Str.ofString "name" then none else if y = Str.ofString "size" then none else if y = Str.ofString "along" then some (Value.int ((0 : Nat) : Nat) _) else if y = Str.ofString "best" then some (Value.str (tx ([] : List Nat)) _) else List.lookup y [(Str.ofString "rest", Value.str (tx l) tl)].reverse)) (by exact like_keys (ks := [Str.ofString "name", Str.ofString "size", Str.ofString "along", Str.ofString "best"]) (.cons rfl (.cons rfl (.cons rfl (.cons rfl .nil)))) (by repeat' (first | ((with_reducible apply Bare.ite); rfl) | exact Bare.nil)) (by repeat' (first | ((with_reducible apply Bare.ite); rfl) | exact Bare.nil)))
  refine for_keys (kvs := entK) (ep := 43) (led₀ := []) (fun i m led => ∃ vn vs ta tb, m = (fun y => if y = Str.ofString "name" then vn else if y = Str.ofString "size" then vs else if y = Str.ofString "along" then some (Value.int ((((entL.take i).map (·.1)).foldl (namedStep l) ([], 0)).2 : Nat) ta) else if y = Str.ofString "best" then some (Value.str (tx (((entL.take i).map (·.1)).foldl (namedStep l) ([], 0)).1) tb) else List.lookup y [(Str.ofString "rest", Value.str (tx l) tl)].reverse) ∧ led = [])
    rfl (fun _ _ => rfl) (by decide) (ent_dict (X'.keeps F₂.keep)) ⟨_, X' _ _ (ent_obj _)⟩ F₃ ‹News _ _ _ _› ⟨_, _, _, _, rfl, rfl⟩ ?_ ?_ PassesOwn.never
  · rintro i k x t m₁ led₁ h tk I oI hk ⟨vn, vs, ta, tb, rfl, rfl⟩ hne hI htk F₁ N₁
    obtain ⟨p, hp, rfl⟩ := entK_at hk
    have hpos : 0 < tk := by first | lia | (dsimp only at htk; lia)
    have hnl := (ent_name_len p (List.mem_of_getElem? hp)).1
    have hnt := tx_length p.1
    rw [named_take hp]
    obtain ⟨bs, hbs⟩ : ∃ bs, bs = ((entL.take i).map (·.1)).foldl (namedStep l) ([], 0) := ⟨_, rfl⟩
    have hbl := named_len_at l i
    rw [← hbs] at F₁ hbl ⊢
    obtain ⟨b, a⟩ := bs
    dsimp only at F₁ hbl ⊢
    have hbt := tx_length b
    k_steps
    unfold Stop
    have F₂ := Fr.like ‹Fr _ _ _ _› (m' := (fun y => if y = Str.ofString "name" then some (.str (tx p.1) t) else if y = Str.ofString "size" then some (.int (0 : Nat) _) else if y = Str.ofString "along" then some (Value.int (a : Nat) ta) else if y = Str.ofString "best" then some (Value.str (tx b) tb) else List.lookup y [(Str.ofString "rest", Value.str (tx l) tl)].reverse)) (by exact like_keys (ks := [Str.ofString "name", Str.ofString "size", Str.ofString "along", Str.ofString "best"]) (.cons rfl (.cons rfl (.cons rfl (.cons rfl .nil)))) (by repeat' (first | ((with_reducible apply Bare.ite); rfl) | exact Bare.nil)) (by repeat' (first | ((with_reducible apply Bare.ite); rfl) | exact Bare.nil)))
    refine exec_cut (fun s' => ∃ h' tk' ts, s' = ⟨h', g₉, d₉, tk', os₉⟩ ∧ Fr g' L' h' (fun y => if y = Str.ofString "name" then some (.str (tx p.1) t) else if y = Str.ofString "size" then some (.int (lcp l p.1 : Nat) ts) else if y = Str.ofString "along" then some (Value.int (a : Nat) ta) else if y = Str.ofString "best" then some (Value.str (tx b) tb) else List.lookup y [(Str.ofString "rest", Value.str (tx l) tl)].reverse) ∧ News g' L' h' [(I, oI)]) ?_ ?_
    · refine whileJ (n₀ := p.1.length) (fun kk m led => ∃ q ts, m = (fun y => if y = Str.ofString "name" then some (.str (tx p.1) t) else if y = Str.ofString "size" then some (.int (q : Nat) ts) else if y = Str.ofString "along" then some (Value.int (a : Nat) ta) else if y = Str.ofString "best" then some (Value.str (tx b) tb) else List.lookup y [(Str.ofString "rest", Value.str (tx l) tl)].reverse) ∧ led = [(I, oI)] ∧ q ≤ p.1.length ∧ l.take q = p.1.take q ∧ kk = p.1.length - q)
        F₂ ‹News _ _ _ _› ⟨0, _, rfl, rfl, Nat.zero_le _, rfl, rfl⟩ ?_ PassesOwn.never
      rintro kk m₂ led₂ h₂ tk₂ ⟨q, ts, rfl, rfl, hq1, hq2, rfl⟩ htk2 F₄ N₄
      dsimp only at htk2
      have hpos2 : 0 < tk₂ := by lia
      k_steps
      · have hlt : q < p.1.length := by lia
        have hsl := same_letter (rest := l) hlt
        have heq := of_decide_eq_true (hsl.symm.trans ‹_ = true›)
        refine ⟨_, _, _, _, _, ?lt, rfl, Fr.like ‹Fr _ _ _ _› (by exact like_keys (ks := [Str.ofString "name", Str.ofString "size", Str.ofString "along", Str.ofString "best"]) (.cons rfl (.cons rfl (.cons rfl (.cons rfl .nil)))) (by repeat' (first | ((with_reducible apply Bare.ite); rfl) | exact Bare.nil)) (by repeat' (first | ((with_reducible apply Bare.ite); rfl) | exact Bare.nil))), ‹News _ _ _ _›, q + 1, _, rfl, rfl, by lia, take_same hq2 heq, rfl⟩
        case lt => lia
      · have hlt : q < p.1.length := by lia
        have hsl := same_letter (rest := l) hlt
        have heq := of_decide_eq_false (hsl.symm.trans ‹_ = false›)
        have e := lcp_eq q l p.1 hq1 hq2 (.inr heq)
        rw [← e]
        exact .inl ⟨trivial, _, _, _, rfl, ‹Fr _ _ _ _›, ‹News _ _ _ _›⟩
      · have e := lcp_eq q l p.1 hq1 hq2 (.inl (by lia))
        rw [← e]
        exact .inl ⟨trivial, _, _, _, rfl, ‹Fr _ _ _ _›, ‹News _ _ _ _›⟩
    · rintro s' ⟨h', tk', ts, rfl, F₄, N₄⟩ hp5
      dsimp only at hp5
      k_steps
      have F₅ := ‹Fr _ _ _ _›
      rw [max_if] at F₅
      unfold Stop
      refine wpAny_If ?_
      k_steps
      · have e1 : namedStep l (b, a) p.1 = (p.1, max a (lcp l p.1)) := by unfold namedStep; rw [if_pos ⟨by lia, by dsimp only; lia⟩]
        rw [e1]
        exact ⟨_, _, _, [], rfl, Fr.like ‹Fr _ _ _ _› (by exact like_keys (ks := [Str.ofString "name", Str.ofString "size", Str.ofString "along", Str.ofString "best"]) (.cons rfl (.cons rfl (.cons rfl (.cons rfl .nil)))) (by repeat' (first | ((with_reducible apply Bare.ite); rfl) | exact Bare.nil)) (by repeat' (first | ((with_reducible apply Bare.ite); rfl) | exact Bare.nil))), ‹News _ _ _ _›, (fun _ h => nomatch h), some (.str (tx p.1) t), some (.int (lcp l p.1 : Nat) ts), _, _, rfl, rfl⟩
      · have e1 : namedStep l (b, a) p.1 = (b, max a (lcp l p.1)) := by unfold namedStep; rw [if_neg (by first | lia | (dsimp only; lia))]
        rw [e1]
        exact ⟨_, _, _, [], rfl, Fr.like F₅ (by exact like_keys (ks := [Str.ofString "name", Str.ofString "size", Str.ofString "along", Str.ofString "best"]) (.cons rfl (.cons rfl (.cons rfl (.cons rfl .nil)))) (by repeat' (first | ((with_reducible apply Bare.ite); rfl) | exact Bare.nil)) (by repeat' (first | ((with_reducible apply Bare.ite); rfl) | exact Bare.nil))), ‹News _ _ _ _›, (fun _ h => nomatch h), some (.str (tx p.1) t), some (.int (lcp l p.1 : Nat) ts), _, _, rfl, rfl⟩
      · have e1 : namedStep l (b, a) p.1 = (b, max a (lcp l p.1)) := by unfold namedStep; rw [if_neg (by first | lia | (dsimp only; lia))]
        rw [e1]
        exact ⟨_, _, _, [], rfl, Fr.like F₅ (by exact like_keys (ks := [Str.ofString "name", Str.ofString "size", Str.ofString "along", Str.ofString "best"]) (.cons rfl (.cons rfl (.cons rfl (.cons rfl .nil)))) (by repeat' (first | ((with_reducible apply Bare.ite); rfl) | exact Bare.nil)) (by repeat' (first | ((with_reducible apply Bare.ite); rfl) | exact Bare.nil))), ‹News _ _ _ _›, (fun _ h => nomatch h), some (.str (tx p.1) t), some (.int (lcp l p.1 : Nat) ts), _, _, rfl, rfl⟩
  · rintro m₁ led₁ h tk ⟨vn, vs, ta, tb, rfl, rfl⟩ F₁ N₁
    have e43 : entK.length = 43 := by unfold entK; rw [List.length_map, entL_len]
    rw [e43, List.take_of_length_le (by rw [entL_len]; lia)] at F₁
    k_steps
    exact hR9 _ _ ⟨_, _, _, _, _, rfl, ‹Fr _ _ _ _›, ‹News _ _ _ _›, _, _, _, rfl, rfl⟩
end
section
local macro_rules | `(tactic| walk_at "subscriptTail Name Name ref str") => `(tactic| (k_here; refine stop ?_))
local macro_rules | `(tactic| walk_at "exec If") => `(tactic| (k_here; refine stop ?_))
noncomputable def readPostL (clo : Option Nat) (inside : Bool) (rest b : List Nat) (al : Nat) (z : Value) (led : List (Addr × Obj)) : Prop :=
  ∃ p l ot tn nn tv, z = .ref p ∧ led = [(p, tupOf #[.str (tx (readOut clo inside rest b al).1) ot, .ref l, .int ((readOut clo inside rest b al).2.2 : Nat) tn]), (l, listOf tv nn)] ∧ ToldV tv (readOut clo inside rest b al).2.1
theorem read_law (w : World) (rest b : List Nat) (al : Nat) (clo : Option Nat) (clV : Value) (inside : Bool) (t tb ta : Tok) (hl : rest.length ≤ 3000) (hm : ∀ x ∈ rest, Mended x) (hb : (entV b).isSome = true ∨ b = []) (hbl : b.length ≤ 12) (ha : al ≤ 3000) (hcl : Ch clo clV) :
    CtrF w 794 [.str (tx rest) t, clV, .bool inside, .str (tx b) tb, .int (al : Nat) ta] 6 (readPostL clo inside rest b al) := by
  w_on
  have hll := tx_length rest
  have hbt := tx_length b
  intro dp un gd cn cs a ccd cl outer A₀ base h₀ L m s mean mg mb Q E B F X N T hk hd hu hp hret
  refine' enterF (binds := [(Str.ofString "rest", .str (tx rest) t), (Str.ofString "closing", clV), (Str.ofString "inside", .bool inside), (Str.ofString "best", .str (tx b) tb), (Str.ofString "along", .int (al : Nat) ta)]) B F X N T hk hret ?k6 ?k7 ?k8 ?k9 ?kB ?_ ?c5
  (case k6 => k_is)
  (case k7 => k_is)
  (case k8 => first | exact rm0 (by assumption) | lia)
  (case k9 => first | exact BindsTo.of_eq rfl | exact binds_K (by k_in) rfl (by k_is) rfl rfl rfl)
  (case c5 => decide)
  (case kB => exact rfl)
  clear hret N F T X B
  intro g' L' h' F' N' B' X' T' hlt
  refine flatD (Nat.add_pos_left hp _) ?_
  intro g₉ d₉ os₉ n₉ hp₉
  refine hideDone ?_
  intro R9 hR9
  (try dsimp only)
  (try k_fold)
  k_steps
  unfold Stop
  refine wpAny_If ?_
  refine test_cut (fun β s' => Stop (∃ h' tk', s' = ⟨h', g₉, d₉, tk', os₉⟩ ∧ β = stops clo rest ∧ Fr g' L' h' (fun y => List.lookup y [(Str.ofString "rest", .str (tx rest) t), (Str.ofString "closing", clV), (Str.ofString "inside", .bool inside), (Str.ofString "best", .str (tx b) tb), (Str.ofString "along", .int (al : Nat) ta)].reverse) ∧ News g' L' h' [])) ?_ ?_
  · cases rest with
    | nil =>
      have he := beq_empty []
      rw [decide_eq_true rfl] at he
      k_steps
      unfold Stop
      exact ⟨_, _, rfl, rfl, ‹Fr _ _ _ _›, ‹News _ _ _ _›⟩
    | cons x r =>
      have hmx := hm x (.head _)
      have he : (tx (x :: r) == Str.ofString "") = false := by rw [beq_empty]; rfl
      have hlx : (x :: r).length = r.length + 1 := rfl
      rcases hcl with ⟨rfl, rfl⟩ | ⟨y, ty, rfl, rfl⟩
      all_goals k_steps
      all_goals (
        unfold Stop
        refine ⟨_, _, rfl, ?_, ‹Fr _ _ _ _›, ‹News _ _ _ _›⟩
        first
          | exact sg_true hmx ‹_›
          | exact sg_cl ‹_›
          | exact sg_no hmx ‹_› (sg_ne ‹_›)
          | exact sg_no hmx ‹_› (by simp))
  · rintro β s' ⟨h', tk', rfl, hβ, F', N'⟩
    cases β with
    | true =>
      have hr : readOut clo inside rest b al = ([38], none, 0) := by unfold readOut; rw [if_pos hβ.symm]
      k_steps
      have N₅ := ‹News _ _ _ _›
      rw [lit_amp] at N₅
      exact hR9 _ _ ⟨_, _, _, _, _, rfl, ‹Fr _ _ _ _›, N₅, _, _, _, _, _, #[], rfl, by rw [hr]; rfl, by rw [hr]; exact rfl⟩
    | false =>
      have hs : ¬ stops clo rest = true := by rw [← hβ]; decide
      by_cases hb0 : b = []
      · have hr : readOut clo inside rest b al = (38 :: rest.take al, some (Str.ofString "expected-named-entity"), al) := by unfold readOut; rw [if_neg hs, if_pos hb0]
        have hbe : (tx b == Str.ofString "") = true := by rw [beq_empty, decide_eq_true hb0]
        k_steps
        unfold Stop
        refine wpAny_If ?_
        k_steps
        have N₅ := ‹News _ _ _ _›
        rw [lit_amp, slice_to, tx_append] at N₅
        exact hR9 _ _ ⟨_, _, _, _, _, rfl, ‹Fr _ _ _ _›, N₅, _, _, _, _, _, #[_], rfl, by rw [hr]; rfl, by rw [hr]; exact ⟨_, rfl⟩⟩
      · have hbe : (tx b == Str.ofString "") = false := by rw [beq_empty, decide_eq_false hb0]
        have hse := semi_eq b hb0
        have hb1 := List.length_pos_iff.mpr hb0
        k_steps
        unfold Stop
        refine wpAny_If ?_
        k_steps
        · have hsc : b.getLast? = some 59 := of_decide_eq_true (hse.symm.trans ‹_ = true›)
          have hr : readOut clo inside rest b al = (signOf b ++ (rest.take al).drop b.length, none, al) := by unfold readOut; rw [if_neg hs, if_neg hb0, if_pos hsc]
          unfold Stop
          refine wpAny_If ?_
          k_steps
          · refine ne_lists0 ‹News _ _ _ (_ :: _ :: _)› (by first | lia | (dsimp only [Around.deeper, ktrTop]; lia) | (show _ + _ < _; lia)) ?_
            k_steps
            unfold Stop
            obtain ⟨te, hte⟩ := ent_sign (hb.resolve_right hb0)
            refine topItem_K (a := 43) ‹Fr _ _ _ _› X' (ent_obj _) (ent_lit _) (v := .str (tx (signOf b)) te) (by rw [ent_find, hte]) ?_
            have hsl := sign_len b
            have hst2 := tx_length (signOf b)
            k_steps
            have N₅ := ‹News _ _ _ _›
            rw [slice_nat, tx_append] at N₅
            first
              | exact hR9 _ _ ⟨_, _, _, _, _, rfl, ‹Fr _ _ _ _›, N₅, _, _, _, _, _, _, rfl, by rw [hr]; rfl, by rw [hr]; first | exact rfl | exact ⟨_, rfl⟩⟩
              | exact hR9 _ _ ⟨_, _, _, _, _, rfl, ‹Fr _ _ _ _›, News.drop2 N₅, _, _, _, _, _, _, rfl, by rw [hr]; rfl, by rw [hr]; first | exact rfl | exact ⟨_, rfl⟩⟩
          · unfold Stop
            obtain ⟨te, hte⟩ := ent_sign (hb.resolve_right hb0)
            refine topItem_K (a := 43) ‹Fr _ _ _ _› X' (ent_obj _) (ent_lit _) (v := .str (tx (signOf b)) te) (by rw [ent_find, hte]) ?_
            have hsl := sign_len b
            have hst2 := tx_length (signOf b)
            k_steps
            have N₅ := ‹News _ _ _ _›
            rw [slice_nat, tx_append] at N₅
            first
              | exact hR9 _ _ ⟨_, _, _, _, _, rfl, ‹Fr _ _ _ _›, N₅, _, _, _, _, _, _, rfl, by rw [hr]; rfl, by rw [hr]; first | exact rfl | exact ⟨_, rfl⟩⟩
              | exact hR9 _ _ ⟨_, _, _, _, _, rfl, ‹Fr _ _ _ _›, News.drop2 N₅, _, _, _, _, _, _, rfl, by rw [hr]; rfl, by rw [hr]; first | exact rfl | exact ⟨_, rfl⟩⟩
        · have hsc : ¬ b.getLast? = some 59 := of_decide_eq_false (hse.symm.trans ‹_ = false›)
          unfold Stop
          refine wpAny_If ?_
          k_steps
          · refine ne_lists1 ‹News _ _ _ (_ :: _ :: _)› (by first | lia | (dsimp only [Around.deeper, ktrTop]; lia) | (show _ + _ < _; lia)) ?_
            k_steps
            · have hr : readOut clo inside rest b al = (signOf b ++ (rest.take al).drop b.length, some (Str.ofString "named-entity-without-semicolon"), al) := by unfold readOut; rw [if_neg hs, if_neg hb0, if_neg hsc, if_neg (by rw [beh_no hm ‹_›]; simp)]
              unfold Stop
              obtain ⟨te, hte⟩ := ent_sign (hb.resolve_right hb0)
              refine topItem_K (a := 43) ‹Fr _ _ _ _› X' (ent_obj _) (ent_lit _) (v := .str (tx (signOf b)) te) (by rw [ent_find, hte]) ?_
              have hsl := sign_len b
              have hst2 := tx_length (signOf b)
              k_steps
              have N₅ := ‹News _ _ _ _›
              rw [slice_nat, tx_append] at N₅
              first
                | exact hR9 _ _ ⟨_, _, _, _, _, rfl, ‹Fr _ _ _ _›, N₅, _, _, _, _, _, _, rfl, by rw [hr]; rfl, by rw [hr]; first | exact rfl | exact ⟨_, rfl⟩⟩
                | exact hR9 _ _ ⟨_, _, _, _, _, rfl, ‹Fr _ _ _ _›, News.drop2 N₅, _, _, _, _, _, _, rfl, by rw [hr]; rfl, by rw [hr]; first | exact rfl | exact ⟨_, rfl⟩⟩
            · have hr : readOut clo inside rest b al = (38 :: rest.take al, some (Str.ofString "named-entity-without-semicolon"), al) := by unfold readOut; rw [if_neg hs, if_neg hb0, if_neg hsc, if_pos (by rw [beh_yes hm ‹_› ‹_›, ‹inside = true›]; rfl)]
              have N₅ := ‹News _ _ _ _›
              rw [lit_amp, slice_to, tx_append] at N₅
              exact hR9 _ _ ⟨_, _, _, _, _, rfl, ‹Fr _ _ _ _›, News.drop2 N₅, _, _, _, _, _, _, rfl, by rw [hr]; rfl, by rw [hr]; exact ⟨_, rfl⟩⟩
            · have hr : readOut clo inside rest b al = (signOf b ++ (rest.take al).drop b.length, some (Str.ofString "named-entity-without-semicolon"), al) := by unfold readOut; rw [if_neg hs, if_neg hb0, if_neg hsc, if_neg (by rw [beh_end ‹_›]; simp)]
              unfold Stop
              obtain ⟨te, hte⟩ := ent_sign (hb.resolve_right hb0)
              refine topItem_K (a := 43) ‹Fr _ _ _ _› X' (ent_obj _) (ent_lit _) (v := .str (tx (signOf b)) te) (by rw [ent_find, hte]) ?_
              have hsl := sign_len b
              have hst2 := tx_length (signOf b)
              k_steps
              have N₅ := ‹News _ _ _ _›
              rw [slice_nat, tx_append] at N₅
              first
                | exact hR9 _ _ ⟨_, _, _, _, _, rfl, ‹Fr _ _ _ _›, N₅, _, _, _, _, _, _, rfl, by rw [hr]; rfl, by rw [hr]; first | exact rfl | exact ⟨_, rfl⟩⟩
                | exact hR9 _ _ ⟨_, _, _, _, _, rfl, ‹Fr _ _ _ _›, News.drop2 N₅, _, _, _, _, _, _, rfl, by rw [hr]; rfl, by rw [hr]; first | exact rfl | exact ⟨_, rfl⟩⟩
          · have hr : readOut clo inside rest b al = (signOf b ++ (rest.take al).drop b.length, some (Str.ofString "named-entity-without-semicolon"), al) := by unfold readOut; rw [if_neg hs, if_neg hb0, if_neg hsc, if_neg (by rw [‹inside = false›]; simp)]
            unfold Stop
            obtain ⟨te, hte⟩ := ent_sign (hb.resolve_right hb0)
            refine topItem_K (a := 43) ‹Fr _ _ _ _› X' (ent_obj _) (ent_lit _) (v := .str (tx (signOf b)) te) (by rw [ent_find, hte]) ?_
            have hsl := sign_len b
            have hst2 := tx_length (signOf b)
            k_steps
            have N₅ := ‹News _ _ _ _›
            rw [slice_nat, tx_append] at N₅
            first
              | exact hR9 _ _ ⟨_, _, _, _, _, rfl, ‹Fr _ _ _ _›, N₅, _, _, _, _, _, _, rfl, by rw [hr]; rfl, by rw [hr]; first | exact rfl | exact ⟨_, rfl⟩⟩
              | exact hR9 _ _ ⟨_, _, _, _, _, rfl, ‹Fr _ _ _ _›, News.drop2 N₅, _, _, _, _, _, _, rfl, by rw [hr]; rfl, by rw [hr]; first | exact rfl | exact ⟨_, rfl⟩⟩
end
section
theorem str_c {y z : Str} {t : Tok} {vs : List Value} {ys : List Str} (h : y = z) (h' : StrsAre vs ys) : StrsAre (.str y t :: vs) (z :: ys) := by subst h; exact .cons _ _ h'
theorem pieces_are {t0 t1 t2 t3 t4 t5 t6 t7 t8 t9 t10 t11 t12 t13 t14 t15 t16 t17 t18 t19 t20 t21 t22 t23 t24 t25 t26 t27 t28 : Tok} : StrsAre [.str (Str.ofString "&") t0, .str (Str.ofString "&no") t1, .str (Str.ofString "&not") t2, .str (Str.ofString "&noti") t3, .str (Str.ofString "&notin;") t4, .str (Str.ofString "&copy") t5, .str (Str.ofString "&bne;") t6, .str (Str.ofString "&amp") t7, .str (Str.ofString "&paralle") t8, .str (Str.ofString "&sup") t9, .str (Str.ofString "&times") t10, .str (Str.ofString "&a") t11, .str (Str.ofString "&frac1") t12, .str (Str.ofString "n;") t13, .str (Str.ofString "l;") t14, .str (Str.ofString "1") t15, .str (Str.ofString "2;") t16, .str (Str.ofString "b") t17, .str (Str.ofString "=") t18, .str (Str.ofString " ") t19, .str (Str.ofString "\n") t20, .str (Str.ofString "x") t21, .str (Str.ofString "<") t22, .str (Str.ofString "\"") t23, .str (Str.ofString "'") t24, .str (Str.ofString ">") t25, .str (Str.ofString ";") t26, .str (Str.ofString "é") t27, .str (Str.ofString "\r") t28] (pieceL.map tx) := by
  unfold pieceL
  simp only [List.map_cons, List.map_nil]
  iterate 29 (refine' str_c (by kernel_rfl) ?_)
  exact .nil

theorem strs_lits : [Str.ofString "&", Str.ofString "&no", Str.ofString "&not", Str.ofString "&noti", Str.ofString "&notin;", Str.ofString "&copy", Str.ofString "&bne;", Str.ofString "&amp", Str.ofString "&paralle", Str.ofString "&sup", Str.ofString "&times", Str.ofString "&a", Str.ofString "&frac1", Str.ofString "n;", Str.ofString "l;", Str.ofString "1", Str.ofString "2;", Str.ofString "b", Str.ofString "=", Str.ofString " ", Str.ofString "\n", Str.ofString "x", Str.ofString "<", Str.ofString "\"", Str.ofString "'", Str.ofString ">", Str.ofString ";", Str.ofString "é", Str.ofString "\r"] = pieceL.map tx := by
  unfold pieceL
  simp only [List.map_cons, List.map_nil]
  iterate 29 (refine' congr (congrArg List.cons (by kernel_rfl)) ?_)
  rfl
theorem piece_lit (n : Int) : [Str.ofString "&", Str.ofString "&no", Str.ofString "&not", Str.ofString "&noti", Str.ofString "&notin;", Str.ofString "&copy", Str.ofString "&bne;", Str.ofString "&amp", Str.ofString "&paralle", Str.ofString "&sup", Str.ofString "&times", Str.ofString "&a", Str.ofString "&frac1", Str.ofString "n;", Str.ofString "l;", Str.ofString "1", Str.ofString "2;", Str.ofString "b", Str.ofString "=", Str.ofString " ", Str.ofString "\n", Str.ofString "x", Str.ofString "<", Str.ofString "\"", Str.ofString "'", Str.ofString ">", Str.ofString ";", Str.ofString "é", Str.ofString "\r"].getD (n.fmod 29).toNat Str.empty = tx (pieceOf n) := by
  rw [strs_lits]
  have e : (pieceL.map tx)[(n.fmod 29).toNat]? = some (tx (pieceOf n)) := by rw [List.getElem?_map, piece_at]; rfl
  rw [List.getD_eq_getElem?_getD, e]; rfl
theorem take_snoc {α : Type} {l : List α} {i : Nat} {x : α} (h : l[i]? = some x) : l.take (i + 1) = l.take i ++ [x] := by
  rw [List.take_add_one, h]; rfl
end
section
local macro_rules | `(tactic| walk_at "none 0") => `(tactic| fail)
open Mine.Top (KW lawD fB tS)
/-- the law's statements, those of its loop over the ways -/
noncomputable def lawStmt (k : Nat) : Stmt := ((fB (tS 30)).drop k).headD (.Pass ⟨0, 0, 0, 0⟩)
noncomputable def forB : Stmt → List Stmt
  | .For _ _ b _ _ => b
  | _ => []
noncomputable def lawTurn (k : Nat) : Stmt := ((forB (lawStmt 11)).drop k).headD (.Pass ⟨0, 0, 0, 0⟩)
noncomputable abbrev lawE (L fa cda : Addr) : Env := envOf lawD.name lawD.scope L fa (.ref cda)
noncomputable abbrev lawA (L fa cda : Addr) : Around := callerA.deeper (lawE L fa cda)
/-- the law's names -/
structure Sl where
  cl : Option Value
  ins : Option Value
  en : Option Value
  re : Option Value
  be : Option Value
  al : Option Value
  ou : Option Value
  tl : Option Value
  sz : Option Value
  va : Option Value
  du : Option Value
  pl : Option Value
  rd : Option Value
  me : Option Value
  n : Option Value
  pi : Option Value
  wa : Option Value
  te : Option Value
  sc : Option Value
noncomputable def dSl : Sl := ⟨none, none, none, none, none, none, none, none, none, none, none, none, none, none, none, none, none, none, none⟩
noncomputable def LF (S : Sl) (y : Str) : Option Value :=
  if y = Str.ofString "closing" then S.cl else if y = Str.ofString "inside" then S.ins else if y = Str.ofString "end" then S.en else if y = Str.ofString "rest" then S.re else
  if y = Str.ofString "best" then S.be else if y = Str.ofString "along" then S.al else if y = Str.ofString "output" then S.ou else if y = Str.ofString "told" then S.tl else
  if y = Str.ofString "size" then S.sz else if y = Str.ofString "value" then S.va else if y = Str.ofString "due" then S.du else if y = Str.ofString "place" then S.pl else
  if y = Str.ofString "reader" then S.rd else if y = Str.ofString "mended" then S.me else if y = Str.ofString "n" then S.n else if y = Str.ofString "piece" then S.pi else
  if y = Str.ofString "ways" then S.wa else if y = Str.ofString "text" then S.te else if y = Str.ofString "script" then S.sc else none
/-- the law's frame with some names taken out -/
noncomputable def mask (ks : List Str) (S : Sl) : Sl :=
  ⟨if ks.contains (Str.ofString "closing") then none else S.cl, if ks.contains (Str.ofString "inside") then none else S.ins, if ks.contains (Str.ofString "end") then none else S.en, if ks.contains (Str.ofString "rest") then none else S.re,
    if ks.contains (Str.ofString "best") then none else S.be, if ks.contains (Str.ofString "along") then none else S.al, if ks.contains (Str.ofString "output") then none else S.ou, if ks.contains (Str.ofString "told") then none else S.tl,
    if ks.contains (Str.ofString "size") then none else S.sz, if ks.contains (Str.ofString "value") then none else S.va, if ks.contains (Str.ofString "due") then none else S.du, if ks.contains (Str.ofString "place") then none else S.pl,
    if ks.contains (Str.ofString "reader") then none else S.rd, if ks.contains (Str.ofString "mended") then none else S.me, if ks.contains (Str.ofString "n") then none else S.n, if ks.contains (Str.ofString "piece") then none else S.pi,
    if ks.contains (Str.ofString "ways") then none else S.wa, if ks.contains (Str.ofString "text") then none else S.te, if ks.contains (Str.ofString "script") then none else S.sc⟩
theorem mask_LF (ks : List Str) (S : Sl) (u : Str) (h : u ∉ ks) : LF (mask ks S) u = LF S u := by
  have one : ∀ (x : Str) (o a b : Option Value), a = b → (if u = x then (if ks.contains x then none else o) else a) = (if u = x then o else b) := fun x o a b e => by
    by_cases hx : u = x
    · rw [if_pos hx, if_pos hx, if_neg (fun hc => h (hx ▸ List.contains_iff_mem.mp hc))]
    · rw [if_neg hx, if_neg hx, e]
  unfold LF mask
  dsimp only
  exact one _ _ _ _ (one _ _ _ _ (one _ _ _ _ (one _ _ _ _ (one _ _ _ _ (one _ _ _ _ (one _ _ _ _ (one _ _ _ _ (one _ _ _ _ (one _ _ _ _ (one _ _ _ _ (one _ _ _ _ (one _ _ _ _ (one _ _ _ _ (one _ _ _ _ (one _ _ _ _ (one _ _ _ _ (one _ _ _ _ (one _ _ _ _ rfl))))))))))))))))))
theorem like_LF {ks : List Str} {m : Str → Option Value} {S S' : Sl} (A : Agree m (LF S') ks) (O : Bare ks m (LF S)) (M : mask ks S = mask ks S') : ∀ u, m u = LF S' u := fun u =>
  if h : u ∈ ks then A u h else (O u h).trans ((mask_LF ks S u h).symm.trans ((congrArg (fun X => LF X u) M).trans (mask_LF ks S' u h)))
theorem like_all {ks : List Str} {m : Str → Option Value} {S' : Sl} (A : Agree m (LF S') ks) (O : Bare ks m (fun _ => none)) (hk : mask ks S' = ⟨none, none, none, none, none, none, none, none, none, none, none, none, none, none, none, none, none, none, none⟩) : ∀ u, m u = LF S' u := fun u =>
  if h : u ∈ ks then A u h else (O u h).trans (by rw [← mask_LF ks S' u h, hk]; unfold LF; simp only [ite_self])
theorem take_more {l a b : List Nat} {p : Nat} (h : l.drop p = a ++ b) : l.take (p + a.length) = l.take p ++ a := by
  rw [List.take_add, h, List.take_left]
theorem drop_more {l a b : List Nat} {p : Nat} (h : l.drop p = a ++ b) : l.drop (p + a.length) = b := by
  rw [← List.drop_drop, h, List.drop_left]
/-- the addresses of the reader's own objects; what lies off them -/
noncomputable def Rdr.adr (r : Rdr) (c : Strm) : List Addr := [r.rd, r.rdd, r.tq, r.cd, r.dl, r.pl, c.st, c.sd, c.ds, c.dd, c.mth]
theorem Rdr.led_adr (r : Rdr) (c : Strm) (its : Array Value) (nn : Nat) (val : List Nat) (tv : Tok) (v : SV) : (r.led c its nn val tv v).map (·.1) = r.adr c := rfl
noncomputable abbrev Off (r : Rdr) (c : Strm) (oth : List (Addr × Obj)) : Prop := ∀ p ∈ oth, p.1 ∉ r.adr c
theorem Rdr.inAdr {r : Rdr} {c : Strm} (h : r.Ord c) {q : Addr} (hm : q ∈ r.adr c) : @LE.le Nat _ r.rdd q ∧ @LE.le Nat _ q r.dl := by
  obtain ⟨⟨h1, h2, h3, h4⟩, g1, g2, g3, g4, g5, g6⟩ := h
  have a1 := Nat.lt_trans g1 g2
  have a2 := Nat.lt_trans a1 h1
  have a3 := Nat.lt_trans a2 h2
  have a4 := Nat.lt_trans a3 h3
  have a5 := Nat.lt_trans a4 h4
  have a6 := Nat.lt_trans a5 g3
  have a7 := Nat.lt_trans a6 g4
  have a8 := Nat.lt_trans a7 g5
  have b8 := Nat.lt_trans g5 g6
  have b7 := Nat.lt_trans g4 b8
  have b6 := Nat.lt_trans g3 b7
  have b5 := Nat.lt_trans h4 b6
  have b4 := Nat.lt_trans h3 b5
  have b3 := Nat.lt_trans h2 b4
  have b2 := Nat.lt_trans h1 b3
  have b1 := Nat.lt_trans g2 b2
  have b0 := Nat.lt_trans g1 b1
  simp only [Rdr.adr, List.mem_cons, List.not_mem_nil, or_false] at hm
  rcases hm with e | e | e | e | e | e | e | e | e | e | e <;> rw [e]
  · exact ⟨Nat.le_of_lt g1, Nat.le_of_lt b1⟩
  · exact ⟨Nat.le_refl _, Nat.le_of_lt b0⟩
  · exact ⟨Nat.le_of_lt a6, Nat.le_of_lt b7⟩
  · exact ⟨Nat.le_of_lt a7, Nat.le_of_lt b8⟩
  · exact ⟨Nat.le_of_lt (Nat.lt_trans a8 g6), Nat.le_refl _⟩
  · exact ⟨Nat.le_of_lt a8, Nat.le_of_lt g6⟩
  · exact ⟨Nat.le_of_lt a2, Nat.le_of_lt b3⟩
  · exact ⟨Nat.le_of_lt a1, Nat.le_of_lt b2⟩
  · exact ⟨Nat.le_of_lt a5, Nat.le_of_lt b6⟩
  · exact ⟨Nat.le_of_lt a4, Nat.le_of_lt b5⟩
  · exact ⟨Nat.le_of_lt a3, Nat.le_of_lt b4⟩
theorem Rdr.strmAdr {r : Rdr} {c : Strm} {v : SV} {q : Addr} (hm : q ∈ (c.led v).map (·.1)) : q ∈ r.adr c := by
  rw [← r.led_adr c #[] 0 [] 0 v]
  unfold Rdr.led
  rw [List.map_append]
  exact List.mem_append_right _ hm
section
variable {h₀ h h' : Heap} {L : Addr} {r : Rdr} {c : Strm} {its its' : Array Value} {nn nn' : Nat} {val val' : List Nat} {tv tv' : Tok} {σ σ' : SV} {oth ns ex : List (Addr × Obj)}
theorem off_gt {q : Addr} (hl : ∀ p ∈ r.led c its nn val tv σ, @LT.lt Nat _ p.1 q) : q ∉ r.adr c := fun hm => by
  rw [← r.led_adr c its nn val tv σ] at hm
  obtain ⟨p, hp, e⟩ := List.mem_map.mp hm
  have h1 := hl p hp
  have e' : @Eq Nat p.1 q := e
  lia
theorem off_new {q : Addr} (N : News h₀ L h (r.led c its nn val tv σ)) (hq : h.get? q = none) : q ∉ r.adr c := fun hm => by
  rw [← r.led_adr c its nn val tv σ] at hm
  obtain ⟨p, hp, rfl⟩ := List.mem_map.mp hm
  rw [(N p hp).1] at hq; cases hq
theorem carryC (hO : r.Ord c) (hoth : Off r c oth) (N : News h₀ L h (r.led c its nn val tv σ ++ oth)) (K : Keep h h' ((c.led σ).map (·.1))) (N' : News h₀ L h' (ns ++ c.led σ')) : News h₀ L h' (ns ++ (r.led c its nn val tv σ' ++ oth)) := fun p hp => by
  rcases List.mem_append.mp hp with hp | hp
  · exact N' p (List.mem_append_left _ hp)
  · rcases List.mem_append.mp hp with hp | hp
    · rcases List.mem_append.mp hp with hp | hp
      · obtain ⟨a, b⟩ := N p (List.mem_append_left _ (List.mem_append_left _ hp))
        exact ⟨K _ _ a (Rdr.apart hO _ _ _ _ _ p hp), b⟩
      · exact N' p (List.mem_append_right _ hp)
    · obtain ⟨a, b⟩ := N p (List.mem_append_right _ hp)
      exact ⟨K _ _ a (fun q => hoth p hp (Rdr.strmAdr q)), b⟩
theorem carryQ {q : Addr} {qo : Obj} (hO : r.Ord c) (hoth : Off r c oth) (hq : @LT.lt Nat _ r.dl q) (hl : AllLt q oth) (N : News h₀ L h ((q, qo) :: (r.led c its nn val tv σ ++ oth))) (K : Keep h h' (((q, qo) :: c.led σ).map (·.1))) (N' : News h₀ L h' (c.led σ')) : News h₀ L h' (r.led c its nn val tv σ' ++ oth) := fun p hp => by
  have key : p.1 ≠ q → (p.1 ∉ (c.led σ).map (·.1)) → p ∈ r.led c its nn val tv σ ++ oth → h'.get? p.1 = some p.2 ∧ p.1 ≠ L ∧ h₀.get? p.1 = none := fun h1 h2 h3 => by
    obtain ⟨a, b⟩ := N p (.tail _ h3)
    refine ⟨K _ _ a (fun m => ?_), b⟩
    rcases List.mem_cons.mp m with m | m
    · exact h1 m
    · exact h2 m
  rcases List.mem_append.mp hp with hp | hp
  · rcases List.mem_append.mp hp with hp | hp
    · have hm : p ∈ r.led c its nn val tv σ := List.mem_append_left _ hp
      refine key (fun e => ?_) (Rdr.apart hO _ _ _ _ _ p hp) (List.mem_append_left _ hm)
      have h2 := (Rdr.inAdr hO (q := p.1) (List.mem_map_of_mem hm)).2
      have e' : @Eq Nat p.1 q := e
      lia
    · exact N' p hp
  · have h1 := kst_ltOf hl p hp
    have h1' : @LT.lt Nat _ p.1 q := h1
    refine key (fun e => ?_) (fun m => hoth p hp (Rdr.strmAdr m)) (List.mem_append_right _ hp)
    have e' : @Eq Nat p.1 q := e
    lia
theorem carryR (hoth : Off r c oth) (N : News h₀ L h (r.led c its nn val tv σ ++ oth)) (K : Keep h h' (L :: (r.led c its nn val tv σ).map (·.1))) (N' : News h₀ L h' (ex ++ r.led c its' nn' val' tv' σ')) : News h₀ L h' (r.led c its' nn' val' tv' σ' ++ (ex ++ oth)) := fun p hp => by
  rcases List.mem_append.mp hp with hp | hp
  · exact N' p (List.mem_append_right _ hp)
  · rcases List.mem_append.mp hp with hp | hp
    · exact N' p (List.mem_append_left _ hp)
    · obtain ⟨a, b⟩ := N p (List.mem_append_right _ hp)
      refine ⟨K _ _ a (fun m => ?_), b⟩
      rcases List.mem_cons.mp m with m | m
      · exact b.1 m
      · exact hoth p hp m
theorem keepS {led : List (Addr × Obj)} (N : News h₀ L h led) (K : Keep h h' (L :: ([] : List (Addr × Obj)).map (·.1))) : News h₀ L h' led := fun p hp => by
  obtain ⟨a, b⟩ := N p hp
  exact ⟨K _ _ a (fun m => by rcases List.mem_cons.mp m with m | m; exact b.1 m; exact nomatch m), b⟩
theorem addN {led new : List (Addr × Obj)} (N : News h₀ L h led) (K : Keep h h' (([] : List (Addr × Obj)).map (·.1))) (N' : News h₀ L h' new) : News h₀ L h' (new ++ led) := fun p hp => by
  rcases List.mem_append.mp hp with hp | hp
  · exact N' p hp
  · obtain ⟨a, b⟩ := N p hp
    exact ⟨K _ _ a (fun m => nomatch m), b⟩
theorem ledStrm (N : News h₀ L h (r.led c its nn val tv σ ++ oth)) : News h₀ L h (c.led σ) := fun p hp => N p (List.mem_append_left _ (List.mem_append_right _ hp))
theorem ledQ {q : Addr × Obj} (N : News h₀ L h (q :: (r.led c its nn val tv σ ++ oth))) : News h₀ L h (q :: c.led σ) := fun p hp => by
  rcases List.mem_cons.mp hp with rfl | hp
  · exact N _ (.head _)
  · exact N p (.tail _ (List.mem_append_left _ (List.mem_append_right _ hp)))
theorem ledOth (N : News h₀ L h (r.led c its nn val tv σ ++ oth)) : News h₀ L h oth := fun p hp => N p (List.mem_append_right _ hp)
theorem ledRdr (N : News h₀ L h (r.led c its nn val tv σ ++ oth)) : News h₀ L h (r.led c its nn val tv σ) := fun p hp => N p (List.mem_append_left _ hp)
end
theorem CtrS.use {w : World} {f : Addr} {args : List Value} {D : Nat} {foot : List (Addr × Obj)} {post : Value → List (Addr × Obj) → Prop} (C : CtrS w f args D foot post)
    {dp un : Nat} {gd : Option (List Code)} {cn : Str} {cs : Scope} {a : Addr} {ccd : Value} {A₀ : Around} {base : Heap} {L : Addr} {m : Str → Option Value} {hh₉ : Heap} {g₉ : Array GenState} {d₉ : Drawn} {n₉ : Nat} {os₉ : OsState} {mean : ExcName → Option Value} {mg mb : Str → Option Value}
    {Q E : Value → Shared → Prop} {A : Around} (hA : A = ktrTop dp un gd cn cs L a ccd [] [])
    (B : Below A₀ base [] base) (F : Fr base L hh₉ m) (X : (KW w.params).In base) (N : News base L hh₉ foot) (T : TopQ mean mg mb base) (hk : cs.kind = .function) (hd : dp + D < recursionLimit) (hu : un + 8 * D < cLine) (hp : 0 < n₉)
    (ret : ∀ v foot' h' tk', post v foot' → Fr base L h' m → News base L h' foot' → Keep hh₉ h' (L :: foot.map (·.1)) → Q v ⟨h', g₉, d₉, tk', os₉⟩) :
    wpAny (model pw_te0025_01 w) A (call (.ref f) args) Q E ⟨hh₉, g₉, d₉, n₉, os₉⟩ := by
  subst hA
  exact C _ _ _ _ _ _ _ _ _ _ _ _ _ _ _ _ _ _ B F X N T X T hk hd hu hp ret
theorem eqs {A : Around} {s : Shared} (a : Str) (t u : Tok) : SeqAt.EqAt A s (.str a t) (.str a u) true := by
  have h := SeqAt.EqAt.str_str (A := A) (s := s) a t a u
  rw [beq_self_eq_true] at h
  exact h
theorem eqi {A : Around} {s : Shared} (a : Int) (t u : Tok) : SeqAt.EqAt A s (.int a t) (.int a u) true := by
  have h := SeqAt.EqAt.int_int (A := A) (s := s) a t a u
  rw [beq_self_eq_true] at h
  exact h
theorem lawA_units (L fa cda : Addr) : (lawA L fa cda).units + 8 < cLine := by
  show callerA.units + _ + 8 < cLine
  decide +kernel
theorem ne_data {w : World} {A : Around} {E : Value → Shared → Prop} {s : Shared} {Q : Value → Shared → Prop} {h₀ : Heap} {L d p d2 p2 : Addr} {n1 n2 n3 n4 : Nat} {k v : Str} {t1 t2 t3 t4 : Tok} {led : List (Addr × Obj)} (N : News h₀ L s.heap led)
    (m1 : (d, listOf #[.ref p] n1) ∈ led) (m2 : (d2, listOf #[.ref p2] n2) ∈ led) (m3 : (p, listOf #[.str k t1, .str v t2] n3) ∈ led) (m4 : (p2, listOf #[.str k t3, .str v t4] n4) ∈ led) (hne : p ≠ p2) (hu : A.units + 8 < cLine) (h : Q (.bool false) s) :
    wpAny (model pw_te0025_01 w) A (compareOp .NotEq (.ref d) (.ref d2)) Q E s := by
  refine SeqAt.RcNeAt.lists (items := #[.ref p]) (items2 := #[.ref p2]) (e := fun _ => true) ⟨_, (N _ m1).1, rfl, _, rfl⟩ ⟨_, (N _ m2).1, rfl, _, rfl⟩ rfl (by lia) ?_ _ _ E Q h
  intro j h1 h2
  have e : j = 0 := by have : j < 1 := h1; lia
  subst e
  refine SeqAt.EqAt.of_refs hne ?_
  refine SeqAt.RcAt.lists (items := #[.str k t1, .str v t2]) (items2 := #[.str k t3, .str v t4]) (e := fun _ => true) ⟨_, (N _ m3).1, rfl, _, rfl⟩ ⟨_, (N _ m4).1, rfl, _, rfl⟩ rfl (by dsimp only [Around.in1]; lia) ?_
  intro j h1 h2
  have e : j = 0 ∨ j = 1 := by have : j < 2 := h1; lia
  rcases e with rfl | rfl
  · exact eqs k t1 t3
  · exact eqs v t2 t4
/-- the due tuples -/
noncomputable def DueAre : List (Addr × Obj) → List Value → List (Int × Str) → Prop
  | [], [], [] => True
  | (q, o) :: ts, v :: vs, (n, d) :: ws => v = .ref q ∧ (∃ t1 t2, o = tupOf #[.int n t1, .str d t2]) ∧ DueAre ts vs ws
  | _, _, _ => False
theorem DueAre.snoc : ∀ {ts : List (Addr × Obj)} {vs : List Value} {ws : List (Int × Str)}, DueAre ts vs ws → ∀ {q : Addr} {n : Int} {d : Str} {t1 t2 : Tok},
    DueAre (ts ++ [(q, tupOf #[.int n t1, .str d t2])]) (vs ++ [.ref q]) (ws ++ [(n, d)])
  | [], [], [], _, _, _, _, _, _ => ⟨rfl, ⟨_, _, rfl⟩, trivial⟩
  | (_, _) :: _, _ :: _, (_, _) :: _, ⟨h1, h2, h3⟩, _, _, _, _, _ => ⟨h1, h2, DueAre.snoc h3⟩
  | [], [], _ :: _, h, _, _, _, _, _ => h.elim
  | [], _ :: _, _, h, _, _, _, _, _ => h.elim
  | _ :: _, [], _, h, _, _, _, _, _ => h.elim
  | _ :: _, _ :: _, [], h, _, _, _, _, _ => h.elim
theorem DueAre.len : ∀ {ts : List (Addr × Obj)} {vs : List Value} {ws : List (Int × Str)}, DueAre ts vs ws → vs.length = ws.length
  | [], [], [], _ => rfl
  | (_, _) :: _, _ :: _, (_, _) :: _, ⟨_, _, h⟩ => congrArg (· + 1) (DueAre.len h)
  | [], [], _ :: _, h => h.elim
  | [], _ :: _, _, h => h.elim
  | _ :: _, [], _, h => h.elim
  | _ :: _, _ :: _, [], h => h.elim
theorem DueAre.at : ∀ {ts : List (Addr × Obj)} {vs : List Value} {ws : List (Int × Str)}, DueAre ts vs ws → ∀ {i : Nat} {n : Int} {d : Str}, ws[i]? = some (n, d) → ∃ q t1 t2, vs[i]? = some (.ref q) ∧ (q, tupOf #[.int n t1, .str d t2]) ∈ ts
  | (q, o) :: ts, v :: vs, (n, d) :: ws, ⟨h1, ⟨t1, t2, h2⟩, h3⟩, 0, _, _, e => by
    cases e
    exact ⟨q, t1, t2, by rw [h1]; rfl, by rw [h2]; exact .head _⟩
  | (q, o) :: ts, v :: vs, (n, d) :: ws, ⟨_, _, h3⟩, i + 1, _, _, e => by
    obtain ⟨q', t1, t2, e1, e2⟩ := DueAre.at h3 (i := i) (by simpa using e)
    exact ⟨q', t1, t2, by simpa using e1, .tail _ e2⟩
  | [], [], [], _, _, _, _, e => by cases e
  | [], [], _ :: _, h, _, _, _, _ => h.elim
  | [], _ :: _, _, h, _, _, _, _ => h.elim
  | _ :: _, [], _, h, _, _, _, _ => h.elim
  | _ :: _, _ :: _, [], h, _, _, _, _ => h.elim
theorem Tks.at {w : World} : ∀ {ex : List (Addr × Obj)} {vs : List Value} {ts : List (Int × Str)}, Tks w ex vs ts → ∀ {i : Nat} {v : Value}, vs[i]? = some v →
    ∃ q o n d t1 t2, v = .ref q ∧ (q, o) ∈ ex ∧ ts[i]? = some (n, d) ∧ o.IsDictOf (PySem.strKind pw_te0025_01 w) [(Str.ofString "type", .int n t1), (Str.ofString "data", .str d t2)]
  | (q, o) :: ex, u :: vs, (n, d) :: ts, ⟨h1, ⟨t1, t2, h2⟩, _⟩, 0, v, e => by
    cases e
    exact ⟨q, o, n, d, t1, t2, h1, .head _, rfl, h2⟩
  | (_, _) :: _, _ :: _, (_, _) :: _, ⟨_, _, h3⟩, i + 1, v, e => by
    obtain ⟨q, o, n, d, t1, t2, e1, e2, e3, e4⟩ := Tks.at h3 (i := i) (v := v) (by simpa using e)
    exact ⟨q, o, n, d, t1, t2, e1, .tail _ e2, by simpa using e3, e4⟩
  | [], [], [], _, _, _, e => by cases e
  | [], [], _ :: _, h, _, _, _ => h.elim
  | [], _ :: _, _, h, _, _, _ => h.elim
  | _ :: _, [], _, h, _, _, _ => h.elim
  | _ :: _, _ :: _, [], h, _, _, _ => h.elim
theorem Tks.append {w : World} : ∀ {ex : List (Addr × Obj)} {vs : List Value} {ts : List (Int × Str)}, Tks w ex vs ts → ∀ {ex' : List (Addr × Obj)} {vs' : List Value} {ts' : List (Int × Str)}, Tks w ex' vs' ts' → Tks w (ex ++ ex') (vs ++ vs') (ts ++ ts')
  | [], [], [], _, _, _, _, h => h
  | (_, _) :: _, _ :: _, (_, _) :: _, ⟨h1, h2, h3⟩, _, _, _, h => ⟨h1, h2, Tks.append h3 h⟩
  | [], [], _ :: _, h, _, _, _, _ => h.elim
  | [], _ :: _, _, h, _, _, _, _ => h.elim
  | _ :: _, [], _, h, _, _, _, _ => h.elim
  | _ :: _, _ :: _, [], h, _, _, _, _ => h.elim
theorem DueAre.append : ∀ {ex : List (Addr × Obj)} {vs : List Value} {ts : List (Int × Str)}, DueAre ex vs ts → ∀ {ex' : List (Addr × Obj)} {vs' : List Value} {ts' : List (Int × Str)}, DueAre ex' vs' ts' → DueAre (ex ++ ex') (vs ++ vs') (ts ++ ts')
  | [], [], [], _, _, _, _, h => h
  | (_, _) :: _, _ :: _, (_, _) :: _, ⟨h1, h2, h3⟩, _, _, _, h => ⟨h1, h2, DueAre.append h3 h⟩
  | [], [], _ :: _, h, _, _, _, _ => h.elim
  | [], _ :: _, _, h, _, _, _, _ => h.elim
  | _ :: _, [], _, h, _, _, _, _ => h.elim
  | _ :: _, _ :: _, [], h, _, _, _, _ => h.elim
theorem Tks.dict {w : World} : ∀ {ex : List (Addr × Obj)} {vs : List Value} {ts : List (Int × Str)}, Tks w ex vs ts → ∀ p ∈ ex, p.2.cls = .type "dict"
  | [], _, _, _, _, h => nomatch h
  | (q, o) :: ex, v :: vs, (n, d) :: ts, ⟨_, ⟨_, _, h2⟩, h3⟩, p, hp => by
    rcases List.mem_cons.mp hp with rfl | hp
    · obtain ⟨_, _, h, _⟩ := h2
      exact h.1
    · exact Tks.dict h3 p hp
  | _ :: _, [], _, h, _, _ => h.elim
  | _ :: _, _ :: _, [], h, _, _ => h.elim
/-- what holds between the turns of the loop over the ways -/
structure LInv (w : World) (r : Rdr) (c : Strm) (T0 : List Nat) (tm : Tok) (S : Sl) (p : Nat) (val : List Nat) (σ : SV) (its : Array Value) (ex : List (Addr × Obj)) (DU : Nat) (dits : Array Value) (ddts : List (Addr × Obj)) (toks : List (Int × Str)) (oth : List (Addr × Obj)) (k : Nat) : Prop where
  me : S.me = some (.str (tx T0) tm)
  rd : S.rd = some (.ref r.rd)
  pl : ∃ tp, S.pl = some (.int (p : Nat) tp)
  va : ∃ ta, S.va = some (.str (tx val) ta)
  du : S.du = some (.ref DU)
  hI : Inv c σ (T0.take p) (T0.drop p)
  hp : p ≤ T0.length
  hex : ∀ q ∈ ex, q ∈ oth
  hdt : ∀ q ∈ ddts, q ∈ oth
  tks : Tks w ex its.toList toks
  due : DueAre ddts dits.toList toks
  n : toks.length ≤ 2 * k
  v : val.length ≤ 200 * k
/-- a comprehension over n items: what is made so far is as J says -/
theorem comp_ind {prog : Program} {w : World} {A : Around} {h₀ : Heap} {L : Addr} {m : Str → Option Value} {env : Env} {elt : PySem.Expr} {x : Str} {scope : Scope} {cl : List (Str × Addr)} {s : Shared} {S : List (Addr × Obj) → Prop} {P : Nat → Value → Prop} {Fin : List Value → List (Addr × Obj) → Prop} {n : Nat}
    (J : Nat → List Value → List (Addr × Obj) → Prop)
    (step : ∀ i ys news v I oI C oC D m₂ h tk (E' : Value → Shared → Prop), i < n → J i ys news → P i v → LCg.NsObj oC m₂ → m₂ x = some v → Fr h₀ L h m → News h₀ L h ((I, oI) :: (C, oC) :: (D, LCg.lst ys) :: news) → LCg.Off3 I C D news → ((@Ne Nat I C) ∧ (@Ne Nat I D) ∧ (@Ne Nat C D)) →
      wpAny (model prog w) A (eval elt (compEnvC scope cl C env)) (LCg.CompEnd h₀ L m { s with heap := h, toks := tk } I oI C oC D (LCg.lst ys) S (fun y news' => J (i + 1) (ys ++ [y]) news')) E' { s with heap := h, toks := tk })
    (fin : ∀ ys news, J n ys news → Fin ys news) : ∀ k i ys news, i + k = n → J i ys news → LCg.CompRest prog w A h₀ L m env elt x scope cl s S P Fin k i ys news
  | 0, i, ys, news, e, hJ => by
    have : i = n := e
    subst this
    exact LCg.CompRest.zero (fin _ _ hJ)
  | k + 1, i, ys, news, e, hJ => by
    refine LCg.CompRest.succ fun v I oI C oC D m₂ h tk E' hP hC hx F N off ne => ?_
    refine wpAny_mono (step i ys news v I oI C oC D m₂ h tk E' (by lia) hJ hP hC hx F N off ne) (fun y s' hc => ?_) fun _ _ h => h
    obtain ⟨h', tk', news', rfl, F', N', off', hS', hJ'⟩ := hc
    exact ⟨h', tk', news', rfl, F', N', off', hS', comp_ind J step fin k (i + 1) (ys ++ [y]) news' (by lia) hJ'⟩
end
section
local macro_rules | `(tactic| k_all) => `(tactic| assumption)
theorem st0 {w : World} {base h : Heap} {L fa cda : Addr} {mean : ExcName → Option Value} {mg mb : Str → Option Value} {g₉ : Array GenState} {d₉ : Drawn} {os₉ : OsState} {S : Sl} {tk p : Nat} {tp tm : Tok} {T0 pre r : List Nat} {led : List (Addr × Obj)} {Q : Flow → Shared → Prop} {E : Value → Shared → Prop}
    (K0 : Below callerA base [] base) (KX : (KW w.params).In base) (T : TopQ mean mg mb base) (ht : 0 < tk) (F : Fr base L h (LF S)) (N : News base L h led)
    (hme : S.me = some (.str (tx T0) tm)) (hpl : S.pl = some (.int (p : Nat) tp)) (hd : T0.drop p = pre ++ 38 :: r) (h38 : 38 ∉ pre) (hT : T0.length ≤ 96)
    (hQ : ∀ h' tk' te, Fr base L h' (LF { S with en := some (.int (p + pre.length : Nat) te) }) → News base L h' led → Q .next ⟨h', g₉, d₉, tk', os₉⟩) :
    wpAny (model pw_te0025_01 w) (lawA L fa cda) (exec (lawTurn 0) (lawE L fa cda)) Q E ⟨h, g₉, d₉, tk, os₉⟩ := by
  have F₁ := Fr.like F (m' := fun y => if y = Str.ofString "mended" then some (.str (tx T0) tm) else if y = Str.ofString "place" then some (.int (p : Nat) tp) else LF S y) (by exact like_keys (ks := [Str.ofString "mended", Str.ofString "place"]) (.cons hme (.cons hpl .nil)) (by exact Bare.nil) (by repeat' (first | ((with_reducible apply Bare.ite); rfl) | exact Bare.nil)))
  clear F
  have htl := tx_length T0
  obtain ⟨rest, hix⟩ := index_at T0 p pre r hd h38
  show wpAny _ _ (exec (.Assign [_] _ _) _) _ _ _
  k_steps
  rw [lit_amp]
  refine call_index3 (k := p + pre.length) (by rw [from_nat]; exact hix) ?_
  k_steps
  exact hQ _ _ _ (Fr.like ‹Fr _ _ _ _› (by exact like_LF (ks := [Str.ofString "end", Str.ofString "mended", Str.ofString "place"]) (.cons rfl (.cons (hme).symm (.cons (hpl).symm .nil))) (by repeat' (first | ((with_reducible apply Bare.ite); rfl) | exact Bare.nil)) (by rfl))) ‹News _ _ _ _›
noncomputable def st1_S (w : World) (base : Heap) (h : Heap) (L : Addr) (fa : Addr) (cda : Addr) (mean : ExcName → Option Value) (mg : Str → Option Value) (mb : Str → Option Value) (g₉ : Array GenState) (d₉ : Drawn) (os₉ : OsState) (S : Sl) (tp : Tok) (tm : Tok) (te : Tok) (Q : Flow → Shared → Prop) (E : Value → Shared → Prop) (r : Rdr) (c : Strm) (tv : Tok) (oth : List (Addr × Obj)) : Prop :=
  ∀ (tk : Nat) (p : Nat) (T0 : List Nat) (pre : List Nat) (rr : List Nat) (its : Array Value) (nn : Nat) (val : List Nat) (σ : SV), (Below callerA base [] base) →
    ((KW w.params).In base) →
    (TopQ mean mg mb base) →
    (0 < tk) →
    (Fr base L h (LF S)) →
    (News base L h (r.led c its nn val tv σ ++ oth)) →
    (Good c) →
    (r.Ord c) →
    (Off r c oth) →
    (Inv c σ (T0.take p) (T0.drop p)) →
    (S.me = some (.str (tx T0) tm)) →
    (S.pl = some (.int (p : Nat) tp)) →
    (S.en = some (.int (p + pre.length : Nat) te)) →
    (S.rd = some (.ref r.rd)) →
    (T0.drop p = pre ++ 38 :: rr) →
    (38 ∉ pre) →
    (T0.length ≤ 96) →
    (∀ h' tk' σ', Fr base L h' (LF S) → News base L h' (r.led c its nn val tv σ' ++ oth) → Inv c σ' (T0.take (p + pre.length + 1)) rr → Q .next ⟨h', g₉, d₉, tk', os₉⟩) →
    wpAny (model pw_te0025_01 w) (lawA L fa cda) (exec (lawTurn 1) (lawE L fa cda)) Q E ⟨h, g₉, d₉, tk, os₉⟩
noncomputable abbrev st1_T : Type := (World) × (Heap) × (Heap) × (Addr) × (Addr) × (Addr) × (ExcName → Option Value) × (Str → Option Value) × (Str → Option Value) × (Array GenState) × (Drawn) × (OsState) × (Sl) × (Tok) × (Tok) × (Tok) × (Flow → Shared → Prop) × (Value → Shared → Prop) × (Rdr) × (Strm) × (Tok) × (List (Addr × Obj))
theorem st1_ne : Nonempty st1_T := ⟨(dW, default, default, default, default, default, (fun _ => default), (fun _ => default), (fun _ => default), default, {}, default, dSl, default, default, default, (fun _ _ => True), (fun _ _ => True), dRdr, dStrm, default, default)⟩
noncomputable abbrev st1_F (x : st1_T) : Prop := st1_S x.1 x.2.1 x.2.2.1 x.2.2.2.1 x.2.2.2.2.1 x.2.2.2.2.2.1 x.2.2.2.2.2.2.1 x.2.2.2.2.2.2.2.1 x.2.2.2.2.2.2.2.2.1 x.2.2.2.2.2.2.2.2.2.1 x.2.2.2.2.2.2.2.2.2.2.1 x.2.2.2.2.2.2.2.2.2.2.2.1 x.2.2.2.2.2.2.2.2.2.2.2.2.1 x.2.2.2.2.2.2.2.2.2.2.2.2.2.1 x.2.2.2.2.2.2.2.2.2.2.2.2.2.2.1 x.2.2.2.2.2.2.2.2.2.2.2.2.2.2.2.1 x.2.2.2.2.2.2.2.2.2.2.2.2.2.2.2.2.1 x.2.2.2.2.2.2.2.2.2.2.2.2.2.2.2.2.2.1 x.2.2.2.2.2.2.2.2.2.2.2.2.2.2.2.2.2.2.1 x.2.2.2.2.2.2.2.2.2.2.2.2.2.2.2.2.2.2.2.1 x.2.2.2.2.2.2.2.2.2.2.2.2.2.2.2.2.2.2.2.2.1 x.2.2.2.2.2.2.2.2.2.2.2.2.2.2.2.2.2.2.2.2.2
noncomputable def st1_P : st1_T := pick st1_ne st1_F
namespace st1_V
@[irreducible] noncomputable def w : World := st1_P.1
@[irreducible] noncomputable def base : Heap := st1_P.2.1
@[irreducible] noncomputable def h : Heap := st1_P.2.2.1
@[irreducible] noncomputable def L : Addr := st1_P.2.2.2.1
@[irreducible] noncomputable def fa : Addr := st1_P.2.2.2.2.1
@[irreducible] noncomputable def cda : Addr := st1_P.2.2.2.2.2.1
@[irreducible] noncomputable def mean : ExcName → Option Value := st1_P.2.2.2.2.2.2.1
@[irreducible] noncomputable def mg : Str → Option Value := st1_P.2.2.2.2.2.2.2.1
@[irreducible] noncomputable def mb : Str → Option Value := st1_P.2.2.2.2.2.2.2.2.1
@[irreducible] noncomputable def g₉ : Array GenState := st1_P.2.2.2.2.2.2.2.2.2.1
@[irreducible] noncomputable def d₉ : Drawn := st1_P.2.2.2.2.2.2.2.2.2.2.1
@[irreducible] noncomputable def os₉ : OsState := st1_P.2.2.2.2.2.2.2.2.2.2.2.1
@[irreducible] noncomputable def S : Sl := st1_P.2.2.2.2.2.2.2.2.2.2.2.2.1
@[irreducible] noncomputable def tp : Tok := st1_P.2.2.2.2.2.2.2.2.2.2.2.2.2.1
@[irreducible] noncomputable def tm : Tok := st1_P.2.2.2.2.2.2.2.2.2.2.2.2.2.2.1
@[irreducible] noncomputable def te : Tok := st1_P.2.2.2.2.2.2.2.2.2.2.2.2.2.2.2.1
@[irreducible] noncomputable def Q : Flow → Shared → Prop := st1_P.2.2.2.2.2.2.2.2.2.2.2.2.2.2.2.2.1
@[irreducible] noncomputable def E : Value → Shared → Prop := st1_P.2.2.2.2.2.2.2.2.2.2.2.2.2.2.2.2.2.1
@[irreducible] noncomputable def r : Rdr := st1_P.2.2.2.2.2.2.2.2.2.2.2.2.2.2.2.2.2.2.1
@[irreducible] noncomputable def c : Strm := st1_P.2.2.2.2.2.2.2.2.2.2.2.2.2.2.2.2.2.2.2.1
@[irreducible] noncomputable def tv : Tok := st1_P.2.2.2.2.2.2.2.2.2.2.2.2.2.2.2.2.2.2.2.2.1
@[irreducible] noncomputable def oth : List (Addr × Obj) := st1_P.2.2.2.2.2.2.2.2.2.2.2.2.2.2.2.2.2.2.2.2.2
theorem core : st1_S w base h L fa cda mean mg mb g₉ d₉ os₉ S tp tm te Q E r c tv oth := by
  unfold st1_S
  intro tk p T0 pre rr its nn val σ K0 KX T ht F N hG hO hoth hI hme hpl hen hrd hd h38 hT hQ
  have F₁ := Fr.like F (m' := fun y => if y = Str.ofString "mended" then some (.str (tx T0) tm) else if y = Str.ofString "place" then some (.int (p : Nat) tp) else if y = Str.ofString "end" then some (.int (p + pre.length : Nat) te) else if y = Str.ofString "reader" then some (.ref r.rd) else LF S y) (by exact like_keys (ks := [Str.ofString "mended", Str.ofString "place", Str.ofString "end", Str.ofString "reader"]) (.cons hme (.cons hpl (.cons hen (.cons hrd .nil)))) (by exact Bare.nil) (by repeat' (first | ((with_reducible apply Bare.ite); rfl) | exact Bare.nil)))
  clear F
  have htl := tx_length T0
  have hR := hO
  obtain ⟨⟨q1, q2, q3, q4⟩, p1, p2, p3, p4, p5, p6⟩ := id hO
  dsimp only [Rdr.led, Rdr.own, Strm.led, List.cons_append, List.nil_append] at N
  show wpAny _ _ (exec (.If _ _ _ _) _) _ _ _
  refine wpAny_If ?_
  have hsl : Txt.slice (tx T0) (some ((p : Nat) : Int)) (some ((p + pre.length : Nat) : Int)) = tx pre := by
    rw [slice_nat, List.drop_take, hd, Nat.add_sub_cancel_left, List.take_left]
  have hbe : (tx pre != Txt.slice (tx T0) (some ((p : Nat) : Int)) (some ((p + pre.length : Nat) : Int))) = false := by rw [hsl, bne, tx_beq, decide_eq_true rfl]; rfl
  have hba : (tx [38] != Str.ofString "&") = false := by rw [lit_amp, bne, tx_beq]; rfl
  k_steps
  unfold Stop
  have N₂ : News base L _ ((_, _) :: (r.led c its nn val tv σ ++ oth)) := ‹News _ _ _ _›
  refine Ctr.use (chars_until w c σ _ _ _ _ hG hI (by show @LT.lt Nat _ _ _; lia)) rfl K0 ‹Fr _ _ _ _› KX (by rw [← lit_amp]; exact ledQ N₂) T rfl (by decide +kernel) (by decide +kernel) (by first | assumption | exact Nat.succ_pos _ | lia | (dsimp only; lia)) ?_
  rintro v foot' h2 tk2 ⟨σ', acc, rest', t, rfl, rfl, hsp, h38', hre, hI'⟩ F2 N2 K2
  obtain ⟨rfl, rfl⟩ := amp_uniq h38 h38' (hd.symm.trans hsp) hre
  have N₃ := carryQ hO hoth (by show @LT.lt Nat _ _ _; lia) (by simp only [*]) N₂ K2 N2
  clear N₂ N2 K2
  dsimp only [Rdr.led, Rdr.own, Strm.led, List.cons_append, List.nil_append] at N₃
  k_steps
  unfold Stop
  have N₂ : News base L _ (r.led c its nn val tv σ' ++ oth) := ‹News _ _ _ _›
  refine Ctr.use (char_spec w c σ' _ _ hG hI') rfl K0 ‹Fr _ _ _ _› KX (ledStrm N₂) T rfl (by decide +kernel) (by decide +kernel) (by first | assumption | exact Nat.succ_pos _ | lia | (dsimp only; lia)) ?_
  rintro v foot' h3 tk3 hcp F3 N3 K3
  obtain ⟨σ3, rfl, hcp⟩ := hcp
  rcases hcp with ⟨hcp, _⟩ | ⟨x, rest', t2, hcp, rfl, -, hI3⟩
  · cases hcp
  obtain ⟨rfl, rfl⟩ := List.cons.inj hcp
  have N₄ := carryC (ns := []) hO hoth N₂ K3 N3
  clear N₂ N3 K3
  dsimp only [Rdr.led, Rdr.own, Strm.led, List.cons_append, List.nil_append] at N₄
  k_steps
  refine hQ _ _ σ3 (Fr.like ‹Fr _ _ _ _› (by exact like_LF (ks := [Str.ofString "mended", Str.ofString "place", Str.ofString "end", Str.ofString "reader"]) (.cons (hme).symm (.cons (hpl).symm (.cons (hen).symm (.cons (hrd).symm .nil)))) (by repeat' (first | ((with_reducible apply Bare.ite); rfl) | exact Bare.nil)) (by rfl))) ‹News _ _ _ _› ?_
  have e : T0.take (p + acc.length + 1) = T0.take p ++ acc ++ [38] := by
    have e := take_more (l := T0) (p := p) (a := acc ++ [38]) (b := rr) (by rw [hd]; simp)
    rw [List.length_append, ← Nat.add_assoc] at e
    rw [List.append_assoc]
    exact e
  rw [e]
  exact hI3
end st1_V
theorem st1_all (w : World) (base : Heap) (h : Heap) (L : Addr) (fa : Addr) (cda : Addr) (mean : ExcName → Option Value) (mg : Str → Option Value) (mb : Str → Option Value) (g₉ : Array GenState) (d₉ : Drawn) (os₉ : OsState) (S : Sl) (tp : Tok) (tm : Tok) (te : Tok) (Q : Flow → Shared → Prop) (E : Value → Shared → Prop) (r : Rdr) (c : Strm) (tv : Tok) (oth : List (Addr × Obj)) : st1_S w base h L fa cda mean mg mb g₉ d₉ os₉ S tp tm te Q E r c tv oth := of_pick (S := st1_F) (show st1_F st1_P by with_unfolding_all exact st1_V.core) (w, base, h, L, fa, cda, mean, mg, mb, g₉, d₉, os₉, S, tp, tm, te, Q, E, r, c, tv, oth)
theorem st1 {w : World} {base h : Heap} {L fa cda : Addr} {mean : ExcName → Option Value} {mg mb : Str → Option Value} {g₉ : Array GenState} {d₉ : Drawn} {os₉ : OsState} {S : Sl} {tk p : Nat} {tp tm te : Tok} {T0 pre rr : List Nat} {Q : Flow → Shared → Prop} {E : Value → Shared → Prop} {r : Rdr} {c : Strm} {its : Array Value} {nn : Nat} {val : List Nat} {tv : Tok} {σ : SV} {oth : List (Addr × Obj)} (K0 : Below callerA base [] base) (KX : (KW w.params).In base) (T : TopQ mean mg mb base) (ht : 0 < tk) (F : Fr base L h (LF S)) (N : News base L h (r.led c its nn val tv σ ++ oth)) (hG : Good c) (hO : r.Ord c) (hoth : Off r c oth) (hI : Inv c σ (T0.take p) (T0.drop p)) (hme : S.me = some (.str (tx T0) tm)) (hpl : S.pl = some (.int (p : Nat) tp)) (hen : S.en = some (.int (p + pre.length : Nat) te)) (hrd : S.rd = some (.ref r.rd)) (hd : T0.drop p = pre ++ 38 :: rr) (h38 : 38 ∉ pre) (hT : T0.length ≤ 96) (hQ : ∀ h' tk' σ', Fr base L h' (LF S) → News base L h' (r.led c its nn val tv σ' ++ oth) → Inv c σ' (T0.take (p + pre.length + 1)) rr → Q .next ⟨h', g₉, d₉, tk', os₉⟩) : wpAny (model pw_te0025_01 w) (lawA L fa cda) (exec (lawTurn 1) (lawE L fa cda)) Q E ⟨h, g₉, d₉, tk, os₉⟩ :=
  st1_all w base h L fa cda mean mg mb g₉ d₉ os₉ S tp tm te Q E r c tv oth tk p T0 pre rr its nn val σ K0 KX T ht F N hG hO hoth hI hme hpl hen hrd hd h38 hT hQ
end
section
local macro_rules | `(tactic| walk_at "none 0") => `(tactic| fail)
local macro_rules | `(tactic| k_all) => `(tactic| assumption)
theorem st2 {w : World} {base h : Heap} {L fa cda : Addr} {mean : ExcName → Option Value} {mg mb : Str → Option Value} {g₉ : Array GenState} {d₉ : Drawn} {os₉ : OsState} {S : Sl} {tk p : Nat} {tp tm te : Tok} {T0 pre rr : List Nat} {led : List (Addr × Obj)} {Q : Flow → Shared → Prop} {E : Value → Shared → Prop}
    (K0 : Below callerA base [] base) (KX : (KW w.params).In base) (T : TopQ mean mg mb base) (ht : 0 < tk) (F : Fr base L h (LF S)) (N : News base L h led)
    (hme : S.me = some (.str (tx T0) tm)) (hen : S.en = some (.int (p + pre.length : Nat) te)) (hd : T0.drop p = pre ++ 38 :: rr) (hT : T0.length ≤ 96)
    (hQ : ∀ h' tk' tr, Fr base L h' (LF { S with re := some (.str (tx rr) tr) }) → News base L h' led → Q .next ⟨h', g₉, d₉, tk', os₉⟩) :
    wpAny (model pw_te0025_01 w) (lawA L fa cda) (exec (lawTurn 2) (lawE L fa cda)) Q E ⟨h, g₉, d₉, tk, os₉⟩ := by
  have F₁ := Fr.like F (m' := fun y => if y = Str.ofString "mended" then some (.str (tx T0) tm) else if y = Str.ofString "end" then some (.int (p + pre.length : Nat) te) else LF S y) (by exact like_keys (ks := [Str.ofString "mended", Str.ofString "end"]) (.cons hme (.cons hen .nil)) (by exact Bare.nil) (by repeat' (first | ((with_reducible apply Bare.ite); rfl) | exact Bare.nil)))
  clear F
  have htl := tx_length T0
  have hlen := congrArg List.length hd
  rw [List.length_drop, List.length_append, List.length_cons] at hlen
  have hsl : Txt.slice (tx T0) (some (((p + pre.length : Nat) : Int) + 1)) none = tx rr := by
    rw [show (((p + pre.length : Nat) : Int) + 1) = ((p + (pre ++ [38]).length : Nat) : Int) by rw [List.length_append, List.length_singleton]; lia, slice_from, drop_more (a := pre ++ [38]) (b := rr) (by rw [hd]; simp)]
  show wpAny _ _ (exec (.Assign [_] _ _) _) _ _ _
  k_steps
  rw [hsl] at *
  exact hQ _ _ _ (Fr.like ‹Fr _ _ _ _› (by exact like_LF (ks := [Str.ofString "rest", Str.ofString "mended", Str.ofString "end"]) (.cons rfl (.cons (hme).symm (.cons (hen).symm .nil))) (by repeat' (first | ((with_reducible apply Bare.ite); rfl) | exact Bare.nil)) (by rfl))) ‹News _ _ _ _›
theorem st3 {w : World} {base h : Heap} {L fa cda : Addr} {mean : ExcName → Option Value} {mg mb : Str → Option Value} {g₉ : Array GenState} {d₉ : Drawn} {os₉ : OsState} {S : Sl} {tk : Nat} {tr : Tok} {rr : List Nat} {led : List (Addr × Obj)} {Q : Flow → Shared → Prop} {E : Value → Shared → Prop}
    (K0 : Below callerA base [] base) (KX : (KW w.params).In base) (T : TopQ mean mg mb base) (ht : 0 < tk) (F : Fr base L h (LF S)) (N : News base L h led)
    (hre : S.re = some (.str (tx rr) tr)) (hT : rr.length ≤ 96)
    (hQ : ∀ h' tk' tb ta, Fr base L h' (LF { S with be := some (.str (tx ((bestPre (rr.take (alongOf rr))).getD [])) tb), al := some (.int (alongOf rr : Nat) ta) }) → News base L h' led → Q .next ⟨h', g₉, d₉, tk', os₉⟩) :
    wpAny (model pw_te0025_01 w) (lawA L fa cda) (exec (lawTurn 3) (lawE L fa cda)) Q E ⟨h, g₉, d₉, tk, os₉⟩ := by
  have F₁ := Fr.like F (m' := fun y => if y = Str.ofString "rest" then some (.str (tx rr) tr) else LF S y) (by exact like_keys (ks := [Str.ofString "rest"]) (.cons hre .nil) (by exact Bare.nil) (by repeat' (first | ((with_reducible apply Bare.ite); rfl) | exact Bare.nil)))
  clear F
  have htl := tx_length rr
  show wpAny _ _ (exec (.Assign [_] _ _) _) _ _ _
  k_steps
  unfold Stop
  have N₂ := ‹News _ _ _ _›
  refine Ctr.use (named_spec w rr tr (by lia)) rfl K0 ‹Fr _ _ _ _› KX News.nil T rfl (by decide +kernel) (by decide +kernel) (by first | assumption | exact Nat.succ_pos _ | lia | (dsimp only; lia)) ?_
  rintro v foot' h2 tk2 ⟨a, t1, t2, rfl, rfl⟩ F2 N2 K2
  have N₃ := addN N₂ K2 N2
  clear N₂ N2 K2
  rw [named_is] at N₃
  dsimp only [List.cons_append, List.nil_append] at N₃
  k_steps
  exact hQ _ _ _ _ (Fr.like ‹Fr _ _ _ _› (by exact like_LF (ks := [Str.ofString "along", Str.ofString "best", Str.ofString "rest"]) (.cons rfl (.cons rfl (.cons (hre).symm .nil))) (by repeat' (first | ((with_reducible apply Bare.ite); rfl) | exact Bare.nil)) (by rfl))) (News.tl ‹News _ _ _ _›)
theorem st4 {w : World} {base h : Heap} {L fa cda : Addr} {mean : ExcName → Option Value} {mg mb : Str → Option Value} {g₉ : Array GenState} {d₉ : Drawn} {os₉ : OsState} {S : Sl} {tk al : Nat} {tr tb ta : Tok} {rr b : List Nat} {clo : Option Nat} {clV : Value} {inside : Bool} {led : List (Addr × Obj)} {Q : Flow → Shared → Prop} {E : Value → Shared → Prop}
    (K0 : Below callerA base [] base) (KX : (KW w.params).In base) (T : TopQ mean mg mb base) (ht : 0 < tk) (F : Fr base L h (LF S)) (N : News base L h led)
    (hre : S.re = some (.str (tx rr) tr)) (hbe : S.be = some (.str (tx b) tb)) (hal : S.al = some (.int (al : Nat) ta)) (hcl : S.cl = some clV) (hins : S.ins = some (.bool inside)) (hT : rr.length ≤ 96)
    (hm : ∀ x ∈ rr, Mended x) (hb : (entV b).isSome = true ∨ b = []) (hbl : b.length ≤ 12) (ha : al ≤ 3000) (hch : Ch clo clV)
    (hQ : ∀ h' tk' tu l tn tv nn, Fr base L h' (LF { S with ou := some (.str (tx (readOut clo inside rr b al).1) tu), tl := some (.ref l), sz := some (.int ((readOut clo inside rr b al).2.2 : Nat) tn) }) →
      News base L h' ((l, listOf tv nn) :: led) → h.get? l = none → ToldV tv (readOut clo inside rr b al).2.1 → Q .next ⟨h', g₉, d₉, tk', os₉⟩) :
    wpAny (model pw_te0025_01 w) (lawA L fa cda) (exec (lawTurn 4) (lawE L fa cda)) Q E ⟨h, g₉, d₉, tk, os₉⟩ := by
  have F₁ := Fr.like F (m' := fun y => if y = Str.ofString "rest" then some (.str (tx rr) tr) else if y = Str.ofString "best" then some (.str (tx b) tb) else if y = Str.ofString "along" then some (.int (al : Nat) ta) else if y = Str.ofString "closing" then some clV else if y = Str.ofString "inside" then some (.bool inside) else LF S y) (by exact like_keys (ks := [Str.ofString "rest", Str.ofString "best", Str.ofString "along", Str.ofString "closing", Str.ofString "inside"]) (.cons hre (.cons hbe (.cons hal (.cons hcl (.cons hins .nil))))) (by exact Bare.nil) (by repeat' (first | ((with_reducible apply Bare.ite); rfl) | exact Bare.nil)))
  clear F
  have htl := tx_length rr
  show wpAny _ _ (exec (.Assign [_] _ _) _) _ _ _
  k_steps
  unfold Stop
  have N₂ := ‹News _ _ _ _›
  refine CtrF.use (read_law w rr b al clo clV inside _ _ _ (by lia) hm hb hbl ha hch) rfl K0 ‹Fr _ _ _ _› KX T rfl (by decide +kernel) (by decide +kernel) (by first | assumption | exact Nat.succ_pos _ | lia | (dsimp only; lia)) ?_
  rintro v foot' h2 tk2 ⟨q, l, ot, tn, nn, tv, rfl, rfl, hto⟩ F2 N2 K2 U2
  have N₃ := addN N₂ K2 N2
  clear N₂ N2 K2
  dsimp only [List.cons_append, List.nil_append] at N₃
  k_steps
  exact hQ _ _ _ _ _ _ _ (Fr.like ‹Fr _ _ _ _› (by exact like_LF (ks := [Str.ofString "size", Str.ofString "told", Str.ofString "output", Str.ofString "rest", Str.ofString "best", Str.ofString "along", Str.ofString "closing", Str.ofString "inside"]) (.cons rfl (.cons rfl (.cons rfl (.cons (hre).symm (.cons (hbe).symm (.cons (hal).symm (.cons (hcl).symm (.cons (hins).symm .nil)))))))) (by repeat' (first | ((with_reducible apply Bare.ite); rfl) | exact Bare.nil)) (by rfl))) (News.tl ‹News _ _ _ _›) (U2 _ (.tail _ (.head _))) hto
end
section
local macro_rules | `(tactic| k_all) => `(tactic| assumption)
theorem st5 {w : World} {base h : Heap} {L fa cda : Addr} {mean : ExcName → Option Value} {mg mb : Str → Option Value} {g₉ : Array GenState} {d₉ : Drawn} {os₉ : OsState} {S : Sl} {tk : Nat} {Q : Flow → Shared → Prop} {E : Value → Shared → Prop}
    {r : Rdr} {c : Strm} {its : Array Value} {nn : Nat} {val : List Nat} {tv : Tok} {σ : SV} {oth : List (Addr × Obj)} {seen rr : List Nat} {clo : Option Nat} {clV : Value} {inside : Bool}
    (K0 : Below callerA base [] base) (KX : (KW w.params).In base) (T : TopQ mean mg mb base) (ht : 0 < tk) (F : Fr base L h (LF S)) (N : News base L h (r.led c its nn val tv σ ++ oth))
    (hG : Good c) (hO : r.Ord c) (hC : r.Cur w) (hoth : Off r c oth) (hI : Inv c σ seen rr) (hch : Ch clo clV) (h35 : 35 ∉ rr) (hits : its.size ≤ 100) (hval : val.length ≤ 5000)
    (hrd : S.rd = some (.ref r.rd)) (hcl : S.cl = some clV) (hins : S.ins = some (.bool inside))
    (hQ : ∀ h' tk' σ' its' nn' tv' ex add, Fr base L h' (LF S) → News base L h' (r.led c its' nn' (if inside then val ++ (refOut clo inside rr).1 else val) tv' σ' ++ (ex ++ oth)) → Inv c σ' (seen ++ rr.take (refOut clo inside rr).2.2) (rr.drop (refOut clo inside rr).2.2) →
      its'.toList = its.toList ++ add → Tks w ex add (((refOut clo inside rr).2.1.map fun e => ((7 : Int), e)).toList ++ if inside then [] else [(1, tx (refOut clo inside rr).1)]) → (∀ p ∈ ex, @LT.lt Nat _ r.dl p.1) → Q .next ⟨h', g₉, d₉, tk', os₉⟩) :
    wpAny (model pw_te0025_01 w) (lawA L fa cda) (exec (lawTurn 5) (lawE L fa cda)) Q E ⟨h, g₉, d₉, tk, os₉⟩ := by
  have F₁ := Fr.like F (m' := fun y => if y = Str.ofString "reader" then some (.ref r.rd) else if y = Str.ofString "closing" then some clV else if y = Str.ofString "inside" then some (.bool inside) else LF S y) (by exact like_keys (ks := [Str.ofString "reader", Str.ofString "closing", Str.ofString "inside"]) (.cons hrd (.cons hcl (.cons hins .nil))) (by exact Bare.nil) (by repeat' (first | ((with_reducible apply Bare.ite); rfl) | exact Bare.nil)))
  clear F
  dsimp only [Rdr.led, Rdr.own, Strm.led, List.cons_append, List.nil_append] at N
  show wpAny _ _ (exec (.Expr _ _) _) _ _ _
  k_steps
  unfold Stop
  have N₂ : News base L _ (r.led c its nn val tv σ ++ oth) := ‹News _ _ _ _›
  refine CtrS.use (consume_spec w c r σ its nn val tv seen rr clo clV inside hG hO hC hI hch h35 hits hval) rfl K0 ‹Fr _ _ _ _› KX (ledRdr N₂) T rfl (by decide +kernel) (by decide +kernel) (by first | assumption | exact Nat.succ_pos _ | lia | (dsimp only; lia)) ?_
  rintro v foot' h2 tk2 ⟨σ', its', nn', tv', ex, add, rfl, hI', hit, htk, hex⟩ F2 N2 K2
  have N₃ := carryR hoth N₂ K2 N2
  clear N₂ N2 K2
  k_steps
  exact hQ _ _ _ _ _ _ _ _ (Fr.like ‹Fr _ _ _ _› (by exact like_LF (ks := [Str.ofString "reader", Str.ofString "closing", Str.ofString "inside"]) (.cons (hrd).symm (.cons (hcl).symm (.cons (hins).symm .nil))) (by repeat' (first | ((with_reducible apply Bare.ite); rfl) | exact Bare.nil)) (by rfl))) ‹News _ _ _ _› hI' hit htk hex
theorem st8 {w : World} {base h : Heap} {L fa cda : Addr} {mean : ExcName → Option Value} {mg mb : Str → Option Value} {g₉ : Array GenState} {d₉ : Drawn} {os₉ : OsState} {S : Sl} {tk e z : Nat} {te tz : Tok} {led : List (Addr × Obj)} {Q : Flow → Shared → Prop} {E : Value → Shared → Prop}
    (K0 : Below callerA base [] base) (KX : (KW w.params).In base) (T : TopQ mean mg mb base) (ht : 0 < tk) (F : Fr base L h (LF S)) (N : News base L h led)
    (hen : S.en = some (.int (e : Nat) te)) (hsz : S.sz = some (.int (z : Nat) tz)) (he : e ≤ 1000) (hz : z ≤ 1000)
    (hQ : ∀ h' tk' tp, Fr base L h' (LF { S with pl := some (.int (e + 1 + z : Nat) tp) }) → News base L h' led → Q .next ⟨h', g₉, d₉, tk', os₉⟩) :
    wpAny (model pw_te0025_01 w) (lawA L fa cda) (exec (lawTurn 8) (lawE L fa cda)) Q E ⟨h, g₉, d₉, tk, os₉⟩ := by
  have F₁ := Fr.like F (m' := fun y => if y = Str.ofString "end" then some (.int (e : Nat) te) else if y = Str.ofString "size" then some (.int (z : Nat) tz) else LF S y) (by exact like_keys (ks := [Str.ofString "end", Str.ofString "size"]) (.cons hen (.cons hsz .nil)) (by exact Bare.nil) (by repeat' (first | ((with_reducible apply Bare.ite); rfl) | exact Bare.nil)))
  clear F
  show wpAny _ _ (exec (.Assign [_] _ _) _) _ _ _
  k_steps
  have F₂ := ‹Fr _ _ _ _›
  rw [show (e : Int) + 1 + (z : Int) = ((e + 1 + z : Nat) : Int) by lia] at F₂
  exact hQ _ _ _ (Fr.like F₂ (by exact like_LF (ks := [Str.ofString "place", Str.ofString "end", Str.ofString "size"]) (.cons rfl (.cons (hen).symm (.cons (hsz).symm .nil))) (by repeat' (first | ((with_reducible apply Bare.ite); rfl) | exact Bare.nil)) (by rfl))) ‹News _ _ _ _›
end
section
local macro_rules | `(tactic| walk_at "none 0") => `(tactic| fail)
local macro_rules | `(tactic| k_all) => `(tactic| assumption)
theorem st6a {w : World} {base h : Heap} {L fa cda : Addr} {mean : ExcName → Option Value} {mg mb : Str → Option Value} {g₉ : Array GenState} {d₉ : Drawn} {os₉ : OsState} {S : Sl} {tk l D dn nn : Nat} {tv dits : Array Value} {fault : Option Str} {led : List (Addr × Obj)} {Q : Flow → Shared → Prop} {E : Value → Shared → Prop}
    (K0 : Below callerA base [] base) (KX : (KW w.params).In base) (T : TopQ mean mg mb base) (ht : 0 < tk) (F : Fr base L h (LF S)) (N : News base L h ((l, listOf #[] nn) :: (D, listOf dits dn) :: led))
    (hdu : S.du = some (.ref D)) (htl : S.tl = some (.ref l)) (hsz : dits.size ≤ 100)
    (hQ : ∀ h' tk' D' dn', Fr base L h' (LF { S with du := some (.ref D') }) → News base L h' ((D', listOf dits dn') :: led) → (∀ p ∈ led, @LT.lt Nat _ p.1 D') → Q .next ⟨h', g₉, d₉, tk', os₉⟩) :
    wpAny (model pw_te0025_01 w) (lawA L fa cda) (exec (lawTurn 6) (lawE L fa cda)) Q E ⟨h, g₉, d₉, tk, os₉⟩ := by
  have F₁ := Fr.like F (m' := fun y => if y = Str.ofString "due" then some (.ref D) else if y = Str.ofString "told" then some (.ref l) else LF S y) (by exact like_keys (ks := [Str.ofString "due", Str.ofString "told"]) (.cons hdu (.cons htl .nil)) (by exact Bare.nil) (by repeat' (first | ((with_reducible apply Bare.ite); rfl) | exact Bare.nil)))
  clear F
  show wpAny _ _ (exec (.Assign [_] _ _) _) _ _ _
  k_steps
  have N₂ := ‹News _ _ _ _›
  refine kmk_add_lit (its := dits) (its2 := #[]) ‹Fr _ _ _ _› N₂ ⟨_, (N₂ _ (.tail _ (.tail _ (.head _)))).1, rfl, _, rfl⟩ ⟨_, (N₂ _ (.head _)).1, rfl, _, rfl⟩ (List.append_nil _) ?_ (by simp only [PySem.sizeLine_eq, Array.length_toList, List.length_nil]; lia)
  intro D' h' F' N' hlt
  rw [Array.toArray_toList] at N'
  k_steps
  refine hQ _ _ _ 0 (Fr.like ‹Fr _ _ _ _› (by exact like_LF (ks := [Str.ofString "due", Str.ofString "told"]) (.cons rfl (.cons (htl).symm .nil)) (by repeat' (first | ((with_reducible apply Bare.ite); rfl) | exact Bare.nil)) (by rfl))) (News.sub ‹News _ _ _ _› ?_) (fun p hp => hlt p (.tail _ (.tail _ (.tail _ hp))))
  intro p hp
  rcases List.mem_cons.mp hp with rfl | hp
  · exact .head _
  · exact .tail _ (.tail _ (.tail _ (.tail _ hp)))
theorem st6b {w : World} {base h : Heap} {L fa cda : Addr} {mean : ExcName → Option Value} {mg mb : Str → Option Value} {g₉ : Array GenState} {d₉ : Drawn} {os₉ : OsState} {S : Sl} {tk l D dn nn : Nat} {dits : Array Value} {fault : Str} {ft : Tok} {led : List (Addr × Obj)} {Q : Flow → Shared → Prop} {E : Value → Shared → Prop}
    (K0 : Below callerA base [] base) (KX : (KW w.params).In base) (T : TopQ mean mg mb base) (ht : 0 < tk) (F : Fr base L h (LF S)) (N : News base L h ((l, listOf #[.str fault ft] nn) :: (D, listOf dits dn) :: led))
    (hdu : S.du = some (.ref D)) (htl : S.tl = some (.ref l)) (hsz : dits.size ≤ 100)
    (hQ : ∀ h' tk' D' dn' q t1 t2, Fr base L h' (LF { S with du := some (.ref D') }) → News base L h' ((D', listOf (dits.push (.ref q)) dn') :: (q, tupOf #[.int 7 t1, .str fault t2]) :: led) → (∀ p ∈ led, @LT.lt Nat _ p.1 q) → @LT.lt Nat _ q D' → (∀ p ∈ led, @LT.lt Nat _ p.1 D') → Q .next ⟨h', g₉, d₉, tk', os₉⟩) :
    wpAny (model pw_te0025_01 w) (lawA L fa cda) (exec (lawTurn 6) (lawE L fa cda)) Q E ⟨h, g₉, d₉, tk, os₉⟩ := by
  have F₁ := Fr.like F (m' := fun y => if y = Str.ofString "due" then some (.ref D) else if y = Str.ofString "told" then some (.ref l) else LF S y) (by exact like_keys (ks := [Str.ofString "due", Str.ofString "told"]) (.cons hdu (.cons htl .nil)) (by exact Bare.nil) (by repeat' (first | ((with_reducible apply Bare.ite); rfl) | exact Bare.nil)))
  clear F
  show wpAny _ _ (exec (.Assign [_] _ _) _) _ _ _
  k_steps
  rename_i g' I' oI' C' oC' Dc m' h1 tk1 E' hC' off' ne' hv' hx' D1 h2 F2 N2 l1
  obtain ⟨⟨a1, a2, a3⟩, ⟨a4, a5, a6⟩, a7⟩ := off'
  obtain ⟨b1, b2, b3, b4, b5, b6⟩ := l1
  have hlq : ∀ p ∈ led, @LT.lt Nat _ p.1 D1 := kst_ltOf b6
  obtain ⟨t7, N3⟩ : ∃ t7, News base L h2 ((D1, tupOf #[.int 7 t7, .str fault ft]) :: (I', oI') :: (C', oC') :: (Dc, LCg.lst []) :: (l, listOf #[.str fault ft] nn) :: (D, listOf dits dn) :: led) := ⟨_, N2⟩
  clear N2
  refine LCg.CompEnd.intro F2 N3 ((D1, tupOf #[.int 7 t7, .str fault ft]) :: (l, listOf #[.str fault ft] nn) :: (D, listOf dits dn) :: led) ?_ ⟨⟨by show @Ne Nat _ _; lia, by show @Ne Nat _ _; lia, by show @Ne Nat _ _; lia⟩, ⟨a1, a2, a3⟩, ⟨a4, a5, a6⟩, a7⟩ (.inr ⟨listOf #[.str fault ft] nn, .tail _ (.head _), rfl, _, rfl⟩) ?_
  · intro p hp
    simp only [List.mem_cons] at hp ⊢
    rcases hp with h | h | h | h | h | h | h <;> simp [h]
  k_steps
  have N₂ := ‹News _ _ _ _›
  refine kmk_add_lit (its := dits) (its2 := #[.ref D1]) ‹Fr _ _ _ _› N₂ ⟨_, (N₂ _ (.tail _ (.tail _ (.tail _ (.head _))))).1, rfl, _, rfl⟩ ⟨_, (N₂ _ (.head _)).1, rfl, _, rfl⟩ rfl ?_ (by simp only [PySem.sizeLine_eq, Array.length_toList, List.length_cons, List.length_nil]; lia)
  intro D' h' F' N' hlt
  rw [show (dits.toList ++ [Value.ref D1]).toArray = dits.push (.ref D1) by rw [← Array.toList_push, Array.toArray_toList]] at N'
  k_steps
  refine hQ _ _ _ 0 D1 t7 ft (Fr.like ‹Fr _ _ _ _› (by exact like_LF (ks := [Str.ofString "due", Str.ofString "told"]) (.cons rfl (.cons (htl).symm .nil)) (by repeat' (first | ((with_reducible apply Bare.ite); rfl) | exact Bare.nil)) (by rfl))) (News.sub ‹News _ _ _ _› ?_) hlq (hlt (D1, _) (.tail _ (.head _))) (fun p hp => hlt p (.tail _ (.tail _ (.tail _ (.tail _ hp)))))
  intro p hp
  simp only [List.mem_cons] at hp ⊢
  rcases hp with h | h | h <;> simp [h]
theorem st7a {w : World} {base h : Heap} {L fa cda : Addr} {mean : ExcName → Option Value} {mg mb : Str → Option Value} {g₉ : Array GenState} {d₉ : Drawn} {os₉ : OsState} {S : Sl} {tk : Nat} {val out : List Nat} {tv to : Tok} {led : List (Addr × Obj)} {Q : Flow → Shared → Prop} {E : Value → Shared → Prop}
    (K0 : Below callerA base [] base) (KX : (KW w.params).In base) (T : TopQ mean mg mb base) (ht : 0 < tk) (F : Fr base L h (LF S)) (N : News base L h led)
    (hin : S.ins = some (.bool true)) (hva : S.va = some (.str (tx val) tv)) (hou : S.ou = some (.str (tx out) to)) (h1 : val.length ≤ 5000) (h2 : out.length ≤ 5000)
    (hQ : ∀ h' tk' tv', Fr base L h' (LF { S with va := some (.str (tx (val ++ out)) tv') }) → News base L h' led → Q .next ⟨h', g₉, d₉, tk', os₉⟩) :
    wpAny (model pw_te0025_01 w) (lawA L fa cda) (exec (lawTurn 7) (lawE L fa cda)) Q E ⟨h, g₉, d₉, tk, os₉⟩ := by
  have F₁ := Fr.like F (m' := fun y => if y = Str.ofString "inside" then some (.bool true) else if y = Str.ofString "value" then some (.str (tx val) tv) else if y = Str.ofString "output" then some (.str (tx out) to) else LF S y) (by exact like_keys (ks := [Str.ofString "inside", Str.ofString "value", Str.ofString "output"]) (.cons hin (.cons hva (.cons hou .nil))) (by exact Bare.nil) (by repeat' (first | ((with_reducible apply Bare.ite); rfl) | exact Bare.nil)))
  clear F
  have e1 := tx_length val
  have e2 := tx_length out
  show wpAny _ _ (exec (.If _ _ _ _) _) _ _ _
  refine wpAny_If ?_
  k_steps
  have F₂ := ‹Fr _ _ _ _›
  rw [tx_append] at F₂
  exact hQ _ _ _ (Fr.like F₂ (by exact like_LF (ks := [Str.ofString "value", Str.ofString "inside", Str.ofString "output"]) (.cons rfl (.cons (hin).symm (.cons (hou).symm .nil))) (by repeat' (first | ((with_reducible apply Bare.ite); rfl) | exact Bare.nil)) (by rfl))) ‹News _ _ _ _›
theorem st7b {w : World} {base h : Heap} {L fa cda : Addr} {mean : ExcName → Option Value} {mg mb : Str → Option Value} {g₉ : Array GenState} {d₉ : Drawn} {os₉ : OsState} {S : Sl} {tk D dn : Nat} {out : List Nat} {to : Tok} {dits : Array Value} {led : List (Addr × Obj)} {Q : Flow → Shared → Prop} {E : Value → Shared → Prop}
    (K0 : Below callerA base [] base) (KX : (KW w.params).In base) (T : TopQ mean mg mb base) (ht : 0 < tk) (F : Fr base L h (LF S)) (N : News base L h ((D, listOf dits dn) :: led)) (hD : ∀ p ∈ led, @LT.lt Nat _ p.1 D)
    (hin : S.ins = some (.bool false)) (hdu : S.du = some (.ref D)) (hou : S.ou = some (.str (tx out) to)) (hsz : dits.size ≤ 101)
    (hQ : ∀ h' tk' q t1, Fr base L h' (LF S) → News base L h' ((D, listOf (dits.push (.ref q)) (dn + 1)) :: (q, tupOf #[.int 1 t1, .str (tx out) to]) :: led) → (∀ p ∈ led, @LT.lt Nat _ p.1 q) → @LT.lt Nat _ D q → Q .next ⟨h', g₉, d₉, tk', os₉⟩) :
    wpAny (model pw_te0025_01 w) (lawA L fa cda) (exec (lawTurn 7) (lawE L fa cda)) Q E ⟨h, g₉, d₉, tk, os₉⟩ := by
  have F₁ := Fr.like F (m' := fun y => if y = Str.ofString "inside" then some (.bool false) else if y = Str.ofString "due" then some (.ref D) else if y = Str.ofString "output" then some (.str (tx out) to) else LF S y) (by exact like_keys (ks := [Str.ofString "inside", Str.ofString "due", Str.ofString "output"]) (.cons hin (.cons hdu (.cons hou .nil))) (by exact Bare.nil) (by repeat' (first | ((with_reducible apply Bare.ite); rfl) | exact Bare.nil)))
  clear F
  show wpAny _ _ (exec (.If _ _ _ _) _) _ _ _
  refine wpAny_If ?_
  k_steps
  have N₂ := ‹News _ _ _ _›
  have hl := ‹_ ∧ AllLt _ _›
  refine hQ _ _ _ 535 (Fr.like ‹Fr _ _ _ _› (by exact like_LF (ks := [Str.ofString "inside", Str.ofString "due", Str.ofString "output"]) (.cons (hin).symm (.cons (hdu).symm (.cons (hou).symm .nil))) (by repeat' (first | ((with_reducible apply Bare.ite); rfl) | exact Bare.nil)) (by rfl))) (News.sub N₂ ?_) (kst_ltOf hl.2) hl.1
  intro p hp
  simp only [List.mem_cons] at hp ⊢
  rcases hp with h | h | h <;> simp [h]
theorem st6 {w : World} {base h : Heap} {L fa cda : Addr} {mean : ExcName → Option Value} {mg mb : Str → Option Value} {g₉ : Array GenState} {d₉ : Drawn} {os₉ : OsState} {S : Sl} {tk l D dn nn : Nat} {tvs dits : Array Value} {told : Option Str} {led : List (Addr × Obj)} {Q : Flow → Shared → Prop} {E : Value → Shared → Prop}
    (K0 : Below callerA base [] base) (KX : (KW w.params).In base) (T : TopQ mean mg mb base) (ht : 0 < tk) (F : Fr base L h (LF S)) (N : News base L h ((l, listOf tvs nn) :: (D, listOf dits dn) :: led))
    (hto : ToldV tvs told) (hdu : S.du = some (.ref D)) (htl : S.tl = some (.ref l)) (hsz : dits.size ≤ 100)
    (hQ : ∀ h' tk' D' dn' dits' d6 vs, Fr base L h' (LF { S with du := some (.ref D') }) → News base L h' ((D', listOf dits' dn') :: (d6 ++ led)) → dits'.toList = dits.toList ++ vs → DueAre d6 vs (told.map fun e => ((7 : Int), e)).toList →
      (∀ q ∈ d6, ∀ p ∈ led, @LT.lt Nat _ p.1 q.1) → (∀ p ∈ d6 ++ led, @LT.lt Nat _ p.1 D') → Q .next ⟨h', g₉, d₉, tk', os₉⟩) :
    wpAny (model pw_te0025_01 w) (lawA L fa cda) (exec (lawTurn 6) (lawE L fa cda)) Q E ⟨h, g₉, d₉, tk, os₉⟩ := by
  cases told with
  | none =>
    have e : tvs = #[] := hto
    subst e
    refine st6a (fault := none) (tv := #[]) K0 KX T ht F N hdu htl hsz ?_
    intro h' tk' D' dn' F' N' hlt
    exact hQ h' tk' D' dn' dits [] [] F' N' (List.append_nil _).symm trivial (fun _ h => nomatch h) hlt
  | some e =>
    obtain ⟨t, rfl⟩ := hto
    refine st6b K0 KX T ht F N hdu htl hsz ?_
    intro h' tk' D' dn' q t1 t2 F' N' h1 h2 h3
    refine hQ h' tk' D' dn' _ [(q, tupOf #[.int 7 t1, .str e t2])] [.ref q] F' N' Array.toList_push ⟨rfl, ⟨_, _, rfl⟩, trivial⟩ (fun p hp => ?_) (fun p hp => ?_)
    · rw [List.mem_singleton.mp hp]; exact h1
    · rcases List.mem_append.mp hp with hp | hp
      · rw [List.mem_singleton.mp hp]; exact h2
      · exact h3 p hp
theorem st7 {w : World} {base h : Heap} {L fa cda : Addr} {mean : ExcName → Option Value} {mg mb : Str → Option Value} {g₉ : Array GenState} {d₉ : Drawn} {os₉ : OsState} {S : Sl} {tk D dn : Nat} {val out : List Nat} {tv to : Tok} {dits : Array Value} {inside : Bool} {led : List (Addr × Obj)} {Q : Flow → Shared → Prop} {E : Value → Shared → Prop}
    (K0 : Below callerA base [] base) (KX : (KW w.params).In base) (T : TopQ mean mg mb base) (ht : 0 < tk) (F : Fr base L h (LF S)) (N : News base L h ((D, listOf dits dn) :: led)) (hD : ∀ p ∈ led, @LT.lt Nat _ p.1 D)
    (hin : S.ins = some (.bool inside)) (hdu : S.du = some (.ref D)) (hva : S.va = some (.str (tx val) tv)) (hou : S.ou = some (.str (tx out) to)) (hsz : dits.size ≤ 101) (h1 : val.length ≤ 5000) (h2 : out.length ≤ 5000)
    (hQ : ∀ h' tk' dn' dits' d7 vs ta, Fr base L h' (LF { S with va := some (.str (tx (if inside then val ++ out else val)) ta) }) → News base L h' ((D, listOf dits' dn') :: (d7 ++ led)) → dits'.toList = dits.toList ++ vs → DueAre d7 vs (if inside then [] else [(1, tx out)]) →
      (∀ q ∈ d7, ∀ p ∈ led, @LT.lt Nat _ p.1 q.1) → (∀ q ∈ d7, @LT.lt Nat _ D q.1) → Q .next ⟨h', g₉, d₉, tk', os₉⟩) :
    wpAny (model pw_te0025_01 w) (lawA L fa cda) (exec (lawTurn 7) (lawE L fa cda)) Q E ⟨h, g₉, d₉, tk, os₉⟩ := by
  cases inside with
  | true =>
    refine st7a K0 KX T ht F N hin hva hou h1 h2 ?_
    intro h' tk' tv' F' N'
    exact hQ h' tk' dn dits [] [] tv' F' N' (List.append_nil _).symm trivial (fun _ h => nomatch h) (fun _ h => nomatch h)
  | false =>
    refine st7b K0 KX T ht F N hD hin hdu hou hsz ?_
    intro h' tk' q t1 F' N' h3 h4
    refine hQ h' tk' (dn + 1) _ [(q, tupOf #[.int 1 t1, .str (tx out) to])] [.ref q] tv ?_ N' Array.toList_push ⟨rfl, ⟨_, _, rfl⟩, trivial⟩ (fun p hp => ?_) (fun p hp => ?_)
    · have e : ({ S with va := some (.str (tx (if false = true then val ++ out else val)) tv) } : Sl) = S := by
        rw [show (if false = true then val ++ out else val) = val from rfl, ← hva]
      rw [e]; exact F'
    · rw [List.mem_singleton.mp hp]; exact h3
    · rw [List.mem_singleton.mp hp]; exact h4
end
section
local macro_rules | `(tactic| walk_at "none 0") => `(tactic| fail)
local macro_rules | `(tactic| k_all) => `(tactic| assumption)
local macro_rules | `(tactic| walk_at "subscriptTail Name Slice str ref") => `(tactic| walk_at "slice")
noncomputable def st9_S (w : World) (base : Heap) (h : Heap) (L : Addr) (fa : Addr) (cda : Addr) (mean : ExcName → Option Value) (mg : Str → Option Value) (mb : Str → Option Value) (g₉ : Array GenState) (d₉ : Drawn) (os₉ : OsState) (S : Sl) (tp : Tok) (tm : Tok) (tr : Tok) (tb : Tok) (Q : Flow → Shared → Prop) (E : Value → Shared → Prop) (r : Rdr) (c : Strm) (tv : Tok) (oth : List (Addr × Obj)) : Prop :=
  ∀ (tk : Nat) (p : Nat) (T0 : List Nat) (rr : List Nat) (its : Array Value) (nn : Nat) (val : List Nat) (σ : SV) (rest : List Nat), (Below callerA base [] base) →
    ((KW w.params).In base) →
    (TopQ mean mg mb base) →
    (0 < tk) →
    (Fr base L h (LF S)) →
    (News base L h (r.led c its nn val tv σ ++ oth)) →
    (Good c) →
    (r.Ord c) →
    (Off r c oth) →
    (Inv c σ (T0.take p) rest) →
    (S.me = some (.str (tx T0) tm)) →
    (S.pl = some (.int (p : Nat) tp)) →
    (S.rd = some (.ref r.rd)) →
    (S.re = some (.str (tx rr) tr)) →
    (S.be = some (.str (tx ((bestPre (rr.take (alongOf rr))).getD [])) tb)) →
    (T0.length ≤ 96) →
    (rr.length ≤ 96) →
    (p ≤ 96) →
    (∀ h' tk' σ', Fr base L h' (LF S) → News base L h' (r.led c its nn val tv σ' ++ oth) → Inv c σ' (T0.take p) rest → Q .next ⟨h', g₉, d₉, tk', os₉⟩) →
    wpAny (model pw_te0025_01 w) (lawA L fa cda) (exec (lawTurn 9) (lawE L fa cda)) Q E ⟨h, g₉, d₉, tk, os₉⟩
noncomputable abbrev st9_T : Type := (World) × (Heap) × (Heap) × (Addr) × (Addr) × (Addr) × (ExcName → Option Value) × (Str → Option Value) × (Str → Option Value) × (Array GenState) × (Drawn) × (OsState) × (Sl) × (Tok) × (Tok) × (Tok) × (Tok) × (Flow → Shared → Prop) × (Value → Shared → Prop) × (Rdr) × (Strm) × (Tok) × (List (Addr × Obj))
theorem st9_ne : Nonempty st9_T := ⟨(dW, default, default, default, default, default, (fun _ => default), (fun _ => default), (fun _ => default), default, {}, default, dSl, default, default, default, default, (fun _ _ => True), (fun _ _ => True), dRdr, dStrm, default, default)⟩
noncomputable abbrev st9_F (x : st9_T) : Prop := st9_S x.1 x.2.1 x.2.2.1 x.2.2.2.1 x.2.2.2.2.1 x.2.2.2.2.2.1 x.2.2.2.2.2.2.1 x.2.2.2.2.2.2.2.1 x.2.2.2.2.2.2.2.2.1 x.2.2.2.2.2.2.2.2.2.1 x.2.2.2.2.2.2.2.2.2.2.1 x.2.2.2.2.2.2.2.2.2.2.2.1 x.2.2.2.2.2.2.2.2.2.2.2.2.1 x.2.2.2.2.2.2.2.2.2.2.2.2.2.1 x.2.2.2.2.2.2.2.2.2.2.2.2.2.2.1 x.2.2.2.2.2.2.2.2.2.2.2.2.2.2.2.1 x.2.2.2.2.2.2.2.2.2.2.2.2.2.2.2.2.1 x.2.2.2.2.2.2.2.2.2.2.2.2.2.2.2.2.2.1 x.2.2.2.2.2.2.2.2.2.2.2.2.2.2.2.2.2.2.1 x.2.2.2.2.2.2.2.2.2.2.2.2.2.2.2.2.2.2.2.1 x.2.2.2.2.2.2.2.2.2.2.2.2.2.2.2.2.2.2.2.2.1 x.2.2.2.2.2.2.2.2.2.2.2.2.2.2.2.2.2.2.2.2.2.1 x.2.2.2.2.2.2.2.2.2.2.2.2.2.2.2.2.2.2.2.2.2.2
noncomputable def st9_P : st9_T := pick st9_ne st9_F
namespace st9_V
@[irreducible] noncomputable def w : World := st9_P.1
@[irreducible] noncomputable def base : Heap := st9_P.2.1
@[irreducible] noncomputable def h : Heap := st9_P.2.2.1
@[irreducible] noncomputable def L : Addr := st9_P.2.2.2.1
@[irreducible] noncomputable def fa : Addr := st9_P.2.2.2.2.1
@[irreducible] noncomputable def cda : Addr := st9_P.2.2.2.2.2.1
@[irreducible] noncomputable def mean : ExcName → Option Value := st9_P.2.2.2.2.2.2.1
@[irreducible] noncomputable def mg : Str → Option Value := st9_P.2.2.2.2.2.2.2.1
@[irreducible] noncomputable def mb : Str → Option Value := st9_P.2.2.2.2.2.2.2.2.1
@[irreducible] noncomputable def g₉ : Array GenState := st9_P.2.2.2.2.2.2.2.2.2.1
@[irreducible] noncomputable def d₉ : Drawn := st9_P.2.2.2.2.2.2.2.2.2.2.1
@[irreducible] noncomputable def os₉ : OsState := st9_P.2.2.2.2.2.2.2.2.2.2.2.1
@[irreducible] noncomputable def S : Sl := st9_P.2.2.2.2.2.2.2.2.2.2.2.2.1
@[irreducible] noncomputable def tp : Tok := st9_P.2.2.2.2.2.2.2.2.2.2.2.2.2.1
@[irreducible] noncomputable def tm : Tok := st9_P.2.2.2.2.2.2.2.2.2.2.2.2.2.2.1
@[irreducible] noncomputable def tr : Tok := st9_P.2.2.2.2.2.2.2.2.2.2.2.2.2.2.2.1
@[irreducible] noncomputable def tb : Tok := st9_P.2.2.2.2.2.2.2.2.2.2.2.2.2.2.2.2.1
@[irreducible] noncomputable def Q : Flow → Shared → Prop := st9_P.2.2.2.2.2.2.2.2.2.2.2.2.2.2.2.2.2.1
@[irreducible] noncomputable def E : Value → Shared → Prop := st9_P.2.2.2.2.2.2.2.2.2.2.2.2.2.2.2.2.2.2.1
@[irreducible] noncomputable def r : Rdr := st9_P.2.2.2.2.2.2.2.2.2.2.2.2.2.2.2.2.2.2.2.1
@[irreducible] noncomputable def c : Strm := st9_P.2.2.2.2.2.2.2.2.2.2.2.2.2.2.2.2.2.2.2.2.1
@[irreducible] noncomputable def tv : Tok := st9_P.2.2.2.2.2.2.2.2.2.2.2.2.2.2.2.2.2.2.2.2.2.1
@[irreducible] noncomputable def oth : List (Addr × Obj) := st9_P.2.2.2.2.2.2.2.2.2.2.2.2.2.2.2.2.2.2.2.2.2.2
theorem core : st9_S w base h L fa cda mean mg mb g₉ d₉ os₉ S tp tm tr tb Q E r c tv oth := by
  unfold st9_S
  intro tk p T0 rr its nn val σ rest K0 KX T ht F N hG hO hoth hI hme hpl hrd hre hbe hT hr hp hQ
  have F₁ := Fr.like F (m' := fun y => if y = Str.ofString "mended" then some (.str (tx T0) tm) else if y = Str.ofString "place" then some (.int (p : Nat) tp) else if y = Str.ofString "reader" then some (.ref r.rd) else if y = Str.ofString "rest" then some (.str (tx rr) tr) else if y = Str.ofString "best" then some (.str (tx ((bestPre (rr.take (alongOf rr))).getD [])) tb) else LF S y) (by exact like_keys (ks := [Str.ofString "mended", Str.ofString "place", Str.ofString "reader", Str.ofString "rest", Str.ofString "best"]) (.cons hme (.cons hpl (.cons hrd (.cons hre (.cons hbe .nil))))) (by exact Bare.nil) (by repeat' (first | ((with_reducible apply Bare.ite); rfl) | exact Bare.nil)))
  clear F
  have htl := tx_length T0
  have htr := tx_length rr
  have hsl : Txt.slice (tx T0) none (some ((p : Nat) : Int)) = tx (T0.take p) := slice_to T0 p
  have hbn : (tx ((bestPre (rr.take (alongOf rr))).getD []) != tx ((bestPre (rr.take (alongOf rr))).getD [])) = false := by rw [bne, tx_beq, decide_eq_true rfl]; rfl
  have hs2 : Txt.slice (tx rr) none (some (12 : Int)) = tx (rr.take 12) := slice_to rr 12
  obtain ⟨⟨q1, q2, q3, q4⟩, p1, p2, p3, p4, p5, p6⟩ := id hO
  dsimp only [Rdr.led, Rdr.own, Strm.led, List.cons_append, List.nil_append] at N
  show wpAny _ _ (exec (.If _ _ _ _) _) _ _ _
  refine wpAny_If ?_
  k_steps
  unfold Stop
  have N₂ : News base L _ (r.led c its nn val tv σ ++ oth) := ‹News _ _ _ _›
  refine wpAny_toks (n := 1) (by first | assumption | exact Nat.succ_pos _ | lia | (dsimp only; lia)) ?_
  refine Ctr.use (position_spec w c σ _ _ hG hI) rfl K0 ‹Fr _ _ _ _› KX (ledStrm N₂) T rfl (by decide +kernel) (by decide +kernel) (by first | assumption | exact Nat.succ_pos _ | lia | (dsimp only; lia)) ?_
  rintro v foot' h2 tk2 ⟨a, n1, n2, t1, t2, rfl, rfl, hlt, e1, e2⟩ F2 N2 K2
  have N₃ := carryC (ns := [(a, tupOf #[.int n1 t1, .int n2 t2])]) hO hoth N₂ K2 N2
  clear N₂ N2 K2
  dsimp only [Rdr.led, Rdr.own, Strm.led, List.cons_append, List.nil_append] at N₃
  k_steps
  rw [hsl]
  unfold Stop
  have N₂ := ‹News _ _ _ _›
  refine wpAny_toks (n := 1) (by first | assumption | exact Nat.succ_pos _ | lia | (dsimp only; lia)) ?_
  refine Ctr.use (place_spec w (T0.take p) _ (by rw [List.length_take]; lia)) rfl K0 ‹Fr _ _ _ _› KX News.nil T rfl (by decide +kernel) (by decide +kernel) (by first | assumption | exact Nat.succ_pos _ | lia | (dsimp only; lia)) ?_
  rintro v foot' h3 tk3 ⟨b, n3, n4, t3, t4, rfl, rfl, e3, e4⟩ F3 N3 K3
  have N₄ := addN N₂ K3 N3
  clear N₂ N3 K3
  subst e1 e2 e3 e4
  dsimp only [List.cons_append, List.nil_append] at N₄
  k_steps
  rw [hs2]
  unfold Stop
  have N₂ := ‹News _ _ _ _›
  refine CtrS.use (trie_spec w (rr.take 12) _ (by rw [List.length_take]; lia)) rfl K0 ‹Fr _ _ _ _› KX News.nil T rfl (by decide +kernel) (by decide +kernel) (by first | assumption | exact Nat.succ_pos _ | lia | (dsimp only; lia)) ?_
  rintro v foot' h4 tk4 ⟨rfl, t5, rfl⟩ F4 N4 K4
  have N₅ := keepS N₂ K4
  clear N₂ N4 K4
  rw [trie_is]
  k_steps
  have N₆ : News base L _ (_ :: _ :: (r.led c its nn val tv σ ++ oth)) := ‹News _ _ _ _›
  exact hQ _ _ σ (Fr.like ‹Fr _ _ _ _› (by exact like_LF (ks := [Str.ofString "mended", Str.ofString "place", Str.ofString "reader", Str.ofString "rest", Str.ofString "best"]) (.cons (hme).symm (.cons (hpl).symm (.cons (hrd).symm (.cons (hre).symm (.cons (hbe).symm .nil))))) (by repeat' (first | ((with_reducible apply Bare.ite); rfl) | exact Bare.nil)) (by rfl))) (News.tl (News.tl N₆)) hI
end st9_V
theorem st9_all (w : World) (base : Heap) (h : Heap) (L : Addr) (fa : Addr) (cda : Addr) (mean : ExcName → Option Value) (mg : Str → Option Value) (mb : Str → Option Value) (g₉ : Array GenState) (d₉ : Drawn) (os₉ : OsState) (S : Sl) (tp : Tok) (tm : Tok) (tr : Tok) (tb : Tok) (Q : Flow → Shared → Prop) (E : Value → Shared → Prop) (r : Rdr) (c : Strm) (tv : Tok) (oth : List (Addr × Obj)) : st9_S w base h L fa cda mean mg mb g₉ d₉ os₉ S tp tm tr tb Q E r c tv oth := of_pick (S := st9_F) (show st9_F st9_P by with_unfolding_all exact st9_V.core) (w, base, h, L, fa, cda, mean, mg, mb, g₉, d₉, os₉, S, tp, tm, tr, tb, Q, E, r, c, tv, oth)
theorem st9 {w : World} {base h : Heap} {L fa cda : Addr} {mean : ExcName → Option Value} {mg mb : Str → Option Value} {g₉ : Array GenState} {d₉ : Drawn} {os₉ : OsState} {S : Sl} {tk p : Nat} {tp tm tr tb : Tok} {T0 rr : List Nat} {Q : Flow → Shared → Prop} {E : Value → Shared → Prop} {r : Rdr} {c : Strm} {its : Array Value} {nn : Nat} {val : List Nat} {tv : Tok} {σ : SV} {oth : List (Addr × Obj)} {rest : List Nat} (K0 : Below callerA base [] base) (KX : (KW w.params).In base) (T : TopQ mean mg mb base) (ht : 0 < tk) (F : Fr base L h (LF S)) (N : News base L h (r.led c its nn val tv σ ++ oth)) (hG : Good c) (hO : r.Ord c) (hoth : Off r c oth) (hI : Inv c σ (T0.take p) rest) (hme : S.me = some (.str (tx T0) tm)) (hpl : S.pl = some (.int (p : Nat) tp)) (hrd : S.rd = some (.ref r.rd)) (hre : S.re = some (.str (tx rr) tr)) (hbe : S.be = some (.str (tx ((bestPre (rr.take (alongOf rr))).getD [])) tb)) (hT : T0.length ≤ 96) (hr : rr.length ≤ 96) (hp : p ≤ 96) (hQ : ∀ h' tk' σ', Fr base L h' (LF S) → News base L h' (r.led c its nn val tv σ' ++ oth) → Inv c σ' (T0.take p) rest → Q .next ⟨h', g₉, d₉, tk', os₉⟩) : wpAny (model pw_te0025_01 w) (lawA L fa cda) (exec (lawTurn 9) (lawE L fa cda)) Q E ⟨h, g₉, d₉, tk, os₉⟩ :=
  st9_all w base h L fa cda mean mg mb g₉ d₉ os₉ S tp tm tr tb Q E r c tv oth tk p T0 rr its nn val σ rest K0 KX T ht F N hG hO hoth hI hme hpl hrd hre hbe hT hr hp hQ
end
section
local macro_rules | `(tactic| k_all) => `(tactic| assumption)
noncomputable def en12_S (w : World) (base : Heap) (h : Heap) (L : Addr) (fa : Addr) (cda : Addr) (mean : ExcName → Option Value) (mg : Str → Option Value) (mb : Str → Option Value) (g₉ : Array GenState) (d₉ : Drawn) (os₉ : OsState) (S : Sl) (tp : Tok) (tm : Tok) (Q : Flow → Shared → Prop) (E : Value → Shared → Prop) (r : Rdr) (c : Strm) (tv : Tok) (oth : List (Addr × Obj)) : Prop :=
  ∀ (tk : Nat) (p : Nat) (T0 : List Nat) (its : Array Value) (nn : Nat) (val : List Nat) (σ : SV), (Below callerA base [] base) →
    ((KW w.params).In base) →
    (TopQ mean mg mb base) →
    (0 < tk) →
    (Fr base L h (LF S)) →
    (News base L h (r.led c its nn val tv σ ++ oth)) →
    (Good c) →
    (r.Ord c) →
    (Off r c oth) →
    (Inv c σ (T0.take p) (T0.drop p)) →
    (S.me = some (.str (tx T0) tm)) →
    (S.pl = some (.int (p : Nat) tp)) →
    (S.rd = some (.ref r.rd)) →
    (38 ∉ T0.drop p) →
    (T0.length ≤ 96) →
    (∀ h' tk' σ', Fr base L h' (LF S) → News base L h' (r.led c its nn val tv σ' ++ oth) → Inv c σ' T0 [] → Q .next ⟨h', g₉, d₉, tk', os₉⟩) →
    wpAny (model pw_te0025_01 w) (lawA L fa cda) (exec (lawStmt 12) (lawE L fa cda)) Q E ⟨h, g₉, d₉, tk, os₉⟩
noncomputable abbrev en12_T : Type := (World) × (Heap) × (Heap) × (Addr) × (Addr) × (Addr) × (ExcName → Option Value) × (Str → Option Value) × (Str → Option Value) × (Array GenState) × (Drawn) × (OsState) × (Sl) × (Tok) × (Tok) × (Flow → Shared → Prop) × (Value → Shared → Prop) × (Rdr) × (Strm) × (Tok) × (List (Addr × Obj))
theorem en12_ne : Nonempty en12_T := ⟨(dW, default, default, default, default, default, (fun _ => default), (fun _ => default), (fun _ => default), default, {}, default, dSl, default, default, (fun _ _ => True), (fun _ _ => True), dRdr, dStrm, default, default)⟩
noncomputable abbrev en12_F (x : en12_T) : Prop := en12_S x.1 x.2.1 x.2.2.1 x.2.2.2.1 x.2.2.2.2.1 x.2.2.2.2.2.1 x.2.2.2.2.2.2.1 x.2.2.2.2.2.2.2.1 x.2.2.2.2.2.2.2.2.1 x.2.2.2.2.2.2.2.2.2.1 x.2.2.2.2.2.2.2.2.2.2.1 x.2.2.2.2.2.2.2.2.2.2.2.1 x.2.2.2.2.2.2.2.2.2.2.2.2.1 x.2.2.2.2.2.2.2.2.2.2.2.2.2.1 x.2.2.2.2.2.2.2.2.2.2.2.2.2.2.1 x.2.2.2.2.2.2.2.2.2.2.2.2.2.2.2.1 x.2.2.2.2.2.2.2.2.2.2.2.2.2.2.2.2.1 x.2.2.2.2.2.2.2.2.2.2.2.2.2.2.2.2.2.1 x.2.2.2.2.2.2.2.2.2.2.2.2.2.2.2.2.2.2.1 x.2.2.2.2.2.2.2.2.2.2.2.2.2.2.2.2.2.2.2.1 x.2.2.2.2.2.2.2.2.2.2.2.2.2.2.2.2.2.2.2.2
noncomputable def en12_P : en12_T := pick en12_ne en12_F
namespace en12_V
@[irreducible] noncomputable def w : World := en12_P.1
@[irreducible] noncomputable def base : Heap := en12_P.2.1
@[irreducible] noncomputable def h : Heap := en12_P.2.2.1
@[irreducible] noncomputable def L : Addr := en12_P.2.2.2.1
@[irreducible] noncomputable def fa : Addr := en12_P.2.2.2.2.1
@[irreducible] noncomputable def cda : Addr := en12_P.2.2.2.2.2.1
@[irreducible] noncomputable def mean : ExcName → Option Value := en12_P.2.2.2.2.2.2.1
@[irreducible] noncomputable def mg : Str → Option Value := en12_P.2.2.2.2.2.2.2.1
@[irreducible] noncomputable def mb : Str → Option Value := en12_P.2.2.2.2.2.2.2.2.1
@[irreducible] noncomputable def g₉ : Array GenState := en12_P.2.2.2.2.2.2.2.2.2.1
@[irreducible] noncomputable def d₉ : Drawn := en12_P.2.2.2.2.2.2.2.2.2.2.1
@[irreducible] noncomputable def os₉ : OsState := en12_P.2.2.2.2.2.2.2.2.2.2.2.1
@[irreducible] noncomputable def S : Sl := en12_P.2.2.2.2.2.2.2.2.2.2.2.2.1
@[irreducible] noncomputable def tp : Tok := en12_P.2.2.2.2.2.2.2.2.2.2.2.2.2.1
@[irreducible] noncomputable def tm : Tok := en12_P.2.2.2.2.2.2.2.2.2.2.2.2.2.2.1
@[irreducible] noncomputable def Q : Flow → Shared → Prop := en12_P.2.2.2.2.2.2.2.2.2.2.2.2.2.2.2.1
@[irreducible] noncomputable def E : Value → Shared → Prop := en12_P.2.2.2.2.2.2.2.2.2.2.2.2.2.2.2.2.1
@[irreducible] noncomputable def r : Rdr := en12_P.2.2.2.2.2.2.2.2.2.2.2.2.2.2.2.2.2.1
@[irreducible] noncomputable def c : Strm := en12_P.2.2.2.2.2.2.2.2.2.2.2.2.2.2.2.2.2.2.1
@[irreducible] noncomputable def tv : Tok := en12_P.2.2.2.2.2.2.2.2.2.2.2.2.2.2.2.2.2.2.2.1
@[irreducible] noncomputable def oth : List (Addr × Obj) := en12_P.2.2.2.2.2.2.2.2.2.2.2.2.2.2.2.2.2.2.2.2
theorem core : en12_S w base h L fa cda mean mg mb g₉ d₉ os₉ S tp tm Q E r c tv oth := by
  unfold en12_S
  intro tk p T0 its nn val σ K0 KX T ht F N hG hO hoth hI hme hpl hrd h38 hT hQ
  have F₁ := Fr.like F (m' := fun y => if y = Str.ofString "mended" then some (.str (tx T0) tm) else if y = Str.ofString "place" then some (.int (p : Nat) tp) else if y = Str.ofString "reader" then some (.ref r.rd) else LF S y) (by exact like_keys (ks := [Str.ofString "mended", Str.ofString "place", Str.ofString "reader"]) (.cons hme (.cons hpl (.cons hrd .nil))) (by exact Bare.nil) (by repeat' (first | ((with_reducible apply Bare.ite); rfl) | exact Bare.nil)))
  clear F
  have htl := tx_length T0
  have hR := hO
  obtain ⟨⟨q1, q2, q3, q4⟩, p1, p2, p3, p4, p5, p6⟩ := id hO
  dsimp only [Rdr.led, Rdr.own, Strm.led, List.cons_append, List.nil_append] at N
  show wpAny _ _ (exec (.If _ _ _ _) _) _ _ _
  refine wpAny_If ?_
  have hsl : Txt.slice (tx T0) (some ((p : Nat) : Int)) none = tx (T0.drop p) := slice_from T0 p
  have hbe : (tx (T0.drop p) != Txt.slice (tx T0) (some ((p : Nat) : Int)) none) = false := by rw [hsl, bne, tx_beq, decide_eq_true rfl]; rfl
  k_steps
  unfold Stop
  have N₂ : News base L _ ((_, _) :: (r.led c its nn val tv σ ++ oth)) := ‹News _ _ _ _›
  refine Ctr.use (chars_until w c σ _ _ _ _ hG hI (by show @LT.lt Nat _ _ _; lia)) rfl K0 ‹Fr _ _ _ _› KX (by rw [← lit_amp]; exact ledQ N₂) T rfl (by decide +kernel) (by decide +kernel) (by first | assumption | exact Nat.succ_pos _ | lia | (dsimp only; lia)) ?_
  rintro v foot' h2 tk2 ⟨σ', acc, rest', t, rfl, rfl, hsp, h38', hre, hI'⟩ F2 N2 K2
  obtain ⟨rfl, rfl⟩ := amp_none h38 hsp hre
  rw [List.take_append_drop] at hI'
  have N₃ := carryQ hO hoth (by show @LT.lt Nat _ _ _; lia) (by simp only [*]) N₂ K2 N2
  clear N₂ N2 K2
  dsimp only [Rdr.led, Rdr.own, Strm.led, List.cons_append, List.nil_append] at N₃
  k_steps
  unfold Stop
  have N₂ : News base L _ (r.led c its nn val tv σ' ++ oth) := ‹News _ _ _ _›
  refine Ctr.use (char_spec w c σ' _ _ hG hI') rfl K0 ‹Fr _ _ _ _› KX (ledStrm N₂) T rfl (by decide +kernel) (by decide +kernel) (by first | assumption | exact Nat.succ_pos _ | lia | (dsimp only; lia)) ?_
  rintro v foot' h3 tk3 hcp F3 N3 K3
  obtain ⟨σ3, rfl, hcp⟩ := hcp
  rcases hcp with ⟨-, rfl, hI3⟩ | ⟨x, rest', t2, hcp, _⟩
  rotate_left
  · cases hcp
  have N₄ := carryC (ns := []) hO hoth N₂ K3 N3
  clear N₂ N3 K3
  dsimp only [Rdr.led, Rdr.own, Strm.led, List.cons_append, List.nil_append] at N₄
  k_steps
  exact hQ _ _ σ3 (Fr.like ‹Fr _ _ _ _› (by exact like_LF (ks := [Str.ofString "mended", Str.ofString "place", Str.ofString "reader"]) (.cons (hme).symm (.cons (hpl).symm (.cons (hrd).symm .nil))) (by repeat' (first | ((with_reducible apply Bare.ite); rfl) | exact Bare.nil)) (by rfl))) ‹News _ _ _ _› hI3
end en12_V
theorem en12_all (w : World) (base : Heap) (h : Heap) (L : Addr) (fa : Addr) (cda : Addr) (mean : ExcName → Option Value) (mg : Str → Option Value) (mb : Str → Option Value) (g₉ : Array GenState) (d₉ : Drawn) (os₉ : OsState) (S : Sl) (tp : Tok) (tm : Tok) (Q : Flow → Shared → Prop) (E : Value → Shared → Prop) (r : Rdr) (c : Strm) (tv : Tok) (oth : List (Addr × Obj)) : en12_S w base h L fa cda mean mg mb g₉ d₉ os₉ S tp tm Q E r c tv oth := of_pick (S := en12_F) (show en12_F en12_P by with_unfolding_all exact en12_V.core) (w, base, h, L, fa, cda, mean, mg, mb, g₉, d₉, os₉, S, tp, tm, Q, E, r, c, tv, oth)
theorem en12 {w : World} {base h : Heap} {L fa cda : Addr} {mean : ExcName → Option Value} {mg mb : Str → Option Value} {g₉ : Array GenState} {d₉ : Drawn} {os₉ : OsState} {S : Sl} {tk p : Nat} {tp tm : Tok} {T0 : List Nat} {Q : Flow → Shared → Prop} {E : Value → Shared → Prop} {r : Rdr} {c : Strm} {its : Array Value} {nn : Nat} {val : List Nat} {tv : Tok} {σ : SV} {oth : List (Addr × Obj)} (K0 : Below callerA base [] base) (KX : (KW w.params).In base) (T : TopQ mean mg mb base) (ht : 0 < tk) (F : Fr base L h (LF S)) (N : News base L h (r.led c its nn val tv σ ++ oth)) (hG : Good c) (hO : r.Ord c) (hoth : Off r c oth) (hI : Inv c σ (T0.take p) (T0.drop p)) (hme : S.me = some (.str (tx T0) tm)) (hpl : S.pl = some (.int (p : Nat) tp)) (hrd : S.rd = some (.ref r.rd)) (h38 : 38 ∉ T0.drop p) (hT : T0.length ≤ 96) (hQ : ∀ h' tk' σ', Fr base L h' (LF S) → News base L h' (r.led c its nn val tv σ' ++ oth) → Inv c σ' T0 [] → Q .next ⟨h', g₉, d₉, tk', os₉⟩) : wpAny (model pw_te0025_01 w) (lawA L fa cda) (exec (lawStmt 12) (lawE L fa cda)) Q E ⟨h, g₉, d₉, tk, os₉⟩ :=
  en12_all w base h L fa cda mean mg mb g₉ d₉ os₉ S tp tm Q E r c tv oth tk p T0 its nn val σ K0 KX T ht F N hG hO hoth hI hme hpl hrd h38 hT hQ
noncomputable def en13_S (w : World) (base : Heap) (h : Heap) (L : Addr) (fa : Addr) (cda : Addr) (mean : ExcName → Option Value) (mg : Str → Option Value) (mb : Str → Option Value) (g₉ : Array GenState) (d₉ : Drawn) (os₉ : OsState) (S : Sl) (tm : Tok) (ta : Tok) (tvk : Tok) (Q : Flow → Shared → Prop) (E : Value → Shared → Prop) (r : Rdr) (c : Strm) (tv : Tok) (oth : List (Addr × Obj)) : Prop :=
  ∀ (tk : Nat) (T0 : List Nat) (its : Array Value) (nn : Nat) (val : List Nat) (σ : SV), (Below callerA base [] base) →
    ((KW w.params).In base) →
    (TopQ mean mg mb base) →
    (0 < tk) →
    (Fr base L h (LF S)) →
    (News base L h (r.led c its nn val tv σ ++ oth)) →
    (Good c) →
    (r.Ord c) →
    (r.Cur w) →
    (Off r c oth) →
    (Inv c σ T0 []) →
    (S.me = some (.str (tx T0) tm)) →
    (S.rd = some (.ref r.rd)) →
    (S.va = some (.str (tx val) ta)) →
    (r.vk = .str (Str.ofString "k") tvk) →
    (T0.length ≤ 96) →
    (∀ h' tk', Fr base L h' (LF S) → News base L h' (r.led c its nn val tv σ ++ oth) → Q .next ⟨h', g₉, d₉, tk', os₉⟩) →
    wpAny (model pw_te0025_01 w) (lawA L fa cda) (exec (lawStmt 13) (lawE L fa cda)) Q E ⟨h, g₉, d₉, tk, os₉⟩
noncomputable abbrev en13_T : Type := (World) × (Heap) × (Heap) × (Addr) × (Addr) × (Addr) × (ExcName → Option Value) × (Str → Option Value) × (Str → Option Value) × (Array GenState) × (Drawn) × (OsState) × (Sl) × (Tok) × (Tok) × (Tok) × (Flow → Shared → Prop) × (Value → Shared → Prop) × (Rdr) × (Strm) × (Tok) × (List (Addr × Obj))
theorem en13_ne : Nonempty en13_T := ⟨(dW, default, default, default, default, default, (fun _ => default), (fun _ => default), (fun _ => default), default, {}, default, dSl, default, default, default, (fun _ _ => True), (fun _ _ => True), dRdr, dStrm, default, default)⟩
noncomputable abbrev en13_F (x : en13_T) : Prop := en13_S x.1 x.2.1 x.2.2.1 x.2.2.2.1 x.2.2.2.2.1 x.2.2.2.2.2.1 x.2.2.2.2.2.2.1 x.2.2.2.2.2.2.2.1 x.2.2.2.2.2.2.2.2.1 x.2.2.2.2.2.2.2.2.2.1 x.2.2.2.2.2.2.2.2.2.2.1 x.2.2.2.2.2.2.2.2.2.2.2.1 x.2.2.2.2.2.2.2.2.2.2.2.2.1 x.2.2.2.2.2.2.2.2.2.2.2.2.2.1 x.2.2.2.2.2.2.2.2.2.2.2.2.2.2.1 x.2.2.2.2.2.2.2.2.2.2.2.2.2.2.2.1 x.2.2.2.2.2.2.2.2.2.2.2.2.2.2.2.2.1 x.2.2.2.2.2.2.2.2.2.2.2.2.2.2.2.2.2.1 x.2.2.2.2.2.2.2.2.2.2.2.2.2.2.2.2.2.2.1 x.2.2.2.2.2.2.2.2.2.2.2.2.2.2.2.2.2.2.2.1 x.2.2.2.2.2.2.2.2.2.2.2.2.2.2.2.2.2.2.2.2.1 x.2.2.2.2.2.2.2.2.2.2.2.2.2.2.2.2.2.2.2.2.2
noncomputable def en13_P : en13_T := pick en13_ne en13_F
namespace en13_V
@[irreducible] noncomputable def w : World := en13_P.1
@[irreducible] noncomputable def base : Heap := en13_P.2.1
@[irreducible] noncomputable def h : Heap := en13_P.2.2.1
@[irreducible] noncomputable def L : Addr := en13_P.2.2.2.1
@[irreducible] noncomputable def fa : Addr := en13_P.2.2.2.2.1
@[irreducible] noncomputable def cda : Addr := en13_P.2.2.2.2.2.1
@[irreducible] noncomputable def mean : ExcName → Option Value := en13_P.2.2.2.2.2.2.1
@[irreducible] noncomputable def mg : Str → Option Value := en13_P.2.2.2.2.2.2.2.1
@[irreducible] noncomputable def mb : Str → Option Value := en13_P.2.2.2.2.2.2.2.2.1
@[irreducible] noncomputable def g₉ : Array GenState := en13_P.2.2.2.2.2.2.2.2.2.1
@[irreducible] noncomputable def d₉ : Drawn := en13_P.2.2.2.2.2.2.2.2.2.2.1
@[irreducible] noncomputable def os₉ : OsState := en13_P.2.2.2.2.2.2.2.2.2.2.2.1
@[irreducible] noncomputable def S : Sl := en13_P.2.2.2.2.2.2.2.2.2.2.2.2.1
@[irreducible] noncomputable def tm : Tok := en13_P.2.2.2.2.2.2.2.2.2.2.2.2.2.1
@[irreducible] noncomputable def ta : Tok := en13_P.2.2.2.2.2.2.2.2.2.2.2.2.2.2.1
@[irreducible] noncomputable def tvk : Tok := en13_P.2.2.2.2.2.2.2.2.2.2.2.2.2.2.2.1
@[irreducible] noncomputable def Q : Flow → Shared → Prop := en13_P.2.2.2.2.2.2.2.2.2.2.2.2.2.2.2.2.1
@[irreducible] noncomputable def E : Value → Shared → Prop := en13_P.2.2.2.2.2.2.2.2.2.2.2.2.2.2.2.2.2.1
@[irreducible] noncomputable def r : Rdr := en13_P.2.2.2.2.2.2.2.2.2.2.2.2.2.2.2.2.2.2.1
@[irreducible] noncomputable def c : Strm := en13_P.2.2.2.2.2.2.2.2.2.2.2.2.2.2.2.2.2.2.2.1
@[irreducible] noncomputable def tv : Tok := en13_P.2.2.2.2.2.2.2.2.2.2.2.2.2.2.2.2.2.2.2.2.1
@[irreducible] noncomputable def oth : List (Addr × Obj) := en13_P.2.2.2.2.2.2.2.2.2.2.2.2.2.2.2.2.2.2.2.2.2
theorem core : en13_S w base h L fa cda mean mg mb g₉ d₉ os₉ S tm ta tvk Q E r c tv oth := by
  unfold en13_S
  intro tk T0 its nn val σ K0 KX T ht F N hG hO hC hoth hI hme hrd hva hvk hT hQ
  have F₁ := Fr.like F (m' := fun y => if y = Str.ofString "mended" then some (.str (tx T0) tm) else if y = Str.ofString "reader" then some (.ref r.rd) else if y = Str.ofString "value" then some (.str (tx val) ta) else LF S y) (by exact like_keys (ks := [Str.ofString "mended", Str.ofString "reader", Str.ofString "value"]) (.cons hme (.cons hrd (.cons hva .nil))) (by exact Bare.nil) (by repeat' (first | ((with_reducible apply Bare.ite); rfl) | exact Bare.nil)))
  clear F
  have htl := tx_length T0
  obtain ⟨v1, v2, v3, hoc⟩ := hC
  obtain ⟨⟨q1, q2, q3, q4⟩, p1, p2, p3, p4, p5, p6⟩ := id hO
  dsimp only [Rdr.led, Rdr.own, Strm.led, List.cons_append, List.nil_append] at N
  show wpAny _ _ (exec (.If _ _ _ _) _) _ _ _
  refine wpAny_If ?_
  k_steps
  unfold Stop
  have N₂ : News base L _ (r.led c its nn val tv σ ++ oth) := ‹News _ _ _ _›
  refine wpAny_toks (n := 1) (by first | assumption | exact Nat.succ_pos _ | lia | (dsimp only; lia)) ?_
  refine Ctr.use (position_spec w c σ _ _ hG hI) rfl K0 ‹Fr _ _ _ _› KX (ledStrm N₂) T rfl (by decide +kernel) (by decide +kernel) (by first | assumption | exact Nat.succ_pos _ | lia | (dsimp only; lia)) ?_
  rintro v foot' h2 tk2 ⟨a, n1, n2, t1, t2, rfl, rfl, hlt, e1, e2⟩ F2 N2 K2
  have N₃ := carryC (ns := [(a, tupOf #[.int n1 t1, .int n2 t2])]) hO hoth N₂ K2 N2
  clear N₂ N2 K2
  dsimp only [Rdr.led, Rdr.own, Strm.led, List.cons_append, List.nil_append] at N₃
  k_steps
  unfold Stop
  have N₂ := ‹News _ _ _ _›
  refine wpAny_toks (n := 1) (by first | assumption | exact Nat.succ_pos _ | lia | (dsimp only; lia)) ?_
  refine Ctr.use (place_spec w T0 _ (by lia)) rfl K0 ‹Fr _ _ _ _› KX News.nil T rfl (by decide +kernel) (by decide +kernel) (by first | assumption | exact Nat.succ_pos _ | lia | (dsimp only; lia)) ?_
  rintro v foot' h3 tk3 ⟨b, n3, n4, t3, t4, rfl, rfl, e3, e4⟩ F3 N3 K3
  have N₄ := addN N₂ K3 N3
  clear N₂ N3 K3
  subst e1 e2 e3 e4
  rw [hvk] at N₄
  dsimp only [List.cons_append, List.nil_append] at N₄
  k_steps
  have N₅ := ‹News _ _ _ _›
  refine ne_data N₅ (.tail _ (.tail _ (.tail _ (.tail _ (.tail _ (.tail _ (.tail _ (.tail _ (.head _))))))))) (.head _) (.tail _ (.tail _ (.tail _ (.tail _ (.tail _ (.tail _ (.tail _ (.tail _ (.tail _ (.head _)))))))))) (.tail _ (.head _)) (by show @Ne Nat _ _; lia) (lawA_units _ _ _) ?_
  k_steps
  rw [← hvk] at N₅
  have N₆ := ‹News _ _ _ _›
  have N₇ : News base L _ (_ :: _ :: _ :: _ :: (r.led c its nn val tv σ ++ oth)) := N₆
  exact hQ _ _ (Fr.like ‹Fr _ _ _ _› (by exact like_LF (ks := [Str.ofString "mended", Str.ofString "reader", Str.ofString "value"]) (.cons (hme).symm (.cons (hrd).symm (.cons (hva).symm .nil))) (by repeat' (first | ((with_reducible apply Bare.ite); rfl) | exact Bare.nil)) (by rfl))) (News.tl (News.tl (News.tl (News.tl N₇))))
end en13_V
theorem en13_all (w : World) (base : Heap) (h : Heap) (L : Addr) (fa : Addr) (cda : Addr) (mean : ExcName → Option Value) (mg : Str → Option Value) (mb : Str → Option Value) (g₉ : Array GenState) (d₉ : Drawn) (os₉ : OsState) (S : Sl) (tm : Tok) (ta : Tok) (tvk : Tok) (Q : Flow → Shared → Prop) (E : Value → Shared → Prop) (r : Rdr) (c : Strm) (tv : Tok) (oth : List (Addr × Obj)) : en13_S w base h L fa cda mean mg mb g₉ d₉ os₉ S tm ta tvk Q E r c tv oth := of_pick (S := en13_F) (show en13_F en13_P by with_unfolding_all exact en13_V.core) (w, base, h, L, fa, cda, mean, mg, mb, g₉, d₉, os₉, S, tm, ta, tvk, Q, E, r, c, tv, oth)
theorem en13 {w : World} {base h : Heap} {L fa cda : Addr} {mean : ExcName → Option Value} {mg mb : Str → Option Value} {g₉ : Array GenState} {d₉ : Drawn} {os₉ : OsState} {S : Sl} {tk : Nat} {tm ta tvk : Tok} {T0 : List Nat} {Q : Flow → Shared → Prop} {E : Value → Shared → Prop} {r : Rdr} {c : Strm} {its : Array Value} {nn : Nat} {val : List Nat} {tv : Tok} {σ : SV} {oth : List (Addr × Obj)} (K0 : Below callerA base [] base) (KX : (KW w.params).In base) (T : TopQ mean mg mb base) (ht : 0 < tk) (F : Fr base L h (LF S)) (N : News base L h (r.led c its nn val tv σ ++ oth)) (hG : Good c) (hO : r.Ord c) (hC : r.Cur w) (hoth : Off r c oth) (hI : Inv c σ T0 []) (hme : S.me = some (.str (tx T0) tm)) (hrd : S.rd = some (.ref r.rd)) (hva : S.va = some (.str (tx val) ta)) (hvk : r.vk = .str (Str.ofString "k") tvk) (hT : T0.length ≤ 96) (hQ : ∀ h' tk', Fr base L h' (LF S) → News base L h' (r.led c its nn val tv σ ++ oth) → Q .next ⟨h', g₉, d₉, tk', os₉⟩) : wpAny (model pw_te0025_01 w) (lawA L fa cda) (exec (lawStmt 13) (lawE L fa cda)) Q E ⟨h, g₉, d₉, tk, os₉⟩ :=
  en13_all w base h L fa cda mean mg mb g₉ d₉ os₉ S tm ta tvk Q E r c tv oth tk T0 its nn val σ K0 KX T ht F N hG hO hC hoth hI hme hrd hva hvk hT hQ
end
section
local macro_rules | `(tactic| k_all) => `(tactic| assumption)
local macro_rules | `(tactic| walk_at "eval ListComp") => `(tactic| (k_here; refine stop ?_))
local macro_rules | `(tactic| walk_at "compareOp Eq ref ref") => `(tactic| (k_here; refine stop ?_))
local macro_rules | `(tactic| walk_at "CompSrc") => `(tactic| (k_here; refine stop ?_))
theorem en14 {w : World} {base h : Heap} {L fa cda : Addr} {mean : ExcName → Option Value} {mg mb : Str → Option Value} {g₉ : Array GenState} {d₉ : Drawn} {os₉ : OsState} {S : Sl} {tk DU dn : Nat} {Q : Flow → Shared → Prop} {E : Value → Shared → Prop}
    {r : Rdr} {c : Strm} {its dits : Array Value} {nn : Nat} {val : List Nat} {tv : Tok} {σ : SV} {oth ex ddts : List (Addr × Obj)} {toks : List (Int × Str)}
    (K0 : Below callerA base [] base) (KX : (KW w.params).In base) (T : TopQ mean mg mb base) (ht : 0 < tk) (F : Fr base L h (LF S)) (N : News base L h (r.led c its nn val tv σ ++ oth))
    (hex : ∀ p ∈ ex, p ∈ oth) (hdt : ∀ p ∈ ddts, p ∈ oth) (hDU : (DU, listOf dits dn) ∈ oth) (hks : Tks w ex its.toList toks) (hdu : DueAre ddts dits.toList toks) (hsz : its.size ≤ 100)
    (hrd : S.rd = some (.ref r.rd)) (hSd : S.du = some (.ref DU))
    (hQ : ∀ h' tk' m', Fr base L h' m' → Q (.ret (.bool true)) ⟨h', g₉, d₉, tk', os₉⟩) :
    wpAny (model pw_te0025_01 w) (lawA L fa cda) (exec (lawStmt 14) (lawE L fa cda)) Q E ⟨h, g₉, d₉, tk, os₉⟩ := by
  have F₁ := Fr.like F (m' := fun y => if y = Str.ofString "reader" then some (.ref r.rd) else if y = Str.ofString "due" then some (.ref DU) else LF S y) (by exact like_keys (ks := [Str.ofString "reader", Str.ofString "due"]) (.cons hrd (.cons hSd .nil)) (by exact Bare.nil) (by repeat' (first | ((with_reducible apply Bare.ite); rfl) | exact Bare.nil)))
  clear F
  obtain ⟨led₀, hled⟩ : ∃ led₀, led₀ = r.led c its nn val tv σ ++ oth := ⟨_, rfl⟩
  have hmem : ∀ p ∈ r.led c its nn val tv σ ++ oth, p ∈ led₀ := fun p hp => hled ▸ hp
  have htq : (r.tq, listOf its nn) ∈ led₀ := hmem _ (List.mem_append_left _ (.tail _ (.tail _ (.head _))))
  dsimp only [Rdr.led, Rdr.own, Strm.led, List.cons_append, List.nil_append] at N
  show wpAny _ _ (exec (.Return _ _) _) _ _ _
  k_steps
  unfold Stop
  refine LCg.ListComp_U (F₀ := ‹Fr _ _ _ _›) (by with_unfolding_all rfl) (by decide) (by rfl) (by decide) (by rfl) ?_
  k_steps
  unfold Stop
  have N₂ : News base L _ (r.led c its nn val tv σ ++ oth) := ‹News _ _ _ _›
  rw [← hled] at N₂
  refine LCg.CompSrc.ledger (its := its) (k := nn) rfl ‹Fr _ _ _ _› N₂ htq (by simp only [PySem.sizeLine_eq]; lia) ?_
  intro g'
  refine comp_ind (n := its.size) (fun i ys news => ∃ dts, news = dts ++ led₀ ∧ DueAre dts ys (toks.take i) ∧ ∀ p ∈ led₀, ∀ p' ∈ dts, @LT.lt Nat _ p.1 p'.1) ?_ ?_ _ 0 [] _ (Nat.zero_add _) ⟨[], rfl, trivial, fun _ _ _ h => nomatch h⟩
  · rintro i ys news v I oI C oC D m₂ h1 tk1 E' hi ⟨dts, rfl, hd, hlt⟩ hv hC hx F1 N1 off ne
    obtain ⟨q, o, n, d, t1, t2, rfl, hq, htk, ho⟩ := Tks.at hks (i := i) (by rw [Array.getElem?_toList]; exact hv)
    have hql : (q, o) ∈ led₀ := hmem _ (List.mem_append_right _ (hex _ hq))
    have N2 : News base L h1 ((q, o) :: (I, oI) :: (C, oC) :: (D, LCg.lst ys) :: (dts ++ led₀)) := fun p hp => by
      rcases List.mem_cons.mp hp with rfl | hp
      · exact N1 _ (.tail _ (.tail _ (.tail _ (List.mem_append_right _ hql))))
      · exact N1 p hp
    clear N1 N₂
    k_steps
    have N3 := ‹News _ _ _ _›
    have F3 := ‹Fr _ _ _ _›
    have l1 := ‹_ ∧ _ ∧ _ ∧ _ ∧ AllLt _ _›
    obtain ⟨b1, b2, b3, b4, b5⟩ := l1
    have hall := kst_ltOf b5
    rename_i D1 _ _ _ _
    refine LCg.CompEnd.intro F3 N3 ((dts ++ [(D1, tupOf #[.int n t1, .str d t2])]) ++ led₀) ?_ (LCg.Off3.of ?_) (.inr ⟨listOf its nn, List.mem_append_right _ htq, rfl, _, rfl⟩) ⟨_, rfl, ?_, ?_⟩
    · intro p hp
      simp only [List.mem_cons, List.mem_append, List.not_mem_nil, or_false] at hp ⊢
      rcases hp with h | h | h | (h | h) | h <;> simp [h]
    · intro p hp
      simp only [List.mem_cons, List.mem_append, List.not_mem_nil, or_false] at hp
      rcases hp with (h | rfl) | h
      · exact off.mem p (List.mem_append_left _ h)
      · exact ⟨by show @Ne Nat _ _; lia, by show @Ne Nat _ _; lia, by show @Ne Nat _ _; lia⟩
      · exact off.mem p (List.mem_append_right _ h)
    · rw [take_snoc htk]
      exact DueAre.snoc hd
    · intro p hp p' hp'
      rcases List.mem_append.mp hp' with h | h
      · exact hlt p hp p' h
      · rw [List.mem_singleton.mp h]
        exact hall p (List.mem_append_right _ hp)
  · rintro ys news ⟨dts, rfl, hd, hlt⟩
    unfold LCg.FinE
    intro D h1 tk1 F1 N1 off
    clear N₂
    have hkl := Tks.len hks
    rw [List.take_of_length_le (by rw [← hkl, Array.length_toList]; exact Nat.le_refl _)] at hd
    have hln := DueAre.len hd
    have hld := DueAre.len hdu
    rw [Array.length_toList] at hld hkl
    k_steps
    unfold Stop
    have hDU' := hmem _ (List.mem_append_right _ hDU)
    refine SeqAt.eq_listAt (items := ys.toArray) (items2 := dits) (e := fun _ => true) ⟨_, (N1 _ (.head _)).1, rfl, _, rfl⟩ ⟨_, (N1 (DU, listOf dits dn) (.tail _ (List.mem_append_right _ hDU'))).1, rfl, _, rfl⟩ (by rw [List.size_toArray]; lia) (by have := lawA_units L fa cda; lia) ?_ ?_
    · intro j h2 h3
      have hj : j < toks.length := by lia
      have htj : toks[j]? = some (toks[j].1, toks[j].2) := List.getElem?_eq_getElem hj
      obtain ⟨q1, t1, t2, e1, m1⟩ := DueAre.at hd htj
      obtain ⟨q2, t3, t4, e2, m2⟩ := DueAre.at hdu htj
      have f1 : ys.toArray[j] = .ref q1 := by
        rw [List.getElem_toArray]
        exact (List.getElem?_eq_some_iff.mp e1).2
      have f2 : dits[j] = .ref q2 := by
        rw [Array.getElem?_toList] at e2
        exact (Array.getElem?_eq_some_iff.mp e2).2
      rw [f1, f2]
      have m2' := hmem _ (List.mem_append_right _ (hdt _ m2))
      have hlt' := hlt _ m2' _ m1
      dsimp only at hlt'
      refine SeqAt.EqAt.of_refs (by show @Ne Nat _ _; lia) ?_
      exact SeqAt.RcAt.tuples (items := #[.int toks[j].1 t1, .str toks[j].2 t2]) (items2 := #[.int toks[j].1 t3, .str toks[j].2 t4]) (e := fun _ => true) ⟨_, (N1 _ (.tail _ (List.mem_append_left _ m1))).1, rfl, _, rfl⟩ ⟨_, (N1 _ (.tail _ (List.mem_append_right _ m2'))).1, rfl, _, rfl⟩ (by have := lawA_units L fa cda; dsimp only [Around.in1]; lia)
        (fun k k1 k2 => by
          have e : k = 0 ∨ k = 1 := by have : k < 2 := k1; lia
          rcases e with rfl | rfl
          · exact eqi _ t1 t3
          · exact eqs _ t2 t4)
    · rw [List.all_eq_true.mpr (fun _ _ => rfl)]
      exact hQ _ _ _ F1
end
section
open Mine.Top (KW lawD fB tS)
theorem law_turn {w : World} {base h : Heap} {L fa cda : Addr} {mean : ExcName → Option Value} {mg mb : Str → Option Value} {g₉ : Array GenState} {d₉ : Drawn} {os₉ : OsState} {S : Sl} {tk p k DU dn : Nat} {tm : Tok} {T0 : List Nat} {Q : Flow → Shared → Prop} {E : Value → Shared → Prop}
    {r : Rdr} {c : Strm} {its dits : Array Value} {nn : Nat} {val : List Nat} {tv : Tok} {σ : SV} {ex ddts rest : List (Addr × Obj)} {toks : List (Int × Str)} {clo : Option Nat} {clV : Value} {inside : Bool} {I : Addr} {oI : Obj}
    (K0 : Below callerA base [] base) (KX : (KW w.params).In base) (T : TopQ mean mg mb base) (hG : Good c) (hO : r.Ord c) (hC : r.Cur w) (hm : ∀ x ∈ T0, Mended x) (h35 : 35 ∉ T0) (hT : T0.length ≤ 96)
    (ht : 0 < tk) (F : Fr base L h (LF S)) (N : News base L h (r.led c its nn val tv σ ++ ((DU, listOf dits dn) :: (I, oI) :: rest))) (J : LInv w r c T0 tm S p val σ its ex DU dits ddts toks rest k)
    (hoff : Off r c ((DU, listOf dits dn) :: (I, oI) :: rest)) (hcnt : 0 < (T0.drop p).count 38) (hk : k < 12) (hcl : S.cl = some clV) (hins : S.ins = some (.bool inside)) (hch : Ch clo clV) (hIc : oI.cls = .type "list_iterator")
    (hQ : ∀ h' tk' S' p' val' σ' its' nn' tv' ex' DU' dits' dn' ddts' toks' nw, Fr base L h' (LF S') → News base L h' (r.led c its' nn' val' tv' σ' ++ ((DU', listOf dits' dn') :: (I, oI) :: (nw ++ rest))) →
      LInv w r c T0 tm S' p' val' σ' its' ex' DU' dits' ddts' toks' (nw ++ rest) (k + 1) → Off r c ((DU', listOf dits' dn') :: (I, oI) :: (nw ++ rest)) → (∀ q ∈ nw, q.1 ≠ I) → DU' ≠ I → (T0.drop p').count 38 + 1 = (T0.drop p).count 38 → Q .next ⟨h', g₉, d₉, tk', os₉⟩) :
    wpAny (model pw_te0025_01 w) (lawA L fa cda) (execs (forB (lawStmt 11)) (lawE L fa cda)) Q E ⟨h, g₉, d₉, tk, os₉⟩ := by
  have eb : forB (lawStmt 11) = [lawTurn 0, lawTurn 1, lawTurn 2, lawTurn 3, lawTurn 4, lawTurn 5, lawTurn 6, lawTurn 7, lawTurn 8, lawTurn 9] := by kernel_rfl
  rw [eb]
  obtain ⟨jme, jrd, ⟨tp, jpl⟩, ⟨ta, jva⟩, jdu, jI, jp, jex, jdt, jtk, jdue, jn, jv⟩ := J
  obtain ⟨pre, rr, hd, h38⟩ := split_amp _ (List.count_pos_iff.mp hcnt)
  have hlen := congrArg List.length hd
  rw [List.length_drop, List.length_append, List.length_cons] at hlen
  have hrl : rr.length ≤ 96 := by lia
  have hmem : ∀ x ∈ rr, x ∈ T0 := fun x hx => List.mem_of_mem_drop (i := p) (by rw [hd]; simp [hx])
  have htl := Tks.len jtk
  have hdl := DueAre.len jdue
  rw [Array.length_toList] at htl hdl
  obtain ⟨z, hz⟩ : ∃ z, z = (refOut clo inside rr).2.2 := ⟨_, rfl⟩
  obtain ⟨out, hout⟩ : ∃ out, out = (refOut clo inside rr).1 := ⟨_, rfl⟩
  have hzl := out_le clo inside rr
  have hol := out_len clo inside rr
  have hzc := out_count clo inside rr
  rw [← hz] at hzl hzc
  rw [← hout] at hol
  refine cons_gen ht ?_
  intro tk0 ht0
  refine st0 (g₉ := g₉) (d₉ := d₉) (os₉ := os₉) K0 KX T ht0 F N jme jpl hd h38 hT ?_
  intro h1 tk1 te F1 N1 ht1
  refine cons_gen ht1 ?_
  intro tk1' ht1'
  refine st1 (g₉ := g₉) (d₉ := d₉) (os₉ := os₉) K0 KX T ht1' F1 N1 hG hO hoff jI jme jpl rfl jrd hd h38 hT ?_
  intro h2 tk2 σ1 F2 N2 hI1 ht2
  refine cons_gen ht2 ?_
  intro tk2' ht2'
  refine st2 (g₉ := g₉) (d₉ := d₉) (os₉ := os₉) (tp := tp) K0 KX T ht2' F2 N2 jme rfl hd hT ?_
  intro h3 tk3 tr F3 N3 ht3
  refine cons_gen ht3 ?_
  intro tk3' ht3'
  refine st3 (g₉ := g₉) (d₉ := d₉) (os₉ := os₉) K0 KX T ht3' F3 N3 rfl hrl ?_
  intro h4 tk4 tb tal F4 N4 ht4
  refine cons_gen ht4 ?_
  intro tk4' ht4'
  refine st4 (g₉ := g₉) (d₉ := d₉) (os₉ := os₉) K0 KX T ht4' F4 N4 rfl rfl rfl hcl hins hrl (fun x hx => hm x (hmem x hx)) (best_ok rr).1 (best_ok rr).2 (by have := along_le rr; lia) hch ?_
  intro h5 tk5 tu l tn tvs nnl F5 N5 U5 hto ht5
  rw [read_ref] at hto
  simp only [read_ref, ← hz, ← hout] at F5
  have hl5 : l ∉ r.adr c := off_new (ledRdr N4) U5
  have N5' : News base L h5 (r.led c its nn val tv σ1 ++ ((l, listOf tvs nnl) :: (DU, listOf dits dn) :: (I, oI) :: rest)) := News.sub N5 fun q hq => by
    simp only [List.mem_append, List.mem_cons] at hq ⊢
    rcases hq with h | h | h | h | h <;> simp [h]
  have hoff5 : Off r c ((l, listOf tvs nnl) :: (DU, listOf dits dn) :: (I, oI) :: rest) := fun q hq => by
    rcases List.mem_cons.mp hq with rfl | hq
    · exact hl5
    · exact hoff q hq
  refine cons_gen ht5 ?_
  intro tk5' ht5'
  refine st5 (g₉ := g₉) (d₉ := d₉) (os₉ := os₉) K0 KX T ht5' F5 N5' hG hO hC hoff5 hI1 hch (fun h => h35 (hmem _ h)) (by lia) (by lia) jrd hcl hins ?_
  intro h6 tk6 σ2 its' nn' tv' ex6 add F6 N6 hI2 hit htk6 hex6 ht6
  rw [← hz] at hI2
  rw [← hout] at N6 htk6
  have N6' : News base L h6 ((l, listOf tvs nnl) :: (DU, listOf dits dn) :: (r.led c its' nn' (if inside then val ++ out else val) tv' σ2 ++ ((I, oI) :: (ex6 ++ rest)))) := News.sub N6 fun q hq => by
    simp only [List.mem_append, List.mem_cons] at hq ⊢
    rcases hq with h | h | h | h | h | h <;> simp [h]
  refine cons_gen ht6 ?_
  intro tk6' ht6'
  refine st6 (g₉ := g₉) (d₉ := d₉) (os₉ := os₉) K0 KX T ht6' F6 N6' hto jdu rfl (by lia) ?_
  intro h7 tk7 D' dn' dits' d6 vs6 F7 N7 hdv6 hda6 hq6 hD6 ht7
  have hs7 : dits'.size = dits.size + vs6.length := by
    have := congrArg List.length hdv6
    rw [List.length_append, Array.length_toList, Array.length_toList] at this
    exact this
  have hv6 := DueAre.len hda6
  have htold := told_len (refOut clo inside rr).2.1
  refine cons_gen ht7 ?_
  intro tk7' ht7'
  refine st7 (g₉ := g₉) (d₉ := d₉) (os₉ := os₉) (out := out) K0 KX T ht7' F7 N7 hD6 hins rfl jva rfl (by lia) (by lia) (by lia) ?_
  intro h8 tk8 dn8 dits8 d7 vs7 ta8 F8 N8 hdv7 hda7 hq7 hDq ht8
  refine cons_gen ht8 ?_
  intro tk8' ht8'
  refine st8 (g₉ := g₉) (d₉ := d₉) (os₉ := os₉) (e := p + pre.length) (z := z) K0 KX T ht8' F8 N8 rfl rfl (by lia) (by lia) ?_
  intro h9 tk9 tp9 F9 N9 ht9
  have N9' : News base L h9 (r.led c its' nn' (if inside then val ++ out else val) tv' σ2 ++ ((D', listOf dits8 dn8) :: (I, oI) :: ((d7 ++ (d6 ++ ex6)) ++ rest))) := News.sub N9 fun q hq => by
    simp only [List.mem_append, List.mem_cons] at hq ⊢
    rcases hq with h | h | h | (h | h | h) | h <;> simp [h]
  have hledD : ∀ q ∈ r.led c its' nn' (if inside then val ++ out else val) tv' σ2 ++ ((I, oI) :: (ex6 ++ rest)), @LT.lt Nat _ q.1 D' := fun q hq => hD6 q (List.mem_append_right _ hq)
  have hnwI : ∀ q ∈ d7 ++ (d6 ++ ex6), q.1 ≠ I := fun q hq e => by
    rcases List.mem_append.mp hq with hq | hq
    · have h1 := hDq q hq
      have h2 := hledD (I, oI) (List.mem_append_right _ (.head _))
      have e' : @Eq Nat q.1 I := e
      dsimp only at h2
      lia
    · rcases List.mem_append.mp hq with hq | hq
      · have h1 := hq6 q hq (I, oI) (List.mem_append_right _ (.head _))
        have e' : @Eq Nat q.1 I := e
        dsimp only at h1
        lia
      · have hc1 := Tks.dict htk6 q hq
        have g1 := (N6' q (.tail _ (.tail _ (List.mem_append_right _ (.tail _ (List.mem_append_left _ hq)))))).1
        have g2 := (N6' (I, oI) (.tail _ (.tail _ (List.mem_append_right _ (.head _))))).1
        rw [e] at g1
        have g3 := Option.some.inj (g1.symm.trans g2)
        rw [g3, hIc] at hc1
        exact absurd hc1 (by decide)
  have hoff9 : Off r c ((D', listOf dits8 dn8) :: (I, oI) :: ((d7 ++ (d6 ++ ex6)) ++ rest)) := fun q hq => by
    rcases List.mem_cons.mp hq with rfl | hq
    · exact off_gt (its := its') (nn := nn') (val := if inside then val ++ out else val) (tv := tv') (σ := σ2) fun x hx => hledD x (List.mem_append_left _ hx)
    · rcases List.mem_cons.mp hq with rfl | hq
      · exact hoff (I, oI) (.tail _ (.head _))
      · rcases List.mem_append.mp hq with hq | hq
        · rcases List.mem_append.mp hq with hq | hq
          · exact off_gt (its := its') (nn := nn') (val := if inside then val ++ out else val) (tv := tv') (σ := σ2) fun x hx => hq7 q hq x (List.mem_append_right _ (List.mem_append_left _ hx))
          · rcases List.mem_append.mp hq with hq | hq
            · exact off_gt (its := its') (nn := nn') (val := if inside then val ++ out else val) (tv := tv') (σ := σ2) fun x hx => hq6 q hq x (List.mem_append_left _ hx)
            · exact fun hm => by
                have h1 := (Rdr.inAdr hO hm).2
                have h2 := hex6 q hq
                lia
        · exact hoff q (.tail _ (.tail _ hq))
  have hdr : T0.drop (p + pre.length + 1) = rr := by
    have := drop_more (l := T0) (p := p) (a := pre ++ [38]) (b := rr) (by rw [hd]; simp)
    rw [List.length_append, ← Nat.add_assoc] at this
    exact this
  have hI9 : Inv c σ2 (T0.take (p + pre.length + 1 + z)) (T0.drop (p + pre.length + 1 + z)) := by
    rw [List.take_add, hdr, ← List.drop_drop, hdr]
    exact hI2
  refine cons_gen ht9 ?_
  intro tk9' ht9'
  refine st9 (g₉ := g₉) (d₉ := d₉) (os₉ := os₉) K0 KX T ht9' F9 N9' hG hO hoff9 hI9 jme rfl jrd rfl rfl hT hrl (by lia) ?_
  intro h10 tk10 σ3 F10 N10 hI10 ht10
  refine wpAny_execs_nil ?_
  refine hQ h10 tk10 _ (p + pre.length + 1 + z) (if inside then val ++ out else val) σ3 its' nn' tv' (ex ++ ex6) D' dits8 dn8 (ddts ++ (d6 ++ d7)) (toks ++ (((refOut clo inside rr).2.1.map fun e => ((7 : Int), e)).toList ++ if inside then [] else [(1, tx out)])) (d7 ++ (d6 ++ ex6)) F10 N10 ⟨jme, jrd, ⟨_, rfl⟩, ⟨_, rfl⟩, rfl, hI10, by lia, ?_, ?_, ?_, ?_, ?_, ?_⟩ hoff9 hnwI (fun e => ?_) ?_
  · intro q hq
    rcases List.mem_append.mp hq with hq | hq
    · exact List.mem_append_right _ (jex q hq)
    · simp [hq]
  · intro q hq
    rcases List.mem_append.mp hq with hq | hq
    · exact List.mem_append_right _ (jdt q hq)
    · rcases List.mem_append.mp hq with hq | hq <;> simp [hq]
  · rw [hit]
    exact Tks.append jtk htk6
  · rw [hdv7, hdv6, List.append_assoc]
    exact DueAre.append jdue (DueAre.append hda6 hda7)
  · rw [List.length_append, List.length_append]
    have : (if inside = true then ([] : List (Int × Str)) else [(1, tx out)]).length ≤ 1 := by cases inside <;> simp
    lia
  · cases inside
    · show val.length ≤ _; lia
    · show (val ++ out).length ≤ _
      rw [List.length_append]; lia
  · have h2 := hledD (I, oI) (List.mem_append_right _ (.head _))
    have e' : @Eq Nat D' I := e
    dsimp only at h2
    lia
  · rw [← List.drop_drop, hdr, hzc, hd, List.count_append, List.count_cons_self, List.count_eq_zero.mpr h38]
    lia
end
section
local macro_rules | `(tactic| walk_at "none 0") => `(tactic| fail)
local macro_rules | `(tactic| k_all) => `(tactic| assumption)
theorem for_eq : lawStmt 11 = .For (.Tuple [.Name (Str.ofString "closing") ⟨1236, 8, 1236, 15⟩, .Name (Str.ofString "inside") ⟨1236, 17, 1236, 23⟩] 0 ⟨1236, 8, 1236, 23⟩) (.Name (Str.ofString "ways") ⟨1236, 27, 1236, 31⟩) (forB (lawStmt 11)) [] ⟨1236, 4, 1251, 24⟩ := by kernel_rfl
theorem WaysAre.at : ∀ {ts : List (Addr × Obj)} {vs : List Value} {ws : List (Option Nat × Bool)}, WaysAre ts vs ws → ∀ {i : Nat} {v : Value}, vs[i]? = some v → ∃ q c b z, v = .ref q ∧ (q, tupOf #[z, .bool b]) ∈ ts ∧ Ch c z
  | (q, o) :: ts, u :: vs, (c, b) :: ws, ⟨h1, ⟨z, h2, h3⟩, _⟩, 0, v, e => by
    cases e
    exact ⟨q, c, b, z, h1, by rw [h3]; exact .head _, h2⟩
  | (_, _) :: _, _ :: _, (_, _) :: _, ⟨_, _, h3⟩, i + 1, v, e => by
    obtain ⟨q, c, b, z, e1, e2, e3⟩ := WaysAre.at h3 (i := i) (v := v) (by simpa using e)
    exact ⟨q, c, b, z, e1, .tail _ e2, e3⟩
  | [], [], [], _, _, _, e => by cases e
  | [], [], _ :: _, h, _, _, _ => h.elim
  | [], _ :: _, _, h, _, _, _ => h.elim
  | _ :: _, [], _, h, _, _, _ => h.elim
  | _ :: _, _ :: _, [], h, _, _, _ => h.elim
theorem WaysAre.len : ∀ {ts : List (Addr × Obj)} {vs : List Value} {ws : List (Option Nat × Bool)}, WaysAre ts vs ws → vs.length = ws.length
  | [], [], [], _ => rfl
  | (_, _) :: _, _ :: _, (_, _) :: _, ⟨_, _, h⟩ => congrArg (· + 1) (WaysAre.len h)
  | [], [], _ :: _, h => h.elim
  | [], _ :: _, _, h => h.elim
  | _ :: _, [], _, h => h.elim
  | _ :: _, _ :: _, [], h => h.elim
noncomputable def law_loop_S (w : World) (base : Heap) (h : Heap) (L : Addr) (fa : Addr) (cda : Addr) (mean : ExcName → Option Value) (mg : Str → Option Value) (mb : Str → Option Value) (g₉ : Array GenState) (d₉ : Drawn) (os₉ : OsState) (S : Sl) (DU : Nat) (W : Nat) (tm : Tok) (tp : Tok) (ta : Tok) (Q : Flow → Shared → Prop) (E : Value → Shared → Prop) (r : Rdr) (c : Strm) (tv : Tok) (ts : List (Addr × Obj)) : Prop :=
  ∀ (tk : Nat) (dn : Nat) (wn : Nat) (T0 : List Nat) (nn : Nat) (σ : SV) (wits : Array Value) (ws : List (Option Nat × Bool)), (Below callerA base [] base) →
    ((KW w.params).In base) →
    (TopQ mean mg mb base) →
    (Good c) →
    (r.Ord c) →
    (r.Cur w) →
    (∀ x ∈ T0, Mended x) →
    (35 ∉ T0) →
    (T0.length ≤ 96) →
    (0 < tk) →
    (Fr base L h (LF S)) →
    (News base L h (r.led c #[] nn [] tv σ ++ ((DU, listOf #[] dn) :: (W, listOf wits wn) :: ts))) →
    (Off r c ((DU, listOf #[] dn) :: (W, listOf wits wn) :: ts)) →
    (WaysAre ts wits.toList ws) →
    (ws.length ≤ 12) →
    (T0.count 38 = ws.length) →
    (Inv c σ [] T0) →
    (S.me = some (.str (tx T0) tm)) →
    (S.rd = some (.ref r.rd)) →
    (S.pl = some (.int (0 : Nat) tp)) →
    (S.va = some (.str (tx []) ta)) →
    (S.du = some (.ref DU)) →
    (S.wa = some (.ref W)) →
    (PassesOwn (model pw_te0025_01 w) (lawA L fa cda) (lawE L fa cda) E) →
    (∀ h' tk' S' p val tv' σ' its nn' ex DU' dits dn' ddts toks rest, Fr base L h' (LF S') → News base L h' (r.led c its nn' val tv' σ' ++ ((DU', listOf dits dn') :: rest)) → LInv w r c T0 tm S' p val σ' its ex DU' dits ddts toks rest 12 → Off r c ((DU', listOf dits dn') :: rest) →
      (T0.drop p).count 38 = 0 → Q .next ⟨h', g₉, d₉, tk', os₉⟩) →
    wpAny (model pw_te0025_01 w) (lawA L fa cda) (exec (lawStmt 11) (lawE L fa cda)) Q E ⟨h, g₉, d₉, tk, os₉⟩
noncomputable abbrev law_loop_T : Type := (World) × (Heap) × (Heap) × (Addr) × (Addr) × (Addr) × (ExcName → Option Value) × (Str → Option Value) × (Str → Option Value) × (Array GenState) × (Drawn) × (OsState) × (Sl) × (Nat) × (Nat) × (Tok) × (Tok) × (Tok) × (Flow → Shared → Prop) × (Value → Shared → Prop) × (Rdr) × (Strm) × (Tok) × (List (Addr × Obj))
theorem law_loop_ne : Nonempty law_loop_T := ⟨(dW, default, default, default, default, default, (fun _ => default), (fun _ => default), (fun _ => default), default, {}, default, dSl, default, default, default, default, default, (fun _ _ => True), (fun _ _ => True), dRdr, dStrm, default, default)⟩
noncomputable abbrev law_loop_F (x : law_loop_T) : Prop := law_loop_S x.1 x.2.1 x.2.2.1 x.2.2.2.1 x.2.2.2.2.1 x.2.2.2.2.2.1 x.2.2.2.2.2.2.1 x.2.2.2.2.2.2.2.1 x.2.2.2.2.2.2.2.2.1 x.2.2.2.2.2.2.2.2.2.1 x.2.2.2.2.2.2.2.2.2.2.1 x.2.2.2.2.2.2.2.2.2.2.2.1 x.2.2.2.2.2.2.2.2.2.2.2.2.1 x.2.2.2.2.2.2.2.2.2.2.2.2.2.1 x.2.2.2.2.2.2.2.2.2.2.2.2.2.2.1 x.2.2.2.2.2.2.2.2.2.2.2.2.2.2.2.1 x.2.2.2.2.2.2.2.2.2.2.2.2.2.2.2.2.1 x.2.2.2.2.2.2.2.2.2.2.2.2.2.2.2.2.2.1 x.2.2.2.2.2.2.2.2.2.2.2.2.2.2.2.2.2.2.1 x.2.2.2.2.2.2.2.2.2.2.2.2.2.2.2.2.2.2.2.1 x.2.2.2.2.2.2.2.2.2.2.2.2.2.2.2.2.2.2.2.2.1 x.2.2.2.2.2.2.2.2.2.2.2.2.2.2.2.2.2.2.2.2.2.1 x.2.2.2.2.2.2.2.2.2.2.2.2.2.2.2.2.2.2.2.2.2.2.1 x.2.2.2.2.2.2.2.2.2.2.2.2.2.2.2.2.2.2.2.2.2.2.2
noncomputable def law_loop_P : law_loop_T := pick law_loop_ne law_loop_F
namespace law_loop_V
@[irreducible] noncomputable def w : World := law_loop_P.1
@[irreducible] noncomputable def base : Heap := law_loop_P.2.1
@[irreducible] noncomputable def h : Heap := law_loop_P.2.2.1
@[irreducible] noncomputable def L : Addr := law_loop_P.2.2.2.1
@[irreducible] noncomputable def fa : Addr := law_loop_P.2.2.2.2.1
@[irreducible] noncomputable def cda : Addr := law_loop_P.2.2.2.2.2.1
@[irreducible] noncomputable def mean : ExcName → Option Value := law_loop_P.2.2.2.2.2.2.1
@[irreducible] noncomputable def mg : Str → Option Value := law_loop_P.2.2.2.2.2.2.2.1
@[irreducible] noncomputable def mb : Str → Option Value := law_loop_P.2.2.2.2.2.2.2.2.1
@[irreducible] noncomputable def g₉ : Array GenState := law_loop_P.2.2.2.2.2.2.2.2.2.1
@[irreducible] noncomputable def d₉ : Drawn := law_loop_P.2.2.2.2.2.2.2.2.2.2.1
@[irreducible] noncomputable def os₉ : OsState := law_loop_P.2.2.2.2.2.2.2.2.2.2.2.1
@[irreducible] noncomputable def S : Sl := law_loop_P.2.2.2.2.2.2.2.2.2.2.2.2.1
@[irreducible] noncomputable def DU : Nat := law_loop_P.2.2.2.2.2.2.2.2.2.2.2.2.2.1
@[irreducible] noncomputable def W : Nat := law_loop_P.2.2.2.2.2.2.2.2.2.2.2.2.2.2.1
@[irreducible] noncomputable def tm : Tok := law_loop_P.2.2.2.2.2.2.2.2.2.2.2.2.2.2.2.1
@[irreducible] noncomputable def tp : Tok := law_loop_P.2.2.2.2.2.2.2.2.2.2.2.2.2.2.2.2.1
@[irreducible] noncomputable def ta : Tok := law_loop_P.2.2.2.2.2.2.2.2.2.2.2.2.2.2.2.2.2.1
@[irreducible] noncomputable def Q : Flow → Shared → Prop := law_loop_P.2.2.2.2.2.2.2.2.2.2.2.2.2.2.2.2.2.2.1
@[irreducible] noncomputable def E : Value → Shared → Prop := law_loop_P.2.2.2.2.2.2.2.2.2.2.2.2.2.2.2.2.2.2.2.1
@[irreducible] noncomputable def r : Rdr := law_loop_P.2.2.2.2.2.2.2.2.2.2.2.2.2.2.2.2.2.2.2.2.1
@[irreducible] noncomputable def c : Strm := law_loop_P.2.2.2.2.2.2.2.2.2.2.2.2.2.2.2.2.2.2.2.2.2.1
@[irreducible] noncomputable def tv : Tok := law_loop_P.2.2.2.2.2.2.2.2.2.2.2.2.2.2.2.2.2.2.2.2.2.2.1
@[irreducible] noncomputable def ts : List (Addr × Obj) := law_loop_P.2.2.2.2.2.2.2.2.2.2.2.2.2.2.2.2.2.2.2.2.2.2.2
theorem core : law_loop_S w base h L fa cda mean mg mb g₉ d₉ os₉ S DU W tm tp ta Q E r c tv ts := by
  unfold law_loop_S
  intro tk dn wn T0 nn σ wits ws K0 KX T hG hO hC hm h35 hT ht F N hoff hwa hws hcnt hI hme hrd hpl hva hdu hways hE hQ
  rw [for_eq]
  have F₁ := Fr.like F (m' := fun y => if y = Str.ofString "ways" then some (.ref W) else LF S y) (by exact like_keys (ks := [Str.ofString "ways"]) (.cons hways .nil) (by exact Bare.nil) (by repeat' (first | ((with_reducible apply Bare.ite); rfl) | exact Bare.nil)))
  refine wpAny_For ?_
  refine wpAny_toks (n := 1) (by first | assumption | exact Nat.succ_pos _ | lia | (dsimp only; lia)) ?_
  have N₁ : News base L h ((W, listOf wits wn) :: (r.led c #[] nn [] tv σ ++ ((DU, listOf #[] dn) :: (W, listOf wits wn) :: ts))) := fun q hq => by
    rcases List.mem_cons.mp hq with rfl | hq
    · exact N _ (List.mem_append_right _ (.tail _ (.head _)))
    · exact N q hq
  clear N F
  k_steps
  have F₂ : Fr base L h (LF S) := Fr.like ‹Fr _ _ _ _› (by exact like_LF (ks := [Str.ofString "ways"]) (.cons (hways).symm .nil) (by repeat' (first | ((with_reducible apply Bare.ite); rfl) | exact Bare.nil)) (by rfl))
  have N₂ := News.tl N₁
  have hln := WaysAre.len hwa
  rw [Array.length_toList] at hln
  refine for_list2 (items := wits) (ol := listOf wits wn) (nl := wn) (m₀ := LF S) (led₀ := r.led c #[] nn [] tv σ ++ ((DU, listOf #[] dn) :: (W, listOf wits wn) :: ts))
    (fun i m led => ∃ S' p val tv' σ' its nn' ex DU' dits dn' ddts toks rest, m = LF S' ∧ led = r.led c its nn' val tv' σ' ++ ((DU', listOf dits dn') :: rest) ∧ LInv w r c T0 tm S' p val σ' its ex DU' dits ddts toks rest i ∧ Off r c ((DU', listOf dits dn') :: rest) ∧
      (T0.drop p).count 38 + i = ws.length ∧ (W, listOf wits wn) ∈ rest ∧ ∀ q ∈ ts, q ∈ rest)
    rfl (N₁ _ (.head _)).1 rfl rfl (.inr (fun i m led hJ => by
      obtain ⟨S', p, val, tv', σ', its, nn', ex, DU', dits, dn', ddts, toks, rest, _, rfl, _, _, _, hW, _⟩ := hJ
      exact List.mem_append_right _ (.tail _ hW))) F₂ N₂ ?_ ?_ ?_ hE
  · refine ⟨S, 0, [], tv, σ, #[], nn, [], DU, #[], dn, [], [], _, rfl, rfl, ⟨hme, hrd, ⟨_, hpl⟩, ⟨_, hva⟩, hdu, hI, Nat.zero_le _, (fun _ h => nomatch h), (fun _ h => nomatch h), trivial, trivial, Nat.zero_le _, Nat.zero_le _⟩, hoff, hcnt, .head _, fun q hq => .tail _ hq⟩
  · rintro i v m₁ led₁ h1 tk1 I oI hoc hv ⟨S', p, val, tv', σ', its, nn', ex, DU', dits, dn', ddts, toks, rest, rfl, rfl, J, hoff', hct, hW, hts⟩ hne hI0 htk F₁ N₁
    obtain ⟨q, clo, b, z, rfl, hq, hch⟩ := WaysAre.at hwa (i := i) (by rw [Array.getElem?_toList]; exact hv)
    have hil : i < wits.size := (Array.getElem?_eq_some_iff.mp hv).1
    have N₃ : News base L h1 ((q, tupOf #[z, .bool b]) :: (I, oI) :: (r.led c its nn' val tv' σ' ++ ((DU', listOf dits dn') :: rest))) := fun x hx => by
      rcases List.mem_cons.mp hx with rfl | hx
      · exact N₁ _ (.tail _ (List.mem_append_right _ (.tail _ (hts _ hq))))
      · exact N₁ x hx
    have hpos : 0 < tk1 := by first | lia | (dsimp only at htk; lia)
    clear N₁ N₂ F₂
    refine test_cut (fun _ s₂ => Stop (∃ h' tk', s₂ = ⟨h', g₉, d₉, tk', os₉⟩ ∧ 0 < tk' ∧ Fr base L h' (LF { S' with cl := some z, ins := some (.bool b) }) ∧ News base L h' ((q, tupOf #[z, .bool b]) :: (I, oI) :: (r.led c its nn' val tv' σ' ++ ((DU', listOf dits dn') :: rest))))) ?_ ?_
    · refine wpAny_toks (n := 1) hpos ?_
      k_steps
      exact ⟨_, _, rfl, by lia, Fr.like ‹Fr _ _ _ _› (by exact like_LF (ks := [Str.ofString "inside", Str.ofString "closing"]) (.cons rfl (.cons rfl .nil)) (by repeat' (first | ((with_reducible apply Bare.ite); rfl) | exact Bare.nil)) (by rfl)), ‹News _ _ _ _›⟩
    · rintro _ s₂ ⟨h2, tk2, rfl, hp2, F₂, N₂⟩
      have hIa : I ∉ r.adr c := fun hm => by
        rw [← r.led_adr c its nn' val tv' σ'] at hm
        obtain ⟨x, hx, e⟩ := List.mem_map.mp hm
        exact hne x (List.mem_append_left _ hx) e
      obtain ⟨j1, j2, j3, j4, j5, j6, j7, j8, j9, j10, j11, j12, j13⟩ := J
      have N₄ : News base L h2 (r.led c its nn' val tv' σ' ++ ((DU', listOf dits dn') :: (I, oI) :: rest)) := News.sub N₂ fun x hx => by
        simp only [List.mem_append, List.mem_cons] at hx ⊢
        rcases hx with h | h | h | h <;> simp [h]
      refine law_turn (g₉ := g₉) (d₉ := d₉) (os₉ := os₉) (S := { S' with cl := some z, ins := some (.bool b) }) (k := i) K0 KX T hG hO hC hm h35 hT hp2 F₂ N₄ ⟨j1, j2, j3, j4, j5, j6, j7, j8, j9, j10, j11, j12, j13⟩ (fun x hx => ?_) (by lia) (by lia) rfl rfl hch hoc ?_
      · rcases List.mem_cons.mp hx with rfl | hx
        · exact hoff' _ (.head _)
        · rcases List.mem_cons.mp hx with rfl | hx
          · exact hIa
          · exact hoff' x (.tail _ hx)
      · intro h3 tk3 S3 p3 val3 σ3 its3 nn3 tv3 ex3 DU3 dits3 dn3 ddts3 toks3 nw F₃ N₃ J₃ hoff3 hnw hDI hc3
        refine ⟨h3, tk3, LF S3, r.led c its3 nn3 val3 tv3 σ3 ++ ((DU3, listOf dits3 dn3) :: (nw ++ rest)), rfl, F₃, News.sub N₃ ?_, ?_, S3, p3, val3, tv3, σ3, its3, nn3, ex3, DU3, dits3, dn3, ddts3, toks3, nw ++ rest, rfl, rfl, J₃, ?_, by lia, List.mem_append_right _ hW, fun x hx => List.mem_append_right _ (hts x hx)⟩
        · intro x hx
          simp only [List.mem_append, List.mem_cons] at hx ⊢
          rcases hx with h | h | h | h | h <;> simp [h]
        · intro x hx
          rcases List.mem_append.mp hx with hx | hx
          · exact fun e => hIa (by rw [← e, ← r.led_adr c its3 nn3 val3 tv3 σ3]; exact List.mem_map_of_mem hx)
          · rcases List.mem_cons.mp hx with rfl | hx
            · exact hDI
            · rcases List.mem_append.mp hx with hx | hx
              · exact hnw x hx
              · exact hne x (List.mem_append_right _ (.tail _ hx))
        · intro x hx
          rcases List.mem_cons.mp hx with rfl | hx
          · exact hoff3 _ (.head _)
          · exact hoff3 x (.tail _ (.tail _ hx))
  · rintro m₁ led₁ h1 tk1 ⟨S', p, val, tv', σ', its, nn', ex, DU', dits, dn', ddts, toks, rest, rfl, rfl, J, hoff', hct, hW, hts⟩ F₁ N₁
    obtain ⟨j1, j2, j3, j4, j5, j6, j7, j8, j9, j10, j11, j12, j13⟩ := J
    exact hQ h1 tk1 S' p val tv' σ' its nn' ex DU' dits dn' ddts toks rest F₁ N₁ ⟨j1, j2, j3, j4, j5, j6, j7, j8, j9, j10, j11, by lia, by lia⟩ hoff' (by lia)
end law_loop_V
theorem law_loop_all (w : World) (base : Heap) (h : Heap) (L : Addr) (fa : Addr) (cda : Addr) (mean : ExcName → Option Value) (mg : Str → Option Value) (mb : Str → Option Value) (g₉ : Array GenState) (d₉ : Drawn) (os₉ : OsState) (S : Sl) (DU : Nat) (W : Nat) (tm : Tok) (tp : Tok) (ta : Tok) (Q : Flow → Shared → Prop) (E : Value → Shared → Prop) (r : Rdr) (c : Strm) (tv : Tok) (ts : List (Addr × Obj)) : law_loop_S w base h L fa cda mean mg mb g₉ d₉ os₉ S DU W tm tp ta Q E r c tv ts := of_pick (S := law_loop_F) (show law_loop_F law_loop_P by with_unfolding_all exact law_loop_V.core) (w, base, h, L, fa, cda, mean, mg, mb, g₉, d₉, os₉, S, DU, W, tm, tp, ta, Q, E, r, c, tv, ts)
theorem law_loop {w : World} {base h : Heap} {L fa cda : Addr} {mean : ExcName → Option Value} {mg mb : Str → Option Value} {g₉ : Array GenState} {d₉ : Drawn} {os₉ : OsState} {S : Sl} {tk DU dn W wn : Nat} {tm tp ta : Tok} {T0 : List Nat} {Q : Flow → Shared → Prop} {E : Value → Shared → Prop} {r : Rdr} {c : Strm} {nn : Nat} {tv : Tok} {σ : SV} {ts : List (Addr × Obj)} {wits : Array Value} {ws : List (Option Nat × Bool)} (K0 : Below callerA base [] base) (KX : (KW w.params).In base) (T : TopQ mean mg mb base) (hG : Good c) (hO : r.Ord c) (hC : r.Cur w) (hm : ∀ x ∈ T0, Mended x) (h35 : 35 ∉ T0) (hT : T0.length ≤ 96) (ht : 0 < tk) (F : Fr base L h (LF S)) (N : News base L h (r.led c #[] nn [] tv σ ++ ((DU, listOf #[] dn) :: (W, listOf wits wn) :: ts))) (hoff : Off r c ((DU, listOf #[] dn) :: (W, listOf wits wn) :: ts)) (hwa : WaysAre ts wits.toList ws) (hws : ws.length ≤ 12) (hcnt : T0.count 38 = ws.length) (hI : Inv c σ [] T0) (hme : S.me = some (.str (tx T0) tm)) (hrd : S.rd = some (.ref r.rd)) (hpl : S.pl = some (.int (0 : Nat) tp)) (hva : S.va = some (.str (tx []) ta)) (hdu : S.du = some (.ref DU)) (hways : S.wa = some (.ref W)) (hE : PassesOwn (model pw_te0025_01 w) (lawA L fa cda) (lawE L fa cda) E) (hQ : ∀ h' tk' S' p val tv' σ' its nn' ex DU' dits dn' ddts toks rest, Fr base L h' (LF S') → News base L h' (r.led c its nn' val tv' σ' ++ ((DU', listOf dits dn') :: rest)) → LInv w r c T0 tm S' p val σ' its ex DU' dits ddts toks rest 12 → Off r c ((DU', listOf dits dn') :: rest) →
      (T0.drop p).count 38 = 0 → Q .next ⟨h', g₉, d₉, tk', os₉⟩) : wpAny (model pw_te0025_01 w) (lawA L fa cda) (exec (lawStmt 11) (lawE L fa cda)) Q E ⟨h, g₉, d₉, tk, os₉⟩ :=
  law_loop_all w base h L fa cda mean mg mb g₉ d₉ os₉ S DU W tm tp ta Q E r c tv ts tk dn wn T0 nn σ wits ws K0 KX T hG hO hC hm h35 hT ht F N hoff hwa hws hcnt hI hme hrd hpl hva hdu hways hE hQ
noncomputable def law_end_S (w : World) (base : Heap) (h : Heap) (L : Addr) (fa : Addr) (cda : Addr) (mean : ExcName → Option Value) (mg : Str → Option Value) (mb : Str → Option Value) (g₉ : Array GenState) (d₉ : Drawn) (os₉ : OsState) (S : Sl) (DU : Nat) (W : Nat) (tm : Tok) (tp : Tok) (ta : Tok) (tvk : Tok) (Q : Flow → Shared → Prop) (Q' : Flow → Shared → Prop) (E : Value → Shared → Prop) (E' : Value → Shared → Prop) (r : Rdr) (c : Strm) (tv : Tok) (ts : List (Addr × Obj)) : Prop :=
  ∀ (tk : Nat) (dn : Nat) (wn : Nat) (T0 : List Nat) (nn : Nat) (σ : SV) (wits : Array Value) (ws : List (Option Nat × Bool)), (Below callerA base [] base) →
    ((KW w.params).In base) →
    (TopQ mean mg mb base) →
    (Good c) →
    (r.Ord c) →
    (r.Cur w) →
    (r.vk = .str (Str.ofString "k") tvk) →
    (∀ x ∈ T0, Mended x) →
    (35 ∉ T0) →
    (T0.length ≤ 96) →
    (0 < tk) →
    (Fr base L h (LF S)) →
    (News base L h (r.led c #[] nn [] tv σ ++ ((DU, listOf #[] dn) :: (W, listOf wits wn) :: ts))) →
    (Off r c ((DU, listOf #[] dn) :: (W, listOf wits wn) :: ts)) →
    (WaysAre ts wits.toList ws) →
    (ws.length ≤ 12) →
    (T0.count 38 = ws.length) →
    (Inv c σ [] T0) →
    (S.me = some (.str (tx T0) tm)) →
    (S.rd = some (.ref r.rd)) →
    (S.pl = some (.int (0 : Nat) tp)) →
    (S.va = some (.str (tx []) ta)) →
    (S.du = some (.ref DU)) →
    (S.wa = some (.ref W)) →
    (PassesOwn (model pw_te0025_01 w) (lawA L fa cda) (lawE L fa cda) E') →
    (∀ s', (0 < s'.toks → wpAny (model pw_te0025_01 w) (lawA L fa cda) (execs [lawStmt 12, lawStmt 13, lawStmt 14] (lawE L fa cda)) Q E s') → Q' .next s') →
    (∀ h' tk' m', Fr base L h' m' → Q (.ret (.bool true)) ⟨h', g₉, d₉, tk', os₉⟩) →
    wpAny (model pw_te0025_01 w) (lawA L fa cda) (exec (lawStmt 11) (lawE L fa cda)) Q' E' ⟨h, g₉, d₉, tk, os₉⟩
noncomputable abbrev law_end_T : Type := (World) × (Heap) × (Heap) × (Addr) × (Addr) × (Addr) × (ExcName → Option Value) × (Str → Option Value) × (Str → Option Value) × (Array GenState) × (Drawn) × (OsState) × (Sl) × (Nat) × (Nat) × (Tok) × (Tok) × (Tok) × (Tok) × (Flow → Shared → Prop) × (Flow → Shared → Prop) × (Value → Shared → Prop) × (Value → Shared → Prop) × (Rdr) × (Strm) × (Tok) × (List (Addr × Obj))
theorem law_end_ne : Nonempty law_end_T := ⟨(dW, default, default, default, default, default, (fun _ => default), (fun _ => default), (fun _ => default), default, {}, default, dSl, default, default, default, default, default, default, (fun _ _ => True), (fun _ _ => True), (fun _ _ => True), (fun _ _ => True), dRdr, dStrm, default, default)⟩
noncomputable abbrev law_end_F (x : law_end_T) : Prop := law_end_S x.1 x.2.1 x.2.2.1 x.2.2.2.1 x.2.2.2.2.1 x.2.2.2.2.2.1 x.2.2.2.2.2.2.1 x.2.2.2.2.2.2.2.1 x.2.2.2.2.2.2.2.2.1 x.2.2.2.2.2.2.2.2.2.1 x.2.2.2.2.2.2.2.2.2.2.1 x.2.2.2.2.2.2.2.2.2.2.2.1 x.2.2.2.2.2.2.2.2.2.2.2.2.1 x.2.2.2.2.2.2.2.2.2.2.2.2.2.1 x.2.2.2.2.2.2.2.2.2.2.2.2.2.2.1 x.2.2.2.2.2.2.2.2.2.2.2.2.2.2.2.1 x.2.2.2.2.2.2.2.2.2.2.2.2.2.2.2.2.1 x.2.2.2.2.2.2.2.2.2.2.2.2.2.2.2.2.2.1 x.2.2.2.2.2.2.2.2.2.2.2.2.2.2.2.2.2.2.1 x.2.2.2.2.2.2.2.2.2.2.2.2.2.2.2.2.2.2.2.1 x.2.2.2.2.2.2.2.2.2.2.2.2.2.2.2.2.2.2.2.2.1 x.2.2.2.2.2.2.2.2.2.2.2.2.2.2.2.2.2.2.2.2.2.1 x.2.2.2.2.2.2.2.2.2.2.2.2.2.2.2.2.2.2.2.2.2.2.1 x.2.2.2.2.2.2.2.2.2.2.2.2.2.2.2.2.2.2.2.2.2.2.2.1 x.2.2.2.2.2.2.2.2.2.2.2.2.2.2.2.2.2.2.2.2.2.2.2.2.1 x.2.2.2.2.2.2.2.2.2.2.2.2.2.2.2.2.2.2.2.2.2.2.2.2.2.1 x.2.2.2.2.2.2.2.2.2.2.2.2.2.2.2.2.2.2.2.2.2.2.2.2.2.2
noncomputable def law_end_P : law_end_T := pick law_end_ne law_end_F
namespace law_end_V
@[irreducible] noncomputable def w : World := law_end_P.1
@[irreducible] noncomputable def base : Heap := law_end_P.2.1
@[irreducible] noncomputable def h : Heap := law_end_P.2.2.1
@[irreducible] noncomputable def L : Addr := law_end_P.2.2.2.1
@[irreducible] noncomputable def fa : Addr := law_end_P.2.2.2.2.1
@[irreducible] noncomputable def cda : Addr := law_end_P.2.2.2.2.2.1
@[irreducible] noncomputable def mean : ExcName → Option Value := law_end_P.2.2.2.2.2.2.1
@[irreducible] noncomputable def mg : Str → Option Value := law_end_P.2.2.2.2.2.2.2.1
@[irreducible] noncomputable def mb : Str → Option Value := law_end_P.2.2.2.2.2.2.2.2.1
@[irreducible] noncomputable def g₉ : Array GenState := law_end_P.2.2.2.2.2.2.2.2.2.1
@[irreducible] noncomputable def d₉ : Drawn := law_end_P.2.2.2.2.2.2.2.2.2.2.1
@[irreducible] noncomputable def os₉ : OsState := law_end_P.2.2.2.2.2.2.2.2.2.2.2.1
@[irreducible] noncomputable def S : Sl := law_end_P.2.2.2.2.2.2.2.2.2.2.2.2.1
@[irreducible] noncomputable def DU : Nat := law_end_P.2.2.2.2.2.2.2.2.2.2.2.2.2.1
@[irreducible] noncomputable def W : Nat := law_end_P.2.2.2.2.2.2.2.2.2.2.2.2.2.2.1
@[irreducible] noncomputable def tm : Tok := law_end_P.2.2.2.2.2.2.2.2.2.2.2.2.2.2.2.1
@[irreducible] noncomputable def tp : Tok := law_end_P.2.2.2.2.2.2.2.2.2.2.2.2.2.2.2.2.1
@[irreducible] noncomputable def ta : Tok := law_end_P.2.2.2.2.2.2.2.2.2.2.2.2.2.2.2.2.2.1
@[irreducible] noncomputable def tvk : Tok := law_end_P.2.2.2.2.2.2.2.2.2.2.2.2.2.2.2.2.2.2.1
@[irreducible] noncomputable def Q : Flow → Shared → Prop := law_end_P.2.2.2.2.2.2.2.2.2.2.2.2.2.2.2.2.2.2.2.1
@[irreducible] noncomputable def Q' : Flow → Shared → Prop := law_end_P.2.2.2.2.2.2.2.2.2.2.2.2.2.2.2.2.2.2.2.2.1
@[irreducible] noncomputable def E : Value → Shared → Prop := law_end_P.2.2.2.2.2.2.2.2.2.2.2.2.2.2.2.2.2.2.2.2.2.1
@[irreducible] noncomputable def E' : Value → Shared → Prop := law_end_P.2.2.2.2.2.2.2.2.2.2.2.2.2.2.2.2.2.2.2.2.2.2.1
@[irreducible] noncomputable def r : Rdr := law_end_P.2.2.2.2.2.2.2.2.2.2.2.2.2.2.2.2.2.2.2.2.2.2.2.1
@[irreducible] noncomputable def c : Strm := law_end_P.2.2.2.2.2.2.2.2.2.2.2.2.2.2.2.2.2.2.2.2.2.2.2.2.1
@[irreducible] noncomputable def tv : Tok := law_end_P.2.2.2.2.2.2.2.2.2.2.2.2.2.2.2.2.2.2.2.2.2.2.2.2.2.1
@[irreducible] noncomputable def ts : List (Addr × Obj) := law_end_P.2.2.2.2.2.2.2.2.2.2.2.2.2.2.2.2.2.2.2.2.2.2.2.2.2.2
theorem core : law_end_S w base h L fa cda mean mg mb g₉ d₉ os₉ S DU W tm tp ta tvk Q Q' E E' r c tv ts := by
  unfold law_end_S
  intro tk dn wn T0 nn σ wits ws K0 KX T hG hO hC hvk hm h35 hT ht F N hoff hwa hws hcnt hI hme hrd hpl hva hdu hways hE hn hQ
  refine law_loop (g₉ := g₉) (d₉ := d₉) (os₉ := os₉) K0 KX T hG hO hC hm h35 hT ht F N hoff hwa hws hcnt hI hme hrd hpl hva hdu hways hE ?_
  intro h2 tk2 S' p val tv' σ' its nn' ex DU' dits dn' ddts toks rest F2 N2 J hoff2 hc0
  refine hn _ fun ht2 => ?_
  obtain ⟨jme, jrd, ⟨tp2, jpl⟩, ⟨ta2, jva⟩, jdu, jI, jp, jex, jdt, jtk, jdue, jn, jv⟩ := J
  have htl := Tks.len jtk
  rw [Array.length_toList] at htl
  refine cons_gen ht2 ?_
  intro tk3 ht3
  refine en12 (g₉ := g₉) (d₉ := d₉) (os₉ := os₉) K0 KX T ht3 F2 N2 hG hO hoff2 jI jme jpl jrd (List.count_eq_zero.mp hc0) hT ?_
  intro h4 tk4 σ4 F4 N4 hI4 ht4
  refine cons_gen ht4 ?_
  intro tk5 ht5
  refine en13 (g₉ := g₉) (d₉ := d₉) (os₉ := os₉) K0 KX T ht5 F4 N4 hG hO hC hoff2 hI4 jme jrd jva hvk hT ?_
  intro h6 tk6 F6 N6 ht6
  refine cons_gen ht6 ?_
  intro tk7 ht7
  exact en14 (g₉ := g₉) (d₉ := d₉) (os₉ := os₉) K0 KX T ht7 F6 N6 (fun q hq => .tail _ (jex q hq)) (fun q hq => .tail _ (jdt q hq)) (.head _) jtk jdue (by lia) jrd jdu hQ
end law_end_V
theorem law_end_all (w : World) (base : Heap) (h : Heap) (L : Addr) (fa : Addr) (cda : Addr) (mean : ExcName → Option Value) (mg : Str → Option Value) (mb : Str → Option Value) (g₉ : Array GenState) (d₉ : Drawn) (os₉ : OsState) (S : Sl) (DU : Nat) (W : Nat) (tm : Tok) (tp : Tok) (ta : Tok) (tvk : Tok) (Q : Flow → Shared → Prop) (Q' : Flow → Shared → Prop) (E : Value → Shared → Prop) (E' : Value → Shared → Prop) (r : Rdr) (c : Strm) (tv : Tok) (ts : List (Addr × Obj)) : law_end_S w base h L fa cda mean mg mb g₉ d₉ os₉ S DU W tm tp ta tvk Q Q' E E' r c tv ts := of_pick (S := law_end_F) (show law_end_F law_end_P by with_unfolding_all exact law_end_V.core) (w, base, h, L, fa, cda, mean, mg, mb, g₉, d₉, os₉, S, DU, W, tm, tp, ta, tvk, Q, Q', E, E', r, c, tv, ts)
theorem law_end {w : World} {base h : Heap} {L fa cda : Addr} {mean : ExcName → Option Value} {mg mb : Str → Option Value} {g₉ : Array GenState} {d₉ : Drawn} {os₉ : OsState} {S : Sl} {tk DU dn W wn : Nat} {tm tp ta tvk : Tok} {T0 : List Nat} {Q Q' : Flow → Shared → Prop} {E E' : Value → Shared → Prop} {r : Rdr} {c : Strm} {nn : Nat} {tv : Tok} {σ : SV} {ts : List (Addr × Obj)} {wits : Array Value} {ws : List (Option Nat × Bool)} (K0 : Below callerA base [] base) (KX : (KW w.params).In base) (T : TopQ mean mg mb base) (hG : Good c) (hO : r.Ord c) (hC : r.Cur w) (hvk : r.vk = .str (Str.ofString "k") tvk) (hm : ∀ x ∈ T0, Mended x) (h35 : 35 ∉ T0) (hT : T0.length ≤ 96) (ht : 0 < tk) (F : Fr base L h (LF S)) (N : News base L h (r.led c #[] nn [] tv σ ++ ((DU, listOf #[] dn) :: (W, listOf wits wn) :: ts))) (hoff : Off r c ((DU, listOf #[] dn) :: (W, listOf wits wn) :: ts)) (hwa : WaysAre ts wits.toList ws) (hws : ws.length ≤ 12) (hcnt : T0.count 38 = ws.length) (hI : Inv c σ [] T0) (hme : S.me = some (.str (tx T0) tm)) (hrd : S.rd = some (.ref r.rd)) (hpl : S.pl = some (.int (0 : Nat) tp)) (hva : S.va = some (.str (tx []) ta)) (hdu : S.du = some (.ref DU)) (hways : S.wa = some (.ref W)) (hE : PassesOwn (model pw_te0025_01 w) (lawA L fa cda) (lawE L fa cda) E') (hn : ∀ s', (0 < s'.toks → wpAny (model pw_te0025_01 w) (lawA L fa cda) (execs [lawStmt 12, lawStmt 13, lawStmt 14] (lawE L fa cda)) Q E s') → Q' .next s') (hQ : ∀ h' tk' m', Fr base L h' m' → Q (.ret (.bool true)) ⟨h', g₉, d₉, tk', os₉⟩) : wpAny (model pw_te0025_01 w) (lawA L fa cda) (exec (lawStmt 11) (lawE L fa cda)) Q' E' ⟨h, g₉, d₉, tk, os₉⟩ :=
  law_end_all w base h L fa cda mean mg mb g₉ d₉ os₉ S DU W tm tp ta tvk Q Q' E E' r c tv ts tk dn wn T0 nn σ wits ws K0 KX T hG hO hC hvk hm h35 hT ht F N hoff hwa hws hcnt hI hme hrd hpl hva hdu hways hE hn hQ
end
section
theorem law_good {cl : Str → Option Addr} {mean : ExcName → Option Value} {args : List WData} {s₁ : Shared} {L : Addr} {m' : Str → Option Value} {h' : Heap} {tk' : Tok} (F : Fr s₁.heap L h' m') (hg : s₁.gens = #[]) :
    GoodW rw_te0025_01.row.claim cl mean args s₁ (.ok (.ret (.bool true))) { s₁ with heap := h', toks := tk' } :=
  goodW_bool F hg (fun _ => rfl) (postW_of (by o_shape) (by wtm_val) (by w_fin))
end
end
section
local macro_rules | `(tactic| k_all) => `(tactic| assumption)
local macro_rules | `(tactic| walk_at "exec If") => `(tactic| (k_here; (with_reducible show wpAny _ (Around.deeper callerA _) _ _ _ _); refine stop ?_))
local macro_rules | `(tactic| walk_at "call ref") => `(tactic| (k_here; (with_reducible show wpAny _ _ (call (Value.ref 141) _) _ _ _); refine stop ?_))
local macro_rules | `(tactic| walk_at "call builtin:str.replace") => `(tactic| (k_here; walk_at "one"; walk_at "str.replace"))
section
open Mine.Top (KW)
open PySem.Challenge (pw_te0025_01 rw_te0025_01)
set_option maxRecDepth 100000
set_option maxHeartbeats 4000000

local macro_rules | `(tactic| walk_at "execs cons") => `(tactic| (k_here; (try k_made); (try dsimp only); (first | ((with_reducible refine cons_one ?_); intro _ _) | ((with_reducible refine cons_len ?kp ?_); (case kp => walk_at "pos"); intro _ _) | walk_at "flat"); (try dsimp only)))
theorem take4 {α β γ δ : Type} {p1 p2 p3 p4 p5 p6 p7 p8 p9 p10 p11 p12 p13 p14 p15 p16 : α → β → γ → δ → Prop} (H : ∃ a b c d, p1 a b c d ∧ p2 a b c d ∧ p3 a b c d ∧ p4 a b c d ∧ p5 a b c d ∧ p6 a b c d ∧ p7 a b c d ∧ p8 a b c d ∧ p9 a b c d ∧ p10 a b c d ∧ p11 a b c d ∧ p12 a b c d ∧ p13 a b c d ∧ p14 a b c d ∧ p15 a b c d ∧ p16 a b c d) {G : Prop} (k : ∀ a b c d, p1 a b c d → p2 a b c d → p3 a b c d → p4 a b c d → p5 a b c d → p6 a b c d → p7 a b c d → p8 a b c d → p9 a b c d → p10 a b c d → p11 a b c d → p12 a b c d → p13 a b c d → p14 a b c d → p15 a b c d → p16 a b c d → G) : G := by
  obtain ⟨a, b, c, d, h1, h2, h3, h4, h5, h6, h7, h8, h9, h10, h11, h12, h13, h14, h15, h16⟩ := H
  exact k a b c d h1 h2 h3 h4 h5 h6 h7 h8 h9 h10 h11 h12 h13 h14 h15 h16
open Mine.Top in
noncomputable def law_rest_S (w : World) (base : Heap) (h2 : Heap) (L : Addr) (fa : Addr) (cda : Addr) (sc : Addr) (mean : ExcName → Option Value) (mg : Str → Option Value) (mb : Str → Option Value) (g₉ : Array GenState) (d₉ : Drawn) (os₉ : OsState) (tk2 : Nat) (vn : Option Value) (vp : Option Value) (W : Addr) (tt : Tok) (wits : Array Value) (nn : Nat) (ts : List (Addr × Obj)) (vs0 : List Value) (Q : Flow → Shared → Prop) (E : Value → Shared → Prop) : Prop :=
  ∀ (xs : List Int), (Below callerA base [] base) →
    ((KW w.params).In base) →
    (TopQ mean mg mb base) →
    (TopE q (looseW q loose) mg base) →
    (TopW q mg base) →
    (Tables q w mg base) →
    (base.IsList sc vs0.toArray) →
    (IntsAre vs0 xs) →
    (¬ ((63 : Nat) : Int) < (xs.length : Nat)) →
    (WaysAre ts wits.toList (waysOf (xs.take 12))) →
    (Fr base L h2 (fun y => if y = Str.ofString "n" then vn else if y = Str.ofString "piece" then vp else if y = Str.ofString "ways" then some (Value.ref W) else if y = Str.ofString "text" then some (Value.str (tx (textOf (xs.take 12))) tt) else List.lookup y [(Str.ofString "script", Value.ref sc)].reverse)) →
    (News base L h2 ((W, listOf wits nn) :: ts)) →
    (0 < tk2) →
    (∀ h' tk' m', Fr base L h' m' → Q (.ret (.bool true)) ⟨h', g₉, d₉, tk', os₉⟩) →
    wpAny (model pw_te0025_01 w) (lawA L fa cda) (execs [lawStmt 3, lawStmt 4, lawStmt 5, lawStmt 6, lawStmt 7, lawStmt 8, lawStmt 9, lawStmt 10, lawStmt 11, lawStmt 12, lawStmt 13, lawStmt 14] (lawE L fa cda)) Q E ⟨h2, g₉, d₉, tk2, os₉⟩
open Mine.Top in
noncomputable abbrev law_rest_T : Type := (World) × (Heap) × (Heap) × (Addr) × (Addr) × (Addr) × (Addr) × (ExcName → Option Value) × (Str → Option Value) × (Str → Option Value) × (Array GenState) × (Drawn) × (OsState) × (Nat) × (Option Value) × (Option Value) × (Addr) × (Tok) × (Array Value) × (Nat) × (List (Addr × Obj)) × (List Value) × (Flow → Shared → Prop) × (Value → Shared → Prop)
open Mine.Top in
theorem law_rest_ne : Nonempty law_rest_T := ⟨(dW, default, default, default, default, default, default, (fun _ => default), (fun _ => default), (fun _ => default), default, {}, default, default, default, default, default, default, default, default, default, default, (fun _ _ => True), (fun _ _ => True))⟩
open Mine.Top in
noncomputable abbrev law_rest_F (x : law_rest_T) : Prop := law_rest_S x.1 x.2.1 x.2.2.1 x.2.2.2.1 x.2.2.2.2.1 x.2.2.2.2.2.1 x.2.2.2.2.2.2.1 x.2.2.2.2.2.2.2.1 x.2.2.2.2.2.2.2.2.1 x.2.2.2.2.2.2.2.2.2.1 x.2.2.2.2.2.2.2.2.2.2.1 x.2.2.2.2.2.2.2.2.2.2.2.1 x.2.2.2.2.2.2.2.2.2.2.2.2.1 x.2.2.2.2.2.2.2.2.2.2.2.2.2.1 x.2.2.2.2.2.2.2.2.2.2.2.2.2.2.1 x.2.2.2.2.2.2.2.2.2.2.2.2.2.2.2.1 x.2.2.2.2.2.2.2.2.2.2.2.2.2.2.2.2.1 x.2.2.2.2.2.2.2.2.2.2.2.2.2.2.2.2.2.1 x.2.2.2.2.2.2.2.2.2.2.2.2.2.2.2.2.2.2.1 x.2.2.2.2.2.2.2.2.2.2.2.2.2.2.2.2.2.2.2.1 x.2.2.2.2.2.2.2.2.2.2.2.2.2.2.2.2.2.2.2.2.1 x.2.2.2.2.2.2.2.2.2.2.2.2.2.2.2.2.2.2.2.2.2.1 x.2.2.2.2.2.2.2.2.2.2.2.2.2.2.2.2.2.2.2.2.2.2.1 x.2.2.2.2.2.2.2.2.2.2.2.2.2.2.2.2.2.2.2.2.2.2.2
open Mine.Top in
noncomputable def law_rest_P : law_rest_T := pick law_rest_ne law_rest_F
namespace law_rest_V
open Mine.Top in
@[irreducible] noncomputable def w : World := law_rest_P.1
open Mine.Top in
@[irreducible] noncomputable def base : Heap := law_rest_P.2.1
open Mine.Top in
@[irreducible] noncomputable def h2 : Heap := law_rest_P.2.2.1
open Mine.Top in
@[irreducible] noncomputable def L : Addr := law_rest_P.2.2.2.1
open Mine.Top in
@[irreducible] noncomputable def fa : Addr := law_rest_P.2.2.2.2.1
open Mine.Top in
@[irreducible] noncomputable def cda : Addr := law_rest_P.2.2.2.2.2.1
open Mine.Top in
@[irreducible] noncomputable def sc : Addr := law_rest_P.2.2.2.2.2.2.1
open Mine.Top in
@[irreducible] noncomputable def mean : ExcName → Option Value := law_rest_P.2.2.2.2.2.2.2.1
open Mine.Top in
@[irreducible] noncomputable def mg : Str → Option Value := law_rest_P.2.2.2.2.2.2.2.2.1
open Mine.Top in
@[irreducible] noncomputable def mb : Str → Option Value := law_rest_P.2.2.2.2.2.2.2.2.2.1
open Mine.Top in
@[irreducible] noncomputable def g₉ : Array GenState := law_rest_P.2.2.2.2.2.2.2.2.2.2.1
open Mine.Top in
@[irreducible] noncomputable def d₉ : Drawn := law_rest_P.2.2.2.2.2.2.2.2.2.2.2.1
open Mine.Top in
@[irreducible] noncomputable def os₉ : OsState := law_rest_P.2.2.2.2.2.2.2.2.2.2.2.2.1
open Mine.Top in
@[irreducible] noncomputable def tk2 : Nat := law_rest_P.2.2.2.2.2.2.2.2.2.2.2.2.2.1
open Mine.Top in
@[irreducible] noncomputable def vn : Option Value := law_rest_P.2.2.2.2.2.2.2.2.2.2.2.2.2.2.1
open Mine.Top in
@[irreducible] noncomputable def vp : Option Value := law_rest_P.2.2.2.2.2.2.2.2.2.2.2.2.2.2.2.1
open Mine.Top in
@[irreducible] noncomputable def W : Addr := law_rest_P.2.2.2.2.2.2.2.2.2.2.2.2.2.2.2.2.1
open Mine.Top in
@[irreducible] noncomputable def tt : Tok := law_rest_P.2.2.2.2.2.2.2.2.2.2.2.2.2.2.2.2.2.1
open Mine.Top in
@[irreducible] noncomputable def wits : Array Value := law_rest_P.2.2.2.2.2.2.2.2.2.2.2.2.2.2.2.2.2.2.1
open Mine.Top in
@[irreducible] noncomputable def nn : Nat := law_rest_P.2.2.2.2.2.2.2.2.2.2.2.2.2.2.2.2.2.2.2.1
open Mine.Top in
@[irreducible] noncomputable def ts : List (Addr × Obj) := law_rest_P.2.2.2.2.2.2.2.2.2.2.2.2.2.2.2.2.2.2.2.2.1
open Mine.Top in
@[irreducible] noncomputable def vs0 : List Value := law_rest_P.2.2.2.2.2.2.2.2.2.2.2.2.2.2.2.2.2.2.2.2.2.1
open Mine.Top in
@[irreducible] noncomputable def Q : Flow → Shared → Prop := law_rest_P.2.2.2.2.2.2.2.2.2.2.2.2.2.2.2.2.2.2.2.2.2.2.1
open Mine.Top in
@[irreducible] noncomputable def E : Value → Shared → Prop := law_rest_P.2.2.2.2.2.2.2.2.2.2.2.2.2.2.2.2.2.2.2.2.2.2.2
open Mine.Top in
theorem core : law_rest_S w base h2 L fa cda sc mean mg mb g₉ d₉ os₉ tk2 vn vp W tt wits nn ts vs0 Q E := by
  unfold law_rest_S
  intro xs K0 KX T TE TW B hLs hIs hlen hwa F2 N2 ht2 hQ
  show wpAny _ _ (execs (.Assign [_] _ _ :: .Assign [_] _ _ :: .Assign [_] _ _ :: .Assign [_] _ _ :: .Expr _ _ :: .Assign [_] _ _ :: .Assign [_] _ _ :: .Assign [_] _ _ :: .For _ _ _ _ _ :: .If _ _ _ _ :: .If _ _ _ _ :: .Return _ _ :: []) _) _ _ _
  have htl := tx_length (textOf (xs.take 12))
  have htl2 := textOf_len (xs.take 12)
  have htl3 : (xs.take 12).length ≤ 12 := by rw [List.length_take]; lia
  have hrl := rep_tx_len (textOf (xs.take 12))
  have hrl2 := mend_tx_len (textOf (xs.take 12))
  k_steps
  unfold Stop
  have hA := ‹@LT.lt Nat _ W _ ∧ AllLt _ ts›
  have N₂ := News.tl ‹News _ _ _ _›
  refine take4 (mk_reader (tk := 0) (a7 := 0) N₂ lit_nil lit_nil ‹_› (by show @LT.lt Nat _ _ _; lia) (by show @LT.lt Nat _ _ _; lia) (by show @LT.lt Nat _ _ _; lia) (by show @LT.lt Nat _ _ _; lia) (by show @LT.lt Nat _ _ _; lia)
    (by show @LT.lt Nat _ _ _; lia) (by show @LT.lt Nat _ _ _; lia) (by show @LT.lt Nat _ _ _; lia) (by show @LT.lt Nat _ _ _; lia) (by show @LT.lt Nat _ _ _; lia)) ?_
  intro c r σ tv' N₃ hct hrd hrdd hdl hO hC hst htq hcd hpl hvk hx1 hx2 hI hch
  obtain ⟨n, hn, hn2, hn3⟩ : ∃ n : Nat, (2 + ((List.take 1 xs).sum.fdiv 116).fmod 20 : Int) = (n : Int) ∧ 2 ≤ n ∧ n ≤ 20000 := by
    have g1 := Int.fmod_nonneg_of_pos ((List.take 1 xs).sum.fdiv 116) (b := 20) (by decide)
    have g2 := Int.fmod_lt_of_pos ((List.take 1 xs).sum.fdiv 116) (b := 20) (by decide)
    exact ⟨(2 + ((List.take 1 xs).sum.fdiv 116).fmod 20).toNat, by lia, by lia, by lia⟩
  rw [hn]
  have hG : Good c := ⟨hO.1, by rw [hct]; lia, by rw [hct]; exact text_plain _⟩
  have hts : ∀ p ∈ ts, @LT.lt Nat _ p.1 r.rdd := by rw [hrdd]; exact kst_ltOf hA.2
  have hoff : Off r c ((W, listOf wits nn) :: ts) := fun p hp hm => by
    have h1 := (Rdr.inAdr hO hm).1
    rcases List.mem_cons.mp hp with rfl | hp
    · have h2 := hA.1
      rw [← hrdd] at h2
      dsimp only at h1
      lia
    · have := hts p hp
      lia
  refine wpAny_toks (n := 1) (by first | assumption | exact Nat.succ_pos _ | lia | (dsimp only; lia)) ?_
  refine Ctr.use (read_abs w c σ [] _ n _ _ _ (.inl ⟨rfl, by rw [hst]⟩) hG hI hn2 hn3) rfl K0 ‹Fr _ _ _ _› KX (ledStrm N₃) ‹Top _ _ _ _ _ _› rfl (by decide +kernel) (by decide +kernel) (by first | assumption | exact Nat.succ_pos _ | lia | (dsimp only; lia)) ?_
  rintro v foot' h3 tk3 ⟨σ2, rfl, hres⟩ F3 N4 K4
  have hI2 : Inv c σ2 [] (mend (textOf (xs.take 12))) := by
    rw [hch] at hres
    simp only [List.drop_nil, List.append_nil, List.nil_append] at hres
    rcases hres with ⟨_, e, h⟩ | ⟨_, _, _, _, rest', e, h⟩
    · rw [e]; exact h
    · rw [e]; exact h
  have N₅ := carryC (ns := []) hO hoff N₃ K4 N4
  clear N₂ N₃ N4 K4
  k_steps
  unfold Stop
  refine noExc ?_
  have F₄ := ‹Fr _ _ _ _›
  rw [lit_rn, lit_n, lit_r, mend_eq, lit_nil, ← hrd] at F₄
  obtain ⟨t1, t2, t3, DU, F₅, hl1, N₆⟩ : ∃ (t1 t2 t3 : Tok) (DU : Nat), Fr base L _ (fun y => if y = Str.ofString "place" then some (.int 0 t1) else if y = Str.ofString "value" then some (.str (tx []) t2) else if y = Str.ofString "due" then some (.ref DU) else if y = Str.ofString "reader" then some (.ref r.rd) else if y = Str.ofString "mended" then some (.str (tx (mend (textOf (xs.take 12)))) t3) else
      if y = Str.ofString "n" then vn else if y = Str.ofString "piece" then vp else if y = Str.ofString "ways" then some (Value.ref W) else if y = Str.ofString "text" then some (Value.str (tx (textOf (xs.take 12))) tt) else List.lookup y [(Str.ofString "script", Value.ref sc)].reverse) ∧
      (∀ p : Addr × Obj, p ∈ [] ++ (r.led c #[] 0 [] tv' σ2 ++ (W, listOf wits nn) :: ts) → @LT.lt Nat _ p.1 DU) ∧ News base L _ ((DU, listOf #[] 0) :: ([] ++ (r.led c #[] 0 [] tv' σ2 ++ (W, listOf wits nn) :: ts))) := ⟨_, _, _, _, F₄, ‹_›, ‹News _ _ _ _›⟩
  have hTl := mend_len (textOf (xs.take 12))
  have hwl := ways_len (xs.take 12)
  refine law_end (g₉ := g₉) (d₉ := d₉) (os₉ := os₉) (S := ⟨none, none, none, none, none, none, none, none, none, some (.str (tx []) t2), some (.ref DU), some (.int (0 : Nat) t1), some (.ref r.rd), some (.str (tx (mend (textOf (xs.take 12)))) t3), vn, vp, some (.ref W), some (.str (tx (textOf (xs.take 12))) tt), some (.ref sc)⟩)
    (T0 := mend (textOf (xs.take 12))) (ws := waysOf (xs.take 12)) (nn := 0) (dn := 0) (wn := nn) (tv := tv') (σ := σ2) K0 KX ‹Top _ _ _ _ _ _› hG hO hC hvk (text_mended _) (text_no35 _) (by lia) (by first | assumption | exact Nat.succ_pos _ | lia | (dsimp only; lia)) (Fr.like F₅ ?kF) (News.sub N₆ ?kN) ?kO hwa (by lia) (text_ways _) hI2 rfl rfl rfl rfl rfl rfl PassesOwn.never (fun s' h => h) ?kQ
  case kF =>
    exact like_all (ks := [Str.ofString "closing", Str.ofString "inside", Str.ofString "end", Str.ofString "rest", Str.ofString "best", Str.ofString "along", Str.ofString "output", Str.ofString "told", Str.ofString "size", Str.ofString "value", Str.ofString "due", Str.ofString "place", Str.ofString "reader", Str.ofString "mended", Str.ofString "n", Str.ofString "piece", Str.ofString "ways", Str.ofString "text", Str.ofString "script"]) (.cons rfl (.cons rfl (.cons rfl (.cons rfl (.cons rfl (.cons rfl (.cons rfl (.cons rfl (.cons rfl (.cons rfl (.cons rfl (.cons rfl (.cons rfl (.cons rfl (.cons rfl (.cons rfl (.cons rfl (.cons rfl (.cons rfl .nil))))))))))))))))))) (by repeat' (first | ((with_reducible apply Bare.ite); rfl) | exact Bare.look rfl)) rfl
  case kN =>
    intro p hp
    simp only [List.nil_append, List.mem_append, List.mem_cons] at hp ⊢
    rcases hp with h | h | h | h <;> simp [h]
  case kO =>
    intro p hp
    rcases List.mem_cons.mp hp with rfl | hp
    · exact off_gt (its := #[]) (nn := 0) (val := []) (tv := tv') (σ := σ2) fun x hx => hl1 x (List.mem_append_right [] (List.mem_append_left _ hx))
    · exact hoff p hp
  case kQ => exact hQ
end law_rest_V
open Mine.Top in
theorem law_rest_all (w : World) (base : Heap) (h2 : Heap) (L : Addr) (fa : Addr) (cda : Addr) (sc : Addr) (mean : ExcName → Option Value) (mg : Str → Option Value) (mb : Str → Option Value) (g₉ : Array GenState) (d₉ : Drawn) (os₉ : OsState) (tk2 : Nat) (vn : Option Value) (vp : Option Value) (W : Addr) (tt : Tok) (wits : Array Value) (nn : Nat) (ts : List (Addr × Obj)) (vs0 : List Value) (Q : Flow → Shared → Prop) (E : Value → Shared → Prop) : law_rest_S w base h2 L fa cda sc mean mg mb g₉ d₉ os₉ tk2 vn vp W tt wits nn ts vs0 Q E := of_pick (S := law_rest_F) (show law_rest_F law_rest_P by with_unfolding_all exact law_rest_V.core) (w, base, h2, L, fa, cda, sc, mean, mg, mb, g₉, d₉, os₉, tk2, vn, vp, W, tt, wits, nn, ts, vs0, Q, E)
open Mine.Top in
theorem law_rest {w : World} {base h2 : Heap} {L fa cda sc : Addr} {mean : ExcName → Option Value} {mg mb : Str → Option Value} {g₉ : Array GenState} {d₉ : Drawn} {os₉ : OsState} {xs : List Int} {tk2 : Nat} {vn vp : Option Value} {W : Addr} {tt : Tok} {wits : Array Value} {nn : Nat} {ts : List (Addr × Obj)} {vs0 : List Value} {Q : Flow → Shared → Prop} {E : Value → Shared → Prop} (K0 : Below callerA base [] base) (KX : (KW w.params).In base) (T : TopQ mean mg mb base) (TE : TopE q (looseW q loose) mg base) (TW : TopW q mg base) (B : Tables q w mg base) (hLs : base.IsList sc vs0.toArray) (hIs : IntsAre vs0 xs) (hlen : ¬ ((63 : Nat) : Int) < (xs.length : Nat)) (hwa : WaysAre ts wits.toList (waysOf (xs.take 12))) (F2 : Fr base L h2 (fun y => if y = Str.ofString "n" then vn else if y = Str.ofString "piece" then vp else if y = Str.ofString "ways" then some (Value.ref W) else if y = Str.ofString "text" then some (Value.str (tx (textOf (xs.take 12))) tt) else List.lookup y [(Str.ofString "script", Value.ref sc)].reverse)) (N2 : News base L h2 ((W, listOf wits nn) :: ts)) (ht2 : 0 < tk2) (hQ : ∀ h' tk' m', Fr base L h' m' → Q (.ret (.bool true)) ⟨h', g₉, d₉, tk', os₉⟩) : wpAny (model pw_te0025_01 w) (lawA L fa cda) (execs [lawStmt 3, lawStmt 4, lawStmt 5, lawStmt 6, lawStmt 7, lawStmt 8, lawStmt 9, lawStmt 10, lawStmt 11, lawStmt 12, lawStmt 13, lawStmt 14] (lawE L fa cda)) Q E ⟨h2, g₉, d₉, tk2, os₉⟩ :=
  law_rest_all w base h2 L fa cda sc mean mg mb g₉ d₉ os₉ tk2 vn vp W tt wits nn ts vs0 Q E xs K0 KX T TE TW B hLs hIs hlen hwa F2 N2 ht2 hQ
end
section
open Mine.Top (KW)
open PySem.Challenge (pw_te0025_01 rw_te0025_01)
set_option maxRecDepth 100000
set_option maxHeartbeats 4000000

open Mine.Top in
theorem walk : Walk := by
  w_on
  intro w s₀ s₁ mg mb G Y fa o pm cd doc dV kV ho hd hcd hD hmg hg args vals as hpre hlay hrd hwl hlo
  have KX : (KW w.params).In s₁.heap := Y
  k_behind G ho hd hcd hD hmg hpre hlay hrd hwl hlo cd
  rename_i cda cdb xs q1 q2 q3 q4 q5 a4 a3 sc vs0 a0 hLs ra hw1 hr0 hIs hrs hc1 hc2 K0 h1 F0 N0
  k_steps
  unfold Stop
  refine noExc ?_
  refine exec_cut (fun s' => ∃ h' tk' vn vp W tt wits nn ts, s' = { s₁ with heap := h', toks := tk' } ∧ WaysAre ts wits.toList (waysOf (xs.take 12)) ∧
    Fr s₁.heap s₁.heap.objs.size h' (fun y => if y = Str.ofString "n" then vn else if y = Str.ofString "piece" then vp else if y = Str.ofString "ways" then some (Value.ref W) else if y = Str.ofString "text" then some (Value.str (tx (textOf (xs.take 12))) tt) else List.lookup y [(Str.ofString "script", Value.ref sc)].reverse) ∧ News s₁.heap s₁.heap.objs.size h' ((W, listOf wits nn) :: ts)) ?_ ?_
  · refine wpAny_For ?_
    refine wpAny_toks (n := 1) (by first | assumption | exact Nat.succ_pos _ | lia | (dsimp only; lia)) ?_
    k_steps
    rename_i W hA lA hB D ws h1 F1 N1 hI hC hL hl1 hp1
    have hws : ws.toArray.size ≤ 12 := by rw [List.size_toArray, hI.length, hC]; lia
    have F₂ := F1
    rw [lit_nil] at F₂
    have F₃ := Fr.like F₂ (m' := (fun y => if y = Str.ofString "n" then none else if y = Str.ofString "piece" then none else if y = Str.ofString "ways" then some (Value.ref W) else if y = Str.ofString "text" then some (Value.str (tx ([] : List Nat)) _) else List.lookup y [(Str.ofString "script", Value.ref sc)].reverse)) (by exact like_keys (ks := [Str.ofString "n", Str.ofString "piece", Str.ofString "ways", Str.ofString "text"]) (.cons rfl (.cons rfl (.cons rfl (.cons rfl .nil)))) (by repeat' (first | ((with_reducible apply Bare.ite); rfl) | exact Bare.nil)) (by repeat' (first | ((with_reducible apply Bare.ite); rfl) | exact Bare.nil)))
    refine for_list (items := ws.toArray) (ol := listOf ws.toArray 0) (nl := 0) (led₀ := [(D, listOf ws.toArray 0), (W, listOf #[] 0)]) (fun i m led => ∃ vn vp tt wits nn ts, m = (fun y => if y = Str.ofString "n" then vn else if y = Str.ofString "piece" then vp else if y = Str.ofString "ways" then some (Value.ref W) else if y = Str.ofString "text" then some (Value.str (tx (textOf ((xs.take 12).take i))) tt) else List.lookup y [(Str.ofString "script", Value.ref sc)].reverse) ∧ led = (D, listOf ws.toArray 0) :: (W, listOf wits nn) :: ts ∧ WaysAre ts wits.toList (waysOf ((xs.take 12).take i)) ∧ wits.size ≤ i)
      rfl (N1 _ (.head _)).1 rfl rfl (.inr (fun i m led hJ => by obtain ⟨_, _, _, _, _, _, _, rfl, _⟩ := hJ; exact .head _)) F₃ N1 ⟨none, none, _, #[], 0, [], rfl, rfl, trivial, Nat.le_refl _⟩ ?_ ?_ PassesOwn.never
    · rintro i v m₁ led₁ h tk I oI hv ⟨vn, vp, tt, wits, nn, ts, rfl, rfl, hwa, hws2⟩ hne hI0 htk F₁ N₁
      have hpos : 0 < tk := by first | lia | (dsimp only at htk; lia)
      have hi12 : i < 12 := by have := (Array.getElem?_eq_some_iff.mp hv).1; lia
      obtain ⟨n, tn, hn, rfl⟩ := ints_at hI (i := i) (by simpa using hv)
      have htl := tx_length (textOf ((xs.take 12).take i))
      have htl2 := textOf_len ((xs.take 12).take i)
      have htl3 : ((xs.take 12).take i).length ≤ 12 := by rw [List.length_take]; lia
      k_steps
      unfold Stop
      have hpc := piece_lit n
      have hx1 : (xs.take 12).take (i + 1) = (xs.take 12).take i ++ [n] := take_snoc hn
      have F₄ := ‹Fr _ _ _ _›
      rw [hpc, tx_append, ← textOf_snoc, ← hx1] at F₄
      have F₅ := Fr.like F₄ (m' := (fun y => if y = Str.ofString "n" then some (.int n tn) else if y = Str.ofString "piece" then some (.str (tx (pieceOf n)) _) else if y = Str.ofString "ways" then some (Value.ref W) else if y = Str.ofString "text" then some (Value.str (tx (textOf ((xs.take 12).take (i + 1)))) _) else List.lookup y [(Str.ofString "script", Value.ref sc)].reverse)) (by exact like_keys (ks := [Str.ofString "n", Str.ofString "piece", Str.ofString "ways", Str.ofString "text"]) (.cons rfl (.cons rfl (.cons rfl (.cons rfl .nil)))) (by repeat' (first | ((with_reducible apply Bare.ite); rfl) | exact Bare.nil)) (by repeat' (first | ((with_reducible apply Bare.ite); rfl) | exact Bare.nil)))
      have N₅ := News.tl ‹News _ _ _ _›
      clear F₄
      have hpl := piece_ok _ (piece_mem n)
      have hlx := tx_length (pieceOf n)
      have hl0 := List.length_pos_iff.mpr hpl.1
      have hh := head_amp (pieceOf n) hpl.1
      by_cases hd : (pieceOf n).head? = some 38
      · rw [decide_eq_true hd] at hh
        refine wpAny_If ?_
        k_steps
        have N₆ := ‹News _ _ _ _›
        obtain ⟨hlL, d, z, hd1, hd2, N₇, hdm⟩ := way_at n N₆
        refine item_listT hlL (way_lt n).1 (by have := (way_lt n).2; lia) hd1 ?_
        have hdI : @LT.lt Nat _ I d := by rcases hdm with rfl | rfl | rfl | rfl <;> first | lia | (simp only [AllLt] at *; lia)
        have hap : ∀ p ∈ ts, p.1 ≠ W := News.apart N₅ (X := W) (.tail _ (.tail _ (.head _))) (fun e => by injection e with e; exact absurd e (by decide)) (fun p hp => .tail _ (.tail _ (.tail _ hp))) (WaysAre.tup hwa)
        have hWI : W ≠ I := hne (W, listOf wits nn) (.tail _ (.head _))
        have hDI : D ≠ I := hne (D, listOf ws.toArray 0) (.head _)
        have hWd : @LT.lt Nat _ W d := by rcases hdm with rfl | rfl | rfl | rfl <;> first | lia | (simp only [AllLt] at *; lia)
        have hDd : @LT.lt Nat _ D d := by rcases hdm with rfl | rfl | rfl | rfl <;> first | lia | (simp only [AllLt] at *; lia)
        clear N₆ hdm hlL
        dsimp only at N₇
        k_steps
        have F₈ := ‹Fr _ _ _ _›
        have N₈ := ‹News _ _ _ _›
        refine ⟨_, _, _, _, rfl, F₈, News.last3 N₈, ne_last hne (by show @Ne Nat _ _; lia), _, _, _, wits.push (.ref d), nn + 1, ts ++ [(d, tupOf #[z, .bool (wayOf n).2])], rfl, rfl, ?_, by rw [Array.size_push]; lia⟩
        rw [hx1, waysOf_snoc, if_pos hd, Array.toList_push]
        exact WaysAre.snoc hwa hd2
      · rw [decide_eq_false hd] at hh
        refine wpAny_If ?_
        k_steps
        refine ⟨_, _, _, _, rfl, F₅, News.tl ‹News _ _ _ _›, hne, _, _, _, wits, nn, ts, rfl, rfl, ?_, by lia⟩
        rw [hx1, waysOf_snoc, if_neg hd, List.append_nil]
        exact hwa
    · rintro m₁ led₁ h tk ⟨vn, vp, tt, wits, nn, ts, rfl, rfl, hwa, hws2⟩ F₁ N₁
      rw [List.take_of_length_le (by rw [List.size_toArray, hI.length]; exact Nat.le_refl _)] at F₁ hwa
      exact .inl ⟨rfl, _, _, _, _, W, _, _, _, ts, rfl, hwa, F₁, News.tl N₁⟩
  · rintro s' ⟨h2, tk2, vn, vp, W, tt, wits, nn, ts, rfl, hwa, F2, N2⟩
    intro ht2
    exact law_rest K0 KX ‹Top _ _ _ _ _ _› ‹TopE _ _ _ _› ‹TopW _ _ _› ‹Tables _ _ _ _› hLs hIs hc1 hwa F2 N2 ht2 (fun h' tk' m' F₇ => law_good F₇ hg)
end
end
end Mine
end
open PySem PySem.W PyProof.Rows
set_option maxRecDepth 100000 in
set_option maxHeartbeats 8000000 in
theorem PySem.Challenge.cw_te0025_01_holds : PySem.Challenge.rw_te0025_01.Holds := by
  exact Mine.Top.hd Mine.walk
