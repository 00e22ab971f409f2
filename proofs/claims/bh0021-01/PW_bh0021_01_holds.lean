import PyProof.Rows.All
import Wide.All
import OpenK.AllK
import Wide.FinOn
import PySem.Challenge.RW_bh0021_01
set_option Elab.async false
set_option linter.unusedVariables false

section
set_option Elab.async false
open PySem PySem.W PyProof.Rows PySem.Calls
namespace Mine
set_option linter.unusedVariables false
set_option maxRecDepth 100000

/-! the text's defs by their places -/
def noSt : Stmt := .Pass ⟨0, 0, 0, 0⟩
def topSt (i : Nat) : Stmt := (PySem.Challenge.pw_bh0021_01.main.body[i]?).getD noSt
def clsBody : Stmt → List Stmt
  | .ClassDef _ _ _ b _ _ _ _ _ _ _ => b
  | _ => []
def methSt (i j : Nat) : Stmt := ((clsBody (topSt i))[j]?).getD noSt
def defName : Stmt → Str
  | .FunctionDef n _ _ _ _ _ _ _ _ _ => n
  | _ => .empty
def defArgs : Stmt → Arguments
  | .FunctionDef _ a _ _ _ _ _ _ _ _ => a
  | _ => ⟨[], [], none, [], [], none, []⟩
def defBody : Stmt → List Stmt
  | .FunctionDef _ _ b _ _ _ _ _ _ _ => b
  | _ => []
def defScope : Stmt → Scope
  | .FunctionDef _ _ _ _ _ _ sc _ _ _ => sc
  | _ => ⟨.module, [], true, true, []⟩
def fdO (st : Stmt) (qual : Str) (dflt code pm : Value) (an : Option Addr) : FuncData :=
  { name := defName st, qualname := qual, params := defArgs st, body := .stmts (defBody st), scope := defScope st, globals := 3, closure := [], defaults := dflt, kwdefaults := .none, doc := .none, pyModule := pm, annotations := an, code := code, closureTuple := .none, builtins := 0 }
def fnO (fd : FuncData) (od : Option Addr) : Obj := ⟨.type "function", od, .func fd, #[]⟩
def en (P : Params) (x : String) (t : Tok) (v : Value) : DictEntry := ⟨PyData.keyHash P (.ofString x), .str (.ofString x) t, v⟩
-- printed by wip/gen_kf.py
def ob2 (P : Params) : Obj := ⟨.none, none, (.dict #[en P "type.__subclasses__.Exception.0" 627 (.int 190 0), en P "type.__subclasses__.Exception.n" 628 (.int 1 0), en P "type.__subclasses__.OSError.0" 667 (.int 217 0), en P "type.__subclasses__.OSError.n" 668 (.int 1 0)] 4), #[]⟩
def ob3 (P : Params) : Obj := ⟨(.type "dict"), none, (.dict #[en P "__name__" 165 (.str (.ofString "law_bh0021_01") 2266), en P "__doc__" 166 .none, en P "__package__" 167 .none, en P "__loader__" 168 (.builtin "__main__.__loader__#opaque"), en P "__spec__" 169 .none, en P "__annotations__" 170 (.ref 6), en P "__builtins__" 171 (.ref 4), en P "__file__" 173 (.str (.ofString "/claim/cut.py") 172), en P "__cached__" 174 .none, en P "_wall" 193 (.ref 21), en P "hexlify" 201 (.ref 26), en P "Sha256" 247 (.ref 58), en P "hashlib" 310 (.ref 93), en P "double_sha256" 319 (.ref 104), en P "B58_DIGITS" 323 (.str (.ofString "123456789ABCDEFGHJKLMNPQRSTUVWXYZabcdefghijkmnopqrstuvwxyz") 322), en P "encode" 336 (.ref 111), en P "decode" 348 (.ref 118), en P "encode_check" 355 (.ref 125), en P "decode_check" 364 (.ref 132), en P "EC_COMPRESSED" 368 (.int 258 367), en P "EC_UNCOMPRESSED" 370 (.int 2 369), en P "_PRIME" 372 (.int 57896044618658097711785492504343953926634992332820282019728792003956564819949 371), en P "_BASE" 374 (.int 47962653777612059811531418077271348761744880276845910084186123193600379925034 373), en P "_number" 381 (.ref 139), en P "_octets" 388 (.ref 146), en P "ec_seckey_verify" 395 (.ref 153), en P "ec_pubkey_create" 402 (.ref 160), en P "ec_pubkey_serialize" 411 (.ref 168), en P "ec_pubkey_parse" 419 (.ref 175), en P "NETWORKS" 608 (.ref 176), en P "EmbitError" 630 (.ref 190), en P "_whence" 640 (.ref 200), en P "_index" 648 (.ref 207), en P "UnsupportedOperation" 670 (.ref 217), en P "IOBase" 702 (.ref 237), en P "BufferedIOBase" 720 (.ref 252), en P "TextIOBase" 738 (.ref 264), en P "BytesIO" 1000 (.ref 494), en P "StringIO" 1287 (.ref 741), en P "EmbitBase" 1437 (.ref 832), en P "EmbitKey" 1498 (.ref 889), en P "ECError" 1516 (.ref 901), en P "PublicKey" 1717 (.ref 1051), en P "PrivateKey" 1928 (.ref 1205), en P "HARDENED_INDEX" 1932 (.int 2147483648 1931), en P "HDError" 1948 (.ref 1217), en P "HDKey" 2240 (.ref 1420), en P "detect_version" 2252 (.ref 1430), en P "_parse_der_item" 2259 (.ref 1437), en P "parse_path" 2265 (.ref 1442), en P "_law_marks" 2273 (.ref 1449), en P "_law_nets" 2278 (.ref 1450), en P "_law_made" 2298 (.ref 1457), en P "_law_wrong" 2307 (.ref 1464), en P "_law_public" 2314 (.ref 1471), en P "_law_read" 2321 (.ref 1478), en P "_law_path" 2331 (.ref 1485), en P "law" 2337 (.ref 1490)] 58), #[]⟩
def ob34 (P : Params) : Obj := ⟨(.type "tuple"), none, (.seq #[(.bytes #[] 214)] 0), #[]⟩
def ob40 (P : Params) : Obj := ⟨(.type "code"), none, (.fields #[(.str (.ofString "__init__") 215), (.str (.ofString "Sha256.__init__") 216), (.str (.ofString "/claim/cut.py") 217), (.int 10 0), (.int 2 0), (.int 0 0), (.int 0 0), (.int 3 0), (.ref 35), (.bool true), (.int 181 0), (.ref 36), .none, (.ref 37), (.ref 38), (.ref 39), (.int 220 0), (.int 10 0), (.str (.ofString "/claim/cut.py") 221)]), #[]⟩
def fd41 : FuncData := fdO (methSt 3 0) (.ofString "Sha256.__init__") (.ref 34) (.ref 40) (.str (.ofString "embit.misc") 194) none
def ob41 (P : Params) : Obj := fnO fd41 none
def ob54 (P : Params) : Obj := ⟨(.type "code"), none, (.fields #[(.str (.ofString "digest") 231), (.str (.ofString "Sha256.digest") 232), (.str (.ofString "/claim/cut.py") 233), (.int 16 0), (.int 1 0), (.int 0 0), (.int 0 0), (.int 3 0), (.ref 49), (.bool true), (.int 181 0), (.ref 50), .none, (.ref 51), (.ref 52), (.ref 53), (.int 236 0), (.int 16 0), (.str (.ofString "/claim/cut.py") 237)]), #[]⟩
def fd55 : FuncData := fdO (methSt 3 2) (.ofString "Sha256.digest") .none (.ref 54) (.str (.ofString "embit.misc") 194) none
def ob55 (P : Params) : Obj := fnO fd55 none
def ob57 (P : Params) : Obj := ⟨(.type "dict"), none, (.dict #[en P "__module__" 209 (.str (.ofString "embit.misc") 194), en P "__firstlineno__" 213 (.int 8 212), en P "__init__" 222 (.ref 41), en P "update" 230 (.ref 48), en P "digest" 238 (.ref 55), en P "__static_attributes__" 240 (.ref 56), en P "__dict__" 242 (.ref 59), en P "__weakref__" 244 (.ref 60), en P "__doc__" 245 .none] 4), #[]⟩
def ob58 (P : Params) : Obj := ⟨(.type "type"), none, (.cls { name := (.ofString "Sha256"), bases := [(.type "object")], mro := [(.ref 58), (.type "object")], ns := 57, qualname := (.ofString "Sha256"), hasDict := true, slotNames := [], subclasses := [], abstract := false, hasDel := false }), #[none, none, some (.str (.ofString "Sha256") 202), some (.str (.ofString "Sha256") 210), some (.builtin "object.__new__"), some (.bool true)]⟩
def ob70 (P : Params) : Obj := ⟨(.type "tuple"), none, (.seq #[(.bytes #[] 260)] 0), #[]⟩
def ob76 (P : Params) : Obj := ⟨(.type "code"), none, (.fields #[(.str (.ofString "sha256") 261), (.str (.ofString "hashlib.sha256") 262), (.str (.ofString "/claim/cut.py") 263), (.int 21 0), (.int 1 0), (.int 0 0), (.int 0 0), (.int 3 0), (.ref 71), (.bool true), (.int 181 0), (.ref 72), .none, (.ref 73), (.ref 74), (.ref 75), (.int 265 0), (.int 21 0), (.str (.ofString "/claim/cut.py") 266)]), #[]⟩
def fd77 : FuncData := fdO (methSt 4 0) (.ofString "hashlib.sha256") (.ref 70) (.ref 76) (.str (.ofString "embit.misc") 194) (some 80)
def ob77 (P : Params) : Obj := fnO fd77 none
def ob78 (P : Params) : Obj := ⟨(.type "dict"), none, (.dict #[en P "__module__" 268 (.str (.ofString "embit.misc") 194), en P "__name__" 271 (.str (.ofString "sha256") 270), en P "__qualname__" 274 (.str (.ofString "hashlib.sha256") 273), en P "__doc__" 276 .none, en P "__annotations__" 278 (.ref 80)] 5), #[]⟩
def ob79 (P : Params) : Obj := ⟨(.type "staticmethod"), some 78, (.fields #[(.ref 77), (.bool false)]), #[]⟩
def ob92 (P : Params) : Obj := ⟨(.type "dict"), none, (.dict #[en P "__module__" 255 (.str (.ofString "embit.misc") 194), en P "__firstlineno__" 259 (.int 19 258), en P "sha256" 279 (.ref 79), en P "pbkdf2_hmac" 302 (.ref 89), en P "__static_attributes__" 303 (.ref 91), en P "__dict__" 305 (.ref 94), en P "__weakref__" 307 (.ref 95), en P "__doc__" 308 .none] 4), #[]⟩
def ob93 (P : Params) : Obj := ⟨(.type "type"), none, (.cls { name := (.ofString "hashlib"), bases := [(.type "object")], mro := [(.ref 93), (.type "object")], ns := 92, qualname := (.ofString "hashlib"), hasDict := true, slotNames := [], subclasses := [], abstract := false, hasDel := false }), #[none, none, some (.str (.ofString "hashlib") 248), some (.str (.ofString "hashlib") 256), some (.builtin "object.__new__"), some (.bool true)]⟩
def ob103 (P : Params) : Obj := ⟨(.type "code"), none, (.fields #[(.str (.ofString "double_sha256") 313), (.str (.ofString "double_sha256") 314), (.str (.ofString "/claim/cut.py") 315), (.int 29 0), (.int 1 0), (.int 0 0), (.int 0 0), (.int 3 0), (.ref 98), (.bool true), (.int 181 0), (.ref 99), .none, (.ref 100), (.ref 101), (.ref 102), (.int 317 0), (.int 29 0), (.str (.ofString "/claim/cut.py") 318)]), #[]⟩
def fd104 : FuncData := fdO (topSt 6) (.ofString "double_sha256") .none (.ref 103) (.str (.ofString "embit.hashes") 311) none
def ob104 (P : Params) : Obj := fnO fd104 none
def ob110 (P : Params) : Obj := ⟨(.type "code"), none, (.fields #[(.str (.ofString "encode") 324), (.str (.ofString "encode") 325), (.str (.ofString "/claim/cut.py") 326), (.int 33 0), (.int 1 0), (.int 0 0), (.int 0 0), (.int 3 0), (.ref 105), (.bool true), (.int 181 0), (.ref 106), .none, (.ref 107), (.ref 108), (.ref 109), (.int 334 0), (.int 33 0), (.str (.ofString "/claim/cut.py") 335)]), #[]⟩
def fd111 : FuncData := fdO (topSt 9) (.ofString "encode") .none (.ref 110) (.str (.ofString "embit.base58") 320) none
def ob111 (P : Params) : Obj := fnO fd111 none
def ob117 (P : Params) : Obj := ⟨(.type "code"), none, (.fields #[(.str (.ofString "decode") 337), (.str (.ofString "decode") 338), (.str (.ofString "/claim/cut.py") 339), (.int 47 0), (.int 1 0), (.int 0 0), (.int 0 0), (.int 3 0), (.ref 112), (.bool true), (.int 181 0), (.ref 113), .none, (.ref 114), (.ref 115), (.ref 116), (.int 346 0), (.int 47 0), (.str (.ofString "/claim/cut.py") 347)]), #[]⟩
def fd118 : FuncData := fdO (topSt 10) (.ofString "decode") .none (.ref 117) (.str (.ofString "embit.base58") 320) none
def ob118 (P : Params) : Obj := fnO fd118 none
def ob124 (P : Params) : Obj := ⟨(.type "code"), none, (.fields #[(.str (.ofString "encode_check") 349), (.str (.ofString "encode_check") 350), (.str (.ofString "/claim/cut.py") 351), (.int 65 0), (.int 1 0), (.int 0 0), (.int 0 0), (.int 3 0), (.ref 119), (.bool true), (.int 181 0), (.ref 120), .none, (.ref 121), (.ref 122), (.ref 123), (.int 353 0), (.int 65 0), (.str (.ofString "/claim/cut.py") 354)]), #[]⟩
def fd125 : FuncData := fdO (topSt 11) (.ofString "encode_check") .none (.ref 124) (.str (.ofString "embit.base58") 320) none
def ob125 (P : Params) : Obj := fnO fd125 none
def ob131 (P : Params) : Obj := ⟨(.type "code"), none, (.fields #[(.str (.ofString "decode_check") 356), (.str (.ofString "decode_check") 357), (.str (.ofString "/claim/cut.py") 358), (.int 67 0), (.int 1 0), (.int 0 0), (.int 0 0), (.int 3 0), (.ref 126), (.bool true), (.int 181 0), (.ref 127), .none, (.ref 128), (.ref 129), (.ref 130), (.int 362 0), (.int 67 0), (.str (.ofString "/claim/cut.py") 363)]), #[]⟩
def fd132 : FuncData := fdO (topSt 12) (.ofString "decode_check") .none (.ref 131) (.str (.ofString "embit.base58") 320) none
def ob132 (P : Params) : Obj := fnO fd132 none
def ob138 (P : Params) : Obj := ⟨(.type "code"), none, (.fields #[(.str (.ofString "_number") 375), (.str (.ofString "_number") 376), (.str (.ofString "/claim/cut.py") 377), (.int 78 0), (.int 1 0), (.int 0 0), (.int 0 0), (.int 3 0), (.ref 133), (.bool true), (.int 181 0), (.ref 134), .none, (.ref 135), (.ref 136), (.ref 137), (.int 379 0), (.int 78 0), (.str (.ofString "/claim/cut.py") 380)]), #[]⟩
def fd139 : FuncData := fdO (topSt 18) (.ofString "_number") .none (.ref 138) (.str (.ofString "embit.util.secp256k1") 365) none
def ob139 (P : Params) : Obj := fnO fd139 none
def ob145 (P : Params) : Obj := ⟨(.type "code"), none, (.fields #[(.str (.ofString "_octets") 382), (.str (.ofString "_octets") 383), (.str (.ofString "/claim/cut.py") 384), (.int 80 0), (.int 1 0), (.int 0 0), (.int 0 0), (.int 3 0), (.ref 140), (.bool true), (.int 181 0), (.ref 141), .none, (.ref 142), (.ref 143), (.ref 144), (.int 386 0), (.int 80 0), (.str (.ofString "/claim/cut.py") 387)]), #[]⟩
def fd146 : FuncData := fdO (topSt 19) (.ofString "_octets") .none (.ref 145) (.str (.ofString "embit.util.secp256k1") 365) none
def ob146 (P : Params) : Obj := fnO fd146 none
def ob152 (P : Params) : Obj := ⟨(.type "code"), none, (.fields #[(.str (.ofString "ec_seckey_verify") 389), (.str (.ofString "ec_seckey_verify") 390), (.str (.ofString "/claim/cut.py") 391), (.int 82 0), (.int 1 0), (.int 0 0), (.int 0 0), (.int 3 0), (.ref 147), (.bool true), (.int 181 0), (.ref 148), .none, (.ref 149), (.ref 150), (.ref 151), (.int 393 0), (.int 82 0), (.str (.ofString "/claim/cut.py") 394)]), #[]⟩
def fd153 : FuncData := fdO (topSt 20) (.ofString "ec_seckey_verify") .none (.ref 152) (.str (.ofString "embit.util.secp256k1") 365) none
def ob153 (P : Params) : Obj := fnO fd153 none
def ob159 (P : Params) : Obj := ⟨(.type "code"), none, (.fields #[(.str (.ofString "ec_pubkey_create") 396), (.str (.ofString "ec_pubkey_create") 397), (.str (.ofString "/claim/cut.py") 398), (.int 84 0), (.int 1 0), (.int 0 0), (.int 0 0), (.int 3 0), (.ref 154), (.bool true), (.int 181 0), (.ref 155), .none, (.ref 156), (.ref 157), (.ref 158), (.int 400 0), (.int 84 0), (.str (.ofString "/claim/cut.py") 401)]), #[]⟩
def fd160 : FuncData := fdO (topSt 21) (.ofString "ec_pubkey_create") .none (.ref 159) (.str (.ofString "embit.util.secp256k1") 365) none
def ob160 (P : Params) : Obj := fnO fd160 none
def ob161 (P : Params) : Obj := ⟨(.type "tuple"), none, (.seq #[(.int 258 367)] 0), #[]⟩
def ob167 (P : Params) : Obj := ⟨(.type "code"), none, (.fields #[(.str (.ofString "ec_pubkey_serialize") 403), (.str (.ofString "ec_pubkey_serialize") 404), (.str (.ofString "/claim/cut.py") 405), (.int 86 0), (.int 2 0), (.int 0 0), (.int 0 0), (.int 3 0), (.ref 162), (.bool true), (.int 181 0), (.ref 163), .none, (.ref 164), (.ref 165), (.ref 166), (.int 409 0), (.int 86 0), (.str (.ofString "/claim/cut.py") 410)]), #[]⟩
def fd168 : FuncData := fdO (topSt 22) (.ofString "ec_pubkey_serialize") (.ref 161) (.ref 167) (.str (.ofString "embit.util.secp256k1") 365) none
def ob168 (P : Params) : Obj := fnO fd168 none
def ob174 (P : Params) : Obj := ⟨(.type "code"), none, (.fields #[(.str (.ofString "ec_pubkey_parse") 412), (.str (.ofString "ec_pubkey_parse") 413), (.str (.ofString "/claim/cut.py") 414), (.int 91 0), (.int 1 0), (.int 0 0), (.int 0 0), (.int 3 0), (.ref 169), (.bool true), (.int 181 0), (.ref 170), .none, (.ref 171), (.ref 172), (.ref 173), (.int 417 0), (.int 91 0), (.str (.ofString "/claim/cut.py") 418)]), #[]⟩
def fd175 : FuncData := fdO (topSt 23) (.ofString "ec_pubkey_parse") .none (.ref 174) (.str (.ofString "embit.util.secp256k1") 365) none
def ob175 (P : Params) : Obj := fnO fd175 none
def ob176 (P : Params) : Obj := ⟨(.type "dict"), none, (.dict #[en P "main" 420 (.ref 177), en P "test" 466 (.ref 178), en P "regtest" 512 (.ref 179), en P "signet" 558 (.ref 180)] 4), #[]⟩
def ob177 (P : Params) : Obj := ⟨(.type "dict"), none, (.dict #[en P "name" 421 (.str (.ofString "Mainnet") 422), en P "wif" 423 (.bytes #[128] 424), en P "p2pkh" 425 (.bytes #[0] 426), en P "p2sh" 427 (.bytes #[5] 428), en P "bech32" 429 (.str (.ofString "bc") 430), en P "xprv" 431 (.bytes #[4, 136, 173, 228] 432), en P "xpub" 433 (.bytes #[4, 136, 178, 30] 434), en P "yprv" 435 (.bytes #[4, 157, 120, 120] 436), en P "zprv" 437 (.bytes #[4, 178, 67, 12] 438), en P "Yprv" 439 (.bytes #[2, 149, 176, 5] 440), en P "Zprv" 441 (.bytes #[2, 170, 122, 153] 442), en P "ypub" 443 (.bytes #[4, 157, 124, 178] 444), en P "zpub" 445 (.bytes #[4, 178, 71, 70] 446), en P "Ypub" 447 (.bytes #[2, 149, 180, 63] 448), en P "Zpub" 449 (.bytes #[2, 170, 126, 211] 450)] 15), #[]⟩
def ob178 (P : Params) : Obj := ⟨(.type "dict"), none, (.dict #[en P "name" 467 (.str (.ofString "Testnet") 468), en P "wif" 469 (.bytes #[239] 470), en P "p2pkh" 471 (.bytes #[111] 472), en P "p2sh" 473 (.bytes #[196] 474), en P "bech32" 475 (.str (.ofString "tb") 476), en P "xprv" 477 (.bytes #[4, 53, 131, 148] 478), en P "xpub" 479 (.bytes #[4, 53, 135, 207] 480), en P "yprv" 481 (.bytes #[4, 74, 78, 40] 482), en P "zprv" 483 (.bytes #[4, 95, 24, 188] 484), en P "Yprv" 485 (.bytes #[2, 66, 133, 181] 486), en P "Zprv" 487 (.bytes #[2, 87, 80, 72] 488), en P "ypub" 489 (.bytes #[4, 74, 82, 98] 490), en P "zpub" 491 (.bytes #[4, 95, 28, 246] 492), en P "Ypub" 493 (.bytes #[2, 66, 137, 239] 494), en P "Zpub" 495 (.bytes #[2, 87, 84, 131] 496)] 15), #[]⟩
def ob179 (P : Params) : Obj := ⟨(.type "dict"), none, (.dict #[en P "name" 513 (.str (.ofString "Regtest") 514), en P "wif" 515 (.bytes #[239] 516), en P "p2pkh" 517 (.bytes #[111] 518), en P "p2sh" 519 (.bytes #[196] 520), en P "bech32" 521 (.str (.ofString "bcrt") 522), en P "xprv" 523 (.bytes #[4, 53, 131, 148] 524), en P "xpub" 525 (.bytes #[4, 53, 135, 207] 526), en P "yprv" 527 (.bytes #[4, 74, 78, 40] 528), en P "zprv" 529 (.bytes #[4, 95, 24, 188] 530), en P "Yprv" 531 (.bytes #[2, 66, 133, 181] 532), en P "Zprv" 533 (.bytes #[2, 87, 80, 72] 534), en P "ypub" 535 (.bytes #[4, 74, 82, 98] 536), en P "zpub" 537 (.bytes #[4, 95, 28, 246] 538), en P "Ypub" 539 (.bytes #[2, 66, 137, 239] 540), en P "Zpub" 541 (.bytes #[2, 87, 84, 131] 542)] 15), #[]⟩
def ob180 (P : Params) : Obj := ⟨(.type "dict"), none, (.dict #[en P "name" 559 (.str (.ofString "Signet") 560), en P "wif" 561 (.bytes #[239] 562), en P "p2pkh" 563 (.bytes #[111] 564), en P "p2sh" 565 (.bytes #[196] 566), en P "bech32" 567 (.str (.ofString "tb") 568), en P "xprv" 569 (.bytes #[4, 53, 131, 148] 570), en P "xpub" 571 (.bytes #[4, 53, 135, 207] 572), en P "yprv" 573 (.bytes #[4, 74, 78, 40] 574), en P "zprv" 575 (.bytes #[4, 95, 24, 188] 576), en P "Yprv" 577 (.bytes #[2, 66, 133, 181] 578), en P "Zprv" 579 (.bytes #[2, 87, 80, 72] 580), en P "ypub" 581 (.bytes #[4, 74, 82, 98] 582), en P "zpub" 583 (.bytes #[4, 95, 28, 246] 584), en P "Ypub" 585 (.bytes #[2, 66, 137, 239] 586), en P "Zpub" 587 (.bytes #[2, 87, 84, 131] 588)] 15), #[]⟩
def ob189 (P : Params) : Obj := ⟨(.type "dict"), none, (.dict #[en P "__module__" 618 (.str (.ofString "embit.base") 609), en P "__firstlineno__" 622 (.int 98 621), en P "__static_attributes__" 623 (.ref 188), en P "__weakref__" 625 (.ref 191), en P "__doc__" 626 .none] 3), #[]⟩
def ob190 (P : Params) : Obj := ⟨(.type "type"), none, (.cls { name := (.ofString "EmbitError"), bases := [(.type "Exception")], mro := [(.ref 190), (.type "Exception"), (.type "BaseException"), (.type "object")], ns := 189, qualname := (.ofString "EmbitError"), hasDict := true, slotNames := [], subclasses := [(.ref 901), (.ref 1217)], abstract := false, hasDel := false }), #[some (.ref 181), none, some (.str (.ofString "EmbitError") 611), some (.str (.ofString "EmbitError") 619), some (.builtin "Exception.__new__"), some (.bool true)]⟩
def ob206 (P : Params) : Obj := ⟨(.type "code"), none, (.fields #[(.str (.ofString "_index") 641), (.str (.ofString "_index") 642), (.str (.ofString "/claim/cut.py") 643), (.int 106 0), (.int 2 0), (.int 0 0), (.int 0 0), (.int 3 0), (.ref 201), (.bool true), (.int 181 0), (.ref 202), .none, (.ref 203), (.ref 204), (.ref 205), (.int 646 0), (.int 106 0), (.str (.ofString "/claim/cut.py") 647)]), #[]⟩
def fd207 : FuncData := fdO (topSt 29) (.ofString "_index") .none (.ref 206) (.str (.ofString "io") 631) none
def ob207 (P : Params) : Obj := fnO fd207 none
def ob233 (P : Params) : Obj := ⟨(.type "code"), none, (.fields #[(.str (.ofString "__new__") 685), (.str (.ofString "IOBase.__new__") 686), (.str (.ofString "/claim/cut.py") 687), (.int 118 0), (.int 1 0), (.int 1 0), (.int 0 0), (.int 15 0), (.ref 228), (.bool true), (.int 181 0), (.ref 229), .none, (.ref 230), (.ref 231), (.ref 232), (.int 691 0), (.int 118 0), (.str (.ofString "/claim/cut.py") 692)]), #[]⟩
def fd234 : FuncData := fdO (methSt 31 1) (.ofString "IOBase.__new__") .none (.ref 233) (.str (.ofString "io") 631) none
def ob234 (P : Params) : Obj := fnO fd234 none
def ob236 (P : Params) : Obj := ⟨(.type "dict"), none, (.dict #[en P "__module__" 678 (.str (.ofString "io") 683), en P "__firstlineno__" 682 (.int 115 681), en P "__new__" 693 (.ref 238), en P "__static_attributes__" 694 (.ref 235), en P "__dict__" 697 (.ref 239), en P "__weakref__" 699 (.ref 240), en P "__doc__" 700 .none] 4), #[]⟩
def ob237 (P : Params) : Obj := ⟨(.type "type"), none, (.cls { name := (.ofString "IOBase"), bases := [(.type "object")], mro := [(.ref 237), (.type "object")], ns := 236, qualname := (.ofString "IOBase"), hasDict := true, slotNames := [], subclasses := [(.ref 252), (.ref 264)], abstract := false, hasDel := false }), #[none, none, some (.str (.ofString "IOBase") 671), some (.str (.ofString "IOBase") 679), some .none, some (.bool true)]⟩
def ob238 (P : Params) : Obj := ⟨(.type "staticmethod"), none, (.fields #[(.ref 234)]), #[]⟩
def ob251 (P : Params) : Obj := ⟨(.type "dict"), none, (.dict #[en P "__module__" 710 (.str (.ofString "io") 715), en P "__firstlineno__" 714 (.int 122 713), en P "__static_attributes__" 717 (.ref 250), en P "__doc__" 718 .none] 2), #[]⟩
def ob252 (P : Params) : Obj := ⟨(.type "type"), none, (.cls { name := (.ofString "BufferedIOBase"), bases := [(.ref 237)], mro := [(.ref 252), (.ref 237), (.type "object")], ns := 251, qualname := (.ofString "BufferedIOBase"), hasDict := true, slotNames := [], subclasses := [(.ref 494)], abstract := false, hasDel := false }), #[some (.ref 243), none, some (.str (.ofString "BufferedIOBase") 703), some (.str (.ofString "BufferedIOBase") 711), some .none, some (.bool true)]⟩
def ob274 (P : Params) : Obj := ⟨(.type "tuple"), none, (.seq #[.none] 0), #[]⟩
def ob280 (P : Params) : Obj := ⟨(.type "code"), none, (.fields #[(.str (.ofString "__init__") 753), (.str (.ofString "BytesIO.__init__") 754), (.str (.ofString "/claim/cut.py") 755), (.int 129 0), (.int 2 0), (.int 0 0), (.int 0 0), (.int 3 0), (.ref 275), (.bool true), (.int 181 0), (.ref 276), .none, (.ref 277), (.ref 278), (.ref 279), (.int 758 0), (.int 129 0), (.str (.ofString "/claim/cut.py") 759)]), #[]⟩
def fd281 : FuncData := fdO (methSt 34 1) (.ofString "BytesIO.__init__") (.ref 274) (.ref 280) (.str (.ofString "io") 631) none
def ob281 (P : Params) : Obj := fnO fd281 none
def ob287 (P : Params) : Obj := ⟨(.type "code"), none, (.fields #[(.str (.ofString "__check") 761), (.str (.ofString "BytesIO.__check") 762), (.str (.ofString "/claim/cut.py") 763), (.int 135 0), (.int 1 0), (.int 0 0), (.int 0 0), (.int 3 0), (.ref 282), (.bool true), (.int 181 0), (.ref 283), .none, (.ref 284), (.ref 285), (.ref 286), (.int 765 0), (.int 135 0), (.str (.ofString "/claim/cut.py") 766)]), #[]⟩
def fd288 : FuncData := fdO (methSt 34 2) (.ofString "BytesIO.__check") .none (.ref 287) (.str (.ofString "io") 631) none
def ob288 (P : Params) : Obj := fnO fd288 none
def ob379 (P : Params) : Obj := ⟨(.type "code"), none, (.fields #[(.str (.ofString "getvalue") 858), (.str (.ofString "BytesIO.getvalue") 859), (.str (.ofString "/claim/cut.py") 860), (.int 191 0), (.int 1 0), (.int 0 0), (.int 0 0), (.int 3 0), (.ref 374), (.bool true), (.int 181 0), (.ref 375), .none, (.ref 376), (.ref 377), (.ref 378), (.int 862 0), (.int 191 0), (.str (.ofString "/claim/cut.py") 863)]), #[]⟩
def fd380 : FuncData := fdO (methSt 34 15) (.ofString "BytesIO.getvalue") .none (.ref 379) (.str (.ofString "io") 631) none
def ob380 (P : Params) : Obj := fnO fd380 none
def ob411 (P : Params) : Obj := ⟨(.type "tuple"), none, (.seq #[(.int (-1) 898)] 0), #[]⟩
def ob417 (P : Params) : Obj := ⟨(.type "code"), none, (.fields #[(.str (.ofString "read") 899), (.str (.ofString "BytesIO.read") 900), (.str (.ofString "/claim/cut.py") 901), (.int 222 0), (.int 2 0), (.int 2 0), (.int 0 0), (.int 3 0), (.ref 412), (.bool true), (.int 181 0), (.ref 413), .none, (.ref 414), (.ref 415), (.ref 416), (.int 906 0), (.int 222 0), (.str (.ofString "/claim/cut.py") 907)]), #[]⟩
def fd418 : FuncData := fdO (methSt 34 20) (.ofString "BytesIO.read") (.ref 411) (.ref 417) (.str (.ofString "io") 631) none
def ob418 (P : Params) : Obj := fnO fd418 none
def ob476 (P : Params) : Obj := ⟨(.type "code"), none, (.fields #[(.str (.ofString "write") 970), (.str (.ofString "BytesIO.write") 971), (.str (.ofString "/claim/cut.py") 972), (.int 276 0), (.int 2 0), (.int 2 0), (.int 0 0), (.int 3 0), (.ref 471), (.bool true), (.int 181 0), (.ref 472), .none, (.ref 473), (.ref 474), (.ref 475), (.int 977 0), (.int 276 0), (.str (.ofString "/claim/cut.py") 978)]), #[]⟩
def fd477 : FuncData := fdO (methSt 34 28) (.ofString "BytesIO.write") .none (.ref 476) (.str (.ofString "io") 631) none
def ob477 (P : Params) : Obj := fnO fd477 none
def ob493 (P : Params) : Obj := ⟨(.type "dict"), none, (.dict #[en P "__module__" 746 (.str (.ofString "_io") 751), en P "__firstlineno__" 750 (.int 126 749), en P "__init__" 760 (.ref 281), en P "_BytesIO__check" 767 (.ref 288), en P "_BytesIO__line" 778 (.ref 295), en P "closed" 786 (.ref 303), en P "close" 793 (.ref 310), en P "__enter__" 800 (.ref 317), en P "__exit__" 808 (.ref 324), en P "readable" 815 (.ref 331), en P "writable" 822 (.ref 338), en P "seekable" 829 (.ref 345), en P "isatty" 836 (.ref 352), en P "flush" 843 (.ref 359), en P "fileno" 850 (.ref 366), en P "detach" 857 (.ref 373), en P "getvalue" 864 (.ref 380), en P "getbuffer" 871 (.ref 387), en P "tell" 878 (.ref 394), en P "seek" 888 (.ref 402), en P "truncate" 896 (.ref 410), en P "read" 908 (.ref 418), en P "read1" 918 (.ref 426), en P "readinto" 928 (.ref 433), en P "readinto1" 936 (.ref 440), en P "readline" 946 (.ref 448), en P "readlines" 954 (.ref 456), en P "__iter__" 961 (.ref 463), en P "__next__" 969 (.ref 470), en P "write" 979 (.ref 477), en P "writelines" 987 (.ref 484), en P "__repr__" 994 (.ref 491), en P "__static_attributes__" 997 (.ref 492), en P "__doc__" 998 .none] 2), #[]⟩
def ob494 (P : Params) : Obj := ⟨(.type "type"), none, (.cls { name := (.ofString "BytesIO"), bases := [(.ref 252)], mro := [(.ref 494), (.ref 252), (.ref 237), (.type "object")], ns := 493, qualname := (.ofString "BytesIO"), hasDict := true, slotNames := [], subclasses := [], abstract := false, hasDel := false }), #[some (.ref 267), none, some (.str (.ofString "BytesIO") 739), some (.str (.ofString "BytesIO") 747), some .none, some (.bool true)]⟩
def ob766 (P : Params) : Obj := ⟨(.type "code"), none, (.fields #[(.str (.ofString "parse") 1324), (.str (.ofString "EmbitBase.parse") 1325), (.str (.ofString "/claim/cut.py") 1326), (.int 510 0), (.int 2 0), (.int 0 0), (.int 0 0), (.int 15 0), (.ref 761), (.bool true), (.int 181 0), (.ref 762), .none, (.ref 763), (.ref 764), (.ref 765), (.int 1333 0), (.int 510 0), (.str (.ofString "/claim/cut.py") 1334)]), #[]⟩
def fd767 : FuncData := fdO (methSt 37 1) (.ofString "EmbitBase.parse") .none (.ref 766) (.str (.ofString "embit.base") 1288) (some 770)
def ob767 (P : Params) : Obj := fnO fd767 none
def ob768 (P : Params) : Obj := ⟨(.type "dict"), none, (.dict #[en P "__module__" 1336 (.str (.ofString "embit.base") 1288), en P "__name__" 1339 (.str (.ofString "parse") 1338), en P "__qualname__" 1342 (.str (.ofString "EmbitBase.parse") 1341), en P "__doc__" 1344 .none, en P "__annotations__" 1346 (.ref 770)] 5), #[]⟩
def ob769 (P : Params) : Obj := ⟨(.type "classmethod"), some 768, (.fields #[(.ref 767), (.bool false)]), #[]⟩
def ob783 (P : Params) : Obj := ⟨(.type "code"), none, (.fields #[(.str (.ofString "serialize") 1358), (.str (.ofString "EmbitBase.serialize") 1359), (.str (.ofString "/claim/cut.py") 1360), (.int 521 0), (.int 1 0), (.int 0 0), (.int 0 0), (.int 15 0), (.ref 778), (.bool true), (.int 181 0), (.ref 779), .none, (.ref 780), (.ref 781), (.ref 782), (.int 1365 0), (.int 521 0), (.str (.ofString "/claim/cut.py") 1366)]), #[]⟩
def fd784 : FuncData := fdO (methSt 37 3) (.ofString "EmbitBase.serialize") .none (.ref 783) (.str (.ofString "embit.base") 1288) none
def ob784 (P : Params) : Obj := fnO fd784 none
def ob831 (P : Params) : Obj := ⟨(.type "dict"), none, (.dict #[en P "__module__" 1297 (.str (.ofString "embit.base") 1288), en P "__firstlineno__" 1301 (.int 504 1300), en P "read_from" 1323 (.ref 759), en P "parse" 1347 (.ref 769), en P "write_to" 1357 (.ref 777), en P "serialize" 1367 (.ref 784), en P "to_string" 1377 (.ref 791), en P "from_string" 1399 (.ref 800), en P "__str__" 1406 (.ref 808), en P "__eq__" 1414 (.ref 815), en P "__ne__" 1422 (.ref 822), en P "__hash__" 1429 (.ref 829), en P "__static_attributes__" 1430 (.ref 830), en P "__dict__" 1432 (.ref 833), en P "__weakref__" 1434 (.ref 834), en P "__doc__" 1435 .none] 4), #[]⟩
def ob832 (P : Params) : Obj := ⟨(.type "type"), none, (.cls { name := (.ofString "EmbitBase"), bases := [(.type "object")], mro := [(.ref 832), (.type "object")], ns := 831, qualname := (.ofString "EmbitBase"), hasDict := true, slotNames := [], subclasses := [(.ref 889)], abstract := false, hasDel := false }), #[none, none, some (.str (.ofString "EmbitBase") 1290), some (.str (.ofString "EmbitBase") 1298), some (.builtin "object.__new__"), some (.bool true)]⟩
def ob888 (P : Params) : Obj := ⟨(.type "dict"), none, (.dict #[en P "__module__" 1445 (.str (.ofString "embit.base") 1288), en P "__firstlineno__" 1449 (.int 551 1448), en P "sec" 1456 (.ref 850), en P "xonly" 1463 (.ref 857), en P "is_private" 1471 (.ref 865), en P "__lt__" 1479 (.ref 872), en P "__gt__" 1487 (.ref 879), en P "__hash__" 1494 (.ref 886), en P "__static_attributes__" 1495 (.ref 887), en P "__doc__" 1496 .none] 2), #[]⟩
def ob889 (P : Params) : Obj := ⟨(.type "type"), none, (.cls { name := (.ofString "EmbitKey"), bases := [(.ref 832)], mro := [(.ref 889), (.ref 832), (.type "object")], ns := 888, qualname := (.ofString "EmbitKey"), hasDict := true, slotNames := [], subclasses := [(.ref 1051), (.ref 1205), (.ref 1420)], abstract := false, hasDel := false }), #[some (.ref 837), none, some (.str (.ofString "EmbitKey") 1438), some (.str (.ofString "EmbitKey") 1446), some (.builtin "object.__new__"), some (.bool true)]⟩
def ob911 (P : Params) : Obj := ⟨(.type "tuple"), none, (.seq #[(.bool true)] 0), #[]⟩
def ob917 (P : Params) : Obj := ⟨(.type "code"), none, (.fields #[(.str (.ofString "__init__") 1529), (.str (.ofString "PublicKey.__init__") 1530), (.str (.ofString "/claim/cut.py") 1531), (.int 576 0), (.int 3 0), (.int 0 0), (.int 0 0), (.int 3 0), (.ref 912), (.bool true), (.int 181 0), (.ref 913), .none, (.ref 914), (.ref 915), (.ref 916), (.int 1535 0), (.int 576 0), (.str (.ofString "/claim/cut.py") 1536)]), #[]⟩
def fd918 : FuncData := fdO (methSt 41 0) (.ofString "PublicKey.__init__") (.ref 911) (.ref 917) (.str (.ofString "embit.ec") 1499) none
def ob918 (P : Params) : Obj := fnO fd918 none
def ob924 (P : Params) : Obj := ⟨(.type "code"), none, (.fields #[(.str (.ofString "read_from") 1538), (.str (.ofString "PublicKey.read_from") 1539), (.str (.ofString "/claim/cut.py") 1540), (.int 580 0), (.int 2 0), (.int 0 0), (.int 0 0), (.int 3 0), (.ref 919), (.bool true), (.int 181 0), (.ref 920), .none, (.ref 921), (.ref 922), (.ref 923), (.int 1547 0), (.int 580 0), (.str (.ofString "/claim/cut.py") 1548)]), #[]⟩
def fd925 : FuncData := fdO (methSt 41 1) (.ofString "PublicKey.read_from") .none (.ref 924) (.str (.ofString "embit.ec") 1499) (some 928)
def ob925 (P : Params) : Obj := fnO fd925 none
def ob926 (P : Params) : Obj := ⟨(.type "dict"), none, (.dict #[en P "__module__" 1550 (.str (.ofString "embit.ec") 1499), en P "__name__" 1553 (.str (.ofString "read_from") 1552), en P "__qualname__" 1556 (.str (.ofString "PublicKey.read_from") 1555), en P "__doc__" 1558 .none, en P "__annotations__" 1560 (.ref 928)] 5), #[]⟩
def ob927 (P : Params) : Obj := ⟨(.type "classmethod"), some 926, (.fields #[(.ref 925), (.bool false)]), #[]⟩
def ob934 (P : Params) : Obj := ⟨(.type "code"), none, (.fields #[(.str (.ofString "sec") 1562), (.str (.ofString "PublicKey.sec") 1563), (.str (.ofString "/claim/cut.py") 1564), (.int 596 0), (.int 1 0), (.int 0 0), (.int 0 0), (.int 3 0), (.ref 929), (.bool true), (.int 181 0), (.ref 930), .none, (.ref 931), (.ref 932), (.ref 933), (.int 1567 0), (.int 596 0), (.str (.ofString "/claim/cut.py") 1568)]), #[]⟩
def fd935 : FuncData := fdO (methSt 41 2) (.ofString "PublicKey.sec") .none (.ref 934) (.str (.ofString "embit.ec") 1499) none
def ob935 (P : Params) : Obj := fnO fd935 none
def ob963 (P : Params) : Obj := ⟨(.type "code"), none, (.fields #[(.str (.ofString "serialize") 1594), (.str (.ofString "PublicKey.serialize") 1595), (.str (.ofString "/claim/cut.py") 1596), (.int 609 0), (.int 1 0), (.int 0 0), (.int 0 0), (.int 3 0), (.ref 958), (.bool true), (.int 181 0), (.ref 959), .none, (.ref 960), (.ref 961), (.ref 962), (.int 1598 0), (.int 609 0), (.str (.ofString "/claim/cut.py") 1599)]), #[]⟩
def fd964 : FuncData := fdO (methSt 41 6) (.ofString "PublicKey.serialize") .none (.ref 963) (.str (.ofString "embit.ec") 1499) none
def ob964 (P : Params) : Obj := fnO fd964 none
def ob1011 (P : Params) : Obj := ⟨(.type "code"), none, (.fields #[(.str (.ofString "is_private") 1666), (.str (.ofString "PublicKey.is_private") 1667), (.str (.ofString "/claim/cut.py") 1668), (.int 629 0), (.int 1 0), (.int 0 0), (.int 0 0), (.int 3 0), (.ref 1006), (.bool true), (.int 181 0), (.ref 1007), .none, (.ref 1008), (.ref 1009), (.ref 1010), (.int 1670 0), (.int 629 0), (.str (.ofString "/claim/cut.py") 1671)]), #[]⟩
def fd1012 : FuncData := fdO (methSt 41 12) (.ofString "PublicKey.is_private") .none (.ref 1011) (.str (.ofString "embit.ec") 1499) none
def ob1012 (P : Params) : Obj := fnO fd1012 none
def ob1013 (P : Params) : Obj := ⟨(.type "property"), none, (.fields #[(.ref 1012), .none, .none, .none, (.str (.ofString "is_private") 1673), (.bool false)]), #[]⟩
def ob1050 (P : Params) : Obj := ⟨(.type "dict"), none, (.dict #[en P "__module__" 1524 (.str (.ofString "embit.ec") 1499), en P "__firstlineno__" 1528 (.int 574 1527), en P "__init__" 1537 (.ref 918), en P "read_from" 1561 (.ref 927), en P "sec" 1569 (.ref 935), en P "xonly" 1576 (.ref 942), en P "taproot_tweak" 1585 (.ref 950), en P "write_to" 1593 (.ref 957), en P "serialize" 1600 (.ref 964), en P "verify" 1609 (.ref 971), en P "_xonly" 1616 (.ref 978), en P "from_xonly" 1636 (.ref 987), en P "schnorr_verify" 1645 (.ref 995), en P "from_string" 1665 (.ref 1004), en P "is_private" 1673 (.ref 1013), en P "to_string" 1680 (.ref 1020), en P "__lt__" 1688 (.ref 1027), en P "__gt__" 1696 (.ref 1034), en P "__eq__" 1704 (.ref 1041), en P "__hash__" 1711 (.ref 1048), en P "__static_attributes__" 1714 (.ref 1049), en P "__doc__" 1715 .none] 2), #[]⟩
def ob1051 (P : Params) : Obj := ⟨(.type "type"), none, (.cls { name := (.ofString "PublicKey"), bases := [(.ref 889)], mro := [(.ref 1051), (.ref 889), (.ref 832), (.type "object")], ns := 1050, qualname := (.ofString "PublicKey"), hasDict := true, slotNames := [], subclasses := [], abstract := false, hasDel := false }), #[some (.ref 904), none, some (.str (.ofString "PublicKey") 1517), some (.str (.ofString "PublicKey") 1525), some (.builtin "object.__new__"), some (.bool true)]⟩
def ob1061 (P : Params) : Obj := ⟨(.type "tuple"), none, (.seq #[(.bool true), (.ref 177)] 0), #[]⟩
def ob1067 (P : Params) : Obj := ⟨(.type "code"), none, (.fields #[(.str (.ofString "__init__") 1732), (.str (.ofString "PrivateKey.__init__") 1733), (.str (.ofString "/claim/cut.py") 1734), (.int 649 0), (.int 4 0), (.int 0 0), (.int 0 0), (.int 3 0), (.ref 1062), (.bool true), (.int 181 0), (.ref 1063), .none, (.ref 1064), (.ref 1065), (.ref 1066), (.int 1739 0), (.int 649 0), (.str (.ofString "/claim/cut.py") 1740)]), #[]⟩
def fd1068 : FuncData := fdO (methSt 42 0) (.ofString "PrivateKey.__init__") (.ref 1061) (.ref 1067) (.str (.ofString "embit.ec") 1499) none
def ob1068 (P : Params) : Obj := fnO fd1068 none
def ob1140 (P : Params) : Obj := ⟨(.type "code"), none, (.fields #[(.str (.ofString "get_public_key") 1837), (.str (.ofString "PrivateKey.get_public_key") 1838), (.str (.ofString "/claim/cut.py") 1839), (.int 706 0), (.int 1 0), (.int 0 0), (.int 0 0), (.int 3 0), (.ref 1135), (.bool true), (.int 181 0), (.ref 1136), .none, (.ref 1137), (.ref 1138), (.ref 1139), (.int 1841 0), (.int 706 0), (.str (.ofString "/claim/cut.py") 1842)]), #[]⟩
def fd1141 : FuncData := fdO (methSt 42 9) (.ofString "PrivateKey.get_public_key") .none (.ref 1140) (.str (.ofString "embit.ec") 1499) none
def ob1141 (P : Params) : Obj := fnO fd1141 none
def ob1183 (P : Params) : Obj := ⟨(.type "code"), none, (.fields #[(.str (.ofString "write_to") 1886), (.str (.ofString "PrivateKey.write_to") 1887), (.str (.ofString "/claim/cut.py") 1888), (.int 724 0), (.int 2 0), (.int 0 0), (.int 0 0), (.int 3 0), (.ref 1178), (.bool true), (.int 181 0), (.ref 1179), .none, (.ref 1180), (.ref 1181), (.ref 1182), (.int 1891 0), (.int 724 0), (.str (.ofString "/claim/cut.py") 1892)]), #[]⟩
def fd1184 : FuncData := fdO (methSt 42 15) (.ofString "PrivateKey.write_to") .none (.ref 1183) (.str (.ofString "embit.ec") 1499) none
def ob1184 (P : Params) : Obj := fnO fd1184 none
def ob1190 (P : Params) : Obj := ⟨(.type "code"), none, (.fields #[(.str (.ofString "read_from") 1894), (.str (.ofString "PrivateKey.read_from") 1895), (.str (.ofString "/claim/cut.py") 1896), (.int 727 0), (.int 2 0), (.int 0 0), (.int 0 0), (.int 3 0), (.ref 1185), (.bool true), (.int 181 0), (.ref 1186), .none, (.ref 1187), (.ref 1188), (.ref 1189), (.int 1899 0), (.int 727 0), (.str (.ofString "/claim/cut.py") 1900)]), #[]⟩
def fd1191 : FuncData := fdO (methSt 42 16) (.ofString "PrivateKey.read_from") .none (.ref 1190) (.str (.ofString "embit.ec") 1499) (some 1194)
def ob1191 (P : Params) : Obj := fnO fd1191 none
def ob1192 (P : Params) : Obj := ⟨(.type "dict"), none, (.dict #[en P "__module__" 1902 (.str (.ofString "embit.ec") 1499), en P "__name__" 1905 (.str (.ofString "read_from") 1904), en P "__qualname__" 1908 (.str (.ofString "PrivateKey.read_from") 1907), en P "__doc__" 1910 .none, en P "__annotations__" 1912 (.ref 1194)] 5), #[]⟩
def ob1193 (P : Params) : Obj := ⟨(.type "classmethod"), some 1192, (.fields #[(.ref 1191), (.bool false)]), #[]⟩
def ob1200 (P : Params) : Obj := ⟨(.type "code"), none, (.fields #[(.str (.ofString "is_private") 1914), (.str (.ofString "PrivateKey.is_private") 1915), (.str (.ofString "/claim/cut.py") 1916), (.int 731 0), (.int 1 0), (.int 0 0), (.int 0 0), (.int 3 0), (.ref 1195), (.bool true), (.int 181 0), (.ref 1196), .none, (.ref 1197), (.ref 1198), (.ref 1199), (.int 1918 0), (.int 731 0), (.str (.ofString "/claim/cut.py") 1919)]), #[]⟩
def fd1201 : FuncData := fdO (methSt 42 17) (.ofString "PrivateKey.is_private") .none (.ref 1200) (.str (.ofString "embit.ec") 1499) none
def ob1201 (P : Params) : Obj := fnO fd1201 none
def ob1202 (P : Params) : Obj := ⟨(.type "property"), none, (.fields #[(.ref 1201), .none, .none, .none, (.str (.ofString "is_private") 1921), (.bool false)]), #[]⟩
def ob1204 (P : Params) : Obj := ⟨(.type "dict"), none, (.dict #[en P "__module__" 1725 (.str (.ofString "embit.ec") 1499), en P "__firstlineno__" 1729 (.int 647 1728), en P "__init__" 1741 (.ref 1068), en P "wif" 1751 (.ref 1076), en P "secret" 1759 (.ref 1084), en P "sec" 1766 (.ref 1091), en P "xonly" 1773 (.ref 1098), en P "taproot_tweak" 1782 (.ref 1106), en P "from_wif" 1808 (.ref 1115), en P "to_base58" 1816 (.ref 1124), en P "from_base58" 1836 (.ref 1133), en P "get_public_key" 1843 (.ref 1141), en P "to_public" 1850 (.ref 1148), en P "sign" 1859 (.ref 1156), en P "schnorr_sign" 1867 (.ref 1163), en P "verify" 1876 (.ref 1170), en P "schnorr_verify" 1885 (.ref 1177), en P "write_to" 1893 (.ref 1184), en P "read_from" 1913 (.ref 1193), en P "is_private" 1921 (.ref 1202), en P "__static_attributes__" 1925 (.ref 1203), en P "__doc__" 1926 .none] 2), #[]⟩
def ob1205 (P : Params) : Obj := ⟨(.type "type"), none, (.cls { name := (.ofString "PrivateKey"), bases := [(.ref 889)], mro := [(.ref 1205), (.ref 889), (.ref 832), (.type "object")], ns := 1204, qualname := (.ofString "PrivateKey"), hasDict := true, slotNames := [], subclasses := [], abstract := false, hasDel := false }), #[some (.ref 1054), none, some (.str (.ofString "PrivateKey") 1718), some (.str (.ofString "PrivateKey") 1726), some (.builtin "object.__new__"), some (.bool true)]⟩
def ob1216 (P : Params) : Obj := ⟨(.type "dict"), none, (.dict #[en P "__module__" 1940 (.str (.ofString "embit.bip32") 1929), en P "__firstlineno__" 1944 (.int 736 1943), en P "__static_attributes__" 1945 (.ref 1215), en P "__doc__" 1946 .none] 2), #[]⟩
def ob1217 (P : Params) : Obj := ⟨(.type "type"), none, (.cls { name := (.ofString "HDError"), bases := [(.ref 190)], mro := [(.ref 1217), (.ref 190), (.type "Exception"), (.type "BaseException"), (.type "object")], ns := 1216, qualname := (.ofString "HDError"), hasDict := true, slotNames := [], subclasses := [], abstract := false, hasDel := false }), #[some (.ref 1208), none, some (.str (.ofString "HDError") 1933), some (.str (.ofString "HDError") 1941), some (.builtin "Exception.__new__"), some (.bool true)]⟩
def ob1227 (P : Params) : Obj := ⟨(.type "tuple"), none, (.seq #[.none, (.int 0 1961), (.bytes #[0, 0, 0, 0] 1962), (.int 0 1963)] 0), #[]⟩
def ob1233 (P : Params) : Obj := ⟨(.type "code"), none, (.fields #[(.str (.ofString "__init__") 1964), (.str (.ofString "HDKey.__init__") 1965), (.str (.ofString "/claim/cut.py") 1966), (.int 740 0), (.int 7 0), (.int 0 0), (.int 0 0), (.int 3 0), (.ref 1228), (.bool true), (.int 181 0), (.ref 1229), .none, (.ref 1230), (.ref 1231), (.ref 1232), (.int 1974 0), (.int 740 0), (.str (.ofString "/claim/cut.py") 1975)]), #[]⟩
def fd1234 : FuncData := fdO (methSt 46 0) (.ofString "HDKey.__init__") (.ref 1227) (.ref 1233) (.str (.ofString "embit.bip32") 1929) none
def ob1234 (P : Params) : Obj := fnO fd1234 none
def ob1251 (P : Params) : Obj := ⟨(.type "code"), none, (.fields #[(.str (.ofString "from_base58") 2002), (.str (.ofString "HDKey.from_base58") 2003), (.str (.ofString "/claim/cut.py") 2004), (.int 764 0), (.int 2 0), (.int 0 0), (.int 0 0), (.int 3 0), (.ref 1246), (.bool true), (.int 181 0), (.ref 1247), .none, (.ref 1248), (.ref 1249), (.ref 1250), (.int 2008 0), (.int 764 0), (.str (.ofString "/claim/cut.py") 2009)]), #[]⟩
def fd1252 : FuncData := fdO (methSt 46 2) (.ofString "HDKey.from_base58") .none (.ref 1251) (.str (.ofString "embit.bip32") 1929) (some 1255)
def ob1252 (P : Params) : Obj := fnO fd1252 none
def ob1253 (P : Params) : Obj := ⟨(.type "dict"), none, (.dict #[en P "__module__" 2011 (.str (.ofString "embit.bip32") 1929), en P "__name__" 2014 (.str (.ofString "from_base58") 2013), en P "__qualname__" 2017 (.str (.ofString "HDKey.from_base58") 2016), en P "__doc__" 2019 .none, en P "__annotations__" 2021 (.ref 1255)] 5), #[]⟩
def ob1254 (P : Params) : Obj := ⟨(.type "classmethod"), some 1253, (.fields #[(.ref 1252), (.bool false)]), #[]⟩
def ob1269 (P : Params) : Obj := ⟨(.type "code"), none, (.fields #[(.str (.ofString "is_private") 2031), (.str (.ofString "HDKey.is_private") 2032), (.str (.ofString "/claim/cut.py") 2033), (.int 773 0), (.int 1 0), (.int 0 0), (.int 0 0), (.int 3 0), (.ref 1264), (.bool true), (.int 181 0), (.ref 1265), .none, (.ref 1266), (.ref 1267), (.ref 1268), (.int 2035 0), (.int 773 0), (.str (.ofString "/claim/cut.py") 2036)]), #[]⟩
def fd1270 : FuncData := fdO (methSt 46 4) (.ofString "HDKey.is_private") .none (.ref 1269) (.str (.ofString "embit.bip32") 1929) none
def ob1270 (P : Params) : Obj := fnO fd1270 none
def ob1271 (P : Params) : Obj := ⟨(.type "property"), none, (.fields #[(.ref 1270), .none, .none, .none, (.str (.ofString "is_private") 2038), (.bool false)]), #[]⟩
def ob1280 (P : Params) : Obj := ⟨(.type "tuple"), none, (.seq #[.none] 0), #[]⟩
def ob1286 (P : Params) : Obj := ⟨(.type "code"), none, (.fields #[(.str (.ofString "write_to") 2047), (.str (.ofString "HDKey.write_to") 2048), (.str (.ofString "/claim/cut.py") 2049), (.int 783 0), (.int 3 0), (.int 0 0), (.int 0 0), (.int 3 0), (.ref 1281), (.bool true), (.int 181 0), (.ref 1282), .none, (.ref 1283), (.ref 1284), (.ref 1285), (.int 2054 0), (.int 783 0), (.str (.ofString "/claim/cut.py") 2055)]), #[]⟩
def fd1287 : FuncData := fdO (methSt 46 6) (.ofString "HDKey.write_to") (.ref 1280) (.ref 1286) (.str (.ofString "embit.bip32") 1929) none
def ob1287 (P : Params) : Obj := fnO fd1287 none
def ob1288 (P : Params) : Obj := ⟨(.type "tuple"), none, (.seq #[.none] 0), #[]⟩
def ob1294 (P : Params) : Obj := ⟨(.type "code"), none, (.fields #[(.str (.ofString "to_base58") 2057), (.str (.ofString "HDKey.to_base58") 2058), (.str (.ofString "/claim/cut.py") 2059), (.int 796 0), (.int 2 0), (.int 0 0), (.int 0 0), (.int 3 0), (.ref 1289), (.bool true), (.int 181 0), (.ref 1290), .none, (.ref 1291), (.ref 1292), (.ref 1293), (.int 2064 0), (.int 796 0), (.str (.ofString "/claim/cut.py") 2065)]), #[]⟩
def fd1295 : FuncData := fdO (methSt 46 7) (.ofString "HDKey.to_base58") (.ref 1288) (.ref 1294) (.str (.ofString "embit.bip32") 1929) none
def ob1295 (P : Params) : Obj := fnO fd1295 none
def ob1319 (P : Params) : Obj := ⟨(.type "code"), none, (.fields #[(.str (.ofString "read_from") 2095), (.str (.ofString "HDKey.read_from") 2096), (.str (.ofString "/claim/cut.py") 2097), (.int 812 0), (.int 2 0), (.int 0 0), (.int 0 0), (.int 3 0), (.ref 1314), (.bool true), (.int 181 0), (.ref 1315), .none, (.ref 1316), (.ref 1317), (.ref 1318), (.int 2109 0), (.int 812 0), (.str (.ofString "/claim/cut.py") 2110)]), #[]⟩
def fd1320 : FuncData := fdO (methSt 46 10) (.ofString "HDKey.read_from") .none (.ref 1319) (.str (.ofString "embit.bip32") 1929) (some 1323)
def ob1320 (P : Params) : Obj := fnO fd1320 none
def ob1321 (P : Params) : Obj := ⟨(.type "dict"), none, (.dict #[en P "__module__" 2112 (.str (.ofString "embit.bip32") 1929), en P "__name__" 2115 (.str (.ofString "read_from") 2114), en P "__qualname__" 2118 (.str (.ofString "HDKey.read_from") 2117), en P "__doc__" 2120 .none, en P "__annotations__" 2122 (.ref 1323)] 5), #[]⟩
def ob1322 (P : Params) : Obj := ⟨(.type "classmethod"), some 1321, (.fields #[(.ref 1320), (.bool false)]), #[]⟩
def ob1324 (P : Params) : Obj := ⟨(.type "tuple"), none, (.seq #[.none] 0), #[]⟩
def ob1330 (P : Params) : Obj := ⟨(.type "code"), none, (.fields #[(.str (.ofString "to_public") 2124), (.str (.ofString "HDKey.to_public") 2125), (.str (.ofString "/claim/cut.py") 2126), (.int 836 0), (.int 2 0), (.int 0 0), (.int 0 0), (.int 3 0), (.ref 1325), (.bool true), (.int 181 0), (.ref 1326), .none, (.ref 1327), (.ref 1328), (.ref 1329), (.int 2131 0), (.int 836 0), (.str (.ofString "/claim/cut.py") 2132)]), #[]⟩
def fd1331 : FuncData := fdO (methSt 46 11) (.ofString "HDKey.to_public") (.ref 1324) (.ref 1330) (.str (.ofString "embit.bip32") 1929) none
def ob1331 (P : Params) : Obj := fnO fd1331 none
def ob1419 (P : Params) : Obj := ⟨(.type "dict"), none, (.dict #[en P "__module__" 1956 (.str (.ofString "embit.bip32") 1929), en P "__firstlineno__" 1960 (.int 738 1959), en P "__init__" 1976 (.ref 1234), en P "from_seed" 2001 (.ref 1244), en P "from_base58" 2022 (.ref 1254), en P "my_fingerprint" 2030 (.ref 1263), en P "is_private" 2038 (.ref 1271), en P "secret" 2046 (.ref 1279), en P "write_to" 2056 (.ref 1287), en P "to_base58" 2066 (.ref 1295), en P "from_string" 2086 (.ref 1304), en P "to_string" 2094 (.ref 1313), en P "read_from" 2123 (.ref 1322), en P "to_public" 2133 (.ref 1331), en P "get_public_key" 2140 (.ref 1338), en P "sec" 2147 (.ref 1345), en P "xonly" 2154 (.ref 1352), en P "taproot_tweak" 2163 (.ref 1360), en P "child" 2172 (.ref 1368), en P "derive" 2180 (.ref 1375), en P "sign" 2188 (.ref 1382), en P "schnorr_sign" 2196 (.ref 1389), en P "verify" 2205 (.ref 1396), en P "schnorr_verify" 2214 (.ref 1403), en P "__eq__" 2222 (.ref 1410), en P "__hash__" 2229 (.ref 1417), en P "__static_attributes__" 2237 (.ref 1418), en P "__doc__" 2238 .none] 2), #[]⟩
def ob1420 (P : Params) : Obj := ⟨(.type "type"), none, (.cls { name := (.ofString "HDKey"), bases := [(.ref 889)], mro := [(.ref 1420), (.ref 889), (.ref 832), (.type "object")], ns := 1419, qualname := (.ofString "HDKey"), hasDict := true, slotNames := [], subclasses := [], abstract := false, hasDel := false }), #[some (.ref 1220), none, some (.str (.ofString "HDKey") 1949), some (.str (.ofString "HDKey") 1957), some (.builtin "object.__new__"), some (.bool true)]⟩
def ob1423 (P : Params) : Obj := ⟨(.type "tuple"), none, (.seq #[(.str (.ofString "xprv") 2241), .none] 0), #[]⟩
def ob1429 (P : Params) : Obj := ⟨(.type "code"), none, (.fields #[(.str (.ofString "detect_version") 2242), (.str (.ofString "detect_version") 2243), (.str (.ofString "/claim/cut.py") 2244), (.int 884 0), (.int 3 0), (.int 0 0), (.int 0 0), (.int 3 0), (.ref 1424), (.bool true), (.int 181 0), (.ref 1425), .none, (.ref 1426), (.ref 1427), (.ref 1428), (.int 2250 0), (.int 884 0), (.str (.ofString "/claim/cut.py") 2251)]), #[]⟩
def fd1430 : FuncData := fdO (topSt 47) (.ofString "detect_version") (.ref 1423) (.ref 1429) (.str (.ofString "embit.bip32") 1929) none
def ob1430 (P : Params) : Obj := fnO fd1430 none
def ob1436 (P : Params) : Obj := ⟨(.type "code"), none, (.fields #[(.str (.ofString "_parse_der_item") 2253), (.str (.ofString "_parse_der_item") 2254), (.str (.ofString "/claim/cut.py") 2255), (.int 906 0), (.int 1 0), (.int 0 0), (.int 0 0), (.int 3 0), (.ref 1431), (.bool true), (.int 181 0), (.ref 1432), .none, (.ref 1433), (.ref 1434), (.ref 1435), (.int 2257 0), (.int 906 0), (.str (.ofString "/claim/cut.py") 2258)]), #[]⟩
def fd1437 : FuncData := fdO (topSt 48) (.ofString "_parse_der_item") .none (.ref 1436) (.str (.ofString "embit.bip32") 1929) none
def ob1437 (P : Params) : Obj := fnO fd1437 none
def ob1441 (P : Params) : Obj := ⟨(.type "code"), none, (.fields #[(.str (.ofString "parse_path") 2260), (.str (.ofString "parse_path") 2261), (.str (.ofString "/claim/cut.py") 2262), (.int 911 0), (.int 1 0), (.int 0 0), (.int 0 0), (.int 3 0), (.ref 1438), (.bool true), (.int 181 0), (.ref 1439), .none, .none, .none, (.ref 1440), (.int 2263 0), (.int 911 0), (.str (.ofString "/claim/cut.py") 2264)]), #[]⟩
def fd1442 : FuncData := fdO (topSt 49) (.ofString "parse_path") .none (.ref 1441) (.str (.ofString "embit.bip32") 1929) none
def ob1442 (P : Params) : Obj := fnO fd1442 none
def ob1448 (P : Params) : Obj := ⟨(.type "code"), none, (.fields #[(.str (.ofString "_law_marks") 2268), (.str (.ofString "_law_marks") 2269), (.str (.ofString "/claim/cut.py") 2270), (.int 919 0), (.int 0 0), (.int 0 0), (.int 0 0), (.int 3 0), (.ref 1443), (.bool true), (.int 181 0), (.ref 1444), .none, (.ref 1445), (.ref 1446), (.ref 1447), (.int 2271 0), (.int 919 0), (.str (.ofString "/claim/cut.py") 2272)]), #[]⟩
def fd1449 : FuncData := fdO (topSt 51) (.ofString "_law_marks") .none (.ref 1448) (.str (.ofString "law_bh0021_01") 2266) none
def ob1449 (P : Params) : Obj := fnO fd1449 none
def ob1450 (P : Params) : Obj := ⟨(.type "list"), none, (.seq #[(.str (.ofString "main") 2274), (.str (.ofString "test") 2275), (.str (.ofString "regtest") 2276), (.str (.ofString "signet") 2277)] 0), #[]⟩
def ob1456 (P : Params) : Obj := ⟨(.type "code"), none, (.fields #[(.str (.ofString "_law_made") 2279), (.str (.ofString "_law_made") 2280), (.str (.ofString "/claim/cut.py") 2281), (.int 922 0), (.int 1 0), (.int 0 0), (.int 0 0), (.int 3 0), (.ref 1451), (.bool true), (.int 181 0), (.ref 1452), .none, (.ref 1453), (.ref 1454), (.ref 1455), (.int 2296 0), (.int 922 0), (.str (.ofString "/claim/cut.py") 2297)]), #[]⟩
def fd1457 : FuncData := fdO (topSt 53) (.ofString "_law_made") .none (.ref 1456) (.str (.ofString "law_bh0021_01") 2266) none
def ob1457 (P : Params) : Obj := fnO fd1457 none
def ob1463 (P : Params) : Obj := ⟨(.type "code"), none, (.fields #[(.str (.ofString "_law_wrong") 2299), (.str (.ofString "_law_wrong") 2300), (.str (.ofString "/claim/cut.py") 2301), (.int 932 0), (.int 3 0), (.int 0 0), (.int 0 0), (.int 3 0), (.ref 1458), (.bool true), (.int 181 0), (.ref 1459), .none, (.ref 1460), (.ref 1461), (.ref 1462), (.int 2305 0), (.int 932 0), (.str (.ofString "/claim/cut.py") 2306)]), #[]⟩
def fd1464 : FuncData := fdO (topSt 54) (.ofString "_law_wrong") .none (.ref 1463) (.str (.ofString "law_bh0021_01") 2266) none
def ob1464 (P : Params) : Obj := fnO fd1464 none
def ob1470 (P : Params) : Obj := ⟨(.type "code"), none, (.fields #[(.str (.ofString "_law_public") 2308), (.str (.ofString "_law_public") 2309), (.str (.ofString "/claim/cut.py") 2310), (.int 938 0), (.int 1 0), (.int 0 0), (.int 0 0), (.int 3 0), (.ref 1465), (.bool true), (.int 181 0), (.ref 1466), .none, (.ref 1467), (.ref 1468), (.ref 1469), (.int 2312 0), (.int 938 0), (.str (.ofString "/claim/cut.py") 2313)]), #[]⟩
def fd1471 : FuncData := fdO (topSt 55) (.ofString "_law_public") .none (.ref 1470) (.str (.ofString "law_bh0021_01") 2266) none
def ob1471 (P : Params) : Obj := fnO fd1471 none
def ob1477 (P : Params) : Obj := ⟨(.type "code"), none, (.fields #[(.str (.ofString "_law_read") 2315), (.str (.ofString "_law_read") 2316), (.str (.ofString "/claim/cut.py") 2317), (.int 943 0), (.int 1 0), (.int 0 0), (.int 0 0), (.int 3 0), (.ref 1472), (.bool true), (.int 181 0), (.ref 1473), .none, (.ref 1474), (.ref 1475), (.ref 1476), (.int 2319 0), (.int 943 0), (.str (.ofString "/claim/cut.py") 2320)]), #[]⟩
def fd1478 : FuncData := fdO (topSt 56) (.ofString "_law_read") .none (.ref 1477) (.str (.ofString "law_bh0021_01") 2266) none
def ob1478 (P : Params) : Obj := fnO fd1478 none
def ob1484 (P : Params) : Obj := ⟨(.type "code"), none, (.fields #[(.str (.ofString "_law_path") 2322), (.str (.ofString "_law_path") 2323), (.str (.ofString "/claim/cut.py") 2324), (.int 948 0), (.int 1 0), (.int 0 0), (.int 0 0), (.int 3 0), (.ref 1479), (.bool true), (.int 181 0), (.ref 1480), .none, (.ref 1481), (.ref 1482), (.ref 1483), (.int 2329 0), (.int 948 0), (.str (.ofString "/claim/cut.py") 2330)]), #[]⟩
def fd1485 : FuncData := fdO (topSt 57) (.ofString "_law_path") .none (.ref 1484) (.str (.ofString "law_bh0021_01") 2266) none
def ob1485 (P : Params) : Obj := fnO fd1485 none
def ob1489 (P : Params) : Obj := ⟨(.type "code"), none, (.fields #[(.str (.ofString "law") 2332), (.str (.ofString "law") 2333), (.str (.ofString "/claim/cut.py") 2334), (.int 953 0), (.int 1 0), (.int 0 0), (.int 0 0), (.int 3 0), (.ref 1486), (.bool true), (.int 181 0), (.ref 1487), .none, .none, .none, (.ref 1488), (.int 2335 0), (.int 953 0), (.str (.ofString "/claim/cut.py") 2336)]), #[]⟩
def fd1490 : FuncData := fdO (topSt 58) (.ofString "law") .none (.ref 1489) (.str (.ofString "law_bh0021_01") 2266) none
def ob1490 (P : Params) : Obj := fnO fd1490 none
def KF (P : Params) : Frag := [(2, ob2 P), (3, ob3 P), (34, ob34 P), (40, ob40 P), (41, ob41 P), (54, ob54 P), (55, ob55 P), (57, ob57 P), (58, ob58 P), (70, ob70 P), (76, ob76 P), (77, ob77 P), (78, ob78 P), (79, ob79 P), (92, ob92 P), (93, ob93 P), (103, ob103 P), (104, ob104 P), (110, ob110 P), (111, ob111 P), (117, ob117 P), (118, ob118 P), (124, ob124 P), (125, ob125 P), (131, ob131 P), (132, ob132 P), (138, ob138 P), (139, ob139 P), (145, ob145 P), (146, ob146 P), (152, ob152 P), (153, ob153 P), (159, ob159 P), (160, ob160 P), (161, ob161 P), (167, ob167 P), (168, ob168 P), (174, ob174 P), (175, ob175 P), (176, ob176 P), (177, ob177 P), (178, ob178 P), (179, ob179 P), (180, ob180 P), (189, ob189 P), (190, ob190 P), (206, ob206 P), (207, ob207 P), (233, ob233 P), (234, ob234 P), (236, ob236 P), (237, ob237 P), (238, ob238 P), (251, ob251 P), (252, ob252 P), (274, ob274 P), (280, ob280 P), (281, ob281 P), (287, ob287 P), (288, ob288 P), (379, ob379 P), (380, ob380 P), (411, ob411 P), (417, ob417 P), (418, ob418 P), (476, ob476 P), (477, ob477 P), (493, ob493 P), (494, ob494 P), (766, ob766 P), (767, ob767 P), (768, ob768 P), (769, ob769 P), (783, ob783 P), (784, ob784 P), (831, ob831 P), (832, ob832 P), (888, ob888 P), (889, ob889 P), (911, ob911 P), (917, ob917 P), (918, ob918 P), (924, ob924 P), (925, ob925 P), (926, ob926 P), (927, ob927 P), (934, ob934 P), (935, ob935 P), (963, ob963 P), (964, ob964 P), (1011, ob1011 P), (1012, ob1012 P), (1013, ob1013 P), (1050, ob1050 P), (1051, ob1051 P), (1061, ob1061 P), (1067, ob1067 P), (1068, ob1068 P), (1140, ob1140 P), (1141, ob1141 P), (1183, ob1183 P), (1184, ob1184 P), (1190, ob1190 P), (1191, ob1191 P), (1192, ob1192 P), (1193, ob1193 P), (1200, ob1200 P), (1201, ob1201 P), (1202, ob1202 P), (1204, ob1204 P), (1205, ob1205 P), (1216, ob1216 P), (1217, ob1217 P), (1227, ob1227 P), (1233, ob1233 P), (1234, ob1234 P), (1251, ob1251 P), (1252, ob1252 P), (1253, ob1253 P), (1254, ob1254 P), (1269, ob1269 P), (1270, ob1270 P), (1271, ob1271 P), (1280, ob1280 P), (1286, ob1286 P), (1287, ob1287 P), (1288, ob1288 P), (1294, ob1294 P), (1295, ob1295 P), (1319, ob1319 P), (1320, ob1320 P), (1321, ob1321 P), (1322, ob1322 P), (1324, ob1324 P), (1330, ob1330 P), (1331, ob1331 P), (1419, ob1419 P), (1420, ob1420 P), (1423, ob1423 P), (1429, ob1429 P), (1430, ob1430 P), (1436, ob1436 P), (1437, ob1437 P), (1441, ob1441 P), (1442, ob1442 P), (1448, ob1448 P), (1449, ob1449 P), (1450, ob1450 P), (1456, ob1456 P), (1457, ob1457 P), (1463, ob1463 P), (1464, ob1464 P), (1470, ob1470 P), (1471, ob1471 P), (1477, ob1477 P), (1478, ob1478 P), (1484, ob1484 P), (1485, ob1485 P), (1489, ob1489 P), (1490, ob1490 P)]
theorem lk41 (P : Params) : (KF P).lookup 41 = some (ob41 P) := by kernel_rfl
theorem lk55 (P : Params) : (KF P).lookup 55 = some (ob55 P) := by kernel_rfl
theorem lk77 (P : Params) : (KF P).lookup 77 = some (ob77 P) := by kernel_rfl
theorem lk104 (P : Params) : (KF P).lookup 104 = some (ob104 P) := by kernel_rfl
theorem lk111 (P : Params) : (KF P).lookup 111 = some (ob111 P) := by kernel_rfl
theorem lk118 (P : Params) : (KF P).lookup 118 = some (ob118 P) := by kernel_rfl
theorem lk125 (P : Params) : (KF P).lookup 125 = some (ob125 P) := by kernel_rfl
theorem lk132 (P : Params) : (KF P).lookup 132 = some (ob132 P) := by kernel_rfl
theorem lk139 (P : Params) : (KF P).lookup 139 = some (ob139 P) := by kernel_rfl
theorem lk146 (P : Params) : (KF P).lookup 146 = some (ob146 P) := by kernel_rfl
theorem lk153 (P : Params) : (KF P).lookup 153 = some (ob153 P) := by kernel_rfl
theorem lk160 (P : Params) : (KF P).lookup 160 = some (ob160 P) := by kernel_rfl
theorem lk168 (P : Params) : (KF P).lookup 168 = some (ob168 P) := by kernel_rfl
theorem lk175 (P : Params) : (KF P).lookup 175 = some (ob175 P) := by kernel_rfl
theorem lk207 (P : Params) : (KF P).lookup 207 = some (ob207 P) := by kernel_rfl
theorem lk234 (P : Params) : (KF P).lookup 234 = some (ob234 P) := by kernel_rfl
theorem lk281 (P : Params) : (KF P).lookup 281 = some (ob281 P) := by kernel_rfl
theorem lk288 (P : Params) : (KF P).lookup 288 = some (ob288 P) := by kernel_rfl
theorem lk380 (P : Params) : (KF P).lookup 380 = some (ob380 P) := by kernel_rfl
theorem lk418 (P : Params) : (KF P).lookup 418 = some (ob418 P) := by kernel_rfl
theorem lk477 (P : Params) : (KF P).lookup 477 = some (ob477 P) := by kernel_rfl
theorem lk767 (P : Params) : (KF P).lookup 767 = some (ob767 P) := by kernel_rfl
theorem lk784 (P : Params) : (KF P).lookup 784 = some (ob784 P) := by kernel_rfl
theorem lk918 (P : Params) : (KF P).lookup 918 = some (ob918 P) := by kernel_rfl
theorem lk925 (P : Params) : (KF P).lookup 925 = some (ob925 P) := by kernel_rfl
theorem lk935 (P : Params) : (KF P).lookup 935 = some (ob935 P) := by kernel_rfl
theorem lk964 (P : Params) : (KF P).lookup 964 = some (ob964 P) := by kernel_rfl
theorem lk1012 (P : Params) : (KF P).lookup 1012 = some (ob1012 P) := by kernel_rfl
theorem lk1068 (P : Params) : (KF P).lookup 1068 = some (ob1068 P) := by kernel_rfl
theorem lk1141 (P : Params) : (KF P).lookup 1141 = some (ob1141 P) := by kernel_rfl
theorem lk1184 (P : Params) : (KF P).lookup 1184 = some (ob1184 P) := by kernel_rfl
theorem lk1191 (P : Params) : (KF P).lookup 1191 = some (ob1191 P) := by kernel_rfl
theorem lk1201 (P : Params) : (KF P).lookup 1201 = some (ob1201 P) := by kernel_rfl
theorem lk1234 (P : Params) : (KF P).lookup 1234 = some (ob1234 P) := by kernel_rfl
theorem lk1252 (P : Params) : (KF P).lookup 1252 = some (ob1252 P) := by kernel_rfl
theorem lk1270 (P : Params) : (KF P).lookup 1270 = some (ob1270 P) := by kernel_rfl
theorem lk1287 (P : Params) : (KF P).lookup 1287 = some (ob1287 P) := by kernel_rfl
theorem lk1295 (P : Params) : (KF P).lookup 1295 = some (ob1295 P) := by kernel_rfl
theorem lk1320 (P : Params) : (KF P).lookup 1320 = some (ob1320 P) := by kernel_rfl
theorem lk1331 (P : Params) : (KF P).lookup 1331 = some (ob1331 P) := by kernel_rfl
theorem lk1430 (P : Params) : (KF P).lookup 1430 = some (ob1430 P) := by kernel_rfl
theorem lk1437 (P : Params) : (KF P).lookup 1437 = some (ob1437 P) := by kernel_rfl
theorem lk1442 (P : Params) : (KF P).lookup 1442 = some (ob1442 P) := by kernel_rfl
theorem lk1449 (P : Params) : (KF P).lookup 1449 = some (ob1449 P) := by kernel_rfl
theorem lk1457 (P : Params) : (KF P).lookup 1457 = some (ob1457 P) := by kernel_rfl
theorem lk1464 (P : Params) : (KF P).lookup 1464 = some (ob1464 P) := by kernel_rfl
theorem lk1471 (P : Params) : (KF P).lookup 1471 = some (ob1471 P) := by kernel_rfl
theorem lk1478 (P : Params) : (KF P).lookup 1478 = some (ob1478 P) := by kernel_rfl
theorem lk1485 (P : Params) : (KF P).lookup 1485 = some (ob1485 P) := by kernel_rfl
theorem lk1490 (P : Params) : (KF P).lookup 1490 = some (ob1490 P) := by kernel_rfl
theorem cd41 (P : Params) : codeIn (KF P) fd41.code fd41.qualname = true := by kernel_rfl
theorem cd55 (P : Params) : codeIn (KF P) fd55.code fd55.qualname = true := by kernel_rfl
theorem cd77 (P : Params) : codeIn (KF P) fd77.code fd77.qualname = true := by kernel_rfl
theorem cd104 (P : Params) : codeIn (KF P) fd104.code fd104.qualname = true := by kernel_rfl
theorem cd111 (P : Params) : codeIn (KF P) fd111.code fd111.qualname = true := by kernel_rfl
theorem cd118 (P : Params) : codeIn (KF P) fd118.code fd118.qualname = true := by kernel_rfl
theorem cd125 (P : Params) : codeIn (KF P) fd125.code fd125.qualname = true := by kernel_rfl
theorem cd132 (P : Params) : codeIn (KF P) fd132.code fd132.qualname = true := by kernel_rfl
theorem cd139 (P : Params) : codeIn (KF P) fd139.code fd139.qualname = true := by kernel_rfl
theorem cd146 (P : Params) : codeIn (KF P) fd146.code fd146.qualname = true := by kernel_rfl
theorem cd153 (P : Params) : codeIn (KF P) fd153.code fd153.qualname = true := by kernel_rfl
theorem cd160 (P : Params) : codeIn (KF P) fd160.code fd160.qualname = true := by kernel_rfl
theorem cd168 (P : Params) : codeIn (KF P) fd168.code fd168.qualname = true := by kernel_rfl
theorem cd175 (P : Params) : codeIn (KF P) fd175.code fd175.qualname = true := by kernel_rfl
theorem cd207 (P : Params) : codeIn (KF P) fd207.code fd207.qualname = true := by kernel_rfl
theorem cd234 (P : Params) : codeIn (KF P) fd234.code fd234.qualname = true := by kernel_rfl
theorem cd281 (P : Params) : codeIn (KF P) fd281.code fd281.qualname = true := by kernel_rfl
theorem cd288 (P : Params) : codeIn (KF P) fd288.code fd288.qualname = true := by kernel_rfl
theorem cd380 (P : Params) : codeIn (KF P) fd380.code fd380.qualname = true := by kernel_rfl
theorem cd418 (P : Params) : codeIn (KF P) fd418.code fd418.qualname = true := by kernel_rfl
theorem cd477 (P : Params) : codeIn (KF P) fd477.code fd477.qualname = true := by kernel_rfl
theorem cd767 (P : Params) : codeIn (KF P) fd767.code fd767.qualname = true := by kernel_rfl
theorem cd784 (P : Params) : codeIn (KF P) fd784.code fd784.qualname = true := by kernel_rfl
theorem cd918 (P : Params) : codeIn (KF P) fd918.code fd918.qualname = true := by kernel_rfl
theorem cd925 (P : Params) : codeIn (KF P) fd925.code fd925.qualname = true := by kernel_rfl
theorem cd935 (P : Params) : codeIn (KF P) fd935.code fd935.qualname = true := by kernel_rfl
theorem cd964 (P : Params) : codeIn (KF P) fd964.code fd964.qualname = true := by kernel_rfl
theorem cd1012 (P : Params) : codeIn (KF P) fd1012.code fd1012.qualname = true := by kernel_rfl
theorem cd1068 (P : Params) : codeIn (KF P) fd1068.code fd1068.qualname = true := by kernel_rfl
theorem cd1141 (P : Params) : codeIn (KF P) fd1141.code fd1141.qualname = true := by kernel_rfl
theorem cd1184 (P : Params) : codeIn (KF P) fd1184.code fd1184.qualname = true := by kernel_rfl
theorem cd1191 (P : Params) : codeIn (KF P) fd1191.code fd1191.qualname = true := by kernel_rfl
theorem cd1201 (P : Params) : codeIn (KF P) fd1201.code fd1201.qualname = true := by kernel_rfl
theorem cd1234 (P : Params) : codeIn (KF P) fd1234.code fd1234.qualname = true := by kernel_rfl
theorem cd1252 (P : Params) : codeIn (KF P) fd1252.code fd1252.qualname = true := by kernel_rfl
theorem cd1270 (P : Params) : codeIn (KF P) fd1270.code fd1270.qualname = true := by kernel_rfl
theorem cd1287 (P : Params) : codeIn (KF P) fd1287.code fd1287.qualname = true := by kernel_rfl
theorem cd1295 (P : Params) : codeIn (KF P) fd1295.code fd1295.qualname = true := by kernel_rfl
theorem cd1320 (P : Params) : codeIn (KF P) fd1320.code fd1320.qualname = true := by kernel_rfl
theorem cd1331 (P : Params) : codeIn (KF P) fd1331.code fd1331.qualname = true := by kernel_rfl
theorem cd1430 (P : Params) : codeIn (KF P) fd1430.code fd1430.qualname = true := by kernel_rfl
theorem cd1437 (P : Params) : codeIn (KF P) fd1437.code fd1437.qualname = true := by kernel_rfl
theorem cd1442 (P : Params) : codeIn (KF P) fd1442.code fd1442.qualname = true := by kernel_rfl
theorem cd1449 (P : Params) : codeIn (KF P) fd1449.code fd1449.qualname = true := by kernel_rfl
theorem cd1457 (P : Params) : codeIn (KF P) fd1457.code fd1457.qualname = true := by kernel_rfl
theorem cd1464 (P : Params) : codeIn (KF P) fd1464.code fd1464.qualname = true := by kernel_rfl
theorem cd1471 (P : Params) : codeIn (KF P) fd1471.code fd1471.qualname = true := by kernel_rfl
theorem cd1478 (P : Params) : codeIn (KF P) fd1478.code fd1478.qualname = true := by kernel_rfl
theorem cd1485 (P : Params) : codeIn (KF P) fd1485.code fd1485.qualname = true := by kernel_rfl
theorem cd1490 (P : Params) : codeIn (KF P) fd1490.code fd1490.qualname = true := by kernel_rfl
def kfA : List Addr := [2, 3, 34, 40, 41, 54, 55, 57, 58, 70, 76, 77, 78, 79, 92, 93, 103, 104, 110, 111, 117, 118, 124, 125, 131, 132, 138, 139, 145, 146, 152, 153, 159, 160, 161, 167, 168, 174, 175, 176, 177, 178, 179, 180, 189, 190, 206, 207, 233, 234, 236, 237, 238, 251, 252, 274, 280, 281, 287, 288, 379, 380, 411, 417, 418, 476, 477, 493, 494, 766, 767, 768, 769, 783, 784, 831, 832, 888, 889, 911, 917, 918, 924, 925, 926, 927, 934, 935, 963, 964, 1011, 1012, 1013, 1050, 1051, 1061, 1067, 1068, 1140, 1141, 1183, 1184, 1190, 1191, 1192, 1193, 1200, 1201, 1202, 1204, 1205, 1216, 1217, 1227, 1233, 1234, 1251, 1252, 1253, 1254, 1269, 1270, 1271, 1280, 1286, 1287, 1288, 1294, 1295, 1319, 1320, 1321, 1322, 1324, 1330, 1331, 1419, 1420, 1423, 1429, 1430, 1436, 1437, 1441, 1442, 1448, 1449, 1450, 1456, 1457, 1463, 1464, 1470, 1471, 1477, 1478, 1484, 1485, 1489, 1490]
def gls : List (Str × Value) := [(.ofString "Sha256", (.ref 58)), (.ofString "hashlib", (.ref 93)), (.ofString "double_sha256", (.ref 104)), (.ofString "B58_DIGITS", (.str (.ofString "123456789ABCDEFGHJKLMNPQRSTUVWXYZabcdefghijkmnopqrstuvwxyz") 322)), (.ofString "encode", (.ref 111)), (.ofString "decode", (.ref 118)), (.ofString "encode_check", (.ref 125)), (.ofString "decode_check", (.ref 132)), (.ofString "EC_COMPRESSED", (.int 258 367)), (.ofString "EC_UNCOMPRESSED", (.int 2 369)), (.ofString "_PRIME", (.int 57896044618658097711785492504343953926634992332820282019728792003956564819949 371)), (.ofString "_BASE", (.int 47962653777612059811531418077271348761744880276845910084186123193600379925034 373)), (.ofString "_number", (.ref 139)), (.ofString "_octets", (.ref 146)), (.ofString "ec_seckey_verify", (.ref 153)), (.ofString "ec_pubkey_create", (.ref 160)), (.ofString "ec_pubkey_serialize", (.ref 168)), (.ofString "ec_pubkey_parse", (.ref 175)), (.ofString "NETWORKS", (.ref 176)), (.ofString "_index", (.ref 207)), (.ofString "BytesIO", (.ref 494)), (.ofString "PublicKey", (.ref 1051)), (.ofString "PrivateKey", (.ref 1205)), (.ofString "HARDENED_INDEX", (.int 2147483648 1931)), (.ofString "HDError", (.ref 1217)), (.ofString "HDKey", (.ref 1420)), (.ofString "detect_version", (.ref 1430)), (.ofString "_parse_der_item", (.ref 1437)), (.ofString "parse_path", (.ref 1442)), (.ofString "_law_marks", (.ref 1449)), (.ofString "_law_nets", (.ref 1450)), (.ofString "_law_made", (.ref 1457)), (.ofString "_law_wrong", (.ref 1464)), (.ofString "_law_public", (.ref 1471)), (.ofString "_law_read", (.ref 1478)), (.ofString "_law_path", (.ref 1485))]
theorem gls_ok (P : Params) : (gls.map fun p => nsIn (KF P) mainGlobals p.1) = gls.map fun p => some (some p.2) := by kernel_rfl
theorem at_of_map {α β : Type} {l : List α} {f g : α → β} (e : l.map f = l.map g) (i : Nat) {a : α} (h : l[i]? = some a) : f a = g a := by
  have := congrArg (fun x => x[i]?) e
  simpa [h] using this
theorem g_Sha256 (P : Params) : nsIn (KF P) mainGlobals (.ofString "Sha256") = some (some (.ref 58)) := at_of_map (gls_ok P) 0 rfl
theorem g_hashlib (P : Params) : nsIn (KF P) mainGlobals (.ofString "hashlib") = some (some (.ref 93)) := at_of_map (gls_ok P) 1 rfl
theorem g_double_sha256 (P : Params) : nsIn (KF P) mainGlobals (.ofString "double_sha256") = some (some (.ref 104)) := at_of_map (gls_ok P) 2 rfl
theorem g_B58_DIGITS (P : Params) : nsIn (KF P) mainGlobals (.ofString "B58_DIGITS") = some (some (.str (.ofString "123456789ABCDEFGHJKLMNPQRSTUVWXYZabcdefghijkmnopqrstuvwxyz") 322)) := at_of_map (gls_ok P) 3 rfl
theorem g_encode (P : Params) : nsIn (KF P) mainGlobals (.ofString "encode") = some (some (.ref 111)) := at_of_map (gls_ok P) 4 rfl
theorem g_decode (P : Params) : nsIn (KF P) mainGlobals (.ofString "decode") = some (some (.ref 118)) := at_of_map (gls_ok P) 5 rfl
theorem g_encode_check (P : Params) : nsIn (KF P) mainGlobals (.ofString "encode_check") = some (some (.ref 125)) := at_of_map (gls_ok P) 6 rfl
theorem g_decode_check (P : Params) : nsIn (KF P) mainGlobals (.ofString "decode_check") = some (some (.ref 132)) := at_of_map (gls_ok P) 7 rfl
theorem g_EC_COMPRESSED (P : Params) : nsIn (KF P) mainGlobals (.ofString "EC_COMPRESSED") = some (some (.int 258 367)) := at_of_map (gls_ok P) 8 rfl
theorem g_EC_UNCOMPRESSED (P : Params) : nsIn (KF P) mainGlobals (.ofString "EC_UNCOMPRESSED") = some (some (.int 2 369)) := at_of_map (gls_ok P) 9 rfl
theorem g__PRIME (P : Params) : nsIn (KF P) mainGlobals (.ofString "_PRIME") = some (some (.int 57896044618658097711785492504343953926634992332820282019728792003956564819949 371)) := at_of_map (gls_ok P) 10 rfl
theorem g__BASE (P : Params) : nsIn (KF P) mainGlobals (.ofString "_BASE") = some (some (.int 47962653777612059811531418077271348761744880276845910084186123193600379925034 373)) := at_of_map (gls_ok P) 11 rfl
theorem g__number (P : Params) : nsIn (KF P) mainGlobals (.ofString "_number") = some (some (.ref 139)) := at_of_map (gls_ok P) 12 rfl
theorem g__octets (P : Params) : nsIn (KF P) mainGlobals (.ofString "_octets") = some (some (.ref 146)) := at_of_map (gls_ok P) 13 rfl
theorem g_ec_seckey_verify (P : Params) : nsIn (KF P) mainGlobals (.ofString "ec_seckey_verify") = some (some (.ref 153)) := at_of_map (gls_ok P) 14 rfl
theorem g_ec_pubkey_create (P : Params) : nsIn (KF P) mainGlobals (.ofString "ec_pubkey_create") = some (some (.ref 160)) := at_of_map (gls_ok P) 15 rfl
theorem g_ec_pubkey_serialize (P : Params) : nsIn (KF P) mainGlobals (.ofString "ec_pubkey_serialize") = some (some (.ref 168)) := at_of_map (gls_ok P) 16 rfl
theorem g_ec_pubkey_parse (P : Params) : nsIn (KF P) mainGlobals (.ofString "ec_pubkey_parse") = some (some (.ref 175)) := at_of_map (gls_ok P) 17 rfl
theorem g_NETWORKS (P : Params) : nsIn (KF P) mainGlobals (.ofString "NETWORKS") = some (some (.ref 176)) := at_of_map (gls_ok P) 18 rfl
theorem g__index (P : Params) : nsIn (KF P) mainGlobals (.ofString "_index") = some (some (.ref 207)) := at_of_map (gls_ok P) 19 rfl
theorem g_BytesIO (P : Params) : nsIn (KF P) mainGlobals (.ofString "BytesIO") = some (some (.ref 494)) := at_of_map (gls_ok P) 20 rfl
theorem g_PublicKey (P : Params) : nsIn (KF P) mainGlobals (.ofString "PublicKey") = some (some (.ref 1051)) := at_of_map (gls_ok P) 21 rfl
theorem g_PrivateKey (P : Params) : nsIn (KF P) mainGlobals (.ofString "PrivateKey") = some (some (.ref 1205)) := at_of_map (gls_ok P) 22 rfl
theorem g_HARDENED_INDEX (P : Params) : nsIn (KF P) mainGlobals (.ofString "HARDENED_INDEX") = some (some (.int 2147483648 1931)) := at_of_map (gls_ok P) 23 rfl
theorem g_HDError (P : Params) : nsIn (KF P) mainGlobals (.ofString "HDError") = some (some (.ref 1217)) := at_of_map (gls_ok P) 24 rfl
theorem g_HDKey (P : Params) : nsIn (KF P) mainGlobals (.ofString "HDKey") = some (some (.ref 1420)) := at_of_map (gls_ok P) 25 rfl
theorem g_detect_version (P : Params) : nsIn (KF P) mainGlobals (.ofString "detect_version") = some (some (.ref 1430)) := at_of_map (gls_ok P) 26 rfl
theorem g__parse_der_item (P : Params) : nsIn (KF P) mainGlobals (.ofString "_parse_der_item") = some (some (.ref 1437)) := at_of_map (gls_ok P) 27 rfl
theorem g_parse_path (P : Params) : nsIn (KF P) mainGlobals (.ofString "parse_path") = some (some (.ref 1442)) := at_of_map (gls_ok P) 28 rfl
theorem g__law_marks (P : Params) : nsIn (KF P) mainGlobals (.ofString "_law_marks") = some (some (.ref 1449)) := at_of_map (gls_ok P) 29 rfl
theorem g__law_nets (P : Params) : nsIn (KF P) mainGlobals (.ofString "_law_nets") = some (some (.ref 1450)) := at_of_map (gls_ok P) 30 rfl
theorem g__law_made (P : Params) : nsIn (KF P) mainGlobals (.ofString "_law_made") = some (some (.ref 1457)) := at_of_map (gls_ok P) 31 rfl
theorem g__law_wrong (P : Params) : nsIn (KF P) mainGlobals (.ofString "_law_wrong") = some (some (.ref 1464)) := at_of_map (gls_ok P) 32 rfl
theorem g__law_public (P : Params) : nsIn (KF P) mainGlobals (.ofString "_law_public") = some (some (.ref 1471)) := at_of_map (gls_ok P) 33 rfl
theorem g__law_read (P : Params) : nsIn (KF P) mainGlobals (.ofString "_law_read") = some (some (.ref 1478)) := at_of_map (gls_ok P) 34 rfl
theorem g__law_path (P : Params) : nsIn (KF P) mainGlobals (.ofString "_law_path") = some (some (.ref 1485)) := at_of_map (gls_ok P) 35 rfl
def bls : List (Str × Value) := [(.ofString "int", .type "int"), (.ofString "bytes", .type "bytes"), (.ofString "len", .builtin "len"), (.ofString "type", .type "type"), (.ofString "bool", .type "bool"), (.ofString "bytearray", .type "bytearray"), (.ofString "object", .type "object"), (.ofString "min", .builtin "min"), (.ofString "divmod", .builtin "divmod"), (.ofString "zip", .type "zip"), (.ofString "range", .type "range"), (.ofString "str", .type "str"), (.ofString "isinstance", .builtin "isinstance"), (.ofString "Exception", .type "Exception")]
theorem bls_none (P : Params) : (bls.map fun p => nsIn (KF P) mainGlobals p.1) = bls.map fun _ => some none := by kernel_rfl
theorem bls_boot : (bls.map fun p => bootBuiltins p.1) = bls.map fun p => some p.2 := by kernel_rfl
theorem bls_name : (bls.map fun p => p.1 == ("__name__" : Str)) = bls.map fun _ => false := by kernel_rfl

/-! the look at the top's heap: one pass over its objects -/
def pick : List Obj → Nat → List Nat → List Obj
  | [], _, _ => []
  | _ :: _, _, [] => []
  | o :: os, n, a :: as => match Nat.beq a n with
    | true => o :: pick os (n + 1) as
    | false => pick os (n + 1) (a :: as)
theorem pick_get : ∀ (os : List Obj) (n : Nat) (K : List (Nat × Obj)), pick os n (K.map (·.1)) = K.map (·.2) → ∀ (b : Nat) (y : Obj), (b, y) ∈ K → n ≤ b ∧ os[b - n]? = some y
  | [], n, [], _, _, _, hp => nomatch hp
  | [], n, q :: K, h, _, _, hp => by simp [pick] at h
  | o :: os, n, [], h, _, _, hp => nomatch hp
  | o :: os, n, q :: K, h, b, y, hp => by
    obtain ⟨a, x⟩ := q
    simp only [List.map_cons, pick] at h
    cases hb : Nat.beq a n with
    | true =>
      have e := Nat.eq_of_beq_eq_true hb
      subst e
      rw [hb] at h
      simp only [List.cons.injEq] at h
      obtain ⟨rfl, h⟩ := h
      rcases List.mem_cons.mp hp with hq | hp
      · cases hq
        exact ⟨Nat.le_refl _, by simp⟩
      · obtain ⟨h1, h2⟩ := pick_get os (a + 1) K h b y hp
        have e : b - a = (b - (a + 1)) + 1 := by omega
        refine ⟨by omega, ?_⟩
        rw [e, List.getElem?_cons_succ]
        exact h2
    | false =>
      rw [hb] at h
      obtain ⟨h1, h2⟩ := pick_get os (n + 1) ((a, x) :: K) h b y hp
      have e : b - n = (b - (n + 1)) + 1 := by omega
      refine ⟨by omega, ?_⟩
      rw [e, List.getElem?_cons_succ]
      exact h2

def unfreed (K : Frag) : Bool := K.all fun p => !p.2.isFreed
theorem mem_of_lookup {a : Nat} {o : Obj} : ∀ (K : List (Nat × Obj)), K.lookup a = some o → (a, o) ∈ K
  | [], h => by simp at h
  | (b, x) :: r, h => by
    rw [List.lookup_cons] at h
    split at h
    · rename_i hb
      have := eq_of_beq hb
      cases h
      subst this
      exact .head _
    · exact .tail _ (mem_of_lookup r h)
theorem get_of_objs {h : Heap} {a : Addr} {o : Obj} (z : h.objs[a]? = some o) (hfo : o.isFreed = false) : h.get? a = some o := by
  unfold Heap.get?
  rw [z]
  obtain ⟨c, d, dt, sl⟩ := o
  cases dt
  case freed => cases hfo
  all_goals rfl
theorem in_of_pick {K : Frag} {h : Heap} (hf : unfreed K = true) (e : pick h.objs.toList 0 (K.map (·.1)) = K.map (·.2)) : K.In h := by
  intro a o hl
  have hm : (a, o) ∈ K := mem_of_lookup K hl
  have z := (pick_get _ _ _ e a o hm).2
  rw [Nat.sub_zero, Array.getElem?_toList] at z
  refine get_of_objs z ?_
  have := List.all_eq_true.mp hf (a, o) hm
  simpa using this
def obsM (s : Shared) : List Obj := pick s.heap.objs.toList 0 kfA
theorem kfA_eq (P : Params) : (KF P).map (·.1) = kfA := by kernel_rfl
theorem kf_unfreed (P : Params) : unfreed (KF P) = true := by kernel_rfl
theorem kf_in (w : World) (s : Shared) (e : obsM s = (KF w.params).map (·.2)) : (KF w.params).In s.heap := by
  refine in_of_pick (kf_unfreed _) ?_
  rw [kfA_eq]
  exact e
def hookM : Hook where
  α := List Obj
  obs := obsM
  val := fun w => (KF w.params).map (·.2)
  says := fun w h => (KF w.params).In h
  of := kf_in
  keeps := fun _ _ _ x k => Frag.In.keeps x k
end Mine
end

section
set_option Elab.async false
set_option maxRecDepth 100000
open PySem PySem.W PyProof.Rows PySem.Calls
namespace Mine

abbrev PW : Program := PySem.Challenge.pw_bh0021_01

/-- what the walk knows of every heap that it meets -/
structure Gl (w : World) (mg mb : Str → Option Value) (h : Heap) : Prop where
  K : (KF w.params).In h
  g : h.Ns mainGlobals mg
  b : h.Ns builtinsNs mb
  nolimit : h.NoLimit
  builtins : ∀ x : Str, x ≠ "__name__" → mb x = bootBuiltins x
theorem Gl.keeps {w : World} {mg mb : Str → Option Value} {h h' : Heap} (G : Gl w mg mb h) (k : ∀ b o, h.get? b = some o → h'.get? b = some o) : Gl w mg mb h' :=
  ⟨G.K.keeps k, G.g.keeps k, G.b.keeps k, G.nolimit.keeps k, G.builtins⟩

/-- nothing that stood is turned -/
structure Ext (s s' : Shared) : Prop where
  keep : ∀ b o, s.heap.get? b = some o → s'.heap.get? b = some o
  gens : s'.gens = s.gens
  os : s'.os = s.os
theorem Ext.refl (s : Shared) : Ext s s := ⟨fun _ _ e => e, rfl, rfl⟩
theorem Ext.trans {a b c : Shared} (x : Ext a b) (y : Ext b c) : Ext a c := ⟨fun _ _ e => y.keep _ _ (x.keep _ _ e), y.gens.trans x.gens, y.os.trans x.os⟩

structure Cx where
  w : World
  mg : Str → Option Value
  mb : Str → Option Value
  g : Heap
  L : Addr
  gg : Array GenState
  oo : OsState
structure St (c : Cx) (m : Str → Option Value) (news : List (Addr × Obj)) (s : Shared) : Prop where
  G : Gl c.w c.mg c.mb c.g
  F : Fr c.g c.L s.heap m
  N : News c.g c.L s.heap news
  gens : s.gens = c.gg
  os : s.os = c.oo
theorem St.gl {c : Cx} {m news s} (S : St c m news s) : Gl c.w c.mg c.mb s.heap := S.G.keeps S.F.keep
theorem St.at {c : Cx} {m news} {s s' : Shared} (S : St c m news s) (eh : s'.heap = s.heap) (eg : s'.gens = s.gens) (eo : s'.os = s.os) : St c m news s' := by
  obtain ⟨h, g, d, t, o⟩ := s
  obtain ⟨h', g', d', t', o'⟩ := s'
  cases eh; cases eg; cases eo
  exact ⟨S.G, S.F, S.N, S.gens, S.os⟩
theorem St.ext {c : Cx} {m news} {s s' : Shared} (S : St c m news s) (x : Ext s s') : St c m news s' := by
  obtain ⟨oL, es, ep, hL, r⟩ := S.F.ns
  exact ⟨S.G, ⟨⟨oL, es, ep, x.keep _ _ hL, r⟩, fun b o e => x.keep _ _ (S.F.keep b o e), S.F.above⟩, fun p hp => ⟨x.keep _ _ (S.N p hp).1, (S.N p hp).2⟩, x.gens.trans S.gens, x.os.trans S.os⟩

abbrev MM (c : Cx) : Model := model PW c.w

/-! locals: names once, values by place -/
def look (ns : List Str) (vs : List (Option Value)) (x : Str) : Option Value := match ns, vs with
  | n :: ns, v :: vs => if x = n then v else look ns vs x
  | _, _ => none
def idxOk : List Str → Str → Nat → Bool
  | n :: _, x, 0 => n == x
  | n :: ns, x, i + 1 => n != x && idxOk ns x i
  | [], _, _ => false
theorem look_at : ∀ {ns : List Str} {vs : List (Option Value)} {x : Str} {i : Nat} {v : Value}, idxOk ns x i = true → vs[i]? = some (some v) → look ns vs x = some v
  | [], _, _, _, _, h, _ => by cases h
  | n :: ns, [], x, i, v, _, e => by simp at e
  | n :: ns, u :: vs, x, 0, v, h, e => by
    have := beq_iff_eq.mp h
    subst this
    simp at e
    simp [look, e]
  | n :: ns, u :: vs, x, i + 1, v, h, e => by
    simp only [idxOk, Bool.and_eq_true, bne_iff_ne, ne_eq] at h
    simp only [List.getElem?_cons_succ] at e
    unfold look
    rw [if_neg (Ne.symm h.1)]
    exact look_at h.2 e
theorem look_set : ∀ {ns : List Str} {vs : List (Option Value)} {x : Str} {i : Nat} {v : Value}, idxOk ns x i = true → ns.length = vs.length →
    (fun y => if y = x then some v else look ns vs y) = look ns (vs.set i (some v))
  | [], _, _, _, _, h, _ => by cases h
  | n :: ns, [], x, i, v, _, e => by simp at e
  | n :: ns, u :: vs, x, 0, v, h, e => by
    have := beq_iff_eq.mp h
    subst this
    funext y
    simp only [List.set_cons_zero, look]
    by_cases q : y = n <;> simp [q]
  | n :: ns, u :: vs, x, i + 1, v, h, e => by
    simp only [idxOk, Bool.and_eq_true, bne_iff_ne, ne_eq] at h
    have ih := look_set (ns := ns) (vs := vs) (x := x) (i := i) (v := v) h.2 (by simpa using e)
    funext y
    have ihy := congrFun ih y
    simp only [List.set_cons_succ, look]
    by_cases q : y = n
    · subst q
      simp [h.1]
    · simp only [q, if_false]
      exact ihy

def nmOk (env : Env) (x : Str) : Bool := decide (env.scope.kind = .function) && decide (env.kindOf x = some .local) && !(x == ("__debug__" : Str))
def glOk (env : Env) (x : Str) : Bool := decide (env.scope.kind = .function) && decide (env.kindOf x = some .globalImplicit) && !(x == ("__debug__" : Str)) && Nat.beq env.globals mainGlobals && Nat.beq env.builtins builtinsNs

/-- room on the stacks -/
structure Rm (A : Around) (n : Nat) : Prop where
  depth : A.depth + n < recursionLimit
  units : A.units + 10 * n < cLine
  guards : A.guards = some []
  calm : A.handled = none
theorem Rm.less {A : Around} {n k : Nat} (R : Rm A n) (h : k ≤ n := by decide) : Rm A k := ⟨by have := R.depth; omega, by have := R.units; omega, R.guards, R.calm⟩
theorem Rm.deeper {A : Around} {n : Nat} {env : Env} (R : Rm A (n + 1)) : Rm (A.deeper env) n := ⟨by have := R.depth; simp only [Around.deeper]; omega, by have := R.units; simp only [Around.deeper]; omega, R.guards, R.calm⟩
theorem Rm.in1 {A : Around} {n : Nat} (R : Rm A (n + 1)) : Rm A.in1 n := ⟨by have := R.depth; show A.depth + n < _; omega, by have := R.units; show A.units + 1 + 10 * n < _; omega, R.guards, R.calm⟩


/-- a code that holds no bytearray while it runs -/
def okc : Code → Bool
  | .builtin id _ => !(Builtin.Bytes.decodersThatHold.contains id)
  | _ => true
def Quiet (Γ : Ctx) : Prop := okc Γ.code = true ∧ ∀ x ∈ Γ.below, okc x.1 = true
def QuietBelow (Γ : Ctx) : Prop := ∀ x ∈ Γ.below, okc x.1 = true
/-- the judgement: in every context that the Around allows, and whose stack is quiet -/
def wpN {α : Type} (M : Model) (A : Around) (t : Sem α) (Q : α → Shared → Prop) (E : Value → Shared → Prop) (s : Shared) : Prop :=
  ∀ Γ p, Γ.In A → Quiet Γ → Sem.wp M Γ t (fun a _ s' => Q a s') (fun e _ s' => E e s') p s
def codeN (M : Model) (A : Around) (c : Code) (R : Result → Shared → Prop) (s : Shared) : Prop :=
  ∀ Γ p, Γ.code = c → Γ.Below A → QuietBelow Γ → wpCode M Γ R p s
theorem codeN.of {M : Model} {A : Around} {c : Code} {R : Result → Shared → Prop} {s : Shared} (h : codeAny M A c R s) : codeN M A c R s := fun Γ p hc hb _ => h Γ p hc hb
theorem codeN.mono {M : Model} {A : Around} {c : Code} {R R' : Result → Shared → Prop} {s : Shared} (h : codeN M A c R s) (hR : ∀ r s, R r s → R' r s) : codeN M A c R' s := fun Γ p hc hb q => wpCode_mono hR (h Γ p hc hb q)
/-- shut to the elaborator -/
structure W {α : Type} (c : Cx) (A : Around) (t : Sem α) (Q : α → Shared → Prop) (E : Value → Shared → Prop) (s : Shared) : Prop where intro ::
  out : wpN (model PW c.w) A t Q E s
section
variable {α β : Type} {c : Cx} {A : Around} {Q : α → Shared → Prop} {E : Value → Shared → Prop} {s : Shared}
theorem W.mk {t : Sem α} (h : wpAny (model PW c.w) A t Q E s) : W c A t Q E s := ⟨fun Γ p hΓ _ => h Γ p hΓ⟩
theorem W.mono {t : Sem α} {Q' : α → Shared → Prop} {E' : Value → Shared → Prop} (h : W c A t Q E s) (hQ : ∀ a s, Q a s → Q' a s) (hE : ∀ e s, E e s → E' e s) : W c A t Q' E' s :=
  ⟨fun Γ p hΓ q => Sem.wp_mono _ Γ t (fun a _ s => hQ a s) (fun e _ s => hE e s) p s (h.out Γ p hΓ q)⟩
theorem W.bind {Q : β → Shared → Prop} {m : Sem α} {f : α → Sem β} (h : W c A m (fun a s' => W c A (f a) Q E s') E s) : W c A (m >>= f) Q E s := ⟨fun Γ p hΓ q => by
  rw [Sem.wp_bind']
  exact Sem.wp_mono _ Γ m (fun a p' s' h' => h'.out Γ p' hΓ q) (fun _ _ _ h' => h') p s (h.out Γ p hΓ q)⟩
/-- one after the other -/
theorem W.then {Q : β → Shared → Prop} {P : α → Shared → Prop} {m : Sem α} {f : α → Sem β} (h : W c A m P E s) (k : ∀ a s', P a s' → W c A (f a) Q E s') : W c A (m >>= f) Q E s := W.bind (h.mono k fun _ _ q => q)
theorem W.pure {a : α} (h : Q a s) : W c A (Pure.pure a) Q E s := W.mk (wpAny_pure h)
theorem W.stand {β : Type} {pos : Pos} {f : Unit → Sem β} {Q : β → Shared → Prop} (h : W c A (f ()) Q E s) : W c A (standAt pos >>= f) Q E s := W.bind (W.mk (wpAny_standAt h))
theorem W.hold {vs : List Value} {m : Sem α} (h : W c A m Q E s) : W c A (holding vs m) Q E s := ⟨fun Γ p hΓ q => by rw [Sem.wp_holding]; exact h.out Γ p hΓ q⟩
theorem W.opr {vs : List Value} {m : Sem Value} {Q : Value → Shared → Prop} (h : W c A m Q E s) : W c A (operate vs m) Q E s := ⟨fun Γ p hΓ q => by rw [Sem.wp_operate]; exact h.out Γ p hΓ q⟩
theorem W.keep {vs : List Value} {m : Sem α} (h : W c A m Q E s) : W c A (m.keep vs) Q E s := ⟨fun Γ p hΓ q => by rw [Sem.wp_keep]; exact h.out Γ p hΓ q⟩
theorem W.onRaise {m : Sem α} {k : Value → Sem Unit} (h : W c A m Q (fun e s' => W c A (k e) (fun _ s'' => E e s'') E s') s) : W c A (m.onRaise k) Q E s := ⟨fun Γ p hΓ q => by
  rw [Sem.wp_onRaise]
  exact Sem.wp_mono _ Γ m (fun _ _ _ h' => h') (fun e p' s' h' => h'.out Γ p' hΓ q) p s (h.out Γ p hΓ q)⟩
theorem W.tryCatch {m : Sem α} {k : Value → Sem α} (h : W c A m Q (fun e s' => W c A (k e) Q E s') s) : W c A (MonadExcept.tryCatch m k) Q E s := ⟨fun Γ p hΓ q => by
  rw [Sem.wp_tryCatch']
  exact Sem.wp_mono _ Γ m (fun _ _ _ h' => h') (fun e p' s' h' => h'.out Γ p' hΓ q) p s (h.out Γ p hΓ q)⟩
theorem W.ite {p : Prop} [Decidable p] {a b : Sem α} (h : if p then W c A a Q E s else W c A b Q E s) : W c A (if p then a else b) Q E s := by
  by_cases q : p
  · rw [if_pos q] at h ⊢; exact h
  · rw [if_neg q] at h ⊢; exact h
theorem Quiet.enter {Γ : Ctx} (q : Quiet Γ) (cd : Code) (hd : Option Value) (p : Pos) : QuietBelow (Γ.enter cd hd p) := fun x hx => by
  rcases List.mem_cons.mp hx with rfl | hx
  · exact q.1
  · exact q.2 x hx
theorem W.run {Q : Value → Shared → Prop} {cd : Code} (h : codeN (model PW c.w) A cd (fun r s' => match r with | .ok (.ret v) => Q v s' | .ok _ => False | .error e => E e s') s) : W c A (runValue cd) Q E s :=
  ⟨fun Γ p hΓ q => by rw [Sem.wp_runValue]; exact h _ p rfl (hΓ.enter cd none p (by intro x; cases x)) (q.enter cd none p)⟩
theorem W.call {Q : Value → Shared → Prop} {f : Value} {pos : List Value} {kw : List (Str × Value)} (h : codeN (model PW c.w) A (.call f ⟨pos, kw⟩) (fun r s' => match r with | .ok (.ret v) => Q v s' | .ok _ => False | .error e => E e s') s) : W c A (PySem.call f pos kw) Q E s := W.run h
theorem W.runOwn {Q : Flow → Shared → Prop} {cd : Code} {env : Env} (h : codeN (model PW c.w) A cd (fun r s' => match r with | .ok f => Q f s' | .error e => cameBackBy (model PW c.w) A env E e s') s) : W c A (PySem.runOwn cd env none) Q E s := ⟨fun Γ p hΓ q => by
  unfold PySem.runOwn
  rw [Sem.wp_onRaise, Sem.wp_run]
  refine wpCode_mono (fun r s' hr => ?_) (h _ p rfl (hΓ.enter cd none p (by intro x; cases x)) (q.enter cd none p))
  match r, hr with
  | .ok f, hr => exact hr
  | .error e, hr => exact hr Γ p hΓ⟩
/-- a code by its tree -/
theorem codeN.tree {M : Model} {cd : Code} {R : Result → Shared → Prop} (ho : okc cd = true)
    (h : wpN M (A.under cd) (M.den cd) (fun fin s' => match fin with | .done f => R (.ok f) s' | .again c' => c'.quiet = true ∧ codeN M A c' R s') (fun e s' => R (.error e) s') s) : codeN M A cd R s := fun Γ p hc hΓ q => by
  rw [wpCode_iff_wp, hc]
  refine Sem.wp_mono M Γ _ (fun fin p' s' h' => ?_) (fun _ _ _ h' => h') p s (h Γ p (hc ▸ hΓ.in) ⟨by rw [hc]; exact ho, q⟩)
  cases fin with
  | done f => exact h'
  | again c' => exact ⟨h'.1, h'.2 (Γ.goto c') p' rfl (hΓ.goto c') q⟩
end

def notStar : Expr → Bool
  | .Starred _ _ => false
  | _ => true
theorem starEach_cons {e : Expr} {rest : List Expr} {env : Env} (h : notStar e = true) : starEach (e :: rest) env = (false, eval e env) :: starEach rest env := by
  cases e <;> first | rfl | cases h
theorem backTo_cons {pos : Pos} {t : Sem Value} {l : List (Bool × Sem Value)} : backTo pos ((false, t) :: l) = (false, t) :: backTo pos l := rfl
def noStars : List Expr → Bool
  | [] => true
  | e :: r => notStar e && noStars r
theorem noStars_any {pos : Pos} {env : Env} : ∀ {l : List Expr}, noStars l = true → (backTo pos (starEach l env)).any (·.1) = false
  | [], _ => rfl
  | e :: r, h => by
    obtain ⟨a, b⟩ := Bool.and_eq_true_iff.mp h
    rw [starEach_cons a, backTo_cons]
    show (false || _) = false
    rw [noStars_any b]; rfl
def baseOk : Expr → Bool
  | .Call (.Name id _) [] [] _ => id != ("super" : Str)
  | _ => true
theorem attributeBase_eq {o : Expr} {attr : Str} {env : Env} {whole : Sem Value} (h : baseOk o = true) : attributeBase o attr env whole = whole := by
  unfold attributeBase
  split
  · simp only [baseOk] at h
    rw [h]
    rfl
  · rfl

section
variable {c : Cx} {A : Around} {E : Value → Shared → Prop} {s : Shared} {news : List (Addr × Obj)} {env : Env} {ns : List Str} {vs : List (Option Value)}

theorem r_nm {m} {x : Str} {pos : Pos} {v : Value} {Q : Value → Shared → Prop} (S : St c m news s) (hL : env.locals = c.L) (hk : nmOk env x = true) (hv : m x = some v) (h : Q v s) :
    W c A (eval (.Name x pos) env) Q E s := W.mk <| by
  simp only [nmOk, Bool.and_eq_true, decide_eq_true_eq, Bool.not_eq_true'] at hk
  exact wpAny_Name (wpAny_loadName_local hk.1.1 hk.1.2 (hL ▸ S.F.ns) hv h) hk.2
/-- a local's value, by its place -/
theorem ld (i : Nat) {x : Str} {pos : Pos} {v : Value} {Q : Value → Shared → Prop} (S : St c (look ns vs) news s) (h : Q v s) (hL : env.locals = c.L := by rfl) (hk : nmOk env x = true := by kernel_rfl) (hi : idxOk ns x i = true := by kernel_rfl) (hv : vs[i]? = some (some v) := by rfl) :
    W c A (eval (.Name x pos) env) Q E s := r_nm S hL hk (look_at hi hv) h
theorem ldn (i : Nat) {x : Str} {v : Value} {Q : Value → Shared → Prop} (S : St c (look ns vs) news s) (h : Q v s) (hL : env.locals = c.L := by rfl) (hk : nmOk env x = true := by kernel_rfl) (hi : idxOk ns x i = true := by kernel_rfl) (hv : vs[i]? = some (some v) := by rfl) :
    W c A (loadName env x) Q E s := W.mk <| by
  simp only [nmOk, Bool.and_eq_true, decide_eq_true_eq, Bool.not_eq_true'] at hk
  exact wpAny_loadName_local hk.1.1 hk.1.2 (hL ▸ S.F.ns) (look_at hi hv) h
theorem st (i : Nat) {x : Str} {v : Value} {Q : Unit → Shared → Prop} (S : St c (look ns vs) news s) (h : ∀ s', St c (look ns (vs.set i (some v))) news s' → Q () s') (hL : env.locals = c.L := by rfl) (hk : nmOk env x = true := by kernel_rfl) (hi : idxOk ns x i = true := by kernel_rfl) (hl : ns.length = vs.length := by rfl) :
    W c A (storeName env x v) Q E s := W.mk <| by
  simp only [nmOk, Bool.and_eq_true, decide_eq_true_eq, Bool.not_eq_true'] at hk
  refine wpAny_storeName_local hk.1.2 (hL ▸ S.F.ns) (fun h' hn hs => ?_) (by rw [hk.1.1]; rfl)
  rw [hL] at hn hs
  refine h _ ⟨S.G, ?_, S.N.set hs, S.gens, S.os⟩
  rw [← look_set hi hl]
  exact S.F.set hn hs
theorem gl {m} {x : Str} {pos : Pos} {v : Value} {Q : Value → Shared → Prop} (S : St c m news s) (hx : ∀ P, nsIn (KF P) mainGlobals x = some (some v)) (h : Q v s) (hk : glOk env x = true := by kernel_rfl) :
    W c A (eval (.Name x pos) env) Q E s := W.mk <| by
  simp only [glOk, Bool.and_eq_true, decide_eq_true_eq, Bool.not_eq_true'] at hk
  obtain ⟨⟨⟨⟨k1, k2⟩, k3⟩, k4⟩, k5⟩ := hk
  have G := S.gl
  have e4 : env.globals = mainGlobals := Nat.eq_of_beq_eq_true k4
  exact Name_function_global k1 k2 (loadGlobal_global (e4 ▸ G.g) (mg_of G.K G.g (hx _)) h) k3
theorem r_bt {m} {x : Str} {pos : Pos} {v : Value} {Q : Value → Shared → Prop} (i : Nat) (S : St c m news s) (h : Q v s) (hi : bls[i]? = some (x, v)) (hk : glOk env x = true) :
    W c A (eval (.Name x pos) env) Q E s := W.mk <| by
  have hx : nsIn (KF c.w.params) mainGlobals x = some none := at_of_map (bls_none c.w.params) i hi
  have hb : bootBuiltins x = some v := at_of_map bls_boot i hi
  have hn : (x == ("__name__" : Str)) = false := at_of_map bls_name i hi
  simp only [glOk, Bool.and_eq_true, decide_eq_true_eq, Bool.not_eq_true'] at hk
  obtain ⟨⟨⟨⟨k1, k2⟩, k3⟩, k4⟩, k5⟩ := hk
  have G := S.gl
  have e4 : env.globals = mainGlobals := Nat.eq_of_beq_eq_true k4
  have e5 : env.builtins = builtinsNs := Nat.eq_of_beq_eq_true k5
  have hn' : x ≠ "__name__" := by simpa using hn
  exact Name_function_global k1 k2 (loadGlobal_builtin (e4 ▸ G.g) (mg_none_of G.K G.g hx) (e5 ▸ G.b) ((G.builtins x hn').trans hb) h) k3
theorem b_int {m} {pos : Pos} {Q : Value → Shared → Prop} (S : St c m news s) (h : Q (.type "int") s) (hk : glOk env (.ofString "int") = true := by kernel_rfl) :
    W c A (eval (.Name (.ofString "int") pos) env) Q E s := r_bt 0 S h rfl hk
theorem b_bytes {m} {pos : Pos} {Q : Value → Shared → Prop} (S : St c m news s) (h : Q (.type "bytes") s) (hk : glOk env (.ofString "bytes") = true := by kernel_rfl) :
    W c A (eval (.Name (.ofString "bytes") pos) env) Q E s := r_bt 1 S h rfl hk
theorem b_len {m} {pos : Pos} {Q : Value → Shared → Prop} (S : St c m news s) (h : Q (.builtin "len") s) (hk : glOk env (.ofString "len") = true := by kernel_rfl) :
    W c A (eval (.Name (.ofString "len") pos) env) Q E s := r_bt 2 S h rfl hk
theorem b_type {m} {pos : Pos} {Q : Value → Shared → Prop} (S : St c m news s) (h : Q (.type "type") s) (hk : glOk env (.ofString "type") = true := by kernel_rfl) :
    W c A (eval (.Name (.ofString "type") pos) env) Q E s := r_bt 3 S h rfl hk
theorem b_bool {m} {pos : Pos} {Q : Value → Shared → Prop} (S : St c m news s) (h : Q (.type "bool") s) (hk : glOk env (.ofString "bool") = true := by kernel_rfl) :
    W c A (eval (.Name (.ofString "bool") pos) env) Q E s := r_bt 4 S h rfl hk
theorem b_bytearray {m} {pos : Pos} {Q : Value → Shared → Prop} (S : St c m news s) (h : Q (.type "bytearray") s) (hk : glOk env (.ofString "bytearray") = true := by kernel_rfl) :
    W c A (eval (.Name (.ofString "bytearray") pos) env) Q E s := r_bt 5 S h rfl hk
theorem b_object {m} {pos : Pos} {Q : Value → Shared → Prop} (S : St c m news s) (h : Q (.type "object") s) (hk : glOk env (.ofString "object") = true := by kernel_rfl) :
    W c A (eval (.Name (.ofString "object") pos) env) Q E s := r_bt 6 S h rfl hk
theorem b_min {m} {pos : Pos} {Q : Value → Shared → Prop} (S : St c m news s) (h : Q (.builtin "min") s) (hk : glOk env (.ofString "min") = true := by kernel_rfl) :
    W c A (eval (.Name (.ofString "min") pos) env) Q E s := r_bt 7 S h rfl hk
theorem b_divmod {m} {pos : Pos} {Q : Value → Shared → Prop} (S : St c m news s) (h : Q (.builtin "divmod") s) (hk : glOk env (.ofString "divmod") = true := by kernel_rfl) :
    W c A (eval (.Name (.ofString "divmod") pos) env) Q E s := r_bt 8 S h rfl hk
theorem b_zip {m} {pos : Pos} {Q : Value → Shared → Prop} (S : St c m news s) (h : Q (.type "zip") s) (hk : glOk env (.ofString "zip") = true := by kernel_rfl) :
    W c A (eval (.Name (.ofString "zip") pos) env) Q E s := r_bt 9 S h rfl hk
theorem b_range {m} {pos : Pos} {Q : Value → Shared → Prop} (S : St c m news s) (h : Q (.type "range") s) (hk : glOk env (.ofString "range") = true := by kernel_rfl) :
    W c A (eval (.Name (.ofString "range") pos) env) Q E s := r_bt 10 S h rfl hk
theorem b_str {m} {pos : Pos} {Q : Value → Shared → Prop} (S : St c m news s) (h : Q (.type "str") s) (hk : glOk env (.ofString "str") = true := by kernel_rfl) :
    W c A (eval (.Name (.ofString "str") pos) env) Q E s := r_bt 11 S h rfl hk
theorem b_isinstance {m} {pos : Pos} {Q : Value → Shared → Prop} (S : St c m news s) (h : Q (.builtin "isinstance") s) (hk : glOk env (.ofString "isinstance") = true := by kernel_rfl) :
    W c A (eval (.Name (.ofString "isinstance") pos) env) Q E s := r_bt 12 S h rfl hk
theorem b_Exception {m} {pos : Pos} {Q : Value → Shared → Prop} (S : St c m news s) (h : Q (.type "Exception") s) (hk : glOk env (.ofString "Exception") = true := by kernel_rfl) :
    W c A (eval (.Name (.ofString "Exception") pos) env) Q E s := r_bt 13 S h rfl hk

theorem c_int {m} {i : Int} {k : Nat} {pos : Pos} {Q : Value → Shared → Prop} (S : St c m news s) (h : ∀ t s', St c m news s' → Q (.int i t) s') : W c A (eval (.Constant (.int i) k pos) env) Q E s :=
  W.mk (wpAny_Constant_int (h _ _ (S.at rfl rfl rfl)))
theorem c_str {m} {x : Str} {k : Nat} {pos : Pos} {Q : Value → Shared → Prop} (S : St c m news s) (h : ∀ t s', St c m news s' → Q (.str x t) s') : W c A (eval (.Constant (.str x) k pos) env) Q E s :=
  W.mk (Calls.Constant_str (h _ _ (S.at rfl rfl rfl)))
theorem c_bytes {m} {x : List UInt8} {k : Nat} {pos : Pos} {Q : Value → Shared → Prop} (S : St c m news s) (h : ∀ t s', St c m news s' → Q (.bytes x.toArray t) s') : W c A (eval (.Constant (.bytes x) k pos) env) Q E s :=
  W.mk (Constant_bytes (h _ _ (S.at rfl rfl rfl)))
theorem c_none {k : Nat} {pos : Pos} {Q : Value → Shared → Prop} (h : Q .none s) : W c A (eval (.Constant .none k pos) env) Q E s := W.mk (wpAny_Constant_none h)
theorem c_bool {b : Bool} {k : Nat} {pos : Pos} {Q : Value → Shared → Prop} (h : Q (.bool b) s) : W c A (eval (.Constant (.bool b) k pos) env) Q E s := W.mk (wpAny_Constant_bool h)

/-! statements -/
def Nx (c : Cx) (A : Around) (rest : List Stmt) (env : Env) (Q : Flow → Shared → Prop) (E : Value → Shared → Prop) (f : Flow) (s' : Shared) : Prop := match f with
  | .next => W c A (execs rest env) Q E s'
  | .brk => Q .brk s'
  | .cont => Q .cont s'
  | .ret v => Q (.ret v) s'
theorem x_nil {Q : Flow → Shared → Prop} (h : Q .next s) : W c A (execs [] env) Q E s := W.mk (wpAny_execs_nil h)
theorem x_cons {st : Stmt} {rest : List Stmt} {Q : Flow → Shared → Prop} (h : W c A (exec st env) (Nx c A rest env Q E) E s) : W c A (execs (st :: rest) env) Q E s := by
  rw [execs_cons]
  refine W.then h fun f s' q => ?_
  cases f <;> first | exact q | exact W.pure q
theorem x_ret {e : Expr} {pos : Pos} {rest : List Stmt} {Q : Flow → Shared → Prop} (h : W c A (eval e env) (fun v => Q (.ret v)) E s) : W c A (execs (.Return (some e) pos :: rest) env) Q E s := by
  refine x_cons ?_
  rw [exec_Return_some]
  exact W.stand (W.then h fun v s' q => W.pure q)
theorem x_asg {x : Str} {p pos : Pos} {value : Expr} {rest : List Stmt} {Q : Flow → Shared → Prop} (h : W c A (eval value env) (fun v s₁ => W c A (storeName env x v) (fun _ s₂ => W c A (execs rest env) Q E s₂) E s₁) E s)
    (hs : swapsWith value (some (.Name x p)) pos.line env = pure false := by rfl) : W c A (execs (.Assign [.Name x p] value pos :: rest) env) Q E s := by
  refine x_cons ?_
  rw [exec_Assign_Name env x p value pos hs]
  refine W.stand (W.then h fun v s₁ h => W.stand (W.then (P := fun _ s₂ => W c A (execs rest env) Q E s₂) ⟨fun Γ p' hΓ q => ?_⟩ fun _ s₂ q => W.pure q))
  rw [Sem.wp_bindName]
  exact h.out Γ p' hΓ q
theorem x_set {o : Expr} {attr : Str} {p pos : Pos} {value : Expr} {rest : List Stmt} {Q : Flow → Shared → Prop}
    (h : W c A (eval value env) (fun v s₁ => W c A (eval o env) (fun ov s₂ => W c A (setAttr ov attr v) (fun _ s₃ => W c A (execs rest env) Q E s₃) E s₂) E s₁) E s)
    (hs : swapsWith value (some (.Attribute o attr p)) pos.line env = pure false := by rfl) : W c A (execs (.Assign [.Attribute o attr p] value pos :: rest) env) Q E s := by
  refine x_cons ?_
  rw [plainObj_exec_Assign_Attribute o attr p value pos hs]
  refine W.stand (W.then h fun v s₁ h => W.then (P := fun _ s₃ => W c A (execs rest env) Q E s₃) ?_ fun _ s₂ q => W.pure q)
  rw [assign_Attribute]
  exact W.then (W.hold h) fun ov s₂ h => W.stand (W.then (W.hold h) fun _ s₃ h => W.mk (wpAny_release' h))
theorem x_expr {e : Expr} {pos : Pos} {rest : List Stmt} {Q : Flow → Shared → Prop} (h : W c A (eval e env) (fun _ s₁ => W c A (execs rest env) Q E s₁) E s)
    (hi : interactive env = false := by rfl) (hs : swapsWith e none pos.line env = pure false := by rfl) : W c A (execs (.Expr e pos :: rest) env) Q E s := by
  refine x_cons ?_
  rw [exec_Expr env e pos hi hs]
  exact W.stand (W.then h fun v s₁ h => W.mk (wpAny_dropValue h))
theorem x_if {test : Expr} {body orelse : List Stmt} {pos : Pos} {rest : List Stmt} {Q : Flow → Shared → Prop}
    (h : W c A (PySem.isTrue test env (eval test env)) (fun b s₂ => if b = true then W c A (execs body env) (Nx c A rest env Q E) E s₂ else W c A (execs orelse env) (Nx c A rest env Q E) E s₂) E s) :
    W c A (execs (.If test body orelse pos :: rest) env) Q E s := by
  refine x_cons ?_
  rw [exec_If]
  exact W.stand (W.then h fun b s₁ h => W.ite h)
theorem x_aug {x : Str} {p pos : Pos} {op : Operator} {value : Expr} {rest : List Stmt} {Q : Flow → Shared → Prop}
    (h : W c A (loadName env x) (fun old s₁ => W c A (eval value env) (fun v s₂ => W c A (inplaceOp op old v) (fun r s₃ => W c A (storeName env x r) (fun _ s₄ => W c A (execs rest env) Q E s₄) E s₃) E s₂) E s₁) E s) :
    W c A (execs (.AugAssign (.Name x p) op value pos :: rest) env) Q E s := by
  refine x_cons ?_
  rw [exec_AugAssign_Name]
  refine W.stand (W.then h fun old s₁ h => W.then (W.hold h) fun v s₂ h => W.stand (W.then (W.opr h) fun r s₃ h => W.stand (W.then (P := fun _ s₄ => W c A (execs rest env) Q E s₄) ⟨fun Γ p' hΓ q => ?_⟩ fun _ s₄ q => W.pure q)))
  rw [Sem.wp_bindName]
  exact h.out Γ p' hΓ q
theorem x_brk {pos : Pos} {rest : List Stmt} {Q : Flow → Shared → Prop} (h : Q .brk s) : W c A (execs (.Break pos :: rest) env) Q E s := x_cons (W.mk (wpAny_Break h))

/-! expressions -/
theorem e_bin {l r : Expr} {op : Operator} {pos : Pos} {Q : Value → Shared → Prop} (h : W c A (eval l env) (fun a s₁ => W c A (eval r env) (fun b s₂ => W c A (binaryOp op a b) Q E s₂) E s₁) E s) :
    W c A (eval (.BinOp l op r pos) env) Q E s := by
  rw [arm_eval_BinOp]
  exact W.then h fun a s₁ h => W.then (W.hold h) fun b s₂ h => W.stand (W.opr h)
theorem e_cmp {l r : Expr} {op : CmpOp} {pos : Pos} {Q : Value → Shared → Prop} (h : W c A (eval l env) (fun a s₁ => W c A (eval r env) (fun b s₂ => W c A (compareOp op a b) Q E s₂) E s₁) E s) (hb : behindInMarks op r = false := by rfl) :
    W c A (eval (.Compare l [op] [r] pos) env) Q E s := by
  rw [eval_Compare1, markedBehindIn_of_false hb]
  exact W.then h fun a s₁ h => W.then (W.hold h) fun b s₂ h => W.stand (W.opr h)
theorem t_cmp {l r : Expr} {op : CmpOp} {pos : Pos} {whole : Sem Value} {Q : Bool → Shared → Prop}
    (h : W c A (eval l env) (fun a s₁ => W c A (eval r env) (fun b s₂ => W c A (compareOp op a b) (fun v s₃ => W c A (truthy v) Q E s₃) E s₂) E s₁) E s) (hb : behindInMarks op r = false := by rfl) :
    W c A (PySem.isTrue (.Compare l [op] [r] pos) env whole) Q E s := by
  rw [isTrue_Compare1, markedBehindIn_of_false hb]
  exact W.then h fun a s₁ h => W.then (W.hold h) fun b s₂ h => W.stand (W.then (W.opr h) fun v s₃ h => W.hold h)
theorem t_not {x : Expr} {pos : Pos} {whole : Sem Value} {Q : Bool → Shared → Prop} (h : W c A (PySem.isTrue x env (eval x env)) (fun b s' => Q (!b) s') E s) : W c A (PySem.isTrue (.UnaryOp .Not x pos) env whole) Q E s := by
  rw [arm_isTrue_UnaryOp]
  exact W.then h fun b s₁ h => W.pure h
theorem t_and {x : Expr} {rest : List Expr} {pos : Pos} {whole : Sem Value} {Q : Bool → Shared → Prop}
    (h : W c A (PySem.isTrue x env (eval x env)) (fun b s' => if b = true then W c A (PySem.isTrue (.BoolOp .And rest pos) env whole) Q E s' else Q false s') E s) :
    W c A (PySem.isTrue (.BoolOp .And (x :: rest) pos) env whole) Q E s := by
  rw [arm_isTrue_BoolOp, arm_allTrue_cons]
  refine W.then h fun b s₁ h => ?_
  cases b with
  | false => exact W.pure h
  | true => exact h
theorem t_and0 {pos : Pos} {whole : Sem Value} {Q : Bool → Shared → Prop} (h : Q true s) : W c A (PySem.isTrue (.BoolOp .And [] pos) env whole) Q E s := W.mk (isTrue_and_nil h)
theorem t_or {x : Expr} {rest : List Expr} {pos : Pos} {whole : Sem Value} {Q : Bool → Shared → Prop}
    (h : W c A (PySem.isTrue x env (eval x env)) (fun b s' => if b = true then Q true s' else W c A (PySem.isTrue (.BoolOp .Or rest pos) env whole) Q E s') E s) :
    W c A (PySem.isTrue (.BoolOp .Or (x :: rest) pos) env whole) Q E s := by
  rw [arm_isTrue_BoolOp, arm_allTrue_cons]
  refine W.then h fun b s₁ h => ?_
  cases b with
  | false => exact h
  | true => exact W.pure h
theorem t_or0 {pos : Pos} {whole : Sem Value} {Q : Bool → Shared → Prop} (h : Q false s) : W c A (PySem.isTrue (.BoolOp .Or [] pos) env whole) Q E s := W.mk (isTrue_or_nil h)
def plainTest : Expr → Bool
  | .UnaryOp .Not _ _ | .BoolOp .. | .IfExp .. | .Compare .. => false
  | _ => true
theorem isTrue_of {e : Expr} {whole : Sem Value} (hp : plainTest e = true) : isTrue e env whole = (do let v ← whole; standAt e.pos; holding [v] (truthy v)) := by
  cases e <;> first | rfl | (cases hp; done) | skip
  rename_i op _ _
  cases op <;> first | rfl | cases hp
theorem t_val {e : Expr} {whole : Sem Value} {Q : Bool → Shared → Prop} (h : W c A whole (fun v s₁ => W c A (truthy v) Q E s₁) E s) (hp : plainTest e = true := by rfl) : W c A (PySem.isTrue e env whole) Q E s := by
  rw [isTrue_of hp]
  exact W.then h fun v s₁ h => W.stand (W.hold h)
theorem e_if {test body orelse : Expr} {pos : Pos} {Q : Value → Shared → Prop}
    (h : W c A (PySem.isTrue test env (eval test env)) (fun b s₂ => if b = true then W c A (eval body env) Q E s₂ else W c A (eval orelse env) Q E s₂) E s) :
    W c A (eval (.IfExp test body orelse pos) env) Q E s := by
  rw [arm_eval_IfExp]
  exact W.then h fun b s₁ h => W.ite h
theorem e_sub {value slice : Expr} {pos : Pos} {Q : Value → Shared → Prop} (h : W c A (eval value env) (fun o s₁ => W c A (eval slice env) (fun i s₂ => W c A (subscriptTail value slice o i) Q E s₂) E s₁) E s) :
    W c A (eval (.Subscript value slice pos) env) Q E s := by
  have e : eval (.Subscript value slice pos) env = (do let o ← eval value env; let i ← holding [o] (eval slice env); standAt pos; subscriptTail value slice o i) := rfl
  rw [e]
  exact W.then h fun o s₁ h => W.then (W.hold h) fun i s₂ h => W.stand h
theorem e_att {value : Expr} {attr : Str} {pos : Pos} {Q : Value → Shared → Prop} (h : W c A (eval value env) (fun o s₁ => W c A (getAttr o attr true) Q E s₁) E s) (hb : baseOk value = true := by rfl) :
    W c A (eval (.Attribute value attr pos) env) Q E s := by
  rw [arm_eval_Attribute, attributeBase_eq hb]
  exact W.then h fun o s₁ h => W.stand (W.then (W.hold h) fun r s₂ h => W.bind (W.mk (wpAny_letTemporaryGo (W.pure h))))
theorem e_tup {elts : List Expr} {k : Nat} {pos : Pos} {Q : Value → Shared → Prop} (h : W c A (spliced (backTo pos (starEach elts env))) (fun vs s₁ => W c A (newTuple vs) Q E s₁) E s) : W c A (eval (.Tuple elts k pos) env) Q E s := by
  rw [arm_eval_Tuple]
  exact W.stand (W.bind h)
theorem e_list {elts : List Expr} {pos : Pos} {Q : Value → Shared → Prop} (h : W c A (spliced (backTo pos (starEach elts env))) (fun vs s₁ => W c A (newList vs) Q E s₁) E s) : W c A (eval (.List elts pos) env) Q E s := by
  rw [arm_eval_List]
  exact W.stand (W.bind h)
theorem s_cons {x : Sem Value} {rest : List (Bool × Sem Value)} {Q : List Value → Shared → Prop} (h : W c A x (fun v s₁ => W c A (spliced rest) (fun vs s₂ => Q (v :: vs) s₂) E s₁) E s) : W c A (spliced ((false, x) :: rest)) Q E s := by
  rw [spliced]
  refine W.then h fun v s₁ h => ?_
  simp only [Bool.false_eq_true, if_false]
  exact W.bind (W.pure (W.then (W.hold h) fun vs s₂ h => W.pure h))
theorem s_more {e : Expr} {rest : List Expr} {pos : Pos} {Q : List Value → Shared → Prop} (h : W c A (eval e env) (fun v s₁ => W c A (spliced (backTo pos (starEach rest env))) (fun vs s₂ => Q (v :: vs) s₂) E s₁) E s) (hn : notStar e = true := by rfl) :
    W c A (spliced (backTo pos (starEach (e :: rest) env))) Q E s := by
  rw [starEach_cons hn, backTo_cons]
  exact s_cons h
theorem s_nil {pos : Pos} {Q : List Value → Shared → Prop} (h : Q [] s) : W c A (spliced (backTo pos (starEach [] env))) Q E s := W.mk (spliced_none h)
theorem e_slice {lower upper step : Option Expr} {p : Pos} {Q : Value → Shared → Prop} (h : W c A (evalPart lower env) (fun l s₁ => W c A (evalPart upper env) (fun u s₂ => W c A (evalPart step env) (fun st s₃ => ∀ a s₄, True → s₄ = { s₃ with heap := s₃.heap.push { cls := .type "slice", data := .fields #[l, u, st] } } → a = s₃.heap.objs.size → Q (.ref a) s₄) E s₂) E s₁) E s) :
    W c A (eval (.Slice lower upper step p) env) Q E s := by
  rw [arm_eval_Slice]
  exact W.then h fun l s₁ h => W.then (W.hold h) fun u s₂ h => W.then (W.hold h) fun k s₃ h => W.mk (wpAny_newObj_type (h _ _ trivial rfl rfl))

/-! calls -/
theorem e_call {func : Expr} {args : List Expr} {pos : Pos} {Q : Value → Shared → Prop} (h : W c A (eval func env) (fun f s₁ => W c A (callWith pos f [] (backTo pos (starEach args env)) []) Q E s₁) E s)
    (hf : (match func with | .Attribute .. => false | _ => true) = true := by rfl) : W c A (eval (.Call func args [] pos) env) Q E s := by
  have e : eval (.Call func args [] pos) env = (do callWith pos (← eval func env) [] (backTo pos (starEach args env)) (backToKw pos (keywordEach [] env))) := by
    cases func <;> first | rfl | cases hf
  rw [e]
  exact W.bind h
theorem e_callk {func : Expr} {args : List Expr} {kws : List Keyword} {pos : Pos} {Q : Value → Shared → Prop} (h : W c A (eval func env) (fun f s₁ => W c A (callWith pos f [] (backTo pos (starEach args env)) (backToKw pos (keywordEach kws env))) Q E s₁) E s)
    (hf : (match func with | .Attribute .. => false | _ => true) = true := by rfl) : W c A (eval (.Call func args kws pos) env) Q E s := by
  have e : eval (.Call func args kws pos) env = (do callWith pos (← eval func env) [] (backTo pos (starEach args env)) (backToKw pos (keywordEach kws env))) := by
    cases func <;> first | rfl | cases hf
  rw [e]
  exact W.bind h
def plOf (o : Expr) (env : Env) : Sem Bool := do return (← importBound o env).getD true
theorem e_meth {o : Expr} {name : Str} {apos pos : Pos} {args : List Expr} {kws : List Keyword} {Q : Value → Shared → Prop}
    (h : W c A (eval o env) (fun ov s₁ => W c A (getMethod ov name (plOf o env)) (fun fx s₂ => W c A (callWith pos fx.1 fx.2 (backTo pos (starEach args env)) (backToKw pos (keywordEach kws env))) Q E s₂) E s₁) E s)
    (hb : baseOk o = true := by rfl) (hs : noStars args = true := by rfl) (hk : (keywordEach kws env).all (·.1.isSome) = true := by rfl) (hn : Nat.blt (args.length + kws.length + (if (backToKw pos (keywordEach kws env)).isEmpty then 0 else 1)) 30 = true := by rfl) (hp : (apos.endLine == pos.line) = true := by rfl) :
    W c A (eval (.Call (.Attribute o name apos) args kws pos) env) Q E s := by
  have e1 : methodCallForm (args.length + kws.length) (backTo pos (starEach args env)) (backToKw pos (keywordEach kws env)) = true := by
    unfold methodCallForm
    have a1 : (backTo pos (starEach args env)).all (!·.1) = true := by
      have := noStars_any (pos := pos) (env := env) hs
      rw [List.all_eq_not_any_not]
      simp only [Bool.not_not]
      rw [this]; rfl
    have a2 : (backToKw pos (keywordEach kws env)).all (·.1.isSome) = true := by
      unfold backToKw
      rw [List.all_map]
      exact hk
    rw [a1, a2]
    simp only [Bool.true_and, decide_eq_true_eq]
    exact Nat.le_of_ble_eq_true hn
  rw [arm_eval_Call, attributeBase_eq hb]
  refine W.then h fun ov s₁ h₁ => W.stand ?_
  unfold methodCall
  rw [e1]
  refine W.then (W.hold h₁) fun fx s₂ h₂ => ?_
  unfold methodCallPos
  rw [hp]
  exact W.bind (W.pure h₂)
end
/-- what a call of a def that turns nothing and raises nothing gives -/
def Gives (w : World) (A : Around) (f : Value) (args : List Value) (kw : List (Str × Value)) (P : Value → Shared → Prop) (s : Shared) : Prop :=
  codeN (model PW w) A (.call f ⟨args, kw⟩) (fun r s' => match r with | .ok (.ret v) => Ext s s' ∧ P v s' | .ok _ => False | .error _ => False) s

def noCells (sc : Scope) : Bool := sc.names.all fun x => decide (x.2 ≠ .cell)
def bindsLocal (sc : Scope) (ns : List Str) : Bool := ns.all fun x => decide (sc.names.lookup x = some .local)
def fnPlain (fd : FuncData) : Bool := noCells fd.scope && !fd.scope.isCoroutine && !fd.scope.isGenerator && decide (fd.scope.kind = .function)
theorem List.of_lookup_mem : ∀ (l : List (Str × Value)) (x : Str) (u : Value), l.lookup x = some u → (x, u) ∈ l
  | [], _, _, h => by simp at h
  | (n, v) :: r, x, u, h => by
    rw [List.lookup_cons] at h
    split at h
    · rename_i hb
      cases h
      rw [beq_iff_eq.mp hb]
      exact .head _
    · exact .tail _ (List.of_lookup_mem r x u h)
theorem look_binds : ∀ (ns : List Str) (vs : List Value) (x : Str), ns.length = vs.length → ns.Nodup → look ns (vs.map some) x = (ns.zip vs).reverse.lookup x := by
  have key : ∀ (ns : List Str) (vs : List Value) (x : Str), look ns (vs.map some) x = (ns.zip vs).lookup x := by
    intro ns
    induction ns with
    | nil => intro vs x; cases vs <;> rfl
    | cons n ns ih =>
      intro vs x
      cases vs with
      | nil => rfl
      | cons v vs =>
        simp only [List.map_cons, look, List.zip_cons_cons, List.lookup_cons]
        by_cases q : x = n
        · subst q; simp
        · have : (x == n) = false := by simpa using q
          rw [this, if_neg q, ih]
  have rev : ∀ (l : List (Str × Value)) (x : Str), (l.map (·.1)).Nodup → l.reverse.lookup x = l.lookup x := by
    intro l x
    induction l with
    | nil => intro _; rfl
    | cons p r ih =>
      intro nd
      obtain ⟨n, v⟩ := p
      simp only [List.map_cons, List.nodup_cons] at nd
      have e : List.lookup x ((n, v) :: r) = if (x == n) = true then some v else r.lookup x := by rw [List.lookup_cons]; cases (x == n) <;> rfl
      have e2 : List.lookup x [(n, v)] = if (x == n) = true then some v else none := by rw [List.lookup_cons]; cases (x == n) <;> rfl
      rw [List.reverse_cons, List.lookup_append, ih nd.2, e, e2]
      cases hb : (x == n) with
      | true =>
        have := beq_iff_eq.mp hb
        subst this
        have : r.lookup x = none := by
          cases q : r.lookup x with
          | none => rfl
          | some u =>
            have hm := List.of_lookup_mem r x u q
            exact absurd (List.mem_map.mpr ⟨_, hm, rfl⟩) nd.1
        rw [this]
        simp
      | false => simp
  intro ns vs x hl nd
  rw [key, rev]
  rw [List.map_fst_zip]
  · exact nd
  · omega
theorem look_pad : ∀ (ns ns' : List Str) (vs : List (Option Value)) (k : Nat) (x : Str), ns.length = vs.length → look (ns ++ ns') (vs ++ List.replicate k none) x = look ns vs x := by
  intro ns
  induction ns with
  | nil =>
    intro ns' vs k x hl
    cases vs with
    | cons _ _ => simp at hl
    | nil =>
      simp only [List.nil_append]
      have : ∀ (ns' : List Str) (k : Nat), look ns' (List.replicate k none) x = none := by
        intro ns'
        induction ns' with
        | nil => intro k; cases k <;> rfl
        | cons n ns' ih =>
          intro k
          cases k with
          | zero => rfl
          | succ k => simp only [List.replicate_succ, look]; rw [ih]; split <;> rfl
      rw [this]; rfl
  | cons n ns ih =>
    intro ns' vs k x hl
    cases vs with
    | nil => simp at hl
    | cons v vs =>
      simp only [List.cons_append, look]
      rw [ih ns' vs k x (by simpa using hl)]

theorem rep_none : ∀ ls : List Str, List.replicate ls.length (none : Option Value) = ls.map fun _ => none
  | [] => rfl
  | _ :: ls => by simp only [List.length_cons, List.replicate_succ, List.map_cons, rep_none ls]
abbrev cx (w : World) (mg mb : Str → Option Value) (s : Shared) (L : Addr) : Cx := ⟨w, mg, mb, s.heap, L, s.gens, s.os⟩
theorem St.done {w mg mb s L m news s'} (S : St (cx w mg mb s L) m news s') : Ext s s' := ⟨S.F.keep, S.gens, S.os⟩
end Mine
end

section
set_option Elab.async false
set_option maxRecDepth 100000
open PySem PySem.W PyProof.Rows PySem.Calls
namespace Mine

section
variable {c : Cx} {m : Str → Option Value} {A : Around} {E : Value → Shared → Prop} {s : Shared} {news : List (Addr × Obj)} {env : Env} {ns : List Str} {vs : List (Option Value)}
theorem St.drop {p : Addr × Obj} (S : St c m (p :: news) s) : St c m news s := ⟨S.G, S.F, fun q hq => S.N q (.tail _ hq), S.gens, S.os⟩
theorem St.put {p : Addr × Obj} {h' : Heap} {tk : Tok} (S : St c m news s) (F' : Fr c.g c.L h' m) (N' : News c.g c.L h' (p :: news)) : St c m (p :: news) { s with heap := h', toks := tk } := ⟨S.G, F', N', S.gens, S.os⟩
theorem St.re {news' : List (Addr × Obj)} {h' : Heap} {tk : Tok} (S : St c m news s) (F' : Fr c.g c.L h' m) (N' : News c.g c.L h' news') : St c m news' { s with heap := h', toks := tk } := ⟨S.G, F', N', S.gens, S.os⟩
theorem ev_plain {f : Value} {x : Sem Value} {rest : List (Bool × Sem Value)} {Q : Args → Shared → Prop} (h : W c A (spliced ((false, x) :: rest)) (fun vs s' => Q ⟨vs, []⟩ s') E s) : W c A (evalArgs f true ((false, x) :: rest) []) Q E s := by
  unfold evalArgs
  show W c A (spliced ((false, x) :: rest) >>= _) Q E s
  refine W.then h fun vs s' h' => W.hold ?_
  exact W.bind (W.pure (W.bind (W.pure (W.pure h'))))
theorem ev_none {f : Value} {Q : Args → Shared → Prop} (h : Q ⟨[], []⟩ s) : W c A (evalArgs f true [] []) Q E s := W.mk (PyProof.Rows.evalArgs_none h)
theorem a_cons {x : Sem Value} {rest : List (Sem Value)} {Q : List Value → Shared → Prop} (h : W c A x (fun v s₁ => W c A (evalAll rest) (fun vs s₂ => Q (v :: vs) s₂) E s₁) E s) : W c A (evalAll (x :: rest)) Q E s := by
  rw [evalAll]
  exact W.then h fun v s₁ h => W.then (W.hold h) fun vs s₂ h => W.pure h
theorem a_nil {Q : List Value → Shared → Prop} (h : Q [] s) : W c A (evalAll []) Q E s := W.mk (wpAny_evalAll_nil h)
theorem ev_kw {f : Value} {x : Sem Value} {rest : List (Bool × Sem Value)} {kws : List (Option Str × Sem Value)} {Q : Args → Shared → Prop} (hall : kws.all (·.1.isSome) = true)
    (h : W c A (spliced ((false, x) :: rest)) (fun vs s₁ => W c A (evalAll (kws.map (·.2))) (fun ks s₂ => Q ⟨vs, (kws.filterMap (·.1)).zip ks⟩ s₂) E s₁) E s) : W c A (evalArgs f true ((false, x) :: rest) kws) Q E s := by
  unfold evalArgs
  show W c A (spliced ((false, x) :: rest) >>= _) Q E s
  refine W.then h fun vs s₁ h₁ => W.hold ?_
  simp only [hall, if_true]
  exact W.then h₁ fun ks s₂ h₂ => W.bind (W.pure (W.pure h₂))
theorem cw_gen {f : Value} {pos : Pos} {first : List Value} {P : Heap → Prop} {args : List (Bool × Sem Value)} {kws : List (Option Str × Sem Value)} {Q : Value → Shared → Prop} (hplain : (args.any (·.1) || kws.any (·.1.isNone)) = false)
    (hk : ∀ h, P h → ∃ k, (k = Keeper.frame ∨ k = Keeper.machine ∨ k = Keeper.boundFrame) ∧ Looks (model PW c.w) h (keeperOf f) k)
    (h : W c A (evalArgs f true args kws) (fun a s₁ => P s₁.heap ∧ W c A (call f (first ++ a.pos) a.kw) Q E s₁) E s) : W c A (callWith pos f first args kws) Q E s := by
  unfold callWith
  refine W.then (W.hold h) fun a s₁ h₁ => W.stand ?_
  obtain ⟨k, hk', L⟩ := hk _ h₁.1
  simp only [hplain]
  refine W.bind (W.mk (L.here ?_))
  have tail : ∀ {t : Sem Value}, W c A t Q E s₁ → W c A (t >>= fun r => holding [r] point >>= fun _ => pure r) Q E s₁ :=
    fun ht => W.then ht fun r s₂ hr => W.bind (W.hold (W.mk (wpAny_point (W.pure hr))))
  have marked : ∀ mk : Value, W c A (callMarked mk f (first ++ a.pos) a.kw) Q E s₁ := fun mk => W.keep h₁.2
  rcases hk' with rfl | rfl | rfl <;> dsimp only <;> first | exact tail h₁.2 | (split <;> first | exact tail h₁.2 | exact tail (marked _))
theorem kp_machine {f : Value} {h : Heap} (e : keeperOf f = pure Keeper.machine) : ∃ k, (k = Keeper.frame ∨ k = Keeper.machine ∨ k = Keeper.boundFrame) ∧ Looks (model PW c.w) h (keeperOf f) k := ⟨_, .inr (.inl rfl), Looks.of_pure e⟩
theorem kp_fn {f : Addr} {fd : FuncData} {od : Option Addr} (lk : ∀ P, (KF P).lookup f = some (fnO fd od)) (h : Heap) (X : (KF c.w.params).In h) : ∃ k, (k = Keeper.frame ∨ k = Keeper.machine ∨ k = Keeper.boundFrame) ∧ Looks (model PW c.w) h (keeperOf (.ref f)) k :=
  ⟨.frame, .inl rfl, (Looks.ld (part := none) (X _ _ (lk _))).andThen .now⟩
theorem stars_false {pos : Pos} {e : Expr} {rest : List Expr} (hn : notStar e = true) (hs : noStars rest = true) (kws : List (Option Str × Sem Value)) (hk : kws.any (·.1.isNone) = false) : ((backTo pos (starEach (e :: rest) env)).any (·.1) || kws.any (·.1.isNone)) = false := by
  rw [noStars_any (show noStars (e :: rest) = true by unfold noStars; rw [hn, hs]; rfl), hk]; rfl

/-! the callee: a def of the top, plain or a method -/
theorem cw_fn {f : Addr} {fd : FuncData} {od : Option Addr} {pos : Pos} {first : List Value} {e : Expr} {rest : List Expr} {Q : Value → Shared → Prop} (lk : ∀ P, (KF P).lookup f = some (fnO fd od))
    (h : W c A (spliced (backTo pos (starEach (e :: rest) env))) (fun vs s₁ => (∃ m' news', St c m' news' s₁) ∧ W c A (call (.ref f) (first ++ vs)) Q E s₁) E s) (hn : notStar e = true := by rfl) (hs : noStars rest = true := by rfl) :
    W c A (callWith pos (.ref f) first (backTo pos (starEach (e :: rest) env)) (backToKw pos (keywordEach [] env))) Q E s := by
  refine cw_gen (P := (KF c.w.params).In) (stars_false hn hs _ rfl) (kp_fn lk) ?_
  rw [starEach_cons hn, backTo_cons] at h ⊢
  exact ev_plain (h.mono (fun vs s₁ h₁ => ⟨(by obtain ⟨_, _, S⟩ := h₁.1; exact S.gl.K), h₁.2⟩) fun _ _ q => q)
theorem cw_fn' {f : Addr} {fd : FuncData} {od : Option Addr} {pos : Pos} {first : List Value} {e : Expr} {rest : List Expr} {Q : Value → Shared → Prop} (lk : ∀ P, (KF P).lookup f = some (fnO fd od))
    (h : W c A (spliced (backTo pos (starEach (e :: rest) env))) (fun vs s₁ => (∃ m' news', St c m' news' s₁) ∧ W c A (call (.ref f) (first ++ vs)) Q E s₁) E s) (hn : notStar e = true := by rfl) (hs : noStars rest = true := by rfl) :
    W c A (callWith pos (.ref f) first (backTo pos (starEach (e :: rest) env)) []) Q E s := cw_fn lk h hn hs
theorem cw_fn0 {f : Addr} {fd : FuncData} {od : Option Addr} {pos : Pos} {first : List Value} {Q : Value → Shared → Prop} (lk : ∀ P, (KF P).lookup f = some (fnO fd od))
    (S : St c m news s) (h : W c A (call (.ref f) first) Q E s) :
    W c A (callWith pos (.ref f) first (backTo pos (starEach [] env)) (backToKw pos (keywordEach [] env))) Q E s :=
  cw_gen (P := (KF c.w.params).In) rfl (kp_fn lk) (ev_none ⟨S.gl.K, by simpa using h⟩)
theorem cw_bt {id : String} {pos : Pos} {first : List Value} {e : Expr} {rest : List Expr} {Q : Value → Shared → Prop}
    (h : W c A (spliced (backTo pos (starEach (e :: rest) env))) (fun vs s₁ => W c A (call (.builtin id) (first ++ vs)) Q E s₁) E s) (hn : notStar e = true := by rfl) (hs : noStars rest = true := by rfl) :
    W c A (callWith pos (.builtin id) first (backTo pos (starEach (e :: rest) env)) []) Q E s := by
  refine cw_gen (P := fun _ => True) (stars_false hn hs _ rfl) (fun _ _ => kp_machine rfl) ?_
  rw [starEach_cons hn, backTo_cons] at h ⊢
  exact ev_plain (h.mono (fun vs s₁ h₁ => ⟨trivial, h₁⟩) fun _ _ q => q)
theorem cw_bt' {id : String} {pos : Pos} {first : List Value} {e : Expr} {rest : List Expr} {Q : Value → Shared → Prop}
    (h : W c A (spliced (backTo pos (starEach (e :: rest) env))) (fun vs s₁ => W c A (call (.builtin id) (first ++ vs)) Q E s₁) E s) (hn : notStar e = true := by rfl) (hs : noStars rest = true := by rfl) :
    W c A (callWith pos (.builtin id) first (backTo pos (starEach (e :: rest) env)) (backToKw pos (keywordEach [] env))) Q E s := cw_bt h hn hs
theorem cw_bt0 {id : String} {pos : Pos} {first : List Value} {Q : Value → Shared → Prop} (h : W c A (call (.builtin id) first) Q E s) :
    W c A (callWith pos (.builtin id) first (backTo pos (starEach [] env)) (backToKw pos (keywordEach [] env))) Q E s :=
  cw_gen (P := fun _ => True) rfl (fun _ _ => kp_machine rfl) (ev_none ⟨trivial, by simpa using h⟩)
theorem cw_ty {T : String} {pos : Pos} {e : Expr} {rest : List Expr} {Q : Value → Shared → Prop}
    (h : W c A (spliced (backTo pos (starEach (e :: rest) env))) (fun vs s₁ => W c A (call (.type T) vs) Q E s₁) E s) (hn : notStar e = true := by rfl) (hs : noStars rest = true := by rfl) :
    W c A (callWith pos (.type T) [] (backTo pos (starEach (e :: rest) env)) []) Q E s := by
  refine cw_gen (P := fun _ => True) (stars_false hn hs _ rfl) (fun _ _ => kp_machine rfl) ?_
  rw [starEach_cons hn, backTo_cons] at h ⊢
  exact ev_plain (h.mono (fun vs s₁ h₁ => ⟨trivial, h₁⟩) fun _ _ q => q)
theorem cw_ty0 {T : String} {pos : Pos} {Q : Value → Shared → Prop} (h : W c A (call (.type T) []) Q E s) : W c A (callWith pos (.type T) [] (backTo pos (starEach [] env)) []) Q E s :=
  cw_gen (P := fun _ => True) rfl (fun _ _ => kp_machine rfl) (ev_none ⟨trivial, h⟩)

/-- a contract at its call -/
theorem use {f : Value} {args : List Value} {kw : List (Str × Value)} {P : Value → Shared → Prop} {Q : Value → Shared → Prop} (S : St c m news s) (C : Gives c.w A f args kw P s)
    (h : ∀ v s', St c m news s' → Ext s s' → P v s' → Q v s') : W c A (call f args kw) Q E s :=
  W.call (C.mono fun r s' q => by
    match r, q with
    | .ok (.ret v), q => exact h v s' (S.ext q.1) q.1 q.2
    | .ok .next, q => exact q.elim
    | .ok .brk, q => exact q.elim
    | .ok .cont, q => exact q.elim
    | .error _, q => exact q.elim)
end

/-! entering a def -/
theorem codeN_func {M : Model} {prog : Program} {w : World} {A : Around} {R : Result → Shared → Prop} {s : Shared} {body : List Stmt} {env : Env}
    (h : wpN (model prog w) (A.deeper env) (execs body env) (fun f s' => R (.ok (.ret (match f with | .ret v => v | _ => .none))) s')
      (fun e s' => wpAny (model prog w) (A.deeper env) (leaving env e) (fun _ s'' => R (.error e) s'') (fun e' s'' => R (.error e') s'') s') s) : codeN (model prog w) A (.func body env) R s := by
  refine codeN.tree rfl ?_
  show wpN _ (A.deeper env) (do point; match ← (execs body env).onRaise (leaving env) with | .ret v => ret v | _ => ret .none) _ _ s
  intro Γ p hΓ q
  rw [Sem.wp_bind']
  change Sem.wp (model prog w) Γ ((execs body env).onRaise (leaving env) >>= _) _ _ p s
  rw [Sem.wp_bind', Sem.wp_onRaise]
  refine Sem.wp_mono _ Γ _ (fun f p' s' h' => ?_) (fun e p' s' h' => h' Γ p' hΓ) p s (h Γ p hΓ q)
  cases f <;> exact h'
theorem codeN_function {prog : Program} {w : World} {A : Around} {R : Result → Shared → Prop} {s : Shared} {a : Addr} {o : Obj} {fd : FuncData} {body : List Stmt} {args : Args} {binds : List (Str × Value)}
    (hroom : A.depth < recursionLimit) (ho : s.heap.get? a = some o) (hdata : o.data = .func fd) (hlim : s.heap.NoLimit) (hcd : s.heap.CodeRec fd.code fd.qualname)
    (hbody : fd.body = .stmts body) (hbind : BindsTo s fd args binds)
    (hcell : ∀ x ∈ fd.scope.names, x.2 ≠ .cell) (hloc : ∀ x ∈ binds, fd.scope.names.lookup x.1 = some .local)
    (hco : fd.scope.isCoroutine = false) (hgen : fd.scope.isGenerator = false) (hk : fd.scope.kind = .function)
    (h : ∀ h₀, h₀.Ns s.heap.objs.size (fun x => binds.reverse.lookup x) → (∀ b o, s.heap.get? b = some o → h₀.get? b = some o) →
      codeN (model prog w) A (.func body (callEnv fd s.heap.objs.size a)) R { s with heap := h₀, toks := s.toks + binds.length }) :
    codeN (model prog w) A (.call (.ref a) args) R s := by
  refine codeN.tree rfl fun Γ p hΓ _ => ?_
  refine (show wpAny (model prog w) A.in1 (callAny (.ref a) args) (fun fin s' => match fin with | .done f => R (.ok f) s' | .again c' => c'.quiet = true ∧ codeN (model prog w) A c' R s') (fun e s' => R (.error e) s') s from ?_) Γ p hΓ
  simp only [callAny]
  refine wpAny_bind (wpAny_load ho ?_)
  obtain ⟨c, oc, vs, tq, hc, hoc, hdc, hq⟩ := hcd
  simp only [hdata, callFunction, hco, hgen, hbody, hc]
  refine wpAny_bind (m := field (.ref c) 1) (wpAny_field hoc hdc hq (wpAny_bind (wpAny_pure ?_)))
  refine wpAny_bind (hbind _ _ _ _ ?_)
  refine wpAny_bind (wpAny_mono (Q := fun env s₂ => s₂.heap.NoLimit ∧ codeN (model prog w) A (.func body env) R s₂) (wpAny_newFunctionEnv hcell hloc (fun h₀ hns hsb => ⟨hlim.fresh _ hsb, ?_⟩) hk) (fun env s₂ h₂ => wpAny_bind (wpAny_enterFrame h₂.1 hroom (wpAny_pure (And.intro rfl h₂.2)))) fun _ _ q => q)
  have := h h₀ hns fun b o e => hsb.extBut b o (Nat.ne_of_lt (Heap.lt_size e)) (Heap.get?_push_of_some _ e)
  unfold callEnv at this
  rw [hc] at this
  exact this
/-- entering a def: whatever it leaves behind -/
theorem enterR {w : World} {mg mb : Str → Option Value} {A : Around} {s : Shared} {g : Heap} {f : Addr} {fd : FuncData} {od : Option Addr} {pos : List Value} {kw : List (Str × Value)} {Q : Result → Shared → Prop} {news : List (Addr × Obj)}
    (ps ls : List Str) (vs : List Value)
    (G : Gl w mg mb g) (sub : ∀ b o, g.get? b = some o → s.heap.get? b = some o) (hsz : g.objs.size ≤ s.heap.objs.size) (N : ∀ p ∈ news, s.heap.get? p.1 = some p.2 ∧ g.get? p.1 = none)
    (R : Rm A 1) (ho : ∀ P, (KF P).lookup f = some (fnO fd od)) (body : List Stmt) (hb : fd.body = .stmts body)
    (hcd : ∀ P, codeIn (KF P) fd.code fd.qualname = true)
    (h : ∀ L s', s.heap.objs.size ≤ L → (∀ b o, s.heap.get? b = some o → s'.heap.get? b = some o) → St ⟨w, mg, mb, g, L, s.gens, s.os⟩ (look (ps ++ ls) (vs.map some ++ ls.map fun _ => none)) news s' →
      W ⟨w, mg, mb, g, L, s.gens, s.os⟩ (A.deeper (callEnv fd L f)) (execs body (callEnv fd L f)) (fun fl s'' => Q (.ok (.ret (match fl with | .ret v => v | _ => .none))) s'')
        (fun e s' => wpAny (model PW w) (A.deeper (callEnv fd L f)) (leaving (callEnv fd L f) e) (fun _ s'' => Q (.error e) s'') (fun e' s'' => Q (.error e') s'') s') s')
    (hbind : ∀ S, peek (KF w.params) S (bindArgs fd ⟨pos, kw⟩) = some (ps.zip vs)) (hlen : ps.length = vs.length) (hnd : ps.Nodup) (hpl : fnPlain fd = true) (hloc : bindsLocal fd.scope ps = true) :
    codeN (model PW w) A (.call (.ref f) ⟨pos, kw⟩) Q s := by
  simp only [fnPlain, noCells, Bool.and_eq_true, List.all_eq_true, decide_eq_true_eq, Bool.not_eq_true'] at hpl
  obtain ⟨⟨⟨p1, p2⟩, p3⟩, p4⟩ := hpl
  have K := G.K.keeps sub
  refine codeN_function (body := body) (by have := R.depth; omega) (K _ _ (ho _)) rfl (G.nolimit.keeps sub) (codeRec_of K (hcd _)) hb (kp_binds K hbind) p1 (fun x hx => ?_) p2 p3 p4 (fun h₀ hns hk => ?_)
  · have hx1 : x.1 ∈ ps := (List.of_mem_zip (show (x.1, x.2) ∈ ps.zip vs from hx)).1
    have := List.all_eq_true.mp hloc x.1 hx1
    simpa using this
  · have hns' : h₀.Ns s.heap.objs.size (look (ps ++ ls) (vs.map some ++ ls.map fun _ => none)) := by
      have e : (look (ps ++ ls) (vs.map some ++ ls.map fun _ => none)) = fun x => (ps.zip vs).reverse.lookup x := by
        funext x
        have := rep_none ls
        rw [← this, look_pad _ _ _ _ _ (by simpa using hlen), look_binds ps vs x hlen hnd]
      rw [e]; exact hns
    exact codeN_func (M := model PW w) (h s.heap.objs.size { s with heap := h₀, toks := s.toks + (ps.zip vs).length } (Nat.le_refl _) hk ⟨G, ⟨hns', fun b o e => hk b o (sub b o e), hsz⟩, fun p hp => ⟨hk _ _ (N p hp).1, Nat.ne_of_lt (Heap.lt_size (N p hp).1), (N p hp).2⟩, rfl, rfl⟩).out
/-- entering a def by its contract -/
theorem enterW {w : World} {mg mb : Str → Option Value} {A : Around} {s : Shared} {f : Addr} {fd : FuncData} {od : Option Addr} {pos : List Value} {kw : List (Str × Value)} {P : Value → Shared → Prop}
    (ps ls : List Str) (vs : List Value)
    (G : Gl w mg mb s.heap) (R : Rm A 1) (ho : ∀ P, (KF P).lookup f = some (fnO fd od)) (body : List Stmt) (hb : fd.body = .stmts body)
    (hcd : ∀ P, codeIn (KF P) fd.code fd.qualname = true)
    (h : ∀ L s', St (cx w mg mb s L) (look (ps ++ ls) (vs.map some ++ ls.map fun _ => none)) [] s' →
      W (cx w mg mb s L) (A.deeper (callEnv fd L f)) (execs body (callEnv fd L f)) (fun fl s'' => Ext s s'' ∧ P (match fl with | .ret v => v | _ => .none) s'') (fun _ _ => False) s')
    (hbind : ∀ S, peek (KF w.params) S (bindArgs fd ⟨pos, kw⟩) = some (ps.zip vs) := by intro S; kernel_rfl) (hlen : ps.length = vs.length := by rfl) (hnd : ps.Nodup := by decide) (hpl : fnPlain fd = true := by kernel_rfl) (hloc : bindsLocal fd.scope ps = true := by kernel_rfl) :
    Gives w A (.ref f) pos kw P s :=
  enterR (news := []) ps ls vs G (fun _ _ e => e) (Nat.le_refl _) (fun p hp => nomatch hp) R ho body hb hcd (fun L s' _ _ S => (h L s' S).mono (fun _ _ q => q) fun _ _ q => q.elim) hbind hlen hnd hpl hloc
/-- the body, its first statement shown -/
theorem open_body {c : Cx} {A : Around} {E : Value → Shared → Prop} {s : Shared} {env : Env} {Q : Flow → Shared → Prop} {body : List Stmt} {st : Stmt} {rest : List Stmt} (e : body = st :: rest) (h : W c A (execs (st :: rest) env) Q E s) : W c A (execs body env) Q E s := e ▸ h

/-! octets and numbers -/
/-- the number of octets, great end first -/
def beN (b : List UInt8) : Nat := b.foldl (fun a c => a * 256 + c.toNat) 0
section
variable {c : Cx} {m : Str → Option Value} {A : Around} {E : Value → Shared → Prop} {s : Shared} {news : List (Addr × Obj)} {env : Env} {ns : List Str} {vs : List (Option Value)}
theorem log_small {n : Nat} (hn : n < 2 ^ 100000) : ¬ (n.log2 ≥ bitsLine) := by
  have hb : bitsLine = 134217728 := by first | rfl | decide
  by_cases hz : n = 0
  · subst hz
    rw [hb]
    decide
  · have h1 := (Nat.log2_lt hz).mpr hn
    omega
theorem grown {M : Model} {n : Nat} {Q : Value → Shared → Prop} (hn : n < 2 ^ 100000) (h : Q (.int (n : Int) s.toks) { s with toks := s.toks + 1 }) : wpAny M A (mkIntGrown (n : Int)) Q E s := by
  unfold mkIntGrown
  rw [if_neg (by rw [Int.natAbs_natCast]; exact log_small hn)]
  exact wpAny_mkInt h
theorem beN_lt (b : List UInt8) : beN b < 256 ^ b.length := by
  have h1 := KFB.fold_lt b 0
  rw [Nat.zero_add, Nat.one_mul] at h1
  exact h1
theorem tree_from {M : Model} {b : Array UInt8} {t u : Tok} {P : Fin → Shared → Prop} (hl : b.size ≤ 10000) (h : P (.done (.ret (.int (beN b.toList : Nat) s.toks))) { s with toks := s.toks + 1 }) :
    wpAny M A (Builtin.«int.from_bytes» ⟨[.type "int", .bytes b t, .str (PySem.Str.ofString "big") u], []⟩) P E s := by
  have hn : beN b.toList < 2 ^ 100000 := by
    have h1 := beN_lt b.toList
    rw [Array.length_toList] at h1
    refine Nat.lt_of_lt_of_le h1 ?_
    rw [show (256 : Nat) = 2 ^ 8 from rfl, ← Nat.pow_mul]
    exact Nat.pow_le_pow_right (by decide) (by omega)
  unfold Builtin.«int.from_bytes»
  refine wpAny_bind (wpAny_of_eq (a := true) KFB.type_int ?_)
  refine KFB.if_not rfl ?_
  refine wpAny_bind (wpAny_of_eq (a := true) F.conv_sub_int ?_)
  refine KFB.if_not rfl ?_
  refine wpAny_bind (wpAny_of_eq (a := [some (.bytes b t), some (.str (PySem.Str.ofString "big") u), none]) (by kernel_rfl) ?_)
  refine wpAny_bind (wpAny_of_eq (a := PySem.Str.ofString "big") (by kernel_rfl) ?_)
  refine wpAny_bind (wpAny_of_eq (a := false) rfl ?_)
  refine wpAny_bind (wpAny_of_eq (a := false) (by kernel_rfl) ?_)
  refine wpAny_bind (wpAny_of_eq (a := b) rfl ?_)
  show wpAny _ _ (mkIntGrown (b.toList.foldl (fun (acc : Int) (b : UInt8) => acc * 256 + (b.toNat : Int)) ((0 : Nat) : Int)) >>= fun v => _) _ _ _
  rw [KFB.foldI_eq]
  refine wpAny_bind (grown hn ?_)
  refine KFB.if_so (by decide +kernel) ?_
  exact wpAny_bind (wpAny_pure (wpAny_pure h))
theorem g_from {pl : Sem Bool} {Q : Value × List Value → Shared → Prop} (S : St c m news s) (h : ∀ x s', St c m ((x, KFB.bound) :: news) s' → Q (.ref x, []) s') :
    W c A (getMethod (.type "int") (PySem.Str.ofString "from_bytes") pl) Q E s :=
  W.mk (KFB.getm S.F S.N S.G.K (by kernel_rfl) fun x _ F' N' _ => h x _ (S.put F' N'))
theorem cw_from {x : Addr} {pos : Pos} {e : Expr} {rest : List Expr} {Q : Value → Shared → Prop}
    (h : W c A (spliced (backTo pos (starEach (e :: rest) env))) (fun vs s₁ => (∃ m' news', (x, KFB.bound) ∈ news' ∧ St c m' news' s₁) ∧ W c A (call (.ref x) vs) Q E s₁) E s) (hn : notStar e = true := by rfl) (hs : noStars rest = true := by rfl) :
    W c A (callWith pos (.ref x) [] (backTo pos (starEach (e :: rest) env)) (backToKw pos (keywordEach [] env))) Q E s := by
  refine cw_gen (P := fun h => h.get? x = some KFB.bound) (stars_false hn hs _ rfl) (fun h e => ⟨.machine, .inr (.inl rfl), (Looks.ld (part := none) e).andThen .now⟩) ?_
  rw [starEach_cons hn, backTo_cons] at h ⊢
  exact ev_plain (h.mono (fun vs s₁ h₁ => ⟨(by obtain ⟨_, _, hm, S⟩ := h₁.1; exact (S.N _ hm).1), h₁.2⟩) fun _ _ q => q)
theorem r_from {x : Addr} {b : Array UInt8} {t u : Tok} {Q : Value → Shared → Prop} (S : St c m news s) (hx : (x, KFB.bound) ∈ news) (hb : b.size ≤ 10000) (h : ∀ t' s', St c m news s' → Q (.int (beN b.toList : Nat) t') s') :
    W c A (call (.ref x) [.bytes b t, .str (PySem.Str.ofString "big") u]) Q E s :=
  W.mk (KFB.call_of (KFB.at_of S.N hx) (fun z => tree_from hb z) (h _ _ (S.at rfl rfl rfl)))
end

theorem C_number {w mg mb A s b t} (G : Gl w mg mb s.heap) (R : Rm A 5) (hb : b.size ≤ 10000) :
    Gives w A (.ref 139) [.bytes b t] [] (fun v _ => ∃ t', v = .int (beN b.toList : Nat) t') s := by
  refine enterW ["octets"] [] [.bytes b t] G R.less lk139 (defBody (topSt 18)) rfl cd139 fun L s S => ?_
  refine open_body rfl ?_
  refine x_ret (e_meth (b_int S (g_from S fun x s S => ?_)))
  refine cw_from (s_more (ld 0 S (s_more (c_str S fun u s S => s_nil ⟨⟨_, _, .head _, S⟩, ?_⟩))))
  refine r_from S (.head _) hb fun t' s' S => ?_
  exact ⟨S.done, t', rfl⟩
end Mine
end

section
set_option Elab.async false
set_option maxRecDepth 100000
set_option exponentiation.threshold 20000
set_option linter.unusedVariables false
open PySem PySem.W PyProof.Rows PySem.Calls
namespace Mine

def Small (n : Nat) : Prop := n < 256 ^ 2000
theorem Small.pow {n k : Nat} (h : n < 256 ^ k) (hk : k ≤ 2000 := by decide) : Small n := Nat.lt_of_lt_of_le h (Nat.pow_le_pow_right (by decide) hk)
theorem Small.of {n m : Nat} (h : n ≤ m) (hm : Small m) : Small n := Nat.lt_of_le_of_lt h hm
theorem Small.lit {n : Nat} (h : n < 256 ^ 100) : Small n := Small.pow h
theorem Small.bits {n : Nat} (h : Small n) : Builtin.Int.intBits (n : Int) ≤ 16000 := by
  refine intBits_le_iff.mpr ?_
  rw [Int.natAbs_natCast]
  unfold Small at h
  rw [show (256 : Nat) = 2 ^ 8 from rfl, ← Nat.pow_mul] at h
  exact h
theorem Small.ok {a b : Nat} (ha : Small a) (hb : Small b) : IntMulOk (a : Int) (b : Int) := IntMulOk.of_bits (Nat.le_trans ha.bits (by decide)) (Nat.le_trans hb.bits (by decide))

section
variable {c : Cx} {m : Str → Option Value} {A : Around} {E : Value → Shared → Prop} {s : Shared} {news : List (Addr × Obj)} {env : Env} {a b : Nat} {t u : Tok} {Q : Value → Shared → Prop}

theorem c_nat (n : Nat) {i : Int} {k : Nat} {pos : Pos} {Q : Value → Shared → Prop} (S : St c m news s) (h : ∀ t s', St c m news s' → Q (.int (n : Int) t) s') (hi : i = (n : Int) := by rfl) : W c A (eval (.Constant (.int i) k pos) env) Q E s := by
  subst hi; exact c_int S h
theorem p_add (S : St c m news s) (h : ∀ t s', St c m news s' → Q (.int ((a + b : Nat) : Int) t) s') : W c A (binaryOp .Add (.int a t) (.int b u)) Q E s :=
  W.mk (PyProof.Rows.add_int (h _ _ (S.at rfl rfl rfl)))
theorem p_sub (S : St c m news s) (hab : b ≤ a) (h : ∀ t s', St c m news s' → Q (.int ((a - b : Nat) : Int) t) s') : W c A (binaryOp .Sub (.int a t) (.int b u)) Q E s :=
  W.mk (PyProof.Rows.sub_int' (by rw [← Int.ofNat_sub hab]; exact h _ _ (S.at rfl rfl rfl)))
theorem p_mul (S : St c m news s) (ha : Small a) (hb : Small b) (h : ∀ t s', St c m news s' → Q (.int ((a * b : Nat) : Int) t) s') : W c A (binaryOp .Mult (.int a t) (.int b u)) Q E s :=
  W.mk (PyProof.Rows.mul_int (by rw [← Int.natCast_mul]; exact h _ _ (S.at rfl rfl rfl)) (ha.ok hb))
theorem p_mod {b : Nat} (S : St c m news s) (hb : b ≠ 0) (h : ∀ t s', St c m news s' → Q (.int ((a % b : Nat) : Int) t) s') : W c A (binaryOp .Mod (.int a t) (.int b u)) Q E s :=
  W.mk (PyProof.Rows.mod_int' (by omega) (by rw [Int.fmod_eq_emod_of_nonneg _ (Int.natCast_nonneg b), ← Int.natCast_emod]; exact h _ _ (S.at rfl rfl rfl)))
theorem p_modI {x : Int} {b : Nat} (S : St c m news s) (hb : b ≠ 0) (h : ∀ t s', St c m news s' → Q (.int (((x % (b : Int)).toNat : Nat) : Int) t) s') : W c A (binaryOp .Mod (.int x t) (.int b u)) Q E s :=
  W.mk (PyProof.Rows.mod_int' (by omega) (by
    rw [Int.fmod_eq_emod_of_nonneg _ (Int.natCast_nonneg b), ← Int.toNat_of_nonneg (Int.emod_nonneg x (show (b : Int) ≠ 0 by omega))]
    exact h _ _ (S.at rfl rfl rfl)))
theorem p_fdiv {b : Nat} (S : St c m news s) (hb : b ≠ 0) (hs : b < 1073741824) (h : ∀ t s', St c m news s' → Q (.int ((a / b : Nat) : Int) t) s') : W c A (binaryOp .FloorDiv (.int a t) (.int b u)) Q E s :=
  W.mk (PyProof.Rows.floordiv_int (by omega) (by rw [Int.fdiv_eq_ediv_of_nonneg _ (Int.natCast_nonneg b), ← Int.natCast_ediv]; exact h _ _ (S.at rfl rfl rfl)) (.inl (PyProof.noPylong_small (by rw [Int.natAbs_natCast]; exact hs))))
theorem p_pow {n : Nat} (S : St c m news s) (ha : a < 2 ^ 16) (hn : n ≤ 1000) (h : ∀ t s', St c m news s' → Q (.int ((a ^ n : Nat) : Int) t) s') : W c A (binaryOp .Pow (.int a t) (.int n u)) Q E s :=
  W.mk (PyProof.Rows.pow_int (Int.natCast_nonneg n) (by
    have hb : Builtin.Int.intBits (a : Int) ≤ 16 := intBits_le_iff.mpr (by rw [Int.natAbs_natCast]; exact ha)
    have h1 : (Builtin.Int.intBits (a : Int) : Int) * (n : Int) = ((Builtin.Int.intBits (a : Int) * n : Nat) : Int) := by simp
    rw [h1]
    have h2 : Builtin.Int.intBits (a : Int) * n ≤ 16 * 1000 := Nat.mul_le_mul hb hn
    omega) (by rw [Int.toNat_natCast, ← Int.natCast_pow]; exact h _ _ (S.at rfl rfl rfl)))
theorem p_eq (h : Q (.bool (decide (a = b))) s) : W c A (compareOp .Eq (.int a t) (.int b u)) Q E s :=
  W.mk (PyProof.Rows.eq_int (by
    have e : ((a : Int) == (b : Int)) = decide (a = b) := by rw [Bool.eq_iff_iff]; simp [Int.ofNat_inj]
    rw [e]; exact h))
theorem p_lt (h : Q (.bool (decide (a < b))) s) : W c A (compareOp .Lt (.int a t) (.int b u)) Q E s :=
  W.mk (PyProof.Rows.lt_int (by
    have e : decide ((a : Int) < (b : Int)) = decide (a < b) := decide_eq_decide.mpr Int.ofNat_lt
    rw [e]; exact h))
theorem p_le (h : Q (.bool (decide (a ≤ b))) s) : W c A (compareOp .LtE (.int a t) (.int b u)) Q E s :=
  W.mk (PyProof.Rows.le_int (by
    have e : decide ((a : Int) ≤ (b : Int)) = decide (a ≤ b) := decide_eq_decide.mpr Int.ofNat_le
    rw [e]; exact h))
theorem p_gt (h : Q (.bool (decide (b < a))) s) : W c A (compareOp .Gt (.int a t) (.int b u)) Q E s :=
  W.mk (PyProof.Rows.gt_int (by
    have e : decide ((b : Int) < (a : Int)) = decide (b < a) := decide_eq_decide.mpr Int.ofNat_lt
    rw [e]; exact h))
theorem t_bool {b : Bool} {Q : Bool → Shared → Prop} (h : Q b s) : W c A (truthy (.bool b)) Q E s := W.mk (wpAny_truthy_bool h)

/-! octets -/
theorem y_add {b d : List UInt8} (S : St c m news s) (hz : b.length + d.length ≤ 16777216) (h : ∀ t s', St c m news s' → Q (.bytes (b ++ d).toArray t) s') : W c A (binaryOp .Add (.bytes b.toArray t) (.bytes d.toArray u)) Q E s :=
  W.mk (bytes_add_K (by simpa using hz) rfl fun _ _ => h _ _ (S.at rfl rfl rfl))
theorem y_len {b : List UInt8} (S : St c m news s) (hz : b.length ≤ 16777216) (h : ∀ t s', St c m news s' → Q (.int (b.length : Nat) t) s') : W c A (call (.builtin "len") [.bytes b.toArray t]) Q E s :=
  W.mk (len_bytes (by rw [List.size_toArray]; omega) (by rw [List.size_toArray]; exact h _ _ (S.at rfl rfl rfl)))
theorem y_eq {b d : List UInt8} (h : Q (.bool (b == d)) s) : W c A (compareOp .Eq (.bytes b.toArray t) (.bytes d.toArray u)) Q E s := W.mk (eq_bytes h)
theorem y_ne {b d : List UInt8} (h : Q (.bool (b != d)) s) : W c A (compareOp .NotEq (.bytes b.toArray t) (.bytes d.toArray u)) Q E s := W.mk (ne_bytes h)
theorem y_item {b : List UInt8} {i : Nat} {value slice : Expr} (S : St c m news s) (hz : b.length ≤ 16777216) (hi : i < b.length) (h : ∀ t s', St c m news s' → Q (.int ((b.getD i 0).toNat : Nat) t) s')
    (hs : subscripted slice false (.bytes b.toArray t) (.int (i : Int) u) = operate [.bytes b.toArray t, .int (i : Int) u] (getItem (.bytes b.toArray t) (.int (i : Int) u)) := by with_unfolding_all rfl)
    (ht : ∀ r, letTemporaryGo value (.bytes b.toArray t) r = pure () := by intro _; with_unfolding_all rfl) : W c A (subscriptTail value slice (.bytes b.toArray t) (.int (i : Int) u)) Q E s :=
  W.mk (bytes_item_K (by omega) (Int.natCast_nonneg i) (by omega) rfl (h _ _ (S.at rfl rfl rfl)) hs ht)

/-! cuts -/
def cutL {α : Type} (lo hi : Option Int) (l : List α) : List α := (l.drop (lo.elim 0 (clipAt l.length))).take (hi.elim l.length (clipAt l.length) - lo.elim 0 (clipAt l.length))
theorem cutL_len {α : Type} (lo hi : Option Int) (l : List α) : (cutL lo hi l).length ≤ l.length := by unfold cutL; rw [List.length_take, List.length_drop]; omega
theorem St.push {o : Obj} (S : St c m news s) : St c m news { s with heap := s.heap.push o } := ⟨S.G, S.F.push _, News.pushKeep S.N _, S.gens, S.os⟩
theorem y_cut {b : List UInt8} {value slice : Expr} {l r : Value} {lo hi : Option Int} (S : St c m news s) (hl : IsPart l lo) (hu : IsPart r hi) (hz : b.length ≤ 16777216)
    (h : ∀ t s', St c m news s' → Q (.bytes (cutL lo hi b).toArray t) s')
    (hs : subscripted slice false (.bytes b.toArray t) (.ref s.heap.objs.size) = operate [.ref s.heap.objs.size, .bytes b.toArray t] (getItem (.bytes b.toArray t) (.ref s.heap.objs.size)) := by with_unfolding_all rfl)
    (ht : ∀ r, letTemporaryGo value (.bytes b.toArray t) r = pure () := by intro _; with_unfolding_all rfl) :
    W c A (subscriptTail value slice (.bytes b.toArray t) (.ref s.heap.objs.size)) Q E { s with heap := s.heap.push { cls := .type "slice", data := .fields #[l, r, .none] } } := by
  have e : KBy.picked b.toArray lo hi = (cutL lo hi b).toArray := by rw [KBc.picked_eq]; simp only [List.size_toArray]; rfl
  refine W.mk (tail_of_ItemOn ⟨"bytes", _, FB.slot_bytes_getitem.lookup, typeIs_bytes _ _ _, getItem_meets (typeIs_bytes _ _ _) (by decide) FB.slot_bytes_getitem FB.entry_bytes_getitem (FB.args_bytes_getitem_2 _ _) (KBc.meets_slice2 b.toArray t _ hl hu)
    ⟨Heap.IsSliceOf.new _ _ _ _, ?_, fun t' k => ?_⟩⟩ hs ht)
  · rw [e, List.size_toArray, sizeLine_eq]; have := cutL_len lo hi b; omega
  · rw [e]; exact h _ _ (S.push.at rfl rfl rfl)
theorem e_cut {lower upper : Option Expr} {p : Pos} (h : W c A (evalPart lower env) (fun l s₁ => W c A (evalPart upper env) (fun r s₂ => Q (.ref s₂.heap.objs.size) { s₂ with heap := s₂.heap.push { cls := .type "slice", data := .fields #[l, r, .none] } }) E s₁) E s) :
    W c A (eval (.Slice lower upper none p) env) Q E s :=
  e_slice (h.mono (fun l s₁ h => h.mono (fun r s₂ h => W.mk (wpAny_pure fun a s₄ _ e ea => by subst e; subst ea; exact h)) fun _ _ q => q) fun _ _ q => q)
theorem pt_none (h : Q .none s) : W c A (evalPart none env) Q E s := W.mk (wpAny_pure h)
theorem pt_some {e : Expr} (h : W c A (eval e env) Q E s) : W c A (evalPart (some e) env) Q E s := h
theorem e_neg {k : Nat} {p q : Pos} (n : Nat) {i : Int} (S : St c m news s) (h : ∀ t s', St c m news s' → Q (.int (-(n : Int)) t) s') (hi : i = (n : Int) := by rfl) :
    W c A (eval (.UnaryOp .USub (.Constant (.int i) k p) q) env) Q E s := by
  subst hi
  refine W.mk (PyProof.Rows.UnaryOp_ (wpAny_Constant_int (neg_int (h _ _ (S.at rfl rfl rfl)))))

/-! chains -/
theorem e_chain {l r₁ r₂ : Expr} {op₁ op₂ : CmpOp} {pos : Pos}
    (h : W c A (eval l env) (fun a s₁ => W c A (eval r₁ env) (fun b s₂ => W c A (compareOp op₁ a b) (fun v s₃ => W c A (truthy v) (fun t s₄ => if t = true then W c A (eval r₂ env) (fun d s₅ => W c A (compareOp op₂ b d) Q E s₅) E s₄ else Q v s₄) E s₃) E s₂) E s₁) E s)
    (hm : lastMarks [op₁, op₂] [r₁, r₂] = false := by with_unfolding_all rfl) :
    W c A (eval (.Compare l [op₁, op₂] [r₁, r₂] pos) env) Q E s := by
  have e : eval (.Compare l [op₁, op₂] [r₁, r₂] pos) env = (do compareChain pos (← eval l env) [op₁, op₂] (markedEach [op₁, op₂] [r₁, r₂] (evalEach [r₁, r₂] env))) := rfl
  rw [e, markedEach_of_false _ _ _ hm]
  refine W.then h fun a s₁ h => ?_
  show W c A (do
    let rv ← holding [a] (eval r₁ env)
    standAt pos
    let v ← holding [a, rv] (compareOp op₁ a rv)
    release [a, rv] [v]
    if ← holding [v, rv] (truthy v) then compareChain pos rv [op₂] [eval r₂ env] else pure v) Q E s₁
  refine W.then (W.hold h) fun b s₂ h => W.stand (W.then (W.hold h) fun v s₃ h => W.bind (W.mk (wpAny_release' (W.then (W.hold h) fun t s₄ h => ?_))))
  cases t with
  | false => exact W.pure h
  | true =>
    show W c A (do
      let rv ← holding [b] (eval r₂ env)
      standAt pos
      operate [b, rv] (compareOp op₂ b rv)) Q E s₄
    exact W.then (W.hold h) fun d s₅ h => W.stand (W.opr h)
theorem r_min {a b : Nat} (S : St c m news s) (hA : A.handled = none) (h : ∀ t s', St c m news s' → Q (.int (min a b : Nat) t) s') : W c A (call (.builtin "min") [.int a t, .int b u]) Q E s :=
  W.mk (min_two_N hA S.F S.N fun h' tk F' N' => by
    by_cases q : b < a
    · have e : min a b = b := by omega
      rw [if_pos (by omega), if_pos (by omega), ← e]
      exact h _ _ ⟨S.G, F', N', S.gens, S.os⟩
    · have e : min a b = a := by omega
      rw [if_neg (by omega), if_neg (by omega)]
      have := h t { s with heap := h', toks := tk } ⟨S.G, F', N', S.gens, S.os⟩
      rwa [e] at this)

/-! numbers to octets -/
end
/-- the last k octets of a number, great end first -/
def toBE : Nat → Nat → List UInt8
  | 0, _ => []
  | k + 1, n => toBE k (n / 256) ++ [UInt8.ofNat (n % 256)]
theorem toBE_len : ∀ k n, (toBE k n).length = k
  | 0, _ => rfl
  | k + 1, n => by rw [toBE, List.length_append, toBE_len]; rfl
theorem toBE_int : ∀ k n, (toBE k n).map (fun x => ((x.toNat : Nat) : Int)) = (KTBy.little k (n : Int)).reverse
  | 0, _ => rfl
  | k + 1, n => by
    show (toBE k (n / 256) ++ [UInt8.ofNat (n % 256)]).map _ = ((n : Int) % 256 :: KTBy.little k ((n : Int) / 256)).reverse
    rw [List.map_append, List.reverse_cons, toBE_int k (n / 256)]
    have e : ((UInt8.ofNat (n % 256)).toNat : Nat) = n % 256 := by rw [UInt8.toNat_ofNat']; omega
    simp [e]
theorem octs_inj : ∀ {a b : List UInt8}, a.map (fun x => ((x.toNat : Nat) : Int)) = b.map (fun x => ((x.toNat : Nat) : Int)) → a = b
  | [], [], _ => rfl
  | [], _ :: _, h => by simp at h
  | _ :: _, [], h => by simp at h
  | x :: a, y :: b, h => by
    simp only [List.map_cons, List.cons.injEq] at h
    rw [octs_inj h.2]
    have : x.toNat = y.toNat := by omega
    rw [UInt8.toNat_inj.mp this]
theorem beN_snoc (b : List UInt8) (x : UInt8) : beN (b ++ [x]) = beN b * 256 + x.toNat := by unfold beN; rw [List.foldl_append]; rfl
theorem beN_toBE : ∀ k n, beN (toBE k n) = n % 256 ^ k
  | 0, n => by simp [toBE, beN, Nat.mod_one]
  | k + 1, n => by
    have e : (UInt8.ofNat (n % 256)).toNat = n % 256 := by rw [UInt8.toNat_ofNat']; omega
    rw [toBE, beN_snoc, beN_toBE k, e, Nat.pow_succ, Nat.mul_comm (256 ^ k) 256, Nat.mod_mul]
    omega
section
variable {c : Cx} {m : Str → Option Value} {A : Around} {E : Value → Shared → Prop} {s : Shared} {news : List (Addr × Obj)} {env : Env} {a b : Nat} {t u v : Tok} {Q : Value → Shared → Prop}
open PySem.Builtin.Int (intBits) in
theorem to_tree {M : Model} {x k : Nat} {P : Fin → Shared → Prop} (hk : k ≤ 1000) (h1 : x < 256 ^ k) (h : ∀ t' k', P (.done (.ret (.bytes (toBE k x).toArray t'))) { s with toks := k' }) :
    wpAny M A (Builtin.«int.to_bytes» ⟨[.int (x : Int) t, .int (k : Int) u, .str (PySem.Str.ofString "big") v], []⟩) P E s := by
  have hb : intBits (x : Int) ≤ 8 * k := KTBy.bits_le (B := ((256 ^ k : Nat) : Int)) (by rw [Int.natCast_pow]; rfl) (Int.natCast_nonneg x) (Int.ofNat_lt.mpr h1)
  have h1' : (x : Int) < 256 ^ k := by rw [KTBy.p256]; exact Int.ofNat_lt.mpr h1
  have e : (KTBy.low (x : Int) k).reverse = toBE k x := octs_inj (by rw [List.map_reverse, KTBy.low_ints (Int.natCast_nonneg x) h1', ← KTBy.little_eq, toBE_int])
  show wpAny _ _ (Builtin.Int.intOfSelf (.int (x : Int) t) >>= fun y => _) _ _ s
  refine wpAny_bind (wpAny_of_eq (a := (x : Int)) rfl ?_)
  show wpAny _ _ (Builtin.Int.intBindNamed "to_bytes" ["length", "byteorder", "signed"] 0 2 [.int (k : Int) u, .str (PySem.Str.ofString "big") v] [] >>= fun l => _) _ _ s
  refine wpAny_bind (wpAny_of_eq (a := [some (.int (k : Int) u), some (.str (PySem.Str.ofString "big") v), none]) (by kernel_rfl) ?_)
  show wpAny _ _ (Builtin.Int.intIndex "int.to_bytes" (.int (k : Int) u) >>= fun n => _) _ _ s
  refine wpAny_bind (wpAny_of_eq (a := (k : Int)) rfl ?_)
  refine KTBy.if_not (by show (decide ((k : Int) < -(2 ^ 63 : Int)) || decide ((k : Int) ≥ 2 ^ 63)) = false; rw [decide_eq_false (show ¬ ((k : Int) < -(2 ^ 63 : Int)) by omega), decide_eq_false (show ¬ ((k : Int) ≥ 2 ^ 63) by omega)]; rfl) ?_
  refine wpAny_bind (wpAny_of_eq (a := PySem.Str.ofString "big") (by kernel_rfl) ?_)
  refine wpAny_bind (wpAny_of_eq (a := false) rfl ?_)
  refine wpAny_bind (wpAny_of_eq (a := false) (by kernel_rfl) ?_)
  refine wpAny_ite_false (decide_eq_false (show ¬ ((k : Int) < 0) by omega)) ?_
  refine wpAny_ite_false (decide_eq_false (show ¬ ((k : Int) > 2 ^ 63 - 1 - 33) by omega)) ?_
  refine wpAny_ite_false (decide_eq_false (show ¬ ((k : Int) > (sizeLine : Int)) by rw [sizeLine_eq]; omega)) ?_
  refine KTBy.if_not (by show (decide ((x : Int) < 0) && !false) = false; rw [decide_eq_false (show ¬ (x : Int) < 0 by omega)]; rfl) ?_
  refine KTBy.if_not (by show (_ && decide ((intBits (x : Int) : Int) > 8 * (k : Int))) = false; rw [decide_eq_false (show ¬ ((intBits (x : Int) : Int) > 8 * (k : Int)) by omega), Bool.and_false]) ?_
  refine wpAny_bind (wpAny_mkBytes (wpAny_pure ?_) (by show (List.reverse (KTBy.low (x : Int) (Int.toNat (k : Int)))).length ≤ sizeLine; rw [Int.toNat_natCast, e, toBE_len, sizeLine_eq]; omega))
  show P (.done (.ret (.bytes (List.reverse (KTBy.low (x : Int) (Int.toNat (k : Int)))).toArray _))) _
  rw [Int.toNat_natCast, e]
  exact h _ _
theorem g_to {x : Int} {pl : Sem Bool} {Q : Value × List Value → Shared → Prop} (h : Q (.builtin "int.to_bytes", [.int x t]) s) : W c A (getMethod (.int x t) (PySem.Str.ofString "to_bytes") pl) Q E s := W.mk (KTBy.method h)
theorem r_to {x k : Nat} (S : St c m news s) (hk : k ≤ 1000) (h1 : x < 256 ^ k) (h : ∀ t' s', St c m news s' → Q (.bytes (toBE k x).toArray t') s') :
    W c A (call (.builtin "int.to_bytes") [.int (x : Int) t, .int (k : Int) u, .str (PySem.Str.ofString "big") v]) Q E s :=
  W.mk (wpAny_call_entry KTBy.slot (typeIs_int s x t) KTBy.entry (to_tree hk h1 fun t' k' => ⟨_, rfl, h _ _ (S.at rfl rfl rfl)⟩) (KTBy.args _ _ _))
/-! lists of numbers, octets of them -/
theorem r_list {vs : List Value} (S : St c m news s) (h : ∀ l s', St c m ((l, listOf vs.toArray 0) :: news) s' → Q (.ref l) s') (hz : vs.length ≤ 16777216 := by exact Nat.le_of_ble_eq_true rfl) : W c A (newList vs) Q E s :=
  W.mk (newList_K S.F S.N (fun l h' F' N' _ => h l _ ⟨S.G, F', N', S.gens, S.os⟩) (by rw [sizeLine_eq]; exact hz))
theorem r_tuple {vs : List Value} (S : St c m news s) (h : ∀ l s', St c m ((l, { cls := .type "tuple", data := .seq vs.toArray }) :: news) s' → Q (.ref l) s') (hz : vs.length ≤ 16777216 := by exact Nat.le_of_ble_eq_true rfl) : W c A (newTuple vs) Q E s :=
  W.mk (newTuple_N S.F S.N (fun h' F' N' => h _ _ ⟨S.G, F', N', S.gens, S.os⟩) (by rw [sizeLine_eq]; exact hz))
theorem St.isList {l : Addr} {vs : List Value} {n : Nat} (S : St c m news s) (hm : (l, listOf vs.toArray n) ∈ news) : s.heap.IsList l vs.toArray := ⟨_, (S.N _ hm).1, rfl, _, rfl⟩
theorem r_bytes {l : Addr} {vs : List Value} {ns : List Nat} {n : Nat} (S : St c m news s) (hA : A.handled = none) (hm : (l, listOf vs.toArray n) ∈ news) (hi : IntsAre vs (ns.map fun (k : Nat) => (k : Int))) (hr : ∀ k ∈ ns, k < 256)
    (h : ∀ t s', St c m news s' → Q (.bytes (ns.map UInt8.ofNat).toArray t) s') (hz : vs.length ≤ 16777216 := by exact Nat.le_of_ble_eq_true rfl) : W c A (call (.type "bytes") [.ref l]) Q E s :=
  W.mk (bytes_K S.F S.N (S.isList hm) hi (fun k hk => by
    obtain ⟨j, hj, rfl⟩ := List.mem_map.mp hk
    have := hr j hj
    omega) (by rw [sizeLine_eq]; exact hz) hA fun h' t k F' N' _ => by
      have e : ((ns.map fun (k : Nat) => (k : Int)).map fun n => n.toNat.toUInt8) = ns.map UInt8.ofNat := by
        rw [List.map_map]; rfl
      rw [e]
      exact h _ _ ⟨S.G, F', N', S.gens, S.os⟩)
end
end Mine
end

section
set_option Elab.async false
set_option maxRecDepth 100000
set_option exponentiation.threshold 20000
open PySem PySem.W PyProof.Rows PySem.Calls
namespace Mine
def prime : Nat := 57896044618658097711785492504343953926634992332820282019728792003956564819949
def base : Nat := 47962653777612059811531418077271348761744880276845910084186123193600379925034
theorem prime_lt : prime < 256 ^ 32 := by decide
theorem prime_pos : prime ≠ 0 := by decide
theorem base_lt : base < 256 ^ 32 := by decide
theorem glN {c : Cx} {m : Str → Option Value} {A : Around} {E : Value → Shared → Prop} {s : Shared} {news : List (Addr × Obj)} {env : Env} {x : Str} {pos : Pos} {i : Int} {t : Tok} {Q : Value → Shared → Prop} (n : Nat) (S : St c m news s) (hx : ∀ P, nsIn (KF P) mainGlobals x = some (some (.int i t))) (h : ∀ t, Q (.int (n : Int) t) s) (hi : i = (n : Int) := by rfl) (hk : glOk env x = true := by kernel_rfl) :
    W c A (eval (.Name x pos) env) Q E s := by
  subst hi
  exact gl S hx (h _) hk

theorem C_octets {w mg mb A s t} {n : Nat} (G : Gl w mg mb s.heap) (R : Rm A 5) :
    Gives w A (.ref 146) [.int (n : Int) t] [] (fun v _ => ∃ t', v = .bytes (toBE 32 (n % prime)).toArray t') s := by
  refine enterW ["number"] [] [.int (n : Int) t] G R.less lk146 (defBody (topSt 19)) rfl cd146 fun L s S => ?_
  refine open_body rfl ?_
  refine x_ret (e_meth (e_bin (ld 0 S (glN prime S g__PRIME fun u => p_mod S prime_pos fun u s S => g_to ?_))))
  refine cw_bt' (s_more (c_nat 32 S fun u s S => s_more (c_str S fun u s S => s_nil ?_)))
  refine r_to S (by decide) (Nat.lt_trans (Nat.mod_lt _ (Nat.pos_of_ne_zero prime_pos)) prime_lt) fun t' s' S => ?_
  exact ⟨S.done, t', rfl⟩
theorem C_verify {w mg mb A s t} {b : List UInt8} (G : Gl w mg mb s.heap) (R : Rm A 10) (hb : b.length ≤ 10000) :
    Gives w A (.ref 153) [.bytes b.toArray t] [] (fun v _ => v = .bool (decide (0 < beN b ∧ beN b < prime))) s := by
  refine enterW ["secret"] [] [.bytes b.toArray t] G R.less lk153 (defBody (topSt 20)) rfl cd153 fun L s S => ?_
  refine open_body rfl ?_
  refine x_ret (e_chain (c_nat 0 S fun u s S => e_call (gl S g__number (cw_fn' lk139 (s_more (ld 0 S (s_nil ⟨⟨_, _, S⟩, ?_⟩)))))))
  refine use S (C_number S.gl R.deeper.less (by simpa using hb)) fun v s S x ⟨t', e⟩ => ?_
  subst e
  refine p_lt (t_bool ?_)
  by_cases h0 : 0 < beN b.toArray.toList
  · rw [decide_eq_true h0, if_pos rfl]
    refine glN prime S g__PRIME fun u => p_lt ?_
    refine ⟨S.done, ?_⟩
    show Value.bool _ = Value.bool _
    congr 1
    simp at h0 ⊢
    simp [h0]
  · rw [decide_eq_false h0, if_neg (by decide)]
    refine ⟨S.done, ?_⟩
    show Value.bool _ = Value.bool _
    congr 1
    simp at h0 ⊢
    simp [h0]
end Mine
end

section
set_option Elab.async false
set_option maxRecDepth 100000
set_option linter.unusedVariables false
open PySem PySem.W PyProof.Rows PySem.Calls
namespace Mine

/-- the objects of g still stand -/
structure ExtG (g : Heap) (s s' : Shared) : Prop where
  keep : ∀ b o, g.get? b = some o → s'.heap.get? b = some o
  gens : s'.gens = s.gens
  os : s'.os = s.os
theorem ExtG.ext {s s' : Shared} (x : ExtG s.heap s s') : Ext s s' := ⟨x.keep, x.gens, x.os⟩
abbrev cg (w : World) (mg mb : Str → Option Value) (g : Heap) (s : Shared) (L : Addr) : Cx := ⟨w, mg, mb, g, L, s.gens, s.os⟩
theorem St.doneG {w mg mb g s L m news s'} (S : St (cg w mg mb g s L) m news s') : ExtG g s s' := ⟨S.F.keep, S.gens, S.os⟩

/-- a call as code: it turns nothing of g, and raises nothing -/
def Runs (w : World) (A : Around) (f : Value) (args : List Value) (kw : List (Str × Value)) (g : Heap) (P : Value → Shared → Prop) (s : Shared) : Prop :=
  codeN (model PW w) A (.call f ⟨args, kw⟩) (fun r s' => match r with | .ok (.ret v) => ExtG g s s' ∧ P v s' | .ok _ => False | .error _ => False) s
theorem Runs.gives {w A f args kw P s} (h : Runs w A f args kw s.heap P s) : Gives w A f args kw P s := h.mono fun r s' q => by
  match r, q with
  | .ok (.ret v), q => exact ⟨q.1.ext, q.2⟩
  | .ok .next, q => exact q.elim
  | .ok .brk, q => exact q.elim
  | .ok .cont, q => exact q.elim
  | .error _, q => exact q.elim
theorem W.runs {c : Cx} {A : Around} {E : Value → Shared → Prop} {s : Shared} {f : Value} {args : List Value} {kw : List (Str × Value)} {g : Heap} {P : Value → Shared → Prop} {Q : Value → Shared → Prop}
    (C : Runs c.w A f args kw g P s) (h : ∀ v s', ExtG g s s' → P v s' → Q v s') : W c A (PySem.call f args kw) Q E s := W.call (C.mono fun r s' q => by
  match r, q with
  | .ok (.ret v), q => exact h v s' q.1 q.2
  | .ok .next, q => exact q.elim
  | .ok .brk, q => exact q.elim
  | .ok .cont, q => exact q.elim
  | .error _, q => exact q.elim)

theorem runsG {w : World} {mg mb : Str → Option Value} {A : Around} {s : Shared} {g : Heap} {f : Addr} {fd : FuncData} {od : Option Addr} {pos : List Value} {kw : List (Str × Value)} {P : Value → Shared → Prop} {news : List (Addr × Obj)}
    (ps ls : List Str) (vs : List Value)
    (G : Gl w mg mb g) (sub : ∀ b o, g.get? b = some o → s.heap.get? b = some o) (hsz : g.objs.size ≤ s.heap.objs.size) (N : ∀ p ∈ news, s.heap.get? p.1 = some p.2 ∧ g.get? p.1 = none)
    (R : Rm A 1) (ho : ∀ P, (KF P).lookup f = some (fnO fd od)) (body : List Stmt) (hb : fd.body = .stmts body)
    (hcd : ∀ P, codeIn (KF P) fd.code fd.qualname = true)
    (h : ∀ L s', s.heap.objs.size ≤ L → (∀ b o, s.heap.get? b = some o → s'.heap.get? b = some o) → St (cg w mg mb g s L) (look (ps ++ ls) (vs.map some ++ ls.map fun _ => none)) news s' →
      W (cg w mg mb g s L) (A.deeper (callEnv fd L f)) (execs body (callEnv fd L f)) (fun fl s'' => ExtG g s s'' ∧ P (match fl with | .ret v => v | _ => .none) s'') (fun _ _ => False) s')
    (hbind : ∀ S, peek (KF w.params) S (bindArgs fd ⟨pos, kw⟩) = some (ps.zip vs) := by intro S; kernel_rfl) (hlen : ps.length = vs.length := by rfl) (hnd : ps.Nodup := by decide) (hpl : fnPlain fd = true := by kernel_rfl) (hloc : bindsLocal fd.scope ps = true := by kernel_rfl) :
    Runs w A (.ref f) pos kw g P s :=
  enterR ps ls vs G sub hsz N R ho body hb hcd (fun L s' hL ek S => (h L s' hL ek S).mono (fun _ _ q => q) fun _ _ q => q.elim) hbind hlen hnd hpl hloc

/-- a contract at its call: it turns the addresses T alone -/
theorem useG {c : Cx} {m : Str → Option Value} {A : Around} {E : Value → Shared → Prop} {s : Shared} {news : List (Addr × Obj)} {f : Value} {args : List Value} {kw : List (Str × Value)} {P : Value → Shared → Prop} {Q : Value → Shared → Prop}
    (T : List Addr) (S : St c m news s) (hT : ∀ a ∈ T, ∃ o, (a, o) ∈ news) (C : Runs c.w A f args kw (hideAll s.heap T) P s)
    (h : ∀ v s', (∀ b o, b ∉ T → s.heap.get? b = some o → s'.heap.get? b = some o) → (∀ nw, (∀ p ∈ nw, s'.heap.get? p.1 = some p.2 ∧ (p.1 ∈ T ∨ s.heap.objs.size ≤ p.1 ∨ (p ∈ news ∧ p.1 ∉ T))) → St c m nw s') → P v s' → Q v s') :
    W c A (call f args kw) Q E s := by
  refine W.runs C fun v s' x p => ?_
  obtain ⟨k, eg, eo⟩ := x
  have keep : ∀ b o, b ∉ T → s.heap.get? b = some o → s'.heap.get? b = some o := fun b o hb e => k b o (hideAll_get _ e hb)
  refine h v s' keep (fun nw hn => ?_) p
  obtain ⟨oL, es, ep, hL, r⟩ := S.F.ns
  have hLT : c.L ∉ T := fun hh => by obtain ⟨o, ho⟩ := hT _ hh; exact (S.N _ ho).2.1 rfl
  have hgT : ∀ b o, c.g.get? b = some o → b ∉ T := fun b o e hh => by obtain ⟨o', ho⟩ := hT _ hh; rw [(S.N _ ho).2.2] at e; cases e
  refine ⟨S.G, ⟨⟨oL, es, ep, keep _ _ hLT hL, r⟩, fun b o e => keep b o (hgT b o e) (S.F.keep b o e), S.F.above⟩, fun p hp => ?_, eg.trans S.gens, eo.trans S.os⟩
  obtain ⟨h1, h2⟩ := hn p hp
  refine ⟨h1, ?_⟩
  rcases h2 with h2 | h2 | ⟨h2, _⟩
  · obtain ⟨o', ho⟩ := hT _ h2
    exact (S.N _ ho).2
  · have hlt : c.L < s.heap.objs.size := Heap.lt_size hL
    refine ⟨fun e => absurd (e ▸ h2) (Nat.not_le_of_lt hlt), ?_⟩
    cases q : c.g.get? p.1 with
    | none => rfl
    | some o =>
      have := Heap.lt_size (S.F.keep _ _ q)
      exact absurd h2 (Nat.not_le_of_lt this)
  · exact (S.N _ h2).2
theorem St.glT {c : Cx} {m : Str → Option Value} {s : Shared} {news : List (Addr × Obj)} (T : List Addr) (S : St c m news s) (hT : ∀ a ∈ T, ∃ o, (a, o) ∈ news) : Gl c.w c.mg c.mb (hideAll s.heap T) :=
  S.G.keeps fun b o e => hideAll_get _ (S.F.keep b o e) fun hh => by obtain ⟨o', ho⟩ := hT _ hh; rw [(S.N _ ho).2.2] at e; cases e

/-! instances -/
/-- a dict's entries: names and values -/
def Ents : List DictEntry → List Str → List Value → Prop
  | [], [], [] => True
  | e :: es, n :: ns, v :: vs => (∃ t, e.key = .str n t) ∧ e.val = v ∧ Ents es ns vs
  | _, _, _ => False
theorem Ents.len : ∀ {es ns vs}, Ents es ns vs → es.length = ns.length ∧ es.length = vs.length
  | [], [], [], _ => ⟨rfl, rfl⟩
  | _ :: _, _ :: _, _ :: _, h => ⟨congrArg (· + 1) (Ents.len h.2.2).1, congrArg (· + 1) (Ents.len h.2.2).2⟩
  | [], _ :: _, _, h => h.elim
  | [], [], _ :: _, h => h.elim
  | _ :: _, [], _, h => h.elim
  | _ :: _, _ :: _, [], h => h.elim
theorem isStr_str (n x : Str) (t : Tok) : (Value.str n t).isStr x = (n == x) := by
  unfold Value.isStr
  first | rfl | simp
theorem refKey_str {e : DictEntry} {n : Str} {t : Tok} (h : e.key = .str n t) : e.refKey = false := by
  unfold DictEntry.refKey; rw [h]
theorem getL_at : ∀ {es ns vs} {x : Str} {i : Nat} {v : Value}, Ents es ns vs → idxOk ns x i = true → vs[i]? = some v → getL x es = some (some v)
  | e :: es, n :: ns, u :: vs, x, 0, v, h, hi, hv => by
    obtain ⟨⟨t, hk⟩, he, _⟩ := h
    have := beq_iff_eq.mp hi
    subst this
    simp at hv
    subst hv
    unfold getL
    rw [List.find?_cons, hk, isStr_str, beq_self_eq_true]
    simp [he]
  | e :: es, n :: ns, u :: vs, x, i + 1, v, h, hi, hv => by
    obtain ⟨⟨t, hk⟩, he, h⟩ := h
    simp only [idxOk, Bool.and_eq_true, bne_iff_ne, ne_eq] at hi
    have ih := getL_at h hi.2 (by simpa using hv)
    have hb : (n == x) = false := by simpa using hi.1
    unfold getL at ih ⊢
    rw [List.find?_cons, hk, isStr_str, hb]
    simp only
    rw [show ((e :: es).any (·.refKey)) = es.any (·.refKey) by rw [List.any_cons, refKey_str hk]; rfl]
    exact ih
  | [], [], [], _, _, _, _, hi, _ => by cases hi
  | [], _ :: _, _, _, _, _, h, _, _ => h.elim
  | [], [], _ :: _, _, _, _, h, _, _ => h.elim
  | _ :: _, [], _, _, _, _, h, _, _ => h.elim
  | _ :: _, _ :: _, [], _, _, _, h, _, _ => h.elim
theorem getL_none : ∀ {es ns vs} {x : Str}, Ents es ns vs → ns.contains x = false → getL x es = some none
  | [], [], [], _, _, _ => rfl
  | e :: es, n :: ns, u :: vs, x, h, hi => by
    obtain ⟨⟨t, hk⟩, he, h⟩ := h
    rw [List.contains_cons] at hi
    simp only [Bool.or_eq_false_iff] at hi
    have ih := getL_none h hi.2
    have hb : (n == x) = false := by have := hi.1; simp at this ⊢; exact fun e => this e.symm
    unfold getL at ih ⊢
    rw [List.find?_cons, hk, isStr_str, hb]
    simp only
    rw [show ((e :: es).any (·.refKey)) = es.any (·.refKey) by rw [List.any_cons, refKey_str hk]; rfl]
    exact ih
  | [], _ :: _, _, _, h, _ => h.elim
  | [], [], _ :: _, _, h, _ => h.elim
  | _ :: _, [], _, _, h, _ => h.elim
  | _ :: _, _ :: _, [], _, h, _ => h.elim
theorem putL_new : ∀ {es ns vs} {x : Str} {hs : Int} {t : Tok} {v : Value}, Ents es ns vs → ns.contains x = false → Ents (putL x hs (.str x t) v es) (ns ++ [x]) (vs ++ [v])
  | [], [], [], x, _, t, v, _, _ => ⟨⟨t, rfl⟩, rfl, trivial⟩
  | e :: es, n :: ns, u :: vs, x, _, _, _, h, hi => by
    obtain ⟨⟨t, hk⟩, he, h⟩ := h
    rw [List.contains_cons] at hi
    simp only [Bool.or_eq_false_iff] at hi
    have hb : (n == x) = false := by have := hi.1; simp at this ⊢; exact fun e => this e.symm
    unfold putL
    rw [hk, isStr_str, hb]
    exact ⟨⟨t, hk⟩, he, putL_new h hi.2⟩
  | [], _ :: _, _, _, _, _, _, h, _ => h.elim
  | [], [], _ :: _, _, _, _, _, h, _ => h.elim
  | _ :: _, [], _, _, _, _, _, h, _ => h.elim
  | _ :: _, _ :: _, [], _, _, _, _, h, _ => h.elim
theorem putL_old : ∀ {es ns vs} {x : Str} {i : Nat} {hs : Int} {t : Tok} {v : Value}, Ents es ns vs → idxOk ns x i = true → Ents (putL x hs (.str x t) v es) ns (vs.set i v)
  | e :: es, n :: ns, u :: vs, x, 0, _, _, v, h, hi => by
    obtain ⟨⟨t, hk⟩, he, h⟩ := h
    have hi' : (n == x) = true := hi
    unfold putL
    rw [hk, isStr_str, hi']
    exact ⟨⟨t, rfl⟩, rfl, h⟩
  | e :: es, n :: ns, u :: vs, x, i + 1, _, _, v, h, hi => by
    obtain ⟨⟨t, hk⟩, he, h⟩ := h
    simp only [idxOk, Bool.and_eq_true, bne_iff_ne, ne_eq] at hi
    have hb : (n == x) = false := by simpa using hi.1
    unfold putL
    rw [hk, isStr_str, hb]
    exact ⟨⟨t, hk⟩, he, putL_old h hi.2⟩
  | [], [], [], _, _, _, _, _, _, hi => by cases hi
  | [], _ :: _, _, _, _, _, _, _, h, _ => h.elim
  | [], [], _ :: _, _, _, _, _, _, h, _ => h.elim
  | _ :: _, [], _, _, _, _, _, _, h, _ => h.elim
  | _ :: _, _ :: _, [], _, _, _, _, _, h, _ => h.elim
end Mine
end

section
set_option Elab.async false
set_option maxRecDepth 100000
set_option linter.unusedVariables false
open PySem PySem.W PyProof.Rows PySem.Calls
namespace Mine

def ownOk (K : Frag) (C : Addr) (name : Str) : Bool := plainGet K C name && hasDictIn K C && ((findIn K (.ref C) name).any (noGet K))
def fnOk (K : Frag) (C : Addr) (name : Str) (f : Addr) : Bool := plainGet K C name && findIn K (.ref C) name == some (some (.ref f)) && isFn K (.ref f)
def setOk (K : Frag) (C : Addr) (name : Str) : Bool := findIn K (.ref C) "__setattr__" == some (some (.builtin "object.__setattr__")) && plainOver K C && takerIn K C name == some none && hasDictIn K C
def propOk (K : Frag) (C : Addr) (name : Str) (p fget : Addr) : Bool := plainGet K C name && hasDictIn K C && findIn K (.ref C) name == some (some (.ref p)) &&
  specialIn K (.ref p) "__get__" == some (some (.builtin "property.__get__")) && takesIn K (.ref p) == some true && (recIn K p "property").any (·.head? == some (.ref fget))
def mkOk (K : Frag) (C fI : Addr) : Bool := makesIn K C && findIn K (.ref C) "__init__" == some (some (.ref fI)) && typeIn K (.ref fI) == some (.type "function") && keepIn K (.ref C)
def boundOk (K : Frag) (C : Addr) (name : Str) (T g : String) (p : Addr) (f : Addr) : Bool := typeIn K (.ref C) == some (.type "type") && readsIn K C (.type "type") && specialIn K (.ref C) "__getattribute__" == some (some (.builtin "type.__getattribute__")) &&
  (match findCls K (.ref C) (.type "type") name with | some (.get (.builtin i) (.ref p') .none (.ref C')) => i == g && p' == p && C' == C | _ => false) && (recIn K p T).any (·.head? == some (.ref f)) && fnIn K f

inductive Ask where
  | own (C : Addr) (name : Str)
  | fn (C : Addr) (name : Str) (f : Addr)
  | set (C : Addr) (name : Str)
  | prop (C : Addr) (name : Str) (p fget : Addr)
  | mk (C fI : Addr)
  | cm (C : Addr) (name : Str) (p f : Addr)
  | sm (C : Addr) (name : Str) (p f : Addr)
def Ask.ok (K : Frag) : Ask → Bool
  | .own C n => ownOk K C n
  | .fn C n f => fnOk K C n f
  | .set C n => setOk K C n
  | .prop C n p f => propOk K C n p f
  | .mk C f => mkOk K C f
  | .cm C n p f => boundOk K C n "classmethod" "classmethod.__get__" p f
  | .sm C n p f => boundOk K C n "staticmethod" "staticmethod.__get__" p f
def asks : List Ask := [
  .set 58 (.ofString "data"), .own 58 (.ofString "data"), .fn 58 (.ofString "digest") 55, .mk 58 41,
  .sm 93 (.ofString "sha256") 79 77,
  .set 494 (.ofString "_BytesIO__buf"), .set 494 (.ofString "_BytesIO__pos"), .own 494 (.ofString "_BytesIO__buf"), .own 494 (.ofString "_BytesIO__pos"),
  .fn 494 (.ofString "_BytesIO__check") 288, .fn 494 (.ofString "write") 477, .fn 494 (.ofString "read") 418, .fn 494 (.ofString "getvalue") 380,
  .set 1051 (.ofString "_point"), .set 1051 (.ofString "compressed"), .own 1051 (.ofString "_point"), .own 1051 (.ofString "compressed"),
  .fn 1051 (.ofString "serialize") 964, .fn 1051 (.ofString "sec") 935, .mk 1051 918, .prop 1051 (.ofString "is_private") 1013 1012,
  .set 1205 (.ofString "compressed"), .set 1205 (.ofString "_secret"), .set 1205 (.ofString "network"), .own 1205 (.ofString "compressed"), .own 1205 (.ofString "_secret"),
  .fn 1205 (.ofString "serialize") 784, .fn 1205 (.ofString "write_to") 1184, .fn 1205 (.ofString "get_public_key") 1141, .mk 1205 1068, .prop 1205 (.ofString "is_private") 1202 1201,
  .set 1420 (.ofString "key"), .set 1420 (.ofString "version"), .set 1420 (.ofString "chain_code"), .set 1420 (.ofString "depth"), .set 1420 (.ofString "fingerprint"), .set 1420 (.ofString "_my_fingerprint"), .set 1420 (.ofString "child_number"),
  .own 1420 (.ofString "key"), .own 1420 (.ofString "version"), .own 1420 (.ofString "chain_code"), .own 1420 (.ofString "depth"), .own 1420 (.ofString "fingerprint"), .own 1420 (.ofString "child_number"),
  .fn 1420 (.ofString "serialize") 784, .fn 1420 (.ofString "write_to") 1287, .fn 1420 (.ofString "to_base58") 1295, .fn 1420 (.ofString "to_public") 1331, .mk 1420 1234, .prop 1420 (.ofString "is_private") 1271 1270,
  .cm 1205 (.ofString "parse") 769 767, .cm 1051 (.ofString "parse") 769 767, .cm 1420 (.ofString "parse") 769 767,
  .cm 1205 (.ofString "read_from") 1193 1191, .cm 1051 (.ofString "read_from") 927 925, .cm 1420 (.ofString "read_from") 1322 1320, .cm 1420 (.ofString "from_base58") 1254 1252]
theorem asks_ok (P : Params) : (asks.map (Ask.ok (KF P))) = asks.map fun _ => true := by kernel_rfl
theorem ask (P : Params) (i : Nat) {a : Ask} (h : asks[i]? = some a) : a.ok (KF P) = true := at_of_map (asks_ok P) i h
end Mine
end

section
set_option Elab.async false
set_option maxRecDepth 100000
set_option linter.unusedVariables false
open PySem PySem.W PyProof.Rows PySem.Calls
namespace Mine

/-- an object of the class C, its names and their values -/
def Ob (h : Heap) (x C : Addr) (ns : List Str) (vs : List Value) : Prop := ∃ d es n, h.get? x = some (instObj C d) ∧ h.get? d = some (dictOf es n) ∧ Ents es ns vs
theorem Ob.keeps {h h' : Heap} {x C : Addr} {ns : List Str} {vs : List Value} (O : Ob h x C ns vs) (k : ∀ b o, h.get? b = some o → h'.get? b = some o) : Ob h' x C ns vs :=
  let ⟨d, es, n, a, b, e⟩ := O; ⟨d, es, n, k _ _ a, k _ _ b, e⟩
theorem St.apart {c : Cx} {m : Str → Option Value} {s : Shared} {news : List (Addr × Obj)} {a b : Addr} {o o' : Obj} (S : St c m news s) (ha : (a, o) ∈ news) (hb : (b, o') ∈ news) (hne : o ≠ o') : a ≠ b := fun e => by
  subst e
  have h1 := (S.N _ ha).1
  have h2 := (S.N _ hb).1
  exact hne (Option.some.inj (h1.symm.trans h2))
theorem St.ob {c : Cx} {m : Str → Option Value} {s : Shared} {news : List (Addr × Obj)} {x C d : Addr} {es : List DictEntry} {n : Nat} {ns : List Str} {vs : List Value} (S : St c m news s) (hx : (x, instObj C d) ∈ news) (hd : (d, dictOf es n) ∈ news) (e : Ents es ns vs) : Ob s.heap x C ns vs :=
  ⟨d, es, n, (S.N _ hx).1, (S.N _ hd).1, e⟩

section
variable {c : Cx} {m : Str → Option Value} {A : Around} {E : Value → Shared → Prop} {s : Shared} {news : List (Addr × Obj)} {env : Env} {x C d : Addr} {ns : List Str} {vs : List Value} {name : Str} {v : Value}

/-- an attribute of the object's own -/
theorem a_own (k i : Nat) {expr : Bool} {Q : Value → Shared → Prop} (S : St c m news s) (O : Ob s.heap x C ns vs) (h : ∀ s', St c m news s' → s'.heap = s.heap → Q v s')
    (hk : asks[k]? = some (.own C name) := by rfl) (hi : idxOk ns name i = true := by kernel_rfl) (hv : vs[i]? = some v := by rfl) (hh : handedIn v = true := by rfl) : W c A (getAttr (.ref x) name expr) Q E s := by
  obtain ⟨d, es, n, a, b, e⟩ := O
  have q := ask c.w.params k hk
  simp only [Ask.ok, ownOk, Bool.and_eq_true] at q
  obtain ⟨⟨q1, q2⟩, q3⟩ := q
  obtain ⟨r, hr, hn⟩ := any_some q3
  exact W.mk (get_own S.F S.G.K ⟨a, rfl, rfl, b⟩ q1 q2 hr hn (getL_at e hi hv) hh (h _ (S.at rfl rfl rfl) rfl))
/-- a method of the object -/
theorem a_fn (k : Nat) {f : Addr} {pl : Sem Bool} {Q : Value × List Value → Shared → Prop} (S : St c m news s) (O : Ob s.heap x C ns vs) (h : Q (.ref f, [.ref x]) s)
    (hk : asks[k]? = some (.fn C name f) := by rfl) (hi : ns.contains name = false := by kernel_rfl) : W c A (getMethod (.ref x) name pl) Q E s := by
  obtain ⟨d, es, n, a, b, e⟩ := O
  have q := ask c.w.params k hk
  simp only [Ask.ok, fnOk, Bool.and_eq_true, beq_iff_eq] at q
  obtain ⟨⟨q1, q2⟩, q3⟩ := q
  exact W.mk (method_inst S.F S.G.K ⟨a, rfl, rfl, b⟩ q1 q2 q3 (getL_none e hi) h)
/-- a new attribute -/
theorem a_new (k : Nat) {es : List DictEntry} {n : Nat} {rest : List (Addr × Obj)} {Q : Unit → Shared → Prop} (S : St c m ((x, instObj C d) :: (d, dictOf es n) :: rest) s) (hr : ∀ p ∈ rest, p.1 ≠ d) (e : Ents es ns vs)
    (h : ∀ es' n' s', Ents es' (ns ++ [name]) (vs ++ [v]) → St c m ((x, instObj C d) :: (d, dictOf es' n') :: rest) s' → Q () s')
    (hk : asks[k]? = some (.set C name) := by rfl) (hi : ns.contains name = false := by kernel_rfl) (hz : ns.length < 100 := by decide) : W c A (setAttr (.ref x) name v) Q E s := by
  have q := ask c.w.params k hk
  simp only [Ask.ok, setOk, Bool.and_eq_true, beq_iff_eq] at q
  obtain ⟨⟨⟨q1, q2⟩, q3⟩, q4⟩ := q
  have hxd : x ≠ d := S.apart (.head _) (.tail _ (.head _)) (fun z => by cases z)
  have e' : Ents (putL name (PyData.keyHash c.w.params name) (.str name (s.toks + 1)) v es) (ns ++ [name]) (vs ++ [v]) := putL_new e hi
  refine W.mk (set_dict S.F S.G.K S.N ⟨(S.N _ (.head _)).1, rfl, rfl, (S.N _ (.tail _ (.head _))).1⟩ rfl q1 q2 q3 q4 (by rw [getL_none e hi]; rfl) rfl (.tail hxd (.head hr)) ?_ fun h' F' N' => h _ _ _ e' ⟨S.G, F', N', S.gens, S.os⟩)
  rw [e'.len.1, List.length_append]
  show ns.length + 1 ≤ 1000
  omega
/-- an attribute that stands already -/
theorem a_old (k i : Nat) {es : List DictEntry} {n : Nat} {rest : List (Addr × Obj)} {Q : Unit → Shared → Prop} (S : St c m ((x, instObj C d) :: (d, dictOf es n) :: rest) s) (hr : ∀ p ∈ rest, p.1 ≠ d) (e : Ents es ns vs)
    (h : ∀ es' n' s', Ents es' ns (vs.set i v) → St c m ((x, instObj C d) :: (d, dictOf es' n') :: rest) s' → Q () s')
    (hk : asks[k]? = some (.set C name) := by rfl) (hi : idxOk ns name i = true := by kernel_rfl) (hv : i < vs.length := by decide) (hz : ns.length < 100 := by decide) : W c A (setAttr (.ref x) name v) Q E s := by
  have q := ask c.w.params k hk
  simp only [Ask.ok, setOk, Bool.and_eq_true, beq_iff_eq] at q
  obtain ⟨⟨⟨q1, q2⟩, q3⟩, q4⟩ := q
  have hxd : x ≠ d := S.apart (.head _) (.tail _ (.head _)) (fun z => by cases z)
  have e' : Ents (putL name (PyData.keyHash c.w.params name) (.str name (s.toks + 1)) v es) ns (vs.set i v) := putL_old e hi
  refine W.mk (set_dict S.F S.G.K S.N ⟨(S.N _ (.head _)).1, rfl, rfl, (S.N _ (.tail _ (.head _))).1⟩ rfl q1 q2 q3 q4 (by rw [getL_at e hi (List.getElem?_eq_getElem hv)]; rfl) rfl (.tail hxd (.head hr)) ?_ fun h' F' N' => h _ _ _ e' ⟨S.G, F', N', S.gens, S.os⟩)
  rw [e'.len.1]
  omega
/-- a static method, read off the class -/
theorem a_sm (k : Nat) {p f : Addr} {pl : Sem Bool} {Q : Value × List Value → Shared → Prop} (S : St c m news s) (h : ∀ s', St c m news s' → s'.heap = s.heap → Q (.ref f, []) s')
    (hk : asks[k]? = some (.sm C name p f) := by rfl) : W c A (getMethod (.ref C) name pl) Q E s := by
  have q := ask c.w.params k hk
  simp only [Ask.ok, boundOk, Bool.and_eq_true, beq_iff_eq] at q
  obtain ⟨⟨⟨⟨⟨q1, q2⟩, q3⟩, q4⟩, q5⟩, q6⟩ := q
  obtain ⟨r, hr, hn⟩ := any_some q5
  cases r with
  | nil => cases hn
  | cons f' rest =>
    have hf : f' = .ref f := by simpa using hn
    subst hf
    have e : findCls (KF c.w.params) (.ref C) (.type "type") name = some (.get (.builtin "staticmethod.__get__") (.ref p) .none (.ref C)) := by
      split at q4
      · rename_i i p' C' e
        simp only [Bool.and_eq_true, beq_iff_eq] at q4
        obtain ⟨⟨rfl, rfl⟩, rfl⟩ := q4
        exact e
      · cases q4
    exact W.mk (method_of_cls S.F S.G.K q3 (PySem.W.cls_sm S.F S.G.K q1 q2 e hr rfl (h _ (S.at rfl rfl rfl) rfl)))
/-- a class method, read off the class -/
theorem a_cm (k : Nat) {p f : Addr} {pl : Sem Bool} {Q : Value × List Value → Shared → Prop} (S : St c m news s) (h : ∀ q s', St c m ((q, methodObj (.ref f) (.ref C)) :: news) s' → (∀ b o, s.heap.get? b = some o → s'.heap.get? b = some o) → Q (.ref q, []) s')
    (hk : asks[k]? = some (.cm C name p f) := by rfl) : W c A (getMethod (.ref C) name pl) Q E s := by
  have q := ask c.w.params k hk
  simp only [Ask.ok, boundOk, Bool.and_eq_true, beq_iff_eq] at q
  obtain ⟨⟨⟨⟨⟨q1, q2⟩, q3⟩, q4⟩, q5⟩, q6⟩ := q
  obtain ⟨r, hr, hn⟩ := any_some q5
  cases r with
  | nil => cases hn
  | cons f' rest =>
    have hf : f' = .ref f := by simpa using hn
    subst hf
    have e : findCls (KF c.w.params) (.ref C) (.type "type") name = some (.get (.builtin "classmethod.__get__") (.ref p) .none (.ref C)) := by
      split at q4
      · rename_i i p' C' e
        simp only [Bool.and_eq_true, beq_iff_eq] at q4
        obtain ⟨⟨rfl, rfl⟩, rfl⟩ := q4
        exact e
      · cases q4
    have X := S.G.K.keeps S.F.keep
    refine W.mk (method_of_cls S.F S.G.K q3 (cls_bind X q2 e (wpAny_call (cm_get (s := { s with toks := s.toks + 1 }) X hr (handed_on rfl ?_)))))
    exact h s.heap.objs.size _ ⟨S.G, S.F.push _, S.N.push S.F _, S.gens, S.os⟩ fun b o e => Heap.get?_push_of_some _ e
end

theorem Rm.under {A : Around} {n : Nat} {C : Addr} {vals : List Value} {kw : List (Str × Value)} (R : Rm A (n + 1)) : Rm (A.under (.builtin "type.__call__" ⟨.ref C :: vals, kw⟩)) n := by
  refine ⟨?_, ?_, ?_, R.calm⟩
  · have := R.depth
    show A.depth + 1 + n < _
    omega
  · have := R.units
    show A.units + 1 + 10 * n < _
    omega
  · exact R.guards
end Mine
end

section
set_option Elab.async false
set_option maxRecDepth 100000
set_option linter.unusedVariables false
open PySem PySem.W PyProof.Rows PySem.Calls
namespace Mine
theorem ok_tc (args : Args) : okc (.builtin "type.__call__" args) = true := by show (!(Builtin.Bytes.decodersThatHold.contains "type.__call__")) = true; decide +kernel
theorem codeN_builtin {M : Model} {prog : Program} {w : World} {A : Around} {R : Result → Shared → Prop} {s : Shared} {id : String} {args : Args} {b : Builtin} (hb : entryFor table id = some b) (ho : okc (.builtin id args) = true)
    (h : wpN (model prog w) (A.under (.builtin id args)) (b args) (fun fin s' => match fin with | .done f => R (.ok f) s' | .again c' => c'.quiet = true ∧ codeN (model prog w) A c' R s') (fun e s' => R (.error e) s') s) :
    codeN (model prog w) A (.builtin id args) R s := by
  refine codeN.tree ho ?_
  show wpN _ _ (match entryFor table id with | some b => b args | none => unsupported ((withoutEnding? id "#data").getD id)) _ _ s
  rw [hb]; exact h
theorem codeN_call_builtin {prog : Program} {w : World} {A : Around} {R : Result → Shared → Prop} {s : Shared} {id : String} {args : Args} (hq : (Code.builtin id args).quiet = true)
    (h : wpAny (model prog w) A.in1 (checkBuiltinCall id args) (fun _ s₁ => codeN (model prog w) A (.builtin id args) R s₁) (fun e s' => R (.error e) s') s) :
    codeN (model prog w) A (.call (.builtin id) args) R s := by
  refine codeN.tree rfl fun Γ p hΓ _ => ?_
  refine (show wpAny (model prog w) A.in1 (do checkBuiltinCall id args; again (.builtin id args)) (fun fin s' => match fin with | .done f => R (.ok f) s' | .again c' => c'.quiet = true ∧ codeN (model prog w) A c' R s') (fun e s' => R (.error e) s') s from ?_) Γ p hΓ
  exact wpAny_bind (wpAny_mono h (fun _ s₁ h₁ => wpAny_pure (And.intro hq h₁)) fun _ _ h' => h')
theorem codeN_class {w : World} {A : Around} {R : Result → Shared → Prop} {s : Shared} {C : Addr} {args : List Value} {kw : List (Str × Value)} {oc : Value} {od : Option Addr} {cd : ClassData} {sl : Array (Option Value)}
    (hC : s.heap.get? C = some ⟨oc, od, .cls cd, sl⟩) (call : Looks (model PW w) s.heap (specialOf (.ref C) "__call__") (some (.builtin "type.__call__"))) (typ : Looks (model PW w) s.heap (isInstance (.ref C) (.type "type")) true)
    (h : codeN (model PW w) A (.builtin "type.__call__" ⟨.ref C :: args, kw⟩) R s) : codeN (model PW w) A (.call (.ref C) ⟨args, kw⟩) R s := by
  refine codeN.tree rfl fun Γ p hΓ _ => ?_
  refine (show wpAny (model PW w) A.in1 (callAny (.ref C) ⟨args, kw⟩) (fun fin s' => match fin with | .done f => R (.ok f) s' | .again c' => c'.quiet = true ∧ codeN (model PW w) A c' R s') (fun e s' => R (.error e) s') s from ?_) Γ p hΓ
  refine nd_load hC ?_
  show wpAny _ _ (callAny.viaDunder (.ref C) _) _ _ _
  unfold callAny.viaDunder
  refine wpAny_bind (call.at ?_)
  dsimp only
  rw [tc_bind]
  refine wpAny_bind (wpAny_pure (wpAny_bind (wpAny_pure ?_)))
  refine wpAny_pure (a := Fin.again (.call (.builtin "type.__call__") ⟨.ref C :: args, kw⟩)) (And.intro rfl ?_)
  exact codeN_call_builtin (Code.quiet_builtin _ (by decide +kernel)) (check_slot tc_kind tc_split typ (tc_args _ _ _) h)
/-- type.__call__ for a class of the text -/
theorem typeCall {A : Around} {R : Result → Shared → Prop} {s : Shared} {C : Addr} {args : List Value} {kw : List (Str × Value)} {mro : List Value} {c : Cx}
    (hm : Looks (model PW c.w) s.heap (mroOf (.ref C)) mro) (he : mro.isEmpty = false) (made : Looks (model PW c.w) s.heap (Bind.madeBy (.ref C)) (some "object.__new__"))
    (h : W c (A.under (.builtin "type.__call__" ⟨.ref C :: args, kw⟩)) (PySem.call (.builtin "object.__new__") (.ref C :: args) kw)
      (fun obj s₁ => W c (A.under (.builtin "type.__call__" ⟨.ref C :: args, kw⟩)) (isInstance obj (.ref C)) (fun b s₂ => b = true ∧ W c (A.under (.builtin "type.__call__" ⟨.ref C :: args, kw⟩)) (callSpecial? obj "__init__" args kw) (fun r s₃ => r = some .none ∧ R (.ok (.ret obj)) s₃) (fun e s' => R (.error e) s') s₂) (fun e s' => R (.error e) s') s₁) (fun e s' => R (.error e) s') s) :
    codeN (model PW c.w) A (.builtin "type.__call__" ⟨.ref C :: args, kw⟩) R s := by
  refine codeN_builtin (M := model PW c.w) entry_typeCall (ok_tc _) (W.out (c := c) ?_)
  unfold Builtin.«type.__call__»
  refine W.bind (m := mroOf (.ref C)) (W.mk (hm.here ?_))
  rw [he]
  refine W.bind (m := Bind.madeBy (.ref C)) (W.mk (made.here ?_))
  refine W.bind (m := pure (Value.builtin "object.__new__")) (W.pure ?_)
  refine W.then (m := holding [Value.builtin "object.__new__"] (PySem.call (Value.builtin "object.__new__") (.ref C :: args) kw)) (W.hold h) fun obj s₁ h₁ => ?_
  refine W.then (m := isInstance obj (.ref C)) h₁ fun b s₂ h₂ => ?_
  obtain ⟨rfl, h₂⟩ := h₂
  refine W.then (m := holding [obj] (callSpecial? obj "__init__" args kw)) (W.hold h₂) fun r s₃ h₃ => ?_
  obtain ⟨rfl, h₃⟩ := h₃
  exact W.pure h₃
theorem W.init {c : Cx} {A : Around} {E : Value → Shared → Prop} {s : Shared} {x C fI : Addr} {args : List Value} {kw : List (Str × Value)} {Q : Option Value → Shared → Prop}
    (t1 : Looks (model PW c.w) s.heap (typeOf (.ref x)) (.ref C)) (hi : Looks (model PW c.w) s.heap (typeLookup (.ref C) "__init__") (some (.ref fI))) (hb : Looks (model PW c.w) s.heap (bindSpecial (.ref fI) (.ref x)) (.ref fI, [.ref x]))
    (h : W c A (PySem.call (.ref fI) (.ref x :: args) kw) (fun v s' => Q (some v) s') E s) : W c A (callSpecial? (.ref x) "__init__" args kw) Q E s := by
  have L : Looks (model PW c.w) s.heap (specialOf (.ref x) "__init__") (some (.ref fI)) := by unfold specialOf; exact t1.andThen hi
  unfold callSpecial?
  refine W.bind (m := specialOf (.ref x) "__init__") (W.mk (L.here ?_))
  refine W.hold (W.bind (m := bindSpecial (.ref fI) (.ref x)) (W.mk (hb.here ?_)))
  show W c A (PySem.call (.ref fI) (.ref x :: args) kw >>= fun v => (Pure.pure (some v) : Sem (Option Value))) Q E s
  exact W.then h fun v s' q => W.pure q
theorem none_at {h : Heap} {n : Addr} (hn : h.objs.size ≤ n) : h.get? n = none := by
  cases q : h.get? n with
  | none => rfl
  | some o => exact absurd (Heap.lt_size q) (Nat.not_lt_of_le hn)
/-- an object made by its class; what its __init__ leaves behind -/
theorem mkR (k : Nat) {w : World} {mg mb : Str → Option Value} {A : Around} {s : Shared} {C fI : Addr} {args : List Value} {kw : List (Str × Value)} {R : Result → Shared → Prop} (G : Gl w mg mb s.heap)
    (h : ∀ x d h', (∀ b o, s.heap.get? b = some o → h'.get? b = some o) → s.heap.objs.size ≤ h'.objs.size → (∀ p ∈ [(x, instObj C d), (d, dictOf [] 0)], h'.get? p.1 = some p.2 ∧ s.heap.get? p.1 = none) →
      codeN (model PW w) (A.under (.builtin "type.__call__" ⟨.ref C :: args, kw⟩)) (.call (.ref fI) ⟨.ref x :: args, kw⟩) (fun r s' => match r with | .ok (.ret v) => v = .none ∧ R (.ok (.ret (.ref x))) s' | .ok _ => False | .error e => R (.error e) s') { s with heap := h' })
    (hk : asks[k]? = some (.mk C fI) := by rfl) : codeN (model PW w) A (.call (.ref C) ⟨args, kw⟩) R s := by
  have q := ask w.params k hk
  simp only [Ask.ok, mkOk, Bool.and_eq_true, beq_iff_eq] at q
  obtain ⟨⟨⟨q1, q2⟩, q3⟩, q4⟩ := q
  have Y := makes_of (M := model PW w) G.K q1
  have Y' := Y
  have hi := looks_findIn (M := model PW w) G.K q2
  obtain ⟨⟨oc, od, cd, sl, hC, e1, e2, e4⟩, made, base, self, top, call, typ⟩ := Y
  obtain ⟨hh, g, dr, t, os⟩ := s
  refine codeN_class hC call typ ?_
  refine typeCall (c := ⟨w, mg, mb, hh, 0, g, os⟩) (((Looks.ld (part := none) hC).andThen .now).andThen .now) e4 made ?_
  refine W.call (codeN.of (new_K Y' hi (.inl rfl) ?_))
  have k : ∀ b o, hh.get? b = some o → ((hh.push emptyDict).push (instObj C hh.objs.size)).get? b = some o := fun b o e => Heap.get?_push_of_some _ (Heap.get?_push_of_some _ e)
  have hx : ((hh.push emptyDict).push (instObj C hh.objs.size)).get? (hh.objs.size + 1) = some (instObj C hh.objs.size) := by
    have := Heap.get?_push_size (h := hh.push emptyDict) (o := instObj C hh.objs.size) rfl
    rwa [Heap.size_push] at this
  have t1 : Looks (model PW w) ((hh.push emptyDict).push (instObj C hh.objs.size)) (typeOf (.ref (hh.objs.size + 1))) (.ref C) := (Looks.ld hx).andThen .now
  refine W.mk (Looks.here (t1.andThen (self.keeps k)) ⟨rfl, ?_⟩)
  refine W.init t1 (hi.keeps k) ((bind_fn G.K (.ref (hh.objs.size + 1)) q3).keeps k) ?_
  refine W.call ((h (hh.objs.size + 1) hh.objs.size _ k (by rw [Heap.size_push, Heap.size_push]; exact Nat.le_add_right _ 2) fun p hp => ?_).mono fun r s' z => ?_)
  · rcases List.mem_cons.mp hp with rfl | hp
    · exact ⟨hx, none_at (Nat.le_succ _)⟩
    · rcases List.mem_cons.mp hp with rfl | hp
      · exact ⟨Heap.get?_push_of_some _ (Heap.get?_push_size _ rfl), none_at (Nat.le_refl _)⟩
      · cases hp
  · match r, z with
    | .ok (.ret v), z => exact ⟨congrArg some z.1, z.2⟩
    | .ok .next, z => exact z.elim
    | .ok .brk, z => exact z.elim
    | .ok .cont, z => exact z.elim
    | .error _, z => exact z
/-- an object made by its class -/
theorem mk (k : Nat) {w : World} {mg mb : Str → Option Value} {A : Around} {s : Shared} {C fI : Addr} {args : List Value} {kw : List (Str × Value)} {P : Value → Shared → Prop} (G : Gl w mg mb s.heap)
    (h : ∀ x d h', (∀ b o, s.heap.get? b = some o → h'.get? b = some o) → s.heap.objs.size ≤ h'.objs.size → (∀ p ∈ [(x, instObj C d), (d, dictOf [] 0)], h'.get? p.1 = some p.2 ∧ s.heap.get? p.1 = none) →
      Runs w (A.under (.builtin "type.__call__" ⟨.ref C :: args, kw⟩)) (.ref fI) (.ref x :: args) kw s.heap (fun v s' => v = .none ∧ P (.ref x) s') { s with heap := h' })
    (hk : asks[k]? = some (.mk C fI) := by rfl) : Runs w A (.ref C) args kw s.heap P s :=
  mkR k G (fun x d h' a b d' => (h x d h' a b d').mono fun r s' z => by
    match r, z with
    | .ok (.ret v), z => exact ⟨z.2.1, ⟨z.1.keep, z.1.gens, z.1.os⟩, z.2.2⟩
    | .ok .next, z => exact z.elim
    | .ok .brk, z => exact z.elim
    | .ok .cont, z => exact z.elim
    | .error _, z => exact z.elim) hk
end Mine
end

section
set_option Elab.async false
set_option maxRecDepth 100000
set_option linter.unusedVariables false
set_option exponentiation.threshold 20000
open PySem PySem.W PyProof.Rows PySem.Calls
namespace Mine

section
variable {c : Cx} {m : Str → Option Value} {A : Around} {E : Value → Shared → Prop} {s : Shared} {news : List (Addr × Obj)} {env : Env} {Q : Value → Shared → Prop}
theorem cw_cls (k : Nat) {C fI : Addr} {pos : Pos} {e : Expr} {rest : List Expr} (S : St c m news s)
    (h : W c A (spliced (backTo pos (starEach (e :: rest) env))) (fun vs s₁ => (∃ m' news', St c m' news' s₁) ∧ W c A (call (.ref C) vs) Q E s₁) E s)
    (hk : asks[k]? = some (.mk C fI) := by rfl) (hn : notStar e = true := by rfl) (hs : noStars rest = true := by rfl) :
    W c A (callWith pos (.ref C) [] (backTo pos (starEach (e :: rest) env)) []) Q E s := by
  have q := ask c.w.params k hk
  simp only [Ask.ok, mkOk, Bool.and_eq_true, beq_iff_eq] at q
  refine cw_gen (P := (KF c.w.params).In) (stars_false hn hs _ rfl) (keeps_K q.2) ?_
  rw [starEach_cons hn, backTo_cons] at h ⊢
  exact ev_plain (h.mono (fun vs s₁ h₁ => ⟨(by obtain ⟨_, _, S⟩ := h₁.1; exact S.gl.K), h₁.2⟩) fun _ _ q => q)
theorem cw_cls0 (k : Nat) {C fI : Addr} {pos : Pos} (S : St c m news s) (h : W c A (call (.ref C) []) Q E s) (hk : asks[k]? = some (.mk C fI) := by rfl) :
    W c A (callWith pos (.ref C) [] (backTo pos (starEach [] env)) []) Q E s := by
  have q := ask c.w.params k hk
  simp only [Ask.ok, mkOk, Bool.and_eq_true, beq_iff_eq] at q
  exact cw_gen (P := (KF c.w.params).In) rfl (keeps_K q.2) (ev_none ⟨S.gl.K, h⟩)
end

/-! the check's hash -/
def hshK : Nat := 48181483302151357469556550866566148933
def hsh (l : List UInt8) : List UInt8 := toBE 32 (beN (1 :: l) * beN (1 :: l) * hshK % (2 ^ 255 - 19))
theorem hsh_len (l : List UInt8) : (hsh l).length = 32 := toBE_len _ _
theorem beN_small {l : List UInt8} {k : Nat} (h : l.length ≤ k) : beN l < 256 ^ k := Nat.lt_of_lt_of_le (beN_lt l) (Nat.pow_le_pow_right (by decide) h)

theorem C_sha_init {w mg mb A s x d t g} {l : List UInt8} (G : Gl w mg mb g) (R : Rm A 5) (sub : ∀ b o, g.get? b = some o → s.heap.get? b = some o) (hsz : g.objs.size ≤ s.heap.objs.size)
    (N : ∀ p ∈ [(x, instObj 58 d), (d, dictOf [] 0)], s.heap.get? p.1 = some p.2 ∧ g.get? p.1 = none) :
    Runs w A (.ref 41) [.ref x, .bytes l.toArray t] [] g (fun v s' => v = .none ∧ ∃ x', Value.ref x = .ref x' ∧ Ob s'.heap x' 58 ["data"] [.bytes l.toArray t]) s := by
  refine runsG ["self", "data"] [] [.ref x, .bytes l.toArray t] G sub hsz N R.less lk41 (defBody (methSt 3 0)) rfl cd41 fun L s hL ek S => ?_
  refine open_body rfl ?_
  refine x_set (ld 1 S (ld 0 S (a_new 0 S (fun _ h => nomatch h) (ns := []) (vs := []) trivial fun es' n' s e S => ?_)))
  refine x_nil ⟨S.doneG, rfl, x, rfl, S.ob (.head _) (.tail _ (.head _)) e⟩
theorem C_digest {w mg mb A s x t} {l : List UInt8} (G : Gl w mg mb s.heap) (R : Rm A 5) (hl : l.length ≤ 500) (O : Ob s.heap x 58 ["data"] [.bytes l.toArray t]) :
    Gives w A (.ref 55) [.ref x] [] (fun v _ => ∃ t', v = .bytes (hsh l).toArray t') s := by
  refine enterW ["self"] ["number"] [.ref x] G R.less lk55 (defBody (methSt 3 2)) rfl cd55 fun L s S => ?_
  refine open_body rfl ?_
  refine x_asg (e_meth (b_int S (g_from S fun q s S => ?_)))
  refine cw_from (s_more (e_bin (c_bytes S fun u s S => e_att (ld 0 S (a_own 1 0 S (O.keeps S.F.keep) fun s S _ => y_add (b := [1]) S ?_ fun u s S => s_more (c_str S fun u s S => s_nil ⟨⟨_, _, .head _, S⟩, ?_⟩))))))
  · simp; omega
  refine r_from S (.head _) (by simp; omega) fun t' s S => st 1 S.drop fun s S => ?_
  have hn : beN (1 :: l) < 256 ^ 501 := beN_small (by simp; omega)
  refine x_ret (e_meth (e_bin (e_bin (e_bin (ld 1 S (ld 1 S (p_mul S (Small.pow hn) (Small.pow hn) fun u s S => c_nat hshK S fun u s S => p_mul S ?_ ?_ fun u s S => ?_)))))))
  · exact Small.pow (k := 1002) (Nat.lt_of_lt_of_le (Nat.mul_lt_mul'' hn hn) (by rw [← Nat.pow_add]; exact Nat.le_refl _))
  · exact Small.lit (Nat.lt_of_lt_of_le (show hshK < 256 ^ 32 by decide) (Nat.pow_le_pow_right (by decide) (by decide)))
  refine e_bin (e_bin (c_nat 2 S fun u s S => c_nat 255 S fun u s S => p_pow S (by decide) (by decide) fun u s S => c_nat 19 S fun u s S => p_sub S (by decide) fun u s S => p_mod S (by decide) fun u s S => g_to ?_))
  refine cw_bt' (s_more (c_nat 32 S fun u s S => s_more (c_str S fun u s S => s_nil ?_)))
  refine r_to S (by decide) (Nat.lt_trans (Nat.mod_lt _ (by decide)) (by decide)) fun t' s' S => ?_
  exact ⟨S.done, t', rfl⟩
theorem C_sha {w mg mb A s t} {l : List UInt8} (G : Gl w mg mb s.heap) (R : Rm A 10) :
    Gives w A (.ref 58) [.bytes l.toArray t] [] (fun v s' => ∃ x, v = .ref x ∧ Ob s'.heap x 58 ["data"] [.bytes l.toArray t]) s :=
  Runs.gives (mk 3 G fun x d h' k hz N => C_sha_init G R.under.less k hz N)
theorem C_sha256 {w mg mb A s t} {l : List UInt8} (G : Gl w mg mb s.heap) (R : Rm A 12) :
    Gives w A (.ref 77) [.bytes l.toArray t] [] (fun v s' => ∃ x, v = .ref x ∧ Ob s'.heap x 58 ["data"] [.bytes l.toArray t]) s := by
  refine enterW ["data"] [] [.bytes l.toArray t] G R.less lk77 (defBody (methSt 4 0)) rfl cd77 fun L s S => ?_
  refine open_body rfl ?_
  refine x_ret (e_call (gl S g_Sha256 (cw_cls 3 S (s_more (ld 0 S (s_nil ⟨⟨_, _, S⟩, ?_⟩))))))
  refine use S (C_sha S.gl R.deeper.less) fun v s S x P => ?_
  obtain ⟨x', rfl, O⟩ := P
  exact ⟨S.done, x', rfl, O⟩
theorem C_double {w mg mb A s t} {l : List UInt8} (G : Gl w mg mb s.heap) (R : Rm A 15) (hl : l.length ≤ 500) :
    Gives w A (.ref 104) [.bytes l.toArray t] [] (fun v s' => ∃ t', v = .bytes (hsh (hsh l)).toArray t') s := by
  refine enterW ["msg"] [] [.bytes l.toArray t] G R.less lk104 (defBody (topSt 6)) rfl cd104 fun L s S => ?_
  refine open_body rfl ?_
  refine x_ret (e_meth (e_meth (gl S g_hashlib (a_sm 4 S fun s S _ => cw_fn lk77 (s_more (e_meth (e_meth (gl S g_hashlib (a_sm 4 S fun s S _ => cw_fn lk77 (s_more (ld 0 S (s_nil ⟨⟨_, _, S⟩, ?_⟩))))))))))))
  refine use S (C_sha256 S.gl R.deeper.less) fun v s S x P => ?_
  obtain ⟨x', rfl, O⟩ := P
  refine a_fn 2 S O (cw_fn0 lk55 S ?_)
  refine use S (C_digest S.gl R.deeper.less hl O) fun v s S x P => ?_
  obtain ⟨t', rfl⟩ := P
  refine s_nil ⟨⟨_, _, S⟩, ?_⟩
  refine use S (C_sha256 S.gl R.deeper.less) fun v s S x P => ?_
  obtain ⟨x', rfl, O⟩ := P
  refine a_fn 2 S O (cw_fn0 lk55 S ?_)
  refine use S (C_digest S.gl R.deeper.less (by rw [hsh_len]; decide) O) fun v s S x P => ?_
  obtain ⟨t', rfl⟩ := P
  exact ⟨S.done, t', rfl⟩
end Mine
end

section
set_option Elab.async false
set_option maxRecDepth 100000
set_option linter.unusedVariables false
set_option exponentiation.threshold 20000
open PySem PySem.W PyProof.Rows PySem.Calls
namespace Mine
theorem ite_yes {p : Prop} [Decidable p] {a b : Prop} (h : p) (k : a) : if p then a else b := by rw [if_pos h]; exact k
theorem ite_no {p : Prop} [Decidable p] {a b : Prop} (h : ¬ p) (k : b) : if p then a else b := by rw [if_neg h]; exact k
theorem ite_two {p : Prop} [Decidable p] {a b : Prop} (h : p → a) (k : ¬ p → b) : if p then a else b := by
  by_cases q : p
  · rw [if_pos q]; exact h q
  · rw [if_neg q]; exact k q
section
variable {c : Cx} {m : Str → Option Value} {A : Around} {E : Value → Shared → Prop} {s : Shared} {news : List (Addr × Obj)} {env : Env} {t u : Tok} {Q : Value → Shared → Prop}
theorem r_notin {l : Addr} {vs : List Value} {n k : Nat} (b : Bool) (S : St c m news s) (hm : (l, listOf vs.toArray n) ∈ news) (hi : kf_ints vs = true) (e : (!vs.any (isInt k)) = b) (h : Q (.bool b) s) : W c A (compareOp .NotIn (.int (k : Int) t) (.ref l)) Q E s :=
  W.mk (kf_notin S.N hm hi e h)
end

theorem C_num {w mg mb A s t} {b : List UInt8} (G : Gl w mg mb s.heap) (R : Rm A 5) (hb : b.length ≤ 10000) :
    Gives w A (.ref 139) [.bytes b.toArray t] [] (fun v _ => ∃ t', v = .int (beN b : Nat) t') s := C_number G R (by simpa using hb)

/-- the point of a secret -/
def pnt (n : Nat) : Nat := n * base % prime
theorem pnt_lt (n : Nat) : pnt n < prime := Nat.mod_lt _ (Nat.pos_of_ne_zero prime_pos)
theorem beN_to {k n : Nat} (h : n < 256 ^ k) : beN (toBE k n) = n := by rw [beN_toBE, Nat.mod_eq_of_lt h]
theorem C_create {w mg mb A s t} {b : List UInt8} (G : Gl w mg mb s.heap) (R : Rm A 10) (hb : b.length ≤ 100) :
    Gives w A (.ref 160) [.bytes b.toArray t] [] (fun v _ => ∃ t', v = .bytes (toBE 32 (pnt (beN b))).toArray t') s := by
  refine enterW ["secret"] [] [.bytes b.toArray t] G R.less lk160 (defBody (topSt 21)) rfl cd160 fun L s S => ?_
  refine open_body rfl ?_
  refine x_ret <| e_call <| gl S g__octets <| cw_fn' lk146 <| s_more <| e_bin <| e_call <| gl S g__number <| cw_fn' lk139 <| s_more <| ld 0 S <| s_nil ⟨⟨_, _, S⟩, ?_⟩
  refine use S (C_num S.gl R.deeper.less (by omega)) fun v s S x ⟨t', e⟩ => ?_
  subst e
  refine glN base S g__BASE fun u => p_mul S (Small.pow (beN_small hb)) (Small.pow base_lt) fun u s S => s_nil ⟨⟨_, _, S⟩, ?_⟩
  refine use S (C_octets S.gl R.deeper.less) fun v s S x ⟨t', e⟩ => ?_
  subst e
  exact ⟨S.done, t', rfl⟩
/-- a point's text of 33 octets -/
def ser (n : Nat) : List UInt8 := (if 2 * n < prime then 2 else 3) :: toBE 32 (min n (prime - n))
theorem ser_len (n : Nat) : (ser n).length = 33 := by unfold ser; rw [List.length_cons, toBE_len]
theorem ser_lo {n : Nat} (h : 2 * n < prime) : ser n = [2] ++ toBE 32 (min n (prime - n)) := by simp only [ser, if_pos h, List.cons_append, List.nil_append]
theorem ser_hi {n : Nat} (h : ¬ 2 * n < prime) : ser n = [3] ++ toBE 32 (min n (prime - n)) := by simp only [ser, if_neg h, List.cons_append, List.nil_append]
theorem C_ser {w mg mb A s t u} {n : Nat} (G : Gl w mg mb s.heap) (R : Rm A 10) (hn : n < prime) :
    Gives w A (.ref 168) [.bytes (toBE 32 n).toArray t, .int (258 : Nat) u] [] (fun v _ => ∃ t', v = .bytes (ser n).toArray t') s := by
  have hl : n < 256 ^ 32 := Nat.lt_trans hn prime_lt
  refine enterW ["point", "flag"] ["number"] [.bytes (toBE 32 n).toArray t, .int (258 : Nat) u] G R.less lk168 (defBody (topSt 22)) rfl cd168 fun L s S => ?_
  refine open_body rfl ?_
  refine x_asg <| e_call <| gl S g__number <| cw_fn' lk139 <| s_more <| ld 0 S <| s_nil ⟨⟨_, _, S⟩, ?_⟩
  refine use S (C_num S.gl R.deeper.less (by rw [toBE_len]; decide)) fun v s S x ⟨t', e⟩ => ?_
  subst e
  rw [beN_to hl]
  refine st 2 S fun s S => ?_
  refine x_if <| t_cmp <| ld 1 S <| glN 2 S g_EC_UNCOMPRESSED fun u => p_eq <| t_bool ?_
  refine ite_no (by decide) <| x_nil ?_
  refine x_ret <| e_bin <| e_call <| b_bytes S <| cw_ty <| s_more <| e_list <| s_more <| e_if <| t_cmp <| e_bin <| c_nat 2 S fun u s S => ld 2 S <| p_mul S (Small.lit (by decide)) (Small.pow hl) fun u s S => glN prime S g__PRIME fun u => p_lt <| t_bool ?_
  by_cases hc : 2 * n < prime
  · refine ite_yes (decide_eq_true hc) <| c_nat 2 S fun u s S => s_nil <| r_list S fun l s S => s_nil <| r_bytes (ns := [2]) S R.calm (.head _) (.cons _ _ .nil) (by decide) fun u s S => ?_
    refine e_call <| gl S g__octets <| cw_fn' lk146 <| s_more <| e_call <| b_min S <| cw_bt <| s_more <| ld 2 S <| s_more <| e_bin <| glN prime S g__PRIME fun u => ld 2 S <| p_sub S (Nat.le_of_lt hn) fun u s S => s_nil <| r_min S R.calm fun u s S => s_nil ⟨⟨_, _, S⟩, ?_⟩
    refine use S (C_octets S.gl R.deeper.less) fun v s S x ⟨t', e⟩ => ?_
    subst e
    refine y_add (b := [2]) S (by rw [toBE_len]; decide) fun t s S => ?_
    refine ⟨S.done, t, ?_⟩
    rw [Nat.mod_eq_of_lt (by omega), ser_lo hc]
  · refine ite_no (by rw [decide_eq_false hc]; decide) <| c_nat 3 S fun u s S => s_nil <| r_list S fun l s S => s_nil <| r_bytes (ns := [3]) S R.calm (.head _) (.cons _ _ .nil) (by decide) fun u s S => ?_
    refine e_call <| gl S g__octets <| cw_fn' lk146 <| s_more <| e_call <| b_min S <| cw_bt <| s_more <| ld 2 S <| s_more <| e_bin <| glN prime S g__PRIME fun u => ld 2 S <| p_sub S (Nat.le_of_lt hn) fun u s S => s_nil <| r_min S R.calm fun u s S => s_nil ⟨⟨_, _, S⟩, ?_⟩
    refine use S (C_octets S.gl R.deeper.less) fun v s S x ⟨t', e⟩ => ?_
    subst e
    refine y_add (b := [3]) S (by rw [toBE_len]; decide) fun t s S => ?_
    refine ⟨S.done, t, ?_⟩
    rw [Nat.mod_eq_of_lt (by omega), ser_hi hc]
/-- the point that 33 octets tell -/
def unser (b : List UInt8) : Nat := if b.getD 0 0 = 2 then beN (b.drop 1) else prime - beN (b.drop 1)
theorem C_parse {w mg mb A s t} {b : List UInt8} (G : Gl w mg mb s.heap) (R : Rm A 10) (hb : b.length = 33) (h0 : beN (b.drop 1) ≠ 0) (h1 : ¬ prime < 2 * beN (b.drop 1)) :
    Gives w A (.ref 175) [.bytes b.toArray t] [] (fun v _ => ∃ t', v = .bytes (toBE 32 (unser b)).toArray t') s := by
  refine enterW ["sec"] ["number"] [.bytes b.toArray t] G R.less lk175 (defBody (topSt 23)) rfl cd175 fun L s S => ?_
  have hd : (b.drop 1).length = 32 := by rw [List.length_drop, hb]
  have hs : beN (b.drop 1) < 256 ^ 32 := beN_small (Nat.le_of_eq hd)
  have hcut : cutL (some 1) (some 33) b = b.drop 1 := by
    unfold cutL
    simp only [Option.elim]
    rw [hb]
    rw [show clipAt 33 1 = 1 from by decide, show clipAt 33 33 = 33 from by decide]
    rw [List.take_of_length_le (by rw [hd]; decide)]
  refine open_body rfl ?_
  refine x_asg <| e_call <| gl S g__number <| cw_fn' lk139 <| s_more <| e_sub <| ld 0 S <| e_cut <| pt_some <| c_int S fun u s S => pt_some <| c_int S fun u s S => ?_
  refine y_cut S (.int _ _) (.int _ _) (by omega) fun u s S => s_nil ⟨⟨_, _, S⟩, ?_⟩
  rw [hcut]
  refine use S (C_num S.gl R.deeper.less (by omega)) fun v s S x ⟨t', e⟩ => ?_
  subst e
  refine st 1 S fun s S => ?_
  refine x_if <| t_or <| t_cmp <| e_call <| b_len S <| cw_bt <| s_more <| ld 0 S <| s_nil ?_
  refine y_len S (by omega) fun u s S => ?_
  refine e_list <| s_more <| c_nat 33 S fun u s S => s_more <| c_nat 65 S fun u s S => s_nil <| r_list S fun l s S => ?_
  refine r_notin false S (.head _) rfl (by rw [hb]; rfl) <| t_bool <| ite_no (by decide) ?_
  refine t_or <| t_cmp <| ld 1 S.drop <| c_nat 0 S fun u s S => p_eq <| t_bool ?_
  refine ite_no (by rw [decide_eq_false h0]; decide) ?_
  refine t_or <| t_cmp <| e_bin <| c_nat 2 S fun u s S => ld 1 S ?_
  refine p_mul S (Small.lit (by decide)) (Small.pow hs) fun u s S => glN prime S g__PRIME fun u => p_gt <| t_bool ?_
  refine ite_no (by rw [decide_eq_false h1]; decide) <| t_or0 <| ite_no (by decide) <| x_nil ?_
  refine x_ret <| e_if <| t_cmp <| e_call <| b_len S <| cw_bt <| s_more <| ld 0 S <| s_nil ?_
  refine y_len S (by omega) fun u s S => c_nat 65 S fun u s S => p_eq <| t_bool <| ite_no (by rw [hb]; decide) ?_
  refine e_call <| gl S g__octets <| cw_fn' lk146 <| s_more <| e_if <| t_cmp <| e_sub <| ld 0 S <| c_nat 0 S fun u s S => ?_
  refine y_item S (by omega) (by omega) fun u s S => c_nat 2 S fun u s S => p_eq <| t_bool <| ite_two (fun hc => ?_) fun hc => ?_
  · refine ld 1 S <| s_nil ⟨⟨_, _, S⟩, ?_⟩
    refine use S (C_octets S.gl R.deeper.less) fun v s S x ⟨t', e⟩ => ?_
    subst e
    refine ⟨S.done, t', ?_⟩
    have hc' : b.getD 0 0 = 2 := UInt8.toNat_inj.mp (of_decide_eq_true hc)
    unfold unser
    rw [if_pos hc', Nat.mod_eq_of_lt (by omega)]
  · refine e_bin <| glN prime S g__PRIME fun u => ld 1 S ?_
    refine p_sub S (by omega) fun u s S => s_nil ⟨⟨_, _, S⟩, ?_⟩
    refine use S (C_octets S.gl R.deeper.less) fun v s S x ⟨t', e⟩ => ?_
    subst e
    refine ⟨S.done, t', ?_⟩
    have hc' : ¬ b.getD 0 0 = 2 := fun z => hc (decide_eq_true (by rw [z]; rfl))
    unfold unser
    rw [if_neg hc', Nat.mod_eq_of_lt (by omega)]
end Mine
end

section
set_option Elab.async false
set_option maxRecDepth 100000
set_option linter.unusedVariables false
open PySem PySem.W PyProof.Rows PySem.Calls
namespace Mine
section
variable {c : Cx} {A : Around} {E : Value → Shared → Prop} {s : Shared} {env : Env} {ns : List Str} {vs : List (Option Value)} {news : List (Addr × Obj)}
theorem St.sub {m : Str → Option Value} {nw : List (Addr × Obj)} (S : St c m news s) (h : ∀ p ∈ nw, p ∈ news) : St c m nw s := ⟨S.G, S.F, fun p hp => S.N p (h p hp), S.gens, S.os⟩
/-- another object at an address of the ledger -/
theorem St.turn {m : Str → Option Value} {a : Addr} {o o' : Obj} {nw : List (Addr × Obj)} {h' : Heap} {tk : Nat} (S : St c m ((a, o) :: nw) s) (hn : ∀ p ∈ nw, p.1 ≠ a) (k : ∀ b x, b ≠ a → s.heap.get? b = some x → h'.get? b = some x) (ho : h'.get? a = some o') :
    St c m ((a, o') :: nw) { s with heap := h', toks := tk } := by
  have z := S.N _ (.head _)
  obtain ⟨oL, es, ep, hL, r⟩ := S.F.ns
  refine ⟨S.G, ⟨⟨oL, es, ep, k _ _ (Ne.symm z.2.1) hL, r⟩, fun b x e => k b x (fun q => ?_) (S.F.keep b x e), S.F.above⟩, fun p hp => ?_, S.gens, S.os⟩
  · subst q; rw [z.2.2] at e; cases e
  · rcases List.mem_cons.mp hp with rfl | hp
    · exact ⟨ho, z.2⟩
    · have y := S.N p (.tail _ hp)
      exact ⟨k _ _ (hn p hp) y.1, y.2⟩

theorem codeN_loop {M : Model} {A : Around} {cd : Code} {R : Result → Shared → Prop} {s : Shared} (ho : okc cd = true) (hq : cd.quiet = true) (I : Nat → Shared → Prop)
    (turn : ∀ n s, I n s → wpN M (A.under cd) (M.den cd) (fun fin s' => match fin with
      | .done f => R (.ok f) s'
      | .again c' => (c' = cd ∧ ∃ m, m < n ∧ I m s') ∨ (c'.quiet = true ∧ codeN M A c' R s')) (fun e s' => R (.error e) s') s)
    (n : Nat) (h : I n s) : codeN M A cd R s := by
  induction n using Nat.strongRecOn generalizing s with
  | ind n ih =>
    refine codeN.tree ho fun Γ p hΓ q => Sem.wp_mono _ Γ _ (fun fin p' s' hf => ?_) (fun _ _ _ z => z) p s (turn n s h Γ p hΓ q)
    cases fin with
    | done f => exact hf
    | again c' =>
      rcases hf with ⟨rfl, m, hm, hI⟩ | hf
      · exact ⟨hq, ih m hm hI⟩
      · exact hf
def NoE : Value → Shared → Prop := fun _ _ => False
/-- the loop's code -/
def ForW (c : Cx) (A : Around) (target : Expr) (it : Value) (body : List Stmt) (env : Env) (Q : Flow → Shared → Prop) (s : Shared) : Prop :=
  codeN (model PW c.w) A (.forLoop target it body [] env) (fun r s' => match r with | .ok f => Q f s' | .error _ => False) s
theorem x_for {target iter : Expr} {body rest : List Stmt} {pos : Pos} {Q : Flow → Shared → Prop}
    (h : W c A (eval iter env) (fun x s₁ => W c A (pyIter x) (fun it s₂ => ForW c A target it body env (Nx c A rest env Q E) s₂) E s₁) E s)
    (hs : ∀ x, foldedSetIterable iter env x = pure x := by intro _; rfl) : W c A (execs (.For target iter body [] pos :: rest) env) Q E s := by
  refine x_cons ?_
  rw [exec_For]
  refine W.stand (W.then h fun x s₁ h => ?_)
  rw [hs]
  refine W.bind (W.pure (W.stand (W.then (W.hold h) fun it s₂ h => W.runOwn (codeN.mono h fun r s' z => ?_))))
  match r, z with
  | .ok f, z => exact z
  | .error _, z => exact z.elim
theorem for_code {target : Expr} {it : Value} {body : List Stmt} {Q : Flow → Shared → Prop} (I : Nat → Shared → Prop)
    (turn : ∀ n s, I n s → W c A (pyNext it) (fun r s₁ => match r with
      | none => Q .next s₁
      | some v => W c A (assign target env v) (fun _ s₂ => W c A (execs body env) (fun f s₃ => match f with
          | .next | .cont => ∃ m, m < n ∧ I m s₃
          | .brk => Q .next s₃
          | .ret v => Q (.ret v) s₃) NoE s₂) NoE s₁) NoE s)
    (n : Nat) (h : I n s) (ht : ∀ v, letOwnedTupleGo target it v = pure () := by intro _; rfl) : ForW c A target it body env Q s := by
  refine codeN_loop rfl rfl I (fun n s hI => W.out (c := c) ?_) n h
  show W c A ((forTurn target it body [] env).onRaise _) _ _ s
  refine W.onRaise (W.mono (E := NoE) ?_ (fun _ _ q => q) fun _ _ q => q.elim)
  unfold forTurn
  refine W.stand (W.then (W.onRaise ((turn n s hI).mono (fun _ _ q => q) fun _ _ q => q.elim)) fun r s₁ h₁ => ?_)
  cases r with
  | none => exact W.pure (.inr ⟨rfl, codeN.of (codeAny_block (wpAny_execs_nil h₁))⟩)
  | some v =>
    show W c A (letOwnedTupleGo target it v >>= fun _ => _) _ _ s₁
    rw [ht v]
    refine W.bind (W.pure (W.then h₁ fun _ s₂ h₂ => W.then h₂ fun f s₃ h₃ => ?_))
    cases f with
    | next => exact W.pure (.inl ⟨rfl, h₃⟩)
    | cont => exact W.pure (.inl ⟨rfl, h₃⟩)
    | brk => exact W.pure h₃
    | ret v => exact W.pure h₃
def TurnQ (c : Cx) (ns : List Str) (J : List (Option Value) → List (Addr × Obj) → Prop) (I : Addr) (o : Obj) (Q : Flow → Shared → Prop) (f : Flow) (s₃ : Shared) : Prop := match f with
  | .next | .cont => ∃ vs' nw, J vs' nw ∧ St c (look ns vs') ((I, o) :: nw) s₃
  | .brk => Q .next s₃
  | .ret v => Q (.ret v) s₃
theorem w_for {target : Expr} {body : List Stmt} {I : Addr} {fp : List Addr} {n : Nat} {P : Nat → Value → Prop} {Stt : Nat → Heap → Prop} {Q : Flow → Shared → Prop} {o0 : Obj}
    (Wk : Walks PW c.w A I fp [I] n P Stt) (hlive : ∀ i h, Stt i h → ∃ o, h.get? I = some o)
    (J : Nat → List (Option Value) → List (Addr × Obj) → Prop)
    (fr : ∀ b ∈ fp, b ≠ I → (∃ o, c.g.get? b = some o) ∨ (∃ o, ∀ i vs nw, J i vs nw → (b, o) ∈ nw))
    (ap : ∀ i vs nw, J i vs nw → ∀ p ∈ nw, p.1 ≠ I)
    (turn : ∀ i v vs nw s o, i < n → P i v → J i vs nw → St c (look ns vs) ((I, o) :: nw) s →
      W c A (assign target env v) (fun _ s₂ => W c A (execs body env) (TurnQ c ns (J (i + 1)) I o Q) NoE s₂) NoE s)
    (done : ∀ vs nw s, J n vs nw → St c (look ns vs) nw s → Q .next s)
    (S : St c (look ns vs) ((I, o0) :: news) s) (h0 : Stt 0 s.heap) (hJ : J 0 vs news) (ht : ∀ v, letOwnedTupleGo target (.ref I) v = pure () := by intro _; rfl) :
    ForW c A target (.ref I) body env Q s := by
  refine for_code (fun k s => ∃ i vs nw o, k = n + 1 - i ∧ i ≤ n ∧ Stt i s.heap ∧ J i vs nw ∧ St c (look ns vs) ((I, o) :: nw) s) ?_ (n + 1) ⟨0, vs, news, o0, rfl, Nat.zero_le _, h0, hJ, S⟩ ht
  rintro k s ⟨i, vs, nw, o, rfl, hi, hst, hJ, S⟩
  by_cases hlt : i < n
  · refine W.mk (Wk.item i s _ _ hlt hst fun v h' tk hP hst' hk => ?_)
    obtain ⟨o', ho'⟩ := hlive _ _ hst'
    have S' : St c (look ns vs) ((I, o') :: nw) { s with heap := h', toks := tk } := S.turn (ap i vs nw hJ) (fun b x hb e => hk b x (by simpa using hb) e) ho'
    refine (turn i v vs nw _ o' hlt hP hJ S').mono (fun _ s₂ h₂ => h₂.mono (fun f s₃ h₃ => ?_) fun _ _ q => q) fun _ _ q => q
    have go : (∃ vs' nw', J (i + 1) vs' nw' ∧ St c (look ns vs') ((I, o') :: nw') s₃) → ∃ m, m < n + 1 - i ∧ ∃ i vs nw o, m = n + 1 - i ∧ i ≤ n ∧ Stt i s₃.heap ∧ J i vs nw ∧ St c (look ns vs) ((I, o) :: nw) s₃ := by
      rintro ⟨vs', nw', hJ', S₃⟩
      refine ⟨n + 1 - (i + 1), by omega, i + 1, vs', nw', o', rfl, hlt, Wk.frame _ _ _ hst' fun b hb x e => ?_, hJ', S₃⟩
      by_cases hbI : b = I
      · subst hbI
        rw [ho'] at e
        cases e
        exact (S₃.N _ (.head _)).1
      · have same : ∀ z, s₃.heap.get? b = some z → h'.get? b = some z → s₃.heap.get? b = some x := fun z e1 e2 => by
          rw [show h'.get? b = some x from e] at e2
          cases e2
          exact e1
        rcases fr b hb hbI with ⟨y, hy⟩ | ⟨y, hy⟩
        · exact same y (S₃.F.keep _ _ hy) (S'.F.keep _ _ hy)
        · exact same y (S₃.N _ (.tail _ (hy _ _ _ hJ'))).1 (S'.N _ (.tail _ (hy _ _ _ hJ))).1
    cases f with
    | next => exact go h₃
    | cont => exact go h₃
    | brk => exact h₃
    | ret v => exact h₃
  · have e : i = n := by omega
    subst e
    refine W.mk (Wk.done s _ _ hst fun h' tk hk => done vs nw _ hJ ?_)
    have z := S.N _ (.head _)
    have k : ∀ b x, b ≠ I → s.heap.get? b = some x → h'.get? b = some x := fun b x hb e => hk b x (by simpa using hb) e
    obtain ⟨oL, es, ep, hL, r⟩ := S.F.ns
    refine ⟨S.G, ⟨⟨oL, es, ep, k _ _ (Ne.symm z.2.1) hL, r⟩, fun b x e => k b x (fun q => ?_) (S.F.keep b x e), S.F.above⟩, fun p hp => ?_, S.gens, S.os⟩
    · subst q; rw [z.2.2] at e; cases e
    · have y := S.N p (.tail _ hp)
      exact ⟨k _ _ (ap _ _ _ hJ p hp) y.1, y.2⟩
/-- while: the measure k falls at each turn -/
theorem x_while {test : Expr} {body rest : List Stmt} {pos : Pos} {Q : Flow → Shared → Prop} (J : Nat → List (Option Value) → List (Addr × Obj) → Prop) (k : Nat) (hJ : J k vs news) (S : St c (look ns vs) news s)
    (turn : ∀ k vs nw s, J k vs nw → St c (look ns vs) nw s → W c A (PySem.isTrue test env (eval test env)) (fun b s₂ =>
      if b = true then W c A (execs body env) (fun f s₃ => match f with
        | .next | .cont => ∃ k' vs' nw', k' < k ∧ J k' vs' nw' ∧ St c (look ns vs') nw' s₃
        | .brk => Nx c A rest env Q E .next s₃
        | .ret v => Q (.ret v) s₃) NoE s₂
      else Nx c A rest env Q E .next s₂) NoE s) :
    W c A (execs (.While test body [] pos :: rest) env) Q E s := by
  refine x_cons ?_
  rw [exec_While]
  refine W.stand (W.runOwn ?_)
  refine codeN.mono (R := fun r s' => match r with | .ok f => Nx c A rest env Q E f s' | .error _ => False) ?_ (fun r s' z => by
    match r, z with
    | .ok f, z => exact z
    | .error _, z => exact z.elim)
  refine codeN_loop rfl rfl (fun k s => ∃ vs nw, J k vs nw ∧ St c (look ns vs) nw s) (fun k s hI => W.out (c := c) ?_) k ⟨vs, news, hJ, S⟩
  obtain ⟨vs, nw, hJ, S⟩ := hI
  show W c A ((whileTurn test body [] env).onRaise _) _ _ s
  refine W.onRaise (W.mono (E := NoE) ?_ (fun _ _ q => q) fun _ _ q => q.elim)
  unfold whileTurn
  refine W.then (turn k vs nw s hJ S) fun b s₂ h₂ => W.ite ?_
  by_cases hb : b = true
  · rw [if_pos hb] at h₂ ⊢
    refine W.then h₂ fun f s₃ h₃ => ?_
    cases f with
    | next => obtain ⟨k', vs', nw', a, b, d⟩ := h₃; exact W.pure (.inl ⟨rfl, k', a, vs', nw', b, d⟩)
    | cont => obtain ⟨k', vs', nw', a, b, d⟩ := h₃; exact W.pure (.inl ⟨rfl, k', a, vs', nw', b, d⟩)
    | brk => exact W.pure h₃
    | ret v => exact W.pure h₃
  · rw [if_neg hb] at h₂ ⊢
    rw [execs_nil]
    exact W.bind (W.pure (W.pure h₂))
/-- unpacking a tuple -/
theorem x_tup {elts : List Expr} {k : Nat} {tpos pos : Pos} {value : Expr} {rest : List Stmt} {Q : Flow → Shared → Prop}
    (h : W c A (eval value env) (fun v s₁ => W c A (assign (.Tuple elts k tpos) env v) (fun _ s₂ => W c A (execs rest env) Q E s₂) E s₁) E s)
    (hs : swapsWithSole [.Tuple elts k tpos] value pos.line env = pure false := by rfl)
    (hw : swappedStores [.Tuple elts k tpos] value env = pure none := by rfl) : W c A (execs (.Assign [.Tuple elts k tpos] value pos :: rest) env) Q E s := by
  refine x_cons ?_
  rw [exec_Assign]
  refine W.stand ?_
  rw [hs]
  refine W.bind (W.pure ?_)
  rw [if_neg (by decide)]
  refine W.then h fun v s₁ h₁ => ?_
  rw [hw]
  refine W.bind (W.pure ?_)
  show W c A (assignAll v [assign (.Tuple elts k tpos) env] >>= fun _ => (Pure.pure Flow.next : Sem Flow)) _ E s₁
  exact W.then h₁ fun _ s₂ h₂ => W.pure h₂
theorem St.grow {m : Str → Option Value} {h' : Heap} {tk : Tok} (S : St c m news s) (hk : ∀ b o, s.heap.get? b = some o → h'.get? b = some o) : St c m news { s with heap := h', toks := tk } := by
  obtain ⟨oL, es, ep, hL, r⟩ := S.F.ns
  exact ⟨S.G, ⟨⟨oL, es, ep, hk _ _ hL, r⟩, fun b o e => hk _ _ (S.F.keep b o e), S.F.above⟩, fun p hp => ⟨hk _ _ (S.N p hp).1, (S.N p hp).2⟩, S.gens, S.os⟩
theorem g_tup {elts : List Expr} {k : Nat} {tpos : Pos} {t : Addr} {items : List Value} {m : Str → Option Value} {Q : Unit → Shared → Prop} (S : St c m news s) (hA : A.handled = none) (hm : (t, ({ cls := .type "tuple", data := .seq items.toArray } : Obj)) ∈ news)
    (h : ∀ s', St c m news s' → W c A (assignInOrder ((assignEach elts env).map (·.2)) items) Q E s')
    (hn : (assignEach elts env).length = items.length := by rfl) (hstar : (assignEach elts env).findIdx? (·.1) = none := by rfl) :
    W c A (assign (.Tuple elts k tpos) env (.ref t)) Q E s := by
  rw [PyProof.Rows.assign_Tuple]
  refine W.stand ?_
  unfold unpack
  rw [hn, hstar]
  have ht : IsTup s.heap t items.toArray := ⟨_, (S.N _ hm).1, rfl, _, rfl⟩
  have e : items.length = items.toArray.size := by rw [List.size_toArray]
  rw [e]
  exact W.bind (W.hold (W.mk (unpackItems_tuple hA ht fun h' he => h _ (S.grow fun b o e => he b o (Nat.ne_of_lt (Heap.lt_size e)) e))))
theorem o_cons {t : Value → Sem Unit} {ts : List (Value → Sem Unit)} {x : Value} {xs : List Value} {Q : Unit → Shared → Prop} (h : W c A (t x) (fun _ s₁ => W c A (assignInOrder ts xs) Q E s₁) E s) : W c A (assignInOrder (t :: ts) (x :: xs)) Q E s := by
  show W c A (holding xs (t x) >>= fun _ => assignInOrder ts xs) Q E s
  exact W.bind (W.hold h)
theorem o_nil {Q : Unit → Shared → Prop} (h : Q () s) : W c A (assignInOrder [] []) Q E s := W.mk (wpAny_pure h)
theorem g_name {x : Str} {pos : Pos} {v : Value} {Q : Unit → Shared → Prop} (h : W c A (storeName env x v) Q E s) : W c A (assign (.Name x pos) env v) Q E s := by
  rw [PySem.assign_Name]
  exact W.stand ⟨fun Γ p hΓ q => by rw [Sem.wp_bindName]; exact h.out Γ p hΓ q⟩
end
end Mine
end

section
set_option Elab.async false
set_option maxRecDepth 100000
set_option linter.unusedVariables false
open PySem PySem.W PyProof.Rows PySem.Calls
namespace Mine
/-- a text by its signs -/
def tx (l : List Nat) : Str := ⟨l.toArray⟩
theorem tx_len (l : List Nat) : (tx l).length = l.length := List.size_toArray ..
theorem tx_list (l : List Nat) : (tx l).cps.toList = l := rfl
theorem tx_inj {a b : List Nat} (h : tx a = tx b) : a = b := by have := congrArg (fun x : Str => x.cps.toList) h; exact this
theorem tx_app (a b : List Nat) : tx a ++ tx b = tx (a ++ b) := by show (⟨a.toArray ++ b.toArray⟩ : Str) = ⟨(a ++ b).toArray⟩; rw [List.append_toArray]
theorem clipAt_le (n : Nat) (i : Int) : clipAt n i ≤ n := by
  have := clipAt_cast n i
  have h : ((clipAt n i : Nat) : Int) ≤ n := by rw [this]; omega
  omega
theorem indices_eq (lo hi : Option Int) (n : Nat) : Builtin.Str.strSliceIndices lo hi 1 n = sliceRange ((lo.elim 0 (clipAt n) : Nat) : Int) ((hi.elim n (clipAt n) : Nat) : Int) 1 := by
  unfold Builtin.Str.strSliceIndices
  cases lo <;> cases hi <;> simp [clipAt_cast]
theorem slice_tx (l : List Nat) (lo hi : Option Int) : Txt.slice (tx l) lo hi = tx (cutL lo hi l) := by
  have e : (Builtin.Str.strSliceIndices lo hi 1 (tx l).length).filterMap ((tx l).cps[·]?) = cutL lo hi l := by
    rw [indices_eq, tx_len, sliceRange_one, pick_run, tx_list]
    rfl
  unfold Txt.slice
  rw [e]
  split
  · rename_i h
    simp only [beq_self_eq_true, Bool.true_and, beq_iff_eq] at h
    rw [indices_eq, tx_len, sliceRange_one, List.length_map, List.length_range] at h
    have h2 : hi.elim l.length (clipAt l.length) ≤ l.length := by
      cases hi with
      | none => exact Nat.le_refl _
      | some i => exact clipAt_le _ _
    have h0 : lo.elim 0 (clipAt l.length) = 0 ∨ l.length = 0 := by omega
    unfold cutL
    rw [h, List.take_of_length_le (by rw [List.length_drop]; omega)]
    rcases h0 with h0 | h0
    · rw [h0]; rfl
    · rw [List.eq_nil_of_length_eq_zero h0]; rw [List.drop_nil]
  · rfl
section
variable {c : Cx} {m : Str → Option Value} {A : Around} {E : Value → Shared → Prop} {s : Shared} {news : List (Addr × Obj)} {env : Env} {t u : Tok} {Q : Value → Shared → Prop} {a b : List Nat}
theorem s_add (S : St c m news s) (hz : a.length + b.length ≤ 16777216) (h : ∀ t s', St c m news s' → Q (.str (tx (a ++ b)) t) s') : W c A (binaryOp .Add (.str (tx a) t) (.str (tx b) u)) Q E s :=
  W.mk (PyProof.Rows.add_str (fun t' tk => by rw [tx_app]; exact h _ _ (S.at rfl rfl rfl)) (by rw [tx_len, tx_len, sizeLine_eq]; exact hz))
theorem s_len (S : St c m news s) (hz : a.length ≤ 16777216) (h : ∀ t s', St c m news s' → Q (.int (a.length : Nat) t) s') : W c A (call (.builtin "len") [.str (tx a) t]) Q E s :=
  W.mk (PyProof.Rows.len_str (by rw [tx_len]; omega) (by rw [tx_len]; exact h _ _ (S.at rfl rfl rfl)))
theorem s_eq (h : Q (.bool (decide (a = b))) s) : W c A (compareOp .Eq (.str (tx a) t) (.str (tx b) u)) Q E s := W.mk (PyProof.Rows.eq_str (by
  have e : (tx a == tx b) = decide (a = b) := by
    rw [Bool.eq_iff_iff, beq_iff_eq, decide_eq_true_eq]
    exact ⟨tx_inj, fun e => by rw [e]⟩
  rw [e]; exact h))
theorem s_ne (h : Q (.bool (!decide (a = b))) s) : W c A (compareOp .NotEq (.str (tx a) t) (.str (tx b) u)) Q E s := W.mk (PyProof.Rows.ne_str (by
  have e : (tx a == tx b) = decide (a = b) := by
    rw [Bool.eq_iff_iff, beq_iff_eq, decide_eq_true_eq]
    exact ⟨tx_inj, fun e => by rw [e]⟩
  show Q (.bool (!(tx a == tx b))) s
  rw [e]; exact h))
theorem s_lt (h : Q (.bool (decide (a < b))) s) : W c A (compareOp .Lt (.str (tx a) t) (.str (tx b) u)) Q E s := W.mk (PyProof.Rows.lt_str h)
theorem s_item {i : Nat} {value slice : Expr} (S : St c m news s) (hi : i < a.length) (hz : a.length ≤ 16777216) (h : ∀ t s', St c m news s' → Q (.str (tx [a.getD i 0]) t) s')
    (hs : subscripted slice false (.str (tx a) t) (.int (i : Int) u) = operate [.str (tx a) t, .int (i : Int) u] (getItem (.str (tx a) t) (.int (i : Int) u)) := by with_unfolding_all rfl)
    (ht : ∀ r, letTemporaryGo value (.str (tx a) t) r = pure () := by intro _; with_unfolding_all rfl) : W c A (subscriptTail value slice (.str (tx a) t) (.int (i : Int) u)) Q E s := by
  have e : Txt.item (tx a) (i : Int) = tx [a.getD i 0] := by
    unfold Txt.item Txt.charAt
    have hn : ¬ ((i : Int) < 0) := by omega
    have h2 : 0 ≤ (i : Int) ∧ (i : Int) < (a.length : Int) := by omega
    have : seqIndex? (i : Int) (tx a).length = some i := by rw [tx_len]; simp [seqIndex?, hn, h2.1, h2.2]
    rw [this]
    show (⟨#[(a.toArray[i]?).getD 0]⟩ : Str) = _
    simp [hi, tx, List.getD]
  refine W.mk (KXi.item (n := a.length) (tx_len a) (by omega) (by omega) hz (fun _ => ?_) hs ht)
  rw [e]
  exact h _ _ (S.at rfl rfl rfl)
theorem s_cutP {lo hi : Option Int} {value slice : Expr} {l r : Value} (S : St c m news s) (hl : IsPart l lo) (hu : IsPart r hi) (hz : a.length ≤ 16777216)
    (h : ∀ t s', St c m news s' → Q (.str (tx (cutL lo hi a)) t) s')
    (hs : subscripted slice false (.str (tx a) t) (.ref s.heap.objs.size) = operate [.ref s.heap.objs.size, .str (tx a) t] (getItem (.str (tx a) t) (.ref s.heap.objs.size)) := by with_unfolding_all rfl)
    (ht : ∀ r, letTemporaryGo value (.str (tx a) t) r = pure () := by intro _; with_unfolding_all rfl) :
    W c A (subscriptTail value slice (.str (tx a) t) (.ref s.heap.objs.size)) Q E { s with heap := s.heap.push { cls := .type "slice", data := .fields #[l, r, .none] } } := by
  have hz' : (tx a).length ≤ sizeLine := by rw [tx_len, sizeLine_eq]; exact hz
  have k : KeptH (fun h => St c m news { s with heap := h }) := fun h ob S => S.push
  refine W.mk ?_
  cases hl <;> cases hu
  · exact tail_of_ItemOn (SBH.sliceItem_nn k S (fun h' t' k S' => by rw [slice_tx]; exact h _ _ (S'.at rfl rfl rfl)) hz') hs ht
  · exact tail_of_ItemOn (SBH.sliceItem_ns k S (fun h' t' k S' => by rw [slice_tx]; exact h _ _ (S'.at rfl rfl rfl)) hz') hs ht
  · exact tail_of_ItemOn (SBH.sliceItem_sn k S (fun h' t' k S' => by rw [slice_tx]; exact h _ _ (S'.at rfl rfl rfl)) hz') hs ht
  · exact tail_of_ItemOn (SBH.sliceItem_ss k S (fun h' t' k S' => by rw [slice_tx]; exact h _ _ (S'.at rfl rfl rfl)) hz') hs ht
theorem s_truthy {Q : Bool → Shared → Prop} (S : St c m news s) (hz : a.length ≤ 16777216) (h : ∀ s', St c m news s' → Q (decide (a.length ≠ 0)) s') : W c A (truthy (.str (tx a) t)) Q E s :=
  W.mk (KXt.truthy (b := decide (a.length ≠ 0)) (by rw [tx_len, Bool.eq_iff_iff]; simp) (by rw [tx_len]; exact hz) fun k => h _ (S.at rfl rfl rfl))
end
end Mine
end

section
set_option Elab.async false
set_option maxRecDepth 100000
set_option linter.unusedVariables false
set_option exponentiation.threshold 20000
open PySem PySem.W PyProof.Rows PySem.Calls
namespace Mine
/-- the 58 signs -/
def abc : List Nat := [49, 50, 51, 52, 53, 54, 55, 56, 57, 65, 66, 67, 68, 69, 70, 71, 72, 74, 75, 76, 77, 78, 80, 81, 82, 83, 84, 85, 86, 87, 88, 89, 90, 97, 98, 99, 100, 101, 102, 103, 104, 105, 106, 107, 109, 110, 111, 112, 113, 114, 115, 116, 117, 118, 119, 120, 121, 122]
theorem abc_eq : Str.ofString "123456789ABCDEFGHJKLMNPQRSTUVWXYZabcdefghijkmnopqrstuvwxyz" = tx abc := by decide +kernel
theorem g_abc (P : Params) : nsIn (KF P) mainGlobals (.ofString "B58_DIGITS") = some (some (.str (tx abc) 322)) := by rw [g_B58_DIGITS, abc_eq]
def sgn (d : Nat) : Nat := abc.getD d 0
/-- a number's digits to 58, great end first -/
def b58 (n : Nat) : List Nat := if h : n = 0 then [] else b58 (n / 58) ++ [n % 58]
termination_by n
decreasing_by exact Nat.div_lt_self (Nat.pos_of_ne_zero h) (by decide)
def text58 (n : Nat) : List Nat := (b58 n).map sgn

section
variable {c : Cx} {m : Str → Option Value} {A : Around} {E : Value → Shared → Prop} {s : Shared} {news : List (Addr × Obj)} {env : Env} {t u : Tok} {Q : Value → Shared → Prop}
theorem r_divmod {a b : Nat} (S : St c m news s) (hb : b ≠ 0) (hs : b < 1073741824) (h : ∀ p u v s', St c m ((p, { cls := .type "tuple", data := .seq [Value.int ((a / b : Nat) : Int) u, Value.int ((a % b : Nat) : Int) v].toArray }) :: news) s' → Q (.ref p) s') :
    W c A (call (.builtin "divmod") [.int a t, .int b u]) Q E s :=
  W.mk (divmod_N S.F S.N (by omega) (fun h' F' N' => by
    rw [Int.fdiv_eq_ediv_of_nonneg _ (Int.natCast_nonneg b), Int.fmod_eq_emod_of_nonneg _ (Int.natCast_nonneg b), ← Int.natCast_ediv, ← Int.natCast_emod] at N'
    exact h _ _ _ _ ⟨S.G, F', N', S.gens, S.os⟩) (.inl (PyProof.noPylong_small (by rw [Int.natAbs_natCast]; exact hs))))
theorem g_append {l : Addr} {its : Array Value} {n : Nat} {pl : Sem Bool} {Q : Value × List Value → Shared → Prop} (S : St c m news s) (hm : (l, listOf its n) ∈ news) (h : Q (.builtin "list.append", [.ref l]) s) :
    W c A (getMethod (.ref l) (Str.ofString "append") pl) Q E s := W.mk (kf_method S.N hm PySem.F.slot_list_append PySem.F.type_list_append h)
theorem r_append {l : Addr} {vs : List Value} {n : Nat} {x : Value} {nw : List (Addr × Obj)} (S : St c m ((l, listOf vs.toArray n) :: nw) s) (hn : ∀ p ∈ nw, p.1 ≠ l) (hz : vs.length ≤ 16777216)
    (h : ∀ s', St c m ((l, listOf (vs ++ [x]).toArray (n + 1)) :: nw) s' → Q .none s') : W c A (call (.builtin "list.append") [.ref l, x]) Q E s :=
  W.mk (append_K S.F S.N (.head hn) (fun h' F' N' => by
    have e : vs.toArray.push x = (vs ++ [x]).toArray := by simp
    rw [e] at N'
    exact h _ ⟨S.G, F', N', S.gens, S.os⟩) (by rw [sizeLine_eq, List.size_toArray]; exact hz))
theorem e_cut3 {lower upper step : Option Expr} {p : Pos} (h : W c A (evalPart lower env) (fun l s₁ => W c A (evalPart upper env) (fun r s₂ => W c A (evalPart step env) (fun k s₃ => Q (.ref s₃.heap.objs.size) { s₃ with heap := s₃.heap.push { cls := .type "slice", data := .fields #[l, r, k] } }) E s₂) E s₁) E s) :
    W c A (eval (.Slice lower upper step p) env) Q E s :=
  e_slice (h.mono (fun l s₁ h => h.mono (fun r s₂ h => h.mono (fun k s₃ h a s₄ _ e ea => by subst e; subst ea; exact h) fun _ _ q => q) fun _ _ q => q) fun _ _ q => q)
theorem l_rev {ops : List Value} {l : Addr} {vs : List Value} {n : Nat} {vk : Value} {value slice : Expr} (S : St c m news s) (hm : (l, listOf vs.toArray n) ∈ news) (hk : IsPart vk (some (-1))) (hz : vs.length ≤ 16777216)
    (h : ∀ D s', St c m ((D, listOf vs.reverse.toArray 0) :: news) s' → Q (.ref D) s')
    (hs : subscripted slice false (.ref l) (.ref s.heap.objs.size) = operate ops (getItem (.ref l) (.ref s.heap.objs.size)) := by with_unfolding_all rfl)
    (ht : ∀ r, letTemporaryGo value (.ref l) r = pure () := by intro _; with_unfolding_all rfl) :
    W c A (subscriptTail value slice (.ref l) (.ref s.heap.objs.size)) Q E { s with heap := s.heap.push { cls := .type "slice", data := .fields #[.none, .none, vk] } } :=
  W.mk (krv_lit (its := vs.toArray) S.F S.N (S.isList hm) hk rfl (fun D h' F' N' _ => h D _ ⟨S.G, F', N', S.gens, S.os⟩) hs ht (by rw [sizeLine_eq, List.size_toArray]; exact hz))
theorem g_join {x : Str} {pl : Sem Bool} {Q : Value × List Value → Shared → Prop} (h : Q (.builtin "str.join", [.str x t]) s) : W c A (getMethod (.str x t) (Str.ofString "join") pl) Q E s := W.mk (GM.join h)
theorem g_index {x : Str} {pl : Sem Bool} {Q : Value × List Value → Shared → Prop} (h : Q (.builtin "str.index", [.str x t]) s) : W c A (getMethod (.str x t) (Str.ofString "index") pl) Q E s := W.mk (GM.index h)
theorem join_nil : ∀ ls : List (List Nat), Txt.join (Str.ofString "") (ls.map tx) = tx ls.flatten := by
  have key : ∀ ls : List (List Nat), Str.join (tx []) (ls.map tx) = tx ls.flatten := by
    intro ls
    induction ls with
    | nil => rfl
    | cons a r ih =>
      cases r with
      | nil => show tx a = _; simp
      | cons b r =>
        show tx a ++ tx [] ++ Str.join (tx []) ((b :: r).map tx) = _
        rw [ih, tx_app, tx_app, List.append_nil]
        rfl
  intro ls
  show Builtin.Str.glued (Str.ofString "") (ls.map tx) = _
  rw [StrLaws.glued_eq_join]
  exact key ls
theorem s_join {l : Addr} {ps : List (List Nat × Tok)} {n : Nat} (S : St c m news s) (hm : (l, listOf (ps.map fun p => Value.str (tx p.1) p.2).toArray n) ∈ news) (hz : (ps.map (·.1)).flatten.length ≤ 1000000)
    (h : ∀ t s', St c m news s' → Q (.str (tx (ps.map (·.1)).flatten) t) s') : W c A (call (.builtin "str.join") [.str (Str.ofString "") t, .ref l]) Q E s :=
  W.mk (SC.join (l := ps.map fun p => (tx p.1, p.2)) (texts := (ps.map (·.1)).map tx)
    (by have := S.isList hm
        have e : strValues (ps.map fun p => (tx p.1, p.2)) = ps.map fun p => Value.str (tx p.1) p.2 := by unfold strValues; rw [List.map_map]; rfl
        rw [e]; exact this)
    (by rw [List.map_map, List.map_map]; rfl)
    (joinOk_of (by
      have e : (((ps.map (·.1)).map tx).map (·.length)).sum = (ps.map (·.1)).flatten.length := by
        rw [List.length_flatten, List.map_map]
        congr 1
      rw [e, show (Str.ofString "").length = 0 from by decide, Nat.mul_zero]
      exact Nat.le_trans hz (by decide)))
    fun t' k => by rw [join_nil]; exact h _ _ (S.at rfl rfl rfl))
theorem s_mul0 {a : List Nat} (S : St c m news s) (ha : a.length ≤ 16) (h : ∀ t s', St c m news s' → Q (.str (tx []) t) s') : W c A (binaryOp .Mult (.str (tx a) t) (.int ((0 : Nat) : Int) u)) Q E s :=
  W.mk (KXi.mul (n := a.length) (tx_len a) ha (by decide) (by decide) fun t' k _ _ => by
    have e : Txt.mul (tx a) ((0 : Nat) : Int) = tx [] := by unfold Txt.mul; rfl
    rw [e]
    exact h _ _ (S.at rfl rfl rfl))
theorem i_bytes {b : List UInt8} {Q : Value → Shared → Prop} (S : St c m news s) (h : ∀ I o s', St c m ((I, o) :: news) s' → (∀ p ∈ news, p.1 ≠ I) → KBw.IsBytesIter s'.heap I b.toArray t 0 → Q (.ref I) s') : W c A (pyIter (.bytes b.toArray t)) Q E s :=
  W.mk (KBw.pyIter_bytes (h _ _ _ ⟨S.G, S.F.push _, S.N.push S.F _, S.gens, S.os⟩ (fun p hp => Nat.ne_of_lt (Heap.lt_size (S.N p hp).1)) ⟨_, Heap.get?_push_size _ rfl, rfl, rfl⟩))
end
def mkS (p : Nat × Tok) : Value := .str (tx [sgn p.1]) p.2
theorem sgn_eq (d : Nat) : abc.getD d 0 = sgn d := rfl
theorem b58_len : ∀ (k n : Nat), n < 58 ^ k → (b58 n).length ≤ k
  | 0, n, h => by
    have : n = 0 := by simpa using h
    subst this
    rw [b58]; simp
  | k + 1, n, h => by
    rw [b58]
    split
    · simp
    · rw [List.length_append]
      have := b58_len k (n / 58) (by rw [Nat.pow_succ] at h; omega)
      simp
      omega
theorem C_encode {w mg mb A s t} {b : List UInt8} (G : Gl w mg mb s.heap) (R : Rm A 10) (hb : b.length ≤ 500) (h0 : b.getD 0 0 ≠ 0) :
    Gives w A (.ref 111) [.bytes b.toArray t] [] (fun v _ => ∃ t', v = .str (tx (text58 (beN b))) t') s := by
  refine enterW ["b"] ["n", "chars", "r", "result", "pad", "c"] [.bytes b.toArray t] G R.less lk111 (defBody (topSt 9)) rfl cd111 fun L s S => ?_
  have hbn : beN b < 256 ^ 500 := beN_small hb
  have hlen : (b58 (beN b)).length ≤ 1000 := b58_len 1000 _ (Nat.lt_of_lt_of_le hbn (by decide +kernel))
  refine open_body rfl ?_
  refine x_asg <| e_meth <| b_int S <| g_from S fun q s S => ?_
  refine cw_from <| s_more <| ld 0 S <| s_more <| c_str S fun u s S => s_nil ⟨⟨_, _, .head _, S⟩, ?_⟩
  refine r_from S (.head _) (by rw [List.size_toArray]; omega) fun t' s S => st 1 S.drop fun s S => ?_
  refine x_asg <| e_list <| s_nil <| r_list S fun D s S => st 2 S fun s S => ?_
  refine x_while (fun k vs nw => ∃ (done : List (Nat × Tok)) (cnt : Nat) (tn : Tok) (rv : Option Value), vs = [some (.bytes b.toArray t), some (.int (k : Int) tn), some (.ref D), rv, none, none, none] ∧ nw = [(D, listOf (done.map mkS).toArray cnt)] ∧ b58 (beN b) = b58 k ++ (done.map (·.1)).reverse)
    (beN b) ⟨[], 0, t', none, rfl, rfl, by simp⟩ S ?_
  rintro k vs nw s ⟨done, cnt, tn, rv, rfl, rfl, hd⟩ S
  have hdl : done.length ≤ 1000 := by
    have := congrArg List.length hd
    rw [List.length_append, List.length_reverse, List.length_map] at this
    omega
  refine t_cmp <| ld 1 S <| c_nat 0 S fun u s S => p_gt <| t_bool <| ite_two (fun hk => ?_) fun hk => ?_
  · have hk0 : k ≠ 0 := Nat.ne_of_gt (of_decide_eq_true hk)
    refine x_tup <| e_call <| b_divmod S <| cw_bt <| s_more <| ld 1 S <| s_more <| c_nat 58 S fun u s S => s_nil ?_
    refine r_divmod S (by decide) (by decide) fun p u v s S => g_tup S R.calm (.head _) fun s S => ?_
    refine o_cons <| g_name <| st 1 S fun s S => o_cons <| g_name <| st 3 S fun s S => o_nil ?_
    refine x_expr <| e_meth <| ld 2 S <| g_append S (.tail _ (.head _)) <| cw_bt' <| s_more <| e_sub <| gl S g_abc <| ld 3 S ?_
    refine s_item S (Nat.lt_of_lt_of_le (Nat.mod_lt _ (by decide)) (by decide)) (by decide) fun u s S => s_nil ?_
    refine r_append S.drop (fun _ h => nomatch h) (by rw [List.length_map]; omega) fun s S => x_nil ?_
    refine ⟨k / 58, _, _, Nat.div_lt_self (Nat.pos_of_ne_zero hk0) (by decide), ⟨done ++ [(k % 58, u)], cnt + 1, _, _, rfl, ?_, ?_⟩, S⟩
    · rw [List.map_append]; rfl
    · rw [hd, b58, dif_neg hk0]; simp
  · have hk0 : k = 0 := by
      have : ¬ 0 < k := fun z => hk (decide_eq_true z)
      omega
    subst hk0
    have hd' : b58 (beN b) = (done.map (·.1)).reverse := by rw [hd, b58]; simp
    refine x_asg <| e_meth <| c_str S fun u s S => g_join <| cw_bt' <| s_more <| e_sub <| ld 2 S <| e_cut3 <| pt_none <| pt_none <| pt_some <| e_neg 1 S fun u s S => ?_
    refine l_rev S (.head _) (.int _ _) (by rw [List.length_map]; omega) fun D' s S => s_nil ?_
    have e1 : (done.map mkS).reverse = (done.reverse.map fun p => ([sgn p.1], p.2)).map fun p => Value.str (tx p.1) p.2 := by rw [← List.map_reverse, List.map_map]; rfl
    have e2 : ((done.reverse.map fun p => ([sgn p.1], p.2)).map (·.1)).flatten = text58 (beN b) := by
      unfold text58
      rw [hd', List.map_map, ← List.map_reverse, List.map_map]
      generalize done.reverse = l
      induction l with
      | nil => rfl
      | cons a l ih => simp only [List.map_cons, List.flatten_cons, ih]; rfl
    rw [e1] at S
    refine s_join S (.head _) (by rw [e2]; unfold text58; rw [List.length_map]; omega) fun u s S => st 4 S fun s S => ?_
    rw [e2] at S
    refine x_asg <| c_nat 0 S fun u s S => st 5 S fun s S => ?_
    refine x_for <| ld 0 S <| i_bytes S fun I o s S hI hit => ?_
    refine w_for (o0 := o) (KBw.walks (A := A.deeper (callEnv fd111 L 111)) R.calm I b.toArray t) (fun i h (z : KBw.IsBytesIter h I b.toArray t i) => let ⟨o, ho, _⟩ := z; ⟨o, ho⟩) (fun i vs nw => i = 0 ∧ nw = [] ∧ ∃ t1 t2 t3 rv cv, vs = [some (.bytes b.toArray t), some (.int ((0 : Nat) : Int) t1), some (.ref D), rv, some (.str (tx (text58 (beN b))) t2), some (.int ((0 : Nat) : Int) t3), cv])
      (fun b hb hne => absurd (List.mem_singleton.mp hb) hne) ?_ ?_ ?_ (S.sub (nw := [(I, o)]) ?_) hit ⟨rfl, rfl, _, _, _, _, _, rfl⟩
    · rintro i vs nw ⟨rfl, rfl, _⟩ p hp
      cases hp
    · rintro i v vs nw s o hi ⟨x, u, hx, rfl⟩ ⟨rfl, rfl, t1, t2, t3, rv, cv, rfl⟩ S
      refine g_name <| st 6 S fun s S => ?_
      have hx' : b.getD 0 0 = x := by
        have : b[0]? = some x := by simpa using hx
        simp [List.getD, this]
      refine x_if <| t_cmp <| ld 6 S <| c_nat 0 S fun u s S => p_eq <| t_bool <| ite_no ?_ ?_
      · intro z
        have z := of_decide_eq_true z
        exact h0 (hx'.trans (UInt8.toNat_inj.mp z))
      refine x_brk ?_
      refine x_ret <| e_bin <| e_bin <| e_sub <| gl S g_abc <| c_nat 0 S fun u s S => s_item S (by decide) (by decide) fun u s S => ld 5 S ?_
      refine s_mul0 S (by decide) fun u s S => ld 4 S ?_
      refine s_add S (by unfold text58; rw [List.length_map]; simp; omega) fun u s S => ?_
      exact ⟨S.done, u, rfl⟩
    · rintro vs nw s ⟨e, rfl, t1, t2, t3, rv, cv, rfl⟩ S
      exfalso
      have : b = [] := by simpa using e
      subst this
      exact h0 rfl
    · intro p hp
      rw [List.mem_singleton.mp hp]
      exact .head _
end Mine
end

section
set_option Elab.async false
set_option maxRecDepth 100000
set_option linter.unusedVariables false
set_option exponentiation.threshold 20000
open PySem PySem.W PyProof.Rows PySem.Calls
namespace Mine
def val58 (ds : List Nat) : Nat := ds.foldl (fun a d => a * 58 + d) 0
theorem val58_snoc (ds : List Nat) (d : Nat) : val58 (ds ++ [d]) = val58 ds * 58 + d := by unfold val58; rw [List.foldl_append]; rfl
theorem val58_b58 (n : Nat) : val58 (b58 n) = n := by
  induction n using Nat.strongRecOn with
  | ind n ih =>
    rw [b58]
    split
    · rename_i h; subst h; rfl
    · rename_i h
      rw [val58_snoc, ih _ (Nat.div_lt_self (Nat.pos_of_ne_zero h) (by decide))]
      omega
theorem b58_dig (n : Nat) : ∀ d ∈ b58 n, d < 58 := by
  induction n using Nat.strongRecOn with
  | ind n ih =>
    rw [b58]
    split
    · intro d hd; cases hd
    · rename_i h
      intro d hd
      rcases List.mem_append.mp hd with hd | hd
      · exact ih _ (Nat.div_lt_self (Nat.pos_of_ne_zero h) (by decide)) d hd
      · rw [List.mem_singleton.mp hd]; exact Nat.mod_lt _ (by decide)
theorem b58_head (n : Nat) (hn : n ≠ 0) : ∃ d r, b58 n = d :: r ∧ d ≠ 0 := by
  induction n using Nat.strongRecOn with
  | ind n ih =>
    rw [b58, dif_neg hn]
    by_cases h : n / 58 = 0
    · rw [h, b58, dif_pos rfl]
      exact ⟨n % 58, [], rfl, by omega⟩
    · obtain ⟨d, r, e, hd⟩ := ih _ (Nat.div_lt_self (Nat.pos_of_ne_zero hn) (by decide)) h
      rw [e]
      exact ⟨d, r ++ [n % 58], rfl, hd⟩
theorem val58_lt : ∀ (ds : List Nat), (∀ d ∈ ds, d < 58) → val58 ds < 58 ^ ds.length := by
  intro ds
  generalize hr : ds.reverse = rs
  induction rs generalizing ds with
  | nil => have : ds = [] := by simpa using hr
           rw [this]
           intro _
           decide
  | cons d rs ih =>
    have e : ds = rs.reverse ++ [d] := by have := congrArg List.reverse hr; simpa using this
    subst e
    intro h
    have h1 := ih rs.reverse (by simp) fun x hx => h x (List.mem_append_left _ hx)
    have h2 := h d (List.mem_append_right _ (.head _))
    rw [val58_snoc, List.length_append, Nat.pow_add]
    simp
    simp at h1
    omega
theorem sgn_find : ∀ d : Fin 58, Builtin.Str.occurrences (tx abc) (tx [sgn d.1]) 0 (tx abc).length 1 = [d.1] := by decide +kernel
theorem sgn_ascii : ∀ d : Fin 58, sgn d.1 < 128 := by decide
theorem sgn_one : ∀ d : Fin 58, d.1 ≠ 0 → sgn d.1 ≠ 49 := by decide
theorem sgn_inj : ∀ d e : Fin 58, sgn d.1 = sgn e.1 → d.1 = e.1 := by decide +kernel
/-- the octets of a number, no more than it needs -/
def need (n : Nat) : Nat := (Builtin.Int.intBits (n : Int) + 7) / 8
def dec (n : Nat) : List UInt8 := toBE (need n) n
theorem need_fit (n : Nat) : n < 256 ^ need n := by
  have h : (n : Int).natAbs < 2 ^ Builtin.Int.intBits (n : Int) := intBits_le_iff.mp (Nat.le_refl _)
  rw [Int.natAbs_natCast] at h
  refine Nat.lt_of_lt_of_le h ?_
  rw [show (256 : Nat) = 2 ^ 8 from rfl, ← Nat.pow_mul]
  refine Nat.pow_le_pow_right (by decide) ?_
  unfold need
  omega
theorem need_le {n k : Nat} (h : n < 256 ^ k) : need n ≤ k := by
  have : Builtin.Int.intBits (n : Int) ≤ 8 * k := intBits_le_iff.mpr (by rw [Int.natAbs_natCast, Nat.pow_mul]; exact h)
  unfold need
  omega
theorem need_pos {n : Nat} (h : n ≠ 0) : need n ≠ 0 := fun e => by
  have := need_fit n
  rw [e] at this
  omega
section
variable {c : Cx} {m : Str → Option Value} {A : Around} {E : Value → Shared → Prop} {s : Shared} {news : List (Addr × Obj)} {env : Env} {t u : Tok} {Q : Value → Shared → Prop} {a b : Nat}
theorem p_iadd (S : St c m news s) (h : ∀ t s', St c m news s' → Q (.int ((a + b : Nat) : Int) t) s') : W c A (inplaceOp .Add (.int a t) (.int b u)) Q E s := W.mk (PyProof.Rows.iadd_int (h _ _ (S.at rfl rfl rfl)))
theorem p_imul (S : St c m news s) (ha : Small a) (hb : Small b) (h : ∀ t s', St c m news s' → Q (.int ((a * b : Nat) : Int) t) s') : W c A (inplaceOp .Mult (.int a t) (.int b u)) Q E s :=
  W.mk (PyProof.Rows.imul_int (by rw [← Int.natCast_mul]; exact h _ _ (S.at rfl rfl rfl)) (ha.ok hb))
theorem s_notin {d : Nat} (hd : d < 58) (h : Q (.bool false) s) : W c A (compareOp .NotIn (.str (tx [sgn d]) u) (.str (tx abc) t)) Q E s :=
  W.mk (PyProof.Rows.notIn_str (by rw [sgn_find ⟨d, hd⟩]; exact h))
theorem s_index {d : Nat} (S : St c m news s) (hd : d < 58) (h : ∀ t s', St c m news s' → Q (.int (d : Nat) t) s') : W c A (call (.builtin "str.index") [.str (tx abc) t, .str (tx [sgn d]) u]) Q E s :=
  W.mk (SC.index (sgn_find ⟨d, hd⟩) (h _ _ (S.at rfl rfl rfl)))
theorem g_bits {x : Int} {pl : Sem Bool} {Q : Value × List Value → Shared → Prop} (h : Q (.builtin "int.bit_length", [.int x t]) s) : W c A (getMethod (.int x t) (Str.ofString "bit_length") pl) Q E s := W.mk (getMethod_int_bit_length h)
theorem r_bits (S : St c m news s) (h : ∀ t s', St c m news s' → Q (.int (Builtin.Int.intBits (a : Int) : Nat) t) s') : W c A (call (.builtin "int.bit_length") [.int (a : Int) t]) Q E s := W.mk (call_int_bit_length (h _ _ (S.at rfl rfl rfl)))
theorem e_or {e₁ e₂ : Expr} {pos : Pos} (h : W c A (eval e₁ env) (fun v s₁ => W c A (truthy v) (fun b s₂ => if b = true then Q v s₂ else W c A (eval e₂ env) Q E s₂) E s₁) E s) : W c A (eval (.BoolOp .Or [e₁, e₂] pos) env) Q E s := by
  show W c A (do
    let v ← eval e₁ env
    standAt pos
    let b ← holding [v] (truthy v)
    match BoolOp.Or, b with
    | .And, false | .Or, true => pure v
    | _, _ => eval e₂ env) Q E s
  refine W.then h fun v s₁ h => W.stand (W.then (W.hold h) fun b s₂ h => ?_)
  cases b with
  | false => exact h
  | true => exact W.pure h
theorem t_int {Q : Bool → Shared → Prop} (h : Q (decide (a ≠ 0)) s) : W c A (truthy (.int (a : Int) t)) Q E s := W.mk (PyProof.Rows.truthy_int (by
  have e : ((a : Int) != 0) = decide (a ≠ 0) := by rw [Bool.eq_iff_iff]; simp
  rw [e]; exact h))
theorem y_mul0 {b : List UInt8} (S : St c m news s) (hb : b ≠ []) (hs : b.length ≤ 16) (h : ∀ t s', St c m news s' → Q (.bytes ([] : List UInt8).toArray t) s') : W c A (binaryOp .Mult (.bytes b.toArray t) (.int ((0 : Nat) : Int) u)) Q E s :=
  W.mk (bytes_mul_any hb (by decide) (by decide) hs fun _ _ => h _ _ (S.at rfl rfl rfl))
theorem i_str {l : List Nat} (S : St c m news s) (ha : ∀ x ∈ l, x < 128) (h : ∀ I o s', St c m ((I, o) :: news) s' → (∀ p ∈ news, p.1 ≠ I) → s'.heap.IsStrIter I "str_ascii_iterator" (tx l) t 0 → Q (.ref I) s') : W c A (pyIter (.str (tx l) t)) Q E s :=
  W.mk (wpAny_pyIter_ascii (by show l.toArray.all _ = true; simpa using ha) (h _ _ _ ⟨S.G, S.F.push _, S.N.push S.F _, S.gens, S.os⟩ (fun p hp => Nat.ne_of_lt (Heap.lt_size (S.N p hp).1)) ⟨_, Heap.get?_push_size _ rfl, rfl, rfl⟩))
end
theorem strWalks {w : World} {A : Around} (hA : A.handled = none) (I : Addr) (l : List Nat) (t : Tok) :
    Walks PW w A I [I] [I] l.length (fun i v => ∃ ch u, l[i]? = some ch ∧ v = .str (tx [ch]) u) (fun i h => h.IsStrIter I "str_ascii_iterator" (tx l) t i) := by
  have W := Walks.strAscii (prog := PW) (w := w) hA I (tx l) t
  have e : (tx l).cps.size = l.length := tx_len l
  rw [e] at W
  refine ⟨W.sub, W.frame, fun i s Q E hi st hQ => W.item i s Q E hi st fun v h' tk hP => hQ v h' tk ?_, W.done, W.self⟩
  obtain ⟨ch, u, h1, h2⟩ := hP
  exact ⟨ch, u, by rw [← h1]; show l[i]? = l.toArray[i]?; simp, h2⟩
theorem text58_ascii (n : Nat) : ∀ x ∈ text58 n, x < 128 := by
  intro x hx
  obtain ⟨d, hd, rfl⟩ := List.mem_map.mp hx
  exact sgn_ascii ⟨d, b58_dig n d hd⟩
theorem text58_len (n : Nat) : (text58 n).length = (b58 n).length := List.length_map ..
theorem C_decode {w mg mb A s t} {n : Nat} (G : Gl w mg mb s.heap) (R : Rm A 10) (h0 : n ≠ 0) (hn : n < 256 ^ 500) (h2 : 2 ≤ (b58 n).length) :
    Gives w A (.ref 118) [.str (tx (text58 n)) t] [] (fun v _ => ∃ t', v = .bytes (dec n).toArray t') s := by
  have hlen : (b58 n).length ≤ 1000 := b58_len 1000 _ (Nat.lt_of_lt_of_le hn (by decide +kernel))
  obtain ⟨d0, r0, e0, hd0⟩ := b58_head n h0
  have hd0' : d0 < 58 := b58_dig n d0 (by rw [e0]; exact .head _)
  have e0t : text58 n = sgn d0 :: r0.map sgn := by unfold text58; rw [e0]; rfl
  refine enterW ["s"] ["n", "c", "digit", "res", "pad"] [.str (tx (text58 n)) t] G R.less lk118 (defBody (topSt 10)) rfl cd118 fun L s S => ?_
  refine open_body rfl ?_
  refine x_if <| t_not <| t_val <| ld 0 S ?_
  refine s_truthy S (by rw [text58_len]; omega) fun s S => ite_no (by rw [e0t]; simp) <| x_nil ?_
  refine x_asg <| c_nat 0 S fun tz s S => st 1 S fun s S => ?_
  refine x_for <| ld 0 S <| i_str S (text58_ascii n) fun I o s S hI hit => ?_
  refine w_for (o0 := o) (strWalks (A := A.deeper (callEnv fd118 L 118)) R.calm I (text58 n) t) (fun i h z => let ⟨o, ho, _⟩ := (show h.IsStrIter I "str_ascii_iterator" (tx (text58 n)) t i from z); ⟨o, ho⟩)
    (fun i vs nw => nw = [] ∧ ∃ t1 c1 d1, vs = [some (.str (tx (text58 n)) t), some (.int ((val58 ((b58 n).take i) : Nat) : Int) t1), c1, d1, none, none])
    (fun b hb hne => absurd (List.mem_singleton.mp hb) hne) ?_ ?_ ?_ (S.sub (nw := [(I, o)]) (fun p hp => by rw [List.mem_singleton.mp hp]; exact .head _)) hit ⟨rfl, tz, _, _, rfl⟩
  · rintro i vs nw ⟨rfl, _⟩ p hp
    cases hp
  · rintro i v vs nw s o hi ⟨ch, u, hx, rfl⟩ ⟨rfl, t1, c1, d1, rfl⟩ S
    rw [text58_len] at hi
    obtain ⟨d, hd⟩ : ∃ d, (b58 n)[i]? = some d := ⟨_, List.getElem?_eq_getElem hi⟩
    have hd58 : d < 58 := b58_dig n d (List.mem_of_getElem? hd)
    have hch : ch = sgn d := by
      have : (text58 n)[i]? = some (sgn d) := by unfold text58; rw [List.getElem?_map, hd]; rfl
      rw [this] at hx
      exact (Option.some.inj hx).symm
    subst hch
    have hv : val58 ((b58 n).take i) < 58 ^ 1000 := by
      refine Nat.lt_of_lt_of_le (val58_lt _ fun x hx => b58_dig n x (List.mem_of_mem_take hx)) (Nat.pow_le_pow_right (by decide) ?_)
      rw [List.length_take]; omega
    have hsm : Small (val58 ((b58 n).take i)) := Small.pow (k := 1000) (Nat.lt_of_lt_of_le hv (Nat.pow_le_pow_left (by decide) _))
    refine g_name <| st 2 S fun s S => ?_
    refine x_aug <| ldn 1 S <| c_nat 58 S fun u s S => p_imul S hsm (Small.lit (by decide)) fun u s S => st 1 S fun s S => ?_
    refine x_if <| t_cmp <| ld 2 S <| gl S g_abc <| s_notin hd58 <| t_bool <| ite_no (by decide) <| x_nil ?_
    refine x_asg <| e_meth <| gl S g_abc <| g_index <| cw_bt' <| s_more <| ld 2 S <| s_nil <| s_index S hd58 fun u s S => st 3 S fun s S => ?_
    have ev : val58 ((b58 n).take (i + 1)) = val58 ((b58 n).take i) * 58 + d := by rw [List.take_add_one, hd]; exact val58_snoc _ _
    refine x_aug <| ldn 1 S <| ld 3 S <| p_iadd S fun u s S => ?_
    rw [← ev]
    refine st 1 S fun s S => x_nil ?_
    exact ⟨_, _, ⟨rfl, u, _, _, rfl⟩, S⟩
  · rintro vs nw s ⟨rfl, t1, c1, d1, rfl⟩ S
    rw [text58_len, List.take_of_length_le (Nat.le_refl _), val58_b58] at S
    refine x_asg <| e_meth <| ld 1 S <| g_to <| cw_bt' <| s_more <| e_or <| e_bin <| e_bin <| e_meth <| ld 1 S <| g_bits <| cw_bt0 <| r_bits S fun u s S => ?_
    refine c_nat 7 S fun u s S => p_add S fun u s S => c_nat 8 S fun u s S => p_fdiv S (by decide) (by decide) fun u s S => ?_
    refine t_int <| ite_yes (decide_eq_true (need_pos h0)) <| s_more <| c_str S fun u s S => s_nil ?_
    refine r_to S (k := need n) (Nat.le_trans (need_le hn) (by decide)) (need_fit n) fun t3 s S => st 4 S fun s S => ?_
    refine x_asg <| c_nat 0 S fun u s S => st 5 S fun s S => ?_
    refine x_for <| e_sub <| ld 0 S <| e_cut <| pt_none <| pt_some <| e_neg 1 S fun u s S => ?_
    refine s_cutP S .none (.int _ _) (by rw [text58_len]; omega) fun u s S => ?_
    have hcut : cutL none (some (-((1 : Nat) : Int))) (text58 n) = (text58 n).take ((text58 n).length - 1) := by
      unfold cutL
      simp only [Option.elim, List.drop_zero, Nat.sub_zero]
      congr 1
      have := clipAt_cast (text58 n).length (-((1 : Nat) : Int))
      have hp : 1 ≤ (text58 n).length := by rw [e0t]; simp
      have h1 : ((-((1 : Nat) : Int)) < 0) := by decide
      rw [if_pos h1] at this
      omega
    rw [hcut]
    refine i_str S (fun x hx => text58_ascii n x (List.mem_of_mem_take hx)) fun I o s S hI hit => ?_
    refine w_for (o0 := o) (strWalks (A := A.deeper (callEnv fd118 L 118)) R.calm I _ _) (fun i h z => let ⟨o, ho, _⟩ := (show h.IsStrIter I "str_ascii_iterator" _ _ i from z); ⟨o, ho⟩)
      (fun i vs nw => i = 0 ∧ nw = [] ∧ ∃ t1 t2 t3 c1 c2, vs = [some (.str (tx (text58 n)) t), some (.int (n : Int) t1), c1, c2, some (.bytes (dec n).toArray t2), some (.int ((0 : Nat) : Int) t3)])
      (fun b hb hne => absurd (List.mem_singleton.mp hb) hne) ?_ ?_ ?_ (S.sub (nw := [(I, o)]) (fun p hp => by rw [List.mem_singleton.mp hp]; exact .head _)) hit ⟨rfl, rfl, _, _, _, _, _, rfl⟩
    · rintro i vs nw ⟨rfl, rfl, _⟩ p hp
      cases hp
    · rintro i v vs nw s o hi ⟨ch, u, hx, rfl⟩ ⟨rfl, rfl, t1, t2, t3, c1, c2, rfl⟩ S
      have hch : ch = sgn d0 := by
        have h1 : ((text58 n).take ((text58 n).length - 1))[0]? = some (sgn d0) := by
          have hp : 0 < (text58 n).length - 1 := by rw [text58_len]; omega
          rw [List.getElem?_take_of_lt hp, e0t]
          rfl
        rw [h1] at hx
        exact (Option.some.inj hx).symm
      subst hch
      refine g_name <| st 2 S fun s S => ?_
      refine x_if <| t_cmp <| ld 2 S <| e_sub <| gl S g_abc <| c_nat 0 S fun u s S => s_item S (by decide) (by decide) fun u s S => s_eq <| t_bool <| ite_no ?_ ?_
      · intro z
        have z := of_decide_eq_true z
        exact sgn_one ⟨d0, hd0'⟩ hd0 (List.head_eq_of_cons_eq z)
      refine x_brk ?_
      refine x_ret <| e_bin <| e_bin <| c_bytes S fun u s S => ld 5 S ?_
      refine y_mul0 S (by decide) (by decide) fun u s S => ld 4 S ?_
      refine y_add S (by unfold dec; rw [toBE_len]; have := need_le hn; simp; omega) fun u s S => ?_
      exact ⟨S.done, u, rfl⟩
    · rintro vs nw s ⟨e, rfl, _⟩ S
      exfalso
      have : ((text58 n).take ((text58 n).length - 1)).length = 0 := e
      rw [List.length_take, text58_len] at this
      omega
end Mine
end

section
set_option Elab.async false
set_option maxRecDepth 100000
set_option linter.unusedVariables false
set_option exponentiation.threshold 20000
open PySem PySem.W PyProof.Rows PySem.Calls
namespace Mine
theorem list_snoc {α : Type} (P : List α → Prop) (h0 : P []) (h1 : ∀ l a, P l → P (l ++ [a])) : ∀ l, P l := by
  intro l
  generalize hr : l.reverse = r
  induction r generalizing l with
  | nil => have : l = [] := by simpa using hr
           rw [this]; exact h0
  | cons a r ih =>
    have e : l = r.reverse ++ [a] := by have := congrArg List.reverse hr; simpa using this
    rw [e]
    exact h1 _ _ (ih _ (by simp))
theorem toBE_beN : ∀ l : List UInt8, toBE l.length (beN l) = l := by
  refine list_snoc _ rfl fun l a ih => ?_
  rw [List.length_append]
  show toBE (l.length + 1) _ = _
  rw [toBE, beN_snoc]
  have h := a.toNat_lt
  have e1 : (beN l * 256 + a.toNat) / 256 = beN l := by omega
  have e2 : (beN l * 256 + a.toNat) % 256 = a.toNat := by omega
  rw [e1, e2, ih]
  congr 1
  simp
theorem beN_append (a b : List UInt8) : beN (a ++ b) = beN a * 256 ^ b.length + beN b := by
  revert b
  refine list_snoc _ (by simp [beN]) fun l x ih => ?_
  rw [← List.append_assoc, beN_snoc, ih, beN_snoc, List.length_append, Nat.pow_add, Nat.add_mul, Nat.mul_assoc, Nat.add_assoc]
  simp
theorem beN_ge {a : UInt8} {r : List UInt8} (h : a ≠ 0) : 256 ^ r.length ≤ beN (a :: r) := by
  have := beN_append [a] r
  rw [List.singleton_append] at this
  rw [this]
  have h1 : 1 ≤ beN [a] := by
    show 1 ≤ 0 * 256 + a.toNat
    have : a.toNat ≠ 0 := fun e => h (UInt8.toNat_inj.mp e)
    omega
  exact Nat.le_trans (Nat.le_of_eq (Nat.one_mul _).symm) (Nat.le_trans (Nat.mul_le_mul_right _ h1) (Nat.le_add_right _ _))
theorem need_eq {l : List UInt8} (h : l.getD 0 0 ≠ 0) : need (beN l) = l.length := by
  cases l with
  | nil => exact absurd rfl h
  | cons a r =>
    have ha : a ≠ 0 := h
    have h1 := beN_ge (r := r) ha
    have h2 := need_le (beN_lt (a :: r))
    have h3 : ¬ need (beN (a :: r)) ≤ r.length := fun z => by
      have := need_fit (beN (a :: r))
      have := Nat.lt_of_lt_of_le this (Nat.pow_le_pow_right (by decide) z)
      omega
    rw [List.length_cons] at h2 ⊢
    omega
theorem dec_beN {l : List UInt8} (h : l.getD 0 0 ≠ 0) : dec (beN l) = l := by unfold dec; rw [need_eq h, toBE_beN]
/-- with its check behind it -/
def chk (l : List UInt8) : List UInt8 := (hsh (hsh l)).take 4
theorem chk_len (l : List UInt8) : (chk l).length = 4 := by unfold chk; rw [List.length_take, hsh_len]; decide
def full (l : List UInt8) : List UInt8 := l ++ chk l
theorem full_len (l : List UInt8) : (full l).length = l.length + 4 := by unfold full; rw [List.length_append, chk_len]
theorem full_head {l : List UInt8} (h : l.getD 0 0 ≠ 0) : (full l).getD 0 0 ≠ 0 := by
  cases l with
  | nil => exact absurd rfl h
  | cons a r => exact h
/-- the text of octets -/
def txt (l : List UInt8) : List Nat := text58 (beN (full l))
theorem b58_two {n : Nat} (h : 58 ≤ n) : 2 ≤ (b58 n).length := by
  rw [b58, dif_neg (by omega), b58, dif_neg (by omega)]
  simp
theorem cut_take {α : Type} (l : List α) (k : Nat) : cutL none (some ((k : Nat) : Int)) l = l.take k := by
  unfold cutL
  simp only [Option.elim, List.drop_zero, Nat.sub_zero]
  have : clipAt l.length (k : Int) = min k l.length := by have := clipAt_cast l.length (k : Int); omega
  rw [this]
  by_cases h : k ≤ l.length
  · rw [Nat.min_eq_left h]
  · rw [Nat.min_eq_right (by omega), List.take_of_length_le (Nat.le_refl _), List.take_of_length_le (by omega)]
theorem cut_drop {α : Type} (l : List α) (k : Nat) : cutL (some ((k : Nat) : Int)) none l = l.drop k := by
  unfold cutL
  simp only [Option.elim]
  have : clipAt l.length (k : Int) = min k l.length := by have := clipAt_cast l.length (k : Int); omega
  rw [this, List.take_of_length_le (Nat.le_of_eq (List.length_drop ..))]
  by_cases h : k ≤ l.length
  · rw [Nat.min_eq_left h]
  · rw [Nat.min_eq_right (by omega), List.drop_of_length_le (Nat.le_refl _), List.drop_of_length_le (by omega)]
theorem cut_take0 {α : Type} (l : List α) (k : Nat) : cutL (some 0) (some ((k : Nat) : Int)) l = l.take k := by
  rw [← cut_take]
  unfold cutL
  have : clipAt l.length 0 = 0 := by have := clipAt_cast l.length 0; omega
  simp only [Option.elim, this]
theorem cut_front {α : Type} (a b : List α) (k : Nat) (hk : b.length = k) (h0 : 0 < k) : cutL none (some (-((k : Nat) : Int))) (a ++ b) = a := by
  unfold cutL
  simp only [Option.elim, List.drop_zero, Nat.sub_zero]
  have : clipAt (a ++ b).length (-((k : Nat) : Int)) = a.length := by
    have := clipAt_cast (a ++ b).length (-((k : Nat) : Int))
    rw [if_pos (by omega), List.length_append, hk] at this
    rw [List.length_append, hk]
    omega
  rw [this, List.take_left]
theorem cut_back {α : Type} (a b : List α) (k : Nat) (hk : b.length = k) (h0 : 0 < k) : cutL (some (-((k : Nat) : Int))) none (a ++ b) = b := by
  unfold cutL
  simp only [Option.elim]
  have : clipAt (a ++ b).length (-((k : Nat) : Int)) = a.length := by
    have := clipAt_cast (a ++ b).length (-((k : Nat) : Int))
    rw [if_pos (by omega), List.length_append, hk] at this
    rw [List.length_append, hk]
    omega
  rw [this, List.drop_left, List.length_append]
  exact List.take_of_length_le (by omega)
theorem C_encode_check {w mg mb A s t} {l : List UInt8} (G : Gl w mg mb s.heap) (R : Rm A 20) (hl : l.length ≤ 400) (h0 : l.getD 0 0 ≠ 0) :
    Gives w A (.ref 125) [.bytes l.toArray t] [] (fun v _ => ∃ t', v = .str (tx (txt l)) t') s := by
  refine enterW ["b"] [] [.bytes l.toArray t] G R.less lk125 (defBody (topSt 11)) rfl cd125 fun L s S => ?_
  refine open_body rfl ?_
  refine x_ret <| e_call <| gl S g_encode <| cw_fn' lk111 <| s_more <| e_bin <| ld 0 S <| e_sub <| e_call <| gl S g_double_sha256 <| cw_fn' lk104 <| s_more <| ld 0 S <| s_nil ⟨⟨_, _, S⟩, ?_⟩
  refine use S (C_double S.gl R.deeper.less (by omega)) fun v s S x P => ?_
  obtain ⟨t', rfl⟩ := P
  refine e_cut <| pt_some <| c_int S fun u s S => pt_some <| c_nat 4 S fun u s S => y_cut S (.int _ _) (.int _ _) (by rw [hsh_len]; decide) fun u s S => ?_
  rw [cut_take0]
  refine y_add S (by have := chk_len l; unfold chk at this; rw [this]; omega) fun u s S => s_nil ⟨⟨_, _, S⟩, ?_⟩
  refine use S (C_encode S.gl R.deeper.less (by have := full_len l; unfold full chk at this; rw [this]; omega) (full_head h0)) fun v s S x P => ?_
  obtain ⟨t', rfl⟩ := P
  exact ⟨S.done, t', rfl⟩
theorem C_decode_check {w mg mb A s t} {l : List UInt8} (G : Gl w mg mb s.heap) (R : Rm A 20) (hl : l.length ≤ 400) (h0 : l.getD 0 0 ≠ 0) :
    Gives w A (.ref 132) [.str (tx (txt l)) t] [] (fun v _ => ∃ t', v = .bytes l.toArray t') s := by
  have hf := full_head h0
  have hn0 : beN (full l) ≠ 0 := fun e => by
    have h1 := need_eq hf
    rw [e] at h1
    have h2 := full_len l
    have : need 0 = 0 := by decide
    omega
  have hlt : beN (full l) < 256 ^ 500 := beN_small (by rw [full_len]; omega)
  have h58 : 58 ≤ beN (full l) := by
    have e := full_len l
    cases hl' : full l with
    | nil => rw [hl'] at hf; exact absurd rfl hf
    | cons a r =>
      rw [hl'] at hf e
      have h1 := beN_ge (r := r) (show a ≠ 0 from hf)
      rw [List.length_cons] at e
      have h3 : 256 ^ 1 ≤ 256 ^ r.length := Nat.pow_le_pow_right (by decide) (by omega)
      omega
  refine enterW ["s"] ["b", "checksum"] [.str (tx (txt l)) t] G R.less lk132 (defBody (topSt 12)) rfl cd132 fun L s S => ?_
  refine open_body rfl ?_
  refine x_asg <| e_call <| gl S g_decode <| cw_fn' lk118 <| s_more <| ld 0 S <| s_nil ⟨⟨_, _, S⟩, ?_⟩
  refine use S (C_decode S.gl R.deeper.less hn0 hlt (b58_two h58)) fun v s S x P => ?_
  obtain ⟨t', rfl⟩ := P
  rw [dec_beN hf]
  refine st 1 S fun s S => ?_
  refine x_asg <| e_sub <| e_call <| gl S g_double_sha256 <| cw_fn' lk104 <| s_more <| e_sub <| ld 1 S <| e_cut <| pt_none <| pt_some <| e_neg 4 S fun u s S => ?_
  refine y_cut S .none (.int _ _) (by rw [full_len]; omega) fun u s S => s_nil ⟨⟨_, _, S⟩, ?_⟩
  rw [show cutL none (some (-((4 : Nat) : Int))) (full l) = l from cut_front l (chk l) 4 (chk_len l) (by decide)]
  refine use S (C_double S.gl R.deeper.less (by omega)) fun v s S x P => ?_
  obtain ⟨t'', rfl⟩ := P
  refine e_cut <| pt_none <| pt_some <| c_nat 4 S fun u s S => y_cut S .none (.int _ _) (by rw [hsh_len]; decide) fun u s S => ?_
  rw [cut_take, show (hsh (hsh l)).take 4 = chk l from rfl]
  refine st 2 S fun s S => ?_
  refine x_if <| t_cmp <| e_sub <| ld 1 S <| e_cut <| pt_some <| e_neg 4 S fun u s S => pt_none ?_
  refine y_cut S (.int _ _) .none (by rw [full_len]; omega) fun u s S => ?_
  rw [show cutL (some (-((4 : Nat) : Int))) none (full l) = chk l from cut_back l (chk l) 4 (chk_len l) (by decide)]
  refine ld 2 S ?_
  refine y_ne ?_
  rw [bne_self_eq_false]
  refine t_bool ?_
  refine ite_no (by decide) <| x_nil ?_
  refine x_ret <| e_sub <| ld 1 S <| e_cut <| pt_none <| pt_some <| e_neg 4 S fun u s S => ?_
  refine y_cut S .none (.int _ _) (by rw [full_len]; omega) fun u s S => ?_
  rw [show cutL none (some (-((4 : Nat) : Int))) (full l) = l from cut_front l (chk l) 4 (chk_len l) (by decide)]
  exact ⟨S.done, u, rfl⟩
end Mine
end

section
set_option Elab.async false
set_option maxRecDepth 100000
set_option linter.unusedVariables false
open PySem PySem.W PyProof.Rows PySem.Calls
namespace Mine
open Builtin Builtin.Bytes

theorem no_guard {l : List (Code × Pos)} (h : guardsOf l = []) : ∀ x ∈ l, x.1.isGuard = false := by
  intro x hx
  cases hg : x.1.isGuard with
  | false => rfl
  | true =>
    have : x.1 ∈ guardsOf l := by
      unfold guardsOf
      exact List.mem_filter.mpr ⟨List.mem_map.mpr ⟨x, hx, rfl⟩, hg⟩
    rw [h] at this
    cases this
/-- nobody on a quiet stack holds the bytearray -/
theorem W.notHeld {c : Cx} {A : Around} {E : Value → Shared → Prop} {s : Shared} {self : Value} {Q : Bool → Shared → Prop} (hA : A.guards = some []) (h : Q false s) : W c A (exported self) Q E s := ⟨fun Γ p hΓ q => by
  have hg : guardsOf ((Γ.code, p) :: Γ.below) = [] := by rw [guardsOf_cons]; exact hΓ.2.2.2.1 _ hA
  have ng := no_guard hg
  have qu : ∀ x ∈ (Γ.code, p) :: Γ.below, okc x.1 = true := fun x hx => by
    rcases List.mem_cons.mp hx with rfl | hx
    · exact q.1
    · exact q.2 x hx
  have key : ∀ f : Code × Pos → Bool, (∀ x, okc x.1 = true → x.1.isGuard = false → f x = false) → Q (((Γ.code, p) :: Γ.below).any f) s := fun f hf => by
    have e : ((Γ.code, p) :: Γ.below).any f = false := List.any_eq_false.mpr fun x hx => by rw [hf x (qu x hx) (ng x hx)]; exact Bool.false_ne_true
    rw [e]
    exact h
  unfold exported
  refine key _ fun x h2 h1 => ?_
  obtain ⟨cd, po⟩ := x
  split
  · rename_i e; cases e; exact absurd (show guardIds.contains "bytearray.__contains__" = false from h1) (by decide +kernel)
  · rename_i e; cases e; exact absurd (show guardIds.contains "bytearray.__mod__" = false from h1) (by decide +kernel)
  · rename_i e; cases e; exact absurd (show guardIds.contains "bytearray.__rmod__" = false from h1) (by decide +kernel)
  · rename_i e; cases e; exact absurd (show guardIds.contains "_struct.pack_into.held" = false from h1) (by decide +kernel)
  · rename_i e; cases e; exact absurd (show guardIds.contains "bytearray.find.held" = false from h1) (by decide +kernel)
  · rename_i e
    cases e
    have h2' := h2
    simp only [okc, Bool.not_eq_true'] at h2'
    rw [h2', Bool.and_false]
  · rfl⟩

/-! making a bytearray -/
theorem ba_mro : mroOf (.type "bytearray") = pure [.type "bytearray", .type "object"] := by rw [mroOf_type]; kernel_rfl
theorem ba_look_new : typeLookup (.type "bytearray") "__new__" = pure (some (.builtin "bytearray.__new__")) := by rw [typeLookup_type, builtinLookup_eq_fast]; kernel_rfl
theorem ba_init : Slot "bytearray" "__init__" "bytearray.__init__" :=
  .of (owner := "bytearray") (n := "__init__") (by rw [typeLookup_type, builtinLookup_eq_fast]; kernel_rfl) (by decide +kernel) (by decide +kernel) (by decide +kernel)
    (by first | exact .inl (by decide +kernel) | exact .inr (by decide +kernel)) (by rw [isSubtype_type]; kernel_rfl)
theorem ba_called : TypeCalled "bytearray" "bytearray.__new__" "bytearray.__init__" :=
  ⟨by decide +kernel, by decide +kernel, ⟨_, _, ba_mro⟩, madeBy_type ba_mro ba_look_new (by decide +kernel), by decide +kernel, by rw [isSubtype_type]; kernel_rfl, ba_init⟩
theorem ba_entry_new : entryFor table "bytearray.__new__" = some Builtin.«list.__new__» := entryFor_alias (id' := "list.__new__") (by kernel_rfl) (by decide +kernel) (by decide +kernel) (by kernel_rfl)
theorem ba_entry_init : entryFor table "bytearray.__init__" = some Builtin.«bytearray.__init__» := by first | exact entryFor_of_tree (by kernel_rfl) | exact entryFor_of_fast (by kernel_rfl)
theorem ba_plain_new : plainId "bytearray.__new__" = true := by decide +kernel
theorem ba_plain_init : plainId "bytearray.__init__" = true := by decide +kernel
theorem ba_owner : ("bytearray.__new__".splitOn ".__new__").headD "" = "bytearray" := by rw [split_bytearray]; rfl
theorem ba_type0 : checkTypeCall "bytearray" ⟨[], []⟩ = pure () := by kernel_rfl
theorem ba_type1 (a : Value) : checkTypeCall "bytearray" ⟨[a], []⟩ = pure () := by kernel_rfl
theorem ba_new0 : checkBuiltinCall "bytearray.__new__" ⟨[.type "bytearray"], []⟩ = pure () := by kernel_rfl
theorem ba_new1 (a : Value) : checkBuiltinCall "bytearray.__new__" ⟨[.type "bytearray", a], []⟩ = pure () := by kernel_rfl
theorem ba_sub : isSubtype (.type "bytearray") (.type "bytearray") = pure true := by rw [isSubtype_type]; kernel_rfl
abbrev baObj (b : Array UInt8) : Obj := { cls := .type "bytearray", data := .bytearray b }
theorem code_ba_new {prog : Program} {w : World} {A : Around} {s : Shared} {R : Result → Shared → Prop} {args : List Value} (hc : checkBuiltinCall "bytearray.__new__" ⟨.type "bytearray" :: args, []⟩ = pure ())
    (h : R (.ok (.ret (.ref s.heap.objs.size))) { s with heap := s.heap.push (baObj #[]) }) :
    codeAny (model prog w) A (.call (.builtin "bytearray.__new__") ⟨.type "bytearray" :: args, []⟩) R s := by
  refine codeAny_of_tree ?_
  show wpAny _ A.in1 (do checkBuiltinCall "bytearray.__new__" ⟨.type "bytearray" :: args, []⟩; again (.builtin "bytearray.__new__" ⟨.type "bytearray" :: args, []⟩)) _ _ s
  refine wpAny_bind (wpAny_of_eq hc (wpAny_pure ⟨plainId_quiet ba_plain_new _, codeAny_builtin_stack ba_entry_new rfl fun p st => ?_⟩))
  rw [Around.under_plainId ba_plain_new _]
  have hsub := ba_sub
  have hown := ba_owner
  obtain ⟨hp, g, d, tk, os⟩ := s
  simp only [hown]
  wp_walk
  exact h
end Mine
end

section
set_option Elab.async false
set_option maxRecDepth 100000
set_option linter.unusedVariables false
open PySem PySem.W PyProof.Rows PySem.Calls
namespace Mine
/-- a call of a built-in type; its __init__ may ask the stack -/
theorem callType {c : Cx} {A : Around} {E : Value → Shared → Prop} {s : Shared} {T newId initId : String} {Bi : Builtin} {args : List Value} {Q Q₁ : Value → Shared → Prop} (ft : TypeCalled T newId initId)
    (hct : checkTypeCall T ⟨args, []⟩ = pure ()) (entryI : entryFor table initId = some Bi) (oki : ∀ a, okc (.builtin initId a) = true)
    (hnew : codeAny (model PW c.w) (A.under (.builtin "type.__call__" ⟨.type T :: args, []⟩)) (.call (.builtin newId) ⟨.type T :: args, []⟩) (fun r s' => match r with | .ok (.ret v) => Q₁ v s' | .ok _ => False | .error e => E e s') s)
    (hnext : ∀ obj s₁, Q₁ obj s₁ → s₁.TypeIs obj T ∧
      wpAny (model PW c.w) (A.under (.builtin "type.__call__" ⟨.type T :: args, []⟩)).in1 (checkBuiltinCall initId ⟨obj :: args, []⟩) (fun _ s₂ =>
        W c ((A.under (.builtin "type.__call__" ⟨.type T :: args, []⟩)).under (.builtin initId ⟨obj :: args, []⟩)) (Bi ⟨obj :: args, []⟩) (fun fin s' => fin = .done (.ret .none) ∧ Q obj s') E s₂) E s₁) :
    W c A (PySem.call (.type T) args) Q E s := by
  obtain ⟨mc, tl, hmro⟩ := ft.mro
  refine W.call (codeN.tree rfl fun Γ p hΓ q => ?_)
  refine (show wpN (model PW c.w) (A.under (.call (.type T) ⟨args, []⟩)) (again (.builtin "type.__call__" ⟨.type T :: args, []⟩)) _ _ s from fun Γ p hΓ q => ?_) Γ p hΓ q
  refine ⟨Code.quiet_builtin _ (by decide +kernel), ?_⟩
  refine codeN_builtin (M := model PW c.w) F.entry_type_call (ok_tc _) (W.out (c := c) ?_)
  unfold Builtin.«type.__call__»
  refine W.ite (ite_no (fun z => Bool.noConfusion (ft.notType.symm.trans z)) ?_)
  refine W.ite (ite_no (fun z => Bool.noConfusion (ft.canCreate.symm.trans z)) ?_)
  refine W.bind (m := checkTypeCall T ⟨args, []⟩) ?_
  rw [hct]
  refine W.pure ?_
  refine W.bind (m := mroOf (.type T)) ?_
  rw [hmro]
  refine W.pure ?_
  refine W.ite (ite_no (fun z => by cases z) ?_)
  refine W.bind (m := Bind.madeBy (.type T)) ?_
  rw [ft.made]
  refine W.pure ?_
  refine W.bind (m := pure (Value.builtin newId)) (W.pure ?_)
  refine W.then (P := Q₁) (m := holding [Value.builtin newId] (PySem.call (Value.builtin newId) (.type T :: args) [])) (W.hold (W.call (codeN.of hnew))) fun obj s₁ h₁ => ?_
  obtain ⟨hT, hck⟩ := hnext obj s₁ h₁
  refine W.bind (m := isInstance obj (.type T)) (W.mk (wpAny_isInstance hT ft.sub ?_))
  refine W.ite (ite_no (by decide) ?_)
  refine W.then (P := fun r s' => r = some Value.none ∧ Q obj s') (m := holding [obj] (callSpecial? obj "__init__" args [])) (W.hold ?_) fun r s₃ h₃ => ?_
  · unfold callSpecial?
    refine W.bind (m := specialOf obj "__init__") (W.mk (wpAny_specialOf hT ft.init.lookup ?_))
    refine W.hold (W.bind (m := bindSpecial (.builtin initId) obj) ?_)
    rw [ft.init.bind obj]
    refine W.pure ?_
    show W c _ (PySem.call (.builtin initId) (obj :: args) [] >>= fun v => (Pure.pure (some v) : Sem (Option Value))) _ _ s₁
    refine W.then (P := fun r s' => r = Value.none ∧ Q obj s') (W.call ?_) fun r s' q => W.pure ⟨congrArg some q.1, q.2⟩
    refine codeN_call_builtin (plainId_quiet ft.init.plain _) (wpAny_mono hck (fun _ s₂ h₂ => ?_) fun _ _ q => q)
    refine codeN_builtin (M := model PW c.w) entryI (oki _) (W.out (c := c) (h₂.mono (fun fin s' q => ?_) fun _ _ q => q))
    obtain ⟨rfl, q⟩ := q
    exact ⟨rfl, q⟩
  · obtain ⟨rfl, h₃⟩ := h₃
    exact W.pure h₃
end Mine
end

section
set_option Elab.async false
set_option maxRecDepth 100000
set_option linter.unusedVariables false
open PySem PySem.W PyProof.Rows PySem.Calls
namespace Mine
theorem ba_release : typeLookup (.type "bytearray") "__release_buffer__" = pure (some (.builtin "bytearray.__release_buffer__")) := by rw [typeLookup_type, builtinLookup_eq_fast]; kernel_rfl
theorem by_release : typeLookup (.type "bytes") "__release_buffer__" = pure none := by rw [typeLookup_type, builtinLookup_eq_fast]; kernel_rfl
theorem by_buffer : typeLookup (.type "bytes") "__buffer__" = pure (some (.builtin "bytes.__buffer__")) := by rw [typeLookup_type, builtinLookup_eq_fast]; kernel_rfl
theorem ba_buffer : typeLookup (.type "bytearray") "__buffer__" = pure (some (.builtin "bytearray.__buffer__")) := by rw [typeLookup_type, builtinLookup_eq_fast]; kernel_rfl
theorem by_index : typeLookup (.type "bytes") "__index__" = pure none := by rw [typeLookup_type, builtinLookup_eq_fast]; kernel_rfl
theorem ba_index : typeLookup (.type "bytearray") "__index__" = pure none := by rw [typeLookup_type, builtinLookup_eq_fast]; kernel_rfl
theorem d1 : ("bytearray.__release_buffer__".dropRight ("__release_buffer__".length + 1)) = "bytearray" := by decide +kernel
theorem d2 : ("bytes.__buffer__".dropRight ("__buffer__".length + 1)) = "bytes" := by decide +kernel
theorem d3 : ("bytearray.__buffer__".dropRight ("__buffer__".length + 1)) = "bytearray" := by decide +kernel
theorem e1 : "bytearray.__release_buffer__".endsWith ("." ++ "__release_buffer__") = true := by decide +kernel
theorem e2 : "bytes.__buffer__".endsWith ("." ++ "__buffer__") = true := by decide +kernel
theorem e3 : "bytearray.__buffer__".endsWith ("." ++ "__buffer__") = true := by decide +kernel
theorem by_sub : isSubtype (.type "bytes") (.type "bytes") = pure true := by rw [isSubtype_type]; kernel_rfl
section
variable {c : Cx} {M : Model} {A : Around} {E : Value → Shared → Prop} {s : Shared} {a : Addr} {b d : Array UInt8} {t : Tok}
theorem ba_typeIs (h : s.heap.get? a = some (baObj b)) : s.TypeIs (.ref a) "bytearray" := ⟨_, h, rfl⟩
theorem own_ba {Q : Bool → Shared → Prop} (h : s.heap.get? a = some (baObj b)) (q : Q false s) : wpAny M A (Builtin.Bytes.ownRelease (.ref a)) Q E s := by
  unfold Builtin.Bytes.ownRelease Builtin.Bytes.slotIsOwn
  refine wpAny_bind (wpAny_bind (wpAny_specialOf (ba_typeIs h) ba_release ?_))
  show wpAny M A (if (!("bytearray.__release_buffer__".endsWith ("." ++ "__release_buffer__"))) = true then _ else isInstance (.ref a) (.type ("bytearray.__release_buffer__".dropRight ("__release_buffer__".length + 1)))) _ _ _
  rw [e1, d1]
  exact wpAny_isInstance (ba_typeIs h) ba_sub (wpAny_pure q)
theorem own_by {Q : Bool → Shared → Prop} (q : Q false s) : wpAny M A (Builtin.Bytes.ownRelease (.bytes b t)) Q E s := by
  unfold Builtin.Bytes.ownRelease Builtin.Bytes.slotIsOwn
  exact wpAny_bind (wpAny_bind (wpAny_specialOf (PySem.W.typeIs_bytes s b t) by_release (wpAny_pure (wpAny_pure q))))
theorem buf_by {id : String} {Q : Option (Array UInt8) → Shared → Prop} (q : Q (some b) s) : wpAny M A (Builtin.Bytes.buffer? id (.bytes b t) true) Q E s := by
  unfold Builtin.Bytes.buffer? Builtin.Bytes.slotIsOwn
  refine wpAny_bind (wpAny_specialOf (PySem.W.typeIs_bytes s b t) by_buffer ?_)
  refine wpAny_bind (wpAny_bind (wpAny_specialOf (PySem.W.typeIs_bytes s b t) by_buffer ?_))
  show wpAny M A (if (!("bytes.__buffer__".endsWith ("." ++ "__buffer__"))) = true then _ else isInstance (.bytes b t) (.type ("bytes.__buffer__".dropRight ("__buffer__".length + 1)))) _ _ _
  rw [e2, d2]
  refine wpAny_isInstance (PySem.W.typeIs_bytes s b t) by_sub ?_
  refine wpAny_bind (wpAny_specialOf (PySem.W.typeIs_bytes s b t) by_buffer ?_)
  refine wpAny_bind (own_by ?_)
  exact wpAny_bind (wpAny_pure (wpAny_pure q))
theorem buf_ba {id : String} {full : Bool} {Q : Option (Array UInt8) → Shared → Prop} (h : s.heap.get? a = some (baObj b)) (q : Q (some b) s) : wpAny M A (Builtin.Bytes.buffer? id (.ref a) full) Q E s := by
  unfold Builtin.Bytes.buffer? Builtin.Bytes.slotIsOwn
  refine wpAny_bind (wpAny_specialOf (ba_typeIs h) ba_buffer ?_)
  refine wpAny_bind (wpAny_bind (wpAny_specialOf (ba_typeIs h) ba_buffer ?_))
  show wpAny M A (if (!("bytearray.__buffer__".endsWith ("." ++ "__buffer__"))) = true then _ else isInstance (.ref a) (.type ("bytearray.__buffer__".dropRight ("__buffer__".length + 1)))) _ _ _
  rw [e3, d3]
  refine wpAny_isInstance (ba_typeIs h) ba_sub ?_
  refine wpAny_bind (wpAny_specialOf (ba_typeIs h) ba_buffer ?_)
  refine wpAny_bind (own_ba h ?_)
  refine wpAny_bind ?_
  unfold Builtin.Bytes.payload Builtin.Bytes.payload?
  exact wpAny_bind (wpAny_bind (wpAny_load h (wpAny_pure (wpAny_pure (wpAny_pure q)))))
theorem pay_ba {Q : Array UInt8 → Shared → Prop} (h : s.heap.get? a = some (baObj b)) (q : Q b s) : wpAny M A (Builtin.Bytes.payload (.ref a)) Q E s := by
  unfold Builtin.Bytes.payload Builtin.Bytes.payload?
  exact wpAny_bind (wpAny_bind (wpAny_load h (wpAny_pure (wpAny_pure q))))
theorem wr_ba {f : Array UInt8 → Array UInt8} {Q : Unit → Shared → Prop} (h : s.heap.get? a = some (baObj b)) (hz : (f b).size ≤ 16777216) (q : ∀ h', h'.get? a = some (baObj (f b)) → Heap.SameBut a s.heap h' → Q () { s with heap := h' }) : wpAny M A (Builtin.Bytes.write (.ref a) f) Q E s := by
  unfold Builtin.Bytes.write updateBytearray
  refine wpAny_bind (wpAny_load h ?_)
  have hu : (s.heap.update a (Obj.mapBytearray f)).get? a = some (baObj (f b)) := Heap.get?_update_self _ h rfl
  refine wpAny_bind (wpAny_update h (wpAny_lookBehind hu ?_ (q _ hu (Heap.SameBut.update ..))))
  show (if (f b).size > sizeLine then some "bytearray:memory" else none) = none
  rw [if_neg (by rw [sizeLine_eq]; omega)]
theorem exp_ba {Q : Nat → Shared → Prop} (h : s.heap.get? a = some (baObj b)) (q : Q 0 s) : wpAny M A (Builtin.Bytes.exportsOf (.ref a)) Q E s := by
  unfold Builtin.Bytes.exportsOf
  exact wpAny_bind (wpAny_load h (wpAny_pure q))
theorem W.free {Q : Bool → Shared → Prop} (hA : A.guards = some []) (h : s.heap.get? a = some (baObj b)) (q : Q false s) : W c A (Builtin.Bytes.exported (.ref a) <||> (do return (← Builtin.Bytes.exportsOf (.ref a)) > 0)) Q E s := by
  unfold orM
  refine W.bind (W.notHeld hA ?_)
  show W c A (Builtin.Bytes.exportsOf (.ref a) >>= fun n => (Pure.pure (decide (n > 0)) : Sem Bool)) Q E s
  exact W.mk (wpAny_bind (exp_ba h (wpAny_pure q)))
theorem SameBut.trans' {a : Addr} {h₁ h₂ h₃ : Heap} (x : Heap.SameBut a h₁ h₂) (y : Heap.SameBut a h₂ h₃) : Heap.SameBut a h₁ h₃ := x.trans y
theorem ba_init0 (hA : A.guards = some []) (h : s.heap.get? a = some (baObj b)) {Q : Value → Shared → Prop} (q : ∀ h', h'.get? a = some (baObj #[]) → Heap.SameBut a s.heap h' → Q .none { s with heap := h' }) :
    W c A (Builtin.«bytearray.__init__» ⟨[.ref a], []⟩) (fun fin s' => ∃ v, fin = .done (.ret v) ∧ Q v s') E s := by
  unfold Builtin.«bytearray.__init__»
  refine W.bind (m := Builtin.Bytes.ownRelease (.ref a)) (W.mk (own_ba h ?_))
  refine W.ite (ite_no (by decide) ?_)
  refine W.bind (m := Builtin.Bytes.bindOptional "bytearray.__init__" "bytearray" ["source", "encoding", "errors"] [] []) (W.mk (wpAny_of_eq (a := [none, none, none]) (by kernel_rfl) ?_))
  refine W.bind (W.pure (W.bind (W.pure (W.bind (W.free hA h ?_)))))
  refine W.ite (ite_no (by decide) ?_)
  refine W.bind (W.mk (wr_ba h (by decide) fun h' h1 h2 => ?_))
  exact W.bind (W.pure (W.pure ⟨_, rfl, q h' h1 h2⟩))
theorem ba_init1 (hA : A.guards = some []) (h : s.heap.get? a = some (baObj b)) (hz : d.size ≤ 16777216) {Q : Value → Shared → Prop} (q : ∀ h', h'.get? a = some (baObj d) → Heap.SameBut a s.heap h' → Q .none { s with heap := h' }) :
    W c A (Builtin.«bytearray.__init__» ⟨[.ref a, .bytes d t], []⟩) (fun fin s' => ∃ v, fin = .done (.ret v) ∧ Q v s') E s := by
  unfold Builtin.«bytearray.__init__»
  refine W.bind (m := Builtin.Bytes.ownRelease (.ref a)) (W.mk (own_ba h ?_))
  refine W.ite (ite_no (by decide) ?_)
  refine W.bind (m := Builtin.Bytes.bindOptional "bytearray.__init__" "bytearray" ["source", "encoding", "errors"] [.bytes d t] []) (W.mk (wpAny_of_eq (a := [some (.bytes d t), none, none]) (by kernel_rfl) ?_))
  refine W.bind (W.pure (W.bind (W.pure (W.bind (W.free hA h ?_)))))
  refine W.ite (ite_no (by decide) ?_)
  refine W.bind (W.mk (wr_ba h (by decide) fun h' h1 h2 => ?_))
  refine W.bind (m := asStr? (.bytes d t)) (W.mk (wpAny_of_eq (a := none) rfl ?_))
  refine W.ite (ite_no (by decide) ?_)
  refine W.bind (W.pure ?_)
  refine W.bind (m := specialOf (.bytes d t) "__index__") (W.mk (wpAny_specialOf (PySem.W.typeIs_bytes _ d t) by_index ?_))
  refine W.ite (ite_no (by decide) ?_)
  refine W.bind (m := Builtin.Bytes.buffer? "bytearray.__init__" (.bytes d t) true) (W.mk (buf_by ?_))
  refine W.bind (W.mk (wpAny_rule (W.bind (W.mk (wr_ba (s := { s with heap := h' }) h1 hz fun h'' h3 h4 => ?_)))))
  exact W.pure ⟨_, rfl, q h'' h3 (h2.trans h4)⟩
end
end Mine
end

section
set_option Elab.async false
set_option maxRecDepth 100000
set_option linter.unusedVariables false
open PySem PySem.W PyProof.Rows PySem.Calls
namespace Mine
theorem slice_noindex : typeLookup (.type "slice") "__index__" = pure none := by rw [typeLookup_type, builtinLookup_eq_fast]; kernel_rfl
theorem ba_len : Slot "bytearray" "__len__" "bytearray.__len__" :=
  .of (owner := "bytearray") (n := "__len__") (by rw [typeLookup_type, builtinLookup_eq_fast]; kernel_rfl) (by decide +kernel) (by decide +kernel) (by decide +kernel)
    (by first | exact .inl (by decide +kernel) | exact .inr (by decide +kernel)) (by rw [isSubtype_type]; kernel_rfl)
theorem ba_get : Slot "bytearray" "__getitem__" "bytearray.__getitem__" :=
  .of (owner := "bytearray") (n := "__getitem__") (by rw [typeLookup_type, builtinLookup_eq_fast]; kernel_rfl) (by decide +kernel) (by decide +kernel) (by decide +kernel)
    (by first | exact .inl (by decide +kernel) | exact .inr (by decide +kernel)) (by rw [isSubtype_type]; kernel_rfl)
theorem ba_set : Slot "bytearray" "__setitem__" "bytearray.__setitem__" :=
  .of (owner := "bytearray") (n := "__setitem__") (by rw [typeLookup_type, builtinLookup_eq_fast]; kernel_rfl) (by decide +kernel) (by decide +kernel) (by decide +kernel)
    (by first | exact .inl (by decide +kernel) | exact .inr (by decide +kernel)) (by rw [isSubtype_type]; kernel_rfl)
theorem ba_entry_len : entryFor table "bytearray.__len__" = some Builtin.«bytearray.__len__» := by first | exact entryFor_of_tree (by kernel_rfl) | exact entryFor_of_fast (by kernel_rfl)
theorem ba_entry_get : entryFor table "bytearray.__getitem__" = some Builtin.«bytearray.__getitem__» := by first | exact entryFor_of_tree (by kernel_rfl) | exact entryFor_of_fast (by kernel_rfl)
theorem ba_entry_set : entryFor table "bytearray.__setitem__" = some Builtin.«bytearray.__setitem__» := by first | exact entryFor_of_tree (by kernel_rfl) | exact entryFor_of_fast (by kernel_rfl)
theorem ba_args_init0 (a : Value) : argsOk "bytearray.__init__" ⟨[a], []⟩ := by unfold argsOk; kernel_rfl
theorem ba_args_init1 (a b : Value) : argsOk "bytearray.__init__" ⟨[a, b], []⟩ := by unfold argsOk; kernel_rfl
theorem ba_args_len (a : Value) : argsOk "bytearray.__len__" ⟨[a], []⟩ := by unfold argsOk; kernel_rfl
theorem ba_args_get (a b : Value) : argsOk "bytearray.__getitem__" ⟨[a, b], []⟩ := by unfold argsOk; kernel_rfl
theorem ba_args_set (a b c : Value) : argsOk "bytearray.__setitem__" ⟨[a, b, c], []⟩ := by unfold argsOk; kernel_rfl
theorem ok_init (a : Args) : okc (.builtin "bytearray.__init__" a) = true := by show (!(Builtin.Bytes.decodersThatHold.contains "bytearray.__init__")) = true; decide +kernel
theorem ok_set (a : Args) : okc (.builtin "bytearray.__setitem__" a) = true := by show (!(Builtin.Bytes.decodersThatHold.contains "bytearray.__setitem__")) = true; decide +kernel
section
variable {c : Cx} {A : Around} {E : Value → Shared → Prop} {s : Shared} {m : Str → Option Value} {news : List (Addr × Obj)} {t : Tok}
/-- bytearray() -/
theorem r_ba0 {Q : Value → Shared → Prop} (S : St c m news s) (hA : A.guards = some []) (h : ∀ a s', St c m ((a, baObj #[]) :: news) s' → (∀ p ∈ news, p.1 ≠ a) → (∀ b o, s.heap.get? b = some o → s'.heap.get? b = some o) → Q (.ref a) s') : W c A (call (.type "bytearray") []) Q E s := by
  refine callType (Q₁ := fun v s₁ => v = .ref s.heap.objs.size ∧ s₁ = { s with heap := s.heap.push (baObj #[]) }) ba_called ba_type0 ba_entry_init ok_init (code_ba_new ba_new0 ⟨rfl, rfl⟩) ?_
  rintro obj s₁ ⟨rfl, rfl⟩
  have hb : (s.heap.push (baObj #[])).get? s.heap.objs.size = some (baObj #[]) := Heap.get?_push_size _ rfl
  have hT : ({ s with heap := s.heap.push (baObj #[]) } : Shared).TypeIs (.ref s.heap.objs.size) "bytearray" := ⟨_, hb, rfl⟩
  refine ⟨hT, ba_init.check _ _ _ _ _ _ _ _ hT (ba_args_init0 _) ?_⟩
  have S1 : St c m ((s.heap.objs.size, baObj #[]) :: news) { s with heap := s.heap.push (baObj #[]) } := ⟨S.G, S.F.push _, S.N.push S.F _, S.gens, S.os⟩
  have ap : ∀ p ∈ news, p.1 ≠ s.heap.objs.size := fun p hp => Nat.ne_of_lt (Heap.lt_size (S.N p hp).1)
  refine (ba_init0 (c := c) (A := (A.under (.builtin "type.__call__" ⟨[.type "bytearray"], []⟩)).under (.builtin "bytearray.__init__" ⟨[.ref s.heap.objs.size], []⟩)) (Q := fun v s' => v = .none ∧ Q (.ref s.heap.objs.size) s') hA hb fun h' h1 h2 => ⟨rfl, h _ _ (S1.turn (tk := s.toks) ap (fun b x hb e => (h2.2 b hb).trans e) h1) ap fun b o e => (h2.2 b (Nat.ne_of_lt (Heap.lt_size e))).trans (Heap.get?_push_of_some _ e)⟩).mono (fun fin s' q => ?_) fun _ _ q => q
  obtain ⟨v, rfl, rfl, q⟩ := q
  exact ⟨rfl, q⟩
/-- bytearray(octets) -/
theorem r_ba1 {d : Array UInt8} {Q : Value → Shared → Prop} (S : St c m news s) (hA : A.guards = some []) (hz : d.size ≤ 16777216) (h : ∀ a s', St c m ((a, baObj d) :: news) s' → (∀ p ∈ news, p.1 ≠ a) → (∀ b o, s.heap.get? b = some o → s'.heap.get? b = some o) → Q (.ref a) s') : W c A (call (.type "bytearray") [.bytes d t]) Q E s := by
  refine callType (Q₁ := fun v s₁ => v = .ref s.heap.objs.size ∧ s₁ = { s with heap := s.heap.push (baObj #[]) }) ba_called (ba_type1 _) ba_entry_init ok_init (code_ba_new (ba_new1 _) ⟨rfl, rfl⟩) ?_
  rintro obj s₁ ⟨rfl, rfl⟩
  have hb : (s.heap.push (baObj #[])).get? s.heap.objs.size = some (baObj #[]) := Heap.get?_push_size _ rfl
  have hT : ({ s with heap := s.heap.push (baObj #[]) } : Shared).TypeIs (.ref s.heap.objs.size) "bytearray" := ⟨_, hb, rfl⟩
  refine ⟨hT, ba_init.check _ _ _ _ _ _ _ _ hT (ba_args_init1 _ _) ?_⟩
  have S1 : St c m ((s.heap.objs.size, baObj #[]) :: news) { s with heap := s.heap.push (baObj #[]) } := ⟨S.G, S.F.push _, S.N.push S.F _, S.gens, S.os⟩
  have ap : ∀ p ∈ news, p.1 ≠ s.heap.objs.size := fun p hp => Nat.ne_of_lt (Heap.lt_size (S.N p hp).1)
  refine (ba_init1 (c := c) (t := t) (A := (A.under (.builtin "type.__call__" ⟨[.type "bytearray", .bytes d t], []⟩)).under (.builtin "bytearray.__init__" ⟨[.ref s.heap.objs.size, .bytes d t], []⟩)) (Q := fun v s' => v = .none ∧ Q (.ref s.heap.objs.size) s') hA hb hz fun h' h1 h2 => ⟨rfl, h _ _ (S1.turn (tk := s.toks) ap (fun b x hb e => (h2.2 b hb).trans e) h1) ap fun b o e => (h2.2 b (Nat.ne_of_lt (Heap.lt_size e))).trans (Heap.get?_push_of_some _ e)⟩).mono (fun fin s' q => ?_) fun _ _ q => q
  obtain ⟨v, rfl, rfl, q⟩ := q
  exact ⟨rfl, q⟩
/-- its length -/
theorem r_balen {a : Addr} {d : Array UInt8} {Q : Value → Shared → Prop} (S : St c m news s) (hm : s.heap.get? a = some (baObj d)) (hz : d.size ≤ 16777216) (h : ∀ t s', St c m news s' → s'.heap = s.heap → Q (.int (d.size : Nat) t) s') : W c A (call (.builtin "len") [.ref a]) Q E s := by
  have hT := ba_typeIs hm
  refine W.mk (PyProof.Rows.call_len_slot hT ba_len (fun Q' q => wpAny_call_entry ba_len hT ba_entry_len ?_ (ba_args_len _)) (by omega) (by omega) (h _ _ (S.at rfl rfl rfl) rfl))
  show wpAny _ _ (Builtin.Bytes.payload (.ref a) >>= fun b => retInt b.size) _ _ s
  exact wpAny_bind (pay_ba hm (wpAny_bind (wpAny_mkInt (wpAny_pure ⟨_, rfl, q⟩))))
theorem parts_of {M : Model} {a : Addr} {l u : Value} {lo hi : Option Int} {Q : Value × Value × Value → Shared → Prop} (hs : s.heap.get? a = some { cls := .type "slice", data := .fields #[l, u, .none] }) (hl : IsPart l lo) (hu : IsPart u hi) (q : Q (rawPart lo, rawPart hi, rawPart none) s) :
    wpAny M A (Builtin.Bytes.sliceParts (.ref a)) Q E s := by
  unfold Builtin.Bytes.sliceParts
  refine wpAny_bind (wpAny_field (x := .none) hs rfl rfl ?_)
  refine wpAny_bind (wpAny_pure ?_)
  refine wpAny_ite (ite_no (by decide) ?_)
  refine wpAny_bind (wpAny_field (x := l) hs rfl rfl ?_)
  cases hl with
  | none =>
    refine wpAny_bind (wpAny_pure (wpAny_bind (wpAny_field (x := u) hs rfl rfl ?_)))
    cases hu with
    | none => exact wpAny_bind (wpAny_pure (wpAny_pure q))
    | int i t => exact wpAny_bind (wpAny_bind (wpAny_specialOf (typeIs_int _ _ _) PySem.F.slot_int_index.lookup (wpAny_bind (wpAny_of_eq (a := i) rfl (wpAny_pure (wpAny_pure q))))))
  | int i t =>
    refine wpAny_bind (wpAny_bind (wpAny_specialOf (typeIs_int _ _ _) PySem.F.slot_int_index.lookup (wpAny_bind (wpAny_of_eq (a := i) rfl (wpAny_pure ?_)))))
    refine wpAny_bind (wpAny_field (x := u) hs rfl rfl ?_)
    cases hu with
    | none => exact wpAny_bind (wpAny_pure (wpAny_pure q))
    | int j t => exact wpAny_bind (wpAny_bind (wpAny_specialOf (typeIs_int _ _ _) PySem.F.slot_int_index.lookup (wpAny_bind (wpAny_of_eq (a := j) rfl (wpAny_pure (wpAny_pure q))))))
end
end Mine
end

section
set_option Elab.async false
set_option maxRecDepth 100000
set_option linter.unusedVariables false
open PySem PySem.W PyProof.Rows PySem.Calls
namespace Mine
theorem ba_bytes : typeLookup (.type "bytearray") "__bytes__" = pure none := by rw [typeLookup_type, builtinLookup_eq_fast]; kernel_rfl
abbrev slObj (l r : Value) : Obj := { cls := .type "slice", data := .fields #[l, r, .none] }
section
variable {c : Cx} {A : Around} {E : Value → Shared → Prop} {s : Shared} {m : Str → Option Value} {news : List (Addr × Obj)} {t : Tok}
theorem slice_typeIs {a : Addr} {l r : Value} (h : s.heap.get? a = some (slObj l r)) : s.TypeIs (.ref a) "slice" := ⟨_, h, rfl⟩
theorem sub_slice {M : Model} {a : Addr} {l r : Value} {Q : Option Int → Shared → Prop} (h : s.heap.get? a = some (slObj l r)) (q : Q none s) : wpAny M A (Builtin.Bytes.subscript? (.ref a)) Q E s := by
  unfold Builtin.Bytes.subscript?
  exact wpAny_bind (wpAny_specialOf (slice_typeIs h) slice_noindex (wpAny_pure q))
theorem get_tree {M : Model} {a i : Addr} {d : List UInt8} {l r : Value} {lo hi : Option Int} {Q : Value → Shared → Prop} (ha : s.heap.get? a = some (baObj d.toArray)) (hs : s.heap.get? i = some (slObj l r)) (hl : IsPart l lo) (hu : IsPart r hi) (hz : d.length ≤ 16777216)
    (q : Q (.ref s.heap.objs.size) { s with heap := s.heap.push (baObj (cutL lo hi d).toArray) }) :
    wpAny M A (Builtin.«bytearray.__getitem__» ⟨[.ref a, .ref i], []⟩) (fun fin s' => ∃ v, fin = .done (.ret v) ∧ Q v s') E s := by
  have e : Builtin.Bytes.sliced d.toArray (sliceBounds lo hi none d.toArray.size).1 (sliceBounds lo hi none d.toArray.size).2.1 (sliceBounds lo hi none d.toArray.size).2.2 = (cutL lo hi d).toArray := by
    unfold Builtin.Bytes.sliced
    rw [sliceBounds_plain]
    simp only [sliceRange_one, pick_run, List.size_toArray]
    rfl
  unfold Builtin.«bytearray.__getitem__»
  refine wpAny_bind (m := slotArgs "__getitem__" 1 ⟨[.ref a, .ref i], []⟩) (wpAny_of_eq (a := (.ref a, [.ref i])) rfl ?_)
  refine wpAny_bind (m := Builtin.Bytes.subscript? (.ref i)) (sub_slice hs ?_)
  refine wpAny_bind (m := typeOf (.ref i)) (wpAny_typeOf (slice_typeIs hs) ?_)
  refine wpAny_ite (ite_no (by decide) ?_)
  refine wpAny_bind (m := Builtin.Bytes.sliceParts (.ref i)) (parts_of hs hl hu ?_)
  refine wpAny_bind (m := Builtin.Bytes.payload (.ref a)) (pay_ba ha ?_)
  refine wpAny_bind (m := sliceIndices (rawPart lo) (rawPart hi) (rawPart none) d.toArray.size) (wpAny_of_eq (sliceIndices_raw lo hi none d.toArray.size (fun e => nomatch e)) ?_)
  show wpAny M A (Builtin.Bytes.newBytearray (Builtin.Bytes.sliced d.toArray (sliceBounds lo hi none d.toArray.size).1 (sliceBounds lo hi none d.toArray.size).2.1 (sliceBounds lo hi none d.toArray.size).2.2) >>= fun v => ret v) _ _ s
  rw [e]
  unfold Builtin.Bytes.newBytearray
  refine wpAny_bind (wpAny_newObj_type (wpAny_pure ⟨_, rfl, q⟩) ?_)
  show (cutL lo hi d).toArray.size ≤ sizeLine
  rw [List.size_toArray, sizeLine_eq]
  exact Nat.le_trans (cutL_len lo hi d) hz
theorem tail_item {prog : Program} {w : World} {value slice : Expr} {o i : Value} {ops : List Value} {Q : Value → Shared → Prop} (h : ItemOn (model prog w) A E o i Q s)
    (hs : subscripted slice false o i = operate ops (getItem o i)) : wpAny (model prog w) A (subscriptTail value slice o i) Q E s := by
  obtain ⟨T, id, hl, hT, hg⟩ := h
  unfold subscriptTail
  refine wpAny_bind ?_
  rw [getitemInPython_of_ne hT.not_modules]
  refine wpAny_bind (wpAny_specialOf hT hl ?_)
  have fin : wpAny (model prog w) A (subscripted slice false o i) (fun r s₃ => wpAny (model prog w) A (letTemporaryGo value o r >>= fun _ => pure r) Q E s₃) E s := by
    rw [hs]
    exact wpAny_operating (wpAny_mono hg (fun r s₃ h₃ => wpAny_bind (wpAny_letTemporaryGo (wpAny_pure h₃))) fun _ _ x => x)
  first
    | exact wpAny_pure (wpAny_bind fin)
    | exact wpAny_bind (wpAny_pure (wpAny_bind fin))
    | exact wpAny_bind fin
theorem r_bacut {a : Addr} {d : List UInt8} {l r : Value} {lo hi : Option Int} {value slice : Expr} {ops : List Value} {Q : Value → Shared → Prop} (S : St c m news s) (ha : s.heap.get? a = some (baObj d.toArray)) (hl : IsPart l lo) (hu : IsPart r hi) (hz : d.length ≤ 16777216)
    (h : ∀ x s', St c m ((x, baObj (cutL lo hi d).toArray) :: news) s' → (∀ p ∈ news, p.1 ≠ x) → (∀ b o, s.heap.get? b = some o → s'.heap.get? b = some o) → Q (.ref x) s')
    (hs : subscripted slice false (.ref a) (.ref s.heap.objs.size) = operate ops (getItem (.ref a) (.ref s.heap.objs.size)) := by with_unfolding_all rfl) :
    W c A (subscriptTail value slice (.ref a) (.ref s.heap.objs.size)) Q E { s with heap := s.heap.push (slObj l r) } := by
  have S1 : St c m news { s with heap := s.heap.push (slObj l r) } := S.push
  have ha1 : (s.heap.push (slObj l r)).get? a = some (baObj d.toArray) := Heap.get?_push_of_some _ ha
  have hs1 : (s.heap.push (slObj l r)).get? s.heap.objs.size = some (slObj l r) := Heap.get?_push_size _ rfl
  have hT : ({ s with heap := s.heap.push (slObj l r) } : Shared).TypeIs (.ref a) "bytearray" := ⟨_, ha1, rfl⟩
  refine W.mk (tail_item ⟨"bytearray", _, ba_get.lookup, hT, PyProof.Rows.getItem_slot hT (by decide) ba_get (wpAny_call_entry ba_get hT ba_entry_get (get_tree (s := { s with heap := s.heap.push (slObj l r) }) ha1 hs1 hl hu hz ?_) (ba_args_get _ _))⟩ hs)
  exact h _ _ ⟨S1.G, S1.F.push _, S1.N.push S1.F _, S1.gens, S1.os⟩ (fun p hp => Nat.ne_of_lt (Heap.lt_size (S1.N p hp).1)) fun b o e => Heap.get?_push_of_some _ (Heap.get?_push_of_some _ e)
end
end Mine
end

section
set_option Elab.async false
set_option maxRecDepth 100000
set_option linter.unusedVariables false
open PySem PySem.W PyProof.Rows PySem.Calls
namespace Mine
section
variable {c : Cx} {A : Around} {E : Value → Shared → Prop} {s : Shared} {m : Str → Option Value} {news : List (Addr × Obj)} {t : Tok}
theorem bynew_tree {M : Model} {a : Addr} {d : Array UInt8} {Q : Value → Shared → Prop} (ha : s.heap.get? a = some (baObj d)) (hz : d.size ≤ 16777216) (q : ∀ t k, Q (.bytes d t) { s with toks := k }) :
    wpAny M A (Builtin.«bytes.__new__» ⟨[.type "bytes", .ref a], []⟩) (fun fin s' => ∃ v, fin = .done (.ret v) ∧ Q v s') E s := by
  have hT := ba_typeIs ha
  unfold Builtin.«bytes.__new__»
  refine wpAny_bind (wpAny_of_eq (a := true) rfl ?_)
  refine bm_if_false rfl ?_
  refine wpAny_bind (wpAny_of_eq PySem.F.bm_sub ?_)
  refine bm_if_false rfl ?_
  refine wpAny_bind (wpAny_of_eq (PySem.F.bm_bind _) ?_)
  refine wpAny_bind (wpAny_of_eq (a := ()) rfl ?_)
  refine wpAny_bind (wpAny_of_eq (a := ()) rfl ?_)
  refine bm_if_false rfl ?_
  refine wpAny_bind (wpAny_specialOf hT ba_bytes ?_)
  refine wpAny_bind (wpAny_bind ?_)
  show wpAny _ _ (load a >>= _) _ _ _
  refine wpAny_bind (wpAny_load ha ?_)
  refine wpAny_pure (wpAny_pure ?_)
  refine bm_if_false rfl ?_
  refine wpAny_bind (wpAny_specialOf hT ba_index ?_)
  refine bm_if_true rfl ?_
  first
    | show wpAny _ _ (Builtin.Bytes.buffer? "bytes.__new__" (.ref a) true >>= _) _ _ _
    | (refine wpAny_bind ?_; show wpAny _ _ (Builtin.Bytes.buffer? "bytes.__new__" (.ref a) true >>= _) _ _ _)
  refine wpAny_bind (m := Builtin.Bytes.buffer? "bytes.__new__" (.ref a) true) (buf_ba ha ?_)
  refine wpAny_bind (wpAny_rule (wpAny_bind (wpAny_mkBytes ?_ (by rw [sizeLine_eq]; exact hz))))
  first
    | exact wpAny_pure ⟨_, rfl, q _ _⟩
    | exact wpAny_pure (wpAny_pure ⟨_, rfl, q _ _⟩)
    | exact wpAny_bind (wpAny_pure (wpAny_pure (wpAny_pure ⟨_, rfl, q _ _⟩)))
    | exact wpAny_bind (wpAny_pure (wpAny_pure ⟨_, rfl, q _ _⟩))
theorem r_bybytes {a : Addr} {d : List UInt8} {Q : Value → Shared → Prop} (S : St c m news s) (ha : s.heap.get? a = some (baObj d.toArray)) (hz : d.length ≤ 16777216) (h : ∀ t s', St c m news s' → s'.heap = s.heap → Q (.bytes d.toArray t) s') : W c A (call (.type "bytes") [.ref a]) Q E s := by
  refine W.mk (callType_codes (Q₁ := fun obj s₁ => s₁.TypeIs obj "bytes" ∧ Q obj s₁) PySem.F.bm_called (PySem.F.bm_typeCall _) PySem.F.entry_object_init ?_ fun obj s₁ h₁ => ?_)
  · refine codeAny_of_tree ?_
    show wpAny _ _ (do checkBuiltinCall "bytes.__new__" ⟨[.type "bytes", .ref a], []⟩; again (.builtin "bytes.__new__" ⟨[.type "bytes", .ref a], []⟩)) _ _ s
    refine wpAny_bind (wpAny_of_eq (PySem.F.bm_newCall _) (wpAny_pure ⟨plainId_quiet PySem.F.bm_plain _, codeAny_builtin PySem.F.bm_entry ?_⟩))
    refine wpAny_mono (bynew_tree (Q := fun obj s₁ => s₁.TypeIs obj "bytes" ∧ Q obj s₁) ha (by rw [List.size_toArray]; exact hz) fun t k => ⟨PySem.W.typeIs_bytes _ _ _, h _ _ (S.at rfl rfl rfl) rfl⟩) (fun fin s' q => ?_) fun _ _ q => q
    obtain ⟨v, rfl, q⟩ := q
    exact q
  · exact ⟨h₁.1, PySem.F.args_object_init_2 obj _, object_init_meets PySem.F.bm_called.init.lookup PySem.F.bm_called.made (by decide) PW c.w A.in1 _ s₁ ⟨h₁.1, rfl, h₁.2⟩⟩
end
end Mine
end

section
set_option Elab.async false
set_option maxRecDepth 100000
set_option linter.unusedVariables false
open PySem PySem.W PyProof.Rows PySem.Calls
namespace Mine
theorem by_notba : isSubtype (.type "bytes") (.type "bytearray") = pure false := by rw [isSubtype_type]; kernel_rfl
theorem by_notcx : isSubtype (.type "bytes") (.type "complex") = pure false := by rw [isSubtype_type]; kernel_rfl
theorem by_int : typeLookup (.type "bytes") "__int__" = pure none := by rw [typeLookup_type, builtinLookup_eq_fast]; kernel_rfl
theorem by_float : typeLookup (.type "bytes") "__float__" = pure none := by rw [typeLookup_type, builtinLookup_eq_fast]; kernel_rfl
section
variable {c : Cx} {A : Around} {E : Value → Shared → Prop} {s : Shared} {m : Str → Option Value} {nw : List (Addr × Obj)} {t : Tok} {env : Env}
theorem x_seti {o i : Expr} {p pos : Pos} {value : Expr} {rest : List Stmt} {Q : Flow → Shared → Prop}
    (h : W c A (eval value env) (fun v s₁ => W c A (eval o env) (fun ov s₂ => W c A (eval i env) (fun iv s₃ => W c A (setItem ov iv v) (fun _ s₄ => W c A (execs rest env) Q E s₄) E s₃) E s₂) E s₁) E s)
    (hs : swapsWith value (some (.Subscript o i p)) pos.line env = pure false := by rfl) : W c A (execs (.Assign [.Subscript o i p] value pos :: rest) env) Q E s := by
  refine x_cons ?_
  rw [exec_Assign_Subscript o i p value pos hs]
  refine W.stand (W.then h fun v s₁ h => W.then (P := fun _ s₄ => W c A (execs rest env) Q E s₄) ?_ fun _ s₄ q => W.pure q)
  rw [assign_Subscript]
  exact W.then (W.hold h) fun ov s₂ h => W.then (W.hold h) fun iv s₃ h => W.stand (W.then (W.hold h) fun _ s₄ h => W.mk (wpAny_release' h))
theorem W.orFalse {x y : Sem Bool} {Q : Bool → Shared → Prop} (h : W c A x (fun b s₁ => b = false ∧ W c A y Q E s₁) E s) : W c A (x <||> y) Q E s := by
  unfold orM
  refine W.then h fun b s₁ h => ?_
  obtain ⟨rfl, h⟩ := h
  exact h
theorem hasNo {d : List UInt8} {name : Str} {Q : Bool → Shared → Prop} (h : typeLookup (.type "bytes") name = pure none) (q : Q false s) : W c A (do return (← specialOf (.bytes d.toArray t) name).isSome) Q E s :=
  W.mk (wpAny_bind (wpAny_specialOf (PySem.W.typeIs_bytes _ _ _) h (wpAny_pure q)))
theorem set_tree {a i : Addr} {b d : List UInt8} {l r : Value} {ti tj : Tok} {Q : Value → Shared → Prop} (S : St c m ((a, baObj b.toArray) :: nw) s) (hn : ∀ p ∈ nw, p.1 ≠ a) (hA : A.guards = some [])
    (hs : s.heap.get? i = some (slObj (.int ((b.length : Nat) : Int) ti) (.int ((b.length + d.length : Nat) : Int) tj))) (hz : b.length + d.length ≤ 16777216)
    (h : ∀ s', St c m ((a, baObj (b ++ d).toArray) :: nw) s' → Q .none s') :
    W c A (Builtin.«bytearray.__setitem__» ⟨[.ref a, .ref i, .bytes d.toArray t], []⟩) (fun fin s' => ∃ v, fin = .done (.ret v) ∧ Q v s') E s := by
  have ha := (S.N _ (.head _)).1
  unfold Builtin.«bytearray.__setitem__»
  refine W.bind (m := Builtin.Bytes.subscript? (.ref i)) (W.mk (sub_slice hs ?_))
  refine W.bind (m := typeOf (.ref i)) (W.mk (wpAny_typeOf (slice_typeIs hs) ?_))
  refine W.ite (ite_no (by decide) ?_)
  refine W.bind (m := Builtin.Bytes.sliceParts (.ref i)) (W.mk (parts_of hs (.int _ _) (.int _ _) ?_))
  refine W.bind (m := isInstance (.bytes d.toArray t) (.type "bytearray")) (W.mk (wpAny_isInstance (PySem.W.typeIs_bytes _ _ _) by_notba ?_))
  refine W.ite (ite_yes rfl ?_)
  refine W.bind (W.orFalse (hasNo by_index ⟨rfl, W.orFalse (hasNo by_int ⟨rfl, W.orFalse (hasNo by_float ⟨rfl, W.mk (wpAny_isInstance (PySem.W.typeIs_bytes _ _ _) by_notcx ?_)⟩)⟩)⟩))
  refine W.bind (m := asStr? (.bytes d.toArray t)) (W.mk (wpAny_of_eq (a := none) rfl ?_))
  refine W.ite (ite_no (by decide) ?_)
  refine W.bind (W.mk (wpAny_rule (W.bind (m := PySem.call (.type "bytearray") [.bytes d.toArray t]) (r_ba1 S hA (by rw [List.size_toArray]; omega) fun x s1 S1 ap k1 => ?_))))
  have hs1 := k1 _ _ hs
  have hx1 := (S1.N _ (.head _)).1
  have ha1 := (S1.N _ (.tail _ (.head _))).1
  refine W.bind (m := holding [.ref x] (Builtin.Bytes.sliceParts (.ref i))) (W.hold (W.mk (parts_of hs1 (.int _ _) (.int _ _) ?_)))
  refine W.bind (m := Builtin.Bytes.payload (.ref x)) (W.mk (pay_ba hx1 ?_))
  refine W.bind (m := Builtin.Bytes.payload (.ref a)) (W.mk (pay_ba ha1 ?_))
  have eb : sliceBounds (some ((b.length : Nat) : Int)) (some ((b.length + d.length : Nat) : Int)) none b.toArray.size = (((b.length : Nat) : Int), ((b.length : Nat) : Int), 1) := by
    rw [sliceBounds_plain]
    have h1 := clipAt_cast b.toArray.size ((b.length : Nat) : Int)
    have h2 := clipAt_cast b.toArray.size ((b.length + d.length : Nat) : Int)
    rw [if_neg (by omega), List.size_toArray] at h1 h2
    simp only [Option.elim, List.size_toArray, Prod.mk.injEq, and_true]
    omega
  refine W.bind (m := sliceIndices (rawPart (some ((b.length : Nat) : Int))) (rawPart (some ((b.length + d.length : Nat) : Int))) (rawPart none) b.toArray.size) (W.mk (wpAny_of_eq (sliceIndices_raw (some ((b.length : Nat) : Int)) (some ((b.length + d.length : Nat) : Int)) none b.toArray.size (fun e => nomatch e)) ?_))
  rw [eb]
  refine W.ite (ite_yes rfl ?_)
  have fin : W c A (do Builtin.Bytes.write (.ref a) (fun z => z.extract 0 ((b.length : Nat) : Int).toNat ++ d.toArray ++ z.extract (max ((b.length : Nat) : Int) ((b.length : Nat) : Int)).toNat z.size); ret .none) (fun fin s' => ∃ v, fin = .done (.ret v) ∧ Q v s') E s1 := by
    have e : (b.toArray.extract 0 ((b.length : Nat) : Int).toNat ++ d.toArray ++ b.toArray.extract (max ((b.length : Nat) : Int) ((b.length : Nat) : Int)).toNat b.toArray.size) = (b ++ d).toArray := by
      rw [Int.max_self, Int.toNat_natCast]
      simp
    have S2 : St c m ((a, baObj b.toArray) :: nw) s1 := S1.drop
    refine W.bind (W.mk (wr_ba ha1 (by rw [e, List.size_toArray, List.length_append]; exact hz) fun h' h1 h2 => W.pure ⟨_, rfl, ?_⟩))
    rw [e] at h1
    exact h _ (S2.turn (tk := s1.toks) hn (fun y o hy e => (h2.2 y hy).trans e) h1)
  refine W.bind (W.mk (wpAny_rule (W.ite (ite_two (fun _ => ?_) fun _ => fin))))
  refine W.bind ?_
  unfold Builtin.Bytes.checkResize
  exact W.bind (W.free hA ha1 (W.ite (ite_no (by decide) (W.pure fin))))
theorem r_set {a i : Addr} {b d : List UInt8} {ti tj : Tok} {Q : Unit → Shared → Prop} (S : St c m ((a, baObj b.toArray) :: nw) s) (hn : ∀ p ∈ nw, p.1 ≠ a) (hA : A.guards = some [])
    (hs : s.heap.get? i = some (slObj (.int ((b.length : Nat) : Int) ti) (.int ((b.length + d.length : Nat) : Int) tj))) (hz : b.length + d.length ≤ 16777216)
    (h : ∀ s', St c m ((a, baObj (b ++ d).toArray) :: nw) s' → Q () s') : W c A (setItem (.ref a) (.ref i) (.bytes d.toArray t)) Q E s := by
  have hT := ba_typeIs (S.N _ (.head _)).1
  unfold setItem
  refine W.hold (W.bind (m := sequenceKey (.ref a) (.ref i) "__setitem__") (W.mk (wpAny_sequenceKey hT (by decide) ?_)))
  refine W.then (P := fun r s' => r = some Value.none ∧ Q () s') (m := callSpecial? (.ref a) "__setitem__" [.ref i, .bytes d.toArray t]) ?_ fun r s' q => by obtain ⟨rfl, q⟩ := q; exact W.pure q
  unfold callSpecial?
  refine W.bind (m := specialOf (.ref a) "__setitem__") (W.mk (wpAny_specialOf hT ba_set.lookup ?_))
  refine W.hold (W.bind (m := bindSpecial (.builtin "bytearray.__setitem__") (.ref a)) ?_)
  rw [ba_set.bind (.ref a)]
  refine W.pure ?_
  show W c _ (PySem.call (.builtin "bytearray.__setitem__") [.ref a, .ref i, .bytes d.toArray t] [] >>= fun v => (Pure.pure (some v) : Sem (Option Value))) _ _ s
  refine W.then (P := fun r s' => r = Value.none ∧ Q () s') (W.call ?_) fun r s' q => W.pure ⟨congrArg some q.1, q.2⟩
  refine codeN_call_builtin (plainId_quiet ba_set.plain _) (ba_set.check _ _ _ _ _ _ _ _ hT (ba_args_set _ _ _) ?_)
  refine codeN_builtin (M := model PW c.w) ba_entry_set (ok_set _) (W.out (c := c) ((set_tree (A := A.under (.builtin "bytearray.__setitem__" ⟨[.ref a, .ref i, .bytes d.toArray t], []⟩)) (l := .none) (r := .none) (Q := fun v s' => v = .none ∧ Q () s') S hn ?_ hs hz fun s' S' => ⟨rfl, h s' S'⟩).mono (fun fin s' q => ?_) fun _ _ q => q))
  · rw [Around.under_plainId ba_set.plain _]; exact hA
  · obtain ⟨v, rfl, q⟩ := q
    exact q
end
end Mine
end

section
set_option Elab.async false
set_option maxRecDepth 100000
set_option linter.unusedVariables false
open PySem PySem.W PyProof.Rows PySem.Calls
namespace Mine
abbrev tupObj (vs : List Value) : Obj := { cls := .type "tuple", data := .seq vs.toArray }
/-- entering a def with *args and **kwargs -/
theorem enterS {w : World} {mg mb : Str → Option Value} {A : Around} {s : Shared} {g : Heap} {f : Addr} {fd : FuncData} {od : Option Addr} {pos : List Value} {Q : Result → Shared → Prop} {news : List (Addr × Obj)}
    (ps ls : List Str) (va kwa : Str) (vs rest : List Value)
    (G : Gl w mg mb g) (sub : ∀ b o, g.get? b = some o → s.heap.get? b = some o) (hsz : g.objs.size ≤ s.heap.objs.size) (N : ∀ p ∈ news, s.heap.get? p.1 = some p.2 ∧ g.get? p.1 = none)
    (R : Rm A 1) (ho : ∀ P, (KF P).lookup f = some (fnO fd od)) (body : List Stmt) (hb : fd.body = .stmts body)
    (hcd : ∀ P, codeIn (KF P) fd.code fd.qualname = true)
    (h : ∀ L s' t d, d ≠ sysModules → s.heap.objs.size ≤ L → (∀ b o, s.heap.get? b = some o → s'.heap.get? b = some o) → St ⟨w, mg, mb, g, L, s.gens, s.os⟩ (look (ps ++ [va, kwa] ++ ls) (vs.map some ++ [some (.ref t), some (.ref d)] ++ ls.map fun _ => none)) ((t, tupObj rest) :: (d, emptyDict) :: news) s' →
      W ⟨w, mg, mb, g, L, s.gens, s.os⟩ (A.deeper (callEnv fd L f)) (execs body (callEnv fd L f)) (fun fl s'' => Q (.ok (.ret (match fl with | .ret v => v | _ => .none))) s'')
        (fun e s' => wpAny (model PW w) (A.deeper (callEnv fd L f)) (leaving (callEnv fd L f) e) (fun _ s'' => Q (.error e) s'') (fun e' s'' => Q (.error e') s'') s') s')
    (hbind : bindArgs fd ⟨pos, []⟩ = (do let t ← newTuple rest; let d ← alloc emptyDict; pure (ps.zip vs ++ [(va, t), (kwa, .ref d)])) := by kernel_rfl) (hrest : rest.length ≤ 1000 := by decide) (hlen : ps.length = vs.length := by rfl) (hnd : (ps ++ [va, kwa]).Nodup := by decide) (hpl : fnPlain fd = true := by kernel_rfl) (hloc : bindsLocal fd.scope (ps ++ [va, kwa]) = true := by kernel_rfl) :
    codeN (model PW w) A (.call (.ref f) ⟨pos, []⟩) Q s := by
  simp only [fnPlain, noCells, Bool.and_eq_true, List.all_eq_true, decide_eq_true_eq, Bool.not_eq_true'] at hpl
  obtain ⟨⟨⟨p1, p2⟩, p3⟩, p4⟩ := hpl
  have K := G.K.keeps sub
  have hcr := codeRec_of K (hcd w.params)
  have hroom : A.depth < recursionLimit := by have := R.depth; omega
  refine codeN.tree rfl fun Γ p hΓ _ => ?_
  refine (show wpAny (model PW w) A.in1 (callAny (.ref f) ⟨pos, []⟩) (fun fin s' => match fin with | .done f => Q (.ok f) s' | .again c' => c'.quiet = true ∧ codeN (model PW w) A c' Q s') (fun e s' => Q (.error e) s') s from ?_) Γ p hΓ
  simp only [callAny]
  refine wpAny_bind (wpAny_load (K _ _ (ho _)) ?_)
  obtain ⟨c, oc, qs, tq, hc, hoc, hdc, hq⟩ := hcr
  simp only [fnO, callFunction, p2, p3, hb, hc]
  refine wpAny_bind (m := field (.ref c) 1) (wpAny_field hoc hdc hq (wpAny_bind (wpAny_pure ?_)))
  rw [hbind]
  refine wpAny_bind (wpAny_bind (wpAny_newTuple (wpAny_bind (wpAny_alloc (wpAny_pure ?_)))))
  have sz : (s.heap.push (tupObj rest)).objs.size = s.heap.objs.size + 1 := Heap.size_push _ _
  let h2 := (s.heap.push (tupObj rest)).push emptyDict
  have k2 : ∀ b o, s.heap.get? b = some o → h2.get? b = some o := fun b o e => Heap.get?_push_of_some _ (Heap.get?_push_of_some _ e)
  have ht : h2.get? s.heap.objs.size = some (tupObj rest) := Heap.get?_push_of_some _ (Heap.get?_push_size _ rfl)
  have hd : h2.get? (s.heap.objs.size + 1) = some emptyDict := by rw [← sz]; exact Heap.get?_push_size _ rfl
  have lim : h2.NoLimit := G.nolimit.keeps fun b o e => k2 b o (sub b o e)
  have hlen2 : (ps ++ [va, kwa]).length = (vs ++ [Value.ref s.heap.objs.size, .ref (s.heap.objs.size + 1)]).length := by simp [hlen]
  have hzip : ps.zip vs ++ [(va, Value.ref s.heap.objs.size), (kwa, .ref (s.heap.objs.size + 1))] = (ps ++ [va, kwa]).zip (vs ++ [Value.ref s.heap.objs.size, .ref (s.heap.objs.size + 1)]) := by
    rw [List.zip_append hlen]; rfl
  have e1 : (s.heap.push (tupObj rest)).objs.size = s.heap.objs.size + 1 := sz
  refine wpAny_bind (wpAny_mono (Q := fun env s₂ => s₂.heap.NoLimit ∧ codeN (model PW w) A (.func body env) Q s₂) ?_ (fun env s₂ h₂ => wpAny_bind (wpAny_enterFrame h₂.1 hroom (wpAny_pure (And.intro rfl h₂.2)))) fun _ _ q => q)
  show wpAny (model PW w) A.in1 (newFunctionEnv fd.scope fd.globals fd.closure (ps.zip vs ++ [(va, Value.ref s.heap.objs.size), (kwa, .ref (s.heap.push (tupObj rest)).objs.size)]) (fd.qualname ++ ".<locals>.") (some f) (.ref c) none fd.builtins) _ _ { s with heap := h2 }
  rw [e1, hzip]
  refine wpAny_newFunctionEnv p1 (fun x hx => ?_) (fun h₀ hns hsb => ⟨lim.fresh _ hsb, ?_⟩) p4
  · have hx1 : x.1 ∈ ps ++ [va, kwa] := (List.of_mem_zip (show (x.1, x.2) ∈ _ from hx)).1
    have := List.all_eq_true.mp hloc x.1 hx1
    simpa using this
  · have k3 : ∀ b o, h2.get? b = some o → h₀.get? b = some o := fun b o e => hsb.extBut b o (Nat.ne_of_lt (Heap.lt_size e)) (Heap.get?_push_of_some _ e)
    have hL : s.heap.objs.size ≤ h2.objs.size := by
      show s.heap.objs.size ≤ ((s.heap.push (tupObj rest)).push emptyDict).objs.size
      rw [Heap.size_push, Heap.size_push]
      exact Nat.le_add_right _ 2
    have hns' : h₀.Ns h2.objs.size (look (ps ++ [va, kwa] ++ ls) (vs.map some ++ [some (.ref s.heap.objs.size), some (.ref (s.heap.objs.size + 1))] ++ ls.map fun _ => none)) := by
      have e : (look (ps ++ [va, kwa] ++ ls) (vs.map some ++ [some (Value.ref s.heap.objs.size), some (.ref (s.heap.objs.size + 1))] ++ ls.map fun _ => none)) = fun x => ((ps ++ [va, kwa]).zip (vs ++ [Value.ref s.heap.objs.size, .ref (s.heap.objs.size + 1)])).reverse.lookup x := by
        funext x
        have e2 : vs.map some ++ [some (Value.ref s.heap.objs.size), some (.ref (s.heap.objs.size + 1))] = (vs ++ [Value.ref s.heap.objs.size, .ref (s.heap.objs.size + 1)]).map some := by simp
        have := rep_none ls
        rw [← this, e2, look_pad _ _ _ _ _ (by simp [hlen]), look_binds _ _ x hlen2 hnd]
      rw [e]; exact hns
    have none1 : ∀ b, s.heap.objs.size ≤ b → g.get? b = none := fun b hb => none_at (Nat.le_trans hsz hb)
    have key := codeN_func (M := model PW w) (R := Q) (h h2.objs.size { s with heap := h₀, toks := s.toks + ((ps ++ [va, kwa]).zip (vs ++ [Value.ref s.heap.objs.size, .ref (s.heap.objs.size + 1)])).length } s.heap.objs.size (s.heap.objs.size + 1) (fun e => by have h1 : 494 < g.objs.size := Heap.lt_size (G.K _ _ (show (KF w.params).lookup 494 = some (ob494 w.params) by kernel_rfl)); have h2 : s.heap.objs.size + 1 = 1 := e; omega) hL (fun b o e => k3 _ _ (k2 _ _ e))
      ⟨G, ⟨hns', fun b o e => k3 _ _ (k2 _ _ (sub b o e)), Nat.le_trans hsz hL⟩, fun p hp => ?_, rfl, rfl⟩).out
    · unfold callEnv at key
      rw [hc] at key
      exact key
    · rcases List.mem_cons.mp hp with rfl | hp
      · exact ⟨k3 _ _ ht, Nat.ne_of_lt (Heap.lt_size ht), none1 _ (Nat.le_refl _)⟩
      · rcases List.mem_cons.mp hp with rfl | hp
        · exact ⟨k3 _ _ hd, Nat.ne_of_lt (Heap.lt_size hd), none1 _ (Nat.le_succ _)⟩
        · exact ⟨k3 _ _ (k2 _ _ (N p hp).1), Nat.ne_of_lt (Heap.lt_size (k2 _ _ (N p hp).1)), (N p hp).2⟩
end Mine
end

section
set_option Elab.async false
set_option maxRecDepth 100000
set_option linter.unusedVariables false
open PySem PySem.W PyProof.Rows PySem.Calls
namespace Mine
/-! what the class BytesIO answers -/
theorem io_static (P : Params) : ∀ S, peek (KF P) S (Bind.staticBase (.ref 494)) = some (.type "object") := by intro S; kernel_rfl
theorem io_made (P : Params) : ∀ S, peek (KF P) S (Bind.madeBy (.ref 494)) = some none := by intro S; kernel_rfl
theorem io_check (P : Params) : ∀ S, peek (KF P) S (checkBuiltinCall "object.__new__" ⟨[.ref 494], []⟩) = some () := by intro S; kernel_rfl
theorem io_here (P : Params) : ∀ S, peek (KF P) S (Bind.madeHere "object.__new__" (.ref 494)) = some () := by intro S; kernel_rfl
theorem io_mro (P : Params) : ∀ S, peek (KF P) S (mroOf (.ref 494)) = some [.ref 494, .ref 252, .ref 237, .type "object"] := by intro S; kernel_rfl
theorem io_sub (P : Params) : ∀ S, peek (KF P) S (isSubtype (.ref 494) (.ref 494)) = some true := by intro S; kernel_rfl
theorem io_call (P : Params) : ∀ S, peek (KF P) S (specialOf (.ref 494) "__call__") = some (some (.builtin "type.__call__")) := by intro S; kernel_rfl
theorem io_typ (P : Params) : ∀ S, peek (KF P) S (isInstance (.ref 494) (.type "type")) = some true := by intro S; kernel_rfl
theorem io_init (P : Params) : ∀ S, peek (KF P) S (typeLookup (.ref 494) "__init__") = some (some (.ref 281)) := by intro S; kernel_rfl
theorem io_del (P : Params) : ∀ S, peek (KF P) S (classHasDel 494) = some false := by intro S; kernel_rfl
theorem io_data (P : Params) : ∀ S, (peek (KF P) S (classData 494)).map (·.abstract) = some false := by intro S; kernel_rfl
theorem io_bind (P : Params) (x : Value) : ∀ S, peek (KF P) S (bindSpecial (.ref 281) x) = some (.ref 281, [x]) := by intro S; kernel_rfl
theorem io_new (P : Params) : boundOk (KF P) 494 "__new__" "staticmethod" "staticmethod.__get__" 238 234 = true := by kernel_rfl
theorem io_keep (P : Params) : keepIn (KF P) (.ref 494) = true := by kernel_rfl
end Mine
end

section
set_option Elab.async false
set_option maxRecDepth 100000
set_option linter.unusedVariables false
open PySem PySem.W PyProof.Rows PySem.Calls
namespace Mine
theorem isType_look (P : Params) : ∀ S, peek (KF P) S (isType (.ref 494)) = some true := by intro S; kernel_rfl
theorem new494 {w : World} {A : Around} {R : Result → Shared → Prop} {s : Shared} (K : (KF w.params).In s.heap)
    (q : R (.ok (.ret (.ref (s.heap.objs.size + 1)))) { s with heap := (s.heap.push emptyDict).push (instObj 494 s.heap.objs.size) }) :
    codeAny (model PW w) A (.call (.builtin "object.__new__") ⟨[.ref 494], []⟩) R s := by
  refine codeAny_call_builtin_code (Code.quiet_builtin _ PySem.F.objNew.quiet) ((Looks.of_peek (M := model PW w) K (io_check _ _)).here ?_)
  refine codeAny_builtin PySem.F.objNew.entry ?_
  unfold Builtin.«object.__new__»
  refine wpAny_bind (m := isType (.ref 494)) ((Looks.of_peek (M := model PW w) K (isType_look _ _)).here ?_)
  refine wpAny_ite (ite_no (by decide) ?_)
  refine wpAny_bind (m := Bind.madeHere "object.__new__" (.ref 494)) ((Looks.of_peek (M := model PW w) K (io_here _ _)).here ?_)
  refine wpAny_ite (ite_no (by decide) ?_)
  have hC : s.heap.get? 494 = some (ob494 w.params) := K _ _ (show (KF w.params).lookup 494 = some (ob494 w.params) by kernel_rfl)
  refine wpAny_bind (m := classData 494) ?_
  unfold classData
  refine wpAny_bind (wpAny_load hC (wpAny_pure ?_))
  refine wpAny_ite (ite_no (by decide) ?_)
  refine wpAny_bind (m := (alloc emptyDict >>= fun x => pure (some x))) (wpAny_bind (wpAny_alloc (wpAny_pure ?_)))
  refine wpAny_bind ?_
  show wpAny _ _ (newObjAsIs _ _ _) _ _ _
  unfold newObjAsIs classHasDel
  refine wpAny_bind (wpAny_alloc (wpAny_bind (wpAny_bind (wpAny_load (Heap.get?_push_of_some _ (Heap.get?_push_of_some _ hC)) (wpAny_pure ?_)))))
  refine wpAny_pure (wpAny_pure ?_)
  rw [Heap.size_push]
  exact q
end Mine
end

section
set_option Elab.async false
set_option maxRecDepth 100000
set_option linter.unusedVariables false
open PySem PySem.W PyProof.Rows PySem.Calls
namespace Mine
theorem obj_new_cls (P : Params) : findCls (KF P) (.type "object") (.type "type") (PySem.Str.ofString "__new__") = some (.val (.builtin "object.__new__")) := by kernel_rfl
theorem obj_type : typeOf (.type "object") = pure (.type "type") := by kernel_rfl
theorem obj_stub : Manifest.isStub "object" = false := by decide +kernel
section
variable {c : Cx} {m : Str → Option Value} {A : Around} {E : Value → Shared → Prop} {s : Shared} {news : List (Addr × Obj)}
theorem g_onew {pl : Sem Bool} {Q : Value × List Value → Shared → Prop} (S : St c m news s) (h : ∀ s', St c m news s' → Q (.builtin "object.__new__", []) s') :
    W c A (getMethod (.type "object") (PySem.Str.ofString "__new__") pl) Q E s := by
  have q := h _ (S.at (s' := { s with toks := s.toks + 1 }) rfl rfl rfl)
  have e := obj_new_cls c.w.params
  have hh : handedIn (.builtin "object.__new__") = true := by rfl
  have F := S.F
  have X := S.G.K
  refine W.mk ?_
  exact method_type (prog := PW) (w := c.w) (K := KF c.w.params) (T := "object") (v := .builtin "object.__new__") F X obj_type obj_stub e hh q
theorem p_isnot {a : Addr} {Q : Value → Shared → Prop} (h : Q (.bool false) s) : W c A (compareOp .IsNot (.ref a) (.ref a)) Q E s := W.mk (wpAny_isNot_ref_self h)
theorem r_onew {Q : Value → Shared → Prop} (S : St c m news s) (h : ∀ x d s', St c m ((x, instObj 494 d) :: (d, dictOf [] 0) :: news) s' → Q (.ref x) s') : W c A (call (.builtin "object.__new__") [.ref 494]) Q E s := by
  refine W.call (codeN.of (new494 S.gl.K ?_))
  have S1 : St c m ((s.heap.objs.size, dictOf [] 0) :: news) { s with heap := s.heap.push emptyDict } := ⟨S.G, S.F.push _, S.N.push S.F _, S.gens, S.os⟩
  have S2 : St c m ((s.heap.objs.size + 1, instObj 494 s.heap.objs.size) :: (s.heap.objs.size, dictOf [] 0) :: news) { s with heap := (s.heap.push emptyDict).push (instObj 494 s.heap.objs.size) } := by
    have := S1.N.push S1.F (instObj 494 s.heap.objs.size)
    rw [Heap.size_push] at this
    exact ⟨S1.G, S1.F.push _, this, S1.gens, S1.os⟩
  exact h _ _ _ S2
end
theorem C_ionew {w mg mb A s g} (rest : List Value) (G : Gl w mg mb g) (R : Rm A 5) (sub : ∀ b o, g.get? b = some o → s.heap.get? b = some o) (hsz : g.objs.size ≤ s.heap.objs.size) (hr : rest.length ≤ 1000)
    (hbind : bindArgs fd234 ⟨.ref 494 :: rest, []⟩ = (do let t ← newTuple rest; let d ← alloc emptyDict; pure ([PySem.Str.ofString "cls"].zip [Value.ref 494] ++ [(PySem.Str.ofString "args", t), (PySem.Str.ofString "kwargs", .ref d)]))) :
    codeN (model PW w) A (.call (.ref 234) ⟨.ref 494 :: rest, []⟩) (fun r s' => match r with | .ok (.ret v) => ExtG g s s' ∧ s.heap.objs.size ≤ s'.heap.objs.size ∧ ∃ x d, v = .ref x ∧ ∀ p ∈ [(x, instObj 494 d), (d, dictOf [] 0)], s'.heap.get? p.1 = some p.2 ∧ g.get? p.1 = none | .ok _ => False | .error _ => False) s := by
  refine enterS (news := []) ["cls"] [] "args" "kwargs" [.ref 494] rest G sub hsz (fun p hp => nomatch hp) R.less lk234 (defBody (methSt 31 1)) rfl cd234 (fun L s1 t d _ hL ek S => ?_) hbind hr
  refine W.mono (Q := fun fl s' => ExtG g s s' ∧ s.heap.objs.size ≤ s'.heap.objs.size ∧ ∃ x d, (match fl with | .ret v => v | _ => Value.none) = .ref x ∧ ∀ p ∈ [(x, instObj 494 d), (d, dictOf [] 0)], s'.heap.get? p.1 = some p.2 ∧ g.get? p.1 = none) (E := fun _ _ => False) ?_ (fun _ _ q => q) fun _ _ q => q.elim
  refine open_body rfl ?_
  refine x_if <| t_and <| t_cmp <| ld 0 S <| gl S g_BytesIO ?_
  refine p_isnot <| t_bool <| ite_no (by decide) <| ite_no (by decide) <| x_nil ?_
  refine x_ret <| e_meth <| b_object S <| g_onew S fun s S => ?_
  refine cw_bt' <| s_more <| ld 0 S <| s_nil ?_
  refine r_onew S fun x d s S => ⟨S.doneG, ?_, x, d, rfl, fun p hp => ?_⟩
  · obtain ⟨oL, es, ep, hL', _⟩ := S.F.ns
    exact Nat.le_trans hL (Nat.le_of_lt (Heap.lt_size hL'))
  have N := S.N p (List.mem_append_left (bs := _) hp)
  exact ⟨N.1, N.2.2⟩
end Mine
end

section
set_option Elab.async false
set_option maxRecDepth 100000
set_option linter.unusedVariables false
open PySem PySem.W PyProof.Rows PySem.Calls
namespace Mine
def AX (A : Around) (args : List Value) : Around := A.under (.builtin "type.__call__" ⟨.ref 494 :: args, []⟩)
/-- the getattr of BytesIO.__new__ -/
theorem io_getnew {c : Cx} {A : Around} {E : Value → Shared → Prop} {s : Shared} {expr : Bool} {Q : Value → Shared → Prop} (K : (KF c.w.params).In s.heap) (h : Q (.ref 234) { s with toks := s.toks + 1 }) : W c A (getAttr (.ref 494) "__new__" expr) Q E s := by
  have q := io_new c.w.params
  simp only [boundOk, Bool.and_eq_true, beq_iff_eq] at q
  obtain ⟨⟨⟨⟨⟨q1, q2⟩, q3⟩, q4⟩, q5⟩, q6⟩ := q
  obtain ⟨r, hr, hn⟩ := any_some q5
  cases r with
  | nil => cases hn
  | cons f' rest =>
    have hf : f' = .ref 234 := by simpa using hn
    subst hf
    have e : findCls (KF c.w.params) (.ref 494) (.type "type") "__new__" = some (.get (.builtin "staticmethod.__get__") (.ref 238) .none (.ref 494)) := by
      split at q4
      · rename_i i p' C' e
        simp only [Bool.and_eq_true, beq_iff_eq] at q4
        obtain ⟨⟨rfl, rfl⟩, rfl⟩ := q4
        exact e
      · cases q4
    exact W.mk (cls_bind K q2 e (wpAny_call (sm_get (s := { s with toks := s.toks + 1 }) K hr (handed_on rfl h))))
/-- type.__call__ for BytesIO: its __new__ is of the text -/
theorem typeCall494 {A : Around} {R : Result → Shared → Prop} {s : Shared} {args : List Value} {c : Cx} (K : (KF c.w.params).In s.heap)
    (h : W c (AX A args) (PySem.call (.ref 234) (.ref 494 :: args) [])
      (fun obj s₁ => W c (AX A args) (isInstance obj (.ref 494)) (fun b s₂ => b = true ∧ W c (AX A args) (callSpecial? obj "__init__" args []) (fun r s₃ => r = some .none ∧ R (.ok (.ret obj)) s₃) (fun e s' => R (.error e) s') s₂) (fun e s' => R (.error e) s') s₁) (fun e s' => R (.error e) s') { s with toks := s.toks + 1 }) :
    codeN (model PW c.w) A (.builtin "type.__call__" ⟨.ref 494 :: args, []⟩) R s := by
  refine codeN_builtin (M := model PW c.w) entry_typeCall (ok_tc _) (W.out (c := c) ?_)
  unfold Builtin.«type.__call__»
  refine W.bind (m := mroOf (.ref 494)) (W.mk ((Looks.of_peek (M := model PW c.w) K (io_mro _ _)).here ?_))
  refine W.ite (ite_no (by decide) ?_)
  refine W.bind (m := Bind.madeBy (.ref 494)) (W.mk ((Looks.of_peek (M := model PW c.w) K (io_made _ _)).here ?_))
  refine W.bind (m := getAttr (.ref 494) "__new__") (io_getnew K ?_)
  refine W.then (m := holding [Value.ref 234] (PySem.call (Value.ref 234) (.ref 494 :: args) [])) (W.hold h) fun obj s₁ h₁ => ?_
  refine W.then (m := isInstance obj (.ref 494)) h₁ fun b s₂ h₂ => ?_
  obtain ⟨rfl, h₂⟩ := h₂
  refine W.then (m := holding [obj] (callSpecial? obj "__init__" args [])) (W.hold h₂) fun r s₃ h₃ => ?_
  obtain ⟨rfl, h₃⟩ := h₃
  exact W.pure h₃
section
variable {c : Cx} {m : Str → Option Value} {A : Around} {E : Value → Shared → Prop} {s : Shared} {news : List (Addr × Obj)}
theorem n_isnot {v u : Value} {Q : Value → Shared → Prop} (h : Q (.bool (!(v == u))) s) (hp : plainIs v u = true := by rfl) : W c A (compareOp .IsNot v u) Q E s := W.mk (wpAny_isNot_plain hp h)
theorem n_is {v u : Value} {Q : Value → Shared → Prop} (h : Q (.bool (v == u)) s) (hp : plainIs v u = true := by rfl) : W c A (compareOp .Is v u) Q E s := W.mk (wpAny_is_plain hp h)
theorem r_typ {x : Value} {T : String} {Q : Value → Shared → Prop} (hx : s.TypeIs x T) (h : Q (.type T) s) (hnb : (Value.type T == Value.type "builtin_function_or_method") = false := by rfl) : W c A (call (.type "type") [x]) Q E s := W.mk (call_type_of hx hnb h)
end
theorem sub_rot {α : Type} {a b c : α} (l : List α) : ∀ p ∈ [b, c, a], p ∈ a :: b :: c :: l := fun p hp => by
  rcases List.mem_cons.mp hp with rfl | hp
  · exact .tail _ (.head _)
  · rcases List.mem_cons.mp hp with rfl | hp
    · exact .tail _ (.tail _ (.head _))
    · rw [List.mem_singleton.mp hp]
      exact .head _
abbrev bioN : List Str := [.ofString "_BytesIO__buf", .ofString "_BytesIO__pos"]
/-- a stream's three objects -/
abbrev bio (x d a : Addr) (es : List DictEntry) (n : Nat) (b : List UInt8) : List (Addr × Obj) := [(x, instObj 494 d), (d, dictOf es n), (a, baObj b.toArray)]
/-- a stream made -/
def Made (g : Heap) (x : Addr) (b : List UInt8) (s' : Shared) : Prop := ∃ d a es n t, (∀ p ∈ bio x d a es n b, s'.heap.get? p.1 = some p.2 ∧ g.get? p.1 = none) ∧ Ents es bioN [.ref a, .int ((0 : Nat) : Int) t]
theorem C_bioinit0 {w mg mb A s x d g} (G : Gl w mg mb g) (R : Rm A 5) (sub : ∀ b o, g.get? b = some o → s.heap.get? b = some o) (hsz : g.objs.size ≤ s.heap.objs.size)
    (N : ∀ p ∈ [(x, instObj 494 d), (d, dictOf [] 0)], s.heap.get? p.1 = some p.2 ∧ g.get? p.1 = none) :
    Runs w A (.ref 281) [.ref x] [] g (fun v s' => v = .none ∧ Made g x [] s') s := by
  refine runsG ["self", "initial_bytes"] [] [.ref x, .none] G sub hsz N R.less lk281 (defBody (methSt 34 1)) rfl cd281 fun L s hL ek S => ?_
  refine open_body rfl ?_
  refine x_if <| t_and <| t_cmp <| ld 1 S <| c_none ?_
  refine n_isnot <| t_bool <| ite_no (by decide) <| ite_no (by decide) <| x_nil ?_
  refine x_set <| e_if <| t_cmp <| ld 1 S <| c_none ?_
  refine n_is <| t_bool <| ite_yes (by decide) ?_
  refine e_call <| b_bytearray S <| cw_ty0 <| r_ba0 S R.guards fun a s S ap k => ?_
  have S1 := S.sub (nw := [(x, instObj 494 d), (d, dictOf [] 0), (a, baObj #[])]) (sub_rot []) 
  have ha : ∀ p ∈ [(a, baObj #[])], p.1 ≠ d := fun p hp => by
    rw [List.mem_singleton.mp hp]; exact (ap (d, dictOf [] 0) (.tail _ (.head _))).symm
  refine ld 0 S1 <| a_new 5 S1 ha (ns := []) (vs := []) trivial fun es n s e S => ?_
  refine x_set <| c_nat 0 S fun u s S => ld 0 S <| a_new 6 S ha e fun es n s e S => x_nil ⟨S.doneG, rfl, d, a, es, n, u, fun p hp => ?_, e⟩
  exact ⟨(S.N p hp).1, (S.N p hp).2.2⟩
theorem C_bioinit1 {w mg mb A s x d g t} {b : List UInt8} (G : Gl w mg mb g) (R : Rm A 5) (hb : b.length ≤ 16777216) (sub : ∀ b o, g.get? b = some o → s.heap.get? b = some o) (hsz : g.objs.size ≤ s.heap.objs.size)
    (N : ∀ p ∈ [(x, instObj 494 d), (d, dictOf [] 0)], s.heap.get? p.1 = some p.2 ∧ g.get? p.1 = none) :
    Runs w A (.ref 281) [.ref x, .bytes b.toArray t] [] g (fun v s' => v = .none ∧ Made g x b s') s := by
  refine runsG ["self", "initial_bytes"] [] [.ref x, .bytes b.toArray t] G sub hsz N R.less lk281 (defBody (methSt 34 1)) rfl cd281 fun L s hL ek S => ?_
  refine open_body rfl ?_
  refine x_if <| t_and <| t_cmp <| ld 1 S <| c_none ?_
  refine n_isnot <| t_bool <| ite_yes rfl ?_
  refine t_and <| t_cmp <| e_call <| b_type S <| cw_ty <| s_more <| ld 1 S <| s_nil ?_
  refine r_typ (PySem.W.typeIs_bytes _ _ _) <| b_bytes S ?_
  refine n_isnot <| t_bool <| ite_no (by decide) <| ite_no (by decide) <| x_nil ?_
  refine x_set <| e_if <| t_cmp <| ld 1 S <| c_none ?_
  refine n_is <| t_bool <| ite_no Bool.false_ne_true ?_
  refine e_call <| b_bytearray S <| cw_ty <| s_more <| ld 1 S <| s_nil <| r_ba1 S R.guards (by rw [List.size_toArray]; exact hb) fun a s S ap k => ?_
  have S1 := S.sub (nw := [(x, instObj 494 d), (d, dictOf [] 0), (a, baObj b.toArray)]) (sub_rot []) 
  have ha : ∀ p ∈ [(a, baObj b.toArray)], p.1 ≠ d := fun p hp => by
    rw [List.mem_singleton.mp hp]; exact (ap (d, dictOf [] 0) (.tail _ (.head _))).symm
  refine ld 0 S1 <| a_new 5 S1 ha (ns := []) (vs := []) trivial fun es n s e S => ?_
  refine x_set <| c_nat 0 S fun u s S => ld 0 S <| a_new 6 S ha e fun es n s e S => x_nil ⟨S.doneG, rfl, d, a, es, n, u, fun p hp => ?_, e⟩
  exact ⟨(S.N p hp).1, (S.N p hp).2.2⟩
end Mine
end

section
set_option Elab.async false
set_option maxRecDepth 100000
set_option linter.unusedVariables false
open PySem PySem.W PyProof.Rows PySem.Calls
namespace Mine
/-- BytesIO(..): from its __init__'s contract -/
theorem bio_make {w mg mb A s} {args : List Value} {b : List UInt8} (G : Gl w mg mb s.heap) (R : Rm A 10) (hr : args.length ≤ 1000)
    (hbind : bindArgs fd234 ⟨.ref 494 :: args, []⟩ = (do let t ← newTuple args; let d ← alloc emptyDict; pure ([PySem.Str.ofString "cls"].zip [Value.ref 494] ++ [(PySem.Str.ofString "args", t), (PySem.Str.ofString "kwargs", .ref d)])))
    (hi : ∀ x d s₁, (∀ b o, s.heap.get? b = some o → s₁.heap.get? b = some o) → s.heap.objs.size ≤ s₁.heap.objs.size → (∀ p ∈ [(x, instObj 494 d), (d, dictOf [] 0)], s₁.heap.get? p.1 = some p.2 ∧ s.heap.get? p.1 = none) →
      Runs w (AX A args) (.ref 281) (.ref x :: args) [] s.heap (fun v s' => v = .none ∧ Made s.heap x b s') s₁) :
    Gives w A (.ref 494) args [] (fun v s' => ∃ x, v = .ref x ∧ Made s.heap x b s') s := by
  have hC : s.heap.get? 494 = some (ob494 w.params) := G.K _ _ (show (KF w.params).lookup 494 = some (ob494 w.params) by kernel_rfl)
  have hC' : ∃ oc od cd sl, s.heap.get? 494 = some ⟨oc, od, .cls cd, sl⟩ := ⟨_, _, _, _, hC⟩
  obtain ⟨oc, od, cd, sl, hC'⟩ := hC'
  have Ra : Rm (AX A args) 9 := R.under
  refine codeN_class hC' (Looks.of_peek (M := model PW w) G.K (io_call _ _)) (Looks.of_peek (M := model PW w) G.K (io_typ _ _)) ?_
  refine typeCall494 (c := ⟨w, mg, mb, s.heap, 0, s.gens, s.os⟩) G.K ?_
  refine W.call ((C_ionew (s := { s with toks := s.toks + 1 }) (A := AX A args) args G Ra.less (fun _ _ e => e) (Nat.le_refl _) hr hbind).mono fun r s₁ q => ?_)
  match r, q with
  | .ok .next, q => exact q.elim
  | .ok .brk, q => exact q.elim
  | .ok .cont, q => exact q.elim
  | .error _, q => exact q.elim
  | .ok (.ret v), q =>
    obtain ⟨x1, sz, x, d, rfl, N⟩ := q
    have hx := (N _ (.head _)).1
    have K1 := G.K.keeps x1.keep
    have t1 : Looks (model PW w) s₁.heap (typeOf (.ref x)) (.ref 494) := (Looks.ld hx).andThen .now
    refine W.mk (Looks.here (t1.andThen (Looks.of_peek (M := model PW w) K1 (io_sub _ _))) ⟨rfl, ?_⟩)
    refine W.init t1 (Looks.of_peek (M := model PW w) K1 (io_init _ _)) (Looks.of_peek (M := model PW w) K1 (io_bind _ _ _)) ?_
    refine W.call ((hi x d s₁ x1.keep sz N).mono fun r s₂ q => ?_)
    match r, q with
    | .ok .next, q => exact q.elim
    | .ok .brk, q => exact q.elim
    | .ok .cont, q => exact q.elim
    | .error _, q => exact q.elim
    | .ok (.ret v), q =>
      obtain ⟨x2, rfl, M⟩ := q
      exact ⟨rfl, ⟨x2.keep, x2.gens.trans x1.gens, x2.os.trans x1.os⟩, x, rfl, M⟩
theorem C_bio0 {w mg mb A s} (G : Gl w mg mb s.heap) (R : Rm A 10) : Gives w A (.ref 494) [] [] (fun v s' => ∃ x, v = .ref x ∧ Made s.heap x [] s') s :=
  bio_make G R (by decide) (by kernel_rfl) fun x d s₁ k hz N => C_bioinit0 G (Rm.less (Rm.under R)) k hz N
theorem C_bio1 {w mg mb A s t} {b : List UInt8} (G : Gl w mg mb s.heap) (R : Rm A 10) (hb : b.length ≤ 16777216) : Gives w A (.ref 494) [.bytes b.toArray t] [] (fun v s' => ∃ x, v = .ref x ∧ Made s.heap x b s') s :=
  bio_make G R (Nat.le_of_ble_eq_true rfl) (by kernel_rfl) fun x d s₁ k hz N => C_bioinit1 G (Rm.less (Rm.under R)) hb k hz N
end Mine
end

section
set_option Elab.async false
set_option maxRecDepth 100000
set_option linter.unusedVariables false
open PySem PySem.W PyProof.Rows PySem.Calls
namespace Mine
section
variable {c : Cx} {m : Str → Option Value} {A : Around} {E : Value → Shared → Prop} {s : Shared} {news : List (Addr × Obj)} {t u : Tok} {Q : Value → Shared → Prop}
theorem z_lt {a b : Int} (h : Q (.bool (decide (a < b))) s) : W c A (compareOp .Lt (.int a t) (.int b u)) Q E s := W.mk (PyProof.Rows.lt_int h)
theorem p_ge {a b : Nat} (h : Q (.bool (decide (b ≤ a))) s) : W c A (compareOp .GtE (.int a t) (.int b u)) Q E s :=
  W.mk (PyProof.Rows.ge_int (by
    have e : decide ((b : Int) ≤ (a : Int)) = decide (b ≤ a) := decide_eq_decide.mpr Int.ofNat_le
    rw [e]; exact h))
theorem r_intint {i : Int} (h : Q (.int i t) s) : W c A (call (.type "int") [.int i t]) Q E s := W.mk (call_int_int h)
end
theorem C_index {w mg mb A s k t} {x : Value} (G : Gl w mg mb s.heap) (R : Rm A 5) (hk : k ≤ 1000000) :
    Gives w A (.ref 207) [.int ((k : Nat) : Int) t, x] [] (fun v _ => v = .int ((k : Nat) : Int) t) s := by
  refine enterW ["n", "what"] [] [.int ((k : Nat) : Int) t, x] G R.less lk207 (defBody (topSt 29)) rfl cd207 fun L s S => ?_
  refine open_body rfl ?_
  refine x_if <| t_and <| t_cmp <| e_call <| b_type S <| cw_ty <| s_more <| ld 0 S <| s_nil ?_
  refine r_typ (PySem.typeIs_int _ _ _) <| b_int S ?_
  refine n_isnot <| t_bool <| ite_no (by decide) <| ite_no (by decide) <| x_nil ?_
  refine x_asg <| e_call <| b_int S <| cw_ty <| s_more <| ld 0 S <| s_nil ?_
  refine r_intint <| st 0 S fun s S => ?_
  refine x_if <| t_or <| t_cmp <| ld 0 S <| c_nat 1099511627776 S fun u s S => p_gt <| t_bool ?_
  refine ite_no (by rw [decide_eq_false (by omega)]; decide) <| t_or <| t_cmp <| ld 0 S <| e_neg 1099511627776 S fun u s S => z_lt <| t_bool ?_
  refine ite_no (by rw [decide_eq_false (by omega)]; decide) <| t_or0 <| ite_no (by decide) <| x_nil ?_
  refine x_ret <| ld 0 S ⟨S.done, rfl⟩
theorem C_check {w mg mb A s x a v} (G : Gl w mg mb s.heap) (R : Rm A 5) (O : Ob s.heap x 494 bioN [.ref a, v]) :
    Gives w A (.ref 288) [.ref x] [] (fun v _ => v = .none) s := by
  refine enterW ["self"] [] [.ref x] G R.less lk288 (defBody (methSt 34 2)) rfl cd288 fun L s S => ?_
  refine open_body rfl ?_
  refine x_if <| t_cmp <| e_att <| ld 0 S <| a_own 7 0 S (O.keeps S.F.keep) fun s S _ => c_none ?_
  refine n_is <| t_bool <| ite_no Bool.false_ne_true <| x_nil <| x_nil ⟨S.done, rfl⟩
theorem C_getvalue {w mg mb A s x a v} {b : List UInt8} (G : Gl w mg mb s.heap) (R : Rm A 10) (O : Ob s.heap x 494 bioN [.ref a, v]) (ha : s.heap.get? a = some (baObj b.toArray)) (hz : b.length ≤ 16777216) :
    Gives w A (.ref 380) [.ref x] [] (fun v _ => ∃ t, v = .bytes b.toArray t) s := by
  refine enterW ["self"] [] [.ref x] G R.less lk380 (defBody (methSt 34 15)) rfl cd380 fun L s S => ?_
  refine open_body rfl ?_
  have O := O.keeps S.F.keep
  refine x_expr <| e_meth <| ld 0 S <| a_fn 9 S O <| cw_fn0 lk288 S ?_
  refine use S (C_check S.gl R.deeper.less O) fun v s S x1 _ => ?_
  refine x_ret <| e_call <| b_bytes S <| cw_ty <| s_more <| e_att <| ld 0 S <| a_own 7 0 S (O.keeps x1.keep) fun s S _ => s_nil ?_
  exact r_bybytes S (S.F.keep _ _ ha) hz fun t s S _ => ⟨S.done, t, rfl⟩
/-- the stream x holds b and stands at p -/
def Bio (g : Heap) (x d a : Addr) (b : List UInt8) (p : Nat) (s' : Shared) : Prop := ∃ es n t, (∀ q ∈ bio x d a es n b, s'.heap.get? q.1 = some q.2 ∧ g.get? q.1 = none) ∧ Ents es bioN [.ref a, .int ((p : Nat) : Int) t]
theorem Made.bio {g x b s'} (M : Made g x b s') : ∃ d a, Bio g x d a b 0 s' := let ⟨d, a, es, n, t, h, e⟩ := M; ⟨d, a, es, n, t, h, e⟩
theorem dict_ba {es : List DictEntry} {n : Nat} {b : Array UInt8} : dictOf es n ≠ baObj b := fun z => absurd (show Value.type "dict" = Value.type "bytearray" from congrArg Obj.cls z) (by decide)
theorem C_write {w mg mb A s x d a t g} {b k : List UInt8} (G : Gl w mg mb g) (R : Rm A 10) (sub : ∀ b o, g.get? b = some o → s.heap.get? b = some o) (hsz : g.objs.size ≤ s.heap.objs.size)
    (B : Bio g x d a b b.length s) (hk : k ≠ []) (hz : b.length + k.length ≤ 10000) :
    Runs w A (.ref 477) [.ref x, .bytes k.toArray t] [] g (fun v s' => ∃ u, v = .int (k.length : Nat) u ∧ Bio g x d a (b ++ k) (b ++ k).length s') s := by
  obtain ⟨es, n, ut, N, e⟩ := B
  refine runsG ["self", "b"] ["n", "start"] [.ref x, .bytes k.toArray t] G sub hsz N R.less lk477 (defBody (methSt 34 28)) rfl cd477 fun L s hL ek S => ?_
  have hpos : k.length ≠ 0 := fun e => hk (List.length_eq_zero_iff.mp e)
  refine open_body rfl ?_
  refine x_if <| t_and <| t_cmp <| e_call <| b_type S <| cw_ty <| s_more <| ld 1 S <| s_nil ?_
  refine r_typ (PySem.W.typeIs_bytes _ _ _) <| b_bytes S ?_
  refine n_isnot <| t_bool <| ite_no (by decide) <| ite_no (by decide) <| x_nil ?_
  refine x_expr <| e_meth <| ld 0 S <| a_fn 9 S (S.ob (.head _) (.tail _ (.head _)) e) <| cw_fn0 lk288 S ?_
  refine use S (C_check S.gl R.deeper.less (S.ob (.head _) (.tail _ (.head _)) e)) fun v s S x1 _ => ?_
  refine x_asg <| e_call <| b_len S <| cw_bt <| s_more <| ld 1 S <| s_nil ?_
  refine y_len S (by omega) fun u1 s S => st 2 S fun s S => ?_
  refine x_if <| t_cmp <| ld 2 S <| c_nat 0 S fun u s S => p_eq <| t_bool ?_
  refine ite_no (by rw [decide_eq_false hpos]; decide) <| x_nil ?_
  refine x_asg <| e_att <| ld 0 S <| a_own 8 1 S (S.ob (.head _) (.tail _ (.head _)) e) fun s S _ => st 3 S fun s S => ?_
  refine x_if <| t_cmp <| e_bin <| ld 3 S <| e_call <| b_len S <| cw_bt <| s_more <| e_att <| ld 0 S <| a_own 7 0 S (S.ob (.head _) (.tail _ (.head _)) e) fun s S _ => s_nil ?_
  refine r_balen S (S.N _ (.tail _ (.tail _ (.head _)))).1 (by rw [List.size_toArray]; omega) fun u2 s S _ => ?_
  refine p_sub S (by rw [List.size_toArray]; exact Nat.le_refl _) fun u3 s S => c_nat 1048576 S fun u s S => p_gt <| t_bool ?_
  refine ite_no (by rw [decide_eq_false (by rw [List.size_toArray]; omega)]; decide) <| x_nil ?_
  refine x_if <| t_cmp <| ld 3 S <| e_call <| b_len S <| cw_bt <| s_more <| e_att <| ld 0 S <| a_own 7 0 S (S.ob (.head _) (.tail _ (.head _)) e) fun s S _ => s_nil ?_
  refine r_balen S (S.N _ (.tail _ (.tail _ (.head _)))).1 (by rw [List.size_toArray]; omega) fun u2 s S _ => ?_
  refine p_gt <| t_bool ?_
  refine ite_no (by rw [decide_eq_false (by rw [List.size_toArray]; omega)]; decide) <| x_nil ?_
  refine x_seti <| ld 1 S <| e_att <| ld 0 S <| a_own 7 0 S (S.ob (.head _) (.tail _ (.head _)) e) fun s S _ => ?_
  refine e_cut <| pt_some <| ld 3 S <| pt_some <| e_bin <| ld 3 S <| ld 2 S <| p_add S fun u4 s S => ?_
  have h1 : x ≠ a := S.apart (.head _) (.tail _ (.tail _ (.head _))) (fun z => by cases z)
  have h2 : d ≠ a := S.apart (.tail _ (.head _)) (.tail _ (.tail _ (.head _))) dict_ba
  have S1 := (S.push (o := slObj (.int (b.length : Nat) ut) (.int ((b.length + k.length : Nat) : Int) u4))).sub (nw := [(a, baObj b.toArray), (x, instObj 494 d), (d, dictOf es n)]) (fun p hp => by
    rcases List.mem_cons.mp hp with rfl | hp
    · exact .tail _ (.tail _ (.head _))
    · rcases List.mem_cons.mp hp with rfl | hp
      · exact .head _
      · rw [List.mem_singleton.mp hp]; exact .tail _ (.head _))
  refine r_set S1 (fun p hp => ?_) R.guards (Heap.get?_push_size _ rfl) (by omega) fun s S => ?_
  · rcases List.mem_cons.mp hp with rfl | hp
    · exact h1
    · rw [List.mem_singleton.mp hp]; exact h2
  have S2 := S.sub (nw := [(x, instObj 494 d), (d, dictOf es n), (a, baObj (b ++ k).toArray)]) (sub_rot [])
  have ha : ∀ p ∈ [(a, baObj (b ++ k).toArray)], p.1 ≠ d := fun p hp => by rw [List.mem_singleton.mp hp]; exact h2.symm
  refine x_set <| e_bin <| ld 3 S2 <| ld 2 S2 <| p_add S2 fun u5 s S => ?_
  refine ld 0 S <| ?_
  refine a_old 6 1 S ha e (fun es n s e S => ?_) (hv := Nat.le_refl 2)
  refine x_ret <| ld 2 S ⟨S.doneG, u1, rfl, es, n, u5, fun p hp => ⟨(S.N p hp).1, (S.N p hp).2.2⟩, ?_⟩
  rw [List.length_append]
  exact e
end Mine
end

section
set_option Elab.async false
set_option maxRecDepth 100000
set_option linter.unusedVariables false
open PySem PySem.W PyProof.Rows PySem.Calls
namespace Mine
theorem cut_mid {b : List UInt8} {p q : Nat} (h1 : p ≤ q) (h2 : q ≤ b.length) : cutL (some (p : Int)) (some (q : Int)) b = (b.drop p).take (q - p) := by
  unfold cutL
  simp only [Option.elim]
  have c1 := clipAt_cast b.length ((p : Nat) : Int)
  have c2 := clipAt_cast b.length ((q : Nat) : Int)
  rw [if_neg (by omega)] at c1 c2
  rw [show clipAt b.length (p : Int) = p by omega, show clipAt b.length (q : Int) = q by omega]
theorem C_read {w mg mb A s0 x d a t g} {b : List UInt8} {p k : Nat} (G : Gl w mg mb g) (R : Rm A 10) (sub : ∀ b o, g.get? b = some o → s0.heap.get? b = some o) (hsz : g.objs.size ≤ s0.heap.objs.size)
    (B : Bio g x d a b p s0) (hp : p ≤ b.length) (hk : k ≤ 10000) (hz : b.length ≤ 10000) :
    Runs w A (.ref 418) [.ref x, .int (k : Nat) t] [] g (fun v s' => (∃ u, v = .bytes ((b.drop p).take k).toArray u) ∧ Bio g x d a b (min (p + k) b.length) s') s0 := by
  obtain ⟨es, n, ut, N, e⟩ := B
  refine runsG ["self", "size"] ["start", "stop"] [.ref x, .int (k : Nat) t] G sub hsz N R.less lk418 (defBody (methSt 34 20)) rfl cd418 fun L s hL ek S => ?_
  refine open_body rfl ?_
  refine x_if <| t_cmp <| ld 1 S <| c_none ?_
  refine n_is <| t_bool <| ite_no Bool.false_ne_true <| x_nil ?_
  refine x_asg <| e_call <| gl S g__index <| cw_fn' lk207 <| s_more <| ld 1 S <| s_more <| c_str S fun u s S => s_nil ⟨⟨_, _, S⟩, ?_⟩
  refine use S (C_index S.gl R.deeper.less (by omega)) fun v s S x1 hv => ?_
  subst hv
  refine st 1 S fun s S => ?_
  refine x_expr <| e_meth <| ld 0 S <| a_fn 9 S (S.ob (.head _) (.tail _ (.head _)) e) <| cw_fn0 lk288 S ?_
  refine use S (C_check S.gl R.deeper.less (S.ob (.head _) (.tail _ (.head _)) e)) fun v s S x1 _ => ?_
  refine x_asg <| e_att <| ld 0 S <| a_own 8 1 S (S.ob (.head _) (.tail _ (.head _)) e) fun s S _ => st 2 S fun s S => ?_
  refine x_asg <| e_call <| b_len S <| cw_bt <| s_more <| e_att <| ld 0 S <| a_own 7 0 S (S.ob (.head _) (.tail _ (.head _)) e) fun s S _ => s_nil ?_
  refine r_balen S (S.N _ (.tail _ (.tail _ (.head _)))).1 (by rw [List.size_toArray]; omega) fun u2 s S _ => ?_
  rw [List.size_toArray]
  refine st 3 S fun s S => ?_
  refine x_if <| t_cmp <| ld 2 S <| ld 3 S <| p_ge <| t_bool <| ite_two (fun hc => ?_) fun hc => ?_
  · have hc' : b.length ≤ p := of_decide_eq_true hc
    refine x_ret <| c_bytes S fun u s S => ⟨S.doneG, ⟨u, ?_⟩, es, n, ut, fun q hq => ⟨(S.N q hq).1, (S.N q hq).2.2⟩, ?_⟩
    · rw [List.drop_eq_nil_of_le hc', List.take_nil]
    · rw [show min (p + k) b.length = p by omega]; exact e
  have hc' : ¬ b.length ≤ p := fun z => hc (decide_eq_true z)
  refine x_nil ?_
  have tail : ∀ (q : Nat) (tq : Tok) (s : Shared), q = min (p + k) b.length → St (cg w mg mb g s0 L) (look ([PySem.Str.ofString "self", PySem.Str.ofString "size"] ++ [PySem.Str.ofString "start", PySem.Str.ofString "stop"]) [some (.ref x), some (.int (k : Nat) t), some (.int (p : Nat) ut), some (.int (q : Nat) tq)]) (bio x d a es n b) s →
      W (cg w mg mb g s0 L) (A.deeper (callEnv fd418 L 418)) (execs ((defBody (methSt 34 20)).drop 7) (callEnv fd418 L 418)) (fun fl s'' => ExtG g s0 s'' ∧ (∃ u : Tok, (match fl with | .ret v => v | _ => Value.none) = .bytes ((b.drop p).take k).toArray u) ∧ Bio g x d a b (min (p + k) b.length) s'') (fun _ _ => False) s := by
    intro q tq s hq S
    refine open_body rfl ?_
    have h2 : d ≠ a := S.apart (.tail _ (.head _)) (.tail _ (.tail _ (.head _))) dict_ba
    have ha : ∀ p ∈ [(a, baObj b.toArray)], p.1 ≠ d := fun p hp => by rw [List.mem_singleton.mp hp]; exact h2.symm
    refine x_set <| ld 3 S <| ld 0 S <| ?_
    refine a_old 6 1 S ha e (fun es n s e S => ?_) (hv := Nat.le_refl 2)
    refine x_ret <| e_call <| b_bytes S <| cw_ty <| s_more <| e_sub <| e_att <| ld 0 S <| a_own 7 0 S (S.ob (.head _) (.tail _ (.head _)) e) fun s S _ => ?_
    refine e_cut <| pt_some <| ld 2 S <| pt_some <| ld 3 S ?_
    refine r_bacut S (S.N _ (.tail _ (.tail _ (.head _)))).1 (.int _ _) (.int _ _) (by omega) fun y s S hy k1 => s_nil ?_
    refine r_bybytes S (S.N _ (.head _)).1 (Nat.le_trans (cutL_len _ _ _) (by omega)) fun t s S _ => ?_
    refine ⟨S.doneG, ⟨t, ?_⟩, es, n, tq, fun q hq => ⟨(S.N q (.tail _ hq)).1, (S.N q (.tail _ hq)).2.2⟩, ?_⟩
    · rw [cut_mid (by omega) (by omega), hq]
      congr 2
      have : (b.drop p).length = b.length - p := List.length_drop ..
      by_cases z : p + k ≤ b.length
      · rw [show min (p + k) b.length - p = k by omega]
      · rw [List.take_of_length_le (by omega), List.take_of_length_le (by omega)]
    · rw [← hq]; exact e
  refine x_if <| t_and <| t_cmp <| ld 1 S <| c_nat 0 S fun u s S => p_ge <| t_bool <| ite_yes (decide_eq_true (Nat.zero_le _)) ?_
  refine t_and <| t_cmp <| e_bin <| ld 2 S <| ld 1 S <| p_add S fun u s S => ld 3 S <| p_lt <| t_bool <| ite_two (fun hq => ?_) fun hq => ?_
  · refine t_and0 <| ite_yes rfl ?_
    have hq' : p + k < b.length := of_decide_eq_true hq
    refine x_asg <| e_bin <| ld 2 S <| ld 1 S <| p_add S fun u s S => st 3 S fun s S => x_nil ?_
    exact tail (p + k) u s (by omega) S
  · refine ite_no Bool.false_ne_true <| x_nil ?_
    have hq' : ¬ p + k < b.length := fun z => hq (decide_eq_true z)
    exact tail b.length u2 s (by omega) S
end Mine
end

section
set_option Elab.async false
set_option maxRecDepth 100000
set_option linter.unusedVariables false
open PySem PySem.W PyProof.Rows PySem.Calls
namespace Mine
theorem ok_gah (a : Args) : okc (.builtin "proto.getattr_hooked" a) = true := by show (!(Builtin.Bytes.decodersThatHold.contains "proto.getattr_hooked")) = true; decide +kernel
theorem ok_prop (a : Args) : okc (.builtin "property.__get__" a) = true := by show (!(Builtin.Bytes.decodersThatHold.contains "property.__get__")) = true; decide +kernel
theorem gah_plain : plainId "proto.getattr_hooked" = true := by decide +kernel
/-- the getter of a property: its def, one frame deeper -/
theorem codeN_prop {w : World} {A : Around} {R : Result → Shared → Prop} {s : Shared} {p x fget : Addr} {rest : List Value} {tp : Value} (X : (KF w.params).In s.heap) (hp : recIn (KF w.params) p "property" = some (.ref fget :: rest))
    (h : codeN (model PW w) A (.call (.ref fget) ⟨[.ref x], []⟩) R s) : codeN (model PW w) A (.call (.builtin "property.__get__") ⟨[.ref p, .ref x, tp], []⟩) R s := by
  obtain ⟨d, sl, ho⟩ := rec_of X hp
  refine codeN_call_builtin (plainId_quiet KF.slot_prop.plain _) (KF.slot_prop.check _ _ _ _ _ _ _ _ ⟨_, ho, rfl⟩ (KF.args_prop _ _ _) ?_)
  refine codeN_builtin (M := model PW w) KF.entry_prop (ok_prop _) (W.out (c := ⟨w, fun _ => none, fun _ => none, s.heap, 0, s.gens, s.os⟩) ?_)
  unfold Builtin.«property.__get__»
  refine W.bind (m := Builtin.Getset_descriptor.descrGetArgs ⟨[.ref p, .ref x, tp], []⟩) ?_
  rw [dga_obj]
  refine W.pure ?_
  refine W.bind (m := field (.ref p) 0) (W.mk ((looks_field (M := model PW w) ho 0 (v := .ref fget) rfl).here ?_))
  refine W.ite (ite_no Bool.false_ne_true ?_)
  exact W.pure ⟨rfl, h⟩
section
variable {c : Cx} {m : Str → Option Value} {A : Around} {E : Value → Shared → Prop} {s : Shared} {news : List (Addr × Obj)} {env : Env} {x C d : Addr} {ns : List Str} {vs : List Value} {name : Str} {v : Value}
/-- a property's value -/
theorem a_prop (k : Nat) {p fget : Addr} {expr : Bool} {P : Value → Shared → Prop} {Q : Value → Shared → Prop} (S : St c m news s) (O : Ob s.heap x C ns vs)
    (g : ∀ s', St c m news s' → Ext s s' → Gives c.w A.in1 (.ref fget) [.ref x] [] P s') (hP : ∀ v s', P v s' → handedIn v = true) (h : ∀ v s', St c m news s' → Ext s s' → P v s' → Q v s')
    (hk : asks[k]? = some (.prop C name p fget) := by rfl) : W c A (getAttr (.ref x) name expr) Q E s := by
  obtain ⟨d, es, n, a, b, e⟩ := O
  have q := ask c.w.params k hk
  simp only [Ask.ok, propOk, Bool.and_eq_true, beq_iff_eq] at q
  obtain ⟨⟨⟨⟨⟨q1, q2⟩, q3⟩, q4⟩, q5⟩, q6⟩ := q
  obtain ⟨r, hr, hn⟩ := any_some q6
  cases r with
  | nil => cases hn
  | cons f' rest =>
    have hf : f' = .ref fget := by simpa using hn
    subst hf
    have X := S.gl.K
    have I : InstAt s.heap x (instObj C d) C (some (dictOf es n)) := ⟨a, rfl, rfl, b⟩
    have hga := (plainGet_of q1).1
    have hfind := findObj_data (name := name) (od := dictOf es n) (by obtain ⟨cd, hc, _⟩ := any_some q2; rw [hc]; rfl : (clsIn (KF c.w.params) C).isSome = true) q3 q4 q5
    have L0 := I.type (M := model PW c.w)
    have L1 := looks_findIn (M := model PW c.w) X hga
    unfold getAttr getAttrBy
    refine W.bind (m := mkText name) (W.mk (wpAny_mkText ?_))
    have S1 : St c m news { s with toks := s.toks + 1 } := S.at rfl rfl rfl
    refine W.hold (W.bind (m := typeOf (.ref x)) (W.mk (L0.here (s := { s with toks := s.toks + 1 }) ?_)))
    refine W.bind (m := typeLookup (.ref C) "__getattribute__") (W.mk (L1.here (s := { s with toks := s.toks + 1 }) ?_))
    show W c A (getAttrEveryday _ _ _) _ _ _
    unfold getAttrEveryday
    refine W.then (P := fun v s' => P v s' ∧ Ext s s' ∧ St c m news s') (W.onRaise (W.run ?_)) fun v s' q => ?_
    · refine codeN_builtin (M := model PW c.w) F.plainObj_entry_getattr_hooked (ok_gah _) (W.out (c := c) ?_)
      rw [Around.under_plainId gah_plain _]
      unfold Builtin.«proto.getattr_hooked»
      have LF := looks_find (M := model PW c.w) X I hfind
      have LG := looks_findIn (M := model PW c.w) X (plainGet_of q1).2
      refine W.bind (m := pure name) (W.pure ?_)
      refine W.bind (m := typeOf (.ref x)) (W.mk (L0.here (s := { s with toks := s.toks + 1 }) ?_))
      refine W.bind (m := Builtin.ObjectAttr.find (.ref x) (.ref C) name) (W.mk (LF.here (s := { s with toks := s.toks + 1 }) ?_))
      refine W.bind (m := typeLookup (.ref C) "__getattr__") (W.mk (LG.here (s := { s with toks := s.toks + 1 }) ?_))
      show W c _ (holding [.ref p] (PySem.call (.builtin "property.__get__") [.ref p, .ref x, .ref C]) >>= ret) _ _ _
      refine W.then (P := fun v s' => P v s' ∧ Ext s s' ∧ St c m news s') (W.hold (W.call (codeN_prop (s := { s with toks := s.toks + 1 }) X hr ((g _ S1 ⟨fun _ _ e => e, rfl, rfl⟩).mono fun r s' q => ?_)))) fun v s' q => W.pure q
      match r, q with
      | .ok (.ret v), q => exact ⟨q.2, ⟨q.1.keep, q.1.gens, q.1.os⟩, S1.ext q.1⟩
      | .ok .next, q => exact q.elim
      | .ok .brk, q => exact q.elim
      | .ok .cont, q => exact q.elim
      | .error _, q => exact q.elim
    · rw [handedOut_of (hP _ _ q.1)]
      exact W.pure (h _ _ q.2.2 q.2.1 q.1)
end
end Mine
end

section
set_option Elab.async false
set_option maxRecDepth 100000
set_option linter.unusedVariables false
open PySem PySem.W PyProof.Rows PySem.Calls
namespace Mine
section
variable {c : Cx} {m : Str → Option Value} {A : Around} {E : Value → Shared → Prop} {s : Shared} {news : List (Addr × Obj)} {env : Env}
theorem isDict {a : Addr} {s : Shared} (h : s.heap.get? a = some emptyDict) : s.TypeIs (.ref a) "dict" := ⟨_, h, rfl⟩
theorem W.forOne {α β : Type} {a : α} {b : β} {f : α → β → Sem (ForInStep β)} {Q : β → Shared → Prop} (h : W c A (f a b) (fun r s' => match r with | .done b => Q b s' | .yield b => Q b s') E s) : W c A (forIn [a] b f) Q E s := by
  rw [List.forIn_cons]
  refine W.then h fun r s' q => ?_
  cases r with
  | done b => exact W.pure q
  | yield b => exact W.pure q
theorem dict_sub : isSubtype (.type "dict") (.type "dict") = pure true := by rw [isSubtype_type]; kernel_rfl
theorem dict_iter : typeLookup (.type "dict") "__iter__" = pure (some (.builtin "dict.__iter__")) := by rw [typeLookup_type, builtinLookup_eq_fast]; kernel_rfl
theorem merge_empty {d a : Addr} {Q : Unit → Shared → Prop} (ha : s.heap.get? a = some emptyDict) (hd : s.heap.get? d = some emptyDict) (hn : a ≠ sysModules) (h : Q () s) : W c A (mergeMapping d (.ref a) true) Q E s := by
  unfold mergeMapping
  refine W.bind (m := isInstance (.ref a) (.type "dict")) (W.mk (wpAny_isInstance (isDict ha) dict_sub ?_))
  refine W.ite (ite_yes rfl ?_)
  refine W.bind (m := specialOf (.ref a) "__iter__") (W.mk (wpAny_specialOf (isDict ha) dict_iter ?_))
  refine W.bind (W.pure ?_)
  show W c A (if (a == sysModules) = true then _ else _) Q E s
  refine W.ite (ite_no (by simpa using hn) ?_)
  refine W.bind (m := dictEntries d) (W.mk (wpAny_dictEntries hd rfl ?_))
  refine W.ite (ite_yes rfl ?_)
  refine W.bind (m := dictEntries a) (W.mk (wpAny_dictEntries ha rfl ?_))
  refine W.bind (W.pure ?_)
  refine W.bind (m := dictEntries a) (W.mk (wpAny_dictEntries ha rfl ?_))
  refine W.bind (m := dictEpoch a) (W.mk (wpAny_dictEpoch ha rfl ?_))
  exact W.bind (W.pure (W.pure h))
/-- ** of an empty dict -/
theorem merged_empty {f : Value} {kx : Sem Value} {Q : Addr → Shared → Prop}
    (h : ∀ d s₂, s₂ = { s with heap := s.heap.push emptyDict } → d = s.heap.objs.size → W c A kx (fun kv s₃ => ∃ a, kv = .ref a ∧ a ≠ sysModules ∧ s₃.heap.get? a = some emptyDict ∧ s₃.heap.get? d = some emptyDict ∧ Q d s₃) E s₂) :
    W c A (mergedKeywords f [(none, kx)]) Q E s := by
  unfold mergedKeywords
  refine W.bind (m := alloc emptyDict) (W.mk (wpAny_alloc ?_))
  refine W.bind (W.hold ?_)
  refine W.bind (W.forOne ?_)
  refine W.bind (W.pure ?_)
  refine W.then (m := kx) (h _ _ rfl rfl) fun kv s₃ q => ?_
  obtain ⟨a, rfl, hn, ha, hd, q⟩ := q
  refine W.bind (W.onRaise (W.hold (W.tryCatch (W.onRaise (merge_empty ha hd hn ?_)))))
  refine W.pure ?_
  exact W.pure (W.pure q)
theorem keywords_empty {f : Value} {d : Addr} {Q : List (Str × Value) → Shared → Prop} (hd : s.heap.get? d = some emptyDict) (h : Q [] s) : W c A (keywordsIn f d) Q E s := by
  unfold keywordsIn
  refine W.bind (m := dictEntries d) (W.mk (wpAny_dictEntries hd rfl ?_))
  exact W.bind (W.pure (W.pure h))
/-- the arguments of a call with a plain first, *args (or none), and ** of an empty dict -/
theorem ev_star {f : Value} {x kx : Sem Value} {rest : List (Bool × Sem Value)} {Q : Args → Shared → Prop}
    (h : W c A (spliced ((false, x) :: rest)) (fun vs s₁ => ∀ d s₂, s₂ = { s₁ with heap := s₁.heap.push emptyDict } → d = s₁.heap.objs.size → W c A kx (fun kv s₃ => ∃ a, kv = .ref a ∧ a ≠ sysModules ∧ s₃.heap.get? a = some emptyDict ∧ s₃.heap.get? d = some emptyDict ∧ Q ⟨vs, []⟩ s₃) E s₂) E s) :
    W c A (evalArgs f true ((false, x) :: rest) [(none, kx)]) Q E s := by
  unfold evalArgs
  show W c A (spliced ((false, x) :: rest) >>= _) Q E s
  refine W.then h fun vs s' h' => W.hold ?_
  refine W.ite (ite_no Bool.false_ne_true ?_)
  refine W.then (P := fun d s₃ => s₃.heap.get? d = some emptyDict ∧ Q ⟨vs, []⟩ s₃) (m := mergedKeywords f [(none, kx)]) (merged_empty fun d s₂ e1 e2 => (h' d s₂ e1 e2).mono (fun kv s₃ q => ?_) fun _ _ q => q) fun d s₃ q => ?_
  · obtain ⟨a, q1, q2, q3, q4, q5⟩ := q
    exact ⟨a, q1, q2, q3, q4, q4, q5⟩
  · refine W.bind (W.pure ?_)
    exact W.bind (W.hold (keywords_empty q.1 (W.pure q.2)))
theorem cw_star {f : Value} {pos : Pos} {first : List Value} {P : Heap → Prop} {args : List (Bool × Sem Value)} {kws : List (Option Str × Sem Value)} {Q : Value → Shared → Prop} (hst : (args.any (·.1) || kws.any (·.1.isNone)) = true)
    (hk : ∀ h, P h → ∃ k, (k = Keeper.frame ∨ k = Keeper.machine ∨ k = Keeper.boundFrame) ∧ Looks (model PW c.w) h (keeperOf f) k)
    (h : W c A (evalArgs f true args kws) (fun a s₁ => P s₁.heap ∧ W c A (call f (first ++ a.pos) a.kw) Q E s₁) E s) : W c A (callWith pos f first args kws) Q E s := by
  unfold callWith
  refine W.then (W.hold h) fun a s₁ h₁ => W.stand ?_
  obtain ⟨k, hk', L⟩ := hk _ h₁.1
  simp only [hst]
  refine W.bind (W.mk (L.here ?_))
  have tail : ∀ {t : Sem Value}, W c A t Q E s₁ → W c A (t >>= fun r => holding [r] point >>= fun _ => pure r) Q E s₁ :=
    fun ht => W.then ht fun r s₂ hr => W.bind (W.hold (W.mk (wpAny_point (W.pure hr))))
  have marked : ∀ mk : Value, W c A (callMarked mk f (first ++ a.pos) a.kw) Q E s₁ := fun mk => W.keep h₁.2
  rcases hk' with rfl | rfl | rfl <;> dsimp only <;> first | exact tail (marked _) | exact tail (W.opr h₁.2)
/-- *args of a tuple -/
theorem s_star {x : Sem Value} {pos : Pos} {rest : List (Bool × Sem Value)} {Q : List Value → Shared → Prop} {vs : List Value} {m : Str → Option Value} {news : List (Addr × Obj)} (hz : vs.length ≤ 1000)
    (h : W c A x (fun v s₁ => ∃ a, v = .ref a ∧ St c m news s₁ ∧ (a, tupObj vs) ∈ news ∧ ∀ s₂, St c m news s₂ → W c A (spliced rest) (fun us s₃ => Q (vs ++ us) s₃) E s₂) E s) :
    W c A (spliced ((true, (do let v ← x; standAt pos; pure v)) :: rest)) Q E s := by
  rw [spliced]
  refine W.bind (W.then h fun v s₁ q => W.stand (W.pure ?_))
  obtain ⟨a, rfl, S, hm, q⟩ := q
  have z := star_seq (prog := PW) (w := c.w) (A := A) (E := E) (Q := fun here s₂ => here = vs ∧ St c m news s₂) S.F S.N hm rfl rfl (.inr rfl) rfl (by rw [sizeLine_eq, List.size_toArray]; omega) fun h' F' N' => ⟨rfl, S.re (tk := s₁.toks) F' N'⟩
  unfold StarOf at z
  refine W.bind ?_
  refine W.mono (W.mk z) (fun b s₂ h₂ => ?_) fun _ _ q => q
  obtain ⟨rfl, h₂⟩ := h₂
  refine W.ite (ite_no Bool.false_ne_true ?_)
  refine W.bind ?_
  refine W.mono (W.mk h₂) (fun here s₃ h₃ => ?_) fun _ _ q => q
  obtain ⟨rfl, S3⟩ := h₃
  exact W.then (W.hold (q _ S3)) fun us s₄ q => W.pure q
end
end Mine
end

section
set_option Elab.async false
set_option maxRecDepth 100000
set_option linter.unusedVariables false
open PySem PySem.W PyProof.Rows PySem.Calls
namespace Mine
def bmOk (K : Frag) (C : Addr) (name : Str) (f : Addr) : Bool := plainGet K C name && hasDictIn K C && findIn K (.ref C) name == some (some (.ref f)) && isFn K (.ref f) && specialIn K (.ref f) "__get__" == some (some (.builtin "function.__get__")) && takesIn K (.ref f) == some false && !copiedNames.contains name && fnIn K f
theorem bm_prv (P : Params) : bmOk (KF P) 1205 (.ofString "write_to") 1184 = true := by kernel_rfl
theorem bm_hd (P : Params) : bmOk (KF P) 1420 (.ofString "write_to") 1287 = true := by kernel_rfl
theorem codeN_meth {w : World} {A : Around} {R : Result → Shared → Prop} {s : Shared} {q f : Addr} {self : Value} {pos : List Value} {kw : List (Str × Value)} (ho : s.heap.get? q = some (methodObj (.ref f) self))
    (h : codeN (model PW w) A (.call (.ref f) ⟨self :: pos, kw⟩) R s) : codeN (model PW w) A (.call (.ref q) ⟨pos, kw⟩) R s := by
  refine codeN.tree rfl fun Γ p hΓ _ => ?_
  refine (show wpAny (model PW w) A.in1 (callAny (.ref q) ⟨pos, kw⟩) (fun fin s' => match fin with | .done f => R (.ok f) s' | .again c' => c'.quiet = true ∧ codeN (model PW w) A c' R s') (fun e s' => R (.error e) s') s from ?_) Γ p hΓ
  refine nd_load ho ?_
  exact wpAny_pure ⟨rfl, h⟩
theorem Runs.meth {w A q f self pos kw g P s} (ho : s.heap.get? q = some (methodObj (.ref f) self)) (h : Runs w A (.ref f) (self :: pos) kw g P s) : Runs w A (.ref q) pos kw g P s := codeN_meth ho h
theorem Gives.meth {w A q f self pos kw P s} (ho : s.heap.get? q = some (methodObj (.ref f) self)) (h : Gives w A (.ref f) (self :: pos) kw P s) : Gives w A (.ref q) pos kw P s := codeN_meth ho h
theorem St.add {c : Cx} {m : Str → Option Value} {news l : List (Addr × Obj)} {s s' : Shared} (S0 : St c m news s) (S : St c m news s') (h : ∀ p ∈ l, s'.heap.get? p.1 = some p.2 ∧ s.heap.get? p.1 = none) : St c m (l ++ news) s' := by
  refine ⟨S.G, S.F, fun p hp => ?_, S.gens, S.os⟩
  rcases List.mem_append.mp hp with hp | hp
  · obtain ⟨h1, h2⟩ := h p hp
    obtain ⟨oL, es, ep, hL, _⟩ := S0.F.ns
    refine ⟨h1, fun e => ?_, ?_⟩
    · rw [e, hL] at h2; cases h2
    · cases q : c.g.get? p.1 with
      | none => rfl
      | some o => rw [S0.F.keep _ _ q] at h2; cases h2
  · exact S.N p hp
section
variable {c : Cx} {m : Str → Option Value} {A : Around} {E : Value → Shared → Prop} {s : Shared} {news : List (Addr × Obj)} {env : Env} {x C d : Addr} {ns : List Str} {vs : List Value} {name : Str}
theorem e_metha {o : Expr} {name : Str} {apos pos : Pos} {args : List Expr} {kws : List Keyword} {Q : Value → Shared → Prop}
    (h : W c A (eval o env) (fun ov s₁ => W c A (getAttr ov name true) (fun f s₂ => W c A (callWith pos f [] (backTo pos (starEach args env)) (backToKw pos (keywordEach kws env))) Q E s₂) E s₁) E s)
    (hb : baseOk o = true := by rfl) (hf : methodCallForm (args.length + kws.length) (backTo pos (starEach args env)) (backToKw pos (keywordEach kws env)) = false := by rfl) :
    W c A (eval (.Call (.Attribute o name apos) args kws pos) env) Q E s := by
  rw [arm_eval_Call, attributeBase_eq hb]
  refine W.then h fun ov s₁ h₁ => W.stand ?_
  unfold methodCall
  rw [hf]
  refine W.bind (W.hold ?_)
  unfold calleeOf
  refine W.then (m := getAttr ov name true) h₁ fun f s₂ h₂ => W.pure ?_
  unfold methodCallPos
  exact W.bind (W.pure h₂)
/-- the bound method of an object -/
theorem a_bm {f : Addr} {expr : Bool} {Q : Value → Shared → Prop} (hk : bmOk (KF c.w.params) C name f = true) (S : St c m news s) (O : Ob s.heap x C ns vs)
    (h : ∀ q s', St c m ((q, methodObj (.ref f) (.ref x)) :: news) s' → (∀ b o, s.heap.get? b = some o → s'.heap.get? b = some o) → (∀ p ∈ news, p.1 ≠ q) → Q (.ref q) s') (hi : ns.contains name = false := by kernel_rfl) : W c A (getAttr (.ref x) name expr) Q E s := by
  obtain ⟨d, es, n, a, b, e⟩ := O
  simp only [bmOk, Bool.and_eq_true, beq_iff_eq, Bool.not_eq_true'] at hk
  obtain ⟨⟨⟨⟨⟨⟨⟨q1, q2⟩, q3⟩, q4⟩, q5⟩, q6⟩, q7⟩, q8⟩ := hk
  have X := S.gl.K
  have I : InstAt s.heap x (instObj C d) C (some (dictOf es n)) := ⟨a, rfl, rfl, b⟩
  refine W.mk (get_bind X I (plainGet_of q1).1 (findObj_fn q2 q3 q5 q6 q7 (by show lookIn name (dictOf es n) = _; rw [lookIn_dict, getL_none e hi])) (plainGet_of q1).2
    (wpAny_call (fn_get (s := { s with toks := s.toks + 1 }) X (beq_iff_eq.mp q4) (handed_on rfl ?_))))
  exact h s.heap.objs.size _ ⟨S.G, S.F.push _, S.N.push S.F _, S.gens, S.os⟩ (fun b o e => Heap.get?_push_of_some _ e) fun p hp => Nat.ne_of_lt (Heap.lt_size (S.N p hp).1)
theorem cw_io0 {pos : Pos} {Q : Value → Shared → Prop} (S : St c m news s) (h : W c A (call (.ref 494) []) Q E s) :
    W c A (callWith pos (.ref 494) [] (backTo pos (starEach [] env)) []) Q E s :=
  cw_gen (P := (KF c.w.params).In) rfl (keeps_K (io_keep _)) (ev_none ⟨S.gl.K, h⟩)
theorem cw_io {pos : Pos} {e : Expr} {rest : List Expr} {Q : Value → Shared → Prop}
    (h : W c A (spliced (backTo pos (starEach (e :: rest) env))) (fun vs s₁ => (∃ m' news', St c m' news' s₁) ∧ W c A (call (.ref 494) vs) Q E s₁) E s) (hn : notStar e = true := by rfl) (hs : noStars rest = true := by rfl) :
    W c A (callWith pos (.ref 494) [] (backTo pos (starEach (e :: rest) env)) []) Q E s := by
  refine cw_gen (P := (KF c.w.params).In) (stars_false hn hs _ rfl) (keeps_K (io_keep _)) ?_
  rw [starEach_cons hn, backTo_cons] at h ⊢
  exact ev_plain (h.mono (fun vs s₁ h₁ => ⟨(by obtain ⟨_, _, S⟩ := h₁.1; exact S.gl.K), h₁.2⟩) fun _ _ q => q)
end
end Mine
end

section
set_option Elab.async false
set_option maxRecDepth 100000
set_option linter.unusedVariables false
open PySem PySem.W PyProof.Rows PySem.Calls
namespace Mine
theorem St.hidK {c : Cx} {m : Str → Option Value} {s : Shared} {news : List (Addr × Obj)} (T : List Addr) (S : St c m news s) (hT : ∀ a ∈ T, ∃ o, (a, o) ∈ news) : ∀ b o, c.g.get? b = some o → (hideAll s.heap T).get? b = some o := fun b o e =>
  hideAll_get _ (S.F.keep b o e) fun hh => by obtain ⟨o', ho⟩ := hT _ hh; rw [(S.N _ ho).2.2] at e; cases e
theorem hid_sz {h : Heap} (T : List Addr) : (hideAll h T).objs.size ≤ h.objs.size := Nat.le_of_eq (hideAll_size T h)
theorem St.bioT {c : Cx} {m : Str → Option Value} {s : Shared} {news : List (Addr × Obj)} {x d a : Addr} {es : List DictEntry} {n : Nat} {b : List UInt8} {p : Nat} {t : Tok} (S : St c m news s) (hb : ∀ q ∈ bio x d a es n b, q ∈ news) (e : Ents es bioN [.ref a, .int ((p : Nat) : Int) t]) : Bio (hideAll s.heap [x, d, a]) x d a b p s :=
  ⟨es, n, t, fun q hq => ⟨(S.N q (hb q hq)).1, hideAll_none _ (by
    rcases List.mem_cons.mp hq with rfl | hq
    · exact .head _
    · rcases List.mem_cons.mp hq with rfl | hq
      · exact .tail _ (.head _)
      · rw [List.mem_singleton.mp hq]; exact .tail _ (.tail _ (.head _)))⟩, e⟩
theorem bioHT {news : List (Addr × Obj)} {x d a : Addr} {es : List DictEntry} {n : Nat} {b : List UInt8} (hb : ∀ q ∈ bio x d a es n b, q ∈ news) : ∀ y ∈ [x, d, a], ∃ o, (y, o) ∈ news := fun y hy => by
  rcases List.mem_cons.mp hy with rfl | hy
  · exact ⟨_, hb _ (.head _)⟩
  · rcases List.mem_cons.mp hy with rfl | hy
    · exact ⟨_, hb _ (.tail _ (.head _))⟩
    · rw [List.mem_singleton.mp hy]; exact ⟨_, hb _ (.tail _ (.tail _ (.head _)))⟩
theorem bio_in {x d a : Addr} {es : List DictEntry} {n : Nat} {b : List UInt8} {p : Addr × Obj} (hp : p ∈ bio x d a es n b) : p.1 ∈ [x, d, a] := by
  rcases List.mem_cons.mp hp with rfl | hp
  · exact .head _
  · rcases List.mem_cons.mp hp with rfl | hp
    · exact .tail _ (.head _)
    · rw [List.mem_singleton.mp hp]; exact .tail _ (.tail _ (.head _))
section
variable {c : Cx} {A : Around} {E : Value → Shared → Prop} {s : Shared} {news : List (Addr × Obj)} {env : Env} {ns : List Str} {vs : List (Option Value)}
/-- a call f(a, *b, **k) of locals; k is empty -/
theorem cw_sk {f : Value} {first us : List Value} {pos p1 p2 p3 p4 p5 : Pos} {an bn kn : Str} {va : Value} {t dk : Addr} {P : Heap → Prop} {Q : Value → Shared → Prop} (ia ib ik : Nat) (S : St c (look ns vs) news s)
    (hk : ∀ h, P h → ∃ k, (k = Keeper.frame ∨ k = Keeper.machine ∨ k = Keeper.boundFrame) ∧ Looks (model PW c.w) h (keeperOf f) k) (hP : ∀ s', St c (look ns vs) news s' → P s'.heap)
    (ht : (t, tupObj us) ∈ news) (hd : (dk, emptyDict) ∈ news) (hdk : dk ≠ sysModules) (hz : us.length ≤ 1000) (h : ∀ s', St c (look ns vs) news s' → W c A (call f (first ++ (va :: us)) []) Q E s')
    (hL : env.locals = c.L := by rfl) (k1 : nmOk env an = true := by kernel_rfl) (k2 : nmOk env bn = true := by kernel_rfl) (k3 : nmOk env kn = true := by kernel_rfl)
    (i1 : idxOk ns an ia = true := by kernel_rfl) (i2 : idxOk ns bn ib = true := by kernel_rfl) (i3 : idxOk ns kn ik = true := by kernel_rfl)
    (v1 : vs[ia]? = some (some va) := by rfl) (v2 : vs[ib]? = some (some (.ref t)) := by rfl) (v3 : vs[ik]? = some (some (.ref dk)) := by rfl) :
    W c A (callWith pos f first (backTo pos (starEach [.Name an p1, .Starred (.Name bn p2) p3] env)) (backToKw pos (keywordEach [⟨none, .Name kn p4, p5⟩] env))) Q E s := by
  have e1 : backTo pos (starEach [.Name an p1, .Starred (.Name bn p2) p3] env) = [(false, eval (.Name an p1) env), (true, (do let v ← eval (.Name bn p2) env; standAt pos; pure v))] := rfl
  have e2 : backToKw pos (keywordEach [⟨none, .Name kn p4, p5⟩] env) = [(none, (do let v ← eval (.Name kn p4) env; standAt pos; pure v))] := rfl
  rw [e1, e2]
  refine cw_star (P := P) rfl hk ?_
  refine ev_star <| s_cons <| ld ia S (hL := hL) (hk := k1) (hi := i1) (hv := v1) ?_
  refine s_star (m := look ns vs) (news := news) hz <| ld ib S (hL := hL) (hk := k2) (hi := i2) (hv := v2) ⟨t, rfl, S, ht, fun s S => ?_⟩
  rw [spliced]
  refine W.pure ?_
  intro d s₂ e1 e2
  subst e1
  have S2 : St c (look ns vs) ((s.heap.objs.size, emptyDict) :: news) { s with heap := s.heap.push emptyDict } := ⟨S.G, S.F.push _, S.N.push S.F _, S.gens, S.os⟩
  refine W.then (ld ik S2 (Q := fun v s' => v = .ref dk ∧ St c (look ns vs) ((s.heap.objs.size, emptyDict) :: news) s') ⟨rfl, S2⟩ (hL := hL) (hk := k3) (hi := i3) (hv := v3)) fun v s3 q => W.stand (W.pure ?_)
  obtain ⟨rfl, S3⟩ := q
  refine ⟨dk, rfl, hdk, (S3.N _ (.tail _ hd)).1, ?_, hP _ S3.drop, ?_⟩
  · rw [e2]; exact (S3.N _ (.head _)).1
  · have := h _ S3.drop
    simpa using this
end
/-- EmbitBase.serialize: what the class's write_to writes -/
theorem C_ser784 {w mg mb A s x C f} {name : Str} {ns : List Str} {vs args : List Value} {out : List UInt8} {j : Nat} (G : Gl w mg mb s.heap) (R : Rm A (j + 20)) (O : Ob s.heap x C ns vs) (hbm : bmOk (KF w.params) C (.ofString "write_to") f = true) (hi : ns.contains (.ofString "write_to") = false)
    (hbind : bindArgs fd784 ⟨.ref x :: args, []⟩ = (do let t ← newTuple args; let d ← alloc emptyDict; pure ([PySem.Str.ofString "self"].zip [Value.ref x] ++ [(PySem.Str.ofString "args", t), (PySem.Str.ofString "kwargs", .ref d)]))) (hr : args.length ≤ 1000) (hout : out.length ≤ 10000)
    (hw : ∀ (A' : Around) g st d a s', Gl w mg mb g → Rm A' (j + 18) → (∀ b o, s.heap.get? b = some o → g.get? b = some o) → (∀ b o, g.get? b = some o → s'.heap.get? b = some o) → g.objs.size ≤ s'.heap.objs.size → Bio g st d a [] 0 s' →
      Runs w A' (.ref f) (.ref x :: .ref st :: args) [] g (fun _ s'' => Bio g st d a out out.length s'') s') :
    Gives w A (.ref 784) (.ref x :: args) [] (fun v _ => ∃ t, v = .bytes out.toArray t) s := by
  refine enterS (news := []) ["self"] ["stream"] "args" "kwargs" [.ref x] args G (fun _ _ e => e) (Nat.le_refl _) (fun p hp => nomatch hp) (R.less (by omega)) lk784 (defBody (methSt 37 3)) rfl cd784 (fun L s1 t dk hdk hL ek S => ?_) hbind hr
  refine W.mono (Q := fun fl s' => Ext s s' ∧ ∃ t : Tok, (match fl with | .ret v => v | _ => Value.none) = .bytes out.toArray t) (E := fun _ _ => False) ?_ (fun _ _ q => q) fun _ _ q => q.elim
  refine open_body rfl ?_
  refine x_asg <| e_call <| gl S g_BytesIO <| cw_io0 S ?_
  refine use S (C_bio0 S.gl ((Rm.deeper (n := j + 19) R).less (by omega))) fun v s2 S2 x2 P => ?_
  obtain ⟨st', rfl, d, a, es, n, tt, hB, e⟩ := P
  have S3 := St.add S S2 hB
  refine st 3 S3 fun s3 S3 => ?_
  refine x_expr <| e_metha <| ld 0 S3 <| a_bm hbm S3 (O.keeps S3.F.keep) (fun q s S k apq => ?_) hi
  have hfn : fnIn (KF w.params) f = true := by
    simp only [bmOk, Bool.and_eq_true] at hbm
    exact hbm.2
  refine cw_sk 3 1 2 S (keeps_M hfn) (fun s' S' => ⟨(S'.N _ (.head _)).1, S'.gl.K⟩) (.tail _ (.tail _ (.tail _ (.tail _ (.head _))))) (.tail _ (.tail _ (.tail _ (.tail _ (.tail _ (.head _)))))) hdk hr fun s4 S4 => ?_
  have hb : ∀ p ∈ bio st' d a es n [], p ∈ ((q, methodObj (.ref f) (.ref x)) :: (bio st' d a es n [] ++ [(t, tupObj args), (dk, emptyDict)])) := fun p hp => .tail _ (List.mem_append_left _ hp)
  have hT := bioHT hb
  refine useG [st', d, a] S4 hT (Runs.meth (S4.N _ (.head _)).1 (hw _ _ st' d a s4 (S4.glT _ hT) ((Rm.deeper (n := j + 19) R).less (by omega)) (S4.hidK _ hT) (fun b o e => of_hideAll _ e) (hid_sz _) (S4.bioT hb e))) fun v s5 keep mkS P => ?_
  obtain ⟨es', n', t', N', e'⟩ := P
  have S5 := mkS (bio st' d a es' n' out) fun p hp => ⟨(N' p hp).1, .inl (bio_in hp)⟩
  refine x_ret <| e_meth <| ld 3 S5 <| a_fn 12 S5 (S5.ob (.head _) (.tail _ (.head _)) e') <| cw_fn0 lk380 S5 ?_
  refine use S5 (C_getvalue S5.gl ((Rm.deeper (n := j + 19) R).less (by omega)) (S5.ob (.head _) (.tail _ (.head _)) e') (S5.N _ (.tail _ (.tail _ (.head _)))).1 (by omega)) fun v s S x ⟨t, e⟩ => ?_
  subst e
  exact ⟨⟨S.F.keep, S.gens, S.os⟩, t, rfl⟩
end Mine
end

section
set_option Elab.async false
set_option maxRecDepth 100000
set_option linter.unusedVariables false
set_option exponentiation.threshold 20000
open PySem PySem.W PyProof.Rows PySem.Calls
namespace Mine
section
variable {c : Cx} {m : Str → Option Value} {A : Around} {E : Value → Shared → Prop} {s : Shared} {news : List (Addr × Obj)} {env : Env} {a b : Nat} {t u : Tok} {Q : Value → Shared → Prop}
theorem p_ne (h : Q (.bool (!decide (a = b))) s) : W c A (compareOp .NotEq (.int a t) (.int b u)) Q E s :=
  W.mk (PyProof.Rows.ne_int (by
    have e : ((a : Int) != (b : Int)) = !decide (a = b) := by rw [Bool.eq_iff_iff]; simp [Int.ofNat_inj]
    rw [e]; exact h))
end
/-- the heap h without what stood in g -/
def newOnly (g h : Heap) : Heap := hideAll h ((List.range g.objs.size).filter fun b => (g.get? b).isSome)
theorem newOnly_of {g h : Heap} {b : Addr} {o : Obj} (e : (newOnly g h).get? b = some o) : h.get? b = some o := of_hideAll _ e
theorem newOnly_none {g h : Heap} {b : Addr} {o : Obj} (e : (newOnly g h).get? b = some o) : g.get? b = none := by
  cases q : g.get? b with
  | none => rfl
  | some o' =>
    have : (newOnly g h).get? b = none := hideAll_none _ (List.mem_filter.mpr ⟨List.mem_range.mpr (Heap.lt_size q), by rw [q]; rfl⟩)
    rw [this] at e; cases e
theorem newOnly_get {g h : Heap} {b : Addr} {o : Obj} (e : h.get? b = some o) (n : g.get? b = none) : (newOnly g h).get? b = some o :=
  hideAll_get _ e fun hm => by have := (List.mem_filter.mp hm).2; rw [n] at this; cases this
theorem newOnly_sub {g g' h h' : Heap} (hg : ∀ b, g.get? b = none → g'.get? b = none) (hh : ∀ b o, g.get? b = none → h.get? b = some o → h'.get? b = some o) : ∀ b o, (newOnly g h).get? b = some o → (newOnly g' h').get? b = some o := fun b o e =>
  newOnly_get (hh b o (newOnly_none e) (newOnly_of e)) (hg b (newOnly_none e))
theorem none_of_sub {g g' : Heap} (k : ∀ b o, g'.get? b = some o → g.get? b = some o) (b : Addr) (n : g.get? b = none) : g'.get? b = none := by
  cases q : g'.get? b with
  | none => rfl
  | some o => rw [k b o q] at n; cases n
theorem St.obN {c : Cx} {m : Str → Option Value} {s : Shared} {news : List (Addr × Obj)} {x C d : Addr} {es : List DictEntry} {n : Nat} {ns : List Str} {vs : List Value} (S : St c m news s) (hx : (x, instObj C d) ∈ news) (hd : (d, dictOf es n) ∈ news) (e : Ents es ns vs) : Ob (newOnly c.g s.heap) x C ns vs :=
  ⟨d, es, n, newOnly_get (S.N _ hx).1 (S.N _ hx).2.2, newOnly_get (S.N _ hd).1 (S.N _ hd).2.2, e⟩
theorem Ob.all {g h : Heap} {x C : Addr} {ns : List Str} {vs : List Value} (O : Ob (newOnly g h) x C ns vs) : Ob h x C ns vs := O.keeps fun _ _ e => newOnly_of e
abbrev prvN : List Str := [.ofString "compressed", .ofString "_secret", .ofString "network"]
abbrev pubN : List Str := [.ofString "_point", .ofString "compressed"]
theorem C_prv_init {w mg mb A s x d t g} {b : List UInt8} (G : Gl w mg mb g) (R : Rm A 15) (hb : b.length = 32) (hok : 0 < beN b ∧ beN b < prime) (sub : ∀ b o, g.get? b = some o → s.heap.get? b = some o) (hsz : g.objs.size ≤ s.heap.objs.size)
    (N : ∀ p ∈ [(x, instObj 1205 d), (d, dictOf [] 0)], s.heap.get? p.1 = some p.2 ∧ g.get? p.1 = none) :
    Runs w A (.ref 1068) [.ref x, .bytes b.toArray t] [] g (fun v s' => v = .none ∧ ∃ x', Value.ref x = .ref x' ∧ Ob (newOnly g s'.heap) x' 1205 prvN [.bool true, .bytes b.toArray t, .ref 177]) s := by
  refine runsG ["self", "secret", "compressed", "network"] [] [.ref x, .bytes b.toArray t, .bool true, .ref 177] G sub hsz N R.less lk1068 (defBody (methSt 42 0)) rfl cd1068 fun L s hL ek S => ?_
  refine open_body rfl ?_
  refine x_if <| t_cmp <| e_call <| b_len S <| cw_bt <| s_more <| ld 1 S <| s_nil ?_
  refine y_len S (by omega) fun u s S => c_nat 32 S fun u s S => p_ne <| t_bool ?_
  refine ite_no (by rw [hb]; decide) <| x_nil ?_
  refine x_if <| t_not <| t_val <| e_call <| gl S g_ec_seckey_verify <| cw_fn' lk153 <| s_more <| ld 1 S <| s_nil ⟨⟨_, _, S⟩, ?_⟩
  refine use S (C_verify S.gl R.deeper.less (by omega)) fun v s S x1 hv => ?_
  subst hv
  refine t_bool <| ite_no (by rw [decide_eq_true hok]; decide) <| x_nil ?_
  refine x_set <| ld 2 S <| ld 0 S <| a_new 21 S (fun _ h => nomatch h) (ns := []) (vs := []) trivial fun es n s e S => ?_
  refine x_set <| ld 1 S <| ld 0 S <| a_new 22 S (fun _ h => nomatch h) e fun es n s e S => ?_
  refine x_set <| ld 3 S <| ld 0 S <| a_new 23 S (fun _ h => nomatch h) e fun es n s e S => ?_
  refine x_nil ⟨S.doneG, rfl, x, rfl, S.obN (.head _) (.tail _ (.head _)) e⟩
theorem C_prv {w mg mb A s t} {b : List UInt8} (G : Gl w mg mb s.heap) (R : Rm A 20) (hb : b.length = 32) (hok : 0 < beN b ∧ beN b < prime) :
    Gives w A (.ref 1205) [.bytes b.toArray t] [] (fun v s' => ∃ x, v = .ref x ∧ Ob (newOnly s.heap s'.heap) x 1205 prvN [.bool true, .bytes b.toArray t, .ref 177]) s :=
  Runs.gives (mk 29 G fun x d h' k hz N => C_prv_init G R.under.less hb hok k hz N)
theorem C_pub_init {w mg mb A s x d t g} {b : List UInt8} (G : Gl w mg mb g) (R : Rm A 15) (sub : ∀ b o, g.get? b = some o → s.heap.get? b = some o) (hsz : g.objs.size ≤ s.heap.objs.size)
    (N : ∀ p ∈ [(x, instObj 1051 d), (d, dictOf [] 0)], s.heap.get? p.1 = some p.2 ∧ g.get? p.1 = none) :
    Runs w A (.ref 918) [.ref x, .bytes b.toArray t, .bool true] [] g (fun v s' => v = .none ∧ ∃ x', Value.ref x = .ref x' ∧ Ob (newOnly g s'.heap) x' 1051 pubN [.bytes b.toArray t, .bool true]) s := by
  refine runsG ["self", "point", "compressed"] [] [.ref x, .bytes b.toArray t, .bool true] G sub hsz N R.less lk918 (defBody (methSt 41 0)) rfl cd918 fun L s hL ek S => ?_
  refine open_body rfl ?_
  refine x_set <| ld 1 S <| ld 0 S <| a_new 13 S (fun _ h => nomatch h) (ns := []) (vs := []) trivial fun es n s e S => ?_
  refine x_set <| ld 2 S <| ld 0 S <| a_new 14 S (fun _ h => nomatch h) e fun es n s e S => ?_
  refine x_nil ⟨S.doneG, rfl, x, rfl, S.obN (.head _) (.tail _ (.head _)) e⟩
theorem C_pub {w mg mb A s t} {b : List UInt8} (G : Gl w mg mb s.heap) (R : Rm A 20) :
    Gives w A (.ref 1051) [.bytes b.toArray t, .bool true] [] (fun v s' => ∃ x, v = .ref x ∧ Ob (newOnly s.heap s'.heap) x 1051 pubN [.bytes b.toArray t, .bool true]) s :=
  Runs.gives (mk 19 G fun x d h' k hz N => C_pub_init G R.under.less k hz N)
theorem C_getpub {w mg mb A s x t v} {b : List UInt8} (G : Gl w mg mb s.heap) (R : Rm A 25) (hb : b.length = 32) (O : Ob s.heap x 1205 prvN [.bool true, .bytes b.toArray t, v]) :
    Gives w A (.ref 1141) [.ref x] [] (fun v s' => ∃ y u, v = .ref y ∧ Ob (newOnly s.heap s'.heap) y 1051 pubN [.bytes (toBE 32 (pnt (beN b))).toArray u, .bool true]) s := by
  refine enterW ["self"] [] [.ref x] G R.less lk1141 (defBody (methSt 42 9)) rfl cd1141 fun L s S => ?_
  refine open_body rfl ?_
  refine x_ret <| e_call <| gl S g_PublicKey <| cw_cls 19 S <| s_more <| e_call <| gl S g_ec_pubkey_create <| cw_fn' lk160 <| s_more <| e_att <| ld 0 S <| a_own 25 1 S (O.keeps S.F.keep) fun s S _ => s_nil ⟨⟨_, _, S⟩, ?_⟩
  refine use S (C_create S.gl R.deeper.less (by omega)) fun v s S x P => ?_
  obtain ⟨t', rfl⟩ := P
  refine s_more <| e_att <| ld 0 S <| a_own 24 0 S (O.keeps S.F.keep) fun s S _ => s_nil ⟨⟨_, _, S⟩, ?_⟩
  have S' := S
  refine use S (C_pub S.gl R.deeper.less) fun v s S x P => ?_
  obtain ⟨y, rfl, O⟩ := P
  exact ⟨S.done, y, t', rfl, O.keeps (newOnly_sub (none_of_sub S'.F.keep) fun _ _ _ e => e)⟩
theorem C_sec {w mg mb A s x t} {n : Nat} (G : Gl w mg mb s.heap) (R : Rm A 15) (hn : n < prime) (O : Ob s.heap x 1051 pubN [.bytes (toBE 32 n).toArray t, .bool true]) :
    Gives w A (.ref 935) [.ref x] [] (fun v s' => ∃ u, v = .bytes (ser n).toArray u) s := by
  refine enterW ["self"] ["flag"] [.ref x] G R.less lk935 (defBody (methSt 41 2)) rfl cd935 fun L s S => ?_
  refine open_body rfl ?_
  refine x_asg <| e_if <| t_val <| e_att <| ld 0 S <| a_own 16 1 S (O.keeps S.F.keep) fun s S _ => t_bool <| ite_yes rfl ?_
  refine glN 258 S g_EC_COMPRESSED fun u => st 1 S fun s S => ?_
  refine x_ret <| e_call <| gl S g_ec_pubkey_serialize <| cw_fn' lk168 <| s_more <| e_att <| ld 0 S <| a_own 15 0 S (O.keeps S.F.keep) fun s S _ => s_more <| ld 1 S <| s_nil ⟨⟨_, _, S⟩, ?_⟩
  refine use S (C_ser S.gl R.deeper.less hn) fun v s S x P => ?_
  obtain ⟨t', rfl⟩ := P
  exact ⟨S.done, t', rfl⟩
theorem C_pub_ser {w mg mb A s x t} {n : Nat} (G : Gl w mg mb s.heap) (R : Rm A 20) (hn : n < prime) (O : Ob s.heap x 1051 pubN [.bytes (toBE 32 n).toArray t, .bool true]) :
    Gives w A (.ref 964) [.ref x] [] (fun v s' => ∃ u, v = .bytes (ser n).toArray u) s := by
  refine enterW ["self"] [] [.ref x] G R.less lk964 (defBody (methSt 41 6)) rfl cd964 fun L s S => ?_
  refine open_body rfl ?_
  refine x_ret <| e_meth <| ld 0 S <| a_fn 18 S (O.keeps S.F.keep) <| cw_fn0 lk935 S ?_
  refine use S (C_sec S.gl R.deeper.less hn (O.keeps S.F.keep)) fun v s S x P => ?_
  obtain ⟨t', rfl⟩ := P
  exact ⟨S.done, t', rfl⟩
theorem C_pub_isp {w mg mb A s x} (G : Gl w mg mb s.heap) (R : Rm A 5) : Gives w A (.ref 1012) [.ref x] [] (fun v s' => v = .bool false) s := by
  refine enterW ["self"] [] [.ref x] G R.less lk1012 (defBody (methSt 41 12)) rfl cd1012 fun L s S => ?_
  exact open_body rfl <| x_ret <| c_bool ⟨S.done, rfl⟩
theorem C_prv_isp {w mg mb A s x} (G : Gl w mg mb s.heap) (R : Rm A 5) : Gives w A (.ref 1201) [.ref x] [] (fun v s' => v = .bool true) s := by
  refine enterW ["self"] [] [.ref x] G R.less lk1201 (defBody (methSt 42 17)) rfl cd1201 fun L s S => ?_
  exact open_body rfl <| x_ret <| c_bool ⟨S.done, rfl⟩
end Mine
end

section
set_option Elab.async false
set_option maxRecDepth 100000
set_option linter.unusedVariables false
set_option exponentiation.threshold 20000
open PySem PySem.W PyProof.Rows PySem.Calls
namespace Mine
section
variable {c : Cx} {m : Str → Option Value} {A : Around} {E : Value → Shared → Prop} {s : Shared} {st d a : Addr} {es : List DictEntry} {n : Nat} {b : List UInt8} {t ut : Tok}
theorem r_write {k : List UInt8} {Q : Value → Shared → Prop} (S : St c m (bio st d a es n b) s) (e : Ents es bioN [.ref a, .int ((b.length : Nat) : Int) ut]) (R : Rm A 10) (hk : k ≠ []) (hz : b.length + k.length ≤ 10000)
    (h : ∀ u es n ut s', St c m (bio st d a es n (b ++ k)) s' → Ents es bioN [.ref a, .int (((b ++ k).length : Nat) : Int) ut] → (∀ y o, y ∉ [st, d, a] → s.heap.get? y = some o → s'.heap.get? y = some o) → Q (.int (k.length : Nat) u) s') :
    W c A (call (.ref 477) [.ref st, .bytes k.toArray t]) Q E s := by
  have hT := bioHT (x := st) (d := d) (a := a) (es := es) (n := n) (b := b) (news := bio st d a es n b) fun _ h => h
  refine useG [st, d, a] S hT (C_write (S.glT _ hT) R (fun b o e => of_hideAll _ e) (hid_sz _) (S.bioT (fun _ h => h) e) hk hz) fun v s' keep mkS P => ?_
  obtain ⟨u, rfl, es', n', t', N', e'⟩ := P
  exact h u es' n' t' s' (mkS (bio st d a es' n' (b ++ k)) fun p hp => ⟨(N' p hp).1, .inl (bio_in hp)⟩) e' keep
theorem r_read {p k : Nat} {Q : Value → Shared → Prop} (S : St c m (bio st d a es n b) s) (e : Ents es bioN [.ref a, .int ((p : Nat) : Int) ut]) (R : Rm A 10) (hp : p ≤ b.length) (hk : k ≤ 10000) (hz : b.length ≤ 10000)
    (h : ∀ u es n ut s', St c m (bio st d a es n b) s' → Ents es bioN [.ref a, .int ((min (p + k) b.length : Nat) : Int) ut] → (∀ y o, y ∉ [st, d, a] → s.heap.get? y = some o → s'.heap.get? y = some o) → Q (.bytes ((b.drop p).take k).toArray u) s') :
    W c A (call (.ref 418) [.ref st, .int (k : Nat) t]) Q E s := by
  have hT := bioHT (x := st) (d := d) (a := a) (es := es) (n := n) (b := b) (news := bio st d a es n b) fun _ h => h
  refine useG [st, d, a] S hT (C_read (S.glT _ hT) R (fun b o e => of_hideAll _ e) (hid_sz _) (S.bioT (fun _ h => h) e) hp hk hz) fun v s' keep mkS P => ?_
  obtain ⟨⟨u, rfl⟩, es', n', t', N', e'⟩ := P
  exact h u es' n' t' s' (mkS (bio st d a es' n' b) fun p hp => ⟨(N' p hp).1, .inl (bio_in hp)⟩) e' keep
theorem St.bob (S : St c m (bio st d a es n b) s) {vs : List Value} (e : Ents es bioN vs) : Ob s.heap st 494 bioN vs := S.ob (.head _) (.tail _ (.head _)) e
theorem St.bioD {w : World} {mg mb : Str → Option Value} {g : Heap} {L : Addr} {s : Shared} {s0 : Shared} {p : Nat} (S : St (cg w mg mb g s0 L) m (bio st d a es n b) s) (e : Ents es bioN [.ref a, .int ((p : Nat) : Int) ut]) : Bio g st d a b p s :=
  ⟨es, n, ut, fun p hp => ⟨(S.N p hp).1, (S.N p hp).2.2⟩, e⟩
end
theorem C_prv_write {w mg mb A s x st d a t g v} {b : List UInt8} (G : Gl w mg mb g) (R : Rm A 18) (sub : ∀ b o, g.get? b = some o → s.heap.get? b = some o) (hsz : g.objs.size ≤ s.heap.objs.size) (B : Bio g st d a [] 0 s)
    (hb : b.length = 32) (O : Ob g x 1205 prvN [.bool true, .bytes b.toArray t, v]) :
    Runs w A (.ref 1184) [.ref x, .ref st] [] g (fun _ s' => Bio g st d a b b.length s') s := by
  obtain ⟨es, n, ut, N, e⟩ := B
  refine runsG ["self", "stream"] [] [.ref x, .ref st] G sub hsz N R.less lk1184 (defBody (methSt 42 15)) rfl cd1184 fun L s hL ek S => ?_
  refine open_body rfl ?_
  refine x_ret <| e_meth <| ld 1 S <| a_fn 10 S (S.bob e) <| cw_fn lk477 <| s_more <| e_att <| ld 0 S <| a_own 25 1 S (O.keeps S.F.keep) fun s S _ => s_nil ⟨⟨_, _, S⟩, ?_⟩
  refine r_write (b := []) S e R.deeper.less (fun z => by rw [z] at hb; cases hb) (by simp [hb]) fun u es n ut s S e _ => ⟨S.doneG, S.bioD e⟩
theorem C_prv_ser {w mg mb A s x t v} {b : List UInt8} (G : Gl w mg mb s.heap) (R : Rm A 20) (hb : b.length = 32) (O : Ob s.heap x 1205 prvN [.bool true, .bytes b.toArray t, v]) :
    Gives w A (.ref 784) [.ref x] [] (fun v _ => ∃ t, v = .bytes b.toArray t) s :=
  C_ser784 (name := .ofString "") (args := []) G R O (bm_prv _) (by kernel_rfl) (by kernel_rfl) (by decide) (by omega) fun A' g st d a s' G' R' k1 k2 k3 B => C_prv_write G' R' k2 k3 B hb (O.keeps k1)

/-! a key, private or public: what it serializes to -/
def KeyOb (h : Heap) (k : Addr) (p : Bool) (body : List UInt8) : Prop := match p with
  | true => ∃ t, Ob h k 1205 prvN [.bool true, .bytes body.toArray t, .ref 177] ∧ body.length = 32
  | false => ∃ n t, Ob h k 1051 pubN [.bytes (toBE 32 n).toArray t, .bool true] ∧ n < prime ∧ body = ser n
theorem KeyOb.keeps {h h' : Heap} {k : Addr} {p : Bool} {body : List UInt8} (K : KeyOb h k p body) (x : ∀ b o, h.get? b = some o → h'.get? b = some o) : KeyOb h' k p body := by
  cases p with
  | true => obtain ⟨t, O, e⟩ := K; exact ⟨t, O.keeps x, e⟩
  | false => obtain ⟨n, t, O, e⟩ := K; exact ⟨n, t, O.keeps x, e⟩
theorem KeyOb.len {h : Heap} {k : Addr} {p : Bool} {body : List UInt8} (K : KeyOb h k p body) : body.length = if p = true then 32 else 33 := by
  cases p with
  | true => obtain ⟨t, O, e⟩ := K; exact e
  | false => obtain ⟨n, t, O, hn, e⟩ := K; rw [e, ser_len]; rfl
section
variable {c : Cx} {m : Str → Option Value} {A : Around} {E : Value → Shared → Prop} {s : Shared} {news : List (Addr × Obj)} {env : Env} {k : Addr} {p : Bool} {body : List UInt8} {Q : Value → Shared → Prop}
theorem km_ser {pos : Pos} {pl : Sem Bool} (S : St c m news s) (K : KeyOb s.heap k p body) (R : Rm A 20) (h : ∀ t s', St c m news s' → Ext s s' → Q (.bytes body.toArray t) s') :
    W c A (getMethod (.ref k) (.ofString "serialize") pl) (fun fx s₂ => W c A (callWith pos fx.1 fx.2 (backTo pos (starEach [] env)) (backToKw pos (keywordEach [] env))) Q E s₂) E s := by
  cases p with
  | true =>
    obtain ⟨t, O, e⟩ := K
    refine a_fn 26 S O <| cw_fn0 lk784 S <| use S (C_prv_ser S.gl R e O) fun v s S x P => ?_
    obtain ⟨t', rfl⟩ := P
    exact h _ _ S x
  | false =>
    obtain ⟨n, t, O, hn, e⟩ := K
    subst e
    refine a_fn 17 S O <| cw_fn0 lk964 S <| use S (C_pub_ser S.gl R hn O) fun v s S x P => ?_
    obtain ⟨t', rfl⟩ := P
    exact h _ _ S x
theorem km_isp {expr : Bool} (S : St c m news s) (K : KeyOb s.heap k p body) (R : Rm A 6) (h : ∀ s', St c m news s' → Ext s s' → Q (.bool p) s') : W c A (getAttr (.ref k) (.ofString "is_private") expr) Q E s := by
  cases p with
  | true =>
    obtain ⟨t, O, e⟩ := K
    refine a_prop 30 (P := fun v _ => v = .bool true) S O (fun s' S' x => C_prv_isp S'.gl R.in1.less) (fun v s' e => by rw [e]; rfl) fun v s' S' x e => ?_
    subst e
    exact h _ S' x
  | false =>
    obtain ⟨n, t, O, hn, e⟩ := K
    refine a_prop 20 (P := fun v _ => v = .bool false) S O (fun s' S' x => C_pub_isp S'.gl R.in1.less) (fun v s' e => by rw [e]; rfl) fun v s' S' x e => ?_
    subst e
    exact h _ S' x
end

/-! an HDKey -/
structure Hd where
  p : Bool
  ver : List UInt8
  chain : List UInt8
  depth : Nat
  fp : List UInt8
  cn : Nat
  body : List UInt8
def Hd.head (H : Hd) : List UInt8 := H.ver ++ [UInt8.ofNat H.depth] ++ H.fp ++ toBE 4 H.cn ++ H.chain
def Hd.octs (H : Hd) : List UInt8 := (if H.p = true then H.head ++ [0] else H.head) ++ H.body
structure Hd.Ok (H : Hd) : Prop where
  ver : H.ver.length = 4
  chain : H.chain.length = 32
  fp : H.fp.length = 4
  depth : H.depth < 256
  cn : H.cn < 256 ^ 4
  nz : H.ver.getD 0 0 ≠ 0
abbrev hdN : List Str := [.ofString "key", .ofString "version", .ofString "chain_code", .ofString "depth", .ofString "fingerprint", .ofString "_my_fingerprint", .ofString "child_number"]
def HdOb (h : Heap) (x : Addr) (H : Hd) : Prop := ∃ k t1 t2 t3 t4 t5 t6, Ob h x 1420 hdN [.ref k, .bytes H.ver.toArray t1, .bytes H.chain.toArray t2, .int (H.depth : Nat) t3, .bytes H.fp.toArray t4, .bytes ([] : List UInt8).toArray t5, .int (H.cn : Nat) t6] ∧ KeyOb h k H.p H.body
theorem HdOb.keeps {h h' : Heap} {x : Addr} {H : Hd} (K : HdOb h x H) (k : ∀ b o, h.get? b = some o → h'.get? b = some o) : HdOb h' x H :=
  let ⟨y, t1, t2, t3, t4, t5, t6, O, K⟩ := K
  ⟨y, t1, t2, t3, t4, t5, t6, O.keeps k, K.keeps k⟩
theorem HdOb.len {h : Heap} {x : Addr} {H : Hd} (K : HdOb h x H) (ok : H.Ok) : H.octs.length = 78 := by
  obtain ⟨y, t1, t2, t3, t4, t5, t6, O, K⟩ := K
  have := K.len
  unfold Hd.octs Hd.head
  have h1 := ok.ver
  have h2 := ok.chain
  have h3 := ok.fp
  split <;> simp_all [toBE_len]
theorem Hd.Ok.hd {H : Hd} (ok : H.Ok) : H.octs.getD 0 0 ≠ 0 := by
  have h1 := ok.ver
  have h2 := ok.nz
  unfold Hd.octs Hd.head
  cases hv : H.ver with
  | nil => rw [hv] at h1; cases h1
  | cons a r => rw [hv] at h2; split <;> exact h2
theorem C_hd_isp {w mg mb A s x} {H : Hd} (G : Gl w mg mb s.heap) (R : Rm A 10) (O : HdOb s.heap x H) : Gives w A (.ref 1270) [.ref x] [] (fun v s' => v = .bool H.p) s := by
  obtain ⟨k, t1, t2, t3, t4, t5, t6, O, K⟩ := O
  refine enterW ["self"] [] [.ref x] G R.less lk1270 (defBody (methSt 46 4)) rfl cd1270 fun L s S => ?_
  refine open_body rfl ?_
  refine x_ret <| e_att <| e_att <| ld 0 S <| a_own 38 0 S (O.keeps S.F.keep) fun s S _ => km_isp S (K.keeps S.F.keep) R.deeper.less fun s S x => ⟨S.done, rfl⟩
section
variable {c : Cx} {m : Str → Option Value} {A : Around} {E : Value → Shared → Prop} {s : Shared} {news : List (Addr × Obj)} {x : Addr} {H : Hd} {Q : Value → Shared → Prop}
theorem hm_isp {expr : Bool} (S : St c m news s) (K : HdOb s.heap x H) (R : Rm A 12) (h : ∀ s', St c m news s' → Ext s s' → Q (.bool H.p) s') : W c A (getAttr (.ref x) (.ofString "is_private") expr) Q E s := by
  have ⟨k, t1, t2, t3, t4, t5, t6, O, _⟩ := K
  refine a_prop 49 (P := fun v _ => v = .bool H.p) S O (fun s' S' x => C_hd_isp S'.gl R.in1.less (K.keeps x.keep)) (fun v s' e => by rw [e]; rfl) fun v s' S' x e => ?_
  subst e
  exact h _ S' x
end
end Mine
end

section
set_option Elab.async false
set_option maxRecDepth 100000
set_option linter.unusedVariables false
set_option exponentiation.threshold 20000
open PySem PySem.W PyProof.Rows PySem.Calls
namespace Mine
theorem Hd.Ok.hlen {H : Hd} (ok : H.Ok) : H.head.length = 45 := by
  unfold Hd.head
  have h1 := ok.ver
  have h2 := ok.chain
  have h3 := ok.fp
  simp [toBE_len, h1, h2, h3]
theorem ne_of_len {l : List UInt8} {k : Nat} (h : l.length = k + 1) : l ≠ [] := fun z => by rw [z] at h; cases h
theorem C_hd_write {w mg mb A s0 x y d a g} {H : Hd} {args : List Value} (G : Gl w mg mb g) (R : Rm A 27) (sub : ∀ b o, g.get? b = some o → s0.heap.get? b = some o) (hsz : g.objs.size ≤ s0.heap.objs.size) (B : Bio g y d a [] 0 s0)
    (ok : H.Ok) (O : HdOb g x H) (hbind : ∀ S, peek (KF w.params) S (bindArgs fd1287 ⟨.ref x :: .ref y :: args, []⟩) = some ([PySem.Str.ofString "self", PySem.Str.ofString "stream", PySem.Str.ofString "version"].zip [.ref x, .ref y, .none])) :
    Runs w A (.ref 1287) (.ref x :: .ref y :: args) [] g (fun _ s' => Bio g y d a H.octs H.octs.length s') s0 := by
  obtain ⟨es, n, ut, N, e⟩ := B
  have HO := O
  obtain ⟨k, t1, t2, t3, t4, t5, t6, O, K⟩ := O
  refine runsG ["self", "stream", "version"] ["res"] [.ref x, .ref y, .none] G sub hsz N R.less lk1287 (defBody (methSt 46 6)) rfl cd1287 (fun L s hL ek S => ?_) hbind
  have tail : ∀ (b : List UInt8) (es : List DictEntry) (n : Nat) (ut : Tok) (r : Nat) (tr : Tok) (s : Shared), b.length ≤ 100 → b ++ H.body = H.octs → Ents es bioN [.ref a, .int ((b.length : Nat) : Int) ut] →
      St (cg w mg mb g s0 L) (look ([PySem.Str.ofString "self", PySem.Str.ofString "stream", PySem.Str.ofString "version"] ++ [PySem.Str.ofString "res"]) [some (.ref x), some (.ref y), some (.bytes H.ver.toArray t1), some (.int (r : Nat) tr)]) (bio y d a es n b) s →
      W (cg w mg mb g s0 L) (A.deeper (callEnv fd1287 L 1287)) (execs ((defBody (methSt 46 6)).drop 7) (callEnv fd1287 L 1287)) (fun fl s'' => ExtG g s0 s'' ∧ Bio g y d a H.octs H.octs.length s'') (fun _ _ => False) s := by
    intro b es n ut r tr s hl hb e S
    refine open_body rfl ?_
    refine x_aug <| ldn 3 S <| e_meth <| ld 1 S <| a_fn 10 S (S.bob e) <| cw_fn lk477 <| s_more <| e_meth <| e_att <| ld 0 S <| a_own 38 0 S (O.keeps S.F.keep) fun s S _ => km_ser S (K.keeps S.F.keep) R.deeper.less fun t s S x1 => s_nil ⟨⟨_, _, S⟩, ?_⟩
    have hbl := K.len
    have hne : H.body ≠ [] := fun z => by rw [z] at hbl; split at hbl <;> cases hbl
    refine r_write S e R.deeper.less hne (by rw [hbl]; split <;> omega) fun u es n ut s S e _ => p_iadd S fun u s S => st 3 S fun s S => ?_
    rw [hb] at S e
    refine x_ret <| ld 3 S ⟨S.doneG, S.bioD e⟩
  refine open_body rfl ?_
  refine x_if <| t_cmp <| ld 2 S <| c_none ?_
  refine n_is <| t_bool <| ite_yes (by decide) ?_
  refine x_asg <| e_att <| ld 0 S <| a_own 39 1 S (O.keeps S.F.keep) fun s S _ => st 2 S fun s S => x_nil ?_
  have hv := ok.ver
  have hf := ok.fp
  have hc := ok.chain
  refine x_asg <| e_meth <| ld 1 S <| a_fn 10 S (S.bob e) <| cw_fn lk477 <| s_more <| ld 2 S <| s_nil ⟨⟨_, _, S⟩, ?_⟩
  refine r_write (b := []) S e R.deeper.less (ne_of_len hv) (by simp [hv]) fun u es n ut s S e _ => st 3 S fun s S => ?_
  refine x_aug <| ldn 3 S <| e_meth <| ld 1 S <| a_fn 10 S (S.bob e) <| cw_fn lk477 <| s_more <| e_call <| b_bytes S <| cw_ty <| s_more <| e_list <| s_more <| e_att <| ld 0 S <| a_own 41 3 S (O.keeps S.F.keep) fun s S _ => s_nil <| r_list S fun l s S => s_nil ?_
  refine r_bytes (ns := [H.depth]) S R.calm (.head _) (.cons _ _ .nil) (by simpa using ok.depth) fun u s S => s_nil ⟨⟨_, _, S⟩, ?_⟩
  refine r_write S.drop e R.deeper.less (by simp) (by simp [hv]) fun u es n ut s S e _ => p_iadd S fun u s S => st 3 S fun s S => ?_
  refine x_aug <| ldn 3 S <| e_meth <| ld 1 S <| a_fn 10 S (S.bob e) <| cw_fn lk477 <| s_more <| e_att <| ld 0 S <| a_own 42 4 S (O.keeps S.F.keep) fun s S _ => s_nil ⟨⟨_, _, S⟩, ?_⟩
  refine r_write S e R.deeper.less (ne_of_len hf) (by simp [hv, hf]) fun u es n ut s S e _ => p_iadd S fun u s S => st 3 S fun s S => ?_
  refine x_aug <| ldn 3 S <| e_meth <| ld 1 S <| a_fn 10 S (S.bob e) <| cw_fn lk477 <| s_more <| e_meth <| e_att <| ld 0 S <| a_own 43 6 S (O.keeps S.F.keep) fun s S _ => g_to <| cw_bt' <| s_more <| c_nat 4 S fun u s S => s_more <| c_str S fun u s S => s_nil ?_
  refine r_to S (by decide) ok.cn fun u s S => s_nil ⟨⟨_, _, S⟩, ?_⟩
  refine r_write S e R.deeper.less (ne_of_len (toBE_len 4 _)) (by simp [hv, hf, toBE_len]) fun u es n ut s S e _ => p_iadd S fun u s S => st 3 S fun s S => ?_
  refine x_aug <| ldn 3 S <| e_meth <| ld 1 S <| a_fn 10 S (S.bob e) <| cw_fn lk477 <| s_more <| e_att <| ld 0 S <| a_own 40 2 S (O.keeps S.F.keep) fun s S _ => s_nil ⟨⟨_, _, S⟩, ?_⟩
  refine r_write S e R.deeper.less (ne_of_len hc) (by simp [hv, hf, hc, toBE_len]) fun u es n ut s S e _ => p_iadd S fun u s S => st 3 S fun s S => ?_
  have hh : [] ++ H.ver ++ [UInt8.ofNat H.depth] ++ H.fp ++ toBE 4 H.cn ++ H.chain = H.head := rfl
  have hhl := ok.hlen
  refine x_if <| t_val <| e_att <| ld 0 S <| hm_isp S (HO.keeps S.F.keep) R.deeper.less fun s S x1 => t_bool <| ite_two (fun hp => ?_) fun hp => ?_
  · refine x_aug <| ldn 3 S <| e_meth <| ld 1 S <| a_fn 10 S (S.bob e) <| cw_fn lk477 <| s_more <| c_bytes S fun u s S => s_nil ⟨⟨_, _, S⟩, ?_⟩
    refine r_write (k := [0]) S e R.deeper.less (by decide) (by simp [hv, hf, hc, toBE_len]) fun u es n ut s S e _ => p_iadd S fun u s S => st 3 S fun s S => x_nil ?_
    exact (tail _ _ _ _ _ _ s (by show (H.head ++ [0]).length ≤ 100; simp [hhl]) (by show (H.head ++ [0]) ++ H.body = _; unfold Hd.octs; rw [if_pos hp]) e S).mono (fun fl s' q => q) fun _ _ q => q
  · refine x_nil ?_
    exact (tail _ _ _ _ _ _ s (by show H.head.length ≤ 100; omega) (by show H.head ++ H.body = _; unfold Hd.octs; rw [if_neg hp]) e S).mono (fun fl s' q => q) fun _ _ q => q
end Mine
end

section
set_option Elab.async false
set_option maxRecDepth 100000
set_option linter.unusedVariables false
open PySem PySem.W PyProof.Rows PySem.Calls PySem.Spec
namespace Mine
/-! raising HDError -/
abbrev exMro : List Value := [.type "Exception", .type "BaseException", .type "object"]
theorem err_obj {P : Params} {h : Heap} (X : (KF P).In h) : ∃ tl N nm q bs hdct sn sub ab col dd k0 k1 k2 k3 k5 mN, h.get? 1217 = some (excClassObj nm q 1217 N bs tl hdct sn sub ab col dd k0 k1 k2 k3 k5 "Exception.__new__") ∧ h.Ns N mN ∧ mN "__init__" = none ∧ OwnTail h exMro tl := by
  have hC : h.get? 1217 = some (ob1217 P) := X _ _ (show (KF P).lookup 1217 = some (ob1217 P) by kernel_rfl)
  refine ⟨[.ref 190, .type "Exception", .type "BaseException", .type "object"], 1216, _, _, _, _, _, _, _, _, _, _, _, _, _, _, h.nsMap 1216, hC, .of_isNs (isNs_of_in X (by kernel_rfl)), nsMap_none_of_in X (by kernel_rfl) (by kernel_rfl), tail_of_in X (by kernel_rfl)⟩
def Fly (B : Heap) (outer : List Env) (e : Value) (h : Heap) : Prop := ∃ x a0, e = .ref x ∧ Heap.FlyingW B outer x (.ref 1217) a0 h
/-- what a raise leaves behind: seen from the heap g -/
structure Thrown (g B : Heap) (outer : List Env) (s : Shared) (e : Value) (s' : Shared) : Prop where
  fly : Fly B outer e s'.heap
  slots : g.UpToSlots s'.heap
  gens : s'.gens = s.gens
  os : s'.os = s.os
def Throws (w : World) (A : Around) (f : Value) (args : List Value) (kw : List (Str × Value)) (g B : Heap) (outer : List Env) (s : Shared) : Prop :=
  codeN (model PW w) A (.call f ⟨args, kw⟩) (fun r s' => match r with | .ok _ => False | .error e => Thrown g B outer s e s') s
section
variable {c : Cx} {m : Str → Option Value} {A : Around} {E : Value → Shared → Prop} {s : Shared} {news : List (Addr × Obj)} {env : Env} {B : Heap} {outer : List Env}
theorem St.below (K : Below A B outer c.g) (S : St c m news s) (hf : env.frame = some c.L) (hk : env.scope.kind ≠ .module) : Below (A.deeper env) B (env :: outer) s.heap := by
  refine ⟨Around.frames_deeper K.stack, fun b o e => S.F.keep b o (K.stays b o e), .cons hk hf S.F.ns ?_ (K.frames.of_keeps fun b o e _ => ⟨o, S.F.keep b o e, rfl⟩)⟩
  cases q : B.get? c.L with
  | none => rfl
  | some o => exact absurd (Heap.lt_size (K.stays _ _ q)) (Nat.not_lt_of_le S.F.above)
theorem glA {x : Str} {pos : Pos} {v : Value} {h : Heap} {g : Array GenState} {d : Drawn} {t : Nat} {os : OsState} {Q : Value → Shared → Prop} {w : World} {mg mb : Str → Option Value} (G : Gl w mg mb h) (hx : ∀ P, nsIn (KF P) mainGlobals x = some (some v)) (hq : Q v ⟨h, g, d, t, os⟩) (hk : glOk env x = true := by kernel_rfl) :
    wpAny (model PW w) A (eval (.Name x pos) env) Q E ⟨h, g, d, t, os⟩ := by
  simp only [glOk, Bool.and_eq_true, decide_eq_true_eq, Bool.not_eq_true'] at hk
  obtain ⟨⟨⟨⟨k1, k2⟩, k3⟩, k4⟩, k5⟩ := hk
  have e4 : env.globals = mainGlobals := Nat.eq_of_beq_eq_true k4
  exact Name_function_global k1 k2 (loadGlobal_global (s := ⟨h, g, d, t, os⟩) (e4 ▸ G.g) (mg_of G.K G.g (hx _)) hq) k3
/-- raise HDError("..") -/
theorem x_raise {np cp cpos pos : Pos} {k : Nat} {txt : Str} {rest : List Stmt} {Q : Flow → Shared → Prop} (S : St c m news s) (hA : A.handled = none)
    (h : ∀ h₀ h' x vs tk, h₀ = s.heap → Heap.MadeExcOf h₀ h' x (.ref 1217) vs → E (.ref x) { s with heap := h', toks := tk }) (hk : glOk env (.ofString "HDError") = true := by kernel_rfl) :
    W c A (execs (.Raise (some (.Call (.Name (.ofString "HDError") np) [.Constant (.str txt) k cp] [] cpos)) none pos :: rest) env) Q E s := by
  have G := S.gl
  have X := G.K
  obtain ⟨tl, N, nm, q, bs, hdct, sn, sub, ab, col, dd, k0, k1, k2, k3, k5, mN, hC, hN, hni, T⟩ := err_obj X
  refine x_cons (W.mk ?_)
  refine wpAny_Raise_call_subT (C := 1217) (nm := nm) (q := q) (N := N) (bs := bs) (bm := tl) (hdct := hdct) (sn := sn) (sub := sub) (ab := ab) (col := col) (dd := dd) (k0 := k0) (k1 := k1) (k2 := k2) (k3 := k3) (k5 := k5)
    PySem.F.excBase_Exception (mN := mN) (T.hasType (by decide +kernel)) hA rfl hni ?_
  obtain ⟨hh, g, d, t, os⟩ := s
  refine glA G g_HDError ⟨rfl, ?_⟩ hk
  rw [starEach_cons rfl, backTo_cons]
  refine Calls.evalArgs_plain (Calls.spliced_cons (Calls.Constant_str (Calls.spliced_nil ?_)))
  exact ⟨rfl, by rw [sizeLine_eq]; exact Nat.le_of_ble_eq_true rfl, hC, hN, T, fun h' e hm => h _ _ _ _ _ rfl hm⟩
/-- the frame that raises -/
theorem made_leaves {M : Model} {h : Heap} {x : Addr} {vs : List Value} {s' : Shared} {Q : Shared → Prop} {E : Value → Shared → Prop} {L : Addr} (K : Below (A.deeper env) B (env :: outer) h) (hf : env.frame = some L) (hm : Heap.MadeExcOf h s'.heap x (.ref 1217) vs)
    (hQ : ∀ h'', Fly B outer (.ref x) h'' → h.UpToSlots h'' → Q { s' with heap := h'' }) : wpAny M (A.deeper env) (leaving env (.ref x)) (fun _ s'' => Q s'') (fun e s'' => E e s'') s' :=
  wpAny_leaves_madeW K.stack hf K.stays K.frames hm fun h'' t x1 _ _ x4 => hQ h'' ⟨_, _, rfl, x1⟩ ((Heap.UpToSlots.of_keeps hm.keeps).trans x4)
/-- a frame that it passes -/
theorem fly_leaves {M : Model} {e : Value} {s' : Shared} {Q : Shared → Prop} {E : Value → Shared → Prop} {L : Addr} (hs : A.frames = some outer) (hf : env.frame = some L) (hfl : Fly B (env :: outer) e s'.heap)
    (hQ : ∀ h'', Fly B outer e h'' → s'.heap.UpToSlots h'' → Q { s' with heap := h'' }) : wpAny M (A.deeper env) (leaving env e) (fun _ s'' => Q s'') (fun e s'' => E e s'') s' := by
  obtain ⟨x, a0, rfl, hfl⟩ := hfl
  exact wpAny_leaves_onW (Around.frames_deeper hs) hf hfl fun h'' x1 x2 => hQ h'' ⟨_, _, rfl, x1⟩ x2
/-- a raising contract at its call -/
theorem useT {f : Value} {args : List Value} {kw : List (Str × Value)} {Q : Value → Shared → Prop} (C : Throws c.w A f args kw s.heap B outer s) (h : ∀ e s', Thrown s.heap B outer s e s' → E e s') : W c A (call f args kw) Q E s :=
  W.call (C.mono fun r s' q => by
    match r, q with
    | .ok _, q => exact q.elim
    | .error e, q => exact h e s' q)
end
/-- entering a def that raises -/
theorem enterT {w : World} {mg mb : Str → Option Value} {A : Around} {s : Shared} {g B : Heap} {outer : List Env} {f : Addr} {fd : FuncData} {od : Option Addr} {pos : List Value} {kw : List (Str × Value)} {news : List (Addr × Obj)}
    (ps ls : List Str) (vs : List Value)
    (G : Gl w mg mb g) (K : Below A B outer g) (sub : ∀ b o, g.get? b = some o → s.heap.get? b = some o) (hsz : g.objs.size ≤ s.heap.objs.size) (N : ∀ p ∈ news, s.heap.get? p.1 = some p.2 ∧ g.get? p.1 = none)
    (R : Rm A 1) (ho : ∀ P, (KF P).lookup f = some (fnO fd od)) (body : List Stmt) (hb : fd.body = .stmts body)
    (hcd : ∀ P, codeIn (KF P) fd.code fd.qualname = true)
    (h : ∀ L s', (∀ b o, s.heap.get? b = some o → s'.heap.get? b = some o) → St (cg w mg mb g s L) (look (ps ++ ls) (vs.map some ++ ls.map fun _ => none)) news s' →
      W (cg w mg mb g s L) (A.deeper (callEnv fd L f)) (execs body (callEnv fd L f)) (fun _ _ => False)
        (fun e s' => (∃ h₀ x vs, e = .ref x ∧ Heap.MadeExcOf h₀ s'.heap x (.ref 1217) vs ∧ (∃ m news s₀, St (cg w mg mb g s L) m news s₀ ∧ s₀.heap = h₀) ∧ s'.gens = s.gens ∧ s'.os = s.os) ∨ Thrown g B (callEnv fd L f :: outer) s e s') s')
    (hbind : ∀ S, peek (KF w.params) S (bindArgs fd ⟨pos, kw⟩) = some (ps.zip vs) := by intro S; kernel_rfl) (hlen : ps.length = vs.length := by rfl) (hnd : ps.Nodup := by decide) (hpl : fnPlain fd = true := by kernel_rfl) (hloc : bindsLocal fd.scope ps = true := by kernel_rfl) :
    Throws w A (.ref f) pos kw g B outer s := by
  have hk : fd.scope.kind ≠ .module := by
    simp only [fnPlain, Bool.and_eq_true, decide_eq_true_eq] at hpl
    rw [hpl.2]; decide
  refine enterR ps ls vs G sub hsz N R ho body hb hcd (fun L s' hL ek S => (h L s' ek S).mono (fun _ _ q => q.elim) fun e s'' q => ?_) hbind hlen hnd hpl hloc
  rcases q with ⟨h₀, x, vs, rfl, hm, ⟨m, nw, s₀, S₀, rfl⟩, e1, e2⟩ | q
  · refine made_leaves (L := L) (Q := fun s'' => Thrown g B outer s (.ref x) s'') (E := fun e' s'' => Thrown g B outer s e' s'') (S₀.below (env := callEnv fd L f) K rfl hk) rfl hm fun h'' fl up => ⟨fl, (Heap.UpToSlots.of_keeps S₀.F.keep).trans up, e1, e2⟩
  · exact fly_leaves (Q := fun s'' => Thrown g B outer s e s'') (E := fun e' s'' => Thrown g B outer s e' s'') K.stack rfl q.fly fun h'' fl up => ⟨fl, q.slots.trans up, q.gens, q.os⟩
end Mine
end

section
set_option Elab.async false
set_option maxRecDepth 100000
set_option linter.unusedVariables false
set_option exponentiation.threshold 20000
open PySem PySem.W PyProof.Rows PySem.Calls
namespace Mine
section
variable {c : Cx} {m : Str → Option Value} {A : Around} {E : Value → Shared → Prop} {s : Shared} {news : List (Addr × Obj)} {env : Env}
theorem c_tx (l : List Nat) {x : Str} {k : Nat} {pos : Pos} {Q : Value → Shared → Prop} (S : St c m news s) (h : ∀ t s', St c m news s' → Q (.str (tx l) t) s') (hx : x = tx l := by decide +kernel) : W c A (eval (.Constant (.str x) k pos) env) Q E s := by
  subst hx; exact c_str S h
end
theorem C_hd_ser0 {w mg mb A s x} {H : Hd} (G : Gl w mg mb s.heap) (R : Rm A 30) (ok : H.Ok) (O : HdOb s.heap x H) :
    Gives w A (.ref 784) [.ref x] [] (fun v _ => ∃ t, v = .bytes H.octs.toArray t) s := by
  have hl := O.len ok
  have HO := O
  obtain ⟨k, t1, t2, t3, t4, t5, t6, O, K⟩ := O
  exact C_ser784 (j := 10) (name := .ofString "") (args := []) G R O (bm_hd _) (by kernel_rfl) (by kernel_rfl) (by decide) (by omega) fun A' g y d a s' G' R' k1 k2 k3 B => C_hd_write (args := []) G' R'.less k2 k3 B ok (HO.keeps k1) (by intro S; kernel_rfl)
end Mine
end

section
set_option Elab.async false
set_option maxRecDepth 100000
set_option linter.unusedVariables false
set_option exponentiation.threshold 20000
open PySem PySem.W PyProof.Rows PySem.Calls
namespace Mine
theorem C_hd_ser1 {w mg mb A s x} {H : Hd} (G : Gl w mg mb s.heap) (R : Rm A 30) (ok : H.Ok) (O : HdOb s.heap x H) :
    Gives w A (.ref 784) [.ref x, .none] [] (fun v _ => ∃ t, v = .bytes H.octs.toArray t) s := by
  have hl := O.len ok
  have HO := O
  obtain ⟨k, t1, t2, t3, t4, t5, t6, O, K⟩ := O
  exact C_ser784 (j := 10) (name := .ofString "") (args := [.none]) G R O (bm_hd _) (by kernel_rfl) (by kernel_rfl) (by decide) (by omega) fun A' g y d a s' G' R' k1 k2 k3 B => C_hd_write (args := [.none]) G' R'.less k2 k3 B ok (HO.keeps k1) (by intro S; kernel_rfl)
abbrev prvT : List Nat := [112, 114, 118]
abbrev pubT : List Nat := [112, 117, 98]
/-- the second to fourth sign of the text -/
def Hd.md (H : Hd) : List Nat := cutL (some 1) (some 4) (txt H.octs)
def Hd.Good (H : Hd) : Prop := H.md = if H.p = true then prvT else pubT
theorem txt_len_le {l : List UInt8} (h : l.length ≤ 400) : (txt l).length ≤ 1000 := by
  unfold txt
  rw [text58_len]
  refine b58_len 1000 _ ?_
  have := beN_small (l := full l) (k := 404) (by rw [full_len]; omega)
  exact Nat.lt_of_lt_of_le this (by decide +kernel)
abbrev b58N : List Str := [PySem.Str.ofString "self", PySem.Str.ofString "version"] ++ [PySem.Str.ofString "b", PySem.Str.ofString "res"]
abbrev b58V (x : Addr) (H : Hd) (tb tr : Tok) : List (Option Value) := [some (.ref x), some .none, some (.bytes H.octs.toArray tb), some (.str (tx (txt H.octs)) tr)]
def Hd.Bad (H : Hd) : Prop := H.p = true ∧ H.md = pubT ∨ H.p = false ∧ H.md = prvT
theorem Hd.Good.not {H : Hd} (g : H.Good) : ¬ H.Bad := by
  rintro (⟨h1, h2⟩ | ⟨h1, h2⟩)
  · rw [g, if_pos h1] at h2; cases h2
  · rw [g, if_neg (by rw [h1]; decide)] at h2; cases h2
theorem b58_body {w mg mb A s0 s x L} {H : Hd} {Q : Flow → Shared → Prop} {E : Value → Shared → Prop} (R : Rm A 35) (ok : H.Ok) (O : HdOb s0.heap x H) (S : St (cx w mg mb s0 L) (look b58N [some (.ref x), some .none, none, none]) [] s)
    (hq : ¬ H.Bad → ∀ t m s', St (cx w mg mb s0 L) m [] s' → Q (.ret (.str (tx (txt H.octs)) t)) s')
    (he : H.Bad → ∀ m s' h₀ h' x vs tk, St (cx w mg mb s0 L) m [] s' → h₀ = s'.heap → Heap.MadeExcOf h₀ h' x (.ref 1217) vs → E (.ref x) { s' with heap := h', toks := tk }) :
    W (cx w mg mb s0 L) (A.deeper (callEnv fd1295 L 1295)) (execs (defBody (methSt 46 7)) (callEnv fd1295 L 1295)) Q E s := by
  have hl := O.len ok
  have ⟨k, t1, t2, t3, t4, t5, t6, OO, K⟩ := O
  refine open_body rfl ?_
  refine x_asg <| e_meth <| ld 0 S <| a_fn 44 S (OO.keeps S.F.keep) <| cw_fn lk784 <| s_more <| ld 1 S <| s_nil ⟨⟨_, _, S⟩, ?_⟩
  refine use S (C_hd_ser1 S.gl R.deeper.less ok (O.keeps S.F.keep)) fun v s S x1 P => ?_
  obtain ⟨tb, rfl⟩ := P
  refine st 2 S fun s S => ?_
  refine x_asg <| e_call <| gl S g_encode_check <| cw_fn' lk125 <| s_more <| ld 2 S <| s_nil ⟨⟨_, _, S⟩, ?_⟩
  refine use S (C_encode_check S.gl R.deeper.less (by omega) ok.hd) fun v s S x1 P => ?_
  obtain ⟨tr, rfl⟩ := P
  have hz := txt_len_le (l := H.octs) (by omega)
  refine st 3 S fun s S => ?_
  have fin : ∀ s, ¬ H.Bad → St (cx w mg mb s0 L) (look b58N (b58V x H tb tr)) [] s → W (cx w mg mb s0 L) (A.deeper (callEnv fd1295 L 1295)) (execs ((defBody (methSt 46 7)).drop 4) (callEnv fd1295 L 1295)) Q E s := fun s hb S =>
    open_body rfl <| x_ret <| ld 3 S <| hq hb _ _ _ S
  have tail : ∀ s, ¬ (H.p = false ∧ H.md = prvT) → St (cx w mg mb s0 L) (look b58N (b58V x H tb tr)) [] s → W (cx w mg mb s0 L) (A.deeper (callEnv fd1295 L 1295)) (execs ((defBody (methSt 46 7)).drop 3) (callEnv fd1295 L 1295)) Q E s := fun s hb S => by
    refine open_body rfl ?_
    refine x_if <| t_and <| t_cmp <| e_sub <| ld 3 S <| e_cut <| pt_some <| c_int S fun u s S => pt_some <| c_int S fun u s S => ?_
    refine s_cutP S (.int _ _) (.int _ _) (by omega) fun u s S => c_tx pubT S fun u s S => s_eq <| t_bool ?_
    refine ite_two (fun h => ?_) fun h => ite_no Bool.false_ne_true <| x_nil <| fin _ (fun z => z.elim (fun z => h (decide_eq_true z.2)) hb) S
    have h := of_decide_eq_true h
    refine t_and <| t_val <| e_att <| ld 0 S <| hm_isp S (O.keeps S.F.keep) R.deeper.less fun s S x1 => t_bool <| ite_two (fun hp => ?_) fun hp => ?_
    · exact t_and0 <| ite_yes rfl <| x_raise S R.calm fun h₀ h' x vs tk e0 hm => he (.inl ⟨hp, h⟩) _ _ _ _ _ _ _ S e0 hm
    · exact ite_no Bool.false_ne_true <| x_nil <| fin _ (fun z => z.elim (fun z => hp z.1) hb) S
  refine x_if <| t_and <| t_cmp <| e_sub <| ld 3 S <| e_cut <| pt_some <| c_int S fun u s S => pt_some <| c_int S fun u s S => ?_
  refine s_cutP S (.int _ _) (.int _ _) (by omega) fun u s S => c_tx prvT S fun u s S => s_eq <| t_bool ?_
  refine ite_two (fun h => ?_) fun h => ite_no Bool.false_ne_true <| x_nil <| tail _ (fun z => h (decide_eq_true z.2)) S
  have h := of_decide_eq_true h
  refine t_and <| t_not <| t_val <| e_att <| ld 0 S <| hm_isp S (O.keeps S.F.keep) R.deeper.less fun s S x1 => t_bool <| ite_two (fun hp => ?_) fun hp => ?_
  · exact t_and0 <| ite_yes rfl <| x_raise S R.calm fun h₀ h' x vs tk e0 hm => he (.inr ⟨by simpa using hp, h⟩) _ _ _ _ _ _ _ S e0 hm
  · exact ite_no Bool.false_ne_true <| x_nil <| tail _ (fun z => hp (by rw [z.1]; rfl)) S
theorem C_b58 {w mg mb A s x} {H : Hd} (G : Gl w mg mb s.heap) (R : Rm A 35) (ok : H.Ok) (good : H.Good) (O : HdOb s.heap x H) :
    Gives w A (.ref 1295) [.ref x] [] (fun v _ => ∃ t, v = .str (tx (txt H.octs)) t) s :=
  enterW ["self", "version"] ["b", "res"] [.ref x, .none] G R.less lk1295 (defBody (methSt 46 7)) rfl cd1295 fun L s' S =>
    b58_body R ok O S (fun _ t m s' S => ⟨S.done, t, rfl⟩) fun hb => (good.not hb).elim
theorem T_b58 {w mg mb A s x B outer} {H : Hd} (G : Gl w mg mb s.heap) (Kb : Below A B outer s.heap) (R : Rm A 35) (ok : H.Ok) (bad : H.Bad) (O : HdOb s.heap x H) :
    Throws w A (.ref 1295) [.ref x] [] s.heap B outer s :=
  enterT (news := []) ["self", "version"] ["b", "res"] [.ref x, .none] G Kb (fun _ _ e => e) (Nat.le_refl _) (fun p hp => nomatch hp) R.less lk1295 (defBody (methSt 46 7)) rfl cd1295 fun L s' ek S =>
    b58_body R ok O S (fun nb => (nb bad).elim) fun _ m s' h₀ h' x vs tk S e0 hm => .inl ⟨h₀, x, vs, rfl, hm, ⟨_, _, _, S, e0.symm⟩, S.gens, S.os⟩
end Mine
end

section
set_option Elab.async false
set_option maxRecDepth 100000
set_option linter.unusedVariables false
set_option exponentiation.threshold 20000
open PySem PySem.W PyProof.Rows PySem.Calls
namespace Mine
abbrev initN : List Str := [PySem.Str.ofString "self", PySem.Str.ofString "key", PySem.Str.ofString "chain_code", PySem.Str.ofString "version", PySem.Str.ofString "depth", PySem.Str.ofString "fingerprint", PySem.Str.ofString "child_number"]
abbrev initV (x k : Addr) (H : Hd) (t1 t2 t3 t4 t6 : Tok) : List Value := [.ref x, .ref k, .bytes H.chain.toArray t2, .bytes H.ver.toArray t1, .int (H.depth : Nat) t3, .bytes H.fp.toArray t4, .int (H.cn : Nat) t6]
abbrev hdV (k : Addr) (H : Hd) (t1 t2 t3 t4 t5 t6 : Tok) : List Value := [.ref k, .bytes H.ver.toArray t1, .bytes H.chain.toArray t2, .int (H.depth : Nat) t3, .bytes H.fp.toArray t4, .bytes ([] : List UInt8).toArray t5, .int (H.cn : Nat) t6]
theorem fk {fd : FuncData} {L f : Addr} (h : fnPlain fd = true) : (callEnv fd L f).scope.kind ≠ .module := by
  simp only [fnPlain, Bool.and_eq_true, decide_eq_true_eq] at h
  show fd.scope.kind ≠ .module
  rw [h.2]; decide
theorem init_body {w mg mb A s0 s x k d g L} {H : Hd} {t1 t2 t3 t4 t6 : Tok} {Q : Flow → Shared → Prop} {E : Value → Shared → Prop} (R : Rm A 40) (ok : H.Ok) (K : KeyOb g k H.p H.body)
    (S : St (cg w mg mb g s0 L) (look (initN ++ []) ((initV x k H t1 t2 t3 t4 t6).map some ++ [])) [(x, instObj 1420 d), (d, dictOf [] 0)] s)
    (hcall : ∀ {Q' : Value → Shared → Prop} m nw s', St (cg w mg mb g s0 L) m nw s' → HdOb s'.heap x H → (H.Good → ∀ t s'', St (cg w mg mb g s0 L) m nw s'' → Q' (.str (tx (txt H.octs)) t) s'') → W (cg w mg mb g s0 L) (A.deeper (callEnv fd1234 L 1234)) (call (.ref 1295) [.ref x]) Q' E s')
    (hq : H.Good → ∀ m es n t5 s', St (cg w mg mb g s0 L) m [(x, instObj 1420 d), (d, dictOf es n)] s' → Ents es hdN (hdV k H t1 t2 t3 t4 t5 t6) → Q .next s') :
    W (cg w mg mb g s0 L) (A.deeper (callEnv fd1234 L 1234)) (execs (defBody (methSt 46 0)) (callEnv fd1234 L 1234)) Q E s := by
  have hbl := K.len
  have hz : H.octs.length ≤ 400 := by
    have h1 := ok.ver
    have h2 := ok.chain
    have h3 := ok.fp
    unfold Hd.octs Hd.head
    split <;> simp_all [toBE_len]
  have htl := txt_len_le hz
  -- behind the fields
  have last : ∀ es n t5 s, Ents es hdN (hdV k H t1 t2 t3 t4 t5 t6) → St (cg w mg mb g s0 L) (look (initN ++ []) ((initV x k H t1 t2 t3 t4 t6).map some ++ [])) [(x, instObj 1420 d), (d, dictOf es n)] s →
      W (cg w mg mb g s0 L) (A.deeper (callEnv fd1234 L 1234)) (execs ((defBody (methSt 46 0)).drop 8) (callEnv fd1234 L 1234)) Q E s := by
    intro es n t5 s e S
    have hO : ∀ {m s}, St (cg w mg mb g s0 L) m [(x, instObj 1420 d), (d, dictOf es n)] s → HdOb s.heap x H := fun S => ⟨k, t1, t2, t3, t4, t5, t6, S.ob (.head _) (.tail _ (.head _)) e, K.keeps S.F.keep⟩
    have hB : ∀ {m s}, St (cg w mg mb g s0 L) m [(x, instObj 1420 d), (d, dictOf es n)] s → Ob s.heap x 1420 hdN (hdV k H t1 t2 t3 t4 t5 t6) := fun S => S.ob (.head _) (.tail _ (.head _)) e
    refine open_body rfl ?_
    refine x_if <| t_and <| t_val <| e_att <| ld 0 S <| hm_isp S (hO S) R.deeper.less fun s S x1 => t_bool <| ite_two (fun hp => ?_) fun hp => ?_
    · refine t_and <| t_cmp <| e_sub <| e_meth <| ld 0 S <| a_fn 46 S (hB S) <| cw_fn0 lk1295 S <| hcall _ _ _ S (hO S) fun good t s S => ?_
      refine e_cut <| pt_some <| c_int S fun u s S => pt_some <| c_int S fun u s S => ?_
      refine s_cutP S (.int _ _) (.int _ _) (by omega) fun u s S => c_tx prvT S fun u s S => s_ne <| t_bool <| ite_no (fun z => ?_) ?_
      · have hm : H.md = prvT := by rw [good, if_pos hp]
        rw [show cutL (some 1) (some 4) (txt H.octs) = prvT from hm] at z
        simp at z
      refine ite_no Bool.false_ne_true <| x_nil ?_
      refine x_if <| t_and <| t_not <| t_val <| e_att <| ld 0 S <| hm_isp S (hO S) R.deeper.less fun s S x1 => t_bool <| ite_no (by rw [hp]; decide) <| ite_no Bool.false_ne_true <| x_nil <| x_nil ?_
      exact hq good _ _ _ _ _ S e
    · refine ite_no Bool.false_ne_true <| x_nil ?_
      refine x_if <| t_and <| t_not <| t_val <| e_att <| ld 0 S <| hm_isp S (hO S) R.deeper.less fun s S x1 => t_bool <| ite_yes (by simpa using hp) ?_
      refine t_and <| t_cmp <| e_sub <| e_meth <| ld 0 S <| a_fn 46 S (hB S) <| cw_fn0 lk1295 S <| hcall _ _ _ S (hO S) fun good t s S => ?_
      refine e_cut <| pt_some <| c_int S fun u s S => pt_some <| c_int S fun u s S => ?_
      refine s_cutP S (.int _ _) (.int _ _) (by omega) fun u s S => c_tx pubT S fun u s S => s_ne <| t_bool <| ite_no (fun z => ?_) ?_
      · have hm : H.md = pubT := by rw [good, if_neg hp]
        rw [show cutL (some 1) (some 4) (txt H.octs) = pubT from hm] at z
        simp at z
      refine ite_no Bool.false_ne_true <| x_nil <| x_nil ?_
      exact hq good _ _ _ _ _ S e
  -- behind the test of the length
  have mid : ∀ es n s, Ents es [PySem.Str.ofString "key"] [.ref k] → St (cg w mg mb g s0 L) (look (initN ++ []) ((initV x k H t1 t2 t3 t4 t6).map some ++ [])) [(x, instObj 1420 d), (d, dictOf es n)] s →
      W (cg w mg mb g s0 L) (A.deeper (callEnv fd1234 L 1234)) (execs ((defBody (methSt 46 0)).drop 2) (callEnv fd1234 L 1234)) Q E s := by
    intro es n s e S
    refine open_body rfl ?_
    refine x_if <| t_cmp <| ld 3 S <| c_none ?_
    refine n_isnot <| t_bool <| ite_yes rfl ?_
    refine x_set <| ld 3 S <| ld 0 S <| a_new 32 S (fun _ h => nomatch h) e fun es n s e S => x_nil ?_
    refine x_set <| ld 2 S <| ld 0 S <| a_new 33 S (fun _ h => nomatch h) e fun es n s e S => ?_
    refine x_set <| ld 4 S <| ld 0 S <| a_new 34 S (fun _ h => nomatch h) e fun es n s e S => ?_
    refine x_set <| ld 5 S <| ld 0 S <| a_new 35 S (fun _ h => nomatch h) e fun es n s e S => ?_
    refine x_set <| c_bytes S fun u s S => ld 0 S <| a_new 36 S (fun _ h => nomatch h) e fun es n s e S => ?_
    refine x_set <| ld 6 S <| ld 0 S <| a_new 37 S (fun _ h => nomatch h) e fun es n s e S => ?_
    exact last _ _ _ _ e S
  refine open_body rfl ?_
  refine x_set <| ld 1 S <| ld 0 S <| a_new 31 S (fun _ h => nomatch h) (ns := []) (vs := []) trivial fun es n s e S => ?_
  refine x_if <| t_and <| t_cmp <| e_call <| b_len S <| cw_bt <| s_more <| e_meth <| ld 1 S <| km_ser S (K.keeps S.F.keep) R.deeper.less fun t s S x1 => s_nil ?_
  refine y_len S (by rw [hbl]; split <;> decide) fun u s S => c_nat 32 S fun u s S => p_ne <| t_bool <| ite_two (fun h => ?_) fun h => ite_no Bool.false_ne_true <| x_nil <| mid _ _ _ e S
  refine t_and <| t_cmp <| e_call <| b_len S <| cw_bt <| s_more <| e_meth <| ld 1 S <| km_ser S (K.keeps S.F.keep) R.deeper.less fun t s S x1 => s_nil ?_
  refine y_len S (by rw [hbl]; split <;> decide) fun u s S => c_nat 33 S fun u s S => p_ne <| t_bool <| ite_no (fun z => ?_) <| ite_no Bool.false_ne_true <| x_nil <| mid _ _ _ e S
  rw [hbl] at h z
  by_cases hp : H.p = true
  · rw [if_pos hp] at h; simp at h
  · rw [if_neg hp] at z; simp at z
end Mine
end

section
set_option Elab.async false
set_option maxRecDepth 100000
set_option linter.unusedVariables false
set_option exponentiation.threshold 20000
open PySem PySem.W PyProof.Rows PySem.Calls
namespace Mine
theorem C_hd_init {w mg mb A s x k d g} {H : Hd} {pos : List Value} {kw : List (Str × Value)} {t1 t2 t3 t4 t6 : Tok} (G : Gl w mg mb g) (R : Rm A 40) (ok : H.Ok) (good : H.Good) (K : KeyOb g k H.p H.body)
    (hbind : ∀ S, peek (KF w.params) S (bindArgs fd1234 ⟨.ref x :: pos, kw⟩) = some (initN.zip (initV x k H t1 t2 t3 t4 t6))) (sub : ∀ b o, g.get? b = some o → s.heap.get? b = some o) (hsz : g.objs.size ≤ s.heap.objs.size)
    (N : ∀ p ∈ [(x, instObj 1420 d), (d, dictOf [] 0)], s.heap.get? p.1 = some p.2 ∧ g.get? p.1 = none) :
    Runs w A (.ref 1234) (.ref x :: pos) kw g (fun v s' => v = .none ∧ ∃ x', Value.ref x = .ref x' ∧ ∃ t5, Ob (newOnly g s'.heap) x' 1420 hdN (hdV k H t1 t2 t3 t4 t5 t6)) s :=
  runsG initN [] (initV x k H t1 t2 t3 t4 t6) G sub hsz N R.less lk1234 (defBody (methSt 46 0)) rfl cd1234 (fun L s' hL ek S =>
    init_body R ok K S (fun m nw s' S O h => use S (C_b58 S.gl R.deeper.less ok good O) fun v s S x P => by
      obtain ⟨t, rfl⟩ := P
      exact h good t _ S) fun _ m es n t5 s' S e => ⟨S.doneG, rfl, x, rfl, t5, S.obN (.head _) (.tail _ (.head _)) e⟩) hbind
theorem C_hd {w mg mb A s k} {H : Hd} {pos : List Value} {kw : List (Str × Value)} {t1 t2 t3 t4 t6 : Tok} (G : Gl w mg mb s.heap) (R : Rm A 45) (ok : H.Ok) (good : H.Good) (K : KeyOb s.heap k H.p H.body)
    (hbind : ∀ x S, peek (KF w.params) S (bindArgs fd1234 ⟨.ref x :: pos, kw⟩) = some (initN.zip (initV x k H t1 t2 t3 t4 t6))) :
    Gives w A (.ref 1420) pos kw (fun v s' => ∃ x, v = .ref x ∧ ∃ t5, Ob (newOnly s.heap s'.heap) x 1420 hdN (hdV k H t1 t2 t3 t4 t5 t6)) s :=
  Runs.gives (mk 48 G fun x d h' k' hz N => C_hd_init G R.under.less ok good K (hbind x) k' hz N)
theorem T_hd {w mg mb A s k B outer} {H : Hd} {pos : List Value} {kw : List (Str × Value)} {t1 t2 t3 t4 t6 : Tok} (G : Gl w mg mb s.heap) (Kb : Below A B outer s.heap) (R : Rm A 45) (ok : H.Ok) (bad : H.Bad) (K : KeyOb s.heap k H.p H.body)
    (hbind : ∀ x S, peek (KF w.params) S (bindArgs fd1234 ⟨.ref x :: pos, kw⟩) = some (initN.zip (initV x k H t1 t2 t3 t4 t6))) :
    Throws w A (.ref 1420) pos kw s.heap B outer s := by
  refine mkR 48 (fI := 1234) (R := fun r s' => match r with | .ok _ => False | .error e => Thrown s.heap B outer s e s') G fun x d h' k' hz N => ?_
  have Kb' : Below (A.under (.builtin "type.__call__" ⟨.ref 1420 :: pos, kw⟩)) B outer s.heap := ⟨Kb.stack, Kb.stays, Kb.frames⟩
  have R' : Rm (A.under (.builtin "type.__call__" ⟨.ref 1420 :: pos, kw⟩)) 40 := R.under.less
  have T : Throws w (A.under (.builtin "type.__call__" ⟨.ref 1420 :: pos, kw⟩)) (.ref 1234) (.ref x :: pos) kw s.heap B outer { s with heap := h' } :=
    enterT initN [] (initV x k H t1 t2 t3 t4 t6) G Kb' k' hz N R'.less lk1234 (defBody (methSt 46 0)) rfl cd1234 (fun L s' ek S =>
      init_body R' ok K S (fun m nw s' S O h => useT (T_b58 S.gl (S.below (env := callEnv fd1234 L 1234) Kb' rfl (fk (by kernel_rfl))) R'.deeper.less ok bad O) fun e s'' th =>
        .inr ⟨th.fly, (Heap.UpToSlots.of_keeps S.F.keep).trans th.slots, th.gens.trans S.gens, th.os.trans S.os⟩) fun good _ _ _ _ _ _ _ => (good.not bad).elim) (hbind x)
  exact T.mono fun r s' q => by
    match r, q with
    | .ok _, q => exact q.elim
    | .error e, q => exact ⟨q.fly, q.slots, q.gens, q.os⟩
end Mine
end

section
set_option Elab.async false
set_option maxRecDepth 100000
set_option linter.unusedVariables false
set_option exponentiation.threshold 20000
open PySem PySem.W PyProof.Rows PySem.Calls
namespace Mine
theorem by_noiadd : typeLookup (.type "bytes") (dunderI "add") = pure none := by rw [typeLookup_type, builtinLookup_eq_fast]; kernel_rfl
theorem eqg_bytes (b d : List UInt8) (t u : Tok) : MeetsSeq.EqGives (.bytes b.toArray t) (.bytes d.toArray u) (b == d) := by
  intro prog w A E s Q h
  unfold eqBool
  refine wpAny_holding ?_
  refine wpAny_ite_split (fun hab => ?_) (fun hab => ?_)
  · have e : b = d := by
      have := eq_of_beq hab
      injection this with h1
      simpa using h1
    subst e
    exact wpAny_bind (wpAny_rule (wpAny_pure (by simpa using h)))
  · exact wpAny_bind (richCompare_gives (PySem.W.typeIs_bytes s b.toArray t) (PySem.W.typeIs_bytes s d.toArray u) FB.slot_bytes_eq FB.entry_bytes_eq (FB.args_bytes_eq_2 _ _) (gives_bytes_eq b.toArray d.toArray t u) (by simp [Made.takes]) (wpAny_truthy_bool h))
section
variable {c : Cx} {m : Str → Option Value} {A : Around} {E : Value → Shared → Prop} {s : Shared} {news : List (Addr × Obj)} {env : Env} {t u : Tok}
theorem y_iadd {b d : List UInt8} {Q : Value → Shared → Prop} (S : St c m news s) (hb : b ≠ []) (hd : d ≠ []) (hz : b.length + d.length ≤ 16777216) (h : ∀ t s', St c m news s' → Q (.bytes (b ++ d).toArray t) s') : W c A (inplaceOp .Add (.bytes b.toArray t) (.bytes d.toArray u)) Q E s := by
  refine W.mk (iconcat_gives (PySem.W.typeIs_bytes s _ t) (PySem.W.typeIs_bytes s _ u) by_noiadd KBy.noFill_bytes_add KBy.seq_bytes_add FB.slot_bytes_add FB.entry_bytes_add (FB.args_bytes_add_2 _ _) (KBy.gives_bytes_add (KBy.tooLong_not (by simpa using hz))) ?_)
  rw [if_neg (by simpa using hb), if_neg (by simpa using hd)]
  refine ⟨by rw [List.append_toArray, List.size_toArray, sizeLine_eq, List.length_append]; exact hz, ?_⟩
  have := h s.toks { s with toks := s.toks + 1 } (S.at rfl rfl rfl)
  rw [List.append_toArray]
  exact this
/-- an octet string in a list of such -/
theorem y_notin {l : Addr} {b : List UInt8} {ps : List (List UInt8 × Tok)} {n : Nat} {Q : Value → Shared → Prop} (S : St c m news s) (hm : (l, listOf (ps.map fun p => Value.bytes p.1.toArray p.2).toArray n) ∈ news)
    (h : Q (.bool (!ps.any fun p => p.1 == b)) s) : W c A (compareOp .NotIn (.bytes b.toArray t) (.ref l)) Q E s := by
  refine W.mk (SeqInW.notIn_listW (fun v => match v with | .bytes x _ => x.toList == b | _ => false) (fun y hy => ?_) (S.isList hm) ?_)
  · simp only [List.mem_toArray, List.mem_map] at hy
    obtain ⟨p, _, rfl⟩ := hy
    exact eqg_bytes _ _ _ _
  · have e : (ps.map fun p => Value.bytes p.1.toArray p.2).toArray.any (fun v => match v with | .bytes x _ => x.toList == b | _ => false) = ps.any fun p => p.1 == b := by
      rw [List.any_toArray, List.any_map]
      rfl
    rw [e]; exact h
/-- a class method as an attribute of the class -/
theorem a_cmG (k : Nat) {C p f : Addr} {name : Str} {expr : Bool} {Q : Value → Shared → Prop} (S : St c m news s) (h : ∀ q s', St c m ((q, methodObj (.ref f) (.ref C)) :: news) s' → (∀ b o, s.heap.get? b = some o → s'.heap.get? b = some o) → Q (.ref q) s')
    (hk : asks[k]? = some (.cm C name p f) := by rfl) : W c A (getAttr (.ref C) name expr) Q E s := by
  have q := ask c.w.params k hk
  simp only [Ask.ok, boundOk, Bool.and_eq_true, beq_iff_eq] at q
  obtain ⟨⟨⟨⟨⟨q1, q2⟩, q3⟩, q4⟩, q5⟩, q6⟩ := q
  obtain ⟨r, hr, hn⟩ := any_some q5
  cases r with
  | nil => cases hn
  | cons f' rest =>
    have hf : f' = .ref f := by simpa using hn
    subst hf
    have e : findCls (KF c.w.params) (.ref C) (.type "type") name = some (.get (.builtin "classmethod.__get__") (.ref p) .none (.ref C)) := by
      split at q4
      · rename_i i p' C' e
        simp only [Bool.and_eq_true, beq_iff_eq] at q4
        obtain ⟨⟨rfl, rfl⟩, rfl⟩ := q4
        exact e
      · cases q4
    have X := S.G.K.keeps S.F.keep
    refine W.mk (cls_bind X q2 e (wpAny_call (cm_get (s := { s with toks := s.toks + 1 }) X hr (handed_on rfl ?_))))
    exact h s.heap.objs.size _ ⟨S.G, S.F.push _, S.N.push S.F _, S.gens, S.os⟩ fun b o e => Heap.get?_push_of_some _ e
theorem cm_fn {w : World} (k : Nat) {C p f : Addr} {name : Str} (hk : asks[k]? = some (.cm C name p f) := by rfl) : fnIn (KF w.params) f = true := by
  have q := ask w.params k hk
  simp only [Ask.ok, boundOk, Bool.and_eq_true] at q
  exact q.2
/-- a call of a bound method -/
theorem cw_bm {q f : Addr} {self : Value} {pos : Pos} {e : Expr} {rest : List Expr} {Q : Value → Shared → Prop} (hf : fnIn (KF c.w.params) f = true)
    (h : W c A (spliced (backTo pos (starEach (e :: rest) env))) (fun vs s₁ => (∃ m' news', St c m' news' s₁ ∧ (q, methodObj (.ref f) self) ∈ news') ∧ W c A (call (.ref q) vs) Q E s₁) E s) (hn : notStar e = true := by rfl) (hs : noStars rest = true := by rfl) :
    W c A (callWith pos (.ref q) [] (backTo pos (starEach (e :: rest) env)) (backToKw pos (keywordEach [] env))) Q E s := by
  refine cw_gen (P := MethP (KF c.w.params) q f self) (stars_false hn hs _ rfl) (keeps_M hf) ?_
  rw [starEach_cons hn, backTo_cons] at h ⊢
  exact ev_plain (h.mono (fun vs s₁ h₁ => ⟨(by obtain ⟨_, _, S, hm⟩ := h₁.1; exact ⟨(S.N _ hm).1, S.gl.K⟩), h₁.2⟩) fun _ _ q => q)
end
/-- a read behind the end -/
theorem C_read_end {w mg mb A s x a t u} {b : List UInt8} {k : Nat} (G : Gl w mg mb s.heap) (R : Rm A 10) (O : Ob s.heap x 494 bioN [.ref a, .int ((b.length : Nat) : Int) u]) (ha : s.heap.get? a = some (baObj b.toArray)) (hk : k ≤ 10000) (hz : b.length ≤ 10000) :
    Gives w A (.ref 418) [.ref x, .int (k : Nat) t] [] (fun v _ => ∃ t, v = .bytes ([] : List UInt8).toArray t) s := by
  refine enterW ["self", "size"] ["start", "stop"] [.ref x, .int (k : Nat) t] G R.less lk418 (defBody (methSt 34 20)) rfl cd418 fun L s S => ?_
  refine open_body rfl ?_
  refine x_if <| t_cmp <| ld 1 S <| c_none ?_
  refine n_is <| t_bool <| ite_no Bool.false_ne_true <| x_nil ?_
  refine x_asg <| e_call <| gl S g__index <| cw_fn' lk207 <| s_more <| ld 1 S <| s_more <| c_str S fun u s S => s_nil ⟨⟨_, _, S⟩, ?_⟩
  refine use S (C_index S.gl R.deeper.less (by omega)) fun v s S x1 hv => ?_
  subst hv
  refine st 1 S fun s S => ?_
  refine x_expr <| e_meth <| ld 0 S <| a_fn 9 S (O.keeps S.F.keep) <| cw_fn0 lk288 S ?_
  refine use S (C_check S.gl R.deeper.less (O.keeps S.F.keep)) fun v s S x1 _ => ?_
  refine x_asg <| e_att <| ld 0 S <| a_own 8 1 S (O.keeps S.F.keep) fun s S _ => st 2 S fun s S => ?_
  refine x_asg <| e_call <| b_len S <| cw_bt <| s_more <| e_att <| ld 0 S <| a_own 7 0 S (O.keeps S.F.keep) fun s S _ => s_nil ?_
  refine r_balen S (S.F.keep _ _ ha) (by rw [List.size_toArray]; omega) fun u2 s S _ => ?_
  rw [List.size_toArray]
  refine st 3 S fun s S => ?_
  refine x_if <| t_cmp <| ld 2 S <| ld 3 S <| p_ge <| t_bool <| ite_yes (decide_eq_true (Nat.le_refl _)) ?_
  exact x_ret <| c_bytes S fun u s S => ⟨S.done, u, rfl⟩
/-! EmbitBase.parse -/
section
variable {w : World} {mg mb : Str → Option Value} {s0 : Shared} {C p f : Addr} {b : List UInt8} {t : Tok}
abbrev prsN : List Str := [PySem.Str.ofString "cls", PySem.Str.ofString "s"] ++ [PySem.Str.ofString "args", PySem.Str.ofString "kwargs"] ++ [PySem.Str.ofString "stream", PySem.Str.ofString "res"]
end
section
variable {c : Cx} {m : Str → Option Value} {A : Around} {E : Value → Shared → Prop} {s : Shared} {news : List (Addr × Obj)} {env : Env} {ns : List Str} {vs : List (Option Value)}
theorem c_natH (n : Nat) {i : Int} {k : Nat} {pos : Pos} {Q : Value → Shared → Prop} (S : St c m news s) (h : ∀ t s', St c m news s' → s'.heap = s.heap → Q (.int (n : Int) t) s') (hi : i = (n : Int) := by rfl) : W c A (eval (.Constant (.int i) k pos) env) Q E s := by
  subst hi; exact W.mk (wpAny_Constant_int (h _ _ (S.at rfl rfl rfl) rfl))
theorem y_lenH {b : List UInt8} {t : Tok} {Q : Value → Shared → Prop} (S : St c m news s) (hz : b.length ≤ 16777216) (h : ∀ t s', St c m news s' → s'.heap = s.heap → Q (.int (b.length : Nat) t) s') : W c A (call (.builtin "len") [.bytes b.toArray t]) Q E s :=
  W.mk (len_bytes (by rw [List.size_toArray]; omega) (by rw [List.size_toArray]; exact h _ _ (S.at rfl rfl rfl) rfl))
/-- a store: nothing but the frame is turned -/
theorem stK (i : Nat) {x : Str} {v : Value} {Q : Unit → Shared → Prop} (S : St c (look ns vs) news s) (h : ∀ s', St c (look ns (vs.set i (some v))) news s' → (∀ b o, b ≠ c.L → s.heap.get? b = some o → s'.heap.get? b = some o) → Q () s') (hL : env.locals = c.L := by rfl) (hk : nmOk env x = true := by kernel_rfl) (hi : idxOk ns x i = true := by kernel_rfl) (hl : ns.length = vs.length := by rfl) :
    W c A (storeName env x v) Q E s := W.mk <| by
  simp only [nmOk, Bool.and_eq_true, decide_eq_true_eq, Bool.not_eq_true'] at hk
  refine wpAny_storeName_local hk.1.2 (hL ▸ S.F.ns) (fun h' hn hs => ?_) (by rw [hk.1.1]; rfl)
  rw [hL] at hn hs
  refine h _ ⟨S.G, ?_, S.N.set hs, S.gens, S.os⟩ fun b o hb e => (hs.2 b hb).trans e
  rw [← look_set hi hl]
  exact S.F.set hn hs
end
section
variable {w : World} {mg mb : Str → Option Value} {s0 : Shared} {C p f : Addr} {b : List UInt8} {t : Tok} {P : Value → Heap → Prop}
abbrev cp (w : World) (mg mb : Str → Option Value) (s0 : Shared) (L : Addr) : Cx := ⟨w, mg, mb, s0.heap, L, s0.gens, s0.os⟩
abbrev prsV (C : Addr) (b : List UInt8) (t : Tok) (tp dk y : Addr) : List (Option Value) := [some (.ref C), some (.bytes b.toArray t), some (.ref tp), some (.ref dk), some (.ref y), none]
/-- the body of parse -/
theorem parse_body {A : Around} {L tp dk : Addr} {s : Shared} {Q : Flow → Shared → Prop} {E : Value → Shared → Prop} (k : Nat) (R : Rm A 20) (hb : b.length ≤ 10000) (hdk : dk ≠ sysModules)
    (hP : ∀ v h h', P v h → (∀ b o, h.get? b = some o → h'.get? b = some o) → P v h')
    (S : St (cp w mg mb s0 L) (look prsN [some (.ref C), some (.bytes b.toArray t), some (.ref tp), some (.ref dk), none, none]) [(tp, tupObj []), (dk, emptyDict)] s)
    (hr : ∀ q y d a es n ut s', St (cp w mg mb s0 L) (look prsN (prsV C b t tp dk y)) ((q, methodObj (.ref f) (.ref C)) :: bio y d a es n b) s' → Ents es bioN [.ref a, .int ((0 : Nat) : Int) ut] →
      W (cp w mg mb s0 L) (A.deeper (callEnv fd767 L 767)) (call (.ref q) [.ref y]) (fun v s'' => ∃ es n ut, St (cp w mg mb s0 L) (look prsN (prsV C b t tp dk y)) (bio y d a es n b) s'' ∧ Ents es bioN [.ref a, .int ((b.length : Nat) : Int) ut] ∧
        P v (newOnly (hideAll s'.heap [y, d, a]) s''.heap)) E s')
    (hq : ∀ v m nw s', St (cp w mg mb s0 L) m nw s' → P v (newOnly s0.heap s'.heap) → Q (.ret v) s')
    (hk : asks[k]? = some (.cm C (.ofString "read_from") p f)) :
    W (cp w mg mb s0 L) (A.deeper (callEnv fd767 L 767)) (execs (defBody (methSt 37 1)) (callEnv fd767 L 767)) Q E s := by
  refine open_body rfl ?_
  refine x_asg <| e_call <| gl S g_BytesIO <| cw_io <| s_more <| ld 1 S <| s_nil ⟨⟨_, _, S⟩, ?_⟩
  refine use S (C_bio1 S.gl R.deeper.less (by omega)) fun v s2 S2 x2 M => ?_
  obtain ⟨y, rfl, d, a, es, n, tt, hB, e⟩ := M
  have S3 := St.add S S2 hB
  refine st 4 S3 fun s3 S3 => ?_
  refine x_asg <| e_metha <| ld 0 S3 <| a_cmG k S3 (fun q s S kk => ?_) hk
  refine cw_sk 4 2 3 S (keeps_M (cm_fn k hk)) (fun s' S' => ⟨(S'.N _ (.head _)).1, S'.gl.K⟩) (.tail _ (.tail _ (.tail _ (.tail _ (.head _))))) (.tail _ (.tail _ (.tail _ (.tail _ (.tail _ (.head _)))))) hdk (by decide) fun s4 S4 => ?_
  have S4' := S4.sub (nw := (q, methodObj (.ref f) (.ref C)) :: bio y d a es n b) (fun p hp => by
    rcases List.mem_cons.mp hp with rfl | hp
    · exact .head _
    · exact .tail _ (List.mem_append_left _ hp))
  have hT := bioHT (x := y) (d := d) (a := a) (es := es) (n := n) (b := b) (news := (q, methodObj (.ref f) (.ref C)) :: bio y d a es n b) fun _ h => .tail _ h
  have hLT : L ∉ [y, d, a] := fun hh => by obtain ⟨o, ho⟩ := hT _ hh; exact (S4'.N _ ho).2.1 rfl
  obtain ⟨oL, _, _, hoL, _⟩ := S4'.F.ns
  have hgL := hideAll_get [y, d, a] hoL hLT
  have hg0 := none_of_sub (S4'.hidK [y, d, a] hT)
  refine (hr q y d a es n tt s4 S4' e).mono (fun v s5 M => ?_) fun _ _ q => q
  obtain ⟨es, n, ut, S5, e, hp⟩ := M
  refine stK 5 S5 fun s6 S6 k6 => ?_
  have hp := hP _ _ _ hp (newOnly_sub (fun _ z => z) fun x o hn e => k6 x o (fun q => by rw [q, hgL] at hn; cases hn) e)
  refine x_if <| t_cmp <| e_call <| b_len S6 <| cw_bt <| s_more <| e_meth <| ld 4 S6 <| a_fn 11 S6 (S6.bob e) <| cw_fn lk418 <| s_more <| c_natH 1 S6 fun u s7 S7 e7 => s_nil ⟨⟨_, _, S7⟩, ?_⟩
  refine use S7 (C_read_end S7.gl R.deeper.less (S7.bob e) (S7.N _ (.tail _ (.tail _ (.head _)))).1 (by decide) hb) fun v' s8 S8 x8 M => ?_
  obtain ⟨t8, rfl⟩ := M
  refine s_nil <| y_lenH S8 (by decide) fun u s9 S9 e9 => c_natH 0 S9 fun u s10 S10 e10 => p_gt <| t_bool <| ite_no (by decide) <| x_nil ?_
  refine x_ret <| ld 5 S10 <| hq v _ _ _ S10 ?_
  rw [e10, e9]
  exact hP _ _ _ hp (newOnly_sub hg0 fun x o _ o6 => x8.keep x o (by rw [e7]; exact o6))
/-- parse, from what read_from gives -/
theorem C_parse767 {A : Around} (k j : Nat) (G : Gl w mg mb s0.heap) (R : Rm A (j + 20)) (hb : b.length ≤ 10000) (hP : ∀ v h h', P v h → (∀ b o, h.get? b = some o → h'.get? b = some o) → P v h')
    (hr : ∀ (A' : Around) g y d a s', Gl w mg mb g → Rm A' (j + 18) → (∀ b o, g.get? b = some o → s'.heap.get? b = some o) → g.objs.size ≤ s'.heap.objs.size → Bio g y d a b 0 s' →
      Runs w A' (.ref f) [.ref C, .ref y] [] g (fun v s'' => P v (newOnly g s''.heap) ∧ Bio g y d a b b.length s'') s')
    (hk : asks[k]? = some (.cm C (.ofString "read_from") p f)) (hbind : bindArgs fd767 ⟨[.ref C, .bytes b.toArray t], []⟩ = (do let t' ← newTuple []; let d ← alloc emptyDict; pure ([PySem.Str.ofString "cls", PySem.Str.ofString "s"].zip [.ref C, .bytes b.toArray t] ++ [(PySem.Str.ofString "args", t'), (PySem.Str.ofString "kwargs", .ref d)])) := by kernel_rfl) :
    Gives w A (.ref 767) [.ref C, .bytes b.toArray t] [] (fun v s' => P v (newOnly s0.heap s'.heap)) s0 := by
  refine enterS (news := []) ["cls", "s"] ["stream", "res"] "args" "kwargs" [.ref C, .bytes b.toArray t] [] G (fun _ _ e => e) (Nat.le_refl _) (fun p hp => nomatch hp) (R.less (by omega)) lk767 (defBody (methSt 37 1)) rfl cd767 (fun L s1 tp dk hdk hL ek S => ?_) hbind
  refine W.mono (Q := fun fl s' => Ext s0 s' ∧ P (match fl with | .ret v => v | _ => Value.none) (newOnly s0.heap s'.heap)) (E := fun _ _ => False) ?_ (fun _ _ q => q) fun _ _ q => q.elim
  refine parse_body k (R.less (by omega)) hb hdk hP S (fun q y d a es n ut s' S e => ?_) (fun v m nw s' S hp => ⟨⟨S.F.keep, S.gens, S.os⟩, hp⟩) hk
  have hT := bioHT (x := y) (d := d) (a := a) (es := es) (n := n) (b := b) (news := (q, methodObj (.ref f) (.ref C)) :: bio y d a es n b) fun _ h => .tail _ h
  refine useG [y, d, a] S hT (Runs.meth (S.N _ (.head _)).1 (hr _ _ y d a s' (S.glT _ hT) ((Rm.deeper (n := j + 19) R).less (by omega)) (fun b o e => of_hideAll _ e) (hid_sz _) (S.bioT (fun _ h => .tail _ h) e))) fun v s5 keep mkS M => ?_
  obtain ⟨hp, es', n', t', N', e'⟩ := M
  exact ⟨es', n', t', mkS (bio y d a es' n' b) fun p hp => ⟨(N' p hp).1, .inl (bio_in hp)⟩, e', hp⟩
/-- parse, where read_from raises -/
theorem T_parse767 {A : Around} {B : Heap} {outer : List Env} (k j : Nat) (G : Gl w mg mb s0.heap) (Kb : Below A B outer s0.heap) (R : Rm A (j + 20)) (hb : b.length ≤ 10000)
    (hr : ∀ (A' : Around) B' outer' g y d a s', Gl w mg mb g → Below A' B' outer' g → Rm A' (j + 18) → (∀ b o, g.get? b = some o → s'.heap.get? b = some o) → g.objs.size ≤ s'.heap.objs.size → Bio g y d a b 0 s' →
      Throws w A' (.ref f) [.ref C, .ref y] [] g B' outer' s')
    (hk : asks[k]? = some (.cm C (.ofString "read_from") p f)) (hbind : bindArgs fd767 ⟨[.ref C, .bytes b.toArray t], []⟩ = (do let t' ← newTuple []; let d ← alloc emptyDict; pure ([PySem.Str.ofString "cls", PySem.Str.ofString "s"].zip [.ref C, .bytes b.toArray t] ++ [(PySem.Str.ofString "args", t'), (PySem.Str.ofString "kwargs", .ref d)])) := by kernel_rfl) :
    Throws w A (.ref 767) [.ref C, .bytes b.toArray t] [] s0.heap B outer s0 := by
  refine enterS (news := []) ["cls", "s"] ["stream", "res"] "args" "kwargs" [.ref C, .bytes b.toArray t] [] G (fun _ _ e => e) (Nat.le_refl _) (fun p hp => nomatch hp) (R.less (by omega)) lk767 (defBody (methSt 37 1)) rfl cd767 (fun L s1 tp dk hdk hL ek S => ?_) hbind
  have hkd : (callEnv fd767 L 767).scope.kind ≠ .module := fk (by kernel_rfl)
  refine W.mono (Q := fun _ _ => False) (E := fun e s' => Thrown s0.heap B (callEnv fd767 L 767 :: outer) s0 e s') ?_ (fun _ _ q => q.elim) fun e s'' q => ?_
  · refine parse_body (P := fun _ _ => False) k (R.less (by omega)) hb hdk (fun _ _ _ h _ => h) S (fun q y d a es n ut s' S e => ?_) (fun v m nw s' S hp => hp) hk
    have hT := bioHT (x := y) (d := d) (a := a) (es := es) (n := n) (b := b) (news := (q, methodObj (.ref f) (.ref C)) :: bio y d a es n b) fun _ h => .tail _ h
    have Kb' := St.below (env := callEnv fd767 L 767) Kb S rfl hkd
    have hLT : L ∉ [y, d, a] := fun hh => by obtain ⟨o, ho⟩ := hT _ hh; exact (S.N _ ho).2.1 rfl
    refine W.call ((codeN_meth (S.N _ (.head _)).1 (hr _ B (callEnv fd767 L 767 :: outer) _ y d a s' (S.glT [y, d, a] hT) ⟨Kb'.stack, fun b o e => S.hidK [y, d, a] hT b o (Kb.stays b o e), ?_⟩ ((Rm.deeper (n := j + 19) R).less (by omega)) (fun b o e => of_hideAll _ e) (hid_sz _) (S.bioT (fun _ h => .tail _ h) e))).mono fun r s5 z => ?_)
    · exact .cons hkd rfl (S.F.ns.at fun o e => hideAll_get _ e hLT) (by have := Kb'.frames; obtain ⟨_, ⟨L', o, hf, hn, _⟩, _⟩ := this; cases hf; exact hn) (Kb.frames.of_keeps fun b o e _ => ⟨o, S.hidK [y, d, a] hT b o e, rfl⟩)
    · match r, z with
      | .ok _, z => exact z.elim
      | .error e, z => exact ⟨z.fly, (Heap.UpToSlots.of_keeps (S.hidK [y, d, a] hT)).trans z.slots, z.gens.trans S.gens, z.os.trans S.os⟩
  · exact fly_leaves (Q := fun s'' => Thrown s0.heap B outer s0 e s'') (E := fun e' s'' => Thrown s0.heap B outer s0 e' s'') Kb.stack rfl q.fly fun h'' fl up => ⟨fl, q.slots.trans up, q.gens, q.os⟩
end
end Mine
end

section
set_option Elab.async false
set_option maxRecDepth 100000
set_option linter.unusedVariables false
set_option exponentiation.threshold 20000
open PySem PySem.W PyProof.Rows PySem.Calls
namespace Mine
theorem newOnly_up {g g' h : Heap} (k : ∀ b o, g'.get? b = some o → g.get? b = some o) : ∀ b o, (newOnly g h).get? b = some o → (newOnly g' h).get? b = some o := newOnly_sub (none_of_sub k) fun _ _ _ e => e
theorem C_prv_read {w mg mb A s0 y d a g} {b : List UInt8} (G : Gl w mg mb g) (R : Rm A 30) (sub : ∀ b o, g.get? b = some o → s0.heap.get? b = some o) (hsz : g.objs.size ≤ s0.heap.objs.size) (B : Bio g y d a b 0 s0)
    (hb : b.length = 32) (hok : 0 < beN b ∧ beN b < prime) :
    Runs w A (.ref 1191) [.ref 1205, .ref y] [] g (fun v s' => (∃ x t, v = .ref x ∧ Ob (newOnly g s'.heap) x 1205 prvN [.bool true, .bytes b.toArray t, .ref 177]) ∧ Bio g y d a b b.length s') s0 := by
  obtain ⟨es, n, ut, N, e⟩ := B
  refine runsG ["cls", "stream"] [] [.ref 1205, .ref y] G sub hsz N R.less lk1191 (defBody (methSt 42 16)) rfl cd1191 fun L s hL ek S => ?_
  refine open_body rfl ?_
  refine x_ret <| e_call <| ld 0 S <| cw_cls 29 S <| s_more <| e_meth <| ld 1 S <| a_fn 11 S (S.bob e) <| cw_fn lk418 <| s_more <| c_nat 32 S fun u s S => s_nil ⟨⟨_, _, S⟩, ?_⟩
  refine r_read S e R.deeper.less (Nat.zero_le _) (by decide) (by omega) fun u es n ut s S e _ => ?_
  rw [List.drop_zero, List.take_of_length_le (by omega)]
  rw [show min (0 + 32) b.length = b.length by omega] at e
  refine s_nil ⟨⟨_, _, S⟩, ?_⟩
  have S' := S
  refine use S (C_prv S.gl R.deeper.less hb hok) fun v s S x P => ?_
  obtain ⟨z, rfl, O⟩ := P
  exact ⟨S.doneG, ⟨z, u, rfl, O.keeps (newOnly_up S'.F.keep)⟩, S.bioD e⟩
theorem C_prv_parse {w mg mb A s t} {b : List UInt8} (G : Gl w mg mb s.heap) (R : Rm A 35) (hb : b.length = 32) (hok : 0 < beN b ∧ beN b < prime) :
    Gives w A (.ref 767) [.ref 1205, .bytes b.toArray t] [] (fun v s' => ∃ x, v = .ref x ∧ KeyOb (newOnly s.heap s'.heap) x true b) s :=
  C_parse767 (P := fun v h => ∃ x, v = .ref x ∧ KeyOb h x true b) (f := 1191) (p := 1193) 53 15 G R (by omega) (fun v h h' ⟨x, e, K⟩ k => ⟨x, e, K.keeps k⟩)
    (fun A' g y d a s' G' R' sub hsz B => (C_prv_read G' R'.less sub hsz B hb hok).mono fun r s'' q => by
      match r, q with
      | .ok (.ret v), ⟨q1, ⟨x, t, e, O⟩, q3⟩ => exact ⟨q1, ⟨x, e, t, O, hb⟩, q3⟩
      | .ok .next, q => exact q.elim
      | .ok .brk, q => exact q.elim
      | .ok .cont, q => exact q.elim
      | .error _, q => exact q.elim) rfl
/-! the public key -/
theorem ser_drop (n : Nat) : (ser n).drop 1 = toBE 32 (min n (prime - n)) := by unfold ser; rfl
theorem ser_num {n : Nat} (hn : n < prime) : beN ((ser n).drop 1) = min n (prime - n) := by
  rw [ser_drop, beN_to (Nat.lt_of_le_of_lt (Nat.min_le_left _ _) (Nat.lt_trans hn prime_lt))]
theorem unser_ser {n : Nat} (hn : n < prime) : unser (ser n) = n := by
  unfold unser
  rw [ser_num hn]
  by_cases h : 2 * n < prime
  · have e : (ser n).getD 0 0 = 2 := by unfold ser; rw [if_pos h]; rfl
    rw [if_pos e]; omega
  · have e : (ser n).getD 0 0 = 3 := by unfold ser; rw [if_neg h]; rfl
    rw [if_neg (by rw [e]; decide)]; omega
theorem ser_split (n : Nat) : ser n = (ser n).take 1 ++ (ser n).drop 1 := (List.take_append_drop 1 _).symm
theorem ser_first (n : Nat) : (ser n).take 1 = [2] ∨ (ser n).take 1 = [3] := by
  unfold ser
  split
  · exact .inl rfl
  · exact .inr rfl
section
variable {c : Cx} {m : Str → Option Value} {A : Around} {E : Value → Shared → Prop} {s : Shared} {news : List (Addr × Obj)} {env : Env}
/-- try: a suite that raises nothing -/
theorem x_try {body : List Stmt} {h0 : ExceptHandler} {hs : List ExceptHandler} {pos : Pos} {rest : List Stmt} {Q : Flow → Shared → Prop}
    (h : W c A (execs body env) (fun f s₁ => match f with | .next => W c A (execs rest env) Q E s₁ | f => Nx c A rest env Q E f s₁)
      (fun e s₁ => W c A (noteFrame e env) (fun _ s₂ => W c A (setFlight e none) (fun _ s₃ => W c A (handleBy e env (h0 :: hs)) (Nx c A rest env Q E) E s₃) E s₂) E s₁) s) :
    W c A (execs (.Try body (h0 :: hs) [] [] pos :: rest) env) Q E s := by
  refine x_cons ?_
  rw [arm_exec_Try]
  refine W.stand ?_
  unfold tryStmt
  simp only [List.isEmpty_nil, if_true, List.isEmpty_cons, Bool.false_and, Bool.false_eq_true, if_false]
  have att : ∀ {Q' : Except Value Flow → Shared → Prop}, W c A (execs body env) (fun a => Q' (.ok a)) (fun e => Q' (.error e)) s → W c A (execs body env).attempt Q' E s := fun h => ⟨fun Γ p hΓ q => by rw [Sem.wp_attempt]; exact h.out Γ p hΓ q⟩
  refine W.bind (att (h.mono (fun f s₁ h₁ => ?_) fun e s₁ h₁ => ?_))
  · cases f with
    | next => exact W.mk (wpAny_execs_nil h₁)
    | brk => exact W.pure h₁
    | cont => exact W.pure h₁
    | ret v => exact W.pure h₁
  · exact W.then h₁ fun _ s₂ h₂ => W.then h₂ fun _ s₃ h₃ => h₃
end
end Mine
end

section
set_option Elab.async false
set_option maxRecDepth 100000
set_option linter.unusedVariables false
set_option exponentiation.threshold 20000
open PySem PySem.W PyProof.Rows PySem.Calls
namespace Mine
theorem C_pub_read {w mg mb A s0 y d a g} {n : Nat} (G : Gl w mg mb g) (R : Rm A 30) (sub : ∀ b o, g.get? b = some o → s0.heap.get? b = some o) (hsz : g.objs.size ≤ s0.heap.objs.size) (B : Bio g y d a (ser n) 0 s0)
    (h0 : n ≠ 0) (hn : n < prime) :
    Runs w A (.ref 925) [.ref 1051, .ref y] [] g (fun v s' => (∃ x t, v = .ref x ∧ Ob (newOnly g s'.heap) x 1051 pubN [.bytes (toBE 32 n).toArray t, .bool true]) ∧ Bio g y d a (ser n) (ser n).length s') s0 := by
  obtain ⟨es, cnt, ut, N, e⟩ := B
  have hl := ser_len n
  have hf := ser_first n
  have hin : ∀ u1 u2 u3 : Tok, (!([(([2] : List UInt8), u1), ([3], u2), ([4], u3)].any fun p => p.1 == (ser n).take 1)) = false := by
    intro u1 u2 u3
    rcases hf with hf | hf <;> rw [hf] <;> rfl
  have h4 : ((ser n).take 1 == ([4] : List UInt8)) = false := by rcases hf with hf | hf <;> rw [hf] <;> rfl
  refine runsG ["cls", "stream"] ["b", "point", "compressed"] [.ref 1051, .ref y] G sub hsz N R.less lk925 (defBody (methSt 41 1)) rfl cd925 fun L s hL ek S => ?_
  refine open_body rfl ?_
  refine x_asg <| e_meth <| ld 1 S <| a_fn 11 S (S.bob e) <| cw_fn lk418 <| s_more <| c_nat 1 S fun u s S => s_nil ⟨⟨_, _, S⟩, ?_⟩
  refine r_read S e R.deeper.less (Nat.zero_le _) (by decide) (by omega) fun u es cnt ut s S e _ => ?_
  rw [List.drop_zero]
  rw [show min (0 + 1) (ser n).length = 1 by omega] at e
  refine st 2 S fun s S => ?_
  refine x_if <| t_cmp <| ld 2 S <| e_list <| s_more <| c_bytes S fun u1 s S => s_more <| c_bytes S fun u2 s S => s_more <| c_bytes S fun u3 s S => s_nil <| r_list S fun l s S => ?_
  refine y_notin (ps := [([2], u1), ([3], u2), ([4], u3)]) S (.head _) <| t_bool <| ite_no (by rw [hin]; exact Bool.false_ne_true) <| x_nil ?_
  have S := S.drop
  refine x_if <| t_cmp <| ld 2 S <| c_bytes S fun u1 s S => y_eq (d := [4]) <| t_bool <| ite_no (by rw [h4]; exact Bool.false_ne_true) ?_
  refine x_aug <| ldn 2 S <| e_meth <| ld 1 S <| a_fn 11 S (S.bob e) <| cw_fn lk418 <| s_more <| c_nat 32 S fun u s S => s_nil ⟨⟨_, _, S⟩, ?_⟩
  refine r_read S e R.deeper.less (by omega) (by decide) (by omega) fun u es cnt ut s S e _ => ?_
  have hd : ((ser n).drop 1).length = 32 := by rw [List.length_drop, hl]
  rw [List.take_of_length_le (Nat.le_of_eq hd)]
  rw [show min (1 + 32) (ser n).length = (ser n).length by omega] at e
  refine y_iadd S (by rcases hf with hf | hf <;> rw [hf] <;> decide) (ne_of_len hd) (by simp; omega) fun u s S => ?_
  rw [← ser_split]
  refine st 2 S fun s S => x_nil ?_
  refine x_try <| x_asg <| e_call <| gl S g_ec_pubkey_parse <| cw_fn' lk175 <| s_more <| ld 2 S <| s_nil ⟨⟨_, _, S⟩, ?_⟩
  refine use S (C_parse S.gl R.deeper.less hl (by rw [ser_num hn]; omega) (by rw [ser_num hn]; omega)) fun v s S x1 P => ?_
  obtain ⟨t', rfl⟩ := P
  rw [unser_ser hn]
  refine st 3 S fun s S => x_nil ?_
  refine x_asg <| e_cmp <| e_sub <| ld 2 S <| c_nat 0 S fun u s S => ?_
  refine y_item S (by omega) (by omega) fun u s S => c_nat 4 S fun u s S => p_ne ?_
  have hc : (!decide (((ser n).getD 0 0).toNat = 4)) = true := by
    unfold ser
    split <;> rfl
  rw [hc]
  refine st 4 S fun s S => ?_
  refine x_ret <| e_call <| ld 0 S <| cw_cls 19 S <| s_more <| ld 3 S <| s_more <| ld 4 S <| s_nil ⟨⟨_, _, S⟩, ?_⟩
  have S' := S
  refine use S (C_pub S.gl R.deeper.less) fun v s S x P => ?_
  obtain ⟨z, rfl, O⟩ := P
  exact ⟨S.doneG, ⟨z, t', rfl, O.keeps (newOnly_up S'.F.keep)⟩, S.bioD e⟩
theorem C_pub_parse {w mg mb A s t} {n : Nat} (G : Gl w mg mb s.heap) (R : Rm A 35) (h0 : n ≠ 0) (hn : n < prime) :
    Gives w A (.ref 767) [.ref 1051, .bytes (ser n).toArray t] [] (fun v s' => ∃ x, v = .ref x ∧ KeyOb (newOnly s.heap s'.heap) x false (ser n)) s :=
  C_parse767 (P := fun v h => ∃ x, v = .ref x ∧ KeyOb h x false (ser n)) (f := 925) (p := 927) 54 15 G R (by rw [ser_len]; decide) (fun v h h' ⟨x, e, K⟩ k => ⟨x, e, K.keeps k⟩)
    (fun A' g y d a s' G' R' sub hsz B => (C_pub_read G' R'.less sub hsz B h0 hn).mono fun r s'' q => by
      match r, q with
      | .ok (.ret v), ⟨q1, ⟨x, t, e, O⟩, q3⟩ => exact ⟨q1, ⟨x, e, n, t, O, hn, rfl⟩, q3⟩
      | .ok .next, q => exact q.elim
      | .ok .brk, q => exact q.elim
      | .ok .cont, q => exact q.elim
      | .error _, q => exact q.elim) rfl
end Mine
end

section
set_option Elab.async false
set_option maxRecDepth 100000
set_option linter.unusedVariables false
set_option exponentiation.threshold 20000
open PySem PySem.W PyProof.Rows PySem.Calls
namespace Mine
section
variable {c : Cx} {m : Str → Option Value} {A : Around} {E : Value → Shared → Prop} {s s' : Shared} {news : List (Addr × Obj)} {env : Env} {x k C : Addr} {ns : List Str} {vs : List Value} {p : Bool} {body : List UInt8}
/-- a made object goes onto the ledger -/
theorem St.addOb (S0 : St c m news s) (S : St c m news s') (O : Ob (newOnly s.heap s'.heap) x C ns vs) : ∃ d es n, St c m ((x, instObj C d) :: (d, dictOf es n) :: news) s' ∧ Ents es ns vs := by
  obtain ⟨d, es, n, a, b, e⟩ := O
  refine ⟨d, es, n, St.add (l := [(x, instObj C d), (d, dictOf es n)]) S0 S (fun q hq => ?_), e⟩
  rcases List.mem_cons.mp hq with rfl | hq
  · exact ⟨newOnly_of a, newOnly_none a⟩
  · rw [List.mem_singleton.mp hq]
    exact ⟨newOnly_of b, newOnly_none b⟩
theorem St.addKey (S0 : St c m news s) (S : St c m news s') (K : KeyOb (newOnly s.heap s'.heap) k p body) : ∃ l, St c m (l ++ news) s' ∧ ∀ m' nw s'', St c m' nw s'' → (∀ q ∈ l, q ∈ nw) → KeyOb (newOnly c.g s''.heap) k p body := by
  cases p with
  | true =>
    obtain ⟨t, O, e⟩ := K
    obtain ⟨d, es, n, S2, en⟩ := S0.addOb S O
    exact ⟨[(k, instObj 1205 d), (d, dictOf es n)], S2, fun m' nw s'' S3 h => ⟨t, S3.obN (h _ (.head _)) (h _ (.tail _ (.head _))) en, e⟩⟩
  | false =>
    obtain ⟨j, t, O, e⟩ := K
    obtain ⟨d, es, n, S2, en⟩ := S0.addOb S O
    exact ⟨[(k, instObj 1051 d), (d, dictOf es n)], S2, fun m' nw s'' S3 h => ⟨j, t, S3.obN (h _ (.head _)) (h _ (.tail _ (.head _))) en, e⟩⟩
theorem KeyOb.all {g h : Heap} (K : KeyOb (newOnly g h) k p body) : KeyOb h k p body := K.keeps fun _ _ e => newOnly_of e
/-! calls with keywords -/
theorem a_kw {n : Str} {e : Expr} {q pos : Pos} {kws : List Keyword} {Q : List Value → Shared → Prop} (h : W c A (eval e env) (fun v s₁ => W c A (evalAll ((backToKw pos (keywordEach kws env)).map (·.2))) (fun us s₂ => Q (v :: us) s₂) E s₁) E s) :
    W c A (evalAll ((backToKw pos (keywordEach (⟨some n, e, q⟩ :: kws) env)).map (·.2))) Q E s := by
  have e1 : (backToKw pos (keywordEach (⟨some n, e, q⟩ :: kws) env)).map (·.2) = (do let v ← eval e env; standAt pos; pure v) :: (backToKw pos (keywordEach kws env)).map (·.2) := rfl
  rw [e1]
  exact a_cons (W.then h fun v s₁ h₁ => W.stand (W.pure h₁))
theorem a_kwnil {pos : Pos} {Q : List Value → Shared → Prop} (h : Q [] s) : W c A (evalAll ((backToKw pos (keywordEach [] env)).map (·.2))) Q E s := a_nil h
theorem cw_clsk (k : Nat) {fI : Addr} {pos : Pos} {e : Expr} {rest : List Expr} {kws : List Keyword} {Q : Value → Shared → Prop}
    (h : W c A (spliced (backTo pos (starEach (e :: rest) env))) (fun vs s₁ => W c A (evalAll ((backToKw pos (keywordEach kws env)).map (·.2))) (fun us s₂ => (∃ m' news', St c m' news' s₂) ∧ W c A (call (.ref C) vs (((backToKw pos (keywordEach kws env)).filterMap (·.1)).zip us)) Q E s₂) E s₁) E s)
    (hk : asks[k]? = some (.mk C fI) := by rfl) (hn : notStar e = true := by rfl) (hs : noStars rest = true := by rfl) (hw : (backToKw pos (keywordEach kws env)).all (·.1.isSome) = true := by rfl) (hw2 : (backToKw pos (keywordEach kws env)).any (·.1.isNone) = false := by rfl) :
    W c A (callWith pos (.ref C) [] (backTo pos (starEach (e :: rest) env)) (backToKw pos (keywordEach kws env))) Q E s := by
  have q := ask c.w.params k hk
  simp only [Ask.ok, mkOk, Bool.and_eq_true, beq_iff_eq] at q
  refine cw_gen (P := (KF c.w.params).In) (stars_false hn hs _ hw2) (keeps_K q.2) ?_
  rw [starEach_cons hn, backTo_cons] at h ⊢
  exact ev_kw hw (h.mono (fun vs s₁ h₁ => h₁.mono (fun us s₂ h₂ => ⟨(by obtain ⟨_, _, S⟩ := h₂.1; exact S.gl.K), h₂.2⟩) fun _ _ q => q) fun _ _ q => q)
end
section
variable {c : Cx} {m : Str → Option Value} {A : Around} {E : Value → Shared → Prop} {s : Shared} {y d a : Addr} {es : List DictEntry} {n : Nat} {b : List UInt8} {t ut : Tok}
/-- a read, one more object on the ledger -/
theorem r_read1 {p k : Nat} {q : Addr} {o : Obj} {Q : Value → Shared → Prop} (S : St c m ((q, o) :: bio y d a es n b) s) (h1 : o ≠ instObj 494 d) (h2 : o ≠ dictOf es n) (h3 : o ≠ baObj b.toArray) (e : Ents es bioN [.ref a, .int ((p : Nat) : Int) ut]) (R : Rm A 10) (hp : p ≤ b.length) (hk : k ≤ 10000) (hz : b.length ≤ 10000)
    (h : ∀ u es n ut s', St c m ((q, o) :: bio y d a es n b) s' → Ents es bioN [.ref a, .int ((min (p + k) b.length : Nat) : Int) ut] → Q (.bytes ((b.drop p).take k).toArray u) s') :
    W c A (call (.ref 418) [.ref y, .int (k : Nat) t]) Q E s := by
  have hT := bioHT (x := y) (d := d) (a := a) (es := es) (n := n) (b := b) (news := (q, o) :: bio y d a es n b) fun _ h => .tail _ h
  have hqT : q ∉ [y, d, a] := fun hh => by
    rcases List.mem_cons.mp hh with e | hh
    · exact S.apart (.head _) (.tail _ (.head _)) h1 e
    · rcases List.mem_cons.mp hh with e | hh
      · exact S.apart (.head _) (.tail _ (.tail _ (.head _))) h2 e
      · exact S.apart (.head _) (.tail _ (.tail _ (.tail _ (.head _)))) h3 (List.mem_singleton.mp hh)
  refine useG [y, d, a] S hT (C_read (S.glT _ hT) R (fun b o e => of_hideAll _ e) (hid_sz _) (S.bioT (fun _ h => .tail _ h) e) hp hk hz) fun v s' keep mkS P => ?_
  obtain ⟨⟨u, rfl⟩, es', n', t', N', e'⟩ := P
  refine h u es' n' t' s' (mkS ((q, o) :: bio y d a es' n' b) fun p hp => ?_) e'
  rcases List.mem_cons.mp hp with rfl | hp
  · exact ⟨keep _ _ hqT (S.N _ (.head _)).1, .inr (.inr ⟨.head _, hqT⟩)⟩
  · exact ⟨(N' p hp).1, .inl (bio_in hp)⟩
end
/-- what a key's octets must be to be read again -/
def KeyData (p : Bool) (body : List UInt8) : Prop := match p with
  | true => body.length = 32 ∧ 0 < beN body ∧ beN body < prime
  | false => ∃ n, n ≠ 0 ∧ n < prime ∧ body = ser n
def Hd.tl (H : Hd) : List UInt8 := if H.p = true then 0 :: H.body else H.body
theorem Hd.octs_eq (H : Hd) : H.octs = H.ver ++ (UInt8.ofNat H.depth :: (H.fp ++ (toBE 4 H.cn ++ (H.chain ++ H.tl)))) := by
  unfold Hd.octs Hd.head Hd.tl
  split <;> simp
structure Hd.Cuts (H : Hd) : Prop where
  len : H.octs.length = 78
  c0 : (H.octs.drop 0).take 4 = H.ver
  c1 : (H.octs.drop 4).take 1 = [UInt8.ofNat H.depth]
  c2 : (H.octs.drop 5).take 4 = H.fp
  c3 : (H.octs.drop 9).take 4 = toBE 4 H.cn
  c4 : (H.octs.drop 13).take 32 = H.chain
  c5 : (H.octs.drop 45).take 33 = H.tl
theorem Hd.tl_len {H : Hd} (hb : H.body.length = if H.p = true then 32 else 33) : H.tl.length = 33 := by
  unfold Hd.tl
  split <;> simp_all
theorem Hd.cuts {H : Hd} (ok : H.Ok) (hb : H.body.length = if H.p = true then 32 else 33) : H.Cuts := by
  have h1 := ok.ver
  have h2 := ok.chain
  have h3 := ok.fp
  have h4 := Hd.tl_len hb
  have h5 := toBE_len 4 H.cn
  have e := H.octs_eq
  have d4 : H.octs.drop 4 = UInt8.ofNat H.depth :: (H.fp ++ (toBE 4 H.cn ++ (H.chain ++ H.tl))) := by rw [e]; exact List.drop_left' h1
  have d5 : H.octs.drop 5 = H.fp ++ (toBE 4 H.cn ++ (H.chain ++ H.tl)) := by rw [show (5 : Nat) = 4 + 1 from rfl, ← List.drop_drop, d4]; rfl
  have d9 : H.octs.drop 9 = toBE 4 H.cn ++ (H.chain ++ H.tl) := by rw [show (9 : Nat) = 5 + 4 from rfl, ← List.drop_drop, d5]; exact List.drop_left' h3
  have d13 : H.octs.drop 13 = H.chain ++ H.tl := by rw [show (13 : Nat) = 9 + 4 from rfl, ← List.drop_drop, d9]; exact List.drop_left' h5
  have d45 : H.octs.drop 45 = H.tl := by rw [show (45 : Nat) = 13 + 32 from rfl, ← List.drop_drop, d13]; exact List.drop_left' h2
  refine ⟨?_, ?_, ?_, ?_, ?_, ?_, ?_⟩
  · rw [e]; simp [h1, h2, h3, h4, h5]
  · rw [List.drop_zero, e]; exact List.take_left' h1
  · rw [d4]; rfl
  · rw [d5]; exact List.take_left' h3
  · rw [d9]; exact List.take_left' h5
  · rw [d13]; exact List.take_left' h2
  · rw [d45]; exact List.take_of_length_le (by omega)
def Hd.Lost (H : Hd) : Prop := H.depth = 0 ∧ (H.cn ≠ 0 ∨ H.fp ≠ [0, 0, 0, 0])
end Mine
end

section
set_option Elab.async false
set_option maxRecDepth 100000
set_option linter.unusedVariables false
set_option exponentiation.threshold 20000
open PySem PySem.W PyProof.Rows PySem.Calls
namespace Mine
abbrev rdN : List Str := [PySem.Str.ofString "cls", PySem.Str.ofString "stream"] ++ [PySem.Str.ofString "version", PySem.Str.ofString "depth", PySem.Str.ofString "fingerprint", PySem.Str.ofString "child_number", PySem.Str.ofString "chain_code", PySem.Str.ofString "k", PySem.Str.ofString "key", PySem.Str.ofString "hd", PySem.Str.ofString "subver"]
abbrev rdV (y k : Addr) (H : Hd) (t1 t2 t3 t4 t5 t6 : Tok) : List (Option Value) := [some (.ref 1420), some (.ref y), some (.bytes H.ver.toArray t1), some (.int (H.depth : Nat) t3), some (.bytes H.fp.toArray t4), some (.int (H.cn : Nat) t6), some (.bytes H.chain.toArray t2), some (.bytes H.tl.toArray t5), some (.ref k), none, none]
/-- read_from: behind the making of the key -/
theorem rd_tail {w mg mb A s0 s y d a es cnt g L k l} {H : Hd} {t1 t2 t3 t4 t5 t6 ut : Tok} {Q : Flow → Shared → Prop} {E : Value → Shared → Prop} (R : Rm A 50) (ok : H.Ok) (good : H.Good) (e : Ents es bioN [.ref a, .int ((H.octs.length : Nat) : Int) ut])
    (S : St (cg w mg mb g s0 L) (look rdN (rdV y k H t1 t2 t3 t4 t5 t6)) (l ++ bio y d a es cnt H.octs) s)
    (K : ∀ m' nw s'', St (cg w mg mb g s0 L) m' nw s'' → (∀ q ∈ l, q ∈ nw) → KeyOb (newOnly g s''.heap) k H.p H.body)
    (hq : ¬ H.Lost → ∀ x m nw s', St (cg w mg mb g s0 L) m nw s' → HdOb (newOnly g s'.heap) x H → Bio g y d a H.octs H.octs.length s' → Q (.ret (.ref x)) s')
    (he : H.Lost → ∀ m nw s' h₀ h' x vs tk, St (cg w mg mb g s0 L) m nw s' → h₀ = s'.heap → Heap.MadeExcOf h₀ h' x (.ref 1217) vs → E (.ref x) { s' with heap := h', toks := tk }) :
    W (cg w mg mb g s0 L) (A.deeper (callEnv fd1320 L 1320)) (execs ((defBody (methSt 46 10)).drop 7) (callEnv fd1320 L 1320)) Q E s := by
  have hv := ok.ver
  have hf := ok.fp
  have hc := ok.chain
  refine open_body rfl ?_
  refine x_if <| t_or <| t_cmp <| e_call <| b_len S <| cw_bt <| s_more <| ld 2 S <| s_nil ?_
  refine y_len S (by omega) fun u s S => c_nat 4 S fun u s S => p_lt <| t_bool <| ite_no (by rw [hv]; decide) ?_
  refine t_or <| t_cmp <| e_call <| b_len S <| cw_bt <| s_more <| ld 4 S <| s_nil ?_
  refine y_len S (by omega) fun u s S => c_nat 4 S fun u s S => p_lt <| t_bool <| ite_no (by rw [hf]; decide) ?_
  refine t_or <| t_cmp <| e_call <| b_len S <| cw_bt <| s_more <| ld 6 S <| s_nil ?_
  refine y_len S (by omega) fun u s S => c_nat 32 S fun u s S => p_lt <| t_bool <| ite_no (by rw [hc]; decide) ?_
  refine t_or0 <| ite_no Bool.false_ne_true <| x_nil ?_
  refine x_asg <| e_callk <| ld 0 S <| cw_clsk 48 <| s_more <| ld 8 S <| s_more <| ld 6 S <| s_nil <| a_kw <| ld 2 S <| a_kw <| ld 3 S <| a_kw <| ld 4 S <| a_kw <| ld 5 S <| a_kwnil ⟨⟨_, _, S⟩, ?_⟩
  have Ks : KeyOb s.heap k H.p H.body := (K _ _ _ S fun q hq => List.mem_append_left _ hq).all
  have S8 := S
  refine use S (C_hd S.gl R.deeper.less ok good Ks (t1 := t1) (t2 := t2) (t3 := t3) (t4 := t4) (t6 := t6) (by intro x S; kernel_rfl)) fun v s9 S x9 P => ?_
  obtain ⟨x, rfl, t7, O⟩ := P
  obtain ⟨d', es', n', S, en⟩ := S8.addOb S O
  have hO : ∀ {m s}, St (cg w mg mb g s0 L) m ((x, instObj 1420 d') :: (d', dictOf es' n') :: (l ++ bio y d a es cnt H.octs)) s → HdOb (newOnly g s.heap) x H := fun S =>
    ⟨k, t1, t2, t3, t4, t7, t6, S.obN (.head _) (.tail _ (.head _)) en, K _ _ _ S fun q hq => .tail _ (.tail _ (List.mem_append_left _ hq))⟩
  have hA : ∀ {m s}, St (cg w mg mb g s0 L) m ((x, instObj 1420 d') :: (d', dictOf es' n') :: (l ++ bio y d a es cnt H.octs)) s → HdOb s.heap x H := fun S => (hO S).keeps fun _ _ e => newOnly_of e
  refine st 9 S fun s S => ?_
  have hz : (txt H.octs).length ≤ 1000 := txt_len_le (by rw [(hA S).len ok]; decide)
  refine x_asg <| e_sub <| e_meth <| ld 9 S <| a_fn 46 S (S.ob (.head _) (.tail _ (.head _)) en) <| cw_fn0 lk1295 S ?_
  refine use S (C_b58 S.gl R.deeper.less ok good (hA S)) fun v s S x1 P => ?_
  obtain ⟨t8, rfl⟩ := P
  refine e_cut <| pt_some <| c_int S fun u s S => pt_some <| c_int S fun u s S => ?_
  refine s_cutP S (.int _ _) (.int _ _) (by omega) fun u s S => ?_
  rw [show cutL (some 1) (some 4) (txt H.octs) = if H.p = true then prvT else pubT from good]
  refine st 10 S fun s S => ?_
  have fin : ∀ s, St (cg w mg mb g s0 L) (look rdN [some (.ref 1420), some (.ref y), some (.bytes H.ver.toArray t1), some (.int (H.depth : Nat) t3), some (.bytes H.fp.toArray t4), some (.int (H.cn : Nat) t6), some (.bytes H.chain.toArray t2), some (.bytes H.tl.toArray t5), some (.ref k), some (.ref x), some (.str (tx (if H.p = true then prvT else pubT)) u)]) ((x, instObj 1420 d') :: (d', dictOf es' n') :: (l ++ bio y d a es cnt H.octs)) s →
      W (cg w mg mb g s0 L) (A.deeper (callEnv fd1320 L 1320)) (execs ((defBody (methSt 46 10)).drop 11) (callEnv fd1320 L 1320)) Q E s := fun s S => by
    have ret : ∀ s, ¬ H.Lost → St (cg w mg mb g s0 L) (look rdN [some (.ref 1420), some (.ref y), some (.bytes H.ver.toArray t1), some (.int (H.depth : Nat) t3), some (.bytes H.fp.toArray t4), some (.int (H.cn : Nat) t6), some (.bytes H.chain.toArray t2), some (.bytes H.tl.toArray t5), some (.ref k), some (.ref x), some (.str (tx (if H.p = true then prvT else pubT)) u)]) ((x, instObj 1420 d') :: (d', dictOf es' n') :: (l ++ bio y d a es cnt H.octs)) s →
        W (cg w mg mb g s0 L) (A.deeper (callEnv fd1320 L 1320)) (execs ((defBody (methSt 46 10)).drop 13) (callEnv fd1320 L 1320)) Q E s := fun s nl S => by
      refine open_body rfl ?_
      refine x_ret <| ld 9 S <| hq nl _ _ _ _ S (hO S) ((S.sub (nw := bio y d a es cnt H.octs) fun q hq => .tail _ (.tail _ (List.mem_append_right _ hq))).bioD e)
    have two : ∀ s, (H.depth = 0 → H.cn = 0) → St (cg w mg mb g s0 L) (look rdN [some (.ref 1420), some (.ref y), some (.bytes H.ver.toArray t1), some (.int (H.depth : Nat) t3), some (.bytes H.fp.toArray t4), some (.int (H.cn : Nat) t6), some (.bytes H.chain.toArray t2), some (.bytes H.tl.toArray t5), some (.ref k), some (.ref x), some (.str (tx (if H.p = true then prvT else pubT)) u)]) ((x, instObj 1420 d') :: (d', dictOf es' n') :: (l ++ bio y d a es cnt H.octs)) s →
        W (cg w mg mb g s0 L) (A.deeper (callEnv fd1320 L 1320)) (execs ((defBody (methSt 46 10)).drop 12) (callEnv fd1320 L 1320)) Q E s := fun s nl S => by
      refine open_body rfl ?_
      refine x_if <| t_and <| t_cmp <| ld 3 S <| c_nat 0 S fun u s S => p_eq <| t_bool <| ite_two (fun h => ?_) fun h => ite_no Bool.false_ne_true <| x_nil <| ret _ (fun z => h (decide_eq_true z.1)) S
      refine t_and <| t_cmp <| ld 4 S <| c_bytes S fun u s S => y_ne (d := [0, 0, 0, 0]) <| t_bool <| ite_two (fun h2 => ?_) fun h2 => ite_no Bool.false_ne_true <| x_nil <| ret _ (fun z => z.2.elim (fun z2 => z2 (nl z.1)) fun z2 => h2 (by simpa using z2)) S
      exact t_and0 <| ite_yes rfl <| x_raise S R.calm fun h₀ h' x vs tk e0 hm => he ⟨of_decide_eq_true h, .inr (by simpa using h2)⟩ _ _ _ _ _ _ _ _ S e0 hm
    refine open_body rfl ?_
    refine x_if <| t_and <| t_cmp <| ld 3 S <| c_nat 0 S fun u s S => p_eq <| t_bool <| ite_two (fun h => ?_) fun h => ite_no Bool.false_ne_true <| x_nil <| two _ (fun z => (h (decide_eq_true z)).elim) S
    refine t_and <| t_cmp <| ld 5 S <| c_nat 0 S fun u s S => p_ne <| t_bool <| ite_two (fun h2 => ?_) fun h2 => ite_no Bool.false_ne_true <| x_nil <| two _ (fun _ => by simpa using h2) S
    exact t_and0 <| ite_yes rfl <| x_raise S R.calm fun h₀ h' x vs tk e0 hm => he ⟨of_decide_eq_true h, .inl (by simpa using h2)⟩ _ _ _ _ _ _ _ _ S e0 hm
  refine open_body rfl ?_
  refine x_if <| t_and <| t_cmp <| ld 10 S <| c_tx prvT S fun u s S => s_ne <| t_bool <| ite_two (fun h => ?_) fun h => ite_no Bool.false_ne_true <| x_nil <| fin _ S
  refine t_and <| t_cmp <| ld 10 S <| c_tx pubT S fun u s S => s_ne <| t_bool <| ite_no (fun z => ?_) <| ite_no Bool.false_ne_true <| x_nil <| fin _ S
  by_cases hp : H.p = true
  · rw [if_pos hp] at h; simp at h
  · rw [if_neg hp] at z; simp at z
end Mine
end

section
set_option Elab.async false
set_option maxRecDepth 100000
set_option linter.unusedVariables false
set_option exponentiation.threshold 20000
open PySem PySem.W PyProof.Rows PySem.Calls
namespace Mine
theorem KeyData.len {p : Bool} {body : List UInt8} (k : KeyData p body) : body.length = if p = true then 32 else 33 := by
  cases p with
  | true => exact k.1
  | false => obtain ⟨n, _, _, e⟩ := k; rw [e, ser_len]; rfl
theorem bound_ne1 {d : Addr} : KFB.bound ≠ instObj 494 d := fun z => absurd (congrArg Obj.cls z) (by intro q; cases q)
theorem bound_ne2 {es : List DictEntry} {n : Nat} : KFB.bound ≠ dictOf es n := fun z => absurd (show KFB.bound.cls = Value.type "dict" from congrArg Obj.cls z) (by decide +kernel)
theorem bound_ne3 {b : Array UInt8} : KFB.bound ≠ baObj b := fun z => absurd (show KFB.bound.cls = Value.type "bytearray" from congrArg Obj.cls z) (by decide +kernel)
theorem tl_cut {H : Hd} (hp : H.p = true) : cutL (some ((1 : Nat) : Int)) none H.tl = H.body := by
  rw [cut_drop]
  unfold Hd.tl
  rw [if_pos hp]; rfl
theorem rd_body {w mg mb A s0 s y d a es cnt g L} {H : Hd} {ut : Tok} {Q : Flow → Shared → Prop} {E : Value → Shared → Prop} (R : Rm A 50) (ok : H.Ok) (good : H.Good) (kd : KeyData H.p H.body) (e : Ents es bioN [.ref a, .int ((0 : Nat) : Int) ut])
    (S : St (cg w mg mb g s0 L) (look rdN [some (.ref 1420), some (.ref y), none, none, none, none, none, none, none, none, none]) (bio y d a es cnt H.octs) s)
    (hq : ¬ H.Lost → ∀ x m nw s', St (cg w mg mb g s0 L) m nw s' → HdOb (newOnly g s'.heap) x H → Bio g y d a H.octs H.octs.length s' → Q (.ret (.ref x)) s')
    (he : H.Lost → ∀ m nw s' h₀ h' x vs tk, St (cg w mg mb g s0 L) m nw s' → h₀ = s'.heap → Heap.MadeExcOf h₀ h' x (.ref 1217) vs → E (.ref x) { s' with heap := h', toks := tk }) :
    W (cg w mg mb g s0 L) (A.deeper (callEnv fd1320 L 1320)) (execs (defBody (methSt 46 10)) (callEnv fd1320 L 1320)) Q E s := by
  have cu := Hd.cuts ok kd.len
  have hl := cu.len
  have htl := Hd.tl_len kd.len
  refine open_body rfl ?_
  refine x_asg <| e_meth <| ld 1 S <| a_fn 11 S (S.bob e) <| cw_fn lk418 <| s_more <| c_nat 4 S fun u s S => s_nil ⟨⟨_, _, S⟩, ?_⟩
  refine r_read S e R.deeper.less (by omega) (by decide) (by omega) fun t1 es cnt ut s S e _ => ?_
  rw [cu.c0]
  rw [show min (0 + 4) H.octs.length = 4 by omega] at e
  refine st 2 S fun s S => ?_
  refine x_asg <| e_sub <| e_meth <| ld 1 S <| a_fn 11 S (S.bob e) <| cw_fn lk418 <| s_more <| c_nat 1 S fun u s S => s_nil ⟨⟨_, _, S⟩, ?_⟩
  refine r_read S e R.deeper.less (by omega) (by decide) (by omega) fun t es cnt ut s S e _ => ?_
  rw [cu.c1]
  rw [show min (4 + 1) H.octs.length = 5 by omega] at e
  refine c_nat 0 S fun u s S => y_item (b := [UInt8.ofNat H.depth]) S (Nat.le_of_ble_eq_true rfl) (Nat.le_refl 1) fun t3 s S => ?_
  rw [show (([UInt8.ofNat H.depth] : List UInt8).getD 0 0).toNat = H.depth by show (UInt8.ofNat H.depth).toNat = _; rw [UInt8.toNat_ofNat']; have := ok.depth; omega]
  refine st 3 S fun s S => ?_
  refine x_asg <| e_meth <| ld 1 S <| a_fn 11 S (S.bob e) <| cw_fn lk418 <| s_more <| c_nat 4 S fun u s S => s_nil ⟨⟨_, _, S⟩, ?_⟩
  refine r_read S e R.deeper.less (by omega) (by decide) (by omega) fun t4 es cnt ut s S e _ => ?_
  rw [cu.c2]
  rw [show min (5 + 4) H.octs.length = 9 by omega] at e
  refine st 4 S fun s S => ?_
  refine x_asg <| e_meth <| b_int S <| g_from S fun q s S => ?_
  refine cw_from <| s_more <| e_meth <| ld 1 S <| a_fn 11 S (S.ob (.tail _ (.head _)) (.tail _ (.tail _ (.head _))) e) <| cw_fn lk418 <| s_more <| c_nat 4 S fun u s S => s_nil ⟨⟨_, _, S⟩, ?_⟩
  refine r_read1 S bound_ne1 bound_ne2 bound_ne3 e R.deeper.less (by omega) (by decide) (by omega) fun t es cnt ut s S e => ?_
  rw [cu.c3]
  rw [show min (9 + 4) H.octs.length = 13 by omega] at e
  refine s_more <| c_str S fun u s S => s_nil ⟨⟨_, _, .head _, S⟩, ?_⟩
  refine r_from S (.head _) (by rw [List.size_toArray, toBE_len]; decide) fun t6 s S => ?_
  rw [show beN (toBE 4 H.cn).toArray.toList = H.cn from beN_to ok.cn]
  have S := S.drop
  refine st 5 S fun s S => ?_
  refine x_asg <| e_meth <| ld 1 S <| a_fn 11 S (S.bob e) <| cw_fn lk418 <| s_more <| c_nat 32 S fun u s S => s_nil ⟨⟨_, _, S⟩, ?_⟩
  refine r_read S e R.deeper.less (by omega) (by decide) (by omega) fun t2 es cnt ut s S e _ => ?_
  rw [cu.c4]
  rw [show min (13 + 32) H.octs.length = 45 by omega] at e
  refine st 6 S fun s S => ?_
  refine x_asg <| e_meth <| ld 1 S <| a_fn 11 S (S.bob e) <| cw_fn lk418 <| s_more <| c_nat 33 S fun u s S => s_nil ⟨⟨_, _, S⟩, ?_⟩
  refine r_read S e R.deeper.less (by omega) (by decide) (by omega) fun t5 es cnt ut s S e _ => ?_
  rw [cu.c5]
  rw [show min (45 + 33) H.octs.length = H.octs.length by omega] at e
  refine st 7 S fun s S => ?_
  refine x_if <| t_cmp <| e_sub <| ld 7 S <| c_nat 0 S fun u s S => ?_
  refine y_item S (by omega) (by omega) fun u s S => c_nat 0 S fun u s S => p_eq <| t_bool ?_
  by_cases hp : H.p = true
  · have hk := kd
    rw [hp] at hk
    refine ite_yes (by unfold Hd.tl; rw [if_pos hp]; rfl) ?_
    refine x_asg <| e_meth <| gl S g_PrivateKey <| a_cm 50 S fun q s S _ => ?_
    refine cw_bm (self := .ref 1205) (cm_fn 50) <| s_more <| e_sub <| ld 7 S <| e_cut <| pt_some <| c_int S fun u s S => pt_none ?_
    refine y_cut S (.int _ _) .none (by omega) fun u s S => s_nil ⟨⟨_, _, S, .head _⟩, ?_⟩
    rw [show cutL (some 1) none H.tl = H.body from tl_cut hp]
    have S6 := S
    refine use S (Gives.meth (S.N _ (.head _)).1 (C_prv_parse S.gl R.deeper.less hk.1 hk.2)) fun v s S x1 P => ?_
    obtain ⟨k, rfl, K⟩ := P
    obtain ⟨l, S, hK⟩ := S6.addKey S K
    refine st 8 S fun s S => x_nil ?_
    refine rd_tail (l := l) (cnt := cnt) (t1 := t1) (t2 := t2) (t3 := t3) (t4 := t4) (t5 := t5) (t6 := t6) R ok good e (S.sub fun q hq => ?_) (fun m' nw s'' S3 h => hp ▸ hK m' nw s'' S3 h) hq he
    rcases List.mem_append.mp hq with hq | hq
    · exact List.mem_append_left _ hq
    · exact List.mem_append_right _ (.tail _ hq)
  · have hp' : H.p = false := by simpa using hp
    have hk := kd
    rw [hp'] at hk
    obtain ⟨n, h0, hn, eb⟩ := hk
    have etl : H.tl = ser n := by unfold Hd.tl; rw [if_neg hp, eb]
    refine ite_no (fun z => ?_) ?_
    · have z := of_decide_eq_true z
      rw [etl] at z
      unfold ser at z
      split at z <;> cases z
    refine x_asg <| e_meth <| gl S g_PublicKey <| a_cm 51 S fun q s S _ => ?_
    refine cw_bm (self := .ref 1051) (cm_fn 51) <| s_more <| ld 7 S <| s_nil ⟨⟨_, _, S, .head _⟩, ?_⟩
    rw [etl]
    have S6 := S
    refine use S (Gives.meth (S.N _ (.head _)).1 (C_pub_parse S.gl R.deeper.less h0 hn)) fun v s S x1 P => ?_
    obtain ⟨k, rfl, K⟩ := P
    obtain ⟨l, S, hK⟩ := S6.addKey S K
    refine st 8 S fun s S => x_nil ?_
    refine rd_tail (l := l) (cnt := cnt) (t1 := t1) (t2 := t2) (t3 := t3) (t4 := t4) (t5 := t5) (t6 := t6) R ok good e (S.sub fun q hq => ?_) (fun m' nw s'' S3 h => by rw [hp', eb]; exact hK m' nw s'' S3 h) hq he
    rcases List.mem_append.mp hq with hq | hq
    · exact List.mem_append_left _ hq
    · exact List.mem_append_right _ (.tail _ hq)
end Mine
end

section
set_option Elab.async false
set_option maxRecDepth 100000
set_option linter.unusedVariables false
set_option exponentiation.threshold 20000
open PySem PySem.W PyProof.Rows PySem.Calls
namespace Mine
abbrev rdLs : List Str := [PySem.Str.ofString "version", PySem.Str.ofString "depth", PySem.Str.ofString "fingerprint", PySem.Str.ofString "child_number", PySem.Str.ofString "chain_code", PySem.Str.ofString "k", PySem.Str.ofString "key", PySem.Str.ofString "hd", PySem.Str.ofString "subver"]
theorem C_hd_read {w mg mb A s0 y d a g} {H : Hd} (G : Gl w mg mb g) (R : Rm A 50) (sub : ∀ b o, g.get? b = some o → s0.heap.get? b = some o) (hsz : g.objs.size ≤ s0.heap.objs.size) (B : Bio g y d a H.octs 0 s0)
    (ok : H.Ok) (good : H.Good) (kd : KeyData H.p H.body) (nl : ¬ H.Lost) :
    Runs w A (.ref 1320) [.ref 1420, .ref y] [] g (fun v s' => (∃ x, v = .ref x ∧ HdOb (newOnly g s'.heap) x H) ∧ Bio g y d a H.octs H.octs.length s') s0 := by
  obtain ⟨es, n, ut, N, e⟩ := B
  exact runsG ["cls", "stream"] rdLs [.ref 1420, .ref y] G sub hsz N R.less lk1320 (defBody (methSt 46 10)) rfl cd1320 fun L s hL ek S =>
    rd_body R ok good kd e S (fun _ x m nw s' S O B => ⟨S.doneG, ⟨x, rfl, O⟩, B⟩) fun h => (nl h).elim
theorem T_hd_read {w mg mb A s0 y d a g B outer} {H : Hd} (G : Gl w mg mb g) (Kb : Below A B outer g) (R : Rm A 50) (sub : ∀ b o, g.get? b = some o → s0.heap.get? b = some o) (hsz : g.objs.size ≤ s0.heap.objs.size) (Bo : Bio g y d a H.octs 0 s0)
    (ok : H.Ok) (good : H.Good) (kd : KeyData H.p H.body) (lost : H.Lost) :
    Throws w A (.ref 1320) [.ref 1420, .ref y] [] g B outer s0 := by
  obtain ⟨es, n, ut, N, e⟩ := Bo
  exact enterT ["cls", "stream"] rdLs [.ref 1420, .ref y] G Kb sub hsz N R.less lk1320 (defBody (methSt 46 10)) rfl cd1320 fun L s ek S =>
    rd_body R ok good kd e S (fun h => (h lost).elim) fun _ m nw s' h₀ h' x vs tk S e0 hm => .inl ⟨h₀, x, vs, rfl, hm, ⟨_, _, _, S, e0.symm⟩, S.gens, S.os⟩
theorem C_hd_parse {w mg mb A s t} {H : Hd} (G : Gl w mg mb s.heap) (R : Rm A 55) (ok : H.Ok) (good : H.Good) (kd : KeyData H.p H.body) (nl : ¬ H.Lost) :
    Gives w A (.ref 767) [.ref 1420, .bytes H.octs.toArray t] [] (fun v s' => ∃ x, v = .ref x ∧ HdOb (newOnly s.heap s'.heap) x H) s :=
  C_parse767 (P := fun v h => ∃ x, v = .ref x ∧ HdOb h x H) (f := 1320) (p := 1322) 55 35 G R (by rw [(Hd.cuts ok kd.len).len]; decide) (fun v h h' ⟨x, e, K⟩ k => ⟨x, e, K.keeps k⟩)
    (fun A' g y d a s' G' R' sub hsz B => C_hd_read G' R'.less sub hsz B ok good kd nl) rfl
theorem T_hd_parse {w mg mb A s t B outer} {H : Hd} (G : Gl w mg mb s.heap) (Kb : Below A B outer s.heap) (R : Rm A 55) (ok : H.Ok) (good : H.Good) (kd : KeyData H.p H.body) (lost : H.Lost) :
    Throws w A (.ref 767) [.ref 1420, .bytes H.octs.toArray t] [] s.heap B outer s :=
  T_parse767 (f := 1320) (p := 1322) 55 35 G Kb R (by rw [(Hd.cuts ok kd.len).len]; decide)
    (fun A' B' outer' g y d a s' G' K' R' sub hsz Bo => T_hd_read G' K' R'.less sub hsz Bo ok good kd lost) rfl
/-! from_base58 -/
theorem fb_body {w mg mb A s0 s L t} {H : Hd} {Q : Flow → Shared → Prop} {E : Value → Shared → Prop} (R : Rm A 60) (ok : H.Ok) (kd : KeyData H.p H.body)
    (S : St (cx w mg mb s0 L) (look ([PySem.Str.ofString "cls", PySem.Str.ofString "s"] ++ [PySem.Str.ofString "b"]) [some (.ref 1420), some (.str (tx (txt H.octs)) t), none]) [] s)
    (hc : ∀ q m s' t, St (cx w mg mb s0 L) m [(q, methodObj (.ref 767) (.ref 1420))] s' → W (cx w mg mb s0 L) (A.deeper (callEnv fd1252 L 1252)) (call (.ref q) [.bytes H.octs.toArray t]) (fun v => Q (.ret v)) E s') :
    W (cx w mg mb s0 L) (A.deeper (callEnv fd1252 L 1252)) (execs (defBody (methSt 46 2)) (callEnv fd1252 L 1252)) Q E s := by
  have hl := (Hd.cuts ok kd.len).len
  refine open_body rfl ?_
  refine x_asg <| e_call <| gl S g_decode_check <| cw_fn' lk132 <| s_more <| ld 1 S <| s_nil ⟨⟨_, _, S⟩, ?_⟩
  refine use S (C_decode_check S.gl R.deeper.less (by omega) ok.hd) fun v s S x1 P => ?_
  obtain ⟨t', rfl⟩ := P
  refine st 2 S fun s S => ?_
  refine x_ret <| e_meth <| ld 0 S <| a_cm 52 S fun q s S _ => ?_
  exact cw_bm (self := .ref 1420) (cm_fn 52) <| s_more <| ld 2 S <| s_nil ⟨⟨_, _, S, .head _⟩, hc _ _ _ _ S⟩
theorem C_hd_fb {w mg mb A s t} {H : Hd} (G : Gl w mg mb s.heap) (R : Rm A 60) (ok : H.Ok) (good : H.Good) (kd : KeyData H.p H.body) (nl : ¬ H.Lost) :
    Gives w A (.ref 1252) [.ref 1420, .str (tx (txt H.octs)) t] [] (fun v s' => ∃ x, v = .ref x ∧ HdOb s'.heap x H) s :=
  enterW ["cls", "s"] ["b"] [.ref 1420, .str (tx (txt H.octs)) t] G R.less lk1252 (defBody (methSt 46 2)) rfl cd1252 fun L s S =>
    fb_body R ok kd S fun q m s' t S => use S (Gives.meth (S.N _ (.head _)).1 (C_hd_parse S.gl R.deeper.less ok good kd nl)) fun v s S x P => by
      obtain ⟨z, rfl, O⟩ := P
      exact ⟨S.done, z, rfl, O.keeps fun _ _ e => newOnly_of e⟩
theorem T_hd_fb {w mg mb A s t B outer} {H : Hd} (G : Gl w mg mb s.heap) (Kb : Below A B outer s.heap) (R : Rm A 60) (ok : H.Ok) (good : H.Good) (kd : KeyData H.p H.body) (lost : H.Lost) :
    Throws w A (.ref 1252) [.ref 1420, .str (tx (txt H.octs)) t] [] s.heap B outer s :=
  enterT (news := []) ["cls", "s"] ["b"] [.ref 1420, .str (tx (txt H.octs)) t] G Kb (fun _ _ e => e) (Nat.le_refl _) (fun p hp => nomatch hp) R.less lk1252 (defBody (methSt 46 2)) rfl cd1252 fun L s' ek S =>
    fb_body R ok kd S fun q m s' t S => useT (B := B) (outer := callEnv fd1252 L 1252 :: outer) (codeN_meth (S.N _ (.head _)).1 (T_hd_parse S.gl (S.below (env := callEnv fd1252 L 1252) Kb rfl (fk (by kernel_rfl))) R.deeper.less ok good kd lost)) fun e s'' th =>
      .inr ⟨th.fly, (Heap.UpToSlots.of_keeps S.F.keep).trans th.slots, th.gens.trans S.gens, th.os.trans S.os⟩
end Mine
end

section
set_option Elab.async false
set_option maxRecDepth 100000
set_option linter.unusedVariables false
set_option exponentiation.threshold 20000
open PySem PySem.W PyProof.Rows PySem.Calls PySem.Spec
namespace Mine
/-- what a def leaves that has caught an exception -/
structure Caught (B : Heap) (s s' : Shared) : Prop where
  stays : ∀ b o, B.get? b = some o → s'.heap.get? b = some o
  slots : s.heap.UpToSlots s'.heap
  gens : s'.gens = s.gens
  os : s'.os = s.os
def Catches (w : World) (A : Around) (f : Value) (args : List Value) (kw : List (Str × Value)) (B : Heap) (P : Value → Shared → Prop) (s : Shared) : Prop :=
  codeN (model PW w) A (.call f ⟨args, kw⟩) (fun r s' => match r with | .ok (.ret v) => Caught B s s' ∧ P v s' | .ok _ => False | .error _ => False) s
section
variable {c : Cx} {m : Str → Option Value} {A : Around} {s s₁ : Shared} {news : List (Addr × Obj)} {env : Env} {B : Heap} {outer : List Env} {Q : Flow → Shared → Prop}
/-- except HDError: .. -/
theorem x_catch {np hpos : Pos} {b₀ : Stmt} {suite : List Stmt} {hs : List ExceptHandler} {rest : List Stmt} {e : Value} (K : Below A B outer c.g) (hf : env.frame = some c.L) (G : Gl c.w c.mg c.mb B) (fl : Fly B (env :: outer) e s₁.heap)
    (k : ∀ h' A', (∀ b o, B.get? b = some o → h'.get? b = some o) → s₁.heap.UpToSlots h' → wpAny (model PW c.w) A' (execs (b₀ :: suite) env) (Nx c (A.deeper env) rest env Q NoE) NoE { s₁ with heap := h' })
    (hk : glOk env (.ofString "HDError") = true := by kernel_rfl) :
    W c (A.deeper env) (noteFrame e env) (fun _ s₂ => W c (A.deeper env) (setFlight e none) (fun _ s₃ => W c (A.deeper env) (handleBy e env (.ExceptHandler (some (.Name (.ofString "HDError") np)) none (b₀ :: suite) hpos :: hs)) (Nx c (A.deeper env) rest env Q NoE) NoE s₃) NoE s₂) NoE s₁ := by
  obtain ⟨x, a0, rfl, hfl⟩ := fl
  obtain ⟨hh, g, d, t, os⟩ := s₁
  refine W.mk (wpAny_looks_onW (Around.frames_deeper K.stack) hf hfl fun h4 hheld4 hsm4 => ?_)
  refine W.mk (wpAny_landsW hheld4 fun h5 hheld hsm5 => ?_)
  have G5 : Gl c.w c.mg c.mb h5 := G.keeps hheld.1
  obtain ⟨ob, hob, hobc⟩ := hheld.there
  obtain ⟨tl, N, nm, q, bs, hdct, sn, sub, ab, col, dd, k0, k1, k2, k3, k5, mN, hC, hN, hni, T⟩ := err_obj G5.K
  refine W.mk (wpAny_handleBy_cons (codeAny_handlers_test (glA G5 g_HDError ?_ hk)) (by intro q; cases q))
  refine wpAny_excMatches_sub_self hC hob hobc (T.hasType (by decide +kernel)) (codeAny_handlers_suite ?_)
  refine lands_againW hheld fun h6 hfl6 hsm6 => ?_
  exact wpAny_passesOwnAt PassesOwnAt.never (k h6 _ hfl6.1 ((hsm4.trans hsm5).trans hsm6))
theorem ret_true {M : Model} {A' : Around} {s : Shared} {k : Nat} {p pos : Pos} {rest : List Stmt} {Q : Flow → Shared → Prop} {E : Value → Shared → Prop} (h : Q (.ret (.bool true)) s) : wpAny M A' (execs (.Return (some (.Constant (.bool true) k p)) pos :: rest) env) Q E s := by
  rw [execs_cons, exec_Return_some]
  exact wpAny_bind (wpAny_bind (wpAny_standAt (wpAny_bind (wpAny_Constant_bool (wpAny_pure (wpAny_pure h))))))
theorem ret_nil {M : Model} {A' : Around} {s : Shared} {p pos : Pos} {rest : List Stmt} {Q : Flow → Shared → Prop} {E : Value → Shared → Prop} (h : Q (.ret (.ref s.heap.objs.size)) { s with heap := s.heap.push (listOf #[] 0) }) : wpAny M A' (execs (.Return (some (.List [] p)) pos :: rest) env) Q E s := by
  rw [execs_cons, exec_Return_some]
  refine wpAny_bind (wpAny_bind (wpAny_standAt (wpAny_bind ?_)))
  rw [arm_eval_List]
  refine wpAny_bind (wpAny_standAt (wpAny_bind (spliced_none (wpAny_newList ?_))))
  exact wpAny_pure (wpAny_pure h)
end
/-- entering a def that catches -/
theorem enterC {w : World} {mg mb : Str → Option Value} {A : Around} {s : Shared} {B : Heap} {outer : List Env} {f : Addr} {fd : FuncData} {od : Option Addr} {pos : List Value} {P : Value → Shared → Prop}
    (ps ls : List Str) (vs : List Value) (G : Gl w mg mb B) (K : Below A B outer s.heap) (R : Rm A 1) (ho : ∀ P, (KF P).lookup f = some (fnO fd od)) (body : List Stmt) (hb : fd.body = .stmts body) (hcd : ∀ P, codeIn (KF P) fd.code fd.qualname = true)
    (h : ∀ L s', St (cx w mg mb s L) (look (ps ++ ls) (vs.map some ++ ls.map fun _ => none)) [] s' →
      W (cx w mg mb s L) (A.deeper (callEnv fd L f)) (execs body (callEnv fd L f)) (fun fl s'' => Caught B s s'' ∧ P (match fl with | .ret v => v | _ => .none) s'') NoE s')
    (hbind : ∀ S, peek (KF w.params) S (bindArgs fd ⟨pos, []⟩) = some (ps.zip vs) := by intro S; kernel_rfl) (hlen : ps.length = vs.length := by rfl) (hnd : ps.Nodup := by decide) (hpl : fnPlain fd = true := by kernel_rfl) (hloc : bindsLocal fd.scope ps = true := by kernel_rfl) :
    Catches w A (.ref f) pos [] B P s :=
  enterR (news := []) ps ls vs (G.keeps K.stays) (fun _ _ e => e) (Nat.le_refl _) (fun p hp => nomatch hp) R ho body hb hcd (fun L s' hL ek S => (h L s' S).mono (fun _ _ q => q) fun _ _ q => q.elim) hbind hlen hnd hpl hloc
theorem Thrown.caught {B : Heap} {outer : List Env} {s s₁ s₂ : Shared} {e : Value} {h' : Heap} (th : Thrown s₁.heap B outer s₁ e s₂) (up : s.heap.UpToSlots s₁.heap) (eg : s₁.gens = s.gens) (eo : s₁.os = s.os) (k1 : ∀ b o, B.get? b = some o → h'.get? b = some o) (k2 : s₂.heap.UpToSlots h') : Caught B s { s₂ with heap := h' } :=
  ⟨k1, up.trans (th.slots.trans k2), th.gens.trans eg, th.os.trans eo⟩
/-- an empty list, made last -/
def NilNew (B : Heap) (s : Shared) (v : Value) (s' : Shared) : Prop := ∃ l h₁, v = .ref l ∧ s.heap.UpToSlots h₁ ∧ (∀ b o, B.get? b = some o → h₁.get? b = some o) ∧ h₁.get? l = none ∧ s'.heap.get? l = some (listOf #[] 0)
theorem Caught.push {B : Heap} {s s' : Shared} {o : Obj} (x : Caught B s s') : Caught B s { s' with heap := s'.heap.push o } :=
  ⟨fun b y e => Heap.get?_push_of_some _ (x.stays b y e), x.slots.trans (Heap.UpToSlots.of_keeps fun b y e => Heap.get?_push_of_some _ e), x.gens, x.os⟩
theorem Caught.nil {B : Heap} {s s' : Shared} (x : Caught B s s') : NilNew B s (.ref s'.heap.objs.size) { s' with heap := s'.heap.push (listOf #[] 0) } :=
  ⟨_, _, rfl, x.slots, x.stays, none_at (Nat.le_refl _), Heap.get?_push_size _ rfl⟩
/-- _law_wrong -/
theorem C_wrong {w mg mb A s0 k B outer t1 t2} {H : Hd} (G : Gl w mg mb B) (Kb : Below A B outer s0.heap) (R : Rm A 50) (ok : H.Ok) (bad : H.Bad) (K : KeyOb s0.heap k H.p H.body) (hd : H.depth = 0) (hf : H.fp = [0, 0, 0, 0]) (hc : H.cn = 0) :
    Catches w A (.ref 1464) [.ref k, .bytes H.chain.toArray t2, .bytes H.ver.toArray t1] [] B (fun v _ => v = .bool true) s0 := by
  refine enterC ["key", "chain", "mark"] [] [.ref k, .bytes H.chain.toArray t2, .bytes H.ver.toArray t1] G Kb R.less lk1464 (defBody (topSt 54)) rfl cd1464 fun L s1 S => ?_
  refine open_body rfl ?_
  refine x_try <| x_expr <| e_callk <| gl S g_HDKey <| cw_clsk 48 <| s_more <| ld 0 S <| s_more <| ld 1 S <| s_nil <| a_kw <| ld 2 S <| a_kwnil ⟨⟨_, _, S⟩, ?_⟩
  refine useT (B := B) (outer := callEnv fd1464 L 1464 :: outer) (T_hd (t1 := t1) (t2 := t2) (t3 := 1961) (t4 := 1962) (t6 := 1963) S.gl (S.below (env := callEnv fd1464 L 1464) Kb rfl (fk (by kernel_rfl))) R.deeper.less ok bad (K.keeps S.F.keep) ?_) fun e s₂ th => ?_
  · intro x S
    rw [show initV x k H t1 t2 1961 1962 1963 = [.ref x, .ref k, .bytes H.chain.toArray t2, .bytes H.ver.toArray t1, .int ((0 : Nat) : Int) 1961, .bytes ([0, 0, 0, 0] : List UInt8).toArray 1962, .int ((0 : Nat) : Int) 1963] by unfold initV; rw [hd, hf, hc]]
    kernel_rfl
  · refine x_catch (c := cx w mg mb s0 L) Kb rfl G th.fly fun h' A' k1 k2 => ?_
    exact ret_true ⟨th.caught (Heap.UpToSlots.of_keeps S.F.keep) S.gens S.os k1 k2, rfl⟩
/-- _law_read, where the text is read -/
theorem C_lread {w mg mb A s t} {H : Hd} (G : Gl w mg mb s.heap) (R : Rm A 65) (ok : H.Ok) (good : H.Good) (kd : KeyData H.p H.body) (nl : ¬ H.Lost) :
    Gives w A (.ref 1478) [.str (tx (txt H.octs)) t] [] (fun v s' => ∃ l u, v = .ref l ∧ s'.heap.get? l = some (listOf [.bytes H.octs.toArray u].toArray 0) ∧ s.heap.get? l = none) s := by
  refine enterW ["text"] [] [.str (tx (txt H.octs)) t] G R.less lk1478 (defBody (topSt 56)) rfl cd1478 fun L s S => ?_
  refine open_body rfl ?_
  refine x_try <| x_ret <| e_list <| s_more <| e_meth <| e_meth <| gl S g_HDKey <| a_cm 56 S fun q s S _ => ?_
  refine cw_bm (self := .ref 1420) (cm_fn 56) <| s_more <| ld 0 S <| s_nil ⟨⟨_, _, S, .head _⟩, ?_⟩
  refine use S (Gives.meth (S.N _ (.head _)).1 (C_hd_fb S.gl R.deeper.less ok good kd nl)) fun v s S x1 P => ?_
  obtain ⟨x, rfl, O⟩ := P
  have ⟨k, t1, t2, t3, t4, t5, t6, OO, _⟩ := O
  refine a_fn 44 S OO <| cw_fn0 lk784 S <| use S (C_hd_ser0 S.gl R.deeper.less ok O) fun v s S x2 P => ?_
  obtain ⟨u, rfl⟩ := P
  refine s_nil <| r_list S fun l s S => ⟨S.done, l, u, rfl, (S.N _ (.head _)).1, (S.N _ (.head _)).2.2⟩
/-- _law_read, where the text is refused -/
theorem T_lread {w mg mb A s0 t B outer} {H : Hd} (G : Gl w mg mb B) (Kb : Below A B outer s0.heap) (R : Rm A 65) (ok : H.Ok) (good : H.Good) (kd : KeyData H.p H.body) (lost : H.Lost) :
    Catches w A (.ref 1478) [.str (tx (txt H.octs)) t] [] B (NilNew B s0) s0 := by
  refine enterC ["text"] [] [.str (tx (txt H.octs)) t] G Kb R.less lk1478 (defBody (topSt 56)) rfl cd1478 fun L s1 S => ?_
  refine open_body rfl ?_
  refine x_try <| x_ret <| e_list <| s_more <| e_meth <| e_meth <| gl S g_HDKey <| a_cm 56 S fun q s S _ => ?_
  refine cw_bm (self := .ref 1420) (cm_fn 56) <| s_more <| ld 0 S <| s_nil ⟨⟨_, _, S, .head _⟩, ?_⟩
  refine useT (B := B) (outer := callEnv fd1478 L 1478 :: outer) (codeN_meth (S.N _ (.head _)).1 (T_hd_fb S.gl (S.below (env := callEnv fd1478 L 1478) Kb rfl (fk (by kernel_rfl))) R.deeper.less ok good kd lost)) fun e s₂ th => ?_
  refine x_catch (c := cx w mg mb s0 L) Kb rfl G th.fly fun h' A' k1 k2 => ?_
  have ct := th.caught (s := s0) (h' := h') (Heap.UpToSlots.of_keeps S.F.keep) S.gens S.os k1 k2
  exact ret_nil ⟨ct.push, ct.nil⟩
end Mine
end

section
set_option Elab.async false
set_option maxRecDepth 100000
set_option linter.unusedVariables false
set_option exponentiation.threshold 20000
open PySem PySem.W PyProof.Rows PySem.Calls PySem.Spec
namespace Mine
/-! the class of an HDKey -/
def clsOk (K : Frag) (C : Addr) : Bool := plainGet K C "__class__" && hasDictIn K C && findIn K (.ref C) "__class__" == some (some (.builtin "object.__class__")) && specialIn K (.builtin "object.__class__") "__get__" == some (some (.builtin "getset_descriptor.__get__")) && takesIn K (.builtin "object.__class__") == some true && mroIn K C (.type "object") == some true &&
  (typeIn K (.builtin "object.__class__")).any fun t => t != .type "function" && t != .type "method_descriptor" && t != .type "wrapper_descriptor"
theorem cls_ok (P : Params) : clsOk (KF P) 1420 = true := by kernel_rfl
/-! the networks -/
def kvL : List DictEntry → List (Str × Value)
  | [] => []
  | e :: r => match e.key with
    | .str x _ => (x, e.val) :: kvL r
    | _ => kvL r
def entsOf (P : Params) (d : Addr) : List DictEntry := match (KF P).lookup d with
  | some ⟨_, _, .dict es _, _⟩ => es.toList
  | _ => []
def isDictOf (P : Params) (d : Addr) : Prop := ∃ es n, (KF P).lookup d = some ⟨.type "dict", none, .dict es n, #[]⟩ ∧ KeysLit P es.toList
theorem isDictOf.ents {P : Params} {d : Addr} (h : isDictOf P d) : ∃ n, (KF P).lookup d = some ⟨.type "dict", none, .dict (entsOf P d).toArray n, #[]⟩ ∧ KeysLit P (entsOf P d) := by
  obtain ⟨es, n, h1, h2⟩ := h
  have e : entsOf P d = es.toList := by unfold entsOf; rw [h1]
  refine ⟨n, ?_, ?_⟩
  · rw [h1, e]
  · rw [e]; exact h2
theorem lk176 (P : Params) : (KF P).lookup 176 = some (ob176 P) := by kernel_rfl
theorem lk177 (P : Params) : (KF P).lookup 177 = some (ob177 P) := by kernel_rfl
theorem lk178 (P : Params) : (KF P).lookup 178 = some (ob178 P) := by kernel_rfl
theorem lk179 (P : Params) : (KF P).lookup 179 = some (ob179 P) := by kernel_rfl
theorem lk180 (P : Params) : (KF P).lookup 180 = some (ob180 P) := by kernel_rfl
theorem di176 (P : Params) : isDictOf P 176 := ⟨_, _, lk176 P, by repeat (first | exact True.intro | refine And.intro ⟨_, _, rfl, rfl⟩ ?_)⟩
theorem di177 (P : Params) : isDictOf P 177 := ⟨_, _, lk177 P, by repeat (first | exact True.intro | refine And.intro ⟨_, _, rfl, rfl⟩ ?_)⟩
theorem di178 (P : Params) : isDictOf P 178 := ⟨_, _, lk178 P, by repeat (first | exact True.intro | refine And.intro ⟨_, _, rfl, rfl⟩ ?_)⟩
theorem di179 (P : Params) : isDictOf P 179 := ⟨_, _, lk179 P, by repeat (first | exact True.intro | refine And.intro ⟨_, _, rfl, rfl⟩ ?_)⟩
theorem di180 (P : Params) : isDictOf P 180 := ⟨_, _, lk180 P, by repeat (first | exact True.intro | refine And.intro ⟨_, _, rfl, rfl⟩ ?_)⟩
/-- a dict of the top, as its keys' walk wants it -/
theorem dictAt_of {w : World} {h : Heap} {d : Addr} (X : (KF w.params).In h) (D : isDictOf w.params d) (nd : ((kvL (entsOf w.params d)).map (·.1)).Nodup) : ∃ ep, h.DictAt (strKind PW w) d (kvL (entsOf w.params d)) ep := by
  obtain ⟨n, hl, hk⟩ := D.ents
  refine ⟨n, _, (entsOf w.params d).toArray, X _ _ hl, ⟨rfl, rfl, rfl⟩, rfl, fun e he => ?_, ?_, nd⟩
  · obtain ⟨x, t, e1, e2⟩ := hk.all e (by simpa using he)
    exact ⟨x, by rw [e1]; exact strKind_is PW w x t, e2⟩
  · show Pairs (strKind PW w) (entsOf w.params d).toArray.toList _
    rw [List.toList_toArray]
    generalize entsOf w.params d = l at hk
    induction l with
    | nil => exact .nil
    | cons e r ih =>
      obtain ⟨⟨x, t, e1, e2⟩, hr⟩ := hk
      have e3 : kvL (e :: r) = (x, e.val) :: kvL r := by simp only [kvL, e1]
      rw [e3]
      exact .cons (by rw [e1]; exact strKind_is PW w x t) rfl (ih hr)
section
variable {c : Cx} {m : Str → Option Value} {A : Around} {E : Value → Shared → Prop} {s : Shared} {news : List (Addr × Obj)} {env : Env}
theorem a_cls {x : Addr} {ns : List Str} {vs : List Value} {pl : Sem Bool} {Q : Value × List Value → Shared → Prop} (S : St c m news s) (O : Ob s.heap x 1420 ns vs) (h : ∀ s', St c m news s' → s'.heap = s.heap → Q (.ref 1420, []) s') :
    W c A (getMethod (.ref x) (.ofString "__class__") pl) Q E s := by
  obtain ⟨d, es, n, a, b, e⟩ := O
  have q := cls_ok c.w.params
  simp only [clsOk, Bool.and_eq_true, beq_iff_eq] at q
  obtain ⟨⟨⟨⟨⟨⟨q1, q2⟩, q3⟩, q4⟩, q5⟩, q6⟩, q7⟩ := q
  have I : InstAt s.heap x (instObj 1420 d) 1420 (some (dictOf es n)) := ⟨a, rfl, rfl, b⟩
  have X := S.gl.K
  refine W.mk (method_usual X I (plainGet_of q1).1 (plainGet_of q1).2 q3 q7 ?_)
  exact get_class S.F S.G.K I q1 q2 q3 q4 q5 q6 (h _ (S.at rfl rfl rfl) rfl)
/-- iterating over a dict of the top -/
theorem i_dict {d : Addr} {Q : Value → Shared → Prop} (D : isDictOf c.w.params d) (nd : ((kvL (entsOf c.w.params d)).map (·.1)).Nodup) (hd : (d == sysModules) = false) (S : St c m news s)
    (h : ∀ I o ep s', St c m ((I, o) :: news) s' → (∀ p ∈ news, p.1 ≠ I) → d ≠ I → s'.heap.IsKeyIter I d 0 (kvL (entsOf c.w.params d)).length ep → s'.heap.DictAt (strKind PW c.w) d (kvL (entsOf c.w.params d)) ep → Q (.ref I) s') :
    W c A (pyIter (.ref d)) Q E s := by
  obtain ⟨ep, hat⟩ := dictAt_of S.gl.K D nd
  have hlt : d < s.heap.objs.size := hat.lt_size
  refine W.mk (wpAny_pyIter_dict hd hat (h _ _ ep _ ⟨S.G, S.F.push _, S.N.push S.F _, S.gens, S.os⟩ (fun p hp => Nat.ne_of_lt (Heap.lt_size (S.N p hp).1)) (Nat.ne_of_lt hlt) ⟨_, Heap.get?_push_size _ rfl, rfl, rfl⟩ (hat.push _)))
/-- a value of a dict of the top -/
theorem d_item {d : Addr} {x : Str} {t : Tok} {v : Value} {value slice : Expr} {Q : Value → Shared → Prop} (D : isDictOf c.w.params d) (S : St c m news s) (e : nsIn (KF c.w.params) d x = some (some v)) (h : ∀ s', St c m news s' → 0 < s'.toks → Q v s')
    (hs : subscripted slice false (.ref d) (.str x t) = operate [.ref d, .str x t] (getItem (.ref d) (.str x t)) := by with_unfolding_all rfl) : W c A (subscriptTail value slice (.ref d) (.str x t)) Q E s := by
  obtain ⟨es, n, hl, hk⟩ := D
  exact W.mk (topItem_K S.F S.G.K hl hk e (h _ (S.at rfl rfl rfl) (Nat.succ_pos _)) hs)
theorem c_strT {x : Str} {k : Nat} {pos : Pos} {Q : Value → Shared → Prop} (S : St c m news s) (h : ∀ s', St c m news s' → s'.toks = s.toks + 1 → Q (.str x s.toks) s') : W c A (eval (.Constant (.str x) k pos) env) Q E s :=
  W.mk (Calls.Constant_str (h _ (S.at rfl rfl rfl) rfl))
theorem g_repl {x : Str} {t : Tok} {pl : Sem Bool} {Q : Value × List Value → Shared → Prop} (h : Q (.builtin "str.replace", [.str x t]) s) : W c A (getMethod (.str x t) (Str.ofString "replace") pl) Q E s := W.mk (GM.replace h)
theorem r_repl {x y z : Str} {t u v : Tok} {Q : Value → Shared → Prop} (S : St c m news s) (hu : u ≠ 0) (hv : v ≠ 0) (huv : u ≠ v) (hyz : (y == z) = false) (hb : x.length + (x.length + 1) * z.length ≤ 16777216) (h : ∀ t s', St c m news s' → Q (.str (Txt.replace x y z) t) s') :
    W c A (call (.builtin "str.replace") [.str x t, .str y u, .str z v]) Q E s := W.mk (SC.replace hu hv huv hyz hb fun _ _ => h _ _ (S.at rfl rfl rfl))
theorem s_in {x y : Str} {t u : Tok} {Q : Value → Shared → Prop} (h : Q (.bool (!(Builtin.Str.occurrences x y 0 x.length 1).isEmpty)) s) : W c A (compareOp .In (.str y u) (.str x t)) Q E s := W.mk (PyProof.Rows.in_str h)
end
/-! the marks of the networks -/
abbrev prvS : Str := Str.ofString "prv"
abbrev pubS : Str := Str.ofString "pub"
def isPrv (x : Str) : Bool := !(Builtin.Str.occurrences x prvS 0 x.length 1).isEmpty
def sib (x : Str) : Str := Txt.replace x prvS pubS
def pairs : List (List UInt8 × List UInt8) := [([4, 136, 173, 228], [4, 136, 178, 30]), ([4, 157, 120, 120], [4, 157, 124, 178]), ([4, 178, 67, 12], [4, 178, 71, 70]), ([2, 149, 176, 5], [2, 149, 180, 63]), ([2, 170, 122, 153], [2, 170, 126, 211]),
  ([4, 53, 131, 148], [4, 53, 135, 207]), ([4, 74, 78, 40], [4, 74, 82, 98]), ([4, 95, 24, 188], [4, 95, 28, 246]), ([2, 66, 133, 181], [2, 66, 137, 239]), ([2, 87, 80, 72], [2, 87, 84, 131])]
/-- one row of a network -/
def rowOk (K : Frag) (d : Addr) (kv : Str × Value) : Bool := nsIn K d kv.1 == some (some kv.2) && decide (kv.1.length ≤ 10) && (!isPrv kv.1 || match kv.2, nsIn K d (sib kv.1) with
  | .bytes b _, some (some (.bytes b' _)) => pairs.contains (b.toList, b'.toList)
  | _, _ => false)
def netOk (P : Params) (d : Addr) : Bool := (kvL (entsOf P d)).all (rowOk (KF P) d) && decide ((kvL (entsOf P d)).map (·.1)).Nodup
theorem no177 (P : Params) : netOk P 177 = true := by kernel_rfl
theorem no178 (P : Params) : netOk P 178 = true := by kernel_rfl
theorem no179 (P : Params) : netOk P 179 = true := by kernel_rfl
theorem no180 (P : Params) : netOk P 180 = true := by kernel_rfl
/-- does a row bear the mark -/
def hits (b : List UInt8) (kv : Str × Value) : Bool := isPrv kv.1 && match kv.2 with
  | .bytes x _ => x.toList == b
  | _ => false
theorem all_hit (P : Params) : (pairs.all fun p => (kvL (entsOf P 177)).any (hits p.1) || (kvL (entsOf P 178)).any (hits p.1)) = true := by kernel_rfl
theorem pairs_one : ∀ p ∈ pairs, ∀ q ∈ pairs, p.1 = q.1 → p.2 = q.2 := by decide +kernel
end Mine
end

section
set_option Elab.async false
set_option maxRecDepth 100000
set_option linter.unusedVariables false
set_option exponentiation.threshold 20000
open PySem PySem.W PyProof.Rows PySem.Calls PySem.Spec
namespace Mine
structure NetF (P : Params) (name : Str) (d : Addr) : Prop where
  dict : isDictOf P d
  ok : netOk P d = true
  nm : nsIn (KF P) 176 name = some (some (.ref d))
  ne : (d == sysModules) = false
theorem kv176 (P : Params) : kvL (entsOf P 176) = [(.ofString "main", .ref 177), (.ofString "test", .ref 178), (.ofString "regtest", .ref 179), (.ofString "signet", .ref 180)] := by kernel_rfl
theorem nm_ok (P : Params) : ([((.ofString "main" : Str), 177), (.ofString "test", 178), (.ofString "regtest", 179), (.ofString "signet", 180)].map fun p => nsIn (KF P) 176 p.1) = [((.ofString "main" : Str), 177), (.ofString "test", 178), (.ofString "regtest", 179), (.ofString "signet", 180)].map fun p => some (some (.ref p.2)) := by kernel_rfl
theorem netF (P : Params) {i : Nat} {x : Str} {v : Value} (h : (kvL (entsOf P 176))[i]? = some (x, v)) : ∃ d, v = .ref d ∧ NetF P x d := by
  rw [kv176] at h
  have nm := nm_ok P
  match i, h with
  | 0, h => cases h; exact ⟨177, rfl, di177 P, no177 P, at_of_map nm 0 rfl, by decide⟩
  | 1, h => cases h; exact ⟨178, rfl, di178 P, no178 P, at_of_map nm 1 rfl, by decide⟩
  | 2, h => cases h; exact ⟨179, rfl, di179 P, no179 P, at_of_map nm 2 rfl, by decide⟩
  | 3, h => cases h; exact ⟨180, rfl, di180 P, no180 P, at_of_map nm 3 rfl, by decide⟩
  | i + 4, h => simp at h
theorem NetF.nd {P : Params} {x : Str} {d : Addr} (F : NetF P x d) : ((kvL (entsOf P d)).map (·.1)).Nodup := by
  have := F.ok
  simp only [netOk, Bool.and_eq_true, decide_eq_true_eq] at this
  exact this.2
theorem NetF.row {P : Params} {x : Str} {d : Addr} (F : NetF P x d) {j : Nat} {k : Str} {v : Value} (h : (kvL (entsOf P d))[j]? = some (k, v)) : nsIn (KF P) d k = some (some v) ∧ k.length ≤ 10 ∧ (isPrv k = true → ∃ b t b' t', v = .bytes (b : List UInt8).toArray t ∧ nsIn (KF P) d (sib k) = some (some (.bytes (b' : List UInt8).toArray t')) ∧ (b, b') ∈ pairs) := by
  have := F.ok
  simp only [netOk, Bool.and_eq_true] at this
  have hr := List.all_eq_true.mp this.1 _ (List.mem_of_getElem? h)
  simp only [rowOk, Bool.and_eq_true, beq_iff_eq, decide_eq_true_eq, Bool.or_eq_true, Bool.not_eq_true'] at hr
  refine ⟨hr.1.1, hr.1.2, fun hp => ?_⟩
  have h2 := hr.2.resolve_left (by rw [hp]; decide)
  split at h2
  · rename_i _ _ b t b' t' e2
    exact ⟨b.toList, t, b'.toList, t', rfl, e2, by simpa using h2⟩
  · cases h2
def stIf : Stmt → List Stmt
  | .If _ b _ _ => b
  | _ => []
def stFor : Stmt → List Stmt
  | .For _ _ b _ _ => b
  | _ => []
abbrev tpN : List Str := [PySem.Str.ofString "self", PySem.Str.ofString "version"] ++ [PySem.Str.ofString "net", PySem.Str.ofString "k"]
abbrev tpFor : List Stmt := stIf (((defBody (methSt 46 11)).drop 1).headD noSt)
abbrev tpIn : List Stmt := stFor (tpFor.headD noSt)
theorem tp_inner {w mg mb A s0 s x L Io oo d tn vv kv0 k t1 t2 t3 t4 t5 t6} {nm : Str} {H : Hd} {pub : List UInt8} {Q : Flow → Shared → Prop} (R : Rm A 20) (hp : (H.ver, pub) ∈ pairs) (F : NetF w.params nm d) (OO : Ob s0.heap x 1420 hdN (hdV k H t1 t2 t3 t4 t5 t6))
    (S : St (cx w mg mb s0 L) (look tpN [some (.ref x), some vv, some (.str nm tn), kv0]) [(Io, oo)] s)
    (h1 : ∀ kv s', (kvL (entsOf w.params d)).any (hits H.ver) = false → St (cx w mg mb s0 L) (look tpN [some (.ref x), some vv, some (.str nm tn), kv]) [(Io, oo)] s' → Q .next s')
    (h2 : ∀ t kv s', St (cx w mg mb s0 L) (look tpN [some (.ref x), some (.bytes pub.toArray t), some (.str nm tn), kv]) [(Io, oo)] s' → Q .next s') :
    W (cx w mg mb s0 L) (A.deeper (callEnv fd1331 L 1331)) (execs tpIn (callEnv fd1331 L 1331)) Q NoE s := by
  refine open_body rfl ?_
  refine x_for <| e_sub <| gl S g_NETWORKS <| ld 2 S ?_
  refine d_item (di176 _) S F.nm fun s S _ => i_dict F.dict F.nd F.ne S fun I o ep s S hI hne hit hat => ?_
  refine w_for (o0 := o) (Walks.dictKeys (knd := PySem.strKind PW w) (A := A.deeper (callEnv fd1331 L 1331)) R.calm I d hne (kvL (entsOf w.params d)) ep) (fun i h (z : h.IsKeyIter I d i (kvL (entsOf w.params d)).length ep ∧ h.DictAt (PySem.strKind PW w) d (kvL (entsOf w.params d)) ep) => let ⟨o, ho, _⟩ := z.1; ⟨o, ho⟩)
    (fun j vs nw => nw = [(Io, oo)] ∧ ∃ kv, vs = [some (.ref x), some vv, some (.str nm tn), kv] ∧ ∀ j' < j, ∀ q, (kvL (entsOf w.params d))[j']? = some q → hits H.ver q = false)
    (fun b hb hbI => ?_) (fun i vs nw hj p hp => ?_) ?_ ?_ (S.sub (nw := [(I, o), (Io, oo)]) (fun p hp => hp)) ⟨hit, hat⟩ ⟨rfl, kv0, rfl, fun j' hj => absurd hj (Nat.not_lt_zero _)⟩
  · have : b = d := by simpa [hbI] using hb
    subst this
    obtain ⟨es, n, hl, _⟩ := F.dict
    exact .inl ⟨_, S.G.K _ _ hl⟩
  · rw [hj.1] at hp
    rw [List.mem_singleton.mp hp]
    exact hI _ (.head _)
  · rintro j v vs nw s o hj ⟨key, xv, hx, hkey⟩ ⟨rfl, kv, rfl, hno⟩ S
    obtain ⟨tk, rfl⟩ := Value.isStrOf_shape hkey
    obtain ⟨r1, r2, r3⟩ := F.row hx
    have next : ∀ s, hits H.ver (key, xv) = false → St (cx w mg mb s0 L) (look tpN [some (.ref x), some vv, some (.str nm tn), some (.str key tk)]) [(I, o), (Io, oo)] s → ∃ vs' nw, (nw = [(Io, oo)] ∧ ∃ kv, vs' = [some (.ref x), some vv, some (.str nm tn), kv] ∧ ∀ j' < j + 1, ∀ q, (kvL (entsOf w.params d))[j']? = some q → hits H.ver q = false) ∧ St (cx w mg mb s0 L) (look tpN vs') ((I, o) :: nw) s := by
      intro s hh S
      refine ⟨_, _, ⟨rfl, _, rfl, fun j' hj' q hq => ?_⟩, S⟩
      rcases Nat.lt_succ_iff_lt_or_eq.mp hj' with hj' | rfl
      · exact hno j' hj' q hq
      · rw [hx] at hq
        cases hq
        exact hh
    refine g_name <| st 3 S fun s S => ?_
    refine x_if <| t_and <| t_cmp <| c_str S fun u s S => ld 3 S <| s_in <| t_bool <| ite_two (fun h => ?_) fun h => ite_no Bool.false_ne_true <| x_nil <| x_nil <| next _ (by unfold hits; rw [show isPrv key = false from by unfold isPrv; exact eq_false_of_ne_true h]; rfl) S
    obtain ⟨b, tb, b', tb', rfl, hs2, hpair⟩ := r3 h
    refine t_and <| t_cmp <| e_sub <| e_sub <| gl S g_NETWORKS <| ld 2 S ?_
    refine d_item (di176 _) S F.nm fun s S _ => ld 3 S ?_
    refine d_item F.dict S r1 fun s S _ => e_att <| ld 0 S <| a_own 39 1 S (OO.keeps S.F.keep) fun s S _ => y_eq <| t_bool <| ite_two (fun hb => ?_) fun hb => ite_no Bool.false_ne_true <| x_nil <| x_nil <| next _ (by unfold hits; simp only [Bool.and_eq_false_iff]; exact .inr (by simpa using hb)) S
    refine t_and0 <| ite_yes rfl ?_
    refine x_asg <| e_sub <| e_sub <| gl S g_NETWORKS <| ld 2 S ?_
    refine d_item (di176 _) S F.nm fun s S h0 => e_meth <| ld 3 S <| g_repl <| cw_bt' <| s_more <| c_strT S fun s1 S e1 => s_more <| c_strT S fun s2 S e2 => s_nil ?_
    refine r_repl (u := s.toks) (v := s1.toks) S (Nat.ne_of_gt h0) (by rw [e1]; exact Nat.succ_ne_zero _) (by rw [e1]; exact (Nat.succ_ne_self _).symm) (by decide +kernel) ?_ fun t s S => ?_
    · have : (key.length + 1) * (Str.ofString "pub").length ≤ 11 * 3 := Nat.mul_le_mul (by omega) (by decide +kernel)
      omega
    have hb2 : b = H.ver := by simpa using hb
    have hpub : b' = pub := pairs_one _ hpair _ hp hb2
    subst hpub
    refine d_item F.dict S hs2 fun s S _ => st 1 S fun s S => x_brk ?_
    exact x_nil (h2 _ _ _ S.drop)
  · rintro vs nw s ⟨rfl, kv, rfl, hno⟩ S
    refine x_nil (h1 _ _ ?_ S)
    rw [List.any_eq_false]
    intro q hq
    obtain ⟨j, hj⟩ := List.getElem?_of_mem hq
    have hlt : j < (kvL (entsOf w.params d)).length := by
      rcases Nat.lt_or_ge j (kvL (entsOf w.params d)).length with h | h
      · exact h
      · rw [List.getElem?_eq_none h] at hj; cases hj
    rw [hno j hlt q hj]
    exact Bool.false_ne_true
end Mine
end

section
set_option Elab.async false
set_option maxRecDepth 100000
set_option linter.unusedVariables false
set_option exponentiation.threshold 20000
open PySem PySem.W PyProof.Rows PySem.Calls PySem.Spec
namespace Mine
/-- the public key of a private one -/
def Hd.sibling (H : Hd) (pub : List UInt8) : Hd := ⟨false, pub, H.chain, H.depth, H.fp, H.cn, ser (pnt (beN H.body))⟩
theorem Hd.sibling_ok {H : Hd} {pub : List UInt8} (ok : H.Ok) (hp : (H.ver, pub) ∈ pairs) : (H.sibling pub).Ok := by
  have h : ∀ p ∈ pairs, p.2.length = 4 ∧ p.2.getD 0 0 ≠ 0 := by decide +kernel
  exact ⟨(h _ hp).1, ok.chain, ok.fp, ok.depth, ok.cn, (h _ hp).2⟩
theorem tp_last {w mg mb A s0 s x L k t1 t2 t3 t4 t5 t6 tv n0 n1} {H : Hd} {pub : List UInt8} (R : Rm A 50) (ok : H.Ok) (hpr : H.p = true) (hp : (H.ver, pub) ∈ pairs) (good : (H.sibling pub).Good) (OO : Ob s0.heap x 1420 hdN (hdV k H t1 t2 t3 t4 t5 t6)) (K : KeyOb s0.heap k H.p H.body)
    (S : St (cx w mg mb s0 L) (look tpN [some (.ref x), some (.bytes pub.toArray tv), n0, n1]) [] s) :
    W (cx w mg mb s0 L) (A.deeper (callEnv fd1331 L 1331)) (execs ((defBody (methSt 46 11)).drop 2) (callEnv fd1331 L 1331)) (fun fl s'' => Ext s0 s'' ∧ ∃ z, (match fl with | .ret v => v | _ => Value.none) = .ref z ∧ HdOb s''.heap z (H.sibling pub)) (fun _ _ => False) s := by
  rw [hpr] at K
  obtain ⟨tk, OK, hbl⟩ := K
  refine open_body rfl ?_
  refine x_if <| t_cmp <| ld 1 S <| c_none ?_
  refine n_is <| t_bool <| ite_no Bool.false_ne_true <| x_nil ?_
  refine x_ret <| e_meth <| ld 0 S <| a_cls S (OO.keeps S.F.keep) fun s S _ => cw_clsk 48 ?_
  refine s_more <| e_meth <| e_att <| ld 0 S <| a_own 38 0 S (OO.keeps S.F.keep) fun s S _ => a_fn 28 S (OK.keeps S.F.keep) <| cw_fn0 lk1141 S ?_
  have Sb := S
  refine use S (C_getpub S.gl R.deeper.less hbl (OK.keeps S.F.keep)) fun v s S x1 P => ?_
  obtain ⟨y, u, rfl, OY⟩ := P
  obtain ⟨d', es', n', S, en⟩ := Sb.addOb S OY
  refine s_more <| e_att <| ld 0 S <| a_own 40 2 S (OO.keeps S.F.keep) fun s S _ => s_nil ?_
  refine a_kw <| ld 1 S <| a_kw <| e_att <| ld 0 S <| a_own 41 3 S (OO.keeps S.F.keep) fun s S _ => ?_
  refine a_kw <| e_att <| ld 0 S <| a_own 42 4 S (OO.keeps S.F.keep) fun s S _ => ?_
  refine a_kw <| e_att <| ld 0 S <| a_own 43 6 S (OO.keeps S.F.keep) fun s S _ => a_kwnil ⟨⟨_, _, S⟩, ?_⟩
  have Ky : KeyOb s.heap y false (ser (pnt (beN H.body))) := ⟨pnt (beN H.body), u, S.ob (.head _) (.tail _ (.head _)) en, pnt_lt _, rfl⟩
  refine use S (C_hd (H := H.sibling pub) (t1 := tv) (t2 := t2) (t3 := t3) (t4 := t4) (t6 := t6) S.gl R.deeper.less (Hd.sibling_ok ok hp) good Ky (by intro x S; kernel_rfl)) fun v s S x2 P => ?_
  obtain ⟨z, rfl, t7, OZ⟩ := P
  exact ⟨⟨S.F.keep, S.gens, S.os⟩, z, rfl, y, tv, t2, t3, t4, t7, t6, OZ.all, Ky.keeps x2.keep⟩
theorem C_topub {w mg mb A s x} {H : Hd} {pub : List UInt8} (G : Gl w mg mb s.heap) (R : Rm A 50) (ok : H.Ok) (hpr : H.p = true) (hp : (H.ver, pub) ∈ pairs) (good : (H.sibling pub).Good) (O : HdOb s.heap x H) :
    Gives w A (.ref 1331) [.ref x] [] (fun v s' => ∃ z, v = .ref z ∧ HdOb s'.heap z (H.sibling pub)) s := by
  have ⟨k, t1, t2, t3, t4, t5, t6, OO, K⟩ := O
  refine enterW ["self", "version"] ["net", "k"] [.ref x, .none] G R.less lk1331 (defBody (methSt 46 11)) rfl cd1331 fun L s S => ?_
  refine open_body rfl ?_
  refine x_if <| t_not <| t_val <| e_att <| ld 0 S <| hm_isp S (O.keeps S.F.keep) R.deeper.less fun s S x1 => t_bool <| ite_no (by rw [hpr]; decide) <| x_nil ?_
  refine x_if <| t_cmp <| ld 1 S <| c_none ?_
  refine n_is <| t_bool <| ite_yes (by decide) ?_
  refine x_for <| gl S g_NETWORKS ?_
  refine i_dict (di176 _) (by rw [kv176]; decide +kernel) (by decide) S fun I o ep s S hI hne hit hat => ?_
  have h4 : (kvL (entsOf w.params 176)).length = 4 := by rw [kv176]; rfl
  refine w_for (o0 := o) (Walks.dictKeys (knd := PySem.strKind PW w) (A := A.deeper (callEnv fd1331 L 1331)) R.calm I 176 hne (kvL (entsOf w.params 176)) ep) (fun i h (z : h.IsKeyIter I 176 i (kvL (entsOf w.params 176)).length ep ∧ h.DictAt (PySem.strKind PW w) 176 (kvL (entsOf w.params 176)) ep) => let ⟨o, ho, _⟩ := z.1; ⟨o, ho⟩)
    (fun i vs nw => nw = [] ∧ ∃ vv n0 n1, vs = [some (.ref x), some vv, n0, n1] ∧ ((vv = .none ∧ ∀ j < i, ∀ q d, (kvL (entsOf w.params 176))[j]? = some (q, .ref d) → (kvL (entsOf w.params d)).any (hits H.ver) = false) ∨ ∃ t, vv = .bytes pub.toArray t))
    (fun b hb hbI => ?_) (fun i vs nw hj p hp => ?_) ?_ ?_ (S.sub (nw := [(I, o)]) (fun p hp => hp)) ⟨hit, hat⟩ ⟨rfl, _, none, none, rfl, .inl ⟨rfl, fun j hj => absurd hj (Nat.not_lt_zero _)⟩⟩
  · have : b = 176 := by simpa [hbI] using hb
    subst this
    exact .inl ⟨_, S.G.K _ _ (lk176 _)⟩
  · rw [hj.1] at hp
    cases hp
  · rintro i v vs nw s o hi ⟨key, xv, hx, hkey⟩ ⟨rfl, vv, n0, n1, rfl, hv⟩ S
    obtain ⟨tk, rfl⟩ := Value.isStrOf_shape hkey
    obtain ⟨d, rfl, F⟩ := netF w.params hx
    refine g_name <| st 2 S fun s S => ?_
    refine tp_inner (tn := tk) (vv := vv) (kv0 := n1) (Io := I) (oo := o) (pub := pub) R.less hp F OO S (fun kv s' hno S' => ?_) fun t kv s' S' => ?_
    · refine ⟨_, _, ⟨rfl, vv, _, _, rfl, ?_⟩, S'⟩
      rcases hv with ⟨e, hv⟩ | hv
      · refine .inl ⟨e, fun j hj q d' hq => ?_⟩
        rcases Nat.lt_succ_iff_lt_or_eq.mp hj with hj | rfl
        · exact hv j hj q d' hq
        · rw [hx] at hq
          cases hq
          exact hno
      · exact .inr hv
    · exact ⟨_, _, ⟨rfl, _, _, _, rfl, .inr ⟨t, rfl⟩⟩, S'⟩
  · rintro vs nw s ⟨rfl, vv, n0, n1, rfl, hv⟩ S
    have hv : ∃ t, vv = .bytes pub.toArray t := by
      rcases hv with ⟨e, hv⟩ | hv
      · exfalso
        have h1 := hv 0 (by rw [h4]; decide) _ 177 (by rw [kv176]; rfl)
        have h2 := hv 1 (by rw [h4]; decide) _ 178 (by rw [kv176]; rfl)
        have := List.all_eq_true.mp (all_hit w.params) _ hp
        rw [h1, h2] at this
        cases this
      · exact hv
    obtain ⟨tv, rfl⟩ := hv
    refine x_nil ?_
    exact tp_last R ok hpr hp good OO K S
theorem T_topub {w mg mb A s x B outer} {H : Hd} (G : Gl w mg mb s.heap) (Kb : Below A B outer s.heap) (R : Rm A 50) (hpr : H.p = false) (O : HdOb s.heap x H) :
    Throws w A (.ref 1331) [.ref x] [] s.heap B outer s := by
  refine enterT (news := []) ["self", "version"] ["net", "k"] [.ref x, .none] G Kb (fun _ _ e => e) (Nat.le_refl _) (fun p hp => nomatch hp) R.less lk1331 (defBody (methSt 46 11)) rfl cd1331 fun L s' ek S => ?_
  refine open_body rfl ?_
  refine x_if <| t_not <| t_val <| e_att <| ld 0 S <| hm_isp S (O.keeps S.F.keep) R.deeper.less fun s S x1 => t_bool <| ite_yes (by rw [hpr]; rfl) ?_
  exact x_raise S R.calm fun h₀ h' x vs tk e0 hm => .inl ⟨h₀, x, vs, rfl, hm, ⟨_, _, _, S, e0.symm⟩, S.gens, S.os⟩
/-- _law_public -/
theorem C_lpublic {w mg mb A s x} {H : Hd} {pub : List UInt8} (G : Gl w mg mb s.heap) (R : Rm A 55) (ok : H.Ok) (hpr : H.p = true) (hp : (H.ver, pub) ∈ pairs) (good : (H.sibling pub).Good) (O : HdOb s.heap x H) :
    Gives w A (.ref 1471) [.ref x] [] (fun v s' => ∃ l u, v = .ref l ∧ s'.heap.get? l = some (listOf [.bytes (H.sibling pub).octs.toArray u].toArray 0) ∧ s.heap.get? l = none) s := by
  have ⟨k, t1, t2, t3, t4, t5, t6, OO, K⟩ := O
  refine enterW ["key"] [] [.ref x] G R.less lk1471 (defBody (topSt 55)) rfl cd1471 fun L s S => ?_
  refine open_body rfl ?_
  refine x_try <| x_ret <| e_list <| s_more <| e_meth <| e_meth <| ld 0 S <| a_fn 47 S (OO.keeps S.F.keep) <| cw_fn0 lk1331 S ?_
  refine use S (C_topub S.gl R.deeper.less ok hpr hp good (O.keeps S.F.keep)) fun v s S x1 P => ?_
  obtain ⟨z, rfl, OZ⟩ := P
  have ⟨k', t1', t2', t3', t4', t5', t6', OOZ, _⟩ := OZ
  refine a_fn 44 S OOZ <| cw_fn0 lk784 S <| use S (C_hd_ser0 S.gl R.deeper.less (Hd.sibling_ok ok hp) OZ) fun v s S x2 P => ?_
  obtain ⟨u, rfl⟩ := P
  refine s_nil <| r_list S fun l s S => ⟨S.done, l, u, rfl, (S.N _ (.head _)).1, (S.N _ (.head _)).2.2⟩
theorem T_lpublic {w mg mb A s0 x B outer} {H : Hd} (G : Gl w mg mb B) (Kb : Below A B outer s0.heap) (R : Rm A 55) (hpr : H.p = false) (O : HdOb s0.heap x H) :
    Catches w A (.ref 1471) [.ref x] [] B (NilNew B s0) s0 := by
  have ⟨k, t1, t2, t3, t4, t5, t6, OO, K⟩ := O
  refine enterC ["key"] [] [.ref x] G Kb R.less lk1471 (defBody (topSt 55)) rfl cd1471 fun L s S => ?_
  refine open_body rfl ?_
  refine x_try <| x_ret <| e_list <| s_more <| e_meth <| e_meth <| ld 0 S <| a_fn 47 S (OO.keeps S.F.keep) <| cw_fn0 lk1331 S ?_
  refine useT (B := B) (outer := callEnv fd1471 L 1471 :: outer) (T_topub S.gl (S.below (env := callEnv fd1471 L 1471) Kb rfl (fk (by kernel_rfl))) R.deeper.less hpr (O.keeps S.F.keep)) fun e s₂ th => ?_
  refine x_catch (c := cx w mg mb s0 L) Kb rfl G th.fly fun h' A' k1 k2 => ?_
  have ct := th.caught (s := s0) (h' := h') (Heap.UpToSlots.of_keeps S.F.keep) S.gens S.os k1 k2
  exact ret_nil ⟨ct.push, ct.nil⟩
end Mine
end

section
set_option Elab.async false
set_option maxRecDepth 100000
set_option linter.unusedVariables false
open PySem PySem.W PyProof.Rows PySem.Calls PySem.Spec
namespace Mine
section
variable {c : Cx} {A : Around} {E : Value → Shared → Prop} {s : Shared} {env : Env}
theorem W.attempt {α : Type} {m : Sem α} {Q : Except Value α → Shared → Prop} (h : W c A m (fun a => Q (.ok a)) (fun e => Q (.error e)) s) : W c A m.attempt Q E s := ⟨fun Γ p hΓ q => by rw [Sem.wp_attempt]; exact h.out Γ p hΓ q⟩
theorem W.runC {cd : Code} {Q : Flow → Shared → Prop} (h : codeN (model PW c.w) A cd (fun r s' => match r with | .ok f => Q f s' | .error e => E e s') s) : W c A (PySem.run cd none) Q E s := ⟨fun Γ p hΓ q => by
  rw [Sem.wp_run]
  exact h _ p rfl (hΓ.enter cd none p (by intro x; cases x)) (q.enter cd none p)⟩
/-- what the block leaves: its own names go -/
def CompEnd (C : Addr) (Q : Shared → Prop) (r : Result) (s' : Shared) : Prop := match r with
  | .ok _ => ∃ m, s'.heap.Ns C m ∧ ∀ h', Heap.SameBut C s'.heap h' → Q { s' with heap := h' }
  | .error _ => False
theorem w_compr {e : Expr} {scope : Scope} {pos : Pos} {g : Comprehension} {gs : List Comprehension} {cl : List (Str × Addr)} {first : Sem Value} {Q : Value → Shared → Prop}
    (hcl : clausesOf e = g :: gs) (hs : ∀ x, foldedSetIterable g.iter env x = pure x) (hclos : closureFor scope env = pure cl)
    (hkind : scope.kind = .function) (hnames : ∀ x ∈ scope.names, x.2 = .local → scope.names.lookup x.1 = some .local)
    (h : W c A first (fun x s₁ => W c A (pyIter x) (fun it s₂ => W c A (newList []) (fun acc s₃ => W c A (newFunctionEnv scope env.globals cl [] env.qual none .none (some env)) (fun cenv s₄ =>
        codeN (model PW c.w) A (.compStart e 0 it acc { cenv with scope := relabel scope env }) (CompEnd cenv.locals (Q acc)) s₄) E s₃) E s₂) E s₁) E s) :
    W c A (comprehension e scope env pos (newList []) false first none) Q E s := by
  unfold comprehension
  rw [hclos, hcl]
  refine W.then h fun x s₁ h₁ => W.stand ?_
  dsimp only
  rw [hs x]
  refine W.bind (W.pure (W.then (W.hold h₁) fun it s₂ h₂ => ?_))
  refine W.then h₂ fun acc s₃ h₃ => W.bind (W.pure (W.then h₃ fun cenv s₄ h₄ => ?_))
  have hv : ∀ x ∈ (scope.names.filter fun x => (x.2 == .local || x.2 == .cell) && x.1 != (".0" : Str)).reverse, x.2 = .local →
      Env.kindOf { cenv with scope := relabel scope env } x.1 = some .local := fun x hx hl => lookup_relabel_local (hnames x (List.mem_filter.mp (List.mem_reverse.mp hx)).1 hl)
  refine W.hold (W.bind (W.attempt (W.hold (W.runC (h₄.mono fun r s' hr => ?_)))))
  cases r with
  | error x => exact hr.elim
  | ok f =>
    obtain ⟨m, hn, hr⟩ := hr
    refine W.bind (W.hold (W.mk (wpAny_comp_letGo (cenv := { cenv with scope := relabel scope env }) hkind _ s' m hv hn fun h' m' _ hs' => W.pure (hr h' hs'))))
/-- the same, its list handed on at once -/
theorem w_comprU {e : Expr} {scope : Scope} {pos : Pos} {g : Comprehension} {gs : List Comprehension} {cl : List (Str × Addr)} {first : Sem Value} {use : Value → Sem Unit} {Q : Shared → Prop}
    (hcl : clausesOf e = g :: gs) (hs : ∀ x, foldedSetIterable g.iter env x = pure x) (hclos : closureFor scope env = pure cl)
    (hkind : scope.kind = .function) (hnames : ∀ x ∈ scope.names, x.2 = .local → scope.names.lookup x.1 = some .local)
    (h : W c A first (fun x s₁ => W c A (pyIter x) (fun it s₂ => W c A (newList []) (fun acc s₃ => W c A (newFunctionEnv scope env.globals cl [] env.qual none .none (some env)) (fun cenv s₄ =>
        codeN (model PW c.w) A (.compStart e 0 it acc { cenv with scope := relabel scope env }) (fun r s' => match r with
          | .ok _ => W c A (use acc) (fun _ s'' => CompEnd cenv.locals Q (.ok .next) s'') E s'
          | .error _ => False) s₄) E s₃) E s₂) E s₁) E s) :
    W c A (comprehension e scope env pos (newList []) false first (some use)) (fun _ s' => Q s') E s := by
  unfold comprehension
  rw [hclos, hcl]
  refine W.then h fun x s₁ h₁ => W.stand ?_
  dsimp only
  rw [hs x]
  refine W.bind (W.pure (W.then (W.hold h₁) fun it s₂ h₂ => ?_))
  refine W.stand ?_
  refine W.then h₂ fun acc s₃ h₃ => W.bind (W.pure (W.then h₃ fun cenv s₄ h₄ => ?_))
  have hv : ∀ x ∈ (scope.names.filter fun x => (x.2 == .local || x.2 == .cell) && x.1 != (".0" : Str)).reverse.drop 1 ++ (scope.names.filter fun x => (x.2 == .local || x.2 == .cell) && x.1 != (".0" : Str)).reverse.take 1, x.2 = .local →
      Env.kindOf { cenv with scope := relabel scope env } x.1 = some .local := fun x hx hl => by
    have hv : ∀ x ∈ (scope.names.filter fun x => (x.2 == .local || x.2 == .cell) && x.1 != (".0" : Str)).reverse, x.2 = .local →
        Env.kindOf { cenv with scope := relabel scope env } x.1 = some .local := fun x hx hl => lookup_relabel_local (hnames x (List.mem_filter.mp (List.mem_reverse.mp hx)).1 hl)
    rcases List.mem_append.mp hx with h1 | h1
    · exact hv x (List.mem_of_mem_drop h1) hl
    · exact hv x (List.mem_of_mem_take h1) hl
  refine W.hold (W.bind (W.attempt (W.hold (W.runC (h₄.mono fun r s' hr => ?_)))))
  cases r with
  | error x => exact hr.elim
  | ok f =>
    refine W.bind (W.mk (wpAny_rule (W.bind (W.hold (hr.mono (fun _ s'' hr' => ?_) fun _ _ q => q)))))
    obtain ⟨m, hn, hr'⟩ := hr'
    exact W.bind (W.mk (wpAny_comp_letGo (cenv := { cenv with scope := relabel scope env }) hkind _ s'' m hv hn fun h' m' _ hs' => W.pure (hr' h' hs')))
end
/-- the block's loop -/
theorem comp_loop {c : Cx} {A : Around} {s : Shared} {elt target iter : Expr} {scope : Scope} {pos : Pos} {it acc : Value} {env : Env} {R : Result → Shared → Prop} (I : Nat → Shared → Prop)
    (turn : ∀ n s, I n s → W c A (pyNext it) (fun r s₁ => match r with
      | none => R (.ok .next) s₁
      | some v => W c A (assign target env v) (fun _ s₂ => W c A (eval elt env) (fun x s₃ => W c A (call (.builtin "list.append") [acc, x]) (fun _ s₄ => ∃ m, m < n ∧ I m s₄) NoE s₃) NoE s₂) NoE s₁) NoE s)
    (n : Nat) (h : I n s) (ht : ∀ v, letOwnedTupleGo target it v = pure () := by intro _; rfl) :
    codeN (model PW c.w) A (.compLoop (.ListComp elt [⟨target, iter, [], 0⟩] scope pos) 0 it acc env) R s := by
  refine codeN_loop rfl rfl I (fun n s hI => W.out (c := c) ?_) n h
  show W c A ((compTurn (.ListComp elt [⟨target, iter, [], 0⟩] scope pos) 0 it acc env).onRaise (fun x => do noteFrame x env; theTreesLotGoes x)) _ _ s
  refine W.onRaise (W.mono (E := NoE) ?_ (fun _ _ q => q) fun _ _ q => q.elim)
  rw [compTurn_list1]
  refine W.stand (W.then (turn n s hI) fun r s₁ h₁ => ?_)
  cases r with
  | none => exact W.pure h₁
  | some v =>
    show W c A (letOwnedTupleGo target it v >>= _) _ _ s₁
    rw [ht v]
    refine W.bind (W.pure (W.then h₁ fun _ s₂ h₂ => W.bind (W.then h₂ fun x s₃ h₃ => W.then h₃ fun _ s₄ h₄ => ?_)))
    exact W.pure (W.pure (.inl ⟨rfl, h₄⟩))
theorem comp_start {c : Cx} {A : Around} {s : Shared} {elt target iter : Expr} {ifs : List Expr} {rest : List Comprehension} {scope : Scope} {pos : Pos} {it acc : Value} {env : Env} {R : Result → Shared → Prop}
    (h0 : codeN (model PW c.w) A (.compLoop (.ListComp elt (⟨target, iter, ifs, 0⟩ :: rest) scope pos) 0 it acc env) R s)
    (h : W c A (pyIter it) (fun it' s' => codeN (model PW c.w) A (.compLoop (.ListComp elt (⟨target, iter, ifs, 0⟩ :: rest) scope pos) 0 it' acc env) R s') NoE s) :
    codeN (model PW c.w) A (.compStart (.ListComp elt (⟨target, iter, ifs, 0⟩ :: rest) scope pos) 0 it acc env) R s := by
  refine codeN.tree rfl (W.out (c := c) ?_)
  show W c A ((compStart (.ListComp elt (⟨target, iter, ifs, 0⟩ :: rest) scope pos) 0 it acc env).onRaise (fun x => do noteFrame x env; standAt theWindowsPlace)) _ _ s
  refine W.onRaise (W.mono (E := NoE) ?_ (fun _ _ q => q) fun _ _ q => q.elim)
  unfold compStart
  show W c A (PySem.ask >>= _) _ _ s
  refine W.bind (W.mk (wpAny_askSetting (W.ite ?_)))
  split
  · first
      | exact W.bind (W.pure (W.pure (And.intro rfl h0)))
      | exact W.pure (And.intro rfl h0)
  · first
      | exact W.bind (W.mk (wpAny_rule (W.bind (W.mk (wpAny_standAt (W.then h fun it' s' h' => W.pure (And.intro rfl h')))))))
      | (refine W.bind (W.mk (wpAny_rule ?_)); show W c A (standAt iter.pos >>= _) _ _ s; exact W.stand (W.then h fun it' s' h' => W.pure (And.intro rfl h')))
end Mine
end

section
set_option Elab.async false
set_option maxRecDepth 100000
set_option linter.unusedVariables false
open PySem PySem.W PyProof.Rows PySem.Calls PySem.Spec
namespace Mine
abbrev cC (c : Cx) (C : Addr) : Cx := ⟨c.w, c.mg, c.mb, c.g, C, c.gg, c.oo⟩
theorem W.cx {α : Type} {c c' : Cx} {A : Around} {t : Sem α} {Q : α → Shared → Prop} {E : Value → Shared → Prop} {s : Shared} (h : W c A t Q E s) (e : c'.w = c.w := by rfl) : W c' A t Q E s := ⟨by rw [e]; exact h.out⟩
/-- an object of which the walk knows no more than that it stands -/
theorem St.same {c : Cx} {m : Str → Option Value} {nw : List (Addr × Obj)} {s : Shared} (S : St c m nw s) {C : Addr} {oC : Obj} (hC : (C, oC) ∈ nw) {rest : List (Addr × Obj)} (hr : ∀ p ∈ rest, p ∈ nw ∧ p.1 ≠ C) {h' : Heap} (hs : Heap.SameBut C s.heap h') : St c m rest { s with heap := h' } := by
  have z := S.N _ hC
  obtain ⟨oL, es, ep, hL, r⟩ := S.F.ns
  refine ⟨S.G, ⟨⟨oL, es, ep, (hs.2 _ (Ne.symm z.2.1)).trans hL, r⟩, fun b o e => (hs.2 _ fun q => ?_).trans (S.F.keep b o e), S.F.above⟩, fun p hp => ?_, S.gens, S.os⟩
  · subst q; rw [z.2.2] at e; cases e
  · have y := S.N p (hr p hp).1
    exact ⟨(hs.2 _ (hr p hp).2).trans y.1, y.2⟩
section
variable {c : Cx} {A : Around} {s : Shared} {env : Env} {m : Str → Option Value} {nw : List (Addr × Obj)}
/-- the block of a list comprehension: from its iterator on -/
theorem lc_core {elt iter : Expr} {x : Str} {px : Pos} {scope : Scope} {pos : Pos} {cl : List (Str × Addr)} {I : Addr} {o : Obj} {fp : List Addr} {n : Nat} {P : Nat → Value → Prop} {Stt : Nat → Heap → Prop} {R : Addr → Addr → Result → Shared → Prop} {E : Value → Shared → Prop} (F : Nat → Value → Prop)
    (Wk : Walks PW c.w A I fp [I] n P Stt) (hlive : ∀ i h, Stt i h → ∃ o, h.get? I = some o) (hn : n ≤ 1000000)
    (S : St c m ((I, o) :: nw) s) (h0 : Stt 0 s.heap) (fr : ∀ b ∈ fp, b ≠ I → (∃ o, c.g.get? b = some o) ∨ ∃ o, (b, o) ∈ nw) (ap : ∀ p ∈ nw, p.1 ≠ I)
    (turn : ∀ C oL oI D oD i v s₃, i < n → P i v → St (cC c C) (look [x] [some v]) ((D, oD) :: (I, oI) :: (c.L, oL) :: nw) s₃ →
      W (cC c C) A (eval elt (compEnvC scope cl C env)) (fun y s₄ => F i y ∧ St (cC c C) (look [x] [some v]) ((D, oD) :: (I, oI) :: (c.L, oL) :: nw) s₄) NoE s₃)
    (done : ∀ (C D : Addr) (oC : Obj) (mC : Str → Option Value) (ys : List Value) (s' : Shared), ys.length = n → (∀ j y, ys[j]? = some y → F j y) → s'.heap.Ns C mC → (∀ p ∈ (D, listOf ys.toArray n) :: nw, p.1 ≠ C) → (∀ p ∈ nw, p.1 ≠ D) → St c m ((C, oC) :: (D, listOf ys.toArray n) :: nw) s' → R D C (.ok .next) s')
    (hcell : ∀ y ∈ scope.names, y.2 ≠ .cell) (hkind : scope.kind = .function) (hnm : ∀ C, nmOk (compEnvC scope cl C env) x = true) :
    W c A (newList []) (fun acc s₃ => W c A (newFunctionEnv scope env.globals cl [] env.qual none .none (some env)) (fun cenv s₄ =>
        codeN (model PW c.w) A (.compStart (.ListComp elt [⟨.Name x px, iter, [], 0⟩] scope pos) 0 (.ref I) acc { cenv with scope := relabel scope env }) (fun r s' => ∃ D, acc = .ref D ∧ R D cenv.locals r s') s₄) E s₃) E s := by
  obtain ⟨oL, esL, epL, hoL, rL⟩ := S.F.ns
  refine W.mk (wpAny_newList ?_)
  have SD : St c m ((s.heap.objs.size, listOf #[] 0) :: (I, o) :: nw) { s with heap := s.heap.push (listOf #[] 0) } := ⟨S.G, S.F.push _, S.N.push S.F _, S.gens, S.os⟩
  have apD : ∀ p ∈ (I, o) :: nw, p.1 ≠ s.heap.objs.size := fun p hp => Nat.ne_of_lt (Heap.lt_size (S.N p hp).1)
  have hLD : c.L ≠ s.heap.objs.size := Nat.ne_of_lt (Heap.lt_size hoL)
  have h0D : Stt 0 (s.heap.push (listOf #[] 0)) := Wk.frame _ _ _ h0 fun b _ x e => Heap.get?_push_of_some _ e
  generalize hD : s.heap.objs.size = D at *
  generalize hs1 : ({ s with heap := s.heap.push (listOf #[] 0) } : Shared) = s₁ at SD
  have e1 : s₁.heap = s.heap.push (listOf #[] 0) := by rw [← hs1]
  rw [← e1] at h0D
  obtain ⟨oL1, _, _, hoL1, _⟩ := SD.F.ns
  refine W.mk (wpAny_newFunctionEnv hcell (by intro y hy; simp at hy) (fun h₁ hns hsb => ?_) hkind)
  have hCs : ∀ b o, s₁.heap.get? b = some o → b ≠ s₁.heap.objs.size := fun b o e => Nat.ne_of_lt (Heap.lt_size e)
  have old : ∀ b o, s₁.heap.get? b = some o → h₁.get? b = some o := fun b o e => hsb.extBut b o (hCs b o e) (Heap.get?_push_of_some _ e)
  refine codeN.mono (R := R D s₁.heap.objs.size) ?_ fun r s' q => ⟨D, rfl, q⟩
  show codeN (model PW c.w) A (.compStart (.ListComp elt [⟨.Name x px, iter, [], 0⟩] scope pos) 0 (.ref I) (.ref D) (compEnvC scope cl s₁.heap.objs.size env)) (R D s₁.heap.objs.size) _
  generalize hC : s₁.heap.objs.size = C at *
  have hgC : c.g.objs.size ≤ C := Nat.le_trans S.F.above (by rw [← hC]; exact Nat.le_of_lt (Heap.lt_size hoL1))
  have hLC : c.L ≠ C := hCs _ _ hoL1
  -- the block's frame
  have SC : St (cC c C) (look [x] [none]) ((D, listOf ([] : List Value).toArray 0) :: (I, o) :: (c.L, oL1) :: nw) { s₁ with heap := h₁, toks := s₁.toks + ([] : List (Str × Value)).length } := by
    refine ⟨S.G, ⟨?_, fun b o e => old _ _ (SD.F.keep b o e), hgC⟩, fun p hp => ?_, SD.gens, SD.os⟩
    · have e : (look [x] [none]) = fun y => ([] : List (Str × Value)).reverse.lookup y := by
        funext y
        show (if y = x then none else look [] [] y) = none
        split <;> rfl
      rw [e]; exact hns
    · have key : s₁.heap.get? p.1 = some p.2 ∧ c.g.get? p.1 = none := by
        rcases List.mem_cons.mp hp with rfl | hp
        · exact ⟨(SD.N _ (.head _)).1, (SD.N _ (.head _)).2.2⟩
        · rcases List.mem_cons.mp hp with rfl | hp
          · exact ⟨(SD.N _ (.tail _ (.head _))).1, (SD.N _ (.tail _ (.head _))).2.2⟩
          · rcases List.mem_cons.mp hp with rfl | hp
            · refine ⟨hoL1, ?_⟩
              cases q : c.g.get? c.L with
              | none => rfl
              | some z => exact absurd (Heap.lt_size q) (Nat.not_lt_of_le S.F.above)
            · exact ⟨(SD.N _ (.tail _ (.tail _ hp))).1, (SD.N _ (.tail _ (.tail _ hp))).2.2⟩
      exact ⟨old _ _ key.1, hCs _ _ key.1, key.2⟩
  have h0C : Stt 0 h₁ := Wk.frame _ _ _ h0D fun b _ x e => old b x e
  have hDI : I ≠ D := apD (I, o) (.head _)
  have hIL : I ≠ c.L := (S.N _ (.head _)).2.1
  have loop : ∀ s₂ : Shared, s₂ = { s₁ with heap := h₁, toks := s₁.toks + ([] : List (Str × Value)).length } →
      codeN (model PW c.w) A (.compLoop (.ListComp elt [⟨.Name x px, iter, [], 0⟩] scope pos) 0 (.ref I) (.ref D) (compEnvC scope cl C env)) (R D C) s₂ := by
    rintro s₂ rfl
    refine comp_loop (c := cC c C) (fun k s => ∃ (i : Nat) (ys : List Value) (ov : Option Value) (oI : Obj), k = n + 1 - i ∧ i ≤ n ∧ ys.length = i ∧ (∀ j y, ys[j]? = some y → F j y) ∧ Stt i s.heap ∧
      St (cC c C) (look [x] [ov]) ((D, listOf ys.toArray i) :: (I, oI) :: (c.L, oL1) :: nw) s) ?_ (n + 1) ⟨0, [], none, o, rfl, Nat.zero_le _, rfl, fun j y e => by simp at e, h0C, SC⟩
    rintro k s ⟨i, ys, ov, oI, rfl, hi, hlen, hF, hst, S2⟩
    have apI : ∀ p ∈ (D, listOf ys.toArray i) :: (c.L, oL1) :: nw, p.1 ≠ I := fun p hp => by
      rcases List.mem_cons.mp hp with rfl | hp
      · exact Ne.symm hDI
      · rcases List.mem_cons.mp hp with rfl | hp
        · exact Ne.symm hIL
        · exact ap p hp
    have S3 := S2.sub (nw := (I, oI) :: (D, listOf ys.toArray i) :: (c.L, oL1) :: nw) (fun p hp => by
      rcases List.mem_cons.mp hp with rfl | hp
      · exact .tail _ (.head _)
      · rcases List.mem_cons.mp hp with rfl | hp
        · exact .head _
        · exact .tail _ (.tail _ hp))
    have back : ∀ {m' oI' s'}, St (cC c C) m' ((I, oI') :: (D, listOf ys.toArray i) :: (c.L, oL1) :: nw) s' → St (cC c C) m' ((D, listOf ys.toArray i) :: (I, oI') :: (c.L, oL1) :: nw) s' := fun S => S.sub fun p hp => by
      rcases List.mem_cons.mp hp with rfl | hp
      · exact .tail _ (.head _)
      · rcases List.mem_cons.mp hp with rfl | hp
        · exact .head _
        · exact .tail _ (.tail _ hp)
    by_cases hlt : i < n
    · refine W.mk (Wk.item i s _ _ hlt hst fun v h' tk hP hst' hk => ?_)
      obtain ⟨oI', hoI'⟩ := hlive _ _ hst'
      have S4 := back (S3.turn (o' := oI') (h' := h') (tk := tk) apI (fun b x hb e => hk b x (by simpa using hb) e) hoI')
      refine g_name <| Mine.st 0 S4 (fun s5 S5 => ?_) rfl (hnm C) (by show (x == x) = true; exact beq_self_eq_true x) rfl
      refine (turn C oL1 oI' D _ i v s5 hlt hP S5).mono (fun y s6 h6 => ?_) fun _ _ q => q
      obtain ⟨hy, S6⟩ := h6
      refine r_append S6 (fun p hp => ?_) (by omega) fun s7 S7 => ?_
      · rcases List.mem_cons.mp hp with rfl | hp
        · exact hDI
        · rcases List.mem_cons.mp hp with rfl | hp
          · exact hLD
          · exact apD p (.tail _ hp)
      · refine ⟨n + 1 - (i + 1), by omega, i + 1, ys ++ [y], some v, oI', rfl, hlt, by simp [hlen], fun j z hz => ?_, ?_, S7⟩
        · rw [List.getElem?_append] at hz
          split at hz
          · exact hF j z hz
          · rename_i hj
            have hj0 : j - ys.length = 0 := by
              rcases Nat.eq_zero_or_pos (j - ys.length) with h | h
              · exact h
              · rw [List.getElem?_eq_none (by simp; omega)] at hz; cases hz
            rw [hj0] at hz
            cases hz
            have : j = i := by omega
            rw [this]
            exact hy
        · refine Wk.frame _ _ _ hst' fun b hb x e => ?_
          by_cases hbI : b = I
          · subst hbI
            rw [hoI'] at e
            cases e
            exact (S7.N _ (.tail _ (.head _))).1
          · have same : ∀ z, s7.heap.get? b = some z → h'.get? b = some z → s7.heap.get? b = some x := fun z e1 e2 => by
              rw [show h'.get? b = some x from e] at e2
              cases e2
              exact e1
            rcases fr b hb hbI with ⟨z, hz⟩ | ⟨z, hz⟩
            · exact same z (S7.F.keep _ _ hz) (S4.F.keep _ _ hz)
            · exact same z (S7.N _ (.tail _ (.tail _ (.tail _ hz)))).1 (S4.N _ (.tail _ (.tail _ (.tail _ hz)))).1
    · have e : i = n := by omega
      subst e
      refine W.mk (Wk.done s _ _ hst fun h' tk hk => ?_)
      have kk : ∀ b x, b ≠ I → s.heap.get? b = some x → h'.get? b = some x := fun b x hb e => hk b x (by simpa using hb) e
      have zI := S2.N _ (.tail _ (.head _))
      have hCI : C ≠ I := Ne.symm zI.2.1
      obtain ⟨oC, esC, epC, hoC, rC⟩ := S2.F.ns
      have hDD := S2.N _ (.head _)
      have hLL := S2.N _ (.tail _ (.tail _ (.head _)))
      have St' : St c m ((C, oC) :: (D, listOf ys.toArray i) :: nw) { s with heap := h', toks := tk } := by
        refine ⟨S.G, ⟨?_, fun b o e => kk _ _ (fun q => ?_) (S2.F.keep b o e), S.F.above⟩, fun p hp => ?_, S2.gens, S2.os⟩
        · obtain ⟨oL2, es2, ep2, h2, r2⟩ := SD.F.ns
          have : oL2 = oL1 := by rw [hoL1] at h2; cases h2; rfl
          subst this
          exact ⟨oL2, es2, ep2, kk _ _ (Ne.symm hIL) hLL.1, r2⟩
        · subst q; rw [zI.2.2] at e; cases e
        · rcases List.mem_cons.mp hp with rfl | hp
          · refine ⟨kk _ _ hCI hoC, Ne.symm hLC, ?_⟩
            cases q : c.g.get? C with
            | none => rfl
            | some z => exact absurd (Heap.lt_size q) (Nat.not_lt_of_le hgC)
          · rcases List.mem_cons.mp hp with rfl | hp
            · exact ⟨kk _ _ (Ne.symm hDI) hDD.1, Ne.symm hLD, hDD.2.2⟩
            · have y := S2.N p (.tail _ (.tail _ (.tail _ hp)))
              exact ⟨kk _ _ (ap p hp) y.1, (S.N p (.tail _ hp)).2.1, y.2.2⟩
      refine done C D oC (look [x] [ov]) ys _ hlen hF ⟨oC, esC, epC, kk _ _ hCI hoC, rC⟩ (fun p hp => ?_) (fun p hp => apD p (.tail _ hp)) St'
      rcases List.mem_cons.mp hp with rfl | hp
      · exact hDD.2.1
      · exact (S2.N p (.tail _ (.tail _ (.tail _ hp)))).2.1
  exact comp_start (c := c) (loop _ rfl) (W.mk (Wk.self 0 _ _ _ h0C (loop _ rfl)))
end
end Mine
end

section
set_option Elab.async false
set_option maxRecDepth 100000
set_option linter.unusedVariables false
open PySem PySem.W PyProof.Rows PySem.Calls PySem.Spec
namespace Mine
section
variable {c : Cx} {A : Around} {s : Shared} {env : Env} {m : Str → Option Value} {nw : List (Addr × Obj)}
theorem St.uncomp {C D : Addr} {oC oD : Obj} {s' : Shared} {h' : Heap} (S : St c m ((C, oC) :: (D, oD) :: nw) s') (ap : ∀ p ∈ (D, oD) :: nw, p.1 ≠ C) (hs : Heap.SameBut C s'.heap h') : St c m ((D, oD) :: nw) { s' with heap := h' } :=
  S.same (.head _) (fun p hp => ⟨.tail _ hp, ap p hp⟩) hs
/-- the list of a comprehension, from its iterator on -/
theorem lc_go {elt iter : Expr} {x : Str} {px : Pos} {scope : Scope} {pos : Pos} {cl : List (Str × Addr)} {I : Addr} {o : Obj} {fp : List Addr} {n : Nat} {P : Nat → Value → Prop} {Stt : Nat → Heap → Prop} {Q : Value → Shared → Prop} {E : Value → Shared → Prop} (F : Nat → Value → Prop)
    (Wk : Walks PW c.w A I fp [I] n P Stt) (hlive : ∀ i h, Stt i h → ∃ o, h.get? I = some o) (hn : n ≤ 1000000)
    (S : St c m ((I, o) :: nw) s) (h0 : Stt 0 s.heap) (fr : ∀ b ∈ fp, b ≠ I → (∃ o, c.g.get? b = some o) ∨ ∃ o, (b, o) ∈ nw) (ap : ∀ p ∈ nw, p.1 ≠ I)
    (turn : ∀ C oL oI D oD i v s₃, i < n → P i v → St (cC c C) (look [x] [some v]) ((D, oD) :: (I, oI) :: (c.L, oL) :: nw) s₃ →
      W (cC c C) A (eval elt (compEnvC scope cl C env)) (fun y s₄ => F i y ∧ St (cC c C) (look [x] [some v]) ((D, oD) :: (I, oI) :: (c.L, oL) :: nw) s₄) NoE s₃)
    (done : ∀ (D : Addr) (ys : List Value) (s' : Shared), ys.length = n → (∀ j y, ys[j]? = some y → F j y) → (∀ p ∈ nw, p.1 ≠ D) → St c m ((D, listOf ys.toArray n) :: nw) s' → Q (.ref D) s')
    (hcell : ∀ y ∈ scope.names, y.2 ≠ .cell) (hkind : scope.kind = .function) (hnm : ∀ C, nmOk (compEnvC scope cl C env) x = true) :
    W c A (newList []) (fun acc s₃ => W c A (newFunctionEnv scope env.globals cl [] env.qual none .none (some env)) (fun cenv s₄ =>
        codeN (model PW c.w) A (.compStart (.ListComp elt [⟨.Name x px, iter, [], 0⟩] scope pos) 0 (.ref I) acc { cenv with scope := relabel scope env }) (CompEnd cenv.locals (Q acc)) s₄) E s₃) E s := by
  refine (lc_core (R := fun D C r s' => CompEnd C (Q (.ref D)) r s') F Wk hlive hn S h0 fr ap turn (fun C D oC mC ys s' hl hF hC apC apD S' => ⟨mC, hC, fun h' hs => done D ys _ hl hF apD (S'.uncomp apC hs)⟩) hcell hkind hnm).mono (fun acc s₃ h => h.mono (fun cenv s₄ h => h.mono fun r s' q => ?_) fun _ _ q => q) fun _ _ q => q
  obtain ⟨D, rfl, q⟩ := q
  exact q
theorem e_lc {elt target iter : Expr} {ifs : List Expr} {gs : List Comprehension} {scope : Scope} {pos : Pos} {Q : Value → Shared → Prop} {E : Value → Shared → Prop} (cl : List (Str × Addr))
    (h : W c A (eval iter env) (fun x s₁ => W c A (pyIter x) (fun it s₂ => W c A (newList []) (fun acc s₃ => W c A (newFunctionEnv scope env.globals cl [] env.qual none .none (some env)) (fun cenv s₄ =>
        codeN (model PW c.w) A (.compStart (.ListComp elt (⟨target, iter, ifs, 0⟩ :: gs) scope pos) 0 it acc { cenv with scope := relabel scope env }) (CompEnd cenv.locals (Q acc)) s₄) E s₃) E s₂) E s₁) E s)
    (hs : ∀ x, foldedSetIterable iter env x = pure x := by intro _; with_unfolding_all rfl) (hclos : closureFor scope env = pure cl := by with_unfolding_all rfl)
    (hkind : scope.kind = .function := by rfl) (hnames : ∀ x ∈ scope.names, x.2 = .local → scope.names.lookup x.1 = some .local := by decide) :
    W c A (eval (.ListComp elt (⟨target, iter, ifs, 0⟩ :: gs) scope pos) env) Q E s := by
  rw [eval_ListComp]
  exact w_compr rfl hs hclos hkind hnames h
end
section
variable {c : Cx} {A : Around} {s : Shared} {env : Env} {ns : List Str} {vs : List (Option Value)} {nw : List (Addr × Obj)}
/-- the same, the list stored at once -/
theorem lc_goU {elt iter : Expr} {x : Str} {px : Pos} {scope : Scope} {pos : Pos} {cl : List (Str × Addr)} {I : Addr} {o : Obj} {fp : List Addr} {n : Nat} {P : Nat → Value → Prop} {Stt : Nat → Heap → Prop} {y : Str} {py : Pos} {Q : Shared → Prop} {E : Value → Shared → Prop} (i : Nat) (F : Nat → Value → Prop)
    (Wk : Walks PW c.w A I fp [I] n P Stt) (hlive : ∀ i h, Stt i h → ∃ o, h.get? I = some o) (hn : n ≤ 1000000)
    (S : St c (look ns vs) ((I, o) :: nw) s) (h0 : Stt 0 s.heap) (fr : ∀ b ∈ fp, b ≠ I → (∃ o, c.g.get? b = some o) ∨ ∃ o, (b, o) ∈ nw) (ap : ∀ p ∈ nw, p.1 ≠ I)
    (turn : ∀ C oL oI D oD i v s₃, i < n → P i v → St (cC c C) (look [x] [some v]) ((D, oD) :: (I, oI) :: (c.L, oL) :: nw) s₃ →
      W (cC c C) A (eval elt (compEnvC scope cl C env)) (fun y s₄ => F i y ∧ St (cC c C) (look [x] [some v]) ((D, oD) :: (I, oI) :: (c.L, oL) :: nw) s₄) NoE s₃)
    (done : ∀ (D : Addr) (ys : List Value) (s' : Shared), ys.length = n → (∀ j y, ys[j]? = some y → F j y) → (∀ p ∈ nw, p.1 ≠ D) → St c (look ns (vs.set i (some (.ref D)))) ((D, listOf ys.toArray n) :: nw) s' → Q s')
    (hcell : ∀ y ∈ scope.names, y.2 ≠ .cell) (hkind : scope.kind = .function) (hnm : ∀ C, nmOk (compEnvC scope cl C env) x = true)
    (hL : env.locals = c.L := by rfl) (hk : nmOk env y = true := by kernel_rfl) (hi : idxOk ns y i = true := by kernel_rfl) (hl : ns.length = vs.length := by rfl) :
    W c A (newList []) (fun acc s₃ => W c A (newFunctionEnv scope env.globals cl [] env.qual none .none (some env)) (fun cenv s₄ =>
        codeN (model PW c.w) A (.compStart (.ListComp elt [⟨.Name x px, iter, [], 0⟩] scope pos) 0 (.ref I) acc { cenv with scope := relabel scope env }) (fun r s' => match r with
          | .ok _ => W c A (assign (.Name y py) env acc) (fun _ s'' => CompEnd cenv.locals Q (.ok .next) s'') E s'
          | .error _ => False) s₄) E s₃) E s := by
  refine (lc_core (R := fun D C r s' => match r with
      | .ok _ => W c A (assign (.Name y py) env (.ref D)) (fun _ s'' => CompEnd C Q (.ok .next) s'') E s'
      | .error _ => False) F Wk hlive hn S h0 fr ap turn (fun C D oC mC ys s' hl' hF hC apC apD S' => ?_) hcell hkind hnm).mono (fun acc s₃ h => h.mono (fun cenv s₄ h => h.mono fun r s' q => ?_) fun _ _ q => q) fun _ _ q => q
  · refine g_name <| Mine.st i S' (fun s'' S'' => ?_) hL hk hi hl
    have e := (S'.N _ (.head _)).1
    have e' := (S''.N _ (.head _)).1
    obtain ⟨oL, es, ep, h1, r⟩ := hC
    have : oL = oC := by rw [show s'.heap.get? C = some oC from e] at h1; cases h1; rfl
    subst this
    exact ⟨mC, ⟨oL, es, ep, e', r⟩, fun h' hs => done D ys _ hl' hF apD (S''.uncomp apC hs)⟩
  · obtain ⟨D, rfl, q⟩ := q
    exact q
theorem x_lc {elt target iter : Expr} {ifs : List Expr} {gs : List Comprehension} {scope : Scope} {pos apos : Pos} {y : Str} {py : Pos} {rest : List Stmt} {Q : Flow → Shared → Prop} {E : Value → Shared → Prop} (cl : List (Str × Addr))
    (h : W c A (eval iter env) (fun x s₁ => W c A (pyIter x) (fun it s₂ => W c A (newList []) (fun acc s₃ => W c A (newFunctionEnv scope env.globals cl [] env.qual none .none (some env)) (fun cenv s₄ =>
        codeN (model PW c.w) A (.compStart (.ListComp elt (⟨target, iter, ifs, 0⟩ :: gs) scope pos) 0 it acc { cenv with scope := relabel scope env }) (fun r s' => match r with
          | .ok _ => W c A (assign (.Name y py) env acc) (fun _ s'' => CompEnd cenv.locals (fun s₅ => W c A (execs rest env) Q E s₅) (.ok .next) s'') E s'
          | .error _ => False) s₄) E s₃) E s₂) E s₁) E s)
    (hsw : swapsWith (.ListComp elt (⟨target, iter, ifs, 0⟩ :: gs) scope pos) (some (.Name y py)) apos.line env = pure true := by with_unfolding_all rfl)
    (hs : ∀ x, foldedSetIterable iter env x = pure x := by intro _; with_unfolding_all rfl) (hclos : closureFor scope env = pure cl := by with_unfolding_all rfl)
    (hkind : scope.kind = .function := by rfl) (hnames : ∀ x ∈ scope.names, x.2 = .local → scope.names.lookup x.1 = some .local := by decide) :
    W c A (execs (.Assign [.Name y py] (.ListComp elt (⟨target, iter, ifs, 0⟩ :: gs) scope pos) apos :: rest) env) Q E s := by
  refine x_cons ?_
  rw [exec_Assign_Name_used y py _ apos hsw]
  refine W.stand (W.then (P := fun _ s₅ => W c A (execs rest env) Q E s₅) ?_ fun _ s₅ q => W.pure q)
  show W c A ((comprehension (.ListComp elt (⟨target, iter, ifs, 0⟩ :: gs) scope pos) scope env _ (newList []) _ _ (some (assign (.Name y py) env))) >>= fun _ => pure ()) _ E s
  refine W.then (w_comprU (Q := fun s₅ => W c A (execs rest env) Q E s₅) rfl hs hclos hkind hnames h) fun _ s₅ q => W.pure q
end

/-! lists and tuples -/
abbrev tupOf (its : Array Value) : Obj := { cls := .type "tuple", data := .seq its }
section
variable {c : Cx} {A : Around} {s : Shared} {env : Env} {m : Str → Option Value} {news : List (Addr × Obj)} {E : Value → Shared → Prop} {t u : Tok} {Q : Value → Shared → Prop}
theorem l_item {l : Addr} {vs : List Value} {n i : Nat} {x : Value} {value slice : Expr} (hm : s.heap.get? l = some (listOf vs.toArray n)) (hx : vs[i]? = some x) (h : Q x s) (hz : i < 1000000 := by decide)
    (hs : subscripted slice false (.ref l) (.int (i : Int) u) = operate [.ref l, .int (i : Int) u] (getItem (.ref l) (.int (i : Int) u)) := by with_unfolding_all rfl) : W c A (subscriptTail value slice (.ref l) (.int (i : Int) u)) Q E s := by
  have hl : s.heap.IsList l vs.toArray := ⟨_, hm, rfl, _, rfl⟩
  exact W.mk (tail_any hl.typeIs slot_list_getitem.lookup (wpAny_getItem_list hl (Int.natCast_nonneg i) (by omega) (by simpa using hx) h) hs)
theorem u_item {l : Addr} {vs : List Value} {i : Nat} {x : Value} {value slice : Expr} (hm : s.heap.get? l = some (tupOf vs.toArray)) (hx : vs[i]? = some x) (h : Q x s) (hz : i < 1000000 := by decide)
    (hs : subscripted slice false (.ref l) (.int (i : Int) u) = operate [.ref l, .int (i : Int) u] (getItem (.ref l) (.int (i : Int) u)) := by with_unfolding_all rfl) : W c A (subscriptTail value slice (.ref l) (.int (i : Int) u)) Q E s := by
  have hlt : i < vs.length := (List.getElem?_eq_some_iff.mp hx).1
  refine W.mk (item_tupleT (l := vs) (j := i) ⟨_, hm, rfl, _, rfl⟩ (by omega) (by omega) ?_ hx h hs)
  unfold seqIndex?
  have h1 : ¬ ((i : Int) < 0) := by omega
  simp only [if_neg h1]
  rw [if_pos (by simp [hlt])]
  simp
theorem l_cut {l : Addr} {vs : List Value} {n : Nat} {vl vu : Value} {lo hi : Option Int} {value slice : Expr} (S : St c m news s) (hm : s.heap.get? l = some (listOf vs.toArray n)) (pl : IsPart vl lo) (pu : IsPart vu hi) (hz : vs.length ≤ 1000000)
    (h : ∀ D s', St c m ((D, listOf (cutL lo hi vs).toArray 0) :: news) s' → (∀ p ∈ news, p.1 ≠ D) → Q (.ref D) s')
    (hs : subscripted slice false (.ref l) (.ref s.heap.objs.size) = operate [.ref s.heap.objs.size, .ref l] (getItem (.ref l) (.ref s.heap.objs.size)) := by with_unfolding_all rfl) :
    W c A (subscriptTail value slice (.ref l) (.ref s.heap.objs.size)) Q E { s with heap := s.heap.push { cls := .type "slice", data := .fields #[vl, vu, .none] } } := by
  have hl : s.heap.IsList l vs.toArray := ⟨_, hm, rfl, _, rfl⟩
  refine W.mk (tail_any (Heap.IsList.typeIs (s := { s with heap := s.heap.push { cls := .type "slice", data := .fields #[vl, vu, .none] } }) (hl.push _)) slot_list_getitem.lookup
    (wpAny_getItem_list_slice (hl.push _) (Heap.IsSliceOf.new ..) pl pu .none (by simp) ?_ (by rw [sizeLine_eq, List.size_toArray]; omega)) hs)
  show Q (.ref (s.heap.push _).objs.size) _
  have e : slicePick vs.toArray lo hi none = (cutL lo hi vs).toArray := by rw [slicePick_plain]; simp only [List.size_toArray]; rfl
  rw [e]
  have S1 := S.push (o := { cls := .type "slice", data := .fields #[vl, vu, .none] })
  have S2 : St c m ((_, listOf (cutL lo hi vs).toArray 0) :: news) { s with heap := (s.heap.push { cls := .type "slice", data := .fields #[vl, vu, .none] }).push (listOf (cutL lo hi vs).toArray 0) } := ⟨S1.G, S1.F.push _, S1.N.push S1.F _, S1.gens, S1.os⟩
  exact h _ _ S2 fun p hp => by rw [Heap.size_push]; exact Nat.ne_of_lt (Nat.lt_succ_of_lt (Heap.lt_size (S.N p hp).1))
theorem l_add {l b : Addr} {vs ws : List Value} {n k : Nat} (S : St c m news s) (hl : s.heap.get? l = some (listOf vs.toArray n)) (hb : s.heap.get? b = some (listOf ws.toArray k)) (hz : vs.length + ws.length ≤ 1000000)
    (h : ∀ D s', St c m ((D, listOf (vs ++ ws).toArray 0) :: news) s' → (∀ p ∈ news, p.1 ≠ D) → Q (.ref D) s') : W c A (binaryOp .Add (.ref l) (.ref b)) Q E s :=
  W.mk (add_lists S.F S.N ⟨_, hl, rfl, _, rfl⟩ ⟨_, hb, rfl, _, rfl⟩ (fun h' F N => h _ _ ⟨S.G, F, N, S.gens, S.os⟩ fun p hp => Nat.ne_of_lt (Heap.lt_size (S.N p hp).1)) (by rw [sizeLine_eq]; omega))
theorem foldl_rep (v : Value) : ∀ (k : Nat) (a : Array Value), List.foldl (fun x1 x2 => x1 ++ x2) a (List.replicate k #[v]) = a ++ (List.replicate k v).toArray := by
  intro k
  induction k with
  | zero => intro a; simp
  | succ k ih => intro a; rw [List.replicate_succ, List.foldl_cons, ih, List.replicate_succ]; apply Array.ext'; simp
theorem l_mul1 {l : Addr} {v : Value} {n k : Nat} (S : St c m news s) (hl : s.heap.get? l = some (listOf [v].toArray n)) (hz : k ≤ 1000)
    (h : ∀ D s', St c m ((D, listOf (List.replicate k v).toArray 0) :: news) s' → (∀ p ∈ news, p.1 ≠ D) → Q (.ref D) s') : W c A (binaryOp .Mult (.ref l) (.int (k : Int) u)) Q E s :=
  W.mk (mul_list S.F S.N hl (by omega) (by omega) (by simp; omega) fun h' F N => by
    have e : (List.foldl (fun x1 x2 => x1 ++ x2) #[] (List.replicate (if ([v].toArray).isEmpty = true then 0 else (k : Int).toNat) [v].toArray)) = (List.replicate k v).toArray := by
      rw [if_neg (by simp), Int.toNat_natCast]
      have := foldl_rep v k #[]
      rw [show [v].toArray = #[v] from rfl, this]
      simp
    rw [e] at N
    exact h _ _ ⟨S.G, F, N, S.gens, S.os⟩ fun p hp => Nat.ne_of_lt (Heap.lt_size (S.N p hp).1))
/-- a list's iterator -/
theorem i_list {l : Addr} {vs : List Value} {n : Nat} (S : St c m news s) (hl : s.heap.get? l = some (listOf vs.toArray n)) (h : ∀ I o s', St c m ((I, o) :: news) s' → (∀ p ∈ news, p.1 ≠ I) → l ≠ I → (s'.heap.IsListIter I l 0 ∧ s'.heap.IsList l vs.toArray) → Q (.ref I) s') : W c A (pyIter (.ref l)) Q E s := by
  have hI : s.heap.IsList l vs.toArray := ⟨_, hl, rfl, _, rfl⟩
  exact W.mk (wpAny_pyIter_list hI (h _ _ _ ⟨S.G, S.F.push _, S.N.push S.F _, S.gens, S.os⟩ (fun p hp => Nat.ne_of_lt (Heap.lt_size (S.N p hp).1)) (Nat.ne_of_lt (Heap.lt_size hl)) ⟨⟨_, Heap.get?_push_size _ rfl, rfl, rfl⟩, hI.push _⟩))
theorem i_tuple {l : Addr} {vs : List Value} (S : St c m news s) (hl : s.heap.get? l = some (tupOf vs.toArray)) (h : ∀ I o s', St c m ((I, o) :: news) s' → (∀ p ∈ news, p.1 ≠ I) → l ≠ I → (s'.heap.IsTupleIter I l 0 ∧ s'.heap.IsTuple l vs.toArray) → Q (.ref I) s') : W c A (pyIter (.ref l)) Q E s := by
  have hI : s.heap.IsTuple l vs.toArray := ⟨_, hl, rfl, _, rfl⟩
  exact W.mk (wpAny_pyIter_tuple hI (h _ _ _ ⟨S.G, S.F.push _, S.N.push S.F _, S.gens, S.os⟩ (fun p hp => Nat.ne_of_lt (Heap.lt_size (S.N p hp).1)) (Nat.ne_of_lt (Heap.lt_size hl)) ⟨⟨_, Heap.get?_push_size _ rfl, rfl, rfl⟩, hI.push _⟩))
end
theorem walksL {w : World} {A : Around} (hA : A.handled = none) (I ax : Addr) (hne : ax ≠ I) (vs : List Value) :
    Walks PW w A I [I, ax] [I] vs.length (fun i v => vs[i]? = some v) (fun i h => h.IsListIter I ax i ∧ h.IsList ax vs.toArray) := by
  have W := Walks.list (prog := PW) (w := w) hA I ax hne vs.toArray
  rw [List.size_toArray] at W
  exact ⟨W.sub, W.frame, fun i s Q E hi st hQ => W.item i s Q E hi st fun v h' tk hP => hQ v h' tk (by simpa using hP), W.done, W.self⟩
section
variable {c : Cx} {A : Around} {s : Shared} {env : Env} {m : Str → Option Value} {nw : List (Addr × Obj)}
/-- a comprehension over a list -/
theorem lc_list {elt iter : Expr} {x : Str} {px : Pos} {scope : Scope} {pos : Pos} {cl : List (Str × Addr)} {l : Addr} {vs : List Value} {k : Nat} {Q : Value → Shared → Prop} {E : Value → Shared → Prop} (F : Nat → Value → Prop)
    (S : St c m nw s) (hl : s.heap.get? l = some (listOf vs.toArray k)) (hA : A.handled = none) (hw : (∃ o, c.g.get? l = some o) ∨ ∃ o, (l, o) ∈ nw) (hz : vs.length ≤ 1000000)
    (turn : ∀ C oL I oI D oD (i : Nat) v s₃, vs[i]? = some v → St (cC c C) (look [x] [some v]) ((D, oD) :: (I, oI) :: (c.L, oL) :: nw) s₃ →
      W (cC c C) A (eval elt (compEnvC scope cl C env)) (fun y s₄ => F i y ∧ St (cC c C) (look [x] [some v]) ((D, oD) :: (I, oI) :: (c.L, oL) :: nw) s₄) NoE s₃)
    (done : ∀ (D : Addr) (ys : List Value) (s' : Shared), ys.length = vs.length → (∀ (j : Nat) y, ys[j]? = some y → F j y) → (∀ p ∈ nw, p.1 ≠ D) → St c m ((D, listOf ys.toArray vs.length) :: nw) s' → Q (.ref D) s')
    (hcell : ∀ y ∈ scope.names, y.2 ≠ .cell := by decide) (hkind : scope.kind = .function := by rfl) (hnm : ∀ C, nmOk (compEnvC scope cl C env) x = true := by intro C; kernel_rfl) :
    W c A (pyIter (.ref l)) (fun it s₂ => W c A (newList []) (fun acc s₃ => W c A (newFunctionEnv scope env.globals cl [] env.qual none .none (some env)) (fun cenv s₄ =>
        codeN (model PW c.w) A (.compStart (.ListComp elt [⟨.Name x px, iter, [], 0⟩] scope pos) 0 it acc { cenv with scope := relabel scope env }) (CompEnd cenv.locals (Q acc)) s₄) E s₃) E s₂) E s := by
  refine i_list S hl fun I o s1 S1 hI hne hit => ?_
  refine lc_go F (walksL hA I l hne vs) (fun i h z => let ⟨o, ho, _⟩ := z.1; ⟨o, ho⟩) hz S1 hit (fun b hb hbI => ?_) hI (fun C oL oI D oD i v s3 hi hv S3 => turn C oL I oI D oD i v s3 hv S3)
    (fun D ys s' hlen hF hD S' => done D ys s' hlen hF hD S') hcell hkind hnm
  have : b = l := by simpa [hbI] using hb
  subst this
  exact hw
end
section
variable {c : Cx} {A : Around} {s : Shared} {env : Env} {ns : List Str} {us : List (Option Value)} {nw : List (Addr × Obj)}
theorem lc_listU {elt iter : Expr} {x : Str} {px : Pos} {scope : Scope} {pos : Pos} {cl : List (Str × Addr)} {l : Addr} {vs : List Value} {k : Nat} {y : Str} {py : Pos} {Q : Shared → Prop} {E : Value → Shared → Prop} (i : Nat) (F : Nat → Value → Prop)
    (S : St c (look ns us) nw s) (hl : s.heap.get? l = some (listOf vs.toArray k)) (hA : A.handled = none) (hw : (∃ o, c.g.get? l = some o) ∨ ∃ o, (l, o) ∈ nw) (hz : vs.length ≤ 1000000)
    (turn : ∀ C oL I oI D oD (i : Nat) v s₃, vs[i]? = some v → St (cC c C) (look [x] [some v]) ((D, oD) :: (I, oI) :: (c.L, oL) :: nw) s₃ →
      W (cC c C) A (eval elt (compEnvC scope cl C env)) (fun y s₄ => F i y ∧ St (cC c C) (look [x] [some v]) ((D, oD) :: (I, oI) :: (c.L, oL) :: nw) s₄) NoE s₃)
    (done : ∀ (D : Addr) (ys : List Value) (s' : Shared), ys.length = vs.length → (∀ (j : Nat) y, ys[j]? = some y → F j y) → (∀ p ∈ nw, p.1 ≠ D) → St c (look ns (us.set i (some (.ref D)))) ((D, listOf ys.toArray vs.length) :: nw) s' → Q s')
    (hcell : ∀ y ∈ scope.names, y.2 ≠ .cell := by decide) (hkind : scope.kind = .function := by rfl) (hnm : ∀ C, nmOk (compEnvC scope cl C env) x = true := by intro C; kernel_rfl)
    (hL : env.locals = c.L := by rfl) (hk : nmOk env y = true := by kernel_rfl) (hi : idxOk ns y i = true := by kernel_rfl) (hlen : ns.length = us.length := by rfl) :
    W c A (pyIter (.ref l)) (fun it s₂ => W c A (newList []) (fun acc s₃ => W c A (newFunctionEnv scope env.globals cl [] env.qual none .none (some env)) (fun cenv s₄ =>
        codeN (model PW c.w) A (.compStart (.ListComp elt [⟨.Name x px, iter, [], 0⟩] scope pos) 0 it acc { cenv with scope := relabel scope env }) (fun r s' => match r with
          | .ok _ => W c A (assign (.Name y py) env acc) (fun _ s'' => CompEnd cenv.locals Q (.ok .next) s'') E s'
          | .error _ => False) s₄) E s₃) E s₂) E s := by
  refine i_list S hl fun I o s1 S1 hI hne hit => ?_
  refine lc_goU i F (walksL hA I l hne vs) (fun i h z => let ⟨o, ho, _⟩ := z.1; ⟨o, ho⟩) hz S1 hit (fun b hb hbI => ?_) hI (fun C oL oI D oD i v s3 hi hv S3 => turn C oL I oI D oD i v s3 hv S3)
    (fun D ys s' hlen hF hD S' => done D ys s' hlen hF hD S') hcell hkind hnm hL hk hi hlen
  have : b = l := by simpa [hbI] using hb
  subst this
  exact hw
end
end Mine
end

section
set_option Elab.async false
set_option maxRecDepth 100000
set_option linter.unusedVariables false
open PySem PySem.W PyProof.Rows PySem.Calls PySem.Spec
namespace Mine
/-- made since g -/
abbrev New (g h : Heap) (a : Addr) (o : Obj) : Prop := h.get? a = some o ∧ g.get? a = none
theorem St.add1 {c : Cx} {m : Str → Option Value} {news : List (Addr × Obj)} {s s' : Shared} {a : Addr} {o : Obj} (S0 : St c m news s) (S : St c m news s') (h : New s.heap s'.heap a o) : St c m ((a, o) :: news) s' :=
  St.add (l := [(a, o)]) S0 S fun p hp => by rw [List.mem_singleton.mp hp]; exact h
theorem St.new {c : Cx} {m : Str → Option Value} {news : List (Addr × Obj)} {s : Shared} (S : St c m news s) {a : Addr} {o : Obj} (h : (a, o) ∈ news) : New c.g s.heap a o := ⟨(S.N _ h).1, (S.N _ h).2.2⟩
/-- the ten marks: private, its letters, public, its letters -/
def marks : List (Nat × List Nat × Nat × List Nat) :=
  [(76066276, [120, 112, 114, 118], 76067358, [120, 112, 117, 98]),
   (77428856, [121, 112, 114, 118], 77429938, [121, 112, 117, 98]),
   (78791436, [122, 112, 114, 118], 78792518, [122, 112, 117, 98]),
   (43364357, [89, 112, 114, 118], 43365439, [89, 112, 117, 98]),
   (44726937, [90, 112, 114, 118], 44728019, [90, 112, 117, 98]),
   (70615956, [116, 112, 114, 118], 70617039, [116, 112, 117, 98]),
   (71978536, [117, 112, 114, 118], 71979618, [117, 112, 117, 98]),
   (73341116, [118, 112, 114, 118], 73342198, [118, 112, 117, 98]),
   (37914037, [85, 112, 114, 118], 37915119, [85, 112, 117, 98]),
   (39276616, [86, 112, 114, 118], 39277699, [86, 112, 117, 98])]
abbrev rowV (r : Nat × List Nat × Nat × List Nat) (ta tb tc td : Tok) : List Value := [.int (r.1 : Int) ta, .str (tx r.2.1) tb, .int (r.2.2.1 : Int) tc, .str (tx r.2.2.2) td]
/-- the i-th row stands -/
def RowAt (g h : Heap) (v : Value) (r : Nat × List Nat × Nat × List Nat) : Prop := ∃ t ta tb tc td, v = .ref t ∧ New g h t (tupOf (rowV r ta tb tc td).toArray)
theorem C_marks {w mg mb A s} (G : Gl w mg mb s.heap) (R : Rm A 5) : Gives w A (.ref 1449) [] [] (fun v s' => ∃ (l : Addr) (its : List Value), v = .ref l ∧ New s.heap s'.heap l (listOf its.toArray 0) ∧ ∀ (i : Nat) r, marks[i]? = some r → ∃ x, its[i]? = some x ∧ RowAt s.heap s'.heap x r) s := by
  refine enterW [] [] [] G R.less lk1449 (defBody (topSt 51)) rfl cd1449 fun L s S => ?_
  refine open_body rfl ?_
  refine x_ret <| e_list ?_
  refine s_more <| e_tup <| s_more <| c_nat 76066276 S fun a0 s S => s_more <| c_tx [120, 112, 114, 118] S fun b0 s S => s_more <| c_nat 76067358 S fun c0 s S => s_more <| c_tx [120, 112, 117, 98] S fun d0 s S => s_nil <| r_tuple S fun l0 s S => ?_
  refine s_more <| e_tup <| s_more <| c_nat 77428856 S fun a1 s S => s_more <| c_tx [121, 112, 114, 118] S fun b1 s S => s_more <| c_nat 77429938 S fun c1 s S => s_more <| c_tx [121, 112, 117, 98] S fun d1 s S => s_nil <| r_tuple S fun l1 s S => ?_
  refine s_more <| e_tup <| s_more <| c_nat 78791436 S fun a2 s S => s_more <| c_tx [122, 112, 114, 118] S fun b2 s S => s_more <| c_nat 78792518 S fun c2 s S => s_more <| c_tx [122, 112, 117, 98] S fun d2 s S => s_nil <| r_tuple S fun l2 s S => ?_
  refine s_more <| e_tup <| s_more <| c_nat 43364357 S fun a3 s S => s_more <| c_tx [89, 112, 114, 118] S fun b3 s S => s_more <| c_nat 43365439 S fun c3 s S => s_more <| c_tx [89, 112, 117, 98] S fun d3 s S => s_nil <| r_tuple S fun l3 s S => ?_
  refine s_more <| e_tup <| s_more <| c_nat 44726937 S fun a4 s S => s_more <| c_tx [90, 112, 114, 118] S fun b4 s S => s_more <| c_nat 44728019 S fun c4 s S => s_more <| c_tx [90, 112, 117, 98] S fun d4 s S => s_nil <| r_tuple S fun l4 s S => ?_
  refine s_more <| e_tup <| s_more <| c_nat 70615956 S fun a5 s S => s_more <| c_tx [116, 112, 114, 118] S fun b5 s S => s_more <| c_nat 70617039 S fun c5 s S => s_more <| c_tx [116, 112, 117, 98] S fun d5 s S => s_nil <| r_tuple S fun l5 s S => ?_
  refine s_more <| e_tup <| s_more <| c_nat 71978536 S fun a6 s S => s_more <| c_tx [117, 112, 114, 118] S fun b6 s S => s_more <| c_nat 71979618 S fun c6 s S => s_more <| c_tx [117, 112, 117, 98] S fun d6 s S => s_nil <| r_tuple S fun l6 s S => ?_
  refine s_more <| e_tup <| s_more <| c_nat 73341116 S fun a7 s S => s_more <| c_tx [118, 112, 114, 118] S fun b7 s S => s_more <| c_nat 73342198 S fun c7 s S => s_more <| c_tx [118, 112, 117, 98] S fun d7 s S => s_nil <| r_tuple S fun l7 s S => ?_
  refine s_more <| e_tup <| s_more <| c_nat 37914037 S fun a8 s S => s_more <| c_tx [85, 112, 114, 118] S fun b8 s S => s_more <| c_nat 37915119 S fun c8 s S => s_more <| c_tx [85, 112, 117, 98] S fun d8 s S => s_nil <| r_tuple S fun l8 s S => ?_
  refine s_more <| e_tup <| s_more <| c_nat 39276616 S fun a9 s S => s_more <| c_tx [86, 112, 114, 118] S fun b9 s S => s_more <| c_nat 39277699 S fun c9 s S => s_more <| c_tx [86, 112, 117, 98] S fun d9 s S => s_nil <| r_tuple S fun l9 s S => ?_
  refine s_nil <| r_list S fun l s S => ⟨S.done, l, _, rfl, S.new (.head _), fun i r h => ?_⟩
  match i, h with
  | 0, h => cases h; exact ⟨_, rfl, l0, a0, b0, c0, d0, rfl, S.new (.tail _ (.tail _ (.tail _ (.tail _ (.tail _ (.tail _ (.tail _ (.tail _ (.tail _ (.tail _ (.head _)))))))))))⟩
  | 1, h => cases h; exact ⟨_, rfl, l1, a1, b1, c1, d1, rfl, S.new (.tail _ (.tail _ (.tail _ (.tail _ (.tail _ (.tail _ (.tail _ (.tail _ (.tail _ (.head _))))))))))⟩
  | 2, h => cases h; exact ⟨_, rfl, l2, a2, b2, c2, d2, rfl, S.new (.tail _ (.tail _ (.tail _ (.tail _ (.tail _ (.tail _ (.tail _ (.tail _ (.head _)))))))))⟩
  | 3, h => cases h; exact ⟨_, rfl, l3, a3, b3, c3, d3, rfl, S.new (.tail _ (.tail _ (.tail _ (.tail _ (.tail _ (.tail _ (.tail _ (.head _))))))))⟩
  | 4, h => cases h; exact ⟨_, rfl, l4, a4, b4, c4, d4, rfl, S.new (.tail _ (.tail _ (.tail _ (.tail _ (.tail _ (.tail _ (.head _)))))))⟩
  | 5, h => cases h; exact ⟨_, rfl, l5, a5, b5, c5, d5, rfl, S.new (.tail _ (.tail _ (.tail _ (.tail _ (.tail _ (.head _))))))⟩
  | 6, h => cases h; exact ⟨_, rfl, l6, a6, b6, c6, d6, rfl, S.new (.tail _ (.tail _ (.tail _ (.tail _ (.head _)))))⟩
  | 7, h => cases h; exact ⟨_, rfl, l7, a7, b7, c7, d7, rfl, S.new (.tail _ (.tail _ (.tail _ (.head _))))⟩
  | 8, h => cases h; exact ⟨_, rfl, l8, a8, b8, c8, d8, rfl, S.new (.tail _ (.tail _ (.head _)))⟩
  | 9, h => cases h; exact ⟨_, rfl, l9, a9, b9, c9, d9, rfl, S.new (.tail _ (.head _))⟩
  | i + 10, h => simp [marks] at h
end Mine
end

section
set_option Elab.async false
set_option maxRecDepth 100000
set_option linter.unusedVariables false
open PySem PySem.W PyProof.Rows PySem.Calls PySem.Spec
namespace Mine
section
variable {c : Cx} {m : Str → Option Value} {A : Around} {E : Value → Shared → Prop} {s : Shared} {news : List (Addr × Obj)} {env : Env} {t u : Tok} {Q : Value → Shared → Prop}
theorem p_fdivI {x : Int} {b : Nat} (S : St c m news s) (hb : b ≠ 0) (hs : b < 1073741824) (h : ∀ t s', St c m news s' → Q (.int (x / (b : Int)) t) s') : W c A (binaryOp .FloorDiv (.int x t) (.int (b : Int) u)) Q E s :=
  W.mk (PyProof.Rows.floordiv_int (by omega) (by rw [Int.fdiv_eq_ediv_of_nonneg _ (Int.natCast_nonneg b)]; exact h _ _ (S.at rfl rfl rfl)) (.inl (PyProof.noPylong_small (by rw [Int.natAbs_natCast]; exact hs))))
/-- both arms to one -/
theorem e_ifS {test body orelse : Expr} {pos : Pos} (S : St c m news s) (P : Value → Prop)
    (h : W c A (PySem.isTrue test env (eval test env)) (fun b s₂ => if b = true then W c A (eval body env) (fun v s' => P v ∧ St c m news s') E s₂ else W c A (eval orelse env) (fun v s' => P v ∧ St c m news s') E s₂) E s)
    (k : ∀ v s', P v → St c m news s' → Q v s') : W c A (eval (.IfExp test body orelse pos) env) Q E s :=
  (e_if h).mono (fun v s' q => k v s' q.1 q.2) fun _ _ q => q
end
def hard (x : Int) (d : Nat) : Nat := if (x / (d : Int) % ((4 : Nat) : Int)).toNat < 3 then 2147483648 else 0
def firsts : List Nat := [44, 49, 84, 48, 48, 86]
def pathN (n0 n1 n2 n3 n4 : Int) : List Nat :=
  [firsts.getD (n0 % ((6 : Nat) : Int)).toNat 0 + hard n0 6, (n1 % ((3 : Nat) : Int)).toNat + hard n1 3, (n3 % ((4294967296 : Nat) : Int)).toNat, (n2 % ((4 : Nat) : Int)).toNat + hard n2 4, (n3 / ((5 : Nat) : Int) % ((100 : Nat) : Int)).toNat].take (1 + (n4 % ((5 : Nat) : Int)).toNat)
theorem firsts_at {a b d e f g : Tok} {i : Nat} (h : i < 6) : ∃ t, ([.int ((44 : Nat) : Int) a, .int ((49 : Nat) : Int) b, .int ((84 : Nat) : Int) d, .int ((48 : Nat) : Int) e, .int ((48 : Nat) : Int) f, .int ((86 : Nat) : Int) g] : List Value)[i]? = some (.int ((firsts.getD i 0 : Nat) : Int) t) := by
  match i, h with
  | 0, _ => exact ⟨_, rfl⟩
  | 1, _ => exact ⟨_, rfl⟩
  | 2, _ => exact ⟨_, rfl⟩
  | 3, _ => exact ⟨_, rfl⟩
  | 4, _ => exact ⟨_, rfl⟩
  | 5, _ => exact ⟨_, rfl⟩
theorem modlt (x : Int) {b : Nat} (hb : b ≠ 0) : (x % (b : Int)).toNat < b := by
  have := Int.emod_lt_of_pos x (show (0 : Int) < b by omega)
  have := Int.emod_nonneg x (show (b : Int) ≠ 0 by omega)
  omega
theorem C_path {w mg mb A s l k} {n0 n1 n2 n3 n4 : Int} {t0 t1 t2 t3 t4 : Tok} (G : Gl w mg mb s.heap) (R : Rm A 5) (hl : s.heap.get? l = some (listOf [.int n0 t0, .int n1 t1, .int n2 t2, .int n3 t3, .int n4 t4].toArray k)) :
    Gives w A (.ref 1485) [.ref l] [] (fun v s' => ∃ (p : Addr) (its : List Value), v = .ref p ∧ New s.heap s'.heap p (listOf its.toArray 0) ∧ IntsAre its ((pathN n0 n1 n2 n3 n4).map fun (k : Nat) => (k : Int))) s := by
  refine enterW ["numbers"] ["first", "second", "fourth"] [.ref l] G R.less lk1485 (defBody (topSt 57)) rfl cd1485 fun L s S => ?_
  refine open_body rfl ?_
  refine x_asg <| e_bin <| e_sub <| e_list <| s_more <| c_nat 44 S fun _ s S => s_more <| c_nat 49 S fun _ s S => s_more <| c_nat 84 S fun _ s S => s_more <| c_nat 48 S fun _ s S => s_more <| c_nat 48 S fun _ s S => s_more <| c_nat 86 S fun _ s S => s_nil <| r_list S fun q s S => ?_
  refine e_bin <| e_sub <| ld 0 S <| c_nat 0 S fun u s S => ?_
  refine l_item (S.F.keep _ _ hl) rfl <| c_nat 6 S fun u s S => p_modI S (by decide) fun u s S => ?_
  obtain ⟨tk, hk⟩ := firsts_at (modlt n0 (b := 6) (by decide))
  have b6 := modlt n0 (b := 6) (by decide)
  refine l_item (S.N _ (.head _)).1 hk (hz := by omega) ?_
  have S := S.drop
  refine e_ifS S (fun v => ∃ t, v = .int (hard n0 6 : Nat) t) ?_ fun v s h S => ?_
  · refine t_cmp <| e_bin <| e_bin <| e_sub <| ld 0 S <| c_nat 0 S fun u s S => ?_
    refine l_item (S.F.keep _ _ hl) rfl <| c_nat 6 S fun u s S => p_fdivI S (by decide) (by decide) fun u s S => c_nat 4 S fun u s S => p_modI S (by decide) fun u s S => c_nat 3 S fun u s S => p_lt <| t_bool <| ite_two (fun h => c_nat 2147483648 S fun u s S => ⟨⟨u, ?_⟩, S⟩) fun h => c_nat 0 S fun u s S => ⟨⟨u, ?_⟩, S⟩
    · unfold hard; rw [if_pos (of_decide_eq_true h)]
    · unfold hard; rw [if_neg (by simpa using h)]
  obtain ⟨th, rfl⟩ := h
  refine p_add S fun u s S => st 1 S fun s S => ?_
  refine x_asg <| e_bin <| e_bin <| e_sub <| ld 0 S <| c_nat 1 S fun u s S => ?_
  refine l_item (S.F.keep _ _ hl) rfl <| c_nat 3 S fun u s S => p_modI S (by decide) fun u s S => ?_
  refine e_ifS S (fun v => ∃ t, v = .int (hard n1 3 : Nat) t) ?_ fun v s h S => ?_
  · refine t_cmp <| e_bin <| e_bin <| e_sub <| ld 0 S <| c_nat 1 S fun u s S => ?_
    refine l_item (S.F.keep _ _ hl) rfl <| c_nat 3 S fun u s S => p_fdivI S (by decide) (by decide) fun u s S => c_nat 4 S fun u s S => p_modI S (by decide) fun u s S => c_nat 3 S fun u s S => p_lt <| t_bool <| ite_two (fun h => c_nat 2147483648 S fun u s S => ⟨⟨u, ?_⟩, S⟩) fun h => c_nat 0 S fun u s S => ⟨⟨u, ?_⟩, S⟩
    · unfold hard; rw [if_pos (of_decide_eq_true h)]
    · unfold hard; rw [if_neg (by simpa using h)]
  obtain ⟨th, rfl⟩ := h
  refine p_add S fun u s S => st 2 S fun s S => ?_
  refine x_asg <| e_bin <| e_bin <| e_sub <| ld 0 S <| c_nat 2 S fun u s S => ?_
  refine l_item (S.F.keep _ _ hl) rfl <| c_nat 4 S fun u s S => p_modI S (by decide) fun u s S => ?_
  refine e_ifS S (fun v => ∃ t, v = .int (hard n2 4 : Nat) t) ?_ fun v s h S => ?_
  · refine t_cmp <| e_bin <| e_bin <| e_sub <| ld 0 S <| c_nat 2 S fun u s S => ?_
    refine l_item (S.F.keep _ _ hl) rfl <| c_nat 4 S fun u s S => p_fdivI S (by decide) (by decide) fun u s S => c_nat 4 S fun u s S => p_modI S (by decide) fun u s S => c_nat 3 S fun u s S => p_lt <| t_bool <| ite_two (fun h => c_nat 2147483648 S fun u s S => ⟨⟨u, ?_⟩, S⟩) fun h => c_nat 0 S fun u s S => ⟨⟨u, ?_⟩, S⟩
    · unfold hard; rw [if_pos (of_decide_eq_true h)]
    · unfold hard; rw [if_neg (by simpa using h)]
  obtain ⟨th, rfl⟩ := h
  refine p_add S fun u s S => st 3 S fun s S => ?_
  refine x_ret <| e_sub <| e_list <| s_more <| ld 1 S <| s_more <| ld 2 S <| s_more <| e_bin <| e_sub <| ld 0 S <| c_nat 3 S fun u s S => ?_
  refine l_item (S.F.keep _ _ hl) rfl <| c_nat 4294967296 S fun u s S => p_modI S (by decide) fun u s S => ?_
  refine s_more <| ld 3 S <| s_more <| e_bin <| e_bin <| e_sub <| ld 0 S <| c_nat 3 S fun u s S => ?_
  refine l_item (S.F.keep _ _ hl) rfl <| c_nat 5 S fun u s S => p_fdivI S (by decide) (by decide) fun u s S => c_nat 100 S fun u s S => p_modI S (by decide) fun u s S => ?_
  refine s_nil <| r_list S fun q s S => ?_
  refine e_cut <| pt_none <| pt_some <| e_bin <| c_nat 1 S fun u s S => e_bin <| e_sub <| ld 0 S <| c_nat 4 S fun u s S => ?_
  refine l_item (S.F.keep _ _ hl) rfl <| c_nat 5 S fun u s S => p_modI S (by decide) fun u s S => p_add S fun u s S => ?_
  refine l_cut S (S.N _ (.head _)).1 .none (.int _ _) (Nat.le_of_ble_eq_true rfl) fun D s S _ => ⟨S.done, D, _, rfl, S.new (.head _), ?_⟩
  rw [cut_take]
  unfold pathN
  rw [List.map_take]
  exact IntsAre.take (.cons _ _ (.cons _ _ (.cons _ _ (.cons _ _ (.cons _ _ .nil))))) _
end Mine
end

section
set_option Elab.async false
set_option maxRecDepth 100000
set_option linter.unusedVariables false
open PySem PySem.W PyProof.Rows PySem.Calls PySem.Spec
namespace Mine
section
variable {prog : Program} {w : World} {A : Around} {E : Value → Shared → Prop} {s : Shared}
theorem draw_list {it t : Addr} {items : Array Value} (hne : t ≠ it) : ∀ (n i : Nat) (s : Shared) (Q : List Value → Shared → Prop), s.heap.IsListIter it t i → s.heap.IsList t items → i + n ≤ items.size →
    (∀ h', h'.IsListIter it t (i + n) → Heap.SameBut it s.heap h' → Q ((items.toList.drop i).take n) { s with heap := h' }) → wpAny (model prog w) A (draw (.ref it) n) Q E s
  | 0, i, s, Q, hit, _, _, hQ => by
    show wpAny _ _ (pure []) Q E s
    exact wpAny_pure (by simpa using hQ s.heap hit (Heap.SameBut.refl ..))
  | n + 1, i, s, Q, hit, ht, hle, hQ => by
    have hlt : i < items.size := by omega
    show wpAny _ _ (pyNext (.ref it) >>= _) Q E s
    refine wpAny_bind (wpAny_pyNext_list_item hit ht (x := items[i]) (by simp [hlt]) fun h₁ hit₁ hs₁ => ?_)
    have ht1 : h₁.IsList t items := let ⟨o, ho, r⟩ := ht; ⟨o, (hs₁.2 _ hne).trans ho, r⟩
    refine wpAny_bind (wpAny_holding (draw_list hne n (i + 1) _ _ hit₁ ht1 (by omega) fun h₂ hit₂ hs₂ => wpAny_pure ?_))
    have hd : items.toList.drop i = items[i] :: items.toList.drop (i + 1) := by simp [List.drop_eq_getElem_cons, hlt]
    have := hQ h₂ (by rw [show i + (n + 1) = i + 1 + n by omega]; exact hit₂) (hs₁.trans hs₂)
    rw [hd, List.take_succ_cons] at this
    exact this
theorem unpackItems_list {t : Addr} {items : Array Value} {Q : List Value → Shared → Prop} (hh : A.handled = none) (ht : s.heap.IsList t items)
    (hQ : ∀ h', Heap.ExtBut s.heap.objs.size s.heap h' → Q items.toList { s with heap := h' }) : wpAny (model prog w) A (unpackItems (.ref t) items.size none) Q E s := by
  have hlt : t ≠ s.heap.objs.size := by obtain ⟨o, ho, _⟩ := ht; exact Nat.ne_of_lt (Heap.lt_size ho)
  unfold unpackItems
  refine wpAny_bind ?_
  · unfold notIterableAtAll
    refine wpAny_bind (wpAny_specialOf ht.typeIs slot_list_iter.lookup ?_)
    refine wpAny_pure ?_
    simp only [Bool.false_eq_true, if_false]
    refine wpAny_bind (wpAny_holding (wpAny_pyIter_list ht ?_))
    refine wpAny_bind (wpAny_holding (draw_list hlt items.size 0 _ _ ⟨_, Heap.get?_push_size _ rfl, rfl, rfl⟩ (ht.push _) (by omega) fun h₁ hit₁ hs₁ => ?_))
    have hall : List.take items.size (List.drop 0 items.toList) = items.toList := by
      rw [List.drop_zero]; exact List.take_of_length_le (by simp)
    rw [hall]
    rw [if_neg (by simp)]
    have ht₁ : h₁.IsList t items := let ⟨o, ho, r⟩ := ht.push _; ⟨o, (hs₁.2 _ hlt).trans ho, r⟩
    refine wpAny_bind (wpAny_holding (wpAny_pyNext_list_end hh hit₁ ht₁ (by simp) fun h₂ he₂ => ?_))
    simp only [Option.isSome_none, Bool.false_eq_true, if_false]
    refine wpAny_pure (hQ h₂ fun b o hb e => he₂ b o hb (hs₁.extBut b o hb (Heap.get?_push_of_some _ e)))
end
section
variable {c : Cx} {A : Around} {s : Shared} {env : Env} {news : List (Addr × Obj)} {E : Value → Shared → Prop}
theorem g_tupL {elts : List Expr} {k : Nat} {tpos : Pos} {t : Addr} {items : List Value} {n : Nat} {m : Str → Option Value} {Q : Unit → Shared → Prop} (S : St c m news s) (hA : A.handled = none) (hm : s.heap.get? t = some (listOf items.toArray n))
    (h : ∀ s', St c m news s' → W c A (assignInOrder ((assignEach elts env).map (·.2)) items) Q E s')
    (hn : (assignEach elts env).length = items.length := by rfl) (hstar : (assignEach elts env).findIdx? (·.1) = none := by rfl) :
    W c A (assign (.Tuple elts k tpos) env (.ref t)) Q E s := by
  rw [PyProof.Rows.assign_Tuple]
  refine W.stand ?_
  unfold unpack
  rw [hn, hstar]
  have ht : s.heap.IsList t items.toArray := ⟨_, hm, rfl, _, rfl⟩
  have e : items.length = items.toArray.size := by rw [List.size_toArray]
  rw [e]
  exact W.bind (W.hold (W.mk (unpackItems_list hA ht fun h' he => h _ (S.grow fun b o e => he b o (Nat.ne_of_lt (Heap.lt_size e)) e))))
end
/-- the parts of a key -/
structure Part where
  kind : Nat
  depth : Nat
  finger : Nat
  number : Nat
  chain : Nat
  secret : Nat
structure Part.Ok (p : Part) : Prop where
  kind : p.kind < 20
  depth : p.depth < 256
  finger : p.finger < 256 ^ 4
  number : p.number < 256 ^ 4
  chain : p.chain < 256 ^ 32
  pos : 0 < p.secret
  secret : p.secret < prime
def Part.row (p : Part) : Nat × List Nat × Nat × List Nat := marks.getD (p.kind / 2) (0, [], 0, [])
def Part.prv (p : Part) : Bool := decide (p.kind % 2 = 0)
def Part.rest (p : Part) : List UInt8 := [UInt8.ofNat p.depth] ++ toBE 4 p.finger ++ toBE 4 p.number ++ toBE 32 p.chain
def Part.ends (p : Part) : List (List UInt8) := [[0] ++ toBE 32 p.secret, ser (pnt p.secret)]
def Part.mark (p : Part) : Nat := if p.prv = true then p.row.1 else p.row.2.2.1
def Part.body (p : Part) (b : Bool) : List UInt8 := if b = true then toBE 32 p.secret else ser (pnt p.secret)
def Part.hd (p : Part) : Hd := ⟨p.prv, toBE 4 p.mark, toBE 32 p.chain, p.depth, toBE 4 p.finger, p.number, p.body p.prv⟩
/-- the public key's, of its sibling mark -/
def Part.pub (p : Part) : Hd := ⟨false, toBE 4 p.row.2.2.1, toBE 32 p.chain, p.depth, toBE 4 p.finger, p.number, ser (pnt p.secret)⟩
theorem Part.row_at {p : Part} (ok : p.Ok) : marks[p.kind / 2]? = some p.row := by
  have h : p.kind / 2 < marks.length := by have := ok.kind; show p.kind / 2 < 10; omega
  unfold Part.row
  rw [List.getElem?_eq_getElem h]
  congr 1
  simp [h]
theorem Part.octs {p : Part} : p.hd.octs = toBE 4 p.mark ++ p.rest ++ (if p.prv = true then [0] ++ toBE 32 p.secret else ser (pnt p.secret)) := by
  unfold Hd.octs Hd.head Part.hd Part.rest Part.body
  cases p.prv <;> simp
theorem Part.pub_octs {p : Part} : p.pub.octs = toBE 4 p.row.2.2.1 ++ p.rest ++ ser (pnt p.secret) := by
  unfold Hd.octs Hd.head Part.pub Part.rest
  simp
theorem marks_ok : ∀ r ∈ marks, r.1 < 256 ^ 4 ∧ r.2.2.1 < 256 ^ 4 ∧ (toBE 4 r.1).getD 0 0 ≠ 0 ∧ (toBE 4 r.2.2.1).getD 0 0 ≠ 0 ∧ (toBE 4 r.1, toBE 4 r.2.2.1) ∈ pairs := by decide +kernel
theorem Part.row_mem {p : Part} (ok : p.Ok) : p.row ∈ marks := List.mem_of_getElem? (p.row_at ok)
theorem Part.hd_ok {p : Part} (ok : p.Ok) : p.hd.Ok := by
  have m := marks_ok _ (p.row_mem ok)
  refine ⟨toBE_len _ _, toBE_len _ _, toBE_len _ _, ok.depth, ok.number, ?_⟩
  show (toBE 4 p.mark).getD 0 0 ≠ 0
  unfold Part.mark
  split
  · exact m.2.2.1
  · exact m.2.2.2.1
theorem Part.pub_ok {p : Part} (ok : p.Ok) : p.pub.Ok := by
  have m := marks_ok _ (p.row_mem ok)
  exact ⟨toBE_len _ _, toBE_len _ _, toBE_len _ _, ok.depth, ok.number, m.2.2.2.1⟩
theorem Part.pair {p : Part} (ok : p.Ok) (h : p.prv = true) : (p.hd.ver, p.pub.ver) ∈ pairs := by
  have m := marks_ok _ (p.row_mem ok)
  show (toBE 4 p.mark, _) ∈ _
  unfold Part.mark
  rw [if_pos h]
  exact m.2.2.2.2
theorem Part.sib {p : Part} (ok : p.Ok) (h : p.prv = true) : p.hd.sibling p.pub.ver = p.pub := by
  unfold Hd.sibling Part.hd Part.pub Part.body
  rw [h]
  simp only [if_true]
  rw [beN_to (Nat.lt_trans ok.secret prime_lt)]
end Mine
end

section
set_option Elab.async false
set_option maxRecDepth 100000
set_option linter.unusedVariables false
open PySem PySem.W PyProof.Rows PySem.Calls PySem.Spec
namespace Mine
theorem two_ref (p : Part) (a b : Addr) : ([.ref a, .ref b] : List Value)[p.kind % 2]? = some (.ref (if p.prv = true then a else b)) := by
  unfold Part.prv
  rcases Nat.mod_two_eq_zero_or_one p.kind with h | h <;> rw [h] <;> rfl
theorem two_oct (p : Part) (a b : List UInt8) (t u : Tok) : ∃ v, ([.bytes a.toArray t, .bytes b.toArray u] : List Value)[p.kind % 2]? = some (.bytes (if p.prv = true then a else b).toArray v) := by
  unfold Part.prv
  rcases Nat.mod_two_eq_zero_or_one p.kind with h | h <;> rw [h]
  · exact ⟨t, rfl⟩
  · exact ⟨u, rfl⟩
theorem row_mark (p : Part) (ta tb tc td : Tok) : ∃ v, (rowV p.row ta tb tc td)[2 * (p.kind % 2)]? = some (.int (p.mark : Nat) v) := by
  unfold Part.mark Part.prv
  rcases Nat.mod_two_eq_zero_or_one p.kind with h | h <;> rw [h]
  · exact ⟨ta, rfl⟩
  · exact ⟨tc, rfl⟩
theorem Part.mark_lt {p : Part} (ok : p.Ok) : p.mark < 256 ^ 4 := by
  have m := marks_ok _ (p.row_mem ok)
  unfold Part.mark
  split
  · exact m.1
  · exact m.2.1
theorem key_sel {h : Heap} {p : Part} {a b : Addr} (ka : KeyOb h a true (p.body true)) (kb : KeyOb h b false (p.body false)) : KeyOb h (if p.prv = true then a else b) p.prv (p.body p.prv) ∧ KeyOb h (if p.prv = true then b else a) (!p.prv) (p.body (!p.prv)) := by
  cases p.prv
  · exact ⟨kb, ka⟩
  · exact ⟨ka, kb⟩
theorem Part.rest_len (p : Part) : p.rest.length = 41 := by unfold Part.rest; simp [toBE_len]
theorem St.add2 {c : Cx} {m : Str → Option Value} {news : List (Addr × Obj)} {s s' : Shared} {a b : Addr} {o o' : Obj} (S0 : St c m news s) (S : St c m news s') (h : New s.heap s'.heap a o) (h' : New s.heap s'.heap b o') : St c m ((a, o) :: (b, o') :: news) s' :=
  St.add (l := [(a, o), (b, o')]) S0 S fun p hp => by
    rcases List.mem_cons.mp hp with rfl | hp
    · exact h
    · rw [List.mem_singleton.mp hp]; exact h'
set_option maxHeartbeats 2000000 in
theorem C_made {w mg mb A s0 l n} {p : Part} {t0 t1 t2 t3 t4 t5 : Tok} (G : Gl w mg mb s0.heap) (R : Rm A 60) (ok : p.Ok) (good : p.hd.Good)
    (hl : s0.heap.get? l = some (listOf [.int (p.kind : Nat) t0, .int (p.depth : Nat) t1, .int (p.finger : Nat) t2, .int (p.number : Nat) t3, .int (p.chain : Nat) t4, .int (p.secret : Nat) t5].toArray n)) :
    Gives w A (.ref 1457) [.ref l] [] (fun v s' => ∃ (r x y : Addr) (u v' : Tok), v = .ref r ∧ New s0.heap s'.heap r (tupOf [.ref x, .bytes p.hd.octs.toArray u, .ref y, .bytes p.pub.octs.toArray v'].toArray) ∧ HdOb (newOnly s0.heap s'.heap) x p.hd ∧ KeyOb (newOnly s0.heap s'.heap) y (!p.prv) (p.body (!p.prv))) s0 := by
  have hsz : p.secret < 256 ^ 32 := Nat.lt_trans ok.secret prime_lt
  have hb : beN (toBE 32 p.secret) = p.secret := beN_to hsz
  refine enterW ["parts"] ["kind", "depth", "finger", "number", "chain", "secret", "private", "public", "row", "rest", "ends", "mark", "key"] [.ref l] G R.less lk1457 (defBody (topSt 53)) rfl cd1457 fun L s S => ?_
  refine open_body rfl ?_
  refine x_tup <| ld 0 S ?_
  refine g_tupL S R.calm (S.F.keep _ _ hl) fun s S => ?_
  refine o_cons <| g_name <| st 1 S fun s S => o_cons <| g_name <| st 2 S fun s S => o_cons <| g_name <| st 3 S fun s S => o_cons <| g_name <| st 4 S fun s S => o_cons <| g_name <| st 5 S fun s S => o_cons <| g_name <| st 6 S fun s S => o_nil ?_
  refine x_asg <| e_call <| gl S g_PrivateKey <| cw_cls 29 S <| s_more <| e_meth <| ld 6 S <| g_to <| cw_bt' <| s_more <| c_nat 32 S fun u s S => s_more <| c_str S fun u s S => s_nil ?_
  refine r_to S (by decide) hsz fun u s S => s_nil ⟨⟨_, _, S⟩, ?_⟩
  have S0 := S
  refine use S (C_prv S.gl R.deeper.less (toBE_len _ _) (by rw [hb]; exact ⟨ok.pos, ok.secret⟩)) fun v s S x P => ?_
  obtain ⟨x1, rfl, O⟩ := P
  obtain ⟨d1, es1, n1, S, en1⟩ := S0.addOb S O
  refine st 7 S fun s S => ?_
  refine x_asg <| e_meth <| ld 7 S <| a_fn 28 S (S.ob (by repeat (first | exact List.Mem.head _ | apply List.Mem.tail)) (by repeat (first | exact List.Mem.head _ | apply List.Mem.tail)) en1) <| cw_fn0 lk1141 S ?_
  have S0 := S
  refine use S (C_getpub S.gl R.deeper.less (toBE_len _ _) (S.ob (by repeat (first | exact List.Mem.head _ | apply List.Mem.tail)) (by repeat (first | exact List.Mem.head _ | apply List.Mem.tail)) en1)) fun v s S x P => ?_
  obtain ⟨x2, u2, rfl, O⟩ := P
  rw [hb] at O
  obtain ⟨d2, es2, n2, S, en2⟩ := S0.addOb S O
  refine st 8 S fun s S => ?_
  refine x_asg <| e_sub <| e_call <| gl S g__law_marks <| cw_fn0 lk1449 S ?_
  have S0 := S
  refine use S (C_marks S.gl R.deeper.less) fun v s S x P => ?_
  obtain ⟨q, its, rfl, hq, hrow⟩ := P
  obtain ⟨rv, hrv, rt, ta, tb, tc, td, rfl, hrt⟩ := hrow _ _ (p.row_at ok)
  have S := S0.add2 S hq hrt
  refine e_bin <| ld 1 S <| c_nat 2 S fun u s S => p_fdiv S (by decide) (by decide) fun u s S => ?_
  refine l_item (S.N (q, _) (by repeat (first | exact List.Mem.head _ | apply List.Mem.tail))).1 hrv (hz := by have := ok.kind; omega) <| st 9 S fun s S => ?_
  refine x_asg <| e_bin <| e_bin <| e_bin <| e_call <| b_bytes S <| cw_ty <| s_more <| e_list <| s_more <| ld 2 S <| s_nil <| r_list S fun q1 s S => s_nil <| ?_
  refine r_bytes (ns := [p.depth]) S R.calm (.head _) (.cons _ _ .nil) (by simpa using ok.depth) fun u s S => ?_
  refine e_meth <| ld 3 S <| g_to <| cw_bt' <| s_more <| c_nat 4 S fun u s S => s_more <| c_str S fun u s S => s_nil <| r_to S (by decide) ok.finger fun u s S => ?_
  refine y_add S (by simp [toBE_len]) fun u s S => ?_
  refine e_meth <| ld 4 S <| g_to <| cw_bt' <| s_more <| c_nat 4 S fun u s S => s_more <| c_str S fun u s S => s_nil <| r_to S (by decide) ok.number fun u s S => ?_
  refine y_add S (by simp [toBE_len]) fun u s S => ?_
  refine e_meth <| ld 5 S <| g_to <| cw_bt' <| s_more <| c_nat 32 S fun u s S => s_more <| c_str S fun u s S => s_nil <| r_to S (by decide) ok.chain fun u s S => ?_
  refine y_add S (by simp [toBE_len]) fun u s S => ?_
  have er : (List.map UInt8.ofNat [p.depth] ++ toBE 4 p.finger ++ toBE 4 p.number ++ toBE 32 p.chain) = p.rest := rfl
  rw [er]
  refine st 10 S fun s S => ?_
  refine x_asg <| e_list <| s_more <| e_bin <| c_bytes S fun u s S => ?_
  refine e_meth <| ld 6 S <| g_to <| cw_bt' <| s_more <| c_nat 32 S fun u s S => s_more <| c_str S fun u s S => s_nil <| r_to S (by decide) hsz fun u s S => ?_
  refine y_add S (by simp [toBE_len]) fun u s S => ?_
  refine s_more <| e_meth <| ld 8 S <| a_fn 18 S (S.ob (by repeat (first | exact List.Mem.head _ | apply List.Mem.tail)) (by repeat (first | exact List.Mem.head _ | apply List.Mem.tail)) en2) <| cw_fn0 lk935 S ?_
  refine use S (C_sec S.gl R.deeper.less (pnt_lt _) (S.ob (by repeat (first | exact List.Mem.head _ | apply List.Mem.tail)) (by repeat (first | exact List.Mem.head _ | apply List.Mem.tail)) en2)) fun v s S x P => ?_
  obtain ⟨ue, rfl⟩ := P
  refine s_nil <| r_list S fun q2 s S => st 11 S fun s S => ?_
  obtain ⟨vm, hvm⟩ := row_mark p ta tb tc td
  refine x_asg <| e_meth <| e_sub <| ld 9 S <| e_bin <| c_nat 2 S fun u s S => e_bin <| ld 1 S <| c_nat 2 S fun u s S => p_mod S (by decide) fun u s S => ?_
  refine p_mul S (Small.lit (by decide)) (Small.lit (by have := Nat.mod_lt p.kind (show 0 < 2 by decide); omega)) fun u s S => ?_
  refine u_item (S.N (rt, _) (by repeat (first | exact List.Mem.head _ | apply List.Mem.tail))).1 hvm (hz := by have := Nat.mod_lt p.kind (show 0 < 2 by decide); omega) ?_
  refine g_to <| cw_bt' <| s_more <| c_nat 4 S fun u s S => s_more <| c_str S fun u s S => s_nil <| r_to S (by decide) (p.mark_lt ok) fun tmk s S => ?_
  refine st 12 S fun s S => ?_
  have sel : ∀ {m nw s'}, St (cx w mg mb s0 L) m nw s' → (x1, instObj 1205 d1) ∈ nw → (d1, dictOf es1 n1) ∈ nw → (x2, instObj 1051 d2) ∈ nw → (d2, dictOf es2 n2) ∈ nw →
      KeyOb (newOnly s0.heap s'.heap) (if p.prv = true then x1 else x2) p.prv (p.body p.prv) ∧ KeyOb (newOnly s0.heap s'.heap) (if p.prv = true then x2 else x1) (!p.prv) (p.body (!p.prv)) := fun S h1 h2 h3 h4 =>
    key_sel ⟨_, S.obN h1 h2 en1, toBE_len _ _⟩ ⟨_, _, S.obN h3 h4 en2, pnt_lt _, rfl⟩
  refine x_asg <| e_callk <| gl S g_HDKey <| cw_clsk 48 <| s_more <| e_sub <| e_list <| s_more <| ld 7 S <| s_more <| ld 8 S <| s_nil <| r_list S fun q3 s S => e_bin <| ld 1 S <| c_nat 2 S fun u s S => p_mod S (by decide) fun u s S => ?_
  refine l_item (S.N (q3, _) (by repeat (first | exact List.Mem.head _ | apply List.Mem.tail))).1 (two_ref p x1 x2) (hz := by have := Nat.mod_lt p.kind (show 0 < 2 by decide); omega) ?_
  refine s_more <| e_meth <| ld 5 S <| g_to <| cw_bt' <| s_more <| c_nat 32 S fun u s S => s_more <| c_str S fun u s S => s_nil <| r_to S (by decide) ok.chain fun tc2 s S => ?_
  refine s_nil <| a_kw <| ld 12 S <| a_kw <| ld 2 S <| a_kw <| e_meth <| ld 3 S <| g_to <| cw_bt' <| s_more <| c_nat 4 S fun u s S => s_more <| c_str S fun u s S => s_nil <| r_to S (by decide) ok.finger fun tf2 s S => ?_
  refine a_kw <| ld 4 S <| a_kwnil ⟨⟨_, _, S⟩, ?_⟩
  have hK := sel S (by repeat (first | exact List.Mem.head _ | apply List.Mem.tail)) (by repeat (first | exact List.Mem.head _ | apply List.Mem.tail)) (by repeat (first | exact List.Mem.head _ | apply List.Mem.tail)) (by repeat (first | exact List.Mem.head _ | apply List.Mem.tail))
  have S0 := S
  refine use S (C_hd (H := p.hd) S.gl R.deeper.less (Part.hd_ok ok) good hK.1.all (t1 := tmk) (t2 := tc2) (t3 := t1) (t4 := tf2) (t6 := t3) (by intro x S; kernel_rfl)) fun v s S x P => ?_
  obtain ⟨x3, rfl, t7, O⟩ := P
  obtain ⟨d3, es3, n3, S, en3⟩ := S0.addOb S O
  refine st 13 S fun s S => ?_
  refine x_ret <| e_tup <| s_more <| ld 13 S <| s_more <| e_bin <| e_bin <| ld 12 S <| ld 10 S ?_
  refine y_add S (by rw [toBE_len, p.rest_len]; decide) fun u s S => ?_
  refine e_sub <| ld 11 S <| e_bin <| ld 1 S <| c_nat 2 S fun u s S => p_mod S (by decide) fun u s S => ?_
  obtain ⟨ve, hve⟩ := two_oct p ([0] ++ toBE 32 p.secret) (ser (pnt p.secret)) _ ue
  refine l_item (S.N (q2, _) (by repeat (first | exact List.Mem.head _ | apply List.Mem.tail))).1 hve (hz := by have := Nat.mod_lt p.kind (show 0 < 2 by decide); omega) ?_
  have eo : toBE 4 p.mark ++ p.rest ++ (if p.prv = true then [0] ++ toBE 32 p.secret else ser (pnt p.secret)) = p.hd.octs := p.octs.symm
  refine y_add S (by rw [List.length_append, toBE_len, p.rest_len]; split <;> simp [toBE_len, ser_len]) fun u s S => ?_
  rw [eo]
  refine s_more <| e_sub <| e_list <| s_more <| ld 8 S <| s_more <| ld 7 S <| s_nil <| r_list S fun q4 s S => e_bin <| ld 1 S <| c_nat 2 S fun u s S => p_mod S (by decide) fun u s S => ?_
  refine l_item (S.N (q4, _) (by repeat (first | exact List.Mem.head _ | apply List.Mem.tail))).1 (two_ref p x2 x1) (hz := by have := Nat.mod_lt p.kind (show 0 < 2 by decide); omega) ?_
  refine s_more <| e_bin <| e_bin <| e_meth <| e_sub <| ld 9 S <| c_nat 2 S fun u s S => ?_
  refine u_item (S.N (rt, _) (by repeat (first | exact List.Mem.head _ | apply List.Mem.tail))).1 rfl ?_
  refine g_to <| cw_bt' <| s_more <| c_nat 4 S fun u s S => s_more <| c_str S fun u s S => s_nil <| r_to S (by decide) (marks_ok _ (p.row_mem ok)).2.1 fun u s S => ?_
  refine ld 10 S ?_
  refine y_add S (by rw [toBE_len, p.rest_len]; decide) fun u s S => ?_
  refine e_sub <| ld 11 S <| c_nat 1 S fun u s S => ?_
  refine l_item (S.N (q2, _) (by repeat (first | exact List.Mem.head _ | apply List.Mem.tail))).1 rfl ?_
  refine y_add S (by rw [List.length_append, toBE_len, p.rest_len, ser_len]; decide) fun u s S => ?_
  rw [show toBE 4 p.row.2.2.1 ++ p.rest ++ ser (pnt p.secret) = p.pub.octs from p.pub_octs.symm]
  refine s_nil <| r_tuple S fun r s S => ?_
  have hK := sel S (by repeat (first | exact List.Mem.head _ | apply List.Mem.tail)) (by repeat (first | exact List.Mem.head _ | apply List.Mem.tail)) (by repeat (first | exact List.Mem.head _ | apply List.Mem.tail)) (by repeat (first | exact List.Mem.head _ | apply List.Mem.tail))
  exact ⟨S.done, r, x3, _, _, _, rfl, S.new (.head _), ⟨_, _, _, _, _, _, _, S.obN (by repeat (first | exact List.Mem.head _ | apply List.Mem.tail)) (by repeat (first | exact List.Mem.head _ | apply List.Mem.tail)) en3, hK.1⟩, hK.2⟩
end Mine
end

section
set_option Elab.async false
set_option maxRecDepth 100000
set_option linter.unusedVariables false
open PySem PySem.W PyProof.Rows PySem.Calls PySem.Spec
namespace Mine
section
variable {c : Cx} {A : Around} {s : Shared} {env : Env} {m : Str → Option Value} {news : List (Addr × Obj)} {E : Value → Shared → Prop} {t u : Tok}
theorem t_marked {l r : Expr} {op : CmpOp} {pos : Pos} {whole : Sem Value} {Q : Bool → Shared → Prop}
    (h : W c A (eval l env) (fun a s₁ => W c A (eval r env) (fun b s₂ => KdiMark (model PW c.w) A E b (fun s₃ => W c A (compareOp op a b) (fun v s₄ => W c A (truthy v) Q E s₄) E s₃) s₂) E s₁) E s)
    (hm : behindInMarks op r = true := by rfl) : W c A (PySem.isTrue (.Compare l [op] [r] pos) env whole) Q E s := by
  rw [isTrue_Compare1]
  refine W.then h fun a s₁ h₁ => W.bind (W.hold ?_)
  unfold markedBehindIn
  rw [hm]
  refine W.then h₁ fun b s₂ h₂ => ?_
  obtain ⟨d, rfl, h₃⟩ := h₂
  dsimp only
  refine W.bind (W.mk (wpAny_mono h₃ (fun _ s₃ h₄ => W.pure ?_) fun _ _ x => x))
  exact W.stand (W.then (W.opr h₄) fun v s₄ h₅ => W.hold h₅)
/-- in a set display of three texts -/
theorem r_in3 {x1 x2 x3 y : Str} {k1 k2 k3 : Nat} {p1 p2 p3 pos : Pos} {P : Value → Shared → Prop} (S : St c m news s) (h : ∀ s', St c m news s' → P (.bool ((((false || decide (y = x1)) || decide (y = x2)) || decide (y = x3)))) s')
    (h12 : ((false || decide (x2 = x1))) = false := by decide) (h3 : (((false || decide (x3 = x1)) || decide (x3 = x2))) = false := by decide) (hc : ∀ P, kdsCode (KF P) env.code = true := by intro P; kernel_rfl) :
    W c A (eval (.Set [.Constant (.str x1) k1 p1, .Constant (.str x2) k2 p2, .Constant (.str x3) k3 p3] 0 pos) env) (fun b s₂ => KdiMark (model PW c.w) A E b (fun s₃ => W c A (compareOp .In (.str y t) b) P E s₃) s₂) E s := by
  refine W.mk (kds_eval S.F S.N S.G.K (hc _) rfl rfl (Nat.le_of_ble_eq_true rfl) fun D h' led F' N' lt hi hs => ?_)
  have ap : ∀ p ∈ news, p.1 ≠ D := fun p hp => Nat.ne_of_lt (lt p hp)
  refine Calls.Constant_str (Calls.Constant_str (Calls.Constant_str ?_))
  refine kds_fill_cons (kds_add_new (knd := PySem.strKind PW c.w) F' N' (.head ap) hs (by decide) (strKind_is _ _ _ _) rfl rfl fun h1 o1 F1 N1 hs1 => ?_)
  refine kds_fill_cons (kds_add_new (knd := PySem.strKind PW c.w) F1 N1 (.head ap) hs1 (by decide) (strKind_is _ _ _ _) rfl h12 fun h2 o2 F2 N2 hs2 => ?_)
  refine kds_fill_cons (kds_add_new (knd := PySem.strKind PW c.w) F2 N2 (.head ap) hs2 (by decide) (strKind_is _ _ _ _) rfl h3 fun h3 o3 F3 N3 hs3 => ?_)
  refine kds_fill_unled rfl (kds_unled (knd := PySem.strKind PW c.w) F3 N3 (.head ap) hs3 (by decide) fun h4 o4 F4 N4 hs4 => ?_)
  refine kdi_mark (kds_unled (knd := PySem.strKind PW c.w) F4 N4 (.head ap) hs4 (by decide) fun h5 o5 F5 N5 hs5 => ?_)
  refine W.mk (in_sl1 (own := []) N5 hs5 (by decide) (strKind_is _ _ _ _) rfl ?_)
  exact h _ (St.drop (p := (D, o5)) ⟨S.G, F5, N5, S.gens, S.os⟩)
end
end Mine
end

section
set_option Elab.async false
set_option maxRecDepth 100000
set_option linter.unusedVariables false
open PySem PySem.W PyProof.Rows PySem.Calls PySem.Spec
namespace Mine
/-- the digits of a number -/
def dn (n : Nat) : List Nat := (Nat.toDigits 10 n).map Char.toNat
theorem tx_dn (n : Nat) : tx (dn n) = Str.ofString (toString ((n : Nat) : Int)) := by
  have h := PySem.W.KIN.signs_num n
  unfold dn tx
  rw [← h]
theorem dn_digit (n : Nat) : ∀ c ∈ dn n, 48 ≤ c ∧ c ≤ 57 := by
  intro c hc
  obtain ⟨ch, hch, e⟩ := List.mem_map.mp hc
  have r := PyProof.Rows.digit_range (Nat.isDigit_of_mem_toDigits (by decide) (by decide) hch)
  rw [← e]
  exact r
theorem dn_len {n : Nat} (h : n < 10 ^ 10) : (dn n).length ≤ 10 := by
  have := PySem.W.KT.len_num (n := (n : Int)) (Int.natCast_nonneg n) (by omega)
  rw [← tx_dn, tx_len] at this
  exact this
theorem dn_ne (n : Nat) : dn n ≠ [] := by
  intro e
  have h := Nat.toDigits_ne_nil (b := 10) (n := n)
  exact h (List.map_eq_nil_iff.mp e)
theorem dn_last (n : Nat) : ∃ l x, dn n = l ++ [x] ∧ 48 ≤ x ∧ x ≤ 57 := by
  have h := List.dropLast_concat_getLast (dn_ne n)
  refine ⟨_, _, h.symm, dn_digit n _ (List.getLast_mem _)⟩
section
variable {c : Cx} {m : Str → Option Value} {A : Around} {E : Value → Shared → Prop} {s : Shared} {news : List (Addr × Obj)} {env : Env} {t u : Tok} {Q : Value → Shared → Prop} {a b : List Nat}
theorem r_str {n : Nat} (S : St c m news s) (hn : n < 2 ^ 64) (h : ∀ t s', St c m news s' → Q (.str (tx (dn n)) t) s') : W c A (call (.type "str") [.int (n : Int) t]) Q E s :=
  W.mk (PySem.P.str_of_int (by
    rw [Int.natAbs_natCast]
    by_cases h0 : n = 0
    · subst h0; decide
    · exact Nat.lt_trans ((Nat.log2_lt h0).mpr hn) (by decide)) (by rw [← tx_dn]; exact h _ _ (S.at rfl rfl rfl)))
theorem r_intn {n : Nat} (S : St c m news s) (hn : n < 10 ^ 10) (h : ∀ t s', St c m news s' → Q (.int (n : Int) t) s') : W c A (call (.type "int") [.str (tx (dn n)) t]) Q E s := by
  rw [tx_dn]
  exact W.mk (PySem.W.KIN.call_num (Int.natCast_nonneg n) (by omega) (h _ _ (S.at rfl rfl rfl)))
theorem s_last {l : List Nat} {x : Nat} {value slice : Expr} (S : St c m news s) (hz : l.length + 1 ≤ 16777216) (h : ∀ t s', St c m news s' → Q (.str (tx [x]) t) s')
    (hs : subscripted slice false (.str (tx (l ++ [x])) t) (.int (-((1 : Nat) : Int)) u) = operate [.str (tx (l ++ [x])) t, .int (-((1 : Nat) : Int)) u] (getItem (.str (tx (l ++ [x])) t) (.int (-((1 : Nat) : Int)) u)) := by with_unfolding_all rfl)
    (ht : ∀ r, letTemporaryGo value (.str (tx (l ++ [x])) t) r = pure () := by intro _; with_unfolding_all rfl) : W c A (subscriptTail value slice (.str (tx (l ++ [x])) t) (.int (-((1 : Nat) : Int)) u)) Q E s := by
  have e : Txt.item (tx (l ++ [x])) (-((1 : Nat) : Int)) = tx [x] := by
    unfold Txt.item Txt.charAt
    have hl : (tx (l ++ [x])).length = l.length + 1 := by rw [tx_len]; simp
    have : seqIndex? (-((1 : Nat) : Int)) (tx (l ++ [x])).length = some l.length := by
      rw [hl]
      unfold seqIndex?
      have h1 : (-((1 : Nat) : Int)) < 0 := by decide
      simp only [if_pos h1]
      rw [if_pos (by simp; omega)]
      congr 1
      omega
    rw [this]
    show (⟨#[((l ++ [x]).toArray[l.length]?).getD 0]⟩ : Str) = _
    simp [tx]
  refine W.mk (KXi.item (n := (l ++ [x]).length) (tx_len _) (by simp; omega) (by simp; omega) (by simp; omega) (fun _ => ?_) hs ht)
  rw [e]
  exact h _ _ (S.at rfl rfl rfl)
end
/-- a step's text -/
def stp (n : Nat) : List Nat := if 2147483648 ≤ n then dn (n - 2147483648) ++ [104] else dn n
theorem C_der {w mg mb A s t} {n : Nat} (G : Gl w mg mb s.heap) (R : Rm A 5) (hn : n < 4294967296) :
    Gives w A (.ref 1437) [.str (tx (stp n)) t] [] (fun v _ => ∃ u, v = .int (n : Nat) u) s := by
  refine enterW ["e"] [] [.str (tx (stp n)) t] G R.less lk1437 (defBody (topSt 48)) rfl cd1437 fun L s S => ?_
  refine open_body rfl ?_
  refine x_if <| t_marked <| e_sub <| ld 0 S <| e_neg 1 S fun u s S => ?_
  by_cases hh : 2147483648 ≤ n
  · have e : stp n = dn (n - 2147483648) ++ [104] := by unfold stp; rw [if_pos hh]
    have hl := dn_len (n := n - 2147483648) (by omega)
    rw [e] at S ⊢
    refine s_last S (by omega) fun u s S => ?_
    refine r_in3 S (fun s S => ?_) (by decide +kernel) (by decide +kernel)
    refine t_bool <| ite_yes (by decide +kernel) ?_
    refine x_ret <| e_bin <| e_call <| b_int S <| cw_ty <| s_more <| e_sub <| ld 0 S <| e_cut <| pt_none <| pt_some <| e_neg 1 S fun u s S => ?_
    refine s_cutP S .none (.int _ _) (by simp; omega) fun u s S => ?_
    rw [cut_front _ _ 1 rfl (by decide)]
    refine s_nil <| r_intn S (by omega) fun u s S => glN 2147483648 S g_HARDENED_INDEX fun u => p_add S fun u s S => ⟨S.done, u, ?_⟩
    rw [Nat.sub_add_cancel hh]
  · have e : stp n = dn n := by unfold stp; rw [if_neg hh]
    have hl := dn_len (n := n) (by omega)
    obtain ⟨l, x, ex, hx⟩ := dn_last n
    rw [e] at S ⊢
    rw [ex]
    have hl2 : l.length + 1 ≤ 10 := by rw [ex] at hl; simpa using hl
    refine s_last S (by omega) fun u s S => ?_
    refine r_in3 S (fun s S => ?_) (by decide +kernel) (by decide +kernel)
    refine t_bool <| ite_no ?_ ?_
    · have h1 : ∀ y, (48 ≤ y ∧ y ≤ 57) → ∀ z ∈ [104, 72, 39], tx [y] ≠ tx [z] := fun y hy z hz q => by
        have := tx_inj q
        simp at this hz
        omega
      have e1 : (Str.ofString "h" : Str) = tx [104] := by decide +kernel
      have e2 : (Str.ofString "H" : Str) = tx [72] := by decide +kernel
      have e3 : (Str.ofString "'" : Str) = tx [39] := by decide +kernel
      rw [e1, e2, e3, decide_eq_false (h1 x hx _ (by simp)), decide_eq_false (h1 x hx _ (by simp)), decide_eq_false (h1 x hx _ (by simp))]
      decide
    refine x_ret <| e_call <| b_int S <| cw_ty <| s_more <| ld 0 S <| s_nil ?_
    refine r_intn S (by omega) fun u s S => ⟨S.done, u, rfl⟩
end Mine
end

section
set_option Elab.async false
set_option maxRecDepth 100000
set_option linter.unusedVariables false
open PySem PySem.W PyProof.Rows PySem.Calls PySem.Spec
namespace Mine
/-! texts joined by slashes -/
def jn : List (List Nat) → List Nat
  | [] => []
  | [a] => a
  | a :: b :: r => a ++ 47 :: jn (b :: r)
theorem tx_jn : ∀ ps : List (List Nat), Str.join (tx [47]) (ps.map tx) = tx (jn ps)
  | [] => rfl
  | [a] => rfl
  | a :: b :: r => by
    have ih := tx_jn (b :: r)
    show tx a ++ tx [47] ++ Str.join (tx [47]) ((b :: r).map tx) = _
    rw [ih, tx_app, tx_app]
    simp [jn]
theorem cut47 : ∀ {a b x y : List Nat}, 47 ∉ a → 47 ∉ b → a ++ 47 :: x = b ++ 47 :: y → a = b ∧ x = y
  | [], [], x, y, _, _, e => by simp at e; exact ⟨rfl, e⟩
  | [], b :: bs, x, y, _, hb, e => by simp at e; exact absurd e.1 (fun q => hb (by rw [q]; exact .head _))
  | a :: as, [], x, y, ha, _, e => by simp at e; exact absurd e.1 (fun q => ha (by rw [q]; exact .head _))
  | a :: as, b :: bs, x, y, ha, hb, e => by
    simp only [List.cons_append, List.cons.injEq] at e
    have := cut47 (fun q => ha (.tail _ q)) (fun q => hb (.tail _ q)) e.2
    exact ⟨by rw [e.1, this.1], this.2⟩
theorem jn_inj : ∀ {ps qs : List (List Nat)}, ps ≠ [] → qs ≠ [] → (∀ p ∈ ps, 47 ∉ p) → (∀ q ∈ qs, 47 ∉ q) → jn ps = jn qs → ps = qs
  | [], _, h, _, _, _, _ => absurd rfl h
  | _, [], _, h, _, _, _ => absurd rfl h
  | [a], [b], _, _, _, _, e => by have e : a = b := e; rw [e]
  | [a], b :: c :: r, _, _, ha, _, e => by
    have e : a = b ++ 47 :: jn (c :: r) := e
    exact absurd (show 47 ∈ a by rw [e]; simp) (ha a (.head _))
  | a :: c :: r, [b], _, _, _, hb, e => by
    have e : a ++ 47 :: jn (c :: r) = b := e
    exact absurd (show 47 ∈ b by rw [← e]; simp) (hb b (.head _))
  | a :: c :: r, b :: d :: q, _, _, ha, hb, e => by
    have e : a ++ 47 :: jn (c :: r) = b ++ 47 :: jn (d :: q) := e
    obtain ⟨e1, e2⟩ := cut47 (ha a (.head _)) (hb b (.head _)) e
    have := jn_inj (by simp) (by simp) (fun p hp => ha p (.tail _ hp)) (fun p hp => hb p (.tail _ hp)) e2
    rw [e1, this]
theorem split_jn {ps : List (List Nat)} (h0 : ps ≠ []) (h : ∀ p ∈ ps, 47 ∉ p) : Txt.split (tx (jn ps)) (tx [47]) = ps.map tx := by
  have h1 := StrLaws.join_split (tx (jn ps)) (tx [47])
  have h2 := StrLaws.split_free (tx (jn ps)) 47
  have h3 := split_pos (tx (jn ps)) (tx [47])
  change ∀ p ∈ Txt.split (tx (jn ps)) (tx [47]), 47 ∉ p.cps.toList at h2
  generalize Txt.split (tx (jn ps)) (tx [47]) = qs at *
  have e : qs = (qs.map fun q => q.cps.toList).map tx := by
    rw [List.map_map]
    conv => lhs; rw [← List.map_id qs]
    exact List.map_congr_left fun q _ => by cases q; rfl
  rw [e, tx_jn] at h1
  rw [e, jn_inj (ps := qs.map fun q => q.cps.toList) (qs := ps) (by
    intro z
    rw [List.map_eq_nil_iff.mp z] at h3
    cases h3) h0 (fun p hp => by
    obtain ⟨q, hq, rfl⟩ := List.mem_map.mp hp
    exact h2 q hq) h (tx_inj h1)]
theorem rstrip_none {l : List Nat} {x : Nat} (h : x ≠ 47) : Txt.rstripChars (tx (l ++ [x])) (tx [47]) = tx (l ++ [x]) := by
  unfold Txt.rstripChars Txt.stripBy
  rw [if_pos]
  have e0 : (tx [47]).cps.contains x = false := by
    show (#[47] : Array Nat).contains x = false
    simpa using h
  show (0 == 0 && (tx (l ++ [x])).length - (((l ++ [x]).drop 0).reverse.takeWhile (tx [47]).cps.contains).length == (tx (l ++ [x])).length) = true
  rw [List.drop_zero, List.reverse_append, List.reverse_singleton, List.singleton_append, List.takeWhile_cons_of_neg (by rw [e0]; exact Bool.false_ne_true)]
  simp
section
variable {c : Cx} {m : Str → Option Value} {A : Around} {E : Value → Shared → Prop} {s : Shared} {news : List (Addr × Obj)} {env : Env} {t u : Tok} {Q : Value → Shared → Prop}
theorem g_rstrip {x : Str} {pl : Sem Bool} {Q : Value × List Value → Shared → Prop} (h : Q (.builtin "str.rstrip", [.str x t]) s) : W c A (getMethod (.str x t) (Str.ofString "rstrip") pl) Q E s := W.mk (GM.rstrip h)
theorem g_split {x : Str} {pl : Sem Bool} {Q : Value × List Value → Shared → Prop} (h : Q (.builtin "str.split", [.str x t]) s) : W c A (getMethod (.str x t) (Str.ofString "split") pl) Q E s := W.mk (GM.split h)
theorem r_rstrip {l : List Nat} {x : Nat} (S : St c m news s) (hx : x ≠ 47) (hz : l.length ≤ 1000000) (h : ∀ t s', St c m news s' → Q (.str (tx (l ++ [x])) t) s') : W c A (call (.builtin "str.rstrip") [.str (tx (l ++ [x])) t, .str (tx [47]) u]) Q E s :=
  W.mk (SC.rstripChars (fun t' k => by rw [rstrip_none hx]; exact h _ _ (S.at rfl rfl rfl)) (by rw [tx_len, sizeLine_eq]; simp; omega))
theorem r_split {ps : List (List Nat)} (S : St c m news s) (h0 : ps ≠ []) (hf : ∀ p ∈ ps, 47 ∉ p) (hz : (jn ps).length ≤ 1000000)
    (h : ∀ (D : Addr) (l : List (Str × Tok)) s', l.map (·.1) = ps.map tx → St c m ((D, listOf (strValues l).toArray 0) :: news) s' → Q (.ref D) s') : W c A (call (.builtin "str.split") [.str (tx (jn ps)) t, .str (tx [47]) u]) Q E s :=
  W.mk (splitN1 S.F S.N rfl (fun l h' k e F N => h _ l _ (by rw [e, split_jn h0 hf]) ⟨S.G, F, N, S.gens, S.os⟩) (by rw [tx_len, sizeLine_eq]; omega))
theorem l_len {l : Addr} {vs : List Value} {n : Nat} (S : St c m news s) (hl : s.heap.get? l = some (listOf vs.toArray n)) (hz : vs.length ≤ 1000000) (h : ∀ t s', St c m news s' → Q (.int (vs.length : Nat) t) s') : W c A (call (.builtin "len") [.ref l]) Q E s :=
  W.mk (PyProof.Rows.len_list (items := vs.toArray) ⟨_, hl, rfl, _, rfl⟩ (by rw [List.size_toArray]; omega) (by rw [List.size_toArray]; exact h _ _ (S.at rfl rfl rfl)))
/-- joined by slashes -/
theorem s_joinS {l : Addr} {ps : List (List Nat × Tok)} {n : Nat} (S : St c m news s) (hm : s.heap.get? l = some (listOf (ps.map fun p => Value.str (tx p.1) p.2).toArray n)) (hz : (ps.map fun p => p.1.length).sum + ps.length ≤ 1000000)
    (h : ∀ t s', St c m news s' → Q (.str (tx (jn (ps.map (·.1)))) t) s') : W c A (call (.builtin "str.join") [.str (tx [47]) t, .ref l]) Q E s :=
  W.mk (SC.join (l := ps.map fun p => (tx p.1, p.2)) (texts := (ps.map (·.1)).map tx)
    (by have e : strValues (ps.map fun p => (tx p.1, p.2)) = ps.map fun p => Value.str (tx p.1) p.2 := by unfold strValues; rw [List.map_map]; rfl
        rw [e]; exact ⟨_, hm, rfl, _, rfl⟩)
    (by rw [List.map_map, List.map_map]; rfl)
    (joinOk_of (by
      have e : (((ps.map (·.1)).map tx).map (·.length)).sum = (ps.map fun p => p.1.length).sum := by
        rw [List.map_map, List.map_map]
        congr 1
      rw [e, List.length_map, List.length_map, show (tx [47]).length = 1 from rfl, Nat.mul_one]
      exact Nat.le_trans hz (by decide)))
    fun t' k => by
      have e : Txt.join (tx [47]) ((ps.map (·.1)).map tx) = tx (jn (ps.map (·.1))) := by
        show Builtin.Str.glued _ _ = _
        rw [StrLaws.glued_eq_join]
        exact tx_jn _
      rw [e]; exact h _ _ (S.at rfl rfl rfl))
end
end Mine
end

section
set_option Elab.async false
set_option maxRecDepth 100000
set_option linter.unusedVariables false
open PySem PySem.W PyProof.Rows PySem.Calls PySem.Spec
namespace Mine
theorem stp_free (n : Nat) : 47 ∉ stp n := by
  unfold stp
  split
  · intro h
    rcases List.mem_append.mp h with h | h
    · have := dn_digit _ _ h; omega
    · simp at h
  · intro h
    have := dn_digit _ _ h; omega
theorem stp_ne (n : Nat) : stp n ≠ [] := by
  unfold stp
  split
  · simp
  · exact dn_ne n
theorem stp_len {n : Nat} (h : n < 4294967296) : (stp n).length ≤ 11 := by
  unfold stp
  split
  · have := dn_len (n := n - 2147483648) (by omega)
    rw [List.length_append]
    simp; omega
  · have := dn_len (n := n) (by omega)
    omega
theorem jn_last : ∀ {ps : List (List Nat)}, ps ≠ [] → (∀ p ∈ ps, 47 ∉ p ∧ p ≠ []) → ∃ l x, jn ps = l ++ [x] ∧ x ≠ 47
  | [], h, _ => absurd rfl h
  | [a], _, h => by
    have h1 := h a (.head _)
    refine ⟨_, _, (List.dropLast_concat_getLast h1.2).symm, fun q => h1.1 ?_⟩
    rw [← q]; exact List.getLast_mem _
  | a :: b :: r, _, h => by
    obtain ⟨l, x, e, hx⟩ := jn_last (ps := b :: r) (by simp) fun p hp => h p (.tail _ hp)
    refine ⟨a ++ 47 :: l, x, ?_, hx⟩
    show a ++ 47 :: jn (b :: r) = _
    rw [e]; simp
theorem jn_len : ∀ ps : List (List Nat), (jn ps).length ≤ (ps.map List.length).sum + ps.length
  | [] => Nat.le_refl _
  | [a] => by simp [jn]
  | a :: b :: r => by
    have ih := jn_len (b :: r)
    simp only [jn, List.length_append, List.length_cons, List.map_cons, List.sum_cons] at ih ⊢
    omega
abbrev pps (path : List Nat) : List (List Nat) := [109] :: path.map stp
theorem pps_ok (path : List Nat) : ∀ p ∈ pps path, 47 ∉ p ∧ p ≠ [] := fun p hp => by
  rcases List.mem_cons.mp hp with rfl | hp
  · exact ⟨by decide, by decide⟩
  · obtain ⟨n, _, rfl⟩ := List.mem_map.mp hp
    exact ⟨stp_free n, stp_ne n⟩
theorem sum_le : ∀ (l : List Nat) (k : Nat), (∀ x ∈ l, x ≤ k) → l.sum ≤ l.length * k
  | [], _, _ => by simp
  | a :: r, k, h => by
    have h1 := h a (.head _)
    have h2 := sum_le r k fun x hx => h x (.tail _ hx)
    simp only [List.sum_cons, List.length_cons, Nat.add_mul, Nat.one_mul]
    omega
theorem pps_len {path : List Nat} (h : ∀ n ∈ path, n < 4294967296) (hl : path.length ≤ 5) : (jn (pps path)).length ≤ 1000 := by
  have h1 := jn_len (pps path)
  have h2 := sum_le ((pps path).map List.length) 11 fun x hx => by
    obtain ⟨p, hp, rfl⟩ := List.mem_map.mp hx
    rcases List.mem_cons.mp hp with rfl | hp
    · decide
    · obtain ⟨n, hn, rfl⟩ := List.mem_map.mp hp
      exact stp_len (h n hn)
  rw [List.length_map] at h2
  have : (pps path).length ≤ 6 := by simp; omega
  omega
theorem ints_of : ∀ {ys : List Value} {path : List Nat}, ys.length = path.length → (∀ (j : Nat) y, ys[j]? = some y → ∃ n u, path[j]? = some n ∧ y = Value.int ((n : Nat) : Int) u) → IntsAre ys (path.map fun (k : Nat) => (k : Int))
  | [], [], _, _ => .nil
  | [], _ :: _, h, _ => by simp at h
  | _ :: _, [], h, _ => by simp at h
  | y :: ys, n :: path, h, k => by
    obtain ⟨n', u, e1, e2⟩ := k 0 y rfl
    cases e1
    subst e2
    exact .cons _ _ (ints_of (by simpa using h) fun j y hy => k (j + 1) y hy)
theorem r_rstripB {c : Cx} {m : Str → Option Value} {A : Around} {E : Value → Shared → Prop} {s : Shared} {news : List (Addr × Obj)} {t u : Tok} {Q : Value → Shared → Prop} {b : List Nat} (S : St c m news s) (hb : ∃ l x, b = l ++ [x] ∧ x ≠ 47) (hz : b.length ≤ 1000000) (h : ∀ t s', St c m news s' → Q (.str (tx b) t) s') :
    W c A (call (.builtin "str.rstrip") [.str (tx b) t, .str (tx [47]) u]) Q E s := by
  obtain ⟨l, x, rfl, hx⟩ := hb
  exact r_rstrip S hx (by simp at hz; omega) h
theorem strs_at {l : List (Str × Tok)} {ps : List (List Nat)} (e : l.map (·.1) = ps.map tx) {i : Nat} {p : List Nat} (h : ps[i]? = some p) : ∃ t, (strValues l)[i]? = some (.str (tx p) t) := by
  have h1 : (l.map (·.1))[i]? = some (tx p) := by rw [e, List.getElem?_map, h]; rfl
  rw [List.getElem?_map] at h1
  obtain ⟨q, hq, e2⟩ := Option.map_eq_some_iff.mp h1
  refine ⟨q.2, ?_⟩
  unfold strValues
  rw [List.getElem?_map, hq]
  show some (Value.str q.1 q.2) = _
  rw [e2]
theorem C_pathtext {w mg mb A s t} {path : List Nat} (G : Gl w mg mb s.heap) (R : Rm A 10) (h0 : path ≠ []) (hn : ∀ n ∈ path, n < 4294967296) (hl : path.length ≤ 5) :
    Gives w A (.ref 1442) [.str (tx (jn (pps path))) t] [] (fun v s' => ∃ (p : Addr) (its : List Value) (k : Nat), v = .ref p ∧ New s.heap s'.heap p (listOf its.toArray k) ∧ IntsAre its (path.map fun (k : Nat) => (k : Int))) s := by
  have hz := pps_len hn hl
  refine enterW ["path"] ["arr"] [.str (tx (jn (pps path))) t] G R.less lk1442 (defBody (topSt 49)) rfl cd1442 fun L s S => ?_
  refine open_body rfl ?_
  refine x_asg <| e_meth <| e_meth <| ld 0 S <| g_rstrip <| cw_bt' <| s_more <| c_tx [47] S fun u s S => s_nil ?_
  refine r_rstripB S (jn_last (by simp) (pps_ok path)) (by omega) fun u s S => ?_
  refine g_split <| cw_bt' <| s_more <| c_tx [47] S fun u s S => s_nil ?_
  refine r_split S (by simp) (fun p hp => (pps_ok path p hp).1) (by omega) fun D l s e S => st 1 S fun s S => ?_
  obtain ⟨t0, ht0⟩ := strs_at e (i := 0) rfl
  have hll : l.length = path.length + 1 := by have := congrArg List.length e; simpa using this
  refine x_if <| t_cmp <| e_sub <| ld 1 S <| c_nat 0 S fun u s S => ?_
  refine l_item (S.N (D, _) (by repeat (first | exact List.Mem.head _ | apply List.Mem.tail))).1 ht0 ?_
  refine c_tx [109] S fun u s S => s_eq <| t_bool <| ite_yes (by decide) ?_
  refine x_asg <| e_sub <| ld 1 S <| e_cut <| pt_some <| c_nat 1 S fun u s S => pt_none ?_
  refine l_cut S (S.N (D, _) (by repeat (first | exact List.Mem.head _ | apply List.Mem.tail))).1 (.int _ _) .none (by unfold strValues; rw [List.length_map]; omega) fun D2 s S hD2 => st 1 S fun s S => x_nil ?_
  rw [cut_drop] at S
  have hvl : ((strValues l).drop 1).length = path.length := by unfold strValues; rw [List.length_drop, List.length_map]; omega
  have hat : ∀ (i : Nat) v, ((strValues l).drop 1)[i]? = some v → ∃ n tk, path[i]? = some n ∧ v = Value.str (tx (stp n)) tk := fun i v hv => by
    have hi : i < path.length := by rw [← hvl]; exact (List.getElem?_eq_some_iff.mp hv).1
    obtain ⟨tk, htk⟩ := strs_at e (i := i + 1) (p := stp path[i]) (by simp [hi])
    rw [List.getElem?_drop, show 1 + i = i + 1 by omega, htk] at hv
    exact ⟨path[i], tk, List.getElem?_eq_getElem hi, (Option.some.inj hv).symm⟩
  refine x_if <| t_cmp <| e_call <| b_len S <| cw_bt <| s_more <| ld 1 S <| s_nil ?_
  refine l_len S (S.N (D2, _) (by repeat (first | exact List.Mem.head _ | apply List.Mem.tail))).1 (by omega) fun u s S => c_nat 0 S fun u s S => p_eq <| t_bool <| ite_no ?_ <| x_nil ?_
  · rw [hvl, decide_eq_false (by simpa using h0)]; exact Bool.false_ne_true
  refine x_ret <| e_lc [] <| ld 1 S ?_
  refine lc_list (fun i y => ∃ n u, path[i]? = some n ∧ y = Value.int ((n : Nat) : Int) u) S (S.N (D2, _) (by repeat (first | exact List.Mem.head _ | apply List.Mem.tail))).1 R.calm (.inr ⟨_, (by repeat (first | exact List.Mem.head _ | apply List.Mem.tail))⟩) (by omega) ?_ ?_
  · rintro C oL I oI D3 oD i v s3 hv S
    obtain ⟨n, tk, hp, rfl⟩ := hat i v hv
    refine e_call <| gl S g__parse_der_item <| cw_fn' lk1437 <| s_more <| ld 0 S <| s_nil ⟨⟨_, _, S⟩, ?_⟩
    refine use S (C_der S.gl R.deeper.less (hn n (List.mem_of_getElem? hp))) fun v s S x P => ?_
    obtain ⟨u, rfl⟩ := P
    exact ⟨⟨n, u, hp, rfl⟩, S⟩
  · intro D3 ys s3 hlen hF hD3 S
    exact ⟨S.done, D3, ys, _, rfl, S.new (.head _), ints_of (by rw [hlen]; exact hvl) hF⟩
end Mine
end

section
set_option Elab.async false
set_option maxRecDepth 100000
set_option linter.unusedVariables false
open PySem PySem.W PyProof.Rows PySem.Calls PySem.Spec
namespace Mine
section
variable {c : Cx} {m : Str → Option Value} {A : Around} {E : Value → Shared → Prop} {s : Shared} {news : List (Addr × Obj)} {t u : Tok} {Q : Value → Shared → Prop}
theorem r_isstr {x : Str} (h : Q (.bool true) s) : W c A (call (.builtin "isinstance") [.str x t, .type "str"]) Q E s := W.mk (IsiPair.str_str h)
theorem r_isstrL {l : Addr} {o : Obj} (S : St c m news s) (hl : s.heap.get? l = some o) (hc : o.cls = .type "list") (h : ∀ s', St c m news s' → Q (.bool false) s') : W c A (call (.builtin "isinstance") [.ref l, .type "str"]) Q E s :=
  W.mk (IsiPair.list_str hl hc (h _ (S.at rfl rfl rfl)))
end
theorem ints_at {vs : List Value} {path : List Nat} (h : IntsAre vs (path.map fun (k : Nat) => (k : Int))) {i : Nat} {n : Nat} (e : path[i]? = some n) : ∃ t, vs[i]? = some (Value.int ((n : Nat) : Int) t) := by
  induction path generalizing vs i with
  | nil => simp at e
  | cons a r ih =>
    cases h with
    | cons _ t h =>
      cases i with
      | zero => simp at e; subst e; exact ⟨t, rfl⟩
      | succ i => exact ih h (by simpa using e)
theorem ints_len {vs : List Value} {path : List Nat} (h : IntsAre vs (path.map fun (k : Nat) => (k : Int))) : vs.length = path.length := by
  have := h.length
  rw [List.length_map] at this
  exact this
/-- the mark that a path asks for -/
def pKind (path : List Nat) : Nat :=
  if path.getD 0 0 = 2147483732 then 2 else if path.getD 0 0 = 2147483697 then 1
  else if path.getD 0 0 = 2147483696 ∧ 3 < path.length ∧ (path.getD 3 0 = 2147483649 ∨ path.getD 3 0 = 2147483650) then path.getD 3 0 - 2147483646 else 0
def pTest (net : Nat) (path : List Nat) : Bool := decide (1 < net) || (decide (net = 0) && decide (1 < path.length) && decide (path.getD 1 0 = 2147483649))
def letters : List Nat := [120, 121, 122, 89, 90]
def tl3 (pub : Bool) : List Nat := if pub = true then pubT else prvT
def markOf (k : Nat) (pub : Bool) : Nat := if pub = true then (marks.getD k (0, [], 0, [])).2.2.1 else (marks.getD k (0, [], 0, [])).1
def pWant (net : Nat) (path : List Nat) (pub : Bool) : Nat := markOf (pKind path + if pTest net path = true then 5 else 0) pub
theorem pKind_lt (path : List Nat) : pKind path < 5 := by
  unfold pKind
  split
  · decide
  · split
    · decide
    · split
      · rename_i h
        rcases h.2.2 with e | e <;> rw [e] <;> decide
      · decide
def tabAt (P : Params) (d k : Nat) (pub : Bool) : Bool := match nsIn (KF P) d (tx (letters.getD k 0 :: tl3 pub)) with
  | some (some (.bytes b _)) => b.toList == toBE 4 (markOf (k + if d = 177 then 0 else 5) pub)
  | _ => false
theorem tab_all (P : Params) : ([177, 178, 179, 180].all fun d => [0, 1, 2, 3, 4].all fun k => [true, false].all fun pub => tabAt P d k pub) = true := by kernel_rfl
theorem tab (P : Params) {d k : Nat} (pub : Bool) (hd : d ∈ [177, 178, 179, 180]) (hk : k < 5) : ∃ t, nsIn (KF P) d (tx (letters.getD k 0 :: tl3 pub)) = some (some (.bytes (toBE 4 (markOf (k + if d = 177 then 0 else 5) pub)).toArray t)) := by
  have h := List.all_eq_true.mp (List.all_eq_true.mp (List.all_eq_true.mp (tab_all P) d hd) k (by
    have : k = 0 ∨ k = 1 ∨ k = 2 ∨ k = 3 ∨ k = 4 := by omega
    simpa using this)) pub (by cases pub <;> simp)
  unfold tabAt at h
  split at h
  · rename_i b t e
    rw [← beq_iff_eq.mp h]
    exact ⟨t, e⟩
  · cases h
abbrev netD : List Addr := [177, 178, 179, 180]
theorem net_dict (P : Params) {d : Addr} (h : d ∈ netD) : isDictOf P d := by
  simp only [List.mem_cons, List.mem_singleton, List.not_mem_nil, or_false] at h
  rcases h with rfl | rfl | rfl | rfl
  · exact di177 P
  · exact di178 P
  · exact di179 P
  · exact di180 P
/-- no network, or one -/
def netV (net : Nat) : Value := if net = 0 then .none else .ref (176 + net)
abbrev dvN : List Str := [PySem.Str.ofString "path", PySem.Str.ofString "default", PySem.Str.ofString "network"] ++ [PySem.Str.ofString "key", PySem.Str.ofString "net"]
end Mine
end

section
set_option Elab.async false
set_option maxRecDepth 100000
set_option linter.unusedVariables false
open PySem PySem.W PyProof.Rows PySem.Calls PySem.Spec
namespace Mine
theorem none_is : (Value.none == Value.none) = true := by decide +kernel
theorem ref_is (a : Addr) : (Value.ref a == Value.none) = false := rfl
section
variable {w : World} {mg mb : Str → Option Value} {A : Around} {s0 s : Shared} {L l : Addr} {vs : List Value} {k : Nat} {path : List Nat} {net : Nat} {news : List (Addr × Obj)}
def dvPost (s0 : Shared) (net : Nat) (path : List Nat) (pub : Bool) (fl : Flow) (s' : Shared) : Prop := Ext s0 s' ∧ ∃ t, fl = .ret (.bytes (toBE 4 (pWant net path pub)).toArray t)
theorem dv_tail {dv : Value} {pub : Bool} {kt : Tok} (R : Rm A 20) (hI : IntsAre vs (path.map fun (k : Nat) => (k : Int))) (hl : ∀ m s', St (cx w mg mb s0 L) m news s' → s'.heap.get? l = some (listOf vs.toArray k)) (hlen : path.length ≤ 5) (hn : net < 5)
    (S : St (cx w mg mb s0 L) (look dvN [some (.ref l), some dv, some (netV net), some (.str (tx (letters.getD (pKind path) 0 :: tl3 pub)) kt), some (.ref (if net = 0 then 177 else 176 + net))]) news s) :
    W (cx w mg mb s0 L) (A.deeper (callEnv fd1430 L 1430)) (execs ((defBody (topSt 47)).drop 6) (callEnv fd1430 L 1430)) (dvPost s0 net path pub) NoE s := by
  have hvl := ints_len hI
  have fin : ∀ (d : Addr) dv2 s, d ∈ netD → (d = 177 ↔ pTest net path = false) → St (cx w mg mb s0 L) (look dvN [some (.ref l), some dv, some dv2, some (.str (tx (letters.getD (pKind path) 0 :: tl3 pub)) kt), some (.ref d)]) news s →
      W (cx w mg mb s0 L) (A.deeper (callEnv fd1430 L 1430)) (execs ((defBody (topSt 47)).drop 7) (callEnv fd1430 L 1430)) (dvPost s0 net path pub) NoE s := fun d dv2 s hd ht S => by
    obtain ⟨tt, htab⟩ := tab w.params pub hd (pKind_lt path)
    refine open_body rfl ?_
    refine x_ret <| e_sub <| ld 4 S <| ld 3 S ?_
    refine d_item (net_dict _ hd) S htab fun s S _ => ⟨S.done, tt, ?_⟩
    unfold pWant
    by_cases h : pTest net path = true
    · rw [if_pos h, if_neg (fun q => by rw [ht.mp q] at h; cases h)]
    · rw [if_neg h, if_pos (ht.mpr (by simpa using h))]
  refine open_body rfl ?_
  by_cases h0 : net = 0
  · subst h0
    refine x_if <| t_and <| t_cmp <| ld 2 S <| c_none <| n_is <| t_bool <| ite_yes none_is ?_
    refine t_and <| t_cmp <| e_call <| b_len S <| cw_bt <| s_more <| ld 0 S <| s_nil ?_
    refine l_len S (hl _ _ S) (by omega) fun u s S => c_nat 1 S fun u s S => p_gt <| t_bool ?_
    rw [hvl]
    refine ite_two (fun h1 => ?_) fun h1 => ?_
    · have h1 := of_decide_eq_true h1
      obtain ⟨t1, ht1⟩ := ints_at hI (i := 1) (List.getElem?_eq_getElem h1)
      have hg : path[1] = path.getD 1 0 := by simp [List.getD, h1]
      refine t_and <| t_cmp <| e_sub <| ld 0 S <| c_nat 1 S fun u s S => ?_
      refine l_item (hl _ _ S) ht1 ?_
      refine e_bin <| glN 2147483648 S g_HARDENED_INDEX fun u => c_nat 1 S fun u s S => p_add S fun u s S => p_eq <| t_bool <| ite_two (fun h2 => ?_) fun h2 => ?_
      · have h2 := of_decide_eq_true h2
        refine t_and0 <| ite_yes rfl ?_
        refine x_asg <| e_sub <| gl S g_NETWORKS <| c_str S fun u s S => ?_
        refine d_item (di176 _) S (v := .ref 178) (at_of_map (nm_ok _) 1 rfl) fun s S _ => st 4 S fun s S => x_nil ?_
        refine fin 178 _ _ (by decide) ⟨fun q => absurd q (by decide), fun q => ?_⟩ S
        unfold pTest at q
        rw [← hg, h2] at q
        simp [h1] at q
      · refine ite_no Bool.false_ne_true <| x_nil ?_
        refine fin 177 _ _ (by decide) ⟨fun _ => ?_, fun _ => rfl⟩ S
        unfold pTest
        rw [← hg]
        simp at h2
        simp [h2]
    · refine ite_no Bool.false_ne_true <| x_nil ?_
      refine fin 177 _ _ (by decide) ⟨fun _ => ?_, fun _ => rfl⟩ S
      unfold pTest
      simp at h1
      simp [h1]
  · have hne : netV net = .ref (176 + net) := if_neg h0
    rw [if_neg h0, hne] at S
    refine x_if <| t_and <| t_cmp <| ld 2 S <| c_none ?_
    refine n_is (v := .ref (176 + net)) <| t_bool ?_
    refine ite_no (by rw [ref_is]; exact Bool.false_ne_true) <| ite_no Bool.false_ne_true <| x_nil ?_
    have hm : 176 + net ∈ netD := by
      have : net = 1 ∨ net = 2 ∨ net = 3 ∨ net = 4 := by omega
      rcases this with rfl | rfl | rfl | rfl <;> decide
    refine fin (176 + net) _ _ hm ⟨fun q => ?_, fun q => ?_⟩ S
    · have q : (176 + net : Nat) = 177 := q
      have : net = 1 := by omega
      subst this
      rfl
    · unfold pTest at q
      simp [h0] at q
      show (176 + net : Nat) = 177
      omega
theorem dv_mid {dt : Tok} {pub : Bool} (R : Rm A 20) (hI : IntsAre vs (path.map fun (k : Nat) => (k : Int))) (hl : ∀ m s', St (cx w mg mb s0 L) m news s' → s'.heap.get? l = some (listOf vs.toArray k)) (hlen : path.length ≤ 5) (hp : path ≠ []) (hn : net < 5)
    (S : St (cx w mg mb s0 L) (look dvN [some (.ref l), some (.str (tx (120 :: tl3 pub)) dt), some (netV net), some (.str (tx (120 :: tl3 pub)) dt), some (.ref (if net = 0 then 177 else 176 + net))]) news s) :
    W (cx w mg mb s0 L) (A.deeper (callEnv fd1430 L 1430)) (execs ((defBody (topSt 47)).drop 4) (callEnv fd1430 L 1430)) (dvPost s0 net path pub) NoE s := by
  have hvl := ints_len hI
  have hpos : 0 < path.length := List.length_pos_iff.mpr hp
  obtain ⟨tA, htA⟩ := ints_at hI (i := 0) (List.getElem?_eq_getElem hpos)
  have hg : path[0] = path.getD 0 0 := by simp [List.getD, hpos]
  rw [hg] at htA
  have cut : cutL (some 1) none (120 :: tl3 pub) = tl3 pub := by
    have := cut_drop (120 :: tl3 pub) 1
    exact this
  have l3 : (tl3 pub).length = 3 := by cases pub <;> rfl
  refine open_body rfl ?_
  refine x_if <| t_cmp <| e_call <| b_len S <| cw_bt <| s_more <| ld 0 S <| s_nil ?_
  refine l_len S (hl _ _ S) (by omega) fun u s S => c_nat 0 S fun u s S => p_eq <| t_bool ?_
  rw [hvl, decide_eq_false (by omega)]
  refine ite_no Bool.false_ne_true <| x_nil ?_
  refine x_if <| t_cmp <| e_sub <| ld 0 S <| c_nat 0 S fun u s S => ?_
  refine l_item (hl _ _ S) htA ?_
  refine e_bin <| glN 2147483648 S g_HARDENED_INDEX fun u => c_nat 84 S fun u s S => p_add S fun u s S => p_eq <| t_bool <| ite_two (fun h1 => ?_) fun h1 => ?_
  · have hk : pKind path = 2 := by unfold pKind; rw [if_pos (of_decide_eq_true h1)]
    refine x_asg <| e_bin <| c_tx [122] S fun u s S => e_sub <| ld 1 S <| e_cut <| pt_some <| c_int S fun u s S => pt_none ?_
    refine s_cutP S (.int _ _) .none (by simp [l3]) fun u s S => ?_
    rw [cut]
    refine s_add S (by rw [l3]; decide) fun u s S => st 3 S fun s S => x_nil ?_
    exact dv_tail R hI hl hlen hn (by rw [hk]; exact S)
  have n1 : path.getD 0 0 ≠ 2147483732 := by simpa using h1
  refine x_if <| t_cmp <| e_sub <| ld 0 S <| c_nat 0 S fun u s S => ?_
  refine l_item (hl _ _ S) htA ?_
  refine e_bin <| glN 2147483648 S g_HARDENED_INDEX fun u => c_nat 49 S fun u s S => p_add S fun u s S => p_eq <| t_bool <| ite_two (fun h2 => ?_) fun h2 => ?_
  · have hk : pKind path = 1 := by unfold pKind; rw [if_neg n1, if_pos (of_decide_eq_true h2)]
    refine x_asg <| e_bin <| c_tx [121] S fun u s S => e_sub <| ld 1 S <| e_cut <| pt_some <| c_int S fun u s S => pt_none ?_
    refine s_cutP S (.int _ _) .none (by simp [l3]) fun u s S => ?_
    rw [cut]
    refine s_add S (by rw [l3]; decide) fun u s S => st 3 S fun s S => x_nil <| x_nil ?_
    exact dv_tail R hI hl hlen hn (by rw [hk]; exact S)
  have n2 : path.getD 0 0 ≠ 2147483697 := by simpa using h2
  refine x_if <| t_cmp <| e_sub <| ld 0 S <| c_nat 0 S fun u s S => ?_
  refine l_item (hl _ _ S) htA ?_
  refine e_bin <| glN 2147483648 S g_HARDENED_INDEX fun u => c_nat 48 S fun u s S => p_add S fun u s S => p_eq <| t_bool <| ite_two (fun h3 => ?_) fun h3 => ?_
  · have h3 := of_decide_eq_true h3
    refine x_if <| t_cmp <| e_call <| b_len S <| cw_bt <| s_more <| ld 0 S <| s_nil ?_
    refine l_len S (hl _ _ S) (by omega) fun u s S => c_nat 4 S fun u s S => p_ge <| t_bool ?_
    rw [hvl]
    refine ite_two (fun h4 => ?_) fun h4 => ?_
    · have h4 := of_decide_eq_true h4
      obtain ⟨tB, htB⟩ := ints_at hI (i := 3) (List.getElem?_eq_getElem (show 3 < path.length by omega))
      have hg3 : path[3] = path.getD 3 0 := by simp [List.getD, show 3 < path.length by omega]
      rw [hg3] at htB
      refine x_if <| t_cmp <| e_sub <| ld 0 S <| c_nat 3 S fun u s S => ?_
      refine l_item (hl _ _ S) htB ?_
      refine e_bin <| glN 2147483648 S g_HARDENED_INDEX fun u => c_nat 1 S fun u s S => p_add S fun u s S => p_eq <| t_bool <| ite_two (fun h5 => ?_) fun h5 => ?_
      · have h5 := of_decide_eq_true h5
        have hk : pKind path = 3 := by unfold pKind; rw [if_neg n1, if_neg n2, if_pos ⟨h3, by omega, .inl h5⟩, h5]
        refine x_asg <| e_bin <| c_tx [89] S fun u s S => e_sub <| ld 1 S <| e_cut <| pt_some <| c_int S fun u s S => pt_none ?_
        refine s_cutP S (.int _ _) .none (by simp [l3]) fun u s S => ?_
        rw [cut]
        refine s_add S (by rw [l3]; decide) fun u s S => st 3 S fun s S => x_nil <| x_nil <| x_nil <| x_nil <| x_nil ?_
        exact dv_tail R hI hl hlen hn (by rw [hk]; exact S)
      have n5 : path.getD 3 0 ≠ 2147483649 := by simpa using h5
      refine x_if <| t_cmp <| e_sub <| ld 0 S <| c_nat 3 S fun u s S => ?_
      refine l_item (hl _ _ S) htB ?_
      refine e_bin <| glN 2147483648 S g_HARDENED_INDEX fun u => c_nat 2 S fun u s S => p_add S fun u s S => p_eq <| t_bool <| ite_two (fun h6 => ?_) fun h6 => ?_
      · have h6 := of_decide_eq_true h6
        have hk : pKind path = 4 := by unfold pKind; rw [if_neg n1, if_neg n2, if_pos ⟨h3, by omega, .inr h6⟩, h6]
        refine x_asg <| e_bin <| c_tx [90] S fun u s S => e_sub <| ld 1 S <| e_cut <| pt_some <| c_int S fun u s S => pt_none ?_
        refine s_cutP S (.int _ _) .none (by simp [l3]) fun u s S => ?_
        rw [cut]
        refine s_add S (by rw [l3]; decide) fun u s S => st 3 S fun s S => x_nil <| x_nil <| x_nil <| x_nil <| x_nil <| x_nil ?_
        exact dv_tail R hI hl hlen hn (by rw [hk]; exact S)
      · have n6 : path.getD 3 0 ≠ 2147483650 := by simpa using h6
        have hk : pKind path = 0 := by unfold pKind; rw [if_neg n1, if_neg n2, if_neg (fun q => q.2.2.elim n5 n6)]
        refine x_nil <| x_nil <| x_nil <| x_nil <| x_nil <| x_nil ?_
        exact dv_tail R hI hl hlen hn (by rw [hk]; exact S)
    · have hk : pKind path = 0 := by unfold pKind; rw [if_neg n1, if_neg n2, if_neg (fun q => h4 (decide_eq_true (by omega)))]
      refine x_nil <| x_nil <| x_nil <| x_nil ?_
      exact dv_tail R hI hl hlen hn (by rw [hk]; exact S)
  · have hk : pKind path = 0 := by unfold pKind; rw [if_neg n1, if_neg n2, if_neg (fun q => h3 (decide_eq_true q.1))]
    refine x_nil <| x_nil <| x_nil ?_
    exact dv_tail R hI hl hlen hn (by rw [hk]; exact S)
end
end Mine
end

section
set_option Elab.async false
set_option maxRecDepth 100000
set_option linter.unusedVariables false
open PySem PySem.W PyProof.Rows PySem.Calls PySem.Spec
namespace Mine
/-- a path as it is asked: a text, or a row -/
def PathV (h : Heap) (pv : Value) (path : List Nat) : Prop := (∃ t, pv = .str (tx (jn (pps path))) t) ∨ ∃ (l : Addr) (vs : List Value) (k : Nat), pv = .ref l ∧ h.get? l = some (listOf vs.toArray k) ∧ IntsAre vs (path.map fun (k : Nat) => (k : Int))
theorem C_detect {w mg mb A s0 pv dt pos} {pub : Bool} {path : List Nat} {net : Nat} (G : Gl w mg mb s0.heap) (R : Rm A 20) (hp : path ≠ []) (hb : ∀ n ∈ path, n < 4294967296) (hlen : path.length ≤ 5) (hn : net < 5) (hpv : PathV s0.heap pv path)
    (hbind : ∀ S, peek (KF w.params) S (bindArgs fd1430 ⟨pos, []⟩) = some ([PySem.Str.ofString "path", PySem.Str.ofString "default", PySem.Str.ofString "network"].zip [pv, .str (tx (120 :: tl3 pub)) dt, netV net])) :
    Gives w A (.ref 1430) pos [] (fun v _ => ∃ t, v = .bytes (toBE 4 (pWant net path pub)).toArray t) s0 := by
  refine enterW ["path", "default", "network"] ["key", "net"] [pv, .str (tx (120 :: tl3 pub)) dt, netV net] G R.less lk1430 (defBody (topSt 47)) rfl cd1430 (fun L s S => ?_) hbind
  have goal : W (cx w mg mb s0 L) (A.deeper (callEnv fd1430 L 1430)) (execs (defBody (topSt 47)) (callEnv fd1430 L 1430)) (dvPost s0 net path pub) NoE s := by
    have mid : ∀ s, St (cx w mg mb s0 L) (look dvN [some pv, some (.str (tx (120 :: tl3 pub)) dt), some (netV net), some (.str (tx (120 :: tl3 pub)) dt), some (.ref (if net = 0 then 177 else 176 + net))]) [] s →
        W (cx w mg mb s0 L) (A.deeper (callEnv fd1430 L 1430)) (execs ((defBody (topSt 47)).drop 3) (callEnv fd1430 L 1430)) (dvPost s0 net path pub) NoE s := by
      intro s S
      refine open_body rfl ?_
      rcases hpv with ⟨t, rfl⟩ | ⟨l, vs, k, rfl, hl, hI⟩
      · refine x_if <| t_val <| e_call <| b_isinstance S <| cw_bt <| s_more <| ld 0 S <| s_more <| b_str S <| s_nil ?_
        refine r_isstr <| t_bool <| ite_yes rfl ?_
        refine x_asg <| e_call <| gl S g_parse_path <| cw_fn' lk1442 <| s_more <| ld 0 S <| s_nil ⟨⟨_, _, S⟩, ?_⟩
        have S0 := S
        refine use S (C_pathtext S.gl R.deeper.less hp hb hlen) fun v s S x P => ?_
        obtain ⟨p, its, k, rfl, hN, hI⟩ := P
        have S := S0.add1 S hN
        refine st 0 S fun s S => x_nil ?_
        exact dv_mid R hI (fun m s' S' => (S'.N (p, _) (.head _)).1) hlen hp hn S
      · refine x_if <| t_val <| e_call <| b_isinstance S <| cw_bt <| s_more <| ld 0 S <| s_more <| b_str S <| s_nil ?_
        refine r_isstrL S (S.F.keep _ _ hl) rfl fun s S => t_bool <| ite_no Bool.false_ne_true <| x_nil ?_
        exact dv_mid R hI (fun m s' S' => S'.F.keep _ _ hl) hlen hp hn S
    refine open_body rfl ?_
    refine x_asg <| ld 1 S <| st 3 S fun s S => x_asg <| ld 2 S <| st 4 S fun s S => ?_
    by_cases h0 : net = 0
    · subst h0
      refine x_if <| t_cmp <| ld 2 S <| c_none <| n_is <| t_bool <| ite_yes none_is ?_
      refine x_asg <| e_sub <| gl S g_NETWORKS <| c_str S fun u s S => ?_
      refine d_item (di176 _) S (v := .ref 177) (at_of_map (nm_ok _) 0 rfl) fun s S _ => st 4 S fun s S => x_nil ?_
      exact mid _ S
    · have hne : netV net = .ref (176 + net) := if_neg h0
      rw [hne] at S
      refine x_if <| t_cmp <| ld 2 S <| c_none ?_
      refine n_is (v := .ref (176 + net)) <| t_bool ?_
      refine ite_no (by rw [ref_is]; exact Bool.false_ne_true) <| x_nil ?_
      refine mid _ ?_
      rw [hne, if_neg h0]
      exact S
  refine goal.mono (fun fl s' q => ?_) fun _ _ q => q
  obtain ⟨x, t, rfl⟩ := q
  exact ⟨x, t, rfl⟩
end Mine
end

section
set_option Elab.async false
set_option maxRecDepth 100000
set_option linter.unusedVariables false
open PySem PySem.W PyProof.Rows PySem.Calls PySem.Spec
namespace Mine
section
variable {prog : Program} {w : World} {A : Around} {E : Value → Shared → Prop} {s : Shared}
theorem nextOf_tuple_item {it t : Addr} {i : Nat} {items} {x : Value} {Q : Value → Shared → Prop} (hit : s.heap.IsTupleIter it t i)
    (ht : s.heap.IsTuple t items) (hx : items[i]? = some x)
    (hQ : ∀ h', h'.IsTupleIter it t (i + 1) → Heap.SameBut it s.heap h' → Q x { s with heap := h' }) :
    wpAny (model prog w) A (Builtin.SmallTypes.nextOf (.ref it)) Q E s := by
  obtain ⟨o, ho, hc, hd⟩ := id hit
  obtain ⟨ol, hol, _, nl, hdl⟩ := ht
  unfold Builtin.SmallTypes.nextOf
  refine wpAny_bind (wpAny_callSpecial?_slot (name := Str.ofString "__next__") hit.typeIs F.slot_tuple_iterator_next
    (wpAny_call_entry F.slot_tuple_iterator_next hit.typeIs F.entry_tuple_iterator_next ?_ (F.args_tuple_iterator_next_1 _)))
  show wpAny _ _ (field (.ref it) 0 >>= _) _ _ s
  refine wpAny_bind (wpAny_field ho hd (x := .ref t) rfl ?_)
  show wpAny _ _ (if (Value.ref t == Value.none) = true then _ else _) _ _ s
  rw [if_neg (show ¬ ((Value.ref t == Value.none) = true) from Bool.false_ne_true)]
  show wpAny _ _ (field (.ref it) 1 >>= _) _ _ s
  refine wpAny_bind (wpAny_field ho hd (x := .int i 0) rfl ?_)
  show wpAny _ _ (seqItems? (.ref t) >>= _) _ _ s
  refine wpAny_bind (wpAny_seqItems hol hdl ?_)
  simp only [Int.toNat_natCast, hx]
  refine wpAny_bind (wpAny_setField ho hd (by simp) (wpAny_pure ⟨x, rfl, wpAny_pure (hQ _ ?_ (Heap.SameBut.update ..))⟩))
  exact ⟨_, Heap.get?_update_self _ ho (Obj.isFreed_of_fields (Obj.data_mapFields hd _)), (Obj.cls_mapFields ..).trans hc, by
    rw [Obj.data_mapFields hd]; simp [rawInt]⟩
end
abbrev IsT3 (h : Heap) (T : Addr) (a b d : Value) : Prop := h.get? T = some { cls := .type "tuple", data := .seq #[a, b, d] }
structure Z3 (h : Heap) (n k : Nat) (l1 l2 t3 : Addr) (xs ys zs : List Value) (f0 : Value) : Prop where
  z : IsZip h (n + 5) (n + 3) (n + 4) f0
  TI : IsT3 h (n + 3) (.ref n) (.ref (n + 1)) (.ref (n + 2))
  TO : ∃ a b d, IsT3 h (n + 4) a b d
  i1 : h.IsListIter n l1 k
  i2 : h.IsListIter (n + 1) l2 k
  i3 : h.IsTupleIter (n + 2) t3 k
  L1 : h.IsList l1 xs.toArray
  L2 : h.IsList l2 ys.toArray
  L3 : h.IsTuple t3 zs.toArray
  b1 : l1 < n
  b2 : l2 < n
  b3 : t3 < n
section
variable {prog : Program} {w : World} {A : Around} {E : Value → Shared → Prop} {s : Shared}
theorem upd_t3 {T : Addr} {a b d x : Value} {k : Nat} {Q : Unit → Shared → Prop} (hT : IsT3 s.heap T a b d)
    (h : ∀ h', h'.get? T = some { cls := .type "tuple", data := .seq ((#[a, b, d] : Array Value).setIfInBounds k x) } → Heap.SameBut T s.heap h' → Q () { s with heap := h' }) :
    wpAny (model prog w) A (updateSeq T (·.setIfInBounds k x)) Q E s := by
  refine wpAny_updateSeq hT rfl (h _ ?_ (Heap.SameBut.update ..))
  rw [Heap.get?_update_self _ hT rfl]
  simp [Obj.mapSeq]
theorem neA {a b : Nat} (h : a ≠ b) : (a : Addr) ≠ b := h
theorem ltA {a n : Nat} (k : Nat) (h : a < n) : (a : Addr) ≠ n + k := by omega
theorem ltB {a n : Nat} (h : a < n) : (a : Addr) ≠ n := by omega
theorem zip3_item {n k : Nat} {l1 l2 t3 : Addr} {xs ys zs : List Value} {x y d : Value} {Q : Value → Shared → Prop} (Z : Z3 s.heap n k l1 l2 t3 xs ys zs .none)
    (hx : xs[k]? = some x) (hy : ys[k]? = some y) (hd : zs[k]? = some d)
    (hQ : ∀ h', Z3 h' n (k + 1) l1 l2 t3 xs ys zs (rawInt s.heap.objs.size) → IsT3 h' s.heap.objs.size x y d → 
      (∀ c o, c ≠ n → c ≠ n + 1 → c ≠ n + 2 → c ≠ n + 4 → c ≠ n + 5 → s.heap.get? c = some o → h'.get? c = some o) → Q (.ref s.heap.objs.size) { s with heap := h' }) :
    wpAny (model prog w) A (Builtin.«zip.__next__» ⟨[.ref (n + 5)], []⟩) (fun fin s' => ∃ v, fin = .done (.ret v) ∧ Q v s') E s := by
  obtain ⟨hz, hTI, ⟨a, b, e, hTO⟩, h1, h2, h3, hl1, hl2, hl3, b1, b2, b3⟩ := Z
  show wpAny _ _ (field (.ref (n + 5)) 2 >>= _) _ _ _
  refine wpAny_bind (wpAny_field hz rfl (x := .bool false) rfl ?_)
  show wpAny _ _ (field (.ref (n + 5)) 3 >>= _) _ _ _
  refine wpAny_bind (wpAny_field hz rfl (x := .ref (n + 3)) rfl ?_)
  refine wpAny_bind (wpAny_seqItems hTI rfl ?_)
  show wpAny _ _ (Builtin.SmallTypes.ownedTupleIsFree (.ref (n + 5)) >>= _) _ _ _
  refine wpAny_bind ?_
  unfold Builtin.SmallTypes.ownedTupleIsFree
  refine wpAny_bind (wpAny_field hz rfl (x := .none) rfl (wpAny_pure ?_))
  simp only [if_true]
  refine wpAny_bind (wpAny_rule ?_)
  refine wpAny_bind (wpAny_field hz rfl (x := .ref (n + 4)) rfl ?_)
  refine wpAny_bind (wpAny_setField_rec hz (by simp) fun h₁ hz₁ hs₁ => ?_)
  replace hz₁ : IsZip h₁ (n + 5) (n + 3) (n + 4) .ellipsis := hz₁
  refine wpAny_bind ?_
  simp only [List.zipIdx_cons, List.zipIdx_nil, List.forIn_cons, List.forIn_nil]
  have e1 : (n : Addr) ≠ n + 5 := neA (by omega)
  have c1 : l1 ≠ n + 5 := ltA 5 b1
  have c2 : l2 ≠ n + 5 := ltA 5 b2
  have c3 : t3 ≠ n + 5 := ltA 5 b3
  have d1 : l1 ≠ n := ltB b1
  have d2 : l2 ≠ n := ltB b2
  have d3 : t3 ≠ n := ltB b3
  have f1 : l1 ≠ n + 4 := ltA 4 b1
  have f2 : l2 ≠ n + 4 := ltA 4 b2
  have f3 : t3 ≠ n + 4 := ltA 4 b3
  have g1 : l1 ≠ n + 1 := ltA 1 b1
  have g2 : l2 ≠ n + 1 := ltA 1 b2
  have g3 : t3 ≠ n + 1 := ltA 1 b3
  have k1 : l1 ≠ n + 2 := ltA 2 b1
  have k2 : l2 ≠ n + 2 := ltA 2 b2
  have k3 : t3 ≠ n + 2 := ltA 2 b3
  have kp : ∀ {i j : Nat}, i ≠ j → (n + i : Addr) ≠ n + j := fun h => neA (by omega)
  have n0 : (n : Addr) = n + 0 := rfl
  refine wpAny_bind (wpAny_bind (wpAny_onRaise ?_))
  show wpAny _ _ (Builtin.SmallTypes.nextOf (.ref n) >>= _) _ _ _
  refine wpAny_bind (wpAny_nextOf_list_item (x := x) (h1.extBut hs₁.extBut e1) (hl1.extBut hs₁.extBut c1) (by simpa using hx) fun h₂ h1₂ hs₂ => wpAny_pure ?_)
  have hTO₂ : IsT3 h₂ (n + 4) a b e := hs₂.extBut _ _ (neA (by omega)) (hs₁.extBut _ _ (kp (by decide)) hTO)
  refine wpAny_bind (wpAny_seqItems hTO₂ rfl ?_)
  refine wpAny_bind (upd_t3 hTO₂ fun h₃ hTO₃ hs₃ => ?_)
  replace hTO₃ : IsT3 h₃ (n + 4) x b e := hTO₃
  refine wpAny_bind (wpAny_letGo (wpAny_pure ?_))
  refine wpAny_bind (wpAny_bind (wpAny_onRaise ?_))
  show wpAny _ _ (Builtin.SmallTypes.nextOf (.ref (n + 1)) >>= _) _ _ _
  refine wpAny_bind (wpAny_nextOf_list_item (x := y) (((h2.extBut hs₁.extBut (kp (by decide))).extBut hs₂.extBut (neA (by omega))).extBut hs₃.extBut (kp (by decide)))
    (((hl2.extBut hs₁.extBut c2).extBut hs₂.extBut d2).extBut hs₃.extBut f2) (by simpa using hy) fun h₄ h2₄ hs₄ => wpAny_pure ?_)
  have hTO₄ : IsT3 h₄ (n + 4) x b e := hs₄.extBut _ _ (kp (by decide)) hTO₃
  refine wpAny_bind (wpAny_seqItems hTO₄ rfl ?_)
  refine wpAny_bind (upd_t3 hTO₄ fun h₅ hTO₅ hs₅ => ?_)
  replace hTO₅ : IsT3 h₅ (n + 4) x y e := hTO₅
  refine wpAny_bind (wpAny_letGo (wpAny_pure ?_))
  refine wpAny_bind (wpAny_bind (wpAny_onRaise ?_))
  show wpAny _ _ (Builtin.SmallTypes.nextOf (.ref (n + 2)) >>= _) _ _ _
  refine wpAny_bind (nextOf_tuple_item (x := d) (((((h3.extBut hs₁.extBut (kp (by decide))).extBut hs₂.extBut (neA (by omega))).extBut hs₃.extBut (kp (by decide))).extBut hs₄.extBut (kp (by decide))).extBut hs₅.extBut (kp (by decide)))
    (hl3.at fun o q => hs₅.extBut _ _ f3 (hs₄.extBut _ _ g3 (hs₃.extBut _ _ f3 (hs₂.extBut _ _ d3 (hs₁.extBut _ _ c3 q))))) (by simpa using hd) fun h₆ h3₆ hs₆ => wpAny_pure ?_)
  have hTO₆ : IsT3 h₆ (n + 4) x y e := hs₆.extBut _ _ (kp (by decide)) hTO₅
  refine wpAny_bind (wpAny_seqItems hTO₆ rfl ?_)
  refine wpAny_bind (upd_t3 hTO₆ fun h₇ hTO₇ hs₇ => ?_)
  replace hTO₇ : IsT3 h₇ (n + 4) x y d := hTO₇
  refine wpAny_bind (wpAny_letGo (wpAny_pure (wpAny_pure ?_)))
  refine wpAny_bind (wpAny_seqItems hTO₇ rfl ?_)
  refine wpAny_bind (wpAny_newTuple ?_)
  have hsz : h₇.objs.size = s.heap.objs.size := by rw [hs₇.1, hs₆.1, hs₅.1, hs₄.1, hs₃.1, hs₂.1, hs₁.1]
  have hk₇ : ∀ (c : Addr) o, c ≠ n → c ≠ n + 1 → c ≠ n + 2 → c ≠ n + 4 → c ≠ n + 5 → s.heap.get? c = some o → h₇.get? c = some o := fun c o q1 q2 q3 q4 q5 e =>
    hs₇.extBut _ _ q4 (hs₆.extBut _ _ q3 (hs₅.extBut _ _ q4 (hs₄.extBut _ _ q2 (hs₃.extBut _ _ q4 (hs₂.extBut _ _ q1 (hs₁.extBut _ _ q5 e))))))
  have hz₇ : IsZip h₇ (n + 5) (n + 3) (n + 4) .ellipsis := hs₇.extBut _ _ (kp (by decide)) (hs₆.extBut _ _ (kp (by decide)) (hs₅.extBut _ _ (kp (by decide)) (hs₄.extBut _ _ (kp (by decide)) (hs₃.extBut _ _ (kp (by decide)) (hs₂.extBut _ _ (neA (by omega)) hz₁)))))
  have i1₇ : h₇.IsListIter n l1 (k + 1) := ((((h1₂.extBut hs₃.extBut (neA (by omega))).extBut hs₄.extBut (neA (by omega))).extBut hs₅.extBut (neA (by omega))).extBut hs₆.extBut (neA (by omega))).extBut hs₇.extBut (neA (by omega))
  have i2₇ : h₇.IsListIter (n + 1) l2 (k + 1) := ((h2₄.extBut hs₅.extBut (kp (by decide))).extBut hs₆.extBut (kp (by decide))).extBut hs₇.extBut (kp (by decide))
  have i3₇ : h₇.IsTupleIter (n + 2) t3 (k + 1) := h3₆.extBut hs₇.extBut (kp (by decide))
  show wpAny _ _ (Builtin.SmallTypes.ownedTupleHandOut (.ref (n + 5)) (.ref h₇.objs.size) >>= _) _ _ _
  refine wpAny_bind ?_
  unfold Builtin.SmallTypes.ownedTupleHandOut
  have hz₈ : IsZip (h₇.push { cls := .type "tuple", data := .seq #[x, y, d] }) (n + 5) (n + 3) (n + 4) .ellipsis := Heap.get?_push_of_some _ hz₇
  refine wpAny_bind (wpAny_setField_rec hz₈ (by simp) fun h₈ hz₉ hs₈ => ?_)
  replace hz₉ : IsZip h₈ (n + 5) (n + 3) (n + 4) (rawInt h₇.objs.size) := hz₉
  refine wpAny_setField_rec hz₉ (by simp) fun h₉ hz₁₀ hs₉ => ?_
  replace hz₁₀ : IsZip h₉ (n + 5) (n + 3) (n + 4) (rawInt h₇.objs.size) := hz₁₀
  have up : ∀ (c : Addr) o, c ≠ n + 5 → h₇.get? c = some o → h₉.get? c = some o := fun c o q e => hs₉.extBut _ _ q (hs₈.extBut _ _ q (Heap.get?_push_of_some _ e))
  have hzl : (n + 5 : Nat) < h₇.objs.size := Heap.lt_size hz₇
  have hT : IsT3 h₉ h₇.objs.size x y d := hs₉.extBut _ _ (Nat.ne_of_gt hzl) (hs₈.extBut _ _ (Nat.ne_of_gt hzl) (Heap.get?_push_size _ rfl))
  refine wpAny_pure ⟨_, rfl, ?_⟩
  show Q (.ref h₇.objs.size) _
  rw [hsz] at hz₁₀ hT ⊢
  refine hQ h₉ ⟨hz₁₀, up _ _ (kp (by decide)) (hk₇ _ _ (neA (by omega)) (kp (by decide)) (kp (by decide)) (kp (by decide)) (kp (by decide)) hTI), ⟨_, _, _, up _ _ (kp (by decide)) hTO₇⟩,
    i1₇.at fun o q => up _ o (neA (by omega)) q, i2₇.at fun o q => up _ o (kp (by decide)) q, i3₇.at fun o q => up _ o (kp (by decide)) q,
    hl1.at fun o q => up _ o c1 (hk₇ _ o d1 g1 k1 f1 c1 q), hl2.at fun o q => up _ o c2 (hk₇ _ o d2 g2 k2 f2 c2 q), hl3.at fun o q => up _ o c3 (hk₇ _ o d3 g3 k3 f3 c3 q), b1, b2, b3⟩ hT
    fun c o q1 q2 q3 q4 q5 e => up c o q5 (hk₇ c o q1 q2 q3 q4 q5 e)
theorem zip3_next {n k : Nat} {l1 l2 t3 : Addr} {xs ys zs : List Value} {x y d : Value} {Q : Option Value → Shared → Prop} (Z : Z3 s.heap n k l1 l2 t3 xs ys zs .none)
    (hx : xs[k]? = some x) (hy : ys[k]? = some y) (hd : zs[k]? = some d)
    (hQ : ∀ h', Z3 h' n (k + 1) l1 l2 t3 xs ys zs (rawInt s.heap.objs.size) → IsT3 h' s.heap.objs.size x y d → 
      (∀ c o, c ≠ n → c ≠ n + 1 → c ≠ n + 2 → c ≠ n + 4 → c ≠ n + 5 → s.heap.get? c = some o → h'.get? c = some o) → Q (some (.ref s.heap.objs.size)) { s with heap := h' }) :
    wpAny (model prog w) A (pyNext (.ref (n + 5))) Q E s := by
  have hT : s.TypeIs (.ref (n + 5)) "zip" := ⟨_, Z.z, rfl⟩
  unfold pyNext
  exact wpAny_bind (wpAny_attempt (wpAny_callSpecial?_slot (name := Str.ofString "__next__") hT F.slot_zip_next
    (wpAny_call_entry F.slot_zip_next hT F.entry_zip_next
      (zip3_item Z hx hy hd fun h' a1 a2 a3 => wpAny_pure (hQ h' a1 a2 a3)) (F.args_zip_next_1 _))))
theorem zip3_go {elts : List Expr} {x1} {pos : Pos} {n k : Nat} {l1 l2 t3 T : Addr} {xs ys zs : List Value} {Q : Unit → Shared → Prop} (Z : Z3 s.heap n k l1 l2 t3 xs ys zs (rawInt T))
    (hQ : ∀ h', Z3 h' n k l1 l2 t3 xs ys zs .none → Heap.SameBut (n + 5) s.heap h' → Q () { s with heap := h' }) :
    wpAny (model prog w) A (letOwnedTupleGo (.Tuple elts x1 pos) (.ref (n + 5)) (.ref T)) Q E s := by
  refine wpAny_letOwnedTupleGo_zip Z.z fun h' hz' hs' => hQ h' ⟨hz', hs'.extBut _ _ (neA (by omega)) Z.TI, ?_, Z.i1.extBut hs'.extBut (neA (by omega)), Z.i2.extBut hs'.extBut (neA (by omega)), Z.i3.extBut hs'.extBut (neA (by omega)),
    Z.L1.extBut hs'.extBut (ltA 5 Z.b1), Z.L2.extBut hs'.extBut (ltA 5 Z.b2), Z.L3.at fun o q => hs'.extBut _ _ (ltA 5 Z.b3) q, Z.b1, Z.b2, Z.b3⟩ hs'
  obtain ⟨a, b, d, h⟩ := Z.TO
  exact ⟨a, b, d, hs'.extBut _ _ (neA (by omega)) h⟩
theorem zip3_end {n k : Nat} {l1 l2 t3 : Addr} {xs ys zs : List Value} {Q : Option Value → Shared → Prop} (hh : A.handled = none) (Z : Z3 s.heap n k l1 l2 t3 xs ys zs .none)
    (hx : xs[k]? = none)
    (hQ : ∀ h', (∀ c o, c ≠ n → c ≠ n + 5 → s.heap.get? c = some o → h'.get? c = some o) → Q none { s with heap := h' }) :
    wpAny (model prog w) A (pyNext (.ref (n + 5))) Q E s := by
  obtain ⟨hz, hTI, ⟨a, b, e, hTO⟩, h1, h2, h3, hl1, hl2, hl3, b1, b2, b3⟩ := Z
  have hT : s.TypeIs (.ref (n + 5)) "zip" := ⟨_, hz, rfl⟩
  unfold pyNext
  refine wpAny_bind (wpAny_attempt (wpAny_callSpecial?_slot (name := Str.ofString "__next__") hT F.slot_zip_next
    (wpAny_call_entry F.slot_zip_next hT F.entry_zip_next ?_ (F.args_zip_next_1 _))))
  show wpAny _ _ (field (.ref (n + 5)) 2 >>= _) _ _ _
  refine wpAny_bind (wpAny_field hz rfl (x := .bool false) rfl ?_)
  show wpAny _ _ (field (.ref (n + 5)) 3 >>= _) _ _ _
  refine wpAny_bind (wpAny_field hz rfl (x := .ref (n + 3)) rfl ?_)
  refine wpAny_bind (wpAny_seqItems hTI rfl ?_)
  show wpAny _ _ (Builtin.SmallTypes.ownedTupleIsFree (.ref (n + 5)) >>= _) _ _ _
  refine wpAny_bind ?_
  unfold Builtin.SmallTypes.ownedTupleIsFree
  refine wpAny_bind (wpAny_field hz rfl (x := .none) rfl (wpAny_pure ?_))
  simp only [if_true]
  refine wpAny_bind (wpAny_rule ?_)
  refine wpAny_bind (wpAny_field hz rfl (x := .ref (n + 4)) rfl ?_)
  refine wpAny_bind (wpAny_setField_rec hz (by simp) fun h₁ hz₁ hs₁ => ?_)
  replace hz₁ : IsZip h₁ (n + 5) (n + 3) (n + 4) .ellipsis := hz₁
  refine wpAny_bind ?_
  simp only [List.zipIdx_cons, List.zipIdx_nil, List.forIn_cons, List.forIn_nil]
  refine wpAny_bind (wpAny_bind (wpAny_onRaise ?_))
  show wpAny _ _ (Builtin.SmallTypes.nextOf (.ref n) >>= _) _ _ _
  refine wpAny_bind (wpAny_nextOf_list_end hh (h1.extBut hs₁.extBut (neA (by omega))) (hl1.extBut hs₁.extBut (ltA 5 b1)) (by simpa using hx) fun h₂ e hs₂ he => ?_)
  obtain ⟨oe, hoe, hce⟩ := he
  have hz₂ : IsZip h₂ (n + 5) (n + 3) (n + 4) .ellipsis := hs₂ _ _ (neA (by omega)) hz₁
  have hez : e ≠ n + 5 := fun x => by subst x; rw [hz₂] at hoe; cases hoe; simp at hce
  refine wpAny_setField_rec hz₂ (by simp) fun h₃ _ hs₃ => ?_
  refine wpAny_bind (wpAny_isInstance (T := "StopIteration") (b := true) ⟨oe, hs₃.extBut _ _ hez hoe, hce⟩ isSubtype_stop ?_)
  exact wpAny_pure (hQ _ fun c o c1 c2 x => hs₃.extBut _ _ c2 (hs₂ _ _ c1 (hs₁.extBut _ _ c2 x)))
end
end Mine
end

section
set_option Elab.async false
set_option maxRecDepth 100000
set_option linter.unusedVariables false
open PySem PySem.W PyProof.Rows PySem.Calls PySem.Spec
namespace Mine
namespace Z
theorem typeCall_zip_3 (a b c : Value) : checkTypeCall "zip" ⟨[a, b, c], []⟩ = pure () := by kernel_rfl
theorem newCall_zip_3 (a b c : Value) : checkBuiltinCall "zip.__new__" ⟨[.type "zip", a, b, c], []⟩ = pure () := by kernel_rfl
theorem args_object_init_4 (a b c d : Value) : argsOk "object.__init__" ⟨[a, b, c, d], []⟩ := by
  unfold argsOk; rw [signature?_of (id := "object.__init__") (n := ['_', '_', 't', 'i', 'n', 'i', '_', '_']) (o := ['t', 'c', 'e', 'j', 'b', 'o']) (by kernel_rfl) F.owner_object]; kernel_rfl
end Z
abbrev zA (h : Heap) (l1 : Addr) : Heap := h.push { cls := .type "list_iterator", data := .fields #[.ref l1, .int 0 0] }
abbrev zB (h : Heap) (l1 l2 : Addr) : Heap := (zA h l1).push { cls := .type "list_iterator", data := .fields #[.ref l2, .int 0 0] }
abbrev zC (h : Heap) (l1 l2 t3 : Addr) : Heap := (zB h l1 l2).push { cls := .type "tuple_iterator", data := .fields #[.ref t3, .int 0 0] }
abbrev zD (h : Heap) (l1 l2 t3 : Addr) : Heap := (zC h l1 l2 t3).push { cls := .type "tuple", data := .seq #[.ref h.objs.size, .ref (zA h l1).objs.size, .ref (zB h l1 l2).objs.size] }
abbrev zE (h : Heap) (l1 l2 t3 : Addr) : Heap := (zD h l1 l2 t3).push { cls := .type "tuple", data := .seq #[.none, .none, .none] }
abbrev zF (h : Heap) (l1 l2 t3 : Addr) : Heap := (zE h l1 l2 t3).push { cls := .type "zip", data := .fields #[.none, .bool false, .bool false, .ref (zC h l1 l2 t3).objs.size, .ref (zD h l1 l2 t3).objs.size] }
set_option maxHeartbeats 4000000 in
theorem meets_zip3 (l1 l2 t3 : Addr) (xs ys zs : Array Value) :
    Meets (Builtin.«zip.__new__» ⟨[.type "zip", .ref l1, .ref l2, .ref t3], []⟩) (fun _ R s => s.heap.IsList l1 xs ∧ s.heap.IsList l2 ys ∧ s.heap.IsTuple t3 zs ∧
      R (.ok (.ret (.ref (zE s.heap l1 l2 t3).objs.size))) { s with heap := zF s.heap l1 l2 t3 }) :=
  .of_wp fun prog w A R s h => by
    obtain ⟨hp, g, d, tk, os⟩ := s; obtain ⟨hl1, hl2, hl3, h⟩ := h
    have hsub := sub_zip
    have hL1 : Heap.IsList (Shared.heap ⟨hp, g, d, tk, os⟩) l1 xs := hl1
    have hL2 : Heap.IsList (Shared.heap ⟨zA hp l1, g, d, tk, os⟩) l2 ys := Heap.IsList.push hl2 _
    have hL3 : Heap.IsTuple (Shared.heap ⟨zB hp l1 l2, g, d, tk, os⟩) t3 zs := Heap.IsTuple.push (Heap.IsTuple.push hl3 _) _
    wp_walk using wpAny_pyIter_list hL1, wpAny_pyIter_list hL2, wpAny_pyIter_tuple hL3
    exact ⟨_, rfl, h⟩
section
variable {prog : Program} {w : World} {A : Around} {E : Value → Shared → Prop} {s : Shared}
theorem call_zip3 {l1 l2 t3 : Addr} {xs ys zs : List Value} {Q : Value → Shared → Prop} (hl1 : s.heap.IsList l1 xs.toArray) (hl2 : s.heap.IsList l2 ys.toArray) (hl3 : s.heap.IsTuple t3 zs.toArray)
    (h : ∀ h', Z3 h' s.heap.objs.size 0 l1 l2 t3 xs ys zs .none → (∀ c o, s.heap.get? c = some o → h'.get? c = some o) → Q (.ref (s.heap.objs.size + 5)) { s with heap := h' }) :
    wpAny (model prog w) A (call (.type "zip") [.ref l1, .ref l2, .ref t3]) Q E s := by
  refine callType_new F.called_zip (by decide) (Z.typeCall_zip_3 _ _ _) (Z.newCall_zip_3 _ _ _) (fun obj => Z.args_object_init_4 obj _ _ _) F.entry_zip_new
    (meets_zip3 l1 l2 t3 xs.toArray ys.toArray zs.toArray) ⟨hl1, hl2, hl3, ?_⟩
  have z1 : (zA s.heap l1).objs.size = s.heap.objs.size + 1 := Heap.size_push ..
  have z2 : (zB s.heap l1 l2).objs.size = s.heap.objs.size + 2 := by rw [Heap.size_push, z1]
  have z3 : (zC s.heap l1 l2 t3).objs.size = s.heap.objs.size + 3 := by rw [Heap.size_push, z2]
  have z4 : (zD s.heap l1 l2 t3).objs.size = s.heap.objs.size + 4 := by rw [Heap.size_push, z3]
  have z5 : (zE s.heap l1 l2 t3).objs.size = s.heap.objs.size + 5 := by rw [Heap.size_push, z4]
  have up : ∀ {h : Heap} {o : Obj} {c : Addr} {o' : Obj}, h.get? c = some o' → (h.push o).get? c = some o' := fun e => Heap.get?_push_of_some _ e
  have g6 : (zF s.heap l1 l2 t3).get? (zE s.heap l1 l2 t3).objs.size = some _ := Heap.get?_push_size _ rfl
  have g5 : (zF s.heap l1 l2 t3).get? (zD s.heap l1 l2 t3).objs.size = some _ := up (Heap.get?_push_size _ rfl)
  have g4 : (zF s.heap l1 l2 t3).get? (zC s.heap l1 l2 t3).objs.size = some _ := up (up (Heap.get?_push_size _ rfl))
  have g3 : (zF s.heap l1 l2 t3).get? (zB s.heap l1 l2).objs.size = some _ := up (up (up (Heap.get?_push_size _ rfl)))
  have g2 : (zF s.heap l1 l2 t3).get? (zA s.heap l1).objs.size = some _ := up (up (up (up (Heap.get?_push_size _ rfl))))
  have g1 : (zF s.heap l1 l2 t3).get? s.heap.objs.size = some _ := up (up (up (up (up (Heap.get?_push_size _ rfl)))))
  have all : ∀ c o, s.heap.get? c = some o → (zF s.heap l1 l2 t3).get? c = some o := fun c o x => up (up (up (up (up (up x)))))
  show _ ∧ _
  rw [z3, z4, z5] at g6
  rw [z1, z2, z3] at g4
  rw [z4] at g5
  rw [z1] at g2
  rw [z2] at g3
  rw [z5]
  refine ⟨⟨_, g6, rfl⟩, h _ ⟨g6, g4, ⟨_, _, _, g5⟩, ⟨_, g1, rfl, rfl⟩, ⟨_, g2, rfl, rfl⟩, ⟨_, g3, rfl, rfl⟩, hl1.at fun o e => all _ o e, hl2.at fun o e => all _ o e, hl3.at fun o e => all _ o e, ?_, ?_, ?_⟩ all⟩
  · obtain ⟨o, e, _⟩ := hl1; exact Heap.lt_size e
  · obtain ⟨o, e, _⟩ := hl2; exact Heap.lt_size e
  · obtain ⟨o, e, _⟩ := hl3; exact Heap.lt_size e
end
abbrev zT (n : Nat) : Obj := { cls := .type "tuple", data := .seq #[.ref n, .ref (n + 1), .ref (n + 2)] }
abbrev zO (a b d : Value) : Obj := { cls := .type "tuple", data := .seq #[a, b, d] }
abbrev zZ (n : Nat) : Obj := { cls := .type "zip", dict := none, data := .fields #[.none, .bool false, .bool false, .ref (n + 3), .ref (n + 4)], slots := #[] }
theorem geA {a n k : Nat} (h : n + 6 ≤ a) (hk : k < 6) : (a : Addr) ≠ n + k := by omega
section
variable {c : Cx} {A : Around} {E : Value → Shared → Prop} {s : Shared} {news : List (Addr × Obj)} {env : Env} {ns : List Str} {vs : List (Option Value)}
/-- the loop, its iterator let go in between -/
theorem for_codeG {target : Expr} {it : Value} {body : List Stmt} {Q : Flow → Shared → Prop} (I : Nat → Shared → Prop)
    (turn : ∀ n s, I n s → W c A (pyNext it) (fun r s₁ => match r with
      | none => Q .next s₁
      | some v => W c A (letOwnedTupleGo target it v) (fun _ s₂ => W c A (assign target env v) (fun _ s₂ => W c A (execs body env) (fun f s₃ => match f with
          | .next | .cont => ∃ m, m < n ∧ I m s₃
          | .brk => Q .next s₃
          | .ret v => Q (.ret v) s₃) NoE s₂) NoE s₂) NoE s₁) NoE s)
    (n : Nat) (h : I n s) : ForW c A target it body env Q s := by
  refine codeN_loop rfl rfl I (fun n s hI => W.out (c := c) ?_) n h
  show W c A ((forTurn target it body [] env).onRaise _) _ _ s
  refine W.onRaise (W.mono (E := NoE) ?_ (fun _ _ q => q) fun _ _ q => q.elim)
  unfold forTurn
  refine W.stand (W.then (W.onRaise ((turn n s hI).mono (fun _ _ q => q) fun _ _ q => q.elim)) fun r s₁ h₁ => ?_)
  cases r with
  | none => exact W.pure (.inr ⟨rfl, codeN.of (codeAny_block (wpAny_execs_nil h₁))⟩)
  | some v =>
    show W c A (letOwnedTupleGo target it v >>= fun _ => _) _ _ s₁
    refine W.then h₁ fun _ s₂ h₁ => W.then h₁ fun _ s₂ h₂ => W.then h₂ fun f s₃ h₃ => ?_
    cases f with
    | next => exact W.pure (.inl ⟨rfl, h₃⟩)
    | cont => exact W.pure (.inl ⟨rfl, h₃⟩)
    | brk => exact W.pure h₃
    | ret v => exact W.pure h₃
/-- over a zip of two lists and a tuple -/
theorem w_zip3 {elts : List Expr} {ek : Nat} {epos : Pos} {body : List Stmt} {n : Nat} {l1 l2 t3 : Addr} {xs ys zs : List Value} {Q : Flow → Shared → Prop} (hA : A.handled = none)
    (J : Nat → List (Option Value) → List (Addr × Obj) → Prop) (e2 : ys.length = xs.length) (e3 : zs.length = xs.length)
    (q1 : (∃ o, c.g.get? l1 = some o) ∨ ∃ o, ∀ i vs nw, J i vs nw → (l1, o) ∈ nw) (q2 : (∃ o, c.g.get? l2 = some o) ∨ ∃ o, ∀ i vs nw, J i vs nw → (l2, o) ∈ nw) (q3 : (∃ o, c.g.get? t3 = some o) ∨ ∃ o, ∀ i vs nw, J i vs nw → (t3, o) ∈ nw)
    (ap : ∀ i vs nw, J i vs nw → ∀ p ∈ nw, p.1 < n ∨ n + 6 ≤ p.1)
    (turn : ∀ i x y d T vs nw s o1 o2 o3 o4 o5 o6, xs[i]? = some x → ys[i]? = some y → zs[i]? = some d → J i vs nw → St c (look ns vs) ((T, tupOf [x, y, d].toArray) :: (n, o1) :: (n + 1, o2) :: (n + 2, o3) :: (n + 3, o4) :: (n + 4, o5) :: (n + 5, o6) :: nw) s →
      W c A (assign (.Tuple elts ek epos) env (.ref T)) (fun _ s₂ => W c A (execs body env) (fun f s₃ => match f with
        | .next | .cont => ∃ vs' nw', J (i + 1) vs' nw' ∧ St c (look ns vs') ((n, o1) :: (n + 1, o2) :: (n + 2, o3) :: (n + 3, o4) :: (n + 4, o5) :: (n + 5, o6) :: nw') s₃
        | .brk => Q .next s₃
        | .ret v => Q (.ret v) s₃) NoE s₂) NoE s)
    (done : ∀ vs nw s, J xs.length vs nw → St c (look ns vs) nw s → Q .next s)
    (S : St c (look ns vs) news s) (hJ : J 0 vs news) (Z : Z3 s.heap n 0 l1 l2 t3 xs ys zs .none) (hn : c.g.objs.size ≤ n) (hL : c.L < n) :
    ForW c A (.Tuple elts ek epos) (.ref (n + 5)) body env Q s := by
  have gn : ∀ k : Nat, c.g.get? (n + k) = none := fun k => by
    cases q : c.g.get? (n + k) with
    | none => rfl
    | some o => exact absurd (Heap.lt_size q) (by show ¬ (n + k : Nat) < _; omega)
  have Ln : ∀ k : Nat, (n + k : Addr) ≠ c.L := fun k => by have h : (c.L : Nat) < n := hL; exact Ne.symm (ltA k h)
  refine for_codeG (fun k s => ∃ i vs nw, k = xs.length + 1 - i ∧ i ≤ xs.length ∧ Z3 s.heap n i l1 l2 t3 xs ys zs .none ∧ J i vs nw ∧ St c (look ns vs) nw s) ?_ (xs.length + 1) ⟨0, vs, news, rfl, Nat.zero_le _, Z, hJ, S⟩
  rintro k s ⟨i, vs, nw, rfl, hi, Z, hJ, S⟩
  have aw : ∀ p ∈ nw, ∀ k : Nat, k < 6 → p.1 ≠ n + k := fun p hp k hk q => by
    rcases ap _ _ _ hJ p hp with h1 | h1
    · exact ltA k h1 q
    · exact geA h1 hk q
  have keepS : ∀ {h' : Heap} {tk : Tok}, (∀ c o, c ≠ n → c ≠ n + 1 → c ≠ n + 2 → c ≠ n + 4 → c ≠ n + 5 → s.heap.get? c = some o → h'.get? c = some o) → St c (look ns vs) nw { s with heap := h', toks := tk } := fun {h' tk} kp => by
    obtain ⟨oL, es, ep, hL', r⟩ := S.F.ns
    have old : ∀ b o, c.g.get? b = some o → ∀ k : Nat, b ≠ n + k := fun b o e k q => by rw [q, gn k] at e; cases e
    refine ⟨S.G, ⟨⟨oL, es, ep, kp _ _ (Ne.symm (Ln 0)) (Ne.symm (Ln 1)) (Ne.symm (Ln 2)) (Ne.symm (Ln 4)) (Ne.symm (Ln 5)) hL', r⟩, fun b o e => kp _ _ (old b o e 0) (old b o e 1) (old b o e 2) (old b o e 4) (old b o e 5) (S.F.keep b o e), S.F.above⟩, fun p hp => ?_, S.gens, S.os⟩
    exact ⟨kp _ _ (aw p hp 0 (by decide)) (aw p hp 1 (by decide)) (aw p hp 2 (by decide)) (aw p hp 4 (by decide)) (aw p hp 5 (by decide)) (S.N p hp).1, (S.N p hp).2⟩
  by_cases hlt : i < xs.length
  · refine W.mk (zip3_next Z (List.getElem?_eq_getElem hlt) (List.getElem?_eq_getElem (show i < ys.length by omega)) (List.getElem?_eq_getElem (show i < zs.length by omega)) fun h' Z' hT kp => ?_)
    refine W.mk (zip3_go Z' fun h'' Z'' sb => ?_)
    have hTn : (s.heap.objs.size : Addr) ≠ n + 5 := fun q => by
      have h1 : (n + 5 : Nat) < s.heap.objs.size := Heap.lt_size Z.z
      have h2 : (s.heap.objs.size : Nat) = n + 5 := q
      omega
    have kp2 : ∀ c o, c ≠ n → c ≠ n + 1 → c ≠ n + 2 → c ≠ n + 4 → c ≠ n + 5 → s.heap.get? c = some o → h''.get? c = some o := fun c o a b d e f g => sb.extBut _ _ f (kp c o a b d e f g)
    have S1 := keepS (tk := s.toks) kp2
    obtain ⟨o1, ho1, _⟩ := id Z''.i1
    obtain ⟨o2, ho2, _⟩ := id Z''.i2
    obtain ⟨o3, ho3, _⟩ := id Z''.i3
    have ho4 := Z''.TI
    obtain ⟨ta, tb, td, ho5⟩ := Z''.TO
    have ho6 := Z''.z
    have hTs : h''.get? s.heap.objs.size = some (tupOf [xs[i], ys[i], zs[i]].toArray) := sb.extBut _ _ hTn hT
    have gT : c.g.get? s.heap.objs.size = none := by
      cases q : c.g.get? s.heap.objs.size with
      | none => rfl
      | some o => exact absurd (Heap.lt_size (S.F.keep _ _ q)) (Nat.lt_irrefl _)
    have LT : (s.heap.objs.size : Addr) ≠ c.L := fun q => by
      obtain ⟨oL, es, ep, hL', r⟩ := S.F.ns
      have := Heap.lt_size hL'
      rw [← q] at this
      exact Nat.lt_irrefl _ this
    have S2 : St c (look ns vs) ((s.heap.objs.size, tupOf [xs[i], ys[i], zs[i]].toArray) :: (n, o1) :: (n + 1, o2) :: (n + 2, o3) :: (n + 3, zT n) :: (n + 4, zO ta tb td) :: (n + 5, zZ n) :: nw) { s with heap := h'' } := by
      refine ⟨S1.G, S1.F, fun p hp => ?_, S1.gens, S1.os⟩
      rcases List.mem_cons.mp hp with rfl | hp
      · exact ⟨hTs, LT, gT⟩
      rcases List.mem_cons.mp hp with rfl | hp
      · exact ⟨ho1, Ln 0, gn 0⟩
      rcases List.mem_cons.mp hp with rfl | hp
      · exact ⟨ho2, Ln 1, gn 1⟩
      rcases List.mem_cons.mp hp with rfl | hp
      · exact ⟨ho3, Ln 2, gn 2⟩
      rcases List.mem_cons.mp hp with rfl | hp
      · exact ⟨ho4, Ln 3, gn 3⟩
      rcases List.mem_cons.mp hp with rfl | hp
      · exact ⟨ho5, Ln 4, gn 4⟩
      rcases List.mem_cons.mp hp with rfl | hp
      · exact ⟨ho6, Ln 5, gn 5⟩
      exact S1.N p hp
    refine (turn i _ _ _ _ vs nw _ o1 o2 o3 _ _ _ (List.getElem?_eq_getElem hlt) (List.getElem?_eq_getElem (show i < ys.length by omega)) (List.getElem?_eq_getElem (show i < zs.length by omega)) hJ S2).mono (fun _ s₂ h₂ => h₂.mono (fun f s₃ h₃ => ?_) fun _ _ q => q) fun _ _ q => q
    have go : (∃ vs' nw', J (i + 1) vs' nw' ∧ St c (look ns vs') ((n, o1) :: (n + 1, o2) :: (n + 2, o3) :: (n + 3, zT n) :: (n + 4, zO ta tb td) :: (n + 5, zZ n) :: nw') s₃) → ∃ m, m < xs.length + 1 - i ∧ ∃ i vs nw, m = xs.length + 1 - i ∧ i ≤ xs.length ∧ Z3 s₃.heap n i l1 l2 t3 xs ys zs .none ∧ J i vs nw ∧ St c (look ns vs) nw s₃ := by
      rintro ⟨vs', nw', hJ', S₃⟩
      have at_ : ∀ {a : Addr} {o : Obj}, (a, o) ∈ ((n, o1) :: (n + 1, o2) :: (n + 2, o3) :: (n + 3, zT n) :: (n + 4, zO ta tb td) :: (n + 5, zZ n) :: nw') → s₃.heap.get? a = some o := fun h => (S₃.N _ h).1
      have S₃' : St c (look ns vs') nw' s₃ := S₃.drop.drop.drop.drop.drop.drop
      have lst : ∀ {a : Addr}, ((∃ o, c.g.get? a = some o) ∨ ∃ o, ∀ i vs nw, J i vs nw → (a, o) ∈ nw) → ∀ o, h''.get? a = some o → s₃.heap.get? a = some o := fun {a} q o e => by
        have same : ∀ z, s₃.heap.get? a = some z → h''.get? a = some z → s₃.heap.get? a = some o := fun z e1 e2 => by
          rw [e] at e2
          cases e2
          exact e1
        rcases q with ⟨y, hy⟩ | ⟨y, hy⟩
        · exact same y (S₃'.F.keep _ _ hy) (S1.F.keep _ _ hy)
        · exact same y (S₃'.N _ (hy _ _ _ hJ')).1 (S1.N _ (hy _ _ _ hJ)).1
      refine ⟨xs.length + 1 - (i + 1), by omega, i + 1, vs', nw', rfl, hlt, ⟨at_ (o := zZ n) (by repeat (first | exact List.Mem.head _ | apply List.Mem.tail)), at_ (o := zT n) (by repeat (first | exact List.Mem.head _ | apply List.Mem.tail)), ⟨_, _, _, at_ (o := zO ta tb td) (by repeat (first | exact List.Mem.head _ | apply List.Mem.tail))⟩, ?_, ?_, ?_, Z''.L1.at fun o e => lst q1 o e, Z''.L2.at fun o e => lst q2 o e, Z''.L3.at fun o e => lst q3 o e, Z''.b1, Z''.b2, Z''.b3⟩, hJ', S₃'⟩
      · exact Z''.i1.at fun o e => by rw [ho1] at e; cases e; exact at_ (by repeat (first | exact List.Mem.head _ | apply List.Mem.tail))
      · exact Z''.i2.at fun o e => by rw [ho2] at e; cases e; exact at_ (by repeat (first | exact List.Mem.head _ | apply List.Mem.tail))
      · exact Z''.i3.at fun o e => by rw [ho3] at e; cases e; exact at_ (by repeat (first | exact List.Mem.head _ | apply List.Mem.tail))
    cases f with
    | next => exact go h₃
    | cont => exact go h₃
    | brk => exact h₃
    | ret v => exact h₃
  · have e : i = xs.length := by omega
    subst e
    exact W.mk (zip3_end hA Z (by simp) fun h' kp => done vs nw _ hJ (keepS (tk := s.toks) fun c o a b d e f g => kp c o a f g))
end
end Mine
end

section
set_option Elab.async false
set_option maxRecDepth 100000
set_option linter.unusedVariables false
open PySem PySem.W PyProof.Rows PySem.Calls PySem.Spec
namespace Mine
section
variable {c : Cx} {m : Str → Option Value} {A : Around} {E : Value → Shared → Prop} {s s' : Shared} {news : List (Addr × Obj)} {env : Env} {Q : Value → Shared → Prop}
abbrev baseOf (c : Cx) (s : Shared) : Heap := hideAll s.heap [c.L]
theorem base_get {b : Addr} {o : Obj} (e : s.heap.get? b = some o) (h : b ≠ c.L) : (baseOf c s).get? b = some o := hideAll_get _ e (by simpa using h)
theorem St.old_ne (S : St c m news s) {b : Addr} {o : Obj} (e : c.g.get? b = some o) : b ≠ c.L := fun q => by
  have h1 := Heap.lt_size e
  rw [q] at h1
  exact absurd h1 (Nat.not_lt_of_le S.F.above)
theorem St.caught (S : St c m news s) (ct : Caught (baseOf c s) s s') : St c m news s' := by
  refine ⟨S.G, ⟨ct.slots.ns S.F.ns, fun b o e => ct.stays _ _ (base_get (S.F.keep _ _ e) (S.old_ne e)), S.F.above⟩, fun p hp => ⟨ct.stays _ _ (base_get (S.N p hp).1 (S.N p hp).2.1), (S.N p hp).2⟩, ct.gens.trans S.gens, ct.os.trans S.os⟩
theorem St.nil_new (S : St c m news s) {v : Value} (h : NilNew (baseOf c s) s v s') : ∃ l, v = .ref l ∧ New s.heap s'.heap l (listOf ([] : List Value).toArray 0) := by
  obtain ⟨l, h₁, rfl, us, st, hn, hl⟩ := h
  refine ⟨l, rfl, hl, ?_⟩
  cases q : s.heap.get? l with
  | none => rfl
  | some o =>
    by_cases e : l = c.L
    · subst e
      obtain ⟨oL, es, ep, hL, _⟩ := us.ns S.F.ns
      rw [hn] at hL; cases hL
    · rw [st _ _ (base_get q e)] at hn; cases hn
theorem useC {f : Value} {args : List Value} {P : Value → Shared → Prop} (S : St c m news s) (hA : A.frames = some []) (hf : env.frame = some c.L) (hk : env.scope.kind ≠ .module)
    (C : Gl c.w c.mg c.mb (baseOf c s) → Below (A.deeper env) (baseOf c s) [env] s.heap → Catches c.w (A.deeper env) f args [] (baseOf c s) P s)
    (h : ∀ v s', St c m news s' → Caught (baseOf c s) s s' → P v s' → Q v s') : W c (A.deeper env) (call f args) Q E s := by
  have sub : ∀ b o, c.g.get? b = some o → (baseOf c s).get? b = some o := fun b o e => base_get (S.F.keep _ _ e) (S.old_ne e)
  have nL : (baseOf c s).get? c.L = none := hideAll_none _ (by simp)
  refine W.call ((C (S.G.keeps sub) ⟨Around.frames_deeper hA, fun b o e => of_hideAll _ e, ?_⟩).mono fun r s' q => ?_)
  · exact .cons hk hf S.F.ns nL trivial
  · match r, q with
    | .ok (.ret v), q => exact h v s' (S.caught q.1) q.1 q.2
    | .ok .next, q => exact q.elim
    | .ok .brk, q => exact q.elim
    | .ok .cont, q => exact q.elim
    | .error _, q => exact q.elim
end
end Mine
end

section
set_option Elab.async false
set_option maxRecDepth 100000
set_option linter.unusedVariables false
open PySem PySem.W PyProof.Rows PySem.Calls PySem.Spec
namespace Mine
def clOk (env : Env) (x : Str) : Bool := decide (env.scope.kind = .function) && decide (env.kindOf x = some .cell) && !(x == ("__debug__" : Str))
section
variable {c : Cx} {m : Str → Option Value} {A : Around} {E : Value → Shared → Prop} {s : Shared} {news : List (Addr × Obj)} {env : Env}
/-- a cell's value -/
theorem ldc {x : Str} {pos : Pos} {v : Value} {C : Addr} {o : Obj} {Q : Value → Shared → Prop} (S : St c m news s) (hm : (C, o) ∈ news) (hd : o.data = .cell (some v)) (h : Q v s) (hc : env.cells.lookup x = some C := by kernel_rfl) (hk : clOk env x = true := by kernel_rfl) :
    W c A (eval (.Name x pos) env) Q E s := W.mk <| by
  simp only [clOk, Bool.and_eq_true, decide_eq_true_eq, Bool.not_eq_true'] at hk
  exact wpAny_Name (wpAny_loadName_cell hk.1.1 hk.1.2 hc ⟨o, (S.N _ hm).1, hd⟩ h) hk.2
theorem St.upd (S : St c m news s) {a : Addr} {o o' : Obj} {g : Obj → List (Addr × Obj)} {h' : Heap} {tk : Tok} (U : UpdF a o news g) (hs : Heap.SameBut a s.heap h') (ho : h'.get? a = some o') : St c m (g o') { s with heap := h', toks := tk } := by
  obtain ⟨own, rest, rfl, hg, h1, h2⟩ := U.split
  have hmem := S.N (a, o) (List.mem_append_right _ (.head _))
  refine ⟨S.G, ⟨S.F.ns.sameBut hs (Ne.symm hmem.2.1), fun b ob e => (hs.2 b (fun q => ?_)).trans (S.F.keep b ob e), S.F.above⟩, hg o' ▸ S.N.setAt h1 h2 hs ho, S.gens, S.os⟩
  rw [q, hmem.2.2] at e; cases e
theorem stc {x : Str} {v : Value} {C : Addr} {o : Obj} {v0 : Option Value} {g : Obj → List (Addr × Obj)} {Q : Unit → Shared → Prop} (S : St c m news s) (U : UpdF C o news g) (hd : o.data = .cell v0)
    (h : ∀ s' o', St c m (g o') s' → o'.data = .cell (some v) → Q () s') (hc : env.cells.lookup x = some C := by kernel_rfl) (hk : clOk env x = true := by kernel_rfl) : W c A (storeName env x v) Q E s := W.mk <| by
  simp only [clOk, Bool.and_eq_true, decide_eq_true_eq, Bool.not_eq_true'] at hk
  obtain ⟨own, rest, e, _, _, _⟩ := U.split
  have hmem := S.N (C, o) (by rw [e]; exact List.mem_append_right _ (.head _))
  refine wpAny_storeName_cell hk.1.1 hk.1.2 hc ⟨o, hmem.1, hd⟩ fun h' hv hs => ?_
  obtain ⟨o', ho', hd'⟩ := hv
  exact h _ o' (S.upd (tk := s.toks) U hs ho') hd'
end
theorem codeN_cells {prog : Program} {w : World} {A : Around} {R : Result → Shared → Prop} {s : Shared} {a : Addr} {o : Obj} {fd : FuncData} {body : List Stmt} {args : Args} {binds : List (Str × Value)}
    (hroom : A.depth < recursionLimit) (ho : s.heap.get? a = some o) (hdata : o.data = .func fd) (hlim : s.heap.NoLimit) (hcd : s.heap.CodeRec fd.code fd.qualname)
    (hbody : fd.body = .stmts body) (hbind : BindsTo s fd args binds) (hclo : fd.closure = [])
    (hkind : ∀ x ∈ binds, fd.scope.names.lookup x.1 = some .local ∨ (fd.scope.names.lookup x.1 = some .cell ∧ ((cellsFrom (s.heap.objs.size + 1) fd.scope.names []).lookup x.1).isSome = true))
    (hco : fd.scope.isCoroutine = false) (hgen : fd.scope.isGenerator = false) (hk : fd.scope.kind = .function)
    (h : ∀ s₁, InCallC s (callEnvC fd s.heap.objs.size a).locals (bindL (callEnvC fd s.heap.objs.size a).kindOf binds fun _ => none) (callEnvC fd s.heap.objs.size a).cells
        (bindC (callEnvC fd s.heap.objs.size a).kindOf binds fun _ => none) s₁ →
      codeN (model prog w) A (.func body (callEnvC fd s.heap.objs.size a)) R s₁) :
    codeN (model prog w) A (.call (.ref a) args) R s := by
  refine codeN.tree rfl fun Γ p hΓ _ => ?_
  refine (show wpAny (model prog w) A.in1 (callAny (.ref a) args) (fun fin s' => match fin with | .done f => R (.ok f) s' | .again c' => c'.quiet = true ∧ codeN (model prog w) A c' R s') (fun e s' => R (.error e) s') s from ?_) Γ p hΓ
  simp only [callAny]
  refine wpAny_bind (wpAny_load ho ?_)
  obtain ⟨c, oc, vs, tq, hc, hoc, hdc, hq⟩ := hcd
  simp only [hdata, callFunction, hco, hgen, hbody, hc]
  refine wpAny_bind (m := field (.ref c) 1) (wpAny_field hoc hdc hq (wpAny_bind (wpAny_pure ?_)))
  refine wpAny_bind (hbind _ _ _ _ ?_)
  rw [hclo]
  refine wpAny_bind (wpAny_mono (Q := fun env s₂ => s₂.heap.NoLimit ∧ codeN (model prog w) A (.func body env) R s₂) (wpAny_newFunctionEnv_cells hk hkind fun env he s' x => ⟨hlim.keeps x.toInCall.keep, ?_⟩) (fun env s₂ h₂ => wpAny_bind (wpAny_enterFrame h₂.1 hroom (wpAny_pure (And.intro rfl h₂.2)))) fun _ _ q => q)
  subst he
  have := h s'
  unfold callEnvC at this
  rw [hc] at this
  exact this x
abbrev lawN : List Str := [PySem.Str.ofString "script", PySem.Str.ofString "numbers", PySem.Str.ofString "k", PySem.Str.ofString "second", PySem.Str.ofString "made", PySem.Str.ofString "row", PySem.Str.ofString "texts", PySem.Str.ofString "text", PySem.Str.ofString "own", PySem.Str.ofString "lost", PySem.Str.ofString "path", PySem.Str.ofString "kind", PySem.Str.ofString "net", PySem.Str.ofString "test", PySem.Str.ofString "asked", PySem.Str.ofString "told"]
abbrev lawE (L : Addr) : Env := callEnvC fd1490 L 1490
theorem lawScope : (fd1490.scope.isCoroutine = false ∧ fd1490.scope.isGenerator = false) ∧ fd1490.scope.kind = .function ∧ fd1490.closure = [] ∧ fd1490.scope.names.lookup (PySem.Str.ofString "script") = some .local := ⟨⟨by kernel_rfl, by kernel_rfl⟩, by kernel_rfl, by kernel_rfl, by kernel_rfl⟩
theorem lawCells (L : Addr) : (lawE L).cells = [(PySem.Str.ofString "turned", L + 1 + 1), (PySem.Str.ofString "parts", L + 1)] := by kernel_rfl
/-- entering the law -/
theorem enterLaw {w : World} {mg mb : Str → Option Value} {A : Around} {s : Shared} {v : Value} {P : Value → Shared → Prop} (G : Gl w mg mb s.heap) (R : Rm A 1)
    (h : ∀ L s' o1 o2, o1.data = .cell none → o2.data = .cell none → St (cx w mg mb s L) (look lawN [some v, none, none, none, none, none, none, none, none, none, none, none, none, none, none, none]) [(L + 1, o1), (L + 1 + 1, o2)] s' →
      W (cx w mg mb s L) (A.deeper (lawE L)) (execs (defBody (topSt 58)) (lawE L)) (fun fl s'' => Ext s s'' ∧ P (match fl with | .ret v => v | _ => .none) s'') NoE s') :
    Gives w A (.ref 1490) [v] [] P s := by
  have ls := lawScope
  refine codeN_cells (body := defBody (topSt 58)) (binds := [(PySem.Str.ofString "script", v)]) (by have := R.depth; omega) (G.K _ _ (lk1490 _)) rfl G.nolimit (codeRec_of G.K (cd1490 _)) rfl (kp_binds G.K (by intro S; kernel_rfl)) ls.2.2.1
    (fun x hx => by rw [List.mem_singleton.mp hx]; exact .inl ls.2.2.2) ls.1.1 ls.1.2 ls.2.1 fun s₁ I => ?_
  have Il := I.toInCall
  have hpar : s₁.heap.IsCell (s.heap.objs.size + 1) none := I.cell (PySem.Str.ofString "parts") _ (by kernel_rfl)
  have htur : s₁.heap.IsCell (s.heap.objs.size + 1 + 1) none := I.cell (PySem.Str.ofString "turned") _ (by kernel_rfl)
  have hns : s₁.heap.Ns s.heap.objs.size (look lawN [some v, none, none, none, none, none, none, none, none, none, none, none, none, none, none, none]) := by
    have e : (look lawN [some v, none, none, none, none, none, none, none, none, none, none, none, none, none, none, none]) = bindL (callEnvC fd1490 s.heap.objs.size 1490).kindOf [(PySem.Str.ofString "script", v)] fun _ => none := by
      funext y
      rw [show look lawN [some v, none, none, none, none, none, none, none, none, none, none, none, none, none, none, none] y = look [PySem.Str.ofString "script"] [some v] y from look_pad [PySem.Str.ofString "script"] _ [some v] 15 y rfl]
      unfold bindL bindL
      rw [if_pos (show (callEnvC fd1490 s.heap.objs.size 1490).kindOf (PySem.Str.ofString "script") = some .local from ls.2.2.2)]
      show (if y = _ then some v else look [] [] y) = _
      rfl
    rw [e]; exact Il.ns
  obtain ⟨o1, ho1, hd1⟩ := hpar
  obtain ⟨o2, ho2, hd2⟩ := htur
  have nog : ∀ k : Nat, s.heap.get? (s.heap.objs.size + k) = none := fun k => none_at (Nat.le_add_right _ _)
  refine codeN_func (M := model PW w) ((h s.heap.objs.size s₁ o1 o2 hd1 hd2 ⟨G, ⟨hns, Il.keep, Nat.le_refl _⟩, fun p hp => ?_, ?_, ?_⟩).mono (fun _ _ q => q) fun _ _ q => q.elim).out
  · rcases List.mem_cons.mp hp with rfl | hp
    · exact ⟨ho1, Nat.succ_ne_self _, nog 1⟩
    · rw [List.mem_singleton.mp hp]
      exact ⟨ho2, fun q => absurd q (by show ¬ (s.heap.objs.size + 1 + 1 : Nat) = s.heap.objs.size; omega), nog 2⟩
  · obtain ⟨h', tk, e⟩ := Il.same
    rw [e]
  · obtain ⟨h', tk, e⟩ := Il.same
    rw [e]
end Mine
end

section
set_option Elab.async false
set_option maxRecDepth 100000
set_option linter.unusedVariables false
open PySem PySem.W PyProof.Rows PySem.Calls PySem.Spec
namespace Mine
namespace FL
theorem slot_bytes_lt : Slot "bytes" (cmpInfo .Lt).2.1 "bytes.__lt__" :=
  .of (owner := "bytes") (n := "__lt__") (by rw [typeLookup_type, builtinLookup_eq_fast]; kernel_rfl) (by decide +kernel) (by decide +kernel) (by decide +kernel)
    (by first | exact .inl (by decide +kernel) | exact .inr (by decide +kernel)) (by rw [isSubtype_type]; kernel_rfl)
theorem entry_bytes_lt : entryFor table "bytes.__lt__" = some Builtin.«bytes.__lt__» := entryFor_of_tree (by kernel_rfl)
theorem args_bytes_lt_2 (a b : Value) : argsOk "bytes.__lt__" ⟨[a, b], []⟩ := by
  unfold argsOk; rw [signature?_of (id := "bytes.__lt__") (n := ['_', '_', 't', 'l', '_', '_']) (o := ['s', 'e', 't', 'y', 'b']) (by kernel_rfl) FB.owner_bytes]; kernel_rfl
end FL
theorem gives_bytes_lt (b c : Array UInt8) (t u : Tok) : PySem.Gives (Builtin.«bytes.__lt__» ⟨[.bytes b t, .bytes c u], []⟩) (.val (.bool (Builtin.Bytes.order b.toList c.toList == .lt))) := by
  refine .of_wp fun M A E s Q hq => ?_
  show wpAny M A (isInstance (.bytes c u) (.type "bytes") >>= fun r => _) _ E s
  refine wpAny_bind (wpAny_isInstance (typeIs_bytes s c u) F.sub_bytes_bytes ?_)
  exact wpAny_pure ⟨_, rfl, hq⟩
/-- the same octets at each place -/
def SameYs (vs ws : List Value) : Prop := vs.length = ws.length ∧ ∀ (j : Nat) (v w : Value), vs[j]? = some v → ws[j]? = some w → ∃ b t u, v = .bytes b t ∧ w = .bytes b u
section
variable {c : Cx} {m : Str → Option Value} {A : Around} {E : Value → Shared → Prop} {s : Shared} {news : List (Addr × Obj)} {env : Env} {t u : Tok} {Q : Value → Shared → Prop}
theorem y_lt {b d : List UInt8} (h : Q (.bool (Builtin.Bytes.order b d == .lt)) s) : W c A (compareOp .Lt (.bytes b.toArray t) (.bytes d.toArray u)) Q E s :=
  W.mk (compareOp_gives (op := .Lt) (typeIs_bytes s _ t) (typeIs_bytes s _ u) FL.slot_bytes_lt FL.entry_bytes_lt (FL.args_bytes_lt_2 _ _) (gives_bytes_lt _ _ t u) (fun e => nomatch e) h)
theorem n_nebool {a b : Bool} (h : Q (.bool (a != b)) s) : W c A (compareOp .NotEq (.bool a) (.bool b)) Q E s := W.mk (ne_bool h)
theorem e_and {e₁ e₂ : Expr} {pos : Pos} (h : W c A (eval e₁ env) (fun v s₁ => W c A (truthy v) (fun b s₂ => if b = true then W c A (eval e₂ env) Q E s₂ else Q v s₂) E s₁) E s) : W c A (eval (.BoolOp .And [e₁, e₂] pos) env) Q E s := by
  show W c A (do
    let v ← eval e₁ env
    standAt pos
    let b ← holding [v] (truthy v)
    match BoolOp.And, b with
    | .And, false | .Or, true => pure v
    | _, _ => eval e₂ env) Q E s
  refine W.then h fun v s₁ h => W.stand (W.then (W.hold h) fun b s₂ h => ?_)
  cases b with
  | false => exact W.pure h
  | true => exact h
theorem y_mul {b : List UInt8} {n : Nat} (S : St c m news s) (hb : b ≠ []) (hn : n ≤ 1000) (hs : b.length ≤ 16) (h : ∀ t s', St c m news s' → Q (.bytes ((List.replicate n b).flatten).toArray t) s') : W c A (binaryOp .Mult (.bytes b.toArray t) (.int (n : Int) u)) Q E s :=
  W.mk (bytes_mul_any hb (by omega) (by omega) hs fun _ _ => by rw [Int.toNat_natCast]; exact h _ _ (S.at rfl rfl rfl))
theorem eqAt_ys {A : Around} {vs ws : List Value} (h : SameYs vs ws) : ∀ j (h1 : j < vs.toArray.size) (h2 : j < ws.toArray.size), SeqAt.EqAt A s vs.toArray[j] ws.toArray[j] ((fun _ => true) j) := by
  intro j h1 h2
  simp only [List.size_toArray] at h1 h2
  obtain ⟨b, t, u, e1, e2⟩ := h.2 j vs[j] ws[j] (List.getElem?_eq_getElem h1) (List.getElem?_eq_getElem h2)
  intro prog w E Q hq
  simp only [List.getElem_toArray, e1, e2]
  exact eqBool_bytes (by rw [decide_eq_true rfl]; exact hq)
theorem l_neS {l k : Addr} {vs ws : List Value} {n i : Nat} (hl : s.heap.get? l = some (listOf vs.toArray n)) (hk : s.heap.get? k = some (listOf ws.toArray i)) (hs : SameYs vs ws) (hu : A.units < cLine) (h : Q (.bool false) s) : W c A (compareOp .NotEq (.ref l) (.ref k)) Q E s := by
  have e : (!(List.range vs.toArray.size).all fun _ => true) = false := by simp
  exact W.mk (EqBoolInt.of_rcne (SeqAt.RcNeAt.lists ⟨_, hl, rfl, _, rfl⟩ ⟨_, hk, rfl, _, rfl⟩ (by simpa using hs.1) hu (eqAt_ys hs)) (by rw [e]; exact h))
theorem l_eqS {l k : Addr} {vs ws : List Value} {n i : Nat} (hl : s.heap.get? l = some (listOf vs.toArray n)) (hk : s.heap.get? k = some (listOf ws.toArray i)) (hs : SameYs vs ws) (hu : A.units < cLine) (h : Q (.bool true) s) : W c A (compareOp .Eq (.ref l) (.ref k)) Q E s := by
  have e : ((List.range vs.toArray.size).all fun _ => true) = true := by simp
  exact W.mk (SeqAt.eq_listAt ⟨_, hl, rfl, _, rfl⟩ ⟨_, hk, rfl, _, rfl⟩ (by simpa using hs.1) hu (eqAt_ys hs) (by rw [e]; exact h))
theorem u_in {l : Addr} {vs : List Value} {ns : List Int} {x : Int} (hl : s.heap.get? l = some (tupOf vs.toArray)) (hi : IntsAre vs ns) (h : Q (.bool (ns.any (· == x))) s) : W c A (compareOp .In (.int x u) (.ref l)) Q E s :=
  W.mk (in_tuple_ints ⟨_, hl, rfl, _, rfl⟩ hi h)
theorem St.addHd (S0 : St c m news s) {s' : Shared} {x : Addr} {H : Hd} (S : St c m news s') (K : HdOb (newOnly s.heap s'.heap) x H) : ∃ l, St c m (l ++ news) s' ∧ ∀ m' nw s'', St c m' nw s'' → (∀ q ∈ l, q ∈ nw) → HdOb (newOnly c.g s''.heap) x H := by
  obtain ⟨k, t1, t2, t3, t4, t5, t6, O, K⟩ := K
  obtain ⟨lk, Sk, hk⟩ := S0.addKey S K
  obtain ⟨d, es, n, a, b, e⟩ := O
  have S2 : St c m ((x, instObj 1420 d) :: (d, dictOf es n) :: (lk ++ news)) s' := by
    refine ⟨S.G, S.F, fun q hq => ?_, S.gens, S.os⟩
    have mk : ∀ {a : Addr} {o : Obj}, (newOnly s.heap s'.heap).get? a = some o → s'.heap.get? a = some o ∧ a ≠ c.L ∧ c.g.get? a = none := fun {a o} e => (S0.add1 S (a := a) (o := o) ⟨newOnly_of e, newOnly_none e⟩).N _ (.head _)
    rcases List.mem_cons.mp hq with rfl | hq
    · exact mk a
    rcases List.mem_cons.mp hq with rfl | hq
    · exact mk b
    exact Sk.N q hq
  refine ⟨(x, instObj 1420 d) :: (d, dictOf es n) :: lk, S2, fun m' nw s'' S3 h => ?_⟩
  exact ⟨k, t1, t2, t3, t4, t5, t6, S3.obN (h _ (.head _)) (h _ (.tail _ (.head _))) e, hk m' nw s'' S3 fun q hq => h q (.tail _ (.tail _ hq))⟩
end
end Mine
end

section
set_option Elab.async false
set_option maxRecDepth 100000
set_option linter.unusedVariables false
open PySem PySem.W PyProof.Rows PySem.Calls PySem.Spec
namespace Mine
section
variable {c : Cx} {m : Str → Option Value} {A : Around} {E : Value → Shared → Prop} {s : Shared} {news : List (Addr × Obj)} {Q : Value → Shared → Prop}
theorem r_listF {vs : List Value} (S : St c m news s) (h : ∀ l s', St c m ((l, listOf vs.toArray 0) :: news) s' → (∀ p ∈ news, p.1 ≠ l) → Q (.ref l) s') (hz : vs.length ≤ 16777216 := by exact Nat.le_of_ble_eq_true rfl) : W c A (newList vs) Q E s :=
  W.mk (newList_K S.F S.N (fun l h' F' N' lt => h l _ ⟨S.G, F', N', S.gens, S.os⟩ fun p hp => Nat.ne_of_lt (lt p hp)) (by rw [sizeLine_eq]; exact hz))
end
theorem ints_atI {vs : List Value} {ns : List Int} (h : IntsAre vs ns) : ∀ {i : Nat}, i < ns.length → ∃ t, vs[i]? = some (Value.int (ns.getD i 0) t) := by
  induction h with
  | nil => intro i hi; simp at hi
  | cons n t h ih =>
    intro i hi
    cases i with
    | zero => exact ⟨t, rfl⟩
    | succ i => exact ih (by simpa using hi)
abbrev lawFor1 : List Stmt := stFor (((defBody (topSt 58)).drop 2).headD noSt)
def partOf (ns : List Int) (k : Nat) : Part :=
  ⟨(ns.getD k 0 % ((20 : Nat) : Int)).toNat, (ns.getD (k + 1) 0 % ((256 : Nat) : Int)).toNat, (ns.getD (k + 2) 0 % ((2 ^ 32 : Nat) : Int)).toNat, (ns.getD (k + 3) 0 % ((2 ^ 32 : Nat) : Int)).toNat, (ns.getD (k + 4) 0 % ((2 ^ 256 : Nat) : Int)).toNat, 1 + (ns.getD (k + 5) 0 % ((2 ^ 254 : Nat) : Int)).toNat⟩
theorem partOf_ok (ns : List Int) (k : Nat) : (partOf ns k).Ok := by
  refine ⟨modlt _ (by decide), modlt _ (by decide), ?_, ?_, ?_, ?_, ?_⟩
  · exact modlt _ (b := 2 ^ 32) (by decide)
  · exact modlt _ (b := 2 ^ 32) (by decide)
  · exact modlt _ (b := 2 ^ 256) (by decide)
  · show 0 < 1 + _; omega
  · have := modlt (ns.getD (k + 5) 0) (b := 2 ^ 254) (by decide)
    have h : (2 : Nat) ^ 254 < prime := by decide
    show 1 + _ < prime
    omega
abbrev partV (p : Part) (t0 t1 t2 t3 t4 t5 : Tok) : List Value := [.int (p.kind : Nat) t0, .int (p.depth : Nat) t1, .int (p.finger : Nat) t2, .int (p.number : Nat) t3, .int (p.chain : Nat) t4, .int (p.secret : Nat) t5]
abbrev v13 : List (Option Value) := [none, none, none, none, none, none, none, none, none, none, none, none, none]
set_option maxHeartbeats 1000000 in
theorem law_row {w mg mb A s0 s L Nl P sc kN tk op refs i} {k0 : Nat} {nums : List Int} {vsN : List Value} {rest : List (Addr × Obj)} (R : Rm A 70) (hI : IntsAre vsN nums) (hlen : k0 + 5 < nums.length) (hk0 : k0 ≤ 6)
    (S : St (cx w mg mb s0 L) (look lawN (some sc :: some (.ref Nl) :: some (.int (k0 : Nat) tk) :: v13)) ((P, listOf (refs : List Value).toArray i) :: rest) s) (hN : (Nl, listOf vsN.toArray kN) ∈ rest) (hc : (L + 1, op) ∈ rest) (hd : op.data = .cell (some (.ref P))) (ap : ∀ p ∈ rest, p.1 ≠ P) (hr : refs.length ≤ 100) :
    W (cx w mg mb s0 L) (A.deeper (lawE L)) (execs lawFor1 (lawE L)) (fun f s' => f = .next ∧ ∃ (a : Addr) (t0 t1 t2 t3 t4 t5 : Tok), (∀ p ∈ (P, listOf refs.toArray i) :: rest, p.1 ≠ a) ∧ St (cx w mg mb s0 L) (look lawN (some sc :: some (.ref Nl) :: some (.int (k0 : Nat) tk) :: v13)) ((P, listOf (refs ++ [Value.ref a]).toArray (i + 1)) :: (a, listOf (partV (partOf nums k0) t0 t1 t2 t3 t4 t5).toArray 0) :: rest) s') NoE s := by
  have gN : ∀ {s'}, St (cx w mg mb s0 L) (look lawN (some sc :: some (.ref Nl) :: some (.int (k0 : Nat) tk) :: v13)) ((P, listOf refs.toArray i) :: rest) s' → s'.heap.get? Nl = some (listOf vsN.toArray kN) := fun S => (S.N _ (.tail _ hN)).1
  obtain ⟨u0, h0⟩ := ints_atI hI (i := k0) (by omega)
  obtain ⟨u1, h1⟩ := ints_atI hI (i := k0 + 1) (by omega)
  obtain ⟨u2, h2⟩ := ints_atI hI (i := k0 + 2) (by omega)
  obtain ⟨u3, h3⟩ := ints_atI hI (i := k0 + 3) (by omega)
  obtain ⟨u4, h4⟩ := ints_atI hI (i := k0 + 4) (by omega)
  obtain ⟨u5, h5⟩ := ints_atI hI (i := k0 + 5) (by omega)
  refine open_body rfl ?_
  refine x_expr <| e_meth <| ldc S (.tail _ hc) hd <| g_append S (.head _) <| cw_bt' <| s_more <| e_list ?_
  refine s_more <| e_bin <| e_sub <| ld 1 S <| ld 2 S ?_
  refine l_item (gN S) h0 (hz := by omega) <| c_nat 20 S fun u s S => p_modI S (by decide) fun t0 s S => ?_
  refine s_more <| e_bin <| e_sub <| ld 1 S <| e_bin <| ld 2 S <| c_nat 1 S fun u s S => p_add S fun u s S => ?_
  refine l_item (gN S) h1 (hz := by omega) <| c_nat 256 S fun u s S => p_modI S (by decide) fun t1 s S => ?_
  refine s_more <| e_bin <| e_sub <| ld 1 S <| e_bin <| ld 2 S <| c_nat 2 S fun u s S => p_add S fun u s S => ?_
  refine l_item (gN S) h2 (hz := by omega) <| e_bin <| c_nat 2 S fun u s S => c_nat 32 S fun u s S => p_pow S (by decide) (by decide) fun u s S => p_modI S (by decide) fun t2 s S => ?_
  refine s_more <| e_bin <| e_sub <| ld 1 S <| e_bin <| ld 2 S <| c_nat 3 S fun u s S => p_add S fun u s S => ?_
  refine l_item (gN S) h3 (hz := by omega) <| e_bin <| c_nat 2 S fun u s S => c_nat 32 S fun u s S => p_pow S (by decide) (by decide) fun u s S => p_modI S (by decide) fun t3 s S => ?_
  refine s_more <| e_bin <| e_sub <| ld 1 S <| e_bin <| ld 2 S <| c_nat 4 S fun u s S => p_add S fun u s S => ?_
  refine l_item (gN S) h4 (hz := by omega) <| e_bin <| c_nat 2 S fun u s S => c_nat 256 S fun u s S => p_pow S (by decide) (by decide) fun u s S => p_modI S (by decide) fun t4 s S => ?_
  refine s_more <| e_bin <| c_nat 1 S fun u s S => e_bin <| e_sub <| ld 1 S <| e_bin <| ld 2 S <| c_nat 5 S fun u s S => p_add S fun u s S => ?_
  refine l_item (gN S) h5 (hz := by omega) <| e_bin <| c_nat 2 S fun u s S => c_nat 254 S fun u s S => p_pow S (by decide) (by decide) fun u s S => p_modI S (by decide) fun u s S => p_add S fun t5 s S => ?_
  refine s_nil <| r_listF S fun a s S hF => s_nil ?_
  have S2 := S.sub (nw := (P, listOf refs.toArray i) :: (a, listOf (partV (partOf nums k0) t0 t1 t2 t3 t4 t5).toArray 0) :: rest) fun p hp => by
    rcases List.mem_cons.mp hp with rfl | hp
    · exact .tail _ (.head _)
    · rcases List.mem_cons.mp hp with rfl | hp
      · exact .head _
      · exact .tail _ (.tail _ hp)
  refine r_append S2 (fun p hp => ?_) (by omega) fun s S => ?_
  · rcases List.mem_cons.mp hp with rfl | hp
    · exact (hF (P, _) (.head _)).symm
    · exact ap p hp
  exact x_nil ⟨rfl, a, t0, t1, t2, t3, t4, t5, hF, S⟩
end Mine
end

section
set_option Elab.async false
set_option maxRecDepth 100000
set_option linter.unusedVariables false
open PySem PySem.W PyProof.Rows PySem.Calls PySem.Spec
namespace Mine
theorem walksT {w : World} {A : Around} (hA : A.handled = none) (I ax : Addr) (hne : ax ≠ I) (vs : List Value) :
    Walks PW w A I [I, ax] [I] vs.length (fun i v => vs[i]? = some v) (fun i h => h.IsTupleIter I ax i ∧ h.IsTuple ax vs.toArray) := by
  have W := Walks.tuple (prog := PW) (w := w) hA I ax hne vs.toArray
  rw [List.size_toArray] at W
  exact ⟨W.sub, W.frame, fun i s Q E hi st hQ => W.item i s Q E hi st fun v h' tk hP => hQ v h' tk (by simpa using hP), W.done, W.self⟩
section
variable {c : Cx} {m : Str → Option Value} {A : Around} {E : Value → Shared → Prop} {s : Shared} {news : List (Addr × Obj)} {Q : Value → Shared → Prop}
theorem r_tupleF {vs : List Value} (S : St c m news s) (h : ∀ l s', St c m ((l, tupOf vs.toArray) :: news) s' → (∀ p ∈ news, p.1 ≠ l) → Q (.ref l) s') (hz : vs.length ≤ 16777216 := by exact Nat.le_of_ble_eq_true rfl) : W c A (newTuple vs) Q E s :=
  W.mk (newTuple_N S.F S.N (fun h' F' N' => h _ _ ⟨S.G, F', N', S.gens, S.os⟩ fun p hp => Nat.ne_of_lt (Heap.lt_size (S.N p hp).1)) (by rw [sizeLine_eq]; exact hz))
theorem l_cutI {l : Addr} {vs : List Value} {vl vu : Value} {lo hi : Option Int} {value slice : Expr} (S : St c m news s) (hl : s.heap.IsList l vs.toArray) (pl : IsPart vl lo) (pu : IsPart vu hi) (hz : vs.length ≤ 1000000)
    (h : ∀ D s', St c m ((D, listOf (cutL lo hi vs).toArray 0) :: news) s' → (∀ p ∈ news, p.1 ≠ D) → Q (.ref D) s')
    (hs : subscripted slice false (.ref l) (.ref s.heap.objs.size) = operate [.ref s.heap.objs.size, .ref l] (getItem (.ref l) (.ref s.heap.objs.size)) := by with_unfolding_all rfl) :
    W c A (subscriptTail value slice (.ref l) (.ref s.heap.objs.size)) Q E { s with heap := s.heap.push { cls := .type "slice", data := .fields #[vl, vu, .none] } } := by
  refine W.mk (tail_any (Heap.IsList.typeIs (s := { s with heap := s.heap.push { cls := .type "slice", data := .fields #[vl, vu, .none] } }) (hl.push _)) slot_list_getitem.lookup
    (wpAny_getItem_list_slice (hl.push _) (Heap.IsSliceOf.new ..) pl pu .none (by simp) ?_ (by rw [sizeLine_eq, List.size_toArray]; omega)) hs)
  show Q (.ref (s.heap.push _).objs.size) _
  have e : slicePick vs.toArray lo hi none = (cutL lo hi vs).toArray := by rw [slicePick_plain]; simp only [List.size_toArray]; rfl
  rw [e]
  have S1 := S.push (o := { cls := .type "slice", data := .fields #[vl, vu, .none] })
  have S2 : St c m ((_, listOf (cutL lo hi vs).toArray 0) :: news) { s with heap := (s.heap.push { cls := .type "slice", data := .fields #[vl, vu, .none] }).push (listOf (cutL lo hi vs).toArray 0) } := ⟨S1.G, S1.F.push _, S1.N.push S1.F _, S1.gens, S1.os⟩
  exact h _ _ S2 fun p hp => by rw [Heap.size_push]; exact Nat.ne_of_lt (Nat.lt_succ_of_lt (Heap.lt_size (S.N p hp).1))
end
def numsOf (ns : List Int) : List Int := ns.take 21 ++ List.replicate 21 0
theorem numsOf_len (ns : List Int) : 21 ≤ (numsOf ns).length := by unfold numsOf; simp
theorem ints_app : ∀ {vs ws : List Value} {ns ms : List Int}, IntsAre vs ns → IntsAre ws ms → IntsAre (vs ++ ws) (ns ++ ms)
  | _, _, _, _, .nil, h => h
  | _, _, _, _, .cons n t r, h => .cons n t (ints_app r h)
theorem ints_rep (t : Tok) : ∀ k, IntsAre (List.replicate k (Value.int ((0 : Nat) : Int) t)) (List.replicate k 0)
  | 0 => .nil
  | k + 1 => .cons _ _ (ints_rep t k)
/-- the second key's parts -/
def turnedOf (ns : List Int) : Nat := (ns.getD 12 0 % ((7 : Nat) : Int)).toNat
def secondOf (ns : List Int) : Part :=
  let a := partOf ns 0
  let b := partOf ns 6
  let t := turnedOf ns
  ⟨if t = 0 ∨ t = 1 then b.kind else a.kind, if t = 0 ∨ t = 2 then b.depth else a.depth, if t = 0 ∨ t = 3 then b.finger else a.finger, if t = 0 ∨ t = 4 then b.number else a.number, if t = 0 ∨ t = 5 then b.chain else a.chain, if t = 0 ∨ t = 6 then b.secret else a.secret⟩
theorem secondOf_ok (ns : List Int) : (secondOf ns).Ok := by
  have a := partOf_ok ns 0
  have b := partOf_ok ns 6
  unfold secondOf
  refine ⟨?_, ?_, ?_, ?_, ?_, ?_, ?_⟩ <;> dsimp only <;> split <;> first | exact a.kind | exact b.kind | exact a.depth | exact b.depth | exact a.finger | exact b.finger | exact a.number | exact b.number | exact a.chain | exact b.chain | exact a.pos | exact b.pos | exact a.secret | exact b.secret
abbrev v12 : List (Option Value) := [none, none, none, none, none, none, none, none, none, none, none, none]
abbrev pV (p : Part) (t : Nat → Tok) : List Value := partV p (t 0) (t 1) (t 2) (t 3) (t 4) (t 5)
abbrev tk6 (t0 t1 t2 t3 t4 t5 : Tok) (i : Nat) : Tok := [t0, t1, t2, t3, t4, t5].getD i 0
theorem pV_tk {p : Part} {t0 t1 t2 t3 t4 t5 : Tok} : partV p t0 t1 t2 t3 t4 t5 = pV p (tk6 t0 t1 t2 t3 t4 t5) := rfl
set_option maxHeartbeats 1000000 in
/-- numbers, parts -/
theorem law_A1 {w mg mb A s0 s L sl o1 o2} {ns : List Int} {vsS : List Value} {Q : Flow → Shared → Prop} (R : Rm A 70) (hI : IntsAre vsS ns) (hlen : ns.length ≤ 63) (hsl : s0.heap.IsList sl vsS.toArray)
    (hd1 : o1.data = .cell none) (hd2 : o2.data = .cell none)
    (S : St (cx w mg mb s0 L) (look lawN (some (.ref sl) :: none :: none :: v13)) [(L + 1, o1), (L + 1 + 1, o2)] s)
    (k : ∀ s Nl P a0 a1 op ot kv vsN t u, IntsAre vsN (numsOf ns) → op.data = .cell (some (.ref P)) → ot.data = .cell none →
      St (cx w mg mb s0 L) (look lawN (some (.ref sl) :: some (.ref Nl) :: kv :: v13)) [(L + 1 + 1, ot), (P, listOf [Value.ref a0, .ref a1].toArray 2), (a0, listOf (pV (partOf (numsOf ns) 0) t).toArray 0), (a1, listOf (pV (partOf (numsOf ns) 6) u).toArray 0), (L + 1, op), (Nl, listOf vsN.toArray 0)] s →
      W (cx w mg mb s0 L) (A.deeper (lawE L)) (execs ((defBody (topSt 58)).drop 3) (lawE L)) Q NoE s) :
    W (cx w mg mb s0 L) (A.deeper (lawE L)) (execs (defBody (topSt 58)) (lawE L)) Q NoE s := by
  have hvl : vsS.length = ns.length := hI.length
  refine open_body rfl ?_
  refine x_asg <| e_bin <| e_sub <| ld 0 S <| e_cut <| pt_none <| pt_some <| c_nat 21 S fun u s S => ?_
  refine l_cutI S (S.F.lst hsl) .none (.int _ _) (by omega) fun D1 s S _ => ?_
  rw [cut_take] at S
  refine e_bin <| e_list <| s_more <| c_nat 0 S fun tz s S => s_nil <| r_list S fun D2 s S => c_nat 21 S fun u s S => ?_
  refine l_mul1 S (S.N (D2, _) (by repeat (first | exact List.Mem.head _ | apply List.Mem.tail))).1 (by decide) fun D3 s S _ => ?_
  refine l_add S (S.N (D1, _) (by repeat (first | exact List.Mem.head _ | apply List.Mem.tail))).1 (S.N (D3, _) (by repeat (first | exact List.Mem.head _ | apply List.Mem.tail))).1 (by simp; omega) fun Nl s S hNl => ?_
  refine st 1 S fun s S => ?_
  have hN : IntsAre (vsS.take 21 ++ List.replicate 21 (Value.int ((0 : Nat) : Int) tz)) (numsOf ns) := ints_app (hI.take 21) (ints_rep tz 21)
  generalize hv : vsS.take 21 ++ List.replicate 21 (Value.int ((0 : Nat) : Int) tz) = vsN at *
  have hNL1 : (L + 1 : Addr) ≠ Nl := hNl (L + 1, o1) (by repeat (first | exact List.Mem.head _ | apply List.Mem.tail))
  have hNL2 : (L + 1 + 1 : Addr) ≠ Nl := hNl (L + 1 + 1, o2) (by repeat (first | exact List.Mem.head _ | apply List.Mem.tail))
  have S := S.sub (nw := [(L + 1, o1), (L + 1 + 1, o2), (Nl, listOf vsN.toArray 0)]) fun p hp => by
    rcases List.mem_cons.mp hp with rfl | hp
    · exact (by repeat (first | exact List.Mem.head _ | apply List.Mem.tail))
    rcases List.mem_cons.mp hp with rfl | hp
    · exact (by repeat (first | exact List.Mem.head _ | apply List.Mem.tail))
    rw [List.mem_singleton.mp hp]
    exact (by repeat (first | exact List.Mem.head _ | apply List.Mem.tail))
  refine x_asg <| e_list <| s_nil <| r_listF S fun P s S hP => ?_
  have hL12 : (L + 1 + 1 : Addr) ≠ L + 1 := Nat.succ_ne_self _
  refine stc S (.tail (hP (L + 1, o1) (by repeat (first | exact List.Mem.head _ | apply List.Mem.tail))).symm (.head fun p hp => ?_)) hd1 fun s op S hop => ?_
  · rcases List.mem_cons.mp hp with rfl | hp
    · exact hL12
    · rw [List.mem_singleton.mp hp]; exact hNL1.symm
  have apP : ∀ p ∈ [(L + 1, op), (L + 1 + 1, o2), (Nl, listOf vsN.toArray 0)], p.1 ≠ P := fun p hp => by
    rcases List.mem_cons.mp hp with rfl | hp
    · exact hP (L + 1, o1) (by repeat (first | exact List.Mem.head _ | apply List.Mem.tail))
    · exact hP p (.tail _ hp)
  refine x_for <| e_tup <| s_more <| c_nat 0 S fun z0 s S => s_more <| c_nat 6 S fun z6 s S => s_nil <| r_tupleF S fun Tp s S hTp => ?_
  refine i_tuple S (S.N (Tp, _) (by repeat (first | exact List.Mem.head _ | apply List.Mem.tail))).1 fun I o s S hI hne hit => ?_
  have PTp : Tp ≠ P := (hTp (P, _) (by repeat (first | exact List.Mem.head _ | apply List.Mem.tail))).symm
  have len21 := numsOf_len ns
  refine w_for (o0 := o) (walksT (A := A.deeper (lawE L)) R.calm I Tp hne [Value.int ((0 : Nat) : Int) z0, .int ((6 : Nat) : Int) z6]) (fun i h z => let ⟨o, ho, _⟩ := z.1; ⟨o, ho⟩)
    (fun i vs nw => ∃ kv, vs = some (.ref sl) :: some (.ref Nl) :: kv :: v13 ∧
      ((i = 0 ∧ nw = (P, listOf ([] : List Value).toArray 0) :: (L + 1, op) :: (L + 1 + 1, o2) :: (Nl, listOf vsN.toArray 0) :: [(Tp, tupOf [Value.int ((0 : Nat) : Int) z0, .int ((6 : Nat) : Int) z6].toArray)]) ∨
       (i = 1 ∧ ∃ a0 t, a0 ≠ P ∧ a0 ≠ I ∧ nw = (P, listOf [Value.ref a0].toArray 1) :: (a0, listOf (pV (partOf (numsOf ns) 0) t).toArray 0) :: (L + 1, op) :: (L + 1 + 1, o2) :: (Nl, listOf vsN.toArray 0) :: [(Tp, tupOf [Value.int ((0 : Nat) : Int) z0, .int ((6 : Nat) : Int) z6].toArray)]) ∨
       (i = 2 ∧ ∃ a0 a1 t u, a0 ≠ I ∧ a1 ≠ I ∧ nw = (P, listOf [Value.ref a0, .ref a1].toArray 2) :: (a1, listOf (pV (partOf (numsOf ns) 6) u).toArray 0) :: (a0, listOf (pV (partOf (numsOf ns) 0) t).toArray 0) :: (L + 1, op) :: (L + 1 + 1, o2) :: (Nl, listOf vsN.toArray 0) :: [(Tp, tupOf [Value.int ((0 : Nat) : Int) z0, .int ((6 : Nat) : Int) z6].toArray)])))
    (fun b hb hbI => ?_) (fun i vs nw hj p hp => ?_) ?_ ?_ (S.sub (nw := (I, o) :: (P, listOf ([] : List Value).toArray 0) :: (L + 1, op) :: (L + 1 + 1, o2) :: (Nl, listOf vsN.toArray 0) :: [(Tp, tupOf [Value.int ((0 : Nat) : Int) z0, .int ((6 : Nat) : Int) z6].toArray)]) (fun p hp => ?_)) hit ⟨none, rfl, .inl ⟨rfl, rfl⟩⟩
  · have : b = Tp := by simpa [hbI] using hb
    subst this
    refine .inr ⟨tupOf [Value.int ((0 : Nat) : Int) z0, .int ((6 : Nat) : Int) z6].toArray, fun i vs nw ⟨kv, _, hj⟩ => ?_⟩
    rcases hj with ⟨_, rfl⟩ | ⟨_, a0, t, _, _, rfl⟩ | ⟨_, a0, a1, t, u, _, _, rfl⟩ <;> exact (by repeat (first | exact List.Mem.head _ | apply List.Mem.tail))
  · obtain ⟨kv, _, hj⟩ := hj
    have b0 : ∀ q ∈ (L + 1, op) :: (L + 1 + 1, o2) :: (Nl, listOf vsN.toArray 0) :: [(Tp, tupOf [Value.int ((0 : Nat) : Int) z0, .int ((6 : Nat) : Int) z6].toArray)], q.1 ≠ I := fun q hq => by
      rcases List.mem_cons.mp hq with rfl | hq
      · exact hI (L + 1, op) (by repeat (first | exact List.Mem.head _ | apply List.Mem.tail))
      rcases List.mem_cons.mp hq with rfl | hq
      · exact hI (L + 1 + 1, o2) (by repeat (first | exact List.Mem.head _ | apply List.Mem.tail))
      rcases List.mem_cons.mp hq with rfl | hq
      · exact hI (Nl, _) (by repeat (first | exact List.Mem.head _ | apply List.Mem.tail))
      rw [List.mem_singleton.mp hq]
      exact hI (Tp, _) (by repeat (first | exact List.Mem.head _ | apply List.Mem.tail))
    have hPI : P ≠ I := hI (P, _) (by repeat (first | exact List.Mem.head _ | apply List.Mem.tail))
    rcases hj with ⟨_, rfl⟩ | ⟨_, a0, t, _, h0, rfl⟩ | ⟨_, a0, a1, t, u, h0, h1, rfl⟩
    · rcases List.mem_cons.mp hp with rfl | hp
      · exact hPI
      · exact b0 p hp
    · rcases List.mem_cons.mp hp with rfl | hp
      · exact hPI
      rcases List.mem_cons.mp hp with rfl | hp
      · exact h0
      · exact b0 p hp
    · rcases List.mem_cons.mp hp with rfl | hp
      · exact hPI
      rcases List.mem_cons.mp hp with rfl | hp
      · exact h1
      rcases List.mem_cons.mp hp with rfl | hp
      · exact h0
      · exact b0 p hp
  · rintro i v vs nw s o hi hv ⟨kv, rfl, hj⟩ S
    have hPI : P ≠ I := hI (P, _) (by repeat (first | exact List.Mem.head _ | apply List.Mem.tail))
    have apB : ∀ q ∈ (I, o) :: (L + 1, op) :: (L + 1 + 1, o2) :: (Nl, listOf vsN.toArray 0) :: [(Tp, tupOf [Value.int ((0 : Nat) : Int) z0, .int ((6 : Nat) : Int) z6].toArray)], q.1 ≠ P := fun q hq => by
      rcases List.mem_cons.mp hq with rfl | hq
      · exact hPI.symm
      rcases List.mem_cons.mp hq with rfl | hq
      · exact apP (L + 1, op) (by repeat (first | exact List.Mem.head _ | apply List.Mem.tail))
      rcases List.mem_cons.mp hq with rfl | hq
      · exact apP (L + 1 + 1, o2) (by repeat (first | exact List.Mem.head _ | apply List.Mem.tail))
      rcases List.mem_cons.mp hq with rfl | hq
      · exact apP (Nl, _) (by repeat (first | exact List.Mem.head _ | apply List.Mem.tail))
      rw [List.mem_singleton.mp hq]
      exact PTp
    have swap : ∀ {x y : Addr × Obj} {l : List (Addr × Obj)}, ∀ p ∈ x :: y :: l, p ∈ y :: x :: l := fun p hp => by
      rcases List.mem_cons.mp hp with rfl | hp
      · exact .tail _ (.head _)
      rcases List.mem_cons.mp hp with rfl | hp
      · exact .head _
      · exact .tail _ (.tail _ hp)
    rcases hj with ⟨rfl, rfl⟩ | ⟨rfl, a0, t, hp0, hi0, rfl⟩ | ⟨rfl, a0, a1, t, u, h0, h1, rfl⟩
    · cases hv
      refine g_name <| st 2 S fun s S => ?_
      refine (law_row (refs := []) (rest := (I, o) :: (L + 1, op) :: (L + 1 + 1, o2) :: (Nl, listOf vsN.toArray 0) :: [(Tp, tupOf [Value.int ((0 : Nat) : Int) z0, .int ((6 : Nat) : Int) z6].toArray)]) R hN (by omega) (by decide) (S.sub swap) (by repeat (first | exact List.Mem.head _ | apply List.Mem.tail)) (by repeat (first | exact List.Mem.head _ | apply List.Mem.tail)) hop apB (by decide)).mono (fun f s' h => ?_) fun _ _ q => q
      obtain ⟨rfl, a, t0, t1, t2, t3, t4, t5, hF, S⟩ := h
      refine ⟨_, _, ⟨_, rfl, .inr (.inl ⟨rfl, a, tk6 t0 t1 t2 t3 t4 t5, (hF (P, _) (by repeat (first | exact List.Mem.head _ | apply List.Mem.tail))).symm, (hF (I, o) (by repeat (first | exact List.Mem.head _ | apply List.Mem.tail))).symm, rfl⟩)⟩, S.sub fun p hp => ?_⟩
      rcases List.mem_cons.mp hp with rfl | hp
      · exact (by repeat (first | exact List.Mem.head _ | apply List.Mem.tail))
      rcases List.mem_cons.mp hp with rfl | hp
      · exact (by repeat (first | exact List.Mem.head _ | apply List.Mem.tail))
      rcases List.mem_cons.mp hp with rfl | hp
      · exact (by repeat (first | exact List.Mem.head _ | apply List.Mem.tail))
      · exact .tail _ (.tail _ (.tail _ hp))
    · cases hv
      refine g_name <| st 2 S fun s S => ?_
      refine (law_row (refs := [Value.ref a0]) (rest := (I, o) :: (a0, listOf (pV (partOf (numsOf ns) 0) t).toArray 0) :: (L + 1, op) :: (L + 1 + 1, o2) :: (Nl, listOf vsN.toArray 0) :: [(Tp, tupOf [Value.int ((0 : Nat) : Int) z0, .int ((6 : Nat) : Int) z6].toArray)]) R hN (by omega) (by decide) (S.sub swap) (by repeat (first | exact List.Mem.head _ | apply List.Mem.tail)) (by repeat (first | exact List.Mem.head _ | apply List.Mem.tail)) hop (fun q hq => ?_) (Nat.le_of_ble_eq_true rfl)).mono (fun f s' h => ?_) fun _ _ q => q
      · rcases List.mem_cons.mp hq with rfl | hq
        · exact hPI.symm
        rcases List.mem_cons.mp hq with rfl | hq
        · exact hp0
        · exact apB q (.tail _ hq)
      obtain ⟨rfl, a, t0, t1, t2, t3, t4, t5, hF, S⟩ := h
      refine ⟨_, _, ⟨_, rfl, .inr (.inr ⟨rfl, a0, a, t, tk6 t0 t1 t2 t3 t4 t5, hi0, (hF (I, o) (by repeat (first | exact List.Mem.head _ | apply List.Mem.tail))).symm, rfl⟩)⟩, S.sub fun p hp => ?_⟩
      rcases List.mem_cons.mp hp with rfl | hp
      · exact (by repeat (first | exact List.Mem.head _ | apply List.Mem.tail))
      rcases List.mem_cons.mp hp with rfl | hp
      · exact (by repeat (first | exact List.Mem.head _ | apply List.Mem.tail))
      rcases List.mem_cons.mp hp with rfl | hp
      · exact (by repeat (first | exact List.Mem.head _ | apply List.Mem.tail))
      · exact .tail _ (.tail _ (.tail _ hp))
    · cases hv
  · rintro vs nw s ⟨kv, rfl, hj⟩ S
    rcases hj with ⟨e, _⟩ | ⟨e, _⟩ | ⟨_, a0, a1, t, u, h0, h1, rfl⟩
    · cases e
    · cases e
    refine k s Nl P a0 a1 op o2 kv vsN t u hN hop hd2 (S.sub fun p hp => ?_)
    rcases List.mem_cons.mp hp with rfl | hp
    · exact (by repeat (first | exact List.Mem.head _ | apply List.Mem.tail))
    rcases List.mem_cons.mp hp with rfl | hp
    · exact (by repeat (first | exact List.Mem.head _ | apply List.Mem.tail))
    rcases List.mem_cons.mp hp with rfl | hp
    · exact (by repeat (first | exact List.Mem.head _ | apply List.Mem.tail))
    rcases List.mem_cons.mp hp with rfl | hp
    · exact (by repeat (first | exact List.Mem.head _ | apply List.Mem.tail))
    rcases List.mem_cons.mp hp with rfl | hp
    · exact (by repeat (first | exact List.Mem.head _ | apply List.Mem.tail))
    rw [List.mem_singleton.mp hp]
    exact (by repeat (first | exact List.Mem.head _ | apply List.Mem.tail))
  · rcases List.mem_cons.mp hp with rfl | hp
    · exact (by repeat (first | exact List.Mem.head _ | apply List.Mem.tail))
    rcases List.mem_cons.mp hp with rfl | hp
    · exact (by repeat (first | exact List.Mem.head _ | apply List.Mem.tail))
    rcases List.mem_cons.mp hp with rfl | hp
    · exact (by repeat (first | exact List.Mem.head _ | apply List.Mem.tail))
    rcases List.mem_cons.mp hp with rfl | hp
    · exact (by repeat (first | exact List.Mem.head _ | apply List.Mem.tail))
    rcases List.mem_cons.mp hp with rfl | hp
    · exact (by repeat (first | exact List.Mem.head _ | apply List.Mem.tail))
    rw [List.mem_singleton.mp hp]
    exact (by repeat (first | exact List.Mem.head _ | apply List.Mem.tail))
end Mine
end

section
set_option Elab.async false
set_option maxRecDepth 100000
set_option linter.unusedVariables false
open PySem PySem.W PyProof.Rows PySem.Calls PySem.Spec
namespace Mine
abbrev range6 (t u v : Tok) : Obj := { cls := .type "range", dict := none, data := .fields #[.int 0 t, .int 6 u, .int 1 v], slots := #[] }
section
variable {c : Cx} {m : Str → Option Value} {A : Around} {E : Value → Shared → Prop} {s : Shared} {news : List (Addr × Obj)} {Q : Value → Shared → Prop}
theorem r_range6 {t : Tok} (S : St c m news s) (h : ∀ r t u v s', St c m ((r, range6 t u v) :: news) s' → Q (.ref r) s') : W c A (call (.type "range") [.int ((6 : Nat) : Int) t]) Q E s :=
  W.mk (call_range_1 (h _ _ _ _ _ ⟨S.G, S.F.push _, S.N.push S.F _, S.gens, S.os⟩))
theorem i_range6 {r : Addr} {t u v : Tok} (S : St c m news s) (hr : s.heap.get? r = some (range6 t u v)) (h : ∀ I o s', St c m ((I, o) :: news) s' → (∀ p ∈ news, p.1 ≠ I) → IsRangeIter s'.heap I (0 + ((0 : Nat) : Int) * 1) (((6 : Nat) : Int) - ((0 : Nat) : Int)) 1 → Q (.ref I) s') : W c A (pyIter (.ref r)) Q E s :=
  W.mk (wpAny_pyIter_range (a := 0) (b := 6) (c := 1) hr (by decide) (h _ _ _ ⟨S.G, S.F.push _, S.N.push S.F _, S.gens, S.os⟩ (fun p hp => Nat.ne_of_lt (Heap.lt_size (S.N p hp).1)) (by
    have e : Builtin.Range.rangeSize 0 6 1 = 6 := by decide
    rw [e]
    exact Heap.get?_push_size _ rfl)))
end
def Part.vals (p : Part) : List Nat := [p.kind, p.depth, p.finger, p.number, p.chain, p.secret]
theorem vals_pV {p : Part} {ys : List Value} (hl : ys.length = 6) (h : ∀ (j : Nat) y, ys[j]? = some y → ∃ u, y = Value.int ((p.vals.getD j 0 : Nat) : Int) u) : ∃ u, ys = pV p u := by
  match ys, hl with
  | [y0, y1, y2, y3, y4, y5], _ =>
    obtain ⟨u0, rfl⟩ := h 0 y0 rfl
    obtain ⟨u1, rfl⟩ := h 1 y1 rfl
    obtain ⟨u2, rfl⟩ := h 2 y2 rfl
    obtain ⟨u3, rfl⟩ := h 3 y3 rfl
    obtain ⟨u4, rfl⟩ := h 4 y4 rfl
    obtain ⟨u5, rfl⟩ := h 5 y5 rfl
    exact ⟨tk6 u0 u1 u2 u3 u4 u5, rfl⟩
theorem pV_at {p : Part} {t : Nat → Tok} {j : Nat} (h : j < 6) : ∃ u, (pV p t)[j]? = some (Value.int ((p.vals.getD j 0 : Nat) : Int) u) := by
  match j, h with
  | 0, _ => exact ⟨_, rfl⟩
  | 1, _ => exact ⟨_, rfl⟩
  | 2, _ => exact ⟨_, rfl⟩
  | 3, _ => exact ⟨_, rfl⟩
  | 4, _ => exact ⟨_, rfl⟩
  | 5, _ => exact ⟨_, rfl⟩
theorem second_vals (ns : List Int) {j : Nat} (hj : j < 6) (ht : turnedOf ns ≠ 0) : (secondOf ns).vals.getD j 0 = if j = turnedOf ns - 1 then (partOf ns 6).vals.getD j 0 else (partOf ns 0).vals.getD j 0 := by
  have h7 : turnedOf ns < 7 := modlt _ (by decide)
  unfold secondOf Part.vals
  generalize turnedOf ns = t at *
  dsimp only
  have e0 : ∀ k, (t = 0 ∨ t = k) = (t = k) := fun k => by simp [ht]
  simp only [e0]
  match j, hj with
  | 0, _ => by_cases h : t = 1 <;> simp [h] <;> (intro q; omega)
  | 1, _ => by_cases h : t = 2 <;> simp [h] <;> (intro q; omega)
  | 2, _ => by_cases h : t = 3 <;> simp [h] <;> (intro q; omega)
  | 3, _ => by_cases h : t = 4 <;> simp [h] <;> (intro q; omega)
  | 4, _ => by_cases h : t = 5 <;> simp [h] <;> (intro q; omega)
  | 5, _ => by_cases h : t = 6 <;> simp [h] <;> (intro q; omega)
theorem second_zero (ns : List Int) (ht : turnedOf ns = 0) : secondOf ns = partOf ns 6 := by
  unfold secondOf
  simp [ht]
set_option maxHeartbeats 1000000 in
/-- turned, second -/
theorem law_A2 {w mg mb A s0 s L sl Nl P a0 a1 op ot kv t u} {nums : List Int} {vsN : List Value} {Q : Flow → Shared → Prop} (R : Rm A 70) (hN : IntsAre vsN nums) (hlen : 21 ≤ nums.length) (hop : op.data = .cell (some (.ref P))) (hot : ot.data = .cell none)
    (S : St (cx w mg mb s0 L) (look lawN (some (.ref sl) :: some (.ref Nl) :: kv :: v13)) [(L + 1 + 1, ot), (P, listOf [Value.ref a0, .ref a1].toArray 2), (a0, listOf (pV (partOf nums 0) t).toArray 0), (a1, listOf (pV (partOf nums 6) u).toArray 0), (L + 1, op), (Nl, listOf vsN.toArray 0)] s)
    (k : ∀ s b kb u, St (cx w mg mb s0 L) (look lawN (some (.ref sl) :: some (.ref Nl) :: kv :: some (.ref b) :: v12)) [(P, listOf [Value.ref a0, .ref a1].toArray 2), (a0, listOf (pV (partOf nums 0) t).toArray 0), (b, listOf (pV (secondOf nums) u).toArray kb), (L + 1, op), (Nl, listOf vsN.toArray 0)] s →
      W (cx w mg mb s0 L) (A.deeper (lawE L)) (execs ((defBody (topSt 58)).drop 5) (lawE L)) Q NoE s) :
    W (cx w mg mb s0 L) (A.deeper (lawE L)) (execs ((defBody (topSt 58)).drop 3) (lawE L)) Q NoE s := by
  have cne : ∀ {o : Obj} {vs : Array Value} {n : Nat} {v : Option Value}, o.data = .cell v → o ≠ listOf vs n := fun {o vs n v} h z => by rw [z] at h; cases h
  refine open_body rfl ?_
  obtain ⟨u12, h12⟩ := ints_atI hN (i := 12) (by omega)
  refine x_asg <| e_bin <| e_sub <| ld 1 S <| c_nat 12 S fun _ s S => ?_
  refine l_item (S.N (Nl, _) (by repeat (first | exact List.Mem.head _ | apply List.Mem.tail))).1 h12 <| c_nat 7 S fun _ s S => p_modI S (by decide) fun tt s S => ?_
  refine stc S (.head fun p hp => ?_) hot fun s ot S hot => ?_
  · have h1 : P ≠ L + 1 + 1 := (S.apart (a := L + 1 + 1) (b := P) (by repeat (first | exact List.Mem.head _ | apply List.Mem.tail)) (by repeat (first | exact List.Mem.head _ | apply List.Mem.tail)) (cne hot)).symm
    have h2 : a0 ≠ L + 1 + 1 := (S.apart (a := L + 1 + 1) (b := a0) (by repeat (first | exact List.Mem.head _ | apply List.Mem.tail)) (by repeat (first | exact List.Mem.head _ | apply List.Mem.tail)) (cne hot)).symm
    have h3 : a1 ≠ L + 1 + 1 := (S.apart (a := L + 1 + 1) (b := a1) (by repeat (first | exact List.Mem.head _ | apply List.Mem.tail)) (by repeat (first | exact List.Mem.head _ | apply List.Mem.tail)) (cne hot)).symm
    have h4 : Nl ≠ L + 1 + 1 := (S.apart (a := L + 1 + 1) (b := Nl) (by repeat (first | exact List.Mem.head _ | apply List.Mem.tail)) (by repeat (first | exact List.Mem.head _ | apply List.Mem.tail)) (cne hot)).symm
    rcases List.mem_cons.mp hp with rfl | hp
    · exact h1
    rcases List.mem_cons.mp hp with rfl | hp
    · exact h2
    rcases List.mem_cons.mp hp with rfl | hp
    · exact h3
    rcases List.mem_cons.mp hp with rfl | hp
    · exact (Nat.succ_ne_self _).symm
    rw [List.mem_singleton.mp hp]
    exact h4
  have hot : ot.data = .cell (some (.int ((turnedOf nums : Nat) : Int) tt)) := hot
  refine x_asg <| e_if <| t_cmp <| ldc S (C := L + 1 + 1) (by repeat (first | exact List.Mem.head _ | apply List.Mem.tail)) hot <| c_nat 0 S fun _ s S => p_eq <| t_bool <| ite_two (fun h => ?_) fun h => ?_
  · have h := of_decide_eq_true h
    refine e_sub <| ldc S (C := L + 1) (by repeat (first | exact List.Mem.head _ | apply List.Mem.tail)) hop <| c_nat 1 S fun _ s S => ?_
    refine l_item (S.N (P, _) (by repeat (first | exact List.Mem.head _ | apply List.Mem.tail))).1 rfl <| st 3 S fun s S => ?_
    refine k s a1 0 u (S.sub fun p hp => ?_)
    rw [second_zero nums h] at hp
    rcases List.mem_cons.mp hp with rfl | hp
    · exact (by repeat (first | exact List.Mem.head _ | apply List.Mem.tail))
    rcases List.mem_cons.mp hp with rfl | hp
    · exact (by repeat (first | exact List.Mem.head _ | apply List.Mem.tail))
    rcases List.mem_cons.mp hp with rfl | hp
    · exact (by repeat (first | exact List.Mem.head _ | apply List.Mem.tail))
    rcases List.mem_cons.mp hp with rfl | hp
    · exact (by repeat (first | exact List.Mem.head _ | apply List.Mem.tail))
    rw [List.mem_singleton.mp hp]
    exact (by repeat (first | exact List.Mem.head _ | apply List.Mem.tail))
  · have h : turnedOf nums ≠ 0 := by simpa using h
    refine e_lc [(PySem.Str.ofString "turned", L + 1 + 1), (PySem.Str.ofString "parts", L + 1)] <| e_call <| b_range S <| cw_ty <| s_more <| c_nat 6 S fun _ s S => s_nil ?_
    refine r_range6 S fun r ra rb rc s S => i_range6 S (S.N (r, _) (by repeat (first | exact List.Mem.head _ | apply List.Mem.tail))).1 fun I o s S hI hit => ?_
    refine lc_go (o := o) (fun i y => ∃ u, y = Value.int (((secondOf nums).vals.getD i 0 : Nat) : Int) u) (Walks.range (A := A.deeper (lawE L)) R.calm I 0 1 6) (fun i h z => ⟨_, z⟩) (by decide)
      S hit (fun b hb hbI => absurd (List.mem_singleton.mp hb) hbI) hI ?_ ?_ (by decide) rfl (fun C => by kernel_rfl)
    · rintro C oL oI D oD i v s3 hi ⟨tv, rfl⟩ S
      have ev : (0 + (i : Int) * 1) = ((i : Nat) : Int) := by omega
      rw [ev] at S
      rw [ev]
      obtain ⟨u1, hu1⟩ := pV_at (p := partOf nums 6) (t := u) hi
      obtain ⟨u0, hu0⟩ := pV_at (p := partOf nums 0) (t := t) hi
      refine e_if <| t_cmp <| ld 0 S <| e_bin <| ldc S (C := L + 1 + 1) (by repeat (first | exact List.Mem.head _ | apply List.Mem.tail)) hot <| c_nat 1 S fun _ s S => p_sub S (by omega) fun _ s S => p_eq <| t_bool <| ite_two (fun h1 => ?_) fun h1 => ?_
      · refine e_sub <| e_sub <| ldc S (C := L + 1) (by repeat (first | exact List.Mem.head _ | apply List.Mem.tail)) hop <| c_nat 1 S fun _ s S => ?_
        refine l_item (S.N (P, _) (by repeat (first | exact List.Mem.head _ | apply List.Mem.tail))).1 rfl <| ld 0 S ?_
        refine l_item (S.N (a1, _) (by repeat (first | exact List.Mem.head _ | apply List.Mem.tail))).1 hu1 (hz := by omega) ⟨⟨u1, ?_⟩, S⟩
        rw [second_vals nums hi h, if_pos (of_decide_eq_true h1)]
      · refine e_sub <| e_sub <| ldc S (C := L + 1) (by repeat (first | exact List.Mem.head _ | apply List.Mem.tail)) hop <| c_nat 0 S fun _ s S => ?_
        refine l_item (S.N (P, _) (by repeat (first | exact List.Mem.head _ | apply List.Mem.tail))).1 rfl <| ld 0 S ?_
        refine l_item (S.N (a0, _) (by repeat (first | exact List.Mem.head _ | apply List.Mem.tail))).1 hu0 (hz := by omega) ⟨⟨u0, ?_⟩, S⟩
        rw [second_vals nums hi h, if_neg (by simpa using h1)]
    · intro D ys s3 hl hF hD S
      obtain ⟨u2, rfl⟩ := vals_pV hl hF
      refine st 3 S fun s S => k s D 6 u2 (S.sub fun p hp => ?_)
      rcases List.mem_cons.mp hp with rfl | hp
      · exact (by repeat (first | exact List.Mem.head _ | apply List.Mem.tail))
      rcases List.mem_cons.mp hp with rfl | hp
      · exact (by repeat (first | exact List.Mem.head _ | apply List.Mem.tail))
      rcases List.mem_cons.mp hp with rfl | hp
      · exact (by repeat (first | exact List.Mem.head _ | apply List.Mem.tail))
      rcases List.mem_cons.mp hp with rfl | hp
      · exact (by repeat (first | exact List.Mem.head _ | apply List.Mem.tail))
      rw [List.mem_singleton.mp hp]
      exact (by repeat (first | exact List.Mem.head _ | apply List.Mem.tail))
end Mine
end

section
set_option Elab.async false
set_option maxRecDepth 100000
set_option linter.unusedVariables false
open PySem PySem.W PyProof.Rows PySem.Calls PySem.Spec
namespace Mine
/-- the objects on which it rests -/
def Led (g h : Heap) (P : Heap → Prop) : Prop := ∃ l : List (Addr × Obj), (∀ q ∈ l, New g h q.1 q.2) ∧ ∀ h', (∀ q ∈ l, h'.get? q.1 = some q.2) → P h'
theorem Led.and {g h : Heap} {P R : Heap → Prop} (a : Led g h P) (b : Led g h R) : Led g h fun h' => P h' ∧ R h' := by
  obtain ⟨l, hl, p⟩ := a
  obtain ⟨k, hk, r⟩ := b
  exact ⟨l ++ k, fun q hq => (List.mem_append.mp hq).elim (hl q) (hk q), fun h' H => ⟨p h' fun q hq => H q (List.mem_append_left _ hq), r h' fun q hq => H q (List.mem_append_right _ hq)⟩⟩
theorem Led.mono {g h : Heap} {P R : Heap → Prop} (a : Led g h P) (k : ∀ h', P h' → R h') : Led g h R := let ⟨l, hl, p⟩ := a; ⟨l, hl, fun h' H => k h' (p h' H)⟩
theorem Ob.led {g h : Heap} {x C : Addr} {ns : List Str} {vs : List Value} (O : Ob (newOnly g h) x C ns vs) : Led g h fun h' => Ob h' x C ns vs := by
  obtain ⟨d, es, n, a, b, e⟩ := O
  refine ⟨[(x, instObj C d), (d, dictOf es n)], fun q hq => ?_, fun h' H => ⟨d, es, n, H _ (.head _), H _ (.tail _ (.head _)), e⟩⟩
  rcases List.mem_cons.mp hq with rfl | hq
  · exact ⟨newOnly_of a, newOnly_none a⟩
  · rw [List.mem_singleton.mp hq]
    exact ⟨newOnly_of b, newOnly_none b⟩
theorem KeyOb.led {g h : Heap} {k : Addr} {p : Bool} {body : List UInt8} (K : KeyOb (newOnly g h) k p body) : Led g h fun h' => KeyOb h' k p body := by
  cases p with
  | true => obtain ⟨t, O, e⟩ := K; exact O.led.mono fun h' O => ⟨t, O, e⟩
  | false => obtain ⟨n, t, O, e⟩ := K; exact O.led.mono fun h' O => ⟨n, t, O, e⟩
theorem HdOb.led {g h : Heap} {x : Addr} {H : Hd} (K : HdOb (newOnly g h) x H) : Led g h fun h' => HdOb h' x H := by
  obtain ⟨k, t1, t2, t3, t4, t5, t6, O, K⟩ := K
  exact (O.led.and K.led).mono fun h' q => ⟨k, t1, t2, t3, t4, t5, t6, q.1, q.2⟩
section
variable {c : Cx} {m : Str → Option Value} {s s' : Shared} {news : List (Addr × Obj)}
theorem St.led {P : Heap → Prop} (S0 : St c m news s) (S : St c m news s') (K : Led s.heap s'.heap P) : ∃ l, St c m (news ++ l) s' ∧ ∀ h', (∀ q ∈ l, h'.get? q.1 = some q.2) → P h' := by
  obtain ⟨l, hl, p⟩ := K
  refine ⟨l, (St.add (l := l) S0 S fun q hq => hl q hq).sub fun q hq => ?_, p⟩
  rcases List.mem_append.mp hq with h | h
  · exact List.mem_append_right _ h
  · exact List.mem_append_left _ h
theorem St.has {l : List (Addr × Obj)} (S : St c m news s) (h : ∀ q ∈ l, q ∈ news) : ∀ q ∈ l, s.heap.get? q.1 = some q.2 := fun q hq => (S.N q (h q hq)).1
theorem tup_led {g h : Heap} {r : Addr} {o : Obj} (n : New g h r o) {P : Heap → Prop} (k : Led g h P) : Led g h fun h' => h'.get? r = some o ∧ P h' :=
  Led.and ⟨[(r, o)], fun q hq => by rw [List.mem_singleton.mp hq]; exact n, fun h' H => H _ (.head _)⟩ k
end
abbrev v11 : List (Option Value) := [none, none, none, none, none, none, none, none, none, none, none]
abbrev v10 : List (Option Value) := [none, none, none, none, none, none, none, none, none, none]
abbrev madeV (x y : Addr) (p : Part) (u v : Tok) : List Value := [.ref x, .bytes p.hd.octs.toArray u, .ref y, .bytes p.pub.octs.toArray v]
/-- what stands of a made key -/
def MadeAt (h : Heap) (r x y : Addr) (p : Part) : Prop := (∃ u v, h.get? r = some (tupOf (madeV x y p u v).toArray)) ∧ HdOb h x p.hd ∧ KeyOb h y (!p.prv) (p.body (!p.prv))
theorem made_led {g h : Heap} {r x y : Addr} {u v : Tok} {p : Part} (a : New g h r (tupOf (madeV x y p u v).toArray)) (b : HdOb (newOnly g h) x p.hd) (c : KeyOb (newOnly g h) y (!p.prv) (p.body (!p.prv))) : Led g h fun h' => MadeAt h' r x y p :=
  (tup_led a (b.led.and c.led)).mono fun h' q => ⟨⟨u, v, q.1⟩, q.2⟩
set_option maxHeartbeats 1000000 in
/-- made, texts -/
theorem law_B {w mg mb A s0 s L sl Nl P a0 a1 b kb op kv t u} {p q : Part} {vsN : List Value} {Q : Flow → Shared → Prop} (R : Rm A 70) (okp : p.Ok) (okq : q.Ok) (gp : p.hd.Good) (gq : q.hd.Good) (hop : op.data = .cell (some (.ref P)))
    (S : St (cx w mg mb s0 L) (look lawN (some (.ref sl) :: some (.ref Nl) :: kv :: some (.ref b) :: v12)) [(P, listOf [Value.ref a0, .ref a1].toArray 2), (a0, listOf (pV p t).toArray 0), (b, listOf (pV q u).toArray kb), (L + 1, op), (Nl, listOf vsN.toArray 0)] s)
    (k : ∀ s M T r0 r1 x0 x1 y0 y1 ta tb ext, (∀ h', (∀ e ∈ ext, h'.get? e.1 = some e.2) → MadeAt h' r0 x0 y0 p ∧ MadeAt h' r1 x1 y1 q) →
      St (cx w mg mb s0 L) (look lawN (some (.ref sl) :: some (.ref Nl) :: kv :: some (.ref b) :: some (.ref M) :: none :: some (.ref T) :: [none, none, none, none, none, none, none, none, none]))
        ((T, listOf [Value.str (tx (txt p.hd.octs)) ta, .str (tx (txt q.hd.octs)) tb].toArray 2) :: (M, listOf [Value.ref r0, .ref r1].toArray 0) :: (P, listOf [Value.ref a0, .ref a1].toArray 2) :: (a0, listOf (pV p t).toArray 0) :: (b, listOf (pV q u).toArray kb) :: (L + 1, op) :: (Nl, listOf vsN.toArray 0) :: ext) s →
      W (cx w mg mb s0 L) (A.deeper (lawE L)) (execs ((defBody (topSt 58)).drop 7) (lawE L)) Q NoE s) :
    W (cx w mg mb s0 L) (A.deeper (lawE L)) (execs ((defBody (topSt 58)).drop 5) (lawE L)) Q NoE s := by
  refine open_body rfl ?_
  refine x_asg <| e_list <| s_more <| e_call <| gl S g__law_made <| cw_fn' lk1457 <| s_more <| e_sub <| ldc S (C := L + 1) (by repeat (first | exact List.Mem.head _ | apply List.Mem.tail)) hop <| c_nat 0 S fun _ s S => ?_
  refine l_item (S.N (P, _) (by repeat (first | exact List.Mem.head _ | apply List.Mem.tail))).1 rfl <| s_nil ⟨⟨_, _, S⟩, ?_⟩
  have S0 := S
  refine use S (C_made S.gl R.deeper.less okp gp (S.N (a0, _) (by repeat (first | exact List.Mem.head _ | apply List.Mem.tail))).1) fun v s S x Pm => ?_
  obtain ⟨r0, x0, y0, u0, v0, rfl, hr, hx, hy⟩ := Pm
  obtain ⟨l0, S, hm0⟩ := S0.led S (made_led hr hx hy)
  refine s_more <| e_call <| gl S g__law_made <| cw_fn' lk1457 <| s_more <| ld 3 S <| s_nil ⟨⟨_, _, S⟩, ?_⟩
  have S0 := S
  refine use S (C_made S.gl R.deeper.less okq gq (S.N (b, _) (by repeat (first | exact List.Mem.head _ | apply List.Mem.tail))).1) fun v s S x Pm => ?_
  obtain ⟨r1, x1, y1, u1, v1, rfl, hr, hx, hy⟩ := Pm
  obtain ⟨l1, S, hm1⟩ := S0.led S (made_led hr hx hy)
  have hext : ∀ h', (∀ e ∈ l0 ++ l1, h'.get? e.1 = some e.2) → MadeAt h' r0 x0 y0 p ∧ MadeAt h' r1 x1 y1 q := fun h' H => ⟨hm0 h' fun e he => H e (List.mem_append_left _ he), hm1 h' fun e he => H e (List.mem_append_right _ he)⟩
  change St _ _ ((P, listOf [Value.ref a0, .ref a1].toArray 2) :: (a0, listOf (pV p t).toArray 0) :: (b, listOf (pV q u).toArray kb) :: (L + 1, op) :: (Nl, listOf vsN.toArray 0) :: (l0 ++ l1)) s at S
  refine s_nil <| r_list S fun M s S => st 4 S fun s S => ?_
  refine x_lc [] <| ld 4 S ?_
  refine lc_listU 6 (fun i y => ∃ tt, y = Value.str (tx (txt (if i = 0 then p.hd.octs else q.hd.octs))) tt) S (S.N (M, _) (by repeat (first | exact List.Mem.head _ | apply List.Mem.tail))).1 R.calm (.inr ⟨_, (by repeat (first | exact List.Mem.head _ | apply List.Mem.tail))⟩) (Nat.le_of_ble_eq_true rfl) ?_ ?_
  · rintro C oL I oI D oD i v s hv S
    have hE : ∀ {c' m' nw' s'}, St c' m' nw' s' → (∀ e ∈ l0 ++ l1, e ∈ nw') → MadeAt s'.heap r0 x0 y0 p ∧ MadeAt s'.heap r1 x1 y1 q := fun S h => hext _ fun e he => (S.N e (h e he)).1
    match i, hv with
    | 0, hv =>
      cases hv
      refine e_meth <| e_sub <| ld 0 S <| c_nat 0 S fun _ s S => ?_
      obtain ⟨⟨ua, va, hT⟩, hH, _⟩ := (hE S fun e he => .tail _ (.tail _ (.tail _ (.tail _ (.tail _ (.tail _ (.tail _ (.tail _ (.tail _ he))))))))).1
      have ⟨kk, t1, t2, t3, t4, t5, t6, OO, _⟩ := hH
      refine u_item hT rfl <| a_fn 46 S OO <| cw_fn0 lk1295 S ?_
      refine use S (C_b58 S.gl R.deeper.less (Part.hd_ok okp) gp hH) fun v s S x Pm => ?_
      obtain ⟨tt, rfl⟩ := Pm
      exact ⟨⟨tt, rfl⟩, S⟩
    | 1, hv =>
      cases hv
      refine e_meth <| e_sub <| ld 0 S <| c_nat 0 S fun _ s S => ?_
      obtain ⟨⟨ua, va, hT⟩, hH, _⟩ := (hE S fun e he => .tail _ (.tail _ (.tail _ (.tail _ (.tail _ (.tail _ (.tail _ (.tail _ (.tail _ he))))))))).2
      have ⟨kk, t1, t2, t3, t4, t5, t6, OO, _⟩ := hH
      refine u_item hT rfl <| a_fn 46 S OO <| cw_fn0 lk1295 S ?_
      refine use S (C_b58 S.gl R.deeper.less (Part.hd_ok okq) gq hH) fun v s S x Pm => ?_
      obtain ⟨tt, rfl⟩ := Pm
      exact ⟨⟨tt, rfl⟩, S⟩
    | i + 2, hv => simp at hv
  · intro T ys s hl hF hT S
    match ys, hl with
    | [ya, yb], _ =>
      obtain ⟨ta, rfl⟩ := hF 0 ya rfl
      obtain ⟨tb, rfl⟩ := hF 1 yb rfl
      exact k s M T r0 r1 x0 x1 y0 y1 ta tb (l0 ++ l1) hext S
end Mine
end

section
set_option Elab.async false
set_option maxRecDepth 100000
set_option linter.unusedVariables false
open PySem PySem.W PyProof.Rows PySem.Calls PySem.Spec
namespace Mine
abbrev lawFor2 : List Stmt := stFor (((defBody (topSt 58)).drop 7).headD noSt)
def Part.let4 (p : Part) : List Nat := if p.prv = true then p.row.2.1 else p.row.2.2.2
theorem row_let (p : Part) (ta tb tc td : Tok) : ∃ v, (rowV p.row ta tb tc td)[1 + 2 * (p.kind % 2)]? = some (.str (tx p.let4) v) := by
  unfold Part.let4 Part.prv
  rcases Nat.mod_two_eq_zero_or_one p.kind with h | h <;> rw [h]
  · exact ⟨tb, rfl⟩
  · exact ⟨td, rfl⟩
theorem lawK (L : Addr) : (lawE L).scope.kind ≠ .module := by rw [show (lawE L).scope.kind = fd1490.scope.kind from rfl, lawScope.2.1]; decide
theorem rm_units {A : Around} {n : Nat} (R : Rm A n) : A.units < cLine := by have := R.units; omega
theorem sameY1 {b : Array UInt8} {t u : Tok} : SameYs [.bytes b t] [.bytes b u] := ⟨rfl, fun j v w h1 h2 => by
  match j, h1, h2 with
  | 0, h1, h2 => cases h1; cases h2; exact ⟨b, t, u, rfl, rfl⟩
  | j + 1, h1, _ => simp at h1⟩
theorem sameY0 : SameYs [] [] := ⟨rfl, fun j v w h1 _ => by simp at h1⟩
theorem sameY2 {b d : Array UInt8} {t u t' u' : Tok} : SameYs [.bytes b t, .bytes d t'] [.bytes b u, .bytes d u'] := ⟨rfl, fun j v w h1 h2 => by
  match j, h1, h2 with
  | 0, h1, h2 => cases h1; cases h2; exact ⟨b, t, u, rfl, rfl⟩
  | 1, h1, h2 => cases h1; cases h2; exact ⟨d, t', u', rfl, rfl⟩
  | j + 2, h1, _ => simp at h1⟩
set_option maxHeartbeats 1000000 in
theorem law_turn {w mg mb A s0 s L sl Nl kv b M T r x y o tt ko tk} {p : Part} {news : List (Addr × Obj)} (R : Rm A 90) (hfr : A.frames = some []) (ok : p.Ok) (gp : p.hd.Good) (gb : p.pub.Good) (h111 : (txt p.hd.octs).length = 111) (h4 : (txt p.hd.octs).take 4 = p.let4)
    (H : ∀ h', (∀ e ∈ news, h'.get? e.1 = some e.2) → MadeAt h' r x y p ∧ h'.get? o = some (listOf (pV p tk).toArray ko))
    (S : St (cx w mg mb s0 L) (look lawN [some (.ref sl), some (.ref Nl), kv, some (.ref b), some (.ref M), some (.ref r), some (.ref T), some (.str (tx (txt p.hd.octs)) tt), some (.ref o), none, none, none, none, none, none, none]) news s) :
    W (cx w mg mb s0 L) (A.deeper (lawE L)) (execs lawFor2 (lawE L)) (fun f s' => f = .next ∧ St (cx w mg mb s0 L) (look lawN [some (.ref sl), some (.ref Nl), kv, some (.ref b), some (.ref M), some (.ref r), some (.ref T), some (.str (tx (txt p.hd.octs)) tt), some (.ref o), none, none, none, none, none, none, none]) news s') NoE s := by
  refine open_body rfl ?_
  refine x_if <| t_or <| t_cmp <| e_call <| b_len S <| cw_bt <| s_more <| ld 7 S <| s_nil ?_
  refine s_len S (by rw [h111]; decide) fun _ s S => c_nat 111 S fun _ s S => p_ne <| t_bool ?_
  refine ite_no (by rw [h111]; decide) ?_
  refine t_or <| t_cmp <| e_sub <| ld 7 S <| e_cut <| pt_none <| pt_some <| c_nat 4 S fun _ s S => ?_
  refine s_cutP S .none (.int _ _) (by rw [h111]; decide) fun _ s S => ?_
  rw [cut_take, h4]
  refine e_sub <| e_sub <| e_call <| gl S g__law_marks <| cw_fn0 lk1449 S ?_
  have S0 := S
  refine use S (C_marks S.gl R.deeper.less) fun v s S x1 P => ?_
  obtain ⟨q, its, rfl, hq, hrow⟩ := P
  obtain ⟨rv, hrv, rt, ta, tb, tc, td, rfl, hrt⟩ := hrow _ _ (p.row_at ok)
  have S := S0.add2 S hq hrt
  refine e_bin <| e_sub <| ld 8 S <| c_nat 0 S fun _ s S => ?_
  refine l_item (H _ fun e he => (S.N e (.tail _ (.tail _ he))).1).2 rfl <| c_nat 2 S fun _ s S => p_fdiv S (by decide) (by decide) fun _ s S => ?_
  refine l_item (S.N (q, _) (by repeat (first | exact List.Mem.head _ | apply List.Mem.tail))).1 hrv (hz := by have := ok.kind; omega) ?_
  refine e_bin <| c_nat 1 S fun _ s S => e_bin <| c_nat 2 S fun _ s S => e_bin <| e_sub <| ld 8 S <| c_nat 0 S fun _ s S => ?_
  refine l_item (H _ fun e he => (S.N e (.tail _ (.tail _ he))).1).2 rfl <| c_nat 2 S fun _ s S => p_mod S (by decide) fun _ s S => ?_
  have m2 := Nat.mod_lt p.kind (show 0 < 2 by decide)
  refine p_mul S (Small.lit (by decide)) (Small.lit (by omega)) fun _ s S => p_add S fun _ s S => ?_
  obtain ⟨vl, hvl⟩ := row_let p ta tb tc td
  refine u_item (S.N (rt, _) (by repeat (first | exact List.Mem.head _ | apply List.Mem.tail))).1 hvl (hz := by omega) ?_
  refine s_ne <| t_bool <| ite_no (by rw [decide_eq_true rfl]; decide) <| t_or0 <| ite_no Bool.false_ne_true <| x_nil ?_
  have S := S.drop.drop
  obtain ⟨⟨⟨ua, va, hT⟩, hH, hK⟩, ho⟩ := H _ fun e he => (S.N e he).1
  have ⟨kk, t1, t2, t3, t4, t5, t6, OO, _⟩ := hH
  refine x_if <| t_or <| t_cmp <| e_meth <| e_sub <| ld 5 S <| c_nat 0 S fun _ s S => ?_
  obtain ⟨⟨⟨ua, va, hT⟩, hH, hK⟩, ho⟩ := H _ fun e he => (S.N e he).1
  have ⟨kk, t1, t2, t3, t4, t5, t6, OO, _⟩ := hH
  refine u_item hT rfl <| a_fn 44 S OO <| cw_fn0 lk784 S ?_
  refine use S (C_hd_ser0 S.gl R.deeper.less (p.hd_ok ok) hH) fun v s S x1 P => ?_
  obtain ⟨us, rfl⟩ := P
  refine e_sub <| ld 5 S <| c_nat 1 S fun _ s S => ?_
  obtain ⟨⟨⟨ua, va, hT⟩, hH, hK⟩, ho⟩ := H _ fun e he => (S.N e he).1
  refine u_item hT rfl <| y_ne <| t_bool <| ite_no (by rw [bne_self_eq_false]; exact Bool.false_ne_true) ?_
  refine t_or <| t_cmp <| e_call <| gl S g__law_public <| cw_fn' lk1471 <| s_more <| e_sub <| ld 5 S <| c_nat 0 S fun _ s S => ?_
  obtain ⟨⟨⟨ua, va, hT⟩, hH, hK⟩, ho⟩ := H _ fun e he => (S.N e he).1
  refine u_item hT rfl <| s_nil ⟨⟨_, _, S⟩, ?_⟩
  by_cases hp : p.prv = true
  · have S0 := S
    refine use S (C_lpublic (pub := p.pub.ver) S.gl R.deeper.less (p.hd_ok ok) hp (p.pair ok hp) (by rw [p.sib ok hp]; exact gb) hH) fun v s S x1 P => ?_
    obtain ⟨l, u, rfl, hl⟩ := P
    rw [p.sib ok hp] at hl
    have S := S0.add1 S hl
    refine e_if <| t_cmp <| e_bin <| e_sub <| ld 8 S <| c_nat 0 S fun _ s S => ?_
    refine l_item (H _ fun e he => (S.N e (.tail _ he)).1).2 rfl <| c_nat 2 S fun _ s S => p_mod S (by decide) fun _ s S => c_nat 0 S fun _ s S => p_eq <| t_bool <| ite_yes hp ?_
    refine e_list <| s_more <| e_sub <| ld 5 S <| c_nat 3 S fun _ s S => ?_
    obtain ⟨⟨⟨ua, va, hT⟩, _, _⟩, _⟩ := H _ fun e he => (S.N e (.tail _ he)).1
    refine u_item hT rfl <| s_nil <| r_list S fun l2 s S => ?_
    refine l_neS (S.N (l, _) (by repeat (first | exact List.Mem.head _ | apply List.Mem.tail))).1 (S.N (l2, _) (by repeat (first | exact List.Mem.head _ | apply List.Mem.tail))).1 sameY1 (rm_units (R.deeper.less (k := 0))) <| t_bool <| ite_no Bool.false_ne_true <| t_or0 <| ite_no Bool.false_ne_true <| x_nil <| x_nil ⟨rfl, S.drop.drop⟩
  · have hp' : p.prv = false := by simpa using hp
    have S0 := S
    refine useC S hfr rfl (lawK L) (fun G K => T_lpublic (H := p.hd) G K R.deeper.less hp' hH) fun v s S x1 P => ?_
    obtain ⟨l, rfl, hl⟩ := S0.nil_new P
    have S := S0.add1 S hl
    refine e_if <| t_cmp <| e_bin <| e_sub <| ld 8 S <| c_nat 0 S fun _ s S => ?_
    refine l_item (H _ fun e he => (S.N e (.tail _ he)).1).2 rfl <| c_nat 2 S fun _ s S => p_mod S (by decide) fun _ s S => c_nat 0 S fun _ s S => p_eq <| t_bool <| ite_no hp ?_
    refine e_list <| s_nil <| r_list S fun l2 s S => ?_
    refine l_neS (S.N (l, _) (by repeat (first | exact List.Mem.head _ | apply List.Mem.tail))).1 (S.N (l2, _) (by repeat (first | exact List.Mem.head _ | apply List.Mem.tail))).1 sameY0 (rm_units (R.deeper.less (k := 0))) <| t_bool <| ite_no Bool.false_ne_true <| t_or0 <| ite_no Bool.false_ne_true <| x_nil <| x_nil ⟨rfl, S.drop.drop⟩
end Mine
end

section
set_option Elab.async false
set_option maxRecDepth 100000
set_option linter.unusedVariables false
open PySem PySem.W PyProof.Rows PySem.Calls PySem.Spec
namespace Mine
section
variable {c : Cx} {m : Str → Option Value} {A : Around} {E : Value → Shared → Prop} {s : Shared} {news : List (Addr × Obj)} {Q : Value → Shared → Prop}
theorem r_zip3 {l1 l2 t3 : Addr} {xs ys zs : List Value} {k1 k2 : Nat} (S : St c m news s) (h1 : s.heap.get? l1 = some (listOf xs.toArray k1)) (h2 : s.heap.get? l2 = some (listOf ys.toArray k2)) (h3 : s.heap.get? t3 = some (tupOf zs.toArray))
    (h : ∀ (n : Nat) s', St c m news s' → Z3 s'.heap n 0 l1 l2 t3 xs ys zs .none → (∀ p ∈ news, (p.1 : Nat) < n) → c.L < n → Q (.ref (n + 5)) s') : W c A (call (.type "zip") [.ref l1, .ref l2, .ref t3]) Q E s := by
  obtain ⟨oL, es, ep, hL, r⟩ := S.F.ns
  exact W.mk (call_zip3 ⟨_, h1, rfl, _, rfl⟩ ⟨_, h2, rfl, _, rfl⟩ ⟨_, h3, rfl, _, rfl⟩ fun h' Z all => h s.heap.objs.size _ (S.grow (tk := s.toks) all) Z (fun p hp => Heap.lt_size (S.N p hp).1) (Heap.lt_size hL))
end
abbrev v9 : List (Option Value) := [none, none, none, none, none, none, none, none, none]
abbrev v7 : List (Option Value) := [none, none, none, none, none, none, none]
abbrev conc (L Nl P a0 a1 b M T r0 r1 : Addr) (op : Obj) (kb : Nat) (p q : Part) (vsN : List Value) (t u : Nat → Tok) (ta tb : Tok) (ext : List (Addr × Obj)) : List (Addr × Obj) :=
  (T, listOf [Value.str (tx (txt p.hd.octs)) ta, .str (tx (txt q.hd.octs)) tb].toArray 2) :: (M, listOf [Value.ref r0, .ref r1].toArray 0) :: (P, listOf [Value.ref a0, .ref a1].toArray 2) :: (a0, listOf (pV p t).toArray 0) :: (b, listOf (pV q u).toArray kb) :: (L + 1, op) :: (Nl, listOf vsN.toArray 0) :: ext
set_option maxHeartbeats 1000000 in
theorem law_C {w mg mb A s0 s L sl Nl P a0 a1 b kb op kv t u M T r0 r1 x0 x1 y0 y1 ta tb ext} {p q : Part} {vsN : List Value} {Q : Flow → Shared → Prop} (R : Rm A 90) (hfr : A.frames = some []) (okp : p.Ok) (okq : q.Ok) (gp : p.hd.Good) (gq : q.hd.Good) (bp : p.pub.Good) (bq : q.pub.Good)
    (l1 : (txt p.hd.octs).length = 111) (l2 : (txt q.hd.octs).length = 111) (f1 : (txt p.hd.octs).take 4 = p.let4) (f2 : (txt q.hd.octs).take 4 = q.let4) (hop : op.data = .cell (some (.ref P)))
    (hext : ∀ h', (∀ e ∈ ext, h'.get? e.1 = some e.2) → MadeAt h' r0 x0 y0 p ∧ MadeAt h' r1 x1 y1 q)
    (S : St (cx w mg mb s0 L) (look lawN (some (.ref sl) :: some (.ref Nl) :: kv :: some (.ref b) :: some (.ref M) :: none :: some (.ref T) :: v9)) (conc L Nl P a0 a1 b M T r0 r1 op kb p q vsN t u ta tb ext) s)
    (k : ∀ s rv tv ov, St (cx w mg mb s0 L) (look lawN (some (.ref sl) :: some (.ref Nl) :: kv :: some (.ref b) :: some (.ref M) :: rv :: some (.ref T) :: tv :: ov :: v7)) (conc L Nl P a0 a1 b M T r0 r1 op kb p q vsN t u ta tb ext) s →
      W (cx w mg mb s0 L) (A.deeper (lawE L)) (execs ((defBody (topSt 58)).drop 8) (lawE L)) Q NoE s) :
    W (cx w mg mb s0 L) (A.deeper (lawE L)) (execs ((defBody (topSt 58)).drop 7) (lawE L)) Q NoE s := by
  refine open_body rfl ?_
  refine x_for <| e_call <| b_zip S <| cw_ty <| s_more <| ld 4 S <| s_more <| ld 6 S <| s_more <| e_tup <| s_more <| e_sub <| ldc S (C := L + 1) (by repeat (first | exact List.Mem.head _ | apply List.Mem.tail)) hop <| c_nat 0 S fun _ s S => ?_
  refine l_item (S.N (P, _) (by repeat (first | exact List.Mem.head _ | apply List.Mem.tail))).1 rfl <| s_more <| ld 3 S <| s_nil <| r_tupleF S fun Tz s S hTz => s_nil ?_
  refine r_zip3 S (S.N (M, _) (by repeat (first | exact List.Mem.head _ | apply List.Mem.tail))).1 (S.N (T, _) (by repeat (first | exact List.Mem.head _ | apply List.Mem.tail))).1 (S.N (Tz, _) (by repeat (first | exact List.Mem.head _ | apply List.Mem.tail))).1 fun n s S Z hlt hL => ?_
  refine W.mk (wpAny_pyIter_zip Z.z ?_)
  have g1 : (cx w mg mb s0 L).g.objs.size ≤ n := Nat.le_trans S.F.above (Nat.le_of_lt hL)
  have eT : ∀ e ∈ ext, e ∈ (Tz, tupOf [Value.ref a0, .ref b].toArray) :: conc L Nl P a0 a1 b M T r0 r1 op kb p q vsN t u ta tb ext := fun e he => .tail _ (.tail _ (.tail _ (.tail _ (.tail _ (.tail _ (.tail _ (.tail _ he)))))))
  refine w_zip3 (xs := [Value.ref r0, .ref r1]) (ys := [Value.str (tx (txt p.hd.octs)) ta, .str (tx (txt q.hd.octs)) tb]) (zs := [Value.ref a0, .ref b]) R.calm (fun i vs nw => nw = (Tz, tupOf [Value.ref a0, .ref b].toArray) :: conc L Nl P a0 a1 b M T r0 r1 op kb p q vsN t u ta tb ext ∧ ∃ rv tv ov, vs = some (.ref sl) :: some (.ref Nl) :: kv :: some (.ref b) :: some (.ref M) :: rv :: some (.ref T) :: tv :: ov :: v7) rfl rfl
    (.inr ⟨listOf [Value.ref r0, .ref r1].toArray 0, fun i vs nw h => by rw [h.1]; exact (by repeat (first | exact List.Mem.head _ | apply List.Mem.tail))⟩) (.inr ⟨listOf [Value.str (tx (txt p.hd.octs)) ta, .str (tx (txt q.hd.octs)) tb].toArray 2, fun i vs nw h => by rw [h.1]; exact (by repeat (first | exact List.Mem.head _ | apply List.Mem.tail))⟩) (.inr ⟨tupOf [Value.ref a0, .ref b].toArray, fun i vs nw h => by rw [h.1]; exact (by repeat (first | exact List.Mem.head _ | apply List.Mem.tail))⟩)
    (fun i vs nw h e he => .inl (hlt e (by rw [h.1] at he; exact he))) ?_ ?_ S ⟨rfl, none, none, none, rfl⟩ Z g1 hL
  · rintro i x y d TT vs nw s o1 o2 o3 o4 o5 o6 hx hy hd ⟨rfl, rv, tv, ov, rfl⟩ S
    match i, hx, hy, hd with
    | 0, hx, hy, hd =>
      cases hx; cases hy; cases hd
      refine g_tup S R.calm (by repeat (first | exact List.Mem.head _ | apply List.Mem.tail)) fun s S => o_cons <| g_name <| st 5 S fun s S => o_cons <| g_name <| st 7 S fun s S => o_cons <| g_name <| st 8 S fun s S => o_nil ?_
      refine (law_turn (x := x0) (y := y0) (o := a0) (ko := 0) (tk := t) R hfr okp gp bp l1 f1 (fun h' hh => ⟨(hext h' fun e he => hh e (.tail _ (.tail _ (.tail _ (.tail _ (.tail _ (.tail _ (.tail _ (eT e he))))))))).1, hh (a0, _) (by repeat (first | exact List.Mem.head _ | apply List.Mem.tail))⟩) S).mono (fun f s' h => ?_) fun _ _ q => q
      obtain ⟨rfl, S⟩ := h
      exact ⟨_, _, ⟨rfl, _, _, _, rfl⟩, S.drop⟩
    | 1, hx, hy, hd =>
      cases hx; cases hy; cases hd
      refine g_tup S R.calm (by repeat (first | exact List.Mem.head _ | apply List.Mem.tail)) fun s S => o_cons <| g_name <| st 5 S fun s S => o_cons <| g_name <| st 7 S fun s S => o_cons <| g_name <| st 8 S fun s S => o_nil ?_
      refine (law_turn (x := x1) (y := y1) (o := b) (ko := kb) (tk := u) R hfr okq gq bq l2 f2 (fun h' hh => ⟨(hext h' fun e he => hh e (.tail _ (.tail _ (.tail _ (.tail _ (.tail _ (.tail _ (.tail _ (eT e he))))))))).2, hh (b, _) (by repeat (first | exact List.Mem.head _ | apply List.Mem.tail))⟩) S).mono (fun f s' h => ?_) fun _ _ q => q
      obtain ⟨rfl, S⟩ := h
      exact ⟨_, _, ⟨rfl, _, _, _, rfl⟩, S.drop⟩
    | i + 2, hx, _, _ => simp at hx
  · rintro vs nw s ⟨rfl, rv, tv, ov, rfl⟩ S
    exact k s rv tv ov S.drop
end Mine
end

section
set_option Elab.async false
set_option maxRecDepth 100000
set_option linter.unusedVariables false
open PySem PySem.W PyProof.Rows PySem.Calls PySem.Spec
namespace Mine
def lostB (p : Part) : Bool := decide (p.depth = 0) && (!decide (p.finger = 0) || !decide (p.number = 0))
/-- the other key under the key's mark -/
def Part.wrong (q : Part) : Hd := ⟨!q.prv, toBE 4 q.mark, (List.replicate 32 ([7] : List UInt8)).flatten, 0, [0, 0, 0, 0], 0, q.body (!q.prv)⟩
theorem Part.wrong_ok {q : Part} (ok : q.Ok) : q.wrong.Ok := ⟨toBE_len _ _, show ((List.replicate 32 ([7] : List UInt8)).flatten).length = 32 by decide, rfl, show (0 : Nat) < 256 by decide, show (0 : Nat) < 256 ^ 4 by decide, (q.hd_ok ok).nz⟩
theorem lost_iff {p : Part} (ok : p.Ok) : p.hd.Lost ↔ lostB p = true := by
  have hf : (toBE 4 p.finger ≠ [0, 0, 0, 0]) ↔ p.finger ≠ 0 := by
    constructor
    · intro h e; exact h (by rw [e]; rfl)
    · intro h e
      have := beN_to ok.finger
      rw [e] at this
      exact h this.symm
  unfold Hd.Lost lostB
  show (p.depth = 0 ∧ (p.number ≠ 0 ∨ toBE 4 p.finger ≠ [0, 0, 0, 0])) ↔ _
  rw [hf]
  simp
  intro _
  exact Or.comm
abbrev v6 : List (Option Value) := [none, none, none, none, none, none]
set_option maxHeartbeats 1000000 in
theorem law_D {w mg mb A s0 s L sl Nl P a0 a1 b kb op kv t u M T r0 r1 x0 x1 y0 y1 ta tb ext rv tv ov} {p q : Part} {vsN : List Value} {Q : Flow → Shared → Prop} (R : Rm A 90) (hfr : A.frames = some []) (okp : p.Ok) (okq : q.Ok) (gp : p.hd.Good)
    (l1 : (txt p.hd.octs).length = 111) (l2 : (txt q.hd.octs).length = 111) (hLT : decide (txt p.hd.octs < txt q.hd.octs) = (Builtin.Bytes.order p.hd.octs q.hd.octs == .lt)) (hEQ : decide (txt p.hd.octs = txt q.hd.octs) = (p.hd.octs == q.hd.octs))
    (kd : KeyData p.hd.p p.hd.body) (bad : q.wrong.Bad) (hop : op.data = .cell (some (.ref P)))
    (hext : ∀ h', (∀ e ∈ ext, h'.get? e.1 = some e.2) → MadeAt h' r0 x0 y0 p ∧ MadeAt h' r1 x1 y1 q)
    (S : St (cx w mg mb s0 L) (look lawN (some (.ref sl) :: some (.ref Nl) :: kv :: some (.ref b) :: some (.ref M) :: rv :: some (.ref T) :: tv :: ov :: v7)) (conc L Nl P a0 a1 b M T r0 r1 op kb p q vsN t u ta tb ext) s)
    (k : ∀ s lv, St (cx w mg mb s0 L) (look lawN (some (.ref sl) :: some (.ref Nl) :: kv :: some (.ref b) :: some (.ref M) :: rv :: some (.ref T) :: tv :: ov :: some lv :: v6)) [(Nl, listOf vsN.toArray 0)] s →
      W (cx w mg mb s0 L) (A.deeper (lawE L)) (execs ((defBody (topSt 58)).drop 12) (lawE L)) Q NoE s) :
    W (cx w mg mb s0 L) (A.deeper (lawE L)) (execs ((defBody (topSt 58)).drop 8) (lawE L)) Q NoE s := by
  have hE : ∀ {m' nw' s'}, St (cx w mg mb s0 L) m' nw' s' → (∀ e ∈ ext, e ∈ nw') → MadeAt s'.heap r0 x0 y0 p ∧ MadeAt s'.heap r1 x1 y1 q := fun S h => hext _ fun e he => (S.N e (h e he)).1
  have e7 : ∀ e ∈ ext, e ∈ conc L Nl P a0 a1 b M T r0 r1 op kb p q vsN t u ta tb ext := fun e he => .tail _ (.tail _ (.tail _ (.tail _ (.tail _ (.tail _ (.tail _ he))))))
  refine open_body rfl ?_
  refine x_if <| t_or <| t_cmp <| e_cmp <| e_sub <| ld 6 S <| c_nat 0 S fun _ s S => ?_
  refine l_item (S.N (T, _) (by repeat (first | exact List.Mem.head _ | apply List.Mem.tail))).1 rfl <| e_sub <| ld 6 S <| c_nat 1 S fun _ s S => ?_
  refine l_item (S.N (T, _) (by repeat (first | exact List.Mem.head _ | apply List.Mem.tail))).1 rfl <| s_lt ?_
  refine e_cmp <| e_sub <| e_sub <| ld 4 S <| c_nat 0 S fun _ s S => ?_
  refine l_item (S.N (M, _) (by repeat (first | exact List.Mem.head _ | apply List.Mem.tail))).1 rfl <| c_nat 1 S fun _ s S => ?_
  obtain ⟨⟨⟨ua, va, hT0⟩, _, _⟩, _⟩ := hE S e7
  refine u_item hT0 rfl <| e_sub <| e_sub <| ld 4 S <| c_nat 1 S fun _ s S => ?_
  refine l_item (S.N (M, _) (by repeat (first | exact List.Mem.head _ | apply List.Mem.tail))).1 rfl <| c_nat 1 S fun _ s S => ?_
  obtain ⟨_, ⟨⟨ub, vb, hT1⟩, _, _⟩⟩ := hE S e7
  refine u_item hT1 rfl <| y_lt <| n_nebool <| t_bool <| ite_no (by rw [hLT, bne_self_eq_false]; exact Bool.false_ne_true) ?_
  refine t_or <| t_cmp <| e_cmp <| e_sub <| ld 6 S <| c_nat 0 S fun _ s S => ?_
  refine l_item (S.N (T, _) (by repeat (first | exact List.Mem.head _ | apply List.Mem.tail))).1 rfl <| e_sub <| ld 6 S <| c_nat 1 S fun _ s S => ?_
  refine l_item (S.N (T, _) (by repeat (first | exact List.Mem.head _ | apply List.Mem.tail))).1 rfl <| s_eq ?_
  refine e_cmp <| e_sub <| e_sub <| ld 4 S <| c_nat 0 S fun _ s S => ?_
  refine l_item (S.N (M, _) (by repeat (first | exact List.Mem.head _ | apply List.Mem.tail))).1 rfl <| c_nat 1 S fun _ s S => ?_
  obtain ⟨⟨⟨ua, va, hT0⟩, _, _⟩, _⟩ := hE S e7
  refine u_item hT0 rfl <| e_sub <| e_sub <| ld 4 S <| c_nat 1 S fun _ s S => ?_
  refine l_item (S.N (M, _) (by repeat (first | exact List.Mem.head _ | apply List.Mem.tail))).1 rfl <| c_nat 1 S fun _ s S => ?_
  obtain ⟨_, ⟨⟨ub, vb, hT1⟩, _, _⟩⟩ := hE S e7
  refine u_item hT1 rfl <| y_eq <| n_nebool <| t_bool <| ite_no (by rw [hEQ, bne_self_eq_false]; exact Bool.false_ne_true) <| t_or0 <| ite_no Bool.false_ne_true <| x_nil ?_
  -- lost
  refine x_asg ?_
  have lostW : W (cx w mg mb s0 L) (A.deeper (lawE L)) (eval (match ((defBody (topSt 58)).drop 9).headD noSt with | .Assign _ v _ => v | _ => .Constant .none 0 ⟨0, 0, 0, 0⟩) (lawE L)) (fun v s' => v = .bool (lostB p) ∧ St (cx w mg mb s0 L) (look lawN (some (.ref sl) :: some (.ref Nl) :: kv :: some (.ref b) :: some (.ref M) :: rv :: some (.ref T) :: tv :: ov :: v7)) (conc L Nl P a0 a1 b M T r0 r1 op kb p q vsN t u ta tb ext) s') NoE s := by
    show W _ _ (eval (.BoolOp .And [_, _] _) _) _ _ _
    refine e_and <| e_cmp <| e_sub <| e_sub <| ldc S (C := L + 1) (by repeat (first | exact List.Mem.head _ | apply List.Mem.tail)) hop <| c_nat 0 S fun _ s S => ?_
    refine l_item (S.N (P, _) (by repeat (first | exact List.Mem.head _ | apply List.Mem.tail))).1 rfl <| c_nat 1 S fun _ s S => ?_
    refine l_item (S.N (a0, _) (by repeat (first | exact List.Mem.head _ | apply List.Mem.tail))).1 rfl <| c_nat 0 S fun _ s S => p_eq <| t_bool <| ite_two (fun h => ?_) fun h => ⟨?_, S⟩
    · have h := of_decide_eq_true h
      refine e_or <| e_cmp <| e_sub <| e_sub <| ldc S (C := L + 1) (by repeat (first | exact List.Mem.head _ | apply List.Mem.tail)) hop <| c_nat 0 S fun _ s S => ?_
      refine l_item (S.N (P, _) (by repeat (first | exact List.Mem.head _ | apply List.Mem.tail))).1 rfl <| c_nat 2 S fun _ s S => ?_
      refine l_item (S.N (a0, _) (by repeat (first | exact List.Mem.head _ | apply List.Mem.tail))).1 rfl <| c_nat 0 S fun _ s S => p_ne <| t_bool <| ite_two (fun h2 => ⟨?_, S⟩) fun h2 => ?_
      · unfold lostB; rw [h, h2]; rfl
      · refine e_cmp <| e_sub <| e_sub <| ldc S (C := L + 1) (by repeat (first | exact List.Mem.head _ | apply List.Mem.tail)) hop <| c_nat 0 S fun _ s S => ?_
        refine l_item (S.N (P, _) (by repeat (first | exact List.Mem.head _ | apply List.Mem.tail))).1 rfl <| c_nat 3 S fun _ s S => ?_
        refine l_item (S.N (a0, _) (by repeat (first | exact List.Mem.head _ | apply List.Mem.tail))).1 rfl <| c_nat 0 S fun _ s S => p_ne ⟨?_, S⟩
        unfold lostB
        rw [h, show (!decide (p.finger = 0)) = false by simpa using h2]
        rfl
    · unfold lostB
      have h2 : decide (p.depth = 0) = false := by simpa using h
      rw [h2]; rfl
  refine lostW.mono (fun v s' h => ?_) fun _ _ q => q
  obtain ⟨rfl, S⟩ := h
  refine st 9 S fun s S => ?_
  -- _law_read
  have after : ∀ s lv, St (cx w mg mb s0 L) (look lawN (some (.ref sl) :: some (.ref Nl) :: kv :: some (.ref b) :: some (.ref M) :: rv :: some (.ref T) :: tv :: ov :: some lv :: v6)) (conc L Nl P a0 a1 b M T r0 r1 op kb p q vsN t u ta tb ext) s →
      W (cx w mg mb s0 L) (A.deeper (lawE L)) (execs ((defBody (topSt 58)).drop 11) (lawE L)) Q NoE s := fun s lv S => by
    refine open_body rfl ?_
    refine x_if <| t_not <| t_val <| e_call <| gl S g__law_wrong <| cw_fn' lk1464 <| s_more <| e_sub <| e_sub <| ld 4 S <| c_nat 1 S fun _ s S => ?_
    refine l_item (S.N (M, _) (by repeat (first | exact List.Mem.head _ | apply List.Mem.tail))).1 rfl <| c_nat 2 S fun _ s S => ?_
    obtain ⟨_, ⟨⟨ub, vb, hT1⟩, _, _⟩⟩ := hE S e7
    refine u_item hT1 rfl <| s_more <| e_bin <| c_bytes S fun _ s S => c_nat 32 S fun _ s S => y_mul S (by decide) (by decide) (by decide) fun t7 s S => ?_
    refine s_more <| e_sub <| e_sub <| e_sub <| ld 4 S <| c_nat 1 S fun _ s S => ?_
    refine l_item (S.N (M, _) (by repeat (first | exact List.Mem.head _ | apply List.Mem.tail))).1 rfl <| c_nat 1 S fun _ s S => ?_
    obtain ⟨_, ⟨⟨ub, vb, hT1⟩, hH1, _⟩⟩ := hE S e7
    refine u_item hT1 rfl <| e_cut <| pt_none <| pt_some <| c_nat 4 S fun _ s S => ?_
    refine y_cut S .none (.int _ _) (by rw [hH1.len (q.hd_ok okq)]; decide) fun tm s S => ?_
    have et : cutL none (some ((4 : Nat) : Int)) q.hd.octs = toBE 4 q.mark := by
      rw [cut_take, Part.octs, List.append_assoc]
      exact List.take_left' (toBE_len _ _)
    rw [et]
    refine s_nil ⟨⟨_, _, S⟩, ?_⟩
    obtain ⟨_, ⟨_, _, hK1⟩⟩ := hE S e7
    refine useC S hfr rfl (lawK L) (fun G K => C_wrong (H := q.wrong) (t1 := tm) (t2 := t7) G K R.deeper.less (q.wrong_ok okq) bad hK1 rfl rfl rfl) fun v s S x1 P => ?_
    subst P
    refine t_bool <| ite_no (by decide) <| x_nil ?_
    exact k s lv (S.sub fun e he => by rw [List.mem_singleton.mp he]; exact (by repeat (first | exact List.Mem.head _ | apply List.Mem.tail)))
  refine x_if <| t_cmp <| e_call <| gl S g__law_read <| cw_fn' lk1478 <| s_more <| e_sub <| ld 6 S <| c_nat 0 S fun _ s S => ?_
  refine l_item (S.N (T, _) (by repeat (first | exact List.Mem.head _ | apply List.Mem.tail))).1 rfl <| s_nil ⟨⟨_, _, S⟩, ?_⟩
  by_cases hl : lostB p = true
  · have S0 := S
    refine useC S hfr rfl (lawK L) (fun G K => T_lread (H := p.hd) G K R.deeper.less (p.hd_ok okp) gp kd ((lost_iff okp).mpr hl)) fun v s S x1 P => ?_
    obtain ⟨l, rfl, hN⟩ := S0.nil_new P
    have S := S0.add1 S hN
    refine e_if <| t_val <| ld 9 S <| t_bool <| ite_yes hl <| e_list <| s_nil <| r_list S fun l2 s S => ?_
    refine l_neS (S.N (l, _) (by repeat (first | exact List.Mem.head _ | apply List.Mem.tail))).1 (S.N (l2, _) (by repeat (first | exact List.Mem.head _ | apply List.Mem.tail))).1 sameY0 (rm_units (R.deeper.less (k := 0))) <| t_bool <| ite_no Bool.false_ne_true <| x_nil ?_
    exact after _ _ S.drop.drop
  · have S0 := S
    refine use S (C_lread (H := p.hd) S.gl R.deeper.less (p.hd_ok okp) gp kd fun z => hl ((lost_iff okp).mp z)) fun v s S x1 P => ?_
    obtain ⟨l, u', rfl, hN⟩ := P
    have S := S0.add1 S hN
    refine e_if <| t_val <| ld 9 S <| t_bool <| ite_no hl <| e_list <| s_more <| e_sub <| e_sub <| ld 4 S <| c_nat 0 S fun _ s S => ?_
    refine l_item (S.N (M, _) (by repeat (first | exact List.Mem.head _ | apply List.Mem.tail))).1 rfl <| c_nat 1 S fun _ s S => ?_
    obtain ⟨⟨⟨ua, va, hT0⟩, _, _⟩, _⟩ := hE S fun e he => .tail _ (e7 e he)
    refine u_item hT0 rfl <| s_nil <| r_list S fun l2 s S => ?_
    refine l_neS (S.N (l, _) (by repeat (first | exact List.Mem.head _ | apply List.Mem.tail))).1 (S.N (l2, _) (by repeat (first | exact List.Mem.head _ | apply List.Mem.tail))).1 sameY1 (rm_units (R.deeper.less (k := 0))) <| t_bool <| ite_no Bool.false_ne_true <| x_nil ?_
    exact after _ _ S.drop.drop
end Mine
end

section
set_option Elab.async false
set_option maxRecDepth 100000
set_option linter.unusedVariables false
open PySem PySem.W PyProof.Rows PySem.Calls PySem.Spec
namespace Mine
theorem cut_five {vs : List Value} {ns : List Int} (h : IntsAre vs ns) (hl : 21 ≤ ns.length) : ∃ t0 t1 t2 t3 t4, cutL (some ((13 : Nat) : Int)) (some ((18 : Nat) : Int)) vs = [Value.int (ns.getD 13 0) t0, .int (ns.getD 14 0) t1, .int (ns.getD 15 0) t2, .int (ns.getD 16 0) t3, .int (ns.getD 17 0) t4] := by
  have hv : vs.length = ns.length := h.length
  have e : cutL (some ((13 : Nat) : Int)) (some ((18 : Nat) : Int)) vs = (vs.drop 13).take 5 := by
    unfold cutL
    simp only [Option.elim]
    rw [clipAt_nat, clipAt_nat, Nat.min_eq_left (by omega), Nat.min_eq_left (by omega)]
  rw [e]
  obtain ⟨t0, h0⟩ := ints_atI h (i := 13) (by omega)
  obtain ⟨t1, h1⟩ := ints_atI h (i := 14) (by omega)
  obtain ⟨t2, h2⟩ := ints_atI h (i := 15) (by omega)
  obtain ⟨t3, h3⟩ := ints_atI h (i := 16) (by omega)
  obtain ⟨t4, h4⟩ := ints_atI h (i := 17) (by omega)
  refine ⟨t0, t1, t2, t3, t4, ?_⟩
  apply List.ext_getElem?
  intro i
  by_cases hi : i < 5
  · rw [List.getElem?_take_of_lt hi, List.getElem?_drop]
    match i, hi with
    | 0, _ => exact h0
    | 1, _ => exact h1
    | 2, _ => exact h2
    | 3, _ => exact h3
    | 4, _ => exact h4
  · rw [List.getElem?_eq_none (by rw [List.length_take]; omega), List.getElem?_eq_none (by simp; omega)]
def pathOf (ns : List Int) : List Nat := pathN (ns.getD 13 0) (ns.getD 14 0) (ns.getD 15 0) (ns.getD 16 0) (ns.getD 17 0)
theorem hard_le (x : Int) (d : Nat) : hard x d ≤ 2147483648 := by unfold hard; split <;> decide
theorem pathN_ok (n0 n1 n2 n3 n4 : Int) : pathN n0 n1 n2 n3 n4 ≠ [] ∧ (∀ n ∈ pathN n0 n1 n2 n3 n4, n < 4294967296) ∧ (pathN n0 n1 n2 n3 n4).length ≤ 5 := by
  unfold pathN
  refine ⟨?_, ?_, ?_⟩
  · rw [Nat.add_comm]; simp
  · intro n hn
    have hn := List.mem_of_mem_take hn
    have h6 := modlt n0 (b := 6) (by decide)
    have h3 := modlt n1 (b := 3) (by decide)
    have h4 := modlt n2 (b := 4) (by decide)
    have h32 := modlt n3 (b := 4294967296) (by decide)
    have h100 := modlt (n3 / ((5 : Nat) : Int)) (b := 100) (by decide)
    have a := hard_le n0 6
    have b := hard_le n1 3
    have c := hard_le n2 4
    have hf : firsts.getD (n0 % ((6 : Nat) : Int)).toNat 0 ≤ 86 := by
      generalize (n0 % ((6 : Nat) : Int)).toNat = i at h6
      match i, h6 with
      | 0, _ => decide
      | 1, _ => decide
      | 2, _ => decide
      | 3, _ => decide
      | 4, _ => decide
      | 5, _ => decide
    simp only [List.mem_cons, List.not_mem_nil, or_false] at hn
    rcases hn with rfl | rfl | rfl | rfl | rfl <;> omega
  · rw [List.length_take]; simp; omega
theorem pathOf_ok (ns : List Int) : pathOf ns ≠ [] ∧ (∀ n ∈ pathOf ns, n < 4294967296) ∧ (pathOf ns).length ≤ 5 := pathN_ok _ _ _ _ _
def netOf (ns : List Int) : Nat := (ns.getD 18 0 % ((5 : Nat) : Int)).toNat
abbrev v5 : List (Option Value) := [none, none, none, none, none]
abbrev v4 : List (Option Value) := [none, none, none, none]
abbrev v3 : List (Option Value) := [none, none, none]
set_option maxHeartbeats 1000000 in
/-- path, kind -/
theorem law_E1 {w mg mb A s0 s L sl Nl kv bv Mv rv Tv tv ov lv} {nums : List Int} {vsN : List Value} {Q : Flow → Shared → Prop} (R : Rm A 90) (hN : IntsAre vsN nums) (hlen : 21 ≤ nums.length) (hmax : nums.length ≤ 1000)
    (S : St (cx w mg mb s0 L) (look lawN (some (.ref sl) :: some (.ref Nl) :: kv :: bv :: Mv :: rv :: Tv :: tv :: ov :: lv :: v6)) [(Nl, listOf vsN.toArray 0)] s)
    (k : ∀ s pth its tk, IntsAre its ((pathOf nums).map fun (k : Nat) => (k : Int)) →
      St (cx w mg mb s0 L) (look lawN (some (.ref sl) :: some (.ref Nl) :: kv :: bv :: Mv :: rv :: Tv :: tv :: ov :: lv :: some (.ref pth) :: some (.int (pKind (pathOf nums) : Nat) tk) :: v4)) [(pth, listOf its.toArray 0), (Nl, listOf vsN.toArray 0)] s →
      W (cx w mg mb s0 L) (A.deeper (lawE L)) (execs ((defBody (topSt 58)).drop 15) (lawE L)) Q NoE s) :
    W (cx w mg mb s0 L) (A.deeper (lawE L)) (execs ((defBody (topSt 58)).drop 12) (lawE L)) Q NoE s := by
  have hvl : vsN.length = nums.length := hN.length
  obtain ⟨t0, t1, t2, t3, t4, h5⟩ := cut_five hN hlen
  obtain ⟨pne, plt, pl5⟩ := pathOf_ok nums
  refine open_body rfl ?_
  refine x_asg <| e_call <| gl S g__law_path <| cw_fn' lk1485 <| s_more <| e_sub <| ld 1 S <| e_cut <| pt_some <| c_nat 13 S fun _ s S => pt_some <| c_nat 18 S fun _ s S => ?_
  have hz : vsN.length ≤ 1000000 := by omega
  refine l_cut S (S.N (Nl, _) (by repeat (first | exact List.Mem.head _ | apply List.Mem.tail))).1 (.int _ _) (.int _ _) hz fun D s S _ => s_nil ⟨⟨_, _, S⟩, ?_⟩
  rw [h5] at S
  have S0 := S
  refine use S (C_path S.gl R.deeper.less (S.N (D, _) (by repeat (first | exact List.Mem.head _ | apply List.Mem.tail))).1) fun v s S x P => ?_
  obtain ⟨pth, its, rfl, hNp, hI⟩ := P
  have hI : IntsAre its ((pathOf nums).map fun (k : Nat) => (k : Int)) := hI
  have S := (S0.add1 S hNp).sub (nw := [(pth, listOf its.toArray 0), (Nl, listOf vsN.toArray 0)]) fun e he => by
    rcases List.mem_cons.mp he with rfl | he
    · exact (by repeat (first | exact List.Mem.head _ | apply List.Mem.tail))
    rw [List.mem_singleton.mp he]
    exact (by repeat (first | exact List.Mem.head _ | apply List.Mem.tail))
  have hil := ints_len hI
  refine st 10 S fun s S => ?_
  refine x_asg <| c_nat 0 S fun tk s S => st 11 S fun s S => ?_
  have hpos : 0 < (pathOf nums).length := List.length_pos_iff.mpr pne
  obtain ⟨tA, htA⟩ := ints_at hI (i := 0) (List.getElem?_eq_getElem hpos)
  have hg : (pathOf nums)[0] = (pathOf nums).getD 0 0 := by simp [List.getD, hpos]
  rw [hg] at htA
  refine x_if <| t_cmp <| e_sub <| ld 10 S <| c_nat 0 S fun _ s S => ?_
  refine l_item (S.N (pth, _) (by repeat (first | exact List.Mem.head _ | apply List.Mem.tail))).1 htA <| e_bin <| c_nat 2147483648 S fun _ s S => c_nat 84 S fun _ s S => p_add S fun _ s S => p_eq <| t_bool <| ite_two (fun h1 => ?_) fun h1 => ?_
  · have hk : pKind (pathOf nums) = 2 := by unfold pKind; rw [if_pos (of_decide_eq_true h1)]
    refine x_asg <| c_nat 2 S fun _ s S => st 11 S fun s S => x_nil ?_
    exact k s pth its _ hI (by rw [hk]; exact S)
  have n1 : (pathOf nums).getD 0 0 ≠ 2147483732 := by simpa using h1
  refine x_if <| t_cmp <| e_sub <| ld 10 S <| c_nat 0 S fun _ s S => ?_
  refine l_item (S.N (pth, _) (by repeat (first | exact List.Mem.head _ | apply List.Mem.tail))).1 htA <| e_bin <| c_nat 2147483648 S fun _ s S => c_nat 49 S fun _ s S => p_add S fun _ s S => p_eq <| t_bool <| ite_two (fun h2 => ?_) fun h2 => ?_
  · have hk : pKind (pathOf nums) = 1 := by unfold pKind; rw [if_neg n1, if_pos (of_decide_eq_true h2)]
    refine x_asg <| c_nat 1 S fun _ s S => st 11 S fun s S => x_nil <| x_nil ?_
    exact k s pth its _ hI (by rw [hk]; exact S)
  have n2 : (pathOf nums).getD 0 0 ≠ 2147483697 := by simpa using h2
  refine x_if <| t_and <| t_cmp <| e_sub <| ld 10 S <| c_nat 0 S fun _ s S => ?_
  refine l_item (S.N (pth, _) (by repeat (first | exact List.Mem.head _ | apply List.Mem.tail))).1 htA <| e_bin <| c_nat 2147483648 S fun _ s S => c_nat 48 S fun _ s S => p_add S fun _ s S => p_eq <| t_bool <| ite_two (fun h3 => ?_) fun h3 => ?_
  · have h3 := of_decide_eq_true h3
    refine t_and <| t_cmp <| e_call <| b_len S <| cw_bt <| s_more <| ld 10 S <| s_nil ?_
    refine l_len S (S.N (pth, _) (by repeat (first | exact List.Mem.head _ | apply List.Mem.tail))).1 (by omega) fun _ s S => c_nat 3 S fun _ s S => p_gt <| t_bool ?_
    rw [hil]
    refine ite_two (fun h4 => ?_) fun h4 => ?_
    · have h4 := of_decide_eq_true h4
      obtain ⟨tB, htB⟩ := ints_at hI (i := 3) (List.getElem?_eq_getElem h4)
      have hg3 : (pathOf nums)[3] = (pathOf nums).getD 3 0 := by simp [List.getD, h4]
      rw [hg3] at htB
      refine t_and <| t_cmp <| e_sub <| ld 10 S <| c_nat 3 S fun _ s S => ?_
      refine l_item (S.N (pth, _) (by repeat (first | exact List.Mem.head _ | apply List.Mem.tail))).1 htB <| e_tup <| s_more <| c_nat 2147483649 S fun _ s S => s_more <| c_nat 2147483650 S fun _ s S => s_nil <| r_tuple S fun tp s S => ?_
      refine u_in (S.N (tp, _) (by repeat (first | exact List.Mem.head _ | apply List.Mem.tail))).1 (.cons _ _ (.cons _ _ .nil)) <| t_bool ?_
      have hin : (([((2147483649 : Nat) : Int), ((2147483650 : Nat) : Int)] : List Int).any (· == (((pathOf nums).getD 3 0 : Nat) : Int))) = decide ((pathOf nums).getD 3 0 = 2147483649 ∨ (pathOf nums).getD 3 0 = 2147483650) := by
        rw [Bool.eq_iff_iff]
        simp
        omega
      rw [hin]
      have S := S.drop
      refine ite_two (fun h5 => ?_) fun h5 => ?_
      · have h5 := of_decide_eq_true h5
        have hk : pKind (pathOf nums) = (pathOf nums).getD 3 0 - 2147483646 := by unfold pKind; rw [if_neg n1, if_neg n2, if_pos ⟨h3, h4, h5⟩]
        refine t_and0 <| ite_yes rfl ?_
        refine x_asg <| e_bin <| e_sub <| ld 10 S <| c_nat 3 S fun _ s S => ?_
        refine l_item (S.N (pth, _) (by repeat (first | exact List.Mem.head _ | apply List.Mem.tail))).1 htB <| c_nat 2147483646 S fun _ s S => p_sub S (by omega) fun _ s S => st 11 S fun s S => x_nil <| x_nil <| x_nil ?_
        exact k s pth its _ hI (by rw [hk]; exact S)
      · have hk : pKind (pathOf nums) = 0 := by unfold pKind; rw [if_neg n1, if_neg n2, if_neg (fun q => h5 (decide_eq_true q.2.2))]
        refine ite_no Bool.false_ne_true <| x_nil <| x_nil <| x_nil ?_
        exact k s pth its _ hI (by rw [hk]; exact S)
    · have hk : pKind (pathOf nums) = 0 := by unfold pKind; rw [if_neg n1, if_neg n2, if_neg (fun q => h4 (decide_eq_true q.2.1))]
      refine ite_no Bool.false_ne_true <| x_nil <| x_nil <| x_nil ?_
      exact k s pth its _ hI (by rw [hk]; exact S)
  · have hk : pKind (pathOf nums) = 0 := by unfold pKind; rw [if_neg n1, if_neg n2, if_neg (fun q => h3 (decide_eq_true q.1))]
    refine ite_no Bool.false_ne_true <| x_nil <| x_nil <| x_nil ?_
    exact k s pth its _ hI (by rw [hk]; exact S)
end Mine
end

section
set_option Elab.async false
set_option maxRecDepth 100000
set_option linter.unusedVariables false
open PySem PySem.W PyProof.Rows PySem.Calls PySem.Spec
namespace Mine
section
variable {c : Cx} {m : Str → Option Value} {A : Around} {E : Value → Shared → Prop} {s : Shared} {news : List (Addr × Obj)} {env : Env} {t u : Tok} {Q : Value → Shared → Prop}
theorem e_and3 {e₁ e₂ e₃ : Expr} {pos : Pos} (h : W c A (eval e₁ env) (fun v s₁ => W c A (truthy v) (fun b s₂ => if b = true then W c A (eval (.BoolOp .And [e₂, e₃] pos) env) Q E s₂ else Q v s₂) E s₁) E s) : W c A (eval (.BoolOp .And [e₁, e₂, e₃] pos) env) Q E s := by
  show W c A (do
    let v ← eval e₁ env
    standAt pos
    let b ← holding [v] (truthy v)
    match BoolOp.And, b with
    | .And, false | .Or, true => pure v
    | _, _ => eval (.BoolOp .And [e₂, e₃] pos) env) Q E s
  refine W.then h fun v s₁ h => W.stand (W.then (W.hold h) fun b s₂ h => ?_)
  cases b with
  | false => exact W.pure h
  | true => exact h
end
def rowOf (k : Nat) : Nat × List Nat × Nat × List Nat := marks.getD k (0, [], 0, [])
theorem rowOf_at {k : Nat} (h : k < 10) : marks[k]? = some (rowOf k) := by
  have h : k < marks.length := h
  unfold rowOf
  rw [List.getElem?_eq_getElem h]
  congr 1
  simp [h]
def ixOf (ns : List Int) : Nat := pKind (pathOf ns) + if pTest (netOf ns) (pathOf ns) = true then 5 else 0
theorem ixOf_lt (ns : List Int) : ixOf ns < 10 := by
  have := pKind_lt (pathOf ns)
  unfold ixOf
  split <;> omega
theorem strs_of : ∀ {ys : List Value} {path : List Nat}, ys.length = path.length → (∀ (j : Nat) y, ys[j]? = some y → ∃ n u, path[j]? = some n ∧ y = Value.str (tx (stp n)) u) → ∃ ps : List (List Nat × Tok), ys = ps.map (fun p => Value.str (tx p.1) p.2) ∧ ps.map (·.1) = path.map stp
  | [], [], _, _ => ⟨[], rfl, rfl⟩
  | [], _ :: _, h, _ => by simp at h
  | _ :: _, [], h, _ => by simp at h
  | y :: ys, n :: path, h, k => by
    obtain ⟨n', u, e1, e2⟩ := k 0 y rfl
    cases e1
    subst e2
    obtain ⟨ps, e3, e4⟩ := strs_of (ys := ys) (path := path) (by simpa using h) fun j y hy => k (j + 1) y hy
    exact ⟨(stp n, u) :: ps, by rw [e3]; rfl, by rw [List.map_cons, e4]; rfl⟩
set_option maxHeartbeats 1000000 in
/-- net, test, row -/
theorem law_E2 {w mg mb A s0 s L sl Nl kv bv Mv rv Tv tv ov lv pth its tk} {nums : List Int} {vsN : List Value} {Q : Flow → Shared → Prop} (R : Rm A 90) (hN : IntsAre vsN nums) (hlen : 21 ≤ nums.length) (hI : IntsAre its ((pathOf nums).map fun (k : Nat) => (k : Int)))
    (S : St (cx w mg mb s0 L) (look lawN (some (.ref sl) :: some (.ref Nl) :: kv :: bv :: Mv :: rv :: Tv :: tv :: ov :: lv :: some (.ref pth) :: some (.int (pKind (pathOf nums) : Nat) tk) :: v4)) [(pth, listOf its.toArray 0), (Nl, listOf vsN.toArray 0)] s)
    (k : ∀ s rt tn ta tb tc td, St (cx w mg mb s0 L) (look lawN (some (.ref sl) :: some (.ref Nl) :: kv :: bv :: Mv :: some (.ref rt) :: Tv :: tv :: ov :: lv :: some (.ref pth) :: some (.int (pKind (pathOf nums) : Nat) tk) :: some (.int (netOf nums : Nat) tn) :: some (.bool (pTest (netOf nums) (pathOf nums))) :: [none, none])) [(rt, tupOf (rowV (rowOf (ixOf nums)) ta tb tc td).toArray), (pth, listOf its.toArray 0), (Nl, listOf vsN.toArray 0)] s →
      W (cx w mg mb s0 L) (A.deeper (lawE L)) (execs ((defBody (topSt 58)).drop 18) (lawE L)) Q NoE s) :
    W (cx w mg mb s0 L) (A.deeper (lawE L)) (execs ((defBody (topSt 58)).drop 15) (lawE L)) Q NoE s := by
  obtain ⟨pne, plt, pl5⟩ := pathOf_ok nums
  have hil := ints_len hI
  refine open_body rfl ?_
  obtain ⟨u18, h18⟩ := ints_atI hN (i := 18) (by omega)
  refine x_asg <| e_bin <| e_sub <| ld 1 S <| c_nat 18 S fun _ s S => ?_
  refine l_item (S.N (Nl, _) (by repeat (first | exact List.Mem.head _ | apply List.Mem.tail))).1 h18 <| c_nat 5 S fun _ s S => p_modI S (by decide) fun tn s S => st 12 S fun s S => ?_
  have S : St (cx w mg mb s0 L) (look lawN (some (.ref sl) :: some (.ref Nl) :: kv :: bv :: Mv :: rv :: Tv :: tv :: ov :: lv :: some (.ref pth) :: some (.int (pKind (pathOf nums) : Nat) tk) :: some (.int (netOf nums : Nat) tn) :: v3)) [(pth, listOf its.toArray 0), (Nl, listOf vsN.toArray 0)] s := S
  refine x_asg ?_
  have testW : W (cx w mg mb s0 L) (A.deeper (lawE L)) (eval (match ((defBody (topSt 58)).drop 16).headD noSt with | .Assign _ v _ => v | _ => .Constant .none 0 ⟨0, 0, 0, 0⟩) (lawE L)) (fun v s' => v = .bool (pTest (netOf nums) (pathOf nums)) ∧ St (cx w mg mb s0 L) (look lawN (some (.ref sl) :: some (.ref Nl) :: kv :: bv :: Mv :: rv :: Tv :: tv :: ov :: lv :: some (.ref pth) :: some (.int (pKind (pathOf nums) : Nat) tk) :: some (.int (netOf nums : Nat) tn) :: v3)) [(pth, listOf its.toArray 0), (Nl, listOf vsN.toArray 0)] s') NoE s := by
    show W _ _ (eval (.BoolOp .Or [_, _] _) _) _ _ _
    refine e_or <| e_cmp <| ld 12 S <| c_nat 1 S fun _ s S => p_gt <| t_bool <| ite_two (fun h => ⟨?_, S⟩) fun h => ?_
    · unfold pTest; rw [h]; rfl
    have h : decide (1 < netOf nums) = false := by simpa using h
    refine e_and3 <| e_cmp <| ld 12 S <| c_nat 0 S fun _ s S => p_eq <| t_bool <| ite_two (fun h0 => ?_) fun h0 => ⟨?_, S⟩
    · refine e_and <| e_cmp <| e_call <| b_len S <| cw_bt <| s_more <| ld 10 S <| s_nil ?_
      refine l_len S (S.N (pth, _) (by repeat (first | exact List.Mem.head _ | apply List.Mem.tail))).1 (by omega) fun _ s S => c_nat 1 S fun _ s S => p_gt <| t_bool ?_
      rw [hil]
      refine ite_two (fun h1 => ?_) fun h1 => ⟨?_, S⟩
      · have h1' := of_decide_eq_true h1
        obtain ⟨tB, htB⟩ := ints_at hI (i := 1) (List.getElem?_eq_getElem h1')
        have hg1 : (pathOf nums)[1] = (pathOf nums).getD 1 0 := by simp [List.getD, h1']
        rw [hg1] at htB
        refine e_cmp <| e_sub <| ld 10 S <| c_nat 1 S fun _ s S => ?_
        refine l_item (S.N (pth, _) (by repeat (first | exact List.Mem.head _ | apply List.Mem.tail))).1 htB <| c_nat 2147483649 S fun _ s S => p_eq ⟨?_, S⟩
        unfold pTest
        rw [h, h0, h1]
        rfl
      · unfold pTest
        rw [h, h0, show decide (1 < (pathOf nums).length) = false by simpa using h1]
        rfl
    · unfold pTest
      rw [h, show decide (netOf nums = 0) = false by simpa using h0]
      rfl
  refine testW.mono (fun v s' h => ?_) fun _ _ q => q
  obtain ⟨rfl, S⟩ := h
  refine st 13 S fun s S => ?_
  refine x_asg <| e_sub <| e_call <| gl S g__law_marks <| cw_fn0 lk1449 S ?_
  have S0 := S
  refine use S (C_marks S.gl R.deeper.less) fun v s S x1 P => ?_
  obtain ⟨q, qs, rfl, hq, hrow⟩ := P
  obtain ⟨rv', hrv, rt, ta, tb, tc, td, rfl, hrt⟩ := hrow _ _ (rowOf_at (ixOf_lt nums))
  have S := S0.add2 S hq hrt
  refine e_bin <| ld 11 S <| ?_
  refine e_ifS S (fun v => ∃ t, v = .int ((if pTest (netOf nums) (pathOf nums) = true then 5 else 0 : Nat) : Int) t) ?_ fun v s h S => ?_
  · refine t_val <| ld 13 S <| t_bool <| ite_two (fun h => c_nat 5 S fun u s S => ⟨⟨u, by rw [if_pos h]⟩, S⟩) fun h => c_nat 0 S fun u s S => ⟨⟨u, by rw [if_neg h]⟩, S⟩
  obtain ⟨tq, rfl⟩ := h
  refine p_add S fun _ s S => ?_
  refine l_item (S.N (q, _) (by repeat (first | exact List.Mem.head _ | apply List.Mem.tail))).1 hrv (hz := by have := ixOf_lt nums; unfold ixOf at this; omega) <| st 5 S fun s S => ?_
  exact k s rt tn ta tb tc td S.drop
end Mine
end

section
set_option Elab.async false
set_option maxRecDepth 100000
set_option linter.unusedVariables false
open PySem PySem.W PyProof.Rows PySem.Calls PySem.Spec
namespace Mine
set_option maxHeartbeats 1000000 in
/-- text, asked -/
theorem law_E3 {w mg mb A s0 s L sl Nl kv bv Mv Tv tv ov lv pth its tk rt tn ta tb tc td} {nums : List Int} {vsN : List Value} {Q : Flow → Shared → Prop} (R : Rm A 90) (hN : IntsAre vsN nums) (hlen : 21 ≤ nums.length) (hI : IntsAre its ((pathOf nums).map fun (k : Nat) => (k : Int)))
    (S : St (cx w mg mb s0 L) (look lawN (some (.ref sl) :: some (.ref Nl) :: kv :: bv :: Mv :: some (.ref rt) :: Tv :: tv :: ov :: lv :: some (.ref pth) :: some (.int (pKind (pathOf nums) : Nat) tk) :: some (.int (netOf nums : Nat) tn) :: some (.bool (pTest (netOf nums) (pathOf nums))) :: [none, none])) [(rt, tupOf (rowV (rowOf (ixOf nums)) ta tb tc td).toArray), (pth, listOf its.toArray 0), (Nl, listOf vsN.toArray 0)] s)
    (k : ∀ s xv av, (av = .ref pth ∨ ∃ t, av = Value.str (tx (jn (pps (pathOf nums)))) t) →
      St (cx w mg mb s0 L) (look lawN (some (.ref sl) :: some (.ref Nl) :: kv :: bv :: Mv :: some (.ref rt) :: Tv :: some xv :: ov :: lv :: some (.ref pth) :: some (.int (pKind (pathOf nums) : Nat) tk) :: some (.int (netOf nums : Nat) tn) :: some (.bool (pTest (netOf nums) (pathOf nums))) :: [some av, none])) [(rt, tupOf (rowV (rowOf (ixOf nums)) ta tb tc td).toArray), (pth, listOf its.toArray 0), (Nl, listOf vsN.toArray 0)] s →
      W (cx w mg mb s0 L) (A.deeper (lawE L)) (execs ((defBody (topSt 58)).drop 20) (lawE L)) Q NoE s) :
    W (cx w mg mb s0 L) (A.deeper (lawE L)) (execs ((defBody (topSt 58)).drop 18) (lawE L)) Q NoE s := by
  obtain ⟨pne, plt, pl5⟩ := pathOf_ok nums
  have hil := ints_len hI
  refine open_body rfl ?_
  refine x_asg <| e_meth <| c_tx [47] S fun tsl s S => g_join <| cw_bt' <| s_more <| e_bin <| e_list <| s_more <| c_tx [109] S fun tm s S => s_nil <| r_list S fun ml s S => ?_
  refine e_lc [] <| ld 10 S ?_
  refine lc_list (fun i y => ∃ n u, (pathOf nums)[i]? = some n ∧ y = Value.str (tx (stp n)) u) S (S.N (pth, _) (by repeat (first | exact List.Mem.head _ | apply List.Mem.tail))).1 R.calm (.inr ⟨_, (by repeat (first | exact List.Mem.head _ | apply List.Mem.tail))⟩) (by omega) ?_ ?_
  · rintro C oL I oI D oD i v s hv S
    have hi : i < (pathOf nums).length := by rw [← hil]; exact (List.getElem?_eq_some_iff.mp hv).1
    obtain ⟨tv', htv⟩ := ints_at hI (i := i) (List.getElem?_eq_getElem hi)
    rw [htv] at hv
    cases hv
    have hn := plt _ (List.getElem_mem hi)
    generalize hx : (pathOf nums)[i] = n at *
    have hget : (pathOf nums)[i]? = some n := by rw [List.getElem?_eq_getElem hi, hx]
    refine e_if <| t_cmp <| ld 0 S <| c_nat 2147483648 S fun _ s S => p_ge <| t_bool <| ite_two (fun h => ?_) fun h => ?_
    · have h := of_decide_eq_true h
      refine e_bin <| e_call <| b_str S <| cw_ty <| s_more <| e_bin <| ld 0 S <| c_nat 2147483648 S fun _ s S => p_sub S h fun _ s S => s_nil ?_
      refine r_str S (by omega) fun _ s S => c_tx [104] S fun _ s S => ?_
      refine s_add S (by have := dn_len (n := n - 2147483648) (by omega); simp; omega) fun uu s S => ⟨⟨n, uu, hget, ?_⟩, S⟩
      unfold stp; rw [if_pos h]
    · have h : ¬ 2147483648 ≤ n := by simpa using h
      refine e_call <| b_str S <| cw_ty <| s_more <| ld 0 S <| s_nil ?_
      refine r_str S (by omega) fun uu s S => ⟨⟨n, uu, hget, ?_⟩, S⟩
      unfold stp; rw [if_neg h]
  · intro D ys s hl hF hD S
    obtain ⟨ps, rfl, hps⟩ := strs_of (by rw [hl, hil]) hF
    refine l_add S (S.N (ml, _) (by repeat (first | exact List.Mem.head _ | apply List.Mem.tail))).1 (S.N (D, _) (by repeat (first | exact List.Mem.head _ | apply List.Mem.tail))).1 (by simp at hl ⊢; omega) fun J s S _ => s_nil ?_
    have e1 : ([Value.str (tx [109]) tm] ++ ps.map fun p => Value.str (tx p.1) p.2) = (([109], tm) :: ps).map fun (p : List Nat × Tok) => Value.str (tx p.1) p.2 := rfl
    have hJ := (S.N (J, _) (by repeat (first | exact List.Mem.head _ | apply List.Mem.tail))).1
    have hsum : (((([109], tm) :: ps) : List (List Nat × Tok)).map fun p => p.1.length).sum + ((([109], tm) :: ps) : List (List Nat × Tok)).length ≤ 1000000 := by
      have h2 := sum_le ((([109], tm) :: ps).map fun (p : List Nat × Tok) => p.1.length) 11 fun x hx => by
        obtain ⟨p, hp, rfl⟩ := List.mem_map.mp hx
        rcases List.mem_cons.mp hp with rfl | hp
        · show 1 ≤ 11; decide
        · have : p.1 ∈ ps.map (·.1) := List.mem_map.mpr ⟨p, hp, rfl⟩
          rw [hps] at this
          obtain ⟨n, hn, e⟩ := List.mem_map.mp this
          rw [← e]
          exact stp_len (plt n hn)
      rw [List.length_map] at h2
      have hl' : ps.length = its.length := by simpa using hl
      simp only [List.length_cons] at h2 ⊢
      omega
    rw [e1] at hJ
    refine s_joinS S hJ hsum fun tj s S => ?_
    have e2 : ((([109], tm) :: ps) : List (List Nat × Tok)).map (·.1) = pps (pathOf nums) := by rw [List.map_cons, hps]
    rw [e2]
    refine st 7 S fun s S => ?_
    have S := S.sub (nw := [(rt, tupOf (rowV (rowOf (ixOf nums)) ta tb tc td).toArray), (pth, listOf its.toArray 0), (Nl, listOf vsN.toArray 0)]) fun e he => by
      rcases List.mem_cons.mp he with rfl | he
      · exact (by repeat (first | exact List.Mem.head _ | apply List.Mem.tail))
      rcases List.mem_cons.mp he with rfl | he
      · exact (by repeat (first | exact List.Mem.head _ | apply List.Mem.tail))
      rw [List.mem_singleton.mp he]
      exact (by repeat (first | exact List.Mem.head _ | apply List.Mem.tail))
    obtain ⟨u19, h19⟩ := ints_atI hN (i := 19) (by omega)
    refine x_asg ?_
    refine e_ifS S (fun av => av = .ref pth ∨ ∃ t, av = Value.str (tx (jn (pps (pathOf nums)))) t) ?_ fun v s h S => ?_
    · refine t_cmp <| e_bin <| e_sub <| ld 1 S <| c_nat 19 S fun _ s S => ?_
      refine l_item (S.N (Nl, _) (by repeat (first | exact List.Mem.head _ | apply List.Mem.tail))).1 h19 <| c_nat 2 S fun _ s S => p_modI S (by decide) fun _ s S => c_nat 0 S fun _ s S => p_eq <| t_bool <| ite_two (fun h => ld 10 S ⟨.inl rfl, S⟩) fun h => ld 7 S ⟨.inr ⟨tj, rfl⟩, S⟩
    · exact st 14 S fun s S => k s _ v h S
end Mine
end

section
set_option Elab.async false
set_option maxRecDepth 100000
set_option linter.unusedVariables false
open PySem PySem.W PyProof.Rows PySem.Calls PySem.Spec
namespace Mine
abbrev netsV : List Value := [.str (.ofString "main") 2274, .str (.ofString "test") 2275, .str (.ofString "regtest") 2276, .str (.ofString "signet") 2277]
theorem lk1450' (P : Params) : (KF P).lookup 1450 = some (listOf netsV.toArray 0) := by kernel_rfl
theorem nets_at (P : Params) {net : Nat} (h0 : net ≠ 0) (h5 : net < 5) : ∃ nm t, netsV[net - 1]? = some (.str nm t) ∧ nsIn (KF P) 176 nm = some (some (.ref (176 + net))) := by
  have e := nm_ok P
  have : net = 1 ∨ net = 2 ∨ net = 3 ∨ net = 4 := by omega
  rcases this with rfl | rfl | rfl | rfl
  · exact ⟨_, _, rfl, at_of_map e 0 rfl⟩
  · exact ⟨_, _, rfl, at_of_map e 1 rfl⟩
  · exact ⟨_, _, rfl, at_of_map e 2 rfl⟩
  · exact ⟨_, _, rfl, at_of_map e 3 rfl⟩
set_option maxHeartbeats 1000000 in
/-- told, and the answer -/
theorem law_F {w mg mb A s0 s L sl Nl kv bv Mv Tv xv ov lv pth its tk rt tn ta tb tc td av} {nums : List Int} {vsN : List Value} (R : Rm A 90) (hI : IntsAre its ((pathOf nums).map fun (k : Nat) => (k : Int)))
    (hav : av = .ref pth ∨ ∃ t, av = Value.str (tx (jn (pps (pathOf nums)))) t)
    (S : St (cx w mg mb s0 L) (look lawN (some (.ref sl) :: some (.ref Nl) :: kv :: bv :: Mv :: some (.ref rt) :: Tv :: some xv :: ov :: lv :: some (.ref pth) :: some (.int (pKind (pathOf nums) : Nat) tk) :: some (.int (netOf nums : Nat) tn) :: some (.bool (pTest (netOf nums) (pathOf nums))) :: [some av, none])) [(rt, tupOf (rowV (rowOf (ixOf nums)) ta tb tc td).toArray), (pth, listOf its.toArray 0), (Nl, listOf vsN.toArray 0)] s) :
    W (cx w mg mb s0 L) (A.deeper (lawE L)) (execs ((defBody (topSt 58)).drop 20) (lawE L)) (fun fl s' => Ext s0 s' ∧ fl = .ret (.bool true)) NoE s := by
  obtain ⟨pne, plt, pl5⟩ := pathOf_ok nums
  have h5 : netOf nums < 5 := modlt _ (by decide)
  have hpv : ∀ {m' nw' s'}, St (cx w mg mb s0 L) m' nw' s' → (pth, listOf its.toArray 0) ∈ nw' → PathV s'.heap av (pathOf nums) := fun S' h => by
    rcases hav with rfl | ⟨t, rfl⟩
    · exact .inr ⟨pth, its, 0, rfl, (S'.N _ h).1, hI⟩
    · exact .inl ⟨t, rfl⟩
  have mk := marks_ok _ (List.mem_of_getElem? (rowOf_at (ixOf_lt nums)))
  have fin : ∀ s D t1 t2, St (cx w mg mb s0 L) (look lawN (some (.ref sl) :: some (.ref Nl) :: kv :: bv :: Mv :: some (.ref rt) :: Tv :: some xv :: ov :: lv :: some (.ref pth) :: some (.int (pKind (pathOf nums) : Nat) tk) :: some (.int (netOf nums : Nat) tn) :: some (.bool (pTest (netOf nums) (pathOf nums))) :: [some av, some (.ref D)])) ((D, listOf [Value.bytes (toBE 4 (pWant (netOf nums) (pathOf nums) false)).toArray t1, .bytes (toBE 4 (pWant (netOf nums) (pathOf nums) true)).toArray t2].toArray 0) :: [(rt, tupOf (rowV (rowOf (ixOf nums)) ta tb tc td).toArray), (pth, listOf its.toArray 0), (Nl, listOf vsN.toArray 0)]) s →
      W (cx w mg mb s0 L) (A.deeper (lawE L)) (execs ((defBody (topSt 58)).drop 21) (lawE L)) (fun fl s' => Ext s0 s' ∧ fl = .ret (.bool true)) NoE s := fun s D t1 t2 S => by
    refine open_body rfl ?_
    refine x_ret <| e_cmp <| ld 15 S <| e_list <| s_more <| e_meth <| e_sub <| ld 5 S <| c_nat 0 S fun _ s S => ?_
    refine u_item (S.N (rt, _) (by repeat (first | exact List.Mem.head _ | apply List.Mem.tail))).1 rfl <| g_to <| cw_bt' <| s_more <| c_nat 4 S fun _ s S => s_more <| c_str S fun _ s S => s_nil <| r_to S (by decide) mk.1 fun _ s S => ?_
    refine s_more <| e_meth <| e_sub <| ld 5 S <| c_nat 2 S fun _ s S => ?_
    refine u_item (S.N (rt, _) (by repeat (first | exact List.Mem.head _ | apply List.Mem.tail))).1 rfl <| g_to <| cw_bt' <| s_more <| c_nat 4 S fun _ s S => s_more <| c_str S fun _ s S => s_nil <| r_to S (by decide) mk.2.1 fun _ s S => ?_
    refine s_nil <| r_list S fun D2 s S => ?_
    exact l_eqS (S.N (D, _) (by repeat (first | exact List.Mem.head _ | apply List.Mem.tail))).1 (S.N (D2, _) (by repeat (first | exact List.Mem.head _ | apply List.Mem.tail))).1 sameY2 (rm_units (R.deeper.less (k := 0))) ⟨S.done, rfl⟩
  refine open_body rfl ?_
  refine x_if <| t_cmp <| ld 12 S <| c_nat 0 S fun _ s S => p_eq <| t_bool <| ite_two (fun h0 => ?_) fun h0 => ?_
  · have h0 := of_decide_eq_true h0
    refine x_asg <| e_list <| s_more <| e_call <| gl S g_detect_version <| cw_fn' lk1430 <| s_more <| ld 14 S <| s_more <| c_tx [120, 112, 114, 118] S fun d1 s S => s_nil ⟨⟨_, _, S⟩, ?_⟩
    refine use S (C_detect (pub := false) (net := 0) (dt := d1) S.gl R.deeper.less pne plt pl5 (by decide) (hpv S (by repeat (first | exact List.Mem.head _ | apply List.Mem.tail))) (by intro S; kernel_rfl)) fun v s S x P => ?_
    obtain ⟨t1, rfl⟩ := P
    refine s_more <| e_call <| gl S g_detect_version <| cw_fn' lk1430 <| s_more <| ld 14 S <| s_more <| c_tx [120, 112, 117, 98] S fun d2 s S => s_nil ⟨⟨_, _, S⟩, ?_⟩
    refine use S (C_detect (pub := true) (net := 0) (dt := d2) S.gl R.deeper.less pne plt pl5 (by decide) (hpv S (by repeat (first | exact List.Mem.head _ | apply List.Mem.tail))) (by intro S; kernel_rfl)) fun v s S x P => ?_
    obtain ⟨t2, rfl⟩ := P
    refine s_nil <| r_list S fun D s S => st 15 S fun s S => x_nil ?_
    have e1 : pWant (netOf nums) (pathOf nums) false = pWant 0 (pathOf nums) false := by rw [h0]
    have e2 : pWant (netOf nums) (pathOf nums) true = pWant 0 (pathOf nums) true := by rw [h0]
    rw [← e1, ← e2] at S
    exact fin s D t1 t2 S
  · have h0 : netOf nums ≠ 0 := by simpa using h0
    obtain ⟨nm, tnm, hnm, hns⟩ := nets_at w.params h0 h5
    have hg : ∀ {m' nw' s'}, St (cx w mg mb s0 L) m' nw' s' → s'.heap.get? 1450 = some (listOf netsV.toArray 0) := fun S => S.gl.K _ _ (lk1450' _)
    refine x_asg <| e_list <| s_more <| e_call <| gl S g_detect_version <| cw_fn' lk1430 <| s_more <| ld 14 S <| s_more <| c_tx [120, 112, 114, 118] S fun d1 s S => s_more <| e_sub <| gl S g_NETWORKS <| e_sub <| gl S g__law_nets <| e_bin <| ld 12 S <| c_nat 1 S fun _ s S => ?_
    refine p_sub S (by omega) fun _ s S => ?_
    refine l_item (hg S) hnm (hz := by omega) ?_
    refine d_item (di176 _) S hns fun s S _ => s_nil ⟨⟨_, _, S⟩, ?_⟩
    refine use S (C_detect (pub := false) (net := netOf nums) (dt := d1) S.gl R.deeper.less pne plt pl5 h5 (hpv S (by repeat (first | exact List.Mem.head _ | apply List.Mem.tail))) (by intro S; rw [show netV (netOf nums) = .ref (176 + netOf nums) from if_neg h0]; kernel_rfl)) fun v s S x P => ?_
    obtain ⟨t1, rfl⟩ := P
    refine s_more <| e_call <| gl S g_detect_version <| cw_fn' lk1430 <| s_more <| ld 14 S <| s_more <| c_tx [120, 112, 117, 98] S fun d2 s S => s_more <| e_sub <| gl S g_NETWORKS <| e_sub <| gl S g__law_nets <| e_bin <| ld 12 S <| c_nat 1 S fun _ s S => ?_
    refine p_sub S (by omega) fun _ s S => ?_
    refine l_item (hg S) hnm (hz := by omega) ?_
    refine d_item (di176 _) S hns fun s S _ => s_nil ⟨⟨_, _, S⟩, ?_⟩
    refine use S (C_detect (pub := true) (net := netOf nums) (dt := d2) S.gl R.deeper.less pne plt pl5 h5 (hpv S (by repeat (first | exact List.Mem.head _ | apply List.Mem.tail))) (by intro S; rw [show netV (netOf nums) = .ref (176 + netOf nums) from if_neg h0]; kernel_rfl)) fun v s S x P => ?_
    obtain ⟨t2, rfl⟩ := P
    refine s_nil <| r_list S fun D s S => st 15 S fun s S => x_nil ?_
    exact fin s D t1 t2 S
end Mine
end

section
set_option Elab.async false
set_option maxRecDepth 100000
set_option linter.unusedVariables false
set_option exponentiation.threshold 20000
open PySem PySem.W PyProof.Rows PySem.Calls
namespace Mine
/-! the letters of a text -/
theorem b58_split : ∀ (k n : Nat), n / 58 ^ k ≠ 0 → ∃ r, b58 n = b58 (n / 58 ^ k) ++ r ∧ r.length = k
  | 0, n, _ => ⟨[], by simp, rfl⟩
  | k + 1, n, h => by
    have e : n / 58 ^ (k + 1) = n / 58 / 58 ^ k := by rw [Nat.pow_succ, Nat.mul_comm, Nat.div_div_eq_div_mul]
    have hn : n ≠ 0 := fun q => h (by rw [q]; simp)
    rw [e] at h ⊢
    obtain ⟨r, e1, e2⟩ := b58_split k (n / 58) h
    refine ⟨r ++ [n % 58], ?_, by simp [e2]⟩
    rw [b58, dif_neg hn, e1, List.append_assoc]
def dig4 (d : Nat) : List Nat := [d / 58 / 58 / 58, d / 58 / 58 % 58, d / 58 % 58, d % 58]
theorem b58_four {d : Nat} (h1 : 58 ^ 3 ≤ d) (h2 : d < 58 ^ 4) : b58 d = dig4 d := by
  have a : d / 58 / 58 / 58 ≠ 0 := by omega
  have b : d / 58 / 58 / 58 / 58 = 0 := by omega
  have c : d / 58 / 58 / 58 % 58 = d / 58 / 58 / 58 := by omega
  rw [b58, dif_neg (by omega), b58, dif_neg (by omega), b58, dif_neg (by omega), b58, dif_neg a, b, b58, dif_pos rfl, c]
  rfl
def marks20 : List (Nat × List Nat) := marks.flatMap fun r => [(r.1, r.2.1), (r.2.2.1, r.2.2.2)]
def markOk (m : Nat) (l : List Nat) : Bool :=
  (((m + 1) * 256 ^ 78 - 1) / 58 ^ 107 == m * 256 ^ 78 / 58 ^ 107) && decide (58 ^ 3 ≤ m * 256 ^ 78 / 58 ^ 107) && decide (m * 256 ^ 78 / 58 ^ 107 < 58 ^ 4) && ((dig4 (m * 256 ^ 78 / 58 ^ 107)).map sgn == l)
theorem marks20_ok : marks20.all (fun p => markOk p.1 p.2) = true := by decide +kernel
theorem full78 {l : List UInt8} {m : Nat} {r : List UInt8} (hm : m < 256 ^ 4) (e : l = toBE 4 m ++ r) (hl : l.length = 78) : m * 256 ^ 78 ≤ beN (full l) ∧ beN (full l) < (m + 1) * 256 ^ 78 := by
  have hr : r.length = 74 := by rw [e, List.length_append, toBE_len] at hl; omega
  have e2 : full l = toBE 4 m ++ (r ++ chk l) := by
    show l ++ chk l = _
    conv => lhs; lhs; rw [e]
    rw [List.append_assoc]
  have hk : (r ++ chk l).length = 78 := by rw [List.length_append, hr, chk_len]
  rw [e2, beN_append, hk, beN_to hm]
  have := beN_lt (r ++ chk l)
  rw [hk] at this
  rw [Nat.add_mul, Nat.one_mul]
  omega
/-- a text by its mark -/
theorem txt_mark {l : List UInt8} {m : Nat} {r : List UInt8} {w : List Nat} (hm : m < 256 ^ 4) (e : l = toBE 4 m ++ r) (hl : l.length = 78) (hw : (m, w) ∈ marks20) : (txt l).length = 111 ∧ (txt l).take 4 = w := by
  have ok := List.all_eq_true.mp marks20_ok _ hw
  simp only [markOk, Bool.and_eq_true, beq_iff_eq, decide_eq_true_eq] at ok
  obtain ⟨⟨⟨o1, o2⟩, o3⟩, o4⟩ := ok
  obtain ⟨h1, h2⟩ := full78 hm e hl
  have d : beN (full l) / 58 ^ 107 = m * 256 ^ 78 / 58 ^ 107 := by
    apply Nat.le_antisymm
    · rw [← o1]
      exact Nat.div_le_div_right (by omega)
    · exact Nat.div_le_div_right h1
  obtain ⟨q, e1, e3⟩ := b58_split 107 (beN (full l)) (fun q => by rw [d] at q; rw [q] at o2; exact absurd o2 (by decide))
  rw [d, b58_four o2 o3] at e1
  unfold txt text58
  rw [e1, List.map_append]
  refine ⟨?_, ?_⟩
  · rw [List.length_append, List.length_map, List.length_map, e3]; rfl
  · rw [List.take_left' (by rfl), o4]
theorem lets_ok : (marks.all fun r => r.2.1.drop 1 == prvT && r.2.2.2.drop 1 == pubT) = true := by decide +kernel
theorem cut14 {l : List Nat} (h : l.length = 111) : cutL (some 1) (some 4) l = (l.take 4).drop 1 := by
  have : cutL (some ((1 : Nat) : Int)) (some ((4 : Nat) : Int)) l = (l.drop 1).take 3 := by
    unfold cutL
    simp only [Option.elim]
    rw [clipAt_nat, clipAt_nat, h]
    rfl
  rw [show cutL (some 1) (some 4) l = cutL (some ((1 : Nat) : Int)) (some ((4 : Nat) : Int)) l from rfl, this, List.drop_take]
theorem Hd.octs_mark (H : Hd) : ∃ r, H.octs = H.ver ++ r := by
  refine ⟨_, H.octs_eq⟩
theorem hd_mark {H : Hd} {m : Nat} {w : List Nat} (hm : m < 256 ^ 4) (hv : H.ver = toBE 4 m) (hl : H.octs.length = 78) (hw : (m, w) ∈ marks20) : (txt H.octs).length = 111 ∧ (txt H.octs).take 4 = w ∧ H.md = w.drop 1 := by
  obtain ⟨r, e⟩ := H.octs_mark
  rw [hv] at e
  obtain ⟨a, b⟩ := txt_mark hm e hl hw
  refine ⟨a, b, ?_⟩
  unfold Hd.md
  rw [cut14 a, b]
theorem body_len (p : Part) (b : Bool) : (p.body b).length = if b = true then 32 else 33 := by
  unfold Part.body
  cases b
  · exact ser_len _
  · exact toBE_len _ _
theorem octs_len {H : Hd} (ok : H.Ok) (hb : H.body.length = if H.p = true then 32 else 33) : H.octs.length = 78 := by
  have h1 := ok.ver
  have h2 := ok.chain
  have h3 := ok.fp
  unfold Hd.octs Hd.head
  split <;> simp_all [toBE_len]
theorem mem20 {p : Part} (ok : p.Ok) : (p.row.1, p.row.2.1) ∈ marks20 ∧ (p.row.2.2.1, p.row.2.2.2) ∈ marks20 := by
  have h := p.row_mem ok
  exact ⟨List.mem_flatMap.mpr ⟨_, h, .head _⟩, List.mem_flatMap.mpr ⟨_, h, .tail _ (.head _)⟩⟩
theorem Part.mark_mem {p : Part} (ok : p.Ok) : (p.mark, p.let4) ∈ marks20 := by
  have h := mem20 ok
  unfold Part.mark Part.let4
  split
  · exact h.1
  · exact h.2
theorem Part.let_drop {p : Part} (ok : p.Ok) : p.let4.drop 1 = if p.prv = true then prvT else pubT := by
  have h := List.all_eq_true.mp lets_ok _ (p.row_mem ok)
  simp only [Bool.and_eq_true, beq_iff_eq] at h
  unfold Part.let4
  split
  · exact h.1
  · exact h.2
theorem Part.hd_len {p : Part} (ok : p.Ok) : p.hd.octs.length = 78 := octs_len (p.hd_ok ok) (body_len p _)
theorem Part.facts {p : Part} (ok : p.Ok) : (txt p.hd.octs).length = 111 ∧ (txt p.hd.octs).take 4 = p.let4 ∧ p.hd.Good := by
  obtain ⟨a, b, c⟩ := hd_mark (H := p.hd) (p.mark_lt ok) rfl (p.hd_len ok) (p.mark_mem ok)
  refine ⟨a, b, ?_⟩
  unfold Hd.Good
  rw [c, p.let_drop ok]
  rfl
theorem Part.pub_good {p : Part} (ok : p.Ok) : p.pub.Good := by
  have m := marks_ok _ (p.row_mem ok)
  obtain ⟨a, b, c⟩ := hd_mark (H := p.pub) m.2.1 rfl (octs_len (p.pub_ok ok) (ser_len _)) (mem20 ok).2
  have h := List.all_eq_true.mp lets_ok _ (p.row_mem ok)
  simp only [Bool.and_eq_true, beq_iff_eq] at h
  unfold Hd.Good
  rw [c, h.2]
  rfl
theorem Part.wrong_bad {p : Part} (ok : p.Ok) : p.wrong.Bad := by
  obtain ⟨a, b, c⟩ := hd_mark (H := p.wrong) (p.mark_lt ok) rfl (octs_len (p.wrong_ok ok) (body_len p _)) (p.mark_mem ok)
  rw [p.let_drop ok] at c
  unfold Hd.Bad
  rw [c]
  show ((!p.prv) = true ∧ _) ∨ ((!p.prv) = false ∧ _)
  cases p.prv
  · exact .inl ⟨rfl, rfl⟩
  · exact .inr ⟨rfl, rfl⟩
/-! the point is none of nothing -/
def baseInv : Nat := 37108123130578614523601898682108304074351743824628986541222918962778931524868
theorem base_inv : base * baseInv % prime = 1 := by decide +kernel
theorem pnt_ne {n : Nat} (h0 : 0 < n) (h : n < prime) : pnt n ≠ 0 := fun e => by
  have h1 : n * base % prime = 0 := e
  have h2 : n * (base * baseInv) % prime = 0 := by rw [← Nat.mul_assoc, Nat.mul_mod, h1, Nat.zero_mul, Nat.zero_mod]
  rw [Nat.mul_mod, base_inv, Nat.mul_one, Nat.mod_mod, Nat.mod_eq_of_lt h] at h2
  omega
theorem Part.kd {p : Part} (ok : p.Ok) : KeyData p.hd.p p.hd.body := by
  show KeyData p.prv (p.body p.prv)
  unfold Part.body
  cases p.prv
  · exact ⟨pnt p.secret, pnt_ne ok.pos ok.secret, pnt_lt _, rfl⟩
  · refine ⟨toBE_len _ _, ?_, ?_⟩
    · rw [if_pos rfl, beN_to (Nat.lt_trans ok.secret prime_lt)]; exact ok.pos
    · rw [if_pos rfl, beN_to (Nat.lt_trans ok.secret prime_lt)]; exact ok.secret
end Mine
end

section
set_option Elab.async false
set_option maxRecDepth 100000
set_option linter.unusedVariables false
set_option exponentiation.threshold 20000
open PySem PySem.W PyProof.Rows PySem.Calls
namespace Mine
theorem sgn_lt : ∀ d e : Fin 58, (sgn d.1 < sgn e.1) ↔ d.1 < e.1 := by decide +kernel
theorem val58_append (a b : List Nat) : val58 (a ++ b) = val58 a * 58 ^ b.length + val58 b := by
  revert b
  refine list_snoc _ (by simp [val58]) fun l x ih => ?_
  rw [← List.append_assoc, val58_snoc, ih, val58_snoc, List.length_append, Nat.pow_add, Nat.add_mul, Nat.mul_assoc, Nat.add_assoc]
  simp
theorem val58_cons (d : Nat) (r : List Nat) : val58 (d :: r) = d * 58 ^ r.length + val58 r := by
  have := val58_append [d] r
  rw [List.singleton_append] at this
  rw [this]
  show (0 * 58 + d) * _ + _ = _
  rw [Nat.zero_mul, Nat.zero_add]
theorem beN_cons (a : UInt8) (r : List UInt8) : beN (a :: r) = a.toNat * 256 ^ r.length + beN r := by
  have := beN_append [a] r
  rw [List.singleton_append] at this
  rw [this]
  show (0 * 256 + a.toNat) * _ + _ = _
  rw [Nat.zero_mul, Nat.zero_add]
/-- a number by its first digit -/
theorem lead_lt {d e b x y : Nat} (hx : x < b) (hy : y < b) : d * b + x < e * b + y ↔ d < e ∨ d = e ∧ x < y := by
  constructor
  · intro h
    rcases Nat.lt_trichotomy d e with q | q | q
    · exact .inl q
    · subst q; exact .inr ⟨rfl, by omega⟩
    · exfalso
      have : (e + 1) * b ≤ d * b := Nat.mul_le_mul_right _ q
      rw [Nat.add_mul, Nat.one_mul] at this
      omega
  · rintro (h | ⟨rfl, h⟩)
    · have : (d + 1) * b ≤ e * b := Nat.mul_le_mul_right _ h
      rw [Nat.add_mul, Nat.one_mul] at this
      omega
    · omega
theorem lex_val : ∀ (x y : List Nat), x.length = y.length → (∀ d ∈ x, d < 58) → (∀ d ∈ y, d < 58) → (x.map sgn < y.map sgn ↔ val58 x < val58 y)
  | [], [], _, _, _ => by simp
  | [], _ :: _, h, _, _ => by simp at h
  | _ :: _, [], h, _, _ => by simp at h
  | d :: r, e :: q, h, hx, hy => by
    have hl : r.length = q.length := by simpa using h
    have ih := lex_val r q hl (fun z hz => hx z (.tail _ hz)) (fun z hz => hy z (.tail _ hz))
    have a := val58_lt r fun z hz => hx z (.tail _ hz)
    have b := val58_lt q fun z hz => hy z (.tail _ hz)
    rw [val58_cons, val58_cons, ← hl]
    rw [← hl] at b
    rw [lead_lt a b, List.map_cons, List.map_cons, List.cons_lt_cons_iff, ih]
    have h1 := sgn_lt ⟨d, hx d (.head _)⟩ ⟨e, hy e (.head _)⟩
    have h2 := sgn_inj ⟨d, hx d (.head _)⟩ ⟨e, hy e (.head _)⟩
    constructor
    · rintro (p | ⟨p, z⟩)
      · exact .inl (h1.mp p)
      · exact .inr ⟨h2 p, z⟩
    · rintro (p | ⟨p, z⟩)
      · exact .inl (h1.mpr p)
      · exact .inr ⟨by rw [p], z⟩
theorem order_val : ∀ (x y : List UInt8), x.length = y.length → (Builtin.Bytes.order x y == .lt) = decide (beN x < beN y)
  | [], [], _ => by simp [Builtin.Bytes.order]
  | [], _ :: _, h => by simp at h
  | _ :: _, [], h => by simp at h
  | a :: r, b :: q, h => by
    have hl : r.length = q.length := by simpa using h
    have ih := order_val r q hl
    have p1 := beN_lt r
    have p2 := beN_lt q
    rw [beN_cons, beN_cons, ← hl]
    rw [← hl] at p2
    have key := lead_lt (d := a.toNat) (e := b.toNat) p1 p2
    rw [Bool.eq_iff_iff, decide_eq_true_eq, key]
    unfold Builtin.Bytes.order
    by_cases h1 : a < b
    · rw [if_pos h1]
      simp
      exact .inl (UInt8.lt_iff_toNat_lt.mp h1)
    · rw [if_neg h1]
      have h1' : ¬ a.toNat < b.toNat := fun z => h1 (UInt8.lt_iff_toNat_lt.mpr z)
      by_cases h2 : a > b
      · rw [if_pos h2]
        have : b.toNat < a.toNat := UInt8.lt_iff_toNat_lt.mp h2
        constructor
        · intro z; cases z
        · rintro (z | ⟨z, _⟩) <;> omega
      · rw [if_neg h2, ih]
        have h2' : ¬ b.toNat < a.toNat := fun z => h2 (UInt8.lt_iff_toNat_lt.mpr z)
        have e : a.toNat = b.toNat := by omega
        simp [e]
theorem beN_inj {a b : List UInt8} (hl : a.length = b.length) (h : beN a = beN b) : a = b := by
  rw [← toBE_beN a, ← toBE_beN b, h, hl]
theorem full_val (l : List UInt8) : beN (full l) = beN l * 256 ^ 4 + beN (chk l) := by unfold full; rw [beN_append, chk_len]
theorem chk_lt (l : List UInt8) : beN (chk l) < 256 ^ 4 := by have := beN_lt (chk l); rw [chk_len] at this; exact this
theorem full_inj {a b : List UInt8} (hl : a.length = b.length) (h : beN (full a) = beN (full b)) : a = b := by
  have h1 := full_val a
  have h2 := full_val b
  have c1 := chk_lt a
  have c2 := chk_lt b
  refine beN_inj hl ?_
  omega
theorem map_sgn_inj : ∀ {x y : List Nat}, (∀ d ∈ x, d < 58) → (∀ d ∈ y, d < 58) → x.map sgn = y.map sgn → x = y
  | [], [], _, _, _ => rfl
  | [], _ :: _, _, _, h => by simp at h
  | _ :: _, [], _, _, h => by simp at h
  | d :: r, e :: q, hx, hy, h => by
    simp only [List.map_cons, List.cons.injEq] at h
    have e1 : d = e := sgn_inj ⟨d, hx d (.head _)⟩ ⟨e, hy e (.head _)⟩ h.1
    rw [e1, map_sgn_inj (fun z hz => hx z (.tail _ hz)) (fun z hz => hy z (.tail _ hz)) h.2]
theorem txt_inj {a b : List UInt8} (hl : a.length = b.length) (h : txt a = txt b) : a = b := by
  have e := map_sgn_inj (b58_dig _) (b58_dig _) h
  refine full_inj hl ?_
  have := congrArg val58 e
  rw [val58_b58, val58_b58] at this
  exact this
theorem txt_order {a b : List UInt8} (hl : a.length = b.length) (ht : (txt a).length = (txt b).length) : decide (txt a < txt b) = (Builtin.Bytes.order a b == .lt) := by
  rw [order_val a b hl]
  apply decide_eq_decide.mpr
  have hb : (b58 (beN (full a))).length = (b58 (beN (full b))).length := by
    unfold txt at ht
    rw [text58_len, text58_len] at ht
    exact ht
  have lv := lex_val _ _ hb (b58_dig _) (b58_dig _)
  rw [val58_b58, val58_b58] at lv
  show List.map sgn (b58 (beN (full a))) < List.map sgn (b58 (beN (full b))) ↔ _
  rw [lv]
  have h1 := full_val a
  have h2 := full_val b
  have c1 := chk_lt a
  have c2 := chk_lt b
  constructor
  · intro h
    rcases Nat.lt_trichotomy (beN a) (beN b) with q | q | q
    · exact q
    · have := beN_inj hl q
      subst this
      omega
    · omega
  · intro h
    omega
theorem txt_same {a b : List UInt8} (hl : a.length = b.length) : decide (txt a = txt b) = (a == b) := by
  rw [Bool.eq_iff_iff, decide_eq_true_eq, beq_iff_eq]
  exact ⟨txt_inj hl, fun e => by rw [e]⟩
end Mine
end

section
set_option Elab.async false
set_option maxRecDepth 100000
set_option linter.unusedVariables false
open PySem PySem.W PyProof.Rows PySem.Calls
namespace Mine
theorem C_law {w mg mb A s0 sl} {ns : List Int} {vsS : List Value} (G : Gl w mg mb s0.heap) (R : Rm A 95) (hfr : A.frames = some []) (hsl : s0.heap.IsList sl vsS.toArray) (hI : IntsAre vsS ns) (hlen : ns.length ≤ 63) :
    Gives w A (.ref 1490) [.ref sl] [] (fun v _ => v = .bool true) s0 := by
  have ln := numsOf_len ns
  have lx : (numsOf ns).length ≤ 1000 := by unfold numsOf; simp; omega
  have op_ := partOf_ok (numsOf ns) 0
  have oq := secondOf_ok (numsOf ns)
  have fp := Part.facts op_
  have fq := Part.facts oq
  have hl : (partOf (numsOf ns) 0).hd.octs.length = (secondOf (numsOf ns)).hd.octs.length := by rw [Part.hd_len op_, Part.hd_len oq]
  refine enterLaw G R.less fun L s o1 o2 hd1 hd2 S => ?_
  refine (law_A1 (Q := fun fl s' => Ext s0 s' ∧ fl = .ret (.bool true)) R.less hI hlen hsl hd1 hd2 S fun s Nl P a0 a1 op ot kv vsN t u hN hop hot S => ?_).mono (fun fl s' h => ?_) fun _ _ q => q
  · refine law_A2 R.less hN ln hop hot S fun s b kb u2 S => ?_
    refine law_B R.less op_ oq fp.2.2 fq.2.2 hop S fun s M T r0 r1 x0 x1 y0 y1 ta tb ext hext S => ?_
    refine law_C R.less hfr op_ oq fp.2.2 fq.2.2 (Part.pub_good op_) (Part.pub_good oq) fp.1 fq.1 fp.2.1 fq.2.1 hop hext S fun s rv tv ov S => ?_
    refine law_D R.less hfr op_ oq fp.2.2 fp.1 fq.1 (txt_order hl (by rw [fp.1, fq.1])) (txt_same hl) (Part.kd op_) (Part.wrong_bad oq) hop hext S fun s lv S => ?_
    refine law_E1 R.less hN ln lx S fun s pth its tk hp S => ?_
    refine law_E2 R.less hN ln hp S fun s rt tn ta tb tc td S => ?_
    refine law_E3 R.less hN ln hp S fun s xv av hav S => ?_
    exact law_F R.less hp hav S
  · obtain ⟨x, rfl⟩ := h
    exact ⟨x, rfl⟩
end Mine
end

section
set_option Elab.async false
set_option maxRecDepth 100000
set_option linter.unusedVariables false
open PySem PySem.W PyProof.Rows PySem.Calls
namespace Mine
theorem quiet_caller : Quiet ⟨.builtin "claim.caller" {}, none, none, [], none⟩ := ⟨by show (!(Builtin.Bytes.decodersThatHold.contains "claim.caller")) = true; decide +kernel, fun _ h => nomatch h⟩
/-- the claim's thread, by what the quiet judgement says -/
theorem ends_quiet {prog : Program} {w : World} {t : Sem Fin} {s : Shared} {R : Result → Shared → Prop} (hz : s.asleep)
    (h : wpN (model prog w) callerA t (fun fin s' => ∃ f, fin = .done f ∧ R (.ok f) s' ∧ leftWithCleanup s'.gens = false) (fun e s' => R (.error e) s' ∧ leftWithCleanup s'.gens = false) s) :
    ∃ n r s' s'', runN (denote table) prog w n s ⟨t, .builtin "claim.caller" {}, default, []⟩ = .halted (outcomeOf r) s' ∧
      schedN (denote table) prog w n (.single s ⟨t, .builtin "claim.caller" {}, default, []⟩) = .halted (outcomeOf r) s' ∧ s'.forget = s''.forget ∧ R r s'' := by
  obtain ⟨n, r, s₁, s₂, a, b, c, d⟩ := wp_halts_full (M := model prog w) (R := R) hz
    (Sem.wp_mono (model prog w) _ t (fun fin p' s' q => by obtain ⟨f, rfl, q⟩ := q; exact q) (fun _ _ _ q => q) default s (h _ default caller_in quiet_caller))
  exact ⟨n, r, s₂, s₁, b, a, c, d⟩
def WalkQ (q : Program) (loose : List Str) (XP : (Str → Option Value) → Heap → Prop) (YP : World → Heap → Prop) (r : OpenRow) : Prop :=
  ∀ (w : World) (s₀ s₁ : Shared) (mg mb : Str → Option Value), Ground q loose r.toRowW.records XP w s₀ mg mb s₁.heap → YP w s₁.heap → ∀ f, mg r.name = some f → s₁.gens = #[] →
    ∀ (args : List WData) (vals : List Value) (as : List Addr), r.toRowW.claim.pre args = true → ReadsAllW r.toRowW.records (classAt s₀.heap) s₁.heap vals args as → (∀ a ∈ as, (a == sysModules) = false) →
      wpN (model r.prog w) callerA (PySem.call f vals) (fun v s' => GoodWG r.toRowW.claim (classAt s₀.heap) (ExcName.means s₀.heap) args s₁ (.ok (.ret v)) s')
        (fun e s' => GoodWG r.toRowW.claim (classAt s₀.heap) (ExcName.means s₀.heap) args s₁ (.error e) s') s₁
end Mine
namespace Mine.PySem.W
open Mine
theorem holds_open {r : OpenRow} {q : Program} {loose : List Str} {Xt : Shared → Bool} {XP : (Str → Option Value) → Heap → Prop} {α : Type} {Yf : Shared → α} {Ya : World → α} {YP : World → Heap → Prop} {d : DefRec} {kwd : List (Str × Expr)} {N : Nat}
    (left : LeftO r.prog q loose Xt Yf Ya N) (hY : ∀ w s, Yf s = Ya w → YP w s.heap) (hYk : ∀ w h h', YP w h → (∀ b o, h.get? b = some o → h'.get? b = some o) → YP w h')
    (hX : ∀ s, Xt s = true → XP (s.heap.nsMap mainGlobals) s.heap) (hXk : ∀ mg h h', XP mg h → (∀ b o, h.get? b = some o → h'.get? b = some o) → XP mg h')
    (hdef : defOf q r.name = some (d, kwd)) (hp : r.prog.theDef r.name = some (d.params, d.body, d.scope)) (hk : kwWritten? d.params.kwonlyargs d.params.kw_defaults = some kwd) (hRf : ∀ s, Xt s = true → RecFacts r.records s.heap) (hwr : (!r.writes || r.records.isEmpty) = true)
    (k1 : r.wellSaid = true) (ok : (chainsOk q && opensWell r.prog && (frees r.toRowW && r.within.isEmpty)) = true) (hb : r.prog.bare) (hw : r.toRowW.promised)
    (call : WalkQ q loose XP YP r) : r.Holds := by
  obtain ⟨ok, k5⟩ := Bool.and_eq_true_iff.mp ok
  obtain ⟨hch, o1⟩ := Bool.and_eq_true_iff.mp ok
  obtain ⟨k5, k6⟩ := Bool.and_eq_true_iff.mp k5
  obtain ⟨hsame, hu, ha, hap, hm⟩ := frees_parts k5
  refine ⟨k1, hw, ⟨hb, o1, by show r.toRowW.makers.map _ = []; rw [hm]; rfl⟩, hw.witness, fun w => ⟨(left.behind hX hch w).1, fun s' hs' => ?_⟩⟩
  obtain ⟨s₀, hf, hg0, s, hT, hz, hgens, hg, G00, y⟩ := (left.behind (XP := fun mg h => XP mg h ∧ RecFacts r.records h) (fun s hs => ⟨hX s hs, hRf s hs⟩) hch w).2 s' hs'
  have G0 : Ground q loose [] XP w s (s.heap.nsMap mainGlobals) (s.heap.nsMap builtinsNs) s.heap := ⟨G00.T, G00.B, G00.D, G00.TE, G00.TD, G00.W, G00.X.1, G00.cls, G00.has, G00.apart, G00.once, G00.K⟩
  have RF := G00.X.2
  have hT' := hT
  refine ⟨s₀, hf, hg0, s, hT, ?_, RF.1, RF.2.1, ?_⟩
  · intro n hn
    obtain rfl : n = r.name := by split at hn <;> simp_all
    exact pinned_of_view hg G0 hdef hp hk
  have hgens : s.gens = #[] := Array.eq_empty_of_size_eq_zero (beq_iff_eq.mp hgens)
  have G : Ground q loose r.records XP w s _ _ s.heap := RF.ground G0
  intro args hpre hlay ord hord
  obtain ⟨⟨vs, s₁⟩, hlaid⟩ := Option.isSome_iff_exists.mp (layAllW_isSome (P := w.params) (ord := ord) G.has args r.args s (pre_splitW hpre).1)
  have keeps := layAllW_keeps _ _ _ hlaid
  have hal := layAllW_rest _ _ _ hlaid
  obtain ⟨as, hrd, hin, hold⟩ := reads_layAllW hord _ _ _ hlaid hlay s₁.heap (fun _ _ e => e)
  have L : Laid r.records w s s₁ args vs as := ⟨⟨ord, hord, hlaid⟩, hrd, hin, hold, keeps, hal.1.trans hgens, hal.2.2.1⟩
  have G₁ := G.keeps hXk keeps
  obtain ⟨a, o, pm, cd, doc, dV, kV, h1, h2, h3, h4, h5⟩ := G₁.fn hdef
  have hmg := h1
  have C := call w s s₁ _ _ G₁ (hYk _ _ _ (hY w s y) keeps) (.ref a) hmg L.gens args vs as hpre L.reads (L.low G.low)
  have hi := ident_freeW hu ha hap
  have hwi : r.toRowW.claim.within = [] := List.isEmpty_iff.mp k6
  let K : Heap → Prop := fun h' => r.writes = true → namesKept r.toRowW.claim.prog r.keeps s.heap h' ∧ ∀ x ∈ r.toRowW.claim.records, ∀ a, classAt s.heap x.1 = some a → recordClass h' a x.1 (x.2.map (·.1)) = true
  have kept : ∀ r' (s' : Shared), GoodWG r.toRowW.claim (classAt s.heap) (ExcName.means s.heap) args s₁ r' s' →
      (r.toRowW.claim.Ends s args vs s₁ r' s' ∧ s'.os = s.os ∧ K s'.heap) ∧ leftWithCleanup s'.gens = false := fun r' s' g => by
    have z := g.laid (c := r.toRowW.claim) hsame hwi hi L
    exact ⟨⟨z.1, z.2.1, fun qq => ⟨namesKept_of hT' hg r.keeps keeps g.2.1.old, noTable hwr qq⟩⟩, leftWithCleanup_false_of_bare z.2.2⟩
  have hcode : wpN (model r.prog w) callerA ((do match ← nsGet mainNs r.name with
      | some f => do ret (← PySem.call f vs)
      | none => unsupported "claim.caller:no-such-global") : Sem Fin) (fun fin s' => ∃ f, fin = .done f ∧ (fun r' s' => r.toRowW.claim.Ends s args vs s₁ r' s' ∧ s'.os = s.os ∧ K s'.heap) (.ok f) s' ∧ leftWithCleanup s'.gens = false)
        (fun e s' => (fun r' s' => r.toRowW.claim.Ends s args vs s₁ r' s' ∧ s'.os = s.os ∧ K s'.heap) (.error e) s' ∧ leftWithCleanup s'.gens = false) s₁ := by
    intro Γ p hΓ qu
    have hns := (wpAny_nsGet (M := model r.prog w) (A := callerA) (E := fun _ _ => False) (name := r.name) (Q := fun x s3 => x = some (Value.ref a) ∧ s3 = s₁) G₁.T.g ⟨hmg, rfl⟩) Γ p hΓ
    rw [Sem.wp_bind']
    refine Sem.wp_mono _ Γ _ (fun x p' s' h' => ?_) (fun _ _ _ h' => h'.elim) p s₁ hns
    obtain ⟨rfl, rfl⟩ := h'
    show Sem.wp _ Γ (PySem.call (.ref a) vs >>= fun v => ret v) _ _ p' _
    rw [Sem.wp_bind']
    exact Sem.wp_mono _ Γ _ (fun v p' s' h' => ⟨_, rfl, kept _ s' h'⟩) (fun e _ s' h' => kept _ s' h') p' _ (C Γ p' hΓ qu)
  obtain ⟨k, r', s', s'', hrun, hsched, hfo, hcase, hos, hkp⟩ := ends_quiet (R := fun r' s' => r.toRowW.claim.Ends s args vs s₁ r' s' ∧ s'.os = s.os ∧ K s'.heap) (Shared.asleep_of_life hal.2.2.2 hz) hcode
  obtain ⟨eh, _, _, eo, _⟩ := Shared.forget_eq hfo
  have hcase := hcase.congr eh
  rw [← eo] at hos
  have hlife : s'.heap.life = s.heap.life := (runN_life _ _ _ hrun).trans hal.2.2.2
  refine ⟨vs, s₁, hlaid, k, _, s', hsched, ?_, (fun _ i x hx => by rw [hgens] at hx; simp at hx), eh ▸ hkp, by rw [hlife], Shared.rest_eq hos⟩
  rcases hcase with ⟨v, rfl, d1, d2, d3, d4, d5⟩ | ⟨e, ob, cls, rfl, d1, d2, d3, d4, d5⟩
  · exact .inl ⟨v, rfl, d1, d2, d3, fun b o y _ => d4 b o y, d5⟩
  · exact .inr ⟨e, ob, cls, rfl, d1, d2, d3, d4, fun b o y _ => d5 b o y⟩
end Mine.PySem.W
end

section
set_option Elab.async false
set_option maxRecDepth 100000
set_option linter.unusedVariables false
open PySem PySem.W PyProof.Rows PySem.Calls
namespace Mine
theorem items_ints {R : WRecords} : ∀ {xs : List WData}, WShape.hasItems R xs .int = true → ∃ ns : List Int, xs = ns.map WData.int
  | [], _ => ⟨[], rfl⟩
  | d :: r, h => by
    rw [WShape.hasItems, Bool.and_eq_true] at h
    obtain ⟨i, rfl⟩ := hasW_int h.1
    obtain ⟨ns, rfl⟩ := items_ints h.2
    exact ⟨i :: ns, rfl⟩
theorem reads_ints {R : WRecords} {cl : Str → Option Addr} {h : Heap} : ∀ {ns : List Int} {vs : List Value} {as : List Addr}, ReadsAllW R cl h vs (ns.map WData.int) as → IntsAre vs ns
  | [], _, _, x => by cases x; exact .nil
  | n :: ns, _, _, x => by
    cases x with
    | cons a b =>
      cases a with
      | int i t => exact .cons _ _ (reads_ints b)
theorem law_at (P : Params) : nsIn (KF P) mainGlobals (.ofString "law") = some (some (.ref 1490)) := by kernel_rfl
theorem pre63 {ns : List Int} (h : Challenge.rw_bh0021_01.row.pre.holds [] { args := [WData.list (ns.map WData.int)] } = true) : ns.length ≤ 63 := by
  have e : Challenge.rw_bh0021_01.row.pre = WTm.and (.not (.lt (.lit (.int (63 : Nat))) (.len (.arg 0)))) (.lit (.bool true)) := rfl
  rw [e] at h
  simp [WTm.holds, WTm.value] at h
  have e2 : PySem.W.less? (WData.int 63) (WData.int (ns.length : Nat)) = some (decide ((63 : Int) < ((ns.length : Nat) : Int))) := by simp [PySem.W.less?, PySem.W.Num.less?]
  rw [e2] at h
  by_cases q : (63 : Int) < ((ns.length : Nat) : Int)
  · rw [decide_eq_true q] at h
    cases h
  · omega
theorem post_true {d : WData} : Challenge.rw_bh0021_01.row.toRowW.claim.post [d] (.bool true) [d] = true := by
  show (WShape.has [] (.bool true) .bool && WTm.holds [] (.eq .res (.lit (.bool true))) { args := [d], res := some (.bool true), after := [d] }) = true
  have e : PySem.W.same (.bool true) (.bool true) = true := by simp [PySem.W.same]
  simp only [WTm.holds, WTm.value, WShape.has, WShape.arms, e]
  rfl
theorem rm_caller : Rm callerA 95 := ⟨by decide +kernel, by decide +kernel, rfl, rfl⟩
/-- the walk: the law answers True -/
theorem walk {q : Program} {loose : List Str} {XP : (Str → Option Value) → Heap → Prop} : WalkQ q loose XP (fun w h => (KF w.params).In h) Challenge.rw_bh0021_01.row := by
  intro w s₀ s₁ mg mb G y f hf hg args vals as hpre hr hsys
  obtain ⟨hall, hp⟩ := pre_splitW hpre
  obtain ⟨d, r, rfl, hd, hr'⟩ := hasAllW_cons hall
  obtain rfl := hasAllW_nil hr'
  obtain ⟨xs, rfl, hi⟩ := hasW_list hd
  obtain ⟨ns, rfl⟩ := items_ints hi
  have hlen := pre63 hp
  cases hr with
  | cons a b =>
    cases b
    cases a with
    | list e1 e2 e3 e4 =>
      have Gg : Gl w mg mb s₁.heap := ⟨y, G.T.g, G.T.b, G.T.nolimit, G.T.builtins⟩
      have hm : mg Challenge.rw_bh0021_01.row.name = some (.ref 1490) := mg_of y G.T.g (law_at _)
      rw [hm] at hf
      cases hf
      rename_i la o vs n as'
      have hI := reads_ints e4
      have C := C_law (A := callerA) (vsS := vs.toList) Gg rm_caller rfl ⟨o, e1, e2, n, by rw [e3]⟩ hI hlen
      refine (W.call (c := cx w mg mb s₁ 0) (C.mono fun r s' q => ?_)).out
      match r, q with
      | .ok (.ret v), q =>
        obtain ⟨x, rfl⟩ := q
        exact ⟨.inl ⟨_, .bool true, [], rfl, fun cls => rfl, .bool true, post_true, fun _ => ⟨List.nodup_nil, fun a h => nomatch h⟩⟩, .of_keep x.keep, x.os, .of_eq (x.gens.trans hg)⟩
      | .ok .next, q => exact q.elim
      | .ok .brk, q => exact q.elim
      | .ok .cont, q => exact q.elim
      | .error _, q => exact q.elim
end Mine
end

open PySem PySem.W PyProof.Rows PySem.Calls
namespace Mine
set_option maxRecDepth 100000 in
set_option maxHeartbeats 8000000 in
theorem head : PySem.Challenge.rw_bh0021_01.Holds := by
  run_tac do
    for k in [0:6000] do
      PySem.W.Fast.primed.modify (·.insert (`Mine.head ++ Lean.Name.mkSimple s!"tree_{k}") none)
      PySem.W.Fast.primed.modify (·.insert (`Mine.head ++ Lean.Name.mkSimple s!"heap_{k}") none)
  w_on
  o_law
  o_head Mine.hookM
  case hw => w_witness2
  exact walk
end Mine
theorem PySem.Challenge.cw_bh0021_01_holds : PySem.Challenge.rw_bh0021_01.Holds :=
  Mine.head
