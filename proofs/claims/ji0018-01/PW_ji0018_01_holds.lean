import PyProof.Rows.All
import Wide.All
import OpenK.AllK
import Wide.FinOn
import PySem.Challenge.RW_ji0018_01
open PySem PySem.W PyProof.Rows
set_option Elab.async false
set_option maxRecDepth 100000
set_option compiler.extract_closed false

namespace Mine
/-! H1 -/
section
open PySem PySem.W PyProof.Rows
noncomputable def nth : List Stmt → Nat → Stmt
  | [], _ => .Pass default
  | s :: _, 0 => s
  | _ :: r, n + 1 => nth r n
noncomputable def st (i : Nat) : Stmt := nth PySem.Challenge.pw_ji0018_01.main.body i
noncomputable def inCls : Stmt → List Stmt
  | .ClassDef _ _ _ b _ _ _ _ _ _ _ => b
  | _ => []
noncomputable def me (i j : Nat) : Stmt := nth (inCls (st i)) j
noncomputable def fo (s : Stmt) (q : Str) (df md : Value) (cd : Addr) : Obj := match s with
  | .FunctionDef name args body _ _ _ scope _ _ _ => { cls := .type "function", data := .func { name := name, qualname := q, params := args, body := .stmts body, scope := scope, globals := 3, closure := [], defaults := df, kwdefaults := .none, pyModule := md, code := .ref cd } }
  | _ => default
abbrev hk (P : Params) (x : Str) : Int := PyData.keyHash P x
noncomputable def f21 : Obj := by
  refine (fun (o : Obj) (_ : fo (st 0) (.ofString "_wall") (.none) (.str (.ofString "__main__") 164) 20 = o) => o) ?l ?h
  case h => conv => lhs; (conv => arg 1; whnf); whnf
noncomputable def f127 : Obj := by
  refine (fun (o : Obj) (_ : fo (st 11) (.ofString "_validate_labels") (.none) (.str (.ofString "dns.name") 248) 126 = o) => o) ?l ?h
  case h => conv => lhs; (conv => arg 1; whnf); whnf
noncomputable def f134 : Obj := by
  refine (fun (o : Obj) (_ : fo (st 12) (.ofString "_maybe_convert_to_binary") (.none) (.str (.ofString "dns.name") 248) 133 = o) => o) ?l ?h
  case h => conv => lhs; (conv => arg 1; whnf); whnf
noncomputable def f146 : Obj := by
  refine (fun (o : Obj) (_ : fo (me 13 0) (.ofString "Name.__init__") (.none) (.str (.ofString "dns.name") 248) 145 = o) => o) ?l ?h
  case h => conv => lhs; (conv => arg 1; whnf); whnf
noncomputable def f153 : Obj := by
  refine (fun (o : Obj) (_ : fo (me 13 1) (.ofString "Name.is_absolute") (.none) (.str (.ofString "dns.name") 248) 152 = o) => o) ?l ?h
  case h => conv => lhs; (conv => arg 1; whnf); whnf
noncomputable def f160 : Obj := by
  refine (fun (o : Obj) (_ : fo (me 13 2) (.ofString "Name.is_wild") (.none) (.str (.ofString "dns.name") 248) 159 = o) => o) ?l ?h
  case h => conv => lhs; (conv => arg 1; whnf); whnf
noncomputable def f167 : Obj := by
  refine (fun (o : Obj) (_ : fo (me 13 3) (.ofString "Name.fullcompare") (.none) (.str (.ofString "dns.name") 248) 166 = o) => o) ?l ?h
  case h => conv => lhs; (conv => arg 1; whnf); whnf
noncomputable def f174 : Obj := by
  refine (fun (o : Obj) (_ : fo (me 13 4) (.ofString "Name.is_subdomain") (.none) (.str (.ofString "dns.name") 248) 173 = o) => o) ?l ?h
  case h => conv => lhs; (conv => arg 1; whnf); whnf
noncomputable def f181 : Obj := by
  refine (fun (o : Obj) (_ : fo (me 13 5) (.ofString "Name.is_superdomain") (.none) (.str (.ofString "dns.name") 248) 180 = o) => o) ?l ?h
  case h => conv => lhs; (conv => arg 1; whnf); whnf
noncomputable def f188 : Obj := by
  refine (fun (o : Obj) (_ : fo (me 13 6) (.ofString "Name.canonicalize") (.none) (.str (.ofString "dns.name") 248) 187 = o) => o) ?l ?h
  case h => conv => lhs; (conv => arg 1; whnf); whnf
noncomputable def f195 : Obj := by
  refine (fun (o : Obj) (_ : fo (me 13 7) (.ofString "Name.__eq__") (.none) (.str (.ofString "dns.name") 248) 194 = o) => o) ?l ?h
  case h => conv => lhs; (conv => arg 1; whnf); whnf
noncomputable def f202 : Obj := by
  refine (fun (o : Obj) (_ : fo (me 13 8) (.ofString "Name.__ne__") (.none) (.str (.ofString "dns.name") 248) 201 = o) => o) ?l ?h
  case h => conv => lhs; (conv => arg 1; whnf); whnf
noncomputable def f209 : Obj := by
  refine (fun (o : Obj) (_ : fo (me 13 9) (.ofString "Name.__lt__") (.none) (.str (.ofString "dns.name") 248) 208 = o) => o) ?l ?h
  case h => conv => lhs; (conv => arg 1; whnf); whnf
noncomputable def f216 : Obj := by
  refine (fun (o : Obj) (_ : fo (me 13 10) (.ofString "Name.__le__") (.none) (.str (.ofString "dns.name") 248) 215 = o) => o) ?l ?h
  case h => conv => lhs; (conv => arg 1; whnf); whnf
noncomputable def f223 : Obj := by
  refine (fun (o : Obj) (_ : fo (me 13 11) (.ofString "Name.__ge__") (.none) (.str (.ofString "dns.name") 248) 222 = o) => o) ?l ?h
  case h => conv => lhs; (conv => arg 1; whnf); whnf
noncomputable def f230 : Obj := by
  refine (fun (o : Obj) (_ : fo (me 13 12) (.ofString "Name.__gt__") (.none) (.str (.ofString "dns.name") 248) 229 = o) => o) ?l ?h
  case h => conv => lhs; (conv => arg 1; whnf); whnf
noncomputable def f238 : Obj := by
  refine (fun (o : Obj) (_ : fo (me 13 13) (.ofString "Name.to_text") (.ref 231) (.str (.ofString "dns.name") 248) 237 = o) => o) ?l ?h
  case h => conv => lhs; (conv => arg 1; whnf); whnf
noncomputable def f245 : Obj := by
  refine (fun (o : Obj) (_ : fo (me 13 14) (.ofString "Name.to_styled_text") (.none) (.str (.ofString "dns.name") 248) 244 = o) => o) ?l ?h
  case h => conv => lhs; (conv => arg 1; whnf); whnf
noncomputable def f253 : Obj := by
  refine (fun (o : Obj) (_ : fo (me 13 15) (.ofString "Name.to_digestable") (.ref 246) (.str (.ofString "dns.name") 248) 252 = o) => o) ?l ?h
  case h => conv => lhs; (conv => arg 1; whnf); whnf
noncomputable def f261 : Obj := by
  refine (fun (o : Obj) (_ : fo (me 13 16) (.ofString "Name.to_wire") (.ref 254) (.str (.ofString "dns.name") 248) 260 = o) => o) ?l ?h
  case h => conv => lhs; (conv => arg 1; whnf); whnf
noncomputable def f268 : Obj := by
  refine (fun (o : Obj) (_ : fo (me 13 17) (.ofString "Name.__len__") (.none) (.str (.ofString "dns.name") 248) 267 = o) => o) ?l ?h
  case h => conv => lhs; (conv => arg 1; whnf); whnf
noncomputable def f275 : Obj := by
  refine (fun (o : Obj) (_ : fo (me 13 18) (.ofString "Name.__getitem__") (.none) (.str (.ofString "dns.name") 248) 274 = o) => o) ?l ?h
  case h => conv => lhs; (conv => arg 1; whnf); whnf
noncomputable def f282 : Obj := by
  refine (fun (o : Obj) (_ : fo (me 13 19) (.ofString "Name.__add__") (.none) (.str (.ofString "dns.name") 248) 281 = o) => o) ?l ?h
  case h => conv => lhs; (conv => arg 1; whnf); whnf
noncomputable def f289 : Obj := by
  refine (fun (o : Obj) (_ : fo (me 13 20) (.ofString "Name.__sub__") (.none) (.str (.ofString "dns.name") 248) 288 = o) => o) ?l ?h
  case h => conv => lhs; (conv => arg 1; whnf); whnf
noncomputable def f296 : Obj := by
  refine (fun (o : Obj) (_ : fo (me 13 21) (.ofString "Name.split") (.none) (.str (.ofString "dns.name") 248) 295 = o) => o) ?l ?h
  case h => conv => lhs; (conv => arg 1; whnf); whnf
noncomputable def f303 : Obj := by
  refine (fun (o : Obj) (_ : fo (me 13 22) (.ofString "Name.concatenate") (.none) (.str (.ofString "dns.name") 248) 302 = o) => o) ?l ?h
  case h => conv => lhs; (conv => arg 1; whnf); whnf
noncomputable def f310 : Obj := by
  refine (fun (o : Obj) (_ : fo (me 13 23) (.ofString "Name.relativize") (.none) (.str (.ofString "dns.name") 248) 309 = o) => o) ?l ?h
  case h => conv => lhs; (conv => arg 1; whnf); whnf
noncomputable def f317 : Obj := by
  refine (fun (o : Obj) (_ : fo (me 13 24) (.ofString "Name.derelativize") (.none) (.str (.ofString "dns.name") 248) 316 = o) => o) ?l ?h
  case h => conv => lhs; (conv => arg 1; whnf); whnf
noncomputable def f325 : Obj := by
  refine (fun (o : Obj) (_ : fo (me 13 25) (.ofString "Name.choose_relativity") (.ref 318) (.str (.ofString "dns.name") 248) 324 = o) => o) ?l ?h
  case h => conv => lhs; (conv => arg 1; whnf); whnf
noncomputable def f332 : Obj := by
  refine (fun (o : Obj) (_ : fo (me 13 26) (.ofString "Name.parent") (.none) (.str (.ofString "dns.name") 248) 331 = o) => o) ?l ?h
  case h => conv => lhs; (conv => arg 1; whnf); whnf
noncomputable def f340 : Obj := by
  refine (fun (o : Obj) (_ : fo (me 13 27) (.ofString "Name.predecessor") (.ref 333) (.str (.ofString "dns.name") 248) 339 = o) => o) ?l ?h
  case h => conv => lhs; (conv => arg 1; whnf); whnf
noncomputable def f348 : Obj := by
  refine (fun (o : Obj) (_ : fo (me 13 28) (.ofString "Name.successor") (.ref 341) (.str (.ofString "dns.name") 248) 347 = o) => o) ?l ?h
  case h => conv => lhs; (conv => arg 1; whnf); whnf
noncomputable def f407 : Obj := by
  refine (fun (o : Obj) (_ : fo (st 19) (.ofString "_folded") (.none) (.str (.ofString "dns.namedict") 730) 406 = o) => o) ?l ?h
  case h => conv => lhs; (conv => arg 1; whnf); whnf
noncomputable def f421 : Obj := by
  refine (fun (o : Obj) (_ : fo (me 20 0) (.ofString "NameDict.__init__") (.none) (.str (.ofString "dns.namedict") 730) 420 = o) => o) ?l ?h
  case h => conv => lhs; (conv => arg 1; whnf); whnf
noncomputable def f428 : Obj := by
  refine (fun (o : Obj) (_ : fo (me 20 1) (.ofString "NameDict.update_max_depth") (.none) (.str (.ofString "dns.namedict") 730) 427 = o) => o) ?l ?h
  case h => conv => lhs; (conv => arg 1; whnf); whnf
noncomputable def f435 : Obj := by
  refine (fun (o : Obj) (_ : fo (me 20 2) (.ofString "NameDict.__getitem__") (.none) (.str (.ofString "dns.namedict") 730) 434 = o) => o) ?l ?h
  case h => conv => lhs; (conv => arg 1; whnf); whnf
noncomputable def f442 : Obj := by
  refine (fun (o : Obj) (_ : fo (me 20 3) (.ofString "NameDict.__setitem__") (.none) (.str (.ofString "dns.namedict") 730) 441 = o) => o) ?l ?h
  case h => conv => lhs; (conv => arg 1; whnf); whnf
noncomputable def f449 : Obj := by
  refine (fun (o : Obj) (_ : fo (me 20 4) (.ofString "NameDict.__delitem__") (.none) (.str (.ofString "dns.namedict") 730) 448 = o) => o) ?l ?h
  case h => conv => lhs; (conv => arg 1; whnf); whnf
noncomputable def f456 : Obj := by
  refine (fun (o : Obj) (_ : fo (me 20 5) (.ofString "NameDict.__len__") (.none) (.str (.ofString "dns.namedict") 730) 455 = o) => o) ?l ?h
  case h => conv => lhs; (conv => arg 1; whnf); whnf
noncomputable def f463 : Obj := by
  refine (fun (o : Obj) (_ : fo (me 20 6) (.ofString "NameDict.has_key") (.none) (.str (.ofString "dns.namedict") 730) 462 = o) => o) ?l ?h
  case h => conv => lhs; (conv => arg 1; whnf); whnf
noncomputable def f470 : Obj := by
  refine (fun (o : Obj) (_ : fo (me 20 7) (.ofString "NameDict.get_deepest_match") (.none) (.str (.ofString "dns.namedict") 730) 469 = o) => o) ?l ?h
  case h => conv => lhs; (conv => arg 1; whnf); whnf
noncomputable def f495 : Obj := by
  refine (fun (o : Obj) (_ : fo (st 24) (.ofString "_law_at") (.none) (.str (.ofString "law_ji0018_01") 830) 494 = o) => o) ?l ?h
  case h => conv => lhs; (conv => arg 1; whnf); whnf
noncomputable def f502 : Obj := by
  refine (fun (o : Obj) (_ : fo (st 25) (.ofString "_law_small") (.none) (.str (.ofString "law_ji0018_01") 830) 501 = o) => o) ?l ?h
  case h => conv => lhs; (conv => arg 1; whnf); whnf
noncomputable def f509 : Obj := by
  refine (fun (o : Obj) (_ : fo (st 26) (.ofString "_law_turned") (.none) (.str (.ofString "law_ji0018_01") 830) 508 = o) => o) ?l ?h
  case h => conv => lhs; (conv => arg 1; whnf); whnf
noncomputable def f516 : Obj := by
  refine (fun (o : Obj) (_ : fo (st 27) (.ofString "_law_fresh") (.none) (.str (.ofString "law_ji0018_01") 830) 515 = o) => o) ?l ?h
  case h => conv => lhs; (conv => arg 1; whnf); whnf
noncomputable def f523 : Obj := by
  refine (fun (o : Obj) (_ : fo (st 28) (.ofString "_law_drawn") (.none) (.str (.ofString "law_ji0018_01") 830) 522 = o) => o) ?l ?h
  case h => conv => lhs; (conv => arg 1; whnf); whnf
noncomputable def f528 : Obj := by
  refine (fun (o : Obj) (_ : fo (st 29) (.ofString "_law_name") (.none) (.str (.ofString "law_ji0018_01") 830) 527 = o) => o) ?l ?h
  case h => conv => lhs; (conv => arg 1; whnf); whnf
noncomputable def f535 : Obj := by
  refine (fun (o : Obj) (_ : fo (st 30) (.ofString "_law_spot") (.none) (.str (.ofString "law_ji0018_01") 830) 534 = o) => o) ?l ?h
  case h => conv => lhs; (conv => arg 1; whnf); whnf
noncomputable def f542 : Obj := by
  refine (fun (o : Obj) (_ : fo (st 31) (.ofString "_law_got") (.none) (.str (.ofString "law_ji0018_01") 830) 541 = o) => o) ?l ?h
  case h => conv => lhs; (conv => arg 1; whnf); whnf
noncomputable def f547 : Obj := by
  refine (fun (o : Obj) (_ : fo (st 32) (.ofString "_law_match") (.none) (.str (.ofString "law_ji0018_01") 830) 546 = o) => o) ?l ?h
  case h => conv => lhs; (conv => arg 1; whnf); whnf
noncomputable def f554 : Obj := by
  refine (fun (o : Obj) (_ : fo (st 33) (.ofString "_law_deepest") (.none) (.str (.ofString "law_ji0018_01") 830) 553 = o) => o) ?l ?h
  case h => conv => lhs; (conv => arg 1; whnf); whnf
noncomputable def f559 : Obj := by
  refine (fun (o : Obj) (_ : fo (st 34) (.ofString "_law_state") (.none) (.str (.ofString "law_ji0018_01") 830) 558 = o) => o) ?l ?h
  case h => conv => lhs; (conv => arg 1; whnf); whnf
noncomputable def f566 : Obj := by
  refine (fun (o : Obj) (_ : fo (st 35) (.ofString "_law_deed") (.none) (.str (.ofString "law_ji0018_01") 830) 565 = o) => o) ?l ?h
  case h => conv => lhs; (conv => arg 1; whnf); whnf
noncomputable def f573 : Obj := by
  refine (fun (o : Obj) (_ : fo (st 36) (.ofString "law") (.none) (.str (.ofString "law_ji0018_01") 830) 572 = o) => o) ?l ?h
  case h => conv => lhs; (conv => arg 1; whnf); whnf
noncomputable def topK : Params → Frag := fun P =>
  (nat_lit 2, { cls := .none, data := .dict #[{ hash := hk P (.ofString "type.__subclasses__.Exception.0"), key := .str (.ofString "type.__subclasses__.Exception.0") 212, val := .int 31 0 }, { hash := hk P (.ofString "type.__subclasses__.Exception.n"), key := .str (.ofString "type.__subclasses__.Exception.n") 213, val := .int 1 0 }] 2 }) ::
  (nat_lit 3, { cls := .type "dict", data := .dict #[{ hash := hk P (.ofString "__name__"), key := .str (.ofString "__name__") 165, val := .str (.ofString "law_ji0018_01") 830 }, { hash := hk P (.ofString "__doc__"), key := .str (.ofString "__doc__") 166, val := .none }, { hash := hk P (.ofString "__package__"), key := .str (.ofString "__package__") 167, val := .none }, { hash := hk P (.ofString "__loader__"), key := .str (.ofString "__loader__") 168, val := .builtin "__main__.__loader__#opaque" }, { hash := hk P (.ofString "__spec__"), key := .str (.ofString "__spec__") 169, val := .none }, { hash := hk P (.ofString "__annotations__"), key := .str (.ofString "__annotations__") 170, val := .ref 6 }, { hash := hk P (.ofString "__builtins__"), key := .str (.ofString "__builtins__") 171, val := .ref 4 }, { hash := hk P (.ofString "__file__"), key := .str (.ofString "__file__") 173, val := .str (.ofString "/claim/cut.py") 172 }, { hash := hk P (.ofString "__cached__"), key := .str (.ofString "__cached__") 174, val := .none }, { hash := hk P (.ofString "_wall"), key := .str (.ofString "_wall") 193, val := .ref 21 }, { hash := hk P (.ofString "DNSException"), key := .str (.ofString "DNSException") 215, val := .ref 31 }, { hash := hk P (.ofString "FormError"), key := .str (.ofString "FormError") 231, val := .ref 44 }, { hash := hk P (.ofString "DnsSyntaxError"), key := .str (.ofString "DnsSyntaxError") 247, val := .ref 56 }, { hash := hk P (.ofString "NameRelation"), key := .str (.ofString "NameRelation") 279, val := .ref 68 }, { hash := hk P (.ofString "EmptyLabel"), key := .str (.ofString "EmptyLabel") 295, val := .ref 82 }, { hash := hk P (.ofString "NameTooLong"), key := .str (.ofString "NameTooLong") 311, val := .ref 94 }, { hash := hk P (.ofString "LabelTooLong"), key := .str (.ofString "LabelTooLong") 327, val := .ref 106 }, { hash := hk P (.ofString "AbsoluteConcatenation"), key := .str (.ofString "AbsoluteConcatenation") 343, val := .ref 118 }, { hash := hk P (.ofString "_validate_labels"), key := .str (.ofString "_validate_labels") 356, val := .ref 127 }, { hash := hk P (.ofString "_maybe_convert_to_binary"), key := .str (.ofString "_maybe_convert_to_binary") 363, val := .ref 134 }, { hash := hk P (.ofString "Name"), key := .str (.ofString "Name") 631, val := .ref 351 }, { hash := hk P (.ofString "root"), key := .str (.ofString "root") 671, val := .ref 358 }, { hash := hk P (.ofString "empty"), key := .str (.ofString "empty") 691, val := .ref 374 }, { hash := hk P (.ofString "_MINIMAL_OCTET"), key := .str (.ofString "_MINIMAL_OCTET") 693, val := .bytes #[0] 692 }, { hash := hk P (.ofString "_SUCCESSOR_PREFIX"), key := .str (.ofString "_SUCCESSOR_PREFIX") 729, val := .ref 389 }, { hash := hk P (.ofString "_folded"), key := .str (.ofString "_folded") 737, val := .ref 407 }, { hash := hk P (.ofString "NameDict"), key := .str (.ofString "NameDict") 829, val := .ref 473 }, { hash := hk P (.ofString "LAW_LABELS"), key := .str (.ofString "LAW_LABELS") 843, val := .ref 487 }, { hash := hk P (.ofString "LAW_ROW"), key := .str (.ofString "LAW_ROW") 850, val := .ref 488 }, { hash := hk P (.ofString "_law_at"), key := .str (.ofString "_law_at") 858, val := .ref 495 }, { hash := hk P (.ofString "_law_small"), key := .str (.ofString "_law_small") 869, val := .ref 502 }, { hash := hk P (.ofString "_law_turned"), key := .str (.ofString "_law_turned") 880, val := .ref 509 }, { hash := hk P (.ofString "_law_fresh"), key := .str (.ofString "_law_fresh") 892, val := .ref 516 }, { hash := hk P (.ofString "_law_drawn"), key := .str (.ofString "_law_drawn") 903, val := .ref 523 }, { hash := hk P (.ofString "_law_name"), key := .str (.ofString "_law_name") 909, val := .ref 528 }, { hash := hk P (.ofString "_law_spot"), key := .str (.ofString "_law_spot") 919, val := .ref 535 }, { hash := hk P (.ofString "_law_got"), key := .str (.ofString "_law_got") 928, val := .ref 542 }, { hash := hk P (.ofString "_law_match"), key := .str (.ofString "_law_match") 934, val := .ref 547 }, { hash := hk P (.ofString "_law_deepest"), key := .str (.ofString "_law_deepest") 947, val := .ref 554 }, { hash := hk P (.ofString "_law_state"), key := .str (.ofString "_law_state") 953, val := .ref 559 }, { hash := hk P (.ofString "_law_deed"), key := .str (.ofString "_law_deed") 970, val := .ref 566 }, { hash := hk P (.ofString "law"), key := .str (.ofString "law") 985, val := .ref 573 }] 42 }) ::
  (nat_lit 15, { cls := .type "tuple", data := .seq #[] }) ::
  (nat_lit 17, { cls := .type "tuple", data := .seq #[.str (.ofString "k") 190] }) ::
  (nat_lit 18, { cls := .type "tuple", data := .seq #[] }) ::
  (nat_lit 20, { cls := .type "code", data := .fields #[.str (.ofString "_wall") 187, .str (.ofString "_wall") 188, .str (.ofString "/claim/cut.py") 189, .int 1 0, .int 1 0, .int 0 0, .int 0 0, .int 3 0, .ref 15, .bool true, .int 181 0, .ref 16, .none, .ref 17, .ref 18, .ref 19, .int 191 0, .int 1 0, .str (.ofString "/claim/cut.py") 192] }) ::
  (nat_lit 21, f21) ::
  (nat_lit 22, { cls := .type "tuple", data := .seq #[.type "Exception"] }) ::
  (nat_lit 29, { cls := .type "tuple", data := .seq #[] }) ::
  (nat_lit 30, { cls := .type "dict", data := .dict #[{ hash := hk P (.ofString "__module__"), key := .str (.ofString "__module__") 203, val := .str (.ofString "dns.exception") 194 }, { hash := hk P (.ofString "__firstlineno__"), key := .str (.ofString "__firstlineno__") 207, val := .int 5 206 }, { hash := hk P (.ofString "__static_attributes__"), key := .str (.ofString "__static_attributes__") 208, val := .ref 29 }, { hash := hk P (.ofString "__weakref__"), key := .str (.ofString "__weakref__") 210, val := .ref 32 }, { hash := hk P (.ofString "__doc__"), key := .str (.ofString "__doc__") 211, val := .none }] 3 }) ::
  (nat_lit 31, { cls := .type "type", data := .cls { name := .ofString "DNSException", bases := [.type "Exception"], mro := [.ref 31, .type "Exception", .type "BaseException", .type "object"], ns := 30, qualname := .ofString "DNSException", subclasses := [.ref 44, .ref 56, .ref 118] }, slots := #[some (.ref 22), none, some (.str (.ofString "DNSException") 196), some (.str (.ofString "DNSException") 204), some (.builtin "Exception.__new__"), some (.bool true)] }) ::
  (nat_lit 32, { cls := .type "getset_descriptor", data := .fields #[.str (.ofString "__weakref__") 209, .ref 31, .builtin "ExceptionGroup.__weakref__", .none] }) ::
  (nat_lit 35, { cls := .type "tuple", data := .seq #[.ref 31] }) ::
  (nat_lit 42, { cls := .type "tuple", data := .seq #[] }) ::
  (nat_lit 43, { cls := .type "dict", data := .dict #[{ hash := hk P (.ofString "__module__"), key := .str (.ofString "__module__") 223, val := .str (.ofString "dns.exception") 194 }, { hash := hk P (.ofString "__firstlineno__"), key := .str (.ofString "__firstlineno__") 227, val := .int 7 226 }, { hash := hk P (.ofString "__static_attributes__"), key := .str (.ofString "__static_attributes__") 228, val := .ref 42 }, { hash := hk P (.ofString "__doc__"), key := .str (.ofString "__doc__") 229, val := .none }] 2 }) ::
  (nat_lit 44, { cls := .type "type", data := .cls { name := .ofString "FormError", bases := [.ref 31], mro := [.ref 44, .ref 31, .type "Exception", .type "BaseException", .type "object"], ns := 43, qualname := .ofString "FormError", subclasses := [.ref 94] }, slots := #[some (.ref 35), none, some (.str (.ofString "FormError") 216), some (.str (.ofString "FormError") 224), some (.builtin "Exception.__new__"), some (.bool true)] }) ::
  (nat_lit 47, { cls := .type "tuple", data := .seq #[.ref 31] }) ::
  (nat_lit 54, { cls := .type "tuple", data := .seq #[] }) ::
  (nat_lit 55, { cls := .type "dict", data := .dict #[{ hash := hk P (.ofString "__module__"), key := .str (.ofString "__module__") 239, val := .str (.ofString "dns.exception") 194 }, { hash := hk P (.ofString "__firstlineno__"), key := .str (.ofString "__firstlineno__") 243, val := .int 9 242 }, { hash := hk P (.ofString "__static_attributes__"), key := .str (.ofString "__static_attributes__") 244, val := .ref 54 }, { hash := hk P (.ofString "__doc__"), key := .str (.ofString "__doc__") 245, val := .none }] 2 }) ::
  (nat_lit 56, { cls := .type "type", data := .cls { name := .ofString "DnsSyntaxError", bases := [.ref 31], mro := [.ref 56, .ref 31, .type "Exception", .type "BaseException", .type "object"], ns := 55, qualname := .ofString "DnsSyntaxError", subclasses := [.ref 82, .ref 106] }, slots := #[some (.ref 47), none, some (.str (.ofString "DnsSyntaxError") 232), some (.str (.ofString "DnsSyntaxError") 240), some (.builtin "Exception.__new__"), some (.bool true)] }) ::
  (nat_lit 66, { cls := .type "tuple", data := .seq #[] }) ::
  (nat_lit 67, { cls := .type "dict", data := .dict #[{ hash := hk P (.ofString "__module__"), key := .str (.ofString "__module__") 257, val := .str (.ofString "dns.name") 248 }, { hash := hk P (.ofString "__firstlineno__"), key := .str (.ofString "__firstlineno__") 261, val := .int 12 260 }, { hash := hk P (.ofString "NONE"), key := .str (.ofString "NONE") 263, val := .int 0 262 }, { hash := hk P (.ofString "SUPERDOMAIN"), key := .str (.ofString "SUPERDOMAIN") 265, val := .int 1 264 }, { hash := hk P (.ofString "SUBDOMAIN"), key := .str (.ofString "SUBDOMAIN") 267, val := .int 2 266 }, { hash := hk P (.ofString "EQUAL"), key := .str (.ofString "EQUAL") 269, val := .int 3 268 }, { hash := hk P (.ofString "COMMONANCESTOR"), key := .str (.ofString "COMMONANCESTOR") 271, val := .int 4 270 }, { hash := hk P (.ofString "__static_attributes__"), key := .str (.ofString "__static_attributes__") 272, val := .ref 66 }, { hash := hk P (.ofString "__dict__"), key := .str (.ofString "__dict__") 274, val := .ref 69 }, { hash := hk P (.ofString "__weakref__"), key := .str (.ofString "__weakref__") 276, val := .ref 70 }, { hash := hk P (.ofString "__doc__"), key := .str (.ofString "__doc__") 277, val := .none }] 4 }) ::
  (nat_lit 68, { cls := .type "type", data := .cls { name := .ofString "NameRelation", bases := [.type "object"], mro := [.ref 68, .type "object"], ns := 67, qualname := .ofString "NameRelation" }, slots := #[none, none, some (.str (.ofString "NameRelation") 250), some (.str (.ofString "NameRelation") 258), some (.builtin "object.__new__"), some (.bool true)] }) ::
  (nat_lit 69, { cls := .type "getset_descriptor", data := .fields #[.str (.ofString "__dict__") 273, .ref 68, .builtin "function.__dict__", .builtin "function.__dict__#set"] }) ::
  (nat_lit 70, { cls := .type "getset_descriptor", data := .fields #[.str (.ofString "__weakref__") 275, .ref 68, .builtin "ExceptionGroup.__weakref__", .none] }) ::
  (nat_lit 73, { cls := .type "tuple", data := .seq #[.ref 56] }) ::
  (nat_lit 80, { cls := .type "tuple", data := .seq #[] }) ::
  (nat_lit 81, { cls := .type "dict", data := .dict #[{ hash := hk P (.ofString "__module__"), key := .str (.ofString "__module__") 287, val := .str (.ofString "dns.name") 248 }, { hash := hk P (.ofString "__firstlineno__"), key := .str (.ofString "__firstlineno__") 291, val := .int 18 290 }, { hash := hk P (.ofString "__static_attributes__"), key := .str (.ofString "__static_attributes__") 292, val := .ref 80 }, { hash := hk P (.ofString "__doc__"), key := .str (.ofString "__doc__") 293, val := .none }] 2 }) ::
  (nat_lit 82, { cls := .type "type", data := .cls { name := .ofString "EmptyLabel", bases := [.ref 56], mro := [.ref 82, .ref 56, .ref 31, .type "Exception", .type "BaseException", .type "object"], ns := 81, qualname := .ofString "EmptyLabel" }, slots := #[some (.ref 73), none, some (.str (.ofString "EmptyLabel") 280), some (.str (.ofString "EmptyLabel") 288), some (.builtin "Exception.__new__"), some (.bool true)] }) ::
  (nat_lit 85, { cls := .type "tuple", data := .seq #[.ref 44] }) ::
  (nat_lit 92, { cls := .type "tuple", data := .seq #[] }) ::
  (nat_lit 93, { cls := .type "dict", data := .dict #[{ hash := hk P (.ofString "__module__"), key := .str (.ofString "__module__") 303, val := .str (.ofString "dns.name") 248 }, { hash := hk P (.ofString "__firstlineno__"), key := .str (.ofString "__firstlineno__") 307, val := .int 20 306 }, { hash := hk P (.ofString "__static_attributes__"), key := .str (.ofString "__static_attributes__") 308, val := .ref 92 }, { hash := hk P (.ofString "__doc__"), key := .str (.ofString "__doc__") 309, val := .none }] 2 }) ::
  (nat_lit 94, { cls := .type "type", data := .cls { name := .ofString "NameTooLong", bases := [.ref 44], mro := [.ref 94, .ref 44, .ref 31, .type "Exception", .type "BaseException", .type "object"], ns := 93, qualname := .ofString "NameTooLong" }, slots := #[some (.ref 85), none, some (.str (.ofString "NameTooLong") 296), some (.str (.ofString "NameTooLong") 304), some (.builtin "Exception.__new__"), some (.bool true)] }) ::
  (nat_lit 97, { cls := .type "tuple", data := .seq #[.ref 56] }) ::
  (nat_lit 104, { cls := .type "tuple", data := .seq #[] }) ::
  (nat_lit 105, { cls := .type "dict", data := .dict #[{ hash := hk P (.ofString "__module__"), key := .str (.ofString "__module__") 319, val := .str (.ofString "dns.name") 248 }, { hash := hk P (.ofString "__firstlineno__"), key := .str (.ofString "__firstlineno__") 323, val := .int 22 322 }, { hash := hk P (.ofString "__static_attributes__"), key := .str (.ofString "__static_attributes__") 324, val := .ref 104 }, { hash := hk P (.ofString "__doc__"), key := .str (.ofString "__doc__") 325, val := .none }] 2 }) ::
  (nat_lit 106, { cls := .type "type", data := .cls { name := .ofString "LabelTooLong", bases := [.ref 56], mro := [.ref 106, .ref 56, .ref 31, .type "Exception", .type "BaseException", .type "object"], ns := 105, qualname := .ofString "LabelTooLong" }, slots := #[some (.ref 97), none, some (.str (.ofString "LabelTooLong") 312), some (.str (.ofString "LabelTooLong") 320), some (.builtin "Exception.__new__"), some (.bool true)] }) ::
  (nat_lit 109, { cls := .type "tuple", data := .seq #[.ref 31] }) ::
  (nat_lit 116, { cls := .type "tuple", data := .seq #[] }) ::
  (nat_lit 117, { cls := .type "dict", data := .dict #[{ hash := hk P (.ofString "__module__"), key := .str (.ofString "__module__") 335, val := .str (.ofString "dns.name") 248 }, { hash := hk P (.ofString "__firstlineno__"), key := .str (.ofString "__firstlineno__") 339, val := .int 24 338 }, { hash := hk P (.ofString "__static_attributes__"), key := .str (.ofString "__static_attributes__") 340, val := .ref 116 }, { hash := hk P (.ofString "__doc__"), key := .str (.ofString "__doc__") 341, val := .none }] 2 }) ::
  (nat_lit 118, { cls := .type "type", data := .cls { name := .ofString "AbsoluteConcatenation", bases := [.ref 31], mro := [.ref 118, .ref 31, .type "Exception", .type "BaseException", .type "object"], ns := 117, qualname := .ofString "AbsoluteConcatenation" }, slots := #[some (.ref 109), none, some (.str (.ofString "AbsoluteConcatenation") 328), some (.str (.ofString "AbsoluteConcatenation") 336), some (.builtin "Exception.__new__"), some (.bool true)] }) ::
  (nat_lit 121, { cls := .type "tuple", data := .seq #[] }) ::
  (nat_lit 123, { cls := .type "tuple", data := .seq #[.str (.ofString "labels") 347, .str (.ofString "l") 348, .str (.ofString "total") 349, .str (.ofString "i") 350, .str (.ofString "j") 351, .str (.ofString "label") 352, .str (.ofString "ll") 353] }) ::
  (nat_lit 124, { cls := .type "tuple", data := .seq #[] }) ::
  (nat_lit 126, { cls := .type "code", data := .fields #[.str (.ofString "_validate_labels") 344, .str (.ofString "_validate_labels") 345, .str (.ofString "/claim/cut.py") 346, .int 26 0, .int 1 0, .int 0 0, .int 0 0, .int 3 0, .ref 121, .bool true, .int 181 0, .ref 122, .none, .ref 123, .ref 124, .ref 125, .int 354 0, .int 26 0, .str (.ofString "/claim/cut.py") 355] }) ::
  (nat_lit 127, f127) ::
  (nat_lit 128, { cls := .type "tuple", data := .seq #[] }) ::
  (nat_lit 130, { cls := .type "tuple", data := .seq #[.str (.ofString "label") 360] }) ::
  (nat_lit 131, { cls := .type "tuple", data := .seq #[] }) ::
  (nat_lit 133, { cls := .type "code", data := .fields #[.str (.ofString "_maybe_convert_to_binary") 357, .str (.ofString "_maybe_convert_to_binary") 358, .str (.ofString "/claim/cut.py") 359, .int 43 0, .int 1 0, .int 0 0, .int 0 0, .int 3 0, .ref 128, .bool true, .int 181 0, .ref 129, .none, .ref 130, .ref 131, .ref 132, .int 361 0, .int 43 0, .str (.ofString "/claim/cut.py") 362] }) ::
  (nat_lit 134, f134) ::
  (nat_lit 142, { cls := .type "tuple", data := .seq #[] }) ::
  (nat_lit 145, { cls := .type "code", data := .fields #[.str (.ofString "__init__") 376, .str (.ofString "Name.__init__") 377, .str (.ofString "/claim/cut.py") 378, .int 50 0, .int 2 0, .int 0 0, .int 0 0, .int 3 0, .ref 142, .bool true, .int 181 0, .ref 143, .none, .none, .none, .ref 144, .int 379 0, .int 50 0, .str (.ofString "/claim/cut.py") 380] }) ::
  (nat_lit 146, f146) ::
  (nat_lit 147, { cls := .type "tuple", data := .seq #[] }) ::
  (nat_lit 149, { cls := .type "tuple", data := .seq #[.str (.ofString "self") 385] }) ::
  (nat_lit 150, { cls := .type "tuple", data := .seq #[] }) ::
  (nat_lit 152, { cls := .type "code", data := .fields #[.str (.ofString "is_absolute") 382, .str (.ofString "Name.is_absolute") 383, .str (.ofString "/claim/cut.py") 384, .int 55 0, .int 1 0, .int 0 0, .int 0 0, .int 3 0, .ref 147, .bool true, .int 181 0, .ref 148, .none, .ref 149, .ref 150, .ref 151, .int 386 0, .int 55 0, .str (.ofString "/claim/cut.py") 387] }) ::
  (nat_lit 153, f153) ::
  (nat_lit 154, { cls := .type "tuple", data := .seq #[] }) ::
  (nat_lit 156, { cls := .type "tuple", data := .seq #[.str (.ofString "self") 392] }) ::
  (nat_lit 157, { cls := .type "tuple", data := .seq #[] }) ::
  (nat_lit 159, { cls := .type "code", data := .fields #[.str (.ofString "is_wild") 389, .str (.ofString "Name.is_wild") 390, .str (.ofString "/claim/cut.py") 391, .int 58 0, .int 1 0, .int 0 0, .int 0 0, .int 3 0, .ref 154, .bool true, .int 181 0, .ref 155, .none, .ref 156, .ref 157, .ref 158, .int 393 0, .int 58 0, .str (.ofString "/claim/cut.py") 394] }) ::
  (nat_lit 160, f160) ::
  (nat_lit 161, { cls := .type "tuple", data := .seq #[] }) ::
  (nat_lit 163, { cls := .type "tuple", data := .seq #[.str (.ofString "self") 399, .str (.ofString "other") 400, .str (.ofString "sabs") 401, .str (.ofString "oabs") 402, .str (.ofString "l1") 403, .str (.ofString "l2") 404, .str (.ofString "ldiff") 405, .str (.ofString "l") 406, .str (.ofString "order") 407, .str (.ofString "nlabels") 408, .str (.ofString "namereln") 409, .str (.ofString "label1") 410, .str (.ofString "label2") 411] }) ::
  (nat_lit 164, { cls := .type "tuple", data := .seq #[] }) ::
  (nat_lit 166, { cls := .type "code", data := .fields #[.str (.ofString "fullcompare") 396, .str (.ofString "Name.fullcompare") 397, .str (.ofString "/claim/cut.py") 398, .int 61 0, .int 2 0, .int 0 0, .int 0 0, .int 3 0, .ref 161, .bool true, .int 181 0, .ref 162, .none, .ref 163, .ref 164, .ref 165, .int 412 0, .int 61 0, .str (.ofString "/claim/cut.py") 413] }) ::
  (nat_lit 167, f167) ::
  (nat_lit 168, { cls := .type "tuple", data := .seq #[] }) ::
  (nat_lit 170, { cls := .type "tuple", data := .seq #[.str (.ofString "self") 418, .str (.ofString "other") 419, .str (.ofString "nr") 420, .str (.ofString "_") 421] }) ::
  (nat_lit 171, { cls := .type "tuple", data := .seq #[] }) ::
  (nat_lit 173, { cls := .type "code", data := .fields #[.str (.ofString "is_subdomain") 415, .str (.ofString "Name.is_subdomain") 416, .str (.ofString "/claim/cut.py") 417, .int 105 0, .int 2 0, .int 0 0, .int 0 0, .int 3 0, .ref 168, .bool true, .int 181 0, .ref 169, .none, .ref 170, .ref 171, .ref 172, .int 422 0, .int 105 0, .str (.ofString "/claim/cut.py") 423] }) ::
  (nat_lit 174, f174) ::
  (nat_lit 175, { cls := .type "tuple", data := .seq #[] }) ::
  (nat_lit 177, { cls := .type "tuple", data := .seq #[.str (.ofString "self") 428, .str (.ofString "other") 429] }) ::
  (nat_lit 178, { cls := .type "tuple", data := .seq #[] }) ::
  (nat_lit 180, { cls := .type "code", data := .fields #[.str (.ofString "is_superdomain") 425, .str (.ofString "Name.is_superdomain") 426, .str (.ofString "/claim/cut.py") 427, .int 111 0, .int 2 0, .int 0 0, .int 0 0, .int 3 0, .ref 175, .bool true, .int 181 0, .ref 176, .none, .ref 177, .ref 178, .ref 179, .int 430 0, .int 111 0, .str (.ofString "/claim/cut.py") 431] }) ::
  (nat_lit 181, f181) ::
  (nat_lit 182, { cls := .type "tuple", data := .seq #[] }) ::
  (nat_lit 184, { cls := .type "tuple", data := .seq #[.str (.ofString "self") 436] }) ::
  (nat_lit 185, { cls := .type "tuple", data := .seq #[] }) ::
  (nat_lit 187, { cls := .type "code", data := .fields #[.str (.ofString "canonicalize") 433, .str (.ofString "Name.canonicalize") 434, .str (.ofString "/claim/cut.py") 435, .int 114 0, .int 1 0, .int 0 0, .int 0 0, .int 3 0, .ref 182, .bool true, .int 181 0, .ref 183, .none, .ref 184, .ref 185, .ref 186, .int 437 0, .int 114 0, .str (.ofString "/claim/cut.py") 438] }) ::
  (nat_lit 188, f188) ::
  (nat_lit 189, { cls := .type "tuple", data := .seq #[] }) ::
  (nat_lit 191, { cls := .type "tuple", data := .seq #[.str (.ofString "self") 443, .str (.ofString "other") 444] }) ::
  (nat_lit 192, { cls := .type "tuple", data := .seq #[] }) ::
  (nat_lit 194, { cls := .type "code", data := .fields #[.str (.ofString "__eq__") 440, .str (.ofString "Name.__eq__") 441, .str (.ofString "/claim/cut.py") 442, .int 117 0, .int 2 0, .int 0 0, .int 0 0, .int 3 0, .ref 189, .bool true, .int 181 0, .ref 190, .none, .ref 191, .ref 192, .ref 193, .int 445 0, .int 117 0, .str (.ofString "/claim/cut.py") 446] }) ::
  (nat_lit 195, f195) ::
  (nat_lit 196, { cls := .type "tuple", data := .seq #[] }) ::
  (nat_lit 198, { cls := .type "tuple", data := .seq #[.str (.ofString "self") 451, .str (.ofString "other") 452] }) ::
  (nat_lit 199, { cls := .type "tuple", data := .seq #[] }) ::
  (nat_lit 201, { cls := .type "code", data := .fields #[.str (.ofString "__ne__") 448, .str (.ofString "Name.__ne__") 449, .str (.ofString "/claim/cut.py") 450, .int 123 0, .int 2 0, .int 0 0, .int 0 0, .int 3 0, .ref 196, .bool true, .int 181 0, .ref 197, .none, .ref 198, .ref 199, .ref 200, .int 453 0, .int 123 0, .str (.ofString "/claim/cut.py") 454] }) ::
  (nat_lit 202, f202) ::
  (nat_lit 203, { cls := .type "tuple", data := .seq #[] }) ::
  (nat_lit 205, { cls := .type "tuple", data := .seq #[.str (.ofString "self") 459, .str (.ofString "other") 460] }) ::
  (nat_lit 206, { cls := .type "tuple", data := .seq #[] }) ::
  (nat_lit 208, { cls := .type "code", data := .fields #[.str (.ofString "__lt__") 456, .str (.ofString "Name.__lt__") 457, .str (.ofString "/claim/cut.py") 458, .int 129 0, .int 2 0, .int 0 0, .int 0 0, .int 3 0, .ref 203, .bool true, .int 181 0, .ref 204, .none, .ref 205, .ref 206, .ref 207, .int 461 0, .int 129 0, .str (.ofString "/claim/cut.py") 462] }) ::
  (nat_lit 209, f209) ::
  (nat_lit 210, { cls := .type "tuple", data := .seq #[] }) ::
  (nat_lit 212, { cls := .type "tuple", data := .seq #[.str (.ofString "self") 467, .str (.ofString "other") 468] }) ::
  (nat_lit 213, { cls := .type "tuple", data := .seq #[] }) ::
  (nat_lit 215, { cls := .type "code", data := .fields #[.str (.ofString "__le__") 464, .str (.ofString "Name.__le__") 465, .str (.ofString "/claim/cut.py") 466, .int 135 0, .int 2 0, .int 0 0, .int 0 0, .int 3 0, .ref 210, .bool true, .int 181 0, .ref 211, .none, .ref 212, .ref 213, .ref 214, .int 469 0, .int 135 0, .str (.ofString "/claim/cut.py") 470] }) ::
  (nat_lit 216, f216) ::
  (nat_lit 217, { cls := .type "tuple", data := .seq #[] }) ::
  (nat_lit 219, { cls := .type "tuple", data := .seq #[.str (.ofString "self") 475, .str (.ofString "other") 476] }) ::
  (nat_lit 220, { cls := .type "tuple", data := .seq #[] }) ::
  (nat_lit 222, { cls := .type "code", data := .fields #[.str (.ofString "__ge__") 472, .str (.ofString "Name.__ge__") 473, .str (.ofString "/claim/cut.py") 474, .int 141 0, .int 2 0, .int 0 0, .int 0 0, .int 3 0, .ref 217, .bool true, .int 181 0, .ref 218, .none, .ref 219, .ref 220, .ref 221, .int 477 0, .int 141 0, .str (.ofString "/claim/cut.py") 478] }) ::
  (nat_lit 223, f223) ::
  (nat_lit 224, { cls := .type "tuple", data := .seq #[] }) ::
  (nat_lit 226, { cls := .type "tuple", data := .seq #[.str (.ofString "self") 483, .str (.ofString "other") 484] }) ::
  (nat_lit 227, { cls := .type "tuple", data := .seq #[] }) ::
  (nat_lit 229, { cls := .type "code", data := .fields #[.str (.ofString "__gt__") 480, .str (.ofString "Name.__gt__") 481, .str (.ofString "/claim/cut.py") 482, .int 147 0, .int 2 0, .int 0 0, .int 0 0, .int 3 0, .ref 224, .bool true, .int 181 0, .ref 225, .none, .ref 226, .ref 227, .ref 228, .int 485 0, .int 147 0, .str (.ofString "/claim/cut.py") 486] }) ::
  (nat_lit 230, f230) ::
  (nat_lit 231, { cls := .type "tuple", data := .seq #[.bool false, .none] }) ::
  (nat_lit 232, { cls := .type "tuple", data := .seq #[] }) ::
  (nat_lit 234, { cls := .type "tuple", data := .seq #[.str (.ofString "self") 491, .str (.ofString "omit_final_dot") 492, .str (.ofString "style") 493] }) ::
  (nat_lit 235, { cls := .type "tuple", data := .seq #[] }) ::
  (nat_lit 237, { cls := .type "code", data := .fields #[.str (.ofString "to_text") 488, .str (.ofString "Name.to_text") 489, .str (.ofString "/claim/cut.py") 490, .int 153 0, .int 3 0, .int 0 0, .int 0 0, .int 3 0, .ref 232, .bool true, .int 181 0, .ref 233, .none, .ref 234, .ref 235, .ref 236, .int 494 0, .int 153 0, .str (.ofString "/claim/cut.py") 495] }) ::
  (nat_lit 238, f238) ::
  (nat_lit 239, { cls := .type "tuple", data := .seq #[] }) ::
  (nat_lit 241, { cls := .type "tuple", data := .seq #[.str (.ofString "self") 500, .str (.ofString "style") 501] }) ::
  (nat_lit 242, { cls := .type "tuple", data := .seq #[] }) ::
  (nat_lit 244, { cls := .type "code", data := .fields #[.str (.ofString "to_styled_text") 497, .str (.ofString "Name.to_styled_text") 498, .str (.ofString "/claim/cut.py") 499, .int 156 0, .int 2 0, .int 0 0, .int 0 0, .int 3 0, .ref 239, .bool true, .int 181 0, .ref 240, .none, .ref 241, .ref 242, .ref 243, .int 502 0, .int 156 0, .str (.ofString "/claim/cut.py") 503] }) ::
  (nat_lit 245, f245) ::
  (nat_lit 246, { cls := .type "tuple", data := .seq #[.none] }) ::
  (nat_lit 247, { cls := .type "tuple", data := .seq #[] }) ::
  (nat_lit 249, { cls := .type "tuple", data := .seq #[.str (.ofString "self") 508, .str (.ofString "origin") 509] }) ::
  (nat_lit 250, { cls := .type "tuple", data := .seq #[] }) ::
  (nat_lit 252, { cls := .type "code", data := .fields #[.str (.ofString "to_digestable") 505, .str (.ofString "Name.to_digestable") 506, .str (.ofString "/claim/cut.py") 507, .int 159 0, .int 2 0, .int 0 0, .int 0 0, .int 3 0, .ref 247, .bool true, .int 181 0, .ref 248, .none, .ref 249, .ref 250, .ref 251, .int 510 0, .int 159 0, .str (.ofString "/claim/cut.py") 511] }) ::
  (nat_lit 253, f253) ::
  (nat_lit 254, { cls := .type "tuple", data := .seq #[.none, .none, .none, .bool false] }) ::
  (nat_lit 255, { cls := .type "tuple", data := .seq #[] }) ::
  (nat_lit 257, { cls := .type "tuple", data := .seq #[.str (.ofString "self") 516, .str (.ofString "file") 517, .str (.ofString "compress") 518, .str (.ofString "origin") 519, .str (.ofString "canonicalize") 520] }) ::
  (nat_lit 258, { cls := .type "tuple", data := .seq #[] }) ::
  (nat_lit 260, { cls := .type "code", data := .fields #[.str (.ofString "to_wire") 513, .str (.ofString "Name.to_wire") 514, .str (.ofString "/claim/cut.py") 515, .int 162 0, .int 5 0, .int 0 0, .int 0 0, .int 3 0, .ref 255, .bool true, .int 181 0, .ref 256, .none, .ref 257, .ref 258, .ref 259, .int 521 0, .int 162 0, .str (.ofString "/claim/cut.py") 522] }) ::
  (nat_lit 261, f261) ::
  (nat_lit 262, { cls := .type "tuple", data := .seq #[] }) ::
  (nat_lit 264, { cls := .type "tuple", data := .seq #[.str (.ofString "self") 527] }) ::
  (nat_lit 265, { cls := .type "tuple", data := .seq #[] }) ::
  (nat_lit 267, { cls := .type "code", data := .fields #[.str (.ofString "__len__") 524, .str (.ofString "Name.__len__") 525, .str (.ofString "/claim/cut.py") 526, .int 165 0, .int 1 0, .int 0 0, .int 0 0, .int 3 0, .ref 262, .bool true, .int 181 0, .ref 263, .none, .ref 264, .ref 265, .ref 266, .int 528 0, .int 165 0, .str (.ofString "/claim/cut.py") 529] }) ::
  (nat_lit 268, f268) ::
  (nat_lit 269, { cls := .type "tuple", data := .seq #[] }) ::
  (nat_lit 271, { cls := .type "tuple", data := .seq #[.str (.ofString "self") 534, .str (.ofString "index") 535] }) ::
  (nat_lit 272, { cls := .type "tuple", data := .seq #[] }) ::
  (nat_lit 274, { cls := .type "code", data := .fields #[.str (.ofString "__getitem__") 531, .str (.ofString "Name.__getitem__") 532, .str (.ofString "/claim/cut.py") 533, .int 168 0, .int 2 0, .int 0 0, .int 0 0, .int 3 0, .ref 269, .bool true, .int 181 0, .ref 270, .none, .ref 271, .ref 272, .ref 273, .int 536 0, .int 168 0, .str (.ofString "/claim/cut.py") 537] }) ::
  (nat_lit 275, f275) ::
  (nat_lit 276, { cls := .type "tuple", data := .seq #[] }) ::
  (nat_lit 278, { cls := .type "tuple", data := .seq #[.str (.ofString "self") 542, .str (.ofString "other") 543] }) ::
  (nat_lit 279, { cls := .type "tuple", data := .seq #[] }) ::
  (nat_lit 281, { cls := .type "code", data := .fields #[.str (.ofString "__add__") 539, .str (.ofString "Name.__add__") 540, .str (.ofString "/claim/cut.py") 541, .int 171 0, .int 2 0, .int 0 0, .int 0 0, .int 3 0, .ref 276, .bool true, .int 181 0, .ref 277, .none, .ref 278, .ref 279, .ref 280, .int 544 0, .int 171 0, .str (.ofString "/claim/cut.py") 545] }) ::
  (nat_lit 282, f282) ::
  (nat_lit 283, { cls := .type "tuple", data := .seq #[] }) ::
  (nat_lit 285, { cls := .type "tuple", data := .seq #[.str (.ofString "self") 550, .str (.ofString "other") 551] }) ::
  (nat_lit 286, { cls := .type "tuple", data := .seq #[] }) ::
  (nat_lit 288, { cls := .type "code", data := .fields #[.str (.ofString "__sub__") 547, .str (.ofString "Name.__sub__") 548, .str (.ofString "/claim/cut.py") 549, .int 174 0, .int 2 0, .int 0 0, .int 0 0, .int 3 0, .ref 283, .bool true, .int 181 0, .ref 284, .none, .ref 285, .ref 286, .ref 287, .int 552 0, .int 174 0, .str (.ofString "/claim/cut.py") 553] }) ::
  (nat_lit 289, f289) ::
  (nat_lit 290, { cls := .type "tuple", data := .seq #[] }) ::
  (nat_lit 292, { cls := .type "tuple", data := .seq #[.str (.ofString "self") 558, .str (.ofString "depth") 559] }) ::
  (nat_lit 293, { cls := .type "tuple", data := .seq #[] }) ::
  (nat_lit 295, { cls := .type "code", data := .fields #[.str (.ofString "split") 555, .str (.ofString "Name.split") 556, .str (.ofString "/claim/cut.py") 557, .int 177 0, .int 2 0, .int 0 0, .int 0 0, .int 3 0, .ref 290, .bool true, .int 181 0, .ref 291, .none, .ref 292, .ref 293, .ref 294, .int 560 0, .int 177 0, .str (.ofString "/claim/cut.py") 561] }) ::
  (nat_lit 296, f296) ::
  (nat_lit 297, { cls := .type "tuple", data := .seq #[] }) ::
  (nat_lit 299, { cls := .type "tuple", data := .seq #[.str (.ofString "self") 566, .str (.ofString "other") 567, .str (.ofString "labels") 568] }) ::
  (nat_lit 300, { cls := .type "tuple", data := .seq #[] }) ::
  (nat_lit 302, { cls := .type "code", data := .fields #[.str (.ofString "concatenate") 563, .str (.ofString "Name.concatenate") 564, .str (.ofString "/claim/cut.py") 565, .int 180 0, .int 2 0, .int 0 0, .int 0 0, .int 3 0, .ref 297, .bool true, .int 181 0, .ref 298, .none, .ref 299, .ref 300, .ref 301, .int 569 0, .int 180 0, .str (.ofString "/claim/cut.py") 570] }) ::
  (nat_lit 303, f303) ::
  (nat_lit 304, { cls := .type "tuple", data := .seq #[] }) ::
  (nat_lit 306, { cls := .type "tuple", data := .seq #[.str (.ofString "self") 575, .str (.ofString "origin") 576] }) ::
  (nat_lit 307, { cls := .type "tuple", data := .seq #[] }) ::
  (nat_lit 309, { cls := .type "code", data := .fields #[.str (.ofString "relativize") 572, .str (.ofString "Name.relativize") 573, .str (.ofString "/claim/cut.py") 574, .int 187 0, .int 2 0, .int 0 0, .int 0 0, .int 3 0, .ref 304, .bool true, .int 181 0, .ref 305, .none, .ref 306, .ref 307, .ref 308, .int 577 0, .int 187 0, .str (.ofString "/claim/cut.py") 578] }) ::
  (nat_lit 310, f310) ::
  (nat_lit 311, { cls := .type "tuple", data := .seq #[] }) ::
  (nat_lit 313, { cls := .type "tuple", data := .seq #[.str (.ofString "self") 583, .str (.ofString "origin") 584] }) ::
  (nat_lit 314, { cls := .type "tuple", data := .seq #[] }) ::
  (nat_lit 316, { cls := .type "code", data := .fields #[.str (.ofString "derelativize") 580, .str (.ofString "Name.derelativize") 581, .str (.ofString "/claim/cut.py") 582, .int 193 0, .int 2 0, .int 0 0, .int 0 0, .int 3 0, .ref 311, .bool true, .int 181 0, .ref 312, .none, .ref 313, .ref 314, .ref 315, .int 585 0, .int 193 0, .str (.ofString "/claim/cut.py") 586] }) ::
  (nat_lit 317, f317) ::
  (nat_lit 318, { cls := .type "tuple", data := .seq #[.none, .bool true] }) ::
  (nat_lit 319, { cls := .type "tuple", data := .seq #[] }) ::
  (nat_lit 321, { cls := .type "tuple", data := .seq #[.str (.ofString "self") 591, .str (.ofString "origin") 592, .str (.ofString "relativize") 593] }) ::
  (nat_lit 322, { cls := .type "tuple", data := .seq #[] }) ::
  (nat_lit 324, { cls := .type "code", data := .fields #[.str (.ofString "choose_relativity") 588, .str (.ofString "Name.choose_relativity") 589, .str (.ofString "/claim/cut.py") 590, .int 196 0, .int 3 0, .int 0 0, .int 0 0, .int 3 0, .ref 319, .bool true, .int 181 0, .ref 320, .none, .ref 321, .ref 322, .ref 323, .int 594 0, .int 196 0, .str (.ofString "/claim/cut.py") 595] }) ::
  (nat_lit 325, f325) ::
  (nat_lit 326, { cls := .type "tuple", data := .seq #[] }) ::
  (nat_lit 328, { cls := .type "tuple", data := .seq #[.str (.ofString "self") 600] }) ::
  (nat_lit 329, { cls := .type "tuple", data := .seq #[] }) ::
  (nat_lit 331, { cls := .type "code", data := .fields #[.str (.ofString "parent") 597, .str (.ofString "Name.parent") 598, .str (.ofString "/claim/cut.py") 599, .int 199 0, .int 1 0, .int 0 0, .int 0 0, .int 3 0, .ref 326, .bool true, .int 181 0, .ref 327, .none, .ref 328, .ref 329, .ref 330, .int 601 0, .int 199 0, .str (.ofString "/claim/cut.py") 602] }) ::
  (nat_lit 332, f332) ::
  (nat_lit 333, { cls := .type "tuple", data := .seq #[.bool true] }) ::
  (nat_lit 334, { cls := .type "tuple", data := .seq #[] }) ::
  (nat_lit 336, { cls := .type "tuple", data := .seq #[.str (.ofString "self") 607, .str (.ofString "origin") 608, .str (.ofString "prefix_ok") 609] }) ::
  (nat_lit 337, { cls := .type "tuple", data := .seq #[] }) ::
  (nat_lit 339, { cls := .type "code", data := .fields #[.str (.ofString "predecessor") 604, .str (.ofString "Name.predecessor") 605, .str (.ofString "/claim/cut.py") 606, .int 202 0, .int 3 0, .int 0 0, .int 0 0, .int 3 0, .ref 334, .bool true, .int 181 0, .ref 335, .none, .ref 336, .ref 337, .ref 338, .int 610 0, .int 202 0, .str (.ofString "/claim/cut.py") 611] }) ::
  (nat_lit 340, f340) ::
  (nat_lit 341, { cls := .type "tuple", data := .seq #[.bool true] }) ::
  (nat_lit 342, { cls := .type "tuple", data := .seq #[] }) ::
  (nat_lit 344, { cls := .type "tuple", data := .seq #[.str (.ofString "self") 616, .str (.ofString "origin") 617, .str (.ofString "prefix_ok") 618] }) ::
  (nat_lit 345, { cls := .type "tuple", data := .seq #[] }) ::
  (nat_lit 347, { cls := .type "code", data := .fields #[.str (.ofString "successor") 613, .str (.ofString "Name.successor") 614, .str (.ofString "/claim/cut.py") 615, .int 205 0, .int 3 0, .int 0 0, .int 0 0, .int 3 0, .ref 342, .bool true, .int 181 0, .ref 343, .none, .ref 344, .ref 345, .ref 346, .int 619 0, .int 205 0, .str (.ofString "/claim/cut.py") 620] }) ::
  (nat_lit 348, f348) ::
  (nat_lit 349, { cls := .type "tuple", data := .seq #[.str (.ofString "labels") 622] }) ::
  (nat_lit 350, { cls := .type "dict", data := .dict #[{ hash := hk P (.ofString "__module__"), key := .str (.ofString "__module__") 371, val := .str (.ofString "dns.name") 248 }, { hash := hk P (.ofString "__firstlineno__"), key := .str (.ofString "__firstlineno__") 375, val := .int 48 374 }, { hash := hk P (.ofString "__init__"), key := .str (.ofString "__init__") 381, val := .ref 146 }, { hash := hk P (.ofString "is_absolute"), key := .str (.ofString "is_absolute") 388, val := .ref 153 }, { hash := hk P (.ofString "is_wild"), key := .str (.ofString "is_wild") 395, val := .ref 160 }, { hash := hk P (.ofString "fullcompare"), key := .str (.ofString "fullcompare") 414, val := .ref 167 }, { hash := hk P (.ofString "is_subdomain"), key := .str (.ofString "is_subdomain") 424, val := .ref 174 }, { hash := hk P (.ofString "is_superdomain"), key := .str (.ofString "is_superdomain") 432, val := .ref 181 }, { hash := hk P (.ofString "canonicalize"), key := .str (.ofString "canonicalize") 439, val := .ref 188 }, { hash := hk P (.ofString "__eq__"), key := .str (.ofString "__eq__") 447, val := .ref 195 }, { hash := hk P (.ofString "__ne__"), key := .str (.ofString "__ne__") 455, val := .ref 202 }, { hash := hk P (.ofString "__lt__"), key := .str (.ofString "__lt__") 463, val := .ref 209 }, { hash := hk P (.ofString "__le__"), key := .str (.ofString "__le__") 471, val := .ref 216 }, { hash := hk P (.ofString "__ge__"), key := .str (.ofString "__ge__") 479, val := .ref 223 }, { hash := hk P (.ofString "__gt__"), key := .str (.ofString "__gt__") 487, val := .ref 230 }, { hash := hk P (.ofString "to_text"), key := .str (.ofString "to_text") 496, val := .ref 238 }, { hash := hk P (.ofString "to_styled_text"), key := .str (.ofString "to_styled_text") 504, val := .ref 245 }, { hash := hk P (.ofString "to_digestable"), key := .str (.ofString "to_digestable") 512, val := .ref 253 }, { hash := hk P (.ofString "to_wire"), key := .str (.ofString "to_wire") 523, val := .ref 261 }, { hash := hk P (.ofString "__len__"), key := .str (.ofString "__len__") 530, val := .ref 268 }, { hash := hk P (.ofString "__getitem__"), key := .str (.ofString "__getitem__") 538, val := .ref 275 }, { hash := hk P (.ofString "__add__"), key := .str (.ofString "__add__") 546, val := .ref 282 }, { hash := hk P (.ofString "__sub__"), key := .str (.ofString "__sub__") 554, val := .ref 289 }, { hash := hk P (.ofString "split"), key := .str (.ofString "split") 562, val := .ref 296 }, { hash := hk P (.ofString "concatenate"), key := .str (.ofString "concatenate") 571, val := .ref 303 }, { hash := hk P (.ofString "relativize"), key := .str (.ofString "relativize") 579, val := .ref 310 }, { hash := hk P (.ofString "derelativize"), key := .str (.ofString "derelativize") 587, val := .ref 317 }, { hash := hk P (.ofString "choose_relativity"), key := .str (.ofString "choose_relativity") 596, val := .ref 325 }, { hash := hk P (.ofString "parent"), key := .str (.ofString "parent") 603, val := .ref 332 }, { hash := hk P (.ofString "predecessor"), key := .str (.ofString "predecessor") 612, val := .ref 340 }, { hash := hk P (.ofString "successor"), key := .str (.ofString "successor") 621, val := .ref 348 }, { hash := hk P (.ofString "__static_attributes__"), key := .str (.ofString "__static_attributes__") 623, val := .ref 349 }, { hash := hk P (.ofString "__dict__"), key := .str (.ofString "__dict__") 625, val := .ref 352 }, { hash := hk P (.ofString "__weakref__"), key := .str (.ofString "__weakref__") 627, val := .ref 353 }, { hash := hk P (.ofString "__doc__"), key := .str (.ofString "__doc__") 628, val := .none }, { hash := hk P (.ofString "__hash__"), key := .str (.ofString "__hash__") 629, val := .none }] 5 }) ::
  (nat_lit 351, { cls := .type "type", data := .cls { name := .ofString "Name", bases := [.type "object"], mro := [.ref 351, .type "object"], ns := 350, qualname := .ofString "Name" }, slots := #[none, none, some (.str (.ofString "Name") 364), some (.str (.ofString "Name") 372), some (.builtin "object.__new__"), some (.bool true)] }) ::
  (nat_lit 352, { cls := .type "getset_descriptor", data := .fields #[.str (.ofString "__dict__") 624, .ref 351, .builtin "function.__dict__", .builtin "function.__dict__#set"] }) ::
  (nat_lit 353, { cls := .type "getset_descriptor", data := .fields #[.str (.ofString "__weakref__") 626, .ref 351, .builtin "ExceptionGroup.__weakref__", .none] }) ::
  (nat_lit 373, { cls := .type "dict", data := .dict #[{ hash := hk P (.ofString "labels"), key := .str (.ofString "labels") 676, val := .ref 382 }] 1 }) ::
  (nat_lit 374, { cls := .ref 351, dict := some 373 }) ::
  (nat_lit 382, { cls := .type "tuple", data := .seq #[] }) ::
  (nat_lit 403, { cls := .type "tuple", data := .seq #[] }) ::
  (nat_lit 406, { cls := .type "code", data := .fields #[.str (.ofString "_folded") 732, .str (.ofString "_folded") 733, .str (.ofString "/claim/cut.py") 734, .int 212 0, .int 1 0, .int 0 0, .int 0 0, .int 3 0, .ref 403, .bool true, .int 181 0, .ref 404, .none, .none, .none, .ref 405, .int 735 0, .int 212 0, .str (.ofString "/claim/cut.py") 736] }) ::
  (nat_lit 407, f407) ::
  (nat_lit 415, { cls := .type "tuple", data := .seq #[] }) ::
  (nat_lit 417, { cls := .type "tuple", data := .seq #[.str (.ofString "self") 753] }) ::
  (nat_lit 418, { cls := .type "tuple", data := .seq #[] }) ::
  (nat_lit 420, { cls := .type "code", data := .fields #[.str (.ofString "__init__") 750, .str (.ofString "NameDict.__init__") 751, .str (.ofString "/claim/cut.py") 752, .int 216 0, .int 1 0, .int 0 0, .int 0 0, .int 3 0, .ref 415, .bool true, .int 181 0, .ref 416, .none, .ref 417, .ref 418, .ref 419, .int 754 0, .int 216 0, .str (.ofString "/claim/cut.py") 755] }) ::
  (nat_lit 421, f421) ::
  (nat_lit 422, { cls := .type "tuple", data := .seq #[] }) ::
  (nat_lit 424, { cls := .type "tuple", data := .seq #[.str (.ofString "self") 760, .str (.ofString "key") 761] }) ::
  (nat_lit 425, { cls := .type "tuple", data := .seq #[] }) ::
  (nat_lit 427, { cls := .type "code", data := .fields #[.str (.ofString "update_max_depth") 757, .str (.ofString "NameDict.update_max_depth") 758, .str (.ofString "/claim/cut.py") 759, .int 221 0, .int 2 0, .int 0 0, .int 0 0, .int 3 0, .ref 422, .bool true, .int 181 0, .ref 423, .none, .ref 424, .ref 425, .ref 426, .int 762 0, .int 221 0, .str (.ofString "/claim/cut.py") 763] }) ::
  (nat_lit 428, f428) ::
  (nat_lit 429, { cls := .type "tuple", data := .seq #[] }) ::
  (nat_lit 431, { cls := .type "tuple", data := .seq #[.str (.ofString "self") 768, .str (.ofString "key") 769] }) ::
  (nat_lit 432, { cls := .type "tuple", data := .seq #[] }) ::
  (nat_lit 434, { cls := .type "code", data := .fields #[.str (.ofString "__getitem__") 765, .str (.ofString "NameDict.__getitem__") 766, .str (.ofString "/claim/cut.py") 767, .int 228 0, .int 2 0, .int 0 0, .int 0 0, .int 3 0, .ref 429, .bool true, .int 181 0, .ref 430, .none, .ref 431, .ref 432, .ref 433, .int 770 0, .int 228 0, .str (.ofString "/claim/cut.py") 771] }) ::
  (nat_lit 435, f435) ::
  (nat_lit 436, { cls := .type "tuple", data := .seq #[] }) ::
  (nat_lit 438, { cls := .type "tuple", data := .seq #[.str (.ofString "self") 776, .str (.ofString "key") 777, .str (.ofString "value") 778] }) ::
  (nat_lit 439, { cls := .type "tuple", data := .seq #[] }) ::
  (nat_lit 441, { cls := .type "code", data := .fields #[.str (.ofString "__setitem__") 773, .str (.ofString "NameDict.__setitem__") 774, .str (.ofString "/claim/cut.py") 775, .int 231 0, .int 3 0, .int 0 0, .int 0 0, .int 3 0, .ref 436, .bool true, .int 181 0, .ref 437, .none, .ref 438, .ref 439, .ref 440, .int 779 0, .int 231 0, .str (.ofString "/claim/cut.py") 780] }) ::
  (nat_lit 442, f442) ::
  (nat_lit 443, { cls := .type "tuple", data := .seq #[] }) ::
  (nat_lit 445, { cls := .type "tuple", data := .seq #[.str (.ofString "self") 785, .str (.ofString "key") 786, .str (.ofString "k") 787, .str (.ofString "_") 788] }) ::
  (nat_lit 446, { cls := .type "tuple", data := .seq #[] }) ::
  (nat_lit 448, { cls := .type "code", data := .fields #[.str (.ofString "__delitem__") 782, .str (.ofString "NameDict.__delitem__") 783, .str (.ofString "/claim/cut.py") 784, .int 240 0, .int 2 0, .int 0 0, .int 0 0, .int 3 0, .ref 443, .bool true, .int 181 0, .ref 444, .none, .ref 445, .ref 446, .ref 447, .int 789 0, .int 240 0, .str (.ofString "/claim/cut.py") 790] }) ::
  (nat_lit 449, f449) ::
  (nat_lit 450, { cls := .type "tuple", data := .seq #[] }) ::
  (nat_lit 452, { cls := .type "tuple", data := .seq #[.str (.ofString "self") 795] }) ::
  (nat_lit 453, { cls := .type "tuple", data := .seq #[] }) ::
  (nat_lit 455, { cls := .type "code", data := .fields #[.str (.ofString "__len__") 792, .str (.ofString "NameDict.__len__") 793, .str (.ofString "/claim/cut.py") 794, .int 249 0, .int 1 0, .int 0 0, .int 0 0, .int 3 0, .ref 450, .bool true, .int 181 0, .ref 451, .none, .ref 452, .ref 453, .ref 454, .int 796 0, .int 249 0, .str (.ofString "/claim/cut.py") 797] }) ::
  (nat_lit 456, f456) ::
  (nat_lit 457, { cls := .type "tuple", data := .seq #[] }) ::
  (nat_lit 459, { cls := .type "tuple", data := .seq #[.str (.ofString "self") 802, .str (.ofString "key") 803] }) ::
  (nat_lit 460, { cls := .type "tuple", data := .seq #[] }) ::
  (nat_lit 462, { cls := .type "code", data := .fields #[.str (.ofString "has_key") 799, .str (.ofString "NameDict.has_key") 800, .str (.ofString "/claim/cut.py") 801, .int 252 0, .int 2 0, .int 0 0, .int 0 0, .int 3 0, .ref 457, .bool true, .int 181 0, .ref 458, .none, .ref 459, .ref 460, .ref 461, .int 804 0, .int 252 0, .str (.ofString "/claim/cut.py") 805] }) ::
  (nat_lit 463, f463) ::
  (nat_lit 464, { cls := .type "tuple", data := .seq #[] }) ::
  (nat_lit 466, { cls := .type "tuple", data := .seq #[.str (.ofString "self") 810, .str (.ofString "name") 811, .str (.ofString "depth") 812, .str (.ofString "i") 813, .str (.ofString "n") 814, .str (.ofString "v") 815] }) ::
  (nat_lit 467, { cls := .type "tuple", data := .seq #[] }) ::
  (nat_lit 469, { cls := .type "code", data := .fields #[.str (.ofString "get_deepest_match") 807, .str (.ofString "NameDict.get_deepest_match") 808, .str (.ofString "/claim/cut.py") 809, .int 255 0, .int 2 0, .int 0 0, .int 0 0, .int 3 0, .ref 464, .bool true, .int 181 0, .ref 465, .none, .ref 466, .ref 467, .ref 468, .int 816 0, .int 255 0, .str (.ofString "/claim/cut.py") 817] }) ::
  (nat_lit 470, f470) ::
  (nat_lit 471, { cls := .type "tuple", data := .seq #[.str (.ofString "max_depth") 819, .str (.ofString "max_depth_items") 820, .str (.ofString "store") 821] }) ::
  (nat_lit 472, { cls := .type "dict", data := .dict #[{ hash := hk P (.ofString "__module__"), key := .str (.ofString "__module__") 745, val := .str (.ofString "dns.namedict") 730 }, { hash := hk P (.ofString "__firstlineno__"), key := .str (.ofString "__firstlineno__") 749, val := .int 214 748 }, { hash := hk P (.ofString "__init__"), key := .str (.ofString "__init__") 756, val := .ref 421 }, { hash := hk P (.ofString "update_max_depth"), key := .str (.ofString "update_max_depth") 764, val := .ref 428 }, { hash := hk P (.ofString "__getitem__"), key := .str (.ofString "__getitem__") 772, val := .ref 435 }, { hash := hk P (.ofString "__setitem__"), key := .str (.ofString "__setitem__") 781, val := .ref 442 }, { hash := hk P (.ofString "__delitem__"), key := .str (.ofString "__delitem__") 791, val := .ref 449 }, { hash := hk P (.ofString "__len__"), key := .str (.ofString "__len__") 798, val := .ref 456 }, { hash := hk P (.ofString "has_key"), key := .str (.ofString "has_key") 806, val := .ref 463 }, { hash := hk P (.ofString "get_deepest_match"), key := .str (.ofString "get_deepest_match") 818, val := .ref 470 }, { hash := hk P (.ofString "__static_attributes__"), key := .str (.ofString "__static_attributes__") 822, val := .ref 471 }, { hash := hk P (.ofString "__dict__"), key := .str (.ofString "__dict__") 824, val := .ref 474 }, { hash := hk P (.ofString "__weakref__"), key := .str (.ofString "__weakref__") 826, val := .ref 475 }, { hash := hk P (.ofString "__doc__"), key := .str (.ofString "__doc__") 827, val := .none }] 4 }) ::
  (nat_lit 473, { cls := .type "type", data := .cls { name := .ofString "NameDict", bases := [.type "object"], mro := [.ref 473, .type "object"], ns := 472, qualname := .ofString "NameDict" }, slots := #[none, none, some (.str (.ofString "NameDict") 738), some (.str (.ofString "NameDict") 746), some (.builtin "object.__new__"), some (.bool true)] }) ::
  (nat_lit 474, { cls := .type "getset_descriptor", data := .fields #[.str (.ofString "__dict__") 823, .ref 473, .builtin "function.__dict__", .builtin "function.__dict__#set"] }) ::
  (nat_lit 475, { cls := .type "getset_descriptor", data := .fields #[.str (.ofString "__weakref__") 825, .ref 473, .builtin "ExceptionGroup.__weakref__", .none] }) ::
  (nat_lit 478, { cls := .type "tuple", data := .seq #[.int 97 832] }) ::
  (nat_lit 479, { cls := .type "tuple", data := .seq #[.int 65 833] }) ::
  (nat_lit 480, { cls := .type "tuple", data := .seq #[.int 98 834] }) ::
  (nat_lit 481, { cls := .type "tuple", data := .seq #[.int 97 835, .int 98 836] }) ::
  (nat_lit 482, { cls := .type "tuple", data := .seq #[.int 65 837, .int 66 838] }) ::
  (nat_lit 483, { cls := .type "tuple", data := .seq #[.int 91 839] }) ::
  (nat_lit 484, { cls := .type "tuple", data := .seq #[.int 123 840] }) ::
  (nat_lit 485, { cls := .type "tuple", data := .seq #[.int 193 841] }) ::
  (nat_lit 486, { cls := .type "tuple", data := .seq #[.int 225 842] }) ::
  (nat_lit 487, { cls := .type "tuple", data := .seq #[.ref 478, .ref 479, .ref 480, .ref 481, .ref 482, .ref 483, .ref 484, .ref 485, .ref 486] }) ::
  (nat_lit 488, { cls := .type "tuple", data := .seq #[.int 832 844, .int 1000096 845, .int 2000737 846, .int 64 847, .int 3000203 848, .int 400000005 849] }) ::
  (nat_lit 489, { cls := .type "tuple", data := .seq #[] }) ::
  (nat_lit 491, { cls := .type "tuple", data := .seq #[.str (.ofString "script") 854, .str (.ofString "place") 855] }) ::
  (nat_lit 492, { cls := .type "tuple", data := .seq #[] }) ::
  (nat_lit 494, { cls := .type "code", data := .fields #[.str (.ofString "_law_at") 851, .str (.ofString "_law_at") 852, .str (.ofString "/claim/cut.py") 853, .int 268 0, .int 2 0, .int 0 0, .int 0 0, .int 3 0, .ref 489, .bool true, .int 181 0, .ref 490, .none, .ref 491, .ref 492, .ref 493, .int 856 0, .int 268 0, .str (.ofString "/claim/cut.py") 857] }) ::
  (nat_lit 495, f495) ::
  (nat_lit 496, { cls := .type "tuple", data := .seq #[] }) ::
  (nat_lit 498, { cls := .type "tuple", data := .seq #[.str (.ofString "labels") 862, .str (.ofString "told") 863, .str (.ofString "label") 864, .str (.ofString "row") 865, .str (.ofString "octet") 866] }) ::
  (nat_lit 499, { cls := .type "tuple", data := .seq #[] }) ::
  (nat_lit 501, { cls := .type "code", data := .fields #[.str (.ofString "_law_small") 859, .str (.ofString "_law_small") 860, .str (.ofString "/claim/cut.py") 861, .int 272 0, .int 1 0, .int 0 0, .int 0 0, .int 3 0, .ref 496, .bool true, .int 181 0, .ref 497, .none, .ref 498, .ref 499, .ref 500, .int 867 0, .int 272 0, .str (.ofString "/claim/cut.py") 868] }) ::
  (nat_lit 502, f502) ::
  (nat_lit 503, { cls := .type "tuple", data := .seq #[] }) ::
  (nat_lit 505, { cls := .type "tuple", data := .seq #[.str (.ofString "labels") 873, .str (.ofString "told") 874, .str (.ofString "label") 875, .str (.ofString "row") 876, .str (.ofString "octet") 877] }) ::
  (nat_lit 506, { cls := .type "tuple", data := .seq #[] }) ::
  (nat_lit 508, { cls := .type "code", data := .fields #[.str (.ofString "_law_turned") 870, .str (.ofString "_law_turned") 871, .str (.ofString "/claim/cut.py") 872, .int 283 0, .int 1 0, .int 0 0, .int 0 0, .int 3 0, .ref 503, .bool true, .int 181 0, .ref 504, .none, .ref 505, .ref 506, .ref 507, .int 878 0, .int 283 0, .str (.ofString "/claim/cut.py") 879] }) ::
  (nat_lit 509, f509) ::
  (nat_lit 510, { cls := .type "tuple", data := .seq #[] }) ::
  (nat_lit 512, { cls := .type "tuple", data := .seq #[.str (.ofString "number") 884, .str (.ofString "size") 885, .str (.ofString "whole") 886, .str (.ofString "rest") 887, .str (.ofString "labels") 888, .str (.ofString "place") 889] }) ::
  (nat_lit 513, { cls := .type "tuple", data := .seq #[] }) ::
  (nat_lit 515, { cls := .type "code", data := .fields #[.str (.ofString "_law_fresh") 881, .str (.ofString "_law_fresh") 882, .str (.ofString "/claim/cut.py") 883, .int 296 0, .int 1 0, .int 0 0, .int 0 0, .int 3 0, .ref 510, .bool true, .int 181 0, .ref 511, .none, .ref 512, .ref 513, .ref 514, .int 890 0, .int 296 0, .str (.ofString "/claim/cut.py") 891] }) ::
  (nat_lit 516, f516) ::
  (nat_lit 517, { cls := .type "tuple", data := .seq #[] }) ::
  (nat_lit 519, { cls := .type "tuple", data := .seq #[.str (.ofString "number") 896, .str (.ofString "model") 897, .str (.ofString "rest") 898, .str (.ofString "labels") 899, .str (.ofString "way") 900] }) ::
  (nat_lit 520, { cls := .type "tuple", data := .seq #[] }) ::
  (nat_lit 522, { cls := .type "code", data := .fields #[.str (.ofString "_law_drawn") 893, .str (.ofString "_law_drawn") 894, .str (.ofString "/claim/cut.py") 895, .int 307 0, .int 2 0, .int 0 0, .int 0 0, .int 3 0, .ref 517, .bool true, .int 181 0, .ref 518, .none, .ref 519, .ref 520, .ref 521, .int 901 0, .int 307 0, .str (.ofString "/claim/cut.py") 902] }) ::
  (nat_lit 523, f523) ::
  (nat_lit 524, { cls := .type "tuple", data := .seq #[] }) ::
  (nat_lit 527, { cls := .type "code", data := .fields #[.str (.ofString "_law_name") 904, .str (.ofString "_law_name") 905, .str (.ofString "/claim/cut.py") 906, .int 321 0, .int 1 0, .int 0 0, .int 0 0, .int 3 0, .ref 524, .bool true, .int 181 0, .ref 525, .none, .none, .none, .ref 526, .int 907 0, .int 321 0, .str (.ofString "/claim/cut.py") 908] }) ::
  (nat_lit 528, f528) ::
  (nat_lit 529, { cls := .type "tuple", data := .seq #[] }) ::
  (nat_lit 531, { cls := .type "tuple", data := .seq #[.str (.ofString "model") 913, .str (.ofString "labels") 914, .str (.ofString "small") 915, .str (.ofString "place") 916] }) ::
  (nat_lit 532, { cls := .type "tuple", data := .seq #[] }) ::
  (nat_lit 534, { cls := .type "code", data := .fields #[.str (.ofString "_law_spot") 910, .str (.ofString "_law_spot") 911, .str (.ofString "/claim/cut.py") 912, .int 323 0, .int 2 0, .int 0 0, .int 0 0, .int 3 0, .ref 529, .bool true, .int 181 0, .ref 530, .none, .ref 531, .ref 532, .ref 533, .int 917 0, .int 323 0, .str (.ofString "/claim/cut.py") 918] }) ::
  (nat_lit 535, f535) ::
  (nat_lit 536, { cls := .type "tuple", data := .seq #[] }) ::
  (nat_lit 538, { cls := .type "tuple", data := .seq #[.str (.ofString "book") 923, .str (.ofString "name") 924, .str (.ofString "value") 925] }) ::
  (nat_lit 539, { cls := .type "tuple", data := .seq #[] }) ::
  (nat_lit 541, { cls := .type "code", data := .fields #[.str (.ofString "_law_got") 920, .str (.ofString "_law_got") 921, .str (.ofString "/claim/cut.py") 922, .int 329 0, .int 2 0, .int 0 0, .int 0 0, .int 3 0, .ref 536, .bool true, .int 181 0, .ref 537, .none, .ref 538, .ref 539, .ref 540, .int 926 0, .int 329 0, .str (.ofString "/claim/cut.py") 927] }) ::
  (nat_lit 542, f542) ::
  (nat_lit 543, { cls := .type "tuple", data := .seq #[] }) ::
  (nat_lit 546, { cls := .type "code", data := .fields #[.str (.ofString "_law_match") 929, .str (.ofString "_law_match") 930, .str (.ofString "/claim/cut.py") 931, .int 335 0, .int 2 0, .int 0 0, .int 0 0, .int 3 0, .ref 543, .bool true, .int 181 0, .ref 544, .none, .none, .none, .ref 545, .int 932 0, .int 335 0, .str (.ofString "/claim/cut.py") 933] }) ::
  (nat_lit 547, f547) ::
  (nat_lit 548, { cls := .type "tuple", data := .seq #[] }) ::
  (nat_lit 550, { cls := .type "tuple", data := .seq #[.str (.ofString "model") 938, .str (.ofString "labels") 939, .str (.ofString "small") 940, .str (.ofString "best") 941, .str (.ofString "longest") 942, .str (.ofString "entry") 943, .str (.ofString "front") 944] }) ::
  (nat_lit 551, { cls := .type "tuple", data := .seq #[] }) ::
  (nat_lit 553, { cls := .type "code", data := .fields #[.str (.ofString "_law_deepest") 935, .str (.ofString "_law_deepest") 936, .str (.ofString "/claim/cut.py") 937, .int 341 0, .int 2 0, .int 0 0, .int 0 0, .int 3 0, .ref 548, .bool true, .int 181 0, .ref 549, .none, .ref 550, .ref 551, .ref 552, .int 945 0, .int 341 0, .str (.ofString "/claim/cut.py") 946] }) ::
  (nat_lit 554, f554) ::
  (nat_lit 555, { cls := .type "tuple", data := .seq #[] }) ::
  (nat_lit 558, { cls := .type "code", data := .fields #[.str (.ofString "_law_state") 948, .str (.ofString "_law_state") 949, .str (.ofString "/claim/cut.py") 950, .int 351 0, .int 2 0, .int 0 0, .int 0 0, .int 3 0, .ref 555, .bool true, .int 181 0, .ref 556, .none, .none, .none, .ref 557, .int 951 0, .int 351 0, .str (.ofString "/claim/cut.py") 952] }) ::
  (nat_lit 559, f559) ::
  (nat_lit 560, { cls := .type "tuple", data := .seq #[] }) ::
  (nat_lit 562, { cls := .type "tuple", data := .seq #[.str (.ofString "book") 957, .str (.ofString "model") 958, .str (.ofString "number") 959, .str (.ofString "mark") 960, .str (.ofString "kind") 961, .str (.ofString "labels") 962, .str (.ofString "name") 963, .str (.ofString "spot") 964, .str (.ofString "found") 965, .str (.ofString "keys") 966, .str (.ofString "refused") 967] }) ::
  (nat_lit 563, { cls := .type "tuple", data := .seq #[] }) ::
  (nat_lit 565, { cls := .type "code", data := .fields #[.str (.ofString "_law_deed") 954, .str (.ofString "_law_deed") 955, .str (.ofString "/claim/cut.py") 956, .int 357 0, .int 4 0, .int 0 0, .int 0 0, .int 3 0, .ref 560, .bool true, .int 181 0, .ref 561, .none, .ref 562, .ref 563, .ref 564, .int 968 0, .int 357 0, .str (.ofString "/claim/cut.py") 969] }) ::
  (nat_lit 566, f566) ::
  (nat_lit 567, { cls := .type "tuple", data := .seq #[] }) ::
  (nat_lit 569, { cls := .type "tuple", data := .seq #[.str (.ofString "script") 974, .str (.ofString "book") 975, .str (.ofString "other") 976, .str (.ofString "model") 977, .str (.ofString "mark") 978, .str (.ofString "number") 979, .str (.ofString "labels") 980, .str (.ofString "name") 981, .str (.ofString "entry") 982] }) ::
  (nat_lit 570, { cls := .type "tuple", data := .seq #[] }) ::
  (nat_lit 572, { cls := .type "code", data := .fields #[.str (.ofString "law") 971, .str (.ofString "law") 972, .str (.ofString "/claim/cut.py") 973, .int 389 0, .int 1 0, .int 0 0, .int 0 0, .int 3 0, .ref 567, .bool true, .int 181 0, .ref 568, .none, .ref 569, .ref 570, .ref 571, .int 983 0, .int 389 0, .str (.ofString "/claim/cut.py") 984] }) ::
  (nat_lit 573, f573) :: []
end

/-! H5 -/
section
open PySem PySem.W PyProof.Rows
noncomputable def nthO : Frag → Nat → Obj
  | [], _ => default
  | x :: _, 0 => x.2
  | _ :: r, n + 1 => nthO r n
noncomputable def fe (s : Stmt) (q : Str) : Obj := match s with
  | .FunctionDef name args body _ _ _ scope _ _ _ => { cls := .none, data := .func { name := name, qualname := q, params := args, body := .stmts body, scope := scope, globals := 0, closure := [], defaults := .none, kwdefaults := .none } }
  | _ => default
noncomputable def k2 (P : Params) : Obj := by
  refine (fun (o : Obj) (_ : nthO (topK P) 0 = o) => o) ?l ?h
  case h => conv => lhs; whnf
noncomputable def g3a (P : Params) : Obj := { cls := .type "dict", data := .dict #[{ hash := hk P (.ofString "__name__"), key := .str (.ofString "__name__") 165, val := .str (.ofString "dns.name") 248 }, { hash := hk P (.ofString "__doc__"), key := .str (.ofString "__doc__") 166, val := .none }, { hash := hk P (.ofString "__package__"), key := .str (.ofString "__package__") 167, val := .none }, { hash := hk P (.ofString "__loader__"), key := .str (.ofString "__loader__") 168, val := .builtin "__main__.__loader__#opaque" }, { hash := hk P (.ofString "__spec__"), key := .str (.ofString "__spec__") 169, val := .none }, { hash := hk P (.ofString "__annotations__"), key := .str (.ofString "__annotations__") 170, val := .ref 6 }, { hash := hk P (.ofString "__builtins__"), key := .str (.ofString "__builtins__") 171, val := .ref 4 }, { hash := hk P (.ofString "__file__"), key := .str (.ofString "__file__") 173, val := .str (.ofString "/claim/cut.py") 172 }, { hash := hk P (.ofString "__cached__"), key := .str (.ofString "__cached__") 174, val := .none }, { hash := hk P (.ofString "_wall"), key := .str (.ofString "_wall") 193, val := .ref 21 }, { hash := hk P (.ofString "DNSException"), key := .str (.ofString "DNSException") 215, val := .ref 31 }, { hash := hk P (.ofString "FormError"), key := .str (.ofString "FormError") 231, val := .ref 44 }, { hash := hk P (.ofString "DnsSyntaxError"), key := .str (.ofString "DnsSyntaxError") 247, val := .ref 56 }, { hash := hk P (.ofString "NameRelation"), key := .str (.ofString "NameRelation") 279, val := .ref 68 }, { hash := hk P (.ofString "EmptyLabel"), key := .str (.ofString "EmptyLabel") 295, val := .ref 82 }, { hash := hk P (.ofString "NameTooLong"), key := .str (.ofString "NameTooLong") 311, val := .ref 94 }, { hash := hk P (.ofString "LabelTooLong"), key := .str (.ofString "LabelTooLong") 327, val := .ref 106 }, { hash := hk P (.ofString "AbsoluteConcatenation"), key := .str (.ofString "AbsoluteConcatenation") 343, val := .ref 118 }, { hash := hk P (.ofString "_validate_labels"), key := .str (.ofString "_validate_labels") 356, val := .ref 127 }, { hash := hk P (.ofString "_maybe_convert_to_binary"), key := .str (.ofString "_maybe_convert_to_binary") 363, val := .ref 134 }] 20 }
noncomputable def g3b (P : Params) : Obj := { cls := .type "dict", data := .dict #[{ hash := hk P (.ofString "__name__"), key := .str (.ofString "__name__") 165, val := .str (.ofString "dns.name") 248 }, { hash := hk P (.ofString "__doc__"), key := .str (.ofString "__doc__") 166, val := .none }, { hash := hk P (.ofString "__package__"), key := .str (.ofString "__package__") 167, val := .none }, { hash := hk P (.ofString "__loader__"), key := .str (.ofString "__loader__") 168, val := .builtin "__main__.__loader__#opaque" }, { hash := hk P (.ofString "__spec__"), key := .str (.ofString "__spec__") 169, val := .none }, { hash := hk P (.ofString "__annotations__"), key := .str (.ofString "__annotations__") 170, val := .ref 6 }, { hash := hk P (.ofString "__builtins__"), key := .str (.ofString "__builtins__") 171, val := .ref 4 }, { hash := hk P (.ofString "__file__"), key := .str (.ofString "__file__") 173, val := .str (.ofString "/claim/cut.py") 172 }, { hash := hk P (.ofString "__cached__"), key := .str (.ofString "__cached__") 174, val := .none }, { hash := hk P (.ofString "_wall"), key := .str (.ofString "_wall") 193, val := .ref 21 }, { hash := hk P (.ofString "DNSException"), key := .str (.ofString "DNSException") 215, val := .ref 31 }, { hash := hk P (.ofString "FormError"), key := .str (.ofString "FormError") 231, val := .ref 44 }, { hash := hk P (.ofString "DnsSyntaxError"), key := .str (.ofString "DnsSyntaxError") 247, val := .ref 56 }, { hash := hk P (.ofString "NameRelation"), key := .str (.ofString "NameRelation") 279, val := .ref 68 }, { hash := hk P (.ofString "EmptyLabel"), key := .str (.ofString "EmptyLabel") 295, val := .ref 82 }, { hash := hk P (.ofString "NameTooLong"), key := .str (.ofString "NameTooLong") 311, val := .ref 94 }, { hash := hk P (.ofString "LabelTooLong"), key := .str (.ofString "LabelTooLong") 327, val := .ref 106 }, { hash := hk P (.ofString "AbsoluteConcatenation"), key := .str (.ofString "AbsoluteConcatenation") 343, val := .ref 118 }, { hash := hk P (.ofString "_validate_labels"), key := .str (.ofString "_validate_labels") 356, val := .ref 127 }, { hash := hk P (.ofString "_maybe_convert_to_binary"), key := .str (.ofString "_maybe_convert_to_binary") 363, val := .ref 134 }, { hash := hk P (.ofString "Name"), key := .str (.ofString "Name") 631, val := .ref 351 }] 21 }
noncomputable def g3c (P : Params) : Obj := { cls := .type "dict", data := .dict #[{ hash := hk P (.ofString "__name__"), key := .str (.ofString "__name__") 165, val := .str (.ofString "dns.name") 248 }, { hash := hk P (.ofString "__doc__"), key := .str (.ofString "__doc__") 166, val := .none }, { hash := hk P (.ofString "__package__"), key := .str (.ofString "__package__") 167, val := .none }, { hash := hk P (.ofString "__loader__"), key := .str (.ofString "__loader__") 168, val := .builtin "__main__.__loader__#opaque" }, { hash := hk P (.ofString "__spec__"), key := .str (.ofString "__spec__") 169, val := .none }, { hash := hk P (.ofString "__annotations__"), key := .str (.ofString "__annotations__") 170, val := .ref 6 }, { hash := hk P (.ofString "__builtins__"), key := .str (.ofString "__builtins__") 171, val := .ref 4 }, { hash := hk P (.ofString "__file__"), key := .str (.ofString "__file__") 173, val := .str (.ofString "/claim/cut.py") 172 }, { hash := hk P (.ofString "__cached__"), key := .str (.ofString "__cached__") 174, val := .none }, { hash := hk P (.ofString "_wall"), key := .str (.ofString "_wall") 193, val := .ref 21 }, { hash := hk P (.ofString "DNSException"), key := .str (.ofString "DNSException") 215, val := .ref 31 }, { hash := hk P (.ofString "FormError"), key := .str (.ofString "FormError") 231, val := .ref 44 }, { hash := hk P (.ofString "DnsSyntaxError"), key := .str (.ofString "DnsSyntaxError") 247, val := .ref 56 }, { hash := hk P (.ofString "NameRelation"), key := .str (.ofString "NameRelation") 279, val := .ref 68 }, { hash := hk P (.ofString "EmptyLabel"), key := .str (.ofString "EmptyLabel") 295, val := .ref 82 }, { hash := hk P (.ofString "NameTooLong"), key := .str (.ofString "NameTooLong") 311, val := .ref 94 }, { hash := hk P (.ofString "LabelTooLong"), key := .str (.ofString "LabelTooLong") 327, val := .ref 106 }, { hash := hk P (.ofString "AbsoluteConcatenation"), key := .str (.ofString "AbsoluteConcatenation") 343, val := .ref 118 }, { hash := hk P (.ofString "_validate_labels"), key := .str (.ofString "_validate_labels") 356, val := .ref 127 }, { hash := hk P (.ofString "_maybe_convert_to_binary"), key := .str (.ofString "_maybe_convert_to_binary") 363, val := .ref 134 }, { hash := hk P (.ofString "Name"), key := .str (.ofString "Name") 631, val := .ref 351 }, { hash := hk P (.ofString "root"), key := .str (.ofString "root") 671, val := .ref 358 }, { hash := hk P (.ofString "empty"), key := .str (.ofString "empty") 691, val := .ref 374 }, { hash := hk P (.ofString "_MINIMAL_OCTET"), key := .str (.ofString "_MINIMAL_OCTET") 693, val := .bytes #[0] 692 }, { hash := hk P (.ofString "_SUCCESSOR_PREFIX"), key := .str (.ofString "_SUCCESSOR_PREFIX") 729, val := .ref 389 }] 25 }
noncomputable def k3 (P : Params) : Obj := by
  refine (fun (o : Obj) (_ : nthO (topK P) 1 = o) => o) ?l ?h
  case h => conv => lhs; whnf
noncomputable def g11 : Obj := { cls := .type "tuple", data := .seq #[] }
noncomputable def g12a : Obj := { cls := .none, data := .fields #[.int 1 0, .int 0 0, .ref 20, .int 5 0, .int 0 0, .ref 27, .int 7 0, .int 0 0, .ref 40, .int 9 0, .int 0 0, .ref 52, .int 12 0, .int 0 0, .ref 64, .int 18 0, .int 0 0, .ref 78, .int 20 0, .int 0 0, .ref 90, .int 22 0, .int 0 0, .ref 102, .int 24 0, .int 0 0, .ref 114, .int 26 0, .int 0 0, .ref 126, .int 43 0, .int 0 0, .ref 133] }
noncomputable def g12b : Obj := { cls := .none, data := .fields #[.int 1 0, .int 0 0, .ref 20, .int 5 0, .int 0 0, .ref 27, .int 7 0, .int 0 0, .ref 40, .int 9 0, .int 0 0, .ref 52, .int 12 0, .int 0 0, .ref 64, .int 18 0, .int 0 0, .ref 78, .int 20 0, .int 0 0, .ref 90, .int 22 0, .int 0 0, .ref 102, .int 24 0, .int 0 0, .ref 114, .int 26 0, .int 0 0, .ref 126, .int 43 0, .int 0 0, .ref 133, .int 48 0, .int 0 0, .ref 140] }
noncomputable def g12c : Obj := { cls := .none, data := .fields #[.int 1 0, .int 0 0, .ref 20, .int 5 0, .int 0 0, .ref 27, .int 7 0, .int 0 0, .ref 40, .int 9 0, .int 0 0, .ref 52, .int 12 0, .int 0 0, .ref 64, .int 18 0, .int 0 0, .ref 78, .int 20 0, .int 0 0, .ref 90, .int 22 0, .int 0 0, .ref 102, .int 24 0, .int 0 0, .ref 114, .int 26 0, .int 0 0, .ref 126, .int 43 0, .int 0 0, .ref 133, .int 48 0, .int 0 0, .ref 140, .int 212 0, .int 0 0, .ref 406, .int 214 0, .int 0 0, .ref 413, .int 268 0, .int 0 0, .ref 494, .int 272 0, .int 0 0, .ref 501, .int 283 0, .int 0 0, .ref 508, .int 296 0, .int 0 0, .ref 515, .int 307 0, .int 0 0, .ref 522, .int 321 0, .int 0 0, .ref 527, .int 323 0, .int 0 0, .ref 534, .int 329 0, .int 0 0, .ref 541, .int 335 0, .int 0 0, .ref 546, .int 341 0, .int 0 0, .ref 553, .int 351 0, .int 0 0, .ref 558, .int 357 0, .int 0 0, .ref 565, .int 389 0, .int 0 0, .ref 572] }
noncomputable def g13 : Obj := { cls := .type "code", data := .fields #[.str (.ofString "<module>") 182, .str (.ofString "<module>") 183, .str (.ofString "/claim/cut.py") 184, .int 1 0, .int 0 0, .int 0 0, .int 0 0, .int 0 0, .ref 11, .bool false, .int 181 0, .ref 12, .none, .none, .none, .none, .int 185 0, .int 1 0, .str (.ofString "/claim/cut.py") 186] }
noncomputable def g14 : Obj := { cls := .type "frame", slots := #[some (.ref 13), some (.ref 3), some (.ref 3), none, some (.str (.ofString "__main__") 164), none, some (.ref 0)] }
noncomputable def k15 (P : Params) : Obj := by
  refine (fun (o : Obj) (_ : nthO (topK P) 2 = o) => o) ?l ?h
  case h => conv => lhs; whnf
noncomputable def g16 : Obj := { cls := .none, data := .fields #[] }
noncomputable def k17 (P : Params) : Obj := by
  refine (fun (o : Obj) (_ : nthO (topK P) 3 = o) => o) ?l ?h
  case h => conv => lhs; whnf
noncomputable def k18 (P : Params) : Obj := by
  refine (fun (o : Obj) (_ : nthO (topK P) 4 = o) => o) ?l ?h
  case h => conv => lhs; whnf
noncomputable def e19 : Obj := by
  refine (fun (o : Obj) (_ : fe (st 0) (.ofString "_wall") = o) => o) ?l ?h
  case h => conv => lhs; (conv => arg 1; whnf); whnf
noncomputable def k20 (P : Params) : Obj := by
  refine (fun (o : Obj) (_ : nthO (topK P) 5 = o) => o) ?l ?h
  case h => conv => lhs; whnf
noncomputable def k22 (P : Params) : Obj := by
  refine (fun (o : Obj) (_ : nthO (topK P) 7 = o) => o) ?l ?h
  case h => conv => lhs; whnf
noncomputable def g23 : Obj := { cls := .type "builtin_function_or_method", data := .fields #[.builtin "type.__prepare__", .type "type"] }
noncomputable def g24 (P : Params) : Obj := { cls := .type "dict", data := .dict #[{ hash := hk P (.ofString "__module__"), key := .str (.ofString "__module__") 203, val := .str (.ofString "dns.exception") 194 }, { hash := hk P (.ofString "__qualname__"), key := .str (.ofString "__qualname__") 205, val := .str (.ofString "DNSException") 204 }, { hash := hk P (.ofString "__firstlineno__"), key := .str (.ofString "__firstlineno__") 207, val := .int 5 206 }, { hash := hk P (.ofString "__static_attributes__"), key := .str (.ofString "__static_attributes__") 208, val := .ref 29 }] 4 }
noncomputable def g25 : Obj := { cls := .type "tuple", data := .seq #[] }
noncomputable def g26 : Obj := { cls := .none, data := .fields #[] }
noncomputable def g27 : Obj := { cls := .type "code", data := .fields #[.str (.ofString "DNSException") 198, .str (.ofString "DNSException") 199, .str (.ofString "/claim/cut.py") 200, .int 5 0, .int 0 0, .int 0 0, .int 0 0, .int 0 0, .ref 25, .bool false, .int 181 0, .ref 26, .none, .none, .none, .none, .int 201 0, .int 5 0, .str (.ofString "/claim/cut.py") 202] }
noncomputable def g28 : Obj := { cls := .type "frame", slots := #[some (.ref 27), some (.ref 3), some (.ref 24), none, some (.str (.ofString "dns.exception") 194), none, some (.ref 0)] }
noncomputable def k29 (P : Params) : Obj := by
  refine (fun (o : Obj) (_ : nthO (topK P) 8 = o) => o) ?l ?h
  case h => conv => lhs; whnf
noncomputable def k30 (P : Params) : Obj := by
  refine (fun (o : Obj) (_ : nthO (topK P) 9 = o) => o) ?l ?h
  case h => conv => lhs; whnf
noncomputable def k31 (P : Params) : Obj := by
  refine (fun (o : Obj) (_ : nthO (topK P) 10 = o) => o) ?l ?h
  case h => conv => lhs; whnf
noncomputable def k32 (P : Params) : Obj := by
  refine (fun (o : Obj) (_ : nthO (topK P) 11 = o) => o) ?l ?h
  case h => conv => lhs; whnf
noncomputable def g33 : Obj := { cls := .type "super", data := .fields #[.ref 31, .ref 31, .ref 31] }
noncomputable def g34 : Obj := { cls := .type "builtin_function_or_method", data := .fields #[.builtin "object.__init_subclass__", .ref 31] }
noncomputable def k35 (P : Params) : Obj := by
  refine (fun (o : Obj) (_ : nthO (topK P) 12 = o) => o) ?l ?h
  case h => conv => lhs; whnf
noncomputable def g36 : Obj := { cls := .type "builtin_function_or_method", data := .fields #[.builtin "type.__prepare__", .type "type"] }
noncomputable def g37 (P : Params) : Obj := { cls := .type "dict", data := .dict #[{ hash := hk P (.ofString "__module__"), key := .str (.ofString "__module__") 223, val := .str (.ofString "dns.exception") 194 }, { hash := hk P (.ofString "__qualname__"), key := .str (.ofString "__qualname__") 225, val := .str (.ofString "FormError") 224 }, { hash := hk P (.ofString "__firstlineno__"), key := .str (.ofString "__firstlineno__") 227, val := .int 7 226 }, { hash := hk P (.ofString "__static_attributes__"), key := .str (.ofString "__static_attributes__") 228, val := .ref 42 }] 4 }
noncomputable def g38 : Obj := { cls := .type "tuple", data := .seq #[] }
noncomputable def g39 : Obj := { cls := .none, data := .fields #[] }
noncomputable def g40 : Obj := { cls := .type "code", data := .fields #[.str (.ofString "FormError") 218, .str (.ofString "FormError") 219, .str (.ofString "/claim/cut.py") 220, .int 7 0, .int 0 0, .int 0 0, .int 0 0, .int 0 0, .ref 38, .bool false, .int 181 0, .ref 39, .none, .none, .none, .none, .int 221 0, .int 7 0, .str (.ofString "/claim/cut.py") 222] }
noncomputable def g41 : Obj := { cls := .type "frame", slots := #[some (.ref 40), some (.ref 3), some (.ref 37), none, some (.str (.ofString "dns.exception") 194), none, some (.ref 0)] }
noncomputable def k42 (P : Params) : Obj := by
  refine (fun (o : Obj) (_ : nthO (topK P) 13 = o) => o) ?l ?h
  case h => conv => lhs; whnf
noncomputable def k43 (P : Params) : Obj := by
  refine (fun (o : Obj) (_ : nthO (topK P) 14 = o) => o) ?l ?h
  case h => conv => lhs; whnf
noncomputable def k44 (P : Params) : Obj := by
  refine (fun (o : Obj) (_ : nthO (topK P) 15 = o) => o) ?l ?h
  case h => conv => lhs; whnf
noncomputable def g45 : Obj := { cls := .type "super", data := .fields #[.ref 44, .ref 44, .ref 44] }
noncomputable def g46 : Obj := { cls := .type "builtin_function_or_method", data := .fields #[.builtin "object.__init_subclass__", .ref 44] }
noncomputable def k47 (P : Params) : Obj := by
  refine (fun (o : Obj) (_ : nthO (topK P) 16 = o) => o) ?l ?h
  case h => conv => lhs; whnf
noncomputable def g48 : Obj := { cls := .type "builtin_function_or_method", data := .fields #[.builtin "type.__prepare__", .type "type"] }
noncomputable def g49 (P : Params) : Obj := { cls := .type "dict", data := .dict #[{ hash := hk P (.ofString "__module__"), key := .str (.ofString "__module__") 239, val := .str (.ofString "dns.exception") 194 }, { hash := hk P (.ofString "__qualname__"), key := .str (.ofString "__qualname__") 241, val := .str (.ofString "DnsSyntaxError") 240 }, { hash := hk P (.ofString "__firstlineno__"), key := .str (.ofString "__firstlineno__") 243, val := .int 9 242 }, { hash := hk P (.ofString "__static_attributes__"), key := .str (.ofString "__static_attributes__") 244, val := .ref 54 }] 4 }
noncomputable def g50 : Obj := { cls := .type "tuple", data := .seq #[] }
noncomputable def g51 : Obj := { cls := .none, data := .fields #[] }
noncomputable def g52 : Obj := { cls := .type "code", data := .fields #[.str (.ofString "DnsSyntaxError") 234, .str (.ofString "DnsSyntaxError") 235, .str (.ofString "/claim/cut.py") 236, .int 9 0, .int 0 0, .int 0 0, .int 0 0, .int 0 0, .ref 50, .bool false, .int 181 0, .ref 51, .none, .none, .none, .none, .int 237 0, .int 9 0, .str (.ofString "/claim/cut.py") 238] }
noncomputable def g53 : Obj := { cls := .type "frame", slots := #[some (.ref 52), some (.ref 3), some (.ref 49), none, some (.str (.ofString "dns.exception") 194), none, some (.ref 0)] }
noncomputable def k54 (P : Params) : Obj := by
  refine (fun (o : Obj) (_ : nthO (topK P) 17 = o) => o) ?l ?h
  case h => conv => lhs; whnf
noncomputable def k55 (P : Params) : Obj := by
  refine (fun (o : Obj) (_ : nthO (topK P) 18 = o) => o) ?l ?h
  case h => conv => lhs; whnf
noncomputable def k56 (P : Params) : Obj := by
  refine (fun (o : Obj) (_ : nthO (topK P) 19 = o) => o) ?l ?h
  case h => conv => lhs; whnf
noncomputable def g57 : Obj := { cls := .type "super", data := .fields #[.ref 56, .ref 56, .ref 56] }
noncomputable def g58 : Obj := { cls := .type "builtin_function_or_method", data := .fields #[.builtin "object.__init_subclass__", .ref 56] }
noncomputable def g59 : Obj := { cls := .type "tuple", data := .seq #[] }
noncomputable def g60 : Obj := { cls := .type "builtin_function_or_method", data := .fields #[.builtin "type.__prepare__", .type "type"] }
noncomputable def g61 (P : Params) : Obj := { cls := .type "dict", data := .dict #[{ hash := hk P (.ofString "__module__"), key := .str (.ofString "__module__") 257, val := .str (.ofString "dns.name") 248 }, { hash := hk P (.ofString "__qualname__"), key := .str (.ofString "__qualname__") 259, val := .str (.ofString "NameRelation") 258 }, { hash := hk P (.ofString "__firstlineno__"), key := .str (.ofString "__firstlineno__") 261, val := .int 12 260 }, { hash := hk P (.ofString "NONE"), key := .str (.ofString "NONE") 263, val := .int 0 262 }, { hash := hk P (.ofString "SUPERDOMAIN"), key := .str (.ofString "SUPERDOMAIN") 265, val := .int 1 264 }, { hash := hk P (.ofString "SUBDOMAIN"), key := .str (.ofString "SUBDOMAIN") 267, val := .int 2 266 }, { hash := hk P (.ofString "EQUAL"), key := .str (.ofString "EQUAL") 269, val := .int 3 268 }, { hash := hk P (.ofString "COMMONANCESTOR"), key := .str (.ofString "COMMONANCESTOR") 271, val := .int 4 270 }, { hash := hk P (.ofString "__static_attributes__"), key := .str (.ofString "__static_attributes__") 272, val := .ref 66 }] 9 }
noncomputable def g62 : Obj := { cls := .type "tuple", data := .seq #[] }
noncomputable def g63 : Obj := { cls := .none, data := .fields #[] }
noncomputable def g64 : Obj := { cls := .type "code", data := .fields #[.str (.ofString "NameRelation") 252, .str (.ofString "NameRelation") 253, .str (.ofString "/claim/cut.py") 254, .int 12 0, .int 0 0, .int 0 0, .int 0 0, .int 0 0, .ref 62, .bool false, .int 181 0, .ref 63, .none, .none, .none, .none, .int 255 0, .int 12 0, .str (.ofString "/claim/cut.py") 256] }
noncomputable def g65 : Obj := { cls := .type "frame", slots := #[some (.ref 64), some (.ref 3), some (.ref 61), none, some (.str (.ofString "dns.name") 248), none, some (.ref 0)] }
noncomputable def k66 (P : Params) : Obj := by
  refine (fun (o : Obj) (_ : nthO (topK P) 20 = o) => o) ?l ?h
  case h => conv => lhs; whnf
noncomputable def k67 (P : Params) : Obj := by
  refine (fun (o : Obj) (_ : nthO (topK P) 21 = o) => o) ?l ?h
  case h => conv => lhs; whnf
noncomputable def k68 (P : Params) : Obj := by
  refine (fun (o : Obj) (_ : nthO (topK P) 22 = o) => o) ?l ?h
  case h => conv => lhs; whnf
noncomputable def k69 (P : Params) : Obj := by
  refine (fun (o : Obj) (_ : nthO (topK P) 23 = o) => o) ?l ?h
  case h => conv => lhs; whnf
noncomputable def k70 (P : Params) : Obj := by
  refine (fun (o : Obj) (_ : nthO (topK P) 24 = o) => o) ?l ?h
  case h => conv => lhs; whnf
noncomputable def g71 : Obj := { cls := .type "super", data := .fields #[.ref 68, .ref 68, .ref 68] }
noncomputable def g72 : Obj := { cls := .type "builtin_function_or_method", data := .fields #[.builtin "object.__init_subclass__", .ref 68] }
noncomputable def k73 (P : Params) : Obj := by
  refine (fun (o : Obj) (_ : nthO (topK P) 25 = o) => o) ?l ?h
  case h => conv => lhs; whnf
noncomputable def g74 : Obj := { cls := .type "builtin_function_or_method", data := .fields #[.builtin "type.__prepare__", .type "type"] }
noncomputable def g75 (P : Params) : Obj := { cls := .type "dict", data := .dict #[{ hash := hk P (.ofString "__module__"), key := .str (.ofString "__module__") 287, val := .str (.ofString "dns.name") 248 }, { hash := hk P (.ofString "__qualname__"), key := .str (.ofString "__qualname__") 289, val := .str (.ofString "EmptyLabel") 288 }, { hash := hk P (.ofString "__firstlineno__"), key := .str (.ofString "__firstlineno__") 291, val := .int 18 290 }, { hash := hk P (.ofString "__static_attributes__"), key := .str (.ofString "__static_attributes__") 292, val := .ref 80 }] 4 }
noncomputable def g76 : Obj := { cls := .type "tuple", data := .seq #[] }
noncomputable def g77 : Obj := { cls := .none, data := .fields #[] }
noncomputable def g78 : Obj := { cls := .type "code", data := .fields #[.str (.ofString "EmptyLabel") 282, .str (.ofString "EmptyLabel") 283, .str (.ofString "/claim/cut.py") 284, .int 18 0, .int 0 0, .int 0 0, .int 0 0, .int 0 0, .ref 76, .bool false, .int 181 0, .ref 77, .none, .none, .none, .none, .int 285 0, .int 18 0, .str (.ofString "/claim/cut.py") 286] }
noncomputable def g79 : Obj := { cls := .type "frame", slots := #[some (.ref 78), some (.ref 3), some (.ref 75), none, some (.str (.ofString "dns.name") 248), none, some (.ref 0)] }
noncomputable def k80 (P : Params) : Obj := by
  refine (fun (o : Obj) (_ : nthO (topK P) 26 = o) => o) ?l ?h
  case h => conv => lhs; whnf
noncomputable def k81 (P : Params) : Obj := by
  refine (fun (o : Obj) (_ : nthO (topK P) 27 = o) => o) ?l ?h
  case h => conv => lhs; whnf
noncomputable def k82 (P : Params) : Obj := by
  refine (fun (o : Obj) (_ : nthO (topK P) 28 = o) => o) ?l ?h
  case h => conv => lhs; whnf
noncomputable def g83 : Obj := { cls := .type "super", data := .fields #[.ref 82, .ref 82, .ref 82] }
noncomputable def g84 : Obj := { cls := .type "builtin_function_or_method", data := .fields #[.builtin "object.__init_subclass__", .ref 82] }
noncomputable def k85 (P : Params) : Obj := by
  refine (fun (o : Obj) (_ : nthO (topK P) 29 = o) => o) ?l ?h
  case h => conv => lhs; whnf
noncomputable def g86 : Obj := { cls := .type "builtin_function_or_method", data := .fields #[.builtin "type.__prepare__", .type "type"] }
noncomputable def g87 (P : Params) : Obj := { cls := .type "dict", data := .dict #[{ hash := hk P (.ofString "__module__"), key := .str (.ofString "__module__") 303, val := .str (.ofString "dns.name") 248 }, { hash := hk P (.ofString "__qualname__"), key := .str (.ofString "__qualname__") 305, val := .str (.ofString "NameTooLong") 304 }, { hash := hk P (.ofString "__firstlineno__"), key := .str (.ofString "__firstlineno__") 307, val := .int 20 306 }, { hash := hk P (.ofString "__static_attributes__"), key := .str (.ofString "__static_attributes__") 308, val := .ref 92 }] 4 }
noncomputable def g88 : Obj := { cls := .type "tuple", data := .seq #[] }
noncomputable def g89 : Obj := { cls := .none, data := .fields #[] }
noncomputable def g90 : Obj := { cls := .type "code", data := .fields #[.str (.ofString "NameTooLong") 298, .str (.ofString "NameTooLong") 299, .str (.ofString "/claim/cut.py") 300, .int 20 0, .int 0 0, .int 0 0, .int 0 0, .int 0 0, .ref 88, .bool false, .int 181 0, .ref 89, .none, .none, .none, .none, .int 301 0, .int 20 0, .str (.ofString "/claim/cut.py") 302] }
noncomputable def g91 : Obj := { cls := .type "frame", slots := #[some (.ref 90), some (.ref 3), some (.ref 87), none, some (.str (.ofString "dns.name") 248), none, some (.ref 0)] }
noncomputable def k92 (P : Params) : Obj := by
  refine (fun (o : Obj) (_ : nthO (topK P) 30 = o) => o) ?l ?h
  case h => conv => lhs; whnf
noncomputable def k93 (P : Params) : Obj := by
  refine (fun (o : Obj) (_ : nthO (topK P) 31 = o) => o) ?l ?h
  case h => conv => lhs; whnf
noncomputable def k94 (P : Params) : Obj := by
  refine (fun (o : Obj) (_ : nthO (topK P) 32 = o) => o) ?l ?h
  case h => conv => lhs; whnf
noncomputable def g95 : Obj := { cls := .type "super", data := .fields #[.ref 94, .ref 94, .ref 94] }
noncomputable def g96 : Obj := { cls := .type "builtin_function_or_method", data := .fields #[.builtin "object.__init_subclass__", .ref 94] }
noncomputable def k97 (P : Params) : Obj := by
  refine (fun (o : Obj) (_ : nthO (topK P) 33 = o) => o) ?l ?h
  case h => conv => lhs; whnf
noncomputable def g98 : Obj := { cls := .type "builtin_function_or_method", data := .fields #[.builtin "type.__prepare__", .type "type"] }
noncomputable def g99 (P : Params) : Obj := { cls := .type "dict", data := .dict #[{ hash := hk P (.ofString "__module__"), key := .str (.ofString "__module__") 319, val := .str (.ofString "dns.name") 248 }, { hash := hk P (.ofString "__qualname__"), key := .str (.ofString "__qualname__") 321, val := .str (.ofString "LabelTooLong") 320 }, { hash := hk P (.ofString "__firstlineno__"), key := .str (.ofString "__firstlineno__") 323, val := .int 22 322 }, { hash := hk P (.ofString "__static_attributes__"), key := .str (.ofString "__static_attributes__") 324, val := .ref 104 }] 4 }
noncomputable def g100 : Obj := { cls := .type "tuple", data := .seq #[] }
noncomputable def g101 : Obj := { cls := .none, data := .fields #[] }
noncomputable def g102 : Obj := { cls := .type "code", data := .fields #[.str (.ofString "LabelTooLong") 314, .str (.ofString "LabelTooLong") 315, .str (.ofString "/claim/cut.py") 316, .int 22 0, .int 0 0, .int 0 0, .int 0 0, .int 0 0, .ref 100, .bool false, .int 181 0, .ref 101, .none, .none, .none, .none, .int 317 0, .int 22 0, .str (.ofString "/claim/cut.py") 318] }
noncomputable def g103 : Obj := { cls := .type "frame", slots := #[some (.ref 102), some (.ref 3), some (.ref 99), none, some (.str (.ofString "dns.name") 248), none, some (.ref 0)] }
noncomputable def k104 (P : Params) : Obj := by
  refine (fun (o : Obj) (_ : nthO (topK P) 34 = o) => o) ?l ?h
  case h => conv => lhs; whnf
noncomputable def k105 (P : Params) : Obj := by
  refine (fun (o : Obj) (_ : nthO (topK P) 35 = o) => o) ?l ?h
  case h => conv => lhs; whnf
noncomputable def k106 (P : Params) : Obj := by
  refine (fun (o : Obj) (_ : nthO (topK P) 36 = o) => o) ?l ?h
  case h => conv => lhs; whnf
noncomputable def g107 : Obj := { cls := .type "super", data := .fields #[.ref 106, .ref 106, .ref 106] }
noncomputable def g108 : Obj := { cls := .type "builtin_function_or_method", data := .fields #[.builtin "object.__init_subclass__", .ref 106] }
noncomputable def k109 (P : Params) : Obj := by
  refine (fun (o : Obj) (_ : nthO (topK P) 37 = o) => o) ?l ?h
  case h => conv => lhs; whnf
noncomputable def g110 : Obj := { cls := .type "builtin_function_or_method", data := .fields #[.builtin "type.__prepare__", .type "type"] }
noncomputable def g111 (P : Params) : Obj := { cls := .type "dict", data := .dict #[{ hash := hk P (.ofString "__module__"), key := .str (.ofString "__module__") 335, val := .str (.ofString "dns.name") 248 }, { hash := hk P (.ofString "__qualname__"), key := .str (.ofString "__qualname__") 337, val := .str (.ofString "AbsoluteConcatenation") 336 }, { hash := hk P (.ofString "__firstlineno__"), key := .str (.ofString "__firstlineno__") 339, val := .int 24 338 }, { hash := hk P (.ofString "__static_attributes__"), key := .str (.ofString "__static_attributes__") 340, val := .ref 116 }] 4 }
noncomputable def g112 : Obj := { cls := .type "tuple", data := .seq #[] }
noncomputable def g113 : Obj := { cls := .none, data := .fields #[] }
noncomputable def g114 : Obj := { cls := .type "code", data := .fields #[.str (.ofString "AbsoluteConcatenation") 330, .str (.ofString "AbsoluteConcatenation") 331, .str (.ofString "/claim/cut.py") 332, .int 24 0, .int 0 0, .int 0 0, .int 0 0, .int 0 0, .ref 112, .bool false, .int 181 0, .ref 113, .none, .none, .none, .none, .int 333 0, .int 24 0, .str (.ofString "/claim/cut.py") 334] }
noncomputable def g115 : Obj := { cls := .type "frame", slots := #[some (.ref 114), some (.ref 3), some (.ref 111), none, some (.str (.ofString "dns.name") 248), none, some (.ref 0)] }
noncomputable def k116 (P : Params) : Obj := by
  refine (fun (o : Obj) (_ : nthO (topK P) 38 = o) => o) ?l ?h
  case h => conv => lhs; whnf
noncomputable def k117 (P : Params) : Obj := by
  refine (fun (o : Obj) (_ : nthO (topK P) 39 = o) => o) ?l ?h
  case h => conv => lhs; whnf
noncomputable def k118 (P : Params) : Obj := by
  refine (fun (o : Obj) (_ : nthO (topK P) 40 = o) => o) ?l ?h
  case h => conv => lhs; whnf
noncomputable def g119 : Obj := { cls := .type "super", data := .fields #[.ref 118, .ref 118, .ref 118] }
noncomputable def g120 : Obj := { cls := .type "builtin_function_or_method", data := .fields #[.builtin "object.__init_subclass__", .ref 118] }
noncomputable def k121 (P : Params) : Obj := by
  refine (fun (o : Obj) (_ : nthO (topK P) 41 = o) => o) ?l ?h
  case h => conv => lhs; whnf
noncomputable def g122 : Obj := { cls := .none, data := .fields #[] }
noncomputable def k123 (P : Params) : Obj := by
  refine (fun (o : Obj) (_ : nthO (topK P) 42 = o) => o) ?l ?h
  case h => conv => lhs; whnf
noncomputable def k124 (P : Params) : Obj := by
  refine (fun (o : Obj) (_ : nthO (topK P) 43 = o) => o) ?l ?h
  case h => conv => lhs; whnf
noncomputable def e125 : Obj := by
  refine (fun (o : Obj) (_ : fe (st 11) (.ofString "_validate_labels") = o) => o) ?l ?h
  case h => conv => lhs; (conv => arg 1; whnf); whnf
noncomputable def k126 (P : Params) : Obj := by
  refine (fun (o : Obj) (_ : nthO (topK P) 44 = o) => o) ?l ?h
  case h => conv => lhs; whnf
noncomputable def k128 (P : Params) : Obj := by
  refine (fun (o : Obj) (_ : nthO (topK P) 46 = o) => o) ?l ?h
  case h => conv => lhs; whnf
noncomputable def g129 : Obj := { cls := .none, data := .fields #[] }
noncomputable def k130 (P : Params) : Obj := by
  refine (fun (o : Obj) (_ : nthO (topK P) 47 = o) => o) ?l ?h
  case h => conv => lhs; whnf
noncomputable def k131 (P : Params) : Obj := by
  refine (fun (o : Obj) (_ : nthO (topK P) 48 = o) => o) ?l ?h
  case h => conv => lhs; whnf
noncomputable def e132 : Obj := by
  refine (fun (o : Obj) (_ : fe (st 12) (.ofString "_maybe_convert_to_binary") = o) => o) ?l ?h
  case h => conv => lhs; (conv => arg 1; whnf); whnf
noncomputable def k133 (P : Params) : Obj := by
  refine (fun (o : Obj) (_ : nthO (topK P) 49 = o) => o) ?l ?h
  case h => conv => lhs; whnf
noncomputable def g135 : Obj := { cls := .type "tuple", data := .seq #[] }
noncomputable def g136 : Obj := { cls := .type "builtin_function_or_method", data := .fields #[.builtin "type.__prepare__", .type "type"] }
noncomputable def g137 (P : Params) : Obj := { cls := .type "dict", data := .dict #[{ hash := hk P (.ofString "__module__"), key := .str (.ofString "__module__") 371, val := .str (.ofString "dns.name") 248 }, { hash := hk P (.ofString "__qualname__"), key := .str (.ofString "__qualname__") 373, val := .str (.ofString "Name") 372 }, { hash := hk P (.ofString "__firstlineno__"), key := .str (.ofString "__firstlineno__") 375, val := .int 48 374 }, { hash := hk P (.ofString "__init__"), key := .str (.ofString "__init__") 381, val := .ref 146 }, { hash := hk P (.ofString "is_absolute"), key := .str (.ofString "is_absolute") 388, val := .ref 153 }, { hash := hk P (.ofString "is_wild"), key := .str (.ofString "is_wild") 395, val := .ref 160 }, { hash := hk P (.ofString "fullcompare"), key := .str (.ofString "fullcompare") 414, val := .ref 167 }, { hash := hk P (.ofString "is_subdomain"), key := .str (.ofString "is_subdomain") 424, val := .ref 174 }, { hash := hk P (.ofString "is_superdomain"), key := .str (.ofString "is_superdomain") 432, val := .ref 181 }, { hash := hk P (.ofString "canonicalize"), key := .str (.ofString "canonicalize") 439, val := .ref 188 }, { hash := hk P (.ofString "__eq__"), key := .str (.ofString "__eq__") 447, val := .ref 195 }, { hash := hk P (.ofString "__ne__"), key := .str (.ofString "__ne__") 455, val := .ref 202 }, { hash := hk P (.ofString "__lt__"), key := .str (.ofString "__lt__") 463, val := .ref 209 }, { hash := hk P (.ofString "__le__"), key := .str (.ofString "__le__") 471, val := .ref 216 }, { hash := hk P (.ofString "__ge__"), key := .str (.ofString "__ge__") 479, val := .ref 223 }, { hash := hk P (.ofString "__gt__"), key := .str (.ofString "__gt__") 487, val := .ref 230 }, { hash := hk P (.ofString "to_text"), key := .str (.ofString "to_text") 496, val := .ref 238 }, { hash := hk P (.ofString "to_styled_text"), key := .str (.ofString "to_styled_text") 504, val := .ref 245 }, { hash := hk P (.ofString "to_digestable"), key := .str (.ofString "to_digestable") 512, val := .ref 253 }, { hash := hk P (.ofString "to_wire"), key := .str (.ofString "to_wire") 523, val := .ref 261 }, { hash := hk P (.ofString "__len__"), key := .str (.ofString "__len__") 530, val := .ref 268 }, { hash := hk P (.ofString "__getitem__"), key := .str (.ofString "__getitem__") 538, val := .ref 275 }, { hash := hk P (.ofString "__add__"), key := .str (.ofString "__add__") 546, val := .ref 282 }, { hash := hk P (.ofString "__sub__"), key := .str (.ofString "__sub__") 554, val := .ref 289 }, { hash := hk P (.ofString "split"), key := .str (.ofString "split") 562, val := .ref 296 }, { hash := hk P (.ofString "concatenate"), key := .str (.ofString "concatenate") 571, val := .ref 303 }, { hash := hk P (.ofString "relativize"), key := .str (.ofString "relativize") 579, val := .ref 310 }, { hash := hk P (.ofString "derelativize"), key := .str (.ofString "derelativize") 587, val := .ref 317 }, { hash := hk P (.ofString "choose_relativity"), key := .str (.ofString "choose_relativity") 596, val := .ref 325 }, { hash := hk P (.ofString "parent"), key := .str (.ofString "parent") 603, val := .ref 332 }, { hash := hk P (.ofString "predecessor"), key := .str (.ofString "predecessor") 612, val := .ref 340 }, { hash := hk P (.ofString "successor"), key := .str (.ofString "successor") 621, val := .ref 348 }, { hash := hk P (.ofString "__static_attributes__"), key := .str (.ofString "__static_attributes__") 623, val := .ref 349 }] 33 }
noncomputable def g138 : Obj := { cls := .type "tuple", data := .seq #[] }
noncomputable def g139 : Obj := { cls := .none, data := .fields #[.int 50 0, .int 4 0, .ref 145, .int 55 0, .int 4 0, .ref 152, .int 58 0, .int 4 0, .ref 159, .int 61 0, .int 4 0, .ref 166, .int 105 0, .int 4 0, .ref 173, .int 111 0, .int 4 0, .ref 180, .int 114 0, .int 4 0, .ref 187, .int 117 0, .int 4 0, .ref 194, .int 123 0, .int 4 0, .ref 201, .int 129 0, .int 4 0, .ref 208, .int 135 0, .int 4 0, .ref 215, .int 141 0, .int 4 0, .ref 222, .int 147 0, .int 4 0, .ref 229, .int 153 0, .int 4 0, .ref 237, .int 156 0, .int 4 0, .ref 244, .int 159 0, .int 4 0, .ref 252, .int 162 0, .int 4 0, .ref 260, .int 165 0, .int 4 0, .ref 267, .int 168 0, .int 4 0, .ref 274, .int 171 0, .int 4 0, .ref 281, .int 174 0, .int 4 0, .ref 288, .int 177 0, .int 4 0, .ref 295, .int 180 0, .int 4 0, .ref 302, .int 187 0, .int 4 0, .ref 309, .int 193 0, .int 4 0, .ref 316, .int 196 0, .int 4 0, .ref 324, .int 199 0, .int 4 0, .ref 331, .int 202 0, .int 4 0, .ref 339, .int 205 0, .int 4 0, .ref 347] }
noncomputable def g140 : Obj := { cls := .type "code", data := .fields #[.str (.ofString "Name") 366, .str (.ofString "Name") 367, .str (.ofString "/claim/cut.py") 368, .int 48 0, .int 0 0, .int 0 0, .int 0 0, .int 0 0, .ref 138, .bool false, .int 181 0, .ref 139, .none, .none, .none, .none, .int 369 0, .int 48 0, .str (.ofString "/claim/cut.py") 370] }
noncomputable def g141 : Obj := { cls := .type "frame", slots := #[some (.ref 140), some (.ref 3), some (.ref 137), none, some (.str (.ofString "dns.name") 248), none, some (.ref 0)] }
noncomputable def k142 (P : Params) : Obj := by
  refine (fun (o : Obj) (_ : nthO (topK P) 51 = o) => o) ?l ?h
  case h => conv => lhs; whnf
noncomputable def g143 : Obj := { cls := .none, data := .fields #[] }
noncomputable def e144 : Obj := by
  refine (fun (o : Obj) (_ : fe (me 13 0) (.ofString "Name.__init__") = o) => o) ?l ?h
  case h => conv => lhs; (conv => arg 1; whnf); whnf
noncomputable def k145 (P : Params) : Obj := by
  refine (fun (o : Obj) (_ : nthO (topK P) 52 = o) => o) ?l ?h
  case h => conv => lhs; whnf
noncomputable def k147 (P : Params) : Obj := by
  refine (fun (o : Obj) (_ : nthO (topK P) 54 = o) => o) ?l ?h
  case h => conv => lhs; whnf
noncomputable def g148 : Obj := { cls := .none, data := .fields #[] }
noncomputable def k149 (P : Params) : Obj := by
  refine (fun (o : Obj) (_ : nthO (topK P) 55 = o) => o) ?l ?h
  case h => conv => lhs; whnf
noncomputable def k150 (P : Params) : Obj := by
  refine (fun (o : Obj) (_ : nthO (topK P) 56 = o) => o) ?l ?h
  case h => conv => lhs; whnf
noncomputable def e151 : Obj := by
  refine (fun (o : Obj) (_ : fe (me 13 1) (.ofString "Name.is_absolute") = o) => o) ?l ?h
  case h => conv => lhs; (conv => arg 1; whnf); whnf
noncomputable def k152 (P : Params) : Obj := by
  refine (fun (o : Obj) (_ : nthO (topK P) 57 = o) => o) ?l ?h
  case h => conv => lhs; whnf
noncomputable def k154 (P : Params) : Obj := by
  refine (fun (o : Obj) (_ : nthO (topK P) 59 = o) => o) ?l ?h
  case h => conv => lhs; whnf
noncomputable def g155 : Obj := { cls := .none, data := .fields #[] }
noncomputable def k156 (P : Params) : Obj := by
  refine (fun (o : Obj) (_ : nthO (topK P) 60 = o) => o) ?l ?h
  case h => conv => lhs; whnf
noncomputable def k157 (P : Params) : Obj := by
  refine (fun (o : Obj) (_ : nthO (topK P) 61 = o) => o) ?l ?h
  case h => conv => lhs; whnf
noncomputable def e158 : Obj := by
  refine (fun (o : Obj) (_ : fe (me 13 2) (.ofString "Name.is_wild") = o) => o) ?l ?h
  case h => conv => lhs; (conv => arg 1; whnf); whnf
noncomputable def k159 (P : Params) : Obj := by
  refine (fun (o : Obj) (_ : nthO (topK P) 62 = o) => o) ?l ?h
  case h => conv => lhs; whnf
noncomputable def k161 (P : Params) : Obj := by
  refine (fun (o : Obj) (_ : nthO (topK P) 64 = o) => o) ?l ?h
  case h => conv => lhs; whnf
noncomputable def g162 : Obj := { cls := .none, data := .fields #[] }
noncomputable def k163 (P : Params) : Obj := by
  refine (fun (o : Obj) (_ : nthO (topK P) 65 = o) => o) ?l ?h
  case h => conv => lhs; whnf
noncomputable def k164 (P : Params) : Obj := by
  refine (fun (o : Obj) (_ : nthO (topK P) 66 = o) => o) ?l ?h
  case h => conv => lhs; whnf
noncomputable def e165 : Obj := by
  refine (fun (o : Obj) (_ : fe (me 13 3) (.ofString "Name.fullcompare") = o) => o) ?l ?h
  case h => conv => lhs; (conv => arg 1; whnf); whnf
noncomputable def k166 (P : Params) : Obj := by
  refine (fun (o : Obj) (_ : nthO (topK P) 67 = o) => o) ?l ?h
  case h => conv => lhs; whnf
noncomputable def k168 (P : Params) : Obj := by
  refine (fun (o : Obj) (_ : nthO (topK P) 69 = o) => o) ?l ?h
  case h => conv => lhs; whnf
noncomputable def g169 : Obj := { cls := .none, data := .fields #[] }
noncomputable def k170 (P : Params) : Obj := by
  refine (fun (o : Obj) (_ : nthO (topK P) 70 = o) => o) ?l ?h
  case h => conv => lhs; whnf
noncomputable def k171 (P : Params) : Obj := by
  refine (fun (o : Obj) (_ : nthO (topK P) 71 = o) => o) ?l ?h
  case h => conv => lhs; whnf
noncomputable def e172 : Obj := by
  refine (fun (o : Obj) (_ : fe (me 13 4) (.ofString "Name.is_subdomain") = o) => o) ?l ?h
  case h => conv => lhs; (conv => arg 1; whnf); whnf
noncomputable def k173 (P : Params) : Obj := by
  refine (fun (o : Obj) (_ : nthO (topK P) 72 = o) => o) ?l ?h
  case h => conv => lhs; whnf
noncomputable def k175 (P : Params) : Obj := by
  refine (fun (o : Obj) (_ : nthO (topK P) 74 = o) => o) ?l ?h
  case h => conv => lhs; whnf
noncomputable def g176 : Obj := { cls := .none, data := .fields #[] }
noncomputable def k177 (P : Params) : Obj := by
  refine (fun (o : Obj) (_ : nthO (topK P) 75 = o) => o) ?l ?h
  case h => conv => lhs; whnf
noncomputable def k178 (P : Params) : Obj := by
  refine (fun (o : Obj) (_ : nthO (topK P) 76 = o) => o) ?l ?h
  case h => conv => lhs; whnf
noncomputable def e179 : Obj := by
  refine (fun (o : Obj) (_ : fe (me 13 5) (.ofString "Name.is_superdomain") = o) => o) ?l ?h
  case h => conv => lhs; (conv => arg 1; whnf); whnf
noncomputable def k180 (P : Params) : Obj := by
  refine (fun (o : Obj) (_ : nthO (topK P) 77 = o) => o) ?l ?h
  case h => conv => lhs; whnf
noncomputable def k182 (P : Params) : Obj := by
  refine (fun (o : Obj) (_ : nthO (topK P) 79 = o) => o) ?l ?h
  case h => conv => lhs; whnf
noncomputable def g183 : Obj := { cls := .none, data := .fields #[] }
noncomputable def k184 (P : Params) : Obj := by
  refine (fun (o : Obj) (_ : nthO (topK P) 80 = o) => o) ?l ?h
  case h => conv => lhs; whnf
noncomputable def k185 (P : Params) : Obj := by
  refine (fun (o : Obj) (_ : nthO (topK P) 81 = o) => o) ?l ?h
  case h => conv => lhs; whnf
noncomputable def e186 : Obj := by
  refine (fun (o : Obj) (_ : fe (me 13 6) (.ofString "Name.canonicalize") = o) => o) ?l ?h
  case h => conv => lhs; (conv => arg 1; whnf); whnf
noncomputable def k187 (P : Params) : Obj := by
  refine (fun (o : Obj) (_ : nthO (topK P) 82 = o) => o) ?l ?h
  case h => conv => lhs; whnf
noncomputable def k189 (P : Params) : Obj := by
  refine (fun (o : Obj) (_ : nthO (topK P) 84 = o) => o) ?l ?h
  case h => conv => lhs; whnf
noncomputable def g190 : Obj := { cls := .none, data := .fields #[] }
noncomputable def k191 (P : Params) : Obj := by
  refine (fun (o : Obj) (_ : nthO (topK P) 85 = o) => o) ?l ?h
  case h => conv => lhs; whnf
noncomputable def k192 (P : Params) : Obj := by
  refine (fun (o : Obj) (_ : nthO (topK P) 86 = o) => o) ?l ?h
  case h => conv => lhs; whnf
noncomputable def e193 : Obj := by
  refine (fun (o : Obj) (_ : fe (me 13 7) (.ofString "Name.__eq__") = o) => o) ?l ?h
  case h => conv => lhs; (conv => arg 1; whnf); whnf
noncomputable def k194 (P : Params) : Obj := by
  refine (fun (o : Obj) (_ : nthO (topK P) 87 = o) => o) ?l ?h
  case h => conv => lhs; whnf
noncomputable def k196 (P : Params) : Obj := by
  refine (fun (o : Obj) (_ : nthO (topK P) 89 = o) => o) ?l ?h
  case h => conv => lhs; whnf
noncomputable def g197 : Obj := { cls := .none, data := .fields #[] }
noncomputable def k198 (P : Params) : Obj := by
  refine (fun (o : Obj) (_ : nthO (topK P) 90 = o) => o) ?l ?h
  case h => conv => lhs; whnf
noncomputable def k199 (P : Params) : Obj := by
  refine (fun (o : Obj) (_ : nthO (topK P) 91 = o) => o) ?l ?h
  case h => conv => lhs; whnf
noncomputable def e200 : Obj := by
  refine (fun (o : Obj) (_ : fe (me 13 8) (.ofString "Name.__ne__") = o) => o) ?l ?h
  case h => conv => lhs; (conv => arg 1; whnf); whnf
noncomputable def k201 (P : Params) : Obj := by
  refine (fun (o : Obj) (_ : nthO (topK P) 92 = o) => o) ?l ?h
  case h => conv => lhs; whnf
noncomputable def k203 (P : Params) : Obj := by
  refine (fun (o : Obj) (_ : nthO (topK P) 94 = o) => o) ?l ?h
  case h => conv => lhs; whnf
noncomputable def g204 : Obj := { cls := .none, data := .fields #[] }
noncomputable def k205 (P : Params) : Obj := by
  refine (fun (o : Obj) (_ : nthO (topK P) 95 = o) => o) ?l ?h
  case h => conv => lhs; whnf
noncomputable def k206 (P : Params) : Obj := by
  refine (fun (o : Obj) (_ : nthO (topK P) 96 = o) => o) ?l ?h
  case h => conv => lhs; whnf
noncomputable def e207 : Obj := by
  refine (fun (o : Obj) (_ : fe (me 13 9) (.ofString "Name.__lt__") = o) => o) ?l ?h
  case h => conv => lhs; (conv => arg 1; whnf); whnf
noncomputable def k208 (P : Params) : Obj := by
  refine (fun (o : Obj) (_ : nthO (topK P) 97 = o) => o) ?l ?h
  case h => conv => lhs; whnf
noncomputable def k210 (P : Params) : Obj := by
  refine (fun (o : Obj) (_ : nthO (topK P) 99 = o) => o) ?l ?h
  case h => conv => lhs; whnf
noncomputable def g211 : Obj := { cls := .none, data := .fields #[] }
noncomputable def k212 (P : Params) : Obj := by
  refine (fun (o : Obj) (_ : nthO (topK P) 100 = o) => o) ?l ?h
  case h => conv => lhs; whnf
noncomputable def k213 (P : Params) : Obj := by
  refine (fun (o : Obj) (_ : nthO (topK P) 101 = o) => o) ?l ?h
  case h => conv => lhs; whnf
noncomputable def e214 : Obj := by
  refine (fun (o : Obj) (_ : fe (me 13 10) (.ofString "Name.__le__") = o) => o) ?l ?h
  case h => conv => lhs; (conv => arg 1; whnf); whnf
noncomputable def k215 (P : Params) : Obj := by
  refine (fun (o : Obj) (_ : nthO (topK P) 102 = o) => o) ?l ?h
  case h => conv => lhs; whnf
noncomputable def k217 (P : Params) : Obj := by
  refine (fun (o : Obj) (_ : nthO (topK P) 104 = o) => o) ?l ?h
  case h => conv => lhs; whnf
noncomputable def g218 : Obj := { cls := .none, data := .fields #[] }
noncomputable def k219 (P : Params) : Obj := by
  refine (fun (o : Obj) (_ : nthO (topK P) 105 = o) => o) ?l ?h
  case h => conv => lhs; whnf
noncomputable def k220 (P : Params) : Obj := by
  refine (fun (o : Obj) (_ : nthO (topK P) 106 = o) => o) ?l ?h
  case h => conv => lhs; whnf
noncomputable def e221 : Obj := by
  refine (fun (o : Obj) (_ : fe (me 13 11) (.ofString "Name.__ge__") = o) => o) ?l ?h
  case h => conv => lhs; (conv => arg 1; whnf); whnf
noncomputable def k222 (P : Params) : Obj := by
  refine (fun (o : Obj) (_ : nthO (topK P) 107 = o) => o) ?l ?h
  case h => conv => lhs; whnf
noncomputable def k224 (P : Params) : Obj := by
  refine (fun (o : Obj) (_ : nthO (topK P) 109 = o) => o) ?l ?h
  case h => conv => lhs; whnf
noncomputable def g225 : Obj := { cls := .none, data := .fields #[] }
noncomputable def k226 (P : Params) : Obj := by
  refine (fun (o : Obj) (_ : nthO (topK P) 110 = o) => o) ?l ?h
  case h => conv => lhs; whnf
noncomputable def k227 (P : Params) : Obj := by
  refine (fun (o : Obj) (_ : nthO (topK P) 111 = o) => o) ?l ?h
  case h => conv => lhs; whnf
noncomputable def e228 : Obj := by
  refine (fun (o : Obj) (_ : fe (me 13 12) (.ofString "Name.__gt__") = o) => o) ?l ?h
  case h => conv => lhs; (conv => arg 1; whnf); whnf
noncomputable def k229 (P : Params) : Obj := by
  refine (fun (o : Obj) (_ : nthO (topK P) 112 = o) => o) ?l ?h
  case h => conv => lhs; whnf
noncomputable def k231 (P : Params) : Obj := by
  refine (fun (o : Obj) (_ : nthO (topK P) 114 = o) => o) ?l ?h
  case h => conv => lhs; whnf
noncomputable def k232 (P : Params) : Obj := by
  refine (fun (o : Obj) (_ : nthO (topK P) 115 = o) => o) ?l ?h
  case h => conv => lhs; whnf
noncomputable def g233 : Obj := { cls := .none, data := .fields #[] }
noncomputable def k234 (P : Params) : Obj := by
  refine (fun (o : Obj) (_ : nthO (topK P) 116 = o) => o) ?l ?h
  case h => conv => lhs; whnf
noncomputable def k235 (P : Params) : Obj := by
  refine (fun (o : Obj) (_ : nthO (topK P) 117 = o) => o) ?l ?h
  case h => conv => lhs; whnf
noncomputable def e236 : Obj := by
  refine (fun (o : Obj) (_ : fe (me 13 13) (.ofString "Name.to_text") = o) => o) ?l ?h
  case h => conv => lhs; (conv => arg 1; whnf); whnf
noncomputable def k237 (P : Params) : Obj := by
  refine (fun (o : Obj) (_ : nthO (topK P) 118 = o) => o) ?l ?h
  case h => conv => lhs; whnf
noncomputable def k239 (P : Params) : Obj := by
  refine (fun (o : Obj) (_ : nthO (topK P) 120 = o) => o) ?l ?h
  case h => conv => lhs; whnf
noncomputable def g240 : Obj := { cls := .none, data := .fields #[] }
noncomputable def k241 (P : Params) : Obj := by
  refine (fun (o : Obj) (_ : nthO (topK P) 121 = o) => o) ?l ?h
  case h => conv => lhs; whnf
noncomputable def k242 (P : Params) : Obj := by
  refine (fun (o : Obj) (_ : nthO (topK P) 122 = o) => o) ?l ?h
  case h => conv => lhs; whnf
noncomputable def e243 : Obj := by
  refine (fun (o : Obj) (_ : fe (me 13 14) (.ofString "Name.to_styled_text") = o) => o) ?l ?h
  case h => conv => lhs; (conv => arg 1; whnf); whnf
noncomputable def k244 (P : Params) : Obj := by
  refine (fun (o : Obj) (_ : nthO (topK P) 123 = o) => o) ?l ?h
  case h => conv => lhs; whnf
noncomputable def k246 (P : Params) : Obj := by
  refine (fun (o : Obj) (_ : nthO (topK P) 125 = o) => o) ?l ?h
  case h => conv => lhs; whnf
noncomputable def k247 (P : Params) : Obj := by
  refine (fun (o : Obj) (_ : nthO (topK P) 126 = o) => o) ?l ?h
  case h => conv => lhs; whnf
noncomputable def g248 : Obj := { cls := .none, data := .fields #[] }
noncomputable def k249 (P : Params) : Obj := by
  refine (fun (o : Obj) (_ : nthO (topK P) 127 = o) => o) ?l ?h
  case h => conv => lhs; whnf
noncomputable def k250 (P : Params) : Obj := by
  refine (fun (o : Obj) (_ : nthO (topK P) 128 = o) => o) ?l ?h
  case h => conv => lhs; whnf
noncomputable def e251 : Obj := by
  refine (fun (o : Obj) (_ : fe (me 13 15) (.ofString "Name.to_digestable") = o) => o) ?l ?h
  case h => conv => lhs; (conv => arg 1; whnf); whnf
noncomputable def k252 (P : Params) : Obj := by
  refine (fun (o : Obj) (_ : nthO (topK P) 129 = o) => o) ?l ?h
  case h => conv => lhs; whnf
noncomputable def k254 (P : Params) : Obj := by
  refine (fun (o : Obj) (_ : nthO (topK P) 131 = o) => o) ?l ?h
  case h => conv => lhs; whnf
noncomputable def k255 (P : Params) : Obj := by
  refine (fun (o : Obj) (_ : nthO (topK P) 132 = o) => o) ?l ?h
  case h => conv => lhs; whnf
noncomputable def g256 : Obj := { cls := .none, data := .fields #[] }
noncomputable def k257 (P : Params) : Obj := by
  refine (fun (o : Obj) (_ : nthO (topK P) 133 = o) => o) ?l ?h
  case h => conv => lhs; whnf
noncomputable def k258 (P : Params) : Obj := by
  refine (fun (o : Obj) (_ : nthO (topK P) 134 = o) => o) ?l ?h
  case h => conv => lhs; whnf
noncomputable def e259 : Obj := by
  refine (fun (o : Obj) (_ : fe (me 13 16) (.ofString "Name.to_wire") = o) => o) ?l ?h
  case h => conv => lhs; (conv => arg 1; whnf); whnf
noncomputable def k260 (P : Params) : Obj := by
  refine (fun (o : Obj) (_ : nthO (topK P) 135 = o) => o) ?l ?h
  case h => conv => lhs; whnf
noncomputable def k262 (P : Params) : Obj := by
  refine (fun (o : Obj) (_ : nthO (topK P) 137 = o) => o) ?l ?h
  case h => conv => lhs; whnf
noncomputable def g263 : Obj := { cls := .none, data := .fields #[] }
noncomputable def k264 (P : Params) : Obj := by
  refine (fun (o : Obj) (_ : nthO (topK P) 138 = o) => o) ?l ?h
  case h => conv => lhs; whnf
noncomputable def k265 (P : Params) : Obj := by
  refine (fun (o : Obj) (_ : nthO (topK P) 139 = o) => o) ?l ?h
  case h => conv => lhs; whnf
noncomputable def e266 : Obj := by
  refine (fun (o : Obj) (_ : fe (me 13 17) (.ofString "Name.__len__") = o) => o) ?l ?h
  case h => conv => lhs; (conv => arg 1; whnf); whnf
noncomputable def k267 (P : Params) : Obj := by
  refine (fun (o : Obj) (_ : nthO (topK P) 140 = o) => o) ?l ?h
  case h => conv => lhs; whnf
noncomputable def k269 (P : Params) : Obj := by
  refine (fun (o : Obj) (_ : nthO (topK P) 142 = o) => o) ?l ?h
  case h => conv => lhs; whnf
noncomputable def g270 : Obj := { cls := .none, data := .fields #[] }
noncomputable def k271 (P : Params) : Obj := by
  refine (fun (o : Obj) (_ : nthO (topK P) 143 = o) => o) ?l ?h
  case h => conv => lhs; whnf
noncomputable def k272 (P : Params) : Obj := by
  refine (fun (o : Obj) (_ : nthO (topK P) 144 = o) => o) ?l ?h
  case h => conv => lhs; whnf
noncomputable def e273 : Obj := by
  refine (fun (o : Obj) (_ : fe (me 13 18) (.ofString "Name.__getitem__") = o) => o) ?l ?h
  case h => conv => lhs; (conv => arg 1; whnf); whnf
noncomputable def k274 (P : Params) : Obj := by
  refine (fun (o : Obj) (_ : nthO (topK P) 145 = o) => o) ?l ?h
  case h => conv => lhs; whnf
noncomputable def k276 (P : Params) : Obj := by
  refine (fun (o : Obj) (_ : nthO (topK P) 147 = o) => o) ?l ?h
  case h => conv => lhs; whnf
noncomputable def g277 : Obj := { cls := .none, data := .fields #[] }
noncomputable def k278 (P : Params) : Obj := by
  refine (fun (o : Obj) (_ : nthO (topK P) 148 = o) => o) ?l ?h
  case h => conv => lhs; whnf
noncomputable def k279 (P : Params) : Obj := by
  refine (fun (o : Obj) (_ : nthO (topK P) 149 = o) => o) ?l ?h
  case h => conv => lhs; whnf
noncomputable def e280 : Obj := by
  refine (fun (o : Obj) (_ : fe (me 13 19) (.ofString "Name.__add__") = o) => o) ?l ?h
  case h => conv => lhs; (conv => arg 1; whnf); whnf
noncomputable def k281 (P : Params) : Obj := by
  refine (fun (o : Obj) (_ : nthO (topK P) 150 = o) => o) ?l ?h
  case h => conv => lhs; whnf
noncomputable def k283 (P : Params) : Obj := by
  refine (fun (o : Obj) (_ : nthO (topK P) 152 = o) => o) ?l ?h
  case h => conv => lhs; whnf
noncomputable def g284 : Obj := { cls := .none, data := .fields #[] }
noncomputable def k285 (P : Params) : Obj := by
  refine (fun (o : Obj) (_ : nthO (topK P) 153 = o) => o) ?l ?h
  case h => conv => lhs; whnf
noncomputable def k286 (P : Params) : Obj := by
  refine (fun (o : Obj) (_ : nthO (topK P) 154 = o) => o) ?l ?h
  case h => conv => lhs; whnf
noncomputable def e287 : Obj := by
  refine (fun (o : Obj) (_ : fe (me 13 20) (.ofString "Name.__sub__") = o) => o) ?l ?h
  case h => conv => lhs; (conv => arg 1; whnf); whnf
noncomputable def k288 (P : Params) : Obj := by
  refine (fun (o : Obj) (_ : nthO (topK P) 155 = o) => o) ?l ?h
  case h => conv => lhs; whnf
noncomputable def k290 (P : Params) : Obj := by
  refine (fun (o : Obj) (_ : nthO (topK P) 157 = o) => o) ?l ?h
  case h => conv => lhs; whnf
noncomputable def g291 : Obj := { cls := .none, data := .fields #[] }
noncomputable def k292 (P : Params) : Obj := by
  refine (fun (o : Obj) (_ : nthO (topK P) 158 = o) => o) ?l ?h
  case h => conv => lhs; whnf
noncomputable def k293 (P : Params) : Obj := by
  refine (fun (o : Obj) (_ : nthO (topK P) 159 = o) => o) ?l ?h
  case h => conv => lhs; whnf
noncomputable def e294 : Obj := by
  refine (fun (o : Obj) (_ : fe (me 13 21) (.ofString "Name.split") = o) => o) ?l ?h
  case h => conv => lhs; (conv => arg 1; whnf); whnf
noncomputable def k295 (P : Params) : Obj := by
  refine (fun (o : Obj) (_ : nthO (topK P) 160 = o) => o) ?l ?h
  case h => conv => lhs; whnf
noncomputable def k297 (P : Params) : Obj := by
  refine (fun (o : Obj) (_ : nthO (topK P) 162 = o) => o) ?l ?h
  case h => conv => lhs; whnf
noncomputable def g298 : Obj := { cls := .none, data := .fields #[] }
noncomputable def k299 (P : Params) : Obj := by
  refine (fun (o : Obj) (_ : nthO (topK P) 163 = o) => o) ?l ?h
  case h => conv => lhs; whnf
noncomputable def k300 (P : Params) : Obj := by
  refine (fun (o : Obj) (_ : nthO (topK P) 164 = o) => o) ?l ?h
  case h => conv => lhs; whnf
noncomputable def e301 : Obj := by
  refine (fun (o : Obj) (_ : fe (me 13 22) (.ofString "Name.concatenate") = o) => o) ?l ?h
  case h => conv => lhs; (conv => arg 1; whnf); whnf
noncomputable def k302 (P : Params) : Obj := by
  refine (fun (o : Obj) (_ : nthO (topK P) 165 = o) => o) ?l ?h
  case h => conv => lhs; whnf
noncomputable def k304 (P : Params) : Obj := by
  refine (fun (o : Obj) (_ : nthO (topK P) 167 = o) => o) ?l ?h
  case h => conv => lhs; whnf
noncomputable def g305 : Obj := { cls := .none, data := .fields #[] }
noncomputable def k306 (P : Params) : Obj := by
  refine (fun (o : Obj) (_ : nthO (topK P) 168 = o) => o) ?l ?h
  case h => conv => lhs; whnf
noncomputable def k307 (P : Params) : Obj := by
  refine (fun (o : Obj) (_ : nthO (topK P) 169 = o) => o) ?l ?h
  case h => conv => lhs; whnf
noncomputable def e308 : Obj := by
  refine (fun (o : Obj) (_ : fe (me 13 23) (.ofString "Name.relativize") = o) => o) ?l ?h
  case h => conv => lhs; (conv => arg 1; whnf); whnf
noncomputable def k309 (P : Params) : Obj := by
  refine (fun (o : Obj) (_ : nthO (topK P) 170 = o) => o) ?l ?h
  case h => conv => lhs; whnf
noncomputable def k311 (P : Params) : Obj := by
  refine (fun (o : Obj) (_ : nthO (topK P) 172 = o) => o) ?l ?h
  case h => conv => lhs; whnf
noncomputable def g312 : Obj := { cls := .none, data := .fields #[] }
noncomputable def k313 (P : Params) : Obj := by
  refine (fun (o : Obj) (_ : nthO (topK P) 173 = o) => o) ?l ?h
  case h => conv => lhs; whnf
noncomputable def k314 (P : Params) : Obj := by
  refine (fun (o : Obj) (_ : nthO (topK P) 174 = o) => o) ?l ?h
  case h => conv => lhs; whnf
noncomputable def e315 : Obj := by
  refine (fun (o : Obj) (_ : fe (me 13 24) (.ofString "Name.derelativize") = o) => o) ?l ?h
  case h => conv => lhs; (conv => arg 1; whnf); whnf
noncomputable def k316 (P : Params) : Obj := by
  refine (fun (o : Obj) (_ : nthO (topK P) 175 = o) => o) ?l ?h
  case h => conv => lhs; whnf
noncomputable def k318 (P : Params) : Obj := by
  refine (fun (o : Obj) (_ : nthO (topK P) 177 = o) => o) ?l ?h
  case h => conv => lhs; whnf
noncomputable def k319 (P : Params) : Obj := by
  refine (fun (o : Obj) (_ : nthO (topK P) 178 = o) => o) ?l ?h
  case h => conv => lhs; whnf
noncomputable def g320 : Obj := { cls := .none, data := .fields #[] }
noncomputable def k321 (P : Params) : Obj := by
  refine (fun (o : Obj) (_ : nthO (topK P) 179 = o) => o) ?l ?h
  case h => conv => lhs; whnf
noncomputable def k322 (P : Params) : Obj := by
  refine (fun (o : Obj) (_ : nthO (topK P) 180 = o) => o) ?l ?h
  case h => conv => lhs; whnf
noncomputable def e323 : Obj := by
  refine (fun (o : Obj) (_ : fe (me 13 25) (.ofString "Name.choose_relativity") = o) => o) ?l ?h
  case h => conv => lhs; (conv => arg 1; whnf); whnf
noncomputable def k324 (P : Params) : Obj := by
  refine (fun (o : Obj) (_ : nthO (topK P) 181 = o) => o) ?l ?h
  case h => conv => lhs; whnf
noncomputable def k326 (P : Params) : Obj := by
  refine (fun (o : Obj) (_ : nthO (topK P) 183 = o) => o) ?l ?h
  case h => conv => lhs; whnf
noncomputable def g327 : Obj := { cls := .none, data := .fields #[] }
noncomputable def k328 (P : Params) : Obj := by
  refine (fun (o : Obj) (_ : nthO (topK P) 184 = o) => o) ?l ?h
  case h => conv => lhs; whnf
noncomputable def k329 (P : Params) : Obj := by
  refine (fun (o : Obj) (_ : nthO (topK P) 185 = o) => o) ?l ?h
  case h => conv => lhs; whnf
noncomputable def e330 : Obj := by
  refine (fun (o : Obj) (_ : fe (me 13 26) (.ofString "Name.parent") = o) => o) ?l ?h
  case h => conv => lhs; (conv => arg 1; whnf); whnf
noncomputable def k331 (P : Params) : Obj := by
  refine (fun (o : Obj) (_ : nthO (topK P) 186 = o) => o) ?l ?h
  case h => conv => lhs; whnf
noncomputable def k333 (P : Params) : Obj := by
  refine (fun (o : Obj) (_ : nthO (topK P) 188 = o) => o) ?l ?h
  case h => conv => lhs; whnf
noncomputable def k334 (P : Params) : Obj := by
  refine (fun (o : Obj) (_ : nthO (topK P) 189 = o) => o) ?l ?h
  case h => conv => lhs; whnf
noncomputable def g335 : Obj := { cls := .none, data := .fields #[] }
noncomputable def k336 (P : Params) : Obj := by
  refine (fun (o : Obj) (_ : nthO (topK P) 190 = o) => o) ?l ?h
  case h => conv => lhs; whnf
noncomputable def k337 (P : Params) : Obj := by
  refine (fun (o : Obj) (_ : nthO (topK P) 191 = o) => o) ?l ?h
  case h => conv => lhs; whnf
noncomputable def e338 : Obj := by
  refine (fun (o : Obj) (_ : fe (me 13 27) (.ofString "Name.predecessor") = o) => o) ?l ?h
  case h => conv => lhs; (conv => arg 1; whnf); whnf
noncomputable def k339 (P : Params) : Obj := by
  refine (fun (o : Obj) (_ : nthO (topK P) 192 = o) => o) ?l ?h
  case h => conv => lhs; whnf
noncomputable def k341 (P : Params) : Obj := by
  refine (fun (o : Obj) (_ : nthO (topK P) 194 = o) => o) ?l ?h
  case h => conv => lhs; whnf
noncomputable def k342 (P : Params) : Obj := by
  refine (fun (o : Obj) (_ : nthO (topK P) 195 = o) => o) ?l ?h
  case h => conv => lhs; whnf
noncomputable def g343 : Obj := { cls := .none, data := .fields #[] }
noncomputable def k344 (P : Params) : Obj := by
  refine (fun (o : Obj) (_ : nthO (topK P) 196 = o) => o) ?l ?h
  case h => conv => lhs; whnf
noncomputable def k345 (P : Params) : Obj := by
  refine (fun (o : Obj) (_ : nthO (topK P) 197 = o) => o) ?l ?h
  case h => conv => lhs; whnf
noncomputable def e346 : Obj := by
  refine (fun (o : Obj) (_ : fe (me 13 28) (.ofString "Name.successor") = o) => o) ?l ?h
  case h => conv => lhs; (conv => arg 1; whnf); whnf
noncomputable def k347 (P : Params) : Obj := by
  refine (fun (o : Obj) (_ : nthO (topK P) 198 = o) => o) ?l ?h
  case h => conv => lhs; whnf
noncomputable def k349 (P : Params) : Obj := by
  refine (fun (o : Obj) (_ : nthO (topK P) 200 = o) => o) ?l ?h
  case h => conv => lhs; whnf
noncomputable def k350 (P : Params) : Obj := by
  refine (fun (o : Obj) (_ : nthO (topK P) 201 = o) => o) ?l ?h
  case h => conv => lhs; whnf
noncomputable def k351 (P : Params) : Obj := by
  refine (fun (o : Obj) (_ : nthO (topK P) 202 = o) => o) ?l ?h
  case h => conv => lhs; whnf
noncomputable def k352 (P : Params) : Obj := by
  refine (fun (o : Obj) (_ : nthO (topK P) 203 = o) => o) ?l ?h
  case h => conv => lhs; whnf
noncomputable def k353 (P : Params) : Obj := by
  refine (fun (o : Obj) (_ : nthO (topK P) 204 = o) => o) ?l ?h
  case h => conv => lhs; whnf
noncomputable def g354 : Obj := { cls := .type "super", data := .fields #[.ref 351, .ref 351, .ref 351] }
noncomputable def g355 : Obj := { cls := .type "builtin_function_or_method", data := .fields #[.builtin "object.__init_subclass__", .ref 351] }
noncomputable def g356 : Obj := { cls := .type "list", data := .seq #[.bytes #[] 632] }
noncomputable def g357 (P : Params) : Obj := { cls := .type "dict", data := .dict #[{ hash := hk P (.ofString "labels"), key := .str (.ofString "labels") 639, val := .ref 367 }] 1 }
noncomputable def g358 : Obj := { cls := .ref 351, dict := some 357 }
noncomputable def g359 (P : Params) : Obj := { cls := .type "frame", data := .dict #[{ hash := hk P (.ofString "self"), key := .str (.ofString "self") 633, val := .ref 358 }, { hash := hk P (.ofString "labels"), key := .str (.ofString "labels") 634, val := .ref 356 }, { hash := hk P (.ofString "blabels"), key := .str (.ofString "blabels") 637, val := .ref 361 }] 3 }
noncomputable def g360 : Obj := { cls := .type "list_iterator", data := .fields #[.none, .int 1 0] }
noncomputable def g361 : Obj := { cls := .type "list", data := .seq #[.bytes #[] 632] 1 }
noncomputable def g362 : Obj := { cls := .type "dict", data := .dict #[] 2 }
noncomputable def g363 (P : Params) : Obj := { cls := .type "frame", data := .dict #[{ hash := hk P (.ofString "label"), key := .str (.ofString "label") 636, val := .bytes #[] 632 }] 1 }
noncomputable def g364 : Obj := { cls := .type "tuple", data := .seq #[] }
noncomputable def g365 : Obj := { cls := .type "StopIteration", data := .fields #[.ref 364, .none, .none, .none, .bool false, .none] }
noncomputable def g366 : Obj := { cls := .type "list", data := .seq #[.bytes #[] 632] 1 }
noncomputable def g367 : Obj := { cls := .type "tuple", data := .seq #[.bytes #[] 632] }
noncomputable def g368 (P : Params) : Obj := { cls := .type "frame", data := .dict #[{ hash := hk P (.ofString "labels"), key := .str (.ofString "labels") 641, val := .ref 367 }, { hash := hk P (.ofString "l"), key := .str (.ofString "l") 644, val := .int 1 643 }, { hash := hk P (.ofString "total"), key := .str (.ofString "total") 646, val := .int 1 658 }, { hash := hk P (.ofString "i"), key := .str (.ofString "i") 649, val := .int 0 650 }, { hash := hk P (.ofString "j"), key := .str (.ofString "j") 651, val := .int 1 665 }, { hash := hk P (.ofString "label"), key := .str (.ofString "label") 652, val := .bytes #[] 632 }, { hash := hk P (.ofString "ll"), key := .str (.ofString "ll") 655, val := .int 0 654 }] 7 }
noncomputable def g369 : Obj := { cls := .type "tuple_iterator", data := .fields #[.none, .int 1 0] }
noncomputable def g370 : Obj := { cls := .type "tuple", data := .seq #[] }
noncomputable def g371 : Obj := { cls := .type "StopIteration", data := .fields #[.ref 370, .none, .none, .none, .bool false, .none] }
noncomputable def g372 : Obj := { cls := .type "list", data := .seq #[] }
noncomputable def k373 (P : Params) : Obj := by
  refine (fun (o : Obj) (_ : nthO (topK P) 205 = o) => o) ?l ?h
  case h => conv => lhs; whnf
noncomputable def k374 (P : Params) : Obj := by
  refine (fun (o : Obj) (_ : nthO (topK P) 206 = o) => o) ?l ?h
  case h => conv => lhs; whnf
noncomputable def g375 (P : Params) : Obj := { cls := .type "frame", data := .dict #[{ hash := hk P (.ofString "self"), key := .str (.ofString "self") 672, val := .ref 374 }, { hash := hk P (.ofString "labels"), key := .str (.ofString "labels") 673, val := .ref 372 }, { hash := hk P (.ofString "blabels"), key := .str (.ofString "blabels") 674, val := .ref 377 }] 3 }
noncomputable def g376 : Obj := { cls := .type "list_iterator", data := .fields #[.none, .int 0 0] }
noncomputable def g377 : Obj := { cls := .type "list", data := .seq #[] }
noncomputable def g378 : Obj := { cls := .type "dict", data := .dict #[] }
noncomputable def g379 : Obj := { cls := .type "tuple", data := .seq #[] }
noncomputable def g380 : Obj := { cls := .type "StopIteration", data := .fields #[.ref 379, .none, .none, .none, .bool false, .none] }
noncomputable def g381 : Obj := { cls := .type "list", data := .seq #[] }
noncomputable def k382 (P : Params) : Obj := by
  refine (fun (o : Obj) (_ : nthO (topK P) 207 = o) => o) ?l ?h
  case h => conv => lhs; whnf
noncomputable def g383 (P : Params) : Obj := { cls := .type "frame", data := .dict #[{ hash := hk P (.ofString "labels"), key := .str (.ofString "labels") 678, val := .ref 382 }, { hash := hk P (.ofString "l"), key := .str (.ofString "l") 681, val := .int 0 680 }, { hash := hk P (.ofString "total"), key := .str (.ofString "total") 683, val := .int 0 682 }, { hash := hk P (.ofString "i"), key := .str (.ofString "i") 686, val := .int (-1) 685 }, { hash := hk P (.ofString "j"), key := .str (.ofString "j") 688, val := .int 0 687 }] 5 }
noncomputable def g384 : Obj := { cls := .type "tuple_iterator", data := .fields #[.none, .int 0 0] }
noncomputable def g385 : Obj := { cls := .type "tuple", data := .seq #[] }
noncomputable def g386 : Obj := { cls := .type "StopIteration", data := .fields #[.ref 385, .none, .none, .none, .bool false, .none] }
noncomputable def g387 : Obj := { cls := .type "list", data := .seq #[.bytes #[0] 692] }
noncomputable def g388 (P : Params) : Obj := { cls := .type "dict", data := .dict #[{ hash := hk P (.ofString "labels"), key := .str (.ofString "labels") 700, val := .ref 398 }] 1 }
noncomputable def g389 : Obj := { cls := .ref 351, dict := some 388 }
noncomputable def g390 (P : Params) : Obj := { cls := .type "frame", data := .dict #[{ hash := hk P (.ofString "self"), key := .str (.ofString "self") 694, val := .ref 389 }, { hash := hk P (.ofString "labels"), key := .str (.ofString "labels") 695, val := .ref 387 }, { hash := hk P (.ofString "blabels"), key := .str (.ofString "blabels") 698, val := .ref 392 }] 3 }
noncomputable def g391 : Obj := { cls := .type "list_iterator", data := .fields #[.none, .int 1 0] }
noncomputable def g392 : Obj := { cls := .type "list", data := .seq #[.bytes #[0] 692] 1 }
noncomputable def g393 : Obj := { cls := .type "dict", data := .dict #[] 2 }
noncomputable def g394 (P : Params) : Obj := { cls := .type "frame", data := .dict #[{ hash := hk P (.ofString "label"), key := .str (.ofString "label") 697, val := .bytes #[0] 692 }] 1 }
noncomputable def g395 : Obj := { cls := .type "tuple", data := .seq #[] }
noncomputable def g396 : Obj := { cls := .type "StopIteration", data := .fields #[.ref 395, .none, .none, .none, .bool false, .none] }
noncomputable def g397 : Obj := { cls := .type "list", data := .seq #[.bytes #[0] 692] 1 }
noncomputable def g398 : Obj := { cls := .type "tuple", data := .seq #[.bytes #[0] 692] }
noncomputable def g399 (P : Params) : Obj := { cls := .type "frame", data := .dict #[{ hash := hk P (.ofString "labels"), key := .str (.ofString "labels") 702, val := .ref 398 }, { hash := hk P (.ofString "l"), key := .str (.ofString "l") 705, val := .int 1 704 }, { hash := hk P (.ofString "total"), key := .str (.ofString "total") 707, val := .int 2 719 }, { hash := hk P (.ofString "i"), key := .str (.ofString "i") 710, val := .int (-1) 709 }, { hash := hk P (.ofString "j"), key := .str (.ofString "j") 712, val := .int 1 725 }, { hash := hk P (.ofString "label"), key := .str (.ofString "label") 713, val := .bytes #[0] 692 }, { hash := hk P (.ofString "ll"), key := .str (.ofString "ll") 716, val := .int 1 715 }] 7 }
noncomputable def g400 : Obj := { cls := .type "tuple_iterator", data := .fields #[.none, .int 1 0] }
noncomputable def g401 : Obj := { cls := .type "tuple", data := .seq #[] }
noncomputable def g402 : Obj := { cls := .type "StopIteration", data := .fields #[.ref 401, .none, .none, .none, .bool false, .none] }
noncomputable def k403 (P : Params) : Obj := by
  refine (fun (o : Obj) (_ : nthO (topK P) 208 = o) => o) ?l ?h
  case h => conv => lhs; whnf
noncomputable def g404 : Obj := { cls := .none, data := .fields #[] }
noncomputable def e405 : Obj := by
  refine (fun (o : Obj) (_ : fe (st 19) (.ofString "_folded") = o) => o) ?l ?h
  case h => conv => lhs; (conv => arg 1; whnf); whnf
noncomputable def k406 (P : Params) : Obj := by
  refine (fun (o : Obj) (_ : nthO (topK P) 209 = o) => o) ?l ?h
  case h => conv => lhs; whnf
noncomputable def g408 : Obj := { cls := .type "tuple", data := .seq #[] }
noncomputable def g409 : Obj := { cls := .type "builtin_function_or_method", data := .fields #[.builtin "type.__prepare__", .type "type"] }
noncomputable def g410 (P : Params) : Obj := { cls := .type "dict", data := .dict #[{ hash := hk P (.ofString "__module__"), key := .str (.ofString "__module__") 745, val := .str (.ofString "dns.namedict") 730 }, { hash := hk P (.ofString "__qualname__"), key := .str (.ofString "__qualname__") 747, val := .str (.ofString "NameDict") 746 }, { hash := hk P (.ofString "__firstlineno__"), key := .str (.ofString "__firstlineno__") 749, val := .int 214 748 }, { hash := hk P (.ofString "__init__"), key := .str (.ofString "__init__") 756, val := .ref 421 }, { hash := hk P (.ofString "update_max_depth"), key := .str (.ofString "update_max_depth") 764, val := .ref 428 }, { hash := hk P (.ofString "__getitem__"), key := .str (.ofString "__getitem__") 772, val := .ref 435 }, { hash := hk P (.ofString "__setitem__"), key := .str (.ofString "__setitem__") 781, val := .ref 442 }, { hash := hk P (.ofString "__delitem__"), key := .str (.ofString "__delitem__") 791, val := .ref 449 }, { hash := hk P (.ofString "__len__"), key := .str (.ofString "__len__") 798, val := .ref 456 }, { hash := hk P (.ofString "has_key"), key := .str (.ofString "has_key") 806, val := .ref 463 }, { hash := hk P (.ofString "get_deepest_match"), key := .str (.ofString "get_deepest_match") 818, val := .ref 470 }, { hash := hk P (.ofString "__static_attributes__"), key := .str (.ofString "__static_attributes__") 822, val := .ref 471 }] 12 }
noncomputable def g411 : Obj := { cls := .type "tuple", data := .seq #[] }
noncomputable def g412 : Obj := { cls := .none, data := .fields #[.int 216 0, .int 4 0, .ref 420, .int 221 0, .int 4 0, .ref 427, .int 228 0, .int 4 0, .ref 434, .int 231 0, .int 4 0, .ref 441, .int 240 0, .int 4 0, .ref 448, .int 249 0, .int 4 0, .ref 455, .int 252 0, .int 4 0, .ref 462, .int 255 0, .int 4 0, .ref 469] }
noncomputable def g413 : Obj := { cls := .type "code", data := .fields #[.str (.ofString "NameDict") 740, .str (.ofString "NameDict") 741, .str (.ofString "/claim/cut.py") 742, .int 214 0, .int 0 0, .int 0 0, .int 0 0, .int 0 0, .ref 411, .bool false, .int 181 0, .ref 412, .none, .none, .none, .none, .int 743 0, .int 214 0, .str (.ofString "/claim/cut.py") 744] }
noncomputable def g414 : Obj := { cls := .type "frame", slots := #[some (.ref 413), some (.ref 3), some (.ref 410), none, some (.str (.ofString "dns.namedict") 730), none, some (.ref 0)] }
noncomputable def k415 (P : Params) : Obj := by
  refine (fun (o : Obj) (_ : nthO (topK P) 211 = o) => o) ?l ?h
  case h => conv => lhs; whnf
noncomputable def g416 : Obj := { cls := .none, data := .fields #[] }
noncomputable def k417 (P : Params) : Obj := by
  refine (fun (o : Obj) (_ : nthO (topK P) 212 = o) => o) ?l ?h
  case h => conv => lhs; whnf
noncomputable def k418 (P : Params) : Obj := by
  refine (fun (o : Obj) (_ : nthO (topK P) 213 = o) => o) ?l ?h
  case h => conv => lhs; whnf
noncomputable def e419 : Obj := by
  refine (fun (o : Obj) (_ : fe (me 20 0) (.ofString "NameDict.__init__") = o) => o) ?l ?h
  case h => conv => lhs; (conv => arg 1; whnf); whnf
noncomputable def k420 (P : Params) : Obj := by
  refine (fun (o : Obj) (_ : nthO (topK P) 214 = o) => o) ?l ?h
  case h => conv => lhs; whnf
noncomputable def k422 (P : Params) : Obj := by
  refine (fun (o : Obj) (_ : nthO (topK P) 216 = o) => o) ?l ?h
  case h => conv => lhs; whnf
noncomputable def g423 : Obj := { cls := .none, data := .fields #[] }
noncomputable def k424 (P : Params) : Obj := by
  refine (fun (o : Obj) (_ : nthO (topK P) 217 = o) => o) ?l ?h
  case h => conv => lhs; whnf
noncomputable def k425 (P : Params) : Obj := by
  refine (fun (o : Obj) (_ : nthO (topK P) 218 = o) => o) ?l ?h
  case h => conv => lhs; whnf
noncomputable def e426 : Obj := by
  refine (fun (o : Obj) (_ : fe (me 20 1) (.ofString "NameDict.update_max_depth") = o) => o) ?l ?h
  case h => conv => lhs; (conv => arg 1; whnf); whnf
noncomputable def k427 (P : Params) : Obj := by
  refine (fun (o : Obj) (_ : nthO (topK P) 219 = o) => o) ?l ?h
  case h => conv => lhs; whnf
noncomputable def k429 (P : Params) : Obj := by
  refine (fun (o : Obj) (_ : nthO (topK P) 221 = o) => o) ?l ?h
  case h => conv => lhs; whnf
noncomputable def g430 : Obj := { cls := .none, data := .fields #[] }
noncomputable def k431 (P : Params) : Obj := by
  refine (fun (o : Obj) (_ : nthO (topK P) 222 = o) => o) ?l ?h
  case h => conv => lhs; whnf
noncomputable def k432 (P : Params) : Obj := by
  refine (fun (o : Obj) (_ : nthO (topK P) 223 = o) => o) ?l ?h
  case h => conv => lhs; whnf
noncomputable def e433 : Obj := by
  refine (fun (o : Obj) (_ : fe (me 20 2) (.ofString "NameDict.__getitem__") = o) => o) ?l ?h
  case h => conv => lhs; (conv => arg 1; whnf); whnf
noncomputable def k434 (P : Params) : Obj := by
  refine (fun (o : Obj) (_ : nthO (topK P) 224 = o) => o) ?l ?h
  case h => conv => lhs; whnf
noncomputable def k436 (P : Params) : Obj := by
  refine (fun (o : Obj) (_ : nthO (topK P) 226 = o) => o) ?l ?h
  case h => conv => lhs; whnf
noncomputable def g437 : Obj := { cls := .none, data := .fields #[] }
noncomputable def k438 (P : Params) : Obj := by
  refine (fun (o : Obj) (_ : nthO (topK P) 227 = o) => o) ?l ?h
  case h => conv => lhs; whnf
noncomputable def k439 (P : Params) : Obj := by
  refine (fun (o : Obj) (_ : nthO (topK P) 228 = o) => o) ?l ?h
  case h => conv => lhs; whnf
noncomputable def e440 : Obj := by
  refine (fun (o : Obj) (_ : fe (me 20 3) (.ofString "NameDict.__setitem__") = o) => o) ?l ?h
  case h => conv => lhs; (conv => arg 1; whnf); whnf
noncomputable def k441 (P : Params) : Obj := by
  refine (fun (o : Obj) (_ : nthO (topK P) 229 = o) => o) ?l ?h
  case h => conv => lhs; whnf
noncomputable def k443 (P : Params) : Obj := by
  refine (fun (o : Obj) (_ : nthO (topK P) 231 = o) => o) ?l ?h
  case h => conv => lhs; whnf
noncomputable def g444 : Obj := { cls := .none, data := .fields #[] }
noncomputable def k445 (P : Params) : Obj := by
  refine (fun (o : Obj) (_ : nthO (topK P) 232 = o) => o) ?l ?h
  case h => conv => lhs; whnf
noncomputable def k446 (P : Params) : Obj := by
  refine (fun (o : Obj) (_ : nthO (topK P) 233 = o) => o) ?l ?h
  case h => conv => lhs; whnf
noncomputable def e447 : Obj := by
  refine (fun (o : Obj) (_ : fe (me 20 4) (.ofString "NameDict.__delitem__") = o) => o) ?l ?h
  case h => conv => lhs; (conv => arg 1; whnf); whnf
noncomputable def k448 (P : Params) : Obj := by
  refine (fun (o : Obj) (_ : nthO (topK P) 234 = o) => o) ?l ?h
  case h => conv => lhs; whnf
noncomputable def k450 (P : Params) : Obj := by
  refine (fun (o : Obj) (_ : nthO (topK P) 236 = o) => o) ?l ?h
  case h => conv => lhs; whnf
noncomputable def g451 : Obj := { cls := .none, data := .fields #[] }
noncomputable def k452 (P : Params) : Obj := by
  refine (fun (o : Obj) (_ : nthO (topK P) 237 = o) => o) ?l ?h
  case h => conv => lhs; whnf
noncomputable def k453 (P : Params) : Obj := by
  refine (fun (o : Obj) (_ : nthO (topK P) 238 = o) => o) ?l ?h
  case h => conv => lhs; whnf
noncomputable def e454 : Obj := by
  refine (fun (o : Obj) (_ : fe (me 20 5) (.ofString "NameDict.__len__") = o) => o) ?l ?h
  case h => conv => lhs; (conv => arg 1; whnf); whnf
noncomputable def k455 (P : Params) : Obj := by
  refine (fun (o : Obj) (_ : nthO (topK P) 239 = o) => o) ?l ?h
  case h => conv => lhs; whnf
noncomputable def k457 (P : Params) : Obj := by
  refine (fun (o : Obj) (_ : nthO (topK P) 241 = o) => o) ?l ?h
  case h => conv => lhs; whnf
noncomputable def g458 : Obj := { cls := .none, data := .fields #[] }
noncomputable def k459 (P : Params) : Obj := by
  refine (fun (o : Obj) (_ : nthO (topK P) 242 = o) => o) ?l ?h
  case h => conv => lhs; whnf
noncomputable def k460 (P : Params) : Obj := by
  refine (fun (o : Obj) (_ : nthO (topK P) 243 = o) => o) ?l ?h
  case h => conv => lhs; whnf
noncomputable def e461 : Obj := by
  refine (fun (o : Obj) (_ : fe (me 20 6) (.ofString "NameDict.has_key") = o) => o) ?l ?h
  case h => conv => lhs; (conv => arg 1; whnf); whnf
noncomputable def k462 (P : Params) : Obj := by
  refine (fun (o : Obj) (_ : nthO (topK P) 244 = o) => o) ?l ?h
  case h => conv => lhs; whnf
noncomputable def k464 (P : Params) : Obj := by
  refine (fun (o : Obj) (_ : nthO (topK P) 246 = o) => o) ?l ?h
  case h => conv => lhs; whnf
noncomputable def g465 : Obj := { cls := .none, data := .fields #[] }
noncomputable def k466 (P : Params) : Obj := by
  refine (fun (o : Obj) (_ : nthO (topK P) 247 = o) => o) ?l ?h
  case h => conv => lhs; whnf
noncomputable def k467 (P : Params) : Obj := by
  refine (fun (o : Obj) (_ : nthO (topK P) 248 = o) => o) ?l ?h
  case h => conv => lhs; whnf
noncomputable def e468 : Obj := by
  refine (fun (o : Obj) (_ : fe (me 20 7) (.ofString "NameDict.get_deepest_match") = o) => o) ?l ?h
  case h => conv => lhs; (conv => arg 1; whnf); whnf
noncomputable def k469 (P : Params) : Obj := by
  refine (fun (o : Obj) (_ : nthO (topK P) 249 = o) => o) ?l ?h
  case h => conv => lhs; whnf
noncomputable def k471 (P : Params) : Obj := by
  refine (fun (o : Obj) (_ : nthO (topK P) 251 = o) => o) ?l ?h
  case h => conv => lhs; whnf
noncomputable def k472 (P : Params) : Obj := by
  refine (fun (o : Obj) (_ : nthO (topK P) 252 = o) => o) ?l ?h
  case h => conv => lhs; whnf
noncomputable def k473 (P : Params) : Obj := by
  refine (fun (o : Obj) (_ : nthO (topK P) 253 = o) => o) ?l ?h
  case h => conv => lhs; whnf
noncomputable def k474 (P : Params) : Obj := by
  refine (fun (o : Obj) (_ : nthO (topK P) 254 = o) => o) ?l ?h
  case h => conv => lhs; whnf
noncomputable def k475 (P : Params) : Obj := by
  refine (fun (o : Obj) (_ : nthO (topK P) 255 = o) => o) ?l ?h
  case h => conv => lhs; whnf
noncomputable def g476 : Obj := { cls := .type "super", data := .fields #[.ref 473, .ref 473, .ref 473] }
noncomputable def g477 : Obj := { cls := .type "builtin_function_or_method", data := .fields #[.builtin "object.__init_subclass__", .ref 473] }
noncomputable def k478 (P : Params) : Obj := by
  refine (fun (o : Obj) (_ : nthO (topK P) 256 = o) => o) ?l ?h
  case h => conv => lhs; whnf
noncomputable def k479 (P : Params) : Obj := by
  refine (fun (o : Obj) (_ : nthO (topK P) 257 = o) => o) ?l ?h
  case h => conv => lhs; whnf
noncomputable def k480 (P : Params) : Obj := by
  refine (fun (o : Obj) (_ : nthO (topK P) 258 = o) => o) ?l ?h
  case h => conv => lhs; whnf
noncomputable def k481 (P : Params) : Obj := by
  refine (fun (o : Obj) (_ : nthO (topK P) 259 = o) => o) ?l ?h
  case h => conv => lhs; whnf
noncomputable def k482 (P : Params) : Obj := by
  refine (fun (o : Obj) (_ : nthO (topK P) 260 = o) => o) ?l ?h
  case h => conv => lhs; whnf
noncomputable def k483 (P : Params) : Obj := by
  refine (fun (o : Obj) (_ : nthO (topK P) 261 = o) => o) ?l ?h
  case h => conv => lhs; whnf
noncomputable def k484 (P : Params) : Obj := by
  refine (fun (o : Obj) (_ : nthO (topK P) 262 = o) => o) ?l ?h
  case h => conv => lhs; whnf
noncomputable def k485 (P : Params) : Obj := by
  refine (fun (o : Obj) (_ : nthO (topK P) 263 = o) => o) ?l ?h
  case h => conv => lhs; whnf
noncomputable def k486 (P : Params) : Obj := by
  refine (fun (o : Obj) (_ : nthO (topK P) 264 = o) => o) ?l ?h
  case h => conv => lhs; whnf
noncomputable def k487 (P : Params) : Obj := by
  refine (fun (o : Obj) (_ : nthO (topK P) 265 = o) => o) ?l ?h
  case h => conv => lhs; whnf
noncomputable def k488 (P : Params) : Obj := by
  refine (fun (o : Obj) (_ : nthO (topK P) 266 = o) => o) ?l ?h
  case h => conv => lhs; whnf
noncomputable def k489 (P : Params) : Obj := by
  refine (fun (o : Obj) (_ : nthO (topK P) 267 = o) => o) ?l ?h
  case h => conv => lhs; whnf
noncomputable def g490 : Obj := { cls := .none, data := .fields #[] }
noncomputable def k491 (P : Params) : Obj := by
  refine (fun (o : Obj) (_ : nthO (topK P) 268 = o) => o) ?l ?h
  case h => conv => lhs; whnf
noncomputable def k492 (P : Params) : Obj := by
  refine (fun (o : Obj) (_ : nthO (topK P) 269 = o) => o) ?l ?h
  case h => conv => lhs; whnf
noncomputable def e493 : Obj := by
  refine (fun (o : Obj) (_ : fe (st 24) (.ofString "_law_at") = o) => o) ?l ?h
  case h => conv => lhs; (conv => arg 1; whnf); whnf
noncomputable def k494 (P : Params) : Obj := by
  refine (fun (o : Obj) (_ : nthO (topK P) 270 = o) => o) ?l ?h
  case h => conv => lhs; whnf
noncomputable def k496 (P : Params) : Obj := by
  refine (fun (o : Obj) (_ : nthO (topK P) 272 = o) => o) ?l ?h
  case h => conv => lhs; whnf
noncomputable def g497 : Obj := { cls := .none, data := .fields #[] }
noncomputable def k498 (P : Params) : Obj := by
  refine (fun (o : Obj) (_ : nthO (topK P) 273 = o) => o) ?l ?h
  case h => conv => lhs; whnf
noncomputable def k499 (P : Params) : Obj := by
  refine (fun (o : Obj) (_ : nthO (topK P) 274 = o) => o) ?l ?h
  case h => conv => lhs; whnf
noncomputable def e500 : Obj := by
  refine (fun (o : Obj) (_ : fe (st 25) (.ofString "_law_small") = o) => o) ?l ?h
  case h => conv => lhs; (conv => arg 1; whnf); whnf
noncomputable def k501 (P : Params) : Obj := by
  refine (fun (o : Obj) (_ : nthO (topK P) 275 = o) => o) ?l ?h
  case h => conv => lhs; whnf
noncomputable def k503 (P : Params) : Obj := by
  refine (fun (o : Obj) (_ : nthO (topK P) 277 = o) => o) ?l ?h
  case h => conv => lhs; whnf
noncomputable def g504 : Obj := { cls := .none, data := .fields #[] }
noncomputable def k505 (P : Params) : Obj := by
  refine (fun (o : Obj) (_ : nthO (topK P) 278 = o) => o) ?l ?h
  case h => conv => lhs; whnf
noncomputable def k506 (P : Params) : Obj := by
  refine (fun (o : Obj) (_ : nthO (topK P) 279 = o) => o) ?l ?h
  case h => conv => lhs; whnf
noncomputable def e507 : Obj := by
  refine (fun (o : Obj) (_ : fe (st 26) (.ofString "_law_turned") = o) => o) ?l ?h
  case h => conv => lhs; (conv => arg 1; whnf); whnf
noncomputable def k508 (P : Params) : Obj := by
  refine (fun (o : Obj) (_ : nthO (topK P) 280 = o) => o) ?l ?h
  case h => conv => lhs; whnf
noncomputable def k510 (P : Params) : Obj := by
  refine (fun (o : Obj) (_ : nthO (topK P) 282 = o) => o) ?l ?h
  case h => conv => lhs; whnf
noncomputable def g511 : Obj := { cls := .none, data := .fields #[] }
noncomputable def k512 (P : Params) : Obj := by
  refine (fun (o : Obj) (_ : nthO (topK P) 283 = o) => o) ?l ?h
  case h => conv => lhs; whnf
noncomputable def k513 (P : Params) : Obj := by
  refine (fun (o : Obj) (_ : nthO (topK P) 284 = o) => o) ?l ?h
  case h => conv => lhs; whnf
noncomputable def e514 : Obj := by
  refine (fun (o : Obj) (_ : fe (st 27) (.ofString "_law_fresh") = o) => o) ?l ?h
  case h => conv => lhs; (conv => arg 1; whnf); whnf
noncomputable def k515 (P : Params) : Obj := by
  refine (fun (o : Obj) (_ : nthO (topK P) 285 = o) => o) ?l ?h
  case h => conv => lhs; whnf
noncomputable def k517 (P : Params) : Obj := by
  refine (fun (o : Obj) (_ : nthO (topK P) 287 = o) => o) ?l ?h
  case h => conv => lhs; whnf
noncomputable def g518 : Obj := { cls := .none, data := .fields #[] }
noncomputable def k519 (P : Params) : Obj := by
  refine (fun (o : Obj) (_ : nthO (topK P) 288 = o) => o) ?l ?h
  case h => conv => lhs; whnf
noncomputable def k520 (P : Params) : Obj := by
  refine (fun (o : Obj) (_ : nthO (topK P) 289 = o) => o) ?l ?h
  case h => conv => lhs; whnf
noncomputable def e521 : Obj := by
  refine (fun (o : Obj) (_ : fe (st 28) (.ofString "_law_drawn") = o) => o) ?l ?h
  case h => conv => lhs; (conv => arg 1; whnf); whnf
noncomputable def k522 (P : Params) : Obj := by
  refine (fun (o : Obj) (_ : nthO (topK P) 290 = o) => o) ?l ?h
  case h => conv => lhs; whnf
noncomputable def k524 (P : Params) : Obj := by
  refine (fun (o : Obj) (_ : nthO (topK P) 292 = o) => o) ?l ?h
  case h => conv => lhs; whnf
noncomputable def g525 : Obj := { cls := .none, data := .fields #[] }
noncomputable def e526 : Obj := by
  refine (fun (o : Obj) (_ : fe (st 29) (.ofString "_law_name") = o) => o) ?l ?h
  case h => conv => lhs; (conv => arg 1; whnf); whnf
noncomputable def k527 (P : Params) : Obj := by
  refine (fun (o : Obj) (_ : nthO (topK P) 293 = o) => o) ?l ?h
  case h => conv => lhs; whnf
noncomputable def k529 (P : Params) : Obj := by
  refine (fun (o : Obj) (_ : nthO (topK P) 295 = o) => o) ?l ?h
  case h => conv => lhs; whnf
noncomputable def g530 : Obj := { cls := .none, data := .fields #[] }
noncomputable def k531 (P : Params) : Obj := by
  refine (fun (o : Obj) (_ : nthO (topK P) 296 = o) => o) ?l ?h
  case h => conv => lhs; whnf
noncomputable def k532 (P : Params) : Obj := by
  refine (fun (o : Obj) (_ : nthO (topK P) 297 = o) => o) ?l ?h
  case h => conv => lhs; whnf
noncomputable def e533 : Obj := by
  refine (fun (o : Obj) (_ : fe (st 30) (.ofString "_law_spot") = o) => o) ?l ?h
  case h => conv => lhs; (conv => arg 1; whnf); whnf
noncomputable def k534 (P : Params) : Obj := by
  refine (fun (o : Obj) (_ : nthO (topK P) 298 = o) => o) ?l ?h
  case h => conv => lhs; whnf
noncomputable def k536 (P : Params) : Obj := by
  refine (fun (o : Obj) (_ : nthO (topK P) 300 = o) => o) ?l ?h
  case h => conv => lhs; whnf
noncomputable def g537 : Obj := { cls := .none, data := .fields #[] }
noncomputable def k538 (P : Params) : Obj := by
  refine (fun (o : Obj) (_ : nthO (topK P) 301 = o) => o) ?l ?h
  case h => conv => lhs; whnf
noncomputable def k539 (P : Params) : Obj := by
  refine (fun (o : Obj) (_ : nthO (topK P) 302 = o) => o) ?l ?h
  case h => conv => lhs; whnf
noncomputable def e540 : Obj := by
  refine (fun (o : Obj) (_ : fe (st 31) (.ofString "_law_got") = o) => o) ?l ?h
  case h => conv => lhs; (conv => arg 1; whnf); whnf
noncomputable def k541 (P : Params) : Obj := by
  refine (fun (o : Obj) (_ : nthO (topK P) 303 = o) => o) ?l ?h
  case h => conv => lhs; whnf
noncomputable def k543 (P : Params) : Obj := by
  refine (fun (o : Obj) (_ : nthO (topK P) 305 = o) => o) ?l ?h
  case h => conv => lhs; whnf
noncomputable def g544 : Obj := { cls := .none, data := .fields #[] }
noncomputable def e545 : Obj := by
  refine (fun (o : Obj) (_ : fe (st 32) (.ofString "_law_match") = o) => o) ?l ?h
  case h => conv => lhs; (conv => arg 1; whnf); whnf
noncomputable def k546 (P : Params) : Obj := by
  refine (fun (o : Obj) (_ : nthO (topK P) 306 = o) => o) ?l ?h
  case h => conv => lhs; whnf
noncomputable def k548 (P : Params) : Obj := by
  refine (fun (o : Obj) (_ : nthO (topK P) 308 = o) => o) ?l ?h
  case h => conv => lhs; whnf
noncomputable def g549 : Obj := { cls := .none, data := .fields #[] }
noncomputable def k550 (P : Params) : Obj := by
  refine (fun (o : Obj) (_ : nthO (topK P) 309 = o) => o) ?l ?h
  case h => conv => lhs; whnf
noncomputable def k551 (P : Params) : Obj := by
  refine (fun (o : Obj) (_ : nthO (topK P) 310 = o) => o) ?l ?h
  case h => conv => lhs; whnf
noncomputable def e552 : Obj := by
  refine (fun (o : Obj) (_ : fe (st 33) (.ofString "_law_deepest") = o) => o) ?l ?h
  case h => conv => lhs; (conv => arg 1; whnf); whnf
noncomputable def k553 (P : Params) : Obj := by
  refine (fun (o : Obj) (_ : nthO (topK P) 311 = o) => o) ?l ?h
  case h => conv => lhs; whnf
noncomputable def k555 (P : Params) : Obj := by
  refine (fun (o : Obj) (_ : nthO (topK P) 313 = o) => o) ?l ?h
  case h => conv => lhs; whnf
noncomputable def g556 : Obj := { cls := .none, data := .fields #[] }
noncomputable def e557 : Obj := by
  refine (fun (o : Obj) (_ : fe (st 34) (.ofString "_law_state") = o) => o) ?l ?h
  case h => conv => lhs; (conv => arg 1; whnf); whnf
noncomputable def k558 (P : Params) : Obj := by
  refine (fun (o : Obj) (_ : nthO (topK P) 314 = o) => o) ?l ?h
  case h => conv => lhs; whnf
noncomputable def k560 (P : Params) : Obj := by
  refine (fun (o : Obj) (_ : nthO (topK P) 316 = o) => o) ?l ?h
  case h => conv => lhs; whnf
noncomputable def g561 : Obj := { cls := .none, data := .fields #[] }
noncomputable def k562 (P : Params) : Obj := by
  refine (fun (o : Obj) (_ : nthO (topK P) 317 = o) => o) ?l ?h
  case h => conv => lhs; whnf
noncomputable def k563 (P : Params) : Obj := by
  refine (fun (o : Obj) (_ : nthO (topK P) 318 = o) => o) ?l ?h
  case h => conv => lhs; whnf
noncomputable def e564 : Obj := by
  refine (fun (o : Obj) (_ : fe (st 35) (.ofString "_law_deed") = o) => o) ?l ?h
  case h => conv => lhs; (conv => arg 1; whnf); whnf
noncomputable def k565 (P : Params) : Obj := by
  refine (fun (o : Obj) (_ : nthO (topK P) 319 = o) => o) ?l ?h
  case h => conv => lhs; whnf
noncomputable def k567 (P : Params) : Obj := by
  refine (fun (o : Obj) (_ : nthO (topK P) 321 = o) => o) ?l ?h
  case h => conv => lhs; whnf
noncomputable def g568 : Obj := { cls := .none, data := .fields #[] }
noncomputable def k569 (P : Params) : Obj := by
  refine (fun (o : Obj) (_ : nthO (topK P) 322 = o) => o) ?l ?h
  case h => conv => lhs; whnf
noncomputable def k570 (P : Params) : Obj := by
  refine (fun (o : Obj) (_ : nthO (topK P) 323 = o) => o) ?l ?h
  case h => conv => lhs; whnf
noncomputable def e571 : Obj := by
  refine (fun (o : Obj) (_ : fe (st 36) (.ofString "law") = o) => o) ?l ?h
  case h => conv => lhs; (conv => arg 1; whnf); whnf
noncomputable def k572 (P : Params) : Obj := by
  refine (fun (o : Obj) (_ : nthO (topK P) 324 = o) => o) ?l ?h
  case h => conv => lhs; whnf
noncomputable def t12 (P : Params) : BT :=
  (.node (boot_o_0 P) (.node (boot_o_1 P) (.node (g3a P) (.node (boot_o_7 P) (.node (k15 P) (.node (k31 P) (.node g63 (.node f127 .nil .nil) .nil) (.node g95 .nil .nil)) (.node (k47 P) (.node g79 .nil .nil) (.node (g111 P) .nil .nil))) (.node g23 (.node g39 (.node g71 .nil .nil) (.node g103 .nil .nil)) (.node (k55 P) (.node (g87 P) .nil .nil) (.node g119 .nil .nil)))) (.node g11 (.node e19 (.node (k35 P) (.node (k67 P) (.node (k131 P) .nil .nil) .nil) (.node (g99 P) .nil .nil)) (.node g51 (.node g83 .nil .nil) (.node g115 .nil .nil))) (.node g27 (.node (k43 P) (.node (g75 P) .nil .nil) (.node g107 .nil .nil)) (.node g59 (.node g91 .nil .nil) (.node (k123 P) .nil .nil))))) (.node (boot_o_5 P) (.node (boot_o_9 P) (.node (k17 P) (.node g33 (.node g65 (.node g129 .nil .nil) .nil) (.node (k97 P) .nil .nil)) (.node (g49 P) (.node (k81 P) .nil .nil) (.node g113 .nil .nil))) (.node g25 (.node g41 (.node (k73 P) .nil .nil) (.node (k105 P) .nil .nil)) (.node g57 (.node g89 .nil .nil) (.node (k121 P) .nil .nil)))) (.node g13 (.node f21 (.node (g37 P) (.node (k69 P) (.node (k133 P) .nil .nil) .nil) (.node g101 .nil .nil)) (.node g53 (.node (k85 P) .nil .nil) (.node (k117 P) .nil .nil))) (.node (k29 P) (.node g45 (.node g77 .nil .nil) (.node (k109 P) .nil .nil)) (.node (g61 P) (.node (k93 P) .nil .nil) (.node e125 .nil .nil)))))) (.node (k2 P) (.node (boot_o_4 P) (.node (boot_o_8 P) (.node g16 (.node (k32 P) (.node g64 (.node (k128 P) .nil .nil) .nil) (.node g96 .nil .nil)) (.node g48 (.node (k80 P) .nil .nil) (.node g112 .nil .nil))) (.node (g24 P) (.node g40 (.node g72 .nil .nil) (.node (k104 P) .nil .nil)) (.node (k56 P) (.node g88 .nil .nil) (.node g120 .nil .nil)))) (.node g12a (.node (k20 P) (.node g36 (.node (k68 P) (.node e132 .nil .nil) .nil) (.node g100 .nil .nil)) (.node g52 (.node g84 .nil .nil) (.node (k116 P) .nil .nil))) (.node g28 (.node (k44 P) (.node g76 .nil .nil) (.node g108 .nil .nil)) (.node g60 (.node (k92 P) .nil .nil) (.node (k124 P) .nil .nil))))) (.node (boot_o_6 P) (.node (boot_o_10 P) (.node (k18 P) (.node g34 (.node (k66 P) (.node (k130 P) .nil .nil) .nil) (.node g98 .nil .nil)) (.node g50 (.node (k82 P) .nil .nil) (.node g114 .nil .nil))) (.node g26 (.node (k42 P) (.node g74 .nil .nil) (.node (k106 P) .nil .nil)) (.node g58 (.node g90 .nil .nil) (.node g122 .nil .nil)))) (.node g14 (.node (k22 P) (.node g38 (.node (k70 P) (.node f134 .nil .nil) .nil) (.node g102 .nil .nil)) (.node (k54 P) (.node g86 .nil .nil) (.node (k118 P) .nil .nil))) (.node (k30 P) (.node g46 (.node g78 .nil .nil) (.node g110 .nil .nil)) (.node g62 (.node (k94 P) .nil .nil) (.node (k126 P) .nil .nil)))))))
noncomputable def t13 (P : Params) : BT :=
  (.node (boot_o_0 P) (.node (boot_o_1 P) (.node (g3b P) (.node (boot_o_7 P) (.node (k15 P) (.node (k31 P) (.node g63 (.node f127 (.node (k255 P) .nil .nil) .nil) (.node (k191 P) (.node (k319 P) .nil .nil) .nil)) (.node g95 (.node (k159 P) (.node e287 .nil .nil) .nil) (.node f223 (.node (k351 P) .nil .nil) .nil))) (.node (k47 P) (.node g79 (.node g143 (.node (k271 P) .nil .nil) .nil) (.node e207 (.node g335 .nil .nil) .nil)) (.node (g111 P) (.node (k175 P) (.node f303 .nil .nil) .nil) (.node (k239 P) .nil .nil)))) (.node g23 (.node g39 (.node g71 (.node g135 (.node g263 .nil .nil) .nil) (.node (k199 P) (.node g327 .nil .nil) .nil)) (.node g103 (.node f167 (.node (k295 P) .nil .nil) .nil) (.node (k231 P) .nil .nil))) (.node (k55 P) (.node (g87 P) (.node e151 (.node (k279 P) .nil .nil) .nil) (.node (k215 P) (.node g343 .nil .nil) .nil)) (.node g119 (.node g183 (.node (k311 P) .nil .nil) .nil) (.node (k247 P) .nil .nil))))) (.node g11 (.node e19 (.node (k35 P) (.node (k67 P) (.node (k131 P) (.node e259 .nil .nil) .nil) (.node f195 (.node e323 .nil .nil) .nil)) (.node (g99 P) (.node (k163 P) (.node g291 .nil .nil) .nil) (.node (k227 P) (.node g355 .nil .nil) .nil))) (.node g51 (.node g83 (.node (k147 P) (.node f275 .nil .nil) .nil) (.node g211 (.node (k339 P) .nil .nil) .nil)) (.node g115 (.node e179 (.node (k307 P) .nil .nil) .nil) (.node e243 .nil .nil)))) (.node g27 (.node (k43 P) (.node (g75 P) (.node g139 (.node (k267 P) .nil .nil) .nil) (.node (k203 P) (.node (k331 P) .nil .nil) .nil)) (.node g107 (.node (k171 P) (.node (k299 P) .nil .nil) .nil) (.node (k235 P) .nil .nil))) (.node g59 (.node g91 (.node g155 (.node (k283 P) .nil .nil) .nil) (.node (k219 P) (.node (k347 P) .nil .nil) .nil)) (.node (k123 P) (.node (k187 P) (.node e315 .nil .nil) .nil) (.node e251 .nil .nil)))))) (.node (boot_o_5 P) (.node (boot_o_9 P) (.node (k17 P) (.node g33 (.node g65 (.node g129 (.node (k257 P) .nil .nil) .nil) (.node e193 (.node (k321 P) .nil .nil) .nil)) (.node (k97 P) (.node (k161 P) (.node f289 .nil .nil) .nil) (.node g225 (.node (k353 P) .nil .nil) .nil))) (.node (g49 P) (.node (k81 P) (.node (k145 P) (.node e273 .nil .nil) .nil) (.node f209 (.node (k337 P) .nil .nil) .nil)) (.node g113 (.node (k177 P) (.node g305 .nil .nil) .nil) (.node (k241 P) .nil .nil)))) (.node g25 (.node g41 (.node (k73 P) (.node (g137 P) (.node (k265 P) .nil .nil) .nil) (.node (k201 P) (.node (k329 P) .nil .nil) .nil)) (.node (k105 P) (.node g169 (.node (k297 P) .nil .nil) .nil) (.node g233 .nil .nil))) (.node g57 (.node g89 (.node f153 (.node (k281 P) .nil .nil) .nil) (.node (k217 P) (.node (k345 P) .nil .nil) .nil)) (.node (k121 P) (.node (k185 P) (.node (k313 P) .nil .nil) .nil) (.node (k249 P) .nil .nil))))) (.node g13 (.node f21 (.node (g37 P) (.node (k69 P) (.node (k133 P) (.node f261 .nil .nil) .nil) (.node g197 (.node f325 .nil .nil) .nil)) (.node g101 (.node e165 (.node (k293 P) .nil .nil) .nil) (.node (k229 P) .nil .nil))) (.node g53 (.node (k85 P) (.node (k149 P) (.node g277 .nil .nil) .nil) (.node (k213 P) (.node (k341 P) .nil .nil) .nil)) (.node (k117 P) (.node f181 (.node (k309 P) .nil .nil) .nil) (.node f245 .nil .nil)))) (.node (k29 P) (.node g45 (.node g77 (.node g141 (.node (k269 P) .nil .nil) .nil) (.node (k205 P) (.node (k333 P) .nil .nil) .nil)) (.node (k109 P) (.node (k173 P) (.node e301 .nil .nil) .nil) (.node (k237 P) .nil .nil))) (.node (g61 P) (.node (k93 P) (.node (k157 P) (.node (k285 P) .nil .nil) .nil) (.node e221 (.node (k349 P) .nil .nil) .nil)) (.node e125 (.node (k189 P) (.node f317 .nil .nil) .nil) (.node f253 .nil .nil))))))) (.node (k2 P) (.node (boot_o_4 P) (.node (boot_o_8 P) (.node g16 (.node (k32 P) (.node g64 (.node (k128 P) (.node g256 .nil .nil) .nil) (.node (k192 P) (.node g320 .nil .nil) .nil)) (.node g96 (.node f160 (.node (k288 P) .nil .nil) .nil) (.node (k224 P) (.node (k352 P) .nil .nil) .nil))) (.node g48 (.node (k80 P) (.node e144 (.node (k272 P) .nil .nil) .nil) (.node (k208 P) (.node (k336 P) .nil .nil) .nil)) (.node g112 (.node g176 (.node (k304 P) .nil .nil) .nil) (.node g240 .nil .nil)))) (.node (g24 P) (.node g40 (.node g72 (.node g136 (.node (k264 P) .nil .nil) .nil) (.node e200 (.node (k328 P) .nil .nil) .nil)) (.node (k104 P) (.node (k168 P) (.node f296 .nil .nil) .nil) (.node (k232 P) .nil .nil))) (.node (k56 P) (.node g88 (.node (k152 P) (.node e280 .nil .nil) .nil) (.node f216 (.node (k344 P) .nil .nil) .nil)) (.node g120 (.node (k184 P) (.node g312 .nil .nil) .nil) (.node g248 .nil .nil))))) (.node g12b (.node (k20 P) (.node g36 (.node (k68 P) (.node e132 (.node (k260 P) .nil .nil) .nil) (.node (k196 P) (.node (k324 P) .nil .nil) .nil)) (.node g100 (.node (k164 P) (.node (k292 P) .nil .nil) .nil) (.node e228 .nil .nil))) (.node g52 (.node g84 (.node g148 (.node (k276 P) .nil .nil) .nil) (.node (k212 P) (.node f340 .nil .nil) .nil)) (.node (k116 P) (.node (k180 P) (.node e308 .nil .nil) .nil) (.node (k244 P) .nil .nil)))) (.node g28 (.node (k44 P) (.node g76 (.node g140 (.node f268 .nil .nil) .nil) (.node g204 (.node f332 .nil .nil) .nil)) (.node g108 (.node e172 (.node (k300 P) .nil .nil) .nil) (.node e236 .nil .nil))) (.node g60 (.node (k92 P) (.node (k156 P) (.node g284 .nil .nil) .nil) (.node (k220 P) (.node f348 .nil .nil) .nil)) (.node (k124 P) (.node f188 (.node (k316 P) .nil .nil) .nil) (.node (k252 P) .nil .nil)))))) (.node (boot_o_6 P) (.node (boot_o_10 P) (.node (k18 P) (.node g34 (.node (k66 P) (.node (k130 P) (.node (k258 P) .nil .nil) .nil) (.node (k194 P) (.node (k322 P) .nil .nil) .nil)) (.node g98 (.node g162 (.node (k290 P) .nil .nil) .nil) (.node (k226 P) (.node g354 .nil .nil) .nil))) (.node g50 (.node (k82 P) (.node f146 (.node (k274 P) .nil .nil) .nil) (.node (k210 P) (.node e338 .nil .nil) .nil)) (.node g114 (.node (k178 P) (.node (k306 P) .nil .nil) .nil) (.node (k242 P) .nil .nil)))) (.node g26 (.node (k42 P) (.node g74 (.node g138 (.node e266 .nil .nil) .nil) (.node f202 (.node e330 .nil .nil) .nil)) (.node (k106 P) (.node (k170 P) (.node g298 .nil .nil) .nil) (.node (k234 P) .nil .nil))) (.node g58 (.node g90 (.node (k154 P) (.node f282 .nil .nil) .nil) (.node g218 (.node e346 .nil .nil) .nil)) (.node g122 (.node e186 (.node (k314 P) .nil .nil) .nil) (.node (k250 P) .nil .nil))))) (.node g14 (.node (k22 P) (.node g38 (.node (k70 P) (.node f134 (.node (k262 P) .nil .nil) .nil) (.node (k198 P) (.node (k326 P) .nil .nil) .nil)) (.node g102 (.node (k166 P) (.node e294 .nil .nil) .nil) (.node f230 .nil .nil))) (.node (k54 P) (.node g86 (.node (k150 P) (.node (k278 P) .nil .nil) .nil) (.node e214 (.node (k342 P) .nil .nil) .nil)) (.node (k118 P) (.node (k182 P) (.node f310 .nil .nil) .nil) (.node (k246 P) .nil .nil)))) (.node (k30 P) (.node g46 (.node g78 (.node (k142 P) (.node g270 .nil .nil) .nil) (.node (k206 P) (.node (k334 P) .nil .nil) .nil)) (.node g110 (.node f174 (.node (k302 P) .nil .nil) .nil) (.node f238 .nil .nil))) (.node g62 (.node (k94 P) (.node e158 (.node (k286 P) .nil .nil) .nil) (.node (k222 P) (.node (k350 P) .nil .nil) .nil)) (.node (k126 P) (.node g190 (.node (k318 P) .nil .nil) .nil) (.node (k254 P) .nil .nil))))))))
noncomputable def t17 (P : Params) : BT :=
  (.node (boot_o_0 P) (.node (boot_o_1 P) (.node (g3c P) (.node (boot_o_7 P) (.node (k15 P) (.node (k31 P) (.node g63 (.node f127 (.node (k255 P) .nil .nil) (.node (g383 P) .nil .nil)) (.node (k191 P) (.node (k319 P) .nil .nil) .nil)) (.node g95 (.node (k159 P) (.node e287 .nil .nil) .nil) (.node f223 (.node (k351 P) .nil .nil) .nil))) (.node (k47 P) (.node g79 (.node g143 (.node (k271 P) .nil .nil) (.node (g399 P) .nil .nil)) (.node e207 (.node g335 .nil .nil) .nil)) (.node (g111 P) (.node (k175 P) (.node f303 .nil .nil) .nil) (.node (k239 P) (.node g367 .nil .nil) .nil)))) (.node g23 (.node g39 (.node g71 (.node g135 (.node g263 .nil .nil) (.node g391 .nil .nil)) (.node (k199 P) (.node g327 .nil .nil) .nil)) (.node g103 (.node f167 (.node (k295 P) .nil .nil) .nil) (.node (k231 P) (.node (g359 P) .nil .nil) .nil))) (.node (k55 P) (.node (g87 P) (.node e151 (.node (k279 P) .nil .nil) .nil) (.node (k215 P) (.node g343 .nil .nil) .nil)) (.node g119 (.node g183 (.node (k311 P) .nil .nil) .nil) (.node (k247 P) (.node (g375 P) .nil .nil) .nil))))) (.node g11 (.node e19 (.node (k35 P) (.node (k67 P) (.node (k131 P) (.node e259 .nil .nil) (.node g387 .nil .nil)) (.node f195 (.node e323 .nil .nil) .nil)) (.node (g99 P) (.node (k163 P) (.node g291 .nil .nil) .nil) (.node (k227 P) (.node g355 .nil .nil) .nil))) (.node g51 (.node g83 (.node (k147 P) (.node f275 .nil .nil) .nil) (.node g211 (.node (k339 P) .nil .nil) .nil)) (.node g115 (.node e179 (.node (k307 P) .nil .nil) .nil) (.node e243 (.node g371 .nil .nil) .nil)))) (.node g27 (.node (k43 P) (.node (g75 P) (.node g139 (.node (k267 P) .nil .nil) (.node g395 .nil .nil)) (.node (k203 P) (.node (k331 P) .nil .nil) .nil)) (.node g107 (.node (k171 P) (.node (k299 P) .nil .nil) .nil) (.node (k235 P) (.node (g363 P) .nil .nil) .nil))) (.node g59 (.node g91 (.node g155 (.node (k283 P) .nil .nil) .nil) (.node (k219 P) (.node (k347 P) .nil .nil) .nil)) (.node (k123 P) (.node (k187 P) (.node e315 .nil .nil) .nil) (.node e251 (.node g379 .nil .nil) .nil)))))) (.node (boot_o_5 P) (.node (boot_o_9 P) (.node (k17 P) (.node g33 (.node g65 (.node g129 (.node (k257 P) .nil .nil) (.node g385 .nil .nil)) (.node e193 (.node (k321 P) .nil .nil) .nil)) (.node (k97 P) (.node (k161 P) (.node f289 .nil .nil) .nil) (.node g225 (.node (k353 P) .nil .nil) .nil))) (.node (g49 P) (.node (k81 P) (.node (k145 P) (.node e273 .nil .nil) (.node g401 .nil .nil)) (.node f209 (.node (k337 P) .nil .nil) .nil)) (.node g113 (.node (k177 P) (.node g305 .nil .nil) .nil) (.node (k241 P) (.node g369 .nil .nil) .nil)))) (.node g25 (.node g41 (.node (k73 P) (.node (g137 P) (.node (k265 P) .nil .nil) (.node g393 .nil .nil)) (.node (k201 P) (.node (k329 P) .nil .nil) .nil)) (.node (k105 P) (.node g169 (.node (k297 P) .nil .nil) .nil) (.node g233 (.node g361 .nil .nil) .nil))) (.node g57 (.node g89 (.node f153 (.node (k281 P) .nil .nil) .nil) (.node (k217 P) (.node (k345 P) .nil .nil) .nil)) (.node (k121 P) (.node (k185 P) (.node (k313 P) .nil .nil) .nil) (.node (k249 P) (.node g377 .nil .nil) .nil))))) (.node g13 (.node f21 (.node (g37 P) (.node (k69 P) (.node (k133 P) (.node f261 .nil .nil) (.node g389 .nil .nil)) (.node g197 (.node f325 .nil .nil) .nil)) (.node g101 (.node e165 (.node (k293 P) .nil .nil) .nil) (.node (k229 P) (.node (g357 P) .nil .nil) .nil))) (.node g53 (.node (k85 P) (.node (k149 P) (.node g277 .nil .nil) .nil) (.node (k213 P) (.node (k341 P) .nil .nil) .nil)) (.node (k117 P) (.node f181 (.node (k309 P) .nil .nil) .nil) (.node f245 (.node (k373 P) .nil .nil) .nil)))) (.node (k29 P) (.node g45 (.node g77 (.node g141 (.node (k269 P) .nil .nil) (.node g397 .nil .nil)) (.node (k205 P) (.node (k333 P) .nil .nil) .nil)) (.node (k109 P) (.node (k173 P) (.node e301 .nil .nil) .nil) (.node (k237 P) (.node g365 .nil .nil) .nil))) (.node (g61 P) (.node (k93 P) (.node (k157 P) (.node (k285 P) .nil .nil) .nil) (.node e221 (.node (k349 P) .nil .nil) .nil)) (.node e125 (.node (k189 P) (.node f317 .nil .nil) .nil) (.node f253 (.node g381 .nil .nil) .nil))))))) (.node (k2 P) (.node (boot_o_4 P) (.node (boot_o_8 P) (.node g16 (.node (k32 P) (.node g64 (.node (k128 P) (.node g256 .nil .nil) (.node g384 .nil .nil)) (.node (k192 P) (.node g320 .nil .nil) .nil)) (.node g96 (.node f160 (.node (k288 P) .nil .nil) .nil) (.node (k224 P) (.node (k352 P) .nil .nil) .nil))) (.node g48 (.node (k80 P) (.node e144 (.node (k272 P) .nil .nil) (.node g400 .nil .nil)) (.node (k208 P) (.node (k336 P) .nil .nil) .nil)) (.node g112 (.node g176 (.node (k304 P) .nil .nil) .nil) (.node g240 (.node (g368 P) .nil .nil) .nil)))) (.node (g24 P) (.node g40 (.node g72 (.node g136 (.node (k264 P) .nil .nil) (.node g392 .nil .nil)) (.node e200 (.node (k328 P) .nil .nil) .nil)) (.node (k104 P) (.node (k168 P) (.node f296 .nil .nil) .nil) (.node (k232 P) (.node g360 .nil .nil) .nil))) (.node (k56 P) (.node g88 (.node (k152 P) (.node e280 .nil .nil) .nil) (.node f216 (.node (k344 P) .nil .nil) .nil)) (.node g120 (.node (k184 P) (.node g312 .nil .nil) .nil) (.node g248 (.node g376 .nil .nil) .nil))))) (.node g12b (.node (k20 P) (.node g36 (.node (k68 P) (.node e132 (.node (k260 P) .nil .nil) (.node (g388 P) .nil .nil)) (.node (k196 P) (.node (k324 P) .nil .nil) .nil)) (.node g100 (.node (k164 P) (.node (k292 P) .nil .nil) .nil) (.node e228 (.node g356 .nil .nil) .nil))) (.node g52 (.node g84 (.node g148 (.node (k276 P) .nil .nil) .nil) (.node (k212 P) (.node f340 .nil .nil) .nil)) (.node (k116 P) (.node (k180 P) (.node e308 .nil .nil) .nil) (.node (k244 P) (.node g372 .nil .nil) .nil)))) (.node g28 (.node (k44 P) (.node g76 (.node g140 (.node f268 .nil .nil) (.node g396 .nil .nil)) (.node g204 (.node f332 .nil .nil) .nil)) (.node g108 (.node e172 (.node (k300 P) .nil .nil) .nil) (.node e236 (.node g364 .nil .nil) .nil))) (.node g60 (.node (k92 P) (.node (k156 P) (.node g284 .nil .nil) .nil) (.node (k220 P) (.node f348 .nil .nil) .nil)) (.node (k124 P) (.node f188 (.node (k316 P) .nil .nil) .nil) (.node (k252 P) (.node g380 .nil .nil) .nil)))))) (.node (boot_o_6 P) (.node (boot_o_10 P) (.node (k18 P) (.node g34 (.node (k66 P) (.node (k130 P) (.node (k258 P) .nil .nil) (.node g386 .nil .nil)) (.node (k194 P) (.node (k322 P) .nil .nil) .nil)) (.node g98 (.node g162 (.node (k290 P) .nil .nil) .nil) (.node (k226 P) (.node g354 .nil .nil) .nil))) (.node g50 (.node (k82 P) (.node f146 (.node (k274 P) .nil .nil) (.node g402 .nil .nil)) (.node (k210 P) (.node e338 .nil .nil) .nil)) (.node g114 (.node (k178 P) (.node (k306 P) .nil .nil) .nil) (.node (k242 P) (.node g370 .nil .nil) .nil)))) (.node g26 (.node (k42 P) (.node g74 (.node g138 (.node e266 .nil .nil) (.node (g394 P) .nil .nil)) (.node f202 (.node e330 .nil .nil) .nil)) (.node (k106 P) (.node (k170 P) (.node g298 .nil .nil) .nil) (.node (k234 P) (.node g362 .nil .nil) .nil))) (.node g58 (.node g90 (.node (k154 P) (.node f282 .nil .nil) .nil) (.node g218 (.node e346 .nil .nil) .nil)) (.node g122 (.node e186 (.node (k314 P) .nil .nil) .nil) (.node (k250 P) (.node g378 .nil .nil) .nil))))) (.node g14 (.node (k22 P) (.node g38 (.node (k70 P) (.node f134 (.node (k262 P) .nil .nil) (.node (g390 P) .nil .nil)) (.node (k198 P) (.node (k326 P) .nil .nil) .nil)) (.node g102 (.node (k166 P) (.node e294 .nil .nil) .nil) (.node f230 (.node g358 .nil .nil) .nil))) (.node (k54 P) (.node g86 (.node (k150 P) (.node (k278 P) .nil .nil) .nil) (.node e214 (.node (k342 P) .nil .nil) .nil)) (.node (k118 P) (.node (k182 P) (.node f310 .nil .nil) .nil) (.node (k246 P) (.node (k374 P) .nil .nil) .nil)))) (.node (k30 P) (.node g46 (.node g78 (.node (k142 P) (.node g270 .nil .nil) (.node g398 .nil .nil)) (.node (k206 P) (.node (k334 P) .nil .nil) .nil)) (.node g110 (.node f174 (.node (k302 P) .nil .nil) .nil) (.node f238 (.node g366 .nil .nil) .nil))) (.node g62 (.node (k94 P) (.node e158 (.node (k286 P) .nil .nil) .nil) (.node (k222 P) (.node (k350 P) .nil .nil) .nil)) (.node (k126 P) (.node g190 (.node (k318 P) .nil .nil) .nil) (.node (k254 P) (.node (k382 P) .nil .nil) .nil))))))))
noncomputable def t36 (P : Params) : BT :=
  (.node (boot_o_0 P) (.node (boot_o_1 P) (.node (k3 P) (.node (boot_o_7 P) (.node (k15 P) (.node (k31 P) (.node g63 (.node f127 (.node (k255 P) (.node g511 .nil .nil) .nil) (.node (g383 P) .nil .nil)) (.node (k191 P) (.node (k319 P) .nil .nil) (.node e447 .nil .nil))) (.node g95 (.node (k159 P) (.node e287 (.node (k543 P) .nil .nil) .nil) (.node (k415 P) .nil .nil)) (.node f223 (.node (k351 P) .nil .nil) (.node (k479 P) .nil .nil)))) (.node (k47 P) (.node g79 (.node g143 (.node (k271 P) (.node (k527 P) .nil .nil) .nil) (.node (g399 P) .nil .nil)) (.node e207 (.node g335 .nil .nil) (.node f463 .nil .nil))) (.node (g111 P) (.node (k175 P) (.node f303 (.node f559 .nil .nil) .nil) (.node (k431 P) .nil .nil)) (.node (k239 P) (.node g367 .nil .nil) (.node f495 .nil .nil))))) (.node g23 (.node g39 (.node g71 (.node g135 (.node g263 (.node (k519 P) .nil .nil) .nil) (.node g391 .nil .nil)) (.node (k199 P) (.node g327 .nil .nil) (.node (k455 P) .nil .nil))) (.node g103 (.node f167 (.node (k295 P) (.node (k551 P) .nil .nil) .nil) (.node g423 .nil .nil)) (.node (k231 P) (.node (g359 P) .nil .nil) (.node (k487 P) .nil .nil)))) (.node (k55 P) (.node (g87 P) (.node e151 (.node (k279 P) (.node f535 .nil .nil) .nil) (.node f407 .nil .nil)) (.node (k215 P) (.node g343 .nil .nil) (.node (k471 P) .nil .nil))) (.node g119 (.node g183 (.node (k311 P) (.node (k567 P) .nil .nil) .nil) (.node (k439 P) .nil .nil)) (.node (k247 P) (.node (g375 P) .nil .nil) (.node (k503 P) .nil .nil)))))) (.node g11 (.node e19 (.node (k35 P) (.node (k67 P) (.node (k131 P) (.node e259 (.node (k515 P) .nil .nil) .nil) (.node g387 .nil .nil)) (.node f195 (.node e323 .nil .nil) (.node g451 .nil .nil))) (.node (g99 P) (.node (k163 P) (.node g291 (.node f547 .nil .nil) .nil) (.node e419 .nil .nil)) (.node (k227 P) (.node g355 .nil .nil) (.node (k483 P) .nil .nil)))) (.node g51 (.node g83 (.node (k147 P) (.node f275 (.node (k531 P) .nil .nil) .nil) (.node (k403 P) .nil .nil)) (.node g211 (.node (k339 P) .nil .nil) (.node (k467 P) .nil .nil))) (.node g115 (.node e179 (.node (k307 P) (.node (k563 P) .nil .nil) .nil) (.node f435 .nil .nil)) (.node e243 (.node g371 .nil .nil) (.node (k499 P) .nil .nil))))) (.node g27 (.node (k43 P) (.node (g75 P) (.node g139 (.node (k267 P) (.node f523 .nil .nil) .nil) (.node g395 .nil .nil)) (.node (k203 P) (.node (k331 P) .nil .nil) (.node (k459 P) .nil .nil))) (.node g107 (.node (k171 P) (.node (k299 P) (.node (k555 P) .nil .nil) .nil) (.node (k427 P) .nil .nil)) (.node (k235 P) (.node (g363 P) .nil .nil) (.node (k491 P) .nil .nil)))) (.node g59 (.node g91 (.node g155 (.node (k283 P) (.node (k539 P) .nil .nil) .nil) (.node g411 .nil .nil)) (.node (k219 P) (.node (k347 P) .nil .nil) (.node (k475 P) .nil .nil))) (.node (k123 P) (.node (k187 P) (.node e315 (.node e571 .nil .nil) .nil) (.node (k443 P) .nil .nil)) (.node e251 (.node g379 .nil .nil) (.node e507 .nil .nil))))))) (.node (boot_o_5 P) (.node (boot_o_9 P) (.node (k17 P) (.node g33 (.node g65 (.node g129 (.node (k257 P) (.node (k513 P) .nil .nil) .nil) (.node g385 .nil .nil)) (.node e193 (.node (k321 P) .nil .nil) (.node f449 .nil .nil))) (.node (k97 P) (.node (k161 P) (.node f289 (.node e545 .nil .nil) .nil) (.node (k417 P) .nil .nil)) (.node g225 (.node (k353 P) .nil .nil) (.node (k481 P) .nil .nil)))) (.node (g49 P) (.node (k81 P) (.node (k145 P) (.node e273 (.node (k529 P) .nil .nil) .nil) (.node g401 .nil .nil)) (.node f209 (.node (k337 P) .nil .nil) (.node g465 .nil .nil))) (.node g113 (.node (k177 P) (.node g305 (.node g561 .nil .nil) .nil) (.node e433 .nil .nil)) (.node (k241 P) (.node g369 .nil .nil) (.node g497 .nil .nil))))) (.node g25 (.node g41 (.node (k73 P) (.node (g137 P) (.node (k265 P) (.node e521 .nil .nil) .nil) (.node g393 .nil .nil)) (.node (k201 P) (.node (k329 P) .nil .nil) (.node (k457 P) .nil .nil))) (.node (k105 P) (.node g169 (.node (k297 P) (.node (k553 P) .nil .nil) .nil) (.node (k425 P) .nil .nil)) (.node g233 (.node g361 .nil .nil) (.node (k489 P) .nil .nil)))) (.node g57 (.node g89 (.node f153 (.node (k281 P) (.node g537 .nil .nil) .nil) (.node g409 .nil .nil)) (.node (k217 P) (.node (k345 P) .nil .nil) (.node (k473 P) .nil .nil))) (.node (k121 P) (.node (k185 P) (.node (k313 P) (.node (k569 P) .nil .nil) .nil) (.node (k441 P) .nil .nil)) (.node (k249 P) (.node g377 .nil .nil) (.node (k505 P) .nil .nil)))))) (.node g13 (.node f21 (.node (g37 P) (.node (k69 P) (.node (k133 P) (.node f261 (.node (k517 P) .nil .nil) .nil) (.node g389 .nil .nil)) (.node g197 (.node f325 .nil .nil) (.node (k453 P) .nil .nil))) (.node g101 (.node e165 (.node (k293 P) (.node g549 .nil .nil) .nil) (.node f421 .nil .nil)) (.node (k229 P) (.node (g357 P) .nil .nil) (.node (k485 P) .nil .nil)))) (.node g53 (.node (k85 P) (.node (k149 P) (.node g277 (.node e533 .nil .nil) .nil) (.node e405 .nil .nil)) (.node (k213 P) (.node (k341 P) .nil .nil) (.node (k469 P) .nil .nil))) (.node (k117 P) (.node f181 (.node (k309 P) (.node (k565 P) .nil .nil) .nil) (.node g437 .nil .nil)) (.node f245 (.node (k373 P) .nil .nil) (.node (k501 P) .nil .nil))))) (.node (k29 P) (.node g45 (.node g77 (.node g141 (.node (k269 P) (.node g525 .nil .nil) .nil) (.node g397 .nil .nil)) (.node (k205 P) (.node (k333 P) .nil .nil) (.node e461 .nil .nil))) (.node (k109 P) (.node (k173 P) (.node e301 (.node e557 .nil .nil) .nil) (.node (k429 P) .nil .nil)) (.node (k237 P) (.node g365 .nil .nil) (.node e493 .nil .nil)))) (.node (g61 P) (.node (k93 P) (.node (k157 P) (.node (k285 P) (.node (k541 P) .nil .nil) .nil) (.node g413 .nil .nil)) (.node e221 (.node (k349 P) .nil .nil) (.node g477 .nil .nil))) (.node e125 (.node (k189 P) (.node f317 (.node f573 .nil .nil) .nil) (.node (k445 P) .nil .nil)) (.node f253 (.node g381 .nil .nil) (.node f509 .nil .nil)))))))) (.node (k2 P) (.node (boot_o_4 P) (.node (boot_o_8 P) (.node g16 (.node (k32 P) (.node g64 (.node (k128 P) (.node g256 (.node (k512 P) .nil .nil) .nil) (.node g384 .nil .nil)) (.node (k192 P) (.node g320 .nil .nil) (.node (k448 P) .nil .nil))) (.node g96 (.node f160 (.node (k288 P) (.node g544 .nil .nil) .nil) (.node g416 .nil .nil)) (.node (k224 P) (.node (k352 P) .nil .nil) (.node (k480 P) .nil .nil)))) (.node g48 (.node (k80 P) (.node e144 (.node (k272 P) (.node f528 .nil .nil) .nil) (.node g400 .nil .nil)) (.node (k208 P) (.node (k336 P) .nil .nil) (.node (k464 P) .nil .nil))) (.node g112 (.node g176 (.node (k304 P) (.node (k560 P) .nil .nil) .nil) (.node (k432 P) .nil .nil)) (.node g240 (.node (g368 P) .nil .nil) (.node (k496 P) .nil .nil))))) (.node (g24 P) (.node g40 (.node g72 (.node g136 (.node (k264 P) (.node (k520 P) .nil .nil) .nil) (.node g392 .nil .nil)) (.node e200 (.node (k328 P) .nil .nil) (.node f456 .nil .nil))) (.node (k104 P) (.node (k168 P) (.node f296 (.node e552 .nil .nil) .nil) (.node (k424 P) .nil .nil)) (.node (k232 P) (.node g360 .nil .nil) (.node (k488 P) .nil .nil)))) (.node (k56 P) (.node g88 (.node (k152 P) (.node e280 (.node (k536 P) .nil .nil) .nil) (.node g408 .nil .nil)) (.node f216 (.node (k344 P) .nil .nil) (.node (k472 P) .nil .nil))) (.node g120 (.node (k184 P) (.node g312 (.node g568 .nil .nil) .nil) (.node e440 .nil .nil)) (.node g248 (.node g376 .nil .nil) (.node g504 .nil .nil)))))) (.node g12c (.node (k20 P) (.node g36 (.node (k68 P) (.node e132 (.node (k260 P) (.node f516 .nil .nil) .nil) (.node (g388 P) .nil .nil)) (.node (k196 P) (.node (k324 P) .nil .nil) (.node (k452 P) .nil .nil))) (.node g100 (.node (k164 P) (.node (k292 P) (.node (k548 P) .nil .nil) .nil) (.node (k420 P) .nil .nil)) (.node e228 (.node g356 .nil .nil) (.node (k484 P) .nil .nil)))) (.node g52 (.node g84 (.node g148 (.node (k276 P) (.node (k532 P) .nil .nil) .nil) (.node g404 .nil .nil)) (.node (k212 P) (.node f340 .nil .nil) (.node e468 .nil .nil))) (.node (k116 P) (.node (k180 P) (.node e308 (.node e564 .nil .nil) .nil) (.node (k436 P) .nil .nil)) (.node (k244 P) (.node g372 .nil .nil) (.node e500 .nil .nil))))) (.node g28 (.node (k44 P) (.node g76 (.node g140 (.node f268 (.node (k524 P) .nil .nil) .nil) (.node g396 .nil .nil)) (.node g204 (.node f332 .nil .nil) (.node (k460 P) .nil .nil))) (.node g108 (.node e172 (.node (k300 P) (.node g556 .nil .nil) .nil) (.node f428 .nil .nil)) (.node e236 (.node g364 .nil .nil) (.node (k492 P) .nil .nil)))) (.node g60 (.node (k92 P) (.node (k156 P) (.node g284 (.node e540 .nil .nil) .nil) (.node g412 .nil .nil)) (.node (k220 P) (.node f348 .nil .nil) (.node g476 .nil .nil))) (.node (k124 P) (.node f188 (.node (k316 P) (.node (k572 P) .nil .nil) .nil) (.node g444 .nil .nil)) (.node (k252 P) (.node g380 .nil .nil) (.node (k508 P) .nil .nil))))))) (.node (boot_o_6 P) (.node (boot_o_10 P) (.node (k18 P) (.node g34 (.node (k66 P) (.node (k130 P) (.node (k258 P) (.node e514 .nil .nil) .nil) (.node g386 .nil .nil)) (.node (k194 P) (.node (k322 P) .nil .nil) (.node (k450 P) .nil .nil))) (.node g98 (.node g162 (.node (k290 P) (.node (k546 P) .nil .nil) .nil) (.node (k418 P) .nil .nil)) (.node (k226 P) (.node g354 .nil .nil) (.node (k482 P) .nil .nil)))) (.node g50 (.node (k82 P) (.node f146 (.node (k274 P) (.node g530 .nil .nil) .nil) (.node g402 .nil .nil)) (.node (k210 P) (.node e338 .nil .nil) (.node (k466 P) .nil .nil))) (.node g114 (.node (k178 P) (.node (k306 P) (.node (k562 P) .nil .nil) .nil) (.node (k434 P) .nil .nil)) (.node (k242 P) (.node g370 .nil .nil) (.node (k498 P) .nil .nil))))) (.node g26 (.node (k42 P) (.node g74 (.node g138 (.node e266 (.node (k522 P) .nil .nil) .nil) (.node (g394 P) .nil .nil)) (.node f202 (.node e330 .nil .nil) (.node g458 .nil .nil))) (.node (k106 P) (.node (k170 P) (.node g298 (.node f554 .nil .nil) .nil) (.node e426 .nil .nil)) (.node (k234 P) (.node g362 .nil .nil) (.node g490 .nil .nil)))) (.node g58 (.node g90 (.node (k154 P) (.node f282 (.node (k538 P) .nil .nil) .nil) (.node (g410 P) .nil .nil)) (.node g218 (.node e346 .nil .nil) (.node (k474 P) .nil .nil))) (.node g122 (.node e186 (.node (k314 P) (.node (k570 P) .nil .nil) .nil) (.node f442 .nil .nil)) (.node (k250 P) (.node g378 .nil .nil) (.node (k506 P) .nil .nil)))))) (.node g14 (.node (k22 P) (.node g38 (.node (k70 P) (.node f134 (.node (k262 P) (.node g518 .nil .nil) .nil) (.node (g390 P) .nil .nil)) (.node (k198 P) (.node (k326 P) .nil .nil) (.node e454 .nil .nil))) (.node g102 (.node (k166 P) (.node e294 (.node (k550 P) .nil .nil) .nil) (.node (k422 P) .nil .nil)) (.node f230 (.node g358 .nil .nil) (.node (k486 P) .nil .nil)))) (.node (k54 P) (.node g86 (.node (k150 P) (.node (k278 P) (.node (k534 P) .nil .nil) .nil) (.node (k406 P) .nil .nil)) (.node e214 (.node (k342 P) .nil .nil) (.node f470 .nil .nil))) (.node (k118 P) (.node (k182 P) (.node f310 (.node f566 .nil .nil) .nil) (.node (k438 P) .nil .nil)) (.node (k246 P) (.node (k374 P) .nil .nil) (.node f502 .nil .nil))))) (.node (k30 P) (.node g46 (.node g78 (.node (k142 P) (.node g270 (.node e526 .nil .nil) .nil) (.node g398 .nil .nil)) (.node (k206 P) (.node (k334 P) .nil .nil) (.node (k462 P) .nil .nil))) (.node g110 (.node f174 (.node (k302 P) (.node (k558 P) .nil .nil) .nil) (.node g430 .nil .nil)) (.node f238 (.node g366 .nil .nil) (.node (k494 P) .nil .nil)))) (.node g62 (.node (k94 P) (.node e158 (.node (k286 P) (.node f542 .nil .nil) .nil) (.node g414 .nil .nil)) (.node (k222 P) (.node (k350 P) .nil .nil) (.node (k478 P) .nil .nil))) (.node (k126 P) (.node g190 (.node (k318 P) .nil .nil) (.node (k446 P) .nil .nil)) (.node (k254 P) (.node (k382 P) .nil .nil) (.node (k510 P) .nil .nil)))))))))
end

/-! H6 -/
section
open PySem PySem.W PyProof.Rows
abbrev pw : Program := PySem.Challenge.pw_ji0018_01
def pos0 : Pos := { line := 0, col := 0, endLine := 0, endCol := 0 }
def posm : Pos := { line := 389, col := 0, endLine := 410, endCol := 85 }
noncomputable def env0 : Env := { scope := pw.main.scope, locals := mainNs, globals := mainNs, cells := [], code := .ref 13, frame := some 14 }
noncomputable def cd0 : Code := .body (behindTheImports pw) env0
noncomputable def ob11 : Obj := { cls := .type "tuple", data := .seq #[] }
noncomputable def ob12 : Obj := { cls := .none, data := .fields #[] }
noncomputable def ob13 : Obj := { cls := .type "code", data := .fields #[.str (.ofString "<module>") 182, .str (.ofString "<module>") 183, .str (.ofString "/claim/cut.py") 184, .int 1 0, .int 0 0, .int 0 0, .int 0 0, .int 0 0, .ref 11, .bool false, .int 181 0, .ref 12, .none, .none, .none, .none, .int 185 0, .int 1 0, .str (.ofString "/claim/cut.py") 186] }
noncomputable def ob14 : Obj := { cls := .type "frame", slots := #[some (.ref 13), some (.ref 3), some (.ref 3), none, some (.str (.ofString "__main__") 164), none, some (.ref 0)] }
noncomputable def hA (P : Params) : Heap := ⟨⟨[boot_o_0 P, boot_o_1 P, boot_o_2 P, boot_o_3 P, boot_o_4 P, boot_o_5 P, boot_o_6 P, boot_o_7 P, boot_o_8 P, boot_o_9 P, boot_o_10 P, ob11, ob12, ob13, ob14]⟩, {}⟩
noncomputable def tA (P : Params) : BT :=
  .node (boot_o_0 P) (.node (boot_o_1 P) (.node (boot_o_3 P) (.node (boot_o_7 P) .nil .nil) (.node ob11 .nil .nil)) (.node (boot_o_5 P) (.node (boot_o_9 P) .nil .nil) (.node ob13 .nil .nil)))
    (.node (boot_o_2 P) (.node (boot_o_4 P) (.node (boot_o_8 P) .nil .nil) (.node ob12 .nil .nil)) (.node (boot_o_6 P) (.node (boot_o_10 P) .nil .nil) (.node ob14 .nil .nil)))
noncomputable def sA (w : World) (os : OsState) : Shared := ⟨hA w.params, #[], {}, 187, os⟩
noncomputable def sT (w : World) (os : OsState) : SharedT := ⟨tA w.params, 15, {}, #[], {}, 187, os⟩
/-- the text less what the law does not lean on -/
noncomputable def vw : Program := view pw [0, 1, 2, 3, 4, 5, 7, 8, 9, 10, 11, 12, 13, 16, 18, 19, 20, 21, 22, 23, 24, 25, 26, 27, 28, 29, 30, 31, 32, 33, 34, 35, 36]
def lo : List Str := [.ofString "NameRelation", .ofString "root", .ofString "empty", .ofString "_SUCCESSOR_PREFIX"]
def adrs : List Addr := [nat_lit 2, nat_lit 3, nat_lit 15, nat_lit 17, nat_lit 18, nat_lit 20, nat_lit 21, nat_lit 22, nat_lit 29, nat_lit 30, nat_lit 31, nat_lit 32, nat_lit 35, nat_lit 42, nat_lit 43, nat_lit 44, nat_lit 47, nat_lit 54, nat_lit 55, nat_lit 56, nat_lit 66, nat_lit 67, nat_lit 68, nat_lit 69, nat_lit 70, nat_lit 73, nat_lit 80, nat_lit 81, nat_lit 82, nat_lit 85, nat_lit 92, nat_lit 93, nat_lit 94, nat_lit 97, nat_lit 104, nat_lit 105, nat_lit 106, nat_lit 109, nat_lit 116, nat_lit 117, nat_lit 118, nat_lit 121, nat_lit 123, nat_lit 124, nat_lit 126, nat_lit 127, nat_lit 128, nat_lit 130, nat_lit 131, nat_lit 133, nat_lit 134, nat_lit 142, nat_lit 145, nat_lit 146, nat_lit 147, nat_lit 149, nat_lit 150, nat_lit 152, nat_lit 153, nat_lit 154, nat_lit 156, nat_lit 157, nat_lit 159, nat_lit 160, nat_lit 161, nat_lit 163, nat_lit 164, nat_lit 166, nat_lit 167, nat_lit 168, nat_lit 170, nat_lit 171, nat_lit 173, nat_lit 174, nat_lit 175, nat_lit 177, nat_lit 178, nat_lit 180, nat_lit 181, nat_lit 182, nat_lit 184, nat_lit 185, nat_lit 187, nat_lit 188, nat_lit 189, nat_lit 191, nat_lit 192, nat_lit 194, nat_lit 195, nat_lit 196, nat_lit 198, nat_lit 199, nat_lit 201, nat_lit 202, nat_lit 203, nat_lit 205, nat_lit 206, nat_lit 208, nat_lit 209, nat_lit 210, nat_lit 212, nat_lit 213, nat_lit 215, nat_lit 216, nat_lit 217, nat_lit 219, nat_lit 220, nat_lit 222, nat_lit 223, nat_lit 224, nat_lit 226, nat_lit 227, nat_lit 229, nat_lit 230, nat_lit 231, nat_lit 232, nat_lit 234, nat_lit 235, nat_lit 237, nat_lit 238, nat_lit 239, nat_lit 241, nat_lit 242, nat_lit 244, nat_lit 245, nat_lit 246, nat_lit 247, nat_lit 249, nat_lit 250, nat_lit 252, nat_lit 253, nat_lit 254, nat_lit 255, nat_lit 257, nat_lit 258, nat_lit 260, nat_lit 261, nat_lit 262, nat_lit 264, nat_lit 265, nat_lit 267, nat_lit 268, nat_lit 269, nat_lit 271, nat_lit 272, nat_lit 274, nat_lit 275, nat_lit 276, nat_lit 278, nat_lit 279, nat_lit 281, nat_lit 282, nat_lit 283, nat_lit 285, nat_lit 286, nat_lit 288, nat_lit 289, nat_lit 290, nat_lit 292, nat_lit 293, nat_lit 295, nat_lit 296, nat_lit 297, nat_lit 299, nat_lit 300, nat_lit 302, nat_lit 303, nat_lit 304, nat_lit 306, nat_lit 307, nat_lit 309, nat_lit 310, nat_lit 311, nat_lit 313, nat_lit 314, nat_lit 316, nat_lit 317, nat_lit 318, nat_lit 319, nat_lit 321, nat_lit 322, nat_lit 324, nat_lit 325, nat_lit 326, nat_lit 328, nat_lit 329, nat_lit 331, nat_lit 332, nat_lit 333, nat_lit 334, nat_lit 336, nat_lit 337, nat_lit 339, nat_lit 340, nat_lit 341, nat_lit 342, nat_lit 344, nat_lit 345, nat_lit 347, nat_lit 348, nat_lit 349, nat_lit 350, nat_lit 351, nat_lit 352, nat_lit 353, nat_lit 373, nat_lit 374, nat_lit 382, nat_lit 403, nat_lit 406, nat_lit 407, nat_lit 415, nat_lit 417, nat_lit 418, nat_lit 420, nat_lit 421, nat_lit 422, nat_lit 424, nat_lit 425, nat_lit 427, nat_lit 428, nat_lit 429, nat_lit 431, nat_lit 432, nat_lit 434, nat_lit 435, nat_lit 436, nat_lit 438, nat_lit 439, nat_lit 441, nat_lit 442, nat_lit 443, nat_lit 445, nat_lit 446, nat_lit 448, nat_lit 449, nat_lit 450, nat_lit 452, nat_lit 453, nat_lit 455, nat_lit 456, nat_lit 457, nat_lit 459, nat_lit 460, nat_lit 462, nat_lit 463, nat_lit 464, nat_lit 466, nat_lit 467, nat_lit 469, nat_lit 470, nat_lit 471, nat_lit 472, nat_lit 473, nat_lit 474, nat_lit 475, nat_lit 478, nat_lit 479, nat_lit 480, nat_lit 481, nat_lit 482, nat_lit 483, nat_lit 484, nat_lit 485, nat_lit 486, nat_lit 487, nat_lit 488, nat_lit 489, nat_lit 491, nat_lit 492, nat_lit 494, nat_lit 495, nat_lit 496, nat_lit 498, nat_lit 499, nat_lit 501, nat_lit 502, nat_lit 503, nat_lit 505, nat_lit 506, nat_lit 508, nat_lit 509, nat_lit 510, nat_lit 512, nat_lit 513, nat_lit 515, nat_lit 516, nat_lit 517, nat_lit 519, nat_lit 520, nat_lit 522, nat_lit 523, nat_lit 524, nat_lit 527, nat_lit 528, nat_lit 529, nat_lit 531, nat_lit 532, nat_lit 534, nat_lit 535, nat_lit 536, nat_lit 538, nat_lit 539, nat_lit 541, nat_lit 542, nat_lit 543, nat_lit 546, nat_lit 547, nat_lit 548, nat_lit 550, nat_lit 551, nat_lit 553, nat_lit 554, nat_lit 555, nat_lit 558, nat_lit 559, nat_lit 560, nat_lit 562, nat_lit 563, nat_lit 565, nat_lit 566, nat_lit 567, nat_lit 569, nat_lit 570, nat_lit 572, nat_lit 573]
theorem adrs_ok : ∀ P, adrs = (topK P).map (·.1) := fun P => by kernel_rfl
noncomputable abbrev hook : Hook := kHook topK adrs adrs_ok
noncomputable abbrev xt (s : Shared) : Bool := xlAt vw [] s && recOk [] s

/-- the library's fast doubles -/
noncomputable abbrev tT := PySem.W.Fast.tw14364793385576792824
noncomputable abbrev impT := PySem.W.Fast.tw5923862056798008813
theorem tT_eq : treeTable = tT := PySem.W.Fast.te14364793385576792824
theorem impT_eq : importedModules = impT := PySem.W.Fast.te5923862056798008813
theorem preT (w : World) : (fun os => PySem.W.Fast.tw15667345088766844465 tT pw w 11 (some (.ref 6)) 12 ⟨boot_heap w.params, #[], boot_drawn, boot_toks, os⟩ (topStub pw)) = fun os => some (sA w os, ⟨PySem.W.Fast.tw11892475500146522536 tT cd0, cd0, pos0, [topFrame pos0]⟩) := by kernel_rfl
theorem blockT (w : World) : (fun os => PySem.W.Fast.tw14374325043358763698 tT pw w 11 (some (.ref 6)) 1 1 (sA w os) (blockOf (behindTheImports pw) env0 cd0 pos0 [topFrame pos0])) = fun os => some (.next, (sT w os).abs, cd0, pos0) := by kernel_rfl
/-- what is asked of the state at the end -/
noncomputable def looks (w : World) (s : Shared) := staticsOk (impT pw.main.body) (boot_heap w.params) s.heap && namesBound pw s.heap && gensDone s && laidKept (boot_heap w.params) s.heap
noncomputable abbrev lwT := PySem.W.Fast.tw821141287760084731
noncomputable abbrev drT := PySem.W.Fast.tw3247288618530077131
theorem lwT_eq : looseW = lwT := PySem.W.Fast.te821141287760084731
theorem drT_eq : drecsOf = drT := PySem.W.Fast.te3247288618530077131
noncomputable def sees (s : Shared) := PySem.W.Fast.tw4187177175401517315 vw lo (impT pw.main.body) xt true s
noncomputable def tg (S : SharedT) (a : Addr) : Option Obj := match Nat.blt a S.n with
  | true => (S.tree.get a).bind alive
  | false => none
/-- the top in stretches: up to the class Name; behind it; behind the names; to the end -/
def pos12 : Pos := { line := 43, col := 0, endLine := 47, endCol := 29 }
def pos13 : Pos := { line := 48, col := 0, endLine := 206, endCol := 17 }
def pos17 : Pos := { line := 210, col := 0, endLine := 210, endCol := 17 }
noncomputable def sA12 (w : World) (os : OsState) : SharedT := ⟨t12 w.params, 135, {}, #[], {}, 364, os⟩
noncomputable def sA13 (w : World) (os : OsState) : SharedT := ⟨t13 w.params, 356, {}, #[], {}, 632, os⟩
noncomputable def sA17 (w : World) (os : OsState) : SharedT := ⟨t17 w.params, 403, {}, #[], {}, 730, os⟩
noncomputable def sA36 (w : World) (os : OsState) : SharedT := ⟨t36 w.params, 574, {}, #[], {}, 986, os⟩
noncomputable abbrev runT (w : World) (n : Nat) (s : SharedT) (l : List Stmt) (q : Pos) := PySem.W.Fast.tw10110043849684766642 tT pw w 11 (some (.ref 6)) 1 n s (piecesOf l env0 cd0 q [topFrame pos0])
theorem segA (w : World) : (fun os => runT w 2000 (sT w os) ((behindTheImports pw).take 13) pos0) = fun os => some (.next, sA12 w os, cd0, pos12) := by kernel_rfl
theorem segN (w : World) : (fun os => runT w 1200 (sA12 w os) (((behindTheImports pw).drop 13).take 1) pos12) = fun os => some (.next, sA13 w os, cd0, pos13) := by kernel_rfl
def stmtB (w : World) : Prop := (fun os => runT w 1500 (sA13 w os) (((behindTheImports pw).drop 14).take 4) pos13) = fun os => some (.next, sA17 w os, cd0, pos17)
theorem segBFF (w : World) : stmtB ((w.withFollow "special-get-raises" false).withFollow "comprehension-iter-twice" false) := by
  unfold stmtB
  kernel_rfl
theorem segBTF (w : World) : stmtB ((w.withFollow "special-get-raises" true).withFollow "comprehension-iter-twice" false) := by
  unfold stmtB
  kernel_rfl
theorem segBFT (w : World) : stmtB ((w.withFollow "special-get-raises" false).withFollow "comprehension-iter-twice" true) := by
  unfold stmtB
  kernel_rfl
theorem segBTT (w : World) : stmtB ((w.withFollow "special-get-raises" true).withFollow "comprehension-iter-twice" true) := by
  unfold stmtB
  kernel_rfl
theorem segB : ∀ w, stmtB w :=
  byRow2 "comprehension-iter-twice" (P := stmtB) (byRow2 "special-get-raises" (P := fun w => stmtB (w.withFollow "comprehension-iter-twice" false)) segBFF segBTF) (byRow2 "special-get-raises" (P := fun w => stmtB (w.withFollow "comprehension-iter-twice" true)) segBFT segBTT)
theorem segC (w : World) : (fun os => runT w 1100 (sA17 w os) ((behindTheImports pw).drop 18) pos17) = fun os => some (.next, sA36 w os, cd0, posm) := by kernel_rfl
theorem endK (w : World) (os : OsState) : adrs.map (tg (sA36 w os)) = (topK w.params).map fun p => some p.2 := by kernel_rfl
theorem endL (w : World) (os : OsState) : looks w (sA36 w os).abs = true := by kernel_rfl
theorem endD (w : World) (os : OsState) : ((sees (sA36 w os).abs).1, (sees (sA36 w os).abs).2.1, (sees (sA36 w os).abs).2.2.1) = (expectedOf vw, bltViewBooted, true) := by kernel_rfl
theorem endE (w : World) (os : OsState) : ((sees (sA36 w os).abs).2.2.2.1, (sees (sA36 w os).abs).2.2.2.2.1, (sees (sA36 w os).abs).2.2.2.2.2.1) = (true, pinGoodD (drT vw), plainGoodE vw (lwT vw lo)) := by kernel_rfl
theorem endF (w : World) (os : OsState) : ((sees (sA36 w os).abs).2.2.2.2.2.2.1, (sees (sA36 w os).abs).2.2.2.2.2.2.2.1, (sees (sA36 w os).abs).2.2.2.2.2.2.2.2) = (plainGoodD vw lo, wideGood vw, clsGoodW vw lo) := by kernel_rfl
end

/-! H7 -/
section
open PySem PySem.W PyProof.Rows
theorem boot_size (w : World) : ((boot_heap w.params).isNs mainGlobals && (#[] : Array GenState).size == 0, (boot_heap w.params).objs.size, (boot_heap w.params).nsMap mainGlobals (.ofString "__annotations__")) = (true, 11, some (.ref 6)) := by kernel_rfl
theorem opens : opening pw = plainProg pw.main.scope.names := by kernel_rfl
theorem fences : ∀ s, fenceModules? pw s = some s := fun s => by kernel_rfl
theorem fin_run (w : World) (s : Shared) : topRun treeTable pw w 11 (some (.ref 6)) 2 s ⟨doneF .next, cd0, posm, [topFrame pos0]⟩ = some s := by
  obtain ⟨h, g, d, k, os⟩ := s
  rfl
theorem tg_get {S : SharedT} {a : Addr} {o : Obj} (h : tg S a = some o) : S.abs.heap.get? a = some o := by
  unfold tg at h
  split at h
  · rename_i hb
    obtain ⟨x, hx, hy⟩ := Option.bind_eq_some_iff.mp h
    rw [show S.abs.heap = absHeap S.tree S.n S.life from rfl, abs_get (Nat.blt_eq.mp hb) hx, hy]
  · cases h
theorem tg_map {S : SharedT} : ∀ {as : List Addr} {l : List (Addr × Obj)}, as.map (tg S) = l.map (fun p => some p.2) → as.map S.abs.heap.get? = l.map fun p => some p.2
  | [], l, h => h
  | a :: as, [], h => by simp at h
  | a :: as, p :: l, h => by
    simp only [List.map_cons, List.cons.injEq] at h ⊢
    exact ⟨tg_get h.1, tg_map h.2⟩
theorem from_of {p : Program} {w : World} {N m : Nat} {ann : Option Value} {s₀ s₁ : Shared} (z1 : (s₀.heap.isNs mainGlobals && s₀.gens.size == 0) = true) (z2 : s₀.heap.objs.size = m) (z3 : s₀.heap.nsMap mainGlobals (.ofString "__annotations__") = ann)
    (r : topRun treeTable p w m ann N s₀ (topStub p) = some s₁) (l : (staticsOk (importedModules p.main.body) s₀.heap s₁.heap && namesBound p s₁.heap && gensDone s₁ && laidKept s₀.heap s₁.heap) = true) : topFrom treeTable p w N s₀ = some s₁ := by
  subst z2 z3
  unfold topFrom
  rw [z1]
  dsimp only
  rw [r]
  show (match staticsOk (importedModules p.main.body) s₀.heap s₁.heap && namesBound p s₁.heap && gensDone s₁ && laidKept s₀.heap s₁.heap with | true => some s₁ | false => none) = _
  rw [l]
theorem ends_of {p : Program} {w : World} {N : Nat} {s₀ s₁ : Shared} {β γ : Type} {A : Shared → β} {B : Shared → γ} {a : β} {b : γ} (e : fencedOpening treeTable p w N = some s₀) (t : topFrom treeTable p w N s₀ = some s₁) (l2 : A s₁ = a) (l3 : B s₁ = b) :
    (openEnds treeTable p w N).map (fun s => (A s, B s)) = some (a, b) := by
  unfold openEnds
  rw [e]
  show (topFrom treeTable p w N s₀).map _ = _
  rw [t]
  exact congrArg some (Prod.ext l2 l3)
theorem good_of {q : Program} {loose : List Str} (x : type_of% (openGood q loose)) (d1 : x.1 = expectedOf q) (d2 : x.2.1 = bltViewBooted) (d3 : x.2.2.1 = true) (e1 : x.2.2.2.1 = true) (e2 : x.2.2.2.2.1 = pinGoodD (drecsOf q)) (e3 : x.2.2.2.2.2.1 = plainGoodE q (looseW q loose))
    (f1 : x.2.2.2.2.2.2.1 = plainGoodD q loose) (f2 : x.2.2.2.2.2.2.2.1 = wideGood q) (f3 : x.2.2.2.2.2.2.2.2 = clsGoodW q loose) : x = openGood q loose := by
  unfold openGood
  exact Prod.ext d1 (Prod.ext d2 (Prod.ext d3 (Prod.ext e1 (Prod.ext e2 (Prod.ext e3 (Prod.ext f1 (Prod.ext f2 f3)))))))
theorem left : LeftO pw vw lo xt hook.obs hook.val 6000 := fun w => by
  obtain ⟨⟨h, gs, d, k, os⟩, e, e'⟩ := Option.map_eq_some_iff.mp (boot_open (p := pw) (N := 6000) opens rfl fences w)
  simp only [Prod.mk.injEq] at e'
  obtain ⟨rfl, rfl, rfl, rfl⟩ := e'
  have hA := congrFun (segA w) os
  have hN := congrFun (segN w) os
  have hB := congrFun (segB w) os
  have hC := congrFun (segC w) os
  have hD := endD w os
  have hE := endE w os
  have hF := endF w os
  simp only [Prod.mk.injEq] at hD hE hF
  obtain ⟨d1, d2, d3⟩ := hD
  obtain ⟨e1, e2, e3⟩ := hE
  obtain ⟨f1, f2, f3⟩ := hF
  have l1 := endL w os
  rw [← drT_eq] at e2
  rw [← lwT_eq] at e3
  have l2 := good_of _ d1 d2 d3 e1 e2 e3 f1 f2 f3
  unfold sees at l2
  rw [← PySem.W.Fast.te4187177175401517315, ← impT_eq] at l2
  unfold looks at l1
  rw [← impT_eq] at l1
  have b1 := congrFun (blockT w) os
  have p1 := congrFun (preT w) os
  unfold runT at hA hN hB hC
  rw [← PySem.W.Fast.te10110043849684766642, ← tT_eq] at hA hN hB hC
  rw [← PySem.W.Fast.te14374325043358763698, ← tT_eq] at b1
  rw [← PySem.W.Fast.te15667345088766844465, ← PySem.W.Fast.te11892475500146522536, ← tT_eq] at p1
  have r1 := piece_app (segRun_of hA) (piece_app (segRun_of hN) (piece_app (segRun_of hB) (piece_app (rest := []) (segRun_of hC) (piece_nil (fin_run w _)))))
  rw [List.append_nil, show (behindTheImports pw).drop 18 = ((behindTheImports pw).drop 14).drop 4 by rw [List.drop_drop], List.take_append_drop, show (behindTheImports pw).drop 14 = ((behindTheImports pw).drop 13).drop 1 by rw [List.drop_drop], List.take_append_drop, List.take_append_drop] at r1
  have r5 := topRun_mono (6000 - 5815) _ _ _ _ (go_top p1 (piece_block b1 r1))
  have z := boot_size w
  simp only [Prod.mk.injEq] at z
  obtain ⟨z1, z2, z3⟩ := z
  exact ends_of (A := fun s => openSeen vw lo (importedModules pw.main.body) xt true s) (B := hook.obs) e (from_of z1 z2 z3 r5 l1) l2 (tg_map (endK w os))
end

/-! H4 -/
section
open PySem PySem.W PyProof.Rows
theorem well0 : looksOpen PySem.Challenge.rw_ji0018_01.row.prog = true := by kernel_rfl
theorem well1 : PySem.Challenge.rw_ji0018_01.row.wellSaid = true := by
  unfold OpenRow.wellSaid OpenRow.partSaid
  rw [well0]
  kernel_rfl
theorem well : PySem.Challenge.rw_ji0018_01.wellSaid = true := by
  unfold OpenLaw.wellSaid
  rw [well1]
  kernel_rfl
end

/-! M1 -/
section
open PySem PySem.W PyProof.Rows PySem.Calls

abbrev Rel := Addr → Obj → Prop

/-- what a call finds: the top's heap, the heap at the call, the objects that stand still, the frames below, the addresses it may turn -/
structure Bs where
  H0 : Heap
  hs : Heap
  R₀ : Rel
  fo : List Addr
  W : List Addr

structure Bok (b : Bs) : Prop where
  base : ∀ a o, b.H0.get? a = some o → b.R₀ a o
  fr : ∀ a o, b.R₀ a o → b.hs.get? a = some o
  off : ∀ a o, b.R₀ a o → a ∉ b.fo
  live : ∀ a ∈ b.fo, ∃ o es ep, b.hs.get? a = some o ∧ o.data = .dict es ep
  woff : ∀ a ∈ b.W, a ∉ b.fo ∧ ∀ o, ¬ b.R₀ a o
  sz : b.H0.objs.size ≤ b.hs.objs.size

/-- what a call leaves -/
structure Ret (b : Bs) (R : Rel) (h : Heap) : Prop where
  keep : ∀ c o, b.hs.get? c = some o → c ∉ b.W → c ∉ b.fo → h.get? c = some o
  slot : ∀ c o, b.hs.get? c = some o → c ∈ b.fo → ∃ sl, h.get? c = some { o with slots := sl }
  al : ∀ c o, b.hs.get? c = some o → ∃ o', h.get? c = some o'
  sub : ∀ a o, b.R₀ a o → R a o
  new : ∀ a o, R a o → b.R₀ a o ∨ b.hs.get? a = none
  fr : ∀ a o, R a o → h.get? a = some o

/-- a frame at work -/
structure St (b : Bs) (L : Addr) (m : Str → Option Value) (R : Rel) (M : List (Addr × Obj)) (h : Heap) : Prop extends Ret b R h where
  ok : Bok b
  ns : h.Ns L m
  Lnew : b.hs.get? L = none
  offL : ∀ a o, R a o → a ≠ L
  mu : ∀ p ∈ M, h.get? p.1 = some p.2
  mo : ∀ p ∈ M, p.1 ≠ L ∧ p.1 ∉ b.fo ∧ (∀ o, ¬ R p.1 o) ∧ (p.1 ∈ b.W ∨ b.hs.get? p.1 = none)
  nd : (M.map (·.1)).Nodup
  lo : b.H0.objs.size ≤ L

def Rel.ins (R : Rel) (a : Addr) (o : Obj) : Rel := fun b x => R b x ∨ (b = a ∧ x = o)

theorem gnone_of_le {h : Heap} {a : Addr} (ha : h.objs.size ≤ a) : h.get? a = none := by
  cases q : h.get? a with
  | none => rfl
  | some o => exact absurd (Heap.lt_size q) (Nat.not_lt.mpr ha)
theorem ns_slots {h h' : Heap} {a : Addr} {m : Str → Option Value} (hn : h.Ns a m) (e : ∀ o, h.get? a = some o → ∃ sl, h'.get? a = some { o with slots := sl }) : h'.Ns a m :=
  let ⟨o, es, ep, x, d, r⟩ := hn; let ⟨_, q⟩ := e o x; ⟨_, es, ep, q, d, r⟩

section
variable {b : Bs} {L : Addr} {m m' : Str → Option Value} {R R' : Rel} {M M' : List (Addr × Obj)} {h h' : Heap}

theorem Ret.none_of (S : Ret b R h) {a : Addr} (e : h.get? a = none) : b.hs.get? a = none := by
  cases q : b.hs.get? a with
  | none => rfl
  | some o => obtain ⟨o', q'⟩ := S.al a o q; rw [e] at q'; cases q'

theorem St.base (S : St b L m R M h) : ∀ a o, b.H0.get? a = some o → h.get? a = some o := fun a o e => S.fr a o (S.sub a o (S.ok.base a o e))
theorem St.baseR (S : St b L m R M h) : ∀ a o, b.H0.get? a = some o → R a o := fun a o e => S.sub a o (S.ok.base a o e)

theorem St.foL (S : St b L m R M h) : L ∉ b.fo := fun hm => by
  obtain ⟨o, es, ep, e, _⟩ := S.ok.live L hm
  rw [S.Lnew] at e; cases e

theorem St.offF (S : St b L m R M h) : ∀ a o, R a o → a ∉ b.fo := fun a o r hm => by
  rcases S.new a o r with q | q
  · exact S.ok.off a o q hm
  · obtain ⟨o, es, ep, e, _⟩ := S.ok.live a hm
    rw [q] at e; cases e

theorem St.get {a : Addr} {o : Obj} (S : St b L m R M h) (hm : (a, o) ∈ M) : h.get? a = some o := S.mu (a, o) hm

/-- the locals turn -/
theorem St.store (S : St b L m R M h) (hn : h'.Ns L m') (hs : Heap.SameBut L h h') : St b L m' R M h' where
  keep := fun c o e hW hF => (hs.2 c fun q => by rw [q, S.Lnew] at e; cases e).trans (S.keep c o e hW hF)
  slot := fun c o e hF => let ⟨sl, q⟩ := S.slot c o e hF; ⟨sl, (hs.2 c fun q => by rw [q, S.Lnew] at e; cases e).trans q⟩
  al := fun c o e => let ⟨o', q⟩ := S.al c o e; ⟨o', (hs.2 c fun q => by rw [q, S.Lnew] at e; cases e).trans q⟩
  sub := S.sub
  new := S.new
  fr := fun a o r => (hs.2 a (S.offL a o r)).trans (S.fr a o r)
  ok := S.ok
  ns := hn
  Lnew := S.Lnew
  offL := S.offL
  mu := fun p hp => (hs.2 p.1 (S.mo p hp).1).trans (S.mu p hp)
  mo := S.mo
  nd := S.nd
  lo := S.lo

/-- a new object -/
theorem St.push (S : St b L m R M h) (o : Obj) (hf : o.isFreed = false := by rfl) : St b L m R ((h.objs.size, o) :: M) (h.push o) where
  keep := fun c x e hW hF => Heap.get?_push_of_some o (S.keep c x e hW hF)
  slot := fun c x e hF => let ⟨sl, q⟩ := S.slot c x e hF; ⟨sl, Heap.get?_push_of_some o q⟩
  al := fun c x e => let ⟨o', q⟩ := S.al c x e; ⟨o', Heap.get?_push_of_some o q⟩
  sub := S.sub
  new := S.new
  fr := fun a x r => Heap.get?_push_of_some o (S.fr a x r)
  ok := S.ok
  ns := S.ns.push o
  Lnew := S.Lnew
  offL := S.offL
  mu := fun p hp => by
    rcases List.mem_cons.mp hp with rfl | hp
    · exact Heap.get?_push_size h hf
    · exact Heap.get?_push_of_some o (S.mu p hp)
  mo := fun p hp => by
    rcases List.mem_cons.mp hp with rfl | hp
    · refine ⟨Nat.ne_of_gt S.ns.lt, fun hm => ?_, fun x r => Nat.lt_irrefl _ (Heap.lt_size (S.fr _ x r)), .inr (S.none_of (gnone_of_le (Nat.le_refl _)))⟩
      obtain ⟨x, es, ep, e, _⟩ := S.ok.live _ hm
      obtain ⟨sl, q⟩ := S.slot _ x e hm
      exact Nat.lt_irrefl _ (Heap.lt_size q)
    · exact S.mo p hp
  nd := by
    rw [List.map_cons, List.nodup_cons]
    refine ⟨fun hm => ?_, S.nd⟩
    obtain ⟨p, hp, e⟩ := List.mem_map.mp hm
    have e : p.1 = h.objs.size := e
    have := Heap.lt_size (S.mu p hp)
    rw [e] at this
    exact Nat.lt_irrefl _ this
  lo := S.lo

/-- fewer, in another order -/
theorem St.perm (S : St b L m R M h) (hs : ∀ p ∈ M', p ∈ M) (hn : (M'.map (·.1)).Nodup) : St b L m R M' h where
  toRet := S.toRet
  ok := S.ok
  ns := S.ns
  Lnew := S.Lnew
  offL := S.offL
  mu := fun p hp => S.mu p (hs p hp)
  mo := fun p hp => S.mo p (hs p hp)
  nd := hn
  lo := S.lo
theorem St.sublist (S : St b L m R M h) (hs : M'.Sublist M) : St b L m R M' h := S.perm (fun _ hp => hs.subset hp) (S.nd.sublist (hs.map _))
theorem St.drop (S : St b L m R M h) : St b L m R [] h := S.sublist (List.nil_sublist _)
theorem St.tail {p : Addr × Obj} (S : St b L m R (p :: M) h) : St b L m R M h := S.sublist (List.sublist_cons_self _ _)
theorem St.permute (S : St b L m R M h) (hs : M.Perm M') : St b L m R M' h := S.perm (fun _ hp => hs.symm.subset hp) ((hs.map _).nodup S.nd)
theorem St.swap {p q : Addr × Obj} (S : St b L m R (p :: q :: M) h) : St b L m R (q :: p :: M) h := S.permute (List.Perm.swap _ _ _)

/-- an object stands still from here on (it must be a new one) -/
theorem St.freeze {a : Addr} {o : Obj} (S : St b L m R ((a, o) :: M) h) (hn : b.hs.get? a = none) : St b L m (R.ins a o) M h where
  keep := S.keep
  slot := S.slot
  al := S.al
  sub := fun c x r => .inl (S.sub c x r)
  new := fun c x r => by
    rcases r with r | ⟨rfl, rfl⟩
    · exact S.new c x r
    · exact .inr hn
  fr := fun c x r => by
    rcases r with r | ⟨rfl, rfl⟩
    · exact S.fr c x r
    · exact S.mu _ (.head _)
  ok := S.ok
  ns := S.ns
  Lnew := S.Lnew
  offL := fun c x r => by
    rcases r with r | ⟨rfl, rfl⟩
    · exact S.offL c x r
    · exact (S.mo _ (.head _)).1
  mu := fun p hp => S.mu p (.tail _ hp)
  mo := fun p hp => by
    have P := S.mo p (.tail _ hp)
    refine ⟨P.1, P.2.1, fun x r => ?_, P.2.2.2⟩
    rcases r with r | ⟨e, rfl⟩
    · exact P.2.2.1 x r
    · have := S.nd
      rw [List.map_cons, List.nodup_cons] at this
      exact this.1 (List.mem_map.mpr ⟨p, hp, e⟩)
  nd := S.tail.nd
  lo := S.lo
/-- a new object that stands still at once -/
theorem St.pushR (S : St b L m R M h) (o : Obj) (hf : o.isFreed = false := by rfl) : St b L m (R.ins h.objs.size o) M (h.push o) :=
  (S.push o hf).freeze (S.none_of (gnone_of_le (Nat.le_refl _)))

/-- one entry of M is turned -/
inductive UpdL (a : Addr) (o o' : Obj) : List (Addr × Obj) → List (Addr × Obj) → Prop
  | head {N : List (Addr × Obj)} : UpdL a o o' ((a, o) :: N) ((a, o') :: N)
  | tail {p : Addr × Obj} {N N' : List (Addr × Obj)} : UpdL a o o' N N' → UpdL a o o' (p :: N) (p :: N')

theorem UpdL.mem {a : Addr} {o o' : Obj} (u : UpdL a o o' M M') : (a, o) ∈ M := by
  induction u with
  | head => exact .head _
  | tail _ ih => exact .tail _ ih
theorem UpdL.map {a : Addr} {o o' : Obj} (u : UpdL a o o' M M') : M'.map (·.1) = M.map (·.1) := by
  induction u with
  | head => rfl
  | tail _ ih => simp [ih]
theorem UpdL.of_mem {a : Addr} {o o' : Obj} (u : UpdL a o o' M M') (hn : (M.map (·.1)).Nodup) : ∀ p ∈ M', p = (a, o') ∨ (p ∈ M ∧ p.1 ≠ a) := by
  induction u with
  | @head N =>
    intro p hp
    rcases List.mem_cons.mp hp with h | h
    · exact .inl h
    · refine .inr ⟨.tail _ h, fun e => ?_⟩
      rw [List.map_cons, List.nodup_cons] at hn
      exact hn.1 (List.mem_map.mpr ⟨p, h, e⟩)
  | @tail q N N' u ih =>
    intro p hp
    rw [List.map_cons, List.nodup_cons] at hn
    rcases List.mem_cons.mp hp with h | h
    · refine .inr ⟨h ▸ .head _, fun e => ?_⟩
      subst h
      exact hn.1 (List.mem_map.mpr ⟨_, u.mem, e.symm⟩)
    · exact (ih hn.2 p h).imp id fun x => ⟨.tail _ x.1, x.2⟩
theorem UpdL.of_split {a : Addr} {o o' : Obj} : ∀ {pre post : List (Addr × Obj)}, UpdL a o o' (pre ++ (a, o) :: post) (pre ++ (a, o') :: post)
  | [], _ => .head
  | _ :: _, _ => .tail UpdL.of_split

theorem St.upd' {a : Addr} {o o' : Obj} (S : St b L m R M h) (u : UpdL a o o' M M') (hk : ∀ c x, c ≠ a → c ≠ L → h.get? c = some x → h'.get? c = some x) (hn : h'.Ns L m) (ho : h'.get? a = some o') : St b L m R M' h' := by
  have P := S.mo _ u.mem
  have hsL : ∀ c x, b.hs.get? c = some x → c ≠ L := fun c x e q => by rw [q, S.Lnew] at e; cases e
  have ne : ∀ c x, b.hs.get? c = some x → c ∉ b.W → c ≠ a := fun c x e hW q => by
    rcases P.2.2.2 with z | z
    · exact hW (q ▸ z)
    · have z : b.hs.get? a = none := z
      rw [q, z] at e; cases e
  refine { keep := fun c x e hW hF => hk c x (ne c x e hW) (hsL c x e) (S.keep c x e hW hF), slot := fun c x e hF => ?_, al := fun c x e => ?_, sub := S.sub, new := S.new, fr := fun c x r => ?_, ok := S.ok, ns := hn, Lnew := S.Lnew, offL := S.offL, mu := fun p hp => ?_, mo := fun p hp => ?_, nd := u.map ▸ S.nd, lo := S.lo }
  · obtain ⟨sl, q⟩ := S.slot c x e hF
    exact ⟨sl, hk c _ (fun q => P.2.1 (show a ∈ b.fo from q ▸ hF)) (hsL c x e) q⟩
  · by_cases hc : c = a
    · exact ⟨o', hc ▸ ho⟩
    · obtain ⟨x', q⟩ := S.al c x e
      exact ⟨x', hk c _ hc (hsL c x e) q⟩
  · exact hk c x (fun q => P.2.2.1 x (show R a x from q ▸ r)) (S.offL c x r) (S.fr c x r)
  · rcases u.of_mem S.nd p hp with rfl | ⟨hp, hne⟩
    · exact ho
    · exact hk p.1 p.2 hne (S.mo p hp).1 (S.mu p hp)
  · rcases u.of_mem S.nd p hp with rfl | ⟨hp, _⟩
    · exact P
    · exact S.mo p hp
theorem St.upd {a : Addr} {o o' : Obj} (S : St b L m R M h) (u : UpdL a o o' M M') (hs : Heap.SameBut a h h') (ho : h'.get? a = some o') : St b L m R M' h' :=
  S.upd' u (fun c _ hc _ e => (hs.2 c hc).trans e) (S.ns.sameBut hs fun q => (S.mo _ u.mem).1 q.symm) ho

/-- a heap with all this and more -/
theorem St.keeps (S : St b L m R M h) (hk : ∀ c x, h.get? c = some x → h'.get? c = some x) : St b L m R M h' where
  keep := fun c x e hW hF => hk _ _ (S.keep c x e hW hF)
  slot := fun c x e hF => let ⟨sl, q⟩ := S.slot c x e hF; ⟨sl, hk _ _ q⟩
  al := fun c x e => let ⟨x', q⟩ := S.al c x e; ⟨x', hk _ _ q⟩
  sub := S.sub
  new := S.new
  fr := fun c x r => hk _ _ (S.fr c x r)
  ok := S.ok
  ns := S.ns.keeps hk
  Lnew := S.Lnew
  offL := S.offL
  mu := fun p hp => hk _ _ (S.mu p hp)
  mo := S.mo
  nd := S.nd
  lo := S.lo
/-- and one of the more -/
theorem St.add {a : Addr} {o : Obj} (S : St b L m R M h) (hk : ∀ c x, h.get? c = some x → h'.get? c = some x) (hn : h.get? a = none) (ho : h'.get? a = some o) : St b L m R ((a, o) :: M) h' where
  toRet := (S.keeps hk).toRet
  ok := S.ok
  ns := S.ns.keeps hk
  Lnew := S.Lnew
  offL := S.offL
  mu := fun p hp => by
    rcases List.mem_cons.mp hp with rfl | hp
    · exact ho
    · exact hk _ _ (S.mu p hp)
  mo := fun p hp => by
    rcases List.mem_cons.mp hp with rfl | hp
    · refine ⟨fun e => ?_, fun hm => ?_, fun x r => ?_, .inr (S.none_of hn)⟩
      · have e : a = L := e
        obtain ⟨x, _, _, y, _⟩ := S.ns
        rw [e, y] at hn; cases hn
      · obtain ⟨x, es, ep, e, _⟩ := S.ok.live _ hm
        obtain ⟨sl, q⟩ := S.slot _ x e hm
        have q : h.get? a = _ := q
        rw [hn] at q; cases q
      · have := S.fr _ x r
        have this : h.get? a = _ := this
        rw [hn] at this; cases this
    · exact S.mo p hp
  nd := by
    rw [List.map_cons, List.nodup_cons]
    refine ⟨fun hm => ?_, S.nd⟩
    obtain ⟨p, hp, e⟩ := List.mem_map.mp hm
    have e : p.1 = a := e
    have := S.mu p hp
    rw [e, hn] at this; cases this
  lo := S.lo
theorem St.addR {a : Addr} {o : Obj} (S : St b L m R M h) (hk : ∀ c x, h.get? c = some x → h'.get? c = some x) (hn : h.get? a = none) (ho : h'.get? a = some o) : St b L m (R.ins a o) M h' :=
  (S.add hk hn ho).freeze (S.none_of hn)

theorem St.fr0 (S : St b L m R M h) : Fr b.H0 L h m := ⟨S.ns, S.base, S.lo⟩
theorem St.news (S : St b L m R M h) : News b.H0 L h M := fun p hp => ⟨S.mu p hp, (S.mo p hp).1, by
  cases q : b.H0.get? p.1 with
  | none => rfl
  | some o => exact absurd (S.baseR _ _ q) ((S.mo p hp).2.2.1 o)⟩

/-- all that lives beside -/
def restOf (H0 h : Heap) (L a : Addr) : List (Addr × Obj) := (List.range h.objs.size).filterMap fun c => if c = L ∨ c = a ∨ (H0.get? c).isSome then none else (h.get? c).map fun o => (c, o)
theorem mem_restOf {H0 h : Heap} {L a c : Addr} {o : Obj} : (c, o) ∈ restOf H0 h L a ↔ h.get? c = some o ∧ c ≠ L ∧ c ≠ a ∧ H0.get? c = none := by
  unfold restOf
  rw [List.mem_filterMap]
  constructor
  · rintro ⟨d, _, e⟩
    split at e
    · cases e
    · rename_i q
      simp only [not_or] at q
      obtain ⟨x, e1, e2⟩ := Option.map_eq_some_iff.mp e
      cases e2
      exact ⟨e1, q.1, q.2.1, by simpa using q.2.2⟩
  · rintro ⟨e, h1, h2, h3⟩
    refine ⟨c, List.mem_range.mpr (Heap.lt_size e), ?_⟩
    rw [if_neg (by simp [h1, h2, h3]), e]; rfl
theorem St.news1 {a : Addr} {o : Obj} (S : St b L m R M h) (hm : (a, o) ∈ M) : News b.H0 L h ((a, o) :: restOf b.H0 h L a) := fun p hp => by
  rcases List.mem_cons.mp hp with rfl | hp
  · exact S.news _ hm
  · obtain ⟨c, x⟩ := p
    obtain ⟨h1, h2, h3, h4⟩ := mem_restOf.mp hp
    exact ⟨h1, h2, h4⟩
/-- a turn by a rule of the library over (frame, ledger) -/
theorem St.upd1 {a : Addr} {o o' : Obj} (S : St b L m R M h) (u : UpdL a o o' M M') (F : Fr b.H0 L h' m) (N : News b.H0 L h' ((a, o') :: restOf b.H0 h L a)) : St b L m R M' h' :=
  S.upd' u (fun c x hc hL e => by
    cases q : b.H0.get? c with
    | some y =>
      have := S.base c y q
      rw [e] at this; cases this
      exact F.keep c _ q
    | none => exact (N (c, x) (.tail _ (mem_restOf.mpr ⟨e, hL, hc, q⟩))).1) F.ns (N _ (.head _)).1

/-- a call made from here -/
abbrev Bs.at (b : Bs) (L : Addr) (R : Rel) (h : Heap) (W : List Addr) : Bs := ⟨b.H0, h, R, L :: b.fo, W⟩
theorem St.call (S : St b L m R M h) (W : List Addr) (hW : ∀ a ∈ W, a ∈ M.map (·.1)) : Bok (b.at L R h W) where
  base := S.baseR
  fr := S.fr
  off := fun a o r hm => (List.mem_cons.mp hm).elim (S.offL a o r) (S.offF a o r)
  live := fun a hm => by
    rcases List.mem_cons.mp hm with rfl | hm
    · obtain ⟨o, es, ep, e, d, _⟩ := S.ns
      exact ⟨o, es, ep, e, d⟩
    · obtain ⟨o, es, ep, e, d⟩ := S.ok.live a hm
      obtain ⟨sl, q⟩ := S.slot a o e hm
      exact ⟨_, es, ep, q, d⟩
  woff := fun a ha => by
    obtain ⟨p, hp, rfl⟩ := List.mem_map.mp (hW a ha)
    have P := S.mo p hp
    exact ⟨fun hm => (List.mem_cons.mp hm).elim P.1 P.2.1, P.2.2.1⟩
  sz := Nat.le_trans S.lo (Nat.le_of_lt S.ns.lt)
theorem St.call0 (S : St b L m R M h) : Bok (b.at L R h []) := S.call [] fun _ h => nomatch h

/-- what the call leaves, here: MW the turned ones, MW' as they now stand, Mr the others -/
theorem St.retW {MW MW' Mr : List (Addr × Obj)} {W : List Addr} (S : St b L m R (MW ++ Mr) h) (hW : W = MW.map (·.1)) (r : Ret (b.at L R h W) R' h')
    (hm : MW'.map (·.1) = MW.map (·.1)) (ho : ∀ p ∈ MW', h'.get? p.1 = some p.2) : St b L m R' (MW' ++ Mr) h' := by
  subst hW
  have hL : L ∉ MW.map (·.1) := fun q => by
    obtain ⟨p, hp, e⟩ := List.mem_map.mp q
    exact (S.mo p (List.mem_append_left _ hp)).1 e
  have hF : ∀ c ∈ b.fo, c ∉ MW.map (·.1) := fun c hc q => by
    obtain ⟨p, hp, e⟩ := List.mem_map.mp q
    exact (S.mo p (List.mem_append_left _ hp)).2.1 (show p.1 ∈ b.fo from (show p.1 = c from e) ▸ hc)
  have hnd := S.nd
  rw [List.map_append] at hnd
  have Ll : ∃ o es ep, h.get? L = some o ∧ o.data = .dict es ep := let ⟨o, es, ep, e, d, _⟩ := S.ns; ⟨o, es, ep, e, d⟩
  have mem' : ∀ p ∈ MW' ++ Mr, ∃ q ∈ MW ++ Mr, q.1 = p.1 := fun p hp => by
    rcases List.mem_append.mp hp with hp | hp
    · have : p.1 ∈ MW.map (·.1) := hm ▸ List.mem_map_of_mem hp
      obtain ⟨q, hq, e⟩ := List.mem_map.mp this
      exact ⟨q, List.mem_append_left _ hq, e⟩
    · exact ⟨p, List.mem_append_right _ hp, rfl⟩
  refine { keep := fun c o e hW hc => ?_, slot := fun c o e hc => ?_, al := fun c o e => ?_, sub := fun a o q => r.sub a o (S.sub a o q), new := fun a o q => ?_, fr := r.fr, ok := S.ok, ns := ?_, Lnew := S.Lnew, offL := fun a o q e => ?_, mu := fun p hp => ?_, mo := fun p hp => ?_, nd := ?_, lo := S.lo }
  · refine r.keep c o (S.keep c o e hW hc) (fun q => ?_) fun q => ?_
    · obtain ⟨p, hp, rfl⟩ := List.mem_map.mp q
      rcases (S.mo p (List.mem_append_left _ hp)).2.2.2 with z | z
      · exact hW z
      · rw [z] at e; cases e
    · rcases List.mem_cons.mp q with rfl | q
      · rw [S.Lnew] at e; cases e
      · exact hc q
  · obtain ⟨sl, q⟩ := S.slot c o e hc
    obtain ⟨sl', q'⟩ := r.slot c _ q (List.mem_cons_of_mem _ hc)
    exact ⟨sl', q'⟩
  · obtain ⟨o', q⟩ := S.al c o e
    exact r.al c o' q
  · rcases r.new a o q with z | z
    · exact S.new a o z
    · exact .inr (S.none_of z)
  · exact ns_slots S.ns fun o e => r.slot L o e (List.mem_cons_self)
  · rcases r.new a o q with z | z
    · exact S.offL a o z e
    · obtain ⟨o', _, _, x, _⟩ := Ll
      have z : h.get? a = none := z
      rw [e, x] at z; cases z
  · rcases List.mem_append.mp hp with hp | hp
    · exact ho p hp
    · refine r.keep p.1 p.2 (S.mu p (List.mem_append_right _ hp)) (fun q => ?_) fun q => ?_
      · exact (List.nodup_append.mp hnd).2.2 _ q _ (List.mem_map_of_mem hp) rfl
      · have P := S.mo p (List.mem_append_right _ hp)
        exact (List.mem_cons.mp q).elim P.1 P.2.1
  · obtain ⟨q, hq, e⟩ := mem' p hp
    have P := S.mo q hq
    rw [← e]
    refine ⟨P.1, P.2.1, fun o z => ?_, P.2.2.2⟩
    rcases r.new _ o z with z | z
    · exact P.2.2.1 o z
    · have := S.mu q hq
      have z : h.get? q.1 = none := z
      rw [z] at this; cases this
  · rw [List.map_append, hm]; exact hnd
theorem St.ret (S : St b L m R M h) (r : Ret (b.at L R h []) R' h') : St b L m R' M h' :=
  S.retW (MW := []) (MW' := []) (Mr := M) rfl r rfl fun _ hp => nomatch hp

theorem St.retS {MW MW' Mr : List (Addr × Obj)} {W : List Addr} {L₂ : Addr} {m₂ : Str → Option Value} (S : St b L m R (MW ++ Mr) h) (S₂ : St (b.at L R h W) L₂ m₂ R' MW' h') (hW : W = MW.map (·.1))
    (hm : MW'.map (·.1) = MW.map (·.1)) : St b L m R' (MW' ++ Mr) h' := S.retW hW S₂.toRet hm S₂.mu

/-- what an expression leaves that only adds -/
theorem St.adds (S : St b L m R M h) (hk : ∀ c x, h.get? c = some x → h'.get? c = some x) (hs : ∀ a o, R a o → R' a o) (hn : ∀ a o, R' a o → R a o ∨ h.get? a = none) (hf : ∀ a o, R' a o → h'.get? a = some o) : Ret (b.at L R h []) R' h' where
  keep := fun c o e _ _ => hk _ _ e
  slot := fun c o e _ => ⟨o.slots, hk _ _ e⟩
  al := fun c o e => ⟨o, hk _ _ e⟩
  sub := hs
  new := hn
  fr := hf
theorem St.adds0 (S : St b L m R M h) (hk : ∀ c x, h.get? c = some x → h'.get? c = some x) : Ret (b.at L R h []) R h' :=
  S.adds hk (fun _ _ r => r) (fun _ _ r => .inl r) fun a o r => hk _ _ (S.fr a o r)

end
end

/-! M2 -/
section
open PySem PySem.W PyProof.Rows PySem.Calls

/-- one name more -/
def ups (m : Str → Option Value) (x : Str) (v : Value) : Str → Option Value := fun y => if y = x then some v else m y
theorem fill : Challenge.rw_ji0018_01 = Challenge.rw_ji0018_01 ∧ topK = topK := by
  k_fill
  exact ⟨rfl, rfl⟩

/-- the top, once -/
structure Glb (w : World) (H0 : Heap) : Prop where
  kin : (topK w.params).In H0
  lim : H0.NoLimit
  glo : ∃ mg, H0.Ns mainGlobals mg
  bi : ∃ mb, H0.Ns builtinsNs mb ∧ ∀ x : Str, x ≠ "__name__" → mb x = bootBuiltins x

/-- the room around: n more calls -/
structure Ar (n : Nat) (A : Around) (fs : List Addr) : Prop where
  depth : A.depth + n < recursionLimit
  units : A.units + 100 * n + 200 < cLine
  hnd : A.handled = none
  frames : ∃ envs, A.frames = some envs ∧ envs.map (·.frame) = fs.map some ∧ ∀ e ∈ envs, e.scope.kind ≠ .module

theorem Ar.le {n m : Nat} {A : Around} {fs : List Addr} (a : Ar n A fs) (h : m ≤ n) : Ar m A fs :=
  ⟨by have := a.depth; omega, by have := a.units; omega, a.hnd, a.frames⟩
theorem Ar.deeper {n : Nat} {A : Around} {fs : List Addr} (a : Ar (n + 1) A fs) {name : Str} {scope : Scope} {L f : Addr} {cd : Value} (hk : scope.kind = .function) :
    Ar n (A.deeper (envOf name scope L f cd)) (L :: fs) where
  depth := by have := a.depth; show A.depth + 1 + n < _; omega
  units := by have := a.units; show A.units + 3 + 100 * n + 200 < _; omega
  hnd := a.hnd
  frames := by
    obtain ⟨envs, e1, e2, e3⟩ := a.frames
    refine ⟨envOf name scope L f cd :: envs, by show A.frames.map _ = _; rw [e1]; rfl, by rw [List.map_cons, List.map_cons, e2]; rfl, ?_⟩
    intro e he
    rcases List.mem_cons.mp he with rfl | he
    · show scope.kind ≠ _; rw [hk]; decide
    · exact e3 e he
theorem Ar.under {n : Nat} {A : Around} {fs : List Addr} {C : Addr} {pos : List Value} {kw : List (Str × Value)} (a : Ar (n + 1) A fs) : Ar n (A.under (.builtin "type.__call__" ⟨.ref C :: pos, kw⟩)) fs where
  depth := by have := a.depth; rw [depth_under_kw]; omega
  units := by
    have := a.units
    have e : (A.under (.builtin "type.__call__" ⟨.ref C :: pos, kw⟩)).units ≤ A.units + 8 := by
      show A.units + Code.cUnits _ ≤ _
      have : Code.cUnits (.builtin "type.__call__" ⟨.ref C :: pos, kw⟩) ≤ 8 := by unfold Code.cUnits; simp [Code.frames, Code.isFrame]
      omega
    omega
  hnd := a.hnd
  frames := a.frames

theorem bv_len : bootBuiltins (Str.ofString "len") = some (.builtin "len") := by with_unfolding_all rfl
theorem bv_isinstance : bootBuiltins (Str.ofString "isinstance") = some (.builtin "isinstance") := by with_unfolding_all rfl
theorem bv_max : bootBuiltins (Str.ofString "max") = some (.builtin "max") := by with_unfolding_all rfl
theorem bv_min : bootBuiltins (Str.ofString "min") = some (.builtin "min") := by with_unfolding_all rfl
theorem bv_range : bootBuiltins (Str.ofString "range") = some (.type "range") := by with_unfolding_all rfl
theorem bv_list : bootBuiltins (Str.ofString "list") = some (.type "list") := by with_unfolding_all rfl
theorem bv_tuple : bootBuiltins (Str.ofString "tuple") = some (.type "tuple") := by with_unfolding_all rfl
theorem bv_bytes : bootBuiltins (Str.ofString "bytes") = some (.type "bytes") := by with_unfolding_all rfl
theorem bv_dict : bootBuiltins (Str.ofString "dict") = some (.type "dict") := by with_unfolding_all rfl
theorem bv_KeyError : bootBuiltins (Str.ofString "KeyError") = some (.type "KeyError") := by with_unfolding_all rfl
theorem bv_ValueError : bootBuiltins (Str.ofString "ValueError") = some (.type "ValueError") := by with_unfolding_all rfl

section
variable {w : World} {A : Around} {E : Value → Shared → Prop} {s : Shared} {b : Bs} {L : Addr} {m : Str → Option Value} {R : Rel} {M : List (Addr × Obj)} {cn : Str} {cs : Scope} {fa : Addr} {cd : Value}

theorem St.kin {h : Heap} (S : St b L m R M h) (G : Glb w b.H0) : (topK w.params).In h := G.kin.keeps S.base

theorem nameL {x : Str} {pos : Pos} {v : Value} {Q : Value → Shared → Prop} (S : St b L m R M s.heap) (hv : m x = some v) (h : Q v s)
    (hk : cs.kind = .function := by rfl) (hl : (envOf cn cs L fa cd).kindOf x = some .local := by rfl) (hd : (x == ("__debug__" : Str)) = false := by decide) :
    wpAny (model Challenge.rw_ji0018_01.row.prog w) A (eval (.Name x pos) (envOf cn cs L fa cd)) Q E s := wpAny_Name (wpAny_loadName_local hk hl S.ns hv h) hd

theorem nameG {env : Env} {x : Str} {pos : Pos} {v : Value} {Q : Value → Shared → Prop} (S : St b L m R M s.heap) (G : Glb w b.H0) (e : nsIn (topK w.params) mainGlobals x = some (some v)) (h : Q v s)
    (hk : env.scope.kind = .function) (hx : env.kindOf x = some .globalImplicit) (hd : (x == ("__debug__" : Str)) = false) (he : env.globals = mainGlobals) :
    wpAny (model Challenge.rw_ji0018_01.row.prog w) A (eval (.Name x pos) env) Q E s := by
  obtain ⟨mg, hg⟩ := G.glo
  exact Name_function_global hk hx (loadGlobal_global (env := env) (by rw [he]; exact hg.keeps S.base) (mg_of G.kin hg e) h) hd

theorem nameB {env : Env} {x : Str} {pos : Pos} {v : Value} {Q : Value → Shared → Prop} (S : St b L m R M s.heap) (G : Glb w b.H0) (e : nsIn (topK w.params) mainGlobals x = some none) (hv : bootBuiltins x = some v) (hn : x ≠ "__name__") (h : Q v s)
    (hk : env.scope.kind = .function) (hx : env.kindOf x = some .globalImplicit) (hd : (x == ("__debug__" : Str)) = false) (he : env.globals = mainGlobals) (he' : env.builtins = builtinsNs) :
    wpAny (model Challenge.rw_ji0018_01.row.prog w) A (eval (.Name x pos) env) Q E s := by
  obtain ⟨mg, hg⟩ := G.glo
  obtain ⟨mb, hb, hq⟩ := G.bi
  exact Name_function_global hk hx (loadGlobal_builtin (env := env) (by rw [he]; exact hg.keeps S.base) (mg_none_of G.kin hg e) (by rw [he']; exact hb.keeps S.base) ((hq x hn).trans hv) h) hd

theorem nameC {env : Env} {C : Addr} {mc : Str → Option Value} {x : Str} {pos : Pos} {v : Value} {Q : Value → Shared → Prop} (hC : s.heap.Ns C mc) (hv : mc x = some v) (h : Q v s)
    (hk : cs.kind = .function) (hl : (compEnv cs C env).kindOf x = some .local) (hd : (x == ("__debug__" : Str)) = false) :
    wpAny (model Challenge.rw_ji0018_01.row.prog w) A (eval (.Name x pos) (compEnv cs C env)) Q E s := wpAny_Name (wpAny_loadName_local hk hl hC hv h) hd

theorem storeL {x : Str} {v : Value} {Q : Unit → Shared → Prop} (S : St b L m R M s.heap)
    (h : ∀ h', St b L (ups m x v) R M h' → Q () { s with heap := h', toks := s.toks + 1 })
    (hk : cs.kind = .function := by rfl) (hl : (envOf cn cs L fa cd).kindOf x = some .local := by rfl) :
    wpAny (model Challenge.rw_ji0018_01.row.prog w) A (storeName (envOf cn cs L fa cd) x v) Q E s :=
  wpAny_storeName_local hl S.ns (fun h' hn hs => h h' (S.store hn hs)) (by show (cs.kind == .class || (cs.kind == .module && L != mainGlobals)) = false; rw [hk]; rfl)

/-- a call by positions, plain arguments; f an own def -/
theorem callF {pos : Pos} {f : Addr} {first : List Value} {e : Expr} {rest : List Expr} {env : Env} {Q : Value → Shared → Prop} (hk : keepIn (topK w.params) (.ref f) = true)
    (h : wpAny (model Challenge.rw_ji0018_01.row.prog w) A (spliced (backTo pos (starEach (e :: rest) env))) (fun vs s₁ => (topK w.params).In s₁.heap ∧ wpAny (model Challenge.rw_ji0018_01.row.prog w) A (call (.ref f) (first ++ vs) []) Q E s₁) E s)
    (he : starEach (e :: rest) env = (false, eval e env) :: starEach rest env := by rfl) (hplain : ((backTo pos (starEach (e :: rest) env)).any (·.1) || ([] : List (Option Str × Sem Value)).any (·.1.isNone)) = false := by rfl) :
    wpAny (model Challenge.rw_ji0018_01.row.prog w) A (callWith pos (.ref f) first (backTo pos (starEach (e :: rest) env)) []) Q E s := by
  rw [he] at h hplain ⊢
  exact callWith_of hplain (keeps_K hk) (evalArgs_plain h)
theorem callF0 {pos : Pos} {f : Addr} {first : List Value} {env : Env} {Q : Value → Shared → Prop} (hk : keepIn (topK w.params) (.ref f) = true)
    (h : (topK w.params).In s.heap ∧ wpAny (model Challenge.rw_ji0018_01.row.prog w) A (call (.ref f) (first ++ []) []) Q E s) :
    wpAny (model Challenge.rw_ji0018_01.row.prog w) A (callWith pos (.ref f) first (backTo pos (starEach [] env)) []) Q E s :=
  callWith_of (args := []) rfl (keeps_K hk) (PySem.evalArgs_none h)

theorem testLast {pos : Pos} {a : Value} {op : CmpOp} {r : Sem Value} {rs : List (Sem Value)} {Q : Bool → Shared → Prop}
    (h : wpAny (model Challenge.rw_ji0018_01.row.prog w) A r (fun b s₁ => wpAny (model Challenge.rw_ji0018_01.row.prog w) A (compareOp op a b) (fun c s₂ => wpAny (model Challenge.rw_ji0018_01.row.prog w) A (truthy c) Q E s₂) E s₁) E s) (he : rs = []) :
    wpAny (model Challenge.rw_ji0018_01.row.prog w) A (testChain pos a [op] (r :: rs)) Q E s := by
  subst he
  exact test_last h

/-- names and what they hold, over u -/
def bnd : List (Str × Value) → (Str → Option Value) → Str → Option Value
  | [], u => u
  | (x, v) :: r, u => fun y => if y = x then some v else bnd r u y
theorem lookup_bnd (l : List (Str × Value)) : (fun y => l.lookup y) = bnd l fun _ => none := by
  funext y
  induction l with
  | nil => rfl
  | cons p r ih =>
    obtain ⟨x, v⟩ := p
    show List.lookup y ((x, v) :: r) = if y = x then some v else bnd r (fun _ => none) y
    rw [List.lookup_cons]
    by_cases h : y = x
    · subst h; simp
    · rw [if_neg h, show (y == x) = false from by simpa using h]; exact ih
theorem bnd_self {f : Str → Option Value} : ∀ {l : List (Str × Value)}, (∀ p ∈ l, f p.1 = some p.2) → f = bnd l f
  | [], _ => rfl
  | (x, v) :: r, h => by
    funext y
    show f y = if y = x then some v else bnd r f y
    by_cases e : y = x
    · rw [if_pos e, e]; exact h _ (.head _)
    · rw [if_neg e, ← bnd_self fun p hp => h p (.tail _ hp)]

theorem look_hit {x : Str} {v : Value} {m : Str → Option Value} : ups m x v x = some v := if_pos rfl
theorem look_skip {x y : Str} {v w : Value} {m : Str → Option Value} (h : x ≠ y) (e : m x = some v) : ups m y w x = some v := (if_neg h).trans e
theorem bnd_hit {x : Str} {v : Value} {r : List (Str × Value)} {u : Str → Option Value} : bnd ((x, v) :: r) u x = some v := if_pos rfl
theorem bnd_skip {x y : Str} {v w : Value} {r : List (Str × Value)} {u : Str → Option Value} (h : x ≠ y) (e : bnd r u x = some v) : bnd ((y, w) :: r) u x = some v := (if_neg h).trans e
/-- all names but xs hold what they held -/
def Same (xs : List Str) (m₀ m : Str → Option Value) : Prop := ∀ y, y ∉ xs → m y = m₀ y
theorem Same.refl {xs : List Str} {m : Str → Option Value} : Same xs m m := fun _ _ => rfl
theorem Same.set {xs : List Str} {m₀ m : Str → Option Value} {x : Str} {v : Value} (h : Same xs m₀ m) (hx : x ∈ xs) : Same xs m₀ (ups m x v) := fun y hy => by
  show (if y = x then some v else m y) = _
  rw [if_neg fun q => hy (by rw [q]; exact hx)]
  exact h y hy
theorem Same.get {xs : List Str} {m₀ m : Str → Option Value} {x : Str} {v : Value} (h : Same xs m₀ m) (hx : x ∉ xs) (e : m₀ x = some v) : m x = some v := (h x hx).trans e
theorem Same.trans {xs : List Str} {m₀ m₁ m₂ : Str → Option Value} (h : Same xs m₀ m₁) (g : Same xs m₁ m₂) : Same xs m₀ m₂ := fun y hy => (g y hy).trans (h y hy)
theorem Same.more {xs ys : List Str} {m₀ m₁ : Str → Option Value} (h : Same xs m₀ m₁) (hx : ∀ x ∈ xs, x ∈ ys) : Same ys m₀ m₁ := fun y hy => h y fun q => hy (hx y q)

theorem iteF {P Q : Prop} [Decidable (false = true)] (h : Q) : if false = true then P else Q := by rw [if_neg Bool.false_ne_true]; exact h
theorem iteT {P Q : Prop} [Decidable (true = true)] (h : P) : if true = true then P else Q := by rw [if_pos rfl]; exact h
def retv : Flow → Value
  | .ret v => v
  | _ => .none

/-- into an own def -/
theorem enterC {n : Nat} {name qual : Str} {params : Arguments} {body : List Stmt} {scope : Scope} {dV kV doc pm cdv ct oc : Value} {an od : Option Addr} {osl : Array (Option Value)} {f : Addr} {args : List Value} {RR : Result → Shared → Prop}
    (br : List (Str × Value)) (MW : List (Addr × Obj)) (ok : Bok b) (G : Glb w b.H0) (hs : b.hs = s.heap) (a : Ar (n + 1) A b.fo) (hM : ∀ p ∈ MW, s.heap.get? p.1 = some p.2 ∧ p.1 ∈ b.W) (hnd : (MW.map (·.1)).Nodup)
    (ho : (topK w.params).lookup f = some ⟨oc, od, .func (fnOf name qual params body scope dV kV doc pm an cdv ct), osl⟩) (hcd : codeIn (topK w.params) cdv qual = true)
    (hbind : BindsTo s (fnOf name qual params body scope dV kV doc pm an cdv ct) ⟨args, []⟩ br.reverse) (hloc : ∀ y ∈ br.reverse, scope.names.lookup y.1 = some .local)
    (hco : scope.isCoroutine = false) (hgen : scope.isGenerator = false) (hk : scope.kind = .function) (hcell : ∀ x ∈ scope.names, x.2 ≠ .cell)
    (h : ∀ L h₁ tk, St b L (bnd br fun _ => none) b.R₀ MW h₁ → Ar n (A.deeper (envOf qual scope L f cdv)) (L :: b.fo) →
      wpAny (model Challenge.rw_ji0018_01.row.prog w) (A.deeper (envOf qual scope L f cdv)) (execs body (envOf qual scope L f cdv)) (fun fl s' => RR (.ok (.ret (retv fl))) s')
        (fun e s' => wpAny (model Challenge.rw_ji0018_01.row.prog w) (A.deeper (envOf qual scope L f cdv)) (leaving (envOf qual scope L f cdv) e) (fun _ s'' => RR (.error e) s'') (fun e' s'' => RR (.error e') s'') s') { s with heap := h₁, toks := tk }) :
    codeAny (model Challenge.rw_ji0018_01.row.prog w) A (.call (.ref f) ⟨args, []⟩) RR s := by
  have base : ∀ a o, b.H0.get? a = some o → s.heap.get? a = some o := fun a o e => hs ▸ ok.fr a o (ok.base a o e)
  have X : (topK w.params).In s.heap := G.kin.keeps base
  refine codeAny_call_def (fd := fnOf name qual params body scope dV kV doc pm an cdv ct) (body := body) (binds := br.reverse) (Nat.lt_of_le_of_lt (Nat.le_add_right _ _) a.depth) (X _ _ ho) rfl (G.lim.keeps base) (codeRec_of X hcd) rfl hbind hcell hloc (fun h₁ hns hk₁ => ?_) hco hgen hk
  have hL : ∀ a o, s.heap.get? a = some o → a ≠ s.heap.objs.size := fun a o e => Nat.ne_of_lt (Heap.lt_size e)
  rw [List.reverse_reverse, lookup_bnd] at hns
  have S : St b s.heap.objs.size (bnd br fun _ => none) b.R₀ MW h₁ :=
    { keep := fun c o e _ _ => hk₁ _ _ (hs ▸ e), slot := fun c o e _ => ⟨o.slots, hk₁ _ _ (hs ▸ e)⟩, al := fun c o e => ⟨o, hk₁ _ _ (hs ▸ e)⟩, sub := fun _ _ r => r, new := fun _ _ r => .inl r, fr := fun c o r => hk₁ _ _ (hs ▸ ok.fr c o r), ok := ok, ns := hns,
      Lnew := by rw [hs]; exact gnone_of_le (Nat.le_refl _), offL := fun c o r => hL c o (hs ▸ ok.fr c o r), mu := fun p hp => hk₁ _ _ (hM p hp).1,
      mo := fun p hp => ⟨hL _ _ (hM p hp).1, (ok.woff _ (hM p hp).2).1, (ok.woff _ (hM p hp).2).2, .inl (hM p hp).2⟩, nd := hnd, lo := hs ▸ ok.sz }
  refine wpAny_mono (h _ h₁ _ S (a.deeper hk)) (fun fl s' q => ?_) fun e s' q => q
  cases fl <;> exact q

/-- into an own def that lets nothing fly -/
theorem enter {n : Nat} {name qual : Str} {params : Arguments} {body : List Stmt} {scope : Scope} {dV kV doc pm cdv ct oc : Value} {an od : Option Addr} {osl : Array (Option Value)} {f : Addr} {args : List Value} {Q : Value → Shared → Prop}
    (br : List (Str × Value)) (MW : List (Addr × Obj)) (ok : Bok b) (G : Glb w b.H0) (hs : b.hs = s.heap) (a : Ar (n + 1) A b.fo) (hM : ∀ p ∈ MW, s.heap.get? p.1 = some p.2 ∧ p.1 ∈ b.W) (hnd : (MW.map (·.1)).Nodup)
    (ho : (topK w.params).lookup f = some ⟨oc, od, .func (fnOf name qual params body scope dV kV doc pm an cdv ct), osl⟩) (hcd : codeIn (topK w.params) cdv qual = true)
    (hbind : BindsTo s (fnOf name qual params body scope dV kV doc pm an cdv ct) ⟨args, []⟩ br.reverse) (hloc : ∀ y ∈ br.reverse, scope.names.lookup y.1 = some .local)
    (hco : scope.isCoroutine = false) (hgen : scope.isGenerator = false) (hk : scope.kind = .function) (hcell : ∀ x ∈ scope.names, x.2 ≠ .cell)
    (h : ∀ L h₁ tk E', St b L (bnd br fun _ => none) b.R₀ MW h₁ → Ar n (A.deeper (envOf qual scope L f cdv)) (L :: b.fo) →
      wpAny (model Challenge.rw_ji0018_01.row.prog w) (A.deeper (envOf qual scope L f cdv)) (execs body (envOf qual scope L f cdv)) (fun fl s' => Q (retv fl) s') E' { s with heap := h₁, toks := tk }) :
    wpAny (model Challenge.rw_ji0018_01.row.prog w) A (call (.ref f) args []) Q E s :=
  wpAny_call (enterC br MW ok G hs a hM hnd ho hcd hbind hloc hco hgen hk hcell fun L h₁ tk S ar => h L h₁ tk _ S ar)
end
end

/-! M3 -/
section
open PySem PySem.W PyProof.Rows PySem.Calls

/-! ### what the values mean -/
def LO (o : Obj) (vs : List Value) : Prop := ∃ n, o = { cls := .type "list", dict := none, data := .seq vs.toArray n, slots := #[] }
def TO (o : Obj) (vs : List Value) : Prop := ∃ n, o = { cls := .type "tuple", dict := none, data := .seq vs.toArray n, slots := #[] }
theorem LO.mk (vs : List Value) : LO { cls := .type "list", data := .seq vs.toArray } vs := ⟨_, rfl⟩
theorem TO.mk (vs : List Value) : TO { cls := .type "tuple", data := .seq vs.toArray } vs := ⟨_, rfl⟩
theorem LO.list {h : Heap} {a : Addr} {o : Obj} {vs : List Value} (x : LO o vs) (e : h.get? a = some o) : h.IsList a vs.toArray := by obtain ⟨n, rfl⟩ := x; exact ⟨_, e, rfl, n, rfl⟩
theorem TO.tup {h : Heap} {a : Addr} {o : Obj} {vs : List Value} (x : TO o vs) (e : h.get? a = some o) : IsTup h a vs.toArray := by obtain ⟨n, rfl⟩ := x; exact ⟨_, e, rfl, n, rfl⟩

inductive All2 {α β : Type} (P : α → β → Prop) : List α → List β → Prop
  | nil : All2 P [] []
  | cons {a : α} {b : β} {as : List α} {bs : List β} : P a b → All2 P as bs → All2 P (a :: as) (b :: bs)

namespace All2
variable {α β γ : Type} {P Q : α → β → Prop}
theorem length : ∀ {as : List α} {bs : List β}, All2 P as bs → as.length = bs.length
  | _, _, .nil => rfl
  | _, _, .cons _ r => by simp [r.length]
theorem imp (f : ∀ a b, P a b → Q a b) : ∀ {as : List α} {bs : List β}, All2 P as bs → All2 Q as bs
  | _, _, .nil => .nil
  | _, _, .cons h r => .cons (f _ _ h) (r.imp f)
theorem get : ∀ {as : List α} {bs : List β}, All2 P as bs → ∀ {i : Nat} {a : α}, as[i]? = some a → ∃ b, bs[i]? = some b ∧ P a b
  | _, _, .nil, i, a, e => by simp at e
  | _, _, .cons h r, 0, a, e => by simp at e; subst e; exact ⟨_, rfl, h⟩
  | _, _, .cons h r, i + 1, a, e => by simpa using r.get (by simpa using e)
theorem get' : ∀ {as : List α} {bs : List β}, All2 P as bs → ∀ {i : Nat} {b : β}, bs[i]? = some b → ∃ a, as[i]? = some a ∧ P a b
  | _, _, .nil, i, a, e => by simp at e
  | _, _, .cons h r, 0, a, e => by simp at e; subst e; exact ⟨_, rfl, h⟩
  | _, _, .cons h r, i + 1, a, e => by simpa using r.get' (by simpa using e)
theorem snoc : ∀ {as : List α} {bs : List β} {a : α} {b : β}, All2 P as bs → P a b → All2 P (as ++ [a]) (bs ++ [b])
  | _, _, _, _, .nil, h => .cons h .nil
  | _, _, _, _, .cons x r, h => .cons x (r.snoc h)
theorem append : ∀ {as : List α} {bs : List β} {as' : List α} {bs' : List β}, All2 P as bs → All2 P as' bs' → All2 P (as ++ as') (bs ++ bs')
  | _, _, _, _, .nil, h => h
  | _, _, _, _, .cons x r, h => .cons x (r.append h)
theorem drop : ∀ {as : List α} {bs : List β}, All2 P as bs → ∀ k, All2 P (as.drop k) (bs.drop k)
  | _, _, h, 0 => h
  | _, _, .nil, k + 1 => by simpa using All2.nil
  | _, _, .cons x r, k + 1 => by simpa using r.drop k
theorem take : ∀ {as : List α} {bs : List β}, All2 P as bs → ∀ k, All2 P (as.take k) (bs.take k)
  | _, _, h, 0 => by simpa using All2.nil
  | _, _, .nil, k + 1 => by simpa using All2.nil
  | _, _, .cons x r, k + 1 => by simpa using All2.cons x (r.take k)
theorem map_right {f : β → γ} {Q : α → γ → Prop} (g : ∀ a b, P a b → Q a (f b)) : ∀ {as : List α} {bs : List β}, All2 P as bs → All2 Q as (bs.map f)
  | _, _, .nil => .nil
  | _, _, .cons h r => .cons (g _ _ h) (r.map_right g)
end All2

/-- the octets as ints -/
def oi (l : List UInt8) : List Int := l.map fun b => (b.toNat : Int)
theorem oi_bound {l : List UInt8} : ∀ n ∈ oi l, 0 ≤ n ∧ n < 256 := by
  intro n hn
  obtain ⟨b, _, rfl⟩ := List.mem_map.mp hn
  have := b.toNat_lt
  omega
theorem byteArr_oi (l : List UInt8) : byteArr (oi l) = l.toArray := by
  unfold byteArr oi
  rw [List.map_map]
  congr 1
  conv => rhs; rw [← List.map_id l]
  refine List.map_congr_left fun b _ => ?_
  show ((b.toNat : Int).toNat).toUInt8 = b
  rw [Int.toNat_natCast]; exact UInt8.ofNat_toNat

/-- a list of ints: a label's octets -/
def IL (R : Rel) (v : Value) (l : List UInt8) : Prop := ∃ a o vs, v = .ref a ∧ R a o ∧ LO o vs ∧ IntsAre vs (oi l)
/-- a list of lists of ints: labels -/
def LL (R : Rel) (v : Value) (ls : List (List UInt8)) : Prop := ∃ a o vs, v = .ref a ∧ R a o ∧ LO o vs ∧ All2 (IL R) vs ls
/-- bytes -/
def BV (v : Value) (l : List UInt8) : Prop := ∃ t, v = .bytes l.toArray t
/-- a tuple of bytes -/
def TBa (R : Rel) (a : Addr) (ls : List (List UInt8)) : Prop := ∃ o vs, R a o ∧ TO o vs ∧ All2 BV vs ls
/-- a Name -/
def NA (R : Rel) (v : Value) (ls : List (List UInt8)) : Prop :=
  ∃ x d es n a, v = .ref x ∧ R x (instObj 351 d) ∧ R d (dictOf es n) ∧ getL "labels" es = some (some (.ref a)) ∧ TBa R a ls

theorem IL.mono {R R' : Rel} (h : ∀ a o, R a o → R' a o) {v : Value} {l : List UInt8} (x : IL R v l) : IL R' v l := let ⟨a, o, vs, e, r, q⟩ := x; ⟨a, o, vs, e, h _ _ r, q⟩
theorem LL.mono {R R' : Rel} (h : ∀ a o, R a o → R' a o) {v : Value} {l : List (List UInt8)} (x : LL R v l) : LL R' v l := let ⟨a, o, vs, e, r, q, z⟩ := x; ⟨a, o, vs, e, h _ _ r, q, z.imp fun _ _ y => y.mono h⟩
theorem TBa.mono {R R' : Rel} (h : ∀ a o, R a o → R' a o) {v : Addr} {l : List (List UInt8)} (x : TBa R v l) : TBa R' v l := let ⟨o, vs, r, q⟩ := x; ⟨o, vs, h _ _ r, q⟩
theorem NA.mono {R R' : Rel} (h : ∀ a o, R a o → R' a o) {v : Value} {l : List (List UInt8)} (x : NA R v l) : NA R' v l :=
  let ⟨x, d, es, n, a, e, r1, r2, g, t⟩ := x; ⟨x, d, es, n, a, e, h _ _ r1, h _ _ r2, g, t.mono h⟩
theorem Rel.le_ins {R : Rel} {a : Addr} {o : Obj} : ∀ c x, R c x → R.ins a o c x := fun _ _ r => .inl r

theorem BV.items {prog : Program} {w : World} : ∀ {vs : List Value} {ls : List (List UInt8)}, All2 BV vs ls → ItemsAre (bytesKind prog w) ls vs
  | _, _, .nil => .nil
  | _, _, .cons ⟨t, e⟩ r => .cons (by subst e; simp [bytesKind, isBytes]) (BV.items r)
theorem TBa.key {prog : Program} {w : World} {R : Rel} {h : Heap} {a : Addr} {ls : List (List UInt8)} (x : TBa R a ls) (hr : ∀ c o, R c o → h.get? c = some o) : IsTupleKey (bytesKind prog w) h ls a :=
  let ⟨o, vs, r, t, z⟩ := x; let ⟨o', e, hc, n, hd⟩ := t.tup (hr _ _ r); ⟨o', vs.toArray, n, e, hc, hd, by simpa using BV.items z⟩

/-! ### rules -/
section
variable {w : World} {A : Around} {E : Value → Shared → Prop} {s : Shared} {b : Bs} {L : Addr} {m : Str → Option Value} {R : Rel} {M M' : List (Addr × Obj)} {cn : Str} {cs : Scope} {fa : Addr} {cd : Value}

theorem appendM {l : Addr} {o : Obj} {vs : List Value} {x : Value} {Q : Value → Shared → Prop} (S : St b L m R M s.heap) (hm : (l, o) ∈ M) (hl : LO o vs)
    (h : ∀ h' o', (∀ M', UpdL l o o' M M' → St b L m R M' h') → LO o' (vs ++ [x]) → Q .none { s with heap := h' }) (hsz : vs.length ≤ sizeLine) :
    wpAny (model Challenge.rw_ji0018_01.row.prog w) A (call (.builtin "list.append") [.ref l, x]) Q E s := by
  obtain ⟨n, rfl⟩ := hl
  refine wpAny_list_append_plain ⟨n, S.mu _ hm⟩ (fun h' hl' hs => ?_) (by simpa using hsz)
  obtain ⟨n', e⟩ := hl'
  exact h h' _ (fun M' u => S.upd u hs e) ⟨n', by simp⟩
theorem methAppend {l : Addr} {o : Obj} {vs : List Value} {pl : Sem Bool} {Q : Value × List Value → Shared → Prop} (hl : LO o vs) (S : St b L m R M s.heap) (hm : (l, o) ∈ M) (h : Q (.builtin "list.append", [.ref l]) s) :
    wpAny (model Challenge.rw_ji0018_01.row.prog w) A (getMethod (.ref l) "append" pl) Q E s := by
  obtain ⟨n, rfl⟩ := hl
  exact getMethod_builtin ⟨_, S.get hm, rfl⟩ PySem.F.plainAttrs_list PySem.F.slot_list_append PySem.F.type_list_append (fun a e => by cases e; exact ⟨_, S.get hm, rfl⟩) h
theorem methList {l : Addr} {o : Obj} {vs : List Value} {name : Str} {id : String} {pl : Sem Bool} {Q : Value × List Value → Shared → Prop} (hl : LO o vs) (ho : s.heap.get? l = some o) (slot : Slot "list" name id)
    (hty : typeOf (.builtin id) = pure (.type "method_descriptor")) (h : Q (.builtin id, [.ref l]) s) : wpAny (model Challenge.rw_ji0018_01.row.prog w) A (getMethod (.ref l) name pl) Q E s := by
  obtain ⟨n, rfl⟩ := hl
  exact getMethod_builtin ⟨_, ho, rfl⟩ PySem.F.plainAttrs_list slot hty (fun a e => by cases e; exact ⟨_, ho, rfl⟩) h

theorem catL {a c : Addr} {vs ws : List Value} {Q : Value → Shared → Prop} (S : St b L m R M s.heap) (ha : s.heap.IsList a vs.toArray) (hc : s.heap.IsList c ws.toArray)
    (h : ∀ d o h', b.hs.get? d = none → St b L m R ((d, o) :: M) h' → LO o (vs ++ ws) → Q (.ref d) { s with heap := h' }) (hsz : vs.length + ws.length ≤ sizeLine) :
    wpAny (model Challenge.rw_ji0018_01.row.prog w) A (binaryOp .Add (.ref a) (.ref c)) Q E s := by
  obtain ⟨⟨cls, dd, data, sl⟩, ho, hcl, n, hd⟩ := id ha
  obtain ⟨⟨cls2, dd2, data2, sl2⟩, ho2, hc2, n2, hd2⟩ := id hc
  simp only at hcl hd hc2 hd2
  subst hcl hd hc2 hd2
  have e : vs.toArray ++ ws.toArray = (vs ++ ws).toArray := by simp
  refine concat_meets ⟨_, ho, rfl⟩ ⟨_, ho2, rfl⟩ noFill_list_add seq_list_add PySem.F.slot_list_add PySem.F.entry_list_add (PySem.F.args_list_add_2 _ _) (list_addW a c vs.toArray ws.toArray n n2 dd dd2 sl sl2 (by simpa using hsz)) ⟨ho, ho2, ?_⟩
  rw [e]
  exact h _ _ _ (S.none_of (gnone_of_le (Nat.le_refl _))) (S.push _) (LO.mk _)

theorem listOfSeq {a : Addr} {vs : List Value} {Q : Value → Shared → Prop} (S : St b L m R M s.heap) (ha : s.heap.IsList a vs.toArray ∨ IsTup s.heap a vs.toArray)
    (h : ∀ d o h', b.hs.get? d = none → St b L m R ((d, o) :: M) h' → LO o vs → Q (.ref d) { s with heap := h' }) (hsz : vs.length ≤ sizeLine) :
    wpAny (model Challenge.rw_ji0018_01.row.prog w) A (call (.type "list") [.ref a]) Q E s := by
  have fin : ∀ h' c', (∀ b o', s.heap.get? b = some o' → h'.get? b = some o') → h'.get? s.heap.objs.size = some { cls := .type "list", dict := none, data := .seq vs.toArray c', slots := #[] } → Q (.ref s.heap.objs.size) { s with heap := h' } := fun h' c' hk hn =>
    h _ _ h' (S.none_of (gnone_of_le (Nat.le_refl _))) (S.add hk (gnone_of_le (Nat.le_refl _)) hn) ⟨_, rfl⟩
  rcases ha with ⟨o, ho, hc, n, hd⟩ | ⟨o, ho, hc, n, hd⟩
  · exact call_list_seq a (.inl rfl) ho hc hd fin (by simpa using hsz)
  · exact call_list_seq a (.inr rfl) ho hc hd fin (by simpa using hsz)

theorem tupleOfList {a : Addr} {vs : List Value} {Q : Value → Shared → Prop} (S : St b L m R M s.heap) (ha : s.heap.IsList a vs.toArray)
    (h : ∀ d o h', St b L m (R.ins d o) M h' → TO o vs → Q (.ref d) { s with heap := h' }) (hsz : vs.length ≤ sizeLine) :
    wpAny (model Challenge.rw_ji0018_01.row.prog w) A (call (.type "tuple") [.ref a]) Q E s :=
  call_tuple_list ha (fun h' hk => h _ _ _ ((S.keeps hk).pushR _) (TO.mk _)) (by simpa using hsz)

theorem bytesOfList {a : Addr} {vs : List Value} {l : List UInt8} {Q : Value → Shared → Prop} (S : St b L m R M s.heap) (ha : s.heap.IsList a vs.toArray) (hi : IntsAre vs (oi l)) (hh : A.handled = none)
    (h : ∀ h' t k, (∀ c x, s.heap.get? c = some x → h'.get? c = some x) → St b L m R M h' → Q (.bytes l.toArray t) { s with heap := h', toks := k }) (hsz : vs.length ≤ sizeLine) :
    wpAny (model Challenge.rw_ji0018_01.row.prog w) A (call (.type "bytes") [.ref a]) Q E s :=
  call_bytes_ints ha hi oi_bound hsz hh fun h' t k hk => by rw [byteArr_oi]; exact h h' t k hk (S.keeps hk)

theorem itL {value slice : PySem.Expr} {l : Addr} {vs : List Value} {k : Int} {u : Tok} {x : Value} {Q : Value → Shared → Prop} (j : Nat) (hl : s.heap.IsList l vs.toArray) (hk : k = j) (hx : vs[j]? = some x) (hz : vs.length ≤ 16777216) (h : Q x s)
    (hs : subscripted slice false (.ref l) (.int k u) = operate [.ref l, .int k u] (getItem (.ref l) (.int k u)) := by with_unfolding_all rfl) (hg : ∀ r, letTemporaryGo value (.ref l) r = pure () := by intro _; with_unfolding_all rfl) :
    wpAny (model Challenge.rw_ji0018_01.row.prog w) A (subscriptTail value slice (.ref l) (.int k u)) Q E s := by
  have hj : j < vs.length := (List.getElem?_eq_some_iff.mp hx).1
  exact PyProof.Rows.item_listL hl (by omega) (by omega) (by rw [hk]; simpa using hx) h hs hg
theorem itT {value slice : PySem.Expr} {l : Addr} {vs : List Value} {k : Int} {u : Tok} {x : Value} {Q : Value → Shared → Prop} (j : Nat) (hl : IsTup s.heap l vs.toArray) (hk : k = j) (hx : vs[j]? = some x) (hz : vs.length ≤ 16777216) (h : Q x s)
    (hs : subscripted slice false (.ref l) (.int k u) = operate [.ref l, .int k u] (getItem (.ref l) (.int k u)) := by with_unfolding_all rfl) (hg : ∀ r, letTemporaryGo value (.ref l) r = pure () := by intro _; with_unfolding_all rfl) :
    wpAny (model Challenge.rw_ji0018_01.row.prog w) A (subscriptTail value slice (.ref l) (.int k u)) Q E s := by
  have hj : j < vs.length := (List.getElem?_eq_some_iff.mp hx).1
  refine PyProof.Rows.item_tupleL hl (by omega) (by omega) (j := j) ?_ hx h hs hg
  subst hk
  unfold seqIndex?
  have h1 : ¬ ((j : Int) < 0) := by omega
  have h2 : (decide ((0 : Int) ≤ (j : Int)) && decide ((j : Int) < (vs.length : Int))) = true := by rw [Bool.and_eq_true]; exact ⟨decide_eq_true (by omega), decide_eq_true (by omega)⟩
  simp only [h1, if_false, h2, if_true, Int.toNat_natCast]
theorem lenL {l : Addr} {vs : List Value} {Q : Value → Shared → Prop} (hl : s.heap.IsList l vs.toArray) (hz : vs.length ≤ 16777216) (h : ∀ t k, Q (.int vs.length t) { s with toks := k }) :
    wpAny (model Challenge.rw_ji0018_01.row.prog w) A (call (.builtin "len") [.ref l]) Q E s :=
  PyProof.Rows.len_list hl (by simp; omega) (by simpa using h (s.toks + 1) (s.toks + 1 + 1))
theorem lenT {l : Addr} {vs : List Value} {Q : Value → Shared → Prop} (hl : IsTup s.heap l vs.toArray) (hz : vs.length ≤ 16777216) (h : ∀ t k, Q (.int vs.length t) { s with toks := k }) :
    wpAny (model Challenge.rw_ji0018_01.row.prog w) A (call (.builtin "len") [.ref l]) Q E s :=
  PyProof.Rows.len_tuple hl (by simp; omega) (by simpa using h (s.toks + 1) (s.toks + 1 + 1))

/-- an attribute that the object's own dict holds -/
theorem getA {x C dx : Addr} {es : List DictEntry} {n : Nat} {name : Str} {v : Value} {attr : Option Value} {expr : Bool} {Q : Value → Shared → Prop} (S : St b L m R M s.heap) (G : Glb w b.H0)
    (hx : s.heap.get? x = some (instObj C dx)) (hdx : s.heap.get? dx = some (dictOf es n)) (hg : plainGet (topK w.params) C name = true) (hh : hasDictIn (topK w.params) C = true)
    (ha : findIn (topK w.params) (.ref C) name = some attr) (hn : noGet (topK w.params) attr = true) (hl : getL name es = some (some v)) (hv : handedIn v = true) (h : Q v { s with toks := s.toks + 1 }) :
    wpAny (model Challenge.rw_ji0018_01.row.prog w) A (getAttr (.ref x) name expr) Q E s :=
  get_value (K := topK w.params) (S.kin G) (I := ⟨hx, rfl, rfl, hdx⟩) (plainGet_of hg).1 (findObj_own (od := dictOf es n) hh ha hn hl) hv h
theorem getMeth {x C dx f : Addr} {es : List DictEntry} {n : Nat} {name : Str} {pl : Sem Bool} {Q : Value × List Value → Shared → Prop} (S : St b L m R M s.heap) (G : Glb w b.H0)
    (hx : s.heap.get? x = some (instObj C dx)) (hdx : s.heap.get? dx = some (dictOf es n)) (hg : plainGet (topK w.params) C name = true)
    (hf : findIn (topK w.params) (.ref C) name = some (some (.ref f))) (ht : isFn (topK w.params) (.ref f) = true) (hl : getL name es = some none) (h : Q (.ref f, [.ref x]) s) :
    wpAny (model Challenge.rw_ji0018_01.row.prog w) A (getMethod (.ref x) name pl) Q E s :=
  method_inst (K := topK w.params) (h₀ := b.H0) (L := L) (m := m) S.fr0 G.kin (I := ⟨hx, rfl, rfl, hdx⟩) hg hf ht hl h
theorem setA {x C dx : Addr} {es es' : List DictEntry} {n n' : Nat} {name : Str} {v : Value} {Q : Unit → Shared → Prop} (S : St b L m R M s.heap) (G : Glb w b.H0)
    (hx : s.heap.get? x = some (instObj C dx)) (hm : (dx, dictOf es n) ∈ M) (hs : findIn (topK w.params) (.ref C) "__setattr__" = some (some (.builtin "object.__setattr__"))) (hp : plainOver (topK w.params) C = true)
    (ht : takerIn (topK w.params) C name = some none) (hh : hasDictIn (topK w.params) C = true) (hl : (getL name es).isSome = true)
    (e : (putL name (PyData.keyHash w.params name) (.str name (s.toks + 1)) v es, putN name es n) = (es', n')) (hz : es'.length ≤ 1000)
    (h : ∀ h', (∀ M', UpdL dx (dictOf es n) (dictOf es' n') M M' → St b L m R M' h') → Q () { s with heap := h', toks := s.toks + 2 }) :
    wpAny (model Challenge.rw_ji0018_01.row.prog w) A (setAttr (.ref x) name v) Q E s :=
  set_dict (K := topK w.params) (C := C) (h₀ := b.H0) (L := L) (m := m) S.fr0 G.kin (S.news1 hm) ⟨hx, rfl, rfl, S.mu _ hm⟩ rfl hs hp ht hh hl e
    (.head fun p hp => (mem_restOf (o := p.2).mp hp).2.2.1) hz fun h' F' N' => h h' fun _ u => S.upd1 u F' N'

/-- an own class is called -/
theorem makeC {C fI : Addr} {pos : List Value} {Q : Value → Shared → Prop} (S : St b L m R M s.heap) (G : Glb w b.H0) (hm : makesIn (topK w.params) C = true)
    (hi : findIn (topK w.params) (.ref C) "__init__" = some (some (.ref fI))) (hf : isFn (topK w.params) (.ref fI) = true)
    (h : ∀ x dx h', x ≠ dx → b.hs.get? x = none → b.hs.get? dx = none → St b L m R ((x, instObj C dx) :: (dx, dictOf [] 0) :: M) h' →
      codeAny (model Challenge.rw_ji0018_01.row.prog w) (A.under (.builtin "type.__call__" ⟨.ref C :: pos, []⟩)) (.call (.ref fI) ⟨.ref x :: pos, []⟩) (InitBack x fun r s' => match r with | .ok (.ret v) => Q v s' | .ok _ => False | .error e => E e s') { s with heap := h' }) :
    wpAny (model Challenge.rw_ji0018_01.row.prog w) A (call (.ref C) pos []) Q E s := by
  refine wpAny_call ?_
  obtain ⟨hh, g, d, t, os⟩ := s
  have X := S.kin G
  refine make_core (makes_of X hm) (looks_findIn X hi) (fun self => bind_fn X self (beq_iff_eq.mp hf)) (.inl rfl) ?_
  have S2 := (S.push emptyDict).push (instObj C hh.objs.size)
  rw [Heap.size_push] at S2
  exact h (hh.objs.size + 1) hh.objs.size _ (Nat.succ_ne_self _) (S.none_of (gnone_of_le (Nat.le_succ _))) (S.none_of (gnone_of_le (Nat.le_refl _))) S2
end
end

/-! M4 -/
section
open PySem PySem.W PyProof.Rows PySem.Calls

/-- an iterator, n items -/
structure Nxt (w : World) (A : Around) (I : Addr) (n : Nat) (IO : Nat → Obj → Prop) (P : Nat → Value → Prop) (H : Heap → Prop) : Prop where
  item : ∀ (i : Nat) (s : Shared) (Q : Option Value → Shared → Prop) (E : Value → Shared → Prop) (io : Obj), i < n → H s.heap → s.heap.get? I = some io → IO i io →
    (∀ v h' io' tk, P i v → Heap.SameBut I s.heap h' → h'.get? I = some io' → IO (i + 1) io' → Q (some v) { s with heap := h', toks := tk }) → wpAny (model Challenge.rw_ji0018_01.row.prog w) A (pyNext (.ref I)) Q E s
  done : ∀ (s : Shared) (Q : Option Value → Shared → Prop) (E : Value → Shared → Prop) (io : Obj), H s.heap → s.heap.get? I = some io → IO n io →
    (∀ h' tk, Heap.ExtBut I s.heap h' → Q none { s with heap := h', toks := tk }) → wpAny (model Challenge.rw_ji0018_01.row.prog w) A (pyNext (.ref I)) Q E s
  self : ∀ (i : Nat) (s : Shared) (Q : Value → Shared → Prop) (E : Value → Shared → Prop) (io : Obj), s.heap.get? I = some io → IO i io → Q (.ref I) s → wpAny (model Challenge.rw_ji0018_01.row.prog w) A (pyIter (.ref I)) Q E s

def LIt (l : Addr) (i : Nat) (o : Obj) : Prop := o.cls = .type "list_iterator" ∧ o.data = .fields #[.ref l, .int i 0]
def TIt (l : Addr) (i : Nat) (o : Obj) : Prop := o.cls = .type "tuple_iterator" ∧ o.data = .fields #[.ref l, .int i 0]
def RIt (a : Int) (n : Nat) (i : Nat) (o : Obj) : Prop := o = { cls := .type "range_iterator", dict := none, data := .fields #[rawInt (a + (i : Nat) * 1), rawInt ((n : Int) - (i : Nat)), rawInt 1], slots := #[] }

theorem Nxt.list {w : World} {A : Around} (hh : A.handled = none) (I l : Addr) (vs : List Value) : Nxt w A I vs.length (LIt l) (fun i v => vs[i]? = some v) (fun h => h.IsList l vs.toArray) where
  item := fun i s Q E io hi hl e hio hQ => by
    refine wpAny_pyNext_list_item (i := i) ⟨io, e, hio⟩ hl (x := vs[i]) (by simp [hi]) fun h' ⟨io', e', hio'⟩ hs => ?_
    exact hQ _ h' io' s.toks (by simp [hi]) hs e' hio'
  done := fun s Q E io hl e hio hQ => wpAny_pyNext_list_end hh (i := vs.length) ⟨io, e, hio⟩ hl (by simp) fun h' he => hQ h' s.toks he
  self := fun i s Q E io e hio hQ => wpAny_pyIter_listiter (i := i) (l := l) ⟨io, e, hio⟩ hQ
theorem Nxt.tup {w : World} {A : Around} (hh : A.handled = none) (I l : Addr) (vs : List Value) : Nxt w A I vs.length (TIt l) (fun i v => vs[i]? = some v) (fun h => IsTup h l vs.toArray) where
  item := fun i s Q E io hi hl e hio hQ => by
    refine wpAny_pyNext_tuple_item (i := i) ⟨io, e, hio⟩ hl (x := vs[i]) (by simp [hi]) fun h' ⟨io', e', hio'⟩ hs => ?_
    exact hQ _ h' io' s.toks (by simp [hi]) hs e' hio'
  done := fun s Q E io hl e hio hQ => wpAny_pyNext_tuple_end hh (i := vs.length) ⟨io, e, hio⟩ hl (by simp) fun h' he => hQ h' s.toks he
  self := fun i s Q E io e hio hQ => wpAny_pyIter_tupleiter (i := i) (t := l) ⟨io, e, hio⟩ hQ
theorem Nxt.range {w : World} {A : Around} (hh : A.handled = none) (I : Addr) (a : Int) (n : Nat) : Nxt w A I n (RIt a n) (fun i v => ∃ t, v = .int (a + i) t) (fun _ => True) where
  item := fun i s Q E io hi _ e hio hQ => by
    subst hio
    refine wpAny_pyNext_range_item e (by omega) fun h' hit' hs => ?_
    have e1 : a + ((i + 1 : Nat) : Int) * 1 = a + (i : Int) * 1 + 1 := by push_cast; omega
    have e2 : (n : Int) - ((i + 1 : Nat) : Int) = (n : Int) - (i : Int) - 1 := by push_cast; omega
    refine hQ _ h' _ _ ⟨_, by rw [Int.mul_one]⟩ hs hit' ?_
    show _ = _
    rw [e1, e2]
  done := fun s Q E io _ e hio hQ => by
    subst hio
    exact wpAny_pyNext_range_end hh e (by omega) fun h' he => hQ h' s.toks he
  self := fun i s Q E io e hio hQ => by subst hio; exact wpAny_pyIter_rangeiter e hQ

section
variable {w : World} {A : Around} {E : Value → Shared → Prop} {s : Shared} {b : Bs} {L : Addr} {m : Str → Option Value} {R R' : Rel} {M M' : List (Addr × Obj)} {h h' : Heap} {cn : Str} {cs : Scope} {fa : Addr} {cd : Value}

/-- one of ours is lost -/
theorem St.lose {a : Addr} {o : Obj} (S : St b L m R ((a, o) :: M) h) (hn : b.hs.get? a = none) (he : Heap.ExtBut a h h') : St b L m R M h' := by
  have hne : ∀ c x, b.hs.get? c = some x → c ≠ a := fun c x e q => by rw [q, hn] at e; cases e
  have P := S.mo _ (.head _)
  have hnd := S.nd
  rw [List.map_cons, List.nodup_cons] at hnd
  exact { keep := fun c x e hW hF => he _ _ (hne c x e) (S.keep c x e hW hF), slot := fun c x e hF => let ⟨sl, q⟩ := S.slot c x e hF; ⟨sl, he _ _ (hne c x e) q⟩, al := fun c x e => let ⟨x', q⟩ := S.al c x e; ⟨x', he _ _ (hne c x e) q⟩, sub := S.sub, new := S.new,
          fr := fun c x r => he _ _ (fun q => P.2.2.1 x (q ▸ r)) (S.fr c x r), ok := S.ok, ns := S.ns.extBut he fun q => P.1 q.symm, Lnew := S.Lnew, offL := S.offL,
          mu := fun p hp => he _ _ (fun q => hnd.1 (List.mem_map.mpr ⟨p, hp, q⟩)) (S.mu p (.tail _ hp)), mo := fun p hp => S.mo p (.tail _ hp), nd := hnd.2, lo := S.lo }

/-- how a turn ends -/
def TEnd (b : Bs) (L I : Addr) (IO : Obj → Prop) (J : (Str → Option Value) → Rel → List (Addr × Obj) → Prop) (Q : Flow → Shared → Prop) (s : Shared) (f : Flow) (s' : Shared) : Prop := match f with
  | .ret v => Q (.ret v) s'
  | .brk => Q .next s'
  | _ => ∃ m' R' M' h' tk' io, s' = { s with heap := h', toks := tk' } ∧ IO io ∧ St b L m' R' ((I, io) :: M') h' ∧ J m' R' M'

theorem forCore {I : Addr} {io : Obj} {n : Nat} {IO : Nat → Obj → Prop} {P : Nat → Value → Prop} {H : Heap → Prop} {x : Str} {px : Pos} {body : List Stmt} {Q : Flow → Shared → Prop}
    (N : Nxt w A I n IO P H) (S : St b L m R ((I, io) :: M) s.heap) (hI : b.hs.get? I = none) (hio : IO 0 io) (J : Nat → (Str → Option Value) → Rel → List (Addr × Obj) → Prop) (j0 : J 0 m R M)
    (hH : ∀ i m' R' M' h', J i m' R' M' → St b L m' R' M' h' → H h')
    (turn : ∀ i v m₁ R₁ M₁ h₁ tk io₁ E', i < n → P i v → J i m₁ R₁ M₁ → IO (i + 1) io₁ → St b L (ups m₁ x v) R₁ ((I, io₁) :: M₁) h₁ →
      wpAny (model Challenge.rw_ji0018_01.row.prog w) A (execs body (envOf cn cs L fa cd)) (TEnd b L I (IO (i + 1)) (J (i + 1)) Q s) E' { s with heap := h₁, toks := tk })
    (fin : ∀ m' R' M' h' tk, J n m' R' M' → St b L m' R' M' h' → Q .next { s with heap := h', toks := tk })
    (hk : cs.kind = .function) (hl : (envOf cn cs L fa cd).kindOf x = some .local) :
    codeAny (model Challenge.rw_ji0018_01.row.prog w) A (.forLoop (.Name x px) (.ref I) body [] (envOf cn cs L fa cd)) (fun r s' => match r with | .ok f => Q f s' | .error e => cameBackBy (model Challenge.rw_ji0018_01.row.prog w) A (envOf cn cs L fa cd) E e s') s := by
  refine codeAny_forLoop (fun k s' => ∃ i m' R' M' h' tk io', k = n - i ∧ i ≤ n ∧ s' = { s with heap := h', toks := tk } ∧ IO i io' ∧ St b L m' R' ((I, io') :: M') h' ∧ J i m' R' M') ?_ n
    ⟨0, m, R, M, s.heap, s.toks, io, by omega, by omega, rfl, hio, S, j0⟩
  rintro k s' ⟨i, m', R', M', h', tk, io', hk', hi, rfl, hio', S', j⟩
  by_cases hlt : i < n
  · refine N.item i _ _ _ io' hlt (hH _ _ _ _ _ j S'.tail) (S'.mu _ (.head _)) hio' fun v h₁ io₁ tk₁ hv hs e hio₁ => ?_
    have S₁ : St b L m' R' ((I, io₁) :: M') h₁ := S'.upd .head hs e
    refine wpAny_assign_Name (wpAny_storeName_local hl S₁.ns (fun h₂ hn₂ hs₂ => ?_) (by show (cs.kind == .class || (cs.kind == .module && L != mainGlobals)) = false; rw [hk]; rfl))
    refine wpAny_mono (turn i v m' R' M' h₂ _ io₁ _ hlt hv j hio₁ (S₁.store hn₂ hs₂)) (fun f s₃ q => ?_) fun _ _ q => q
    have go : (∃ m' R' M' h' tk' io, s₃ = { s with heap := h', toks := tk' } ∧ IO (i + 1) io ∧ St b L m' R' ((I, io) :: M') h' ∧ J (i + 1) m' R' M') →
        ∃ m, m < k ∧ ∃ i m' R' M' h' tk io', m = n - i ∧ i ≤ n ∧ s₃ = { s with heap := h', toks := tk } ∧ IO i io' ∧ St b L m' R' ((I, io') :: M') h' ∧ J i m' R' M' := by
      rintro ⟨m', R', M', h', tk', io, e, q1, q2, q3⟩
      exact ⟨n - (i + 1), by omega, i + 1, m', R', M', h', tk', io, rfl, hlt, e, q1, q2, q3⟩
    cases f with
    | ret v => exact q
    | brk => exact q
    | next => exact go q
    | cont => exact go q
  · have : i = n := by omega
    subst this
    refine N.done _ _ _ io' (hH _ _ _ _ _ j S'.tail) (S'.mu _ (.head _)) hio' fun h₁ tk₁ he => ?_
    exact wpAny_execs_nil (fin _ _ _ _ _ j (S'.lose hI he))

/-- `for x in <list>` from the list on -/
theorem iterL {l : Addr} {vs : List Value} {x : Str} {px : Pos} {body : List Stmt} {Q : Flow → Shared → Prop}
    (hh : A.handled = none) (S : St b L m R M s.heap) (J : (Str → Option Value) → Rel → List (Addr × Obj) → Nat → (Str → Option Value) → Rel → List (Addr × Obj) → Prop) (j0 : J m R M 0 m R M)
    (hH : ∀ i m' R' M' h', J m R M i m' R' M' → St b L m' R' M' h' → h'.IsList l vs.toArray)
    (turn : ∀ I i v m₁ R₁ M₁ h₁ tk io₁ E', vs[i]? = some v → J m R M i m₁ R₁ M₁ → LIt l (i + 1) io₁ → St b L (ups m₁ x v) R₁ ((I, io₁) :: M₁) h₁ →
      wpAny (model Challenge.rw_ji0018_01.row.prog w) A (execs body (envOf cn cs L fa cd)) (TEnd b L I (LIt l (i + 1)) (J m R M (i + 1)) Q s) E' { s with heap := h₁, toks := tk })
    (fin : ∀ m' R' M' h' tk, J m R M vs.length m' R' M' → St b L m' R' M' h' → Q .next { s with heap := h', toks := tk })
    (hk : cs.kind = .function) (hl : (envOf cn cs L fa cd).kindOf x = some .local) :
    wpAny (model Challenge.rw_ji0018_01.row.prog w) A (pyIter (.ref l)) (fun it s₂ => codeAny (model Challenge.rw_ji0018_01.row.prog w) A (.forLoop (.Name x px) it body [] (envOf cn cs L fa cd)) (fun r s' => match r with | .ok f => Q f s' | .error e => cameBackBy (model Challenge.rw_ji0018_01.row.prog w) A (envOf cn cs L fa cd) E e s') s₂) E s := by
  refine wpAny_pyIter_list (hH _ _ _ _ _ j0 S) ?_
  exact forCore (s := { s with heap := _ }) (Nxt.list hh s.heap.objs.size l vs) (S.push _) (S.none_of (gnone_of_le (Nat.le_refl _))) ⟨rfl, rfl⟩ (J m R M) j0 hH (fun i v m₁ R₁ M₁ h₁ tk io₁ E' _ => turn _ i v m₁ R₁ M₁ h₁ tk io₁ E') fin hk hl
theorem iterT {l : Addr} {vs : List Value} {x : Str} {px : Pos} {body : List Stmt} {Q : Flow → Shared → Prop}
    (hh : A.handled = none) (S : St b L m R M s.heap) (J : (Str → Option Value) → Rel → List (Addr × Obj) → Nat → (Str → Option Value) → Rel → List (Addr × Obj) → Prop) (j0 : J m R M 0 m R M)
    (hH : ∀ i m' R' M' h', J m R M i m' R' M' → St b L m' R' M' h' → IsTup h' l vs.toArray)
    (turn : ∀ I i v m₁ R₁ M₁ h₁ tk io₁ E', vs[i]? = some v → J m R M i m₁ R₁ M₁ → TIt l (i + 1) io₁ → St b L (ups m₁ x v) R₁ ((I, io₁) :: M₁) h₁ →
      wpAny (model Challenge.rw_ji0018_01.row.prog w) A (execs body (envOf cn cs L fa cd)) (TEnd b L I (TIt l (i + 1)) (J m R M (i + 1)) Q s) E' { s with heap := h₁, toks := tk })
    (fin : ∀ m' R' M' h' tk, J m R M vs.length m' R' M' → St b L m' R' M' h' → Q .next { s with heap := h', toks := tk })
    (hk : cs.kind = .function) (hl : (envOf cn cs L fa cd).kindOf x = some .local) :
    wpAny (model Challenge.rw_ji0018_01.row.prog w) A (pyIter (.ref l)) (fun it s₂ => codeAny (model Challenge.rw_ji0018_01.row.prog w) A (.forLoop (.Name x px) it body [] (envOf cn cs L fa cd)) (fun r s' => match r with | .ok f => Q f s' | .error e => cameBackBy (model Challenge.rw_ji0018_01.row.prog w) A (envOf cn cs L fa cd) E e s') s₂) E s := by
  refine wpAny_pyIter_tuple (hH _ _ _ _ _ j0 S) ?_
  exact forCore (s := { s with heap := _ }) (Nxt.tup hh s.heap.objs.size l vs) (S.push _) (S.none_of (gnone_of_le (Nat.le_refl _))) ⟨rfl, rfl⟩ (J m R M) j0 hH (fun i v m₁ R₁ M₁ h₁ tk io₁ E' _ => turn _ i v m₁ R₁ M₁ h₁ tk io₁ E') fin hk hl
theorem iterR {r : Addr} {a c : Int} {t u v : Tok} {x : Str} {px : Pos} {body : List Stmt} {Q : Flow → Shared → Prop}
    (hh : A.handled = none) (S : St b L m R M s.heap) (hr : IsRange s.heap r a c 1 t u v) (ha : -1000000 ≤ a ∧ a ≤ c ∧ c ≤ 1000000) (J : (Str → Option Value) → Rel → List (Addr × Obj) → Nat → (Str → Option Value) → Rel → List (Addr × Obj) → Prop) (j0 : J m R M 0 m R M)
    (turn : ∀ I i t m₁ R₁ M₁ h₁ tk io₁ E', i < (c - a).toNat → J m R M i m₁ R₁ M₁ → RIt a (c - a).toNat (i + 1) io₁ → St b L (ups m₁ x (.int (a + i) t)) R₁ ((I, io₁) :: M₁) h₁ →
      wpAny (model Challenge.rw_ji0018_01.row.prog w) A (execs body (envOf cn cs L fa cd)) (TEnd b L I (RIt a (c - a).toNat (i + 1)) (J m R M (i + 1)) Q s) E' { s with heap := h₁, toks := tk })
    (fin : ∀ m' R' M' h' tk, J m R M (c - a).toNat m' R' M' → St b L m' R' M' h' → Q .next { s with heap := h', toks := tk })
    (hk : cs.kind = .function) (hl : (envOf cn cs L fa cd).kindOf x = some .local) :
    wpAny (model Challenge.rw_ji0018_01.row.prog w) A (pyIter (.ref r)) (fun it s₂ => codeAny (model Challenge.rw_ji0018_01.row.prog w) A (.forLoop (.Name x px) it body [] (envOf cn cs L fa cd)) (fun r s' => match r with | .ok f => Q f s' | .error e => cameBackBy (model Challenge.rw_ji0018_01.row.prog w) A (envOf cn cs L fa cd) E e s') s₂) E s := by
  have hsz : Builtin.Range.rangeSize a c 1 = ((c - a).toNat : Int) := by
    unfold Builtin.Range.rangeSize
    simp only [show (1 : Int) > 0 by decide, if_true, Int.ediv_one]
    split <;> omega
  have hsm : Builtin.Range.small a c 1 = true := by
    unfold Builtin.Range.small
    rw [hsz]
    simp only [Builtin.Range.rangeFitsLong, show (1 : Int) > 0 by decide, if_true, Bool.and_eq_true, Bool.or_eq_true, decide_eq_true_eq]
    omega
  refine wpAny_pyIter_range hr hsm ?_
  rw [hsz]
  exact forCore (s := { s with heap := _ }) (Nxt.range hh s.heap.objs.size a (c - a).toNat) (S.push _) (S.none_of (gnone_of_le (Nat.le_refl _))) (by show _ = _; simp) (J m R M) j0 (fun _ _ _ _ _ _ _ => trivial)
    (fun i v m₁ R₁ M₁ h₁ tk io₁ E' hi ⟨t, hv⟩ j hio S' => turn _ i t m₁ R₁ M₁ h₁ tk io₁ E' hi j hio (hv ▸ S')) fin hk hl
end
end

/-! M5 -/
section
open PySem PySem.W PyProof.Rows PySem.Calls
section
variable {w : World} {A : Around} {E : Value → Shared → Prop} {s : Shared} {b : Bs} {L : Addr} {m : Str → Option Value} {R R' : Rel} {M M' : List (Addr × Obj)} {h h' : Heap} {cn : Str} {cs : Scope} {fa : Addr} {cd : Value}

/-- one element of a comprehension -/
def EEnd (b : Bs) (L : Addr) (R : Rel) (h : Heap) (F : Value → Rel → Prop) (s : Shared) (y : Value) (s' : Shared) : Prop :=
  ∃ R' h' tk', s' = { s with heap := h', toks := tk' } ∧ Ret (b.at L R h []) R' h' ∧ F y R'

theorem compLoop {I D C : Addr} {io dO cO : Obj} {n : Nat} {IO : Nat → Obj → Prop} {P : Nat → Value → Prop} {H : Heap → Prop} {x : Str} {px : Pos} {elt iter : Expr} {scope : Scope} {pos : Pos} {env : Env} {mc : Str → Option Value} {RR : Result → Shared → Prop}
    (N : Nxt w A I n IO P H) (S : St b L m R ((I, io) :: (C, cO) :: (D, dO) :: M) s.heap) (hI : b.hs.get? I = none) (hio : IO 0 io) (hC : s.heap.Ns C mc) (hD : LO dO []) (hsz : n ≤ sizeLine)
    (hH : ∀ R₁ M₁ h₁, (∀ p ∈ M, p ∈ M₁) → (∀ a o, R a o → R₁ a o) → St b L m R₁ M₁ h₁ → H h₁) (F : Nat → Value → Rel → Prop) (hF : ∀ i y R₁ R₂, (∀ a o, R₁ a o → R₂ a o) → F i y R₁ → F i y R₂)
    (turn : ∀ i v mc R₁ M₁ h₁ tk E', i < n → P i v → h₁.Ns C mc → mc x = some v → (∀ p ∈ M, p ∈ M₁) → (∀ a o, R a o → R₁ a o) → St b L m R₁ M₁ h₁ →
      wpAny (model Challenge.rw_ji0018_01.row.prog w) A (eval elt (compEnv scope C env)) (EEnd b L R₁ h₁ (F i) s) E' { s with heap := h₁, toks := tk })
    (fin : ∀ R' h' tk ys dO' cO' mc, (∀ a o, R a o → R' a o) → St b L m R' ((C, cO') :: (D, dO') :: M) h' → h'.Ns C mc → LO dO' ys → ys.length = n → (∀ i y, ys[i]? = some y → F i y R') → RR (.ok .next) { s with heap := h', toks := tk })
    (hk : scope.kind = .function) (hx : scope.names.lookup x = some .local) :
    codeAny (model Challenge.rw_ji0018_01.row.prog w) A (.compStart (.ListComp elt [⟨.Name x px, iter, [], 0⟩] scope pos) 0 (.ref I) (.ref D) (compEnv scope C env)) RR s := by
  have go : codeAny (model Challenge.rw_ji0018_01.row.prog w) A (.compLoop (.ListComp elt [⟨.Name x px, iter, [], 0⟩] scope pos) 0 (.ref I) (.ref D) (compEnv scope C env)) RR s := by
    refine codeAny_compLoop_list (fun k s' => ∃ i R' h' tk io' cO' dO' mc ys, k = n - i ∧ i ≤ n ∧ s' = { s with heap := h', toks := tk } ∧ IO i io' ∧ (∀ a o, R a o → R' a o) ∧ St b L m R' ((I, io') :: (C, cO') :: (D, dO') :: M) h' ∧ h'.Ns C mc ∧ LO dO' ys ∧ ys.length = i ∧ ∀ i y, ys[i]? = some y → F i y R') ?_ n
      ⟨0, R, s.heap, s.toks, io, cO, dO, mc, [], by omega, by omega, rfl, hio, fun _ _ r => r, S, hC, hD, rfl, by simp⟩
    rintro k s' ⟨i, R', h', tk, io', cO', dO', mc', ys, hk', hi, rfl, hio', hsub, S', hC', hD', hlen, hys⟩
    by_cases hlt : i < n
    · refine N.item i _ _ _ io' hlt (hH R' M _ (fun _ hp => hp) hsub S'.tail.tail.tail) (S'.mu _ (.head _)) hio' fun v h₁ io₁ tk₁ hv hs e hio₁ => ?_
      have S₁ : St b L m R' ((I, io₁) :: (C, cO') :: (D, dO') :: M) h₁ := S'.upd .head hs e
      have hCI : C ≠ I := by
        have := S'.nd
        simp only [List.map_cons, List.nodup_cons, List.mem_cons, not_or] at this
        exact fun q => this.1.1 q.symm
      have hC₁ : h₁.Ns C mc' := hC'.sameBut hs hCI
      refine wpAny_assign_Name (wpAny_storeName_local (by show scope.names.lookup x = _; exact hx) hC₁ (fun h₂ hn₂ hs₂ => ?_) (by show (scope.kind == .class || (scope.kind == .module && C != env.globals)) = false; rw [hk]; rfl))
      have hn₂ : h₂.Ns C (fun y => if y = x then some v else mc' y) := hn₂
      obtain ⟨cO₂, hc₂⟩ : ∃ o, h₂.get? C = some o := let ⟨o, _, _, e, _⟩ := hn₂; ⟨o, e⟩
      have S₂ : St b L m R' ((I, io₁) :: (C, cO₂) :: (D, dO') :: M) h₂ := S₁.upd (.tail .head) hs₂ hc₂
      refine wpAny_mono (turn i v _ R' ((I, io₁) :: (C, cO₂) :: (D, dO') :: M) h₂ _ _ hlt hv hn₂ (if_pos rfl) (fun p hp => .tail _ (.tail _ (.tail _ hp))) hsub S₂) (fun y s₃ q => ?_) fun _ _ q => q
      obtain ⟨R₃, h₃, tk₃, rfl, r₃, f₃⟩ := q
      have S₃ := S₂.ret r₃
      have hC₃ : h₃.Ns C (fun y => if y = x then some v else mc' y) := hn₂.at' fun o e => by
        rw [hc₂] at e; cases e
        exact S₃.mu (C, cO₂) (.tail _ (.head _))
      refine appendM (s := { s with heap := h₃, toks := tk₃ }) (l := D) S₃ (.tail _ (.tail _ (.head _))) hD' (fun h₄ o₄ u₄ l₄ => ?_) (by omega)
      have S₄ := u₄ _ (.tail (.tail .head))
      have hC₄ : h₄.Ns C (fun y => if y = x then some v else mc' y) := hC₃.at' fun o e => by
        have q := S₃.mu (C, cO₂) (.tail _ (.head _))
        have q : h₃.get? C = some cO₂ := q
        rw [q] at e; cases e
        exact S₄.mu (C, cO₂) (.tail _ (.head _))
      refine ⟨n - (i + 1), by omega, i + 1, R₃, h₄, tk₃, io₁, cO₂, o₄, _, ys ++ [y], rfl, hlt, rfl, hio₁, fun a o q => r₃.sub a o (hsub a o q), S₄, hC₄, l₄, by simp [hlen], fun j z hz => ?_⟩
      rcases Nat.lt_trichotomy j ys.length with q | q | q
      · rw [List.getElem?_append_left q] at hz
        exact hF _ _ _ _ (fun a o q => r₃.sub a o q) (hys j z hz)
      · subst q
        simp at hz; subst hz
        rw [hlen]; exact f₃
      · rw [List.getElem?_eq_none (by simp; omega)] at hz; cases hz
    · have : i = n := by omega
      subst this
      refine N.done _ _ _ io' (hH R' M _ (fun _ hp => hp) hsub S'.tail.tail.tail) (S'.mu _ (.head _)) hio' fun h₁ tk₁ he => ?_
      have hCI : C ≠ I := by
        have := S'.nd
        simp only [List.map_cons, List.nodup_cons, List.mem_cons, not_or] at this
        exact fun q => this.1.1 q.symm
      exact fin R' h₁ tk₁ ys dO' cO' mc' hsub (S'.lose hI he) (hC'.extBut he hCI) hD' hlen hys
  exact codeAny_compStart_list go (N.self 0 _ _ _ io (S.mu _ (.head _)) hio go)

theorem compBlock {I : Addr} {io : Obj} {n : Nat} {IO : Nat → Obj → Prop} {P : Nat → Value → Prop} {H : Heap → Prop} {x : Str} {px : Pos} {elt iter : Expr} {scope : Scope} {pos : Pos} {env : Env} {RR : Value → Env → Result → Shared → Prop}
    (N : Nxt w A I n IO P H) (S : St b L m R ((I, io) :: M) s.heap) (hI : b.hs.get? I = none) (hio : IO 0 io) (hsz : n ≤ sizeLine)
    (hH : ∀ R₁ M₁ h₁, (∀ p ∈ M, p ∈ M₁) → (∀ a o, R a o → R₁ a o) → St b L m R₁ M₁ h₁ → H h₁) (F : Nat → Value → Rel → Prop) (hF : ∀ i y R₁ R₂, (∀ a o, R₁ a o → R₂ a o) → F i y R₁ → F i y R₂)
    (turn : ∀ C i v mc R₁ M₁ h₁ tk E', i < n → P i v → h₁.Ns C mc → mc x = some v → (∀ p ∈ M, p ∈ M₁) → (∀ a o, R a o → R₁ a o) → St b L m R₁ M₁ h₁ →
      wpAny (model Challenge.rw_ji0018_01.row.prog w) A (eval elt (compEnv scope C env)) (EEnd b L R₁ h₁ (F i) s) E' { s with heap := h₁, toks := tk })
    (fin : ∀ D C R' h' tk ys dO' cO' mc, (∀ a o, R a o → R' a o) → St b L m R' ((C, cO') :: (D, dO') :: M) h' → h'.Ns C mc → b.hs.get? C = none → b.hs.get? D = none → LO dO' ys → ys.length = n → (∀ i y, ys[i]? = some y → F i y R') → RR (.ref D) (compEnv scope C env) (.ok .next) { s with heap := h', toks := tk })
    (hk : scope.kind = .function) (hx : scope.names.lookup x = some .local) (hcell : ∀ y ∈ scope.names, y.2 ≠ .cell) :
    wpAny (model Challenge.rw_ji0018_01.row.prog w) A (newList []) (fun acc s₃ => wpAny (model Challenge.rw_ji0018_01.row.prog w) A (newFunctionEnv scope env.globals [] [] env.qual none .none (some env)) (fun cenv s₄ =>
      codeAny (model Challenge.rw_ji0018_01.row.prog w) A (.compStart (.ListComp elt [⟨.Name x px, iter, [], 0⟩] scope pos) 0 (.ref I) acc { cenv with scope := scope }) (RR acc { cenv with scope := scope }) s₄) E s₃) E s := by
  refine wpAny_newObj_type (wpAny_newFunctionEnv hcell (by intro y hy; simp at hy) (fun h₁ hns₁ hsb₁ => ?_) hk)
  dsimp only at hns₁ hsb₁ ⊢
  have S₁ := S.push { cls := .type "list", dict := none, data := .seq ([] : List Value).toArray }
  have S₂ := S₁.push { cls := .type "dict", dict := none, data := .dict #[] }
  generalize hH2 : s.heap.push { cls := .type "list", dict := none, data := .seq ([] : List Value).toArray } = H2 at S₁ S₂ hns₁ hsb₁ ⊢
  obtain ⟨cO, hc⟩ : ∃ o, h₁.get? H2.objs.size = some o := let ⟨o, _, _, e, _⟩ := hns₁; ⟨o, e⟩
  have S₃ := S₂.upd .head (by simpa using hsb₁) hc
  have S₄ : St b L m R ((I, io) :: (H2.objs.size, cO) :: (s.heap.objs.size, { cls := .type "list", dict := none, data := .seq ([] : List Value).toArray }) :: M) h₁ :=
    S₃.permute ((List.Perm.cons _ (List.Perm.swap _ _ _)).trans (List.Perm.swap _ _ _))
  have nD : b.hs.get? s.heap.objs.size = none := S.none_of (gnone_of_le (Nat.le_refl _))
  have nC : b.hs.get? H2.objs.size = none := S.none_of (gnone_of_le (by rw [← hH2, Heap.size_push]; omega))
  exact compLoop (s := { s with heap := h₁, toks := _ }) N S₄ hI hio hns₁ (LO.mk []) hsz hH F hF (fun i v mc R₁ M₁ h₁ tk E' => turn _ i v mc R₁ M₁ h₁ tk E')
    (fun R' h' tk ys dO' cO' mc h1 h2 h3 h4 h5 h6 => fin _ _ R' h' tk ys dO' cO' mc h1 h2 h3 nC nD h4 h5 h6) hk hx

/-- `[elt for x in ..]` behind the iterator -/
theorem listComp {elt iter : Expr} {x : Str} {px : Pos} {scope : Scope} {pos : Pos} {env : Env} {Q : Value → Shared → Prop} (F : Nat → Value → Rel → Prop) (hF : ∀ i y R₁ R₂, (∀ a o, R₁ a o → R₂ a o) → F i y R₁ → F i y R₂)
    (hfree : ∀ y ∈ scope.names, y.2 ≠ .free) (hcell : ∀ y ∈ scope.names, y.2 ≠ .cell) (hkind : scope.kind = .function)
    (hnames : ∀ y ∈ scope.names, y.2 = .local → scope.names.lookup y.1 = some .local) (hx : scope.names.lookup x = some .local)
    (h : wpAny (model Challenge.rw_ji0018_01.row.prog w) A (eval iter env) (fun xv s₁ => wpAny (model Challenge.rw_ji0018_01.row.prog w) A (pyIter xv) (fun it s₂ => ∃ I io n IO P H m R M, it = .ref I ∧ Nxt w A I n IO P H ∧ n ≤ sizeLine ∧ St b L m R ((I, io) :: M) s₂.heap ∧ b.hs.get? I = none ∧ IO 0 io ∧
      (∀ R₁ M₁ h₁, (∀ p ∈ M, p ∈ M₁) → (∀ a o, R a o → R₁ a o) → St b L m R₁ M₁ h₁ → H h₁) ∧
      (∀ C i v mc R₁ M₁ h₁ tk E', i < n → P i v → h₁.Ns C mc → mc x = some v → (∀ p ∈ M, p ∈ M₁) → (∀ a o, R a o → R₁ a o) → St b L m R₁ M₁ h₁ →
        wpAny (model Challenge.rw_ji0018_01.row.prog w) A (eval elt (compEnv scope C env)) (EEnd b L R₁ h₁ (F i) s₂) E' { s₂ with heap := h₁, toks := tk }) ∧
      (∀ D dO' R' h' tk ys, (∀ a o, R a o → R' a o) → St b L m R' ((D, dO') :: M) h' → b.hs.get? D = none → LO dO' ys → ys.length = n → (∀ i y, ys[i]? = some y → F i y R') → Q (.ref D) { s₂ with heap := h', toks := tk })) E s₁) E s)
    (hs : ∀ x, foldedSetIterable iter env x = pure x := by intro _; rfl) :
    wpAny (model Challenge.rw_ji0018_01.row.prog w) A (eval (.ListComp elt [⟨.Name x px, iter, [], 0⟩] scope pos) env) Q E s := by
  refine wpAny_ListComp hfree hkind hnames (wpAny_mono h (fun xv s₁ h₁ => wpAny_mono h₁ (fun it s₂ h₂ => ?_) fun _ _ e => e) fun _ _ e => e) hs
  obtain ⟨I, io, n, IO, P, H, m, R, M, rfl, N, hsz, S, hI, hio, hH, turn, fin⟩ := h₂
  refine compBlock (RR := fun acc cenv r s' => ∃ m, s'.heap.Ns cenv.locals m ∧ ∀ h', Heap.SameBut cenv.locals s'.heap h' →
    match r with | .ok _ => Q acc { s' with heap := h' } | .error x => wpAny (model Challenge.rw_ji0018_01.row.prog w) A (passOn "comprehension.variables-let-go" x cenv) Q E { s' with heap := h' }) N S hI hio hsz hH F hF turn ?_ hkind hx hcell
  intro D C R' h' tk ys dO' cO' mc hsub S' hC nC nD hl hlen hF'
  exact ⟨mc, hC, fun h'' hs'' => fin D dO' R' h'' tk ys hsub (S'.lose nC hs''.extBut) nD hl hlen hF'⟩

/-- `y = [elt for x in ..]` behind the iterator -/
theorem assignComp {elt iter : Expr} {x y : Str} {px py : Pos} {scope : Scope} {pos spos : Pos} {Q : Flow → Shared → Prop} (F : Nat → Value → Rel → Prop) (hF : ∀ i y R₁ R₂, (∀ a o, R₁ a o → R₂ a o) → F i y R₁ → F i y R₂)
    (hsw : swapsWith (.ListComp elt [⟨.Name x px, iter, [], 0⟩] scope pos) (some (.Name y py)) spos.line (envOf cn cs L fa cd) = pure true)
    (hfree : ∀ y ∈ scope.names, y.2 ≠ .free) (hcell : ∀ y ∈ scope.names, y.2 ≠ .cell) (hkind : scope.kind = .function)
    (hnames : ∀ y ∈ scope.names, y.2 = .local → scope.names.lookup y.1 = some .local) (hx : scope.names.lookup x = some .local)
    (hck : cs.kind = .function) (hy : (envOf cn cs L fa cd).kindOf y = some .local)
    (h : wpAny (model Challenge.rw_ji0018_01.row.prog w) A (eval iter (envOf cn cs L fa cd)) (fun xv s₁ => wpAny (model Challenge.rw_ji0018_01.row.prog w) A (pyIter xv) (fun it s₂ => ∃ I io n IO P H m R M, it = .ref I ∧ Nxt w A I n IO P H ∧ n ≤ sizeLine ∧ St b L m R ((I, io) :: M) s₂.heap ∧ b.hs.get? I = none ∧ IO 0 io ∧
      (∀ R₁ M₁ h₁, (∀ p ∈ M, p ∈ M₁) → (∀ a o, R a o → R₁ a o) → St b L m R₁ M₁ h₁ → H h₁) ∧
      (∀ C i v mc R₁ M₁ h₁ tk E', i < n → P i v → h₁.Ns C mc → mc x = some v → (∀ p ∈ M, p ∈ M₁) → (∀ a o, R a o → R₁ a o) → St b L m R₁ M₁ h₁ →
        wpAny (model Challenge.rw_ji0018_01.row.prog w) A (eval elt (compEnv scope C (envOf cn cs L fa cd))) (EEnd b L R₁ h₁ (F i) s₂) E' { s₂ with heap := h₁, toks := tk }) ∧
      (∀ D dO' R' h' tk ys, (∀ a o, R a o → R' a o) → St b L (ups m y (.ref D)) R' ((D, dO') :: M) h' → b.hs.get? D = none → LO dO' ys → ys.length = n → (∀ i y, ys[i]? = some y → F i y R') → Q .next { s₂ with heap := h', toks := tk })) E s₁) E s)
    (hs : ∀ x, foldedSetIterable iter (envOf cn cs L fa cd) x = pure x := by intro _; rfl) :
    wpAny (model Challenge.rw_ji0018_01.row.prog w) A (exec (.Assign [.Name y py] (.ListComp elt [⟨.Name x px, iter, [], 0⟩] scope pos) spos) (envOf cn cs L fa cd)) Q E s := by
  rw [exec_Assign_Name_used _ _ _ _ hsw]
  refine wpAny_bind (wpAny_standAt (wpAny_bind ?_))
  show wpAny _ A (do let _ ← comprehension (.ListComp elt [⟨.Name x px, iter, [], 0⟩] scope pos) scope (envOf cn cs L fa cd) _ (newList []) false (eval iter (envOf cn cs L fa cd)) (some (assign (.Name y py) (envOf cn cs L fa cd)))) _ _ s
  refine wpAny_bind (wpAny_mono (wpAny_comprehension_use (Q := fun _ s' => Q .next s') rfl hs hfree hkind hnames (wpAny_mono h (fun xv s₁ h₁ => wpAny_mono h₁ (fun it s₂ h₂ => ?_) fun _ _ e => e) fun _ _ e => e))
    (fun _ s' hq => wpAny_pure (wpAny_pure hq)) fun _ _ e => e)
  obtain ⟨I, io, n, IO, P, H, m, R, M, rfl, N, hsz, S, hI, hio, hH, turn, fin⟩ := h₂
  refine compBlock (RR := fun acc cenv r s' => match r with
      | .ok _ => wpAny (model Challenge.rw_ji0018_01.row.prog w) A (assign (.Name y py) (envOf cn cs L fa cd) acc) (fun _ s'' => ∃ m, s''.heap.Ns cenv.locals m ∧ ∀ h', Heap.SameBut cenv.locals s''.heap h' → Q .next { s'' with heap := h' }) E s'
      | .error x => ∃ m, s'.heap.Ns cenv.locals m ∧ ∀ h', Heap.SameBut cenv.locals s'.heap h' → wpAny (model Challenge.rw_ji0018_01.row.prog w) A (passOn "comprehension.variables-let-go" x cenv) (fun _ s' => Q .next s') E { s' with heap := h' }) N S hI hio hsz hH F hF turn ?_ hkind hx hcell
  intro D C R' h' tk ys dO' cO' mc hsub S' hC nC nD hl hlen hF'
  have hCL : C ≠ L := (S'.mo _ (.head _)).1
  refine wpAny_assign_Name (wpAny_storeName_local hy S'.ns (fun h₂ hn₂ hs₂ => ?_) (by show (cs.kind == .class || (cs.kind == .module && L != mainGlobals)) = false; rw [hck]; rfl))
  exact ⟨mc, hC.sameBut hs₂ hCL, fun h'' hs'' => fin D dO' R' h'' _ ys hsub ((S'.store hn₂ hs₂).lose nC hs''.extBut) nD hl hlen hF'⟩
end
end

/-! M6 -/
section
open PySem PySem.W PyProof.Rows PySem.Calls
section
variable {w : World} {A : Around} {E : Value → Shared → Prop} {s : Shared} {b : Bs} {L : Addr} {m : Str → Option Value} {R : Rel} {M M' : List (Addr × Obj)} {cn : Str} {cs : Scope} {fa : Addr} {cd : Value} {env : Env}

theorem loadL {x : Str} {v : Value} {Q : Value → Shared → Prop} (S : St b L m R M s.heap) (hv : m x = some v) (h : Q v s)
    (hk : cs.kind = .function) (hl : (envOf cn cs L fa cd).kindOf x = some .local) :
    wpAny (model Challenge.rw_ji0018_01.row.prog w) A (loadName (envOf cn cs L fa cd) x) Q E s := wpAny_loadName_local hk hl S.ns hv h

/-- list displays -/
theorem listD {elts : List Expr} {pos : Pos} {Q : Value → Shared → Prop}
    (h : wpAny (model Challenge.rw_ji0018_01.row.prog w) A (spliced (backTo pos (starEach elts env))) (fun vs s₁ => ∃ b L m R M, St b L m R M s₁.heap ∧ vs.length ≤ sizeLine ∧
      ∀ a h' o, b.hs.get? a = none → St b L m R ((a, o) :: M) h' → LO o vs → Q (.ref a) { s₁ with heap := h' }) E s) : wpAny (model Challenge.rw_ji0018_01.row.prog w) A (eval (.List elts pos) env) Q E s := by
  refine wpAny_List (wpAny_mono h (fun vs s₁ h₁ => ?_) fun _ _ e => e)
  obtain ⟨b, L, m, R, M, S, hz, g⟩ := h₁
  exact ⟨hz, g _ _ _ (S.none_of (gnone_of_le (Nat.le_refl _))) (S.push _) (LO.mk _)⟩
/-- and tuple displays: they stand still -/
theorem tupD {elts : List Expr} {k : Nat} {pos : Pos} {Q : Value → Shared → Prop}
    (h : wpAny (model Challenge.rw_ji0018_01.row.prog w) A (spliced (backTo pos (starEach elts env))) (fun vs s₁ => ∃ b L m R M, St b L m R M s₁.heap ∧ vs.length ≤ sizeLine ∧
      ∀ a h' o, b.hs.get? a = none → St b L m (R.ins a o) M h' → TO o vs → Q (.ref a) { s₁ with heap := h' }) E s) : wpAny (model Challenge.rw_ji0018_01.row.prog w) A (eval (.Tuple elts k pos) env) Q E s := by
  refine wpAny_Tuple (wpAny_mono h (fun vs s₁ h₁ => ?_) fun _ _ e => e)
  obtain ⟨b, L, m, R, M, S, hz, g⟩ := h₁
  exact ⟨hz, g _ _ _ (S.none_of (gnone_of_le (Nat.le_refl _))) (S.pushR _) (TO.mk _)⟩

theorem range1 {n : Int} {t : Tok} {Q : Value → Shared → Prop} (S : St b L m R M s.heap)
    (h : ∀ r h' tk u v, St b L m R M h' → IsRange h' r 0 n 1 u t v → Q (.ref r) { s with heap := h', toks := tk }) :
    wpAny (model Challenge.rw_ji0018_01.row.prog w) A (call (.type "range") [.int n t]) Q E s :=
  call_range_1 (h _ _ _ _ _ (S.push _).tail (IsRange.new _ _ _ _ _ _ _))
theorem range2 {a n : Int} {t u : Tok} {Q : Value → Shared → Prop} (S : St b L m R M s.heap)
    (h : ∀ r h' tk v, St b L m R M h' → IsRange h' r a n 1 t u v → Q (.ref r) { s with heap := h', toks := tk }) :
    wpAny (model Challenge.rw_ji0018_01.row.prog w) A (call (.type "range") [.int a t, .int n u]) Q E s :=
  call_range_2 (h _ _ _ _ (S.push _).tail (IsRange.new _ _ _ _ _ _ _))

theorem modN {n d : Nat} {a c : Int} {t u : Tok} {Q : Value → Shared → Prop} (ha : a = n) (hc : c = d) (hd : 0 < d) (h : ∀ t k, Q (.int (n % d : Nat) t) { s with toks := k }) :
    wpAny (model Challenge.rw_ji0018_01.row.prog w) A (binaryOp .Mod (.int a t) (.int c u)) Q E s := by
  subst ha hc
  refine PyProof.Rows.mod_int' (by omega) ?_
  rw [show Int.fmod (n : Int) d = ((n % d : Nat) : Int) from by rw [Int.fmod_eq_emod_of_nonneg _ (by omega)]; rfl]
  exact h _ _
theorem divN {n d : Nat} {a c : Int} {t u : Tok} {Q : Value → Shared → Prop} (ha : a = n) (hc : c = d) (hd : 0 < d) (hd' : d < 1073741824) (h : ∀ t k, Q (.int (n / d : Nat) t) { s with toks := k }) :
    wpAny (model Challenge.rw_ji0018_01.row.prog w) A (binaryOp .FloorDiv (.int a t) (.int c u)) Q E s := by
  subst ha hc
  refine PyProof.Rows.floordiv_int (by omega) ?_ (.inl (PyProof.noPylong_small (by omega)))
  rw [show Int.fdiv (n : Int) d = ((n / d : Nat) : Int) from by rw [Int.fdiv_eq_ediv_of_nonneg _ (by omega)]; rfl]
  exact h _ _
theorem modL {n d : Nat} {a : Int} {t u : Tok} {Q : Value → Shared → Prop} (ha : a = n) (hd : 0 < d) (h : ∀ t k, Q (.int (n % (OfNat.ofNat d : Nat) : Nat) t) { s with toks := k }) :
    wpAny (model Challenge.rw_ji0018_01.row.prog w) A (binaryOp .Mod (.int a t) (.int (OfNat.ofNat d : Int) u)) Q E s := modN ha rfl hd h
theorem divL {n d : Nat} {a : Int} {t u : Tok} {Q : Value → Shared → Prop} (ha : a = n) (hd : 0 < d) (hd' : d < 1073741824) (h : ∀ t k, Q (.int (n / (OfNat.ofNat d : Nat) : Nat) t) { s with toks := k }) :
    wpAny (model Challenge.rw_ji0018_01.row.prog w) A (binaryOp .FloorDiv (.int a t) (.int (OfNat.ofNat d : Int) u)) Q E s := divN ha rfl hd hd' h
end
end

/-! M7 -/
section
open PySem PySem.W PyProof.Rows PySem.Calls
section
variable {w : World} {A : Around} {E : Value → Shared → Prop} {s : Shared} {b : Bs} {L : Addr} {m : Str → Option Value} {R : Rel} {M M' : List (Addr × Obj)} {cn : Str} {cs : Scope} {fa : Addr} {cd : Value} {env : Env}

/-! ### bytes.lower -/
theorem slotLower : Slot "bytes" "lower" "bytes.lower" :=
  .of (owner := "bytes") (n := "lower") (by rw [typeLookup_type, builtinLookup_eq_fast]; kernel_rfl) (by decide +kernel) (by decide +kernel) (by decide +kernel)
    (by first | exact .inl (by decide +kernel) | exact .inr (by decide +kernel)) (by rw [isSubtype_type]; kernel_rfl)
theorem typeLower : typeOf (.builtin "bytes.lower") = pure (.type "method_descriptor") := by show builtinType _ = _; rw [builtinType_eq_fast]; kernel_rfl
theorem entryLower : entryFor table "bytes.lower" = some Builtin.«bytes.lower» := entryFor_of_tree (by kernel_rfl)
theorem argsLower (a : Value) : argsOk "bytes.lower" ⟨[a], []⟩ := by
  unfold argsOk; rw [signature?_of (id := "bytes.lower") (n := ['r', 'e', 'w', 'o', 'l']) (o := ['s', 'e', 't', 'y', 'b']) (by kernel_rfl) PySem.W.FB.owner_bytes]; kernel_rfl
theorem methLower {x : Array UInt8} {t : Tok} {pl : Sem Bool} {Q : Value × List Value → Shared → Prop} (h : Q (.builtin "bytes.lower", [.bytes x t]) s) : wpAny (model Challenge.rw_ji0018_01.row.prog w) A (getMethod (.bytes x t) "lower" pl) Q E s := by
  with_reducible exact KBd.method_of (.bytes x t) (typeIs_bytes _ _ _) slotLower typeLower KBd.noRef h
theorem givesLower {l : List UInt8} {t : Tok} : Gives (Builtin.«bytes.lower» ⟨[.bytes l.toArray t], []⟩) (.bytes (l.map Builtin.Bytes.toLower).toArray) :=
  .of_eq (by kernel_rfl)
theorem lowerC {l : List UInt8} {t : Tok} {Q : Value → Shared → Prop} (hz : l.length ≤ 16777216) (h : ∀ t k, Q (.bytes (l.map Builtin.Bytes.toLower).toArray t) { s with toks := k }) :
    wpAny (model Challenge.rw_ji0018_01.row.prog w) A (call (.builtin "bytes.lower") [.bytes l.toArray t]) Q E s :=
  call_gives slotLower (typeIs_bytes _ _ _) entryLower (argsLower _) givesLower ⟨by simpa [sizeLine_eq] using hz, h _ _⟩

/-! ### list(bytes) -/
theorem hintBytes {x : Array UInt8} {t : Tok} {Q : Bool → Shared → Prop} (h : ∀ r k, Q r { s with toks := k }) :
    wpAny (model Challenge.rw_ji0018_01.row.prog w) A (Builtin.List.listLengthHint (.bytes x t)) Q E s := by
  unfold Builtin.List.listLengthHint
  refine wpAny_bind (wpAny_specialOf (typeIs_bytes s x t) FB.slot_bytes_len.lookup ?_)
  generalize hid : ("bytes.__len__" : String) = id0
  wp_delta
  rw [show splitId id0 = some ("bytes", "__len__") from by subst hid; decide +kernel]
  subst hid
  refine wpAny_bind (wpAny_isInstance (T := "bytes") (b := true) (typeIs_bytes s x t) (by rw [isSubtype_type]; kernel_rfl) ?_)
  refine wpAny_ite_split (fun hab => absurd hab (by decide)) (fun _ => ?_)
  refine wpAny_ite_split (fun _ => ?_) (fun hab => absurd (by decide +kernel) hab)
  refine wpAny_bind (wpAny_typeOf (typeIs_bytes s x t) ?_)
  exact wpAny_pure (h _ s.toks)

theorem extendBytes {RR : Result → Shared → Prop} {x : Array UInt8} {t : Tok} (hh : A.handled = none) (hlen : x.size ≤ 2 ^ 24) (D : Addr) (res : Value) (c₀ : Nat) (hS : s.heap.get? D = some { cls := .type "list", data := .seq #[] c₀ })
    (hR : ∀ h' tk acc' c', (∀ b o, b ≠ D → s.heap.get? b = some o → h'.get? b = some o) → h'.get? D = some { cls := .type "list", dict := none, data := .seq acc' c', slots := #[] } →
      ItemsOf (fun i v => ∃ c u, x[i]? = some c ∧ v = .int (c.toNat : Int) u) acc' x.size → RR (.ok (.ret res)) { s with heap := h', toks := tk }) :
    wpAny (model Challenge.rw_ji0018_01.row.prog w) A.in1 (Builtin.List.listExtendWith (.ref D) (.bytes x t) res)
      (fun fin s' => match fin with | .done f => RR (.ok f) s' | .again c' => c'.quiet = true ∧ codeAny (model Challenge.rw_ji0018_01.row.prog w) A c' RR s') (fun e s' => RR (.error e) s') s := by
  have hSlt : D < s.heap.objs.size := Heap.lt_size hS
  have hSI : D ≠ s.heap.objs.size := Nat.ne_of_lt hSlt
  have hSf : D ∉ [s.heap.objs.size] := fun hm => hSI (List.mem_singleton.mp hm)
  have W := (KBw.walks (prog := Challenge.rw_ji0018_01.row.prog) (w := w) (A := A.in1) hh s.heap.objs.size x t).toS
  have key : ∀ (h : Heap) (c₁ tk : Nat), KBw.IsBytesIter h s.heap.objs.size x t 0 → (∀ b o, b ≠ D → s.heap.get? b = some o → h.get? b = some o) →
      h.get? D = some { cls := .type "list", data := .seq #[] c₁ } → codeAny (model Challenge.rw_ji0018_01.row.prog w) A (.builtin "list.extend.loop" ⟨[.ref D, .ref s.heap.objs.size, res], []⟩) RR { s with heap := h, toks := tk } := by
    intro h c₁ tk hit hk hS₁
    refine codeAny_extend_loopS W (by rw [sizeLine_eq]; omega) D hSf res x.size 0 _ #[] c₁ rfl (Nat.zero_le _) hit hS₁ (ItemsOf.nil _) fun s' acc' c' hm hS' hacc => ?_
    rw [Moved.eq_with hm]
    refine hR s'.heap s'.toks acc' c' (fun b o hb e => hm.heap b o (fun hmem => ?_) (hk b o hb e)) hS' hacc
    rcases List.mem_cons.mp hmem with e' | hmem
    · exact hb e'
    · exact absurd (Heap.lt_size e) (by rw [List.mem_singleton.mp hmem]; exact Nat.lt_irrefl _)
  unfold Builtin.List.listExtendWith
  refine wpAny_bind (wpAny_typeOf (typeIs_bytes s x t) ?_)
  have h1 : Builtin.List.listSameRef (.ref D) (.bytes x t) = false := rfl
  have h2 : (Value.type "bytes" == Value.type "list") = false := by decide
  have h3 : (Value.type "bytes" == Value.type "tuple") = false := by decide
  simp only [h1, h2, h3, Bool.or_false, Bool.false_eq_true, if_false]
  refine wpAny_bind (KBw.pyIter_bytes ?_)
  refine wpAny_bind (wpAny_holding (hintBytes fun r k => ?_))
  have hit₁ : KBw.IsBytesIter (s.heap.push { cls := .type "bytes_iterator", data := .fields #[.bytes x t, .int 0 0] }) s.heap.objs.size x t 0 := ⟨_, Heap.get?_push_size _ rfl, rfl, rfl⟩
  have hS₁ := Heap.get?_push_of_some { cls := .type "bytes_iterator", data := .fields #[.bytes x t, .int 0 0] } hS
  refine wpAny_ite_split (fun _ => ?_) (fun _ => wpAny_pure ⟨plainId_quiet F.plain_extend_loop _, key _ c₀ _ hit₁ (fun b o _ e => Heap.get?_push_of_some _ e) hS₁⟩)
  refine wpAny_bind (wpAny_rule ?_)
  refine wpAny_bind ?_
  show wpAny _ _ (updateSeq D (·.push .none) >>= fun _ => updateSeq D (·.pop)) _ _ _
  refine wpAny_bind (wpAny_updateSeq hS₁ rfl ?_)
  have hS₂ := Heap.get?_update_self (Obj.mapSeq (·.push Value.none)) hS₁ rfl
  refine wpAny_updateSeq (hz := by seq_fits) hS₂ rfl ?_
  have hS₃ := Heap.get?_update_self (Obj.mapSeq (·.pop)) hS₂ rfl
  refine wpAny_pure ⟨plainId_quiet F.plain_extend_loop _, key _ _ _ ?_ (fun b o hb e => ?_) hS₃⟩
  · obtain ⟨o, ho, q⟩ := hit₁
    exact ⟨o, (Heap.get?_update_other _ _ hSI).trans ((Heap.get?_update_other _ _ hSI).trans ho), q⟩
  · exact (Heap.get?_update_other _ _ (Ne.symm hb)).trans ((Heap.get?_update_other _ _ (Ne.symm hb)).trans (Heap.get?_push_of_some _ e))

theorem listOfBytes {l : List UInt8} {t : Tok} {Q : Value → Shared → Prop} (S : St b L m R M s.heap) (hh : A.handled = none) (hlen : l.length ≤ 2 ^ 24)
    (h : ∀ d o vs h' tk, (∀ c x, s.heap.get? c = some x → h'.get? c = some x) → s.heap.get? d = none → b.hs.get? d = none → St b L m R ((d, o) :: M) h' → LO o vs → IntsAre vs (oi l) → Q (.ref d) { s with heap := h', toks := tk }) :
    wpAny (model Challenge.rw_ji0018_01.row.prog w) A (call (.type "list") [.bytes l.toArray t]) Q E s := by
  refine callType_codes (Q₁ := fun obj s₁ => obj = .ref s.heap.objs.size ∧ s₁ = { s with heap := s.heap.push { cls := .type "list", data := .seq #[] } }) F.called_list (F.typeCall_list_1 _) F.entry_list_init
    (code_list_new _ ⟨rfl, rfl⟩) fun obj s₁ h₁ => ?_
  obtain ⟨rfl, rfl⟩ := h₁
  have hS : (s.heap.push { cls := .type "list", data := .seq #[] }).get? s.heap.objs.size = some { cls := .type "list", data := .seq #[] } := Heap.get?_push_size _ rfl
  refine ⟨⟨_, hS, rfl⟩, F.args_list_init_2 _ _, ?_⟩
  show wpAny _ _ (do let old ← Builtin.List.listItems (.ref s.heap.objs.size); Builtin.List.listUpdate (.ref s.heap.objs.size) (fun _ => #[]); letGo old.toList.reverse; Builtin.List.listExtendWith (.ref s.heap.objs.size) (.bytes l.toArray t) .none) _ _ _
  refine wpAny_bind ?_
  unfold Builtin.List.listItems
  refine wpAny_bind (wpAny_seqItems hS rfl (wpAny_pure ?_))
  show wpAny _ _ (updateSeq s.heap.objs.size (fun _ => #[]) >>= fun _ => letGo (#[] : Array Value).toList.reverse >>= fun _ => Builtin.List.listExtendWith (.ref s.heap.objs.size) (.bytes l.toArray t) .none) _ _ _
  refine wpAny_bind (wpAny_updateSeq hS rfl ?_)
  have hS₂ := Heap.get?_update_self (Obj.mapSeq (fun _ => (#[] : Array Value))) hS rfl
  have oth : ∀ b o, b ≠ s.heap.objs.size → (s.heap.push { cls := .type "list", data := .seq #[] }).get? b = some o → ((s.heap.push { cls := .type "list", data := .seq #[] }).update s.heap.objs.size (Obj.mapSeq (fun _ => (#[] : Array Value)))).get? b = some o :=
    fun b o hb e => (Heap.get?_update_other _ _ (Ne.symm hb)).trans e
  refine wpAny_bind (wpAny_letGo ?_)
  refine extendBytes (A := A.in1) hh (by simpa using hlen) s.heap.objs.size .none _ hS₂ fun h' tk acc' c' hk hS' hacc => ?_
  have hk' : ∀ b o, s.heap.get? b = some o → h'.get? b = some o := fun b o e => by
    have hb : b ≠ s.heap.objs.size := Nat.ne_of_lt (Heap.lt_size e)
    exact hk b o hb (oth b o hb (Heap.get?_push_of_some _ e))
  refine ⟨rfl, h s.heap.objs.size _ acc'.toList h' tk hk' (gnone_of_le (Nat.le_refl _)) (S.none_of (gnone_of_le (Nat.le_refl _))) (S.add hk' (gnone_of_le (Nat.le_refl _)) hS') ⟨c', by simp⟩ ?_⟩
  have e : ∀ (us : List Value) (k : List UInt8), us.length = k.length → (∀ (j : Nat) (v : Value), us[j]? = some v → ∃ (c : UInt8) (u : Tok), k[j]? = some c ∧ v = Value.int (c.toNat : Int) u) → IntsAre us (oi k) := by
    intro us
    induction us with
    | nil => intro k hk _; cases k with
      | nil => exact .nil
      | cons _ _ => simp at hk
    | cons v r ih => intro k hk hv; cases k with
      | nil => simp at hk
      | cons c k =>
        obtain ⟨c', u, e1, e2⟩ := hv 0 v rfl
        simp at e1; subst e1 e2
        exact .cons _ _ (ih k (by simpa using hk) fun j x hx => by simpa using hv (j + 1) x (by simpa using hx))
  refine e _ _ (by have := hacc.1; simpa using this) fun j v hj => ?_
  obtain ⟨c, u, e1, e2⟩ := hacc.2 j v (by simpa using hj)
  exact ⟨c, u, by simpa using e1, e2⟩

theorem isBytes {x : Array UInt8} {t : Tok} {Q : Value → Shared → Prop} (S : St b L m R M s.heap) (G : Glb w b.H0) (h : ∀ tk, Q (.bool true) { s with toks := tk }) :
    wpAny (model Challenge.rw_ji0018_01.row.prog w) A (call (.builtin "isinstance") [.bytes x t, .type "bytes"]) Q E s :=
  kia_one (b := true) kitx_bytes (S.kin G) trivial (by rfl) (fun e => nomatch e) h
theorem lenB {l : List UInt8} {t : Tok} {Q : Value → Shared → Prop} (hz : l.length ≤ 16777216) (h : ∀ t k, Q (.int l.length t) { s with toks := k }) :
    wpAny (model Challenge.rw_ji0018_01.row.prog w) A (call (.builtin "len") [.bytes l.toArray t]) Q E s :=
  len_bytes (by simp; omega) (by simpa using h _ _)
end
end

/-! M8 -/
section
open PySem PySem.W PyProof.Rows PySem.Calls
/-- a list or a tuple that stands still -/
def Src (R : Rel) (a : Addr) (vs : List Value) : Prop := ∃ o, R a o ∧ (LO o vs ∨ TO o vs)
section
variable {w : World} {A : Around} {E : Value → Shared → Prop} {s : Shared} {b : Bs} {L : Addr} {m : Str → Option Value} {R : Rel} {M M' : List (Addr × Obj)} {cn : Str} {cs : Scope} {fa : Addr} {cd : Value} {env : Env}

theorem listCompS {elt iter : Expr} {x : Str} {px : Pos} {scope : Scope} {pos : Pos} {env : Env} {Q : Value → Shared → Prop} (hh : A.handled = none) (F : Nat → Value → Rel → Prop) (hF : ∀ i y R₁ R₂, (∀ a o, R₁ a o → R₂ a o) → F i y R₁ → F i y R₂)
    (hfree : ∀ y ∈ scope.names, y.2 ≠ .free) (hcell : ∀ y ∈ scope.names, y.2 ≠ .cell) (hkind : scope.kind = .function)
    (hnames : ∀ y ∈ scope.names, y.2 = .local → scope.names.lookup y.1 = some .local) (hx : scope.names.lookup x = some .local)
    (hs : ∀ x, foldedSetIterable iter env x = pure x)
    (h : wpAny (model Challenge.rw_ji0018_01.row.prog w) A (eval iter env) (fun xv s₁ => ∃ m R M a vs, xv = .ref a ∧ St b L m R M s₁.heap ∧ Src R a vs ∧ vs.length ≤ sizeLine ∧
      (∀ C i v mc R₁ M₁ h₁ tk E', vs[i]? = some v → h₁.Ns C mc → mc x = some v → (∀ p ∈ M, p ∈ M₁) → (∀ a o, R a o → R₁ a o) → St b L m R₁ M₁ h₁ →
        wpAny (model Challenge.rw_ji0018_01.row.prog w) A (eval elt (compEnv scope C env)) (EEnd b L R₁ h₁ (F i) s₁) E' { s₁ with heap := h₁, toks := tk }) ∧
      (∀ D dO' R' h' tk ys, (∀ a o, R a o → R' a o) → St b L m R' ((D, dO') :: M) h' → b.hs.get? D = none → LO dO' ys → ys.length = vs.length → (∀ i y, ys[i]? = some y → F i y R') → Q (.ref D) { s₁ with heap := h', toks := tk })) E s) :
    wpAny (model Challenge.rw_ji0018_01.row.prog w) A (eval (.ListComp elt [⟨.Name x px, iter, [], 0⟩] scope pos) env) Q E s := by
  refine listComp (b := b) (L := L) F hF hfree hcell hkind hnames hx (wpAny_mono h (fun xv s₁ h₁ => ?_) fun _ _ e => e) hs
  obtain ⟨m, R, M, a, vs, rfl, S, ⟨o, hR, ho⟩, hz, turn, fin⟩ := h₁
  rcases ho with ho | ho
  · refine wpAny_pyIter_list (ho.list (S.fr _ _ hR)) ?_
    exact ⟨_, _, vs.length, LIt a, _, _, m, R, M, rfl, Nxt.list hh _ a vs, hz, S.push _, S.none_of (gnone_of_le (Nat.le_refl _)), ⟨rfl, rfl⟩, fun R₁ M₁ h₁ _ hsub S' => ho.list (S'.fr _ _ (hsub _ _ hR)), fun C i v mc R₁ M₁ h₁ tk E' _ hv => turn C i v mc R₁ M₁ h₁ tk E' hv, fin⟩
  · refine wpAny_pyIter_tuple (ho.tup (S.fr _ _ hR)) ?_
    exact ⟨_, _, vs.length, TIt a, _, _, m, R, M, rfl, Nxt.tup hh _ a vs, hz, S.push _, S.none_of (gnone_of_le (Nat.le_refl _)), ⟨rfl, rfl⟩, fun R₁ M₁ h₁ _ hsub S' => ho.tup (S'.fr _ _ (hsub _ _ hR)), fun C i v mc R₁ M₁ h₁ tk E' _ hv => turn C i v mc R₁ M₁ h₁ tk E' hv, fin⟩

theorem assignCompS {elt iter : Expr} {x y : Str} {px py : Pos} {scope : Scope} {pos spos : Pos} {Q : Flow → Shared → Prop} (hh : A.handled = none) (F : Nat → Value → Rel → Prop) (hF : ∀ i y R₁ R₂, (∀ a o, R₁ a o → R₂ a o) → F i y R₁ → F i y R₂)
    (hsw : swapsWith (.ListComp elt [⟨.Name x px, iter, [], 0⟩] scope pos) (some (.Name y py)) spos.line (envOf cn cs L fa cd) = pure true)
    (hfree : ∀ y ∈ scope.names, y.2 ≠ .free) (hcell : ∀ y ∈ scope.names, y.2 ≠ .cell) (hkind : scope.kind = .function)
    (hnames : ∀ y ∈ scope.names, y.2 = .local → scope.names.lookup y.1 = some .local) (hx : scope.names.lookup x = some .local)
    (hck : cs.kind = .function) (hy : (envOf cn cs L fa cd).kindOf y = some .local)
    (hs : ∀ x, foldedSetIterable iter (envOf cn cs L fa cd) x = pure x)
    (h : wpAny (model Challenge.rw_ji0018_01.row.prog w) A (eval iter (envOf cn cs L fa cd)) (fun xv s₁ => ∃ m R M a vs, xv = .ref a ∧ St b L m R M s₁.heap ∧ Src R a vs ∧ vs.length ≤ sizeLine ∧
      (∀ C i v mc R₁ M₁ h₁ tk E', vs[i]? = some v → h₁.Ns C mc → mc x = some v → (∀ p ∈ M, p ∈ M₁) → (∀ a o, R a o → R₁ a o) → St b L m R₁ M₁ h₁ →
        wpAny (model Challenge.rw_ji0018_01.row.prog w) A (eval elt (compEnv scope C (envOf cn cs L fa cd))) (EEnd b L R₁ h₁ (F i) s₁) E' { s₁ with heap := h₁, toks := tk }) ∧
      (∀ D dO' R' h' tk ys, (∀ a o, R a o → R' a o) → St b L (ups m y (.ref D)) R' ((D, dO') :: M) h' → b.hs.get? D = none → LO dO' ys → ys.length = vs.length → (∀ i y, ys[i]? = some y → F i y R') → Q .next { s₁ with heap := h', toks := tk })) E s) :
    wpAny (model Challenge.rw_ji0018_01.row.prog w) A (exec (.Assign [.Name y py] (.ListComp elt [⟨.Name x px, iter, [], 0⟩] scope pos) spos) (envOf cn cs L fa cd)) Q E s := by
  refine assignComp (b := b) F hF hsw hfree hcell hkind hnames hx hck hy (wpAny_mono h (fun xv s₁ h₁ => ?_) fun _ _ e => e) hs
  obtain ⟨m, R, M, a, vs, rfl, S, ⟨o, hR, ho⟩, hz, turn, fin⟩ := h₁
  rcases ho with ho | ho
  · refine wpAny_pyIter_list (ho.list (S.fr _ _ hR)) ?_
    exact ⟨_, _, vs.length, LIt a, _, _, m, R, M, rfl, Nxt.list hh _ a vs, hz, S.push _, S.none_of (gnone_of_le (Nat.le_refl _)), ⟨rfl, rfl⟩, fun R₁ M₁ h₁ _ hsub S' => ho.list (S'.fr _ _ (hsub _ _ hR)), fun C i v mc R₁ M₁ h₁ tk E' _ hv => turn C i v mc R₁ M₁ h₁ tk E' hv, fin⟩
  · refine wpAny_pyIter_tuple (ho.tup (S.fr _ _ hR)) ?_
    exact ⟨_, _, vs.length, TIt a, _, _, m, R, M, rfl, Nxt.tup hh _ a vs, hz, S.push _, S.none_of (gnone_of_le (Nat.le_refl _)), ⟨rfl, rfl⟩, fun R₁ M₁ h₁ _ hsub S' => ho.tup (S'.fr _ _ (hsub _ _ hR)), fun C i v mc R₁ M₁ h₁ tk E' _ hv => turn C i v mc R₁ M₁ h₁ tk E' hv, fin⟩
end
end

/-! M9 -/
section
open PySem PySem.W PyProof.Rows PySem.Calls
theorem All2.of_get {α β : Type} {P : α → β → Prop} : ∀ {as : List α} {bs : List β}, as.length = bs.length → (∀ (i : Nat) (a : α), as[i]? = some a → ∀ b, bs[i]? = some b → P a b) → All2 P as bs
  | [], [], _, _ => .nil
  | a :: as, b :: bs, h, f => .cons (f 0 a rfl b rfl) (All2.of_get (by simpa using h) fun i x hx y hy => f (i + 1) x (by simpa using hx) y (by simpa using hy))
end

/-! B0 -/
section
open PySem PySem.W PyProof.Rows PySem.Calls
theorem map_erase {α β : Type} (f : α → β) : ∀ (l : List α) (i : Nat), (l.eraseIdx i).map f = (l.map f).eraseIdx i
  | [], _ => rfl
  | _ :: _, 0 => rfl
  | _ :: l, i + 1 => by simp [map_erase f l i]
section
variable {prog : Program} {w : World} {K : Type} [DecidableEq K] {knd : HeapKind prog w K} {A : Around} {E : Value → Shared → Prop} {s : Shared} {d a : Addr} {k : K} {xs : List (K × Addr × Value)}

theorem takeOut_there {j : Nat} {p : Addr × Value} {Q : Option DictEntry → Shared → Prop} (hu : knd.room A) (hkey : knd.is s.heap k a) (hm : s.heap.DictOfH knd d xs) (hj : xs[j]? = some (k, p)) (hsz : xs.length ≤ sizeLine)
    (h : ∀ e h', e.val = p.2 → h'.DictOfH knd d (xs.eraseIdx j) → Heap.SameBut d s.heap h' → Q (some e) { s with heap := h', toks := s.toks + knd.draws k }) :
    wpAny (model prog w) A (Builtin.Dict.takeOut d (.ref a)) Q E s := by
  obtain ⟨o, es, ep, ho, hc, hd, he, his, hn⟩ := hm
  unfold Builtin.Dict.takeOut
  try with_reducible refine wpAny_holding ?_
  refine wpAny_bind (knd.pyHash hu hkey ?_)
  refine wpAny_bind (wpAny_dictFind_heap (s := { s with toks := s.toks + knd.draws k }) hu hkey ho hd he his hn (fun hno => absurd hj (hno j p)) fun i q hi => ?_)
  obtain rfl := idxH_unique hn hi hj
  refine wpAny_bind (wpAny_dictEntries (s := { s with toks := s.toks + knd.draws k }) ho hd ?_)
  have hex : es[i]? = some (entryOfKey knd (k, p)) := by rw [entry_at he i, hj]; rfl
  rw [hex]
  refine wpAny_bind (wpAny_updateDictKeys (hz := by have e := size_of_entries he; omega) (s := { s with toks := s.toks + knd.draws k }) ho hd (wpAny_pure (h _ _ rfl ⟨_, _, ep + 1, Heap.get?_update_self _ ho (Obj.isFreed_of_dict (Obj.data_mapDictKeys hd _)),
      hc.mapDictKeys _, Obj.data_mapDictKeys hd _, ?_, ?_, ?_⟩ (Heap.SameBut.update ..))))
  · obtain ⟨l⟩ := es
    simp only [List.eraseIdxIfInBounds_toArray] at he ⊢
    rw [map_erase, ← he]
  · intro x hx
    exact knd.keeps (his x (List.mem_of_mem_eraseIdx hx)) ho hd (Heap.SameBut.update ..)
  · exact hn.sublist ((List.eraseIdx_sublist _ _).map _)

theorem takeOut_not {Q : Option DictEntry → Shared → Prop} (hu : knd.room A) (hkey : knd.is s.heap k a) (hm : s.heap.DictOfH knd d xs) (hj : ∀ (j : Nat) (p : Addr × Value), xs[j]? ≠ some (k, p))
    (h : Q none { s with toks := s.toks + knd.draws k }) :
    wpAny (model prog w) A (Builtin.Dict.takeOut d (.ref a)) Q E s := by
  obtain ⟨o, es, ep, ho, hc, hd, he, his, hn⟩ := hm
  unfold Builtin.Dict.takeOut
  try with_reducible refine wpAny_holding ?_
  refine wpAny_bind (knd.pyHash hu hkey ?_)
  exact wpAny_bind (wpAny_dictFind_heap (s := { s with toks := s.toks + knd.draws k }) hu hkey ho hd he his hn (fun hno => wpAny_pure h) fun i q hi => absurd hi (hj i q))

theorem pop_there {j : Nat} {p : Addr × Value} {Q : Value → Shared → Prop} (hu : knd.room A.in1) (hkey : knd.is s.heap k a) (hm : s.heap.DictOfH knd d xs) (hj : xs[j]? = some (k, p)) (hsz : xs.length ≤ sizeLine)
    (h : ∀ h' tk, h'.DictOfH knd d (xs.eraseIdx j) → Heap.SameBut d s.heap h' → Q p.2 { s with heap := h', toks := tk }) :
    wpAny (model prog w) A (call (.builtin "dict.pop") [.ref d, .ref a]) Q E s := by
  refine wpAny_call_entry F.slot_dict_pop hm.typeIs F.entry_dict_pop ?_ (F.args_dict_pop_2 _ _)
  unfold Builtin.«dict.pop»
  refine wpAny_bind ?_
  unfold Builtin.Dict.keyAndDefault
  refine wpAny_bind (wpAny_notOrdered_dict hm.typeIs ?_)
  show wpAny _ _ (pure (d, Value.ref a, none)) _ _ s
  refine wpAny_pure ?_
  have hm' := hm
  obtain ⟨o, es, ep, ho, hc, hd, he, his, hn⟩ := hm'
  simp only [keyPart, Option.isSome_none, Bool.false_eq_true, if_false]
  refine wpAny_bind (wpAny_dictEntries ho hd ?_)
  refine wpAny_bind (wpAny_pure ?_)
  have hne : es.isEmpty = false := by
    have e := size_of_entries he
    have : j < xs.length := (List.getElem?_eq_some_iff.mp hj).1
    rw [Array.isEmpty, e]; exact decide_eq_false (by omega)
  rw [hne]
  simp only [Bool.false_eq_true, if_false]
  refine wpAny_bind (takeOut_there (A := A.in1) hu hkey hm hj hsz fun e h' hv hm' hs' => ?_)
  simp only [Option.isNone_some, Bool.false_eq_true, if_false]
  exact wpAny_bind (wpAny_letGo (wpAny_pure ⟨e.val, rfl, by rw [hv]; exact h h' _ hm' hs'⟩))

theorem pop_missing {Q : Value → Shared → Prop} (hu : knd.room A.in1) (hkey : knd.is s.heap k a) (hsm : (d == sysModules) = false) (hh : A.handled = none) (hm : s.heap.DictOfH knd d xs) (hj : ∀ (j : Nat) (p : Addr × Value), xs[j]? ≠ some (k, p))
    (h : ∀ h' e tk, Heap.NewExc s.heap h' e "KeyError" → E (.ref e) { s with heap := h', toks := tk }) :
    wpAny (model prog w) A (call (.builtin "dict.pop") [.ref d, .ref a]) Q E s := by
  refine wpAny_call_entry F.slot_dict_pop hm.typeIs F.entry_dict_pop ?_ (F.args_dict_pop_2 _ _)
  unfold Builtin.«dict.pop»
  refine wpAny_bind ?_
  unfold Builtin.Dict.keyAndDefault
  refine wpAny_bind (wpAny_notOrdered_dict hm.typeIs ?_)
  show wpAny _ _ (pure (d, Value.ref a, none)) _ _ s
  refine wpAny_pure ?_
  have hm' := hm
  obtain ⟨o, es, ep, ho, hc, hd, he, his, hn⟩ := hm'
  simp only [keyPart, Option.isSome_none, Bool.false_eq_true, if_false]
  refine wpAny_bind (wpAny_dictEntries ho hd ?_)
  refine wpAny_bind (wpAny_pure ?_)
  by_cases hne : es.isEmpty = true
  · rw [hne]
    simp only [if_true]
    refine wpAny_bind (wpAny_rule ?_)
    refine wpAny_bind (wpAny_pure ?_)
    simp only [Option.isNone_none, if_true]
    refine wpAny_bind (wpAny_missedRemoval_other hsm ?_)
    exact wpAny_bind (wpAny_rule (wpAny_raise_newExc (A := A.in1) plainExc_KeyError hh fun h' e x => h h' e _ x))
  · rw [Bool.eq_false_iff.mpr hne]
    simp only [Bool.false_eq_true, if_false]
    refine wpAny_bind (takeOut_not (A := A.in1) hu hkey hm hj ?_)
    simp only [Option.isNone_none, if_true]
    refine wpAny_bind (wpAny_missedRemoval_other hsm ?_)
    exact wpAny_bind (wpAny_rule (wpAny_raise_newExc (A := A.in1) plainExc_KeyError hh fun h' e x => h h' e _ x))

/-- how many -/
theorem len_dictH {Q : Value → Shared → Prop} (hsm : (d == sysModules) = false) (hm : s.heap.DictOfH knd d xs) (hz : xs.length ≤ 16777216) (h : ∀ t k, Q (.int xs.length t) { s with toks := k }) :
    wpAny (model prog w) A (call (.builtin "len") [.ref d]) Q E s := by
  refine PyProof.Rows.call_len_slot (n := xs.length) hm.typeIs F.slot_dict_len (fun Q' hq => ?_) (by omega) (by omega) (h _ _)
  refine wpAny_call_entry F.slot_dict_len hm.typeIs F.entry_dict_len ?_ (F.args_dict_len_1 _)
  obtain ⟨o, es, ep, ho, hc, hd, he, his, hn⟩ := hm
  show wpAny _ _ (dictSize d >>= _) _ _ s
  unfold dictSize
  refine wpAny_bind (wpAny_bind (wpAny_dictEntries ho hd (wpAny_pure ?_)))
  show wpAny _ _ (Builtin.Dict.pendingCount d >>= _) _ _ s
  refine wpAny_bind (wpAny_pendingCount_other hsm ?_)
  refine wpAny_ret_mkInt ?_
  rw [size_of_entries he]
  simpa using hq

theorem call_values {Q : Value → Shared → Prop} (hsm : (d == sysModules) = false) (hm : s.heap.DictOfH knd d xs)
    (h : Q (.ref s.heap.objs.size) { s with heap := s.heap.push { cls := .type "dict_values", data := .fields #[.ref d] } }) :
    wpAny (model prog w) A (call (.builtin "dict.values") [.ref d]) Q E s := by
  refine wpAny_call_entry F.slot_dict_values hm.typeIs F.entry_dict_values ?_ (F.args_dict_values_1 _)
  refine wpAny_bind ?_
  unfold Builtin.Dict.noArgs
  refine wpAny_bind (wpAny_notOrdered_dict hm.typeIs ?_)
  show wpAny _ _ (pure d) _ _ s
  refine wpAny_pure ?_
  show wpAny _ _ (Builtin.Dict.showsAll d >>= _) _ _ s
  unfold Builtin.Dict.showsAll
  rw [if_neg (by rw [hsm]; exact Bool.false_ne_true)]
  refine wpAny_bind (wpAny_pure ?_)
  exact wpAny_bind (wpAny_newObj_type (wpAny_pure ⟨_, rfl, h⟩))

/-- a dict's n values -/
def IsVals (h : Heap) (d : Addr) (es : Array DictEntry) (ep : Nat) : Prop := ∃ o, h.get? d = some o ∧ o.data = .dict es ep
theorem iter_values {v : Addr} {es : Array DictEntry} {ep : Nat} {Q : Value → Shared → Prop} (hv : s.heap.IsValuesView v d) (hm : IsVals s.heap d es ep)
    (hQ : Q (.ref s.heap.objs.size) { s with heap := s.heap.push { cls := .type "dict_valueiterator", data := .fields #[.ref d, .int 0 0, .int es.size 0, .int ep 0] } }) :
    wpAny (model prog w) A (pyIter (.ref v)) Q E s := by
  obtain ⟨ov, hov, hcv, hdv⟩ := id hv
  obtain ⟨o, ho, hdat⟩ := id hm
  refine wpAny_pyIter_slot hv.typeIs F.slot_dict_values_iter (wpAny_call_entry F.slot_dict_values_iter hv.typeIs F.entry_dict_values_iter ?_ (F.args_dict_values_iter_1 _))
  unfold Builtin.«dict_values.__iter__»
  refine wpAny_bind (wpAny_pure ?_)
  refine wpAny_bind ?_
  unfold Builtin.Dict_items.dictOf
  refine wpAny_bind (wpAny_field hov hdv (x := .ref d) rfl (wpAny_pure ?_))
  refine wpAny_bind ?_
  unfold Builtin.Dict_items.newIterator
  refine wpAny_bind (wpAny_dictEntries ho hdat ?_)
  refine wpAny_bind (wpAny_dictEpoch ho hdat ?_)
  have hown : Builtin.Dict_items.ownsTuple "dict_valueiterator" = false := by decide
  simp only [hown, Bool.false_eq_true, if_false]
  refine wpAny_newObj_type (wpAny_pure ⟨_, rfl, "dict_valueiterator", _, ⟨_, Heap.get?_push_size _ rfl, rfl⟩, F.slot_dict_valueiterator_next.lookup, ?_⟩)
  exact hQ

theorem values_item {it : Addr} {i ep : Nat} {es : Array DictEntry} {v : Value} {Q : Option Value → Shared → Prop} (hit : s.heap.IsValIter it d i es.size ep)
    (hm : IsVals s.heap d es ep) (hx : (es[i]?).map (·.val) = some v)
    (hQ : ∀ h', h'.IsValIter it d (i + 1) es.size ep → Heap.SameBut it s.heap h' → Q (some v) { s with heap := h' }) :
    wpAny (model prog w) A (pyNext (.ref it)) Q E s := by
  obtain ⟨o, ho, hc, hd⟩ := id hit
  obtain ⟨od, hod, hdd⟩ := id hm
  unfold pyNext
  refine wpAny_bind (wpAny_attempt (wpAny_callSpecial?_slot (name := Str.ofString "__next__") hit.typeIs F.slot_dict_valueiterator_next
    (wpAny_call_entry F.slot_dict_valueiterator_next hit.typeIs F.entry_dict_valueiterator_next ?_ (F.args_dict_valueiterator_next_1 _))))
  refine wpAny_bind (wpAny_pure ?_)
  refine wpAny_bind ?_
  refine wpAny_bind ?_
  first | refine wpAny_bind (wpAny_typeNameOfWhole_valiter hit.typeIs (wpAny_pure ?_)) | refine wpAny_bind (wpAny_typeNameOf_valiter hit.typeIs (wpAny_pure ?_))
  refine wpAny_bind (wpAny_fieldsOf ho hd ?_)
  have hown : Builtin.Dict_items.ownsTuple "dict_valueiterator" = false := by decide
  simp only [hown, Bool.false_eq_true, if_false]
  show wpAny _ _ (if (Value.ref d == Value.none) = true then _ else _) _ _ s
  rw [if_neg (show ¬ ((Value.ref d == Value.none) = true) from Bool.false_ne_true)]
  refine wpAny_bind (wpAny_pure ?_)
  refine wpAny_bind (wpAny_dictEntries hod hdd ?_)
  rw [if_neg (by simp)]
  refine wpAny_bind (wpAny_pure ?_)
  refine wpAny_bind (wpAny_dictEpoch hod hdd ?_)
  rw [if_neg (by simp)]
  refine wpAny_pure ?_
  have hlt' : i < es.size := by
    rcases Nat.lt_or_ge i es.size with h | h
    · exact h
    · rw [Array.getElem?_eq_none h] at hx; cases hx
  have hval : es[i].val = v := by rw [Array.getElem?_eq_getElem hlt'] at hx; exact Option.some.inj hx
  simp only [show ¬ ((i : Int) < 0) from by omega, if_false, Int.toNat_natCast, Array.getElem?_eq_getElem hlt']
  refine wpAny_bind ?_
  first | refine wpAny_bind (wpAny_typeNameOfWhole_valiter hit.typeIs (wpAny_pure ?_)) | refine wpAny_bind (wpAny_typeNameOf_valiter hit.typeIs (wpAny_pure ?_))
  refine wpAny_bind (wpAny_isOneOf_valiter hit.typeIs ?_)
  show wpAny _ _ (setField (.ref it) 1 (rawInt ((i : Int) + 1)) >>= _) _ _ s
  refine wpAny_bind (wpAny_setField ho hd (by simp) ?_)
  have hit' : (s.heap.update it (Obj.mapFields (·.setIfInBounds 1 (rawInt ((i : Int) + 1))))).IsValIter it d (i + 1) es.size ep :=
    ⟨_, Heap.get?_update_self _ ho (Obj.isFreed_of_fields (Obj.data_mapFields hd _)), (Obj.cls_mapFields ..).trans hc, by rw [Obj.data_mapFields hd]; simp [rawInt]⟩
  refine wpAny_bind (wpAny_holding ?_)
  refine wpAny_bind (wpAny_isOneOf_valiter (s := { s with heap := s.heap.update it (Obj.mapFields (·.setIfInBounds 1 (rawInt ((i : Int) + 1)))) }) hit'.typeIs ?_)
  refine wpAny_bind (wpAny_isOneOf_valiter (s := { s with heap := s.heap.update it (Obj.mapFields (·.setIfInBounds 1 (rawInt ((i : Int) + 1)))) }) hit'.typeIs ?_)
  show wpAny _ _ (pure es[i].val) _ _ _
  exact wpAny_pure (wpAny_pure ⟨_, rfl, wpAny_pure (hval ▸ hQ _ hit' (Heap.SameBut.update ..))⟩)

theorem values_end {it : Addr} {i ep : Nat} {es : Array DictEntry} {Q : Option Value → Shared → Prop} (hh : A.handled = none) (hit : s.heap.IsValIter it d i es.size ep)
    (hm : IsVals s.heap d es ep) (hge : es.size ≤ i)
    (hQ : ∀ h', Heap.ExtBut it s.heap h' → Q none { s with heap := h' }) : wpAny (model prog w) A (pyNext (.ref it)) Q E s := by
  obtain ⟨o, ho, hc, hd⟩ := id hit
  obtain ⟨od, hod, hdd⟩ := id hm
  unfold pyNext
  refine wpAny_bind (wpAny_attempt (wpAny_callSpecial?_slot (name := Str.ofString "__next__") hit.typeIs F.slot_dict_valueiterator_next
    (wpAny_call_entry F.slot_dict_valueiterator_next hit.typeIs F.entry_dict_valueiterator_next ?_ (F.args_dict_valueiterator_next_1 _))))
  refine wpAny_bind (wpAny_pure ?_)
  refine wpAny_bind ?_
  refine wpAny_bind ?_
  first | refine wpAny_bind (wpAny_typeNameOfWhole_valiter hit.typeIs (wpAny_pure ?_)) | refine wpAny_bind (wpAny_typeNameOf_valiter hit.typeIs (wpAny_pure ?_))
  refine wpAny_bind (wpAny_fieldsOf ho hd ?_)
  have hown : Builtin.Dict_items.ownsTuple "dict_valueiterator" = false := by decide
  simp only [hown, Bool.false_eq_true, if_false]
  show wpAny _ _ (if (Value.ref d == Value.none) = true then _ else _) _ _ s
  rw [if_neg (show ¬ ((Value.ref d == Value.none) = true) from Bool.false_ne_true)]
  refine wpAny_bind (wpAny_pure ?_)
  refine wpAny_bind (wpAny_dictEntries hod hdd ?_)
  rw [if_neg (by simp)]
  refine wpAny_bind (wpAny_pure ?_)
  refine wpAny_bind (wpAny_dictEpoch hod hdd ?_)
  rw [if_neg (by simp)]
  refine wpAny_pure ?_
  simp only [show ¬ ((i : Int) < 0) from by omega, if_false, Int.toNat_natCast, Array.getElem?_eq_none hge]
  refine wpAny_bind ?_
  first | refine wpAny_bind (wpAny_typeNameOfWhole_valiter hit.typeIs (wpAny_pure ?_)) | refine wpAny_bind (wpAny_typeNameOf_valiter hit.typeIs (wpAny_pure ?_))
  show wpAny _ _ (setField (.ref it) 0 .none >>= _) _ _ s
  refine wpAny_bind (wpAny_setField ho hd (by simp) ?_)
  show wpAny _ _ (newExc (.type "StopIteration") [] >>= _) _ _ _
  refine wpAny_bind ?_
  simp only [newExc, newTuple]
  refine wpAny_bind (wpAny_newObj_type ?_ (by size_fits))
  refine wpAny_bind (m := firstArgMember _ _) (wpAny_of_eq (a := Value.none) (by first | rfl | (simp only [firstArgMember]; rfl)) ?_)
  refine wpAny_newObj_type ?_ (by size_fits)
  simp only [raiseNew]
  refine wpAny_bind (wpAny_handled ?_)
  rw [show A.in1.handled = none from hh]
  refine wpAny_bind (wpAny_pure (wpAny_throw ?_))
  refine wpAny_bind (wpAny_isInstance (T := "StopIteration") (b := true) ⟨_, Heap.get?_push_size _ rfl, rfl⟩ isSubtype_stop ?_)
  exact wpAny_pure (hQ _ (((Heap.SameBut.update ..).extBut.push _).push _))
end
end

/-! B1 -/
section
open PySem PySem.W PyProof.Rows PySem.Calls

/-- an object that the callee leaves alone -/
def Kp (b : Bs) (a : Addr) (o : Obj) : Prop := b.hs.get? a = some o ∧ a ∉ b.W ∧ a ∉ b.fo
/-- a label list -/
abbrev Lab := List (List UInt8)
/-- the store's entries: folded labels, the key tuple, the pair -/
abbrev Sto := List (Lab × Addr × Value)
abbrev BK (w : World) : HeapKind Challenge.rw_ji0018_01.row.prog w Lab := tupleKind (bytesKind Challenge.rw_ji0018_01.row.prog w)

structure DO (w : World) (o : Obj) (xs : Sto) : Prop where
  ex : o.ExactDict
  data : ∃ es ep, o.data = .dict es ep ∧ es.toList = xs.map (entryOfKey (BK w))
  nd : (xs.map (·.1)).Nodup

section
variable {w : World} {A : Around} {E : Value → Shared → Prop} {s : Shared} {b : Bs} {L : Addr} {m : Str → Option Value} {R R' : Rel} {M M' : List (Addr × Obj)} {h h' : Heap} {W : List Addr} {a d : Addr} {o : Obj} {xs : Sto} {k : Lab}

theorem St.kpGet (S : St b L m R M h) (k : Kp b a o) : h.get? a = some o := S.keep _ _ k.1 k.2.1 k.2.2
theorem St.neL (S : St b L m R M h) (k : b.hs.get? a = some o) : a ≠ L := fun q => by rw [q, S.Lnew] at k; cases k
theorem St.kp (S : St b L m R M h) (k : Kp b a o) (hW : a ∉ W) : Kp (b.at L R h W) a o :=
  ⟨S.kpGet k, hW, fun q => (List.mem_cons.mp q).elim (S.neL k.1) k.2.2⟩
theorem St.kpM (S : St b L m R M h) (hm : (a, o) ∈ M) (hW : a ∉ W) : Kp (b.at L R h W) a o :=
  ⟨S.get hm, hW, fun q => (List.mem_cons.mp q).elim (S.mo _ hm).1 (S.mo _ hm).2.1⟩

theorem DO.of {h : Heap} (D : DO w o xs) (ho : h.get? d = some o) (hk : ∀ x ∈ xs, TBa R x.2.1 x.1) (hr : ∀ c o, R c o → h.get? c = some o) : h.DictOfH (BK w) d xs :=
  let ⟨es, ep, e1, e2⟩ := D.data
  ⟨o, es, ep, ho, D.ex, e1, e2, fun x hx => (hk x hx).key hr, D.nd⟩
theorem DO.from {h : Heap} (D : h.DictOfH (BK w) d xs) : ∃ o, h.get? d = some o ∧ DO w o xs :=
  let ⟨o, es, ep, ho, hx, e1, e2, _, hn⟩ := D
  ⟨o, ho, hx, ⟨es, ep, e1, e2⟩, hn⟩

theorem inD {Q : Value → Shared → Prop} (S : St b L m R M s.heap) (hu : A.units + 1 < cLine) (hsm : (d == sysModules) = false) (ho : s.heap.get? d = some o) (D : DO w o xs) (hk : ∀ x ∈ xs, TBa R x.2.1 x.1) (ka : TBa R a k)
    (h : ∀ tk, Q (.bool (atKey xs k).isSome) { s with toks := tk }) : wpAny (model Challenge.rw_ji0018_01.row.prog w) A (compareOp .In (.ref a) (.ref d)) Q E s :=
  wpAny_in_heap (knd := BK w) hu (ka.key S.fr) hsm (D.of ho hk S.fr) (h _)
theorem getD {p : Addr × Value} {Q : Value → Shared → Prop} (S : St b L m R M s.heap) (hu : A.units + 1 < cLine) (ho : s.heap.get? d = some o) (D : DO w o xs) (hk : ∀ x ∈ xs, TBa R x.2.1 x.1) (ka : TBa R a k) (hp : atKey xs k = some p)
    (h : ∀ tk, Q p.2 { s with toks := tk }) : wpAny (model Challenge.rw_ji0018_01.row.prog w) A (getItem (.ref d) (.ref a)) Q E s :=
  wpAny_getItem_heap (knd := BK w) hu (ka.key S.fr) (D.of ho hk S.fr) hp (h _)
theorem getD_no {Q : Value → Shared → Prop} (S : St b L m R M s.heap) (hu : A.units + 1 < cLine) (hh : A.handled = none) (hsm : (d == sysModules) = false) (ho : s.heap.get? d = some o) (D : DO w o xs) (hk : ∀ x ∈ xs, TBa R x.2.1 x.1) (ka : TBa R a k) (hp : atKey xs k = none)
    (h : ∀ h' e tk, Heap.NewExc s.heap h' e "KeyError" → E (.ref e) { s with heap := h', toks := tk }) : wpAny (model Challenge.rw_ji0018_01.row.prog w) A (getItem (.ref d) (.ref a)) Q E s :=
  wpAny_getItem_missing_heap (knd := BK w) hu (ka.key S.fr) hsm hh (D.of ho hk S.fr) hp fun h' e x => h h' e _ x
theorem setD {v : Value} {Q : Unit → Shared → Prop} (S : St b L m R M s.heap) (hu : A.units + 1 < cLine) (hm : (d, o) ∈ M) (D : DO w o xs) (hk : ∀ x ∈ xs, TBa R x.2.1 x.1) (ka : TBa R a k)
    (h : ∀ h' o' tk, (∀ M', UpdL d o o' M M' → St b L m R M' h') → DO w o' (storedH xs k a v) → Q () { s with heap := h', toks := tk }) (hsz : xs.length ≤ sizeLine) :
    wpAny (model Challenge.rw_ji0018_01.row.prog w) A (setItem (.ref d) (.ref a) v) Q E s := by
  refine wpAny_setItem_heap (knd := BK w) hu (ka.key S.fr) (D.of (S.get hm) hk S.fr) (fun h' hd hs => ?_) hsz
  obtain ⟨o', e, D'⟩ := DO.from hd
  exact h h' o' _ (fun M' u => S.upd u hs e) D'
theorem popD {j : Nat} {p : Addr × Value} {Q : Value → Shared → Prop} (S : St b L m R M s.heap) (hu : A.units + 1 < cLine) (hm : (d, o) ∈ M) (D : DO w o xs) (hk : ∀ x ∈ xs, TBa R x.2.1 x.1) (ka : TBa R a k) (hj : xs[j]? = some (k, p))
    (h : ∀ h' o' tk, (∀ M', UpdL d o o' M M' → St b L m R M' h') → DO w o' (xs.eraseIdx j) → Q p.2 { s with heap := h', toks := tk }) (hsz : xs.length ≤ sizeLine) :
    wpAny (model Challenge.rw_ji0018_01.row.prog w) A (call (.builtin "dict.pop") [.ref d, .ref a]) Q E s := by
  refine pop_there (knd := BK w) hu (ka.key S.fr) (D.of (S.get hm) hk S.fr) hj hsz (fun h' tk hd hs => ?_)
  obtain ⟨o', e, D'⟩ := DO.from hd
  exact h h' o' _ (fun M' u => S.upd u hs e) D'
theorem popD_no {Q : Value → Shared → Prop} (S : St b L m R M s.heap) (hu : A.units + 1 < cLine) (hh : A.handled = none) (hsm : (d == sysModules) = false) (ho : s.heap.get? d = some o) (D : DO w o xs) (hk : ∀ x ∈ xs, TBa R x.2.1 x.1) (ka : TBa R a k) (hj : ∀ (j : Nat) (p : Addr × Value), xs[j]? ≠ some (k, p))
    (h : ∀ h' e tk, Heap.NewExc s.heap h' e "KeyError" → E (.ref e) { s with heap := h', toks := tk }) : wpAny (model Challenge.rw_ji0018_01.row.prog w) A (call (.builtin "dict.pop") [.ref d, .ref a]) Q E s :=
  pop_missing (knd := BK w) hu (ka.key S.fr) hsm hh (D.of ho hk S.fr) hj h
theorem lenD {Q : Value → Shared → Prop} (S : St b L m R M s.heap) (hsm : (d == sysModules) = false) (ho : s.heap.get? d = some o) (D : DO w o xs) (hk : ∀ x ∈ xs, TBa R x.2.1 x.1) (hz : xs.length ≤ 16777216)
    (h : ∀ t k, Q (.int xs.length t) { s with toks := k }) : wpAny (model Challenge.rw_ji0018_01.row.prog w) A (call (.builtin "len") [.ref d]) Q E s :=
  len_dictH (knd := BK w) hsm (D.of ho hk S.fr) hz h
theorem methDict {name : Str} {id : String} {pl : Sem Bool} {Q : Value × List Value → Shared → Prop} (hx : o.ExactDict) (ho : s.heap.get? d = some o) (slot : Slot "dict" name id)
    (hty : typeOf (.builtin id) = pure (.type "method_descriptor")) (h : Q (.builtin id, [.ref d]) s) : wpAny (model Challenge.rw_ji0018_01.row.prog w) A (getMethod (.ref d) name pl) Q E s :=
  getMethod_builtin ⟨_, ho, hx.1⟩ PySem.F.plainAttrs_dict slot hty (fun a e => by cases e; exact ⟨_, ho, hx.2.1⟩) h

/-! ### the book's own dict -/
def bes (w : World) (sd : Addr) (md mi : Int) (a1 a2 a3 a4 a5 : Tok) : List DictEntry :=
  [⟨PyData.keyHash w.params "store", .str "store" a1, .ref sd⟩, ⟨PyData.keyHash w.params "max_depth", .str "max_depth" a2, .int md a3⟩, ⟨PyData.keyHash w.params "max_depth_items", .str "max_depth_items" a4, .int mi a5⟩]
def BD (w : World) (o : Obj) (sd : Addr) (md mi : Int) : Prop := ∃ n a1 a2 a3 a4 a5, o = dictOf (bes w sd md mi a1 a2 a3 a4 a5) n
end
end

/-! X0 -/
section
open PySem PySem.W PyProof.Rows PySem.Calls

/-- a heap without some objects -/
def hide (F : List Addr) (h : Heap) : Heap := { h with objs := h.objs.mapIdx fun i o => if i ∈ F then { o with data := .freed } else o }
theorem hide_get {F : List Addr} {h : Heap} {a : Addr} (hF : a ∉ F) : (hide F h).get? a = h.get? a := by
  unfold hide Heap.get?
  simp only [Array.getElem?_mapIdx]
  cases h.objs[a]? with
  | none => rfl
  | some o => simp only [Option.map_some, if_neg hF]
theorem hide_none {F : List Addr} {h : Heap} {a : Addr} (hF : a ∈ F) : (hide F h).get? a = none := by
  unfold hide Heap.get?
  simp only [Array.getElem?_mapIdx]
  cases h.objs[a]? with
  | none => rfl
  | some o => simp only [Option.map_some, if_pos hF]
theorem hide_some {F : List Addr} {h : Heap} {a : Addr} {o : Obj} (e : (hide F h).get? a = some o) : a ∉ F ∧ h.get? a = some o := by
  by_cases hF : a ∈ F
  · rw [hide_none hF] at e; cases e
  · exact ⟨hF, by rw [← hide_get hF]; exact e⟩

theorem funFrames {h base : Heap} : ∀ {envs : List Env} {fs : List Addr}, envs.map (·.frame) = fs.map some → (∀ e ∈ envs, e.scope.kind ≠ .module) →
    (∀ a ∈ fs, base.get? a = none ∧ ∃ o, h.get? a = some o ∧ ∀ vs, o.data ≠ .fields vs) → h.FunFrames base envs
  | [], _, _, _, _ => trivial
  | e :: envs, [], h1, _, _ => by simp at h1
  | e :: envs, f :: fs, h1, h2, h3 => by
    simp only [List.map_cons, List.cons.injEq] at h1
    obtain ⟨hb, o, ho, hd⟩ := h3 f (.head _)
    exact ⟨h2 e (.head _), ⟨f, o, h1.1, hb, ho, hd⟩, funFrames h1.2 (fun x hx => h2 x (.tail _ hx)) fun a ha => h3 a (.tail _ ha)⟩

/-- an exception on its way -/
def Fly (b : Bs) (R : Rel) (envs : List Env) (e : Addr) (cls : String) (h : Heap) : Prop :=
  ∃ base, Heap.Flying base envs e (.type cls) h ∧ (∀ a o, b.hs.get? a = some o → a ∉ b.W → a ∉ b.fo → base.get? a = some o) ∧ (∀ a o, R a o → base.get? a = some o)

section
variable {w : World} {A : Around} {E : Value → Shared → Prop} {s : Shared} {b : Bs} {L : Addr} {m : Str → Option Value} {R R' : Rel} {M M' : List (Addr × Obj)} {h h' : Heap} {cn : Str} {cs : Scope} {fa : Addr} {cd : Value}

theorem frames_at {outer : List Env} (S : St b L m R M h) (hk : cs.kind = .function) (e1 : outer.map (·.frame) = b.fo.map some) (e2 : ∀ e ∈ outer, e.scope.kind ≠ .module) {g : Heap} (hg : ∀ c o, h.get? c = some o → (∀ vs, o.data ≠ .fields vs) → ∃ o', g.get? c = some o' ∧ ∀ vs, o'.data ≠ .fields vs)
    {base : Heap} (hb : ∀ a ∈ L :: b.fo, base.get? a = none) : g.FunFrames base (envOf cn cs L fa cd :: outer) := by
  refine funFrames (fs := L :: b.fo) (by rw [List.map_cons, List.map_cons, e1]; rfl) (fun e he => ?_) fun a ha => ⟨hb a ha, ?_⟩
  · rcases List.mem_cons.mp he with rfl | he
    · show cs.kind ≠ _; rw [hk]; decide
    · exact e2 e he
  · rcases List.mem_cons.mp ha with rfl | ha
    · obtain ⟨o, es, ep, e, d, _⟩ := S.ns
      exact hg _ o e fun vs q => by rw [d] at q; cases q
    · obtain ⟨o, es, ep, e, d⟩ := S.ok.live a ha
      obtain ⟨sl, q⟩ := S.slot a o e ha
      exact hg _ _ q fun vs q => by rw [show ({ o with slots := sl } : Obj).data = o.data from rfl, d] at q; cases q

/-- what is left when the frame is left by an exception -/
theorem left_ret {base : Heap} {l : List Env} {e : Addr} {cls : Value} (S : St b L m R M h) (hb : ∀ c o, h.get? c = some o → c ∉ L :: b.fo → base.get? c = some o) (hl : Heap.Left base l e cls h h') : Ret b R h' where
  keep := fun c o ec hW hF => hl.1 c o (hb c o (S.keep c o ec hW hF) fun q => (List.mem_cons.mp q).elim (fun q => by rw [q, S.Lnew] at ec; cases ec) hF)
  slot := fun c o ec hF => by
    obtain ⟨sl, q⟩ := S.slot c o ec hF
    obtain ⟨_, es, ep, q', d⟩ := S.ok.live c hF
    rw [ec] at q'; cases q'
    obtain ⟨sl', q''⟩ := hl.2.2.2 c _ q fun vs z => by rw [show ({ o with slots := sl } : Obj).data = o.data from rfl, d] at z; cases z
    exact ⟨sl', q''⟩
  al := fun c o ec => by
    by_cases hF : c ∈ b.fo
    · obtain ⟨sl, q⟩ := S.slot c o ec hF
      obtain ⟨_, es, ep, q', d⟩ := S.ok.live c hF
      rw [ec] at q'; cases q'
      obtain ⟨sl', q''⟩ := hl.2.2.2 c _ q fun vs z => by rw [show ({ o with slots := sl } : Obj).data = o.data from rfl, d] at z; cases z
      exact ⟨_, q''⟩
    · obtain ⟨o', q⟩ := S.al c o ec
      exact ⟨o', hl.1 c o' (hb c o' q fun z => (List.mem_cons.mp z).elim (fun z => by rw [z, S.Lnew] at ec; cases ec) hF)⟩
  sub := S.sub
  new := S.new
  fr := fun a o r => hl.1 a o (hb a o (S.fr a o r) fun q => (List.mem_cons.mp q).elim (S.offL a o r) (S.offF a o r))

/-- a new exception leaves a frame -/
theorem leaveNew {e : Addr} {cls : String} {Q : Unit → Shared → Prop} {n : Nat} (S : St b L m R M h) (ar : Ar n A b.fo) (hk : cs.kind = .function) (hx : Heap.NewExc h s.heap e cls)
    (hQ : ∀ h' outer, A.frames = some outer → Ret b R h' → Fly b R outer e cls h' → Q () { s with heap := h' }) :
    wpAny (model Challenge.rw_ji0018_01.row.prog w) (A.deeper (envOf cn cs L fa cd)) (leaving (envOf cn cs L fa cd) (.ref e)) Q E s := by
  obtain ⟨outer, e0, e1, e2⟩ := ar.frames
  obtain ⟨ob, tp, he, hcls, hd⟩ := hx.there
  have hb : ∀ c o, h.get? c = some o → c ∉ L :: b.fo → (hide (L :: b.fo) h).get? c = some o := fun c o q hc => by rw [hide_get hc]; exact q
  have hen : (hide (L :: b.fo) h).get? e = none := by
    cases q : (hide (L :: b.fo) h).get? e with
    | none => rfl
    | some o => have := (hide_some q).2; rw [hx.new] at this; cases this
  refine wpAny_leaving_first (base := hide (L :: b.fo) h) (Around.frames_deeper e0) (frames_at S hk e1 e2 (fun c o q hn => ⟨o, hx.keeps c o q, hn⟩) fun a ha => hide_none ha) rfl he (fun c o q => hx.keeps c o (hide_some q).2) hen hd rfl fun h' hL => ?_
  have keep : ∀ c o, h.get? c = some o → (∀ vs, o.data ≠ .fields vs) → ∃ sl, h'.get? c = some { o with slots := sl } := fun c o q hn => hL.2.2.2 c o (hx.keeps c o q) hn
  have hL' : Heap.Left (hide (L :: b.fo) h) (envOf cn cs L fa cd :: outer) e ob.cls h h' := ⟨hL.1, hL.2.1, hL.2.2.1, keep⟩
  refine hQ h' outer e0 (left_ret S hb hL') ⟨_, ⟨hL.1, hen, hL.2.1.2.2, hcls ▸ hL.2.2.1⟩, fun a o q hW hF => hb a o (S.keep a o q hW hF) fun z => (List.mem_cons.mp z).elim (S.neL q) hF, fun a o r => hb a o (S.fr a o r) fun z => (List.mem_cons.mp z).elim (S.offL a o r) (S.offF a o r)⟩

/-- an exception that a call let out leaves the next frame -/
theorem leaveOn {e : Addr} {cls : String} {Q : Unit → Shared → Prop} {n : Nat} {outer : List Env} (S : St b L m R M h) (ar : Ar n A b.fo) (hk : cs.kind = .function) (r : Ret (b.at L R h []) R' s.heap)
    (e0 : (A.deeper (envOf cn cs L fa cd)).frames = some outer) (hf : Fly (b.at L R h []) R' outer e cls s.heap)
    (hQ : ∀ h' outer, A.frames = some outer → Ret b R' h' → Fly b R' outer e cls h' → Q () { s with heap := h' }) :
    wpAny (model Challenge.rw_ji0018_01.row.prog w) (A.deeper (envOf cn cs L fa cd)) (leaving (envOf cn cs L fa cd) (.ref e)) Q E s := by
  obtain ⟨outer', e0', e1, e2⟩ := ar.frames
  have : outer = envOf cn cs L fa cd :: outer' := by rw [Around.frames_deeper e0'] at e0; exact (Option.some.inj e0).symm
  subst this
  obtain ⟨base, ⟨f1, f2, f3, f4⟩, g1, g2⟩ := hf
  have S' := S.ret r
  refine wpAny_leaving_next (Around.frames_deeper e0') f3 rfl f4 f1 f2 fun h' hL => ?_
  have hRet : Ret b R' h' :=
    { keep := fun c o ec hW hF => hL.1 c o (g1 c o (S.keep c o ec hW hF) (fun z => nomatch z) fun z => (List.mem_cons.mp z).elim (S.neL ec) hF)
      slot := fun c o ec hF => by
        obtain ⟨sl, q⟩ := S'.slot c o ec hF
        obtain ⟨_, es, ep, q', d⟩ := S.ok.live c hF
        rw [ec] at q'; cases q'
        obtain ⟨sl', q''⟩ := hL.2.2.2 c _ q fun vs z => by rw [show ({ o with slots := sl } : Obj).data = o.data from rfl, d] at z; cases z
        exact ⟨sl', q''⟩
      al := fun c o ec => by
        by_cases hF : c ∈ b.fo
        · obtain ⟨sl, q⟩ := S'.slot c o ec hF
          obtain ⟨_, es, ep, q', d⟩ := S.ok.live c hF
          rw [ec] at q'; cases q'
          obtain ⟨sl', q''⟩ := hL.2.2.2 c _ q fun vs z => by rw [show ({ o with slots := sl } : Obj).data = o.data from rfl, d] at z; cases z
          exact ⟨_, q''⟩
        · obtain ⟨o', q⟩ := S.al c o ec
          exact ⟨o', hL.1 c o' (g1 c o' q (fun z => nomatch z) fun z => (List.mem_cons.mp z).elim (S.neL ec) hF)⟩
      sub := S'.sub
      new := S'.new
      fr := fun a o r => hL.1 a o (g2 a o r) }
  exact hQ h' outer' e0' hRet ⟨base, ⟨hL.1, f2, hL.2.1.2.2, hL.2.2.1⟩, fun a o q hW hF => g1 a o (S.keep a o q hW hF) (fun z => nomatch z) fun z => (List.mem_cons.mp z).elim (S.neL q) hF, g2⟩
end
end

/-! X2 -/
section
open PySem PySem.W PyProof.Rows PySem.Calls
section
variable {w : World} {A : Around} {E : Value → Shared → Prop} {s : Shared} {b : Bs} {L : Addr} {m : Str → Option Value} {R R' : Rel} {M M' : List (Addr × Obj)} {h h' : Heap} {cn : Str} {cs : Scope} {fa : Addr} {cd : Value}

theorem noteHere {P : Model} {base : Heap} {env : Env} {outer : List Env} {L e : Addr} {cls : Value} {Q : Unit → Shared → Prop}
    (hfr : A.frames = some (env :: outer)) (hl : s.heap.FunFrames base (env :: outer)) (hf : env.frame = some L) (ht : s.heap.Traced base e cls) (hkb : base.StaysIn s.heap) (hen : base.get? e = none)
    (h : ∀ h', Heap.Left base (env :: outer) e cls s.heap h' → Q () { s with heap := h' }) : wpAny P A (noteFrame (.ref e) env) (fun _ s' => wpAny P A (setFlight (.ref e) none) Q E s') E s := by
  obtain ⟨oe, vs, T, oT, ts, he, hcls, hd, h1, hnT, hTe, hT, hdT, h3⟩ := ht
  subst hcls
  unfold noteFrame
  simp only [hf]
  refine wpAny_bind (wpAny_field he hd h1 ?_)
  rw [if_pos (show (Value.ref T != Value.none) = true from by simp)]
  refine wpAny_bind (wpAny_field hT hdT h3 ?_)
  rw [if_neg (show ¬ ((Value.none == rawInt L) = true) from by simp [rawInt])]
  refine wpAny_bind (wpAny_setField hT hdT (Array.getElem?_eq_some_iff.mp h3).1 ?_)
  have other : ∀ b, b ≠ T → (s.heap.update T (Obj.mapFields (·.setIfInBounds 3 Value.none))).get? b = s.heap.get? b := fun b hb => Heap.get?_update_other _ _ (Ne.symm hb)
  have noRecord : ∀ b o, s.heap.get? b = some o → (∀ vs, o.data ≠ .fields vs) → b ≠ T := fun b o hb hnf q => by
    rw [q, hT] at hb; injection hb with hb; subst hb; exact hnf ts hdT
  exact wpAny_newEntry hfr (hl.of_keeps fun b o hb hnf => ⟨o, (other b (noRecord b o hb hnf)).trans hb, rfl⟩) hf ((other e (Ne.symm hTe)).trans he)
    (fun b o hbo => (other b fun q => by rw [q, hnT] at hbo; cases hbo).trans (hkb b o hbo)) hen hd (Array.getElem?_eq_some_iff.mp h1).1
    fun h' ⟨x1, x2, x3, x4⟩ => h h' ⟨x1, x2, x3, fun b o hb hnf => x4 b o ((other b (noRecord b o hb hnf)).trans hb) hnf⟩

theorem fly_ret {base h₁ h₂ : Heap} (S : St b L m R M h) (r : Ret (b.at L R h []) R' h₁) (g1 : ∀ a o, h.get? a = some o → a ∉ ([] : List Addr) → a ∉ L :: b.fo → base.get? a = some o) (g2 : ∀ a o, R' a o → base.get? a = some o)
    (hs : base.StaysIn h₂) (hd : ∀ c o, h₁.get? c = some o → (∃ es ep, o.data = .dict es ep) → ∃ sl, h₂.get? c = some { o with slots := sl }) : Ret (b.at L R h []) R' h₂ :=
  have sl : ∀ c o, h.get? c = some o → c ∈ L :: b.fo → ∃ sl, h₂.get? c = some { o with slots := sl } := fun c o ec hF => by
    obtain ⟨sl, q⟩ := r.slot c o ec hF
    obtain ⟨_, es, ep, q', d⟩ := S.call0.live c hF
    have q' : h.get? c = _ := q'
    rw [ec] at q'; cases q'
    obtain ⟨sl', q''⟩ := hd c { o with slots := sl } q ⟨es, ep, d⟩
    exact ⟨sl', q''⟩
  { keep := fun c o ec _ hF => hs c o (g1 c o ec (fun z => nomatch z) hF)
    slot := sl
    al := fun c o ec => by
      by_cases hF : c ∈ L :: b.fo
      · obtain ⟨sl, q⟩ := sl c o ec hF
        exact ⟨_, q⟩
      · exact ⟨o, hs c o (g1 c o ec (fun z => nomatch z) hF)⟩
    sub := r.sub
    new := r.new
    fr := fun a o r => hs a o (g2 a o r) }

/-- `try: .. except cls: ..` where the trial may let a call's exception out -/
theorem tryIn {n : Nat} {body : List Stmt} {t : Expr} {b₀ : Stmt} {suite : List Stmt} {hp pos : Pos} {cls : String} {Q : Flow → Shared → Prop} (ar : Ar n A b.fo)
    (h1 : isSubtype (.type cls) (.type "BaseException") = pure true) (h2 : isSubtype (.type ((Manifest.find? cls).elim "type" fun x => x.metatype)) (.type "tuple") = pure false) (h3 : isSubtype (.type cls) (.type cls) = pure true)
    (hname : ∀ (A₁ : Around) (E₁ : Value → Shared → Prop) (s₁ : Shared) (Q₁ : Value → Shared → Prop) m₁ R₁ M₁, St b L m₁ R₁ M₁ s₁.heap → Q₁ (.type cls) s₁ → wpAny (model Challenge.rw_ji0018_01.row.prog w) A₁ (eval t (envOf cn cs L fa cd)) Q₁ E₁ s₁)
    (h : wpAny (model Challenge.rw_ji0018_01.row.prog w) (A.deeper (envOf cn cs L fa cd)) (execs body (envOf cn cs L fa cd)) (fun f s₁ => match f with | .next => wpAny (model Challenge.rw_ji0018_01.row.prog w) (A.deeper (envOf cn cs L fa cd)) (execs [] (envOf cn cs L fa cd)) Q E s₁ | f => Q f s₁)
      (fun e s₁ => ∃ e' m R M h R', e = .ref e' ∧ St b L m R M h ∧ Ret (b.at L R h []) R' s₁.heap ∧ (∃ outer, (A.deeper (envOf cn cs L fa cd)).frames = some outer ∧ Fly (b.at L R h []) R' outer e' cls s₁.heap) ∧
        ∀ h' E', St b L m R' M h' → wpAny (model Challenge.rw_ji0018_01.row.prog w) ((A.deeper (envOf cn cs L fa cd)).mark (some (.ref e'))) (execs (b₀ :: suite) (envOf cn cs L fa cd)) Q E' { s₁ with heap := h' }) s) :
    wpAny (model Challenge.rw_ji0018_01.row.prog w) (A.deeper (envOf cn cs L fa cd)) (exec (.Try body [.ExceptHandler (some t) none (b₀ :: suite) hp] [] [] pos) (envOf cn cs L fa cd)) Q E s := by
  refine wpAny_Try_except (wpAny_mono h (fun _ _ q => q) fun e s₁ q => ?_)
  obtain ⟨e', m, R, M, h, R', rfl, S, r, ⟨outer, e0, base, ⟨f1, f2, f3, f4⟩, g1, g2⟩, k⟩ := q
  obtain ⟨outer', e0', _, _⟩ := ar.frames
  have : outer = envOf cn cs L fa cd :: outer' := by rw [Around.frames_deeper e0'] at e0; exact (Option.some.inj e0).symm
  subst this
  refine noteHere (Around.frames_deeper e0') f3 rfl f4 f1 f2 fun h₁ hL => ?_
  have D1 : ∀ c o, s₁.heap.get? c = some o → (∃ es ep, o.data = .dict es ep) → ∃ sl, h₁.get? c = some { o with slots := sl } := fun c o q ⟨es, ep, d⟩ => hL.2.2.2 c o q fun vs z => by rw [d] at z; cases z
  have S₁ := S.ret (fly_ret S r g1 g2 hL.1 D1)
  obtain ⟨oe, vs, T, oT, ts, he, hcls, hd, h1', hnT, hTe, hT, hdT, h3'⟩ := hL.2.2.1
  refine wpAny_handleBy_builtin (X := cls) (T := cls) (b := true) h1 h2 h3 (hname _ _ _ _ _ _ _ S₁ ⟨rfl, ⟨oe, he, hcls⟩, ?_⟩)
  rw [if_pos rfl]
  refine wpAny_setFlight_none he hd h1' hT hdT (Array.getElem?_eq_some_iff.mp h3').1 ?_
  have other : ∀ b, b ≠ T → (h₁.update T (Obj.mapFields (·.setIfInBounds 3 Value.none))).get? b = h₁.get? b := fun b hb => Heap.get?_update_other _ _ (Ne.symm hb)
  refine k _ _ (S.ret (fly_ret S r g1 g2 (fun c o q => (other c fun z => by rw [z, hnT] at q; cases q).trans (hL.1 c o q)) fun c o q hdd => ?_))
  obtain ⟨sl, z⟩ := D1 c o q hdd
  refine ⟨sl, (other c fun y => ?_).trans z⟩
  obtain ⟨es, ep, d⟩ := hdd
  rw [y, hT] at z
  have z := Option.some.inj z
  rw [z] at hdT
  have hdT : o.data = _ := hdT
  rw [d] at hdT; cases hdT
end
end

/-! X4 -/
section
open PySem PySem.W PyProof.Rows PySem.Calls
theorem iteNT {P Q : Prop} [Decidable ((!true) = true)] (h : Q) : if (!true) = true then P else Q := by rw [if_neg (by simp)]; exact h
theorem iteNF {P Q : Prop} [Decidable ((!false) = true)] (h : P) : if (!false) = true then P else Q := by rw [if_pos (by simp)]; exact h
section
variable {w : World} {A : Around} {E : Value → Shared → Prop} {s : Shared}
theorem subAny {value slice : PySem.Expr} {o i : Value} {T id : String} {Q : Value → Shared → Prop} (hT : s.TypeIs o T)
    (hl : typeLookup (.type T) "__getitem__" = pure (some (.builtin id))) (h : wpAny (model Challenge.rw_ji0018_01.row.prog w) A (getItem o i) Q E s)
    (hs : subscripted slice false o i = operate [o, i] (getItem o i)) :
    wpAny (model Challenge.rw_ji0018_01.row.prog w) A (subscriptTail value slice o i) Q E s := by
  unfold subscriptTail
  refine wpAny_bind ?_
  rw [getitemInPython_of_ne hT.not_modules]
  refine wpAny_bind (wpAny_specialOf hT hl ?_)
  have fin : wpAny (model Challenge.rw_ji0018_01.row.prog w) A (subscripted slice false o i) (fun r s₃ => wpAny (model Challenge.rw_ji0018_01.row.prog w) A (letTemporaryGo value o r >>= fun _ => pure r) Q E s₃) E s := by
    rw [hs]
    exact wpAny_operating (wpAny_mono h (fun r s₃ h₃ => wpAny_bind (wpAny_letTemporaryGo (wpAny_pure h₃))) fun _ _ x => x)
  first
    | exact wpAny_pure (wpAny_bind fin)
    | exact wpAny_bind (wpAny_pure (wpAny_bind fin))
    | exact wpAny_bind fin
theorem subD {value slice : PySem.Expr} {d a : Addr} {o : Obj} {Q : Value → Shared → Prop} (hx : o.ExactDict) (ho : s.heap.get? d = some o) (h : wpAny (model Challenge.rw_ji0018_01.row.prog w) A (getItem (.ref d) (.ref a)) Q E s)
    (hs : subscripted slice false (.ref d) (.ref a) = operate [.ref d, .ref a] (getItem (.ref d) (.ref a)) := by with_unfolding_all rfl) :
    wpAny (model Challenge.rw_ji0018_01.row.prog w) A (subscriptTail value slice (.ref d) (.ref a)) Q E s :=
  subAny (T := "dict") ⟨o, ho, hx.1⟩ slot_dict_getitem.lookup h hs
theorem itLA {value slice : PySem.Expr} {l : Addr} {vs : List Value} {k : Int} {u : Tok} {x : Value} {Q : Value → Shared → Prop} (j : Nat) (hl : s.heap.IsList l vs.toArray) (hk : k = j) (hx : vs[j]? = some x) (hz : vs.length ≤ 16777216) (h : Q x s)
    (hs : subscripted slice false (.ref l) (.int k u) = operate [.ref l, .int k u] (getItem (.ref l) (.int k u)) := by with_unfolding_all rfl) :
    wpAny (model Challenge.rw_ji0018_01.row.prog w) A (subscriptTail value slice (.ref l) (.int k u)) Q E s := by
  have hj : j < vs.length := (List.getElem?_eq_some_iff.mp hx).1
  exact subAny hl.typeIs slot_list_getitem.lookup (wpAny_getItem_list hl (by omega) (by omega) (by rw [hk]; simpa using hx) h) hs
theorem itTA {value slice : PySem.Expr} {l : Addr} {vs : List Value} {k : Int} {u : Tok} {x : Value} {Q : Value → Shared → Prop} (j : Nat) (hl : IsTup s.heap l vs.toArray) (hk : k = j) (hx : vs[j]? = some x) (hz : vs.length ≤ 16777216) (h : Q x s)
    (hs : subscripted slice false (.ref l) (.int k u) = operate [.ref l, .int k u] (getItem (.ref l) (.int k u)) := by with_unfolding_all rfl) :
    wpAny (model Challenge.rw_ji0018_01.row.prog w) A (subscriptTail value slice (.ref l) (.int k u)) Q E s := by
  have hj : j < vs.length := (List.getElem?_eq_some_iff.mp hx).1
  refine subAny hl.typeIs slot_tuple_getitem.lookup (PyProof.Rows.getItem_tuple hl (by omega) (by omega) (j := j) ?_ (by simpa using hx) h) hs
  subst hk
  unfold seqIndex?
  have h1 : ¬ ((j : Int) < 0) := by omega
  have h2 : (decide ((0 : Int) ≤ (j : Int)) && decide ((j : Int) < (vs.length : Int))) = true := by rw [Bool.and_eq_true]; exact ⟨decide_eq_true (by omega), decide_eq_true (by omega)⟩
  simp only [h1, if_false, List.size_toArray, h2, if_true, Int.toNat_natCast]
end
end

/-! X5 -/
section
open PySem PySem.W PyProof.Rows PySem.Calls
def VIt (d : Addr) (n ep : Nat) (i : Nat) (o : Obj) : Prop := o.cls = .type "dict_valueiterator" ∧ o.data = .fields #[.ref d, .int i 0, .int n 0, .int ep 0]
section
variable {w : World} {A : Around} {E : Value → Shared → Prop} {s : Shared} {b : Bs} {L : Addr} {m : Str → Option Value} {R R' : Rel} {M M' : List (Addr × Obj)} {h h' : Heap} {cn : Str} {cs : Scope} {fa : Addr} {cd : Value}

theorem valuesM {d : Addr} {o : Obj} {xs : Sto} {Q : Value → Shared → Prop} (S : St b L m R M s.heap) (hsm : (d == sysModules) = false) (ho : s.heap.get? d = some o) (D : DO w o xs) (hk : ∀ x ∈ xs, TBa R x.2.1 x.1)
    (h : ∀ v h', St b L m R M h' → h'.IsValuesView v d → Q (.ref v) { s with heap := h' }) : wpAny (model Challenge.rw_ji0018_01.row.prog w) A (call (.builtin "dict.values") [.ref d]) Q E s :=
  call_values (knd := BK w) hsm (D.of ho hk S.fr) (h _ _ (S.push _).tail ⟨_, Heap.get?_push_size _ rfl, rfl, rfl⟩)

/-- `for x, y in <dict's values>` from the view on -/
theorem iterV {v d : Addr} {es : Array DictEntry} {ep : Nat} {x y : Str} {px py pt : Pos} {kk : Nat} {body : List Stmt} {Q : Flow → Shared → Prop}
    (hh : A.handled = none) (S : St b L m R M s.heap) (hv : s.heap.IsValuesView v d) (P : Nat → Value → Prop) (hp : ∀ (i : Nat) (e : DictEntry), es[i]? = some e → ∃ t o a c, e.val = .ref t ∧ R t o ∧ TO o [a, c] ∧ P i a)
    (J : (Str → Option Value) → Rel → List (Addr × Obj) → Nat → (Str → Option Value) → Rel → List (Addr × Obj) → Prop) (j0 : J m R M 0 m R M) (hR : ∀ i m' R' M', J m R M i m' R' M' → ∀ a o, R a o → R' a o)
    (hH : ∀ i m' R' M' h', J m R M i m' R' M' → St b L m' R' M' h' → IsVals h' d es ep)
    (turn : ∀ I i t o a c m₁ R₁ M₁ h₁ tk io₁ E', i < es.size → (es[i]?).map (·.val) = some (.ref t) → R t o → TO o [a, c] → P i a → J m R M i m₁ R₁ M₁ → VIt d es.size ep (i + 1) io₁ → St b L (ups (ups m₁ x a) y c) R₁ ((I, io₁) :: M₁) h₁ →
      wpAny (model Challenge.rw_ji0018_01.row.prog w) A (execs body (envOf cn cs L fa cd)) (TEnd b L I (VIt d es.size ep (i + 1)) (J m R M (i + 1)) Q s) E' { s with heap := h₁, toks := tk })
    (fin : ∀ m' R' M' h' tk, J m R M es.size m' R' M' → St b L m' R' M' h' → Q .next { s with heap := h', toks := tk })
    (hk : cs.kind = .function) (hl : (envOf cn cs L fa cd).kindOf x = some .local) (hl' : (envOf cn cs L fa cd).kindOf y = some .local) :
    wpAny (model Challenge.rw_ji0018_01.row.prog w) A (pyIter (.ref v)) (fun it s₂ => codeAny (model Challenge.rw_ji0018_01.row.prog w) A (.forLoop (.Tuple [.Name x px, .Name y py] kk pt) it body [] (envOf cn cs L fa cd)) (fun r s' => match r with | .ok f => Q f s' | .error e => cameBackBy (model Challenge.rw_ji0018_01.row.prog w) A (envOf cn cs L fa cd) E e s') s₂) E s := by
  refine iter_values hv (hH _ _ _ _ _ j0 S) ?_
  have hI : b.hs.get? s.heap.objs.size = none := S.none_of (gnone_of_le (Nat.le_refl _))
  have S₀ := S.push { cls := .type "dict_valueiterator", data := .fields #[.ref d, .int 0 0, .int es.size 0, .int ep 0] }
  generalize s.heap.objs.size = I at S₀ hI ⊢
  refine codeAny_forLoop_any (fun k s' => ∃ i m' R' M' h' tk io', k = es.size - i ∧ i ≤ es.size ∧ s' = { s with heap := h', toks := tk } ∧ VIt d es.size ep i io' ∧ St b L m' R' ((I, io') :: M') h' ∧ J m R M i m' R' M') ?_ es.size
    ⟨0, m, R, M, _, s.toks, _, by omega, by omega, rfl, ⟨rfl, rfl⟩, S₀, j0⟩
  rintro k s' ⟨i, m', R', M', h', tk, io', hk', hi, rfl, hio', S', j⟩
  by_cases hlt : i < es.size
  · obtain ⟨t, o, a, c, he, hRt, hTt, hPt⟩ := hp i es[i] (Array.getElem?_eq_getElem hlt)
    have hx : (es[i]?).map (·.val) = some (.ref t) := by rw [Array.getElem?_eq_getElem hlt, Option.map_some, he]
    refine values_item (s := { s with heap := h', toks := tk }) (it := I) ⟨io', S'.get (.head _), hio'⟩ (hH _ _ _ _ _ j S'.tail) hx fun h₁ ⟨io₁, e₁, hio₁⟩ hs₁ => ?_
    have S₁ : St b L m' R' ((I, io₁) :: M') h₁ := S'.upd .head hs₁ e₁
    have hgo : ∀ E : Value → Shared → Prop, wpAny (model Challenge.rw_ji0018_01.row.prog w) A (letOwnedTupleGo (.Tuple [.Name x px, .Name y py] kk pt) (.ref I) (.ref t)) (fun _ s' => s' = { s with heap := h₁, toks := tk }) E { s with heap := h₁, toks := tk } := by
      intro E
      unfold letOwnedTupleGo
      refine wpAny_bind (wpAny_load e₁ ?_)
      rw [hio₁.1, hio₁.2]
      show wpAny _ A (if (["enumerate", "zip", "dict_itemiterator", "dict_reverseitemiterator", "odict_iterator", "itertools.zip_longest", "itertools.pairwise"].contains "dict_valueiterator" &&
          (#[.ref d, .int (i + 1 : Nat) 0, .int es.size 0, .int ep 0] : Array Value)[0]? == some (rawInt t)) = true then _ else _) _ _ _
      rw [if_neg (by
        intro h
        rw [show (["enumerate", "zip", "dict_itemiterator", "dict_reverseitemiterator", "odict_iterator", "itertools.zip_longest", "itertools.pairwise"].contains "dict_valueiterator") = false from by decide, Bool.false_and] at h
        cases h)]
      exact wpAny_pure rfl
    refine wpAny_mono (hgo _) (fun _ s₁' q => ?_) fun _ _ q => q
    · subst q
      refine assign_Tuple_tuple hh (items := #[a, c]) (hTt.tup (S₁.fr _ _ (hR _ _ _ _ j _ _ hRt))) rfl rfl fun h₂ he₂ => ?_
      have S₂ : St b L m' R' ((I, io₁) :: M') h₂ := S₁.keeps fun c x e => he₂ c x (Nat.ne_of_lt (Heap.lt_size e)) e
      show wpAny _ A (assignInOrder [assign (.Name x px) (envOf cn cs L fa cd), assign (.Name y py) (envOf cn cs L fa cd)] [a, c]) _ _ _
      refine wpAny_bind (wpAny_holding (wpAny_assign_Name (wpAny_storeName_local hl S₂.ns (fun h₃ hn₃ hs₃ => ?_) (by show (cs.kind == .class || (cs.kind == .module && L != mainGlobals)) = false; rw [hk]; rfl))))
      have S₃ : St b L (ups m' x a) R' ((I, io₁) :: M') h₃ := S₂.store hn₃ hs₃
      refine wpAny_bind (wpAny_holding (wpAny_assign_Name (wpAny_storeName_local hl' S₃.ns (fun h₄ hn₄ hs₄ => ?_) (by show (cs.kind == .class || (cs.kind == .module && L != mainGlobals)) = false; rw [hk]; rfl))))
      have S₄ : St b L (ups (ups m' x a) y c) R' ((I, io₁) :: M') h₄ := S₃.store hn₄ hs₄
      refine wpAny_pure ?_
      refine wpAny_mono (turn I i t o a c m' R' M' h₄ _ io₁ _ hlt hx hRt hTt hPt j hio₁ S₄) (fun f s₃ q => ?_) fun _ _ q => q
      have go : (∃ m' R' M' h' tk' io, s₃ = { s with heap := h', toks := tk' } ∧ VIt d es.size ep (i + 1) io ∧ St b L m' R' ((I, io) :: M') h' ∧ J m R M (i + 1) m' R' M') →
          ∃ z, z < k ∧ ∃ i m' R' M' h' tk io', z = es.size - i ∧ i ≤ es.size ∧ s₃ = { s with heap := h', toks := tk } ∧ VIt d es.size ep i io' ∧ St b L m' R' ((I, io') :: M') h' ∧ J m R M i m' R' M' := by
        rintro ⟨m', R', M', h', tk', io, e, q1, q2, q3⟩
        exact ⟨es.size - (i + 1), by omega, i + 1, m', R', M', h', tk', io, rfl, hlt, e, q1, q2, q3⟩
      cases f with
      | ret v => exact q
      | brk => exact q
      | next => exact go q
      | cont => exact go q
  · have : i = es.size := by omega
    subst this
    refine values_end (s := { s with heap := h', toks := tk }) (it := I) hh ⟨io', S'.get (.head _), hio'⟩ (hH _ _ _ _ _ j S'.tail) (Nat.le_refl _) fun h₁ he => ?_
    exact wpAny_execs_nil (fin _ _ _ _ _ j (S'.lose hI he))
end
end

/-! X6 -/
section
open PySem PySem.W PyProof.Rows PySem.Calls
section
variable {w : World} {A : Around} {E : Value → Shared → Prop} {s : Shared} {b : Bs} {L : Addr} {m : Str → Option Value} {R : Rel} {M : List (Addr × Obj)}
theorem St.retN {R' : Rel} {h h' : Heap} {MW MW' Mr N : List (Addr × Obj)} {W : List Addr} {L₂ : Addr} {m₂ : Str → Option Value} (S : St b L m R (MW ++ Mr) h) (S₂ : St (b.at L R h W) L₂ m₂ R' (N ++ MW') h') (hW : W = MW.map (·.1))
    (hm : MW'.map (·.1) = MW.map (·.1)) (hN : ∀ p ∈ N, h.get? p.1 = none) : St b L m R' (N ++ (MW' ++ Mr)) h' := by
  have T := S.retW hW S₂.toRet hm fun p hp => S₂.mu p (List.mem_append_right _ hp)
  have some_of : ∀ p ∈ MW ++ Mr, ∀ q ∈ N, q.1 ≠ p.1 := fun p hp q hq e => by
    have := S.mu p hp
    rw [← e, hN q hq] at this; cases this
  refine { toRet := T.toRet, ok := T.ok, ns := T.ns, Lnew := T.Lnew, offL := T.offL, mu := fun p hp => ?_, mo := fun p hp => ?_, nd := ?_, lo := T.lo }
  · rcases List.mem_append.mp hp with hp | hp
    · exact S₂.mu p (List.mem_append_left _ hp)
    · exact T.mu p hp
  · rcases List.mem_append.mp hp with hp | hp
    · have P := S₂.mo p (List.mem_append_left _ hp)
      have P2 : p.1 ∉ L :: b.fo := P.2.1
      exact ⟨fun e => P2 (e ▸ List.mem_cons_self), fun e => P2 (List.mem_cons_of_mem _ e), P.2.2.1, .inr (S.none_of (hN p hp))⟩
    · exact T.mo p hp
  · have n1 := S₂.nd
    rw [List.map_append] at n1
    rw [List.map_append]
    refine List.nodup_append.mpr ⟨(List.nodup_append.mp n1).1, T.nd, fun a ha c hc => ?_⟩
    obtain ⟨q, hq, rfl⟩ := List.mem_map.mp ha
    have hc' : c ∈ (MW ++ Mr).map (·.1) := by
      rw [List.map_append, ← hm, ← List.map_append]; exact hc
    obtain ⟨p, hp, rfl⟩ := List.mem_map.mp hc'
    exact some_of p hp q hq

theorem typeCall_dict_0 : checkTypeCall "dict" ⟨[], []⟩ = pure () := by kernel_rfl
theorem newCall_dict_0 : checkBuiltinCall "dict.__new__" ⟨[.type "dict"], []⟩ = pure () := by kernel_rfl
theorem code_dict_new0 {prog : Program} {Q₁ : Value → Shared → Prop} (h : Q₁ (.ref s.heap.objs.size) { s with heap := s.heap.push { cls := .type "dict", data := .dict #[] } }) :
    codeAny (model prog w) A (.call (.builtin "dict.__new__") ⟨[.type "dict"], []⟩) (wants Q₁ E) s := by
  refine codeAny_call_builtin F.kt_plain_dict_new F.kt_entry_dict_new (wpAny_of_eq newCall_dict_0 ?_)
  have hsub := F.kt_sub_dict
  have hmro := F.kt_mro_dict
  obtain ⟨hp, g, d, tk, os⟩ := s
  unfold Builtin.«dict.__new__»
  wp_walk
  exact h
theorem dict0 {Q : Value → Shared → Prop} (S : St b L m R M s.heap)
    (h : ∀ d o h', b.hs.get? d = none → s.heap.objs.size ≤ d → St b L m R ((d, o) :: M) h' → DO w o [] → Q (.ref d) { s with heap := h' }) :
    wpAny (model Challenge.rw_ji0018_01.row.prog w) A (call (.type "dict") []) Q E s := by
  refine callType_codes (Q₁ := fun obj s₁ => obj = .ref s.heap.objs.size ∧ s₁ = { s with heap := s.heap.push { cls := .type "dict", data := .dict #[] } }) F.kt_called_dict typeCall_dict_0 F.entry_dict_init (code_dict_new0 ⟨rfl, rfl⟩) ?_
  rintro obj s₁ ⟨rfl, rfl⟩
  have hnew : (s.heap.push { cls := .type "dict", data := .dict #[] }).DictOfH (BK w) s.heap.objs.size [] := Heap.DictOfH.new s.heap
  refine ⟨hnew.typeIs, F.args_dict_init_1 _, ?_⟩
  unfold Builtin.«dict.__init__»
  refine wpAny_bind ?_
  unfold Builtin.Dict.selfAndRest
  refine wpAny_bind (wpAny_notOrdered_dict hnew.typeIs ?_)
  show wpAny _ _ (pure (s.heap.objs.size, [])) _ _ _
  refine wpAny_pure ?_
  have e : ∀ d, Builtin.Dict.updateCommon "dict.__init__" "dict" d [] [] = ret .none := fun d => by with_unfolding_all rfl
  show wpAny _ _ (Builtin.Dict.updateCommon "dict.__init__" "dict" s.heap.objs.size [] []) _ _ _
  rw [e]
  refine wpAny_pure ⟨rfl, ?_⟩
  exact h _ _ _ (S.none_of (gnone_of_le (Nat.le_refl _))) (Nat.le_refl _) (S.push _) ⟨⟨rfl, rfl, rfl⟩, ⟨#[], 0, rfl, rfl⟩, .nil⟩
end
end

/-! X7 -/
section
open PySem PySem.W PyProof.Rows PySem.Calls
section
variable {w : World} {A : Around} {E : Value → Shared → Prop} {s : Shared} {b : Bs} {L : Addr} {m : Str → Option Value} {R : Rel} {M : List (Addr × Obj)} {env : Env}
theorem subAny' {value slice : PySem.Expr} {o i : Value} {T id : String} {ops : List Value} {Q : Value → Shared → Prop} (hT : s.TypeIs o T)
    (hl : typeLookup (.type T) "__getitem__" = pure (some (.builtin id))) (h : wpAny (model Challenge.rw_ji0018_01.row.prog w) A (getItem o i) Q E s)
    (hs : subscripted slice false o i = operate ops (getItem o i)) :
    wpAny (model Challenge.rw_ji0018_01.row.prog w) A (subscriptTail value slice o i) Q E s := by
  unfold subscriptTail
  refine wpAny_bind ?_
  rw [getitemInPython_of_ne hT.not_modules]
  refine wpAny_bind (wpAny_specialOf hT hl ?_)
  have fin : wpAny (model Challenge.rw_ji0018_01.row.prog w) A (subscripted slice false o i) (fun r s₃ => wpAny (model Challenge.rw_ji0018_01.row.prog w) A (letTemporaryGo value o r >>= fun _ => pure r) Q E s₃) E s := by
    rw [hs]
    exact wpAny_operating (wpAny_mono h (fun r s₃ h₃ => wpAny_bind (wpAny_letTemporaryGo (wpAny_pure h₃))) fun _ _ x => x)
  first
    | exact wpAny_pure (wpAny_bind fin)
    | exact wpAny_bind (wpAny_pure (wpAny_bind fin))
    | exact wpAny_bind fin

/-- `[lower:]` -/
theorem sliceFrom {lower : Expr} {p : Pos} {Q : Value → Shared → Prop}
    (h : wpAny (model Challenge.rw_ji0018_01.row.prog w) A (eval lower env) (fun l s₁ => ∃ b L m R M, St b L m R M s₁.heap ∧ ∀ sl h', St b L m R M h' → h'.IsSliceOf sl l .none .none → Q (.ref sl) { s₁ with heap := h' }) E s) :
    wpAny (model Challenge.rw_ji0018_01.row.prog w) A (eval (.Slice (some lower) none none p) env) Q E s := by
  refine wpAny_Slice ?_
  have e1 : evalPart (some lower) env = eval lower env := by with_unfolding_all rfl
  have e2 : evalPart none env = (pure .none : Sem Value) := evalPart_none ..
  rw [e1, e2]
  refine wpAny_mono h (fun l s₁ h₁ => ?_) fun _ _ e => e
  obtain ⟨b, L, m, R, M, S, k⟩ := h₁
  exact wpAny_pure (wpAny_pure (k _ _ (S.push _).tail (Heap.IsSliceOf.new ..)))

theorem listFrom {value slice : PySem.Expr} {l sl : Addr} {vs : List Value} {a : Nat} {i : Int} {u : Tok} {Q : Value → Shared → Prop} (S : St b L m R M s.heap) (hl : s.heap.IsList l vs.toArray) (hs : s.heap.IsSliceOf sl (.int i u) .none .none) (hi : i = a) (hz : vs.length ≤ sizeLine)
    (h : ∀ d o h', b.hs.get? d = none → St b L m R ((d, o) :: M) h' → LO o (vs.drop a) → Q (.ref d) { s with heap := h' })
    (he : subscripted slice false (.ref l) (.ref sl) = operate [.ref sl, .ref l] (getItem (.ref l) (.ref sl)) := by with_unfolding_all rfl) :
    wpAny (model Challenge.rw_ji0018_01.row.prog w) A (subscriptTail value slice (.ref l) (.ref sl)) Q E s := by
  subst hi
  refine subAny' hl.typeIs slot_list_getitem.lookup (wpAny_getItem_list_slice hl hs (.int _ _) .none .none (by simp) ?_ (by simpa using hz)) he
  rw [slicePick_from']
  exact h _ _ _ (S.none_of (gnone_of_le (Nat.le_refl _))) (S.push _) (LO.mk _)

theorem adjust_neg (k n : Nat) (hk : k ≤ n) (h0 : 1 ≤ k) : Builtin.Slice.sliceAdjust (some (-(k : Int))) none 1 (n : Int) = (((n - k : Nat) : Int), (n : Int)) := by
  unfold Builtin.Slice.sliceAdjust
  have h1 : ¬ ((1 : Int) < 0) := by omega
  have h2 : (-(k : Int)) < 0 := by omega
  simp only [h1, h2, if_false, if_true]
  congr 1
  omega
theorem tupleTail {value slice : PySem.Expr} {t sl : Addr} {o : Obj} {vs : List Value} {k : Nat} {i : Int} {u : Tok} {Q : Value → Shared → Prop} (S : St b L m R M s.heap) (hr : R t o) (ht : TO o vs) (hs : s.heap.IsSliceOf sl (.int i u) .none .none) (hi : i = -(k : Int)) (h0 : 1 ≤ k) (hk : k ≤ vs.length) (hz : vs.length ≤ sizeLine)
    (h : ∀ d h' R', St b L m R' M h' → (∀ c x, R c x → R' c x) → Src R' d (vs.drop (vs.length - k)) → Q (.ref d) { s with heap := h' })
    (he : subscripted slice false (.ref t) (.ref sl) = operate [.ref sl, .ref t] (getItem (.ref t) (.ref sl)) := by with_unfolding_all rfl) :
    wpAny (model Challenge.rw_ji0018_01.row.prog w) A (subscriptTail value slice (.ref t) (.ref sl)) Q E s := by
  subst hi
  have htt := ht.tup (S.fr _ _ hr)
  refine subAny' htt.typeIs slot_tuple_getitem.lookup ?_ he
  obtain ⟨os, hos, hcs, hds⟩ := id hs
  have hTs : s.TypeIs (.ref sl) "slice" := ⟨os, hos, hcs⟩
  unfold getItem
  try with_reducible refine wpAny_holding ?_
  first | refine wpAny_bind (wpAny_pure ?_) | skip
  refine wpAny_bind (wpAny_sequenceKey htt.typeIs (by decide) ?_)
  refine wpAny_bind (wpAny_callSpecial?_slot (name := Str.ofString "__getitem__") htt.typeIs slot_tuple_getitem
    (wpAny_call_entry slot_tuple_getitem htt.typeIs entry_tuple_getitem ?_ (args_tuple_getitem _ _)))
  show wpAny _ _ (Builtin.Tuple.tupleItemsOf (.ref t) >>= _) _ _ s
  refine wpAny_bind (tupleItemsOf_ htt ?_)
  refine wpAny_bind (wpAny_typeOf hTs ?_)
  rw [if_pos (by decide)]
  refine wpAny_bind ?_
  unfold Builtin.Slice.sliceApplied Builtin.Slice.sliceFields
  refine wpAny_bind (wpAny_bind (wpAny_field hos hds (x := .int (-(k : Int)) u) rfl (wpAny_bind (wpAny_field hos hds (x := .none) rfl (wpAny_bind (wpAny_field hos hds (x := .none) rfl (wpAny_pure ?_)))))))
  refine wpAny_bind (slicePart_none ?_)
  show wpAny _ _ (if ((1 : Int) == 0) = true then _ else _) _ _ s
  rw [if_neg (by decide)]
  refine wpAny_bind (slicePart_int (wpAny_bind (slicePart_none (wpAny_bind (wpAny_pure ?_)))))
  have hsz : (vs.toArray.size : Int) = (vs.length : Int) := by simp
  show wpAny _ _ (match Builtin.Slice.sliceAdjust (some (-(k : Int))) none 1 (vs.toArray.size : Int) with | (lo, hi) => pure (lo, (1 : Int), Builtin.Slice.slicePlaces lo hi 1)) _ _ s
  rw [hsz, adjust_neg k vs.length hk h0]
  show wpAny _ _ (pure (((vs.length - k : Nat) : Int), (1 : Int), Builtin.Slice.slicePlaces ((vs.length - k : Nat) : Int) (vs.length : Int) 1)) _ _ s
  rw [places_from (vs.length - k) vs.length (by omega)]
  refine wpAny_pure ?_
  show wpAny _ _ (if (((vs.length - k : Nat) : Int) == 0 && (1 : Int) == 1 && (vs.length - (vs.length - k)) == vs.toArray.size) = true then _ else _) _ _ s
  by_cases hall : k = vs.length
  · subst hall
    rw [if_pos (by simp)]
    have e0 : vs.drop (vs.length - vs.length) = vs := by simp
    rw [e0] at h
    have hx : ∀ {Q : Bool → Shared → Prop}, Q true s → wpAny (model Challenge.rw_ji0018_01.row.prog w) A.in1 (Builtin.Tuple.tupleIsExact (.ref t)) Q E s := fun hq => by
      unfold Builtin.Tuple.tupleIsExact
      exact wpAny_bind (wpAny_typeOf htt.typeIs (wpAny_pure hq))
    refine wpAny_bind (hx ?_)
    rw [if_pos rfl]
    exact wpAny_bind (wpAny_rule (wpAny_bind (wpAny_pure (wpAny_pure ⟨_, rfl, wpAny_pure (h t s.heap R S (fun _ _ r => r) ⟨o, hr, .inr ht⟩)⟩))))
  · rw [if_neg (by simp; omega)]
    have hp := pick_from vs.toArray (vs.length - k) (by simp)
    simp only [List.size_toArray] at hp
    have hdrop : sizeOk (.seq (vs.drop (vs.length - k)).toArray) := by
      show (vs.drop (vs.length - k)).toArray.size ≤ sizeLine
      rw [List.size_toArray, List.length_drop]
      omega
    have hq := h s.heap.objs.size _ _ (S.pushR { cls := .type "tuple", data := .seq (vs.drop (vs.length - k)).toArray }) (fun _ _ r => .inl r) ⟨_, .inr ⟨rfl, rfl⟩, .inr (TO.mk _)⟩
    rw [hp]
    first
      | exact wpAny_bind (m := Builtin.Tuple.tupleExact _) (wpAny_newObj_type (wpAny_pure ⟨_, rfl, wpAny_pure hq⟩) hdrop)
      | exact wpAny_bind (m := Builtin.Tuple.tupleExact _) (wpAny_newObj_type (wpAny_bind (wpAny_pure (wpAny_pure ⟨_, rfl, wpAny_pure hq⟩))) hdrop)
      | exact wpAny_bind (wpAny_bind (m := Builtin.Tuple.tupleExact _) (wpAny_newObj_type (wpAny_pure (wpAny_pure ⟨_, rfl, wpAny_pure hq⟩)) hdrop))
      | exact wpAny_bind (wpAny_bind (m := Builtin.Tuple.tupleExact _) (wpAny_newObj_type (wpAny_pure ⟨_, rfl, wpAny_pure hq⟩) hdrop))
end
end

/-! X8 -/
section
open PySem PySem.W PyProof.Rows PySem.Calls PySem.Spec PySem.SeqAt
def labsD (ls : List (List UInt8)) : List PyData := ls.map fun l => PyData.list ((oi l).map PyData.int)
def labD (ls : List (List UInt8)) : PyData := .list (labsD ls)
theorem canLay_labs : ∀ ls, PyData.canLayAll0 (labsD ls) = true
  | [] => by simp [labsD, PyData.canLayAll0]
  | l :: r => by
    have := canLay_labs r
    simp only [labsD, List.map_cons, PyData.canLayAll0, PyData.canLay0, Bool.and_eq_true]
    exact ⟨canLayAll0_ints _, this⟩
theorem depth_labs : ∀ ls, PyData.depthAll (labsD ls) ≤ 2
  | [] => by simp [labsD, PyData.depthAll]
  | l :: r => by
    have h1 := depth_labs r
    have h2 := PySem.W.depthAll_ints (oi l)
    simp only [labsD, List.map_cons, PyData.depthAll, PyData.depth] at h1 ⊢
    omega
theorem noMix_labs : ∀ as bs, noMixAll (labsD as) (labsD bs) = true
  | [], [] => by simp [labsD, noMixAll]
  | [], _ :: _ => by simp [labsD, noMixAll]
  | _ :: _, [] => by simp [labsD, noMixAll]
  | a :: r, b :: q => by
    have := noMix_labs r q
    simp only [labsD, List.map_cons, noMixAll, noMix, Bool.and_eq_true]
    exact ⟨noMix_ints _ _, this⟩
theorem oi_inj {a b : List UInt8} (h : oi a = oi b) : a = b := by
  unfold oi at h
  refine (List.map_inj_right fun x y e => ?_).mp h
  exact UInt8.toNat_inj.mp (by omega)
theorem same_labs : ∀ as bs, PySem.Spec.sameAll (labsD as) (labsD bs) = decide (as = bs)
  | [], [] => by simp [labsD, PySem.Spec.sameAll]
  | [], _ :: _ => by simp [labsD, PySem.Spec.sameAll]
  | _ :: _, [] => by simp [labsD, PySem.Spec.sameAll]
  | a :: r, b :: q => by
    have := same_labs r q
    simp only [labsD, List.map_cons, PySem.Spec.sameAll, PySem.Spec.same] at this ⊢
    rw [same_ints, this]
    by_cases h1 : a = b
    · subst h1; simp
    · have : oi a ≠ oi b := fun e => h1 (oi_inj e)
      simp [h1, this]
theorem shaped_lab (ls) : shaped (labD ls) = true := by
  have h1 := depth_labs ls
  have h2 : PyData.depth (labD ls) ≤ 64 := by simp only [labD, PyData.depth]; omega
  show (PyData.canLay0 (labD ls) && decide (PyData.depth (labD ls) ≤ 64)) = true
  rw [Bool.and_eq_true]
  exact ⟨by simp only [labD, PyData.canLay0]; exact canLay_labs ls, decide_eq_true h2⟩

/-- reads as data in every heap that holds R -/
def RD (R : Rel) (v : Value) (d : PyData) : Prop := ∀ h : Heap, (∀ a o, R a o → h.get? a = some o) → ∃ as, Reads h v d as
theorem RD.mono {R R' : Rel} (h : ∀ a o, R a o → R' a o) {v : Value} {d : PyData} (x : RD R v d) : RD R' v d := fun g hg => x g fun a o r => hg a o (h a o r)
theorem readsAll_labs {R : Rel} {h : Heap} (hr : ∀ a o, R a o → h.get? a = some o) : ∀ {vs : List Value} {ls : List (List UInt8)}, All2 (IL R) vs ls → ∃ as, ReadsAll h vs (labsD ls) as
  | _, _, .nil => ⟨_, .nil⟩
  | _, _, .cons ⟨a, o, us, e, r, hl, hi⟩ t => by
    subst e
    obtain ⟨as, ht⟩ := readsAll_labs hr t
    exact ⟨_, .cons (reads_of_ints (hl.list (hr _ _ r)) hi) ht⟩
theorem LL.rd {R : Rel} {v : Value} {ls : List (List UInt8)} (x : LL R v ls) : RD R v (labD ls) := fun h hr => by
  obtain ⟨a, o, vs, rfl, r, ⟨n, rfl⟩, hall⟩ := x
  obtain ⟨as, hA⟩ := readsAll_labs hr hall
  exact ⟨_, Reads.list (hr _ _ r) rfl rfl (by simpa using hA)⟩
theorem RD.int {R : Rel} (i : Int) (t : Tok) : RD R (.int i t) (.int i) := fun _ _ => ⟨[], .int i t⟩
theorem RD.str {R : Rel} (x : Str) (t : Tok) : RD R (.str x t) (.str x) := fun _ _ => ⟨[], .str x t⟩
theorem RD.tup2 {R : Rel} {t : Addr} {o : Obj} {a b : Value} {da db : PyData} (r : R t o) (h : TO o [a, b]) (ha : RD R a da) (hb : RD R b db) : RD R (.ref t) (.tuple [da, db]) := fun g hg => by
  obtain ⟨n, rfl⟩ := h
  obtain ⟨as, h1⟩ := ha g hg
  obtain ⟨bs, h2⟩ := hb g hg
  exact ⟨_, Reads.tuple (hg _ _ r) rfl rfl (.cons h1 (.cons h2 .nil))⟩
theorem RD.tup3 {R : Rel} {t : Addr} {o : Obj} {a b c : Value} {da db dc : PyData} (r : R t o) (h : TO o [a, b, c]) (ha : RD R a da) (hb : RD R b db) (hc : RD R c dc) : RD R (.ref t) (.tuple [da, db, dc]) := fun g hg => by
  obtain ⟨n, rfl⟩ := h
  obtain ⟨as, h1⟩ := ha g hg
  obtain ⟨bs, h2⟩ := hb g hg
  obtain ⟨cs, h3⟩ := hc g hg
  exact ⟨_, Reads.tuple (hg _ _ r) rfl rfl (.cons h1 (.cons h2 (.cons h3 .nil)))⟩
/-- what _law_got tells -/
def gotD : Option Int → PyData
  | none => .tuple [.str "raised", .int 0]
  | some v => .tuple [.str "told", .int v]
/-- what _law_match and _law_deepest tell -/
def matD : Option (List (List UInt8) × Int) → PyData
  | none => .tuple [.str "raised", labD [], .int 0]
  | some (l, v) => .tuple [.str "told", labD l, .int v]
theorem gotD_ok (x) : shaped (gotD x) = true ∧ noMix (gotD x) (gotD x) = true ∧ PySem.Spec.same (gotD x) (gotD x) = true := by
  cases x with
  | none => exact ⟨by decide +kernel, by decide +kernel, by decide +kernel⟩
  | some v =>
    refine ⟨?_, ?_, ?_⟩
    · have hs : PyData.strOk (Str.ofString "told") = true := by decide +kernel
      simp [gotD, shaped, PyData.canLay0, PyData.canLayAll0, PyData.depth, PyData.depthAll, hs]
    · simp [gotD, noMix, noMixAll]
    · simp [gotD, PySem.Spec.same, PySem.Spec.sameAll]
theorem matD_ok (x) : shaped (matD x) = true ∧ noMix (matD x) (matD x) = true ∧ PySem.Spec.same (matD x) (matD x) = true := by
  have key : ∀ (s : Str) (l : List (List UInt8)) (v : Int), PyData.strOk s = true → shaped (.tuple [.str s, labD l, .int v]) = true ∧ noMix (.tuple [.str s, labD l, .int v]) (.tuple [.str s, labD l, .int v]) = true ∧ PySem.Spec.same (.tuple [.str s, labD l, .int v]) (.tuple [.str s, labD l, .int v]) = true := by
    intro s l v hs
    have h1 := depth_labs l
    refine ⟨?_, ?_, ?_⟩
    · have h2 : PyData.depth (.tuple [.str s, labD l, .int v]) ≤ 64 := by simp only [labD, PyData.depth, PyData.depthAll]; omega
      show (PyData.canLay0 (.tuple [.str s, labD l, .int v]) && decide (PyData.depth (.tuple [.str s, labD l, .int v]) ≤ 64)) = true
      rw [Bool.and_eq_true]
      exact ⟨by simp [labD, PyData.canLay0, PyData.canLayAll0, canLay_labs l, hs], decide_eq_true h2⟩
    · simp [labD, noMix, noMixAll, noMix_labs l l]
    · simp [labD, PySem.Spec.same, PySem.Spec.sameAll, same_labs]
  cases x with
  | none => exact key _ _ _ (by decide +kernel)
  | some p => exact key _ _ _ (by decide +kernel)
section
variable {w : World} {A : Around} {E : Value → Shared → Prop} {s : Shared} {b : Bs} {L : Addr} {m : Str → Option Value} {R : Rel} {M : List (Addr × Obj)}
theorem eqLL {v u : Value} {as bs : List (List UInt8)} {Q : Value → Shared → Prop} (S : St b L m R M s.heap) (ha : LL R v as) (hb : LL R u bs) (hu : A.units + 64 < cLine) (h : Q (.bool (decide (as = bs))) s) :
    wpAny (model Challenge.rw_ji0018_01.row.prog w) A (compareOp .Eq v u) Q E s := by
  obtain ⟨_, r1⟩ := ha.rd _ S.fr
  obtain ⟨_, r2⟩ := hb.rd _ S.fr
  exact eq_dataH_same r1 r2 (shaped_lab as) (shaped_lab bs) hu (by simp only [labD, noMix]; exact noMix_labs as bs) (by simp only [labD, PySem.Spec.same]; rw [same_labs]; exact h)
theorem eqRD {v u : Value} {d : PyData} {Q : Value → Shared → Prop} (S : St b L m R M s.heap) (ha : RD R v d) (hb : RD R u d) (hd : shaped d = true ∧ noMix d d = true ∧ PySem.Spec.same d d = true) (hu : A.units + 64 < cLine) (h : Q (.bool true) s) :
    wpAny (model Challenge.rw_ji0018_01.row.prog w) A (compareOp .Eq v u) Q E s := by
  obtain ⟨_, r1⟩ := ha _ S.fr
  obtain ⟨_, r2⟩ := hb _ S.fr
  exact eq_dataH_same r1 r2 hd.1 hd.1 hu hd.2.1 (by rw [hd.2.2]; exact h)
theorem neRD {v u : Value} {d : PyData} {Q : Value → Shared → Prop} (S : St b L m R M s.heap) (ha : RD R v d) (hb : RD R u d) (hd : shaped d = true ∧ noMix d d = true ∧ PySem.Spec.same d d = true) (hu : A.units + 64 < cLine) (h : Q (.bool false) s) :
    wpAny (model Challenge.rw_ji0018_01.row.prog w) A (compareOp .NotEq v u) Q E s := by
  obtain ⟨_, r1⟩ := ha _ S.fr
  obtain ⟨_, r2⟩ := hb _ S.fr
  exact ne_dataH_same r1 r2 hd.1 hd.1 hu hd.2.1 (by rw [hd.2.2]; exact h)

/-- a list and the empty one -/
theorem eqNil {a c : Addr} {vs : List Value} {Q : Value → Shared → Prop} (ha : s.heap.IsList a vs.toArray) (hc : s.heap.IsList c ([] : List Value).toArray) (hu : A.units + 64 < cLine) (h : Q (.bool (decide (vs = []))) s) :
    wpAny (model Challenge.rw_ji0018_01.row.prog w) A (compareOp .Eq (.ref a) (.ref c)) Q E s := by
  by_cases he : vs = []
  · subst he
    exact eq_intsK (ns := []) (ms := []) ha .nil hc .nil hu (by simpa using h)
  · rw [decide_eq_false he] at h
    obtain ⟨o, ho, hcl, n, hd⟩ := id ha
    obtain ⟨o', ho', hcl', n', hd'⟩ := id hc
    show wpAny _ A (richCompare .Eq (.ref a) (.ref c)) Q E s
    refine wpAny_richCompare_same_room ha.typeIs hc.typeIs PySem.F.slot_list_eq (wpAny_call_entry PySem.F.slot_list_eq ha.typeIs PySem.F.entry_list_eq ?_ (PySem.F.args_list_eq_2 _ _)) (by omega)
    show wpAny _ _ (isInstance (.ref c) (.type "list") >>= _) _ _ s
    refine wpAny_bind (wpAny_isInstance hc.typeIs PySem.F.sub_list_list ?_)
    rw [if_neg (by decide)]
    dsimp only
    rw [if_pos (by decide)]
    have items : ∀ {g : Addr} {og : Obj} {us : Array Value} {k : Nat} {Q : Array Value → Shared → Prop}, s.heap.get? g = some og → og.data = .seq us k → Q us s → wpAny (model Challenge.rw_ji0018_01.row.prog w) A.in1 (Builtin.List.listItems (.ref g)) Q E s := fun h1 h2 hq => by
      unfold Builtin.List.listItems
      exact wpAny_bind (wpAny_seqItems h1 h2 (wpAny_pure hq))
    refine wpAny_bind (items ho hd (wpAny_bind (items ho' hd' ?_)))
    rw [if_pos (by
      have : vs.length ≠ 0 := fun e => he (List.eq_nil_of_length_eq_zero e)
      simpa using this)]
    exact wpAny_bind (wpAny_rule (wpAny_pure ⟨_, rfl, (fun e => nomatch e), h⟩))
end
end

/-! X9 -/
section
open PySem PySem.W PyProof.Rows PySem.Calls
section
variable {w : World} {A : Around} {E : Value → Shared → Prop} {s : Shared} {b : Bs} {L : Addr} {m : Str → Option Value} {R : Rel} {M M' : List (Addr × Obj)} {cn : Str} {cs : Scope} {fa : Addr} {cd : Value} {env : Env}
theorem maxM {l : Addr} {vs : List Value} {ns : List Int} {Q : Value → Shared → Prop} (hh : A.handled = none) (S : St b L m R M s.heap) (hl : s.heap.IsList l vs.toArray) (hi : IntsAre vs ns) (hne : 0 < ns.length)
    (h : ∀ h' Mx (t : Tok) tk, St b L m R M h' → Mx ∈ ns → (∀ a, a ∈ ns → a ≤ Mx) → Q (.int Mx t) { s with heap := h', toks := tk }) :
    wpAny (model Challenge.rw_ji0018_01.row.prog w) A (call (.builtin "max") [.ref l]) Q E s := by
  obtain ⟨xs, e⟩ := hi.allInts.items
  have hns : ns = xs.toList.map (·.1) := by rw [← hi.numsOf, ← nums_intItems, ← e]
  have hsz : 0 < xs.size := by
    have h3 := hne; rw [hns, List.length_map, Array.length_toList] at h3; exact h3
  rw [e] at hl
  refine max_intList hh hl hsz fun v h' tk hv hk => ?_
  obtain ⟨t, rfl⟩ := intItems_at hv
  obtain ⟨h1, h2⟩ := argBest_gt (numAt xs) (xs.size - 1)
  refine h _ _ t tk (S.keeps hk) ?_ fun a ha => ?_
  · rw [hns, numAt_eq]; exact getD_mem (by rw [List.length_map, Array.length_toList]; omega)
  · rw [hns] at ha
    obtain ⟨j, hj, rfl⟩ := mem_getD ha
    rw [List.length_map, Array.length_toList] at hj
    rw [← numAt_eq]; exact h2 j (by omega)
theorem max2 {a c : Int} {t u : Tok} {Q : Value → Shared → Prop} (hh : A.handled = none) (S : St b L m R M s.heap)
    (h : ∀ h' tk t, St b L m R M h' → Q (.int (max a c) t) { s with heap := h', toks := tk }) : wpAny (model Challenge.rw_ji0018_01.row.prog w) A (call (.builtin "max") [.int a t, .int c u]) Q E s :=
  max_two_ints hh fun h' tk hk => by
    by_cases q : c > a
    · rw [if_pos q]; have := h h' tk u (S.keeps hk); rwa [Int.max_eq_right (by omega)] at this
    · rw [if_neg q]; have := h h' tk t (S.keeps hk); rwa [Int.max_eq_left (by omega)] at this
theorem min2 {a c : Int} {t u : Tok} {Q : Value → Shared → Prop} (hh : A.handled = none) (S : St b L m R M s.heap)
    (h : ∀ h' tk t, St b L m R M h' → Q (.int (min a c) t) { s with heap := h', toks := tk }) : wpAny (model Challenge.rw_ji0018_01.row.prog w) A (call (.builtin "min") [.int a t, .int c u]) Q E s :=
  min_two_ints hh fun h' tk hk => by
    by_cases q : c < a
    · rw [if_pos q]; have := h h' tk u (S.keeps hk); rwa [Int.min_eq_right (by omega)] at this
    · rw [if_neg q]; have := h h' tk t (S.keeps hk); rwa [Int.min_eq_left (by omega)] at this
theorem assignCompK {elt iter : Expr} {x y : Str} {px py : Pos} {scope : Scope} {pos spos : Pos} {Q : Flow → Shared → Prop} (hh : A.handled = none) (F : Nat → Value → Rel → Prop) (hF : ∀ i y R₁ R₂, (∀ a o, R₁ a o → R₂ a o) → F i y R₁ → F i y R₂)
    (hsw : swapsWith (.ListComp elt [⟨.Name x px, iter, [], 0⟩] scope pos) (some (.Name y py)) spos.line (envOf cn cs L fa cd) = pure true)
    (hfree : ∀ y ∈ scope.names, y.2 ≠ .free) (hcell : ∀ y ∈ scope.names, y.2 ≠ .cell) (hkind : scope.kind = .function)
    (hnames : ∀ y ∈ scope.names, y.2 = .local → scope.names.lookup y.1 = some .local) (hx : scope.names.lookup x = some .local)
    (hck : cs.kind = .function) (hy : (envOf cn cs L fa cd).kindOf y = some .local)
    (hs : ∀ x, foldedSetIterable iter (envOf cn cs L fa cd) x = pure x)
    (h : wpAny (model Challenge.rw_ji0018_01.row.prog w) A (eval iter (envOf cn cs L fa cd)) (fun xv s₁ => ∃ m R M a o vs, xv = .ref a ∧ St b L m R M s₁.heap ∧ Kp b a o ∧ LO o vs ∧ vs.length ≤ sizeLine ∧
      (∀ C i v mc R₁ M₁ h₁ tk E', vs[i]? = some v → h₁.Ns C mc → mc x = some v → (∀ p ∈ M, p ∈ M₁) → (∀ a o, R a o → R₁ a o) → St b L m R₁ M₁ h₁ →
        wpAny (model Challenge.rw_ji0018_01.row.prog w) A (eval elt (compEnv scope C (envOf cn cs L fa cd))) (EEnd b L R₁ h₁ (F i) s₁) E' { s₁ with heap := h₁, toks := tk }) ∧
      (∀ D dO' R' h' tk ys, (∀ a o, R a o → R' a o) → St b L (ups m y (.ref D)) R' ((D, dO') :: M) h' → b.hs.get? D = none → LO dO' ys → ys.length = vs.length → (∀ i y, ys[i]? = some y → F i y R') → Q .next { s₁ with heap := h', toks := tk })) E s) :
    wpAny (model Challenge.rw_ji0018_01.row.prog w) A (exec (.Assign [.Name y py] (.ListComp elt [⟨.Name x px, iter, [], 0⟩] scope pos) spos) (envOf cn cs L fa cd)) Q E s := by
  refine assignComp (b := b) F hF hsw hfree hcell hkind hnames hx hck hy (wpAny_mono h (fun xv s₁ h₁ => ?_) fun _ _ e => e) hs
  obtain ⟨m, R, M, a, o, vs, rfl, S, kp, ho, hz, turn, fin⟩ := h₁
  refine wpAny_pyIter_list (ho.list (S.kpGet kp)) ?_
  exact ⟨_, _, vs.length, LIt a, _, _, m, R, M, rfl, Nxt.list hh _ a vs, hz, S.push _, S.none_of (gnone_of_le (Nat.le_refl _)), ⟨rfl, rfl⟩, fun R₁ M₁ h₁ _ hsub S' => ho.list (S'.kpGet kp), fun C i v mc R₁ M₁ h₁ tk E' _ hv => turn C i v mc R₁ M₁ h₁ tk E' hv, fin⟩
end
end

/-! X10 -/
section
open PySem PySem.W PyProof.Rows PySem.Calls
/-- a list whose other parts are not asked for -/
def LW (o : Obj) (vs : List Value) : Prop := o.cls = .type "list" ∧ ∃ n, o.data = .seq vs.toArray n
theorem LW.list {h : Heap} {a : Addr} {o : Obj} {vs : List Value} (x : LW o vs) (e : h.get? a = some o) : h.IsList a vs.toArray := ⟨o, e, x.1, x.2⟩
theorem LO.lw {o : Obj} {vs : List Value} (x : LO o vs) : LW o vs := by obtain ⟨n, rfl⟩ := x; exact ⟨rfl, n, rfl⟩
/-- what a call hands over -/
structure Own (b : Bs) (R : Rel) (M : List (Addr × Obj)) (h : Heap) : Prop where
  mu : ∀ p ∈ M, h.get? p.1 = some p.2
  mo : ∀ p ∈ M, p.1 ∉ b.fo ∧ (∀ o, ¬ R p.1 o) ∧ (p.1 ∈ b.W ∨ b.hs.get? p.1 = none)
  nd : (M.map (·.1)).Nodup
section
variable {w : World} {A : Around} {E : Value → Shared → Prop} {s : Shared} {b : Bs} {L : Addr} {m : Str → Option Value} {R R' : Rel} {M M' : List (Addr × Obj)} {h h' : Heap}
theorem St.own (S : St b L m R M h) : Own b R M h := ⟨S.mu, fun p hp => (S.mo p hp).2, S.nd⟩
theorem St.retO {MW MW' Mr : List (Addr × Obj)} {W : List Addr} (S : St b L m R (MW ++ Mr) h) (r : Ret (b.at L R h W) R' h') (hW : W = MW.map (·.1)) (o : Own (b.at L R h W) R' MW' h') : St b L m R' (MW' ++ Mr) h' := by
  have hr : ∀ p ∈ Mr, h'.get? p.1 = some p.2 := fun p hp => by
    refine r.keep p.1 p.2 (S.mu p (List.mem_append_right _ hp)) (fun q => ?_) fun q => ?_
    · subst hW
      have hnd := S.nd
      rw [List.map_append] at hnd
      exact (List.nodup_append.mp hnd).2.2 _ q _ (List.mem_map_of_mem hp) rfl
    · have P := S.mo p (List.mem_append_right _ hp)
      exact (List.mem_cons.mp q).elim P.1 P.2.1
  have hold : ∀ a ∈ W, ∃ p ∈ MW, p.1 = a := fun a ha => by subst hW; exact List.mem_map.mp ha
  have T : St b L m R' Mr h' := by
    have hs : ∀ c o, b.hs.get? c = some o → c ∉ b.W → c ∉ W := fun c o e hW' q => by
      obtain ⟨p, hp, rfl⟩ := hold c q
      rcases (S.mo p (List.mem_append_left _ hp)).2.2.2 with z | z
      · exact hW' z
      · rw [z] at e; cases e
    have fo : ∀ c, c ∈ b.fo → c ∉ W := fun c hc q => by
      obtain ⟨p, hp, rfl⟩ := hold c q
      exact (S.mo p (List.mem_append_left _ hp)).2.1 hc
    exact { keep := fun c o e hW' hF => r.keep c o (S.keep c o e hW' hF) (hs c o e hW') fun q => (List.mem_cons.mp q).elim (fun q => by rw [q, S.Lnew] at e; cases e) hF
            slot := fun c o e hF => by
              obtain ⟨sl, q⟩ := S.slot c o e hF
              obtain ⟨sl', q'⟩ := r.slot c _ q (List.mem_cons_of_mem _ hF)
              exact ⟨sl', q'⟩
            al := fun c o e => let ⟨o', q⟩ := S.al c o e; r.al c o' q
            sub := fun a o q => r.sub a o (S.sub a o q)
            new := fun a o q => by
              rcases r.new a o q with z | z
              · exact S.new a o z
              · exact .inr (S.none_of z)
            fr := r.fr
            ok := S.ok
            ns := ns_slots S.ns fun o e => r.slot L o e List.mem_cons_self
            Lnew := S.Lnew
            offL := fun a o q e => by
              rcases r.new a o q with z | z
              · exact S.offL a o z e
              · obtain ⟨o', _, _, x, _⟩ := S.ns
                have z : h.get? a = none := z
                rw [e, x] at z; cases z
            mu := hr
            mo := fun p hp => by
              have P := S.mo p (List.mem_append_right _ hp)
              refine ⟨P.1, P.2.1, fun o z => ?_, P.2.2.2⟩
              rcases r.new _ o z with z | z
              · exact P.2.2.1 o z
              · have := S.mu p (List.mem_append_right _ hp)
                have z : h.get? p.1 = none := z
                rw [z] at this; cases this
            nd := by have := S.nd; rw [List.map_append] at this; exact (List.nodup_append.mp this).2.1
            lo := S.lo }
  refine { toRet := T.toRet, ok := T.ok, ns := T.ns, Lnew := T.Lnew, offL := T.offL, mu := fun p hp => ?_, mo := fun p hp => ?_, nd := ?_, lo := T.lo }
  · exact (List.mem_append.mp hp).elim (o.mu p) (T.mu p)
  · rcases List.mem_append.mp hp with hp | hp
    · have P := o.mo p hp
      refine ⟨fun e => P.1 (e ▸ List.mem_cons_self), fun e => P.1 (List.mem_cons_of_mem _ e), P.2.1, ?_⟩
      rcases P.2.2 with z | z
      · obtain ⟨q, hq, e⟩ := hold _ z
        rw [← e]; exact (S.mo q (List.mem_append_left _ hq)).2.2.2
      · exact .inr (S.none_of z)
    · exact T.mo p hp
  · rw [List.map_append]
    refine List.nodup_append.mpr ⟨o.nd, T.nd, fun a ha c hc => ?_⟩
    obtain ⟨p, hp, rfl⟩ := List.mem_map.mp ha
    obtain ⟨q, hq, rfl⟩ := List.mem_map.mp hc
    intro e
    have hq' := S.mu q (List.mem_append_right _ hq)
    rcases (o.mo p hp).2.2 with z | z
    · subst hW
      have hnd := S.nd
      rw [List.map_append] at hnd
      exact (List.nodup_append.mp hnd).2.2 _ z _ (List.mem_map_of_mem hq) e
    · have z : h.get? p.1 = none := z
      rw [e, hq'] at z; cases z

theorem setL {l : Addr} {o : Obj} {vs : List Value} {k : Int} {t : Tok} {v : Value} {j : Nat} {Q : Unit → Shared → Prop} (S : St b L m R M s.heap) (hm : (l, o) ∈ M) (hl : LW o vs) (hk : k = j) (hj : j < vs.length) (hz : vs.length ≤ 16777216)
    (h : ∀ h' o', (∀ M', UpdL l o o' M M' → St b L m R M' h') → LW o' (vs.set j v) → Q () { s with heap := h' }) :
    wpAny (model Challenge.rw_ji0018_01.row.prog w) A (setItem (.ref l) (.int k t) v) Q E s := by
  subst hk
  refine wpAny_setItem_list (hl.list (S.get hm)) (by omega) (by omega) (by simpa using hj) fun h' ⟨o', e, hc, n, hd⟩ hs => ?_
  exact h h' o' (fun M' u => S.upd u hs e) ⟨hc, n, by rw [hd]; simp⟩
theorem popM {l : Addr} {o : Obj} {vs : List Value} {i : Int} {t : Tok} {y : Value} {j : Nat} {Q : Value → Shared → Prop} (S : St b L m R M s.heap) (hm : (l, o) ∈ M) (hl : LO o vs) (hi : i = j) (hj : vs[j]? = some y) (hz : vs.length ≤ 1000)
    (h : ∀ h' o', (∀ M', UpdL l o o' M M' → St b L m R M' h') → LO o' (vs.eraseIdx j) → Q y { s with heap := h' }) :
    wpAny (model Challenge.rw_ji0018_01.row.prog w) A (call (.builtin "list.pop") [.ref l, .int i t]) Q E s := by
  obtain ⟨n, rfl⟩ := hl
  have hjl : j < vs.length := (List.getElem?_eq_some_iff.mp hj).1
  have hf : Builtin.List.listFitsIndex i = true := by
    simp only [Builtin.List.listFitsIndex, Bool.and_eq_true, decide_eq_true_eq]
    omega
  have hk : seqIndex? i vs.toArray.size = some j := by
    subst hi
    unfold seqIndex?
    have h1 : ¬ ((j : Int) < 0) := by omega
    have h2 : (decide ((0 : Int) ≤ (j : Int)) && decide ((j : Int) < (vs.length : Int))) = true := by rw [Bool.and_eq_true]; exact ⟨decide_eq_true (by omega), decide_eq_true (by omega)⟩
    simp only [h1, if_false, List.size_toArray, h2, if_true, Int.toNat_natCast]
  have q := PySem.IsL.update (S.get hm) (fun xs => xs.eraseIdxIfInBounds j)
  have hz' : vs.toArray.size ≤ sizeLine := by rw [sizeLine_eq, List.size_toArray]; exact Nat.le_trans hz (Nat.le_of_ble_eq_true rfl)
  have hy : vs.toArray[j]? = some y := by simpa using hj
  clear hi hz
  refine call_meets PySem.F.slot_list_pop ⟨_, S.get hm, rfl⟩ PySem.F.entry_list_pop (PySem.F.args_list_pop_2 _ _) (PySem.MeetsSeq.list_pop_at l vs.toArray n i t j y hf hk hy hz') ⟨S.get hm, ?_⟩
  refine h _ _ (fun M' u => S.upd u (Heap.SameBut.update ..) q) ?_
  simp only [List.eraseIdxIfInBounds_toArray]
  exact ⟨_, rfl⟩
end
end

/-! X11 -/
section
open PySem PySem.W PyProof.Rows PySem.Calls PySem.Spec PySem.SeqAt
theorem delItemK {P : Model} {A : Around} {E : Value → Shared → Prop} {s : Shared} {K : Frag} {x C L f : Addr} {h₀ : Heap} {m : Str → Option Value} {ox : Obj} {od : Option Obj} {i : Value} {Q : Unit → Shared → Prop} (F : Fr h₀ L s.heap m) (X₀ : K.In h₀) (I : InstAt s.heap x ox C od) (hq : noSeq K C = true) (hs : findIn K (.ref C) "__delitem__" = some (some (.ref f))) (hf : isFn K (.ref f) = true)
    (h : wpAny P A (call (.ref f) [.ref x, i]) (fun _ s' => Q () s') E s) : wpAny P A (delItem (.ref x) i) Q E s := by
  have X := X₀.keeps F.keep
  unfold delItem sequenceKey
  refine wpAny_holding (wpAny_bind (wpAny_bind (I.type.here ?_)))
  refine wpAny_bind ((anyM_none X hq).here ?_)
  rw [if_pos (show (!false) = true from rfl)]
  exact wpAny_pure (wpAny_bind (special_fn X I hs (beq_iff_eq.mp hf) (wpAny_mono h (fun _ _ z => wpAny_pure z) fun _ _ z => z)))
theorem RD.bool {R : Rel} (x : Bool) : RD R (.bool x) (.bool x) := fun _ _ => ⟨[], .bool x⟩
theorem boolD_ok (x : Bool) : shaped (.bool x) = true ∧ noMix (.bool x) (.bool x) = true ∧ PySem.Spec.same (.bool x) (.bool x) = true := by
  refine ⟨by cases x <;> decide +kernel, by cases x <;> decide +kernel, by cases x <;> decide +kernel⟩
end

section
open PySem PySem.W PyProof.Rows PySem.Calls
local macro_rules | `(tactic| walk_at "look") => `(tactic| repeat (first
  | with_reducible exact look_hit | with_reducible exact bnd_hit | ((with_reducible apply look_skip); (case h => decide +kernel)) | ((with_reducible apply bnd_skip); (case h => decide +kernel)) | with_reducible assumption
  | ((with_reducible refine Same.get (by with_reducible assumption) ?h ?_); (case h => decide +kernel))))
local macro_rules | `(tactic| walk_at "lookr") => `(tactic| ((refine' Eq.trans ?lr1 ?lr2); (case lr1 => walk_at "look"); (case lr2 => first | rfl | (push_cast; rfl))))
local macro_rules | `(tactic| walk_at "mem") => `(tactic| repeat (first | with_reducible exact List.mem_cons_self | with_reducible assumption | with_reducible refine List.mem_cons_of_mem _ ?_))
local macro_rules | `(tactic| walk_at "upd") => `(tactic| repeat (first | with_reducible exact UpdL.head | with_reducible apply UpdL.tail))
local macro_rules | `(tactic| walk_at "same") => `(tactic| repeat (first | with_reducible exact Same.refl | with_reducible assumption | ((with_reducible refine Same.set ?_ ?h); (case h => decide +kernel))))
local macro_rules | `(tactic| walk_at "go1") => do
  let S := Lean.mkIdent `S
  let G := Lean.mkIdent `G
  let ra := Lean.mkIdent `ra
  let hC := Lean.mkIdent `hC
  let hx := Lean.mkIdent `hx
  `(tactic| first
    | with_reducible refine PySem.wpAny_execs_cons ?_
    | with_reducible refine PySem.wpAny_execs_nil ?_
    | with_reducible refine PySem.wpAny_Return_some ?_
    | ((with_reducible refine' PySem.wpAny_Assign_Name ?_ ?hs); (case hs => exact rfl))
    | ((with_reducible refine' PySem.wpAny_Expr_any ?_ ?hi ?hs); (case hi => exact rfl); (case hs => exact rfl))
    | with_reducible refine PySem.wpAny_AugAssign_Name ?_
    | with_reducible refine PySem.wpAny_If ?_
    | ((with_reducible refine' PySem.wpAny_For ?_ ?hs); (case hs => (intro _; exact rfl)))
    | with_reducible refine listD ?_
    | with_reducible refine PySem.wpAny_Delete ?_
    | with_reducible refine PySem.wpAny_deleteEach_cons ?_
    | with_reducible refine PySem.wpAny_deleteEach_nil ?_
    | with_reducible refine PyProof.Rows.delete_Subscript ?_
    | with_reducible refine tupD ?_
    | with_reducible refine PyProof.Rows.BoolOp_and ?_
    | with_reducible refine PyProof.Rows.BoolOp_one ?_
    | with_reducible refine PySem.wpAny_isTrue_Not ?_
    | with_reducible refine PySem.wpAny_isTrue_BoolOp ?_
    | with_reducible refine PySem.wpAny_allTrue_And_cons ?_
    | with_reducible refine PySem.wpAny_allTrue_Or_cons ?_
    | with_reducible refine PySem.wpAny_allTrue_And_nil ?_
    | with_reducible refine PySem.wpAny_allTrue_Or_nil ?_
    | ((with_reducible refine' PySem.wpAny_isTrue_Compare1 ?_ ?hm); (case hm => exact rfl))
    | ((with_reducible refine' PyProof.Rows.isTrue_chain ?_ ?hm); (case hm => exact rfl))
    | with_reducible refine PyProof.Rows.test_link ?_
    | ((with_reducible refine' testLast ?_ ?he); (case he => exact rfl))
    | ((with_reducible refine' PySem.wpAny_isTrue_value ?_ ?he); (case he => exact rfl))
    | ((with_reducible refine' PySem.wpAny_Compare1 ?_ ?hm); (case hm => exact rfl))
    | ((with_reducible refine' nameL (v := ?v) $S ?hv ?_ ?h1 ?h2 ?h3); (case hv => walk_at "look"); (case h1 => kernel_rfl!); (case h2 => kernel_rfl!); (case h3 => decide +kernel))
    | ((with_reducible refine' nameC $hC $hx ?_ ?h1 ?h2 ?h3); (case h1 => kernel_rfl!); (case h2 => kernel_rfl!); (case h3 => decide +kernel))
    | ((with_reducible refine' nameG $S $G ?e ?_ ?h1 ?h2 ?h3 ?h4); (case e => k_is); (case h1 => kernel_rfl!); (case h2 => kernel_rfl!); (case h3 => decide +kernel); (case h4 => exact rfl))
    | ((with_reducible refine' nameB $S $G ?e ?f ?g ?_ ?h1 ?h2 ?h3 ?h4 ?h5); (case e => k_is); (case f => first | exact bv_len | exact bv_range | exact bv_list | exact bv_tuple | exact bv_bytes | exact bv_dict | exact bv_isinstance | exact bv_max | exact bv_min | exact bv_KeyError | exact bv_ValueError); (case g => decide +kernel); (case h1 => kernel_rfl!); (case h2 => kernel_rfl!); (case h3 => decide +kernel); (case h4 => exact rfl); (case h5 => exact rfl))
    | ((with_reducible refine' loadL (v := ?v) $S ?hv ?_ ?h1 ?h2); (case hv => walk_at "look"); (case h1 => kernel_rfl!); (case h2 => kernel_rfl!))
    | ((with_reducible refine' storeL $S ?_ ?h1 ?h2); (case h1 => kernel_rfl!); (case h2 => kernel_rfl!); intro _ $S)
    | ((with_reducible refine' PyProof.Rows.MethodCall_ ?_ ?he); (case he => exact rfl))
    | ((with_reducible refine' PyProof.Rows.Call_ ?_ ?he); (case he => exact rfl))
    | ((with_reducible refine' PyProof.Rows.callWith_builtin1 ?_ ?he ?hplain); (case he => exact rfl); (case hplain => exact rfl))
    | ((with_reducible refine' PyProof.Rows.callWith_type1 ?_ ?he ?hplain); (case he => exact rfl); (case hplain => exact rfl))
    | with_reducible refine PyProof.Rows.callWith_type0 ?_
    | with_reducible refine PyProof.Rows.callWith_method0 ?_
    | ((with_reducible refine' PyProof.Rows.callWith_method1 ?_ ?he ?hplain); (case he => exact rfl); (case hplain => exact rfl))
    | ((with_reducible refine' callF ?hk ?_ ?he ?hplain); (case hk => k_is); (case he => exact rfl); (case hplain => exact rfl))
    | ((with_reducible refine' callF0 ?hk ?_); (case hk => k_is))
    | ((with_reducible refine' PyProof.Rows.spliced_more ?_ ?he); (case he => exact rfl))
    | with_reducible refine PyProof.Rows.spliced_none ?_
    | with_reducible refine PySem.wpAny_Constant_int ?_
    | with_reducible refine PySem.wpAny_Constant_bool ?_
    | with_reducible refine PySem.wpAny_Constant_none ?_
    | with_reducible refine PySem.wpAny_Constant_str ?_
    | with_reducible refine PySem.wpAny_BinOp ?_
    | with_reducible refine PySem.wpAny_UnaryOp ?_
    | with_reducible refine PyProof.Rows.Subscript_ ?_
    | with_reducible refine sliceFrom ?_
    | ((with_reducible refine' PyProof.Rows.Attribute_any_ ?_ ?he); (case he => exact rfl))
    | ((with_reducible refine' PySem.plainObj_wpAny_Assign_Attribute ?_ ?hs); (case hs => exact rfl))
    | ((with_reducible refine' PySem.wpAny_Assign_Subscript ?_ ?hs); (case hs => exact rfl))
    | with_reducible refine PyProof.Rows.lt_int ?_
    | with_reducible refine PyProof.Rows.le_int ?_
    | with_reducible refine PyProof.Rows.gt_int ?_
    | with_reducible refine PyProof.Rows.ge_int ?_
    | with_reducible refine PyProof.Rows.eq_int ?_
    | with_reducible refine PyProof.Rows.ne_int ?_
    | with_reducible refine PyProof.Rows.add_int ?_
    | with_reducible refine PyProof.Rows.sub_int ?_
    | with_reducible refine PyProof.Rows.iadd_int ?_
    | with_reducible refine PySem.W.eq_bytes ?_
    | with_reducible refine PyProof.Rows.neg_int ?_
    | ((with_reducible refine' modL ?ha ?hd ?_); (case ha => exact rfl); (case hd => decide); intro _ _)
    | ((with_reducible refine' divL ?ha ?hd ?hd' ?_); (case ha => exact rfl); (case hd => decide); (case hd' => decide); intro _ _)
    | ((with_reducible refine' modN ?ha ?hc ?hd ?_); (case ha => exact rfl); (case hc => exact rfl); (case hd => first | decide | omega); intro _ _)
    | ((with_reducible refine' divN ?ha ?hc ?hd ?hd' ?_); (case ha => exact rfl); (case hc => exact rfl); (case hd => first | decide | omega); (case hd' => first | decide | omega); intro _ _)
    | ((with_reducible refine' PyProof.Rows.mod_int' ?hb ?_); (case hb => first | decide | omega))
    | ((with_reducible refine' range1 $S ?_); intro _ _ _ _ _ $S $ra:ident)
    | ((with_reducible refine' range2 $S ?_); intro _ _ _ _ $S $ra:ident)
    | with_reducible refine PySem.wpAny_truthy_bool ?_
    | with_reducible refine PySem.W.Constant_bytes ?_
    | with_reducible refine iteF ?_
    | with_reducible refine iteT ?_
    | with_reducible refine iteNT ?_
    | with_reducible refine iteNF ?_)
local macro_rules | `(tactic| walk_at "go") => `(tactic| repeat (first | walk_at "go1" | dsimp only))
local macro_rules | `(tactic| walk_at "goS") => `(tactic| repeat ((fail_if_success (with_reducible refine PySem.wpAny_If ?_)); (first | walk_at "go1" | dsimp only)))
local macro_rules | `(tactic| walk_at "enter") => `(tactic| ((case ho => k_is); (case hcd => k_is); (case hb => exact BindsTo.of_eq rfl); (case hl => exact locs rfl); (case h1 => exact rfl); (case h2 => exact rfl); (case h3 => exact rfl); (case hc => decide)))
/-! F1 -/
section
open PySem PySem.W PyProof.Rows PySem.Calls
def lowB : UInt8 → UInt8 := Builtin.Bytes.toLower
theorem lowB_oi (c : UInt8) : ((lowB c).toNat : Int) = if 65 ≤ (c.toNat : Int) ∧ (c.toNat : Int) ≤ 90 then (c.toNat : Int) + 32 else c.toNat := by
  unfold lowB Builtin.Bytes.toLower Builtin.Bytes.isUpper
  have h1 : (decide (65 ≤ c) && decide (c ≤ 90)) = decide (65 ≤ c.toNat ∧ c.toNat ≤ 90) := by
    rw [Bool.eq_iff_iff]
    simp [UInt8.le_iff_toNat_le]
  rw [h1]
  by_cases h : 65 ≤ c.toNat ∧ c.toNat ≤ 90
  · rw [if_pos (by simpa using h), if_pos (by omega), UInt8.toNat_add]
    have : (32 : UInt8).toNat = 32 := rfl
    rw [this]
    omega
  · rw [if_neg (by simpa using h), if_neg (by omega)]
theorem oi_get {l : List UInt8} {j : Nat} {n : Int} (h : (oi l)[j]? = some n) : ∃ c, l[j]? = some c ∧ n = (c.toNat : Int) := by
  unfold oi at h
  rw [List.getElem?_map] at h
  obtain ⟨c, e, q⟩ := Option.map_eq_some_iff.mp h
  exact ⟨c, e, q.symm⟩
theorem oi_snoc {l : List UInt8} {j : Nat} {c : UInt8} (h : l[j]? = some c) (f : UInt8 → UInt8) : oi ((l.take (j + 1)).map f) = oi ((l.take j).map f) ++ [((f c).toNat : Int)] := by
  unfold oi
  rw [List.take_add_one, h]
  simp
theorem ints_snoc {vs : List Value} {ns : List Int} {n : Int} {t : Tok} (h : IntsAre vs ns) : IntsAre (vs ++ [.int n t]) (ns ++ [n]) := IntsAre.append h (.cons n t .nil)
theorem map_snoc {α β : Type} {l : List α} {j : Nat} {c : α} (h : l[j]? = some c) (f : α → β) : (l.take (j + 1)).map f = (l.take j).map f ++ [f c] := by
  rw [List.take_add_one, h]
  simp
section
variable {w : World} {A : Around} {E : Value → Shared → Prop} {s : Shared} {b : Bs} {L : Addr} {m : Str → Option Value} {R : Rel} {M : List (Addr × Obj)} {cn : Str} {cs : Scope} {fa : Addr} {cd : Value}
set_option maxHeartbeats 4000000 in
theorem small_spec {v : Value} {ls : List (List UInt8)} {Q : Value → Shared → Prop}
  (ok : Bok b) (G : Glb w b.H0) (hs : b.hs = s.heap) (ar : Ar 1 A b.fo) (hL : LL b.R₀ v ls) (hz : ls.length ≤ 1000) (hz' : ∀ l ∈ ls, l.length ≤ 1000)
  (post : ∀ r R' h' tk', Ret b R' h' → LL R' r (ls.map (·.map lowB)) → Q r { s with heap := h', toks := tk' }) :
  wpAny (model Challenge.rw_ji0018_01.row.prog w) A (call (.ref 502) [v]) Q E s := by
  obtain ⟨a, o, vs, rfl, hR, hLO, hall⟩ := hL
  refine' enter (n := 0) [(Str.ofString "labels", .ref a)] [] ok G hs ar (fun _ h => nomatch h) List.nodup_nil ?ho ?hcd ?hb ?hl ?h1 ?h2 ?h3 ?hc ?_
  walk_at "enter"
  intro L h₁ tk E' S ar
  have hh := ar.hnd
  walk_at "go"
  refine ⟨_, _, _, _, _, S, by rw [sizeLine_eq]; decide, fun told h₁ otold htold S ltold => ?_⟩
  walk_at "go"
  refine iterL (l := a) (vs := vs) hh S (fun m₀ R₀ M₀ i m' R' M' => ∃ o' us, M' = [(told, o')] ∧ LO o' us ∧ All2 (IL R') us ((ls.take i).map (·.map lowB)) ∧ (∀ c x, b.R₀ c x → R' c x) ∧ Same [Str.ofString "label", Str.ofString "row", Str.ofString "octet"] m₀ m') ?_ ?_ ?_ ?_ ?_ ?_
  · exact ⟨_, [], rfl, ltold, .nil, fun _ _ r => r, Same.refl⟩
  · rintro i m' R' M' h' ⟨o', us, rfl, h2, h3, h4, h5⟩ S'
    exact hLO.list (S'.fr _ _ (h4 _ _ hR))
  · rintro I i v m₁ R₁ M₁ h₂ tk₂ io₁ E₂ hv ⟨o', us, rfl, h2, h3, h4, h5⟩ hio S
    obtain ⟨l, hl, al, ol, vl, rfl, rl, lol, il⟩ := hall.get hv
    have hlz : l.length ≤ 1000 := hz' l (List.mem_of_getElem? hl)
    walk_at "go"
    refine ⟨_, _, _, _, _, S, by rw [sizeLine_eq]; decide, fun row h₂ orow hrow S lrow => ?_⟩
    walk_at "go"
    refine iterL (l := al) (vs := vl) hh S (fun m₀ R₀ M₀ j m' R' M' => R' = R₁ ∧ ∃ ro rs, M' = [(row, ro), (I, io₁), (told, o')] ∧ LO ro rs ∧ IntsAre rs (oi ((l.take j).map lowB)) ∧ Same [Str.ofString "octet"] m₀ m') ?_ ?_ ?_ ?_ ?_ ?_
    · exact ⟨rfl, _, [], rfl, lrow, .nil, Same.refl⟩
    · rintro j m' R' M' h' ⟨rfl, ro, rs, rfl, g2, g3, g4⟩ S'
      exact lol.list (S'.fr _ _ (h4 _ _ rl))
    · rintro I₂ j x m₂ R₂ M₂ h₃ tk₃ io₂ E₃ hx ⟨rfl, ro, rs, rfl, g2, g3, g4⟩ hio₂ S
      obtain ⟨n, tn, rfl, hn⟩ := IntsAre.at il j x hx
      walk_at "go"
      obtain ⟨c, hc, rfl⟩ := oi_get hn
      have hrs : rs.length ≤ sizeLine := by
        have := g3.length
        rw [this, sizeLine_eq]
        simp only [oi, List.length_map, List.length_take]
        omega
      have fin : ∀ h₅ o₅ n, ((lowB c).toNat : Int) = n → (∀ M', UpdL row ro o₅ [(I₂, io₂), (row, ro), (I, io₁), (told, o')] M' → St b L (ups m₂ (Str.ofString "octet") (.int c.toNat tn)) R₂ M' h₅) → ∀ t, LO o₅ (rs ++ [.int n t]) → ∃ m' R' M' io, LIt al (j + 1) io ∧ St b L m' R' ((I₂, io) :: M') h₅ ∧ R' = R₂ ∧ ∃ ro rs, M' = [(row, ro), (I, io₁), (told, o')] ∧ LO ro rs ∧ IntsAre rs (oi ((l.take (j + 1)).map lowB)) ∧ Same [Str.ofString "octet"] (ups (ups m₁ (Str.ofString "label") (.ref al)) (Str.ofString "row") (.ref row)) m' := by
        intro h₅ o₅ n hn u₅ t l₅
        have S := u₅ _ (by walk_at "upd")
        refine ⟨_, _, _, _, hio₂, S, rfl, _, _, rfl, l₅, ?_, ?_⟩
        · rw [oi_snoc hc, hn]; exact ints_snoc g3
        · walk_at "same"
      rw [lowB_oi] at fin
      by_cases h1 : (65 : Int) ≤ c.toNat
      · rw [if_pos (decide_eq_true h1)]
        walk_at "go"
        by_cases h2 : (c.toNat : Int) ≤ 90
        · rw [if_pos (decide_eq_true h2)]
          walk_at "go"
          refine methList g2 (S.get (by walk_at "mem")) PySem.F.slot_list_append PySem.F.type_list_append ?_
          walk_at "go"
          refine appendM S (by walk_at "mem") g2 (fun h₅ o₅ u₅ l₅ => ?_) hrs
          walk_at "go"
          obtain ⟨z1, z2, z3, z4, z5⟩ := fin _ _ _ (if_pos ⟨h1, h2⟩) u₅ _ l₅
          exact ⟨z1, z2, z3, _, _, z4, rfl, z5⟩
        · rw [if_neg (by simpa using h2)]
          walk_at "go"
          refine methList g2 (S.get (by walk_at "mem")) PySem.F.slot_list_append PySem.F.type_list_append ?_
          walk_at "go"
          refine appendM S (by walk_at "mem") g2 (fun h₅ o₅ u₅ l₅ => ?_) hrs
          walk_at "go"
          obtain ⟨z1, z2, z3, z4, z5⟩ := fin _ _ _ (if_neg fun q => h2 q.2) u₅ _ l₅
          exact ⟨z1, z2, z3, _, _, z4, rfl, z5⟩
      · rw [if_neg (by simpa using h1)]
        walk_at "go"
        refine methList g2 (S.get (by walk_at "mem")) PySem.F.slot_list_append PySem.F.type_list_append ?_
        walk_at "go"
        refine appendM S (by walk_at "mem") g2 (fun h₅ o₅ u₅ l₅ => ?_) hrs
        walk_at "go"
        obtain ⟨z1, z2, z3, z4, z5⟩ := fin _ _ _ (if_neg fun q => h1 q.1) u₅ _ l₅
        exact ⟨z1, z2, z3, _, _, z4, rfl, z5⟩
    · rintro m' R' M' h' tk ⟨rfl, ro, rs, rfl, g2, g3, g4⟩ S
      walk_at "go"
      refine methList h2 (S.get (by walk_at "mem")) PySem.F.slot_list_append PySem.F.type_list_append ?_
      walk_at "go"
      refine appendM S (by walk_at "mem") h2 (fun h₅ o₅ u₅ l₅ => ?_) ?_
      · replace S := u₅ _ (by walk_at "upd")
        walk_at "go"
        replace S := S.freeze hrow
        refine ⟨_, _, _, _, _, _, rfl, hio, S, _, _, rfl, l₅, ?_, fun c x r => Or.inl (h4 c x r), ?_⟩
        · rw [map_snoc hl]
          refine All2.snoc (h3.imp fun _ _ => IL.mono Rel.le_ins) ⟨row, ro, rs, rfl, .inr ⟨rfl, rfl⟩, g2, ?_⟩
          rw [il.length, show (oi l).length = l.length from List.length_map _, List.take_length] at g3
          exact g3
        · exact Same.trans (by walk_at "same") (g4.more (by decide +kernel))
      · rw [h3.length, sizeLine_eq]
        simp only [List.length_map, List.length_take]
        omega
    · rfl
    · rfl
  · rintro m' R' M' h' tk ⟨o', us, rfl, h2, h3, h4, h5⟩ S
    walk_at "go"
    replace S := S.freeze htold
    refine post _ _ _ _ S.toRet ⟨told, o', us, rfl, .inr ⟨rfl, rfl⟩, h2, ?_⟩
    rw [hall.length, List.take_length] at h3
    exact h3.imp fun _ _ => IL.mono Rel.le_ins
  · rfl
  · rfl
end
end

/-! F2 -/
section
open PySem PySem.W PyProof.Rows PySem.Calls
def turnB (c : UInt8) : UInt8 := if 65 ≤ c ∧ c ≤ 90 then c + 32 else if 97 ≤ c ∧ c ≤ 122 then c - 32 else c
theorem turnB_oi (c : UInt8) : ((turnB c).toNat : Int) = if 65 ≤ (c.toNat : Int) ∧ (c.toNat : Int) ≤ 90 then (c.toNat : Int) + 32 else if 97 ≤ (c.toNat : Int) ∧ (c.toNat : Int) ≤ 122 then (c.toNat : Int) - 32 else c.toNat := by
  unfold turnB
  have := c.toNat_lt
  have h65 : (65 : UInt8) ≤ c ↔ 65 ≤ (c.toNat : Int) := by rw [UInt8.le_iff_toNat_le]; show 65 ≤ c.toNat ↔ _; omega
  have h90 : c ≤ (90 : UInt8) ↔ (c.toNat : Int) ≤ 90 := by rw [UInt8.le_iff_toNat_le]; show c.toNat ≤ 90 ↔ _; omega
  have h97 : (97 : UInt8) ≤ c ↔ 97 ≤ (c.toNat : Int) := by rw [UInt8.le_iff_toNat_le]; show 97 ≤ c.toNat ↔ _; omega
  have h122 : c ≤ (122 : UInt8) ↔ (c.toNat : Int) ≤ 122 := by rw [UInt8.le_iff_toNat_le]; show c.toNat ≤ 122 ↔ _; omega
  simp only [h65, h90, h97, h122]
  have e32 : (32 : UInt8).toNat = 32 := rfl
  split
  · rw [UInt8.toNat_add, e32]; omega
  · split
    · rw [UInt8.toNat_sub, e32]; omega
    · rfl
section
variable {w : World} {A : Around} {E : Value → Shared → Prop} {s : Shared} {b : Bs} {L : Addr} {m : Str → Option Value} {R : Rel} {M : List (Addr × Obj)} {cn : Str} {cs : Scope} {fa : Addr} {cd : Value}
set_option maxHeartbeats 4000000 in
theorem turned_spec {v : Value} {ls : List (List UInt8)} {Q : Value → Shared → Prop}
  (ok : Bok b) (G : Glb w b.H0) (hs : b.hs = s.heap) (ar : Ar 1 A b.fo) (hL : LL b.R₀ v ls) (hz : ls.length ≤ 1000) (hz' : ∀ l ∈ ls, l.length ≤ 1000)
  (post : ∀ r R' h' tk', Ret b R' h' → LL R' r (ls.map (·.map turnB)) → Q r { s with heap := h', toks := tk' }) :
  wpAny (model Challenge.rw_ji0018_01.row.prog w) A (call (.ref 509) [v]) Q E s := by
  obtain ⟨a, o, vs, rfl, hR, hLO, hall⟩ := hL
  refine' enter (n := 0) [(Str.ofString "labels", .ref a)] [] ok G hs ar (fun _ h => nomatch h) List.nodup_nil ?ho ?hcd ?hb ?hl ?h1 ?h2 ?h3 ?hc ?_
  walk_at "enter"
  intro L h₁ tk E' S ar
  have hh := ar.hnd
  walk_at "go"
  refine ⟨_, _, _, _, _, S, by rw [sizeLine_eq]; decide, fun told h₁ otold htold S ltold => ?_⟩
  walk_at "go"
  refine iterL (l := a) (vs := vs) hh S (fun m₀ R₀ M₀ i m' R' M' => ∃ o' us, M' = [(told, o')] ∧ LO o' us ∧ All2 (IL R') us ((ls.take i).map (·.map turnB)) ∧ (∀ c x, b.R₀ c x → R' c x) ∧ Same [Str.ofString "label", Str.ofString "row", Str.ofString "octet"] m₀ m') ?_ ?_ ?_ ?_ ?_ ?_
  · exact ⟨_, [], rfl, ltold, .nil, fun _ _ r => r, Same.refl⟩
  · rintro i m' R' M' h' ⟨o', us, rfl, h2, h3, h4, h5⟩ S'
    exact hLO.list (S'.fr _ _ (h4 _ _ hR))
  · rintro I i v m₁ R₁ M₁ h₂ tk₂ io₁ E₂ hv ⟨o', us, rfl, h2, h3, h4, h5⟩ hio S
    obtain ⟨l, hl, al, ol, vl, rfl, rl, lol, il⟩ := hall.get hv
    have hlz : l.length ≤ 1000 := hz' l (List.mem_of_getElem? hl)
    walk_at "go"
    refine ⟨_, _, _, _, _, S, by rw [sizeLine_eq]; decide, fun row h₂ orow hrow S lrow => ?_⟩
    walk_at "go"
    refine iterL (l := al) (vs := vl) hh S (fun m₀ R₀ M₀ j m' R' M' => R' = R₁ ∧ ∃ ro rs, M' = [(row, ro), (I, io₁), (told, o')] ∧ LO ro rs ∧ IntsAre rs (oi ((l.take j).map turnB)) ∧ Same [Str.ofString "octet"] m₀ m') ?_ ?_ ?_ ?_ ?_ ?_
    · exact ⟨rfl, _, [], rfl, lrow, .nil, Same.refl⟩
    · rintro j m' R' M' h' ⟨rfl, ro, rs, rfl, g2, g3, g4⟩ S'
      exact lol.list (S'.fr _ _ (h4 _ _ rl))
    · rintro I₂ j x m₂ R₂ M₂ h₃ tk₃ io₂ E₃ hx ⟨rfl, ro, rs, rfl, g2, g3, g4⟩ hio₂ S
      obtain ⟨n, tn, rfl, hn⟩ := IntsAre.at il j x hx
      walk_at "go"
      obtain ⟨c, hc, rfl⟩ := oi_get hn
      have hrs : rs.length ≤ sizeLine := by
        have := g3.length
        rw [this, sizeLine_eq]
        simp only [oi, List.length_map, List.length_take]
        omega
      have fin : ∀ h₅ o₅ n, ((turnB c).toNat : Int) = n → (∀ M', UpdL row ro o₅ [(I₂, io₂), (row, ro), (I, io₁), (told, o')] M' → St b L (ups m₂ (Str.ofString "octet") (.int c.toNat tn)) R₂ M' h₅) → ∀ t, LO o₅ (rs ++ [.int n t]) → ∃ m' R' M' io, LIt al (j + 1) io ∧ St b L m' R' ((I₂, io) :: M') h₅ ∧ R' = R₂ ∧ ∃ ro rs, M' = [(row, ro), (I, io₁), (told, o')] ∧ LO ro rs ∧ IntsAre rs (oi ((l.take (j + 1)).map turnB)) ∧ Same [Str.ofString "octet"] (ups (ups m₁ (Str.ofString "label") (.ref al)) (Str.ofString "row") (.ref row)) m' := by
        intro h₅ o₅ n hn u₅ t l₅
        have S := u₅ _ (by walk_at "upd")
        refine ⟨_, _, _, _, hio₂, S, rfl, _, _, rfl, l₅, ?_, ?_⟩
        · rw [oi_snoc hc, hn]; exact ints_snoc g3
        · walk_at "same"
      rw [turnB_oi] at fin
      by_cases h1 : (65 : Int) ≤ c.toNat
      · rw [if_pos (decide_eq_true h1)]
        walk_at "go"
        by_cases h2 : (c.toNat : Int) ≤ 90
        · rw [if_pos (decide_eq_true h2)]
          walk_at "go"
          refine methList g2 (S.get (by walk_at "mem")) PySem.F.slot_list_append PySem.F.type_list_append ?_
          walk_at "go"
          refine appendM S (by walk_at "mem") g2 (fun h₅ o₅ u₅ l₅ => ?_) hrs
          walk_at "go"
          obtain ⟨z1, z2, z3, z4, z5⟩ := fin _ _ _ (if_pos ⟨h1, h2⟩) u₅ _ l₅
          exact ⟨z1, z2, z3, _, _, z4, rfl, z5⟩
        · rw [if_neg (by simpa using h2)]
          walk_at "go"
          by_cases h3 : (97 : Int) ≤ c.toNat
          · rw [if_pos (decide_eq_true h3)]
            walk_at "go"
            by_cases h4 : (c.toNat : Int) ≤ 122
            · rw [if_pos (decide_eq_true h4)]
              walk_at "go"
              refine methList g2 (S.get (by walk_at "mem")) PySem.F.slot_list_append PySem.F.type_list_append ?_
              walk_at "go"
              refine appendM S (by walk_at "mem") g2 (fun h₅ o₅ u₅ l₅ => ?_) hrs
              walk_at "go"
              obtain ⟨z1, z2, z3, z4, z5⟩ := fin _ _ _ (by rw [if_neg fun q => h2 q.2, if_pos ⟨h3, h4⟩]) u₅ _ l₅
              exact ⟨z1, z2, z3, _, _, z4, rfl, z5⟩
            · rw [if_neg (by simpa using h4)]
              walk_at "go"
              refine methList g2 (S.get (by walk_at "mem")) PySem.F.slot_list_append PySem.F.type_list_append ?_
              walk_at "go"
              refine appendM S (by walk_at "mem") g2 (fun h₅ o₅ u₅ l₅ => ?_) hrs
              walk_at "go"
              obtain ⟨z1, z2, z3, z4, z5⟩ := fin _ _ _ (by rw [if_neg fun q => h2 q.2, if_neg fun q => h4 q.2]) u₅ _ l₅
              exact ⟨z1, z2, z3, _, _, z4, rfl, z5⟩
          · rw [if_neg (by simpa using h3)]
            walk_at "go"
            refine methList g2 (S.get (by walk_at "mem")) PySem.F.slot_list_append PySem.F.type_list_append ?_
            walk_at "go"
            refine appendM S (by walk_at "mem") g2 (fun h₅ o₅ u₅ l₅ => ?_) hrs
            walk_at "go"
            obtain ⟨z1, z2, z3, z4, z5⟩ := fin _ _ _ (by rw [if_neg fun q => h2 q.2, if_neg fun q => h3 q.1]) u₅ _ l₅
            exact ⟨z1, z2, z3, _, _, z4, rfl, z5⟩
      · rw [if_neg (by simpa using h1)]
        walk_at "go"
        rw [if_neg (show ¬ decide ((97 : Int) ≤ c.toNat) = true by simp; omega)]
        walk_at "go"
        refine methList g2 (S.get (by walk_at "mem")) PySem.F.slot_list_append PySem.F.type_list_append ?_
        walk_at "go"
        refine appendM S (by walk_at "mem") g2 (fun h₅ o₅ u₅ l₅ => ?_) hrs
        walk_at "go"
        obtain ⟨z1, z2, z3, z4, z5⟩ := fin _ _ _ (by rw [if_neg fun q => h1 q.1, if_neg (by omega)]) u₅ _ l₅
        exact ⟨z1, z2, z3, _, _, z4, rfl, z5⟩
    · rintro m' R' M' h' tk ⟨rfl, ro, rs, rfl, g2, g3, g4⟩ S
      walk_at "go"
      refine methList h2 (S.get (by walk_at "mem")) PySem.F.slot_list_append PySem.F.type_list_append ?_
      walk_at "go"
      refine appendM S (by walk_at "mem") h2 (fun h₅ o₅ u₅ l₅ => ?_) ?_
      · replace S := u₅ _ (by walk_at "upd")
        walk_at "go"
        replace S := S.freeze hrow
        refine ⟨_, _, _, _, _, _, rfl, hio, S, _, _, rfl, l₅, ?_, fun c x r => Or.inl (h4 c x r), ?_⟩
        · rw [map_snoc hl]
          refine All2.snoc (h3.imp fun _ _ => IL.mono Rel.le_ins) ⟨row, ro, rs, rfl, .inr ⟨rfl, rfl⟩, g2, ?_⟩
          rw [il.length, show (oi l).length = l.length from List.length_map _, List.take_length] at g3
          exact g3
        · exact Same.trans (by walk_at "same") (g4.more (by decide +kernel))
      · rw [h3.length, sizeLine_eq]
        simp only [List.length_map, List.length_take]
        omega
    · rfl
    · rfl
  · rintro m' R' M' h' tk ⟨o', us, rfl, h2, h3, h4, h5⟩ S
    walk_at "go"
    replace S := S.freeze htold
    refine post _ _ _ _ S.toRet ⟨told, o', us, rfl, .inr ⟨rfl, rfl⟩, h2, ?_⟩
    rw [hall.length, List.take_length] at h3
    exact h3.imp fun _ _ => IL.mono Rel.le_ins
  · rfl
  · rfl
end
end

/-! F3 -/
section
open PySem PySem.W PyProof.Rows PySem.Calls
def LAWLABS : List (List UInt8) := [[97], [65], [98], [97, 98], [65, 66], [91], [123], [193], [225]]
theorem lawlabels_at {w : World} {h : Heap} (X : (topK w.params).In h) : ∃ vs : List Value, IsTup h 487 vs.toArray ∧ All2 (fun v l => ∃ a ws, v = .ref a ∧ IsTup h a ws.toArray ∧ IntsAre ws (oi l)) vs LAWLABS := by
  have e := X 487 _ (by k_is)
  have e0 := X 478 _ (by k_is)
  have e1 := X 479 _ (by k_is)
  have e2 := X 480 _ (by k_is)
  have e3 := X 481 _ (by k_is)
  have e4 := X 482 _ (by k_is)
  have e5 := X 483 _ (by k_is)
  have e6 := X 484 _ (by k_is)
  have e7 := X 485 _ (by k_is)
  have e8 := X 486 _ (by k_is)
  refine ⟨_, ⟨_, e, rfl, _, rfl⟩, ?_⟩
  refine .cons ⟨_, _, rfl, ⟨_, e0, rfl, _, rfl⟩, ?_⟩ (.cons ⟨_, _, rfl, ⟨_, e1, rfl, _, rfl⟩, ?_⟩ (.cons ⟨_, _, rfl, ⟨_, e2, rfl, _, rfl⟩, ?_⟩ (.cons ⟨_, _, rfl, ⟨_, e3, rfl, _, rfl⟩, ?_⟩ (.cons ⟨_, _, rfl, ⟨_, e4, rfl, _, rfl⟩, ?_⟩ (.cons ⟨_, _, rfl, ⟨_, e5, rfl, _, rfl⟩, ?_⟩ (.cons ⟨_, _, rfl, ⟨_, e6, rfl, _, rfl⟩, ?_⟩ (.cons ⟨_, _, rfl, ⟨_, e7, rfl, _, rfl⟩, ?_⟩ (.cons ⟨_, _, rfl, ⟨_, e8, rfl, _, rfl⟩, ?_⟩ .nil))))))))
  all_goals (repeat' constructor)
def freshv (n : Nat) : List (List UInt8) := (List.range (n % 4)).map (fun i => LAWLABS.getD (n / 8 / 9 ^ i % 9) []) ++ if n / 4 % 2 = 1 then [[]] else []
section
variable {w : World} {A : Around} {E : Value → Shared → Prop} {s : Shared} {b : Bs} {L : Addr} {m : Str → Option Value} {R : Rel} {M : List (Addr × Obj)} {cn : Str} {cs : Scope} {fa : Addr} {cd : Value}
set_option maxHeartbeats 4000000 in
theorem fresh_spec {n : Nat} {t : Tok} {Q : Value → Shared → Prop}
  (ok : Bok b) (G : Glb w b.H0) (hs : b.hs = s.heap) (ar : Ar 1 A b.fo)
  (post : ∀ r R' h' tk', Ret b R' h' → LL R' r (freshv n) → Q r { s with heap := h', toks := tk' }) :
  wpAny (model Challenge.rw_ji0018_01.row.prog w) A (call (.ref 516) [.int n t]) Q E s := by
  refine' enter (n := 0) [(Str.ofString "number", .int n t)] [] ok G hs ar (fun _ h => nomatch h) List.nodup_nil ?ho ?hcd ?hb ?hl ?h1 ?h2 ?h3 ?hc ?_
  walk_at "enter"
  intro L h₁ tk E' S ar
  have hh := ar.hnd
  walk_at "go"
  refine ⟨_, _, _, _, _, S, by rw [sizeLine_eq]; decide, fun told h₁ otold htold S ltold => ?_⟩
  walk_at "go"
  refine iterR hh S ra (by omega) (fun m₀ R₀ M₀ i m' R' M' => ∃ o' us t, M' = [(told, o')] ∧ LO o' us ∧ All2 (IL R') us ((List.range i).map (fun i => LAWLABS.getD (n / 8 / 9 ^ i % 9) [])) ∧ (∀ c x, b.R₀ c x → R' c x) ∧ m' (Str.ofString "rest") = some (.int (n / 8 / 9 ^ i : Nat) t) ∧ Same [Str.ofString "place", Str.ofString "rest"] m₀ m') ?_ ?_ ?_ ?_ ?_
  · exact ⟨_, _, _, rfl, ltold, .nil, fun _ _ r => r, by simpa using (by walk_at "look"), Same.refl⟩
  · rintro I i t' m₁ R₁ M₁ h₂ tk₂ io₁ E₂ hi ⟨o', us, tr, rfl, h2, h3, h4, hr, h5⟩ hio S
    walk_at "go"
    have hus : us.length ≤ 3 := by have := h3.length; simp at this; omega
    refine methAppend h2 S (by walk_at "mem") ?_
    walk_at "go"
    obtain ⟨ls, hlt, hla⟩ := lawlabels_at (S.kin G)
    have hz : ls.length = 9 := hla.length
    obtain ⟨v, hv⟩ : ∃ v, ls[n / 8 / 9 ^ i % 9]? = some v := ⟨ls[n / 8 / 9 ^ i % 9], List.getElem?_eq_getElem _⟩
    obtain ⟨lab, hlab, a, ws, rfl, hw, hwi⟩ := hla.get hv
    refine itT (n / 8 / 9 ^ i % 9) hlt rfl hv (by omega) ?_
    walk_at "go"
    have hlz : ∀ lab ∈ LAWLABS, lab.length ≤ 2 := by decide +kernel
    refine listOfSeq S (.inr hw) (fun d od h₃ hd S lod => ?_) (by rw [hwi.length, oi, List.length_map, sizeLine_eq]; have := hlz _ (List.mem_of_getElem? hlab); omega)
    walk_at "go"
    refine appendM S (by walk_at "mem") h2 (fun h₅ o₅ u₅ l₅ => ?_) (by rw [sizeLine_eq]; omega)
    replace S := u₅ _ (by walk_at "upd")
    walk_at "go"
    replace S := S.freeze hd
    refine' ⟨_, _, _, _, _, _, rfl, hio, S, _, _, _, rfl, l₅, ?g1, fun c x r => Or.inl (h4 c x r), ?g2, ?g3⟩
    case g1 =>
      rw [List.range_succ, List.map_append]
      refine (h3.imp fun _ _ => IL.mono Rel.le_ins).snoc ⟨d, od, ws, rfl, .inr ⟨rfl, rfl⟩, lod, ?_⟩
      show IntsAre ws (oi (LAWLABS.getD (n / 8 / 9 ^ i % 9) []))
      rw [List.getD_eq_getElem?_getD, hlab]
      exact hwi
    case g2 =>
      rw [show n / 8 / 9 ^ (i + 1) = n / 8 / 9 ^ i / 9 by rw [Nat.pow_succ, ← Nat.div_div_eq_div_mul]]
      walk_at "look"
    case g3 => walk_at "same"
  · rintro m' R' M' h' tk ⟨o', us, tr, rfl, h2, h3, h4, hr, h5⟩ S
    walk_at "go"
    have e : ((n % 4 : Nat) : Int) - 0 = (n % 4 : Nat) := Int.sub_zero _
    rw [e, Int.toNat_natCast] at h3
    have hus : us.length ≤ 3 := by have := h3.length; simp at this; omega
    by_cases h1 : n / 4 % 2 = 1
    · rw [if_pos (by rw [h1]; rfl)]
      walk_at "go"
      refine methAppend h2 S (by walk_at "mem") ?_
      walk_at "go"
      refine ⟨_, _, _, _, _, S, by rw [sizeLine_eq]; decide, fun nl h₃ onl hnl S lnl => ?_⟩
      walk_at "go"
      refine appendM S (by walk_at "mem") h2 (fun h₅ o₅ u₅ l₅ => ?_) (by rw [sizeLine_eq]; omega)
      replace S := u₅ _ (by walk_at "upd")
      walk_at "go"
      replace S := (S.freeze hnl).freeze htold
      refine post _ _ _ _ S.toRet ⟨told, _, _, rfl, .inr ⟨rfl, rfl⟩, l₅, ?_⟩
      unfold freshv
      rw [if_pos h1]
      exact (h3.imp fun _ _ => IL.mono fun c x r => Or.inl (Or.inl r)).snoc ⟨nl, _, _, rfl, .inl (.inr ⟨rfl, rfl⟩), lnl, .nil⟩
    · rw [if_neg (by simp; omega)]
      walk_at "go"
      replace S := S.freeze htold
      refine post _ _ _ _ S.toRet ⟨told, _, _, rfl, .inr ⟨rfl, rfl⟩, h2, ?_⟩
      unfold freshv
      rw [if_neg h1, List.append_nil]
      exact h3.imp fun _ _ => IL.mono Rel.le_ins
  · rfl
  · rfl
end
end

/-! N1 -/
section
open PySem PySem.W PyProof.Rows PySem.Calls
section
variable {w : World} {A : Around} {E : Value → Shared → Prop} {s : Shared} {b : Bs} {L : Addr} {m : Str → Option Value} {R : Rel} {M : List (Addr × Obj)} {cn : Str} {cs : Scope} {fa : Addr} {cd : Value}
set_option maxHeartbeats 4000000 in
theorem conv_spec {x : List UInt8} {t : Tok} {Q : Value → Shared → Prop}
  (ok : Bok b) (G : Glb w b.H0) (hs : b.hs = s.heap) (ar : Ar 1 A b.fo)
  (post : ∀ R' h' tk', Ret b R' h' → R' = b.R₀ → Q (.bytes x.toArray t) { s with heap := h', toks := tk' }) :
  wpAny (model Challenge.rw_ji0018_01.row.prog w) A (call (.ref 134) [.bytes x.toArray t]) Q E s := by
  refine' enter (n := 0) [(Str.ofString "label", .bytes x.toArray t)] [] ok G hs ar (fun _ h => nomatch h) List.nodup_nil ?ho ?hcd ?hb ?hl ?h1 ?h2 ?h3 ?hc ?_
  walk_at "enter"
  intro L h₁ tk E' S ar
  walk_at "go"
  refine isBytes S G fun tk => ?_
  walk_at "go"
  exact post _ _ _ S.toRet rfl
/-- what a name's labels must be -/
structure Good (ls : List (List UInt8)) : Prop where
  few : ls.length ≤ 6
  short : ∀ l ∈ ls, l.length ≤ 2
  root : ∀ i, ls[i]? = some [] → i + 1 = ls.length
set_option maxHeartbeats 4000000 in
theorem validate_spec {a : Addr} {ls : List (List UInt8)} {Q : Value → Shared → Prop}
  (ok : Bok b) (G : Glb w b.H0) (hs : b.hs = s.heap) (ar : Ar 1 A b.fo) (ht : TBa b.R₀ a ls) (hg : Good ls)
  (post : ∀ R' h' tk', Ret b R' h' → R' = b.R₀ → Q .none { s with heap := h', toks := tk' }) :
  wpAny (model Challenge.rw_ji0018_01.row.prog w) A (call (.ref 127) [.ref a]) Q E s := by
  obtain ⟨o, vs, hR, hT, hv⟩ := ht
  have hvl := hv.length
  have hf := hg.few
  refine' enter (n := 0) [(Str.ofString "labels", .ref a)] [] ok G hs ar (fun _ h => nomatch h) List.nodup_nil ?ho ?hcd ?hb ?hl ?h1 ?h2 ?h3 ?hc ?_
  walk_at "enter"
  intro L h₁ tk E' S ar
  have hh := ar.hnd
  walk_at "go"
  refine lenT (hT.tup (S.fr _ _ (S.sub _ _ hR))) (by omega) fun t k => ?_
  walk_at "go"
  refine iterT (l := a) (vs := vs) hh S (fun m₀ R₀ M₀ i m' R' M' => ∃ (tot ix : Int) (t1 t2 t3 : Tok), M' = [] ∧ R' = b.R₀ ∧ m' (Str.ofString "total") = some (.int tot t1) ∧ 0 ≤ tot ∧ tot ≤ 3 * i ∧ m' (Str.ofString "i") = some (.int ix t2) ∧ (ix < 0 ∨ ix = (ls.length : Int) - 1) ∧ m' (Str.ofString "j") = some (.int (i : Nat) t3) ∧ Same [Str.ofString "label", Str.ofString "total", Str.ofString "i", Str.ofString "j", Str.ofString "ll"] m₀ m') ?_ ?_ ?_ ?_ ?_ ?_
  · exact ⟨0, -1, _, _, _, rfl, rfl, by walk_at "look", by omega, by omega, by walk_at "look", by omega, by walk_at "lookr", Same.refl⟩
  · rintro i m' R' M' h' ⟨tot, ix, t1, t2, t3, rfl, rfl, h2, h3, h3', h4, h5, h6, h7⟩ S'
    exact hT.tup (S'.fr _ _ hR)
  · rintro I i v m₁ R₁ M₁ h₂ tk₂ io₁ E₂ hi ⟨tot, ix, t1, t2, t3, rfl, rfl, h2, h3, h3', h4, h5, h6, h7⟩ hio S
    obtain ⟨l, hl, t, rfl⟩ := hv.get hi
    have hlz : l.length ≤ 2 := hg.short _ (List.mem_of_getElem? hl)
    have hlt : i < ls.length := (List.getElem?_eq_some_iff.mp hl).1
    walk_at "go"
    refine lenB (by omega) fun t k => ?_
    walk_at "go"
    rw [if_neg (by simp; omega)]
    walk_at "go"
    by_cases hneg : ix < 0
    · rw [if_pos (by simpa using hneg)]
      walk_at "go"
      by_cases hl0 : l = []
      · have hroot := hg.root i (hl0 ▸ hl)
        rw [if_pos (by simp [hl0])]
        walk_at "go"
        refine' ⟨_, _, _, _, _, _, rfl, hio, S, _, _, _, _, _, rfl, rfl, ?a, ?b, ?c, ?d, ?e, ?f, ?g⟩
        case a => walk_at "look"
        case b => omega
        case c => push_cast; omega
        case d => walk_at "look"
        case e => omega
        case f => walk_at "lookr"
        case g => walk_at "same"
      · rw [if_neg (by simpa using hl0)]
        walk_at "go"
        refine' ⟨_, _, _, _, _, _, rfl, hio, S, _, _, _, _, _, rfl, rfl, ?a, ?b, ?c, ?d, ?e, ?f, ?g⟩
        case a => walk_at "look"
        case b => omega
        case c => push_cast; omega
        case d => walk_at "look"
        case e => omega
        case f => walk_at "lookr"
        case g => walk_at "same"
    · rw [if_neg (by simpa using hneg)]
      walk_at "go"
      refine' ⟨_, _, _, _, _, _, rfl, hio, S, _, _, _, _, _, rfl, rfl, ?a, ?b, ?c, ?d, ?e, ?f, ?g⟩
      case a => walk_at "look"
      case b => omega
      case c => push_cast; omega
      case d => walk_at "look"
      case e => omega
      case f => walk_at "lookr"
      case g => walk_at "same"
  · rintro m' R' M' h' tk ⟨tot, ix, t1, t2, t3, rfl, rfl, h2, h3, h3', h4, h5, h6, h7⟩ S
    walk_at "go"
    rw [if_neg (by simp; omega)]
    walk_at "go"
    rcases h5 with h5 | h5
    · rw [if_neg (by simp; omega)]
      walk_at "go"
      exact post _ _ _ S.toRet rfl
    · by_cases h0 : 0 ≤ ix
      · rw [if_pos (by simpa using h0)]
        walk_at "go"
        rw [if_neg (by simp; omega)]
        walk_at "go"
        exact post _ _ _ S.toRet rfl
      · rw [if_neg (by simpa using h0)]
        walk_at "go"
        exact post _ _ _ S.toRet rfl
  · rfl
  · rfl
end
end

/-! N2 -/
section
open PySem PySem.W PyProof.Rows PySem.Calls
section
variable {w : World} {A : Around} {E : Value → Shared → Prop} {s : Shared} {b : Bs} {L : Addr} {m : Str → Option Value} {R : Rel} {M : List (Addr × Obj)} {cn : Str} {cs : Scope} {fa : Addr} {cd : Value}
set_option maxHeartbeats 4000000 in
theorem newName_spec {a : Addr} {ls : List (List UInt8)} {vs : List Value} {Q : Value → Shared → Prop}
  (S : St b L m R M s.heap) (G : Glb w b.H0) (ar : Ar 3 A (L :: b.fo)) (hsrc : Src R a vs) (hvs : All2 BV vs ls) (hg : Good ls)
  (post : ∀ x R' h' tk', St b L m R' M h' → (∀ c o, R c o → R' c o) → NA R' (.ref x) ls → Q (.ref x) { s with heap := h', toks := tk' }) :
  wpAny (model Challenge.rw_ji0018_01.row.prog w) A (call (.ref 351) [.ref a]) Q E s := by
  have hlen := hvs.length
  have hfew := hg.few
  refine makeC (fI := 146) S G (by k_is) (by k_is) (by k_is) fun x dx h' hne hx0 hd0 S₁ => ?_
  refine' enterC (b := b.at L R h' [x, dx]) (n := 1) [(Str.ofString "labels", .ref a), (Str.ofString "self", .ref x)] [(x, instObj 351 dx), (dx, dictOf [] 0)] (S₁.call [x, dx] ?hW) G rfl ar.under ?hM ?hnd ?ho ?hcd ?hb ?hl ?h1 ?h2 ?h3 ?hc ?_
  walk_at "enter"
  case hW => simp
  case hM =>
    intro p hp
    rcases List.mem_cons.mp hp with rfl | hp
    · exact ⟨S₁.mu _ (.head _), .head _⟩
    · rcases List.mem_cons.mp hp with rfl | hp
      · exact ⟨S₁.mu _ (.tail _ (.head _)), .tail _ (.head _)⟩
      · cases hp
  case hnd => simpa using hne
  intro L₂ h₂ tk S ar
  have hh := ar.hnd
  walk_at "go"
  refine' assignCompS (b := b.at L R h' [x, dx]) (L := L₂) hh (fun i y _ => vs[i]? = some y) (fun _ _ _ _ _ h => h) ?c1 ?c2 ?c3 ?c4 ?c5 ?c6 ?c7 ?c8 ?c9 ?_
  case c1 => exact rfl
  case c2 => decide
  case c3 => decide
  case c4 => exact rfl
  case c5 => decide
  case c6 => exact rfl
  case c7 => exact rfl
  case c8 => exact rfl
  case c9 => exact fun _ => rfl
  walk_at "go"

  refine ⟨_, _, _, a, vs, rfl, S, hsrc, by rw [sizeLine_eq]; omega, ?_, ?_⟩
  · intro C i v mc R₁ M₁ h₁ tk E' hv hC hx hsM hsR S
    obtain ⟨l, hl, t, rfl⟩ := hvs.get hv
    walk_at "go"
    refine ⟨S.kin G, conv_spec S.call0 G rfl ar fun R' h' tk' r e => ?_⟩
    exact ⟨R', h', tk', rfl, r, hv⟩
  · intro D dO' R' h₃ tk ys hsub S hD hl hlen' hys

    have hye : ys = vs := List.ext_getElem? fun i => by
      rcases Nat.lt_or_ge i ys.length with q | q
      · have e : ys[i]? = some ys[i] := List.getElem?_eq_getElem q
        rw [hys i _ e]; exact e
      · rw [List.getElem?_eq_none q, List.getElem?_eq_none (by omega)]
    subst hye
    walk_at "go"
    refine tupleOfList S (hl.list (S.get (by walk_at "mem"))) (fun d od h₄ S hd => ?_) (by rw [sizeLine_eq]; omega)
    walk_at "go"
    refine setA S G (S.get (by walk_at "mem")) (by walk_at "mem") (by k_is) (by k_is) (by k_is) (by k_is) rfl rfl (Nat.le_of_ble_eq_true rfl) fun h₅ u₅ => ?_
    replace S := u₅ _ (by walk_at "upd")
    walk_at "go"
    refine getA S G (S.get (by walk_at "mem")) (S.get (by walk_at "mem")) (by k_is) (by k_is) (by k_is) (by k_is) rfl rfl ?_
    walk_at "go"
    have htb : TBa (R'.ins d od) d ls := ⟨od, ys, .inr ⟨rfl, rfl⟩, hd, hvs⟩
    refine ⟨S.kin G, validate_spec S.call0 G rfl ar htb hg fun R₆ h₆ tk₆ r e => ?_⟩
    walk_at "go"
    replace S := S.ret r
    subst e
    refine ⟨rfl, ?_⟩
    have S₂ := St.retS (MW := [(x, instObj 351 dx), (dx, dictOf [] 0)]) S₁ S.tail rfl rfl
    have S₃ := ((S₂.freeze hx0).freeze hd0)
    refine post x _ _ _ S₃ (fun c o r => .inl (.inl (.inl (hsub c o r)))) ⟨x, dx, _, _, d, rfl, .inl (.inr ⟨rfl, rfl⟩), .inr ⟨rfl, rfl⟩, rfl, htb.mono fun c o r => .inl (.inl r)⟩
end
end

/-! N3 -/
section
open PySem PySem.W PyProof.Rows PySem.Calls
section
variable {w : World} {A : Around} {E : Value → Shared → Prop} {s : Shared} {b : Bs} {L : Addr} {m : Str → Option Value} {R : Rel} {M : List (Addr × Obj)} {cn : Str} {cs : Scope} {fa : Addr} {cd : Value}
set_option maxHeartbeats 4000000 in
theorem name_spec {v : Value} {ls : List (List UInt8)} {Q : Value → Shared → Prop}
  (ok : Bok b) (G : Glb w b.H0) (hs : b.hs = s.heap) (ar : Ar 4 A b.fo) (hL : LL b.R₀ v ls) (hg : Good ls)
  (post : ∀ x R' h' tk', Ret b R' h' → NA R' x ls → Q x { s with heap := h', toks := tk' }) :
  wpAny (model Challenge.rw_ji0018_01.row.prog w) A (call (.ref 528) [v]) Q E s := by
  obtain ⟨a, o, vs, rfl, hR, hLO, hall⟩ := hL
  have hlen := hall.length
  have hfew := hg.few
  refine' enter (n := 3) [(Str.ofString "labels", .ref a)] [] ok G hs ar (fun _ h => nomatch h) List.nodup_nil ?ho ?hcd ?hb ?hl ?h1 ?h2 ?h3 ?hc ?_
  walk_at "enter"
  intro L h₁ tk E' S ar
  have hh := ar.hnd
  walk_at "go"
  refine' listCompS (b := b) (L := L) hh (fun i y _ => ∀ l, ls[i]? = some l → BV y l) (fun _ _ _ _ _ h => h) ?c1 ?c2 ?c3 ?c4 ?c5 ?c6 ?_
  case c1 => decide
  case c2 => decide
  case c3 => exact rfl
  case c4 => decide
  case c5 => exact rfl
  case c6 => exact fun _ => rfl
  walk_at "go"
  refine ⟨_, _, _, a, vs, rfl, S, ⟨o, hR, .inl hLO⟩, by rw [sizeLine_eq]; omega, ?_, ?_⟩
  · intro C i v mc R₁ M₁ h₁ tk E' hv hC hx hsM hsR S
    obtain ⟨l, hl, al, ol, vl, rfl, rl, lol, il⟩ := hall.get hv
    have hlz : l.length ≤ 2 := hg.short l (List.mem_of_getElem? hl)
    walk_at "go"
    refine bytesOfList S (lol.list (S.fr _ _ (hsR _ _ rl))) il hh (fun h' t k hk S' => ?_) (by rw [il.length, oi, List.length_map, sizeLine_eq]; omega)
    exact ⟨_, h', k, rfl, S.adds0 hk, fun l' hl' => by rw [hl] at hl'; cases hl'; exact ⟨t, rfl⟩⟩
  · intro D dO' R' h₃ tk ys hsub S hD hl hlen' hys
    walk_at "go"
    replace S := S.freeze hD
    refine ⟨S.kin G, newName_spec (vs := ys) (ls := ls) S G ar ⟨dO', .inr ⟨rfl, rfl⟩, .inl hl⟩ ?_ hg fun x R' h' tk' S hR' hN => ?_⟩
    · exact All2.of_get (by omega) hys
    · exact post _ _ _ _ S.toRet hN
end
end

/-! N4 -/
section
open PySem PySem.W PyProof.Rows PySem.Calls
section
variable {w : World} {A : Around} {E : Value → Shared → Prop} {s : Shared} {b : Bs} {L : Addr} {m : Str → Option Value} {R : Rel} {M : List (Addr × Obj)} {cn : Str} {cs : Scope} {fa : Addr} {cd : Value}
theorem Ar.in1 {n : Nat} {fs : List Addr} (a : Ar (n + 1) A fs) : Ar n A.in1 fs where
  depth := by have := a.depth; show A.depth + n < _; omega
  units := by have := a.units; show A.units + 1 + 100 * n + 200 < _; omega
  hnd := a.hnd
  frames := a.frames
/-- labels in small letters -/
def lowL (ls : List (List UInt8)) : List (List UInt8) := ls.map (·.map lowB)
set_option maxHeartbeats 4000000 in
theorem folded_spec {x : Value} {ls : List (List UInt8)} {Q : Value → Shared → Prop}
  (ok : Bok b) (G : Glb w b.H0) (hs : b.hs = s.heap) (ar : Ar 1 A b.fo) (hN : NA b.R₀ x ls) (hg : Good ls)
  (post : ∀ a R' h' tk', Ret b R' h' → TBa R' a (lowL ls) → Q (.ref a) { s with heap := h', toks := tk' }) :
  wpAny (model Challenge.rw_ji0018_01.row.prog w) A (call (.ref 407) [x]) Q E s := by
  obtain ⟨x, dx, es, n, a, rfl, rx, rd, gl, o, vs, hR, hT, hall⟩ := hN
  have hlen := hall.length
  have hfew := hg.few
  refine' enter (n := 0) [(Str.ofString "key", .ref x)] [] ok G hs ar (fun _ h => nomatch h) List.nodup_nil ?ho ?hcd ?hb ?hl ?h1 ?h2 ?h3 ?hc ?_
  walk_at "enter"
  intro L h₁ tk E' S ar
  have hh := ar.hnd
  walk_at "go"
  refine' listCompS (b := b) (L := L) hh (fun i y _ => ∀ l, (lowL ls)[i]? = some l → BV y l) (fun _ _ _ _ _ h => h) ?c1 ?c2 ?c3 ?c4 ?c5 ?c6 ?_
  case c1 => decide
  case c2 => decide
  case c3 => exact rfl
  case c4 => decide
  case c5 => exact rfl
  case c6 => exact fun _ => rfl
  walk_at "go"
  refine getA S G (S.fr _ _ (S.sub _ _ rx)) (S.fr _ _ (S.sub _ _ rd)) (by k_is) (by k_is) (by k_is) (by k_is) gl rfl ?_
  refine ⟨_, _, _, a, vs, rfl, S, ⟨o, hR, .inr hT⟩, by rw [sizeLine_eq]; omega, ?_, ?_⟩
  · intro C i v mc R₁ M₁ h₁ tk E' hv hC hx hsM hsR S
    obtain ⟨l, hl, t, rfl⟩ := hall.get hv
    have hlz : l.length ≤ 2 := hg.short l (List.mem_of_getElem? hl)
    walk_at "go"
    refine methLower ?_
    walk_at "go"
    refine lowerC (by omega) fun t k => ?_
    refine ⟨_, h₁, k, rfl, S.adds0 fun _ _ e => e, fun l' hl' => ?_⟩
    unfold lowL at hl'
    rw [List.getElem?_map, hl] at hl'
    cases hl'
    exact ⟨t, rfl⟩
  · intro D dO' R' h₃ tk ys hsub S hD hl hlen' hys
    walk_at "go"
    refine tupleOfList S (hl.list (S.get (by walk_at "mem"))) (fun d od h₄ S hd => ?_) (by rw [sizeLine_eq]; omega)
    exact post _ _ _ _ S.toRet ⟨_, _, .inr ⟨rfl, rfl⟩, hd, All2.of_get (by rw [lowL, List.length_map]; omega) hys⟩
set_option maxHeartbeats 4000000 in
theorem lenName {x : Addr} {ls : List (List UInt8)} {Q : Value → Shared → Prop}
  (S : St b L m R M s.heap) (G : Glb w b.H0) (ar : Ar 2 A (L :: b.fo)) (hN : NA R (.ref x) ls) (hg : Good ls)
  (post : ∀ h' tk' t, St b L m R M h' → Q (.int ls.length t) { s with heap := h', toks := tk' }) :
  wpAny (model Challenge.rw_ji0018_01.row.prog w) A (call (.builtin "len") [.ref x]) Q E s := by
  obtain ⟨_, dx, es, n, a, e, rx, rd, gl, o, vs, hR, hT, hall⟩ := hN
  cases e
  have hlen := hall.length
  have hfew := hg.few
  have S₀ := S
  refine len_K (f := 268) (od := some (dictOf es n)) (I := ⟨S.fr _ _ rx, rfl, rfl, S.fr _ _ rd⟩) S.fr0 G.kin (by k_is) (by k_is) ?_
  refine' enter (n := 0) [(Str.ofString "self", .ref x)] [] S.call0 G rfl ar.in1 (fun _ h => nomatch h) List.nodup_nil ?ho ?hcd ?hb ?hl ?h1 ?h2 ?h3 ?hc ?_
  walk_at "enter"
  intro L₂ h₁ tk E' S ar
  walk_at "go"
  refine getA S G (S.fr _ _ (S.sub _ _ rx)) (S.fr _ _ (S.sub _ _ rd)) (by k_is) (by k_is) (by k_is) (by k_is) gl rfl ?_
  walk_at "go"
  refine lenT (hT.tup (S.fr _ _ (S.sub _ _ hR))) (by omega) fun t k => ?_
  rw [hlen]
  refine ⟨⟨by omega, by omega⟩, ?_⟩
  exact post _ _ _ (S₀.ret S.toRet)
end
end

/-! K1 -/
section
open PySem PySem.W PyProof.Rows PySem.Calls
section
variable {w : World} {A : Around} {E : Value → Shared → Prop} {s : Shared} {b : Bs} {L : Addr} {m : Str → Option Value} {R : Rel} {M : List (Addr × Obj)} {cn : Str} {cs : Scope} {fa : Addr} {cd : Value}
def upm (md mi n : Int) : Int × Int := if n = md then (md, mi + 1) else if md < n then (n, 1) else (md, mi)
set_option maxHeartbeats 4000000 in
theorem upd_spec {bk bd sd : Addr} {bo : Obj} {md mi : Int} {x : Value} {ls : Lab} {Q : Value → Shared → Prop}
  (ok : Bok b) (G : Glb w b.H0) (hs : b.hs = s.heap) (ar : Ar 3 A b.fo) (rb : b.R₀ bk (instObj 473 bd)) (hbd : s.heap.get? bd = some bo) (hW : bd ∈ b.W) (hbo : BD w bo sd md mi) (hN : NA b.R₀ x ls) (hg : Good ls)
  (post : ∀ R' h' tk' bo', Ret b R' h' → h'.get? bd = some bo' → BD w bo' sd (upm md mi ls.length).1 (upm md mi ls.length).2 → Q .none { s with heap := h', toks := tk' }) :
  wpAny (model Challenge.rw_ji0018_01.row.prog w) A (call (.ref 428) [.ref bk, x]) Q E s := by
  have hN' := hN
  obtain ⟨x, dx, es, nx, a, rfl, rest⟩ := hN'
  obtain ⟨n, a1, a2, a3, a4, a5, rfl⟩ := hbo
  refine' enter (n := 2) [(Str.ofString "key", .ref x), (Str.ofString "self", .ref bk)] [(bd, _)] ok G hs ar (fun p hp => by rw [List.mem_singleton.mp hp]; exact ⟨hbd, hW⟩) (by simp) ?ho ?hcd ?hb ?hl ?h1 ?h2 ?h3 ?hc ?_
  walk_at "enter"
  intro L h₁ tk E' S ar
  have hh := ar.hnd
  walk_at "go"
  refine lenName S G ar (hN.mono S.sub) hg fun h' tk' t S => ?_
  walk_at "go"
  refine getA S G (S.fr _ _ (S.sub _ _ rb)) (S.get (by walk_at "mem")) (by k_is) (by k_is) (by k_is) (by k_is) rfl rfl ?_
  walk_at "go"
  by_cases h1 : (ls.length : Int) = md
  · rw [if_pos (beq_iff_eq.mpr h1)]
    walk_at "go"
    refine getA S G (S.fr _ _ (S.sub _ _ rb)) (S.get (by walk_at "mem")) (by k_is) (by k_is) (by k_is) (by k_is) rfl rfl ?_
    walk_at "go"
    refine setA S G (S.fr _ _ (S.sub _ _ rb)) (by walk_at "mem") (by k_is) (by k_is) (by k_is) (by k_is) rfl rfl (Nat.le_of_ble_eq_true rfl) fun h₅ u₅ => ?_
    replace S := u₅ _ (by walk_at "upd")
    walk_at "go"
    refine post _ _ _ _ S.toRet (S.get (by walk_at "mem")) ?_
    unfold upm
    rw [if_pos h1]
    exact ⟨_, _, _, _, _, _, rfl⟩
  · rw [if_neg (by simpa using h1)]
    walk_at "go"
    refine lenName S G ar (hN.mono S.sub) hg fun h' tk' t S => ?_
    walk_at "go"
    refine getA S G (S.fr _ _ (S.sub _ _ rb)) (S.get (by walk_at "mem")) (by k_is) (by k_is) (by k_is) (by k_is) rfl rfl ?_
    walk_at "go"
    by_cases h2 : md < (ls.length : Int)
    · rw [if_pos (by simpa using h2)]
      walk_at "go"
      refine lenName S G ar (hN.mono S.sub) hg fun h' tk' t S => ?_
      walk_at "go"
      refine setA S G (S.fr _ _ (S.sub _ _ rb)) (by walk_at "mem") (by k_is) (by k_is) (by k_is) (by k_is) rfl rfl (Nat.le_of_ble_eq_true rfl) fun h₅ u₅ => ?_
      replace S := u₅ _ (by walk_at "upd")
      walk_at "go"
      refine setA S G (S.fr _ _ (S.sub _ _ rb)) (by walk_at "mem") (by k_is) (by k_is) (by k_is) (by k_is) rfl rfl (Nat.le_of_ble_eq_true rfl) fun h₅ u₅ => ?_
      replace S := u₅ _ (by walk_at "upd")
      walk_at "go"
      refine post _ _ _ _ S.toRet (S.get (by walk_at "mem")) ?_
      unfold upm
      rw [if_neg h1, if_pos h2]
      exact ⟨_, _, _, _, _, _, rfl⟩
    · rw [if_neg (by simpa using h2)]
      walk_at "go"
      refine post _ _ _ _ S.toRet (S.get (by walk_at "mem")) ?_
      unfold upm
      rw [if_neg h1, if_neg h2]
      exact ⟨_, _, _, _, _, _, rfl⟩
/-- what a book's frozen part tells -/
structure Bk (w : World) (b : Bs) (bk bd sd : Addr) (xs : Sto) : Prop where
  inst : b.R₀ bk (instObj 473 bd)
  sm : (sd == sysModules) = false
  keys : ∀ x ∈ xs, TBa b.R₀ x.2.1 x.1
  few : xs.length ≤ 100
set_option maxHeartbeats 4000000 in
theorem has_spec {bk bd sd : Addr} {bo so : Obj} {md mi : Int} {xs : Sto} {x : Value} {ls : Lab} {Q : Value → Shared → Prop}
  (ok : Bok b) (G : Glb w b.H0) (hs : b.hs = s.heap) (ar : Ar 2 A b.fo) (B : Bk w b bk bd sd xs) (kb : Kp b bd bo) (hbo : BD w bo sd md mi) (ks : Kp b sd so) (hso : DO w so xs) (hN : NA b.R₀ x ls) (hg : Good ls)
  (post : ∀ R' h' tk', Ret b R' h' → Q (.bool (atKey xs (lowL ls)).isSome) { s with heap := h', toks := tk' }) :
  wpAny (model Challenge.rw_ji0018_01.row.prog w) A (call (.ref 463) [.ref bk, x]) Q E s := by
  obtain ⟨n, a1, a2, a3, a4, a5, rfl⟩ := hbo
  refine' enter (n := 1) [(Str.ofString "key", x), (Str.ofString "self", .ref bk)] [] ok G hs ar (fun _ h => nomatch h) List.nodup_nil ?ho ?hcd ?hb ?hl ?h1 ?h2 ?h3 ?hc ?_
  walk_at "enter"
  intro L h₁ tk E' S ar
  have hh := ar.hnd
  walk_at "go"
  refine ⟨S.kin G, folded_spec S.call0 G rfl ar (hN.mono S.sub) hg fun a R' h' tk' r ha => ?_⟩
  have S₀ := S
  replace S := S.ret r
  walk_at "go"
  refine getA S G (S.fr _ _ (S.sub _ _ B.inst)) (S.kpGet kb) (by k_is) (by k_is) (by k_is) (by k_is) rfl rfl ?_
  refine inD S ?_ B.sm (S.kpGet ks) hso (fun x hx => (B.keys x hx).mono S.sub) ha fun tk => ?_
  · have := ar.units; omega
  walk_at "go"
  exact post _ _ _ S.toRet
end
end

/-! K2 -/
section
open PySem PySem.W PyProof.Rows PySem.Calls
section
variable {w : World} {A : Around} {E : Value → Shared → Prop} {s : Shared} {b : Bs} {L : Addr} {m : Str → Option Value} {R : Rel} {M : List (Addr × Obj)} {cn : Str} {cs : Scope} {fa : Addr} {cd : Value}
/-- a stored pair -/
def SV (R : Rel) (v : Value) (labs : Lab) (mark : Int) : Prop := ∃ t o kx tm, v = .ref t ∧ R t o ∧ TO o [kx, .int mark tm] ∧ NA R kx labs
theorem SV.mono {R R' : Rel} (h : ∀ a o, R a o → R' a o) {v : Value} {l : Lab} {k : Int} (x : SV R v l k) : SV R' v l k := let ⟨t, o, kx, tm, e, r, q, n⟩ := x; ⟨t, o, kx, tm, e, h _ _ r, q, n.mono h⟩
set_option maxHeartbeats 4000000 in
theorem get_spec {bk bd sd : Addr} {bo so : Obj} {md mi mark : Int} {xs : Sto} {x : Value} {ls labs : Lab} {p : Addr × Value} {Q : Value → Shared → Prop}
  (ok : Bok b) (G : Glb w b.H0) (hs : b.hs = s.heap) (ar : Ar 2 A b.fo) (B : Bk w b bk bd sd xs) (kb : Kp b bd bo) (hbo : BD w bo sd md mi) (ks : Kp b sd so) (hso : DO w so xs) (hN : NA b.R₀ x ls) (hg : Good ls)
  (hp : atKey xs (lowL ls) = some p) (hv : SV b.R₀ p.2 labs mark)
  (post : ∀ R' h' tk' t, Ret b R' h' → Q (.int mark t) { s with heap := h', toks := tk' }) :
  wpAny (model Challenge.rw_ji0018_01.row.prog w) A (call (.ref 435) [.ref bk, x]) Q E s := by
  obtain ⟨n, a1, a2, a3, a4, a5, rfl⟩ := hbo
  refine' enter (n := 1) [(Str.ofString "key", x), (Str.ofString "self", .ref bk)] [] ok G hs ar (fun _ h => nomatch h) List.nodup_nil ?ho ?hcd ?hb ?hl ?h1 ?h2 ?h3 ?hc ?_
  walk_at "enter"
  intro L h₁ tk E' S ar
  have hh := ar.hnd
  walk_at "go"
  refine getA S G (S.fr _ _ (S.sub _ _ B.inst)) (S.kpGet kb) (by k_is) (by k_is) (by k_is) (by k_is) rfl rfl ?_
  walk_at "go"
  refine ⟨S.kin G, folded_spec S.call0 G rfl ar (hN.mono S.sub) hg fun a R' h' tk' r ha => ?_⟩
  replace S := S.ret r
  walk_at "go"
  refine subD hso.ex (S.kpGet ks) (getD S ?_ (S.kpGet ks) hso (fun x hx => (B.keys x hx).mono S.sub) ha hp fun tk => ?_)
  · have := ar.units; omega
  obtain ⟨t, ot, kx, tm, e, rt, ht, hn⟩ := hv
  rw [e]
  walk_at "go"
  refine itTA 1 (ht.tup (S.fr _ _ (S.sub _ _ rt))) rfl rfl (Nat.le_of_ble_eq_true rfl) ?_
  walk_at "go"
  exact post _ _ _ _ S.toRet
set_option maxHeartbeats 4000000 in
theorem get_no {bk bd sd : Addr} {bo so : Obj} {md mi : Int} {xs : Sto} {x : Value} {ls : Lab} {Q : Value → Shared → Prop}
  (ok : Bok b) (G : Glb w b.H0) (hs : b.hs = s.heap) (ar : Ar 2 A b.fo) (B : Bk w b bk bd sd xs) (kb : Kp b bd bo) (hbo : BD w bo sd md mi) (ks : Kp b sd so) (hso : DO w so xs) (hN : NA b.R₀ x ls) (hg : Good ls)
  (hp : atKey xs (lowL ls) = none)
  (post : ∀ R' h' tk' e outer, A.frames = some outer → Ret b R' h' → Fly b R' outer e "KeyError" h' → E (.ref e) { s with heap := h', toks := tk' }) :
  wpAny (model Challenge.rw_ji0018_01.row.prog w) A (call (.ref 435) [.ref bk, x]) Q E s := by
  obtain ⟨n, a1, a2, a3, a4, a5, rfl⟩ := hbo
  refine wpAny_call ?_
  have ar₀ := ar
  refine' enterC (n := 1) [(Str.ofString "key", x), (Str.ofString "self", .ref bk)] [] ok G hs ar (fun _ h => nomatch h) List.nodup_nil ?ho ?hcd ?hb ?hl ?h1 ?h2 ?h3 ?hc ?_
  walk_at "enter"
  intro L h₁ tk S ar
  have hh := ar.hnd
  walk_at "go"
  refine getA S G (S.fr _ _ (S.sub _ _ B.inst)) (S.kpGet kb) (by k_is) (by k_is) (by k_is) (by k_is) rfl rfl ?_
  walk_at "go"
  refine ⟨S.kin G, folded_spec S.call0 G rfl ar (hN.mono S.sub) hg fun a R' h' tk' r ha => ?_⟩
  replace S := S.ret r
  walk_at "go"
  refine subD hso.ex (S.kpGet ks) (getD_no S ?_ hh B.sm (S.kpGet ks) hso (fun x hx => (B.keys x hx).mono S.sub) ha hp fun h' e tk hx => ?_)
  · have := ar.units; omega
  exact leaveNew S ar₀ rfl hx fun h' outer e0 r hf => post _ _ _ _ _ e0 r hf
end
end

/-! K3 -/
section
open PySem PySem.W PyProof.Rows PySem.Calls
section
variable {w : World} {A : Around} {E : Value → Shared → Prop} {s : Shared} {b : Bs} {L : Addr} {m : Str → Option Value} {R : Rel} {M : List (Addr × Obj)} {cn : Str} {cs : Scope} {fa : Addr} {cd : Value}
/-- a stored entry: folded labels and mark -/
def BE (R : Rel) (x : Lab × Addr × Value) (e : Lab × Int) : Prop := x.1 = e.1 ∧ TBa R x.2.1 x.1 ∧ ∃ labs, SV R x.2.2 labs e.2 ∧ lowL labs = x.1 ∧ Good labs
theorem BE.mono {R R' : Rel} (h : ∀ a o, R a o → R' a o) {x : Lab × Addr × Value} {e : Lab × Int} (z : BE R x e) : BE R' x e := let ⟨a, t, l, v, r⟩ := z; ⟨a, t.mono h, l, v.mono h, r⟩
def bget (es : List (Lab × Int)) (k : Lab) : Option Int := (es.find? fun e => decide (e.1 = k)).map (·.2)
def bput (es : List (Lab × Int)) (k : Lab) (v : Int) : List (Lab × Int) := if (bget es k).isSome then es.map fun e => if e.1 = k then (e.1, v) else e else es ++ [(k, v)]
theorem BE.keys {R : Rel} {xs : Sto} {es : List (Lab × Int)} (h : All2 (BE R) xs es) : ∀ x ∈ xs, TBa R x.2.1 x.1 := fun x hx => by
  obtain ⟨i, hi⟩ := List.getElem?_of_mem hx
  obtain ⟨e, _, h⟩ := h.get hi
  exact h.2.1
theorem BE.find {R : Rel} {k : Lab} : ∀ {xs : Sto} {es : List (Lab × Int)}, All2 (BE R) xs es →
    (atKey xs k = none ∧ bget es k = none) ∨ ∃ p mark labs, atKey xs k = some p ∧ bget es k = some mark ∧ SV R p.2 labs mark ∧ lowL labs = k ∧ Good labs
  | _, _, .nil => .inl ⟨rfl, rfl⟩
  | (x1, x2) :: xs, (e1, e2) :: es, .cons h r => by
    obtain ⟨h1, h2, labs, h3, h4, h5⟩ := h
    simp only at h1 h3 h4; subst h1
    by_cases hk : x1 = k
    · subst hk
      refine .inr ⟨x2, e2, labs, ?_, ?_, h3, h4, h5⟩
      · unfold atKey; rw [List.find?_cons_of_pos (by simp)]; rfl
      · unfold bget; rw [List.find?_cons_of_pos (by simp)]; rfl
    · have e3 : atKey ((x1, x2) :: xs) k = atKey xs k := by unfold atKey; rw [List.find?_cons_of_neg (by simpa using hk)]
      have e4 : bget ((x1, e2) :: es) k = bget es k := by unfold bget; rw [List.find?_cons_of_neg (by simpa using hk)]
      rw [e3, e4]
      exact BE.find r
theorem BE.put {R : Rel} {k : Lab} {a : Addr} {v : Value} {labs : Lab} {mark : Int} {xs : Sto} {es : List (Lab × Int)} (h : All2 (BE R) xs es) (ha : TBa R a k) (hv : SV R v labs mark) (hl : lowL labs = k) (hg : Good labs) :
    All2 (BE R) (storedH xs k a v) (bput es k mark) := by
  have same : ∀ {xs : Sto} {es : List (Lab × Int)}, All2 (BE R) xs es → All2 (BE R) (xs.map (putAt k v)) (es.map fun e => if e.1 = k then (e.1, mark) else e) := by
    intro xs es h
    induction h with
    | nil => exact .nil
    | @cons x e _ _ h r ih =>
      refine .cons ?_ ih
      obtain ⟨x1, x2, x3⟩ := x
      obtain ⟨e1, e2⟩ := e
      obtain ⟨h1, h2, h3⟩ := h
      simp only at h1; subst h1
      unfold putAt
      by_cases hk : x1 = k
      · subst hk
        simp only [if_true]
        exact ⟨rfl, h2, labs, hv, hl, hg⟩
      · simp only [if_neg hk]
        exact ⟨rfl, h2, h3⟩
  unfold storedH bput
  rcases BE.find (k := k) h with ⟨e1, e2⟩ | ⟨p, mk, lb, e1, e2, _⟩
  · rw [e1, e2]
    exact h.snoc ⟨rfl, ha, labs, hv, hl, hg⟩
  · rw [e1, e2]
    exact same h
theorem few_put {es : List (Lab × Int)} {k : Lab} {v : Int} : (bput es k v).length ≤ es.length + 1 := by
  unfold bput; split <;> simp
set_option maxHeartbeats 4000000 in
theorem set_spec {bk bd sd : Addr} {bo so : Obj} {md mi mark : Int} {xs : Sto} {es : List (Lab × Int)} {x : Value} {ls : Lab} {tm : Tok} {Q : Value → Shared → Prop}
  (ok : Bok b) (G : Glb w b.H0) (hs : b.hs = s.heap) (ar : Ar 5 A b.fo) (rb : b.R₀ bk (instObj 473 bd)) (hne : bd ≠ sd) (hbd : s.heap.get? bd = some bo) (hbW : bd ∈ b.W) (hbo : BD w bo sd md mi)
  (hsd : s.heap.get? sd = some so) (hsW : sd ∈ b.W) (hso : DO w so xs) (hsm : (sd == sysModules) = false) (hbe : All2 (BE b.R₀) xs es) (hz : xs.length ≤ 100) (hN : NA b.R₀ x ls) (hg : Good ls)
  (post : ∀ R' h' tk' bo' so' xs', Ret b R' h' → h'.get? bd = some bo' → h'.get? sd = some so' → DO w so' xs' → All2 (BE R') xs' (bput es (lowL ls) mark) →
    BD w bo' sd (if (bget es (lowL ls)).isSome then md else (upm md mi ls.length).1) (if (bget es (lowL ls)).isSome then mi else (upm md mi ls.length).2) → Q .none { s with heap := h', toks := tk' }) :
  wpAny (model Challenge.rw_ji0018_01.row.prog w) A (call (.ref 442) [.ref bk, x, .int mark tm]) Q E s := by
  have hN' := hN
  obtain ⟨xa, dx, xes, nx, ax, rfl, rx, rdx, rest⟩ := hN'
  have hbo' := hbo
  obtain ⟨n, a1, a2, a3, a4, a5, rfl⟩ := hbo'
  refine' enter (n := 4) [(Str.ofString "value", .int mark tm), (Str.ofString "key", .ref xa), (Str.ofString "self", .ref bk)] [(bd, dictOf (bes w sd md mi a1 a2 a3 a4 a5) n), (sd, so)] ok G hs ar (fun p hp => ?hM) (by simpa using hne) ?ho ?hcd ?hb ?hl ?h1 ?h2 ?h3 ?hc ?_
  walk_at "enter"
  case hM =>
    rcases List.mem_cons.mp hp with rfl | hp
    · exact ⟨hbd, hbW⟩
    · rw [List.mem_singleton.mp hp]; exact ⟨hsd, hsW⟩
  intro L h₁ tk E' S ar
  have hh := ar.hnd
  walk_at "go"
  refine isi_call (S.kin G) (fun M => InstAt.type (od := some (dictOf xes nx)) ⟨S.fr _ _ (S.sub _ _ rx), rfl, rfl, S.fr _ _ (S.sub _ _ rdx)⟩) (by k_is) (fun e => nomatch e) ?_
  walk_at "go"
  refine ⟨S.kin G, folded_spec S.call0 G rfl (ar.le (by decide)) (hN.mono S.sub) hg fun a R' h' tk' r ha => ?_⟩
  replace S := S.ret r
  walk_at "go"
  refine getA S G (S.fr _ _ (S.sub _ _ rb)) (S.get (by walk_at "mem")) (by k_is) (by k_is) (by k_is) (by k_is) rfl rfl ?_
  refine inD S ?_ hsm (S.get (by walk_at "mem")) hso (fun x hx => (BE.keys hbe x hx).mono S.sub) ha fun tk => ?_
  · have := ar.units; omega
  walk_at "go"
  rcases BE.find (k := lowL ls) hbe with ⟨e1, e2⟩ | ⟨p, mk, labs, e1, e2, hv, hlow, hgl⟩
  · rw [e1]
    walk_at "go"
    rw [if_neg (show ¬ ((none : Option (Addr × Value)).isSome = true) from Bool.false_ne_true)]
    walk_at "go"
    refine getMeth S G (S.fr _ _ (S.sub _ _ rb)) (S.get (by walk_at "mem")) (by k_is) (by k_is) (by k_is) rfl ?_
    walk_at "go"
    refine ⟨S.kin G, upd_spec (S.call [bd] ?hW1) G rfl (ar.le (by decide)) (S.sub _ _ rb) (S.get (by walk_at "mem")) (.head _) hbo (hN.mono S.sub) hg fun R' h' tk' bo' r hb' hbo' => ?_⟩
    case hW1 => simp
    replace S : St b L _ _ [(bd, bo'), (sd, so)] _ := S.retW (MW := [(bd, dictOf (bes w sd md mi a1 a2 a3 a4 a5) n)]) (MW' := [(bd, bo')]) (Mr := [(sd, so)]) rfl r rfl (fun p hp => by rw [List.mem_singleton.mp hp]; exact hb')
    obtain ⟨n', b1, b2, b3, b4, b5, rfl⟩ := hbo'
    walk_at "go"
    refine ⟨_, _, _, _, _, S, by rw [sizeLine_eq]; exact Nat.le_of_ble_eq_true rfl, fun t h' ot hnt S hot => ?_⟩
    walk_at "go"
    refine getA S G (S.fr _ _ (S.sub _ _ rb)) (S.get (by walk_at "mem")) (by k_is) (by k_is) (by k_is) (by k_is) rfl rfl ?_
    walk_at "go"
    refine ⟨S.kin G, folded_spec S.call0 G rfl (ar.le (by decide)) (hN.mono S.sub) hg fun a R' h' tk' r ha => ?_⟩
    replace S := S.ret r
    walk_at "go"
    refine setD S ?_ (by walk_at "mem") hso (fun x hx => (BE.keys hbe x hx).mono S.sub) ha (fun h' so' tk u D' => ?_) (by rw [sizeLine_eq]; omega)
    · have := ar.units; omega
    replace S := u _ (by walk_at "upd")
    walk_at "go"
    refine post _ _ _ _ so' _ S.toRet (S.get (by walk_at "mem")) (S.get (by walk_at "mem")) D' ?_ ?_
    · exact BE.put (hbe.imp fun _ _ => BE.mono S.sub) ha (labs := ls) ⟨t, ot, _, _, rfl, r.sub _ _ (.inr ⟨rfl, rfl⟩), hot, hN.mono S.sub⟩ rfl hg
    · rw [e2]
      exact ⟨_, _, _, _, _, _, rfl⟩
  · rw [e1]
    walk_at "go"
    rw [if_pos (show ((some p).isSome = true) from rfl)]
    walk_at "go"
    refine getA S G (S.fr _ _ (S.sub _ _ rb)) (S.get (by walk_at "mem")) (by k_is) (by k_is) (by k_is) (by k_is) rfl rfl ?_
    walk_at "go"
    refine ⟨S.kin G, folded_spec S.call0 G rfl (ar.le (by decide)) (hN.mono S.sub) hg fun a R' h' tk' r ha => ?_⟩
    replace S := S.ret r
    walk_at "go"
    refine subD hso.ex (S.get (by walk_at "mem")) (getD S ?_ (S.get (by walk_at "mem")) hso (fun x hx => (BE.keys hbe x hx).mono S.sub) ha e1 fun tk => ?_)
    · have := ar.units; omega
    obtain ⟨tt, ott, kx, tmm, e, rt, ht, hn⟩ := hv
    rw [e]
    walk_at "go"
    refine itTA 0 (ht.tup (S.fr _ _ (S.sub _ _ rt))) rfl rfl (Nat.le_of_ble_eq_true rfl) ?_
    walk_at "go"
    refine ⟨_, _, _, _, _, S, by rw [sizeLine_eq]; exact Nat.le_of_ble_eq_true rfl, fun t h' ot hnt S hot => ?_⟩
    walk_at "go"
    refine getA S G (S.fr _ _ (S.sub _ _ rb)) (S.get (by walk_at "mem")) (by k_is) (by k_is) (by k_is) (by k_is) rfl rfl ?_
    walk_at "go"
    refine ⟨S.kin G, folded_spec S.call0 G rfl (ar.le (by decide)) (hn.mono S.sub) hgl fun a R' h' tk' r ha => ?_⟩
    replace S := S.ret r
    walk_at "go"
    refine setD S ?_ (by walk_at "mem") hso (fun x hx => (BE.keys hbe x hx).mono S.sub) ha (fun h' so' tk u D' => ?_) (by rw [sizeLine_eq]; omega)
    · have := ar.units; omega
    replace S := u _ (by walk_at "upd")
    walk_at "go"
    refine post _ _ _ _ so' _ S.toRet (S.get (by walk_at "mem")) (S.get (by walk_at "mem")) D' ?_ ?_
    · rw [hlow] at ha ⊢
      exact BE.put (hbe.imp fun _ _ => BE.mono S.sub) ha (labs := labs) ⟨t, ot, _, _, rfl, r.sub _ _ (.inr ⟨rfl, rfl⟩), hot, hn.mono S.sub⟩ hlow hgl
    · rw [e2]
      exact ⟨_, _, _, _, _, _, rfl⟩
end
end

/-! K4 -/
section
open PySem PySem.W PyProof.Rows PySem.Calls
section
variable {w : World} {A : Around} {E : Value → Shared → Prop} {s : Shared} {b : Bs} {L : Addr} {m : Str → Option Value} {R : Rel} {M : List (Addr × Obj)} {cn : Str} {cs : Scope} {fa : Addr} {cd : Value}
def delm (md mi n : Int) (rest : List Int) : Int × Int :=
  if (if n = md then mi - 1 else mi) = 0 then rest.foldl (fun p l => upm p.1 p.2 l) (0, 0) else (md, if n = md then mi - 1 else mi)
theorem All2.erase {α β : Type} {P : α → β → Prop} : ∀ {as : List α} {bs : List β}, All2 P as bs → ∀ i, All2 P (as.eraseIdx i) (bs.eraseIdx i)
  | _, _, .nil, _ => .nil
  | _, _, .cons _ r, 0 => r
  | _, _, .cons h r, i + 1 => .cons h (r.erase i)
theorem foldl_snoc {l : List Int} {i : Nat} {x : Int} (h : l[i]? = some x) (f : Int × Int → Int → Int × Int) (z : Int × Int) : (l.take (i + 1)).foldl f z = f ((l.take i).foldl f z) x := by
  rw [List.take_add_one, h]; simp
set_option maxHeartbeats 4000000 in
theorem del_spec {bk bd sd : Addr} {bo so : Obj} {md mi : Int} {xs : Sto} {es : List (Lab × Int)} {x : Value} {ls : Lab} {j : Nat} {p : Addr × Value} {Q : Value → Shared → Prop}
  (ok : Bok b) (G : Glb w b.H0) (hs : b.hs = s.heap) (ar : Ar 5 A b.fo) (rb : b.R₀ bk (instObj 473 bd)) (hne : bd ≠ sd) (hbd : s.heap.get? bd = some bo) (hbW : bd ∈ b.W) (hbo : BD w bo sd md mi)
  (hsd : s.heap.get? sd = some so) (hsW : sd ∈ b.W) (hso : DO w so xs) (hsm : (sd == sysModules) = false) (hbe : All2 (BE b.R₀) xs es) (hz : xs.length ≤ 100) (hN : NA b.R₀ x ls) (hg : Good ls) (hj : xs[j]? = some (lowL ls, p))
  (post : ∀ R' h' tk' bo' so', Ret b R' h' → h'.get? bd = some bo' → h'.get? sd = some so' → DO w so' (xs.eraseIdx j) → All2 (BE R') (xs.eraseIdx j) (es.eraseIdx j) →
    BD w bo' sd (delm md mi ls.length ((es.eraseIdx j).map fun e => (e.1.length : Int))).1 (delm md mi ls.length ((es.eraseIdx j).map fun e => (e.1.length : Int))).2 → Q .none { s with heap := h', toks := tk' }) :
  wpAny (model Challenge.rw_ji0018_01.row.prog w) A (call (.ref 449) [.ref bk, x]) Q E s := by
  have hN' := hN
  obtain ⟨xa, dx, xes, nx, ax, rfl, rx, rdx, rest⟩ := hN'
  have hbo' := hbo
  obtain ⟨n, a1, a2, a3, a4, a5, rfl⟩ := hbo'
  refine' enter (n := 4) [(Str.ofString "key", .ref xa), (Str.ofString "self", .ref bk)] [(bd, dictOf (bes w sd md mi a1 a2 a3 a4 a5) n), (sd, so)] ok G hs ar (fun p hp => ?hM) (by simpa using hne) ?ho ?hcd ?hb ?hl ?h1 ?h2 ?h3 ?hc ?_
  walk_at "enter"
  case hM =>
    rcases List.mem_cons.mp hp with rfl | hp
    · exact ⟨hbd, hbW⟩
    · rw [List.mem_singleton.mp hp]; exact ⟨hsd, hsW⟩
  intro L h₁ tk E' S ar
  have hh := ar.hnd
  walk_at "go"
  refine getA S G (S.fr _ _ (S.sub _ _ rb)) (S.get (by walk_at "mem")) (by k_is) (by k_is) (by k_is) (by k_is) rfl rfl ?_
  refine methDict hso.ex (S.get (by walk_at "mem")) PySem.F.slot_dict_pop PySem.F.type_dict_pop ?_
  walk_at "go"
  refine ⟨S.kin G, folded_spec S.call0 G rfl (ar.le (by decide)) (hN.mono S.sub) hg fun a R' h' tk' r ha => ?_⟩
  replace S := S.ret r
  walk_at "go"
  refine popD S ?_ (by walk_at "mem") hso (fun x hx => (BE.keys hbe x hx).mono S.sub) ha hj (fun h' so' tk u D' => ?_) (by rw [sizeLine_eq]; omega)
  · have := ar.units; omega
  replace S := u _ (by walk_at "upd")
  have hbe' := hbe.erase j
  have hsub : ∀ a o, b.R₀ a o → R' a o := S.sub
  walk_at "goS"
  refine wpAny_mono (Q := fun f s' => f = .next ∧ ∃ bo₁ h' tk', s' = { s with heap := h', toks := tk' } ∧ BD w bo₁ sd md (if (ls.length : Int) = md then mi - 1 else mi) ∧ St b L (bnd [(Str.ofString "key", .ref xa), (Str.ofString "self", .ref bk)] fun _ => none) R' [(bd, bo₁), (sd, so')] h') ?_ (fun f s' hq => ?_) fun _ _ e => e
  · walk_at "go"
    refine lenName S G (ar.le (by decide)) (hN.mono S.sub) hg fun h' tk' t S => ?_
    walk_at "go"
    refine getA S G (S.fr _ _ (S.sub _ _ rb)) (S.get (by walk_at "mem")) (by k_is) (by k_is) (by k_is) (by k_is) rfl rfl ?_
    walk_at "go"
    by_cases h1 : (ls.length : Int) = md
    · rw [if_pos (beq_iff_eq.mpr h1)]
      walk_at "go"
      refine getA S G (S.fr _ _ (S.sub _ _ rb)) (S.get (by walk_at "mem")) (by k_is) (by k_is) (by k_is) (by k_is) rfl rfl ?_
      walk_at "go"
      refine setA S G (S.fr _ _ (S.sub _ _ rb)) (by walk_at "mem") (by k_is) (by k_is) (by k_is) (by k_is) rfl rfl (Nat.le_of_ble_eq_true rfl) fun h₅ u₅ => ?_
      replace S := u₅ _ (by walk_at "upd")
      walk_at "go"
      rw [if_pos h1]
      exact ⟨rfl, _, _, _, rfl, ⟨_, _, _, _, _, _, rfl⟩, S⟩
    · rw [if_neg (by simpa using h1)]
      walk_at "go"
      rw [if_neg h1]
      exact ⟨rfl, _, _, _, rfl, ⟨_, _, _, _, _, _, rfl⟩, S⟩
  · obtain ⟨rfl, bo₁, h', tk', rfl, hbo₁, S⟩ := hq
    generalize hm1 : (if (ls.length : Int) = md then mi - 1 else mi) = mi₁ at hbo₁
    have hd : delm md mi ls.length ((es.eraseIdx j).map fun e => (e.1.length : Int)) = if mi₁ = 0 then ((es.eraseIdx j).map fun e => (e.1.length : Int)).foldl (fun p l => upm p.1 p.2 l) (0, 0) else (md, mi₁) := by unfold delm; rw [hm1]
    obtain ⟨n₁, c1, c2, c3, c4, c5, rfl⟩ := hbo₁
    walk_at "go"
    refine getA S G (S.fr _ _ (S.sub _ _ rb)) (S.get (by walk_at "mem")) (by k_is) (by k_is) (by k_is) (by k_is) rfl rfl ?_
    walk_at "go"
    by_cases h0 : mi₁ = 0
    · rw [if_pos (by simpa using h0)]
      rw [if_pos h0] at hd
      subst h0
      walk_at "go"
      refine setA S G (S.fr _ _ (S.sub _ _ rb)) (by walk_at "mem") (by k_is) (by k_is) (by k_is) (by k_is) rfl rfl (Nat.le_of_ble_eq_true rfl) fun h₅ u₅ => ?_
      replace S := u₅ _ (by walk_at "upd")
      walk_at "go"
      refine getA S G (S.fr _ _ (S.sub _ _ rb)) (S.get (by walk_at "mem")) (by k_is) (by k_is) (by k_is) (by k_is) rfl rfl ?_
      refine methDict D'.ex (S.get (by walk_at "mem")) PySem.F.slot_dict_values PySem.F.type_dict_values ?_
      walk_at "go"
      refine valuesM S hsm (S.get (by walk_at "mem")) D' (fun x hx => (BE.keys hbe' x hx).mono S.sub) fun v h' S hv => ?_
      walk_at "go"
      obtain ⟨esA, ep, hdat, hel⟩ := D'.data
      have hsz : esA.size = (es.eraseIdx j).length := by rw [← hbe'.length, ← size_of_entries hel]
      refine iterV (d := sd) (es := esA) (ep := ep) hh S hv (fun i a => ∃ labs, NA b.R₀ a labs ∧ Good labs ∧ ((es.eraseIdx j).map fun e => (e.1.length : Int))[i]? = some (labs.length : Int)) ?_
        (fun m₀ R₀ M₀ i m' R₁ M₁ => ∃ bo', M₁ = [(bd, bo'), (sd, so')] ∧ BD w bo' sd ((((es.eraseIdx j).map fun e => (e.1.length : Int)).take i).foldl (fun p l => upm p.1 p.2 l) (0, 0)).1 ((((es.eraseIdx j).map fun e => (e.1.length : Int)).take i).foldl (fun p l => upm p.1 p.2 l) (0, 0)).2 ∧ (∀ a o, R' a o → R₁ a o) ∧ Same [Str.ofString "k", Str.ofString "_"] m₀ m') ?_ ?_ ?_ ?_ ?_ ?_ ?_ ?_
      · intro i e he
        rw [entry_at hel i] at he
        obtain ⟨xx, hxx, rfl⟩ := Option.map_eq_some_iff.mp he
        obtain ⟨e', he', h1, h2, labs, ⟨t, o, kx, tm, g1, g2, g3, g4⟩, h4, h5⟩ := hbe'.get hxx
        refine ⟨t, o, kx, _, g1, hsub _ _ g2, g3, labs, g4, h5, ?_⟩
        rw [List.getElem?_map, he', Option.map_some, ← h1, ← h4]
        simp [lowL]
      · exact ⟨_, rfl, ⟨_, _, _, _, _, _, rfl⟩, fun _ _ r => r, Same.refl⟩
      · rintro i m' R₁ M₁ ⟨bo', rfl, q1, q2, q3⟩; exact q2
      · rintro i m' R₁ M₁ h' ⟨bo', rfl, q1, q2, q3⟩ S'
        exact ⟨so', S'.get (by walk_at "mem"), hdat⟩
      · rintro I i t o a c m₁ R₁ M₁ h₆ tk₆ io₁ E₆ hi hval ht hto ⟨labs, hNk, hgk, hlen⟩ ⟨bo', rfl, q1, q2, q3⟩ hio S
        obtain ⟨n₂, d1, d2, d3, d4, d5, rfl⟩ := id q1
        walk_at "go"
        refine getMeth S G (S.fr _ _ (q2 _ _ (hsub _ _ rb))) (S.get (by walk_at "mem")) (by k_is) (by k_is) (by k_is) rfl ?_
        walk_at "go"
        replace S := S.swap
        refine ⟨S.kin G, upd_spec (S.call [bd] ?hW1) G rfl (ar.le (by decide)) (q2 _ _ (hsub _ _ rb)) (S.get (by walk_at "mem")) (.head _) q1 (hNk.mono fun _ _ r => q2 _ _ (hsub _ _ r)) hgk fun R₇ h₇ tk₇ bo₇ r hb₇ hbo₇ => ?_⟩
        case hW1 => simp
        replace S : St b L _ _ [(bd, bo₇), (I, io₁), (sd, so')] _ := S.retW (MW := [(bd, _)]) (MW' := [(bd, bo₇)]) (Mr := [(I, io₁), (sd, so')]) rfl r rfl (fun p hp => by rw [List.mem_singleton.mp hp]; exact hb₇)
        replace S := S.swap
        walk_at "go"
        refine ⟨_, _, _, _, _, _, rfl, hio, S, bo₇, rfl, ?_, fun a o z => r.sub _ _ (q2 a o z), ?_⟩
        · rw [foldl_snoc hlen]; exact hbo₇
        · walk_at "same"
      · rintro m' R₁ M₁ h' tk ⟨bo', rfl, q1, q2, q3⟩ S
        walk_at "go"
        refine post _ _ _ _ so' S.toRet (S.get (by walk_at "mem")) (S.get (by walk_at "mem")) D' (hbe'.imp fun _ _ => BE.mono fun _ _ r => q2 _ _ (hsub _ _ r)) ?_
        rw [hd]
        rw [hsz, List.take_of_length_le (by simp)] at q1
        exact q1
      · rfl
      · rfl
      · rfl
    · rw [if_neg (by simpa using h0)]
      rw [if_neg h0] at hd
      walk_at "go"
      refine post _ _ _ _ so' S.toRet (S.get (by walk_at "mem")) (S.get (by walk_at "mem")) D' (hbe'.imp fun _ _ => BE.mono hsub) ?_
      rw [hd]
      exact ⟨_, _, _, _, _, _, rfl⟩
end
end

/-! K5 -/
section
open PySem PySem.W PyProof.Rows PySem.Calls
section
variable {w : World} {A : Around} {E : Value → Shared → Prop} {s : Shared} {b : Bs} {L : Addr} {m : Str → Option Value} {R : Rel} {M : List (Addr × Obj)} {cn : Str} {cs : Scope} {fa : Addr} {cd : Value}
theorem at_none {xs : Sto} {k : Lab} (h : atKey xs k = none) : ∀ (j : Nat) (p : Addr × Value), xs[j]? ≠ some (k, p) := fun j p hj => by
  unfold atKey at h
  rw [Option.map_eq_none_iff, List.find?_eq_none] at h
  exact h _ (List.mem_of_getElem? hj) (by simp)
set_option maxHeartbeats 4000000 in
theorem del_no {bk bd sd : Addr} {bo so : Obj} {md mi : Int} {xs : Sto} {x : Value} {ls : Lab} {Q : Value → Shared → Prop}
  (ok : Bok b) (G : Glb w b.H0) (hs : b.hs = s.heap) (ar : Ar 2 A b.fo) (B : Bk w b bk bd sd xs) (kb : Kp b bd bo) (hbo : BD w bo sd md mi) (ks : Kp b sd so) (hso : DO w so xs) (hN : NA b.R₀ x ls) (hg : Good ls)
  (hp : atKey xs (lowL ls) = none)
  (post : ∀ R' h' tk' e outer, A.frames = some outer → Ret b R' h' → Fly b R' outer e "KeyError" h' → E (.ref e) { s with heap := h', toks := tk' }) :
  wpAny (model Challenge.rw_ji0018_01.row.prog w) A (call (.ref 449) [.ref bk, x]) Q E s := by
  obtain ⟨n, a1, a2, a3, a4, a5, rfl⟩ := hbo
  refine wpAny_call ?_
  have ar₀ := ar
  refine' enterC (n := 1) [(Str.ofString "key", x), (Str.ofString "self", .ref bk)] [] ok G hs ar (fun _ h => nomatch h) List.nodup_nil ?ho ?hcd ?hb ?hl ?h1 ?h2 ?h3 ?hc ?_
  walk_at "enter"
  intro L h₁ tk S ar
  have hh := ar.hnd
  walk_at "go"
  refine getA S G (S.fr _ _ (S.sub _ _ B.inst)) (S.kpGet kb) (by k_is) (by k_is) (by k_is) (by k_is) rfl rfl ?_
  refine methDict hso.ex (S.kpGet ks) PySem.F.slot_dict_pop PySem.F.type_dict_pop ?_
  walk_at "go"
  refine ⟨S.kin G, folded_spec S.call0 G rfl ar (hN.mono S.sub) hg fun a R' h' tk' r ha => ?_⟩
  replace S := S.ret r
  walk_at "go"
  refine popD_no S ?_ hh B.sm (S.kpGet ks) hso (fun x hx => (B.keys x hx).mono S.sub) ha (at_none hp) fun h' e tk hx => ?_
  · have := ar.units; omega
  exact leaveNew S ar₀ rfl hx fun h' outer e0 r hf => post _ _ _ _ _ e0 r hf
set_option maxHeartbeats 4000000 in
theorem lenBook {bk bd sd : Addr} {bo so : Obj} {md mi : Int} {xs : Sto} {Q : Value → Shared → Prop}
  (S : St b L m R M s.heap) (G : Glb w b.H0) (ar : Ar 2 A (L :: b.fo)) (rb : R bk (instObj 473 bd)) (kb₀ : Kp b bd bo) (hbo : BD w bo sd md mi) (ks₀ : Kp b sd so) (hso : DO w so xs) (hsm : (sd == sysModules) = false)
  (hk : ∀ x ∈ xs, TBa R x.2.1 x.1) (hz : xs.length ≤ 100)
  (post : ∀ h' tk' t, St b L m R M h' → Q (.int xs.length t) { s with heap := h', toks := tk' }) :
  wpAny (model Challenge.rw_ji0018_01.row.prog w) A (call (.builtin "len") [.ref bk]) Q E s := by
  obtain ⟨n, a1, a2, a3, a4, a5, rfl⟩ := hbo
  have S₀ := S
  have kb := S.kp kb₀ (W := []) (fun h => nomatch h)
  have ks := S.kp ks₀ (W := []) (fun h => nomatch h)
  refine len_K (f := 456) (od := some (dictOf (bes w sd md mi a1 a2 a3 a4 a5) n)) (I := ⟨S.fr _ _ rb, rfl, rfl, S.kpGet kb₀⟩) S.fr0 G.kin (by k_is) (by k_is) ?_
  refine' enter (n := 0) [(Str.ofString "self", .ref bk)] [] S.call0 G rfl ar.in1 (fun _ h => nomatch h) List.nodup_nil ?ho ?hcd ?hb ?hl ?h1 ?h2 ?h3 ?hc ?_
  walk_at "enter"
  intro L₂ h₁ tk E' S ar
  walk_at "go"
  refine getA S G (S.fr _ _ (S.sub _ _ rb)) (S.kpGet kb) (by k_is) (by k_is) (by k_is) (by k_is) rfl rfl ?_
  walk_at "go"
  refine lenD S hsm (S.kpGet ks) hso (fun x hx => (hk x hx).mono S.sub) (by omega) fun t k => ?_
  refine ⟨⟨by omega, by omega⟩, ?_⟩
  exact post _ _ _ (S₀.ret S.toRet)
set_option maxHeartbeats 4000000 in
theorem newBook {Q : Value → Shared → Prop}
  (S : St b L m R M s.heap) (G : Glb w b.H0) (ar : Ar 2 A (L :: b.fo))
  (post : ∀ x bd sd bo so R' h' tk', b.hs.get? bd = none → b.hs.get? sd = none → (sd == sysModules) = false → St b L m R' ((bd, bo) :: (sd, so) :: M) h' → R' = R.ins x (instObj 473 bd) → BD w bo sd 0 0 → DO w so [] → Q (.ref x) { s with heap := h', toks := tk' }) :
  wpAny (model Challenge.rw_ji0018_01.row.prog w) A (call (.ref 473) []) Q E s := by
  refine makeC (fI := 421) S G (by k_is) (by k_is) (by k_is) fun x dx h' hne hx0 hd0 S₁ => ?_
  refine' enterC (b := b.at L R h' [x, dx]) (n := 0) [(Str.ofString "self", .ref x)] [(x, instObj 473 dx), (dx, dictOf [] 0)] (S₁.call [x, dx] ?hW) G rfl ar.under ?hM ?hnd ?ho ?hcd ?hb ?hl ?h1 ?h2 ?h3 ?hc ?_
  walk_at "enter"
  case hW => simp
  case hM =>
    intro p hp
    rcases List.mem_cons.mp hp with rfl | hp
    · exact ⟨S₁.mu _ (.head _), .head _⟩
    · rcases List.mem_cons.mp hp with rfl | hp
      · exact ⟨S₁.mu _ (.tail _ (.head _)), .tail _ (.head _)⟩
      · cases hp
  case hnd => simpa using hne
  intro L₂ h₂ tk S ar
  have hh := ar.hnd
  have h488 : 488 < h₂.objs.size := Heap.lt_size (S.kin G 488 _ (by k_is))
  walk_at "go"
  refine dict0 S fun d od h₃ hd hge S Dd => ?_
  walk_at "go"
  refine setA S G (S.get (by walk_at "mem")) (by walk_at "mem") (by k_is) (by k_is) (by k_is) (by k_is) rfl rfl (Nat.le_of_ble_eq_true rfl) fun h₅ u₅ => ?_
  replace S := u₅ _ (by walk_at "upd")
  walk_at "go"
  refine setA S G (S.get (by walk_at "mem")) (by walk_at "mem") (by k_is) (by k_is) (by k_is) (by k_is) rfl rfl (Nat.le_of_ble_eq_true rfl) fun h₅ u₅ => ?_
  replace S := u₅ _ (by walk_at "upd")
  walk_at "go"
  refine setA S G (S.get (by walk_at "mem")) (by walk_at "mem") (by k_is) (by k_is) (by k_is) (by k_is) rfl rfl (Nat.le_of_ble_eq_true rfl) fun h₅ u₅ => ?_
  replace S := u₅ _ (by walk_at "upd")
  walk_at "go"
  refine ⟨rfl, ?_⟩
  have S₂ := St.retN (MW := [(x, instObj 473 dx), (dx, dictOf [] 0)]) (N := [(d, od)]) S₁ S rfl rfl (fun p hp => by rw [List.mem_singleton.mp hp]; exact hd)
  have S₃ := (S₂.permute ((List.Perm.swap _ _ _).trans (List.Perm.cons _ (List.Perm.swap _ _ _)))).freeze hx0
  refine post x dx d _ od _ _ _ hd0 (S₁.none_of hd) ?_ S₃ rfl ⟨_, _, _, _, _, _, rfl⟩ Dd
  exact beq_false_of_ne fun e => by rw [e] at hge; unfold sysModules at hge; exact absurd (Nat.lt_of_lt_of_le h488 hge) (by decide)
end
end

/-! K6 -/
section
open PySem PySem.W PyProof.Rows PySem.Calls
section
variable {w : World} {A : Around} {E : Value → Shared → Prop} {s : Shared} {b : Bs} {L : Addr} {m : Str → Option Value} {R : Rel} {M : List (Addr × Obj)} {cn : Str} {cs : Scope} {fa : Addr} {cd : Value}
theorem Good.drop {ls : Lab} (h : Good ls) (k : Nat) : Good (ls.drop k) where
  few := by rw [List.length_drop]; have := h.few; omega
  short := fun l hl => h.short l (List.mem_of_mem_drop hl)
  root := fun i hi => by
    rw [List.getElem?_drop] at hi
    have := h.root _ hi
    rw [List.length_drop]; omega
theorem good_nil : Good [] := ⟨Nat.zero_le _, (fun _ h => nomatch h), (fun _ h => nomatch h)⟩
def tl (ls : Lab) (d j : Nat) : Lab := ls.drop (ls.length - (d - j))
def deepm (ls : Lab) (md : Nat) (es : List (Lab × Int)) : Option (Lab × Int) :=
  match (List.range (min ls.length md)).findSome? (fun j => (bget es (lowL (tl ls (min ls.length md) j))).map fun m => (tl ls (min ls.length md) j, m)) with
  | some r => some r
  | none => (bget es []).map fun m => ([], m)
theorem findSome_hit {α : Type} {f : Nat → Option α} {r : α} : ∀ {n i : Nat}, i < n → (∀ j, j < i → f j = none) → f i = some r → (List.range n).findSome? f = some r
  | 0, i, h, _, _ => absurd h (Nat.not_lt_zero _)
  | n + 1, i, h, hn, hi => by
    rw [List.range_succ, List.findSome?_append]
    rcases Nat.lt_or_ge i n with q | q
    · rw [findSome_hit q hn hi]; rfl
    · have : i = n := by omega
      subst this
      have e : (List.range i).findSome? f = none := List.findSome?_eq_none_iff.mpr fun j hj => hn j (List.mem_range.mp hj)
      rw [e]; simp [hi]
theorem empty_NA (ok : Bok b) (G : Glb w b.H0) : NA b.R₀ (.ref 374) [] := by
  have e1 := ok.base _ _ (G.kin 374 _ (by k_is))
  have e2 := ok.base _ _ (G.kin 373 _ (by k_is))
  refine' ⟨374, 373, _, _, ?a, rfl, e1, e2, ?g, ?t⟩
  case g => exact rfl
  case t =>
    have e3 := ok.base _ _ (G.kin 382 _ (by k_is))
    exact ⟨_, [], e3, ⟨_, rfl⟩, .nil⟩
set_option maxHeartbeats 4000000 in
theorem deep_spec {bk bd sd : Addr} {bo so : Obj} {md : Nat} {mi : Int} {xs : Sto} {es : List (Lab × Int)} {x : Value} {ls : Lab} {Q : Value → Shared → Prop}
  (ok : Bok b) (G : Glb w b.H0) (hs : b.hs = s.heap) (ar : Ar 6 A b.fo) (B : Bk w b bk bd sd xs) (kb : Kp b bd bo) (hbo : BD w bo sd md mi) (ks : Kp b sd so) (hso : DO w so xs) (hbe : All2 (BE b.R₀) xs es) (hN : NA b.R₀ x ls) (hg : Good ls)
  (post : ∀ t ot nv tm R' h' tk' labs mark, deepm ls md es = some (labs, mark) → Ret b R' h' → R' t ot → TO ot [nv, .int mark tm] → NA R' nv labs → Q (.ref t) { s with heap := h', toks := tk' })
  (postE : ∀ R' h' tk' e outer, deepm ls md es = none → A.frames = some outer → Ret b R' h' → Fly b R' outer e "KeyError" h' → E (.ref e) { s with heap := h', toks := tk' }) :
  wpAny (model Challenge.rw_ji0018_01.row.prog w) A (call (.ref 470) [.ref bk, x]) Q E s := by
  have hN' := hN
  obtain ⟨xa, dx, xes, nx, ax, rfl, rx, rdx, gl, ol, vls, rl, tol, hbv⟩ := hN'
  have hbo' := hbo
  obtain ⟨n, a1, a2, a3, a4, a5, rfl⟩ := hbo'
  have hlen := hbv.length
  have hfew := hg.few
  have hE := empty_NA ok G
  refine wpAny_call ?_
  have ar₀ := ar
  refine' enterC (n := 5) [(Str.ofString "name", .ref xa), (Str.ofString "self", .ref bk)] [] ok G hs ar (fun _ h => nomatch h) List.nodup_nil ?ho ?hcd ?hb ?hl ?h1 ?h2 ?h3 ?hc ?_
  walk_at "enter"
  intro L h₁ tk S ar
  have hh := ar.hnd
  walk_at "go"
  refine lenName S G (ar.le (by decide)) (hN.mono S.sub) hg fun h' tk' t S => ?_
  walk_at "goS"
  refine wpAny_mono (Q := fun f s' => f = .next ∧ ∃ h' tk' m' t', s' = { s with heap := h', toks := tk' } ∧ m' (Str.ofString "depth") = some (.int (min ls.length md : Nat) t') ∧ Same [Str.ofString "depth"] (bnd [(Str.ofString "name", .ref xa), (Str.ofString "self", .ref bk)] fun _ => none) m' ∧ St b L m' b.R₀ [] h') ?_ (fun f s' hq => ?_) fun _ _ e => e
  · walk_at "go"
    refine getA S G (S.fr _ _ (S.sub _ _ B.inst)) (S.kpGet kb) (by k_is) (by k_is) (by k_is) (by k_is) rfl rfl ?_
    walk_at "go"
    by_cases h1 : md < ls.length
    · rw [if_pos (by simpa using h1)]
      walk_at "go"
      refine getA S G (S.fr _ _ (S.sub _ _ B.inst)) (S.kpGet kb) (by k_is) (by k_is) (by k_is) (by k_is) rfl rfl ?_
      walk_at "go"
      rw [show min ls.length md = md by omega]
      exact ⟨rfl, _, _, _, _, rfl, by walk_at "look", by walk_at "same", S⟩
    · rw [if_neg (by simpa using h1)]
      walk_at "go"
      rw [show min ls.length md = ls.length by omega]
      exact ⟨rfl, _, _, _, _, rfl, by walk_at "look", by walk_at "same", S⟩
  · obtain ⟨rfl, h', tk', m', t', rfl, hm, hsame, S⟩ := hq
    generalize hd : min ls.length md = d at hm
    walk_at "go"
    have hdl : d ≤ ls.length := by omega
    refine iterR hh S ra (by omega) (fun m₀ R₀ M₀ i m' R' M' => M' = [] ∧ (∀ a o, b.R₀ a o → R' a o) ∧ Same [Str.ofString "i", Str.ofString "n"] m₀ m' ∧ ∀ j, j < i → bget es (lowL (tl ls d j)) = none) ?_ ?_ ?_ ?_ ?_
    · exact ⟨rfl, fun _ _ r => r, Same.refl, fun j hj => absurd hj (Nat.not_lt_zero _)⟩
    · rintro I i t m₁ R₁ M₁ h₂ tk₂ io₁ E₂ hi ⟨rfl, hsub, hsm₁, hnone⟩ hio S
      have hid : i < d := by omega
      walk_at "go"
      refine getA S G (S.fr _ _ (hsub _ _ rx)) (S.fr _ _ (hsub _ _ rdx)) (by k_is) (by k_is) (by k_is) (by k_is) gl rfl ?_
      walk_at "go"
      refine ⟨_, _, _, _, _, S, fun sl h' S hsl => ?_⟩
      refine tupleTail (k := d - i) S (hsub _ _ rl) tol hsl (by omega) (by omega) (by omega) (by rw [sizeLine_eq]; omega) fun a h' R₂ S hs₂ hsrc => ?_
      walk_at "go"
      have hgt : Good (tl ls d i) := hg.drop _
      have hvt : All2 BV (vls.drop (vls.length - (d - i))) (tl ls d i) := by unfold tl; rw [hlen]; exact hbv.drop _
      refine ⟨S.kin G, newName_spec S G (ar.le (by decide)) hsrc hvt hgt fun n₁ R₃ h₃ tk₃ S hs₃ hNn => ?_⟩
      have hs₀ : ∀ a o, b.R₀ a o → R₃ a o := fun a o r => hs₃ _ _ (hs₂ _ _ (hsub _ _ r))
      walk_at "go"
      refine getMeth S G (S.fr _ _ (hs₀ _ _ B.inst)) (S.kpGet kb) (by k_is) (by k_is) (by k_is) rfl ?_
      walk_at "go"
      have B' : ∀ h, Bk w (b.at L R₃ h []) bk bd sd xs := fun h => ⟨hs₀ _ _ B.inst, B.sm, fun x hx => (B.keys x hx).mono hs₀, B.few⟩
      refine ⟨S.kin G, has_spec S.call0 G rfl (ar.le (by decide)) (B' _) (S.kp kb (fun h => nomatch h)) hbo (S.kp ks (fun h => nomatch h)) hso hNn hgt fun R₄ h₄ tk₄ r₄ => ?_⟩
      replace S := S.ret r₄
      walk_at "go"
      rcases BE.find (k := lowL (tl ls d i)) hbe with ⟨e1, e2⟩ | ⟨p, mk, labs, e1, e2, hv, hlow, hgl⟩
      · rw [e1]
        walk_at "go"
        rw [if_neg (show ¬ ((none : Option (Addr × Value)).isSome = true) from Bool.false_ne_true)]
        walk_at "go"
        refine ⟨_, _, _, _, _, _, rfl, hio, S, rfl, fun a o r => r₄.sub _ _ (hs₀ a o r), by walk_at "same", fun j hj => ?_⟩
        rcases Nat.lt_or_ge j i with q | q
        · exact hnone j q
        · have : j = i := by omega
          rw [this]; exact e2
      · rw [e1]
        walk_at "go"
        rw [if_pos (show ((some p).isSome = true) from rfl)]
        walk_at "go"
        have hs₅ : ∀ a o, b.R₀ a o → R₄ a o := fun a o r => r₄.sub _ _ (hs₀ a o r)
        have B'' : ∀ h, Bk w (b.at L R₄ h []) bk bd sd xs := fun h => ⟨hs₅ _ _ B.inst, B.sm, fun x hx => (B.keys x hx).mono hs₅, B.few⟩
        refine sub_K (f := 435) (od := some (dictOf (bes w sd md mi a1 a2 a3 a4 a5) n)) (I := ⟨S.fr _ _ (hs₅ _ _ B.inst), rfl, rfl, S.kpGet kb⟩) S.fr0 G.kin (by k_is) (by k_is) (by k_is) ?_
        refine get_spec S.call0 G rfl (Ar.in1 (ar.le (by decide))) (B'' _) (S.kp kb (fun h => nomatch h)) hbo (S.kp ks (fun h => nomatch h)) hso (hNn.mono r₄.sub) hgt e1 (hv.mono hs₅) fun R₆ h₆ tk₆ t₆ r₆ => ?_
        replace S := S.ret r₆
        walk_at "go"
        refine ⟨_, _, _, _, _, S, by rw [sizeLine_eq]; exact Nat.le_of_ble_eq_true rfl, fun t h' ot hnt S hot => ?_⟩
        walk_at "go"
        refine post t ot _ _ _ _ _ (tl ls d i) mk ?_ S.toRet (.inr ⟨rfl, rfl⟩) hot (hNn.mono fun _ _ r => .inl (r₆.sub _ _ (r₄.sub _ _ r)))
        unfold deepm
        rw [hd, findSome_hit hid (fun j hj => by rw [hnone j hj]; rfl) (by rw [e2]; rfl)]
    · rintro m₁ R₁ M₁ h₂ tk₂ ⟨rfl, hsub, hsm₁, hnone⟩ S
      have hcount : (0 - -(d : Int)).toNat = d := by omega
      rw [hcount] at hnone
      have hdm : deepm ls md es = (bget es []).map fun m => ([], m) := by
        unfold deepm
        rw [hd, List.findSome?_eq_none_iff.mpr fun j hj => by rw [hnone j (List.mem_range.mp hj)]; rfl]
      have B' : ∀ h, Bk w (b.at L R₁ h []) bk bd sd xs := fun h => ⟨hsub _ _ B.inst, B.sm, fun x hx => (B.keys x hx).mono hsub, B.few⟩
      walk_at "go"
      refine sub_K (f := 435) (od := some (dictOf (bes w sd md mi a1 a2 a3 a4 a5) n)) (I := ⟨S.fr _ _ (hsub _ _ B.inst), rfl, rfl, S.kpGet kb⟩) S.fr0 G.kin (by k_is) (by k_is) (by k_is) ?_
      rcases BE.find (k := []) hbe with ⟨e1, e2⟩ | ⟨p, mk, labs, e1, e2, hv, hlow, hgl⟩
      · refine get_no S.call0 G rfl (Ar.in1 (ar.le (by decide))) (B' _) (S.kp kb (fun h => nomatch h)) hbo (S.kp ks (fun h => nomatch h)) hso (hE.mono hsub) good_nil e1 fun R₆ h₆ tk₆ e outer e0 r₆ hf => ?_
        refine leaveOn S ar₀ rfl r₆ e0 hf fun h' outer e0 r hf => ?_
        exact postE _ _ _ _ _ (by rw [hdm, e2]; rfl) e0 r hf
      · refine get_spec S.call0 G rfl (Ar.in1 (ar.le (by decide))) (B' _) (S.kp kb (fun h => nomatch h)) hbo (S.kp ks (fun h => nomatch h)) hso (hE.mono hsub) good_nil e1 (hv.mono hsub) fun R₆ h₆ tk₆ t₆ r₆ => ?_
        replace S := S.ret r₆
        walk_at "go"
        refine ⟨_, _, _, _, _, S, by rw [sizeLine_eq]; exact Nat.le_of_ble_eq_true rfl, fun t h' ot hnt S hot => ?_⟩
        walk_at "go"
        refine post t ot _ _ _ _ _ [] mk ?_ S.toRet (.inr ⟨rfl, rfl⟩) hot (hE.mono fun _ _ r => .inl (r₆.sub _ _ (hsub _ _ r)))
        rw [hdm, e2]; rfl
    · rfl
    · rfl
end
end

/-! L1 -/
section
open PySem PySem.W PyProof.Rows PySem.Calls
section
variable {w : World} {A : Around} {E : Value → Shared → Prop} {s : Shared} {b : Bs} {L : Addr} {m : Str → Option Value} {R : Rel} {M : List (Addr × Obj)} {cn : Str} {cs : Scope} {fa : Addr} {cd : Value}
/-- an entry of the model -/
abbrev Mo := Lab × Lab × Int
def MD (P : Addr → Obj → Prop) (R : Rel) (v : Value) (e : Mo) : Prop := ∃ a o sv lv tm, v = .ref a ∧ P a o ∧ LW o [sv, lv, .int e.2.2 tm] ∧ LL R sv e.1 ∧ LL R lv e.2.1
def MO (P : Addr → Obj → Prop) (R : Rel) (ml : Addr) (ents : List Mo) : Prop := ∃ o vs, P ml o ∧ LO o vs ∧ All2 (MD P R) vs ents
theorem MD.imp {P P' : Addr → Obj → Prop} {R R' : Rel} (hP : ∀ a o, P a o → P' a o) (hR : ∀ a o, R a o → R' a o) {v : Value} {e : Mo} (x : MD P R v e) : MD P' R' v e :=
  let ⟨a, o, sv, lv, tm, e1, p, l, s1, s2⟩ := x; ⟨a, o, sv, lv, tm, e1, hP _ _ p, l, s1.mono hR, s2.mono hR⟩
theorem MO.imp {P P' : Addr → Obj → Prop} {R R' : Rel} (hP : ∀ a o, P a o → P' a o) (hR : ∀ a o, R a o → R' a o) {ml : Addr} {ents : List Mo} (x : MO P R ml ents) : MO P' R' ml ents :=
  let ⟨o, vs, p, l, a⟩ := x; ⟨o, vs, hP _ _ p, l, a.imp fun _ _ y => y.imp hP hR⟩
/-- what holds of a model -/
structure Mok (ents : List Mo) : Prop where
  few : ents.length ≤ 14
  good : ∀ e ∈ ents, Good e.2.1
  low : ∀ e ∈ ents, e.1 = lowL e.2.1
def drawnv (n : Nat) (ents : List Mo) : Lab :=
  if n % 4 = 0 ∨ ents = [] then freshv (n / 4) else
    if n / 4 / ents.length % 4 = 1 then (ents.getD (n / 4 % ents.length) ([], [], 0)).2.1.map (·.map turnB)
    else if n / 4 / ents.length % 4 = 2 ∧ (ents.getD (n / 4 % ents.length) ([], [], 0)).2.1.length < 5 then LAWLABS.getD (n / 4 / ents.length / 4 % 9) [] :: (ents.getD (n / 4 % ents.length) ([], [], 0)).2.1
    else if n / 4 / ents.length % 4 = 3 then (ents.getD (n / 4 % ents.length) ([], [], 0)).2.1.drop 1 else (ents.getD (n / 4 % ents.length) ([], [], 0)).2.1
theorem natNe {q k : Nat} (h : ¬ q = k) : ¬ ((q : Int) == (k : Int)) = true := fun e => h (Int.ofNat.inj (beq_iff_eq.mp e))
set_option maxHeartbeats 4000000 in
theorem drawn_spec {ml : Addr} {ents : List Mo} {n : Nat} {t : Tok} {Q : Value → Shared → Prop}
  (ok : Bok b) (G : Glb w b.H0) (hs : b.hs = s.heap) (ar : Ar 3 A b.fo) (hm : MO (Kp b) b.R₀ ml ents) (hk : Mok ents)
  (post : ∀ r R' h' tk', Ret b R' h' → LL R' r (drawnv n ents) → Q r { s with heap := h', toks := tk' }) :
  wpAny (model Challenge.rw_ji0018_01.row.prog w) A (call (.ref 523) [.int n t, .ref ml]) Q E s := by
  obtain ⟨mo, vs, km, hmo, hall⟩ := hm
  have hlen := hall.length
  have hfew := hk.few
  refine' enter (n := 2) [(Str.ofString "model", .ref ml), (Str.ofString "number", .int n t)] [] ok G hs ar (fun _ h => nomatch h) List.nodup_nil ?ho ?hcd ?hb ?hl ?h1 ?h2 ?h3 ?hc ?_
  walk_at "enter"
  intro L h₁ tk E' S ar
  have hh := ar.hnd
  walk_at "go"
  by_cases h0 : n % 4 = 0
  · rw [if_pos (by rw [h0]; rfl)]
    walk_at "go"
    refine ⟨S.kin G, fresh_spec S.call0 G rfl (ar.le (by decide)) fun r R' h' tk' hr hl => ?_⟩
    exact post _ _ _ _ (S.ret hr).toRet (by unfold drawnv; rw [if_pos (.inl h0)]; exact hl)
  · rw [if_neg (by simp; omega)]
    walk_at "go"
    refine ⟨_, _, _, _, _, S, by rw [sizeLine_eq]; decide, fun nl h' onl hnl S lnl => ?_⟩
    walk_at "go"
    refine eqNil (hmo.list (S.kpGet km)) (lnl.list (S.get (by walk_at "mem"))) ?_ ?_
    · have := ar.units; omega
    walk_at "go"
    replace S := S.tail
    by_cases hv0 : vs = []
    · rw [if_pos (decide_eq_true hv0)]
      walk_at "go"
      refine ⟨S.kin G, fresh_spec S.call0 G rfl (ar.le (by decide)) fun r R' h' tk' hr hl => ?_⟩
      have : ents = [] := by rw [hv0] at hlen; exact List.eq_nil_of_length_eq_zero hlen.symm
      exact post _ _ _ _ (S.ret hr).toRet (by unfold drawnv; rw [if_pos (.inr this)]; exact hl)
    · rw [if_neg (by simpa using hv0)]
      have hpos : 0 < vs.length := List.length_pos_iff.mpr hv0
      have hne : ¬ (n % 4 = 0 ∨ ents = []) := by
        rintro (q | q)
        · exact h0 q
        · rw [q] at hlen; exact hv0 (List.eq_nil_of_length_eq_zero hlen)
      unfold drawnv at post
      rw [if_neg hne, ← hlen] at post
      walk_at "go"
      refine lenL (hmo.list (S.kpGet km)) (by omega) fun t k => ?_
      walk_at "go"
      obtain ⟨v, hv⟩ : ∃ v, vs[n / 4 % vs.length]? = some v := ⟨vs[n / 4 % vs.length]'(Nat.mod_lt _ hpos), List.getElem?_eq_getElem _⟩
      obtain ⟨e, he, ea, eo, sv, lv, tm, rfl, ke, hle, hsm, hlb⟩ := hall.get hv
      have hge : Good e.2.1 := hk.good _ (List.mem_of_getElem? he)
      rw [show ents.getD (n / 4 % vs.length) ([], [], 0) = e by rw [List.getD_eq_getElem?_getD, he]; rfl] at post
      refine itLA (n / 4 % vs.length) (hmo.list (S.kpGet km)) rfl hv (by omega) ?_
      walk_at "go"
      refine itLA 1 (hle.list (S.kpGet ke)) rfl rfl (Nat.le_of_ble_eq_true rfl) ?_
      walk_at "go"
      refine lenL (hmo.list (S.kpGet km)) (by omega) fun t k => ?_
      walk_at "go"
      by_cases h1 : n / 4 / vs.length % 4 = 1
      · rw [if_pos (by rw [h1]; rfl)]
        rw [if_pos h1] at post
        walk_at "go"
        refine ⟨S.kin G, turned_spec S.call0 G rfl (ar.le (by decide)) (hlb.mono S.sub) (by have := hge.few; omega) (fun l hl => by have := hge.short l hl; omega) fun r R' h' tk' hr hl => ?_⟩
        exact post _ _ _ _ (S.ret hr).toRet hl
      · rw [if_neg (show ¬ (((n / 4 / vs.length % 4 : Nat) : Int) == 1) = true from natNe h1)]
        rw [if_neg h1] at post
        walk_at "go"
        by_cases h2 : n / 4 / vs.length % 4 = 2
        · rw [if_pos (by rw [h2]; rfl)]
          walk_at "go"
          obtain ⟨la, lo, lvs, rfl, rlo, hlo, hlall⟩ := id hlb
          refine lenL (hlo.list (S.fr _ _ (S.sub _ _ rlo))) (by rw [hlall.length]; have := hge.few; omega) fun t k => ?_
          walk_at "go"
          by_cases h5 : e.2.1.length < 5
          · rw [if_pos (by rw [hlall.length]; exact decide_eq_true (by omega))]
            rw [if_pos ⟨h2, h5⟩] at post
            walk_at "go"
            obtain ⟨ls, hlt, hla⟩ := lawlabels_at (S.kin G)
            have hz : ls.length = 9 := hla.length
            obtain ⟨v, hv⟩ : ∃ v, ls[n / 4 / vs.length / 4 % 9]? = some v := ⟨ls[n / 4 / vs.length / 4 % 9], List.getElem?_eq_getElem _⟩
            obtain ⟨lab, hlab, a, ws, rfl, hw, hwi⟩ := hla.get hv
            refine itT (n / 4 / vs.length / 4 % 9) hlt rfl hv (by omega) ?_
            walk_at "go"
            have hlz : ∀ lab ∈ LAWLABS, lab.length ≤ 2 := by decide +kernel
            refine listOfSeq S (.inr hw) (fun d od h₃ hd S lod => ?_) (by rw [hwi.length, oi, List.length_map, sizeLine_eq]; have := hlz _ (List.mem_of_getElem? hlab); omega)
            walk_at "go"
            refine ⟨_, _, _, _, _, S, by rw [sizeLine_eq]; exact Nat.le_of_ble_eq_true rfl, fun d2 h' od2 hd2 S lod2 => ?_⟩
            walk_at "go"
            refine catL S (lod2.list (S.get (by walk_at "mem"))) (hlo.list (S.fr _ _ (S.sub _ _ rlo))) (fun d3 od3 h' hd3 S lod3 => ?_) (by rw [hlall.length, sizeLine_eq]; have := hge.few; simp; omega)
            walk_at "go"
            replace S := ((S.freeze hd3).swap.freeze hd)
            refine post _ _ _ _ S.toRet ⟨d3, od3, _, rfl, .inl (.inr ⟨rfl, rfl⟩), lod3, ?_⟩
            rw [List.getD_eq_getElem?_getD, hlab]
            exact .cons ⟨d, od, ws, rfl, .inr ⟨rfl, rfl⟩, lod, hwi⟩ (hlall.imp fun _ _ => IL.mono fun _ _ r => .inl (.inl r))
          · rw [if_neg (by rw [hlall.length]; simp; omega)]
            rw [if_neg fun q => h5 q.2] at post
            walk_at "go"
            rw [if_neg (show ¬ (((n / 4 / vs.length % 4 : Nat) : Int) == 3) = true from natNe (fun q => by rw [h2] at q; cases q))]
            rw [if_neg (fun q => by rw [h2] at q; cases q)] at post
            walk_at "go"
            exact post _ _ _ _ S.toRet (hlb.mono S.sub)
        · rw [if_neg (show ¬ (((n / 4 / vs.length % 4 : Nat) : Int) == 2) = true from natNe h2)]
          rw [if_neg fun q => h2 q.1] at post
          walk_at "go"
          by_cases h3 : n / 4 / vs.length % 4 = 3
          · rw [if_pos (by rw [h3]; rfl)]
            rw [if_pos h3] at post
            walk_at "go"
            refine ⟨_, _, _, _, _, S, fun sl h' S hsl => ?_⟩
            obtain ⟨la, lo, lvs, rfl, rlo, hlo, hlall⟩ := id hlb
            refine listFrom (a := 1) S (hlo.list (S.fr _ _ (S.sub _ _ rlo))) hsl rfl (by rw [hlall.length, sizeLine_eq]; have := hge.few; omega) fun d od h' hd S lod => ?_
            walk_at "go"
            replace S := S.freeze hd
            exact post _ _ _ _ S.toRet ⟨d, od, _, rfl, .inr ⟨rfl, rfl⟩, lod, (hlall.drop 1).imp fun _ _ => IL.mono fun _ _ r => .inl r⟩
          · rw [if_neg (show ¬ (((n / 4 / vs.length % 4 : Nat) : Int) == 3) = true from natNe h3)]
            rw [if_neg h3] at post
            walk_at "go"
            exact post _ _ _ _ S.toRet (hlb.mono S.sub)
end
end

/-! L2 -/
section
open PySem PySem.W PyProof.Rows PySem.Calls
section
variable {w : World} {A : Around} {E : Value → Shared → Prop} {s : Shared} {b : Bs} {L : Addr} {m : Str → Option Value} {R : Rel} {M : List (Addr × Obj)} {cn : Str} {cs : Scope} {fa : Addr} {cd : Value}
/-- the place of a folded label list, or -1 -/
def spotv : List Mo → Lab → Int → Int
  | [], _, _ => -1
  | e :: r, k, i => if e.1 = k then i else spotv r k (i + 1)
theorem spotv_at {k : Lab} : ∀ {ents : List Mo} {j : Nat} {i : Int}, (∀ m, m < j → ∀ e, ents[m]? = some e → e.1 ≠ k) → j ≤ ents.length → spotv ents k i = spotv (ents.drop j) k (i + j)
  | _, 0, i, _, _ => by simp
  | [], j + 1, i, _, h => by simp at h
  | e :: r, j + 1, i, hn, h => by
    have h0 : e.1 ≠ k := hn 0 (Nat.succ_pos _) e rfl
    show (if e.1 = k then i else spotv r k (i + 1)) = spotv (r.drop j) k _
    rw [if_neg h0, spotv_at (ents := r) (j := j) (fun m hm e' he => hn (m + 1) (by omega) e' (by simpa using he)) (by simpa using h)]
    congr 1
    push_cast
    omega
set_option maxHeartbeats 4000000 in
theorem spot_spec {ml : Addr} {ents : List Mo} {v : Value} {ls : Lab} {Q : Value → Shared → Prop}
  (ok : Bok b) (G : Glb w b.H0) (hs : b.hs = s.heap) (ar : Ar 3 A b.fo) (hm : MO (Kp b) b.R₀ ml ents) (hk : Mok ents) (hL : LL b.R₀ v ls) (hg : Good ls)
  (post : ∀ R' h' tk' t, Ret b R' h' → Q (.int (spotv ents (lowL ls) 0) t) { s with heap := h', toks := tk' }) :
  wpAny (model Challenge.rw_ji0018_01.row.prog w) A (call (.ref 535) [.ref ml, v]) Q E s := by
  obtain ⟨mo, vs, km, hmo, hall⟩ := hm
  have hlen := hall.length
  have hfew := hk.few
  refine' enter (n := 2) [(Str.ofString "labels", v), (Str.ofString "model", .ref ml)] [] ok G hs ar (fun _ h => nomatch h) List.nodup_nil ?ho ?hcd ?hb ?hl ?h1 ?h2 ?h3 ?hc ?_
  walk_at "enter"
  intro L h₁ tk E' S ar
  have hh := ar.hnd
  walk_at "go"
  refine ⟨S.kin G, small_spec S.call0 G rfl (ar.le (by decide)) (hL.mono S.sub) (by have := hg.few; omega) (fun l hl => by have := hg.short l hl; omega) fun sm R₁ h' tk' r hsm => ?_⟩
  replace S := S.ret r
  replace hsm : LL R₁ sm (lowL ls) := hsm
  have hsub : ∀ a o, b.R₀ a o → R₁ a o := S.sub
  walk_at "go"
  refine lenL (hmo.list (S.kpGet km)) (by omega) fun t k => ?_
  walk_at "go"
  refine iterR hh S ra (by omega) (fun m₀ R₀ M₀ i m' R' M' => M' = [] ∧ R' = R₁ ∧ Same [Str.ofString "place"] m₀ m' ∧ ∀ m, m < i → ∀ e, ents[m]? = some e → e.1 ≠ lowL ls) ?_ ?_ ?_ ?_ ?_
  · exact ⟨rfl, rfl, Same.refl, fun m hm => absurd hm (Nat.not_lt_zero _)⟩
  · rintro I i t m₁ R₂ M₁ h₂ tk₂ io₁ E₂ hi ⟨rfl, rfl, hs₁, hn⟩ hio S
    have hi' : i < vs.length := by omega
    obtain ⟨v', hv⟩ : ∃ v', vs[i]? = some v' := ⟨vs[i], List.getElem?_eq_getElem _⟩
    obtain ⟨e, he, ea, eo, sv, lv, tm, rfl, ke, hle, hsv, hlb⟩ := hall.get hv
    walk_at "go"
    refine itLA i (hmo.list (S.kpGet km)) (Int.zero_add _) hv (by omega) ?_
    walk_at "go"
    refine itLA 0 (hle.list (S.kpGet ke)) rfl rfl (Nat.le_of_ble_eq_true rfl) ?_
    walk_at "go"
    refine eqLL S (hsv.mono hsub) hsm ?_ ?_
    · have := ar.units; omega
    walk_at "go"
    by_cases hq : e.1 = lowL ls
    · rw [if_pos (decide_eq_true hq)]
      walk_at "go"
      have : spotv ents (lowL ls) 0 = 0 + (i : Int) := by
        rw [spotv_at hn (by omega)]
        rw [List.drop_eq_getElem_cons (by omega)]
        have : ents[i]'(by omega) = e := by
          have := List.getElem?_eq_getElem (l := ents) (i := i) (by omega)
          rw [he] at this; exact (Option.some.inj this).symm
        rw [this]
        show (if e.1 = lowL ls then _ else _) = _
        rw [if_pos hq]
      rw [← this]
      exact post _ _ _ _ S.toRet
    · rw [if_neg (by simpa using hq)]
      walk_at "go"
      refine ⟨_, _, _, _, _, _, rfl, hio, S, rfl, rfl, by walk_at "same", fun m hm e' he' => ?_⟩
      rcases Nat.lt_or_ge m i with q | q
      · exact hn m q e' he'
      · have : m = i := by omega
        subst this
        rw [he] at he'; cases he'
        exact hq
  · rintro m' R' M' h' tk ⟨rfl, rfl, hs₁, hn⟩ S
    walk_at "go"
    have hcount : ((vs.length : Int) - 0).toNat = vs.length := by omega
    rw [hcount] at hn
    have : spotv ents (lowL ls) 0 = -1 := by
      rw [spotv_at hn (by omega), List.drop_of_length_le (by omega)]
      rfl
    show Q (.int (-1) _) _
    rw [← this]
    exact post _ _ _ _ S.toRet
  · rfl
  · rfl
end
end

/-! L3 -/
section
open PySem PySem.W PyProof.Rows PySem.Calls
section
variable {w : World} {A : Around} {E : Value → Shared → Prop} {s : Shared} {b : Bs} {L : Addr} {m : Str → Option Value} {R : Rel} {M : List (Addr × Obj)} {cn : Str} {cs : Scope} {fa : Addr} {cd : Value}
set_option maxHeartbeats 4000000 in
theorem got_spec {bk bd sd x : Addr} {bo so : Obj} {md mi : Int} {xs : Sto} {es : List (Lab × Int)} {ls : Lab} {Q : Value → Shared → Prop}
  (ok : Bok b) (G : Glb w b.H0) (hs : b.hs = s.heap) (ar : Ar 8 A b.fo) (B : Bk w b bk bd sd xs) (kb : Kp b bd bo) (hbo : BD w bo sd md mi) (ks : Kp b sd so) (hso : DO w so xs) (hbe : All2 (BE b.R₀) xs es) (hN : NA b.R₀ (.ref x) ls) (hg : Good ls)
  (post : ∀ r R' h' tk', Ret b R' h' → RD R' r (gotD (bget es (lowL ls))) → Q r { s with heap := h', toks := tk' }) :
  wpAny (model Challenge.rw_ji0018_01.row.prog w) A (call (.ref 542) [.ref bk, .ref x]) Q E s := by
  obtain ⟨n, a1, a2, a3, a4, a5, rfl⟩ := id hbo
  have ar₀ := ar
  refine' enter (n := 7) [(Str.ofString "name", .ref x), (Str.ofString "book", .ref bk)] [] ok G hs ar (fun _ h => nomatch h) List.nodup_nil ?ho ?hcd ?hb ?hl ?h1 ?h2 ?h3 ?hc ?_
  walk_at "enter"
  intro L h₁ tk E' S ar
  have hh := ar.hnd
  walk_at "go"
  refine tryIn (cls := "KeyError") (b := b) ar₀ (isSubtype_of_subB (by decide +kernel)) (isSubtype_of_subB (by decide +kernel)) (isSubtype_of_subB (by decide +kernel)) ?_ ?_
  · intro A₁ E₁ s₁ Q₁ m₁ R₁ M₁ S hq
    walk_at "go1"
    exact hq
  walk_at "go"
  have B' : ∀ h, Bk w (b.at L b.R₀ h []) bk bd sd xs := fun h => ⟨B.inst, B.sm, B.keys, B.few⟩
  refine sub_K (f := 435) (od := some (dictOf (bes w sd md mi a1 a2 a3 a4 a5) n)) (I := ⟨S.fr _ _ B.inst, rfl, rfl, S.kpGet kb⟩) S.fr0 G.kin (by k_is) (by k_is) (by k_is) ?_
  rcases BE.find (k := lowL ls) hbe with ⟨e1, e2⟩ | ⟨p, mk, labs, e1, e2, hv, hlow, hgl⟩
  · refine get_no S.call0 G rfl (Ar.in1 (ar.le (by decide))) (B' _) (S.kp kb (fun h => nomatch h)) hbo (S.kp ks (fun h => nomatch h)) hso hN hg e1 fun R₆ h₆ tk₆ e outer e0 r₆ hf => ?_
    refine ⟨e, _, _, _, _, R₆, rfl, S, r₆, ⟨outer, e0, hf⟩, fun h' E'' S => ?_⟩
    walk_at "go"
    refine ⟨_, _, _, _, _, S, by rw [sizeLine_eq]; exact Nat.le_of_ble_eq_true rfl, fun t h' ot hnt S hot => ?_⟩
    walk_at "go"
    rw [e2] at post
    exact post _ _ _ _ S.toRet (RD.tup2 (.inr ⟨rfl, rfl⟩) hot (RD.str _ _) (RD.int _ _))
  · refine get_spec S.call0 G rfl (Ar.in1 (ar.le (by decide))) (B' _) (S.kp kb (fun h => nomatch h)) hbo (S.kp ks (fun h => nomatch h)) hso hN hg e1 hv fun R₆ h₆ tk₆ t₆ r₆ => ?_
    replace S := S.ret r₆
    walk_at "go"
    refine ⟨_, _, _, _, _, S, by rw [sizeLine_eq]; exact Nat.le_of_ble_eq_true rfl, fun t h' ot hnt S hot => ?_⟩
    walk_at "go"
    rw [e2] at post
    exact post _ _ _ _ S.toRet (RD.tup2 (.inr ⟨rfl, rfl⟩) hot (RD.str _ _) (RD.int _ _))
theorem deepm_good {ls : Lab} {md : Nat} {es : List (Lab × Int)} {labs : Lab} {mark : Int} (hg : Good ls) (h : deepm ls md es = some (labs, mark)) : Good labs := by
  unfold deepm at h
  split at h
  · rename_i r hr
    obtain ⟨j, _, hj⟩ := List.exists_of_findSome?_eq_some hr
    obtain ⟨mm, _, e⟩ := Option.map_eq_some_iff.mp hj
    cases h; cases e
    exact hg.drop _
  · obtain ⟨mm, _, e⟩ := Option.map_eq_some_iff.mp h
    cases e
    exact good_nil
set_option maxHeartbeats 4000000 in
theorem match_spec {bk bd sd x : Addr} {bo so : Obj} {md : Nat} {mi : Int} {xs : Sto} {es : List (Lab × Int)} {ls : Lab} {Q : Value → Shared → Prop}
  (ok : Bok b) (G : Glb w b.H0) (hs : b.hs = s.heap) (ar : Ar 8 A b.fo) (B : Bk w b bk bd sd xs) (kb : Kp b bd bo) (hbo : BD w bo sd md mi) (ks : Kp b sd so) (hso : DO w so xs) (hbe : All2 (BE b.R₀) xs es) (hN : NA b.R₀ (.ref x) ls) (hg : Good ls)
  (post : ∀ r R' h' tk', Ret b R' h' → RD R' r (matD (deepm ls md es)) → Q r { s with heap := h', toks := tk' }) :
  wpAny (model Challenge.rw_ji0018_01.row.prog w) A (call (.ref 547) [.ref bk, .ref x]) Q E s := by
  obtain ⟨n, a1, a2, a3, a4, a5, rfl⟩ := id hbo
  have ar₀ := ar
  refine' enter (n := 7) [(Str.ofString "name", .ref x), (Str.ofString "book", .ref bk)] [] ok G hs ar (fun _ h => nomatch h) List.nodup_nil ?ho ?hcd ?hb ?hl ?h1 ?h2 ?h3 ?hc ?_
  walk_at "enter"
  intro L h₁ tk E' S ar
  have hh := ar.hnd
  walk_at "go"
  refine tryIn (cls := "KeyError") (b := b) ar₀ (isSubtype_of_subB (by decide +kernel)) (isSubtype_of_subB (by decide +kernel)) (isSubtype_of_subB (by decide +kernel)) ?_ ?_
  · intro A₁ E₁ s₁ Q₁ m₁ R₁ M₁ S hq
    walk_at "go1"
    exact hq
  walk_at "go"
  have B' : ∀ h, Bk w (b.at L b.R₀ h []) bk bd sd xs := fun h => ⟨B.inst, B.sm, B.keys, B.few⟩
  refine getMeth S G (S.fr _ _ B.inst) (S.kpGet kb) (by k_is) (by k_is) (by k_is) rfl ?_
  walk_at "go"
  refine ⟨S.kin G, deep_spec (md := md) S.call0 G rfl (ar.le (by decide)) (B' _) (S.kp kb (fun h => nomatch h)) hbo (S.kp ks (fun h => nomatch h)) hso hbe hN hg ?_ ?_⟩
  · intro t ot nv tm R₂ h₂ tk₂ labs mark hd r₂ hrt hto hNn
    have hlabs : Good labs := deepm_good hg hd
    rw [hd] at post
    replace S := S.ret r₂
    obtain ⟨xn, dn, esn, nn, an, rfl, rxn, rdn, gln, on, vln, rln, ton, hbn⟩ := id hNn
    walk_at "go"
    refine' listCompS (b := b) (L := L) hh (fun i y R => ∀ l, labs[i]? = some l → IL R y l) (fun _ _ _ _ hs h l e => (h l e).mono hs) ?c1 ?c2 ?c3 ?c4 ?c5 ?c6 ?_
    case c1 => decide
    case c2 => decide
    case c3 => exact rfl
    case c4 => decide
    case c5 => exact rfl
    case c6 => exact fun _ => rfl
    walk_at "go"
    refine itTA 0 (hto.tup (S.fr _ _ hrt)) rfl rfl (Nat.le_of_ble_eq_true rfl) ?_
    refine getA S G (S.fr _ _ rxn) (S.fr _ _ rdn) (by k_is) (by k_is) (by k_is) (by k_is) gln rfl ?_
    have hln := hbn.length
    refine ⟨_, _, _, an, vln, rfl, S, ⟨on, rln, .inr ton⟩, by rw [sizeLine_eq, hln]; exact Nat.le_trans hlabs.few (Nat.le_of_ble_eq_true rfl), ?_, ?_⟩
    · intro C i v mc R₁ M₁ h₁ tk E' hv hC hx hsM hsR S
      obtain ⟨l, hl, t, rfl⟩ := hbn.get hv
      have hlz : l.length ≤ 2 := hlabs.short l (List.mem_of_getElem? hl)
      walk_at "go"
      refine listOfBytes S hh (by omega) fun d od us h' tk hk hd0 hd S' lod hin => ?_
      refine ⟨R₁.ins d od, h', tk, rfl, S.adds hk (fun _ _ r => .inl r) (fun a o r => by rcases r with r | ⟨rfl, _⟩; exact .inl r; exact .inr hd0) (S'.freeze hd).fr, fun l' hl' => ?_⟩
      rw [hl] at hl'; cases hl'
      exact ⟨d, od, us, rfl, .inr ⟨rfl, rfl⟩, lod, hin⟩
    · intro D dO' R' h₃ tk ys hsub S hD hl hlen' hys
      walk_at "go"
      refine itTA 1 (hto.tup (S.fr _ _ (hsub _ _ hrt))) rfl rfl (Nat.le_of_ble_eq_true rfl) ?_
      walk_at "go"
      replace S := S.freeze hD
      refine ⟨_, _, _, _, _, S, by rw [sizeLine_eq]; exact Nat.le_of_ble_eq_true rfl, fun t h' ot hnt S hot => ?_⟩
      walk_at "go"
      exact post _ _ _ _ S.toRet (RD.tup3 (.inr ⟨rfl, rfl⟩) hot (RD.str _ _) (LL.rd ⟨D, dO', ys, rfl, .inl (.inr ⟨rfl, rfl⟩), hl, All2.of_get (by omega) fun i y hy l hl' => (hys i y hy l hl').mono fun _ _ r => .inl (.inl r)⟩) (RD.int _ _))
  · intro R₂ h₂ tk₂ e outer hd e0 r₂ hf
    refine ⟨e, _, _, _, _, R₂, rfl, S, r₂, ⟨outer, e0, hf⟩, fun h' E'' S => ?_⟩
    rw [hd] at post
    walk_at "go"
    refine ⟨_, _, _, _, _, S, by rw [sizeLine_eq]; decide, fun nl h' onl hnl S lnl => ?_⟩
    walk_at "go"
    replace S := S.freeze hnl
    refine ⟨_, _, _, _, _, S, by rw [sizeLine_eq]; exact Nat.le_of_ble_eq_true rfl, fun t h' ot hnt S hot => ?_⟩
    walk_at "go"
    exact post _ _ _ _ S.toRet (RD.tup3 (.inr ⟨rfl, rfl⟩) hot (RD.str _ _) (LL.rd ⟨nl, onl, [], rfl, .inl (.inr ⟨rfl, rfl⟩), lnl, .nil⟩) (RD.int _ _))
end
end

/-! L4 -/
section
open PySem PySem.W PyProof.Rows PySem.Calls
section
variable {w : World} {A : Around} {E : Value → Shared → Prop} {s : Shared} {b : Bs} {L : Addr} {m : Str → Option Value} {R : Rel} {M : List (Addr × Obj)} {cn : Str} {cs : Scope} {fa : Addr} {cd : Value}
/-- one step of the search for the longest tail -/
def bstep (ls : Lab) (p : Option (Lab × Int) × Int) (e : Mo) : Option (Lab × Int) × Int :=
  if e.1.length ≤ ls.length ∧ p.2 < (e.1.length : Int) ∧ (lowL ls).drop (ls.length - e.1.length) = e.1 then (some (ls.drop (ls.length - e.1.length), e.2.2), (e.1.length : Int)) else p
def bestv (ents : List Mo) (ls : Lab) : Option (Lab × Int) := (ents.foldl (bstep ls) (none, -1)).1
theorem foldl_snoc' {α β : Type} {l : List α} {i : Nat} {x : α} (h : l[i]? = some x) (f : β → α → β) (z : β) : (l.take (i + 1)).foldl f z = f ((l.take i).foldl f z) x := by
  rw [List.take_add_one, h]; simp
set_option maxHeartbeats 4000000 in
theorem deepest_spec {ml : Addr} {ents : List Mo} {v : Value} {ls : Lab} {Q : Value → Shared → Prop}
  (ok : Bok b) (G : Glb w b.H0) (hs : b.hs = s.heap) (ar : Ar 3 A b.fo) (hm : MO (Kp b) b.R₀ ml ents) (hk : Mok ents) (hL : LL b.R₀ v ls) (hg : Good ls)
  (post : ∀ r R' h' tk', Ret b R' h' → RD R' r (matD (bestv ents ls)) → Q r { s with heap := h', toks := tk' }) :
  wpAny (model Challenge.rw_ji0018_01.row.prog w) A (call (.ref 554) [.ref ml, v]) Q E s := by
  obtain ⟨mo, vs, km, hmo, hall⟩ := hm
  have hlen := hall.length
  have hfew := hk.few
  have hgf := hg.few
  obtain ⟨la, lo, lvs, rfl, rlo, hlo, hlall⟩ := id hL
  have hll := hlall.length
  refine' enter (n := 2) [(Str.ofString "labels", .ref la), (Str.ofString "model", .ref ml)] [] ok G hs ar (fun _ h => nomatch h) List.nodup_nil ?ho ?hcd ?hb ?hl ?h1 ?h2 ?h3 ?hc ?_
  walk_at "enter"
  intro L h₁ tk E' S ar
  have hh := ar.hnd
  walk_at "go"
  refine ⟨S.kin G, small_spec S.call0 G rfl (ar.le (by decide)) (hL.mono S.sub) (by omega) (fun l hl => by have := hg.short l hl; omega) fun sm R₁ h' tk' r hsm => ?_⟩
  replace S := S.ret r
  replace hsm : LL R₁ sm (lowL ls) := hsm
  obtain ⟨sa, so, svs, rfl, rso, hso, hsall⟩ := id hsm
  have hsl := hsall.length
  have hlow : (lowL ls).length = ls.length := by simp [lowL]
  have hsub : ∀ a o, b.R₀ a o → R₁ a o := S.sub
  walk_at "go"
  refine ⟨_, _, _, _, _, S, by rw [sizeLine_eq]; decide, fun nl h' onl hnl S lnl => ?_⟩
  walk_at "go"
  replace S := S.freeze hnl
  refine ⟨_, _, _, _, _, S, by rw [sizeLine_eq]; exact Nat.le_of_ble_eq_true rfl, fun bt h' obt hbt S hbto => ?_⟩
  walk_at "go"
  have hrd0 : RD ((R₁.ins nl onl).ins bt obt) (.ref bt) (matD none) := RD.tup3 (.inr ⟨rfl, rfl⟩) hbto (RD.str _ _) (LL.rd ⟨nl, onl, [], rfl, .inl (.inr ⟨rfl, rfl⟩), lnl, .nil⟩) (RD.int _ _)
  have hsub₀ : ∀ a o, R₁ a o → ((R₁.ins nl onl).ins bt obt) a o := fun a o r => .inl (.inl r)
  generalize (R₁.ins nl onl).ins bt obt = R₂ at S hrd0 hsub₀
  refine iterL (l := ml) (vs := vs) hh S (fun m₀ R₀ M₀ i m' R' M' => ∃ bv t', M' = [] ∧ (∀ a o, R₂ a o → R' a o) ∧ Same [Str.ofString "entry", Str.ofString "front", Str.ofString "longest", Str.ofString "best"] m₀ m' ∧
      m' (Str.ofString "best") = some bv ∧ RD R' bv (matD ((ents.take i).foldl (bstep ls) (none, -1)).1) ∧ m' (Str.ofString "longest") = some (.int ((ents.take i).foldl (bstep ls) (none, -1)).2 t')) ?_ ?_ ?_ ?_ ?_ ?_
  · exact ⟨_, _, rfl, fun _ _ r => r, Same.refl, by walk_at "look", hrd0, by walk_at "lookr"⟩
  · rintro i m' R' M' h' ⟨bv, t', rfl, q1, q2, q3, q4, q5⟩ S'
    exact hmo.list (S'.kpGet km)
  · rintro I i v m₁ R₃ M₁ h₂ tk₂ io₁ E₂ hv ⟨bv, t', rfl, q1, q2, q3, q4, q5⟩ hio S
    obtain ⟨e, he, ea, eo, sv, lv, tm, rfl, ke, hle, hsv, hlb⟩ := hall.get hv
    have hs3 : ∀ a o, R₁ a o → R₃ a o := fun a o r => q1 _ _ (hsub₀ _ _ r)
    obtain ⟨ea1, eo1, evs1, rfl, reo1, heo1, heall1⟩ := id hsv
    have hel := heall1.length
    have heg : e.1.length ≤ 6 := by
      have h1 := hk.low _ (List.mem_of_getElem? he)
      have h2 := (hk.good _ (List.mem_of_getElem? he)).few
      rw [h1]; simpa [lowL] using h2
    walk_at "go"
    refine lenL (hso.list (S.fr _ _ (hs3 _ _ rso))) (by omega) fun t k => ?_
    walk_at "go"
    refine itLA 0 (hle.list (S.kpGet ke)) rfl rfl (Nat.le_of_ble_eq_true rfl) ?_
    walk_at "go"
    refine lenL (heo1.list (S.fr _ _ (hs3 _ _ (hsub _ _ reo1)))) (by omega) fun t k => ?_
    walk_at "go"
    have noStep : ∀ P : Prop, P → P := fun _ h => h
    by_cases h1 : e.1.length ≤ ls.length
    · rw [if_pos (decide_eq_true (by omega))]
      walk_at "go"
      refine itLA 0 (hle.list (S.kpGet ke)) rfl rfl (Nat.le_of_ble_eq_true rfl) ?_
      walk_at "go"
      refine lenL (heo1.list (S.fr _ _ (hs3 _ _ (hsub _ _ reo1)))) (by omega) fun t k => ?_
      walk_at "go"
      generalize hz : (ents.take i).foldl (bstep ls) (none, -1) = z at q4 q5
      have skip : (¬ (z.2 < (e.1.length : Int) ∧ (lowL ls).drop (ls.length - e.1.length) = e.1)) → (ents.take (i + 1)).foldl (bstep ls) (none, -1) = z := fun hn => by
        rw [foldl_snoc' he, hz, bstep, if_neg fun q => hn q.2]
      by_cases h2 : z.2 < (e.1.length : Int)
      · rw [if_pos (decide_eq_true (by omega))]
        walk_at "go"
        refine ⟨_, _, _, _, _, S, fun sl h' S hsl => ?_⟩
        refine listFrom (a := ls.length - e.1.length) S (hso.list (S.fr _ _ (hs3 _ _ rso))) hsl (by omega) (by rw [sizeLine_eq]; omega) fun d od h' hd S lod => ?_
        walk_at "go"
        replace S := S.freeze hd
        have hLd : LL (R₃.ins d od) (.ref d) ((lowL ls).drop (ls.length - e.1.length)) := ⟨d, od, _, rfl, .inr ⟨rfl, rfl⟩, lod, (hsall.drop _).imp fun _ _ => IL.mono fun _ _ r => .inl (hs3 _ _ r)⟩
        refine itLA 0 (hle.list (S.kpGet ke)) rfl rfl (Nat.le_of_ble_eq_true rfl) ?_
        refine eqLL S hLd (hsv.mono fun _ _ r => .inl (hs3 _ _ (hsub _ _ r))) ?_ ?_
        · have := ar.units; omega
        walk_at "go"
        have hs4 : ∀ a o, R₁ a o → (R₃.ins d od) a o := fun a o r => .inl (hs3 _ _ r)
        by_cases h3 : (lowL ls).drop (ls.length - e.1.length) = e.1
        · rw [if_pos (decide_eq_true h3)]
          walk_at "go"
          refine itLA 0 (hle.list (S.kpGet ke)) rfl rfl (Nat.le_of_ble_eq_true rfl) ?_
          walk_at "go"
          refine lenL (heo1.list (S.fr _ _ (hs4 _ _ (hsub _ _ reo1)))) (by omega) fun t k => ?_
          walk_at "go"
          refine ⟨_, _, _, _, _, S, fun sl h' S hsl => ?_⟩
          refine listFrom (a := ls.length - e.1.length) S (hlo.list (S.fr _ _ (hs4 _ _ (hsub _ _ rlo)))) hsl (by omega) (by rw [sizeLine_eq]; omega) fun d2 od2 h' hd2 S lod2 => ?_
          walk_at "go"
          replace S := S.freeze hd2
          refine itLA 2 (hle.list (S.kpGet ke)) rfl rfl (Nat.le_of_ble_eq_true rfl) ?_
          walk_at "go"
          refine ⟨_, _, _, _, _, S, by rw [sizeLine_eq]; exact Nat.le_of_ble_eq_true rfl, fun t3 h' ot3 hnt3 S hot3 => ?_⟩
          walk_at "go"
          have hst : (ents.take (i + 1)).foldl (bstep ls) (none, -1) = (some (ls.drop (ls.length - e.1.length), e.2.2), (e.1.length : Int)) := by
            rw [foldl_snoc' he, hz, bstep, if_pos ⟨h1, h2, h3⟩]
          refine' ⟨_, _, _, _, _, _, rfl, hio, S, .ref t3, _, rfl, fun _ _ r => .inl (.inl (.inl (q1 _ _ r))), by walk_at "same", by walk_at "look", ?x1, ?x2⟩
          case x1 =>
            rw [hst]
            exact RD.tup3 (.inr ⟨rfl, rfl⟩) hot3 (RD.str _ _) (LL.rd ⟨d2, od2, _, rfl, .inl (.inr ⟨rfl, rfl⟩), lod2, (hlall.drop _).imp fun _ _ => IL.mono fun _ _ r => .inl (.inl (hs4 _ _ (hsub _ _ r)))⟩) (RD.int _ _)
          case x2 =>
            rw [hst, ← hel]
            walk_at "look"
        · rw [if_neg (by simpa using h3)]
          walk_at "go"
          refine ⟨_, _, _, _, _, _, rfl, hio, S, bv, t', rfl, fun _ _ r => .inl (q1 _ _ r), by walk_at "same", by walk_at "look", ?_, ?_⟩
          · rw [skip fun q => h3 q.2]; exact q4.mono fun _ _ r => .inl r
          · rw [skip fun q => h3 q.2]; walk_at "look"
      · rw [if_neg (by simp; omega)]
        walk_at "go"
        refine ⟨_, _, _, _, _, _, rfl, hio, S, bv, t', rfl, q1, by walk_at "same", by walk_at "look", ?_, ?_⟩
        · rw [skip fun q => h2 q.1]; exact q4
        · rw [skip fun q => h2 q.1]; walk_at "look"
    · rw [if_neg (by simp; omega)]
      walk_at "go"
      refine ⟨_, _, _, _, _, _, rfl, hio, S, bv, t', rfl, q1, by walk_at "same", by walk_at "look", ?_, ?_⟩
      · rw [foldl_snoc' he, bstep, if_neg fun q => h1 q.1]; exact q4
      · rw [foldl_snoc' he, bstep, if_neg fun q => h1 q.1]; walk_at "look"
  · rintro m' R' M' h' tk ⟨bv, t', rfl, q1, q2, q3, q4, q5⟩ S
    walk_at "go"
    rw [List.take_of_length_le (by omega)] at q4
    exact post _ _ _ _ S.toRet q4
  · rfl
  · rfl
end
end

/-! L5 -/
section
open PySem PySem.W PyProof.Rows PySem.Calls
section
variable {w : World} {A : Around} {E : Value → Shared → Prop} {s : Shared} {b : Bs} {L : Addr} {m : Str → Option Value} {R : Rel} {M : List (Addr × Obj)} {cn : Str} {cs : Scope} {fa : Addr} {cd : Value}
/-- the lengths of the stored names -/
def lens (ents : List Mo) : List Int := ents.map fun e => (e.1.length : Int)
theorem ints_lens : ∀ {ys : List Value} {ents : List Mo}, ys.length = ents.length → (∀ (i : Nat) (y : Value), ys[i]? = some y → ∀ e, ents[i]? = some e → ∃ t, y = .int e.1.length t) → IntsAre ys (lens ents)
  | [], [], _, _ => .nil
  | y :: ys, e :: es, h, f => by
    obtain ⟨t, rfl⟩ := f 0 y rfl e rfl
    exact .cons _ _ (ints_lens (by simpa using h) fun i x hx z hz => f (i + 1) x (by simpa using hx) z (by simpa using hz))
/-- the book's two figures are right -/
structure Fig (ents : List Mo) (md : Nat) (mi : Int) : Prop where
  mem : (md : Int) ∈ 0 :: lens ents
  top : ∀ a ∈ (0 : Int) :: lens ents, a ≤ md
  cnt : mi = ((lens ents).count (md : Int) : Nat)
set_option maxHeartbeats 4000000 in
theorem state_spec {bk bd sd ml : Addr} {bo so : Obj} {md : Nat} {mi : Int} {xs : Sto} {ents : List Mo} {Q : Value → Shared → Prop}
  (ok : Bok b) (G : Glb w b.H0) (hs : b.hs = s.heap) (ar : Ar 3 A b.fo) (B : Bk w b bk bd sd xs) (kb : Kp b bd bo) (hbo : BD w bo sd md mi) (ks : Kp b sd so) (hso : DO w so xs) (hm : MO (Kp b) b.R₀ ml ents) (hk : Mok ents) (hn : xs.length = ents.length) (hf : Fig ents md mi)
  (post : ∀ R' h' tk', Ret b R' h' → Q (.bool true) { s with heap := h', toks := tk' }) :
  wpAny (model Challenge.rw_ji0018_01.row.prog w) A (call (.ref 559) [.ref bk, .ref ml]) Q E s := by
  obtain ⟨n, a1, a2, a3, a4, a5, rfl⟩ := id hbo
  obtain ⟨mo, vs, km, hmo, hall⟩ := hm
  have hlen := hall.length
  have hfew := hk.few
  refine' enter (n := 2) [(Str.ofString "model", .ref ml), (Str.ofString "book", .ref bk)] [] ok G hs ar (fun _ h => nomatch h) List.nodup_nil ?ho ?hcd ?hb ?hl ?h1 ?h2 ?h3 ?hc ?_
  walk_at "enter"
  intro L h₁ tk E' S ar
  have hh := ar.hnd
  walk_at "go"
  refine' assignCompK (b := b) (L := L) hh (fun i y _ => ∀ e, ents[i]? = some e → ∃ t, y = .int e.1.length t) (fun _ _ _ _ _ h => h) ?c1 ?c2 ?c3 ?c4 ?c5 ?c6 ?c7 ?c8 ?c9 ?_
  case c1 => exact rfl
  case c2 => decide
  case c3 => decide
  case c4 => exact rfl
  case c5 => decide
  case c6 => exact rfl
  case c7 => exact rfl
  case c8 => exact rfl
  case c9 => exact fun _ => rfl
  walk_at "go"
  refine ⟨_, _, _, ml, mo, vs, rfl, S, km, hmo, by rw [sizeLine_eq]; omega, ?_, ?_⟩
  · intro C i v mc R₁ M₁ h₁ tk E' hv hC hx hsM hsR S
    obtain ⟨e, he, ea, eo, sv, lv, tm, rfl, ke, hle, hsv, hlb⟩ := hall.get hv
    obtain ⟨ea1, eo1, evs1, rfl, reo1, heo1, heall1⟩ := id hsv
    have hel := heall1.length
    have heg : e.1.length ≤ 6 := by
      have h1 := hk.low _ (List.mem_of_getElem? he)
      have h2 := (hk.good _ (List.mem_of_getElem? he)).few
      rw [h1]; simpa [lowL] using h2
    walk_at "go"
    refine itLA 0 (hle.list (S.kpGet ke)) rfl rfl (Nat.le_of_ble_eq_true rfl) ?_
    walk_at "go"
    refine lenL (heo1.list (S.fr _ _ (hsR _ _ reo1))) (by omega) fun t k => ?_
    exact ⟨_, h₁, k, rfl, S.adds0 fun _ _ e => e, fun e' he' => by rw [he] at he'; cases he'; exact ⟨t, by rw [hel]⟩⟩
  · intro D dO' R' h₃ tk ys hsub S hD hl hlen' hys
    have hints : IntsAre ys (lens ents) := ints_lens (by omega) hys
    walk_at "go"
    refine ⟨_, _, _, _, _, S, by rw [sizeLine_eq]; exact Nat.le_of_ble_eq_true rfl, fun z h' oz hz S hzl => ?_⟩
    walk_at "go"
    refine catL S (hzl.list (S.get (by walk_at "mem"))) (hl.list (S.get (by walk_at "mem"))) (fun c oc h' hc S hcl => ?_) (by rw [sizeLine_eq]; simp; omega)
    walk_at "go"
    refine maxM (ns := 0 :: lens ents) hh S (hcl.list (S.get (by walk_at "mem"))) (.cons _ _ hints) (Nat.succ_pos _) fun h' Mx t tk S hMx hle => ?_
    have hMd : Mx = md := Int.le_antisymm (hf.top _ hMx) (hle _ hf.mem)
    subst hMd
    walk_at "go"
    refine lenBook S G (ar.le (by decide)) (hsub _ _ B.inst) kb hbo ks hso B.sm (fun x hx => (B.keys x hx).mono hsub) B.few fun h' tk t S => ?_
    walk_at "go"
    refine lenL (hmo.list (S.kpGet km)) (by omega) fun t k => ?_
    walk_at "go"
    rw [if_neg (by rw [hn, hlen]; simp)]
    walk_at "go"
    refine getA S G (S.fr _ _ (hsub _ _ B.inst)) (S.kpGet kb) (by k_is) (by k_is) (by k_is) (by k_is) rfl rfl ?_
    walk_at "go"
    rw [if_pos (by simp)]
    walk_at "go"
    refine getA S G (S.fr _ _ (hsub _ _ B.inst)) (S.kpGet kb) (by k_is) (by k_is) (by k_is) (by k_is) rfl rfl ?_
    walk_at "go"
    refine methList hl (S.get (by walk_at "mem")) PySem.F.slot_list_count PySem.F.type_list_count ?_
    walk_at "go"
    refine count_list_ints (hl.list (S.get (by walk_at "mem"))) hints ?_
    walk_at "go"
    rw [hf.cnt, show (((List.count (md : Int) (lens ents) : Nat) : Int) == ((List.count (md : Int) (lens ents) : Nat) : Int)) = true from beq_self_eq_true _]
    exact post _ _ _ S.toRet
end
end

/-! T1 -/
section
open PySem PySem.W PyProof.Rows PySem.Calls
def LAWROW : List Int := [832, 1000096, 2000737, 64, 3000203, 400000005]
def atv (ns : List Int) (p : Nat) : Int := if p < ns.length then Int.fmod (ns.getD p 0) 1000000000000 else LAWROW.getD p 0
theorem lawrow_at {w : World} {h : Heap} (X : (topK w.params).In h) : ∃ vs : List Value, IsTup h 488 vs.toArray ∧ IntsAre vs LAWROW := by
  have e := X 488 _ (by k_is)
  exact ⟨_, ⟨_, e, rfl, _, rfl⟩, by repeat' constructor⟩
section
variable {w : World} {A : Around} {E : Value → Shared → Prop} {s : Shared} {b : Bs} {L : Addr} {m : Str → Option Value} {R : Rel} {M : List (Addr × Obj)} {cn : Str} {cs : Scope} {fa : Addr} {cd : Value}
set_option maxHeartbeats 4000000 in
theorem at_spec {l : Addr} {vs : List Value} {ns : List Int} {p : Nat} {t : Tok} {Q : Value → Shared → Prop}
  (ok : Bok b) (G : Glb w b.H0) (hs : b.hs = s.heap) (ar : Ar 1 A b.fo) (hl : ∃ o, b.R₀ l o ∧ LW o vs) (hi : IntsAre vs ns) (hn : ns.length ≤ 63) (hp : p < ns.length ∨ p < 6)
  (post : ∀ R' h' tk' t', Ret b R' h' → Q (.int (atv ns p) t') { s with heap := h', toks := tk' }) :
  wpAny (model Challenge.rw_ji0018_01.row.prog w) A (call (.ref 495) [.ref l, .int p t]) Q E s := by
  obtain ⟨o, hR, hLO⟩ := hl
  refine' enter (n := 0) [(Str.ofString "place", .int p t), (Str.ofString "script", .ref l)] [] ok G hs ar (fun _ h => nomatch h) List.nodup_nil ?ho ?hcd ?hb ?hl ?h1 ?h2 ?h3 ?hc ?_
  walk_at "enter"
  intro L h₁ tk E' S ar
  have hl := hLO.list (S.fr _ _ (S.sub _ _ hR))
  walk_at "go"
  refine PyProof.Rows.len_list hl (by simp only [List.size_toArray, hi.length]; omega) ?_
  walk_at "go"
  have hlen := hi.length
  simp only [List.size_toArray, hlen]
  split
  · rename_i hlt
    have hlt : p < ns.length := by simpa using hlt
    walk_at "go"
    obtain ⟨x, hx⟩ : ∃ x, vs[p]? = some x := ⟨vs[p]'(by omega), List.getElem?_eq_getElem (by omega)⟩
    obtain ⟨n, t', rfl, hn'⟩ := IntsAre.at hi p x hx
    refine PyProof.Rows.item_listL hl (by omega) (by omega) (by simpa using hx) ?_
    walk_at "go"
    show Q (.int (Int.fmod n 1000000000000) _) _
    rw [show Int.fmod n 1000000000000 = atv ns p by unfold atv; rw [if_pos hlt, List.getD_eq_getElem?_getD, hn']; rfl]
    exact post _ _ _ _ S.toRet
  · rename_i hlt
    have hlt : ¬ p < ns.length := by simpa using hlt
    walk_at "go"
    obtain ⟨us, hu, hiu⟩ := lawrow_at (S.kin G)
    obtain ⟨x, hx⟩ : ∃ x, us[p]? = some x := ⟨us[p]'(by rw [hiu.length]; show p < 6; omega), List.getElem?_eq_getElem _⟩
    obtain ⟨n, t', rfl, hn'⟩ := IntsAre.at hiu p x hx
    refine itT p hu rfl hx (by rw [hiu.length]; show 6 ≤ _; omega) ?_
    walk_at "go"
    show Q (.int n _) _
    rw [show n = atv ns p by unfold atv; rw [if_neg hlt, List.getD_eq_getElem?_getD, hn']; rfl]
    exact post _ _ _ _ S.toRet
end
end

/-! P1 -/
section
open PySem PySem.W PyProof.Rows PySem.Calls
/-- the two figures over a list of lengths -/
structure FigL (l : List Int) (md : Nat) (mi : Int) : Prop where
  mem : (md : Int) ∈ 0 :: l
  top : ∀ a ∈ (0 : Int) :: l, a ≤ md
  cnt : mi = (l.count (md : Int) : Nat)
theorem FigL.nil : FigL [] 0 0 := ⟨by simp, by simp, by simp⟩
theorem FigL.put {l : List Int} {md : Nat} {mi : Int} (f : FigL l md mi) (n : Nat) : ∃ md' : Nat, (upm md mi n).1 = md' ∧ FigL (l ++ [(n : Int)]) md' (upm md mi n).2 := by
  unfold upm
  by_cases h1 : (n : Int) = md
  · rw [if_pos h1]
    refine ⟨md, rfl, ?_, ?_, ?_⟩
    · rw [← List.cons_append]; exact List.mem_append_left _ f.mem
    · intro a ha
      rw [← List.cons_append] at ha
      rcases List.mem_append.mp ha with ha | ha
      · exact f.top a ha
      · rw [List.mem_singleton.mp ha, h1]; exact Int.le_refl _
    · show mi + 1 = _
      rw [List.count_append, f.cnt, h1]
      simp
  · rw [if_neg h1]
    by_cases h2 : (md : Int) < n
    · rw [if_pos h2]
      refine ⟨n, rfl, ?_, ?_, ?_⟩
      · simp
      · intro a ha
        rw [← List.cons_append] at ha
        rcases List.mem_append.mp ha with ha | ha
        · exact Int.le_of_lt (Int.lt_of_le_of_lt (f.top a ha) h2)
        · rw [List.mem_singleton.mp ha]; exact Int.le_refl _
      · show (1 : Int) = _
        rw [List.count_append, List.count_eq_zero_of_not_mem (fun hm => by have := f.top _ (List.mem_cons_of_mem _ hm); omega)]
        simp
    · rw [if_neg h2]
      refine ⟨md, rfl, ?_, ?_, ?_⟩
      · rw [← List.cons_append]; exact List.mem_append_left _ f.mem
      · intro a ha
        rw [← List.cons_append] at ha
        rcases List.mem_append.mp ha with ha | ha
        · exact f.top a ha
        · rw [List.mem_singleton.mp ha]; omega
      · show mi = _
        rw [List.count_append, f.cnt, List.count_eq_zero_of_not_mem (l := [(n : Int)]) (fun hm => h1 (List.mem_singleton.mp hm).symm)]
        simp
theorem FigL.all : ∀ (ns : List Nat) {l : List Int} {md : Nat} {mi : Int}, FigL l md mi → ∃ md' : Nat, ((ns.map fun n : Nat => (n : Int)).foldl (fun p x => upm p.1 p.2 x) ((md : Int), mi)).1 = md' ∧ FigL (l ++ ns.map fun n : Nat => (n : Int)) md' ((ns.map fun n : Nat => (n : Int)).foldl (fun p x => upm p.1 p.2 x) ((md : Int), mi)).2
  | [], l, md, mi, f => ⟨md, rfl, by simpa using f⟩
  | n :: r, l, md, mi, f => by
    obtain ⟨md', e, f'⟩ := f.put n
    have := FigL.all r f'
    simp only [List.map_cons, List.foldl_cons]
    rw [show upm (md : Int) mi (n : Int) = ((md' : Int), (upm md mi n).2) from by rw [← e]]
    simpa using this
theorem perm_erase {α : Type} : ∀ {l : List α} {j : Nat} {x : α}, l[j]? = some x → l.Perm (x :: l.eraseIdx j)
  | [], j, x, h => by simp at h
  | y :: l, 0, x, h => by simp at h; subst h; exact List.Perm.refl _
  | y :: l, j + 1, x, h => ((perm_erase (l := l) (j := j) (by simpa using h)).cons y).trans (List.Perm.swap _ _ _)
theorem FigL.del {ns : List Nat} {md : Nat} {mi : Int} (f : FigL (ns.map fun n : Nat => (n : Int)) md mi) {j n : Nat} (hj : ns[j]? = some n) :
    ∃ md' : Nat, (delm md mi n ((ns.eraseIdx j).map fun n : Nat => (n : Int))).1 = md' ∧ FigL ((ns.eraseIdx j).map fun n : Nat => (n : Int)) md' (delm md mi n ((ns.eraseIdx j).map fun n : Nat => (n : Int))).2 := by
  have hperm : List.Perm ns (n :: ns.eraseIdx j) := perm_erase hj
  generalize ns.eraseIdx j = r at hperm ⊢
  have hp' : List.Perm (ns.map fun n : Nat => (n : Int)) ((n : Int) :: r.map fun n : Nat => (n : Int)) := hperm.map _
  have hc : (ns.map fun n : Nat => (n : Int)).count (md : Int) = ((n : Int) :: r.map fun n : Nat => (n : Int)).count (md : Int) := hp'.count_eq _
  have htop : ∀ a ∈ (0 : Int) :: r.map (fun n : Nat => (n : Int)), a ≤ md := fun a ha => by
    rcases List.mem_cons.mp ha with rfl | ha
    · omega
    · exact f.top a (List.mem_cons_of_mem _ (hp'.symm.subset (List.mem_cons_of_mem _ ha)))
  have hcnt := f.cnt
  rw [hc] at hcnt
  unfold delm
  by_cases h1 : (n : Int) = md
  · rw [if_pos h1]
    have hc2 : mi - 1 = ((r.map fun n : Nat => (n : Int)).count (md : Int) : Nat) := by
      rw [hcnt, h1, List.count_cons_self]; push_cast; omega
    by_cases h0 : mi - 1 = 0
    · rw [if_pos h0]
      have := FigL.all r FigL.nil
      simpa using this
    · rw [if_neg h0]
      refine ⟨md, rfl, ?_, htop, hc2⟩
      have : (r.map fun n : Nat => (n : Int)).count (md : Int) ≠ 0 := fun e => by rw [e] at hc2; exact h0 hc2
      exact List.mem_cons_of_mem _ (List.count_pos_iff.mp (Nat.pos_of_ne_zero this))
  · rw [if_neg h1]
    have hc2 : mi = ((r.map fun n : Nat => (n : Int)).count (md : Int) : Nat) := by
      rw [hcnt, List.count_cons_of_ne (by simpa using h1)]
    have hne : ¬ mi = 0 := fun h0 => by
      have hz : ¬ (md : Int) ∈ ns.map fun n : Nat => (n : Int) := fun hm => by
        have := List.count_pos_iff.mpr hm
        have := f.cnt
        omega
      rcases List.mem_cons.mp f.mem with q | q
      · have := f.top (n : Int) (List.mem_cons_of_mem _ (hp'.symm.subset List.mem_cons_self))
        omega
      · exact hz q
    rw [if_neg hne]
    refine ⟨md, rfl, ?_, htop, hc2⟩
    have : (r.map fun n : Nat => (n : Int)).count (md : Int) ≠ 0 := fun e => by rw [e] at hc2; exact hne hc2
    exact List.mem_cons_of_mem _ (List.count_pos_iff.mp (Nat.pos_of_ne_zero this))
end

/-! P2 -/
section
open PySem PySem.W PyProof.Rows PySem.Calls
/-- keys and marks of a model -/
def keysOf (ents : List Mo) : List (Lab × Int) := ents.map fun e => (e.1, e.2.2)
theorem bget_none {ents : List Mo} {k : Lab} : bget (keysOf ents) k = none ↔ ∀ e ∈ ents, e.1 ≠ k := by
  unfold bget keysOf
  rw [Option.map_eq_none_iff, List.find?_eq_none]
  constructor
  · intro h e he q
    have := h (e.1, e.2.2) (List.mem_map.mpr ⟨e, he, rfl⟩)
    simp [q] at this
  · intro h x hx
    obtain ⟨e, he, rfl⟩ := List.mem_map.mp hx
    simpa using h e he
theorem bget_some {ents : List Mo} (hn : (ents.map (·.1)).Nodup) {e : Mo} (he : e ∈ ents) : bget (keysOf ents) e.1 = some e.2.2 := by
  induction ents with
  | nil => cases he
  | cons x r ih =>
    rw [List.map_cons, List.nodup_cons] at hn
    unfold bget keysOf
    rw [List.map_cons]
    by_cases hx : x.1 = e.1
    · rcases List.mem_cons.mp he with rfl | he
      · rw [List.find?_cons_of_pos (by simp)]; rfl
      · exact absurd (List.mem_map.mpr ⟨e, he, hx.symm⟩) hn.1
    · rcases List.mem_cons.mp he with rfl | he
      · exact absurd rfl hx
      · rw [List.find?_cons_of_neg (by simpa using hx)]
        exact ih hn.2 he

/-- the tail of k labels -/
def tail (ls : Lab) (k : Nat) : Lab := (lowL ls).drop (ls.length - k)
def Best (ls : Lab) (es : List (Lab × Int)) (r : Option (Lab × Int)) : Prop :=
  (r = none ∧ ∀ k, k ≤ ls.length → bget es (tail ls k) = none) ∨
  ∃ k m, k ≤ ls.length ∧ bget es (tail ls k) = some m ∧ (∀ k', k < k' → k' ≤ ls.length → bget es (tail ls k') = none) ∧ r = some (ls.drop (ls.length - k), m)
theorem Best.uniq {ls : Lab} {es : List (Lab × Int)} {r r' : Option (Lab × Int)} (h : Best ls es r) (h' : Best ls es r') : r = r' := by
  rcases h with ⟨rfl, h⟩ | ⟨k, m, hk, hm, hx, rfl⟩
  · rcases h' with ⟨rfl, _⟩ | ⟨k, m, hk, hm, hx, rfl⟩
    · rfl
    · rw [h k hk] at hm; cases hm
  · rcases h' with ⟨rfl, h'⟩ | ⟨k', m', hk', hm', hx', rfl⟩
    · rw [h' k hk] at hm; cases hm
    · rcases Nat.lt_trichotomy k k' with q | q | q
      · rw [hx k' q hk'] at hm'; cases hm'
      · subst q
        rw [hm] at hm'; cases hm'; rfl
      · rw [hx' k q hk] at hm; cases hm
theorem low_len (ls : Lab) : (lowL ls).length = ls.length := by simp [lowL]
theorem low_tl (ls : Lab) (d j : Nat) : lowL (tl ls d j) = tail ls (d - j) := by unfold tl tail lowL; rw [List.map_drop]
theorem tail_len {ls : Lab} {k : Nat} (h : k ≤ ls.length) : (tail ls k).length = k := by unfold tail; rw [List.length_drop, low_len]; omega

theorem deepm_best {ls : Lab} {ents : List Mo} {md : Nat} (htop : ∀ e ∈ ents, e.1.length ≤ md) : Best ls (keysOf ents) (deepm ls md (keysOf ents)) := by
  have hbig : ∀ k, md < k → k ≤ ls.length → bget (keysOf ents) (tail ls k) = none := fun k h1 h2 => bget_none.mpr fun e he q => by
    have := htop e he
    rw [q, tail_len h2] at this
    omega
  unfold deepm
  generalize hd : min ls.length md = d
  have hdl : d ≤ ls.length := by omega
  have hab : ∀ k, d < k → k ≤ ls.length → bget (keysOf ents) (tail ls k) = none := fun k h1 h2 => hbig k (by omega) h2
  cases hf : (List.range d).findSome? (fun j => (bget (keysOf ents) (lowL (tl ls d j))).map fun m => (tl ls d j, m)) with
  | some r =>
    dsimp only
    obtain ⟨l1, x, l2, hl, hx, hno⟩ := List.findSome?_eq_some_iff.mp hf
    obtain ⟨m, hm, rfl⟩ := Option.map_eq_some_iff.mp hx
    have hx' : x = l1.length := by
      have := congrArg (fun l => l[l1.length]?) hl
      simp at this
      have hlt : l1.length < d := by have := congrArg List.length hl; simp at this; omega
      rw [List.getElem?_range hlt] at this
      exact (Option.some.inj this).symm
    have hlt : x < d := by have := congrArg List.length hl; simp at this; omega
    have hpre : ∀ j, j < x → bget (keysOf ents) (lowL (tl ls d j)) = none := fun j hj => by
      have hmem : j ∈ l1 := by
        have := congrArg (fun l => l[j]?) hl
        simp only [List.getElem?_range (show j < d by omega)] at this
        rw [List.getElem?_append_left (by omega)] at this
        exact List.mem_of_getElem? this.symm
      exact Option.map_eq_none_iff.mp (hno j hmem)
    refine .inr ⟨d - x, m, by omega, by rw [← low_tl]; exact hm, fun k' h1 h2 => ?_, ?_⟩
    · rcases Nat.lt_or_ge d k' with q | q
      · exact hab k' q h2
      · have := hpre (d - k') (by omega)
        rw [low_tl, show d - (d - k') = k' by omega] at this
        exact this
    · rfl
  | none =>
    have hno : ∀ j, j < d → bget (keysOf ents) (lowL (tl ls d j)) = none := fun j hj => Option.map_eq_none_iff.mp (List.findSome?_eq_none_iff.mp hf j (List.mem_range.mpr hj))
    have hpos : ∀ k, 0 < k → k ≤ ls.length → bget (keysOf ents) (tail ls k) = none := fun k h0 h2 => by
      rcases Nat.lt_or_ge d k with q | q
      · exact hab k q h2
      · have := hno (d - k) (by omega)
        rw [low_tl, show d - (d - k) = k by omega] at this
        exact this
    have h0 : tail ls 0 = [] := by unfold tail; rw [← low_len]; simp
    cases hz : bget (keysOf ents) [] with
    | none =>
      refine .inl ⟨rfl, fun k hk => ?_⟩
      rcases Nat.eq_zero_or_pos k with rfl | q
      · rw [h0]; exact hz
      · exact hpos k q hk
    | some m => exact .inr ⟨0, m, Nat.zero_le _, by rw [h0]; exact hz, fun k' h1 h2 => hpos k' h1 h2, by simp⟩

/-- an entry that is a tail -/
def Mat (ls : Lab) (e : Mo) : Prop := e.1.length ≤ ls.length ∧ (lowL ls).drop (ls.length - e.1.length) = e.1
theorem best_inv (ls : Lab) : ∀ (r pre : List Mo) (p : Option (Lab × Int) × Int),
    ((p = (none, -1) ∧ ∀ e ∈ pre, ¬ Mat ls e) ∨ ∃ e ∈ pre, Mat ls e ∧ p = (some (ls.drop (ls.length - e.1.length), e.2.2), (e.1.length : Int)) ∧ ∀ e' ∈ pre, Mat ls e' → e'.1.length ≤ e.1.length) →
    ((r.foldl (bstep ls) p = (none, -1) ∧ ∀ e ∈ pre ++ r, ¬ Mat ls e) ∨ ∃ e ∈ pre ++ r, Mat ls e ∧ r.foldl (bstep ls) p = (some (ls.drop (ls.length - e.1.length), e.2.2), (e.1.length : Int)) ∧ ∀ e' ∈ pre ++ r, Mat ls e' → e'.1.length ≤ e.1.length)
  | [], pre, p, h => by simpa using h
  | x :: r, pre, p, h => by
    have := best_inv ls r (pre ++ [x]) (bstep ls p x) ?_
    · simpa using this
    unfold bstep
    rcases h with ⟨rfl, hn⟩ | ⟨e, he, hm, rfl, hx⟩
    · by_cases hm : Mat ls x
      · rw [if_pos ⟨hm.1, by show (-1 : Int) < _; omega, hm.2⟩]
        refine .inr ⟨x, by simp, hm, rfl, fun e' he' hm' => ?_⟩
        rcases List.mem_append.mp he' with q | q
        · exact absurd hm' (hn e' q)
        · rw [List.mem_singleton.mp q]; exact Nat.le_refl _
      · rw [if_neg fun q => hm ⟨q.1, q.2.2⟩]
        refine .inl ⟨rfl, fun e he => ?_⟩
        rcases List.mem_append.mp he with q | q
        · exact hn e q
        · rw [List.mem_singleton.mp q]; exact hm
    · by_cases hq : x.1.length ≤ ls.length ∧ (e.1.length : Int) < (x.1.length : Int) ∧ (lowL ls).drop (ls.length - x.1.length) = x.1
      · rw [if_pos hq]
        refine .inr ⟨x, by simp, ⟨hq.1, hq.2.2⟩, rfl, fun e' he' hm' => ?_⟩
        rcases List.mem_append.mp he' with q | q
        · have := hx e' q hm'; omega
        · rw [List.mem_singleton.mp q]; exact Nat.le_refl _
      · rw [if_neg hq]
        refine .inr ⟨e, by simp [he], hm, rfl, fun e' he' hm' => ?_⟩
        rcases List.mem_append.mp he' with q | q
        · exact hx e' q hm'
        · rw [List.mem_singleton.mp q] at hm' ⊢
          rcases Nat.lt_or_ge e.1.length x.1.length with z | z
          · exact absurd ⟨hm'.1, by omega, hm'.2⟩ hq
          · exact z
theorem bestv_best {ls : Lab} {ents : List Mo} (hn : (ents.map (·.1)).Nodup) : Best ls (keysOf ents) (bestv ents ls) := by
  unfold bestv
  rcases best_inv ls ents [] (none, -1) (.inl ⟨rfl, by simp⟩) with ⟨e, h⟩ | ⟨e, he, hm, h, hx⟩
  · rw [e]
    refine .inl ⟨rfl, fun k hk => bget_none.mpr fun e he q => h e (by simpa using he) ?_⟩
    have hl : e.1.length = k := by rw [q, tail_len hk]
    exact ⟨by omega, by rw [hl]; exact q.symm⟩
  · rw [h]
    have he : e ∈ ents := by simpa using he
    refine .inr ⟨e.1.length, e.2.2, hm.1, ?_, fun k' h1 h2 => bget_none.mpr fun e' he' q => ?_, rfl⟩
    · rw [show tail ls e.1.length = e.1 from hm.2]
      exact bget_some hn he
    · have hl : e'.1.length = k' := by rw [q, tail_len h2]
      have := hx e' (by simpa using he') ⟨by omega, by rw [hl]; exact q.symm⟩
      omega
theorem deep_law {ls : Lab} {ents : List Mo} {md : Nat} (hn : (ents.map (·.1)).Nodup) (htop : ∀ e ∈ ents, e.1.length ≤ md) : deepm ls md (keysOf ents) = bestv ents ls :=
  (deepm_best htop).uniq (bestv_best hn)
end

/-! P3 -/
section
open PySem PySem.W PyProof.Rows PySem.Calls
theorem Good.turn {ls : Lab} (h : Good ls) (f : UInt8 → UInt8) : Good (ls.map (·.map f)) where
  few := by rw [List.length_map]; exact h.few
  short := fun l hl => by
    obtain ⟨x, hx, rfl⟩ := List.mem_map.mp hl
    rw [List.length_map]; exact h.short x hx
  root := fun i hi => by
    rw [List.getElem?_map] at hi
    obtain ⟨x, hx, e⟩ := Option.map_eq_some_iff.mp hi
    have : x = [] := by simpa using e
    rw [List.length_map]
    exact h.root i (this ▸ hx)
theorem Good.cons {ls : Lab} (h : Good ls) {x : List UInt8} (hx : x ≠ []) (hx2 : x.length ≤ 2) (hl : ls.length < 6) : Good (x :: ls) where
  few := by simp; omega
  short := fun l hm => by
    rcases List.mem_cons.mp hm with rfl | hm
    · exact hx2
    · exact h.short l hm
  root := fun i hi => by
    cases i with
    | zero => simp at hi; exact absurd hi hx
    | succ i =>
      have := h.root i (by simpa using hi)
      simp; omega
theorem labs_at (i : Nat) : LAWLABS.getD (i % 9) [] ≠ [] ∧ (LAWLABS.getD (i % 9) []).length ≤ 2 := by
  have : ∀ j : Fin 9, LAWLABS.getD j.val [] ≠ [] ∧ (LAWLABS.getD j.val []).length ≤ 2 := by decide +kernel
  exact this ⟨i % 9, Nat.mod_lt _ (by decide)⟩
theorem fresh_good (n : Nat) : Good (freshv n) := by
  have key : ∀ (l : List Nat) (t : Lab), Good t → l.length + t.length ≤ 6 → Good (l.map (fun i => LAWLABS.getD (n / 8 / 9 ^ i % 9) []) ++ t) := by
    intro l
    induction l with
    | nil => intro t ht _; exact ht
    | cons a r ih =>
      intro t ht hl
      simp only [List.length_cons] at hl
      exact (ih t ht (by omega)).cons (labs_at _).1 (labs_at _).2 (by simp; omega)
  unfold freshv
  have h3 : n % 4 ≤ 3 := by omega
  split
  · exact key _ _ ⟨by decide, (fun l hl => by simp at hl; simp [hl]), (fun i hi => by cases i with
      | zero => rfl
      | succ i => simp at hi)⟩ (by simp; omega)
  · exact key _ _ good_nil (by simp; omega)
theorem drawn_good {ents : List Mo} (hk : Mok ents) (n : Nat) : Good (drawnv n ents) := by
  unfold drawnv
  by_cases h0 : n % 4 = 0 ∨ ents = []
  · rw [if_pos h0]; exact fresh_good _
  rw [if_neg h0]
  have hpos : 0 < ents.length := by
    rcases Nat.eq_zero_or_pos ents.length with q | q
    · exact absurd (.inr (List.eq_nil_of_length_eq_zero q)) h0
    · exact q
  have hg : Good (ents.getD (n / 4 % ents.length) ([], [], 0)).2.1 := by
    have hlt : n / 4 % ents.length < ents.length := Nat.mod_lt _ hpos
    rw [List.getD_eq_getElem?_getD, List.getElem?_eq_getElem hlt]
    exact hk.good _ (List.getElem_mem hlt)
  generalize (ents.getD (n / 4 % ents.length) ([], [], 0)).2.1 = ls at hg
  split
  · exact hg.turn _
  · split
    · rename_i h
      exact hg.cons (labs_at _).1 (labs_at _).2 (by omega)
    · split
      · exact hg.drop 1
      · exact hg
theorem spot_cases : ∀ (ents : List Mo) (k : Lab) (i : Int), (spotv ents k i = -1 ∧ ∀ e ∈ ents, e.1 ≠ k) ∨ ∃ j e, ents[j]? = some e ∧ e.1 = k ∧ spotv ents k i = i + (j : Nat)
  | [], k, i => .inl ⟨rfl, by simp⟩
  | x :: r, k, i => by
    by_cases h : x.1 = k
    · exact .inr ⟨0, x, rfl, h, by show (if x.1 = k then _ else _) = _; rw [if_pos h]; simp⟩
    · have e1 : spotv (x :: r) k i = spotv r k (i + 1) := by show (if x.1 = k then _ else _) = _; rw [if_neg h]
      rw [e1]
      rcases spot_cases r k (i + 1) with ⟨e, hn⟩ | ⟨j, e, he, hek, hs⟩
      · refine .inl ⟨e, fun y hy => ?_⟩
        rcases List.mem_cons.mp hy with rfl | hy
        · exact h
        · exact hn y hy
      · exact .inr ⟨j + 1, e, by simpa using he, hek, by rw [hs]; push_cast; omega⟩
theorem keys_put_new {ents : List Mo} {k labs : Lab} {v : Int} (h : ∀ e ∈ ents, e.1 ≠ k) : bput (keysOf ents) k v = keysOf (ents ++ [(k, labs, v)]) := by
  unfold bput
  rw [bget_none.mpr h]
  simp [keysOf]
theorem keys_put_old : ∀ {ents : List Mo}, (ents.map (·.1)).Nodup → ∀ {j : Nat} {e : Mo} {v : Int}, ents[j]? = some e → ((keysOf ents).map fun x => if x.1 = e.1 then (x.1, v) else x) = keysOf (ents.set j (e.1, e.2.1, v))
  | [], _, j, e, v, h => by simp at h
  | x :: r, hn, 0, e, v, h => by
    simp at h; subst h
    rw [List.map_cons, List.nodup_cons] at hn
    simp only [keysOf, List.map_cons, List.set_cons_zero, if_true]
    congr 1
    rw [List.map_map]
    refine List.map_congr_left fun y hy => ?_
    have : y.1 ≠ x.1 := fun q => hn.1 (List.mem_map.mpr ⟨y, hy, q⟩)
    simp [this]
  | x :: r, hn, j + 1, e, v, h => by
    rw [List.map_cons, List.nodup_cons] at hn
    have h' : r[j]? = some e := by simpa using h
    have : x.1 ≠ e.1 := fun q => hn.1 (List.mem_map.mpr ⟨e, List.mem_of_getElem? h', q.symm⟩)
    have ih := keys_put_old hn.2 (v := v) h'
    simp only [keysOf, List.map_cons, List.set_cons_succ] at ih ⊢
    rw [if_neg this, ih]
theorem keys_put_old' {ents : List Mo} (hn : (ents.map (·.1)).Nodup) {j : Nat} {e : Mo} {v : Int} (h : ents[j]? = some e) : bput (keysOf ents) e.1 v = keysOf (ents.set j (e.1, e.2.1, v)) := by
  unfold bput
  rw [bget_some hn (List.mem_of_getElem? h)]
  exact keys_put_old hn h
theorem keys_erase (ents : List Mo) (j : Nat) : (keysOf ents).eraseIdx j = keysOf (ents.eraseIdx j) := (map_erase _ _ _).symm
theorem lens_eq (ents : List Mo) : lens ents = (ents.map fun e => e.1.length).map fun n : Nat => (n : Int) := by simp [lens]
theorem Fig.ofL {ents : List Mo} {md : Nat} {mi : Int} (f : FigL (lens ents) md mi) : Fig ents md mi := ⟨f.mem, f.top, f.cnt⟩
theorem Fig.toL {ents : List Mo} {md : Nat} {mi : Int} (f : Fig ents md mi) : FigL (lens ents) md mi := ⟨f.mem, f.top, f.cnt⟩
theorem Fig.put {ents : List Mo} {md : Nat} {mi : Int} (f : Fig ents md mi) {k labs : Lab} {v : Int} {n : Nat} (hn : k.length = n) : ∃ md' : Nat, (upm md mi n).1 = md' ∧ Fig (ents ++ [(k, labs, v)]) md' (upm md mi n).2 := by
  obtain ⟨md', e, g⟩ := f.toL.put n
  refine ⟨md', e, Fig.ofL ?_⟩
  have : lens (ents ++ [(k, labs, v)]) = lens ents ++ [(n : Int)] := by simp [lens, hn]
  rw [this]; exact g
theorem set_same {α : Type} : ∀ {l : List α} {j : Nat} {a : α}, l[j]? = some a → l.set j a = l
  | [], _, _, h => by simp at h
  | x :: l, 0, a, h => by simp at h; subst h; rfl
  | x :: l, j + 1, a, h => by rw [List.set_cons_succ, set_same (by simpa using h)]
theorem Fig.set {ents : List Mo} {md : Nat} {mi : Int} (f : Fig ents md mi) {j : Nat} {e : Mo} {v : Int} (h : ents[j]? = some e) : Fig (ents.set j (e.1, e.2.1, v)) md mi := by
  have : lens (ents.set j (e.1, e.2.1, v)) = lens ents := by
    unfold lens
    rw [List.map_set]
    exact set_same (by rw [List.getElem?_map, h]; rfl)
  exact Fig.ofL (this ▸ f.toL)
theorem Fig.erase {ents : List Mo} {md : Nat} {mi : Int} (f : Fig ents md mi) {j : Nat} {e : Mo} (h : ents[j]? = some e) :
    ∃ md' : Nat, (delm md mi e.1.length ((keysOf (ents.eraseIdx j)).map fun x => (x.1.length : Int))).1 = md' ∧ Fig (ents.eraseIdx j) md' (delm md mi e.1.length ((keysOf (ents.eraseIdx j)).map fun x => (x.1.length : Int))).2 := by
  have f' := f.toL
  rw [lens_eq] at f'
  obtain ⟨md', q, g⟩ := f'.del (j := j) (n := e.1.length) (by rw [List.getElem?_map, h]; rfl)
  have e1 : ((ents.map fun e => e.1.length).eraseIdx j).map (fun n : Nat => (n : Int)) = (keysOf (ents.eraseIdx j)).map fun x => (x.1.length : Int) := by
    rw [← map_erase]; simp [keysOf]
  rw [e1] at q g
  refine ⟨md', q, Fig.ofL ?_⟩
  have e2 : lens (ents.eraseIdx j) = (keysOf (ents.eraseIdx j)).map fun x => (x.1.length : Int) := by simp [keysOf, lens]
  rw [e2]; exact g
theorem Mok.put {ents : List Mo} (h : Mok ents) (hf : ents.length < 14) {labs : Lab} (hg : Good labs) (v : Int) : Mok (ents ++ [(lowL labs, labs, v)]) where
  few := by simp; omega
  good := fun e he => by
    rcases List.mem_append.mp he with q | q
    · exact h.good e q
    · rw [List.mem_singleton.mp q]; exact hg
  low := fun e he => by
    rcases List.mem_append.mp he with q | q
    · exact h.low e q
    · rw [List.mem_singleton.mp q]
theorem Mok.set {ents : List Mo} (h : Mok ents) {j : Nat} {e : Mo} {v : Int} (he : ents[j]? = some e) : Mok (ents.set j (e.1, e.2.1, v)) where
  few := by rw [List.length_set]; exact h.few
  good := fun x hx => by
    rcases List.mem_or_eq_of_mem_set hx with q | rfl
    · exact h.good x q
    · exact h.good e (List.mem_of_getElem? he)
  low := fun x hx => by
    rcases List.mem_or_eq_of_mem_set hx with q | rfl
    · exact h.low x q
    · exact h.low e (List.mem_of_getElem? he)
theorem Mok.erase {ents : List Mo} (h : Mok ents) (j : Nat) : Mok (ents.eraseIdx j) where
  few := by have := List.length_eraseIdx_le ents j; have := h.few; omega
  good := fun x hx => h.good x (List.mem_of_mem_eraseIdx hx)
  low := fun x hx => h.low x (List.mem_of_mem_eraseIdx hx)
end

/-! L6 -/
section
open PySem PySem.W PyProof.Rows PySem.Calls
section
variable {w : World} {A : Around} {E : Value → Shared → Prop} {s : Shared} {b : Bs} {L : Addr} {m : Str → Option Value} {R : Rel} {M : List (Addr × Obj)} {cn : Str} {cs : Scope} {fa : Addr} {cd : Value}
/-- no Name -/
def NotName (R : Rel) (x : Value) : Prop := (∃ y t, x = .str y t) ∨ (∃ n t, x = .int n t) ∨ x = .none ∨ ∃ a o vs, x = .ref a ∧ R a o ∧ TO o vs
theorem isiNot {x : Value} {Q : Value → Shared → Prop} (S : St b L m R M s.heap) (G : Glb w b.H0) (hx : NotName R x) (h : ∀ tk, Q (.bool false) { s with toks := tk }) :
    wpAny (model Challenge.rw_ji0018_01.row.prog w) A (call (.builtin "isinstance") [x, .ref 351]) Q E s := by
  rcases hx with ⟨y, t, rfl⟩ | ⟨n, t, rfl⟩ | rfl | ⟨a, o, vs, rfl, r, ht⟩
  · exact isn_call (P := fun _ => True) (T := "str") (S.kin G) (fun M => Looks.of_pure rfl) (by k_not) (fun e => nomatch e) trivial str_cls (h _)
  · exact isn_call (P := fun _ => True) (T := "int") (S.kin G) (fun M => Looks.of_pure rfl) (by k_not) (fun e => nomatch e) trivial int_cls (h _)
  · exact isn_call (P := fun _ => True) (T := "NoneType") (S.kin G) (fun M => Looks.of_pure rfl) (by k_not) (fun e => nomatch e) trivial none_cls (h _)
  · obtain ⟨n, rfl⟩ := ht
    exact isn_call (P := fun h => ∃ o, h.get? a = some o ∧ o.cls = .type "tuple") (T := "tuple") (S.kin G) (fun M => kitAt_ty M _ ⟨_, S.fr _ _ r, rfl⟩) (by k_not) (fun e => nomatch e) ⟨_, S.fr _ _ r, rfl⟩ tuple_cls (h _)
set_option maxHeartbeats 4000000 in
theorem set_no {bk : Addr} {mark : Int} {tm : Tok} {x : Value} {Q : Value → Shared → Prop}
  (ok : Bok b) (G : Glb w b.H0) (hs : b.hs = s.heap) (ar : Ar 2 A b.fo) (hx : NotName b.R₀ x)
  (post : ∀ R' h' tk' e outer, A.frames = some outer → Ret b R' h' → Fly b R' outer e "ValueError" h' → E (.ref e) { s with heap := h', toks := tk' }) :
  wpAny (model Challenge.rw_ji0018_01.row.prog w) A (call (.ref 442) [.ref bk, x, .int mark tm]) Q E s := by
  refine wpAny_call ?_
  have ar₀ := ar
  refine' enterC (n := 1) [(Str.ofString "value", .int mark tm), (Str.ofString "key", x), (Str.ofString "self", .ref bk)] [] ok G hs ar (fun _ h => nomatch h) List.nodup_nil ?ho ?hcd ?hb ?hl ?h1 ?h2 ?h3 ?hc ?_
  walk_at "enter"
  intro L h₁ tk S ar
  have hh := ar.hnd
  walk_at "go"
  refine isiNot S G hx fun tk => ?_
  walk_at "go"
  refine Raise_madeB PySem.F.excCall_ValueError PySem.F.excRaise_ValueError hh ?_ rfl rfl
  walk_at "go"
  refine ⟨rfl, ?_⟩
  walk_at "go"
  refine ⟨by rw [sizeLine_eq]; exact Nat.le_of_ble_eq_true rfl, fun h' e hx => ?_⟩
  exact leaveNew S ar₀ rfl hx.newExc fun h' outer e0 r hf => post _ _ _ _ _ e0 r hf
end
end

/-! L7 -/
section
open PySem PySem.W PyProof.Rows PySem.Calls
section
variable {w : World} {A : Around} {E : Value → Shared → Prop} {s : Shared} {b : Bs} {L : Addr} {m : Str → Option Value} {R : Rel} {M : List (Addr × Obj)} {cn : Str} {cs : Scope} {fa : Addr} {cd : Value}
def EMO (R : Rel) (p : Addr × Obj) (e : Mo) : Prop := ∃ sv lv tm, LW p.2 [sv, lv, .int e.2.2 tm] ∧ LL R sv e.1 ∧ LL R lv e.2.1
theorem EMO.mono {R R' : Rel} (h : ∀ a o, R a o → R' a o) {p : Addr × Obj} {e : Mo} (x : EMO R p e) : EMO R' p e := let ⟨sv, lv, tm, a, b, c⟩ := x; ⟨sv, lv, tm, a, b.mono h, c.mono h⟩
/-- the law's state -/
structure Inv (w : World) (R : Rel) (bk bd sd : Addr) (bo so mo : Obj) (ems : List (Addr × Obj)) (ents : List Mo) (md : Nat) (mi : Int) (xs : Sto) : Prop where
  inst : R bk (instObj 473 bd)
  sm : (sd == sysModules) = false
  hbo : BD w bo sd md mi
  hso : DO w so xs
  hbe : All2 (BE R) xs (keysOf ents)
  hmo : LO mo (ems.map fun p => .ref p.1)
  hem : All2 (EMO R) ems ents
  ok : Mok ents
  fig : Fig ents md mi
theorem keys_nodup {R : Rel} {xs : Sto} {es : List (Lab × Int)} (h : All2 (BE R) xs es) : xs.map (·.1) = es.map (·.1) := by
  induction h with
  | nil => rfl
  | cons h _ ih => simp [ih, h.1]
theorem Inv.nodup {R : Rel} {bk bd sd : Addr} {bo so mo : Obj} {ems : List (Addr × Obj)} {ents : List Mo} {md : Nat} {mi : Int} {xs : Sto} (I : Inv w R bk bd sd bo so mo ems ents md mi xs) : (ents.map (·.1)).Nodup := by
  have := I.hso.nd
  rw [keys_nodup I.hbe] at this
  simpa [keysOf, Function.comp_def] using this
theorem Inv.mono {R R' : Rel} (h : ∀ a o, R a o → R' a o) {bk bd sd : Addr} {bo so mo : Obj} {ems : List (Addr × Obj)} {ents : List Mo} {md : Nat} {mi : Int} {xs : Sto} (I : Inv w R bk bd sd bo so mo ems ents md mi xs) : Inv w R' bk bd sd bo so mo ems ents md mi xs :=
  ⟨h _ _ I.inst, I.sm, I.hbo, I.hso, I.hbe.imp fun _ _ => BE.mono h, I.hmo, I.hem.imp fun _ _ => EMO.mono h, I.ok, I.fig⟩
theorem emo_md {P : Addr → Obj → Prop} {R : Rel} : ∀ {ems : List (Addr × Obj)} {ents : List Mo}, All2 (EMO R) ems ents → (∀ p ∈ ems, P p.1 p.2) → All2 (MD P R) (ems.map fun p => .ref p.1) ents
  | _, _, .nil, _ => .nil
  | _, _, .cons ⟨sv, lv, tm, a, b, c⟩ r, h => .cons ⟨_, _, sv, lv, tm, rfl, h _ (.head _), a, b, c⟩ (emo_md r fun p hp => h p (.tail _ hp))
theorem Inv.model {P : Addr → Obj → Prop} {R : Rel} {bk bd sd ml : Addr} {bo so mo : Obj} {ems : List (Addr × Obj)} {ents : List Mo} {md : Nat} {mi : Int} {xs : Sto} (I : Inv w R bk bd sd bo so mo ems ents md mi xs) (hP : ∀ p ∈ (ml, mo) :: ems, P p.1 p.2) : MO P R ml ents :=
  ⟨mo, _, hP _ (.head _), I.hmo, emo_md I.hem fun p hp => hP p (.tail _ hp)⟩
theorem Inv.few {R : Rel} {bk bd sd : Addr} {bo so mo : Obj} {ems : List (Addr × Obj)} {ents : List Mo} {md : Nat} {mi : Int} {xs : Sto} (I : Inv w R bk bd sd bo so mo ems ents md mi xs) : xs.length ≤ 100 := by
  have := I.hbe.length
  have := I.ok.few
  simp [keysOf] at *
  omega
theorem UpdL.set {a : Addr} {o o' : Obj} : ∀ {M : List (Addr × Obj)} {j : Nat}, M[j]? = some (a, o) → UpdL a o o' M (M.set j (a, o'))
  | [], j, h => by simp at h
  | p :: M, 0, h => by simp at h; subst h; exact .head
  | p :: M, j + 1, h => .tail (UpdL.set (by simpa using h))
theorem All2.set {α β : Type} {P : α → β → Prop} : ∀ {as : List α} {bs : List β}, All2 P as bs → ∀ (j : Nat) {a : α} {b : β}, P a b → All2 P (as.set j a) (bs.set j b)
  | _, _, .nil, _, _, _, _ => .nil
  | _, _, .cons _ r, 0, _, _, h => .cons h r
  | _, _, .cons x r, j + 1, _, _, h => .cons x (r.set j h)
theorem refs_set {a : Addr} {o o' : Obj} {M : List (Addr × Obj)} {j : Nat} (h : M[j]? = some (a, o)) : (M.set j (a, o')).map (fun p => Value.ref p.1) = M.map fun p => .ref p.1 := by
  rw [List.map_set]; exact set_same (by rw [List.getElem?_map, h]; rfl)
theorem four {a b c d : Value} {k : Nat} (h : k < 4) {P : Value → Prop} (ha : P a) (hb : P b) (hc : P c) (hd : P d) : ∃ v, [a, b, c, d][k]? = some v ∧ P v := by
  rcases (show k = 0 ∨ k = 1 ∨ k = 2 ∨ k = 3 by omega) with rfl | rfl | rfl | rfl
  · exact ⟨_, rfl, ha⟩
  · exact ⟨_, rfl, hb⟩
  · exact ⟨_, rfl, hc⟩
  · exact ⟨_, rfl, hd⟩
/-- the model behind a deed -/
def deedv (n : Nat) (ents : List Mo) (mark : Int) : List Mo :=
  let labels := drawnv (n / 8) ents
  let spot := spotv ents (lowL labels) 0
  if n % 8 < 3 then (if spot < 0 then ents ++ [(lowL labels, labels, mark)] else match ents[spot.toNat]? with | some e => ents.set spot.toNat (e.1, e.2.1, mark) | none => ents)
  else if n % 8 < 5 then (if spot < 0 then ents else ents.eraseIdx spot.toNat) else ents
set_option maxHeartbeats 8000000 in
theorem deed_spec {bk bd sd ml : Addr} {bo so mo : Obj} {ems : List (Addr × Obj)} {ents : List Mo} {md : Nat} {mi mark : Int} {xs : Sto} {n : Nat} {t tm : Tok} {Q : Value → Shared → Prop}
  (ok : Bok b) (G : Glb w b.H0) (hs : b.hs = s.heap) (ar : Ar 10 A b.fo) (I : Inv w b.R₀ bk bd sd bo so mo ems ents md mi xs)
  (hM : ∀ p ∈ (bd, bo) :: (sd, so) :: (ml, mo) :: ems, s.heap.get? p.1 = some p.2 ∧ p.1 ∈ b.W) (hnd : (((bd, bo) :: (sd, so) :: (ml, mo) :: ems).map (·.1)).Nodup) (hlt : ents.length < 14)
  (post : ∀ R' h' tk' bo' so' mo' ems' md' mi' xs', Ret b R' h' → Own b R' ((bd, bo') :: (sd, so') :: (ml, mo') :: ems') h' → Inv w R' bk bd sd bo' so' mo' ems' (deedv n ents mark) md' mi' xs' → Q (.bool true) { s with heap := h', toks := tk' }) :
  wpAny (model Challenge.rw_ji0018_01.row.prog w) A (call (.ref 566) [.ref bk, .ref ml, .int n t, .int mark tm]) Q E s := by
  have ar₀ := ar
  refine' enter (n := 9) [(Str.ofString "mark", .int mark tm), (Str.ofString "number", .int n t), (Str.ofString "model", .ref ml), (Str.ofString "book", .ref bk)] ((bd, bo) :: (sd, so) :: (ml, mo) :: ems) ok G hs ar hM hnd ?ho ?hcd ?hb ?hl ?h1 ?h2 ?h3 ?hc ?_
  walk_at "enter"
  intro L h₁ tk E' S ar
  have hh := ar.hnd
  walk_at "go"
  have kp : ∀ {R : Rel} {m h}, St b L m R ((bd, bo) :: (sd, so) :: (ml, mo) :: ems) h → ∀ p ∈ (ml, mo) :: ems, Kp (b.at L R h []) p.1 p.2 := fun S p hp => S.kpM (.tail _ (.tail _ hp)) (fun h => nomatch h)
  refine ⟨S.kin G, drawn_spec S.call0 G rfl (ar.le (by decide)) (I.model (kp S)) I.ok fun lv R₁ h' tk' r hlv => ?_⟩
  have hg : Good (drawnv (n / 8) ents) := drawn_good I.ok _
  replace I := I.mono r.sub
  replace S := S.ret r
  walk_at "go"
  refine ⟨S.kin G, name_spec S.call0 G rfl (ar.le (by decide)) hlv hg fun xv R₂ h' tk' r hN => ?_⟩
  replace I := I.mono r.sub
  replace hlv := hlv.mono r.sub
  replace S := S.ret r
  walk_at "go"
  refine ⟨S.kin G, spot_spec S.call0 G rfl (ar.le (by decide)) (I.model (kp S)) I.ok hlv hg fun R₃ h' tk' ts r => ?_⟩
  replace I := I.mono r.sub
  replace hlv := hlv.mono r.sub
  replace hN := hN.mono r.sub
  replace S := S.ret r
  walk_at "go"
  obtain ⟨xa, hxa⟩ : ∃ xa, xv = .ref xa := by obtain ⟨xa, _, _, _, _, e, _⟩ := id hN; exact ⟨xa, e⟩
  subst hxa
  have hsmall : (lowL (drawnv (n / 8) ents)).length = (drawnv (n / 8) ents).length := low_len _
  obtain ⟨bn, b1, b2, b3, b4, b5, rfl⟩ := id I.hbo
  by_cases hk3 : n % 8 < 3
  · rw [if_pos (decide_eq_true (by omega))]
    walk_at "go"
    refine ksp_setItem (f := 442) (od := some (dictOf (bes w sd md mi b1 b2 b3 b4 b5) bn)) (I := ⟨S.fr _ _ I.inst, rfl, rfl, S.get (by walk_at "mem")⟩) S.fr0 G.kin (by k_is) (by k_is) (by k_is) ?_
    have hne : bd ≠ sd := by
      have := S.nd
      simp only [List.map_cons, List.nodup_cons, List.mem_cons, not_or] at this
      exact this.1.1
    refine set_spec (S.call [bd, sd] (by simp)) G rfl (ar.le (by decide)) I.inst hne (S.get (by walk_at "mem")) (.head _) I.hbo (S.get (by walk_at "mem")) (.tail _ (.head _)) I.hso I.sm I.hbe I.few hN hg fun R₄ h₄ tk₄ bo₄ so₄ xs₄ r hb₄ hs₄ D₄ BE₄ BD₄ => ?_
    replace S : St b L _ R₄ ((bd, bo₄) :: (sd, so₄) :: (ml, mo) :: ems) h₄ := S.retW (MW := [(bd, _), (sd, so)]) (MW' := [(bd, bo₄), (sd, so₄)]) (Mr := (ml, mo) :: ems) rfl r rfl (fun p hp => by
      rcases List.mem_cons.mp hp with rfl | hp
      · exact hb₄
      · rw [List.mem_singleton.mp hp]; exact hs₄)
    have I₄ := I.mono r.sub
    replace hlv := hlv.mono r.sub
    walk_at "go"
    rcases spot_cases ents (lowL (drawnv (n / 8) ents)) 0 with ⟨hsp, hno⟩ | ⟨j, e, he, hek, hsp⟩
    · have hdv : deedv n ents mark = ents ++ [(lowL (drawnv (n / 8) ents), drawnv (n / 8) ents, mark)] := by
        unfold deedv; rw [if_pos hk3, hsp]; rfl
      rw [bget_none.mpr hno] at BD₄
      obtain ⟨md', hmd', hfig⟩ := I.fig.put (labs := drawnv (n / 8) ents) (v := mark) hsmall
      rw [if_pos (decide_eq_true (by omega))]
      walk_at "go"
      refine methAppend I.hmo S (by walk_at "mem") ?_
      walk_at "go"
      refine ⟨S.kin G, small_spec S.call0 G rfl (ar.le (by decide)) hlv (by have := hg.few; omega) (fun l hl => by have := hg.short l hl; omega) fun sm R₅ h' tk' r₅ hsm => ?_⟩
      replace S := S.ret r₅
      walk_at "go"
      refine ⟨_, _, _, _, _, S, by rw [sizeLine_eq]; exact Nat.le_of_ble_eq_true rfl, fun ne h' neo hne' S lne => ?_⟩
      walk_at "go"
      refine appendM S (by walk_at "mem") I.hmo (fun h' mo' u lmo => ?_) (by rw [sizeLine_eq]; simp; have := I.hem.length; omega)
      replace S := u _ (by walk_at "upd")
      walk_at "go"
      replace S : St b L _ R₅ ((bd, bo₄) :: (sd, so₄) :: (ml, mo') :: (ems ++ [(ne, neo)])) h' := S.permute (by
        have : List.Perm ((ne, neo) :: ((bd, bo₄) :: (sd, so₄) :: (ml, mo') :: ems)) (((bd, bo₄) :: (sd, so₄) :: (ml, mo') :: ems) ++ [(ne, neo)]) := (List.perm_append_singleton _ _).symm
        exact this)
      refine post _ _ _ bo₄ so₄ mo' (ems ++ [(ne, neo)]) md' (upm md mi (drawnv (n / 8) ents).length).2 xs₄ S.toRet S.own ?_
      rw [hdv]
      refine ⟨r₅.sub _ _ (I₄.inst), I.sm, ?_, D₄, ?_, ?_, ?_, I.ok.put hlt hg mark, hfig⟩
      · rw [← hmd']; exact BD₄
      · rw [keys_put_new hno (labs := drawnv (n / 8) ents)] at BE₄
        exact BE₄.imp fun _ _ => BE.mono r₅.sub
      · rw [List.map_append]; exact lmo
      · exact (I₄.hem.imp fun _ _ => EMO.mono r₅.sub).snoc ⟨sm, lv, _, lne.lw, hsm, hlv.mono r₅.sub⟩
    · have hj : j < ents.length := (List.getElem?_eq_some_iff.mp he).1
      have hdv : deedv n ents mark = ents.set j (e.1, e.2.1, mark) := by
        unfold deedv; simp only [hk3, if_true, hsp]; rw [if_neg (by omega)]
        simp [he]
      rw [← hek, bget_some I.nodup (List.mem_of_getElem? he)] at BD₄
      rw [← hek, keys_put_old' I.nodup he] at BE₄
      rw [if_neg (by rw [hsp]; simp)]
      walk_at "go"
      obtain ⟨⟨ea, eo⟩, hea, sv, elv, etm, hle, hsv, hlb⟩ := I₄.hem.get' he
      have hel := I.hem.length
      have := I.ok.few
      refine itLA j (I.hmo.list (S.get (by walk_at "mem"))) (by rw [hsp]; omega) (by rw [List.getElem?_map, hea]; rfl) (by simp; omega) ?_
      walk_at "go"
      refine setL (j := 2) S (List.mem_cons_of_mem _ (List.mem_cons_of_mem _ (List.mem_cons_of_mem _ (List.mem_of_getElem? hea)))) hle rfl (by simp) (Nat.le_of_ble_eq_true rfl) fun h' eo' u hle' => ?_
      replace S := u _ (.tail (.tail (.tail (UpdL.set hea))))
      walk_at "go"
      refine post _ _ _ bo₄ so₄ mo (ems.set j (ea, eo')) md mi xs₄ S.toRet S.own ?_
      rw [hdv]
      refine ⟨I₄.inst, I.sm, BD₄, D₄, BE₄, ?_, ?_, I.ok.set he, I.fig.set he⟩
      · rw [refs_set hea]; exact I.hmo
      · exact I₄.hem.set j ⟨sv, elv, _, hle', hsv, hlb⟩
  · rw [if_neg (by simp; omega)]
    walk_at "go"
    by_cases hk5 : n % 8 < 5
    · rw [if_pos (decide_eq_true (by omega))]
      walk_at "go"
      have Ii := I.inst
      refine tryIn (cls := "KeyError") (b := b) ar₀ (isSubtype_of_subB (by decide +kernel)) (isSubtype_of_subB (by decide +kernel)) (isSubtype_of_subB (by decide +kernel)) ?_ ?_
      · intro A₁ E₁ s₁ Q₁ m₁ R₁ M₁ S hq
        walk_at "go1"
        exact hq
      walk_at "go"
      refine delItemK (f := 449) (od := some (dictOf (bes w sd md mi b1 b2 b3 b4 b5) bn)) (I := ⟨S.fr _ _ I.inst, rfl, rfl, S.get (by walk_at "mem")⟩) S.fr0 G.kin (by k_is) (by k_is) (by k_is) ?_
      rcases spot_cases ents (lowL (drawnv (n / 8) ents)) 0 with ⟨hsp, hno⟩ | ⟨j, e, he, hek, hsp⟩
      · have hdv : deedv n ents mark = ents := by
          unfold deedv; simp only [hk3, hk5, if_true, if_false, hsp]; rfl
        have hp : atKey xs (lowL (drawnv (n / 8) ents)) = none := by
          rcases BE.find (k := lowL (drawnv (n / 8) ents)) I.hbe with ⟨q, _⟩ | ⟨p, mk, labs, _, q, _⟩
          · exact q
          · rw [bget_none.mpr hno] at q; cases q
        refine del_no S.call0 G rfl (ar.le (by decide)) ⟨I.inst, I.sm, BE.keys I.hbe, I.few⟩ (S.kpM (by walk_at "mem") (fun h => nomatch h)) I.hbo (S.kpM (by walk_at "mem") (fun h => nomatch h)) I.hso hN hg hp fun R₆ h₆ tk₆ ee outer e0 r₆ hf => ?_
        refine ⟨ee, _, _, _, _, R₆, rfl, S, r₆, ⟨outer, e0, hf⟩, fun h' E'' S => ?_⟩
        walk_at "go"
        rw [if_neg (by rw [hsp]; simp)]
        walk_at "go"
        refine eqRD (d := .bool false) S (RD.bool _) (by rw [hsp]; exact RD.bool _) (boolD_ok _) ?_ ?_
        · have := ar.units; omega
        refine post _ _ _ _ so mo ems md mi xs S.toRet S.own ?_
        rw [hdv]
        exact I.mono r₆.sub
      · have hne : bd ≠ sd := by
          have := S.nd
          simp only [List.map_cons, List.nodup_cons, List.mem_cons, not_or] at this
          exact this.1.1
        have hdv : deedv n ents mark = ents.eraseIdx j := by
          unfold deedv; simp only [hk3, hk5, if_true, if_false, hsp]; rw [if_neg (by omega)]; simp
        obtain ⟨x, hx, hxe, _⟩ := I.hbe.get' (i := j) (b := (e.1, e.2.2)) (by unfold keysOf; rw [List.getElem?_map, he]; rfl)
        obtain ⟨x1, xp⟩ := x
        have hxe : x1 = e.1 := hxe
        have hel : (drawnv (n / 8) ents).length = e.1.length := by rw [← low_len, hek]
        obtain ⟨md', hmd', hfig⟩ := I.fig.erase he
        refine del_spec (S.call [bd, sd] (by simp)) G rfl (ar.le (by decide)) I.inst hne (S.get (by walk_at "mem")) (.head _) I.hbo (S.get (by walk_at "mem")) (.tail _ (.head _)) I.hso I.sm I.hbe I.few hN hg (p := xp) (by rw [hx, hxe, hek]) fun R₄ h₄ tk₄ bo₄ so₄ r hb₄ hs₄ D₄ BE₄ BD₄ => ?_
        replace S : St b L _ R₄ ((bd, bo₄) :: (sd, so₄) :: (ml, mo) :: ems) h₄ := S.retW (MW := [(bd, _), (sd, so)]) (MW' := [(bd, bo₄), (sd, so₄)]) (Mr := (ml, mo) :: ems) rfl r rfl (fun p hp => by
          rcases List.mem_cons.mp hp with rfl | hp
          · exact hb₄
          · rw [List.mem_singleton.mp hp]; exact hs₄)
        rw [keys_erase] at BE₄ BD₄
        rw [hel, hmd'] at BD₄
        have I₄ := I.mono r.sub
        have hl2 := I.hem.length
        have hfew := I.ok.few
        obtain ⟨⟨ea, eo⟩, hea, _⟩ := I₄.hem.get' he
        walk_at "go"
        rw [if_pos (by rw [hsp]; exact decide_eq_true (by omega))]
        walk_at "go"
        refine methList I.hmo (S.get (by walk_at "mem")) PySem.F.slot_list_pop PySem.F.type_list_pop ?_
        walk_at "go"
        refine popM (j := j) S (by walk_at "mem") I.hmo (by rw [hsp]; omega) (by rw [List.getElem?_map, hea]; rfl) (by simp; omega) fun h' mo' u lmo => ?_
        replace S := u _ (by walk_at "upd")
        walk_at "go"
        refine eqRD (d := .bool true) S (RD.bool _) (by rw [hsp]; rw [show decide ((0 : Int) ≤ 0 + (j : Int)) = true from decide_eq_true (by omega)]; exact RD.bool _) (boolD_ok _) ?_ ?_
        · have := ar.units; omega
        replace S : St b L _ R₄ ((bd, bo₄) :: (sd, so₄) :: (ml, mo') :: ems.eraseIdx j) h' := S.sublist (((List.eraseIdx_sublist ems j).cons_cons _).cons_cons _ |>.cons_cons _)
        refine post _ _ _ bo₄ so₄ mo' (ems.eraseIdx j) md' _ (xs.eraseIdx j) S.toRet S.own (by
          rw [hdv]
          exact ⟨I₄.inst, I.sm, BD₄, D₄, BE₄, by rw [map_erase]; exact lmo, I₄.hem.erase j, I.ok.erase j, hfig⟩)
    · rw [if_neg (by simp; omega)]
      walk_at "go"
      have hdv : deedv n ents mark = ents := by unfold deedv; simp only [hk3, hk5, if_false]
      rw [hdv] at post
      by_cases hk6 : n % 8 = 5
      · rw [if_pos (by rw [hk6]; rfl)]
        walk_at "go"
        refine ⟨_, _, _, _, _, S, by rw [sizeLine_eq]; exact Nat.le_of_ble_eq_true rfl, fun kt h' okt hkt S hkto => ?_⟩
        walk_at "go"
        refine ⟨_, _, _, _, _, S, by rw [sizeLine_eq]; exact Nat.le_of_ble_eq_true rfl, fun kl h' okl hkl S hklo => ?_⟩
        walk_at "go"
        refine tryIn (cls := "ValueError") (b := b) ar₀ (isSubtype_of_subB (by decide +kernel)) (isSubtype_of_subB (by decide +kernel)) (isSubtype_of_subB (by decide +kernel)) ?_ ?_
        · intro A₁ E₁ s₁ Q₁ m₁ R₁ M₁ S hq
          walk_at "go1"
          exact hq
        walk_at "go"
        obtain ⟨vs4, hvs4, hz4, v4, hv4, hn4⟩ : ∃ vs, LO okl vs ∧ vs.length ≤ 16777216 ∧ ∃ v, vs[n / 8 % 4]? = some v ∧ NotName (R₃.ins kt okt) v :=
          ⟨_, hklo, Nat.le_of_ble_eq_true rfl, four (by omega) (.inl ⟨_, _, rfl⟩) (.inr (.inl ⟨_, _, rfl⟩)) (.inr (.inr (.inl rfl))) (.inr (.inr (.inr ⟨_, _, _, rfl, .inr ⟨rfl, rfl⟩, hkto⟩)))⟩
        refine itLA (n / 8 % 4) (hvs4.list (S.get (by walk_at "mem"))) rfl hv4 hz4 ?_
        refine ksp_setItem (f := 442) (od := some (dictOf (bes w sd md mi b1 b2 b3 b4 b5) bn)) (I := ⟨S.fr _ _ (.inl I.inst), rfl, rfl, S.get (by walk_at "mem")⟩) S.fr0 G.kin (by k_is) (by k_is) (by k_is) ?_
        refine set_no S.call0 G rfl (ar.le (by decide)) hn4 fun R₆ h₆ tk₆ ee outer e0 r₆ hf => ?_
        refine ⟨ee, _, _, _, _, R₆, rfl, S, r₆, ⟨outer, e0, hf⟩, fun h' E'' S => ?_⟩
        walk_at "go"
        exact post _ _ _ _ so mo ems md mi xs S.toRet S.tail.own (I.mono fun _ _ r => r₆.sub _ _ (.inl r))
      · rw [if_neg (show ¬ (((n % 8 : Nat) : Int) == 5) = true from natNe hk6)]
        walk_at "go"
        have hgot : ∀ {R' : Rel} {m h}, (∀ a o, R₃ a o → R' a o) → St b L m R' ((bd, dictOf (bes w sd md mi b1 b2 b3 b4 b5) bn) :: (sd, so) :: (ml, mo) :: ems) h → Bk w (b.at L R' h []) bk bd sd xs := fun hs S => ⟨hs _ _ I.inst, I.sm, BE.keys (I.hbe.imp fun _ _ => BE.mono hs), I.few⟩
        rcases spot_cases ents (lowL (drawnv (n / 8) ents)) 0 with ⟨hsp, hno⟩ | ⟨j, e, he, hek, hsp⟩
        · rw [if_pos (by rw [hsp]; rfl)]
          walk_at "go"
          refine ⟨S.kin G, got_spec S.call0 G rfl (ar.le (by decide)) (hgot (fun _ _ r => r) S) (S.kpM (by walk_at "mem") (fun h => nomatch h)) I.hbo (S.kpM (by walk_at "mem") (fun h => nomatch h)) I.hso I.hbe hN hg fun rv R₆ h' tk' r hrd => ?_⟩
          rw [bget_none.mpr hno] at hrd
          replace S := S.ret r
          walk_at "go"
          refine ⟨_, _, _, _, _, S, by rw [sizeLine_eq]; exact Nat.le_of_ble_eq_true rfl, fun t h' ot hnt S hot => ?_⟩
          walk_at "go"
          refine eqRD (d := gotD none) S (hrd.mono fun _ _ r => .inl r) (RD.tup2 (.inr ⟨rfl, rfl⟩) hot (RD.str _ _) (RD.int _ _)) (gotD_ok _) ?_ ?_
          · have := ar.units; omega
          exact post _ _ _ _ so mo ems md mi xs S.toRet S.own (I.mono fun _ _ z => .inl (r.sub _ _ z))
        · rw [if_neg (by rw [hsp]; simp)]
          walk_at "go"
          refine ⟨S.kin G, got_spec S.call0 G rfl (ar.le (by decide)) (hgot (fun _ _ r => r) S) (S.kpM (by walk_at "mem") (fun h => nomatch h)) I.hbo (S.kpM (by walk_at "mem") (fun h => nomatch h)) I.hso I.hbe hN hg fun rv R₆ h' tk' r hrd => ?_⟩
          rw [← hek, bget_some I.nodup (List.mem_of_getElem? he)] at hrd
          replace S := S.ret r
          have I₄ := I.mono r.sub
          have hl2 := I.hem.length
          have hfew := I.ok.few
          obtain ⟨⟨ea, eo⟩, hea, sv, elv, etm, hle, hsv, hlb⟩ := I₄.hem.get' he
          walk_at "go"
          refine itLA j (I.hmo.list (S.get (by walk_at "mem"))) (by rw [hsp]; omega) (by rw [List.getElem?_map, hea]; rfl) (by simp; omega) ?_
          walk_at "go"
          refine itLA 2 (hle.list (S.get (List.mem_cons_of_mem _ (List.mem_cons_of_mem _ (List.mem_cons_of_mem _ (List.mem_of_getElem? hea)))))) rfl rfl (Nat.le_of_ble_eq_true rfl) ?_
          walk_at "go"
          refine ⟨_, _, _, _, _, S, by rw [sizeLine_eq]; exact Nat.le_of_ble_eq_true rfl, fun t h' ot hnt S hot => ?_⟩
          walk_at "go"
          refine eqRD (d := gotD (some e.2.2)) S (hrd.mono fun _ _ r => .inl r) (RD.tup2 (.inr ⟨rfl, rfl⟩) hot (RD.str _ _) (RD.int _ _)) (gotD_ok _) ?_ ?_
          · have := ar.units; omega
          exact post _ _ _ _ so mo ems md mi xs S.toRet S.own (I₄.mono fun _ _ z => .inl z)
end
end

/-! P4 -/
section
open PySem PySem.W PyProof.Rows PySem.Calls
theorem u8_all {P : UInt8 → Prop} (h : ∀ n : Fin 256, P (UInt8.ofNat n.val)) (c : UInt8) : P c := by
  have := h ⟨c.toNat, c.toNat_lt⟩
  rwa [UInt8.ofNat_toNat] at this
theorem lowB_low (c : UInt8) : lowB (lowB c) = lowB c := u8_all (P := fun c => lowB (lowB c) = lowB c) (by decide +kernel) c
theorem lowB_turn (c : UInt8) : lowB (turnB c) = lowB c := u8_all (P := fun c => lowB (turnB c) = lowB c) (by decide +kernel) c
theorem lowL_map {f : UInt8 → UInt8} (h : ∀ c, lowB (f c) = lowB c) (ls : Lab) : lowL (ls.map (·.map f)) = lowL ls := by
  unfold lowL
  rw [List.map_map]
  refine List.map_congr_left fun l _ => ?_
  show (l.map f).map lowB = l.map lowB
  rw [List.map_map]
  exact List.map_congr_left fun c _ => h c
theorem lowL_low (ls : Lab) : lowL (lowL ls) = lowL ls := lowL_map lowB_low ls
theorem lowL_turn (ls : Lab) : lowL (ls.map (·.map turnB)) = lowL ls := lowL_map lowB_turn ls
theorem Good.low {ls : Lab} (h : Good ls) : Good (lowL ls) := h.turn lowB
theorem Fig.tops {ents : List Mo} {md : Nat} {mi : Int} (f : Fig ents md mi) : ∀ e ∈ ents, e.1.length ≤ md := fun e he => by
  have := f.top (e.1.length : Int) (List.mem_cons_of_mem _ (List.mem_map.mpr ⟨e, he, rfl⟩))
  omega
section
variable {b : Bs} {L : Addr} {m : Str → Option Value} {R : Rel} {M : List (Addr × Obj)} {h : Heap}
theorem St.kpR {a : Addr} {o : Obj} (S : St b L m R M h) (r : R a o) : Kp (b.at L R h []) a o := ⟨S.fr a o r, (fun h => nomatch h), fun q => (List.mem_cons.mp q).elim (S.offL a o r) (S.offF a o r)⟩
end
end

/-! L8 -/
section
open PySem PySem.W PyProof.Rows PySem.Calls
/-- what the law's call finds -/
abbrev b0 (H : Heap) : Bs := ⟨H, H, fun a o => H.get? a = some o, [], []⟩
theorem b0_ok (H : Heap) : Bok (b0 H) := ⟨fun _ _ e => e, fun _ _ e => e, (fun _ _ _ h => nomatch h), (fun _ h => nomatch h), (fun _ h => nomatch h), Nat.le_refl _⟩
theorem b0_st {H h₁ : Heap} {m : Str → Option Value} (F : Fr H H.objs.size h₁ m) : St (b0 H) H.objs.size m (b0 H).R₀ [] h₁ :=
  { keep := fun c o e _ _ => F.keep c o e, slot := (fun _ _ _ h => nomatch h), al := fun c o e => ⟨o, F.keep c o e⟩, sub := fun _ _ r => r, new := fun _ _ r => .inl r, fr := fun c o r => F.keep c o r, ok := b0_ok H, ns := F.ns,
    Lnew := gnone_of_le (Nat.le_refl _), offL := fun a o r => Nat.ne_of_lt (Heap.lt_size r), mu := (fun _ h => nomatch h), mo := (fun _ h => nomatch h), nd := List.nodup_nil, lo := Nat.le_refl _ }
theorem b0_ar {L : Addr} {cn : Str} {scope : Scope} {f : Addr} {cd : Value} (hk : scope.kind = .function) : Ar 12 (callerA.deeper (envOf cn scope L f cd)) [L] :=
  Ar.deeper (A := callerA) (fs := []) ⟨by decide +kernel, by decide +kernel, rfl, [], rfl, rfl, (fun _ h => nomatch h)⟩ hk
theorem with_ar {α : Type} {P : Model} {L : Addr} {cn : Str} {scope : Scope} {f : Addr} {cd : Value} {t : Sem α} {Q : α → Shared → Prop} {E : Value → Shared → Prop} {s : Shared} (hk : scope.kind = .function)
    (h : Ar 12 (callerA.deeper (envOf cn scope L f cd)) [L] → wpAny P (callerA.deeper (envOf cn scope L f cd)) t Q E s) : wpAny P (callerA.deeper (envOf cn scope L f cd)) t Q E s := h (b0_ar hk)
theorem deedv_len (n : Nat) (ents : List Mo) (mark : Int) : (deedv n ents mark).length ≤ ents.length + 1 := by
  unfold deedv
  simp only
  split
  · split
    · simp
    · split <;> simp
  · split
    · split
      · omega
      · have := List.length_eraseIdx_le ents (spotv ents (lowL (drawnv (n / 8) ents)) 0).toNat; omega
    · omega
theorem Ar.u64 {n : Nat} {A : Around} {fs : List Addr} (a : Ar n A fs) : A.units + 64 < cLine := by have := a.units; omega
theorem has_spot {w : World} {R : Rel} {bk bd sd : Addr} {bo so mo : Obj} {ems : List (Addr × Obj)} {ents : List Mo} {md : Nat} {mi : Int} {xs : Sto} (I : Inv w R bk bd sd bo so mo ems ents md mi xs) (k : Lab) : (atKey xs k).isSome = decide (0 ≤ spotv ents k 0) := by
  rcases spot_cases ents k 0 with ⟨hs, hn⟩ | ⟨j, e, he, hek, hs⟩
  · rw [hs]
    rcases BE.find (k := k) I.hbe with ⟨q, _⟩ | ⟨p, mk, labs, _, q, _⟩
    · rw [q]; rfl
    · rw [bget_none.mpr hn] at q; cases q
  · rw [hs]
    rcases BE.find (k := k) I.hbe with ⟨_, q⟩ | ⟨p, mk, labs, q, _⟩
    · exact absurd hek (bget_none.mp q e (List.mem_of_getElem? he))
    · rw [q]; exact (decide_eq_true (by omega)).symm
theorem atv_nat (ns : List Int) (p : Nat) : ∃ n : Nat, atv ns p = n := by
  have : 0 ≤ atv ns p := by
    unfold atv
    split
    · exact Int.fmod_nonneg_of_pos _ (by decide)
    · rcases Nat.lt_or_ge p 6 with h | h
      · have key : ∀ q : Fin 6, 0 ≤ LAWROW.getD q.val 0 := by decide +kernel
        exact key ⟨p, h⟩
      · rw [List.getD_eq_getElem?_getD, List.getElem?_eq_none (by exact h)]; exact Int.le_refl _
  exact ⟨(atv ns p).toNat, by omega⟩
set_option maxHeartbeats 8000000 in
theorem law_holds : PySem.Challenge.rw_ji0018_01.Holds := by
  w_on
  refine holds_law well fun said => ?_
  refine PySem.W.holds_open (q := vw) (loose := lo) (Xt := fun s => xlAt vw [] s && recOk (RowW.records PySem.Challenge.rw_ji0018_01.row.toRowW) s) (XP := XL vw []) (Yf := Hook.obs hook) (Ya := Hook.val hook) (YP := Hook.says hook) (N := 6000) ?hl (Hook.of hook) (Hook.keeps hook)
    (fun s e => xl_of s (Bool.and_eq_true_iff.mp e).1) XL.keeps (by rfl) (by rfl) (by rfl) (fun s e => recFacts_of (Bool.and_eq_true_iff.mp e).2) (by rfl) (by first | assumption | decide +kernel) (by decide +kernel) ⟨rfl, rfl, rfl, rfl, rfl, by decide +kernel⟩ ?hw ?hc
  case hl => exact left
  case hw => w_witness2
  k_go0
  all_goals try k_fold
  rename World => w
  rename List Int => ns
  rename Shared => s1
  rename (Fr _ _ _ _) => F
  rename (Frag.In _ _) => KX
  rename (Glob _ _ _ _ _ _ _ _) => GL
  rename (IntsAre _ _) => hI
  rename (Heap.IsList _ _ _) => hL
  rename (¬ ((63 : Int) < _)) => hcond
  have G : Glb _ (b0 _).H0 := ⟨KX, GL.nolimit, ⟨_, GL.g⟩, ⟨_, GL.b, GL.builtins⟩⟩
  have S := b0_st F
  rw [show ∀ p : Str × Value, [p].reverse = [p] from fun _ => rfl, lookup_bnd] at S
  refine with_ar ?hkk fun ar => ?_
  case hkk => exact rfl
  have hh := ar.hnd
  obtain ⟨so0, hso0, hlw1, hlw2⟩ := hL
  have hLW : LW so0 _ := ⟨hlw1, hlw2⟩
  walk_at "go"
  refine ⟨S.kin G, newBook S G (ar.le (by decide)) fun bk bd sd bo so R₁ h₁ tk₁ hbd0 hsd0 hsm S hR₁ hbo hso => ?_⟩
  walk_at "go"
  refine ⟨S.kin G, newBook S G (ar.le (by decide)) fun bk2 bd2 sd2 bo2 so2 R₂ h₂ tk₂ hbd20 hsd20 hsm2 S hR₂ hbo2 hso2 => ?_⟩
  replace S := (S.freeze hbd20).freeze hsd20
  walk_at "go"
  refine ⟨_, _, _, _, _, S, by rw [sizeLine_eq]; decide, fun ml h' mo hml S lmo => ?_⟩
  walk_at "go"
  replace S : St _ _ _ _ [(bd, bo), (sd, so), (ml, mo)] _ := S.permute (List.perm_append_singleton _ _).symm
  have hIl := hI.length
  refine lenL (hLW.list (S.fr _ _ (S.sub _ _ hso0))) (by omega) fun t k => ?_
  walk_at "go"
  refine max2 hh S fun h' tk t S => ?_
  walk_at "go"
  refine min2 hh S fun h' tk t S => ?_
  walk_at "go"
  subst hR₁ hR₂
  refine iterR hh S ra (by omega) (fun m₀ R₀ M₀ i m' R' M' => ∃ bo' so' mo' ems' ents md mi xs, M' = (bd, bo') :: (sd, so') :: (ml, mo') :: ems' ∧ Inv w R' bk bd sd bo' so' mo' ems' ents md mi xs ∧ ents.length ≤ i ∧ (∀ a o, R₀ a o → R' a o) ∧ Same [Str.ofString "mark", Str.ofString "number", Str.ofString "labels", Str.ofString "name"] m₀ m') ?_ ?_ ?_ ?_ ?_
  · exact ⟨bo, so, mo, [], [], 0, 0, [], rfl, ⟨.inl (.inl (.inl (.inr ⟨rfl, rfl⟩))), hsm, hbo, hso, .nil, lmo, .nil, ⟨by decide, (fun _ h => nomatch h), (fun _ h => nomatch h)⟩, ⟨by decide, by decide, rfl⟩⟩, Nat.zero_le _, fun _ _ r => r, Same.refl⟩
  · rintro I₁ i t' m₁ R₃ M₁ h₂ tk₂ io₁ E₂ hi ⟨bo', so', mo', ems', ents, md, mi, xs, rfl, I, hlen, hsub, hsm₁⟩ hio S
    rw [Int.zero_add] at S
    walk_at "go"
    obtain ⟨n, hn⟩ := atv_nat ns i
    refine ⟨S.kin G, at_spec S.call0 G rfl (ar.le (by decide)) ⟨so0, S.sub _ _ hso0, hLW⟩ hI (by omega) (p := i) ?hp fun R₄ h' tk' t r => ?_⟩
    case hp => omega
    replace S := S.ret r
    replace I := I.mono r.sub
    have hsub4 : ∀ a o, _ → R₄ a o := fun a o z => r.sub a o (hsub a o z)
    rw [hn]
    walk_at "go"
    have hnd := S.tail.nd
    have S1 : St _ _ _ _ (((bd, bo') :: (sd, so') :: (ml, mo') :: ems') ++ [(I₁, io₁)]) _ := S.permute (List.perm_append_singleton _ _).symm
    refine ⟨S.kin G, deed_spec (S1.call (((bd, bo') :: (sd, so') :: (ml, mo') :: ems').map (·.1)) ?hW) G rfl (ar.le (by decide)) I (fun p hp => ⟨S.mu p (.tail _ hp), List.mem_map_of_mem hp⟩) hnd (by omega) fun R₅ h₅ tk₅ bo₅ so₅ mo₅ ems₅ md₅ mi₅ xs₅ r₅ own₅ I₅ => ?_⟩
    case hW => intro a ha; rw [List.map_append]; exact List.mem_append_left _ ha
    have S2 := S1.retO r₅ rfl own₅
    replace S : St _ _ _ _ ((I₁, io₁) :: (bd, bo₅) :: (sd, so₅) :: (ml, mo₅) :: ems₅) _ := S2.permute (List.perm_append_singleton _ _)
    walk_at "go"
    refine ⟨S.kin G, state_spec S.call0 G rfl (ar.le (by decide)) ⟨I₅.inst, I₅.sm, BE.keys I₅.hbe, I₅.few⟩ (S.kpM (by walk_at "mem") (fun h => nomatch h)) I₅.hbo (S.kpM (by walk_at "mem") (fun h => nomatch h)) I₅.hso (I₅.model fun p hp => S.kpM (.tail _ (.tail _ (.tail _ hp))) (fun h => nomatch h)) I₅.ok (by simpa [keysOf] using I₅.hbe.length) I₅.fig fun R₆ h₆ tk₆ r₆ => ?_⟩
    replace S := S.ret r₆
    replace I₅ := I₅.mono r₆.sub
    walk_at "go"
    rw [← Int.natCast_add]
    have kp : ∀ {R : Rel} {m h}, St (b0 s1.heap) s1.heap.objs.size m R ((I₁, io₁) :: (bd, bo₅) :: (sd, so₅) :: (ml, mo₅) :: ems₅) h → ∀ p ∈ (ml, mo₅) :: ems₅, Kp ((b0 s1.heap).at s1.heap.objs.size R h []) p.1 p.2 := fun S p hp => S.kpM (.tail _ (.tail _ (.tail _ hp))) (fun h => nomatch h)
    refine ⟨S.kin G, drawn_spec S.call0 G rfl (ar.le (by decide)) (I₅.model (kp S)) I₅.ok fun lv R₇ h₇ tk₇ r₇ hlv => ?_⟩
    have hg := drawn_good I₅.ok (n / 1000000 + n % 1000000 / 8)
    replace S := S.ret r₇
    replace I₅ := I₅.mono r₇.sub
    walk_at "go"
    refine ⟨S.kin G, name_spec S.call0 G rfl (ar.le (by decide)) hlv hg fun xv R₈ h₈ tk₈ r₈ hN => ?_⟩
    replace S := S.ret r₈
    replace I₅ := I₅.mono r₈.sub
    replace hlv := hlv.mono r₈.sub
    obtain ⟨xa, hxa⟩ : ∃ xa, xv = .ref xa := by obtain ⟨xa, _, _, _, _, e, _⟩ := id hN; exact ⟨xa, e⟩
    subst hxa
    obtain ⟨bn, b1, b2, b3, b4, b5, rfl⟩ := id I₅.hbo
    walk_at "go"
    refine getMeth S G (S.fr _ _ I₅.inst) (S.get (by walk_at "mem")) (by k_is) (by k_is) (by k_is) rfl ?_
    walk_at "go"
    refine ⟨S.kin G, has_spec S.call0 G rfl (ar.le (by decide)) ⟨I₅.inst, I₅.sm, BE.keys I₅.hbe, I₅.few⟩ (S.kpM (by walk_at "mem") (fun h => nomatch h)) I₅.hbo (S.kpM (by walk_at "mem") (fun h => nomatch h)) I₅.hso hN hg fun R₉ h₉ tk₉ r₉ => ?_⟩
    replace S := S.ret r₉
    replace I₅ := I₅.mono r₉.sub
    replace hlv := hlv.mono r₉.sub
    replace hN := hN.mono r₉.sub
    walk_at "go"
    refine ⟨S.kin G, spot_spec S.call0 G rfl (ar.le (by decide)) (I₅.model (kp S)) I₅.ok hlv hg fun R₁₀ h₁₀ tk₁₀ ts r₁₀ => ?_⟩
    replace S := S.ret r₁₀
    replace I₅ := I₅.mono r₁₀.sub
    replace hlv := hlv.mono r₁₀.sub
    replace hN := hN.mono r₁₀.sub
    walk_at "go"
    rw [has_spot I₅]
    refine neRD (d := .bool _) S (RD.bool _) (RD.bool _) (boolD_ok _) ar.u64 ?_
    walk_at "go"
    refine ⟨S.kin G, match_spec S.call0 G rfl (ar.le (by decide)) ⟨I₅.inst, I₅.sm, BE.keys I₅.hbe, I₅.few⟩ (S.kpM (by walk_at "mem") (fun h => nomatch h)) I₅.hbo (S.kpM (by walk_at "mem") (fun h => nomatch h)) I₅.hso I₅.hbe hN hg fun rv R₁₁ h₁₁ tk₁₁ r₁₁ hrd => ?_⟩
    replace S := S.ret r₁₁
    replace I₅ := I₅.mono r₁₁.sub
    replace hlv := hlv.mono r₁₁.sub
    walk_at "go"
    refine ⟨S.kin G, deepest_spec S.call0 G rfl (ar.le (by decide)) (I₅.model (kp S)) I₅.ok hlv hg fun rv2 R₁₂ h₁₂ tk₁₂ r₁₂ hrd2 => ?_⟩
    replace S := S.ret r₁₂
    replace I₅ := I₅.mono r₁₂.sub
    walk_at "go"
    rw [deep_law I₅.nodup I₅.fig.tops] at hrd
    refine neRD (d := matD _) S (hrd.mono r₁₂.sub) hrd2 (matD_ok _) ar.u64 ?_
    walk_at "go"
    refine ⟨_, _, _, _, _, _, rfl, hio, S, _, _, _, _, _, _, _, _, rfl, I₅, ?el, ?es, ?em⟩
    case el => refine Nat.le_trans (deedv_len _ _ _) (by omega)
    case es => exact fun a o z => r₁₂.sub _ _ (r₁₁.sub _ _ (r₁₀.sub _ _ (r₉.sub _ _ (r₈.sub _ _ (r₇.sub _ _ (r₆.sub _ _ (r₅.sub _ _ (hsub4 _ _ z))))))))
    case em => walk_at "same"
  · rintro m' R' M' h' tk ⟨bo', so', mo', ems', ents, md, mi, xs, rfl, I, hlen, hsub, hsm₁⟩ S
    walk_at "go"
    refine iterL (l := ml) (vs := ems'.map fun p => .ref p.1) hh S (fun m₀ R₀ M₀ i m' R' M' => M' = M₀ ∧ (∀ a o, R₀ a o → R' a o) ∧ Same [Str.ofString "entry"] m₀ m') ?_ ?_ ?_ ?_ ?_ ?_
    · exact ⟨rfl, fun _ _ r => r, Same.refl⟩
    · rintro i m' R' M' h' ⟨rfl, _, _⟩ S'
      exact I.hmo.list (S'.get (by walk_at "mem"))
    · rintro I₁ i v m₁ R₁ M₁ h₂ tk₂ io₁ E₂ hv ⟨rfl, hs₂, hsm₂⟩ hio S
      rw [List.getElem?_map] at hv
      obtain ⟨⟨ea, eo⟩, hea, rfl⟩ := Option.map_eq_some_iff.mp hv
      replace I := I.mono hs₂
      obtain ⟨e, he, sv, elv, etm, hle, hsv, hlb⟩ := I.hem.get hea
      have hmem := List.mem_of_getElem? hea
      have hem := List.mem_of_getElem? he
      have hge := I.ok.good e hem
      have hlow := I.ok.low e hem
      obtain ⟨bn, b1, b2, b3, b4, b5, rfl⟩ := id I.hbo
      walk_at "go"
      refine itLA 0 (hle.list (S.get (by walk_at "mem"))) rfl rfl (Nat.le_of_ble_eq_true rfl) ?_
      walk_at "go"
      refine ⟨S.kin G, name_spec S.call0 G rfl (ar.le (by decide)) hsv (hlow ▸ hge.low) fun xv R₂ h' tk' r₂ hN => ?_⟩
      replace S := S.ret r₂
      replace I := I.mono r₂.sub
      replace hlb := hlb.mono r₂.sub
      obtain ⟨xa, hxa⟩ : ∃ xa, xv = .ref xa := by obtain ⟨xa, _, _, _, _, e, _⟩ := id hN; exact ⟨xa, e⟩
      subst hxa
      walk_at "go"
      refine ⟨S.kin G, got_spec S.call0 G rfl (ar.le (by decide)) ⟨I.inst, I.sm, BE.keys I.hbe, I.few⟩ (S.kpM (by walk_at "mem") (fun h => nomatch h)) I.hbo (S.kpM (by walk_at "mem") (fun h => nomatch h)) I.hso I.hbe hN (hlow ▸ hge.low) fun rv R₃ h' tk' r₃ hrd => ?_⟩
      rw [show lowL e.1 = e.1 by rw [hlow, lowL_low], bget_some I.nodup hem] at hrd
      replace S := S.ret r₃
      replace I := I.mono r₃.sub
      replace hlb := hlb.mono r₃.sub
      walk_at "go"
      refine itLA 2 (hle.list (S.get (by walk_at "mem"))) rfl rfl (Nat.le_of_ble_eq_true rfl) ?_
      walk_at "go"
      refine ⟨_, _, _, _, _, S, by rw [sizeLine_eq]; exact Nat.le_of_ble_eq_true rfl, fun t h' ot hnt S hot => ?_⟩
      walk_at "go"
      refine neRD (d := gotD (some e.2.2)) S (hrd.mono fun _ _ r => .inl r) (RD.tup2 (.inr ⟨rfl, rfl⟩) hot (RD.str _ _) (RD.int _ _)) (gotD_ok _) ar.u64 ?_
      replace I := I.mono (R' := R₃.ins t ot) fun _ _ r => .inl r
      replace hlb := hlb.mono (R' := R₃.ins t ot) fun _ _ r => .inl r
      have hs₃ : ∀ a o, R₁ a o → (R₃.ins t ot) a o := fun _ _ z => .inl (r₃.sub _ _ (r₂.sub _ _ z))
      generalize R₃.ins t ot = R₄ at S I hlb hs₃
      walk_at "go"
      refine itLA 1 (hle.list (S.get (by walk_at "mem"))) rfl rfl (Nat.le_of_ble_eq_true rfl) ?_
      walk_at "go"
      refine ⟨S.kin G, turned_spec S.call0 G rfl (ar.le (by decide)) hlb (by have := hge.few; omega) (fun l hl => by have := hge.short l hl; omega) fun tv R₅ h' tk' r₅ htv => ?_⟩
      replace S := S.ret r₅
      replace I := I.mono r₅.sub
      walk_at "go"
      refine ⟨S.kin G, name_spec S.call0 G rfl (ar.le (by decide)) htv (hge.turn _) fun xv R₆ h' tk' r₆ hN => ?_⟩
      replace S := S.ret r₆
      replace I := I.mono r₆.sub
      obtain ⟨xa2, hxa⟩ : ∃ xa, xv = .ref xa := by obtain ⟨xa, _, _, _, _, e, _⟩ := id hN; exact ⟨xa, e⟩
      subst hxa
      walk_at "go"
      refine ⟨S.kin G, got_spec S.call0 G rfl (ar.le (by decide)) ⟨I.inst, I.sm, BE.keys I.hbe, I.few⟩ (S.kpM (by walk_at "mem") (fun h => nomatch h)) I.hbo (S.kpM (by walk_at "mem") (fun h => nomatch h)) I.hso I.hbe hN (hge.turn _) fun rv R₇ h' tk' r₇ hrd => ?_⟩
      rw [lowL_turn, ← hlow, bget_some I.nodup hem] at hrd
      replace S := S.ret r₇
      walk_at "go"
      refine itLA 2 (hle.list (S.get (by walk_at "mem"))) rfl rfl (Nat.le_of_ble_eq_true rfl) ?_
      walk_at "go"
      refine ⟨_, _, _, _, _, S, by rw [sizeLine_eq]; exact Nat.le_of_ble_eq_true rfl, fun t h' ot hnt S hot => ?_⟩
      walk_at "go"
      refine neRD (d := gotD (some e.2.2)) S (hrd.mono fun _ _ r => .inl r) (RD.tup2 (.inr ⟨rfl, rfl⟩) hot (RD.str _ _) (RD.int _ _)) (gotD_ok _) ar.u64 ?_
      walk_at "go"
      refine ⟨_, _, _, _, _, _, rfl, hio, S, rfl, ?es, ?em⟩
      case es => exact fun a o z => .inl (r₇.sub _ _ (r₆.sub _ _ (r₅.sub _ _ (hs₃ _ _ (hs₂ _ _ z)))))
      case em => walk_at "same"
    · rintro m' R' M' h' tk ⟨rfl, hs₂, hsm₂⟩ S
      walk_at "go"
      refine ⟨_, _, _, _, _, S, by rw [sizeLine_eq]; decide, fun nl h' onl hnl S lnl => ?_⟩
      walk_at "go"
      have q1 : ∀ {a o}, _ → R' a o := fun {a o} z => hs₂ a o (hsub a o z)
      have qbd := q1 (.inl (.inr ⟨rfl, rfl⟩))
      have qsd := q1 (.inr ⟨rfl, rfl⟩)
      have qbk := q1 (.inl (.inl (.inr ⟨rfl, rfl⟩)))
      refine ⟨S.kin G, state_spec (ents := []) (xs := []) S.call0 G rfl (ar.le (by decide)) ⟨qbk, hsm2, (fun _ h => nomatch h), Nat.zero_le _⟩ (S.kpR qbd) hbo2 (S.kpR qsd) hso2 ⟨onl, [], S.kpM (by walk_at "mem") (fun h => nomatch h), lnl, .nil⟩ ⟨by decide, (fun _ h => nomatch h), (fun _ h => nomatch h)⟩ rfl ⟨by decide, by decide, rfl⟩ fun R₂ h' tk' r₂ => ?_⟩
      replace S := S.ret r₂
      walk_at "go"
      refine ⟨_, _, _, _, _, S, by rw [sizeLine_eq]; decide, fun nl2 h' onl2 hnl2 S lnl2 => ?_⟩
      walk_at "go"
      replace S := S.freeze hnl2
      have q2 : ∀ a o, R' a o → (R₂.ins nl2 onl2) a o := fun a o z => .inl (r₂.sub _ _ z)
      refine ⟨S.kin G, newName_spec (vs := []) (ls := []) S G (ar.le (by decide)) ⟨onl2, .inr ⟨rfl, rfl⟩, .inl lnl2⟩ .nil good_nil fun x R₃ h' tk' S hR₃ hN => ?_⟩
      walk_at "go"
      have q3 : ∀ a o, R' a o → R₃ a o := fun a o z => hR₃ _ _ (q2 _ _ z)
      refine ⟨S.kin G, match_spec (xs := []) (es := []) (md := 0) S.call0 G rfl (ar.le (by decide)) ⟨q3 _ _ qbk, hsm2, (fun _ h => nomatch h), Nat.zero_le _⟩ (S.kpR (q3 _ _ qbd)) hbo2 (S.kpR (q3 _ _ qsd)) hso2 .nil hN good_nil fun rv R₄ h' tk' r₄ hrd => ?_⟩
      replace S := S.ret r₄
      walk_at "go"
      refine ⟨_, _, _, _, _, S, by rw [sizeLine_eq]; decide, fun nl3 h' onl3 hnl3 S lnl3 => ?_⟩
      walk_at "go"
      replace S := S.freeze hnl3
      refine ⟨_, _, _, _, _, S, by rw [sizeLine_eq]; exact Nat.le_of_ble_eq_true rfl, fun t h' ot hnt S hot => ?_⟩
      walk_at "go"
      refine eqRD (d := matD none) S (hrd.mono fun _ _ z => .inl (.inl z)) (RD.tup3 (.inr ⟨rfl, rfl⟩) hot (RD.str _ _) (LL.rd ⟨nl3, onl3, [], rfl, .inl (.inr ⟨rfl, rfl⟩), lnl3, .nil⟩) (RD.int _ _)) (matD_ok _) ar.u64 ?_
      walk_at "go"
      refine goodW_bool S.fr0 (by assumption) (raisesW_false ?_) ?_
      · wrow_none_raised
      · wrow_post
    · rfl
    · rfl
  · rfl
  · rfl
end

end
end Mine

theorem PySem.Challenge.cw_ji0018_01_holds : PySem.Challenge.rw_ji0018_01.Holds :=
  Mine.law_holds
